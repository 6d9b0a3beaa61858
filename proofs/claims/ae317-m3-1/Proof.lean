import JvmDerived
import JvmDerived.Pilot.@@N@@Statement
import JvmDerived.Pilot.@@N@@Code
set_option linter.unusedVariables false
set_option linter.unusedSimpArgs false
@@BLOCK:NumsL.lean.txt@@
namespace Jvm.RoadKit
open Sem ClassFile Op Lib Jvm.Stand Jvm.Free Jvm.LawKit
section New
variable {p : Program} {l : Launch} {e : Env} {R : Room} {s : State} {m : MethodId} {args : Array Value} {below : List Frame} {meth : Method} {c : Code} {T : State} {locs : List Loc} {cells slots : Nat}
theorem retI (X : Stand p l e R s m args below meth c T locs cells slots) (hx : p.tables.exec = Jvm.exec) {pc : Nat} {Ls : Array Slot} {z : Int32} {rest : List Value} (hret : meth.sig.returnType = some .int) (hd : decode c.code pc = .ok (.ireturn, 1)) {fs : List Frame}
    (hl : ∀ (f : JFrame) (acts : List Action), f.method = m → f.locked = none → f.entered = [] → (doReturn e (T.setTop f) acts (some (.int z))).1 = T.setFrames fs) : Steps p.tables e below (T.setTop (mkF m pc Ls (.int z :: rest))) (T.setFrames fs) := by
  have hm' : T.vm.method? m = some meth := X.method'
  have hn : narrow .int (.int z) = .int z := rfl
  show Steps p.tables e below (T.setTop { method := m, pc := pc, locals := Ls, stack := _ :: rest, locked := none }) _
  jvm_step X.here [X.here.top, hx, hd, hm', hret, hn]
  first | (intro acts; rw [hl _ acts rfl rfl rfl]) | rw [hl _ _ rfl rfl rfl]
  exact Steps.refl _
theorem retD (X : Stand p l e R s m args below meth c T locs cells slots) (hx : p.tables.exec = Jvm.exec) {pc : Nat} {Ls : Array Slot} {z : UInt64} {rest : List Value} (hret : meth.sig.returnType = some .double) (hd : decode c.code pc = .ok (.dreturn, 1)) {fs : List Frame}
    (hl : ∀ (f : JFrame) (acts : List Action), f.method = m → f.locked = none → f.entered = [] → (doReturn e (T.setTop f) acts (some (.double z))).1 = T.setFrames fs) : Steps p.tables e below (T.setTop (mkF m pc Ls (.double z :: rest))) (T.setFrames fs) := by
  have hm' : T.vm.method? m = some meth := X.method'
  show Steps p.tables e below (T.setTop { method := m, pc := pc, locals := Ls, stack := _ :: rest, locked := none }) _
  jvm_step X.here [X.here.top, hx, hd, hm', hret]
  first | (intro acts; rw [hl _ acts rfl rfl rfl]) | rw [hl _ _ rfl rfl rfl]
  exact Steps.refl _
end New
end Jvm.RoadKit
namespace Jvm.Pilot.@@N@@
open Jvm Jvm.ClassFile Sem Op Lib Jvm.Free Jvm.Stand Jvm.LawKit Jvm.RoadKit Bundle Jvm.Pilot.@@N@@.Jvm.D
theorem jtlt {x y : Int64} (h : x < y) : ifCond.holds .lt (lcmpW x y) = true ∧ ifCond.holds .ge (lcmpW x y) = false ∧ ifCond.holds .gt (lcmpW y x) = true ∧ ifCond.holds .le (lcmpW y x) = false := by
  have h1 : ¬ y < x := by rw [Int64.lt_iff_toInt_lt] at h ⊢; omega
  have h2 : ¬ x = y := by rintro rfl; exact h1 h
  have h3 : ¬ y = x := fun q => h2 q.symm
  simp [ifCond.holds, lcmpW, h, h1, h2, h3]
theorem jflt {x y : Int64} (h : ¬ x < y) : ifCond.holds .lt (lcmpW x y) = false ∧ ifCond.holds .ge (lcmpW x y) = true ∧ ifCond.holds .gt (lcmpW y x) = false ∧ ifCond.holds .le (lcmpW y x) = true := by
  by_cases h2 : x = y
  · subst h2; simp [ifCond.holds, lcmpW, h]
  · have h1 : y < x := by rw [Int64.lt_iff_toInt_lt] at h ⊢; rw [← Int64.toInt_inj] at h2; omega
    have h3 : ¬ y = x := fun q => h2 q.symm
    simp [ifCond.holds, lcmpW, h, h1, h2, h3]
theorem jteq {x y : Int64} (h : x = y) : ifCond.holds .eq (lcmpW x y) = true ∧ ifCond.holds .ne (lcmpW x y) = false := by
  subst h
  have h1 : ¬ x < x := by rw [Int64.lt_iff_toInt_lt]; omega
  simp [ifCond.holds, lcmpW, h1]
theorem jfeq {x y : Int64} (h : ¬ x = y) : ifCond.holds .eq (lcmpW x y) = false ∧ ifCond.holds .ne (lcmpW x y) = true := by
  by_cases h1 : y < x <;> simp [ifCond.holds, lcmpW, h, h1]
theorem own_sta_keep {Z : State} {h h' : Heap} {C n d : String} {v : Value} {ws : List Addr} (F : Sta Z h C n d v) (K : Keep h h' ws) (q : ∀ x ∈ ws, ∃ c : Cell, h[x]? = some c ∧ c.vm.isStatics = false) : Sta Z h' C n d v := by
  obtain ⟨cf, i, k, f, st, cell, h1, h2, h3, h4, h5, h6, h7⟩ := F
  refine ⟨cf, i, k, f, st, cell, h1, h2, h3, h4, K.2.1 st cell h5 (fun hm => ?_), h6, h7⟩
  obtain ⟨c, e1, e2⟩ := q st hm
  rw [h5] at e1; cases e1; rw [h6] at e2; cases e2
theorem own_nostat {Z : State} {h : Heap} {a : Addr} {C : String} (E : Exa Z h a C) : ∃ c : Cell, h[a]? = some c ∧ c.vm.isStatics = false := by
  obtain ⟨cell, k, h1, -, -, h4, -⟩ := E
  exact ⟨cell, h1, h4⟩

abbrev own_EL : List (String × Nat) := [("java/lang/String", 7)]
theorem own_backOfC {p : Program} {l : Launch} {e : Env} {R : Room} {s : State} {args : Array Value} {below : List Frame} {Z : State} {a0 : Array Value} {EL : List (String × Nat)} {h : Heap} {vm0 : Vm} {y : MethodName} {bytes : ByteArray} {maxL : Nat} {ret : Option FieldType} {rm : Room} {len W : Nat} {as' : Array Value} {Q : Option Value → Heap → List Loc → Prop}
    (hM : MetFree l y (head1 [Cond.code y bytes maxL ret] rm) (fun a U => a = as' ∧ Z.Warmed39 U.vm ∧ U.heap = h ∧ CHv Z EL U.vm h) (fun _ _ _ _ _ => True) (fun _ U o U' => ∃ v L, o = .returned v ∧ Q v U'.heap L ∧ ReturnedEndW U o U' L rm.cells rm.slots))
    (hZ : Z.Warmed39 vm0) (wc : (Cond.code y bytes maxL ret).before a0 Z = true) (wz : (Cond.initialized y.cls).before a0 Z = true) (hf : rm.frames + 1 ≤ R.frames) (hl : W + (maxL + 11) + rm.locals ≤ R.locals) (hEL : EW Z a0 EL) (H : CHv Z EL vm0 h) :
    BackS l R p e below (s.setVm vm0) args y len W (fun A a => a = as' ∧ A.U.heap = h ∧ A.cells + rm.cells ≤ R.cells ∧ A.slots + rm.slots ≤ R.slots)
      (fun A _ v B => ∃ L, Q v B.U.heap L ∧ B.locs = A.locs ++ L ∧ B.cells = A.cells + rm.cells ∧ B.slots = A.slots + rm.slots) := by
  refine BackS.of_freeW (bytes := bytes) (maxL := maxL) (ret := ret) (E := fun _ _ o t L k n => k = rm.cells ∧ n = rm.slots ∧ ∃ v, o = .returned v ∧ Q v t.heap L) hM hf hl ?_ ?_ (fun _ _ _ _ _ _ _ _ _ => trivial) ?_ ?_
  · intro m meth c A a Y hp
    have hU : Z.Warmed39 A.U.vm := wtrans (s := s.setVm vm0) hZ Y.warmed
    refine ⟨?_, mv hU wc, mv hU wz, hp.2.2.1, hp.2.2.2⟩
    show (Cond.and _ .tt).before a A.U = true
    rw [Cond.before_and, mv hU wc]; rfl
  · intro m meth c A a g mk Y hp
    exact ⟨hp.1, wtrans (s := s.setVm vm0) hZ Y.warmed, hp.2.1, (CHv.at Y hZ hEL H).1⟩
  · rintro _ _ _ _ ⟨v, L, h1, h2, h3⟩
    exact ⟨L, _, _, h3, rfl, rfl, v, h1, h2⟩
  · rintro m meth c A a g mk v t L k n Y hp - - ⟨e1, e2, v', e3, e4⟩
    cases e3; subst e1 e2; exact ⟨L, e4, rfl, rfl, rfl⟩
theorem own_fld_ne {Z : State} {h : Heap} {a b : Addr} {C n d : String} {x y : Value} (F : Fld Z h a C n d x) (G : Fld Z h b C n d y) (q : x ≠ y) : a ≠ b := by
  rintro rfl
  obtain ⟨c1, cf1, k1, i1, f1, h1, h2, h3, h4, h5, h6, h7⟩ := F
  obtain ⟨c2, cf2, k2, i2, f2, g1, g2, g3, g4, g5, g6, g7⟩ := G
  rw [h1] at g1; cases g1
  rw [h2] at g2; cases g2
  rw [h7] at g7
  exact q (Option.some.inj g7)
theorem own_ch (x : Int32) : ¬ ((255 : Int32) < (nar .char ((x &&& (255 : Int32)).toUInt32.toUInt16.toUInt32.toInt32))) := by
  have m := Jvm.Kit.i32_mask x (255 : Int32) (k := 8) (by decide) (by decide)
  have e : nar .char ((x &&& (255 : Int32)).toUInt32.toUInt16.toUInt32.toInt32) = (x &&& (255 : Int32)).toUInt32.toUInt16.toUInt32.toInt32.toUInt32.toUInt16.toUInt32.toInt32 := rfl
  have c1 := c_i2c (x &&& (255 : Int32))
  have c2 := c_i2c ((x &&& (255 : Int32)).toUInt32.toUInt16.toUInt32.toInt32)
  rw [e, Int32.lt_iff_toInt_lt]
  have e5 : (255 : Int32).toInt = 255 := by decide
  rw [e5]
  omega
theorem own_c1 (x : Int32) : ¬ ((255 : Int32) < ((x &&& (255 : Int32)).toUInt32.toUInt16.toUInt32.toInt32)) := by
  have m := Jvm.Kit.i32_mask x (255 : Int32) (k := 8) (by decide) (by decide)
  have c1 := c_i2c (x &&& (255 : Int32))
  rw [Int32.lt_iff_toInt_lt]
  have e5 : (255 : Int32).toInt = 255 := by decide
  rw [e5]
  omega

/-! body 5 -/
theorem d5_0 : decode jdk_52_method_21_code 0 = .ok (.iconst 0, 1) := by decide +kernel
theorem d5_1 : decode jdk_52_method_21_code 1 = .ok (.istore 5, 2) := by decide +kernel
theorem d5_3 : decode jdk_52_method_21_code 3 = .ok (.iload 5, 2) := by decide +kernel
theorem d5_5 : decode jdk_52_method_21_code 5 = .ok (.iload 4, 2) := by decide +kernel
theorem d5_7 : decode jdk_52_method_21_code 7 = .ok (.if_icmp .ge 37, 3) := by decide +kernel
theorem d5_10 : decode jdk_52_method_21_code 10 = .ok (.aload_n 0, 1) := by decide +kernel
theorem d5_11 : decode jdk_52_method_21_code 11 = .ok (.iload_n 1, 1) := by decide +kernel
theorem d5_12 : decode jdk_52_method_21_code 12 = .ok (.caload, 1) := by decide +kernel
theorem d5_13 : decode jdk_52_method_21_code 13 = .ok (.istore 6, 2) := by decide +kernel
theorem d5_15 : decode jdk_52_method_21_code 15 = .ok (.iload 6, 2) := by decide +kernel
theorem d5_17 : decode jdk_52_method_21_code 17 = .ok (.sipush 255, 3) := by decide +kernel
theorem d5_20 : decode jdk_52_method_21_code 20 = .ok (.if_icmp .le 6, 3) := by decide +kernel
theorem d5_26 : decode jdk_52_method_21_code 26 = .ok (.aload_n 2, 1) := by decide +kernel
theorem d5_27 : decode jdk_52_method_21_code 27 = .ok (.iload_n 3, 1) := by decide +kernel
theorem d5_28 : decode jdk_52_method_21_code 28 = .ok (.iload 6, 2) := by decide +kernel
theorem d5_30 : decode jdk_52_method_21_code 30 = .ok (.i2b, 1) := by decide +kernel
theorem d5_31 : decode jdk_52_method_21_code 31 = .ok (.bastore, 1) := by decide +kernel
theorem d5_32 : decode jdk_52_method_21_code 32 = .ok (.iinc 1 1, 3) := by decide +kernel
theorem d5_35 : decode jdk_52_method_21_code 35 = .ok (.iinc 3 1, 3) := by decide +kernel
theorem d5_38 : decode jdk_52_method_21_code 38 = .ok (.iinc 5 1, 3) := by decide +kernel
theorem d5_41 : decode jdk_52_method_21_code 41 = .ok (.goto (-38), 3) := by decide +kernel
theorem d5_44 : decode jdk_52_method_21_code 44 = .ok (.iload 4, 2) := by decide +kernel
theorem d5_46 : decode jdk_52_method_21_code 46 = .ok (.ireturn, 1) := by decide +kernel
theorem pn_5 : plainName "java/lang/StringUTF16" = true := by first | (simp [plainName, overriddenIn]; done) | decide +kernel
theorem ef_5 (m : MethodId) (a1 : Addr) (a3 : Addr) : entryFrame m #[(.ref a1), (.int (0 : Int32)), (.ref a3), (.int (0 : Int32)), (.int (2 : Int32))] 7 = mkF m 0 #[.val (.ref a1), .val (.int (0 : Int32)), .val (.ref a3), .val (.int (0 : Int32)), .val (.int (2 : Int32)), .unset, .unset] [] := by first | (simp [entryFrame, mkF, argsToLocals, Value.category]; done) | rfl
def Q5 (Z : State) (a1 : Addr) (a3 : Addr) (k : ClassId) (c0 : Int32) (c1 : Int32) (dv : Value) (k3 : ClassId) (d0 : Int32) (d1 : Int32) (h0 : Heap) (n0 : Nat) (v : Option Value) (h : Heap) (L : List Loc) : Prop := ∃ r : Int32, v = some (.int r) ∧ Fr n0 L ∧ Keep h0 h [a3] ∧ Arv Z h a3 k3 .byte (2 : Int32) [(.int (nar .byte (c0.toInt8.toInt32))), (.int (nar .byte (c1.toInt8.toInt32)))] (.int (0 : Int32)) ∧ (r = (2 : Int32))
set_option maxRecDepth 65536 in
set_option maxHeartbeats 40000000 in
theorem rm5 (l : Launch) (Z : State) (a0 : Array Value) (hw : ∀ d ∈ tables_1, d.before a0 Z = true) (ws : List Jvm.Cond) (a1 : Addr) (a3 : Addr) (k : ClassId) (c0 : Int32) (c1 : Int32) (dv : Value) (k3 : ClassId) (d0 : Int32) (d1 : Int32) (h0 : Heap) (n0 : Nat) (Z0 : n0 ≤ h0.size) (V_a1 : Arv Z h0 a1 k .char (2 : Int32) [(.int c0), (.int c1)] dv) (V_a3 : Arv Z h0 a3 k3 .byte (2 : Int32) [(.int d0), (.int d1)] (.int (0 : Int32))) (g_a3 : n0 ≤ a3) (ne_a1_a3 : a1 ≠ a3) (hc0 : ¬ ((255 : Int32) < c0)) (hc1 : ¬ ((255 : Int32) < c1)) :
    MetFree l (⟨"java/lang/StringUTF16", "compress", "([CI[BII)I"⟩ : MethodName) (head1 (Jvm.Cond.code (⟨"java/lang/StringUTF16", "compress", "([CI[BII)I"⟩ : MethodName) jdk_52_method_21_code 7 (some .int) :: ws) ({ frames := 0, cells := 0, slots := 0, locals := 0 } : Room)) (fun a U => a = #[(.ref a1), (.int (0 : Int32)), (.ref a3), (.int (0 : Int32)), (.int (2 : Int32))] ∧ Z.Warmed39 U.vm ∧ U.heap = h0) (fun _ _ _ _ _ => True) (fun _ U o U' => ∃ v L, o = .returned v ∧ Q5 Z a1 a3 k c0 c1 dv k3 d0 d1 h0 n0 v U'.heap L ∧ FrameEnd U o U' L ({ frames := 0, cells := 0, slots := 0, locals := 0 } : Room).cells ({ frames := 0, cells := 0, slots := 0, locals := 0 } : Room).slots) := by
  refine MetFree.of_bodySF (plainFor_of_name pn_5) hisR ?_
  intro p e s m args below meth c s₁ Bd hml0 hP hK
  obtain ⟨rfl, hZ, hh⟩ := hP
  have hx := Bd.exec
  have hby := Bd.bytes
  have hml : c.maxLocals = 7 := hml0
  have hown : s.vm.findClass "java/lang/StringUTF16" = some m.cls := findClass_of_methodNamed Bd.named
  have hnm := (name_of_methodNamed Bd.named Bd.method).1
  have X0 : Stand p l e ({ frames := 0, cells := 0, slots := 0, locals := 0 } : Room) s m #[(.ref a1), (.int (0 : Int32)), (.ref a3), (.int (0 : Int32)), (.int (2 : Int32))] below meth c s₁ [] 0 0 := Stand.of_body Bd
  have e0 : s₁.heap = h0 := by rw [← hh, Bd.state]; rfl
  have N0 := Fr.nil n0
  have pre0 : ∀ tq, Steps p.tables e below (s₁.setTop (mkF m 0 #[.val (.ref a1), .val (.int (0 : Int32)), .val (.ref a3), .val (.int (0 : Int32)), .val (.int (2 : Int32)), .unset, .unset] [])) tq → Steps p.tables e below (s₁.setTop (entryFrame m #[(.ref a1), (.int (0 : Int32)), (.ref a3), (.int (0 : Int32)), (.int (2 : Int32))] 7)) tq := fun tq kq => castTop (ef_5 m a1 a3) kq
  have pre1 : ∀ tq, Steps p.tables e below (s₁.setTop (mkF m 10 #[.val (.ref a1), .val (.int (0 : Int32)), .val (.ref a3), .val (.int (0 : Int32)), .val (.int (2 : Int32)), .val (.int (0 : Int32)), .unset] [])) tq → Steps p.tables e below (s₁.setTop (entryFrame m #[(.ref a1), (.int (0 : Int32)), (.ref a3), (.int (0 : Int32)), (.int (2 : Int32))] 7)) tq := by
    refine fun tq kq => pre0 tq ?_
    show Steps p.tables e below (s₁.setTop (mkF m 0 #[.val (.ref a1), .val (.int (0 : Int32)), .val (.ref a3), .val (.int (0 : Int32)), .val (.int (2 : Int32)), .unset, .unset] [])) _
    refine XS.iconst X0.here hx rfl (hb hby d5_0) ?_
    show Steps p.tables e below (s₁.setTop (mkF m 1 #[.val (.ref a1), .val (.int (0 : Int32)), .val (.ref a3), .val (.int (0 : Int32)), .val (.int (2 : Int32)), .unset, .unset] [(.int (0 : Int32))])) _
    refine XS.istore X0.here hx rfl (hb hby d5_1) rfl (l' := #[.val (.ref a1), .val (.int (0 : Int32)), .val (.ref a3), .val (.int (0 : Int32)), .val (.int (2 : Int32)), .val (.int (0 : Int32)), .unset]) rfl ?_
    show Steps p.tables e below (s₁.setTop (mkF m 3 #[.val (.ref a1), .val (.int (0 : Int32)), .val (.ref a3), .val (.int (0 : Int32)), .val (.int (2 : Int32)), .val (.int (0 : Int32)), .unset] [])) _
    refine XS.iload X0.here hx rfl (hb hby d5_3) rfl ?_
    show Steps p.tables e below (s₁.setTop (mkF m 5 #[.val (.ref a1), .val (.int (0 : Int32)), .val (.ref a3), .val (.int (0 : Int32)), .val (.int (2 : Int32)), .val (.int (0 : Int32)), .unset] [(.int (0 : Int32))])) _
    refine XS.iload X0.here hx rfl (hb hby d5_5) rfl ?_
    show Steps p.tables e below (s₁.setTop (mkF m 7 #[.val (.ref a1), .val (.int (0 : Int32)), .val (.ref a3), .val (.int (0 : Int32)), .val (.int (2 : Int32)), .val (.int (0 : Int32)), .unset] [(.int (2 : Int32)), (.int (0 : Int32))])) _
    refine XS.icmpNo X0.here hx rfl (hb hby d5_7) rfl (tlt (by decide : (0 : Int32) < (2 : Int32))).2.1 ?_
    exact kq
  have pre2 : ∀ tq, Steps p.tables e below (s₁.setTop (mkF m 12 #[.val (.ref a1), .val (.int (0 : Int32)), .val (.ref a3), .val (.int (0 : Int32)), .val (.int (2 : Int32)), .val (.int (0 : Int32)), .unset] [(.int (0 : Int32)), (.ref a1)])) tq → Steps p.tables e below (s₁.setTop (entryFrame m #[(.ref a1), (.int (0 : Int32)), (.ref a3), (.int (0 : Int32)), (.int (2 : Int32))] 7)) tq := by
    refine fun tq kq => pre1 tq ?_
    show Steps p.tables e below (s₁.setTop (mkF m 10 #[.val (.ref a1), .val (.int (0 : Int32)), .val (.ref a3), .val (.int (0 : Int32)), .val (.int (2 : Int32)), .val (.int (0 : Int32)), .unset] [])) _
    refine XS.aloadN X0.here hx rfl (hb hby d5_10) rfl rfl ?_
    show Steps p.tables e below (s₁.setTop (mkF m 11 #[.val (.ref a1), .val (.int (0 : Int32)), .val (.ref a3), .val (.int (0 : Int32)), .val (.int (2 : Int32)), .val (.int (0 : Int32)), .unset] [(.ref a1)])) _
    refine XS.iloadN X0.here hx rfl (hb hby d5_11) rfl ?_
    exact kq
  have Vc3 := V_a1
  obtain ⟨cl3, Ar3, Aq3, As3, An3, Ah3, Ag3⟩ := Vc3
  have hin3 : ¬ ((0 : Int32) < 0 ∨ cl3.slots.size ≤ ((0 : Int32)).toNatClampNeg) := inb_of As3 ⟨by decide, by decide⟩
  have pre4 : ∀ tq, Steps p.tables e below (s₁.setTop (mkF m 13 #[.val (.ref a1), .val (.int (0 : Int32)), .val (.ref a3), .val (.int (0 : Int32)), .val (.int (2 : Int32)), .val (.int (0 : Int32)), .unset] [(.int c0)])) tq → Steps p.tables e below (s₁.setTop (entryFrame m #[(.ref a1), (.int (0 : Int32)), (.ref a3), (.int (0 : Int32)), (.int (2 : Int32))] 7)) tq := fun tq kq => pre2 tq (X0.caload hx (j := (0 : Int32)) (v := (.int c0)) (by rw [e0]; exact Ar3.1) (State.isArrayOf_alike hZ.alike Ar3.2.1) Ar3.2.2 hin3 (Has.at Ah3 hin3 rfl) (g := (mkF m 12 #[.val (.ref a1), .val (.int (0 : Int32)), .val (.ref a3), .val (.int (0 : Int32)), .val (.int (2 : Int32)), .val (.int (0 : Int32)), .unset] [(.int (0 : Int32)), (.ref a1)])) rfl rfl (hb hby d5_12) _ kq)
  have hc20 : ¬ ((255 : Int32) < c0) := by first | exact hc0 | exact hc1
  have pre5 : ∀ tq, Steps p.tables e below (s₁.setTop (mkF m 26 #[.val (.ref a1), .val (.int (0 : Int32)), .val (.ref a3), .val (.int (0 : Int32)), .val (.int (2 : Int32)), .val (.int (0 : Int32)), .val (.int c0)] [])) tq → Steps p.tables e below (s₁.setTop (entryFrame m #[(.ref a1), (.int (0 : Int32)), (.ref a3), (.int (0 : Int32)), (.int (2 : Int32))] 7)) tq := by
    refine fun tq kq => pre4 tq ?_
    show Steps p.tables e below (s₁.setTop (mkF m 13 #[.val (.ref a1), .val (.int (0 : Int32)), .val (.ref a3), .val (.int (0 : Int32)), .val (.int (2 : Int32)), .val (.int (0 : Int32)), .unset] [(.int c0)])) _
    refine XS.istore X0.here hx rfl (hb hby d5_13) rfl (l' := #[.val (.ref a1), .val (.int (0 : Int32)), .val (.ref a3), .val (.int (0 : Int32)), .val (.int (2 : Int32)), .val (.int (0 : Int32)), .val (.int c0)]) rfl ?_
    show Steps p.tables e below (s₁.setTop (mkF m 15 #[.val (.ref a1), .val (.int (0 : Int32)), .val (.ref a3), .val (.int (0 : Int32)), .val (.int (2 : Int32)), .val (.int (0 : Int32)), .val (.int c0)] [])) _
    refine XS.iload X0.here hx rfl (hb hby d5_15) rfl ?_
    show Steps p.tables e below (s₁.setTop (mkF m 17 #[.val (.ref a1), .val (.int (0 : Int32)), .val (.ref a3), .val (.int (0 : Int32)), .val (.int (2 : Int32)), .val (.int (0 : Int32)), .val (.int c0)] [(.int c0)])) _
    refine XS.sipush X0.here hx rfl (hb hby d5_17) ?_
    show Steps p.tables e below (s₁.setTop (mkF m 20 #[.val (.ref a1), .val (.int (0 : Int32)), .val (.ref a3), .val (.int (0 : Int32)), .val (.int (2 : Int32)), .val (.int (0 : Int32)), .val (.int c0)] [(.int (255 : Int32)), (.int c0)])) _
    refine XS.icmpYes X0.here hx rfl (pc0 := 20) (pc' := 26) rfl (hb hby d5_20) rfl (flt hc20).2.2.2 (by decide) (by decide) ?_
    exact kq
  have pre6 : ∀ tq, Steps p.tables e below (s₁.setTop (mkF m 31 #[.val (.ref a1), .val (.int (0 : Int32)), .val (.ref a3), .val (.int (0 : Int32)), .val (.int (2 : Int32)), .val (.int (0 : Int32)), .val (.int c0)] [(.int (c0.toInt8.toInt32)), (.int (0 : Int32)), (.ref a3)])) tq → Steps p.tables e below (s₁.setTop (entryFrame m #[(.ref a1), (.int (0 : Int32)), (.ref a3), (.int (0 : Int32)), (.int (2 : Int32))] 7)) tq := by
    refine fun tq kq => pre5 tq ?_
    show Steps p.tables e below (s₁.setTop (mkF m 26 #[.val (.ref a1), .val (.int (0 : Int32)), .val (.ref a3), .val (.int (0 : Int32)), .val (.int (2 : Int32)), .val (.int (0 : Int32)), .val (.int c0)] [])) _
    refine XS.aloadN X0.here hx rfl (hb hby d5_26) rfl rfl ?_
    show Steps p.tables e below (s₁.setTop (mkF m 27 #[.val (.ref a1), .val (.int (0 : Int32)), .val (.ref a3), .val (.int (0 : Int32)), .val (.int (2 : Int32)), .val (.int (0 : Int32)), .val (.int c0)] [(.ref a3)])) _
    refine XS.iloadN X0.here hx rfl (hb hby d5_27) rfl ?_
    show Steps p.tables e below (s₁.setTop (mkF m 28 #[.val (.ref a1), .val (.int (0 : Int32)), .val (.ref a3), .val (.int (0 : Int32)), .val (.int (2 : Int32)), .val (.int (0 : Int32)), .val (.int c0)] [(.int (0 : Int32)), (.ref a3)])) _
    refine XS.iload X0.here hx rfl (hb hby d5_28) rfl ?_
    show Steps p.tables e below (s₁.setTop (mkF m 30 #[.val (.ref a1), .val (.int (0 : Int32)), .val (.ref a3), .val (.int (0 : Int32)), .val (.int (2 : Int32)), .val (.int (0 : Int32)), .val (.int c0)] [(.int c0), (.int (0 : Int32)), (.ref a3)])) _
    refine XS.i2b X0.here hx rfl (hb hby d5_30) rfl ?_
    exact kq
  have Vc7 := V_a3
  obtain ⟨cl7, Ar7, Aq7, As7, An7, Ah7, Ag7⟩ := Vc7
  have hin7 : ¬ ((0 : Int32) < 0 ∨ cl7.slots.size ≤ ((0 : Int32)).toNatClampNeg) := inb_of As7 ⟨by decide, by decide⟩
  obtain ⟨T7, h7, X7, e7, W7, st7⟩ := stB X0 hx hZ e0 Ar7 (j := (0 : Int32)) hin7 (g := (mkF m 31 #[.val (.ref a1), .val (.int (0 : Int32)), .val (.ref a3), .val (.int (0 : Int32)), .val (.int (2 : Int32)), .val (.int (0 : Int32)), .val (.int c0)] [(.int (c0.toInt8.toInt32)), (.int (0 : Int32)), (.ref a3)])) rfl rfl (hb hby d5_31)
  have pre8 : ∀ tq, Steps p.tables e below (T7.setTop (mkF m 32 #[.val (.ref a1), .val (.int (0 : Int32)), .val (.ref a3), .val (.int (0 : Int32)), .val (.int (2 : Int32)), .val (.int (0 : Int32)), .val (.int c0)] [])) tq → Steps p.tables e below (s₁.setTop (entryFrame m #[(.ref a1), (.int (0 : Int32)), (.ref a3), (.int (0 : Int32)), (.int (2 : Int32))] 7)) tq := fun tq kq => pre6 tq (st7 _ kq)
  have N7 := Fr.snoc X7 N0 g_a3
  have K7 : Keep h0 h7 [a3] := Keep.wr (Keep.refl h0 [a3]) W7 (Or.inl (List.mem_of_getElem? (i := 0) rfl))
  have f9 := V_a1.other W7 ne_a1_a3
  have f10 : Arv Z h7 a3 k3 .byte (2 : Int32) [(.int (nar .byte (c0.toInt8.toInt32))), (.int d1)] (.int (0 : Int32)) := Arv.set Ar7 Aq7 As7 An7 Ah7 Ag7 (fits_nar_byte _) W7 0 rfl (Nat.le_of_ble_eq_true rfl)
  have pre11 : ∀ tq, Steps p.tables e below (T7.setTop (mkF m 10 #[.val (.ref a1), .val (.int (1 : Int32)), .val (.ref a3), .val (.int (1 : Int32)), .val (.int (2 : Int32)), .val (.int (1 : Int32)), .val (.int c0)] [])) tq → Steps p.tables e below (s₁.setTop (entryFrame m #[(.ref a1), (.int (0 : Int32)), (.ref a3), (.int (0 : Int32)), (.int (2 : Int32))] 7)) tq := by
    refine fun tq kq => pre8 tq ?_
    show Steps p.tables e below (T7.setTop (mkF m 32 #[.val (.ref a1), .val (.int (0 : Int32)), .val (.ref a3), .val (.int (0 : Int32)), .val (.int (2 : Int32)), .val (.int (0 : Int32)), .val (.int c0)] [])) _
    refine XS.iinc X7.here hx rfl (hb hby d5_32) rfl (l' := #[.val (.ref a1), .val (.int (1 : Int32)), .val (.ref a3), .val (.int (0 : Int32)), .val (.int (2 : Int32)), .val (.int (0 : Int32)), .val (.int c0)]) rfl ?_
    show Steps p.tables e below (T7.setTop (mkF m 35 #[.val (.ref a1), .val (.int (1 : Int32)), .val (.ref a3), .val (.int (0 : Int32)), .val (.int (2 : Int32)), .val (.int (0 : Int32)), .val (.int c0)] [])) _
    refine XS.iinc X7.here hx rfl (hb hby d5_35) rfl (l' := #[.val (.ref a1), .val (.int (1 : Int32)), .val (.ref a3), .val (.int (1 : Int32)), .val (.int (2 : Int32)), .val (.int (0 : Int32)), .val (.int c0)]) rfl ?_
    show Steps p.tables e below (T7.setTop (mkF m 38 #[.val (.ref a1), .val (.int (1 : Int32)), .val (.ref a3), .val (.int (1 : Int32)), .val (.int (2 : Int32)), .val (.int (0 : Int32)), .val (.int c0)] [])) _
    refine XS.iinc X7.here hx rfl (hb hby d5_38) rfl (l' := #[.val (.ref a1), .val (.int (1 : Int32)), .val (.ref a3), .val (.int (1 : Int32)), .val (.int (2 : Int32)), .val (.int (1 : Int32)), .val (.int c0)]) rfl ?_
    show Steps p.tables e below (T7.setTop (mkF m 41 #[.val (.ref a1), .val (.int (1 : Int32)), .val (.ref a3), .val (.int (1 : Int32)), .val (.int (2 : Int32)), .val (.int (1 : Int32)), .val (.int c0)] [])) _
    refine XS.goto X7.here hx rfl (pc0 := 41) (pc' := 3) rfl (hb hby d5_41) (by decide) (by decide) ?_
    show Steps p.tables e below (T7.setTop (mkF m 3 #[.val (.ref a1), .val (.int (1 : Int32)), .val (.ref a3), .val (.int (1 : Int32)), .val (.int (2 : Int32)), .val (.int (1 : Int32)), .val (.int c0)] [])) _
    refine XS.iload X7.here hx rfl (hb hby d5_3) rfl ?_
    show Steps p.tables e below (T7.setTop (mkF m 5 #[.val (.ref a1), .val (.int (1 : Int32)), .val (.ref a3), .val (.int (1 : Int32)), .val (.int (2 : Int32)), .val (.int (1 : Int32)), .val (.int c0)] [(.int (1 : Int32))])) _
    refine XS.iload X7.here hx rfl (hb hby d5_5) rfl ?_
    show Steps p.tables e below (T7.setTop (mkF m 7 #[.val (.ref a1), .val (.int (1 : Int32)), .val (.ref a3), .val (.int (1 : Int32)), .val (.int (2 : Int32)), .val (.int (1 : Int32)), .val (.int c0)] [(.int (2 : Int32)), (.int (1 : Int32))])) _
    refine XS.icmpNo X7.here hx rfl (hb hby d5_7) rfl (tlt (by decide : (1 : Int32) < (2 : Int32))).2.1 ?_
    exact kq
  have pre12 : ∀ tq, Steps p.tables e below (T7.setTop (mkF m 12 #[.val (.ref a1), .val (.int (1 : Int32)), .val (.ref a3), .val (.int (1 : Int32)), .val (.int (2 : Int32)), .val (.int (1 : Int32)), .val (.int c0)] [(.int (1 : Int32)), (.ref a1)])) tq → Steps p.tables e below (s₁.setTop (entryFrame m #[(.ref a1), (.int (0 : Int32)), (.ref a3), (.int (0 : Int32)), (.int (2 : Int32))] 7)) tq := by
    refine fun tq kq => pre11 tq ?_
    show Steps p.tables e below (T7.setTop (mkF m 10 #[.val (.ref a1), .val (.int (1 : Int32)), .val (.ref a3), .val (.int (1 : Int32)), .val (.int (2 : Int32)), .val (.int (1 : Int32)), .val (.int c0)] [])) _
    refine XS.aloadN X7.here hx rfl (hb hby d5_10) rfl rfl ?_
    show Steps p.tables e below (T7.setTop (mkF m 11 #[.val (.ref a1), .val (.int (1 : Int32)), .val (.ref a3), .val (.int (1 : Int32)), .val (.int (2 : Int32)), .val (.int (1 : Int32)), .val (.int c0)] [(.ref a1)])) _
    refine XS.iloadN X7.here hx rfl (hb hby d5_11) rfl ?_
    exact kq
  have Vc13 := f9
  obtain ⟨cl13, Ar13, Aq13, As13, An13, Ah13, Ag13⟩ := Vc13
  have hin13 : ¬ ((1 : Int32) < 0 ∨ cl13.slots.size ≤ ((1 : Int32)).toNatClampNeg) := inb_of As13 ⟨by decide, by decide⟩
  have pre14 : ∀ tq, Steps p.tables e below (T7.setTop (mkF m 13 #[.val (.ref a1), .val (.int (1 : Int32)), .val (.ref a3), .val (.int (1 : Int32)), .val (.int (2 : Int32)), .val (.int (1 : Int32)), .val (.int c0)] [(.int c1)])) tq → Steps p.tables e below (s₁.setTop (entryFrame m #[(.ref a1), (.int (0 : Int32)), (.ref a3), (.int (0 : Int32)), (.int (2 : Int32))] 7)) tq := fun tq kq => pre12 tq (X7.caload hx (j := (1 : Int32)) (v := (.int c1)) (by rw [e7]; exact Ar13.1) (State.isArrayOf_alike hZ.alike Ar13.2.1) Ar13.2.2 hin13 (Has.at Ah13 hin13 rfl) (g := (mkF m 12 #[.val (.ref a1), .val (.int (1 : Int32)), .val (.ref a3), .val (.int (1 : Int32)), .val (.int (2 : Int32)), .val (.int (1 : Int32)), .val (.int c0)] [(.int (1 : Int32)), (.ref a1)])) rfl rfl (hb hby d5_12) _ kq)
  have hc20' : ¬ ((255 : Int32) < c1) := by first | exact hc0 | exact hc1
  have pre15 : ∀ tq, Steps p.tables e below (T7.setTop (mkF m 26 #[.val (.ref a1), .val (.int (1 : Int32)), .val (.ref a3), .val (.int (1 : Int32)), .val (.int (2 : Int32)), .val (.int (1 : Int32)), .val (.int c1)] [])) tq → Steps p.tables e below (s₁.setTop (entryFrame m #[(.ref a1), (.int (0 : Int32)), (.ref a3), (.int (0 : Int32)), (.int (2 : Int32))] 7)) tq := by
    refine fun tq kq => pre14 tq ?_
    show Steps p.tables e below (T7.setTop (mkF m 13 #[.val (.ref a1), .val (.int (1 : Int32)), .val (.ref a3), .val (.int (1 : Int32)), .val (.int (2 : Int32)), .val (.int (1 : Int32)), .val (.int c0)] [(.int c1)])) _
    refine XS.istore X7.here hx rfl (hb hby d5_13) rfl (l' := #[.val (.ref a1), .val (.int (1 : Int32)), .val (.ref a3), .val (.int (1 : Int32)), .val (.int (2 : Int32)), .val (.int (1 : Int32)), .val (.int c1)]) rfl ?_
    show Steps p.tables e below (T7.setTop (mkF m 15 #[.val (.ref a1), .val (.int (1 : Int32)), .val (.ref a3), .val (.int (1 : Int32)), .val (.int (2 : Int32)), .val (.int (1 : Int32)), .val (.int c1)] [])) _
    refine XS.iload X7.here hx rfl (hb hby d5_15) rfl ?_
    show Steps p.tables e below (T7.setTop (mkF m 17 #[.val (.ref a1), .val (.int (1 : Int32)), .val (.ref a3), .val (.int (1 : Int32)), .val (.int (2 : Int32)), .val (.int (1 : Int32)), .val (.int c1)] [(.int c1)])) _
    refine XS.sipush X7.here hx rfl (hb hby d5_17) ?_
    show Steps p.tables e below (T7.setTop (mkF m 20 #[.val (.ref a1), .val (.int (1 : Int32)), .val (.ref a3), .val (.int (1 : Int32)), .val (.int (2 : Int32)), .val (.int (1 : Int32)), .val (.int c1)] [(.int (255 : Int32)), (.int c1)])) _
    refine XS.icmpYes X7.here hx rfl (pc0 := 20) (pc' := 26) rfl (hb hby d5_20) rfl (flt hc20').2.2.2 (by decide) (by decide) ?_
    exact kq
  have pre16 : ∀ tq, Steps p.tables e below (T7.setTop (mkF m 31 #[.val (.ref a1), .val (.int (1 : Int32)), .val (.ref a3), .val (.int (1 : Int32)), .val (.int (2 : Int32)), .val (.int (1 : Int32)), .val (.int c1)] [(.int (c1.toInt8.toInt32)), (.int (1 : Int32)), (.ref a3)])) tq → Steps p.tables e below (s₁.setTop (entryFrame m #[(.ref a1), (.int (0 : Int32)), (.ref a3), (.int (0 : Int32)), (.int (2 : Int32))] 7)) tq := by
    refine fun tq kq => pre15 tq ?_
    show Steps p.tables e below (T7.setTop (mkF m 26 #[.val (.ref a1), .val (.int (1 : Int32)), .val (.ref a3), .val (.int (1 : Int32)), .val (.int (2 : Int32)), .val (.int (1 : Int32)), .val (.int c1)] [])) _
    refine XS.aloadN X7.here hx rfl (hb hby d5_26) rfl rfl ?_
    show Steps p.tables e below (T7.setTop (mkF m 27 #[.val (.ref a1), .val (.int (1 : Int32)), .val (.ref a3), .val (.int (1 : Int32)), .val (.int (2 : Int32)), .val (.int (1 : Int32)), .val (.int c1)] [(.ref a3)])) _
    refine XS.iloadN X7.here hx rfl (hb hby d5_27) rfl ?_
    show Steps p.tables e below (T7.setTop (mkF m 28 #[.val (.ref a1), .val (.int (1 : Int32)), .val (.ref a3), .val (.int (1 : Int32)), .val (.int (2 : Int32)), .val (.int (1 : Int32)), .val (.int c1)] [(.int (1 : Int32)), (.ref a3)])) _
    refine XS.iload X7.here hx rfl (hb hby d5_28) rfl ?_
    show Steps p.tables e below (T7.setTop (mkF m 30 #[.val (.ref a1), .val (.int (1 : Int32)), .val (.ref a3), .val (.int (1 : Int32)), .val (.int (2 : Int32)), .val (.int (1 : Int32)), .val (.int c1)] [(.int c1), (.int (1 : Int32)), (.ref a3)])) _
    refine XS.i2b X7.here hx rfl (hb hby d5_30) rfl ?_
    exact kq
  have Vc17 := f10
  obtain ⟨cl17, Ar17, Aq17, As17, An17, Ah17, Ag17⟩ := Vc17
  have hin17 : ¬ ((1 : Int32) < 0 ∨ cl17.slots.size ≤ ((1 : Int32)).toNatClampNeg) := inb_of As17 ⟨by decide, by decide⟩
  obtain ⟨T17, h17, X17, e17, W17, st17⟩ := stB X7 hx hZ e7 Ar17 (j := (1 : Int32)) hin17 (g := (mkF m 31 #[.val (.ref a1), .val (.int (1 : Int32)), .val (.ref a3), .val (.int (1 : Int32)), .val (.int (2 : Int32)), .val (.int (1 : Int32)), .val (.int c1)] [(.int (c1.toInt8.toInt32)), (.int (1 : Int32)), (.ref a3)])) rfl rfl (hb hby d5_31)
  have pre18 : ∀ tq, Steps p.tables e below (T17.setTop (mkF m 32 #[.val (.ref a1), .val (.int (1 : Int32)), .val (.ref a3), .val (.int (1 : Int32)), .val (.int (2 : Int32)), .val (.int (1 : Int32)), .val (.int c1)] [])) tq → Steps p.tables e below (s₁.setTop (entryFrame m #[(.ref a1), (.int (0 : Int32)), (.ref a3), (.int (0 : Int32)), (.int (2 : Int32))] 7)) tq := fun tq kq => pre16 tq (st17 _ kq)
  have N17 := Fr.snoc X17 N7 g_a3
  have K17 : Keep h0 h17 [a3] := Keep.wr K7 W17 (Or.inl (List.mem_of_getElem? (i := 0) rfl))
  have f19 := f9.other W17 ne_a1_a3
  have f20 : Arv Z h17 a3 k3 .byte (2 : Int32) [(.int (nar .byte (c0.toInt8.toInt32))), (.int (nar .byte (c1.toInt8.toInt32)))] (.int (0 : Int32)) := Arv.set Ar17 Aq17 As17 An17 Ah17 Ag17 (fits_nar_byte _) W17 1 rfl (Nat.le_of_ble_eq_true rfl)
  have pre21 : ∀ tq, Steps p.tables e below (T17.setTop (mkF m 44 #[.val (.ref a1), .val (.int (2 : Int32)), .val (.ref a3), .val (.int (2 : Int32)), .val (.int (2 : Int32)), .val (.int (2 : Int32)), .val (.int c1)] [])) tq → Steps p.tables e below (s₁.setTop (entryFrame m #[(.ref a1), (.int (0 : Int32)), (.ref a3), (.int (0 : Int32)), (.int (2 : Int32))] 7)) tq := by
    refine fun tq kq => pre18 tq ?_
    show Steps p.tables e below (T17.setTop (mkF m 32 #[.val (.ref a1), .val (.int (1 : Int32)), .val (.ref a3), .val (.int (1 : Int32)), .val (.int (2 : Int32)), .val (.int (1 : Int32)), .val (.int c1)] [])) _
    refine XS.iinc X17.here hx rfl (hb hby d5_32) rfl (l' := #[.val (.ref a1), .val (.int (2 : Int32)), .val (.ref a3), .val (.int (1 : Int32)), .val (.int (2 : Int32)), .val (.int (1 : Int32)), .val (.int c1)]) rfl ?_
    show Steps p.tables e below (T17.setTop (mkF m 35 #[.val (.ref a1), .val (.int (2 : Int32)), .val (.ref a3), .val (.int (1 : Int32)), .val (.int (2 : Int32)), .val (.int (1 : Int32)), .val (.int c1)] [])) _
    refine XS.iinc X17.here hx rfl (hb hby d5_35) rfl (l' := #[.val (.ref a1), .val (.int (2 : Int32)), .val (.ref a3), .val (.int (2 : Int32)), .val (.int (2 : Int32)), .val (.int (1 : Int32)), .val (.int c1)]) rfl ?_
    show Steps p.tables e below (T17.setTop (mkF m 38 #[.val (.ref a1), .val (.int (2 : Int32)), .val (.ref a3), .val (.int (2 : Int32)), .val (.int (2 : Int32)), .val (.int (1 : Int32)), .val (.int c1)] [])) _
    refine XS.iinc X17.here hx rfl (hb hby d5_38) rfl (l' := #[.val (.ref a1), .val (.int (2 : Int32)), .val (.ref a3), .val (.int (2 : Int32)), .val (.int (2 : Int32)), .val (.int (2 : Int32)), .val (.int c1)]) rfl ?_
    show Steps p.tables e below (T17.setTop (mkF m 41 #[.val (.ref a1), .val (.int (2 : Int32)), .val (.ref a3), .val (.int (2 : Int32)), .val (.int (2 : Int32)), .val (.int (2 : Int32)), .val (.int c1)] [])) _
    refine XS.goto X17.here hx rfl (pc0 := 41) (pc' := 3) rfl (hb hby d5_41) (by decide) (by decide) ?_
    show Steps p.tables e below (T17.setTop (mkF m 3 #[.val (.ref a1), .val (.int (2 : Int32)), .val (.ref a3), .val (.int (2 : Int32)), .val (.int (2 : Int32)), .val (.int (2 : Int32)), .val (.int c1)] [])) _
    refine XS.iload X17.here hx rfl (hb hby d5_3) rfl ?_
    show Steps p.tables e below (T17.setTop (mkF m 5 #[.val (.ref a1), .val (.int (2 : Int32)), .val (.ref a3), .val (.int (2 : Int32)), .val (.int (2 : Int32)), .val (.int (2 : Int32)), .val (.int c1)] [(.int (2 : Int32))])) _
    refine XS.iload X17.here hx rfl (hb hby d5_5) rfl ?_
    show Steps p.tables e below (T17.setTop (mkF m 7 #[.val (.ref a1), .val (.int (2 : Int32)), .val (.ref a3), .val (.int (2 : Int32)), .val (.int (2 : Int32)), .val (.int (2 : Int32)), .val (.int c1)] [(.int (2 : Int32)), (.int (2 : Int32))])) _
    refine XS.icmpYes X17.here hx rfl (pc0 := 7) (pc' := 44) rfl (hb hby d5_7) rfl (flt (by decide : ¬ ((2 : Int32) < (2 : Int32)))).2.1 (by decide) (by decide) ?_
    exact kq
  obtain ⟨fs, hr, hrun, hended, hW, hsame⟩ := X17.leave (v := some (.int (2 : Int32))) (fun h => by rw [Bd.returns] at h; cases h)
  refine ⟨_, _, pre21 _ ?_, hrun, hended, _, _, rfl, ?_, ⟨_, rfl⟩, hW, hsame.mono (by decide) (by decide)⟩
  · skip
    show Steps p.tables e below (T17.setTop (mkF m 44 #[.val (.ref a1), .val (.int (2 : Int32)), .val (.ref a3), .val (.int (2 : Int32)), .val (.int (2 : Int32)), .val (.int (2 : Int32)), .val (.int c1)] [])) _
    refine XS.iload X17.here hx rfl (hb hby d5_44) rfl ?_
    show Steps p.tables e below (T17.setTop (mkF m 46 #[.val (.ref a1), .val (.int (2 : Int32)), .val (.ref a3), .val (.int (2 : Int32)), .val (.int (2 : Int32)), .val (.int (2 : Int32)), .val (.int c1)] [(.int (2 : Int32))])) _
    exact retI X17 hx Bd.returns (hb hby d5_46) hr
  · show Q5 Z a1 a3 k c0 c1 dv k3 d0 d1 h0 n0 _ T17.heap _
    rw [e17]
    refine ⟨(2 : Int32), rfl, N17, K17, f20, ?_⟩
    rfl
/-! body 4 -/
theorem d4_0 : decode jdk_52_method_16_code 0 = .ok (.iload_n 2, 1) := by decide +kernel
theorem d4_1 : decode jdk_52_method_16_code 1 = .ok (.newarray .byte, 2) := by decide +kernel
theorem d4_3 : decode jdk_52_method_16_code 3 = .ok (.astore_n 3, 1) := by decide +kernel
theorem d4_4 : decode jdk_52_method_16_code 4 = .ok (.aload_n 0, 1) := by decide +kernel
theorem d4_5 : decode jdk_52_method_16_code 5 = .ok (.iload_n 1, 1) := by decide +kernel
theorem d4_6 : decode jdk_52_method_16_code 6 = .ok (.aload_n 3, 1) := by decide +kernel
theorem d4_7 : decode jdk_52_method_16_code 7 = .ok (.iconst 0, 1) := by decide +kernel
theorem d4_8 : decode jdk_52_method_16_code 8 = .ok (.iload_n 2, 1) := by decide +kernel
theorem d4_9 : decode jdk_52_method_16_code 9 = .ok (.invokestatic 115, 3) := by decide +kernel
theorem d4_12 : decode jdk_52_method_16_code 12 = .ok (.istore 4, 2) := by decide +kernel
theorem d4_14 : decode jdk_52_method_16_code 14 = .ok (.iload 4, 2) := by decide +kernel
theorem d4_16 : decode jdk_52_method_16_code 16 = .ok (.iload_n 2, 1) := by decide +kernel
theorem d4_17 : decode jdk_52_method_16_code 17 = .ok (.if_icmp .eq 40, 3) := by decide +kernel
theorem d4_57 : decode jdk_52_method_16_code 57 = .ok (.aload_n 3, 1) := by decide +kernel
theorem d4_58 : decode jdk_52_method_16_code 58 = .ok (.areturn, 1) := by decide +kernel
theorem pn_4 : plainName "java/lang/StringUTF16" = true := by first | (simp [plainName, overriddenIn]; done) | decide +kernel
theorem pd4_0 : parseMethodDescriptor "([CI[BII)I" = some ⟨[(.array .char), .int, (.array .byte), .int, .int], some .int⟩ := by decide +kernel
theorem ef_4 (m : MethodId) (a1 : Addr) : entryFrame m #[(.ref a1), (.int (0 : Int32)), (.int (2 : Int32))] 6 = mkF m 0 #[.val (.ref a1), .val (.int (0 : Int32)), .val (.int (2 : Int32)), .unset, .unset, .unset] [] := by first | (simp [entryFrame, mkF, argsToLocals, Value.category]; done) | rfl
def Q4 (Z : State) (a1 : Addr) (k : ClassId) (c0 : Int32) (c1 : Int32) (dv : Value) (h0 : Heap) (n0 : Nat) (v : Option Value) (h : Heap) (L : List Loc) : Prop := ∃ r : Addr, ∃ k2 : ClassId, v = some (.ref r) ∧ Fr n0 L ∧ Keep h0 h [] ∧ Arv Z h r k2 .byte (2 : Int32) [(.int (nar .byte (c0.toInt8.toInt32))), (.int (nar .byte (c1.toInt8.toInt32)))] (.int (0 : Int32)) ∧ h0.size ≤ r ∧ (True)
set_option maxRecDepth 65536 in
set_option maxHeartbeats 40000000 in
theorem rm4 (l : Launch) (Z : State) (a0 : Array Value) (hw : ∀ d ∈ tables_1, d.before a0 Z = true) (ws : List Jvm.Cond) (a1 : Addr) (k : ClassId) (c0 : Int32) (c1 : Int32) (dv : Value) (h0 : Heap) (n0 : Nat) (Z0 : n0 ≤ h0.size) (V_a1 : Arv Z h0 a1 k .char (2 : Int32) [(.int c0), (.int c1)] dv) (hc0 : ¬ ((255 : Int32) < c0)) (hc1 : ¬ ((255 : Int32) < c1)) :
    MetFree l (⟨"java/lang/StringUTF16", "compress", "([CII)[B"⟩ : MethodName) (head1 (Jvm.Cond.code (⟨"java/lang/StringUTF16", "compress", "([CII)[B"⟩ : MethodName) jdk_52_method_16_code 6 (some (.array .byte)) :: ws) ({ frames := 1, cells := 1, slots := 2, locals := 18 } : Room)) (fun a U => a = #[(.ref a1), (.int (0 : Int32)), (.int (2 : Int32))] ∧ Z.Warmed39 U.vm ∧ U.heap = h0) (fun _ _ _ _ _ => True) (fun _ U o U' => ∃ v L, o = .returned v ∧ Q4 Z a1 k c0 c1 dv h0 n0 v U'.heap L ∧ FrameEnd U o U' L ({ frames := 1, cells := 1, slots := 2, locals := 18 } : Room).cells ({ frames := 1, cells := 1, slots := 2, locals := 18 } : Room).slots) := by
  refine MetFree.of_bodySF (plainFor_of_name pn_4) hisR ?_
  intro p e s m args below meth c s₁ Bd hml0 hP hK
  obtain ⟨rfl, hZ, hh⟩ := hP
  have hx := Bd.exec
  have hby := Bd.bytes
  have hml : c.maxLocals = 6 := hml0
  have hown : s.vm.findClass "java/lang/StringUTF16" = some m.cls := findClass_of_methodNamed Bd.named
  have hnm := (name_of_methodNamed Bd.named Bd.method).1
  have X0 : Stand p l e ({ frames := 1, cells := 1, slots := 2, locals := 18 } : Room) s m #[(.ref a1), (.int (0 : Int32)), (.int (2 : Int32))] below meth c s₁ [] 0 0 := Stand.of_body Bd
  have e0 : s₁.heap = h0 := by rw [← hh, Bd.state]; rfl
  have N0 := Fr.nil n0
  have pre0 : ∀ tq, Steps p.tables e below (s₁.setTop (mkF m 0 #[.val (.ref a1), .val (.int (0 : Int32)), .val (.int (2 : Int32)), .unset, .unset, .unset] [])) tq → Steps p.tables e below (s₁.setTop (entryFrame m #[(.ref a1), (.int (0 : Int32)), (.int (2 : Int32))] 6)) tq := fun tq kq => castTop (ef_4 m a1) kq
  have pre1 : ∀ tq, Steps p.tables e below (s₁.setTop (mkF m 1 #[.val (.ref a1), .val (.int (0 : Int32)), .val (.int (2 : Int32)), .unset, .unset, .unset] [(.int (2 : Int32))])) tq → Steps p.tables e below (s₁.setTop (entryFrame m #[(.ref a1), (.int (0 : Int32)), (.int (2 : Int32))] 6)) tq := by
    refine fun tq kq => pre0 tq ?_
    show Steps p.tables e below (s₁.setTop (mkF m 0 #[.val (.ref a1), .val (.int (0 : Int32)), .val (.int (2 : Int32)), .unset, .unset, .unset] [])) _
    refine XS.iloadN X0.here hx rfl (hb hby d4_0) rfl ?_
    exact kq
  obtain ⟨T2, h2, k2, X2, e2, E2, A2, st2⟩ := newP X0 hx hZ (hw _ (List.mem_of_getElem? (i := 19) rfl)) e0 (g := (mkF m 1 #[.val (.ref a1), .val (.int (0 : Int32)), .val (.int (2 : Int32)), .unset, .unset, .unset] [(.int (2 : Int32))])) rfl (hb hby d4_1) rfl (by decide) (cap := 2) (by decide) (by decide) (by decide) (by decide)
  obtain ⟨b2, g2⟩ : ∃ z, z = h0.size := ⟨_, rfl⟩
  rw [← g2] at A2 st2
  have g_b2 : n0 ≤ b2 := Nat.le_trans Z0 (Nat.le_of_eq g2.symm)
  have sz_b2 : h0.size ≤ b2 := Nat.le_trans (Nat.le_refl h0.size) (Nat.le_of_eq g2.symm)
  have ne3 : a1 ≠ b2 := Nat.ne_of_lt (Nat.lt_of_lt_of_le V_a1.lt (Nat.le_of_eq g2.symm))
  have pre4 : ∀ tq, Steps p.tables e below (T2.setTop (mkF m 3 #[.val (.ref a1), .val (.int (0 : Int32)), .val (.int (2 : Int32)), .unset, .unset, .unset] [(.ref b2)])) tq → Steps p.tables e below (s₁.setTop (entryFrame m #[(.ref a1), (.int (0 : Int32)), (.int (2 : Int32))] 6)) tq := fun tq kq => pre1 tq (st2 _ kq)
  have f5 := V_a1.ext E2
  have K2 : Keep h0 h2 [] := Keep.ext (Keep.refl h0 []) E2
  have f6 : Arv Z h2 b2 k2 .byte (2 : Int32) [(.int (0 : Int32)), (.int (0 : Int32))] (.int (0 : Int32)) := (Arv.new A2 (by decide)).pad (pad_rep [] (.int (0 : Int32)) 2)
  have pre7 : ∀ tq, Steps p.tables e below (T2.setTop (mkF m 9 #[.val (.ref a1), .val (.int (0 : Int32)), .val (.int (2 : Int32)), .val (.ref b2), .unset, .unset] [(.int (2 : Int32)), (.int (0 : Int32)), (.ref b2), (.int (0 : Int32)), (.ref a1)])) tq → Steps p.tables e below (s₁.setTop (entryFrame m #[(.ref a1), (.int (0 : Int32)), (.int (2 : Int32))] 6)) tq := by
    refine fun tq kq => pre4 tq ?_
    show Steps p.tables e below (T2.setTop (mkF m 3 #[.val (.ref a1), .val (.int (0 : Int32)), .val (.int (2 : Int32)), .unset, .unset, .unset] [(.ref b2)])) _
    refine XS.astoreN X2.here hx rfl (hb hby d4_3) rfl rfl (l' := #[.val (.ref a1), .val (.int (0 : Int32)), .val (.int (2 : Int32)), .val (.ref b2), .unset, .unset]) rfl ?_
    show Steps p.tables e below (T2.setTop (mkF m 4 #[.val (.ref a1), .val (.int (0 : Int32)), .val (.int (2 : Int32)), .val (.ref b2), .unset, .unset] [])) _
    refine XS.aloadN X2.here hx rfl (hb hby d4_4) rfl rfl ?_
    show Steps p.tables e below (T2.setTop (mkF m 5 #[.val (.ref a1), .val (.int (0 : Int32)), .val (.int (2 : Int32)), .val (.ref b2), .unset, .unset] [(.ref a1)])) _
    refine XS.iloadN X2.here hx rfl (hb hby d4_5) rfl ?_
    show Steps p.tables e below (T2.setTop (mkF m 6 #[.val (.ref a1), .val (.int (0 : Int32)), .val (.int (2 : Int32)), .val (.ref b2), .unset, .unset] [(.int (0 : Int32)), (.ref a1)])) _
    refine XS.aloadN X2.here hx rfl (hb hby d4_6) rfl rfl ?_
    show Steps p.tables e below (T2.setTop (mkF m 7 #[.val (.ref a1), .val (.int (0 : Int32)), .val (.int (2 : Int32)), .val (.ref b2), .unset, .unset] [(.ref b2), (.int (0 : Int32)), (.ref a1)])) _
    refine XS.iconst X2.here hx rfl (hb hby d4_7) ?_
    show Steps p.tables e below (T2.setTop (mkF m 8 #[.val (.ref a1), .val (.int (0 : Int32)), .val (.int (2 : Int32)), .val (.ref b2), .unset, .unset] [(.int (0 : Int32)), (.ref b2), (.int (0 : Int32)), (.ref a1)])) _
    refine XS.iloadN X2.here hx rfl (hb hby d4_8) rfl ?_
    exact kq
  have Z8 : n0 ≤ h2.size := (Nat.le_trans Z0 E2.1)
  obtain ⟨_, _, ⟨T8, L8, k8, n8⟩, -, X8, ⟨Lc8, hQ8, l8, y8, z8⟩, st8⟩ := Jvm.LawKit.callS X2 hx (y := (⟨"java/lang/StringUTF16", "compress", "([CI[BII)I"⟩ : MethodName)) hown (mvT hZ (hw _ (List.mem_of_getElem? (i := 20) rfl))) (mvT hZ (hw _ (List.mem_of_getElem? (i := 21) rfl))) (mvT hZ (hw _ (List.mem_of_getElem? (i := 17) rfl))) (mvT hZ (hw _ (List.mem_of_getElem? (i := 22) rfl))) (by decide) (backOf (W := 0) (rm5 l Z a0 hw [] a1 b2 k c0 c1 dv k2 (0 : Int32) (0 : Int32) h2 n0 Z8 f5 f6 g_b2 ne3 (hc0) (hc1)) hZ (hw _ (List.mem_of_getElem? (i := 22) rfl)) (hw _ (List.mem_of_getElem? (i := 17) rfl)) (by decide) (by decide)) (g := (mkF m 9 #[.val (.ref a1), .val (.int (0 : Int32)), .val (.int (2 : Int32)), .val (.ref b2), .unset, .unset] [(.int (2 : Int32)), (.int (0 : Int32)), (.ref b2), (.int (0 : Int32)), (.ref a1)])) rfl (by rw [hml]; rfl) (argsL := [(.ref a1), (.int (0 : Int32)), (.ref b2), (.int (0 : Int32)), (.int (2 : Int32))]) (rest := []) (lenOf pd4_0 rfl) rfl (by show 2 * 0 + _ ≤ _; exact Nat.le_of_eq rfl) (hb hby d4_9) (fun _ _ => ⟨rfl, e2, (by decide : (0 + 1) + 0 ≤ _), (by decide : (0 + 2) + 0 ≤ _)⟩)
  dsimp only [Pt.U, Pt.locs, Pt.cells, Pt.slots] at X8 l8 y8 z8 st8 hQ8
  subst l8 y8 z8
  obtain ⟨r9, rfl, Nq8, Kq8, f10, hq8⟩ := hQ8
  have N8 := Fr.app N0 Nq8
  have pre11 : ∀ tq, Steps p.tables e below (T8.setTop (mkF m 12 #[.val (.ref a1), .val (.int (0 : Int32)), .val (.int (2 : Int32)), .val (.ref b2), .unset, .unset] [(.int r9)])) tq → Steps p.tables e below (s₁.setTop (entryFrame m #[(.ref a1), (.int (0 : Int32)), (.int (2 : Int32))] 6)) tq := fun tq kq => pre7 tq (st8 _ kq)
  have K8 : Keep h0 T8.heap [] := Keep.trans K2 Kq8 (allS (Or.inr sz_b2) all0)
  have f12 := f5.keep Kq8 (by simp only [List.mem_cons, List.not_mem_nil, or_false, not_or]; exact ne3)
  subst hq8
  have pre13 : ∀ tq, Steps p.tables e below (T8.setTop (mkF m 57 #[.val (.ref a1), .val (.int (0 : Int32)), .val (.int (2 : Int32)), .val (.ref b2), .val (.int (2 : Int32)), .unset] [])) tq → Steps p.tables e below (s₁.setTop (entryFrame m #[(.ref a1), (.int (0 : Int32)), (.int (2 : Int32))] 6)) tq := by
    refine fun tq kq => pre11 tq ?_
    show Steps p.tables e below (T8.setTop (mkF m 12 #[.val (.ref a1), .val (.int (0 : Int32)), .val (.int (2 : Int32)), .val (.ref b2), .unset, .unset] [(.int (2 : Int32))])) _
    refine XS.istore X8.here hx rfl (hb hby d4_12) rfl (l' := #[.val (.ref a1), .val (.int (0 : Int32)), .val (.int (2 : Int32)), .val (.ref b2), .val (.int (2 : Int32)), .unset]) rfl ?_
    show Steps p.tables e below (T8.setTop (mkF m 14 #[.val (.ref a1), .val (.int (0 : Int32)), .val (.int (2 : Int32)), .val (.ref b2), .val (.int (2 : Int32)), .unset] [])) _
    refine XS.iload X8.here hx rfl (hb hby d4_14) rfl ?_
    show Steps p.tables e below (T8.setTop (mkF m 16 #[.val (.ref a1), .val (.int (0 : Int32)), .val (.int (2 : Int32)), .val (.ref b2), .val (.int (2 : Int32)), .unset] [(.int (2 : Int32))])) _
    refine XS.iloadN X8.here hx rfl (hb hby d4_16) rfl ?_
    show Steps p.tables e below (T8.setTop (mkF m 17 #[.val (.ref a1), .val (.int (0 : Int32)), .val (.int (2 : Int32)), .val (.ref b2), .val (.int (2 : Int32)), .unset] [(.int (2 : Int32)), (.int (2 : Int32))])) _
    refine XS.icmpYes X8.here hx rfl (pc0 := 17) (pc' := 57) rfl (hb hby d4_17) rfl (teq (by decide : (2 : Int32) = (2 : Int32))).1 (by decide) (by decide) ?_
    exact kq
  obtain ⟨fs, hr, hrun, hended, hW, hsame⟩ := X8.leave (v := some (.ref b2)) (fun h => by rw [Bd.returns] at h; cases h)
  refine ⟨_, _, pre13 _ ?_, hrun, hended, _, _, rfl, ?_, ⟨_, rfl⟩, hW, hsame.mono (by decide) (by decide)⟩
  · skip
    show Steps p.tables e below (T8.setTop (mkF m 57 #[.val (.ref a1), .val (.int (0 : Int32)), .val (.int (2 : Int32)), .val (.ref b2), .val (.int (2 : Int32)), .unset] [])) _
    refine XS.aloadN X8.here hx rfl (hb hby d4_57) rfl rfl ?_
    show Steps p.tables e below (T8.setTop (mkF m 58 #[.val (.ref a1), .val (.int (0 : Int32)), .val (.int (2 : Int32)), .val (.ref b2), .val (.int (2 : Int32)), .unset] [(.ref b2)])) _
    exact X8.areturnOut hx rfl Bd.returns rfl (hb hby d4_58) hr
  · show Q4 Z a1 k c0 c1 dv h0 n0 _ T8.heap _
    refine ⟨b2, k2, rfl, N8, K8, f10, sz_b2, ?_⟩
    trivial
/-! body 6 -/
theorem d6_0 : decode jdk_52_method_15_code 0 = .ok (.iload_n 1, 1) := by decide +kernel
theorem d6_1 : decode jdk_52_method_15_code 1 = .ok (.aload_n 0, 1) := by decide +kernel
theorem d6_2 : decode jdk_52_method_15_code 2 = .ok (.arraylength, 1) := by decide +kernel
theorem d6_3 : decode jdk_52_method_15_code 3 = .ok (.isub, 1) := by decide +kernel
theorem d6_4 : decode jdk_52_method_15_code 4 = .ok (.bipush 31, 2) := by decide +kernel
theorem d6_6 : decode jdk_52_method_15_code 6 = .ok (.iushr, 1) := by decide +kernel
theorem d6_7 : decode jdk_52_method_15_code 7 = .ok (.i2b, 1) := by decide +kernel
theorem d6_8 : decode jdk_52_method_15_code 8 = .ok (.ireturn, 1) := by decide +kernel
theorem pn_6 : plainName "java/lang/StringUTF16" = true := by first | (simp [plainName, overriddenIn]; done) | decide +kernel
theorem ef_6 (m : MethodId) (a1 : Addr) : entryFrame m #[(.ref a1), (.int (2 : Int32))] 2 = mkF m 0 #[.val (.ref a1), .val (.int (2 : Int32))] [] := by first | (simp [entryFrame, mkF, argsToLocals, Value.category]; done) | rfl
def Q6 (Z : State) (a1 : Addr) (k : ClassId) (vs : List Value) (h0 : Heap) (n0 : Nat) (v : Option Value) (h : Heap) (L : List Loc) : Prop := ∃ r : Int32, v = some (.int r) ∧ Fr n0 L ∧ h = h0 ∧ (r = (0 : Int32))
set_option maxRecDepth 65536 in
set_option maxHeartbeats 40000000 in
theorem rm6 (l : Launch) (Z : State) (a0 : Array Value) (hw : ∀ d ∈ tables_1, d.before a0 Z = true) (ws : List Jvm.Cond) (a1 : Addr) (k : ClassId) (vs : List Value) (h0 : Heap) (n0 : Nat) (Z0 : n0 ≤ h0.size) (V_a1 : Arv Z h0 a1 k .byte (2 : Int32) vs (.int (0 : Int32))) :
    MetFree l (⟨"java/lang/StringUTF16", "coderFromArrayLen", "([BI)B"⟩ : MethodName) (head1 (Jvm.Cond.code (⟨"java/lang/StringUTF16", "coderFromArrayLen", "([BI)B"⟩ : MethodName) jdk_52_method_15_code 2 (some .byte) :: ws) ({ frames := 0, cells := 0, slots := 0, locals := 0 } : Room)) (fun a U => a = #[(.ref a1), (.int (2 : Int32))] ∧ Z.Warmed39 U.vm ∧ U.heap = h0) (fun _ _ _ _ _ => True) (fun _ U o U' => ∃ v L, o = .returned v ∧ Q6 Z a1 k vs h0 n0 v U'.heap L ∧ FrameEnd U o U' L ({ frames := 0, cells := 0, slots := 0, locals := 0 } : Room).cells ({ frames := 0, cells := 0, slots := 0, locals := 0 } : Room).slots) := by
  refine MetFree.of_bodySF (plainFor_of_name pn_6) hisR ?_
  intro p e s m args below meth c s₁ Bd hml0 hP hK
  obtain ⟨rfl, hZ, hh⟩ := hP
  have hx := Bd.exec
  have hby := Bd.bytes
  have hml : c.maxLocals = 2 := hml0
  have hown : s.vm.findClass "java/lang/StringUTF16" = some m.cls := findClass_of_methodNamed Bd.named
  have hnm := (name_of_methodNamed Bd.named Bd.method).1
  have X0 : Stand p l e ({ frames := 0, cells := 0, slots := 0, locals := 0 } : Room) s m #[(.ref a1), (.int (2 : Int32))] below meth c s₁ [] 0 0 := Stand.of_body Bd
  have e0 : s₁.heap = h0 := by rw [← hh, Bd.state]; rfl
  have N0 := Fr.nil n0
  have pre0 : ∀ tq, Steps p.tables e below (s₁.setTop (mkF m 0 #[.val (.ref a1), .val (.int (2 : Int32))] [])) tq → Steps p.tables e below (s₁.setTop (entryFrame m #[(.ref a1), (.int (2 : Int32))] 2)) tq := fun tq kq => castTop (ef_6 m a1) kq
  have pre1 : ∀ tq, Steps p.tables e below (s₁.setTop (mkF m 2 #[.val (.ref a1), .val (.int (2 : Int32))] [(.ref a1), (.int (2 : Int32))])) tq → Steps p.tables e below (s₁.setTop (entryFrame m #[(.ref a1), (.int (2 : Int32))] 2)) tq := by
    refine fun tq kq => pre0 tq ?_
    show Steps p.tables e below (s₁.setTop (mkF m 0 #[.val (.ref a1), .val (.int (2 : Int32))] [])) _
    refine XS.iloadN X0.here hx rfl (hb hby d6_0) rfl ?_
    show Steps p.tables e below (s₁.setTop (mkF m 1 #[.val (.ref a1), .val (.int (2 : Int32))] [(.int (2 : Int32))])) _
    refine XS.aloadN X0.here hx rfl (hb hby d6_1) rfl rfl ?_
    exact kq
  have Vc2 := V_a1
  obtain ⟨cl2, Ar2, Aq2, As2, An2, Ah2, Ag2⟩ := Vc2
  have pre3 : ∀ tq, Steps p.tables e below (s₁.setTop (mkF m 3 #[.val (.ref a1), .val (.int (2 : Int32))] [(.int (2 : Int32)), (.int (2 : Int32))])) tq → Steps p.tables e below (s₁.setTop (entryFrame m #[(.ref a1), (.int (2 : Int32))] 2)) tq := fun tq kq => pre1 tq (X0.arraylength hx (by rw [e0]; exact Ar2.1) (State.isArrayOf_alike hZ.alike Ar2.2.1) (g := (mkF m 2 #[.val (.ref a1), .val (.int (2 : Int32))] [(.ref a1), (.int (2 : Int32))])) rfl rfl (hb hby d6_2) _ (by rw [len_of As2 An2]; exact kq))
  obtain ⟨fs, hr, hrun, hended, hW, hsame⟩ := X0.leave (v := some (.int (0 : Int32))) (fun h => by rw [Bd.returns] at h; cases h)
  refine ⟨_, _, pre3 _ ?_, hrun, hended, _, _, rfl, ?_, ⟨_, rfl⟩, hW, hsame.mono (by decide) (by decide)⟩
  · skip
    show Steps p.tables e below (s₁.setTop (mkF m 3 #[.val (.ref a1), .val (.int (2 : Int32))] [(.int (2 : Int32)), (.int (2 : Int32))])) _
    refine XS.isub X0.here hx rfl (hb hby d6_3) rfl ?_
    show Steps p.tables e below (s₁.setTop (mkF m 4 #[.val (.ref a1), .val (.int (2 : Int32))] [(.int (0 : Int32))])) _
    refine XS.bipush X0.here hx rfl (hb hby d6_4) ?_
    show Steps p.tables e below (s₁.setTop (mkF m 6 #[.val (.ref a1), .val (.int (2 : Int32))] [(.int (31 : Int32)), (.int (0 : Int32))])) _
    refine XS.iushr X0.here hx rfl (hb hby d6_6) rfl ?_
    show Steps p.tables e below (s₁.setTop (mkF m 7 #[.val (.ref a1), .val (.int (2 : Int32))] [(.int (0 : Int32))])) _
    refine XS.i2b X0.here hx rfl (hb hby d6_7) rfl ?_
    show Steps p.tables e below (s₁.setTop (mkF m 8 #[.val (.ref a1), .val (.int (2 : Int32))] [(.int (0 : Int32))])) _
    exact retN X0 hx (t := .byte) Bd.returns (by simp) (hb hby d6_8) hr
  · show Q6 Z a1 k vs h0 n0 _ s₁.heap _
    rw [e0]
    refine ⟨(0 : Int32), rfl, N0, rfl, ?_⟩
    rfl
/-! body 2 -/
theorem d2_0 : decode jdk_42_method_149_code 0 = .ok (.aload_n 0, 1) := by decide +kernel
theorem d2_1 : decode jdk_42_method_149_code 1 = .ok (.invokespecial 1, 3) := by decide +kernel
theorem d2_4 : decode jdk_42_method_149_code 4 = .ok (.iload_n 3, 1) := by decide +kernel
theorem d2_5 : decode jdk_42_method_149_code 5 = .ok (.ifCond .ne 22, 3) := by decide +kernel
theorem d2_27 : decode jdk_42_method_149_code 27 = .ok (.getstatic 38, 3) := by decide +kernel
theorem d2_30 : decode jdk_42_method_149_code 30 = .ok (.ifCond .eq 28, 3) := by decide +kernel
theorem d2_33 : decode jdk_42_method_149_code 33 = .ok (.aload_n 1, 1) := by decide +kernel
theorem d2_34 : decode jdk_42_method_149_code 34 = .ok (.iload_n 2, 1) := by decide +kernel
theorem d2_35 : decode jdk_42_method_149_code 35 = .ok (.iload_n 3, 1) := by decide +kernel
theorem d2_36 : decode jdk_42_method_149_code 36 = .ok (.invokestatic 177, 3) := by decide +kernel
theorem d2_39 : decode jdk_42_method_149_code 39 = .ok (.astore 5, 2) := by decide +kernel
theorem d2_41 : decode jdk_42_method_149_code 41 = .ok (.aload_n 0, 1) := by decide +kernel
theorem d2_42 : decode jdk_42_method_149_code 42 = .ok (.aload 5, 2) := by decide +kernel
theorem d2_44 : decode jdk_42_method_149_code 44 = .ok (.iload_n 3, 1) := by decide +kernel
theorem d2_45 : decode jdk_42_method_149_code 45 = .ok (.invokestatic 47, 3) := by decide +kernel
theorem d2_48 : decode jdk_42_method_149_code 48 = .ok (.putfield 15, 3) := by decide +kernel
theorem d2_51 : decode jdk_42_method_149_code 51 = .ok (.aload_n 0, 1) := by decide +kernel
theorem d2_52 : decode jdk_42_method_149_code 52 = .ok (.aload 5, 2) := by decide +kernel
theorem d2_54 : decode jdk_42_method_149_code 54 = .ok (.putfield 9, 3) := by decide +kernel
theorem d2_57 : decode jdk_42_method_149_code 57 = .ok (.return_, 1) := by decide +kernel
theorem pn_2 : plainName "java/lang/String" = true := by first | (simp [plainName, overriddenIn]; done) | decide +kernel
theorem pd2_0 : parseMethodDescriptor "([CII)[B" = some ⟨[(.array .char), .int, .int], some (.array .byte)⟩ := by decide +kernel
theorem pd2_1 : parseMethodDescriptor "([BI)B" = some ⟨[(.array .byte), .int], some .byte⟩ := by decide +kernel
theorem ef_2 (m : MethodId) (a1 : Addr) (a2 : Addr) : entryFrame m #[(.ref a1), (.ref a2), (.int (0 : Int32)), (.int (2 : Int32)), .null] 6 = mkF m 0 #[.val (.ref a1), .val (.ref a2), .val (.int (0 : Int32)), .val (.int (2 : Int32)), .val .null, .unset] [] := by first | (simp [entryFrame, mkF, argsToLocals, Value.category]; done) | rfl
def Q2 (Z : State) (a1 : Addr) (a2 : Addr) (k : ClassId) (c0 : Int32) (c1 : Int32) (dv : Value) (wC : Int32) (h0 : Heap) (n0 : Nat) (v : Option Value) (h : Heap) (L : List Loc) : Prop := v = none ∧ Fr n0 L ∧ Keep h0 h [a1] ∧ (True)
set_option maxRecDepth 65536 in
set_option maxHeartbeats 40000000 in
theorem rm2 (l : Launch) (Z : State) (a0 : Array Value) (hw : ∀ d ∈ tables_1, d.before a0 Z = true) (ws : List Jvm.Cond) (a1 : Addr) (a2 : Addr) (k : ClassId) (c0 : Int32) (c1 : Int32) (dv : Value) (wC : Int32) (h0 : Heap) (n0 : Nat) (Z0 : n0 ≤ h0.size) (E_a1 : Exa Z h0 a1 "java/lang/String") (F_value_a1 : Fld Z h0 a1 "java/lang/String" "value" "[B" .null) (F_coder_a1 : Fld Z h0 a1 "java/lang/String" "coder" "B" (.int (0 : Int32))) (g_a1 : n0 ≤ a1) (V_a2 : Arv Z h0 a2 k .char (2 : Int32) [(.int c0), (.int c1)] dv) (S_COMPACT_STRINGS : Sta Z h0 "java/lang/String" "COMPACT_STRINGS" "Z" (.int wC)) (hC : ¬ (wC = (0 : Int32))) (hc0 : ¬ ((255 : Int32) < c0)) (hc1 : ¬ ((255 : Int32) < c1)) :
    MetFree l (⟨"java/lang/String", "<init>", "([CIILjava/lang/Void;)V"⟩ : MethodName) (head1 (Jvm.Cond.code (⟨"java/lang/String", "<init>", "([CIILjava/lang/Void;)V"⟩ : MethodName) jdk_42_method_149_code 6 none :: ws) ({ frames := 2, cells := 1, slots := 2, locals := 35 } : Room)) (fun a U => a = #[(.ref a1), (.ref a2), (.int (0 : Int32)), (.int (2 : Int32)), .null] ∧ Z.Warmed39 U.vm ∧ U.heap = h0) (fun _ _ _ _ _ => True) (fun _ U o U' => ∃ v L, o = .returned v ∧ Q2 Z a1 a2 k c0 c1 dv wC h0 n0 v U'.heap L ∧ FrameEnd U o U' L ({ frames := 2, cells := 1, slots := 2, locals := 35 } : Room).cells ({ frames := 2, cells := 1, slots := 2, locals := 35 } : Room).slots) := by
  refine MetFree.of_bodySF (plainFor_of_name pn_2) hisR ?_
  intro p e s m args below meth c s₁ Bd hml0 hP hK
  obtain ⟨rfl, hZ, hh⟩ := hP
  have hx := Bd.exec
  have hby := Bd.bytes
  have hml : c.maxLocals = 6 := hml0
  have hown : s.vm.findClass "java/lang/String" = some m.cls := findClass_of_methodNamed Bd.named
  have hnm := (name_of_methodNamed Bd.named Bd.method).1
  have X0 : Stand p l e ({ frames := 2, cells := 1, slots := 2, locals := 35 } : Room) s m #[(.ref a1), (.ref a2), (.int (0 : Int32)), (.int (2 : Int32)), .null] below meth c s₁ [] 0 0 := Stand.of_body Bd
  have e0 : s₁.heap = h0 := by rw [← hh, Bd.state]; rfl
  have N0 := Fr.nil n0
  have pre0 : ∀ tq, Steps p.tables e below (s₁.setTop (mkF m 0 #[.val (.ref a1), .val (.ref a2), .val (.int (0 : Int32)), .val (.int (2 : Int32)), .val .null, .unset] [])) tq → Steps p.tables e below (s₁.setTop (entryFrame m #[(.ref a1), (.ref a2), (.int (0 : Int32)), (.int (2 : Int32)), .null] 6)) tq := fun tq kq => castTop (ef_2 m a1 a2) kq
  have pre1 : ∀ tq, Steps p.tables e below (s₁.setTop (mkF m 1 #[.val (.ref a1), .val (.ref a2), .val (.int (0 : Int32)), .val (.int (2 : Int32)), .val .null, .unset] [(.ref a1)])) tq → Steps p.tables e below (s₁.setTop (entryFrame m #[(.ref a1), (.ref a2), (.int (0 : Int32)), (.int (2 : Int32)), .null] 6)) tq := by
    refine fun tq kq => pre0 tq ?_
    show Steps p.tables e below (s₁.setTop (mkF m 0 #[.val (.ref a1), .val (.ref a2), .val (.int (0 : Int32)), .val (.int (2 : Int32)), .val .null, .unset] [])) _
    refine XS.aloadN X0.here hx rfl (hb hby d2_0) rfl rfl ?_
    exact kq
  obtain ⟨T2, X2, e2, st2⟩ := initO X0 hx hZ hown (hw _ (List.mem_of_getElem? (i := 11) rfl)) (hw _ (List.mem_of_getElem? (i := 12) rfl)) (hw _ (List.mem_of_getElem? (i := 13) rfl)) e0 (g := (mkF m 1 #[.val (.ref a1), .val (.ref a2), .val (.int (0 : Int32)), .val (.int (2 : Int32)), .val .null, .unset] [(.ref a1)])) rfl (by rw [hml]; rfl) rfl (hb hby d2_1) (by decide) (W := 0) (by show 2 * 0 + _ ≤ _; exact Nat.le_of_eq rfl) (by decide)
  have pre3 : ∀ tq, Steps p.tables e below (T2.setTop (mkF m 4 #[.val (.ref a1), .val (.ref a2), .val (.int (0 : Int32)), .val (.int (2 : Int32)), .val .null, .unset] [])) tq → Steps p.tables e below (s₁.setTop (entryFrame m #[(.ref a1), (.ref a2), (.int (0 : Int32)), (.int (2 : Int32)), .null] 6)) tq := fun tq kq => pre1 tq (st2 _ kq)
  have pre4 : ∀ tq, Steps p.tables e below (T2.setTop (mkF m 27 #[.val (.ref a1), .val (.ref a2), .val (.int (0 : Int32)), .val (.int (2 : Int32)), .val .null, .unset] [])) tq → Steps p.tables e below (s₁.setTop (entryFrame m #[(.ref a1), (.ref a2), (.int (0 : Int32)), (.int (2 : Int32)), .null] 6)) tq := by
    refine fun tq kq => pre3 tq ?_
    show Steps p.tables e below (T2.setTop (mkF m 4 #[.val (.ref a1), .val (.ref a2), .val (.int (0 : Int32)), .val (.int (2 : Int32)), .val .null, .unset] [])) _
    refine XS.iloadN X2.here hx rfl (hb hby d2_4) rfl ?_
    show Steps p.tables e below (T2.setTop (mkF m 5 #[.val (.ref a1), .val (.ref a2), .val (.int (0 : Int32)), .val (.int (2 : Int32)), .val .null, .unset] [(.int (2 : Int32))])) _
    refine XS.ifYes X2.here hx rfl (pc0 := 5) (pc' := 27) rfl (hb hby d2_5) rfl ((if0 _ _).trans (feq (by decide : ¬ ((2 : Int32) = (0 : Int32)))).2) (by decide) (by decide) ?_
    exact kq
  obtain ⟨T5, X5, e5, st5⟩ := getS2 X2 hx hZ hown (host := "") (Or.inl (hw _ (List.mem_of_getElem? (i := 14) rfl))) Via.refl e2 S_COMPACT_STRINGS (g := (mkF m 27 #[.val (.ref a1), .val (.ref a2), .val (.int (0 : Int32)), .val (.int (2 : Int32)), .val .null, .unset] [])) rfl (hb hby d2_27)
  have pre6 : ∀ tq, Steps p.tables e below (T5.setTop (mkF m 30 #[.val (.ref a1), .val (.ref a2), .val (.int (0 : Int32)), .val (.int (2 : Int32)), .val .null, .unset] [(.int wC)])) tq → Steps p.tables e below (s₁.setTop (entryFrame m #[(.ref a1), (.ref a2), (.int (0 : Int32)), (.int (2 : Int32)), .null] 6)) tq := fun tq kq => pre4 tq (st5 _ kq)
  have hc30 : ¬ (wC = (0 : Int32)) := by exact hC
  have pre7 : ∀ tq, Steps p.tables e below (T5.setTop (mkF m 33 #[.val (.ref a1), .val (.ref a2), .val (.int (0 : Int32)), .val (.int (2 : Int32)), .val .null, .unset] [])) tq → Steps p.tables e below (s₁.setTop (entryFrame m #[(.ref a1), (.ref a2), (.int (0 : Int32)), (.int (2 : Int32)), .null] 6)) tq := by
    refine fun tq kq => pre6 tq ?_
    show Steps p.tables e below (T5.setTop (mkF m 30 #[.val (.ref a1), .val (.ref a2), .val (.int (0 : Int32)), .val (.int (2 : Int32)), .val .null, .unset] [(.int wC)])) _
    refine XS.ifNo X5.here hx rfl (hb hby d2_30) rfl ((if0 _ _).trans (feq hc30).1) ?_
    exact kq
  have pre8 : ∀ tq, Steps p.tables e below (T5.setTop (mkF m 36 #[.val (.ref a1), .val (.ref a2), .val (.int (0 : Int32)), .val (.int (2 : Int32)), .val .null, .unset] [(.int (2 : Int32)), (.int (0 : Int32)), (.ref a2)])) tq → Steps p.tables e below (s₁.setTop (entryFrame m #[(.ref a1), (.ref a2), (.int (0 : Int32)), (.int (2 : Int32)), .null] 6)) tq := by
    refine fun tq kq => pre7 tq ?_
    show Steps p.tables e below (T5.setTop (mkF m 33 #[.val (.ref a1), .val (.ref a2), .val (.int (0 : Int32)), .val (.int (2 : Int32)), .val .null, .unset] [])) _
    refine XS.aloadN X5.here hx rfl (hb hby d2_33) rfl rfl ?_
    show Steps p.tables e below (T5.setTop (mkF m 34 #[.val (.ref a1), .val (.ref a2), .val (.int (0 : Int32)), .val (.int (2 : Int32)), .val .null, .unset] [(.ref a2)])) _
    refine XS.iloadN X5.here hx rfl (hb hby d2_34) rfl ?_
    show Steps p.tables e below (T5.setTop (mkF m 35 #[.val (.ref a1), .val (.ref a2), .val (.int (0 : Int32)), .val (.int (2 : Int32)), .val .null, .unset] [(.int (0 : Int32)), (.ref a2)])) _
    refine XS.iloadN X5.here hx rfl (hb hby d2_35) rfl ?_
    exact kq
  have Z9 : n0 ≤ h0.size := Z0
  obtain ⟨_, _, ⟨T9, L9, k9, n9⟩, -, X9, ⟨Lc9, hQ9, l9, y9, z9⟩, st9⟩ := Jvm.LawKit.callS X5 hx (y := (⟨"java/lang/StringUTF16", "compress", "([CII)[B"⟩ : MethodName)) hown (mvT hZ (hw _ (List.mem_of_getElem? (i := 15) rfl))) (mvT hZ (hw _ (List.mem_of_getElem? (i := 16) rfl))) (mvT hZ (hw _ (List.mem_of_getElem? (i := 17) rfl))) (mvT hZ (hw _ (List.mem_of_getElem? (i := 18) rfl))) (by decide) (backOf (W := 0) (rm4 l Z a0 hw [] a2 k c0 c1 dv h0 n0 Z9 V_a2 (hc0) (hc1)) hZ (hw _ (List.mem_of_getElem? (i := 18) rfl)) (hw _ (List.mem_of_getElem? (i := 17) rfl)) (by decide) (by decide)) (g := (mkF m 36 #[.val (.ref a1), .val (.ref a2), .val (.int (0 : Int32)), .val (.int (2 : Int32)), .val .null, .unset] [(.int (2 : Int32)), (.int (0 : Int32)), (.ref a2)])) rfl (by rw [hml]; rfl) (argsL := [(.ref a2), (.int (0 : Int32)), (.int (2 : Int32))]) (rest := []) (lenOf pd2_0 rfl) rfl (by show 2 * 0 + _ ≤ _; exact Nat.le_of_eq rfl) (hb hby d2_36) (fun _ _ => ⟨rfl, e5, (by decide : 0 + 1 ≤ _), (by decide : 0 + 2 ≤ _)⟩)
  dsimp only [Pt.U, Pt.locs, Pt.cells, Pt.slots] at X9 l9 y9 z9 st9 hQ9
  subst l9 y9 z9
  obtain ⟨r10, u13, rfl, Nq9, Kq9, f11, f12, hq9⟩ := hQ9
  have N9 := Fr.app N0 Nq9
  have pre14 : ∀ tq, Steps p.tables e below (T9.setTop (mkF m 39 #[.val (.ref a1), .val (.ref a2), .val (.int (0 : Int32)), .val (.int (2 : Int32)), .val .null, .unset] [(.ref r10)])) tq → Steps p.tables e below (s₁.setTop (entryFrame m #[(.ref a1), (.ref a2), (.int (0 : Int32)), (.int (2 : Int32)), .null] 6)) tq := fun tq kq => pre8 tq (st9 _ kq)
  have K9 : Keep h0 T9.heap [a1] := Keep.trans (Keep.refl h0 [a1]) Kq9 all0
  have f15 := E_a1.keep Kq9
  have f16 := F_value_a1.keep Kq9 (List.not_mem_nil)
  have f17 := F_coder_a1.keep Kq9 (List.not_mem_nil)
  have f18 := V_a2.keep Kq9 (List.not_mem_nil)
  have f19 := own_sta_keep S_COMPACT_STRINGS Kq9 all0
  have g_r10 : n0 ≤ r10 := Nat.le_trans Z9 f12
  have sz_r10 : h0.size ≤ r10 := Nat.le_trans (Nat.le_refl h0.size) f12
  have ne20 : a1 ≠ r10 := Nat.ne_of_lt (Nat.lt_of_lt_of_le E_a1.lt f12)
  have ne21 : a2 ≠ r10 := Nat.ne_of_lt (Nat.lt_of_lt_of_le V_a2.lt f12)
  have pre22 : ∀ tq, Steps p.tables e below (T9.setTop (mkF m 45 #[.val (.ref a1), .val (.ref a2), .val (.int (0 : Int32)), .val (.int (2 : Int32)), .val .null, .val (.ref r10)] [(.int (2 : Int32)), (.ref r10), (.ref a1)])) tq → Steps p.tables e below (s₁.setTop (entryFrame m #[(.ref a1), (.ref a2), (.int (0 : Int32)), (.int (2 : Int32)), .null] 6)) tq := by
    refine fun tq kq => pre14 tq ?_
    show Steps p.tables e below (T9.setTop (mkF m 39 #[.val (.ref a1), .val (.ref a2), .val (.int (0 : Int32)), .val (.int (2 : Int32)), .val .null, .unset] [(.ref r10)])) _
    refine XS.astore X9.here hx rfl (hb hby d2_39) rfl rfl (l' := #[.val (.ref a1), .val (.ref a2), .val (.int (0 : Int32)), .val (.int (2 : Int32)), .val .null, .val (.ref r10)]) rfl ?_
    show Steps p.tables e below (T9.setTop (mkF m 41 #[.val (.ref a1), .val (.ref a2), .val (.int (0 : Int32)), .val (.int (2 : Int32)), .val .null, .val (.ref r10)] [])) _
    refine XS.aloadN X9.here hx rfl (hb hby d2_41) rfl rfl ?_
    show Steps p.tables e below (T9.setTop (mkF m 42 #[.val (.ref a1), .val (.ref a2), .val (.int (0 : Int32)), .val (.int (2 : Int32)), .val .null, .val (.ref r10)] [(.ref a1)])) _
    refine XS.aload X9.here hx rfl (hb hby d2_42) rfl rfl ?_
    show Steps p.tables e below (T9.setTop (mkF m 44 #[.val (.ref a1), .val (.ref a2), .val (.int (0 : Int32)), .val (.int (2 : Int32)), .val .null, .val (.ref r10)] [(.ref r10), (.ref a1)])) _
    refine XS.iloadN X9.here hx rfl (hb hby d2_44) rfl ?_
    exact kq
  have Z23 : n0 ≤ T9.heap.size := (Nat.le_trans Z9 Kq9.1)
  obtain ⟨_, _, ⟨T23, L23, k23, n23⟩, -, X23, ⟨Lc23, hQ23, l23, y23, z23⟩, st23⟩ := Jvm.LawKit.callS X9 hx (y := (⟨"java/lang/StringUTF16", "coderFromArrayLen", "([BI)B"⟩ : MethodName)) hown (mvT hZ (hw _ (List.mem_of_getElem? (i := 23) rfl))) (mvT hZ (hw _ (List.mem_of_getElem? (i := 24) rfl))) (mvT hZ (hw _ (List.mem_of_getElem? (i := 17) rfl))) (mvT hZ (hw _ (List.mem_of_getElem? (i := 25) rfl))) (by decide) (backOf (W := 1) (rm6 l Z a0 hw [] r10 u13 [(.int (nar .byte (c0.toInt8.toInt32))), (.int (nar .byte (c1.toInt8.toInt32)))] T9.heap n0 Z23 f11) hZ (hw _ (List.mem_of_getElem? (i := 25) rfl)) (hw _ (List.mem_of_getElem? (i := 17) rfl)) (by decide) (by decide)) (g := (mkF m 45 #[.val (.ref a1), .val (.ref a2), .val (.int (0 : Int32)), .val (.int (2 : Int32)), .val .null, .val (.ref r10)] [(.int (2 : Int32)), (.ref r10), (.ref a1)])) rfl (by rw [hml]; rfl) (argsL := [(.ref r10), (.int (2 : Int32))]) (rest := [(.ref a1)]) (lenOf pd2_1 rfl) rfl (by show 2 * 0 + _ ≤ _; exact Nat.le_of_eq rfl) (hb hby d2_45) (fun _ _ => ⟨rfl, rfl, (by decide : (0 + 1) + 0 ≤ _), (by decide : (0 + 2) + 0 ≤ _)⟩)
  dsimp only [Pt.U, Pt.locs, Pt.cells, Pt.slots] at X23 l23 y23 z23 st23 hQ23
  subst l23 y23 z23
  obtain ⟨r24, rfl, Nq23, ehq23, hq23⟩ := hQ23
  have N23 := Fr.app N9 Nq23
  have pre25 : ∀ tq, Steps p.tables e below (T23.setTop (mkF m 48 #[.val (.ref a1), .val (.ref a2), .val (.int (0 : Int32)), .val (.int (2 : Int32)), .val .null, .val (.ref r10)] [(.int r24), (.ref a1)])) tq → Steps p.tables e below (s₁.setTop (entryFrame m #[(.ref a1), (.ref a2), (.int (0 : Int32)), (.int (2 : Int32)), .null] 6)) tq := fun tq kq => pre22 tq (st23 _ kq)
  subst hq23
  obtain ⟨T26, h26, X26, e26, W26, st26⟩ := putFN X23 hx hZ hown (hw _ (List.mem_of_getElem? (i := 26) rfl)) Via.refl ehq23 f17 f15 (Or.inr ⟨(hw _ (List.mem_of_getElem? (i := 27) rfl)), rfl, hnm⟩) (hw _ (List.mem_of_getElem? (i := 1) rfl)) (ty := .byte) (v' := (.int (0 : Int32))) (by decide) rfl rfl (g := (mkF m 48 #[.val (.ref a1), .val (.ref a2), .val (.int (0 : Int32)), .val (.int (2 : Int32)), .val .null, .val (.ref r10)] [(.int (0 : Int32)), (.ref a1)])) rfl rfl (hb hby d2_48)
  have pre27 : ∀ tq, Steps p.tables e below (T26.setTop (mkF m 51 #[.val (.ref a1), .val (.ref a2), .val (.int (0 : Int32)), .val (.int (2 : Int32)), .val .null, .val (.ref r10)] [])) tq → Steps p.tables e below (s₁.setTop (entryFrame m #[(.ref a1), (.ref a2), (.int (0 : Int32)), (.int (2 : Int32)), .null] 6)) tq := fun tq kq => pre25 tq (st26 _ kq)
  have N26 := Fr.snoc X26 N23 g_a1
  have K26 : Keep h0 h26 [a1] := Keep.wr K9 W26 (Or.inl (List.mem_of_getElem? (i := 0) rfl))
  have f28 := f15.wr W26
  have f29 := f16.other W26 (Or.inr (slot_ne (Or.inr (hw _ (List.mem_of_getElem? (i := 29) rfl))) (Or.inr (hw _ (List.mem_of_getElem? (i := 27) rfl))) (by decide) (t := (.array .byte)) (t' := .byte) (by decide) (by decide)))
  have f30 := f19.wr W26
  have f31 := f11.other W26 (Ne.symm ne20)
  have f32 := f17.same W26
  have pre33 : ∀ tq, Steps p.tables e below (T26.setTop (mkF m 54 #[.val (.ref a1), .val (.ref a2), .val (.int (0 : Int32)), .val (.int (2 : Int32)), .val .null, .val (.ref r10)] [(.ref r10), (.ref a1)])) tq → Steps p.tables e below (s₁.setTop (entryFrame m #[(.ref a1), (.ref a2), (.int (0 : Int32)), (.int (2 : Int32)), .null] 6)) tq := by
    refine fun tq kq => pre27 tq ?_
    show Steps p.tables e below (T26.setTop (mkF m 51 #[.val (.ref a1), .val (.ref a2), .val (.int (0 : Int32)), .val (.int (2 : Int32)), .val .null, .val (.ref r10)] [])) _
    refine XS.aloadN X26.here hx rfl (hb hby d2_51) rfl rfl ?_
    show Steps p.tables e below (T26.setTop (mkF m 52 #[.val (.ref a1), .val (.ref a2), .val (.int (0 : Int32)), .val (.int (2 : Int32)), .val .null, .val (.ref r10)] [(.ref a1)])) _
    refine XS.aload X26.here hx rfl (hb hby d2_52) rfl rfl ?_
    exact kq
  obtain ⟨T34, h34, X34, e34, W34, st34⟩ := putF X26 hx hZ hown (host := "") (Or.inl (hw _ (List.mem_of_getElem? (i := 28) rfl))) Via.refl e26 f29 f28 (Or.inr ⟨(hw _ (List.mem_of_getElem? (i := 29) rfl)), rfl, hnm⟩) (hw _ (List.mem_of_getElem? (i := 1) rfl)) (ty := (.array .byte)) (by decide) rfl rfl (g := (mkF m 54 #[.val (.ref a1), .val (.ref a2), .val (.int (0 : Int32)), .val (.int (2 : Int32)), .val .null, .val (.ref r10)] [(.ref r10), (.ref a1)])) rfl rfl (hb hby d2_54)
  have pre35 : ∀ tq, Steps p.tables e below (T34.setTop (mkF m 57 #[.val (.ref a1), .val (.ref a2), .val (.int (0 : Int32)), .val (.int (2 : Int32)), .val .null, .val (.ref r10)] [])) tq → Steps p.tables e below (s₁.setTop (entryFrame m #[(.ref a1), (.ref a2), (.int (0 : Int32)), (.int (2 : Int32)), .null] 6)) tq := fun tq kq => pre33 tq (st34 _ kq)
  have N34 := Fr.snoc X34 N26 g_a1
  have K34 : Keep h0 h34 [a1] := Keep.wr K26 W34 (Or.inl (List.mem_of_getElem? (i := 0) rfl))
  have f36 := f28.wr W34
  have f37 := f30.wr W34
  have f38 := f31.other W34 (Ne.symm ne20)
  have f39 := f32.other W34 (Or.inr (slot_ne (Or.inr (hw _ (List.mem_of_getElem? (i := 27) rfl))) (Or.inr (hw _ (List.mem_of_getElem? (i := 29) rfl))) (by decide) (t := .byte) (t' := (.array .byte)) (by decide) (by decide)))
  have f40 := f29.same W34
  obtain ⟨fs, hr, hrun, hended, hW, hsame⟩ := X34.leave (v := none) (fun _ => rfl)
  refine ⟨_, _, pre35 _ ?_, hrun, hended, _, _, rfl, ?_, ⟨_, rfl⟩, hW, hsame.mono (by decide) (by decide)⟩
  · skip
    show Steps p.tables e below (T34.setTop (mkF m 57 #[.val (.ref a1), .val (.ref a2), .val (.int (0 : Int32)), .val (.int (2 : Int32)), .val .null, .val (.ref r10)] [])) _
    exact X34.returnOut hx Bd.returns (hb hby d2_57) hr
  · show Q2 Z a1 a2 k c0 c1 dv wC h0 n0 _ T34.heap _
    rw [e34]
    refine ⟨rfl, N34, K34, ?_⟩
    trivial
/-! body 1 -/
theorem d1_0 : decode jdk_42_method_3_code 0 = .ok (.aload_n 0, 1) := by decide +kernel
theorem d1_1 : decode jdk_42_method_3_code 1 = .ok (.aload_n 1, 1) := by decide +kernel
theorem d1_2 : decode jdk_42_method_3_code 2 = .ok (.iconst 0, 1) := by decide +kernel
theorem d1_3 : decode jdk_42_method_3_code 3 = .ok (.aload_n 1, 1) := by decide +kernel
theorem d1_4 : decode jdk_42_method_3_code 4 = .ok (.arraylength, 1) := by decide +kernel
theorem d1_5 : decode jdk_42_method_3_code 5 = .ok (.aconst_null, 1) := by decide +kernel
theorem d1_6 : decode jdk_42_method_3_code 6 = .ok (.invokespecial 27, 3) := by decide +kernel
theorem d1_9 : decode jdk_42_method_3_code 9 = .ok (.return_, 1) := by decide +kernel
theorem pn_1 : plainName "java/lang/String" = true := by first | (simp [plainName, overriddenIn]; done) | decide +kernel
theorem pd1_0 : parseMethodDescriptor "([CIILjava/lang/Void;)V" = some ⟨[(.array .char), .int, .int, (.object "java/lang/Void")], none⟩ := by decide +kernel
theorem ef_1 (m : MethodId) (a1 : Addr) (a2 : Addr) : entryFrame m #[(.ref a1), (.ref a2)] 2 = mkF m 0 #[.val (.ref a1), .val (.ref a2)] [] := by first | (simp [entryFrame, mkF, argsToLocals, Value.category]; done) | rfl
def Q1 (Z : State) (a1 : Addr) (a2 : Addr) (k : ClassId) (c0 : Int32) (c1 : Int32) (dv : Value) (wC : Int32) (h0 : Heap) (n0 : Nat) (v : Option Value) (h : Heap) (L : List Loc) : Prop := v = none ∧ Fr n0 L ∧ Keep h0 h [a1] ∧ (True)
set_option maxRecDepth 65536 in
set_option maxHeartbeats 40000000 in
theorem rm1 (l : Launch) (Z : State) (a0 : Array Value) (hw : ∀ d ∈ tables_1, d.before a0 Z = true) (ws : List Jvm.Cond) (a1 : Addr) (a2 : Addr) (k : ClassId) (c0 : Int32) (c1 : Int32) (dv : Value) (wC : Int32) (h0 : Heap) (n0 : Nat) (Z0 : n0 ≤ h0.size) (E_a1 : Exa Z h0 a1 "java/lang/String") (F_value_a1 : Fld Z h0 a1 "java/lang/String" "value" "[B" .null) (F_coder_a1 : Fld Z h0 a1 "java/lang/String" "coder" "B" (.int (0 : Int32))) (g_a1 : n0 ≤ a1) (V_a2 : Arv Z h0 a2 k .char (2 : Int32) [(.int c0), (.int c1)] dv) (S_COMPACT_STRINGS : Sta Z h0 "java/lang/String" "COMPACT_STRINGS" "Z" (.int wC)) (hC : ¬ (wC = (0 : Int32))) (hc0 : ¬ ((255 : Int32) < c0)) (hc1 : ¬ ((255 : Int32) < c1)) :
    MetFree l (⟨"java/lang/String", "<init>", "([C)V"⟩ : MethodName) (head1 (Jvm.Cond.code (⟨"java/lang/String", "<init>", "([C)V"⟩ : MethodName) jdk_42_method_3_code 2 none :: ws) ({ frames := 3, cells := 1, slots := 2, locals := 52 } : Room)) (fun a U => a = #[(.ref a1), (.ref a2)] ∧ Z.Warmed39 U.vm ∧ U.heap = h0) (fun _ _ _ _ _ => True) (fun _ U o U' => ∃ v L, o = .returned v ∧ Q1 Z a1 a2 k c0 c1 dv wC h0 n0 v U'.heap L ∧ FrameEnd U o U' L ({ frames := 3, cells := 1, slots := 2, locals := 52 } : Room).cells ({ frames := 3, cells := 1, slots := 2, locals := 52 } : Room).slots) := by
  refine MetFree.of_bodySF (plainFor_of_name pn_1) hisR ?_
  intro p e s m args below meth c s₁ Bd hml0 hP hK
  obtain ⟨rfl, hZ, hh⟩ := hP
  have hx := Bd.exec
  have hby := Bd.bytes
  have hml : c.maxLocals = 2 := hml0
  have hown : s.vm.findClass "java/lang/String" = some m.cls := findClass_of_methodNamed Bd.named
  have hnm := (name_of_methodNamed Bd.named Bd.method).1
  have X0 : Stand p l e ({ frames := 3, cells := 1, slots := 2, locals := 52 } : Room) s m #[(.ref a1), (.ref a2)] below meth c s₁ [] 0 0 := Stand.of_body Bd
  have e0 : s₁.heap = h0 := by rw [← hh, Bd.state]; rfl
  have N0 := Fr.nil n0
  have pre0 : ∀ tq, Steps p.tables e below (s₁.setTop (mkF m 0 #[.val (.ref a1), .val (.ref a2)] [])) tq → Steps p.tables e below (s₁.setTop (entryFrame m #[(.ref a1), (.ref a2)] 2)) tq := fun tq kq => castTop (ef_1 m a1 a2) kq
  have pre1 : ∀ tq, Steps p.tables e below (s₁.setTop (mkF m 4 #[.val (.ref a1), .val (.ref a2)] [(.ref a2), (.int (0 : Int32)), (.ref a2), (.ref a1)])) tq → Steps p.tables e below (s₁.setTop (entryFrame m #[(.ref a1), (.ref a2)] 2)) tq := by
    refine fun tq kq => pre0 tq ?_
    show Steps p.tables e below (s₁.setTop (mkF m 0 #[.val (.ref a1), .val (.ref a2)] [])) _
    refine XS.aloadN X0.here hx rfl (hb hby d1_0) rfl rfl ?_
    show Steps p.tables e below (s₁.setTop (mkF m 1 #[.val (.ref a1), .val (.ref a2)] [(.ref a1)])) _
    refine XS.aloadN X0.here hx rfl (hb hby d1_1) rfl rfl ?_
    show Steps p.tables e below (s₁.setTop (mkF m 2 #[.val (.ref a1), .val (.ref a2)] [(.ref a2), (.ref a1)])) _
    refine XS.iconst X0.here hx rfl (hb hby d1_2) ?_
    show Steps p.tables e below (s₁.setTop (mkF m 3 #[.val (.ref a1), .val (.ref a2)] [(.int (0 : Int32)), (.ref a2), (.ref a1)])) _
    refine XS.aloadN X0.here hx rfl (hb hby d1_3) rfl rfl ?_
    exact kq
  have Vc2 := V_a2
  obtain ⟨cl2, Ar2, Aq2, As2, An2, Ah2, Ag2⟩ := Vc2
  have pre3 : ∀ tq, Steps p.tables e below (s₁.setTop (mkF m 5 #[.val (.ref a1), .val (.ref a2)] [(.int (2 : Int32)), (.int (0 : Int32)), (.ref a2), (.ref a1)])) tq → Steps p.tables e below (s₁.setTop (entryFrame m #[(.ref a1), (.ref a2)] 2)) tq := fun tq kq => pre1 tq (X0.arraylength hx (by rw [e0]; exact Ar2.1) (State.isArrayOf_alike hZ.alike Ar2.2.1) (g := (mkF m 4 #[.val (.ref a1), .val (.ref a2)] [(.ref a2), (.int (0 : Int32)), (.ref a2), (.ref a1)])) rfl rfl (hb hby d1_4) _ (by rw [len_of As2 An2]; exact kq))
  have pre4 : ∀ tq, Steps p.tables e below (s₁.setTop (mkF m 6 #[.val (.ref a1), .val (.ref a2)] [.null, (.int (2 : Int32)), (.int (0 : Int32)), (.ref a2), (.ref a1)])) tq → Steps p.tables e below (s₁.setTop (entryFrame m #[(.ref a1), (.ref a2)] 2)) tq := by
    refine fun tq kq => pre3 tq ?_
    show Steps p.tables e below (s₁.setTop (mkF m 5 #[.val (.ref a1), .val (.ref a2)] [(.int (2 : Int32)), (.int (0 : Int32)), (.ref a2), (.ref a1)])) _
    refine XS.aconstNull X0.here hx rfl (hb hby d1_5) ?_
    exact kq
  have Z5 : n0 ≤ h0.size := Z0
  obtain ⟨_, _, ⟨T5, L5, k5, n5⟩, -, X5, ⟨Lc5, hQ5, l5, y5, z5⟩, st5⟩ := X0.specialBack hx (y := (⟨"java/lang/String", "<init>", "([CIILjava/lang/Void;)V"⟩ : MethodName)) rfl hown (mvT hZ (hw _ (List.mem_of_getElem? (i := 7) rfl))) (mvT hZ (hw _ (List.mem_of_getElem? (i := 8) rfl))) (mvT hZ (hw _ (List.mem_of_getElem? (i := 10) rfl))) (by decide) (backOf (W := 0) (rm2 l Z a0 hw [] a1 a2 k c0 c1 dv wC h0 n0 Z5 E_a1 F_value_a1 F_coder_a1 g_a1 V_a2 S_COMPACT_STRINGS (hC) (hc0) (hc1)) hZ (hw _ (List.mem_of_getElem? (i := 10) rfl)) (hw _ (List.mem_of_getElem? (i := 2) rfl)) (by decide) (by decide)) (g := (mkF m 6 #[.val (.ref a1), .val (.ref a2)] [.null, (.int (2 : Int32)), (.int (0 : Int32)), (.ref a2), (.ref a1)])) rfl (by rw [hml]; rfl) (Steps.refl _) (a := a1) (argsL := [(.ref a2), (.int (0 : Int32)), (.int (2 : Int32)), .null]) (rest := []) (lenOf pd1_0 rfl) rfl (by show 2 * 0 + _ ≤ _; exact Nat.le_of_eq rfl) (hb hby d1_6) (fun _ _ => ⟨rfl, e0, (by decide : 0 + 1 ≤ _), (by decide : 0 + 2 ≤ _)⟩)
  dsimp only [Pt.U, Pt.locs, Pt.cells, Pt.slots] at X5 l5 y5 z5 st5 hQ5
  subst l5 y5 z5
  obtain ⟨rfl, Nq5, Kq5, hq5⟩ := hQ5
  have N5 := Fr.app N0 Nq5
  have pre6 : ∀ tq, Steps p.tables e below (T5.setTop (mkF m 9 #[.val (.ref a1), .val (.ref a2)] [])) tq → Steps p.tables e below (s₁.setTop (entryFrame m #[(.ref a1), (.ref a2)] 2)) tq := fun tq kq => pre4 tq (st5.trans kq)
  have K5 : Keep h0 T5.heap [a1] := Keep.trans (Keep.refl h0 [a1]) Kq5 (allS (Or.inl (List.mem_of_getElem? (i := 0) rfl)) all0)
  have f7 := E_a1.keep Kq5
  have f8 := own_sta_keep S_COMPACT_STRINGS Kq5 (allS (own_nostat E_a1) all0)
  obtain ⟨fs, hr, hrun, hended, hW, hsame⟩ := X5.leave (v := none) (fun _ => rfl)
  refine ⟨_, _, pre6 _ ?_, hrun, hended, _, _, rfl, ?_, ⟨_, rfl⟩, hW, hsame.mono (by decide) (by decide)⟩
  · skip
    show Steps p.tables e below (T5.setTop (mkF m 9 #[.val (.ref a1), .val (.ref a2)] [])) _
    exact X5.returnOut hx Bd.returns (hb hby d1_9) hr
  · show Q1 Z a1 a2 k c0 c1 dv wC h0 n0 _ T5.heap _
    refine ⟨rfl, N5, K5, ?_⟩
    trivial
/-! body 2e -/
theorem d2e_0 : decode jdk_42_method_149_code 0 = .ok (.aload_n 0, 1) := by decide +kernel
theorem d2e_1 : decode jdk_42_method_149_code 1 = .ok (.invokespecial 1, 3) := by decide +kernel
theorem d2e_4 : decode jdk_42_method_149_code 4 = .ok (.iload_n 3, 1) := by decide +kernel
theorem d2e_5 : decode jdk_42_method_149_code 5 = .ok (.ifCond .ne 22, 3) := by decide +kernel
theorem d2e_8 : decode jdk_42_method_149_code 8 = .ok (.aload_n 0, 1) := by decide +kernel
theorem d2e_9 : decode jdk_42_method_149_code 9 = .ok (.ldc 7, 2) := by decide +kernel
theorem d2e_11 : decode jdk_42_method_149_code 11 = .ok (.getfield 9, 3) := by decide +kernel
theorem d2e_14 : decode jdk_42_method_149_code 14 = .ok (.putfield 9, 3) := by decide +kernel
theorem d2e_17 : decode jdk_42_method_149_code 17 = .ok (.aload_n 0, 1) := by decide +kernel
theorem d2e_18 : decode jdk_42_method_149_code 18 = .ok (.ldc 7, 2) := by decide +kernel
theorem d2e_20 : decode jdk_42_method_149_code 20 = .ok (.getfield 15, 3) := by decide +kernel
theorem d2e_23 : decode jdk_42_method_149_code 23 = .ok (.putfield 15, 3) := by decide +kernel
theorem d2e_26 : decode jdk_42_method_149_code 26 = .ok (.return_, 1) := by decide +kernel
theorem pn_2e : plainName "java/lang/String" = true := by first | (simp [plainName, overriddenIn]; done) | decide +kernel
theorem ef_2e (m : MethodId) (a1 : Addr) (a2 : Addr) : entryFrame m #[(.ref a1), (.ref a2), (.int (0 : Int32)), (.int (0 : Int32)), .null] 6 = mkF m 0 #[.val (.ref a1), .val (.ref a2), .val (.int (0 : Int32)), .val (.int (0 : Int32)), .val .null, .unset] [] := by first | (simp [entryFrame, mkF, argsToLocals, Value.category]; done) | rfl
def Q2e (Z : State) (a1 : Addr) (a2 : Addr) (h0 : Heap) (n0 : Nat) (v : Option Value) (h : Heap) (L : List Loc) : Prop := v = none ∧ Fr n0 L ∧ Keep h0 h [a1] ∧ (True)
set_option maxRecDepth 65536 in
set_option maxHeartbeats 40000000 in
theorem rm2e (l : Launch) (Z : State) (a0 : Array Value) (hw : ∀ d ∈ tables_1, d.before a0 Z = true) (ws : List Jvm.Cond) (a1 : Addr) (a2 : Addr) (h0 : Heap) (n0 : Nat) (Z0 : n0 ≤ h0.size) (E_a1 : Exa Z h0 a1 "java/lang/String") (F_value_a1 : Fld Z h0 a1 "java/lang/String" "value" "[B" .null) (F_coder_a1 : Fld Z h0 a1 "java/lang/String" "coder" "B" (.int (0 : Int32))) (g_a1 : n0 ≤ a1) :
    MetFree l (⟨"java/lang/String", "<init>", "([CIILjava/lang/Void;)V"⟩ : MethodName) (head1 (Jvm.Cond.code (⟨"java/lang/String", "<init>", "([CIILjava/lang/Void;)V"⟩ : MethodName) jdk_42_method_149_code 6 none :: ws) ({ frames := 1, cells := 2, slots := 4, locals := 12 } : Room)) (fun a U => a = #[(.ref a1), (.ref a2), (.int (0 : Int32)), (.int (0 : Int32)), .null] ∧ Z.Warmed39 U.vm ∧ U.heap = h0 ∧ CHv Z own_EL U.vm h0) (fun _ _ _ _ _ => True) (fun _ U o U' => ∃ v L, o = .returned v ∧ Q2e Z a1 a2 h0 n0 v U'.heap L ∧ ReturnedEndW U o U' L ({ frames := 1, cells := 2, slots := 4, locals := 12 } : Room).cells ({ frames := 1, cells := 2, slots := 4, locals := 12 } : Room).slots) := by
  refine MetFree.of_bodySF (plainFor_of_name pn_2e) hisR ?_
  intro p e s m args below meth c s₁ Bd hml0 hP hK
  obtain ⟨rfl, hZ, hh, hCH⟩ := hP
  have hx := Bd.exec
  have hby := Bd.bytes
  have hml : c.maxLocals = 6 := hml0
  have hown : s.vm.findClass "java/lang/String" = some m.cls := findClass_of_methodNamed Bd.named
  have hnm := (name_of_methodNamed Bd.named Bd.method).1
  have X0 : Stand p l e ({ frames := 1, cells := 2, slots := 4, locals := 12 } : Room) s m #[(.ref a1), (.ref a2), (.int (0 : Int32)), (.int (0 : Int32)), .null] below meth c s₁ [] 0 0 := Stand.of_body Bd
  have e0 : s₁.heap = h0 := by rw [← hh, Bd.state]; rfl
  have N0 := Fr.nil n0
  have pre0 : ∀ tq, Steps p.tables e below (s₁.setTop (mkF m 0 #[.val (.ref a1), .val (.ref a2), .val (.int (0 : Int32)), .val (.int (0 : Int32)), .val .null, .unset] [])) tq → Steps p.tables e below (s₁.setTop (entryFrame m #[(.ref a1), (.ref a2), (.int (0 : Int32)), (.int (0 : Int32)), .null] 6)) tq := fun tq kq => castTop (ef_2e m a1 a2) kq
  have own_hEL : EW Z a0 own_EL := EW.cons (hw _ (List.mem_of_getElem? (i := 80) rfl)) (by decide) EW.nil
  have pre1 : ∀ tq, Steps p.tables e below (s₁.setTop (mkF m 1 #[.val (.ref a1), .val (.ref a2), .val (.int (0 : Int32)), .val (.int (0 : Int32)), .val .null, .unset] [(.ref a1)])) tq → Steps p.tables e below (s₁.setTop (entryFrame m #[(.ref a1), (.ref a2), (.int (0 : Int32)), (.int (0 : Int32)), .null] 6)) tq := by
    refine fun tq kq => pre0 tq ?_
    show Steps p.tables e below (s₁.setTop (mkF m 0 #[.val (.ref a1), .val (.ref a2), .val (.int (0 : Int32)), .val (.int (0 : Int32)), .val .null, .unset] [])) _
    refine XS.aloadN X0.here hx rfl (hb hby d2e_0) rfl rfl ?_
    exact kq
  obtain ⟨T2, X2, e2, st2⟩ := initO X0 hx hZ hown (hw _ (List.mem_of_getElem? (i := 11) rfl)) (hw _ (List.mem_of_getElem? (i := 12) rfl)) (hw _ (List.mem_of_getElem? (i := 13) rfl)) e0 (g := (mkF m 1 #[.val (.ref a1), .val (.ref a2), .val (.int (0 : Int32)), .val (.int (0 : Int32)), .val .null, .unset] [(.ref a1)])) rfl (by rw [hml]; rfl) rfl (hb hby d2e_1) (by decide) (W := 0) (by show 2 * 0 + _ ≤ _; exact Nat.le_of_eq rfl) (by decide)
  have pre3 : ∀ tq, Steps p.tables e below (T2.setTop (mkF m 4 #[.val (.ref a1), .val (.ref a2), .val (.int (0 : Int32)), .val (.int (0 : Int32)), .val .null, .unset] [])) tq → Steps p.tables e below (s₁.setTop (entryFrame m #[(.ref a1), (.ref a2), (.int (0 : Int32)), (.int (0 : Int32)), .null] 6)) tq := fun tq kq => pre1 tq (st2 _ kq)
  have pre4 : ∀ tq, Steps p.tables e below (T2.setTop (mkF m 8 #[.val (.ref a1), .val (.ref a2), .val (.int (0 : Int32)), .val (.int (0 : Int32)), .val .null, .unset] [])) tq → Steps p.tables e below (s₁.setTop (entryFrame m #[(.ref a1), (.ref a2), (.int (0 : Int32)), (.int (0 : Int32)), .null] 6)) tq := by
    refine fun tq kq => pre3 tq ?_
    show Steps p.tables e below (T2.setTop (mkF m 4 #[.val (.ref a1), .val (.ref a2), .val (.int (0 : Int32)), .val (.int (0 : Int32)), .val .null, .unset] [])) _
    refine XS.iloadN X2.here hx rfl (hb hby d2e_4) rfl ?_
    show Steps p.tables e below (T2.setTop (mkF m 5 #[.val (.ref a1), .val (.ref a2), .val (.int (0 : Int32)), .val (.int (0 : Int32)), .val .null, .unset] [(.int (0 : Int32))])) _
    refine XS.ifNo X2.here hx rfl (hb hby d2e_5) rfl ((if0 _ _).trans (teq (by decide : (0 : Int32) = (0 : Int32))).2) ?_
    exact kq
  have pre5 : ∀ tq, Steps p.tables e below (T2.setTop (mkF m 9 #[.val (.ref a1), .val (.ref a2), .val (.int (0 : Int32)), .val (.int (0 : Int32)), .val .null, .unset] [(.ref a1)])) tq → Steps p.tables e below (s₁.setTop (entryFrame m #[(.ref a1), (.ref a2), (.int (0 : Int32)), (.int (0 : Int32)), .null] 6)) tq := by
    refine fun tq kq => pre4 tq ?_
    show Steps p.tables e below (T2.setTop (mkF m 8 #[.val (.ref a1), .val (.ref a2), .val (.int (0 : Int32)), .val (.int (0 : Int32)), .val .null, .unset] [])) _
    refine XS.aloadN X2.here hx rfl (hb hby d2e_8) rfl rfl ?_
    exact kq
  have wS : ∀ a ∈ Bundle.stringAtoms, a.before a0 Z = true := (List.forall_mem_cons.mpr ⟨(hw _ (List.mem_of_getElem? (i := 2) rfl)), (List.forall_mem_cons.mpr ⟨(hw _ (List.mem_of_getElem? (i := 1) rfl)), (List.forall_mem_cons.mpr ⟨(hw _ (List.mem_of_getElem? (i := 19) rfl)), (List.forall_mem_cons.mpr ⟨(hw _ (List.mem_of_getElem? (i := 29) rfl)), (List.forall_mem_cons.mpr ⟨(hw _ (List.mem_of_getElem? (i := 27) rfl)), (List.forall_mem_cons.mpr ⟨(hw _ (List.mem_of_getElem? (i := 57) rfl)), (List.forall_mem_cons.mpr ⟨(hw _ (List.mem_of_getElem? (i := 58) rfl)), (fun _ hh => nomatch hh)⟩)⟩)⟩)⟩)⟩)⟩)⟩)
  have hSi : s.Since s.vm h0.size := (State.WarmedH.refl s).since _
  obtain ⟨sa6, T6, h6, kk6, sb6, kb6, X6, e6, E6, hS6, hk6, hZ6, hown6, Ea6, Fc6, Fv6, Vb6, -, -, -, hL6, -, st6⟩ := ldcCH (s := s) (vm0 := s.vm) (EL := own_EL) (z := (0 : Int32)) (vs := []) X2 hx hZ hown (hw _ (List.mem_of_getElem? (i := 80) rfl)) wS e2 hSi (Nat.le_refl _) own_hEL (by simp [own_EL]) hCH ⟨by decide, by decide⟩ (by decide) (by decide) (g := (mkF m 9 #[.val (.ref a1), .val (.ref a2), .val (.int (0 : Int32)), .val (.int (0 : Int32)), .val .null, .unset] [(.ref a1)])) rfl (hb hby d2e_9) (n := 0) (by decide) (by decide) (by decide) (by decide)
  have pre7 : ∀ tq, Steps p.tables e below (T6.setTop (mkF m 11 #[.val (.ref a1), .val (.ref a2), .val (.int (0 : Int32)), .val (.int (0 : Int32)), .val .null, .unset] [(.ref sa6), (.ref a1)])) tq → Steps p.tables e below (s₁.setTop (entryFrame m #[(.ref a1), (.ref a2), (.int (0 : Int32)), (.int (0 : Int32)), .null] 6)) tq := fun tq kq => pre5 tq (st6 _ kq)
  have f8 := E_a1.ext E6
  have f9 := F_value_a1.ext E6
  have f10 := F_coder_a1.ext E6
  have K6 : Keep h0 h6 [a1] := Keep.ext (Keep.refl h0 [a1]) E6
  have ne11 : a1 ≠ sa6 := own_fld_ne f9 Fv6 nofun
  obtain ⟨T12, X12, e12, st12⟩ := getF X6 hx hZ6 hown6 (host := "") (Or.inl (hw _ (List.mem_of_getElem? (i := 28) rfl))) Via.refl e6 Fv6 (g := (mkF m 11 #[.val (.ref a1), .val (.ref a2), .val (.int (0 : Int32)), .val (.int (0 : Int32)), .val .null, .unset] [(.ref sa6), (.ref a1)])) rfl rfl (hb hby d2e_11)
  have pre13 : ∀ tq, Steps p.tables e below (T12.setTop (mkF m 14 #[.val (.ref a1), .val (.ref a2), .val (.int (0 : Int32)), .val (.int (0 : Int32)), .val .null, .unset] [(.ref sb6), (.ref a1)])) tq → Steps p.tables e below (s₁.setTop (entryFrame m #[(.ref a1), (.ref a2), (.int (0 : Int32)), (.int (0 : Int32)), .null] 6)) tq := fun tq kq => pre7 tq (st12 _ kq)
  obtain ⟨T14, h14, X14, e14, W14, st14⟩ := putF X12 hx hZ6 hown6 (host := "") (Or.inl (hw _ (List.mem_of_getElem? (i := 28) rfl))) Via.refl e12 f9 f8 (Or.inr ⟨(hw _ (List.mem_of_getElem? (i := 29) rfl)), rfl, hnm⟩) (hw _ (List.mem_of_getElem? (i := 1) rfl)) (ty := (.array .byte)) (by decide) rfl rfl (g := (mkF m 14 #[.val (.ref a1), .val (.ref a2), .val (.int (0 : Int32)), .val (.int (0 : Int32)), .val .null, .unset] [(.ref sb6), (.ref a1)])) rfl rfl (hb hby d2e_14)
  have pre15 : ∀ tq, Steps p.tables e below (T14.setTop (mkF m 17 #[.val (.ref a1), .val (.ref a2), .val (.int (0 : Int32)), .val (.int (0 : Int32)), .val .null, .unset] [])) tq → Steps p.tables e below (s₁.setTop (entryFrame m #[(.ref a1), (.ref a2), (.int (0 : Int32)), (.int (0 : Int32)), .null] 6)) tq := fun tq kq => pre13 tq (st14 _ kq)
  have N14 := Fr.snoc X14 N0 g_a1
  have K14 : Keep h0 h14 [a1] := Keep.wr K6 W14 (Or.inl (List.mem_of_getElem? (i := 0) rfl))
  have f16 := f8.wr W14
  have f17 := f10.other W14 (Or.inr (slot_ne (Or.inr (hw _ (List.mem_of_getElem? (i := 27) rfl))) (Or.inr (hw _ (List.mem_of_getElem? (i := 29) rfl))) (by decide) (t := .byte) (t' := (.array .byte)) (by decide) (by decide)))
  have f18 := Ea6.wr W14
  have f19 := Fc6.other W14 (Or.inl (Ne.symm ne11))
  have f20 := Fv6.other W14 (Or.inl (Ne.symm ne11))
  have f21 := f9.same W14
  have pre22 : ∀ tq, Steps p.tables e below (T14.setTop (mkF m 18 #[.val (.ref a1), .val (.ref a2), .val (.int (0 : Int32)), .val (.int (0 : Int32)), .val .null, .unset] [(.ref a1)])) tq → Steps p.tables e below (s₁.setTop (entryFrame m #[(.ref a1), (.ref a2), (.int (0 : Int32)), (.int (0 : Int32)), .null] 6)) tq := by
    refine fun tq kq => pre15 tq ?_
    show Steps p.tables e below (T14.setTop (mkF m 17 #[.val (.ref a1), .val (.ref a2), .val (.int (0 : Int32)), .val (.int (0 : Int32)), .val .null, .unset] [])) _
    refine XS.aloadN X14.here hx rfl (hb hby d2e_17) rfl rfl ?_
    exact kq
  have pre24 : ∀ tq, Steps p.tables e below (T14.setTop (mkF m 20 #[.val (.ref a1), .val (.ref a2), .val (.int (0 : Int32)), .val (.int (0 : Int32)), .val .null, .unset] [(.ref sa6), (.ref a1)])) tq → Steps p.tables e below (s₁.setTop (entryFrame m #[(.ref a1), (.ref a2), (.int (0 : Int32)), (.int (0 : Int32)), .null] 6)) tq := fun tq kq => pre22 tq (ldcAgain (s := s) (vm0 := T6.vm) X14 hx hZ6 hown6 (hw _ (List.mem_of_getElem? (i := 80) rfl)) hL6 (g := (mkF m 18 #[.val (.ref a1), .val (.ref a2), .val (.int (0 : Int32)), .val (.int (0 : Int32)), .val .null, .unset] [(.ref a1)])) rfl (hb hby d2e_18) _ kq)
  obtain ⟨T25, X25, e25, st25⟩ := getF X14 hx hZ6 hown6 (host := "") (Or.inl (hw _ (List.mem_of_getElem? (i := 26) rfl))) Via.refl e14 f19 (g := (mkF m 20 #[.val (.ref a1), .val (.ref a2), .val (.int (0 : Int32)), .val (.int (0 : Int32)), .val .null, .unset] [(.ref sa6), (.ref a1)])) rfl rfl (hb hby d2e_20)
  have pre26 : ∀ tq, Steps p.tables e below (T25.setTop (mkF m 23 #[.val (.ref a1), .val (.ref a2), .val (.int (0 : Int32)), .val (.int (0 : Int32)), .val .null, .unset] [(.int (0 : Int32)), (.ref a1)])) tq → Steps p.tables e below (s₁.setTop (entryFrame m #[(.ref a1), (.ref a2), (.int (0 : Int32)), (.int (0 : Int32)), .null] 6)) tq := fun tq kq => pre24 tq (st25 _ kq)
  obtain ⟨T27, h27, X27, e27, W27, st27⟩ := putFN X25 hx hZ6 hown6 (hw _ (List.mem_of_getElem? (i := 26) rfl)) Via.refl e25 f17 f16 (Or.inr ⟨(hw _ (List.mem_of_getElem? (i := 27) rfl)), rfl, hnm⟩) (hw _ (List.mem_of_getElem? (i := 1) rfl)) (ty := .byte) (v' := (.int (0 : Int32))) (by decide) rfl rfl (g := (mkF m 23 #[.val (.ref a1), .val (.ref a2), .val (.int (0 : Int32)), .val (.int (0 : Int32)), .val .null, .unset] [(.int (0 : Int32)), (.ref a1)])) rfl rfl (hb hby d2e_23)
  have pre28 : ∀ tq, Steps p.tables e below (T27.setTop (mkF m 26 #[.val (.ref a1), .val (.ref a2), .val (.int (0 : Int32)), .val (.int (0 : Int32)), .val .null, .unset] [])) tq → Steps p.tables e below (s₁.setTop (entryFrame m #[(.ref a1), (.ref a2), (.int (0 : Int32)), (.int (0 : Int32)), .null] 6)) tq := fun tq kq => pre26 tq (st27 _ kq)
  have N27 := Fr.snoc X27 N14 g_a1
  have K27 : Keep h0 h27 [a1] := Keep.wr K14 W27 (Or.inl (List.mem_of_getElem? (i := 0) rfl))
  have f29 := f16.wr W27
  have f30 := f18.wr W27
  have f31 := f19.other W27 (Or.inl (Ne.symm ne11))
  have f32 := f20.other W27 (Or.inl (Ne.symm ne11))
  have f33 := f21.other W27 (Or.inr (slot_ne (Or.inr (hw _ (List.mem_of_getElem? (i := 29) rfl))) (Or.inr (hw _ (List.mem_of_getElem? (i := 27) rfl))) (by decide) (t := (.array .byte)) (t' := .byte) (by decide) (by decide)))
  have f34 := f17.same W27
  obtain ⟨fs, hr, hrun, hended, hEnd⟩ := Stand.leaveW (s := s) (vm₁ := T6.vm) X27 hS6 (by rw [e27]; exact (Nat.le_trans (Nat.le_trans hk6 (Keep.of_wr W14).1) (Keep.of_wr W27).1)) (v := none) (fun _ => rfl)
  refine ⟨_, _, pre28 _ ?_, hrun, hended, _, _, rfl, ?_, hEnd.1, hEnd.2.1, hEnd.2.2.1, hEnd.2.2.2.mono (by decide) (by decide)⟩
  · skip
    show Steps p.tables e below (T27.setTop (mkF m 26 #[.val (.ref a1), .val (.ref a2), .val (.int (0 : Int32)), .val (.int (0 : Int32)), .val .null, .unset] [])) _
    exact X27.returnOut hx Bd.returns (hb hby d2e_26) hr
  · show Q2e Z a1 a2 h0 n0 _ T27.heap _
    rw [e27]
    refine ⟨rfl, N27, K27, ?_⟩
    trivial
/-! body 1e -/
theorem d1e_0 : decode jdk_42_method_3_code 0 = .ok (.aload_n 0, 1) := by decide +kernel
theorem d1e_1 : decode jdk_42_method_3_code 1 = .ok (.aload_n 1, 1) := by decide +kernel
theorem d1e_2 : decode jdk_42_method_3_code 2 = .ok (.iconst 0, 1) := by decide +kernel
theorem d1e_3 : decode jdk_42_method_3_code 3 = .ok (.aload_n 1, 1) := by decide +kernel
theorem d1e_4 : decode jdk_42_method_3_code 4 = .ok (.arraylength, 1) := by decide +kernel
theorem d1e_5 : decode jdk_42_method_3_code 5 = .ok (.aconst_null, 1) := by decide +kernel
theorem d1e_6 : decode jdk_42_method_3_code 6 = .ok (.invokespecial 27, 3) := by decide +kernel
theorem d1e_9 : decode jdk_42_method_3_code 9 = .ok (.return_, 1) := by decide +kernel
theorem pn_1e : plainName "java/lang/String" = true := by first | (simp [plainName, overriddenIn]; done) | decide +kernel
theorem pd1e_0 : parseMethodDescriptor "([CIILjava/lang/Void;)V" = some ⟨[(.array .char), .int, .int, (.object "java/lang/Void")], none⟩ := by decide +kernel
theorem ef_1e (m : MethodId) (a1 : Addr) (a2 : Addr) : entryFrame m #[(.ref a1), (.ref a2)] 2 = mkF m 0 #[.val (.ref a1), .val (.ref a2)] [] := by first | (simp [entryFrame, mkF, argsToLocals, Value.category]; done) | rfl
def Q1e (Z : State) (a1 : Addr) (a2 : Addr) (k : ClassId) (dv : Value) (h0 : Heap) (n0 : Nat) (v : Option Value) (h : Heap) (L : List Loc) : Prop := v = none ∧ Fr n0 L ∧ Keep h0 h [a1] ∧ (True)
set_option maxRecDepth 65536 in
set_option maxHeartbeats 40000000 in
theorem rm1e (l : Launch) (Z : State) (a0 : Array Value) (hw : ∀ d ∈ tables_1, d.before a0 Z = true) (ws : List Jvm.Cond) (a1 : Addr) (a2 : Addr) (k : ClassId) (dv : Value) (h0 : Heap) (n0 : Nat) (Z0 : n0 ≤ h0.size) (E_a1 : Exa Z h0 a1 "java/lang/String") (F_value_a1 : Fld Z h0 a1 "java/lang/String" "value" "[B" .null) (F_coder_a1 : Fld Z h0 a1 "java/lang/String" "coder" "B" (.int (0 : Int32))) (g_a1 : n0 ≤ a1) (V_a2 : Arv Z h0 a2 k .char (0 : Int32) [] dv) :
    MetFree l (⟨"java/lang/String", "<init>", "([C)V"⟩ : MethodName) (head1 (Jvm.Cond.code (⟨"java/lang/String", "<init>", "([C)V"⟩ : MethodName) jdk_42_method_3_code 2 none :: ws) ({ frames := 2, cells := 2, slots := 4, locals := 29 } : Room)) (fun a U => a = #[(.ref a1), (.ref a2)] ∧ Z.Warmed39 U.vm ∧ U.heap = h0 ∧ CHv Z own_EL U.vm h0) (fun _ _ _ _ _ => True) (fun _ U o U' => ∃ v L, o = .returned v ∧ Q1e Z a1 a2 k dv h0 n0 v U'.heap L ∧ ReturnedEndW U o U' L ({ frames := 2, cells := 2, slots := 4, locals := 29 } : Room).cells ({ frames := 2, cells := 2, slots := 4, locals := 29 } : Room).slots) := by
  refine MetFree.of_bodySF (plainFor_of_name pn_1e) hisR ?_
  intro p e s m args below meth c s₁ Bd hml0 hP hK
  obtain ⟨rfl, hZ, hh, hCH⟩ := hP
  have hx := Bd.exec
  have hby := Bd.bytes
  have hml : c.maxLocals = 2 := hml0
  have hown : s.vm.findClass "java/lang/String" = some m.cls := findClass_of_methodNamed Bd.named
  have hnm := (name_of_methodNamed Bd.named Bd.method).1
  have X0 : Stand p l e ({ frames := 2, cells := 2, slots := 4, locals := 29 } : Room) s m #[(.ref a1), (.ref a2)] below meth c s₁ [] 0 0 := Stand.of_body Bd
  have e0 : s₁.heap = h0 := by rw [← hh, Bd.state]; rfl
  have N0 := Fr.nil n0
  have pre0 : ∀ tq, Steps p.tables e below (s₁.setTop (mkF m 0 #[.val (.ref a1), .val (.ref a2)] [])) tq → Steps p.tables e below (s₁.setTop (entryFrame m #[(.ref a1), (.ref a2)] 2)) tq := fun tq kq => castTop (ef_1e m a1 a2) kq
  have own_hEL : EW Z a0 own_EL := EW.cons (hw _ (List.mem_of_getElem? (i := 80) rfl)) (by decide) EW.nil
  have pre1 : ∀ tq, Steps p.tables e below (s₁.setTop (mkF m 4 #[.val (.ref a1), .val (.ref a2)] [(.ref a2), (.int (0 : Int32)), (.ref a2), (.ref a1)])) tq → Steps p.tables e below (s₁.setTop (entryFrame m #[(.ref a1), (.ref a2)] 2)) tq := by
    refine fun tq kq => pre0 tq ?_
    show Steps p.tables e below (s₁.setTop (mkF m 0 #[.val (.ref a1), .val (.ref a2)] [])) _
    refine XS.aloadN X0.here hx rfl (hb hby d1e_0) rfl rfl ?_
    show Steps p.tables e below (s₁.setTop (mkF m 1 #[.val (.ref a1), .val (.ref a2)] [(.ref a1)])) _
    refine XS.aloadN X0.here hx rfl (hb hby d1e_1) rfl rfl ?_
    show Steps p.tables e below (s₁.setTop (mkF m 2 #[.val (.ref a1), .val (.ref a2)] [(.ref a2), (.ref a1)])) _
    refine XS.iconst X0.here hx rfl (hb hby d1e_2) ?_
    show Steps p.tables e below (s₁.setTop (mkF m 3 #[.val (.ref a1), .val (.ref a2)] [(.int (0 : Int32)), (.ref a2), (.ref a1)])) _
    refine XS.aloadN X0.here hx rfl (hb hby d1e_3) rfl rfl ?_
    exact kq
  have Vc2 := V_a2
  obtain ⟨cl2, Ar2, Aq2, As2, An2, Ah2, Ag2⟩ := Vc2
  have pre3 : ∀ tq, Steps p.tables e below (s₁.setTop (mkF m 5 #[.val (.ref a1), .val (.ref a2)] [(.int (0 : Int32)), (.int (0 : Int32)), (.ref a2), (.ref a1)])) tq → Steps p.tables e below (s₁.setTop (entryFrame m #[(.ref a1), (.ref a2)] 2)) tq := fun tq kq => pre1 tq (X0.arraylength hx (by rw [e0]; exact Ar2.1) (State.isArrayOf_alike hZ.alike Ar2.2.1) (g := (mkF m 4 #[.val (.ref a1), .val (.ref a2)] [(.ref a2), (.int (0 : Int32)), (.ref a2), (.ref a1)])) rfl rfl (hb hby d1e_4) _ (by rw [len_of As2 An2]; exact kq))
  have pre4 : ∀ tq, Steps p.tables e below (s₁.setTop (mkF m 6 #[.val (.ref a1), .val (.ref a2)] [.null, (.int (0 : Int32)), (.int (0 : Int32)), (.ref a2), (.ref a1)])) tq → Steps p.tables e below (s₁.setTop (entryFrame m #[(.ref a1), (.ref a2)] 2)) tq := by
    refine fun tq kq => pre3 tq ?_
    show Steps p.tables e below (s₁.setTop (mkF m 5 #[.val (.ref a1), .val (.ref a2)] [(.int (0 : Int32)), (.int (0 : Int32)), (.ref a2), (.ref a1)])) _
    refine XS.aconstNull X0.here hx rfl (hb hby d1e_5) ?_
    exact kq
  have Z5 : n0 ≤ h0.size := Z0
  have hSi5 : s.Since s.vm h0.size := (State.WarmedH.refl s).since _
  obtain ⟨_, _, ⟨T5, L5, k5, n5⟩, -, X5, hSc5, hgr5, ⟨Lc5, hQ5, l5, y5, z5⟩, st5⟩ := Stand.specialBackS (s := (s.setVm s.vm)) X0 hx (y := (⟨"java/lang/String", "<init>", "([CIILjava/lang/Void;)V"⟩ : MethodName)) rfl hown (mvT hZ (hw _ (List.mem_of_getElem? (i := 7) rfl))) (mvT hZ (hw _ (List.mem_of_getElem? (i := 8) rfl))) (mvT hZ (hw _ (List.mem_of_getElem? (i := 10) rfl))) (by decide) (own_backOfC (s := s) (vm0 := s.vm) (W := 0) (rm2e l Z a0 hw [] a1 a2  h0 n0 Z5 E_a1 F_value_a1 F_coder_a1 g_a1) hZ (hw _ (List.mem_of_getElem? (i := 10) rfl)) (hw _ (List.mem_of_getElem? (i := 2) rfl)) (by decide) (by decide) own_hEL hCH) (g := (mkF m 6 #[.val (.ref a1), .val (.ref a2)] [.null, (.int (0 : Int32)), (.int (0 : Int32)), (.ref a2), (.ref a1)])) rfl (by rw [hml]; rfl) (Steps.refl _) (a := a1) (argsL := [(.ref a2), (.int (0 : Int32)), (.int (0 : Int32)), .null]) (rest := []) (lenOf pd1e_0 rfl) rfl (by show 2 * 0 + _ ≤ _; exact Nat.le_of_eq rfl) (hb hby d1e_6) (fun _ _ => ⟨rfl, e0, (by decide : 0 + 2 ≤ _), (by decide : 0 + 4 ≤ _)⟩)
  dsimp only [Pt.U, Pt.locs, Pt.cells, Pt.slots] at X5 l5 y5 z5 st5 hQ5 hSc5 hgr5
  subst l5 y5 z5
  obtain ⟨XR5, hS5, hZ5, hown5⟩ := rebS (s := s) (vm0 := s.vm) hSi5 (Nat.le_refl _) X5 hSc5 (by first | exact hgr5 | (rw [e0] at hgr5; exact hgr5)) hZ hown
  obtain ⟨rfl, Nq5, Kq5, hq5⟩ := hQ5
  have N5 := Fr.app N0 Nq5
  have pre6 : ∀ tq, Steps p.tables e below (T5.setTop (mkF m 9 #[.val (.ref a1), .val (.ref a2)] [])) tq → Steps p.tables e below (s₁.setTop (entryFrame m #[(.ref a1), (.ref a2)] 2)) tq := fun tq kq => pre4 tq (st5.trans kq)
  have K5 : Keep h0 T5.heap [a1] := Keep.trans (Keep.refl h0 [a1]) Kq5 (allS (Or.inl (List.mem_of_getElem? (i := 0) rfl)) all0)
  have f7 := E_a1.keep Kq5
  obtain ⟨fs, hr, hrun, hended, hEnd⟩ := Stand.leaveW (s := s) (vm₁ := T5.vm) XR5 hS5 (Nat.le_refl _) (v := none) (fun _ => rfl)
  refine ⟨_, _, pre6 _ ?_, hrun, hended, _, _, rfl, ?_, hEnd.1, hEnd.2.1, hEnd.2.2.1, hEnd.2.2.2.mono (by decide) (by decide)⟩
  · skip
    show Steps p.tables e below (T5.setTop (mkF m 9 #[.val (.ref a1), .val (.ref a2)] [])) _
    exact XR5.returnOut hx Bd.returns (hb hby d1e_9) hr
  · show Q1e Z a1 a2 k dv h0 n0 _ T5.heap _
    refine ⟨rfl, N5, K5, ?_⟩
    trivial
/-! body 8 -/
theorem d8_0 : decode jdk_43_method_3_code 0 = .ok (.iload_n 0, 1) := by decide +kernel
theorem d8_1 : decode jdk_43_method_3_code 1 = .ok (.sipush 255, 3) := by decide +kernel
theorem d8_4 : decode jdk_43_method_3_code 4 = .ok (.if_icmp .gt 7, 3) := by decide +kernel
theorem d8_7 : decode jdk_43_method_3_code 7 = .ok (.iconst 1, 1) := by decide +kernel
theorem d8_8 : decode jdk_43_method_3_code 8 = .ok (.goto 4, 3) := by decide +kernel
theorem d8_11 : decode jdk_43_method_3_code 11 = .ok (.iconst 0, 1) := by decide +kernel
theorem d8_12 : decode jdk_43_method_3_code 12 = .ok (.ireturn, 1) := by decide +kernel
theorem pn_8 : plainName "java/lang/StringLatin1" = true := by first | (simp [plainName, overriddenIn]; done) | decide +kernel
theorem ef_8 (m : MethodId) (p1 : Int32) : entryFrame m #[(.int p1)] 1 = mkF m 0 #[.val (.int p1)] [] := by first | (simp [entryFrame, mkF, argsToLocals, Value.category]; done) | rfl
def Q8 (Z : State) (p1 : Int32) (h0 : Heap) (n0 : Nat) (v : Option Value) (h : Heap) (L : List Loc) : Prop := ∃ r : Int32, v = some (.int r) ∧ Fr n0 L ∧ h = h0 ∧ (((255 : Int32) < p1 ∧ r = (0 : Int32)) ∨ (¬ ((255 : Int32) < p1) ∧ r = (1 : Int32)))
set_option maxRecDepth 65536 in
set_option maxHeartbeats 40000000 in
theorem rm8 (l : Launch) (Z : State) (a0 : Array Value) (hw : ∀ d ∈ tables_1, d.before a0 Z = true) (ws : List Jvm.Cond) (p1 : Int32) (h0 : Heap) (n0 : Nat) (Z0 : n0 ≤ h0.size)  :
    MetFree l (⟨"java/lang/StringLatin1", "canEncode", "(C)Z"⟩ : MethodName) (head1 (Jvm.Cond.code (⟨"java/lang/StringLatin1", "canEncode", "(C)Z"⟩ : MethodName) jdk_43_method_3_code 1 (some .boolean) :: ws) ({ frames := 0, cells := 0, slots := 0, locals := 0 } : Room)) (fun a U => a = #[(.int p1)] ∧ Z.Warmed39 U.vm ∧ U.heap = h0) (fun _ _ _ _ _ => True) (fun _ U o U' => ∃ v L, o = .returned v ∧ Q8 Z p1 h0 n0 v U'.heap L ∧ FrameEnd U o U' L ({ frames := 0, cells := 0, slots := 0, locals := 0 } : Room).cells ({ frames := 0, cells := 0, slots := 0, locals := 0 } : Room).slots) := by
  refine MetFree.of_bodySF (plainFor_of_name pn_8) hisR ?_
  intro p e s m args below meth c s₁ Bd hml0 hP hK
  obtain ⟨rfl, hZ, hh⟩ := hP
  have hx := Bd.exec
  have hby := Bd.bytes
  have hml : c.maxLocals = 1 := hml0
  have hown : s.vm.findClass "java/lang/StringLatin1" = some m.cls := findClass_of_methodNamed Bd.named
  have hnm := (name_of_methodNamed Bd.named Bd.method).1
  have X0 : Stand p l e ({ frames := 0, cells := 0, slots := 0, locals := 0 } : Room) s m #[(.int p1)] below meth c s₁ [] 0 0 := Stand.of_body Bd
  have e0 : s₁.heap = h0 := by rw [← hh, Bd.state]; rfl
  have N0 := Fr.nil n0
  have pre0 : ∀ tq, Steps p.tables e below (s₁.setTop (mkF m 0 #[.val (.int p1)] [])) tq → Steps p.tables e below (s₁.setTop (entryFrame m #[(.int p1)] 1)) tq := fun tq kq => castTop (ef_8 m p1) kq
  have pre1 : ∀ tq, Steps p.tables e below (s₁.setTop (mkF m 4 #[.val (.int p1)] [(.int (255 : Int32)), (.int p1)])) tq → Steps p.tables e below (s₁.setTop (entryFrame m #[(.int p1)] 1)) tq := by
    refine fun tq kq => pre0 tq ?_
    show Steps p.tables e below (s₁.setTop (mkF m 0 #[.val (.int p1)] [])) _
    refine XS.iloadN X0.here hx rfl (hb hby d8_0) rfl ?_
    show Steps p.tables e below (s₁.setTop (mkF m 1 #[.val (.int p1)] [(.int p1)])) _
    refine XS.sipush X0.here hx rfl (hb hby d8_1) ?_
    exact kq
  by_cases hc4 : (255 : Int32) < p1
  · skip
    have pre2 : ∀ tq, Steps p.tables e below (s₁.setTop (mkF m 11 #[.val (.int p1)] [])) tq → Steps p.tables e below (s₁.setTop (entryFrame m #[(.int p1)] 1)) tq := by
      refine fun tq kq => pre1 tq ?_
      show Steps p.tables e below (s₁.setTop (mkF m 4 #[.val (.int p1)] [(.int (255 : Int32)), (.int p1)])) _
      refine XS.icmpYes X0.here hx rfl (pc0 := 4) (pc' := 11) rfl (hb hby d8_4) rfl (tlt hc4).2.2.1 (by decide) (by decide) ?_
      exact kq
    obtain ⟨fs, hr, hrun, hended, hW, hsame⟩ := X0.leave (v := some (.int (0 : Int32))) (fun h => by rw [Bd.returns] at h; cases h)
    refine ⟨_, _, pre2 _ ?_, hrun, hended, _, _, rfl, ?_, ⟨_, rfl⟩, hW, hsame.mono (by decide) (by decide)⟩
    · skip
      show Steps p.tables e below (s₁.setTop (mkF m 11 #[.val (.int p1)] [])) _
      refine XS.iconst X0.here hx rfl (hb hby d8_11) ?_
      show Steps p.tables e below (s₁.setTop (mkF m 12 #[.val (.int p1)] [(.int (0 : Int32))])) _
      exact retN X0 hx (t := .boolean) Bd.returns (by simp) (hb hby d8_12) hr
    · show Q8 Z p1 h0 n0 _ s₁.heap _
      rw [e0]
      exact ⟨(0 : Int32), rfl, N0, rfl, Or.inl (⟨hc4, rfl⟩)⟩
  · skip
    have pre3 : ∀ tq, Steps p.tables e below (s₁.setTop (mkF m 7 #[.val (.int p1)] [])) tq → Steps p.tables e below (s₁.setTop (entryFrame m #[(.int p1)] 1)) tq := by
      refine fun tq kq => pre1 tq ?_
      show Steps p.tables e below (s₁.setTop (mkF m 4 #[.val (.int p1)] [(.int (255 : Int32)), (.int p1)])) _
      refine XS.icmpNo X0.here hx rfl (hb hby d8_4) rfl (flt hc4).2.2.1 ?_
      exact kq
    obtain ⟨fs, hr, hrun, hended, hW, hsame⟩ := X0.leave (v := some (.int (1 : Int32))) (fun h => by rw [Bd.returns] at h; cases h)
    refine ⟨_, _, pre3 _ ?_, hrun, hended, _, _, rfl, ?_, ⟨_, rfl⟩, hW, hsame.mono (by decide) (by decide)⟩
    · skip
      show Steps p.tables e below (s₁.setTop (mkF m 7 #[.val (.int p1)] [])) _
      refine XS.iconst X0.here hx rfl (hb hby d8_7) ?_
      show Steps p.tables e below (s₁.setTop (mkF m 8 #[.val (.int p1)] [(.int (1 : Int32))])) _
      refine XS.goto X0.here hx rfl (pc0 := 8) (pc' := 12) rfl (hb hby d8_8) (by decide) (by decide) ?_
      show Steps p.tables e below (s₁.setTop (mkF m 12 #[.val (.int p1)] [(.int (1 : Int32))])) _
      exact retN X0 hx (t := .boolean) Bd.returns (by simp) (hb hby d8_12) hr
    · show Q8 Z p1 h0 n0 _ s₁.heap _
      rw [e0]
      exact ⟨(1 : Int32), rfl, N0, rfl, Or.inr (⟨hc4, rfl⟩)⟩
/-! body 9 -/
theorem d9_0 : decode jdk_43_method_46_code 0 = .ok (.iconst 1, 1) := by decide +kernel
theorem d9_1 : decode jdk_43_method_46_code 1 = .ok (.newarray .byte, 2) := by decide +kernel
theorem d9_3 : decode jdk_43_method_46_code 3 = .ok (.dup, 1) := by decide +kernel
theorem d9_4 : decode jdk_43_method_46_code 4 = .ok (.iconst 0, 1) := by decide +kernel
theorem d9_5 : decode jdk_43_method_46_code 5 = .ok (.iload_n 0, 1) := by decide +kernel
theorem d9_6 : decode jdk_43_method_46_code 6 = .ok (.i2b, 1) := by decide +kernel
theorem d9_7 : decode jdk_43_method_46_code 7 = .ok (.bastore, 1) := by decide +kernel
theorem d9_8 : decode jdk_43_method_46_code 8 = .ok (.areturn, 1) := by decide +kernel
theorem pn_9 : plainName "java/lang/StringLatin1" = true := by first | (simp [plainName, overriddenIn]; done) | decide +kernel
theorem ef_9 (m : MethodId) (p1 : Int32) : entryFrame m #[(.int p1)] 1 = mkF m 0 #[.val (.int p1)] [] := by first | (simp [entryFrame, mkF, argsToLocals, Value.category]; done) | rfl
def Q9 (Z : State) (p1 : Int32) (h0 : Heap) (n0 : Nat) (v : Option Value) (h : Heap) (L : List Loc) : Prop := ∃ r : Addr, v = some (.ref r) ∧ Fr n0 L ∧ Keep h0 h [] ∧ h0.size ≤ r ∧ (True)
set_option maxRecDepth 65536 in
set_option maxHeartbeats 40000000 in
theorem rm9 (l : Launch) (Z : State) (a0 : Array Value) (hw : ∀ d ∈ tables_1, d.before a0 Z = true) (ws : List Jvm.Cond) (p1 : Int32) (h0 : Heap) (n0 : Nat) (Z0 : n0 ≤ h0.size)  :
    MetFree l (⟨"java/lang/StringLatin1", "toBytes", "(C)[B"⟩ : MethodName) (head1 (Jvm.Cond.code (⟨"java/lang/StringLatin1", "toBytes", "(C)[B"⟩ : MethodName) jdk_43_method_46_code 1 (some (.array .byte)) :: ws) ({ frames := 0, cells := 1, slots := 1, locals := 0 } : Room)) (fun a U => a = #[(.int p1)] ∧ Z.Warmed39 U.vm ∧ U.heap = h0) (fun _ _ _ _ _ => True) (fun _ U o U' => ∃ v L, o = .returned v ∧ Q9 Z p1 h0 n0 v U'.heap L ∧ FrameEnd U o U' L ({ frames := 0, cells := 1, slots := 1, locals := 0 } : Room).cells ({ frames := 0, cells := 1, slots := 1, locals := 0 } : Room).slots) := by
  refine MetFree.of_bodySF (plainFor_of_name pn_9) hisR ?_
  intro p e s m args below meth c s₁ Bd hml0 hP hK
  obtain ⟨rfl, hZ, hh⟩ := hP
  have hx := Bd.exec
  have hby := Bd.bytes
  have hml : c.maxLocals = 1 := hml0
  have hown : s.vm.findClass "java/lang/StringLatin1" = some m.cls := findClass_of_methodNamed Bd.named
  have hnm := (name_of_methodNamed Bd.named Bd.method).1
  have X0 : Stand p l e ({ frames := 0, cells := 1, slots := 1, locals := 0 } : Room) s m #[(.int p1)] below meth c s₁ [] 0 0 := Stand.of_body Bd
  have e0 : s₁.heap = h0 := by rw [← hh, Bd.state]; rfl
  have N0 := Fr.nil n0
  have pre0 : ∀ tq, Steps p.tables e below (s₁.setTop (mkF m 0 #[.val (.int p1)] [])) tq → Steps p.tables e below (s₁.setTop (entryFrame m #[(.int p1)] 1)) tq := fun tq kq => castTop (ef_9 m p1) kq
  have pre1 : ∀ tq, Steps p.tables e below (s₁.setTop (mkF m 1 #[.val (.int p1)] [(.int (1 : Int32))])) tq → Steps p.tables e below (s₁.setTop (entryFrame m #[(.int p1)] 1)) tq := by
    refine fun tq kq => pre0 tq ?_
    show Steps p.tables e below (s₁.setTop (mkF m 0 #[.val (.int p1)] [])) _
    refine XS.iconst X0.here hx rfl (hb hby d9_0) ?_
    exact kq
  obtain ⟨T2, h2, k2, X2, e2, E2, A2, st2⟩ := newP X0 hx hZ (hw _ (List.mem_of_getElem? (i := 19) rfl)) e0 (g := (mkF m 1 #[.val (.int p1)] [(.int (1 : Int32))])) rfl (hb hby d9_1) rfl (by decide) (cap := 1) (by decide) (by decide) (by decide) (by decide)
  obtain ⟨b2, g2⟩ : ∃ z, z = h0.size := ⟨_, rfl⟩
  rw [← g2] at A2 st2
  have g_b2 : n0 ≤ b2 := Nat.le_trans Z0 (Nat.le_of_eq g2.symm)
  have sz_b2 : h0.size ≤ b2 := Nat.le_trans (Nat.le_refl h0.size) (Nat.le_of_eq g2.symm)
  have pre3 : ∀ tq, Steps p.tables e below (T2.setTop (mkF m 3 #[.val (.int p1)] [(.ref b2)])) tq → Steps p.tables e below (s₁.setTop (entryFrame m #[(.int p1)] 1)) tq := fun tq kq => pre1 tq (st2 _ kq)
  have K2 : Keep h0 h2 [] := Keep.ext (Keep.refl h0 []) E2
  have f4 : Arv Z h2 b2 k2 .byte (1 : Int32) [(.int (0 : Int32))] (.int (0 : Int32)) := (Arv.new A2 (by decide)).pad (pad_rep [] (.int (0 : Int32)) 1)
  have pre5 : ∀ tq, Steps p.tables e below (T2.setTop (mkF m 7 #[.val (.int p1)] [(.int (p1.toInt8.toInt32)), (.int (0 : Int32)), (.ref b2), (.ref b2)])) tq → Steps p.tables e below (s₁.setTop (entryFrame m #[(.int p1)] 1)) tq := by
    refine fun tq kq => pre3 tq ?_
    show Steps p.tables e below (T2.setTop (mkF m 3 #[.val (.int p1)] [(.ref b2)])) _
    refine XS.dup X2.here hx rfl (hb hby d9_3) rfl rfl ?_
    show Steps p.tables e below (T2.setTop (mkF m 4 #[.val (.int p1)] [(.ref b2), (.ref b2)])) _
    refine XS.iconst X2.here hx rfl (hb hby d9_4) ?_
    show Steps p.tables e below (T2.setTop (mkF m 5 #[.val (.int p1)] [(.int (0 : Int32)), (.ref b2), (.ref b2)])) _
    refine XS.iloadN X2.here hx rfl (hb hby d9_5) rfl ?_
    show Steps p.tables e below (T2.setTop (mkF m 6 #[.val (.int p1)] [(.int p1), (.int (0 : Int32)), (.ref b2), (.ref b2)])) _
    refine XS.i2b X2.here hx rfl (hb hby d9_6) rfl ?_
    exact kq
  have Vc6 := f4
  obtain ⟨cl6, Ar6, Aq6, As6, An6, Ah6, Ag6⟩ := Vc6
  have hin6 : ¬ ((0 : Int32) < 0 ∨ cl6.slots.size ≤ ((0 : Int32)).toNatClampNeg) := inb_of As6 ⟨by decide, by decide⟩
  obtain ⟨T6, h6, X6, e6, W6, st6⟩ := stB X2 hx hZ e2 Ar6 (j := (0 : Int32)) hin6 (g := (mkF m 7 #[.val (.int p1)] [(.int (p1.toInt8.toInt32)), (.int (0 : Int32)), (.ref b2), (.ref b2)])) rfl rfl (hb hby d9_7)
  have pre7 : ∀ tq, Steps p.tables e below (T6.setTop (mkF m 8 #[.val (.int p1)] [(.ref b2)])) tq → Steps p.tables e below (s₁.setTop (entryFrame m #[(.int p1)] 1)) tq := fun tq kq => pre5 tq (st6 _ kq)
  have N6 := Fr.snoc X6 N0 g_b2
  have K6 : Keep h0 h6 [] := Keep.wr K2 W6 (Or.inr sz_b2)
  have f8 : Arv Z h6 b2 k2 .byte (1 : Int32) [(.int (nar .byte (p1.toInt8.toInt32)))] (.int (0 : Int32)) := Arv.set Ar6 Aq6 As6 An6 Ah6 Ag6 (fits_nar_byte _) W6 0 rfl (Nat.le_of_ble_eq_true rfl)
  obtain ⟨fs, hr, hrun, hended, hW, hsame⟩ := X6.leave (v := some (.ref b2)) (fun h => by rw [Bd.returns] at h; cases h)
  refine ⟨_, _, pre7 _ ?_, hrun, hended, _, _, rfl, ?_, ⟨_, rfl⟩, hW, hsame.mono (by decide) (by decide)⟩
  · skip
    show Steps p.tables e below (T6.setTop (mkF m 8 #[.val (.int p1)] [(.ref b2)])) _
    exact X6.areturnOut hx rfl Bd.returns rfl (hb hby d9_8) hr
  · show Q9 Z p1 h0 n0 _ T6.heap _
    rw [e6]
    refine ⟨b2, rfl, N6, K6, sz_b2, ?_⟩
    trivial
/-! body 10 -/
theorem d10_0 : decode jdk_42_method_151_code 0 = .ok (.aload_n 0, 1) := by decide +kernel
theorem d10_1 : decode jdk_42_method_151_code 1 = .ok (.invokespecial 1, 3) := by decide +kernel
theorem d10_4 : decode jdk_42_method_151_code 4 = .ok (.aload_n 0, 1) := by decide +kernel
theorem d10_5 : decode jdk_42_method_151_code 5 = .ok (.aload_n 1, 1) := by decide +kernel
theorem d10_6 : decode jdk_42_method_151_code 6 = .ok (.putfield 9, 3) := by decide +kernel
theorem d10_9 : decode jdk_42_method_151_code 9 = .ok (.aload_n 0, 1) := by decide +kernel
theorem d10_10 : decode jdk_42_method_151_code 10 = .ok (.iload_n 2, 1) := by decide +kernel
theorem d10_11 : decode jdk_42_method_151_code 11 = .ok (.putfield 15, 3) := by decide +kernel
theorem d10_14 : decode jdk_42_method_151_code 14 = .ok (.return_, 1) := by decide +kernel
theorem pn_10 : plainName "java/lang/String" = true := by first | (simp [plainName, overriddenIn]; done) | decide +kernel
theorem ef_10 (m : MethodId) (a1 : Addr) (a2 : Addr) (p3 : Int32) : entryFrame m #[(.ref a1), (.ref a2), (.int p3)] 3 = mkF m 0 #[.val (.ref a1), .val (.ref a2), .val (.int p3)] [] := by first | (simp [entryFrame, mkF, argsToLocals, Value.category]; done) | rfl
def Q10 (Z : State) (a1 : Addr) (a2 : Addr) (p3 : Int32) (h0 : Heap) (n0 : Nat) (v : Option Value) (h : Heap) (L : List Loc) : Prop := v = none ∧ Fr n0 L ∧ Keep h0 h [a1] ∧ (True)
set_option maxRecDepth 65536 in
set_option maxHeartbeats 40000000 in
theorem rm10 (l : Launch) (Z : State) (a0 : Array Value) (hw : ∀ d ∈ tables_1, d.before a0 Z = true) (ws : List Jvm.Cond) (a1 : Addr) (a2 : Addr) (p3 : Int32) (h0 : Heap) (n0 : Nat) (Z0 : n0 ≤ h0.size) (E_a1 : Exa Z h0 a1 "java/lang/String") (F_value_a1 : Fld Z h0 a1 "java/lang/String" "value" "[B" .null) (F_coder_a1 : Fld Z h0 a1 "java/lang/String" "coder" "B" (.int (0 : Int32))) (g_a1 : n0 ≤ a1) :
    MetFree l (⟨"java/lang/String", "<init>", "([BB)V"⟩ : MethodName) (head1 (Jvm.Cond.code (⟨"java/lang/String", "<init>", "([BB)V"⟩ : MethodName) jdk_42_method_151_code 3 none :: ws) ({ frames := 1, cells := 0, slots := 0, locals := 12 } : Room)) (fun a U => a = #[(.ref a1), (.ref a2), (.int p3)] ∧ Z.Warmed39 U.vm ∧ U.heap = h0) (fun _ _ _ _ _ => True) (fun _ U o U' => ∃ v L, o = .returned v ∧ Q10 Z a1 a2 p3 h0 n0 v U'.heap L ∧ FrameEnd U o U' L ({ frames := 1, cells := 0, slots := 0, locals := 12 } : Room).cells ({ frames := 1, cells := 0, slots := 0, locals := 12 } : Room).slots) := by
  refine MetFree.of_bodySF (plainFor_of_name pn_10) hisR ?_
  intro p e s m args below meth c s₁ Bd hml0 hP hK
  obtain ⟨rfl, hZ, hh⟩ := hP
  have hx := Bd.exec
  have hby := Bd.bytes
  have hml : c.maxLocals = 3 := hml0
  have hown : s.vm.findClass "java/lang/String" = some m.cls := findClass_of_methodNamed Bd.named
  have hnm := (name_of_methodNamed Bd.named Bd.method).1
  have X0 : Stand p l e ({ frames := 1, cells := 0, slots := 0, locals := 12 } : Room) s m #[(.ref a1), (.ref a2), (.int p3)] below meth c s₁ [] 0 0 := Stand.of_body Bd
  have e0 : s₁.heap = h0 := by rw [← hh, Bd.state]; rfl
  have N0 := Fr.nil n0
  have pre0 : ∀ tq, Steps p.tables e below (s₁.setTop (mkF m 0 #[.val (.ref a1), .val (.ref a2), .val (.int p3)] [])) tq → Steps p.tables e below (s₁.setTop (entryFrame m #[(.ref a1), (.ref a2), (.int p3)] 3)) tq := fun tq kq => castTop (ef_10 m a1 a2 p3) kq
  have pre1 : ∀ tq, Steps p.tables e below (s₁.setTop (mkF m 1 #[.val (.ref a1), .val (.ref a2), .val (.int p3)] [(.ref a1)])) tq → Steps p.tables e below (s₁.setTop (entryFrame m #[(.ref a1), (.ref a2), (.int p3)] 3)) tq := by
    refine fun tq kq => pre0 tq ?_
    show Steps p.tables e below (s₁.setTop (mkF m 0 #[.val (.ref a1), .val (.ref a2), .val (.int p3)] [])) _
    refine XS.aloadN X0.here hx rfl (hb hby d10_0) rfl rfl ?_
    exact kq
  obtain ⟨T2, X2, e2, st2⟩ := initO X0 hx hZ hown (hw _ (List.mem_of_getElem? (i := 11) rfl)) (hw _ (List.mem_of_getElem? (i := 12) rfl)) (hw _ (List.mem_of_getElem? (i := 13) rfl)) e0 (g := (mkF m 1 #[.val (.ref a1), .val (.ref a2), .val (.int p3)] [(.ref a1)])) rfl (by rw [hml]; rfl) rfl (hb hby d10_1) (by decide) (W := 0) (by show 2 * 0 + _ ≤ _; exact Nat.le_of_eq rfl) (by decide)
  have pre3 : ∀ tq, Steps p.tables e below (T2.setTop (mkF m 4 #[.val (.ref a1), .val (.ref a2), .val (.int p3)] [])) tq → Steps p.tables e below (s₁.setTop (entryFrame m #[(.ref a1), (.ref a2), (.int p3)] 3)) tq := fun tq kq => pre1 tq (st2 _ kq)
  have pre4 : ∀ tq, Steps p.tables e below (T2.setTop (mkF m 6 #[.val (.ref a1), .val (.ref a2), .val (.int p3)] [(.ref a2), (.ref a1)])) tq → Steps p.tables e below (s₁.setTop (entryFrame m #[(.ref a1), (.ref a2), (.int p3)] 3)) tq := by
    refine fun tq kq => pre3 tq ?_
    show Steps p.tables e below (T2.setTop (mkF m 4 #[.val (.ref a1), .val (.ref a2), .val (.int p3)] [])) _
    refine XS.aloadN X2.here hx rfl (hb hby d10_4) rfl rfl ?_
    show Steps p.tables e below (T2.setTop (mkF m 5 #[.val (.ref a1), .val (.ref a2), .val (.int p3)] [(.ref a1)])) _
    refine XS.aloadN X2.here hx rfl (hb hby d10_5) rfl rfl ?_
    exact kq
  obtain ⟨T5, h5, X5, e5, W5, st5⟩ := putF X2 hx hZ hown (host := "") (Or.inl (hw _ (List.mem_of_getElem? (i := 28) rfl))) Via.refl e2 F_value_a1 E_a1 (Or.inr ⟨(hw _ (List.mem_of_getElem? (i := 29) rfl)), rfl, hnm⟩) (hw _ (List.mem_of_getElem? (i := 1) rfl)) (ty := (.array .byte)) (by decide) rfl rfl (g := (mkF m 6 #[.val (.ref a1), .val (.ref a2), .val (.int p3)] [(.ref a2), (.ref a1)])) rfl rfl (hb hby d10_6)
  have pre6 : ∀ tq, Steps p.tables e below (T5.setTop (mkF m 9 #[.val (.ref a1), .val (.ref a2), .val (.int p3)] [])) tq → Steps p.tables e below (s₁.setTop (entryFrame m #[(.ref a1), (.ref a2), (.int p3)] 3)) tq := fun tq kq => pre4 tq (st5 _ kq)
  have N5 := Fr.snoc X5 N0 g_a1
  have K5 : Keep h0 h5 [a1] := Keep.wr (Keep.refl h0 [a1]) W5 (Or.inl (List.mem_of_getElem? (i := 0) rfl))
  have f7 := E_a1.wr W5
  have f8 := F_coder_a1.other W5 (Or.inr (slot_ne (Or.inr (hw _ (List.mem_of_getElem? (i := 27) rfl))) (Or.inr (hw _ (List.mem_of_getElem? (i := 29) rfl))) (by decide) (t := .byte) (t' := (.array .byte)) (by decide) (by decide)))
  have f9 := F_value_a1.same W5
  have pre10 : ∀ tq, Steps p.tables e below (T5.setTop (mkF m 11 #[.val (.ref a1), .val (.ref a2), .val (.int p3)] [(.int p3), (.ref a1)])) tq → Steps p.tables e below (s₁.setTop (entryFrame m #[(.ref a1), (.ref a2), (.int p3)] 3)) tq := by
    refine fun tq kq => pre6 tq ?_
    show Steps p.tables e below (T5.setTop (mkF m 9 #[.val (.ref a1), .val (.ref a2), .val (.int p3)] [])) _
    refine XS.aloadN X5.here hx rfl (hb hby d10_9) rfl rfl ?_
    show Steps p.tables e below (T5.setTop (mkF m 10 #[.val (.ref a1), .val (.ref a2), .val (.int p3)] [(.ref a1)])) _
    refine XS.iloadN X5.here hx rfl (hb hby d10_10) rfl ?_
    exact kq
  obtain ⟨T11, h11, X11, e11, W11, st11⟩ := putFN X5 hx hZ hown (hw _ (List.mem_of_getElem? (i := 26) rfl)) Via.refl e5 f8 f7 (Or.inr ⟨(hw _ (List.mem_of_getElem? (i := 27) rfl)), rfl, hnm⟩) (hw _ (List.mem_of_getElem? (i := 1) rfl)) (ty := .byte) (v' := (.int (nar .byte p3))) (by decide) rfl (fits_nar_byte _) (g := (mkF m 11 #[.val (.ref a1), .val (.ref a2), .val (.int p3)] [(.int p3), (.ref a1)])) rfl rfl (hb hby d10_11)
  have pre12 : ∀ tq, Steps p.tables e below (T11.setTop (mkF m 14 #[.val (.ref a1), .val (.ref a2), .val (.int p3)] [])) tq → Steps p.tables e below (s₁.setTop (entryFrame m #[(.ref a1), (.ref a2), (.int p3)] 3)) tq := fun tq kq => pre10 tq (st11 _ kq)
  have N11 := Fr.snoc X11 N5 g_a1
  have K11 : Keep h0 h11 [a1] := Keep.wr K5 W11 (Or.inl (List.mem_of_getElem? (i := 0) rfl))
  have f13 := f7.wr W11
  have f14 := f9.other W11 (Or.inr (slot_ne (Or.inr (hw _ (List.mem_of_getElem? (i := 29) rfl))) (Or.inr (hw _ (List.mem_of_getElem? (i := 27) rfl))) (by decide) (t := (.array .byte)) (t' := .byte) (by decide) (by decide)))
  have f15 := f8.same W11
  obtain ⟨fs, hr, hrun, hended, hW, hsame⟩ := X11.leave (v := none) (fun _ => rfl)
  refine ⟨_, _, pre12 _ ?_, hrun, hended, _, _, rfl, ?_, ⟨_, rfl⟩, hW, hsame.mono (by decide) (by decide)⟩
  · skip
    show Steps p.tables e below (T11.setTop (mkF m 14 #[.val (.ref a1), .val (.ref a2), .val (.int p3)] [])) _
    exact X11.returnOut hx Bd.returns (hb hby d10_14) hr
  · show Q10 Z a1 a2 p3 h0 n0 _ T11.heap _
    rw [e11]
    refine ⟨rfl, N11, K11, ?_⟩
    trivial
/-! body 7 -/
theorem d7_0 : decode jdk_42_method_139_code 0 = .ok (.getstatic 38, 3) := by decide +kernel
theorem d7_3 : decode jdk_42_method_139_code 3 = .ok (.ifCond .eq 23, 3) := by decide +kernel
theorem d7_6 : decode jdk_42_method_139_code 6 = .ok (.iload_n 0, 1) := by decide +kernel
theorem d7_7 : decode jdk_42_method_139_code 7 = .ok (.invokestatic 1015, 3) := by decide +kernel
theorem d7_10 : decode jdk_42_method_139_code 10 = .ok (.ifCond .eq 16, 3) := by decide +kernel
theorem d7_13 : decode jdk_42_method_139_code 13 = .ok (.new 10, 3) := by decide +kernel
theorem d7_16 : decode jdk_42_method_139_code 16 = .ok (.dup, 1) := by decide +kernel
theorem d7_17 : decode jdk_42_method_139_code 17 = .ok (.iload_n 0, 1) := by decide +kernel
theorem d7_18 : decode jdk_42_method_139_code 18 = .ok (.invokestatic 1018, 3) := by decide +kernel
theorem d7_21 : decode jdk_42_method_139_code 21 = .ok (.iconst 0, 1) := by decide +kernel
theorem d7_22 : decode jdk_42_method_139_code 22 = .ok (.invokespecial 209, 3) := by decide +kernel
theorem d7_25 : decode jdk_42_method_139_code 25 = .ok (.areturn, 1) := by decide +kernel
theorem pn_7 : plainName "java/lang/String" = true := by first | (simp [plainName, overriddenIn]; done) | decide +kernel
theorem pd7_0 : parseMethodDescriptor "(C)Z" = some ⟨[.char], some .boolean⟩ := by decide +kernel
theorem pd7_1 : parseMethodDescriptor "(C)[B" = some ⟨[.char], some (.array .byte)⟩ := by decide +kernel
theorem pd7_2 : parseMethodDescriptor "([BB)V" = some ⟨[(.array .byte), .byte], none⟩ := by decide +kernel
theorem ef_7 (m : MethodId) (p1 : Int32) : entryFrame m #[(.int p1)] 1 = mkF m 0 #[.val (.int p1)] [] := by first | (simp [entryFrame, mkF, argsToLocals, Value.category]; done) | rfl
def Q7 (Z : State) (p1 : Int32) (wC : Int32) (h0 : Heap) (n0 : Nat) (v : Option Value) (h : Heap) (L : List Loc) : Prop := ∃ r : Addr, v = some (.ref r) ∧ Fr n0 L ∧ Keep h0 h [] ∧ h0.size ≤ r ∧ Exa Z h r "java/lang/String" ∧ (True)
set_option maxRecDepth 65536 in
set_option maxHeartbeats 40000000 in
theorem rm7 (l : Launch) (Z : State) (a0 : Array Value) (hw : ∀ d ∈ tables_1, d.before a0 Z = true) (ws : List Jvm.Cond) (p1 : Int32) (wC : Int32) (h0 : Heap) (n0 : Nat) (Z0 : n0 ≤ h0.size) (S_COMPACT_STRINGS : Sta Z h0 "java/lang/String" "COMPACT_STRINGS" "Z" (.int wC)) (hC : ¬ (wC = (0 : Int32))) (hp : ¬ ((255 : Int32) < p1)) :
    MetFree l (⟨"java/lang/String", "valueOf", "(C)Ljava/lang/String;"⟩ : MethodName) (head1 (Jvm.Cond.code (⟨"java/lang/String", "valueOf", "(C)Ljava/lang/String;"⟩ : MethodName) jdk_42_method_139_code 1 (some (.object "java/lang/String")) :: ws) ({ frames := 2, cells := 2, slots := 5, locals := 27 } : Room)) (fun a U => a = #[(.int p1)] ∧ Z.Warmed39 U.vm ∧ U.heap = h0) (fun _ _ _ _ _ => True) (fun _ U o U' => ∃ v L, o = .returned v ∧ Q7 Z p1 wC h0 n0 v U'.heap L ∧ FrameEnd U o U' L ({ frames := 2, cells := 2, slots := 5, locals := 27 } : Room).cells ({ frames := 2, cells := 2, slots := 5, locals := 27 } : Room).slots) := by
  refine MetFree.of_bodySF (plainFor_of_name pn_7) hisR ?_
  intro p e s m args below meth c s₁ Bd hml0 hP hK
  obtain ⟨rfl, hZ, hh⟩ := hP
  have hx := Bd.exec
  have hby := Bd.bytes
  have hml : c.maxLocals = 1 := hml0
  have hown : s.vm.findClass "java/lang/String" = some m.cls := findClass_of_methodNamed Bd.named
  have hnm := (name_of_methodNamed Bd.named Bd.method).1
  have X0 : Stand p l e ({ frames := 2, cells := 2, slots := 5, locals := 27 } : Room) s m #[(.int p1)] below meth c s₁ [] 0 0 := Stand.of_body Bd
  have e0 : s₁.heap = h0 := by rw [← hh, Bd.state]; rfl
  have N0 := Fr.nil n0
  have pre0 : ∀ tq, Steps p.tables e below (s₁.setTop (mkF m 0 #[.val (.int p1)] [])) tq → Steps p.tables e below (s₁.setTop (entryFrame m #[(.int p1)] 1)) tq := fun tq kq => castTop (ef_7 m p1) kq
  obtain ⟨T1, X1, e1, st1⟩ := getS2 X0 hx hZ hown (host := "") (Or.inl (hw _ (List.mem_of_getElem? (i := 14) rfl))) Via.refl e0 S_COMPACT_STRINGS (g := (mkF m 0 #[.val (.int p1)] [])) rfl (hb hby d7_0)
  have pre2 : ∀ tq, Steps p.tables e below (T1.setTop (mkF m 3 #[.val (.int p1)] [(.int wC)])) tq → Steps p.tables e below (s₁.setTop (entryFrame m #[(.int p1)] 1)) tq := fun tq kq => pre0 tq (st1 _ kq)
  have hc3 : ¬ (wC = (0 : Int32)) := by exact hC
  have pre3 : ∀ tq, Steps p.tables e below (T1.setTop (mkF m 6 #[.val (.int p1)] [])) tq → Steps p.tables e below (s₁.setTop (entryFrame m #[(.int p1)] 1)) tq := by
    refine fun tq kq => pre2 tq ?_
    show Steps p.tables e below (T1.setTop (mkF m 3 #[.val (.int p1)] [(.int wC)])) _
    refine XS.ifNo X1.here hx rfl (hb hby d7_3) rfl ((if0 _ _).trans (feq hc3).1) ?_
    exact kq
  have pre4 : ∀ tq, Steps p.tables e below (T1.setTop (mkF m 7 #[.val (.int p1)] [(.int p1)])) tq → Steps p.tables e below (s₁.setTop (entryFrame m #[(.int p1)] 1)) tq := by
    refine fun tq kq => pre3 tq ?_
    show Steps p.tables e below (T1.setTop (mkF m 6 #[.val (.int p1)] [])) _
    refine XS.iloadN X1.here hx rfl (hb hby d7_6) rfl ?_
    exact kq
  have Z5 : n0 ≤ h0.size := Z0
  obtain ⟨_, _, ⟨T5, L5, k5, n5⟩, -, X5, ⟨Lc5, hQ5, l5, y5, z5⟩, st5⟩ := Jvm.LawKit.callS X1 hx (y := (⟨"java/lang/StringLatin1", "canEncode", "(C)Z"⟩ : MethodName)) hown (mvT hZ (hw _ (List.mem_of_getElem? (i := 33) rfl))) (mvT hZ (hw _ (List.mem_of_getElem? (i := 34) rfl))) (mvT hZ (hw _ (List.mem_of_getElem? (i := 35) rfl))) (mvT hZ (hw _ (List.mem_of_getElem? (i := 36) rfl))) (by decide) (backOf (W := 0) (rm8 l Z a0 hw [] p1  h0 n0 Z5 ) hZ (hw _ (List.mem_of_getElem? (i := 36) rfl)) (hw _ (List.mem_of_getElem? (i := 35) rfl)) (by decide) (by decide)) (g := (mkF m 7 #[.val (.int p1)] [(.int p1)])) rfl (by rw [hml]; rfl) (argsL := [(.int p1)]) (rest := []) (lenOf pd7_0 rfl) rfl (by show 2 * 0 + _ ≤ _; exact Nat.le_of_eq rfl) (hb hby d7_7) (fun _ _ => ⟨rfl, e1, (by decide : 0 + 0 ≤ _), (by decide : 0 + 0 ≤ _)⟩)
  dsimp only [Pt.U, Pt.locs, Pt.cells, Pt.slots] at X5 l5 y5 z5 st5 hQ5
  subst l5 y5 z5
  obtain ⟨r6, rfl, Nq5, ehq5, hq5⟩ := hQ5
  have N5 := Fr.app N0 Nq5
  have pre7 : ∀ tq, Steps p.tables e below (T5.setTop (mkF m 10 #[.val (.int p1)] [(.int r6)])) tq → Steps p.tables e below (s₁.setTop (entryFrame m #[(.int p1)] 1)) tq := fun tq kq => pre4 tq (st5 _ kq)
  have hm_r6 : r6 = (1 : Int32) := by rcases hq5 with ⟨q1, q2⟩ | ⟨q1, q2⟩ <;> first | exact q2 | exact absurd q1 hp | exact absurd hp q1
  subst hm_r6
  have pre8 : ∀ tq, Steps p.tables e below (T5.setTop (mkF m 13 #[.val (.int p1)] [])) tq → Steps p.tables e below (s₁.setTop (entryFrame m #[(.int p1)] 1)) tq := by
    refine fun tq kq => pre7 tq ?_
    show Steps p.tables e below (T5.setTop (mkF m 10 #[.val (.int p1)] [(.int (1 : Int32))])) _
    refine XS.ifNo X5.here hx rfl (hb hby d7_10) rfl ((if0 _ _).trans (feq (by decide : ¬ ((1 : Int32) = (0 : Int32)))).1) ?_
    exact kq
  obtain ⟨T9, h9, X9, e9, E9, A9, D9, -, st9⟩ := newO X5 hx hZ hown (hw _ (List.mem_of_getElem? (i := 37) rfl)) (hw _ (List.mem_of_getElem? (i := 1) rfl)) (hw _ (List.mem_of_getElem? (i := 2) rfl)) ehq5 (g := (mkF m 13 #[.val (.int p1)] [])) rfl (hb hby d7_13) (by decide) (by decide)
  obtain ⟨b9, g9⟩ : ∃ z, z = h0.size := ⟨_, rfl⟩
  rw [← g9] at A9 D9 st9
  have g_b9 : n0 ≤ b9 := Nat.le_trans Z0 (Nat.le_of_eq g9.symm)
  have sz_b9 : h0.size ≤ b9 := Nat.le_trans (Nat.le_refl h0.size) (Nat.le_of_eq g9.symm)
  have pre10 : ∀ tq, Steps p.tables e below (T9.setTop (mkF m 16 #[.val (.int p1)] [(.ref b9)])) tq → Steps p.tables e below (s₁.setTop (entryFrame m #[(.int p1)] 1)) tq := fun tq kq => pre8 tq (st9 _ kq)
  have f11 := S_COMPACT_STRINGS.ext E9
  have K9 : Keep h0 h9 [] := Keep.ext (Keep.refl h0 []) E9
  have f12 : Fld Z h9 b9 "java/lang/String" "coder" "B" (.int (0 : Int32)) := D9 (Or.inr (hw _ (List.mem_of_getElem? (i := 27) rfl))) (ty := .byte) (by decide)
  have f13 : Fld Z h9 b9 "java/lang/String" "value" "[B" .null := D9 (Or.inr (hw _ (List.mem_of_getElem? (i := 29) rfl))) (ty := (.array .byte)) (by decide)
  have pre14 : ∀ tq, Steps p.tables e below (T9.setTop (mkF m 18 #[.val (.int p1)] [(.int p1), (.ref b9), (.ref b9)])) tq → Steps p.tables e below (s₁.setTop (entryFrame m #[(.int p1)] 1)) tq := by
    refine fun tq kq => pre10 tq ?_
    show Steps p.tables e below (T9.setTop (mkF m 16 #[.val (.int p1)] [(.ref b9)])) _
    refine XS.dup X9.here hx rfl (hb hby d7_16) rfl rfl ?_
    show Steps p.tables e below (T9.setTop (mkF m 17 #[.val (.int p1)] [(.ref b9), (.ref b9)])) _
    refine XS.iloadN X9.here hx rfl (hb hby d7_17) rfl ?_
    exact kq
  have Z15 : n0 ≤ h9.size := (Nat.le_trans Z0 E9.1)
  obtain ⟨_, _, ⟨T15, L15, k15, n15⟩, -, X15, ⟨Lc15, hQ15, l15, y15, z15⟩, st15⟩ := Jvm.LawKit.callS X9 hx (y := (⟨"java/lang/StringLatin1", "toBytes", "(C)[B"⟩ : MethodName)) hown (mvT hZ (hw _ (List.mem_of_getElem? (i := 38) rfl))) (mvT hZ (hw _ (List.mem_of_getElem? (i := 39) rfl))) (mvT hZ (hw _ (List.mem_of_getElem? (i := 35) rfl))) (mvT hZ (hw _ (List.mem_of_getElem? (i := 40) rfl))) (by decide) (backOf (W := 2) (rm9 l Z a0 hw [] p1  h9 n0 Z15 ) hZ (hw _ (List.mem_of_getElem? (i := 40) rfl)) (hw _ (List.mem_of_getElem? (i := 35) rfl)) (by decide) (by decide)) (g := (mkF m 18 #[.val (.int p1)] [(.int p1), (.ref b9), (.ref b9)])) rfl (by rw [hml]; rfl) (argsL := [(.int p1)]) (rest := [(.ref b9), (.ref b9)]) (lenOf pd7_1 rfl) rfl (by show 2 * 0 + _ ≤ _; exact Nat.le_of_eq rfl) (hb hby d7_18) (fun _ _ => ⟨rfl, e9, (by decide : ((0 + 0) + 1) + 1 ≤ _), (by decide : ((0 + 0) + 4) + 1 ≤ _)⟩)
  dsimp only [Pt.U, Pt.locs, Pt.cells, Pt.slots] at X15 l15 y15 z15 st15 hQ15
  subst l15 y15 z15
  obtain ⟨r16, rfl, Nq15, Kq15, f17, hq15⟩ := hQ15
  have N15 := Fr.app N5 Nq15
  have pre18 : ∀ tq, Steps p.tables e below (T15.setTop (mkF m 21 #[.val (.int p1)] [(.ref r16), (.ref b9), (.ref b9)])) tq → Steps p.tables e below (s₁.setTop (entryFrame m #[(.int p1)] 1)) tq := fun tq kq => pre14 tq (st15 _ kq)
  have K15 : Keep h0 T15.heap [] := Keep.trans K9 Kq15 all0
  have f19 := own_sta_keep f11 Kq15 all0
  have f20 := A9.keep Kq15
  have f21 := f12.keep Kq15 (List.not_mem_nil)
  have f22 := f13.keep Kq15 (List.not_mem_nil)
  have g_r16 : n0 ≤ r16 := Nat.le_trans Z15 f17
  have sz_r16 : h0.size ≤ r16 := Nat.le_trans (Nat.le_trans (Nat.le_refl h0.size) E9.1) f17
  have ne23 : b9 ≠ r16 := Nat.ne_of_lt (Nat.lt_of_lt_of_le A9.lt f17)
  have pre24 : ∀ tq, Steps p.tables e below (T15.setTop (mkF m 22 #[.val (.int p1)] [(.int (0 : Int32)), (.ref r16), (.ref b9), (.ref b9)])) tq → Steps p.tables e below (s₁.setTop (entryFrame m #[(.int p1)] 1)) tq := by
    refine fun tq kq => pre18 tq ?_
    show Steps p.tables e below (T15.setTop (mkF m 21 #[.val (.int p1)] [(.ref r16), (.ref b9), (.ref b9)])) _
    refine XS.iconst X15.here hx rfl (hb hby d7_21) ?_
    exact kq
  have Z25 : n0 ≤ T15.heap.size := (Nat.le_trans Z15 Kq15.1)
  obtain ⟨_, _, ⟨T25, L25, k25, n25⟩, -, X25, ⟨Lc25, hQ25, l25, y25, z25⟩, st25⟩ := X15.specialBack hx (y := (⟨"java/lang/String", "<init>", "([BB)V"⟩ : MethodName)) rfl hown (mvT hZ (hw _ (List.mem_of_getElem? (i := 41) rfl))) (mvT hZ (hw _ (List.mem_of_getElem? (i := 42) rfl))) (mvT hZ (hw _ (List.mem_of_getElem? (i := 43) rfl))) (by decide) (backOf (W := 1) (rm10 l Z a0 hw [] b9 r16 (0 : Int32)  T15.heap n0 Z25 f20 f22 f21 g_b9) hZ (hw _ (List.mem_of_getElem? (i := 43) rfl)) (hw _ (List.mem_of_getElem? (i := 2) rfl)) (by decide) (by decide)) (g := (mkF m 22 #[.val (.int p1)] [(.int (0 : Int32)), (.ref r16), (.ref b9), (.ref b9)])) rfl (by rw [hml]; rfl) (Steps.refl _) (a := b9) (argsL := [(.ref r16), (.int (0 : Int32))]) (rest := [(.ref b9)]) (lenOf pd7_2 rfl) rfl (by show 2 * 0 + _ ≤ _; exact Nat.le_of_eq rfl) (hb hby d7_22) (fun _ _ => ⟨rfl, rfl, (by decide : (((0 + 0) + 1) + 1) + 0 ≤ _), (by decide : (((0 + 0) + 4) + 1) + 0 ≤ _)⟩)
  dsimp only [Pt.U, Pt.locs, Pt.cells, Pt.slots] at X25 l25 y25 z25 st25 hQ25
  subst l25 y25 z25
  obtain ⟨rfl, Nq25, Kq25, hq25⟩ := hQ25
  have N25 := Fr.app N15 Nq25
  have pre26 : ∀ tq, Steps p.tables e below (T25.setTop (mkF m 25 #[.val (.int p1)] [(.ref b9)])) tq → Steps p.tables e below (s₁.setTop (entryFrame m #[(.int p1)] 1)) tq := fun tq kq => pre24 tq (st25.trans kq)
  have K25 : Keep h0 T25.heap [] := Keep.trans K15 Kq25 (allS (Or.inr sz_b9) all0)
  have f27 := own_sta_keep f19 Kq25 (allS (own_nostat f20) all0)
  have f28 := f20.keep Kq25
  obtain ⟨fs, hr, hrun, hended, hW, hsame⟩ := X25.leave (v := some (.ref b9)) (fun h => by rw [Bd.returns] at h; cases h)
  refine ⟨_, _, pre26 _ ?_, hrun, hended, _, _, rfl, ?_, ⟨_, rfl⟩, hW, hsame.mono (by decide) (by decide)⟩
  · skip
    show Steps p.tables e below (T25.setTop (mkF m 25 #[.val (.int p1)] [(.ref b9)])) _
    exact X25.areturnOut hx rfl Bd.returns rfl (hb hby d7_25) hr
  · show Q7 Z p1 wC h0 n0 _ T25.heap _
    refine ⟨b9, rfl, N25, K25, sz_b9, f28, ?_⟩
    trivial
/-! body 12 -/
theorem d12_0 : decode jdk_30_method_1_code 0 = .ok (.aload_n 0, 1) := by decide +kernel
theorem d12_1 : decode jdk_30_method_1_code 1 = .ok (.invokespecial 1, 3) := by decide +kernel
theorem d12_4 : decode jdk_30_method_1_code 4 = .ok (.return_, 1) := by decide +kernel
theorem pn_12 : plainName "java/lang/Record" = true := by first | (simp [plainName, overriddenIn]; done) | decide +kernel
theorem ef_12 (m : MethodId) (a1 : Addr) : entryFrame m #[(.ref a1)] 1 = mkF m 0 #[.val (.ref a1)] [] := by first | (simp [entryFrame, mkF, argsToLocals, Value.category]; done) | rfl
def Q12 (Z : State) (a1 : Addr) (h0 : Heap) (n0 : Nat) (v : Option Value) (h : Heap) (L : List Loc) : Prop := v = none ∧ Fr n0 L ∧ h = h0 ∧ (True)
set_option maxRecDepth 65536 in
set_option maxHeartbeats 40000000 in
theorem rm12 (l : Launch) (Z : State) (a0 : Array Value) (hw : ∀ d ∈ tables_1, d.before a0 Z = true) (ws : List Jvm.Cond) (a1 : Addr) (h0 : Heap) (n0 : Nat) (Z0 : n0 ≤ h0.size)  :
    MetFree l (⟨"java/lang/Record", "<init>", "()V"⟩ : MethodName) (head1 (Jvm.Cond.code (⟨"java/lang/Record", "<init>", "()V"⟩ : MethodName) jdk_30_method_1_code 1 none :: ws) ({ frames := 1, cells := 0, slots := 0, locals := 12 } : Room)) (fun a U => a = #[(.ref a1)] ∧ Z.Warmed39 U.vm ∧ U.heap = h0) (fun _ _ _ _ _ => True) (fun _ U o U' => ∃ v L, o = .returned v ∧ Q12 Z a1 h0 n0 v U'.heap L ∧ FrameEnd U o U' L ({ frames := 1, cells := 0, slots := 0, locals := 12 } : Room).cells ({ frames := 1, cells := 0, slots := 0, locals := 12 } : Room).slots) := by
  refine MetFree.of_bodySF (plainFor_of_name pn_12) hisR ?_
  intro p e s m args below meth c s₁ Bd hml0 hP hK
  obtain ⟨rfl, hZ, hh⟩ := hP
  have hx := Bd.exec
  have hby := Bd.bytes
  have hml : c.maxLocals = 1 := hml0
  have hown : s.vm.findClass "java/lang/Record" = some m.cls := findClass_of_methodNamed Bd.named
  have hnm := (name_of_methodNamed Bd.named Bd.method).1
  have X0 : Stand p l e ({ frames := 1, cells := 0, slots := 0, locals := 12 } : Room) s m #[(.ref a1)] below meth c s₁ [] 0 0 := Stand.of_body Bd
  have e0 : s₁.heap = h0 := by rw [← hh, Bd.state]; rfl
  have N0 := Fr.nil n0
  have pre0 : ∀ tq, Steps p.tables e below (s₁.setTop (mkF m 0 #[.val (.ref a1)] [])) tq → Steps p.tables e below (s₁.setTop (entryFrame m #[(.ref a1)] 1)) tq := fun tq kq => castTop (ef_12 m a1) kq
  have pre1 : ∀ tq, Steps p.tables e below (s₁.setTop (mkF m 1 #[.val (.ref a1)] [(.ref a1)])) tq → Steps p.tables e below (s₁.setTop (entryFrame m #[(.ref a1)] 1)) tq := by
    refine fun tq kq => pre0 tq ?_
    show Steps p.tables e below (s₁.setTop (mkF m 0 #[.val (.ref a1)] [])) _
    refine XS.aloadN X0.here hx rfl (hb hby d12_0) rfl rfl ?_
    exact kq
  obtain ⟨T2, X2, e2, st2⟩ := initO X0 hx hZ hown (hw _ (List.mem_of_getElem? (i := 55) rfl)) (hw _ (List.mem_of_getElem? (i := 12) rfl)) (hw _ (List.mem_of_getElem? (i := 13) rfl)) e0 (g := (mkF m 1 #[.val (.ref a1)] [(.ref a1)])) rfl (by rw [hml]; rfl) rfl (hb hby d12_1) (by decide) (W := 0) (by show 2 * 0 + _ ≤ _; exact Nat.le_of_eq rfl) (by decide)
  have pre3 : ∀ tq, Steps p.tables e below (T2.setTop (mkF m 4 #[.val (.ref a1)] [])) tq → Steps p.tables e below (s₁.setTop (entryFrame m #[(.ref a1)] 1)) tq := fun tq kq => pre1 tq (st2 _ kq)
  obtain ⟨fs, hr, hrun, hended, hW, hsame⟩ := X2.leave (v := none) (fun _ => rfl)
  refine ⟨_, _, pre3 _ ?_, hrun, hended, _, _, rfl, ?_, ⟨_, rfl⟩, hW, hsame.mono (by decide) (by decide)⟩
  · skip
    show Steps p.tables e below (T2.setTop (mkF m 4 #[.val (.ref a1)] [])) _
    exact X2.returnOut hx Bd.returns (hb hby d12_4) hr
  · show Q12 Z a1 h0 n0 _ T2.heap _
    rw [e2]
    exact ⟨rfl, N0, rfl, trivial⟩
/-! body 13 -/
theorem d13_0 : decode jdk_31_method_11_code 0 = .ok (.aload_n 0, 1) := by decide +kernel
theorem d13_1 : decode jdk_31_method_11_code 1 = .ok (.ifnonnull 12, 3) := by decide +kernel
theorem d13_13 : decode jdk_31_method_11_code 13 = .ok (.aload_n 0, 1) := by decide +kernel
theorem d13_14 : decode jdk_31_method_11_code 14 = .ok (.areturn, 1) := by decide +kernel
theorem pn_13 : plainName "java/util/Objects" = true := by first | (simp [plainName, overriddenIn]; done) | decide +kernel
theorem ef_13 (m : MethodId) (a1 : Addr) (a2 : Addr) : entryFrame m #[(.ref a1), (.ref a2)] 2 = mkF m 0 #[.val (.ref a1), .val (.ref a2)] [] := by first | (simp [entryFrame, mkF, argsToLocals, Value.category]; done) | rfl
def Q13 (Z : State) (a1 : Addr) (a2 : Addr) (h0 : Heap) (n0 : Nat) (v : Option Value) (h : Heap) (L : List Loc) : Prop := ∃ r : Addr, v = some (.ref r) ∧ Fr n0 L ∧ h = h0 ∧ (r = a1)
set_option maxRecDepth 65536 in
set_option maxHeartbeats 40000000 in
theorem rm13 (l : Launch) (Z : State) (a0 : Array Value) (hw : ∀ d ∈ tables_1, d.before a0 Z = true) (ws : List Jvm.Cond) (a1 : Addr) (a2 : Addr) (h0 : Heap) (n0 : Nat) (Z0 : n0 ≤ h0.size)  :
    MetFree l (⟨"java/util/Objects", "requireNonNull", "(Ljava/lang/Object;Ljava/lang/String;)Ljava/lang/Object;"⟩ : MethodName) (head1 (Jvm.Cond.code (⟨"java/util/Objects", "requireNonNull", "(Ljava/lang/Object;Ljava/lang/String;)Ljava/lang/Object;"⟩ : MethodName) jdk_31_method_11_code 2 (some (.object "java/lang/Object")) :: ws) ({ frames := 0, cells := 0, slots := 0, locals := 0 } : Room)) (fun a U => a = #[(.ref a1), (.ref a2)] ∧ Z.Warmed39 U.vm ∧ U.heap = h0) (fun _ _ _ _ _ => True) (fun _ U o U' => ∃ v L, o = .returned v ∧ Q13 Z a1 a2 h0 n0 v U'.heap L ∧ FrameEnd U o U' L ({ frames := 0, cells := 0, slots := 0, locals := 0 } : Room).cells ({ frames := 0, cells := 0, slots := 0, locals := 0 } : Room).slots) := by
  refine MetFree.of_bodySF (plainFor_of_name pn_13) hisR ?_
  intro p e s m args below meth c s₁ Bd hml0 hP hK
  obtain ⟨rfl, hZ, hh⟩ := hP
  have hx := Bd.exec
  have hby := Bd.bytes
  have hml : c.maxLocals = 2 := hml0
  have hown : s.vm.findClass "java/util/Objects" = some m.cls := findClass_of_methodNamed Bd.named
  have hnm := (name_of_methodNamed Bd.named Bd.method).1
  have X0 : Stand p l e ({ frames := 0, cells := 0, slots := 0, locals := 0 } : Room) s m #[(.ref a1), (.ref a2)] below meth c s₁ [] 0 0 := Stand.of_body Bd
  have e0 : s₁.heap = h0 := by rw [← hh, Bd.state]; rfl
  have N0 := Fr.nil n0
  have pre0 : ∀ tq, Steps p.tables e below (s₁.setTop (mkF m 0 #[.val (.ref a1), .val (.ref a2)] [])) tq → Steps p.tables e below (s₁.setTop (entryFrame m #[(.ref a1), (.ref a2)] 2)) tq := fun tq kq => castTop (ef_13 m a1 a2) kq
  have pre1 : ∀ tq, Steps p.tables e below (s₁.setTop (mkF m 13 #[.val (.ref a1), .val (.ref a2)] [])) tq → Steps p.tables e below (s₁.setTop (entryFrame m #[(.ref a1), (.ref a2)] 2)) tq := by
    refine fun tq kq => pre0 tq ?_
    show Steps p.tables e below (s₁.setTop (mkF m 0 #[.val (.ref a1), .val (.ref a2)] [])) _
    refine XS.aloadN X0.here hx rfl (hb hby d13_0) rfl rfl ?_
    show Steps p.tables e below (s₁.setTop (mkF m 1 #[.val (.ref a1), .val (.ref a2)] [(.ref a1)])) _
    refine XS.ifnonnullYes X0.here hx rfl (pc0 := 1) (pc' := 13) rfl (hb hby d13_1) rfl (by decide) (by decide) ?_
    exact kq
  obtain ⟨fs, hr, hrun, hended, hW, hsame⟩ := X0.leave (v := some (.ref a1)) (fun h => by rw [Bd.returns] at h; cases h)
  refine ⟨_, _, pre1 _ ?_, hrun, hended, _, _, rfl, ?_, ⟨_, rfl⟩, hW, hsame.mono (by decide) (by decide)⟩
  · skip
    show Steps p.tables e below (s₁.setTop (mkF m 13 #[.val (.ref a1), .val (.ref a2)] [])) _
    refine XS.aloadN X0.here hx rfl (hb hby d13_13) rfl rfl ?_
    show Steps p.tables e below (s₁.setTop (mkF m 14 #[.val (.ref a1), .val (.ref a2)] [(.ref a1)])) _
    exact X0.areturnOut hx rfl Bd.returns rfl (hb hby d13_14) hr
  · show Q13 Z a1 a2 h0 n0 _ s₁.heap _
    rw [e0]
    exact ⟨a1, rfl, N0, rfl, rfl⟩
/-! body 11v -/
theorem d11v_0 : decode prog_53_method_1_code 0 = .ok (.aload_n 0, 1) := by decide +kernel
theorem d11v_1 : decode prog_53_method_1_code 1 = .ok (.invokespecial 1, 3) := by decide +kernel
theorem d11v_4 : decode prog_53_method_1_code 4 = .ok (.aload_n 1, 1) := by decide +kernel
theorem d11v_5 : decode prog_53_method_1_code 5 = .ok (.ldc 7, 2) := by decide +kernel
theorem d11v_7 : decode prog_53_method_1_code 7 = .ok (.invokestatic 9, 3) := by decide +kernel
theorem d11v_10 : decode prog_53_method_1_code 10 = .ok (.pop, 1) := by decide +kernel
theorem d11v_11 : decode prog_53_method_1_code 11 = .ok (.aload_n 3, 1) := by decide +kernel
theorem d11v_12 : decode prog_53_method_1_code 12 = .ok (.ldc 15, 2) := by decide +kernel
theorem d11v_14 : decode prog_53_method_1_code 14 = .ok (.invokestatic 9, 3) := by decide +kernel
theorem d11v_17 : decode prog_53_method_1_code 17 = .ok (.pop, 1) := by decide +kernel
theorem d11v_18 : decode prog_53_method_1_code 18 = .ok (.aload_n 0, 1) := by decide +kernel
theorem d11v_19 : decode prog_53_method_1_code 19 = .ok (.aload_n 1, 1) := by decide +kernel
theorem d11v_20 : decode prog_53_method_1_code 20 = .ok (.putfield 17, 3) := by decide +kernel
theorem d11v_23 : decode prog_53_method_1_code 23 = .ok (.aload_n 0, 1) := by decide +kernel
theorem d11v_24 : decode prog_53_method_1_code 24 = .ok (.aload_n 2, 1) := by decide +kernel
theorem d11v_25 : decode prog_53_method_1_code 25 = .ok (.putfield 22, 3) := by decide +kernel
theorem d11v_28 : decode prog_53_method_1_code 28 = .ok (.aload_n 0, 1) := by decide +kernel
theorem d11v_29 : decode prog_53_method_1_code 29 = .ok (.aload_n 3, 1) := by decide +kernel
theorem d11v_30 : decode prog_53_method_1_code 30 = .ok (.putfield 25, 3) := by decide +kernel
theorem d11v_33 : decode prog_53_method_1_code 33 = .ok (.return_, 1) := by decide +kernel
theorem pn_11v : plainName "com/example/purgecast/purgecast/server/Option" = true := by first | (simp [plainName, overriddenIn]; done) | decide +kernel
theorem pd11v_0 : parseMethodDescriptor "()V" = some ⟨[], none⟩ := by decide +kernel
theorem pd11v_1 : parseMethodDescriptor "(Ljava/lang/Object;Ljava/lang/String;)Ljava/lang/Object;" = some ⟨[(.object "java/lang/Object"), (.object "java/lang/String")], some (.object "java/lang/Object")⟩ := by decide +kernel
theorem ef_11v (m : MethodId) (a1 : Addr) (a2 : Addr) (a3 : Addr) (a4 : Addr) : entryFrame m #[(.ref a1), (.ref a2), (.ref a3), (.ref a4)] 4 = mkF m 0 #[.val (.ref a1), .val (.ref a2), .val (.ref a3), .val (.ref a4)] [] := by first | (simp [entryFrame, mkF, argsToLocals, Value.category]; done) | rfl
def Q11v (Z : State) (a1 : Addr) (a2 : Addr) (a3 : Addr) (a4 : Addr) (h0 : Heap) (n0 : Nat) (v : Option Value) (h : Heap) (L : List Loc) : Prop := v = none ∧ Fr n0 L ∧ Keep h0 h [a1] ∧ Fld Z h a1 "com/example/purgecast/purgecast/server/Option" "valueName" "Ljava/lang/String;" (.ref a3) ∧ (True)
set_option maxRecDepth 65536 in
set_option maxHeartbeats 40000000 in
theorem rm11v (l : Launch) (Z : State) (a0 : Array Value) (hw : ∀ d ∈ tables_1, d.before a0 Z = true) (ws : List Jvm.Cond) (a1 : Addr) (a2 : Addr) (a3 : Addr) (a4 : Addr) (h0 : Heap) (n0 : Nat) (Z0 : n0 ≤ h0.size) (E_a1 : Exa Z h0 a1 "com/example/purgecast/purgecast/server/Option") (F_name_a1 : Fld Z h0 a1 "com/example/purgecast/purgecast/server/Option" "name" "Ljava/lang/String;" .null) (F_valueName_a1 : Fld Z h0 a1 "com/example/purgecast/purgecast/server/Option" "valueName" "Ljava/lang/String;" .null) (F_description_a1 : Fld Z h0 a1 "com/example/purgecast/purgecast/server/Option" "description" "Ljava/lang/String;" .null) (g_a1 : n0 ≤ a1) :
    MetFree l (⟨"com/example/purgecast/purgecast/server/Option", "<init>", "(Ljava/lang/String;Ljava/lang/String;Ljava/lang/String;)V"⟩ : MethodName) (head1 (Jvm.Cond.code (⟨"com/example/purgecast/purgecast/server/Option", "<init>", "(Ljava/lang/String;Ljava/lang/String;Ljava/lang/String;)V"⟩ : MethodName) prog_53_method_1_code 4 none :: ws) ({ frames := 2, cells := 4, slots := 68, locals := 24 } : Room)) (fun a U => a = #[(.ref a1), (.ref a2), (.ref a3), (.ref a4)] ∧ Z.Warmed39 U.vm ∧ U.heap = h0) (fun _ _ _ _ _ => True) (fun _ U o U' => ∃ v L, o = .returned v ∧ Q11v Z a1 a2 a3 a4 h0 n0 v U'.heap L ∧ ReturnedEndW U o U' L ({ frames := 2, cells := 4, slots := 68, locals := 24 } : Room).cells ({ frames := 2, cells := 4, slots := 68, locals := 24 } : Room).slots) := by
  refine MetFree.of_bodySF (plainFor_of_name pn_11v) hisR ?_
  intro p e s m args below meth c s₁ Bd hml0 hP hK
  obtain ⟨rfl, hZ, hh⟩ := hP
  have hx := Bd.exec
  have hby := Bd.bytes
  have hml : c.maxLocals = 4 := hml0
  have hown : s.vm.findClass "com/example/purgecast/purgecast/server/Option" = some m.cls := findClass_of_methodNamed Bd.named
  have hnm := (name_of_methodNamed Bd.named Bd.method).1
  have X0 : Stand p l e ({ frames := 2, cells := 4, slots := 68, locals := 24 } : Room) s m #[(.ref a1), (.ref a2), (.ref a3), (.ref a4)] below meth c s₁ [] 0 0 := Stand.of_body Bd
  have e0 : s₁.heap = h0 := by rw [← hh, Bd.state]; rfl
  have N0 := Fr.nil n0
  have pre0 : ∀ tq, Steps p.tables e below (s₁.setTop (mkF m 0 #[.val (.ref a1), .val (.ref a2), .val (.ref a3), .val (.ref a4)] [])) tq → Steps p.tables e below (s₁.setTop (entryFrame m #[(.ref a1), (.ref a2), (.ref a3), (.ref a4)] 4)) tq := fun tq kq => castTop (ef_11v m a1 a2 a3 a4) kq
  have pre1 : ∀ tq, Steps p.tables e below (s₁.setTop (mkF m 1 #[.val (.ref a1), .val (.ref a2), .val (.ref a3), .val (.ref a4)] [(.ref a1)])) tq → Steps p.tables e below (s₁.setTop (entryFrame m #[(.ref a1), (.ref a2), (.ref a3), (.ref a4)] 4)) tq := by
    refine fun tq kq => pre0 tq ?_
    show Steps p.tables e below (s₁.setTop (mkF m 0 #[.val (.ref a1), .val (.ref a2), .val (.ref a3), .val (.ref a4)] [])) _
    refine XS.aloadN X0.here hx rfl (hb hby d11v_0) rfl rfl ?_
    exact kq
  have Z2 : n0 ≤ h0.size := Z0
  obtain ⟨_, _, ⟨T2, L2, k2, n2⟩, -, X2, ⟨Lc2, hQ2, l2, y2, z2⟩, st2⟩ := X0.specialBack hx (y := (⟨"java/lang/Record", "<init>", "()V"⟩ : MethodName)) rfl hown (mvT hZ (hw _ (List.mem_of_getElem? (i := 50) rfl))) (mvT hZ (hw _ (List.mem_of_getElem? (i := 51) rfl))) (mvT hZ (hw _ (List.mem_of_getElem? (i := 54) rfl))) (by decide) (backOf (W := 0) (rm12 l Z a0 hw [] a1  h0 n0 Z2 ) hZ (hw _ (List.mem_of_getElem? (i := 54) rfl)) (hw _ (List.mem_of_getElem? (i := 53) rfl)) (by decide) (by decide)) (g := (mkF m 1 #[.val (.ref a1), .val (.ref a2), .val (.ref a3), .val (.ref a4)] [(.ref a1)])) rfl (by rw [hml]; rfl) (Steps.refl _) (a := a1) (argsL := []) (rest := []) (lenOf pd11v_0 rfl) rfl (by show 2 * 0 + _ ≤ _; exact Nat.le_of_eq rfl) (hb hby d11v_1) (fun _ _ => ⟨rfl, e0, (by decide : 0 + 0 ≤ _), (by decide : 0 + 0 ≤ _)⟩)
  dsimp only [Pt.U, Pt.locs, Pt.cells, Pt.slots] at X2 l2 y2 z2 st2 hQ2
  subst l2 y2 z2
  obtain ⟨rfl, Nq2, ehq2, hq2⟩ := hQ2
  have N2 := Fr.app N0 Nq2
  have pre3 : ∀ tq, Steps p.tables e below (T2.setTop (mkF m 4 #[.val (.ref a1), .val (.ref a2), .val (.ref a3), .val (.ref a4)] [])) tq → Steps p.tables e below (s₁.setTop (entryFrame m #[(.ref a1), (.ref a2), (.ref a3), (.ref a4)] 4)) tq := fun tq kq => pre1 tq (st2.trans kq)
  have pre4 : ∀ tq, Steps p.tables e below (T2.setTop (mkF m 5 #[.val (.ref a1), .val (.ref a2), .val (.ref a3), .val (.ref a4)] [(.ref a2)])) tq → Steps p.tables e below (s₁.setTop (entryFrame m #[(.ref a1), (.ref a2), (.ref a3), (.ref a4)] 4)) tq := by
    refine fun tq kq => pre3 tq ?_
    show Steps p.tables e below (T2.setTop (mkF m 4 #[.val (.ref a1), .val (.ref a2), .val (.ref a3), .val (.ref a4)] [])) _
    refine XS.aloadN X2.here hx rfl (hb hby d11v_4) rfl rfl ?_
    exact kq
  have wS : ∀ a ∈ Bundle.stringAtoms, a.before a0 Z = true := (List.forall_mem_cons.mpr ⟨(hw _ (List.mem_of_getElem? (i := 2) rfl)), (List.forall_mem_cons.mpr ⟨(hw _ (List.mem_of_getElem? (i := 1) rfl)), (List.forall_mem_cons.mpr ⟨(hw _ (List.mem_of_getElem? (i := 19) rfl)), (List.forall_mem_cons.mpr ⟨(hw _ (List.mem_of_getElem? (i := 29) rfl)), (List.forall_mem_cons.mpr ⟨(hw _ (List.mem_of_getElem? (i := 27) rfl)), (List.forall_mem_cons.mpr ⟨(hw _ (List.mem_of_getElem? (i := 57) rfl)), (List.forall_mem_cons.mpr ⟨(hw _ (List.mem_of_getElem? (i := 58) rfl)), (fun _ hh => nomatch hh)⟩)⟩)⟩)⟩)⟩)⟩)⟩)
  have hSi : s.Since s.vm h0.size := (State.WarmedH.refl s).since _
  obtain ⟨sa5, T5, h5, kk5, X5, e5, E5, hS5, hk5, hZ5, hown5, st5⟩ := ldcS (s := s) (vm0 := s.vm) X2 hx hZ hown (hw _ (List.mem_of_getElem? (i := 56) rfl)) wS ehq2 hSi (Nat.le_refl _) (g := (mkF m 5 #[.val (.ref a1), .val (.ref a2), .val (.ref a3), .val (.ref a4)] [(.ref a2)])) rfl (hb hby d11v_5) (n := 16) (by decide) (by decide) (by decide) (by decide)
  have pre6 : ∀ tq, Steps p.tables e below (T5.setTop (mkF m 7 #[.val (.ref a1), .val (.ref a2), .val (.ref a3), .val (.ref a4)] [(.ref sa5), (.ref a2)])) tq → Steps p.tables e below (s₁.setTop (entryFrame m #[(.ref a1), (.ref a2), (.ref a3), (.ref a4)] 4)) tq := fun tq kq => pre4 tq (st5 _ kq)
  have f7 := E_a1.ext E5
  have f8 := F_name_a1.ext E5
  have f9 := F_valueName_a1.ext E5
  have f10 := F_description_a1.ext E5
  have K5 : Keep h0 h5 [a1] := Keep.ext (Keep.refl h0 [a1]) E5
  have Z11 : n0 ≤ h5.size := (Nat.le_trans Z0 E5.1)
  obtain ⟨_, _, ⟨T11, L11, k11, n11⟩, -, X11, ⟨Lc11, hQ11, l11, y11, z11⟩, st11⟩ := Jvm.LawKit.callS X5 hx (y := (⟨"java/util/Objects", "requireNonNull", "(Ljava/lang/Object;Ljava/lang/String;)Ljava/lang/Object;"⟩ : MethodName)) hown5 (mvT hZ5 (hw _ (List.mem_of_getElem? (i := 59) rfl))) (mvT hZ5 (hw _ (List.mem_of_getElem? (i := 60) rfl))) (mvT hZ5 (hw _ (List.mem_of_getElem? (i := 61) rfl))) (mvT hZ5 (hw _ (List.mem_of_getElem? (i := 62) rfl))) (by decide) (backOf (W := 0) (rm13 l Z a0 hw [] a2 sa5  h5 n0 Z11 ) hZ5 (hw _ (List.mem_of_getElem? (i := 62) rfl)) (hw _ (List.mem_of_getElem? (i := 61) rfl)) (by decide) (by decide)) (g := (mkF m 7 #[.val (.ref a1), .val (.ref a2), .val (.ref a3), .val (.ref a4)] [(.ref sa5), (.ref a2)])) rfl (by rw [hml]; rfl) (argsL := [(.ref a2), (.ref sa5)]) (rest := []) (lenOf pd11v_1 rfl) rfl (by show 2 * 0 + _ ≤ _; exact Nat.le_of_eq rfl) (hb hby d11v_7) (fun _ _ => ⟨rfl, e5, (by decide : ((0 + 0) + 2) + 0 ≤ _), (by decide : ((0 + 0) + 20) + 0 ≤ _)⟩)
  dsimp only [Pt.U, Pt.locs, Pt.cells, Pt.slots] at X11 l11 y11 z11 st11 hQ11
  subst l11 y11 z11
  obtain ⟨r12, rfl, Nq11, ehq11, hq11⟩ := hQ11
  have N11 := Fr.app N2 Nq11
  have pre13 : ∀ tq, Steps p.tables e below (T11.setTop (mkF m 10 #[.val (.ref a1), .val (.ref a2), .val (.ref a3), .val (.ref a4)] [(.ref r12)])) tq → Steps p.tables e below (s₁.setTop (entryFrame m #[(.ref a1), (.ref a2), (.ref a3), (.ref a4)] 4)) tq := fun tq kq => pre6 tq (st11 _ kq)
  have pre14 : ∀ tq, Steps p.tables e below (T11.setTop (mkF m 12 #[.val (.ref a1), .val (.ref a2), .val (.ref a3), .val (.ref a4)] [(.ref a4)])) tq → Steps p.tables e below (s₁.setTop (entryFrame m #[(.ref a1), (.ref a2), (.ref a3), (.ref a4)] 4)) tq := by
    refine fun tq kq => pre13 tq ?_
    show Steps p.tables e below (T11.setTop (mkF m 10 #[.val (.ref a1), .val (.ref a2), .val (.ref a3), .val (.ref a4)] [(.ref r12)])) _
    refine XS.pop X11.here hx rfl (hb hby d11v_10) rfl rfl ?_
    show Steps p.tables e below (T11.setTop (mkF m 11 #[.val (.ref a1), .val (.ref a2), .val (.ref a3), .val (.ref a4)] [])) _
    refine XS.aloadN X11.here hx rfl (hb hby d11v_11) rfl rfl ?_
    exact kq
  obtain ⟨sa15, T15, h15, kk15, X15, e15, E15, hS15, hk15, hZ15, hown15, st15⟩ := ldcS (s := s) (vm0 := T5.vm) X11 hx hZ5 hown5 (hw _ (List.mem_of_getElem? (i := 63) rfl)) wS ehq11 hS5 hk5 (g := (mkF m 12 #[.val (.ref a1), .val (.ref a2), .val (.ref a3), .val (.ref a4)] [(.ref a4)])) rfl (hb hby d11v_12) (n := 44) (by decide) (by decide) (by decide) (by decide)
  have pre16 : ∀ tq, Steps p.tables e below (T15.setTop (mkF m 14 #[.val (.ref a1), .val (.ref a2), .val (.ref a3), .val (.ref a4)] [(.ref sa15), (.ref a4)])) tq → Steps p.tables e below (s₁.setTop (entryFrame m #[(.ref a1), (.ref a2), (.ref a3), (.ref a4)] 4)) tq := fun tq kq => pre14 tq (st15 _ kq)
  have f17 := f7.ext E15
  have f18 := f8.ext E15
  have f19 := f9.ext E15
  have f20 := f10.ext E15
  have K15 : Keep h0 h15 [a1] := Keep.ext K5 E15
  have Z21 : n0 ≤ h15.size := (Nat.le_trans (Nat.le_trans Z0 E5.1) E15.1)
  obtain ⟨_, _, ⟨T21, L21, k21, n21⟩, -, X21, ⟨Lc21, hQ21, l21, y21, z21⟩, st21⟩ := Jvm.LawKit.callS X15 hx (y := (⟨"java/util/Objects", "requireNonNull", "(Ljava/lang/Object;Ljava/lang/String;)Ljava/lang/Object;"⟩ : MethodName)) hown15 (mvT hZ15 (hw _ (List.mem_of_getElem? (i := 59) rfl))) (mvT hZ15 (hw _ (List.mem_of_getElem? (i := 60) rfl))) (mvT hZ15 (hw _ (List.mem_of_getElem? (i := 61) rfl))) (mvT hZ15 (hw _ (List.mem_of_getElem? (i := 62) rfl))) (by decide) (backOf (W := 0) (rm13 l Z a0 hw [] a4 sa15  h15 n0 Z21 ) hZ15 (hw _ (List.mem_of_getElem? (i := 62) rfl)) (hw _ (List.mem_of_getElem? (i := 61) rfl)) (by decide) (by decide)) (g := (mkF m 14 #[.val (.ref a1), .val (.ref a2), .val (.ref a3), .val (.ref a4)] [(.ref sa15), (.ref a4)])) rfl (by rw [hml]; rfl) (argsL := [(.ref a4), (.ref sa15)]) (rest := []) (lenOf pd11v_1 rfl) rfl (by show 2 * 0 + _ ≤ _; exact Nat.le_of_eq rfl) (hb hby d11v_14) (fun _ _ => ⟨rfl, e15, (by decide : ((((0 + 0) + 2) + 0) + 2) + 0 ≤ _), (by decide : ((((0 + 0) + 20) + 0) + 48) + 0 ≤ _)⟩)
  dsimp only [Pt.U, Pt.locs, Pt.cells, Pt.slots] at X21 l21 y21 z21 st21 hQ21
  subst l21 y21 z21
  obtain ⟨r22, rfl, Nq21, ehq21, hq21⟩ := hQ21
  have N21 := Fr.app N11 Nq21
  have pre23 : ∀ tq, Steps p.tables e below (T21.setTop (mkF m 17 #[.val (.ref a1), .val (.ref a2), .val (.ref a3), .val (.ref a4)] [(.ref r22)])) tq → Steps p.tables e below (s₁.setTop (entryFrame m #[(.ref a1), (.ref a2), (.ref a3), (.ref a4)] 4)) tq := fun tq kq => pre16 tq (st21 _ kq)
  have pre24 : ∀ tq, Steps p.tables e below (T21.setTop (mkF m 20 #[.val (.ref a1), .val (.ref a2), .val (.ref a3), .val (.ref a4)] [(.ref a2), (.ref a1)])) tq → Steps p.tables e below (s₁.setTop (entryFrame m #[(.ref a1), (.ref a2), (.ref a3), (.ref a4)] 4)) tq := by
    refine fun tq kq => pre23 tq ?_
    show Steps p.tables e below (T21.setTop (mkF m 17 #[.val (.ref a1), .val (.ref a2), .val (.ref a3), .val (.ref a4)] [(.ref r22)])) _
    refine XS.pop X21.here hx rfl (hb hby d11v_17) rfl rfl ?_
    show Steps p.tables e below (T21.setTop (mkF m 18 #[.val (.ref a1), .val (.ref a2), .val (.ref a3), .val (.ref a4)] [])) _
    refine XS.aloadN X21.here hx rfl (hb hby d11v_18) rfl rfl ?_
    show Steps p.tables e below (T21.setTop (mkF m 19 #[.val (.ref a1), .val (.ref a2), .val (.ref a3), .val (.ref a4)] [(.ref a1)])) _
    refine XS.aloadN X21.here hx rfl (hb hby d11v_19) rfl rfl ?_
    exact kq
  obtain ⟨T25, h25, X25, e25, W25, st25⟩ := putF X21 hx hZ15 hown15 (host := "") (Or.inl (hw _ (List.mem_of_getElem? (i := 64) rfl))) Via.refl ehq21 f18 f17 (Or.inr ⟨(hw _ (List.mem_of_getElem? (i := 65) rfl)), rfl, hnm⟩) (hw _ (List.mem_of_getElem? (i := 45) rfl)) (ty := (.object "java/lang/String")) (by decide) rfl rfl (g := (mkF m 20 #[.val (.ref a1), .val (.ref a2), .val (.ref a3), .val (.ref a4)] [(.ref a2), (.ref a1)])) rfl rfl (hb hby d11v_20)
  have pre26 : ∀ tq, Steps p.tables e below (T25.setTop (mkF m 23 #[.val (.ref a1), .val (.ref a2), .val (.ref a3), .val (.ref a4)] [])) tq → Steps p.tables e below (s₁.setTop (entryFrame m #[(.ref a1), (.ref a2), (.ref a3), (.ref a4)] 4)) tq := fun tq kq => pre24 tq (st25 _ kq)
  have N25 := Fr.snoc X25 N21 g_a1
  have K25 : Keep h0 h25 [a1] := Keep.wr K15 W25 (Or.inl (List.mem_of_getElem? (i := 0) rfl))
  have f27 := f17.wr W25
  have f28 := f19.other W25 (Or.inr (slot_ne (Or.inr (hw _ (List.mem_of_getElem? (i := 67) rfl))) (Or.inr (hw _ (List.mem_of_getElem? (i := 65) rfl))) (by decide) (t := (.object "java/lang/String")) (t' := (.object "java/lang/String")) (by decide) (by decide)))
  have f29 := f20.other W25 (Or.inr (slot_ne (Or.inr (hw _ (List.mem_of_getElem? (i := 69) rfl))) (Or.inr (hw _ (List.mem_of_getElem? (i := 65) rfl))) (by decide) (t := (.object "java/lang/String")) (t' := (.object "java/lang/String")) (by decide) (by decide)))
  have f30 := f18.same W25
  have pre31 : ∀ tq, Steps p.tables e below (T25.setTop (mkF m 25 #[.val (.ref a1), .val (.ref a2), .val (.ref a3), .val (.ref a4)] [(.ref a3), (.ref a1)])) tq → Steps p.tables e below (s₁.setTop (entryFrame m #[(.ref a1), (.ref a2), (.ref a3), (.ref a4)] 4)) tq := by
    refine fun tq kq => pre26 tq ?_
    show Steps p.tables e below (T25.setTop (mkF m 23 #[.val (.ref a1), .val (.ref a2), .val (.ref a3), .val (.ref a4)] [])) _
    refine XS.aloadN X25.here hx rfl (hb hby d11v_23) rfl rfl ?_
    show Steps p.tables e below (T25.setTop (mkF m 24 #[.val (.ref a1), .val (.ref a2), .val (.ref a3), .val (.ref a4)] [(.ref a1)])) _
    refine XS.aloadN X25.here hx rfl (hb hby d11v_24) rfl rfl ?_
    exact kq
  obtain ⟨T32, h32, X32, e32, W32, st32⟩ := putF X25 hx hZ15 hown15 (host := "") (Or.inl (hw _ (List.mem_of_getElem? (i := 66) rfl))) Via.refl e25 f28 f27 (Or.inr ⟨(hw _ (List.mem_of_getElem? (i := 67) rfl)), rfl, hnm⟩) (hw _ (List.mem_of_getElem? (i := 45) rfl)) (ty := (.object "java/lang/String")) (by decide) rfl rfl (g := (mkF m 25 #[.val (.ref a1), .val (.ref a2), .val (.ref a3), .val (.ref a4)] [(.ref a3), (.ref a1)])) rfl rfl (hb hby d11v_25)
  have pre33 : ∀ tq, Steps p.tables e below (T32.setTop (mkF m 28 #[.val (.ref a1), .val (.ref a2), .val (.ref a3), .val (.ref a4)] [])) tq → Steps p.tables e below (s₁.setTop (entryFrame m #[(.ref a1), (.ref a2), (.ref a3), (.ref a4)] 4)) tq := fun tq kq => pre31 tq (st32 _ kq)
  have N32 := Fr.snoc X32 N25 g_a1
  have K32 : Keep h0 h32 [a1] := Keep.wr K25 W32 (Or.inl (List.mem_of_getElem? (i := 0) rfl))
  have f34 := f27.wr W32
  have f35 := f29.other W32 (Or.inr (slot_ne (Or.inr (hw _ (List.mem_of_getElem? (i := 69) rfl))) (Or.inr (hw _ (List.mem_of_getElem? (i := 67) rfl))) (by decide) (t := (.object "java/lang/String")) (t' := (.object "java/lang/String")) (by decide) (by decide)))
  have f36 := f30.other W32 (Or.inr (slot_ne (Or.inr (hw _ (List.mem_of_getElem? (i := 65) rfl))) (Or.inr (hw _ (List.mem_of_getElem? (i := 67) rfl))) (by decide) (t := (.object "java/lang/String")) (t' := (.object "java/lang/String")) (by decide) (by decide)))
  have f37 := f28.same W32
  have pre38 : ∀ tq, Steps p.tables e below (T32.setTop (mkF m 30 #[.val (.ref a1), .val (.ref a2), .val (.ref a3), .val (.ref a4)] [(.ref a4), (.ref a1)])) tq → Steps p.tables e below (s₁.setTop (entryFrame m #[(.ref a1), (.ref a2), (.ref a3), (.ref a4)] 4)) tq := by
    refine fun tq kq => pre33 tq ?_
    show Steps p.tables e below (T32.setTop (mkF m 28 #[.val (.ref a1), .val (.ref a2), .val (.ref a3), .val (.ref a4)] [])) _
    refine XS.aloadN X32.here hx rfl (hb hby d11v_28) rfl rfl ?_
    show Steps p.tables e below (T32.setTop (mkF m 29 #[.val (.ref a1), .val (.ref a2), .val (.ref a3), .val (.ref a4)] [(.ref a1)])) _
    refine XS.aloadN X32.here hx rfl (hb hby d11v_29) rfl rfl ?_
    exact kq
  obtain ⟨T39, h39, X39, e39, W39, st39⟩ := putF X32 hx hZ15 hown15 (host := "") (Or.inl (hw _ (List.mem_of_getElem? (i := 68) rfl))) Via.refl e32 f35 f34 (Or.inr ⟨(hw _ (List.mem_of_getElem? (i := 69) rfl)), rfl, hnm⟩) (hw _ (List.mem_of_getElem? (i := 45) rfl)) (ty := (.object "java/lang/String")) (by decide) rfl rfl (g := (mkF m 30 #[.val (.ref a1), .val (.ref a2), .val (.ref a3), .val (.ref a4)] [(.ref a4), (.ref a1)])) rfl rfl (hb hby d11v_30)
  have pre40 : ∀ tq, Steps p.tables e below (T39.setTop (mkF m 33 #[.val (.ref a1), .val (.ref a2), .val (.ref a3), .val (.ref a4)] [])) tq → Steps p.tables e below (s₁.setTop (entryFrame m #[(.ref a1), (.ref a2), (.ref a3), (.ref a4)] 4)) tq := fun tq kq => pre38 tq (st39 _ kq)
  have N39 := Fr.snoc X39 N32 g_a1
  have K39 : Keep h0 h39 [a1] := Keep.wr K32 W39 (Or.inl (List.mem_of_getElem? (i := 0) rfl))
  have f41 := f34.wr W39
  have f42 := f36.other W39 (Or.inr (slot_ne (Or.inr (hw _ (List.mem_of_getElem? (i := 65) rfl))) (Or.inr (hw _ (List.mem_of_getElem? (i := 69) rfl))) (by decide) (t := (.object "java/lang/String")) (t' := (.object "java/lang/String")) (by decide) (by decide)))
  have f43 := f37.other W39 (Or.inr (slot_ne (Or.inr (hw _ (List.mem_of_getElem? (i := 67) rfl))) (Or.inr (hw _ (List.mem_of_getElem? (i := 69) rfl))) (by decide) (t := (.object "java/lang/String")) (t' := (.object "java/lang/String")) (by decide) (by decide)))
  have f44 := f35.same W39
  obtain ⟨fs, hr, hrun, hended, hEnd⟩ := Stand.leaveW (s := s) (vm₁ := T15.vm) X39 hS15 (by rw [e39]; exact (Nat.le_trans (Nat.le_trans (Nat.le_trans hk15 (Keep.of_wr W25).1) (Keep.of_wr W32).1) (Keep.of_wr W39).1)) (v := none) (fun _ => rfl)
  refine ⟨_, _, pre40 _ ?_, hrun, hended, _, _, rfl, ?_, hEnd.1, hEnd.2.1, hEnd.2.2.1, hEnd.2.2.2.mono (by decide) (by decide)⟩
  · skip
    show Steps p.tables e below (T39.setTop (mkF m 33 #[.val (.ref a1), .val (.ref a2), .val (.ref a3), .val (.ref a4)] [])) _
    exact X39.returnOut hx Bd.returns (hb hby d11v_33) hr
  · show Q11v Z a1 a2 a3 a4 h0 n0 _ T39.heap _
    rw [e39]
    refine ⟨rfl, N39, K39, f43, ?_⟩
    trivial
/-! body 11n -/
theorem d11n_0 : decode prog_53_method_1_code 0 = .ok (.aload_n 0, 1) := by decide +kernel
theorem d11n_1 : decode prog_53_method_1_code 1 = .ok (.invokespecial 1, 3) := by decide +kernel
theorem d11n_4 : decode prog_53_method_1_code 4 = .ok (.aload_n 1, 1) := by decide +kernel
theorem d11n_5 : decode prog_53_method_1_code 5 = .ok (.ldc 7, 2) := by decide +kernel
theorem d11n_7 : decode prog_53_method_1_code 7 = .ok (.invokestatic 9, 3) := by decide +kernel
theorem d11n_10 : decode prog_53_method_1_code 10 = .ok (.pop, 1) := by decide +kernel
theorem d11n_11 : decode prog_53_method_1_code 11 = .ok (.aload_n 3, 1) := by decide +kernel
theorem d11n_12 : decode prog_53_method_1_code 12 = .ok (.ldc 15, 2) := by decide +kernel
theorem d11n_14 : decode prog_53_method_1_code 14 = .ok (.invokestatic 9, 3) := by decide +kernel
theorem d11n_17 : decode prog_53_method_1_code 17 = .ok (.pop, 1) := by decide +kernel
theorem d11n_18 : decode prog_53_method_1_code 18 = .ok (.aload_n 0, 1) := by decide +kernel
theorem d11n_19 : decode prog_53_method_1_code 19 = .ok (.aload_n 1, 1) := by decide +kernel
theorem d11n_20 : decode prog_53_method_1_code 20 = .ok (.putfield 17, 3) := by decide +kernel
theorem d11n_23 : decode prog_53_method_1_code 23 = .ok (.aload_n 0, 1) := by decide +kernel
theorem d11n_24 : decode prog_53_method_1_code 24 = .ok (.aload_n 2, 1) := by decide +kernel
theorem d11n_25 : decode prog_53_method_1_code 25 = .ok (.putfield 22, 3) := by decide +kernel
theorem d11n_28 : decode prog_53_method_1_code 28 = .ok (.aload_n 0, 1) := by decide +kernel
theorem d11n_29 : decode prog_53_method_1_code 29 = .ok (.aload_n 3, 1) := by decide +kernel
theorem d11n_30 : decode prog_53_method_1_code 30 = .ok (.putfield 25, 3) := by decide +kernel
theorem d11n_33 : decode prog_53_method_1_code 33 = .ok (.return_, 1) := by decide +kernel
theorem pn_11n : plainName "com/example/purgecast/purgecast/server/Option" = true := by first | (simp [plainName, overriddenIn]; done) | decide +kernel
theorem pd11n_0 : parseMethodDescriptor "()V" = some ⟨[], none⟩ := by decide +kernel
theorem pd11n_1 : parseMethodDescriptor "(Ljava/lang/Object;Ljava/lang/String;)Ljava/lang/Object;" = some ⟨[(.object "java/lang/Object"), (.object "java/lang/String")], some (.object "java/lang/Object")⟩ := by decide +kernel
theorem ef_11n (m : MethodId) (a1 : Addr) (a2 : Addr) (a4 : Addr) : entryFrame m #[(.ref a1), (.ref a2), .null, (.ref a4)] 4 = mkF m 0 #[.val (.ref a1), .val (.ref a2), .val .null, .val (.ref a4)] [] := by first | (simp [entryFrame, mkF, argsToLocals, Value.category]; done) | rfl
def Q11n (Z : State) (a1 : Addr) (a2 : Addr) (a4 : Addr) (h0 : Heap) (n0 : Nat) (v : Option Value) (h : Heap) (L : List Loc) : Prop := v = none ∧ Fr n0 L ∧ Keep h0 h [a1] ∧ Fld Z h a1 "com/example/purgecast/purgecast/server/Option" "valueName" "Ljava/lang/String;" .null ∧ (True)
set_option maxRecDepth 65536 in
set_option maxHeartbeats 40000000 in
theorem rm11n (l : Launch) (Z : State) (a0 : Array Value) (hw : ∀ d ∈ tables_1, d.before a0 Z = true) (ws : List Jvm.Cond) (a1 : Addr) (a2 : Addr) (a4 : Addr) (h0 : Heap) (n0 : Nat) (Z0 : n0 ≤ h0.size) (E_a1 : Exa Z h0 a1 "com/example/purgecast/purgecast/server/Option") (F_name_a1 : Fld Z h0 a1 "com/example/purgecast/purgecast/server/Option" "name" "Ljava/lang/String;" .null) (F_valueName_a1 : Fld Z h0 a1 "com/example/purgecast/purgecast/server/Option" "valueName" "Ljava/lang/String;" .null) (F_description_a1 : Fld Z h0 a1 "com/example/purgecast/purgecast/server/Option" "description" "Ljava/lang/String;" .null) (g_a1 : n0 ≤ a1) :
    MetFree l (⟨"com/example/purgecast/purgecast/server/Option", "<init>", "(Ljava/lang/String;Ljava/lang/String;Ljava/lang/String;)V"⟩ : MethodName) (head1 (Jvm.Cond.code (⟨"com/example/purgecast/purgecast/server/Option", "<init>", "(Ljava/lang/String;Ljava/lang/String;Ljava/lang/String;)V"⟩ : MethodName) prog_53_method_1_code 4 none :: ws) ({ frames := 2, cells := 4, slots := 68, locals := 24 } : Room)) (fun a U => a = #[(.ref a1), (.ref a2), .null, (.ref a4)] ∧ Z.Warmed39 U.vm ∧ U.heap = h0) (fun _ _ _ _ _ => True) (fun _ U o U' => ∃ v L, o = .returned v ∧ Q11n Z a1 a2 a4 h0 n0 v U'.heap L ∧ ReturnedEndW U o U' L ({ frames := 2, cells := 4, slots := 68, locals := 24 } : Room).cells ({ frames := 2, cells := 4, slots := 68, locals := 24 } : Room).slots) := by
  refine MetFree.of_bodySF (plainFor_of_name pn_11n) hisR ?_
  intro p e s m args below meth c s₁ Bd hml0 hP hK
  obtain ⟨rfl, hZ, hh⟩ := hP
  have hx := Bd.exec
  have hby := Bd.bytes
  have hml : c.maxLocals = 4 := hml0
  have hown : s.vm.findClass "com/example/purgecast/purgecast/server/Option" = some m.cls := findClass_of_methodNamed Bd.named
  have hnm := (name_of_methodNamed Bd.named Bd.method).1
  have X0 : Stand p l e ({ frames := 2, cells := 4, slots := 68, locals := 24 } : Room) s m #[(.ref a1), (.ref a2), .null, (.ref a4)] below meth c s₁ [] 0 0 := Stand.of_body Bd
  have e0 : s₁.heap = h0 := by rw [← hh, Bd.state]; rfl
  have N0 := Fr.nil n0
  have pre0 : ∀ tq, Steps p.tables e below (s₁.setTop (mkF m 0 #[.val (.ref a1), .val (.ref a2), .val .null, .val (.ref a4)] [])) tq → Steps p.tables e below (s₁.setTop (entryFrame m #[(.ref a1), (.ref a2), .null, (.ref a4)] 4)) tq := fun tq kq => castTop (ef_11n m a1 a2 a4) kq
  have pre1 : ∀ tq, Steps p.tables e below (s₁.setTop (mkF m 1 #[.val (.ref a1), .val (.ref a2), .val .null, .val (.ref a4)] [(.ref a1)])) tq → Steps p.tables e below (s₁.setTop (entryFrame m #[(.ref a1), (.ref a2), .null, (.ref a4)] 4)) tq := by
    refine fun tq kq => pre0 tq ?_
    show Steps p.tables e below (s₁.setTop (mkF m 0 #[.val (.ref a1), .val (.ref a2), .val .null, .val (.ref a4)] [])) _
    refine XS.aloadN X0.here hx rfl (hb hby d11n_0) rfl rfl ?_
    exact kq
  have Z2 : n0 ≤ h0.size := Z0
  obtain ⟨_, _, ⟨T2, L2, k2, n2⟩, -, X2, ⟨Lc2, hQ2, l2, y2, z2⟩, st2⟩ := X0.specialBack hx (y := (⟨"java/lang/Record", "<init>", "()V"⟩ : MethodName)) rfl hown (mvT hZ (hw _ (List.mem_of_getElem? (i := 50) rfl))) (mvT hZ (hw _ (List.mem_of_getElem? (i := 51) rfl))) (mvT hZ (hw _ (List.mem_of_getElem? (i := 54) rfl))) (by decide) (backOf (W := 0) (rm12 l Z a0 hw [] a1  h0 n0 Z2 ) hZ (hw _ (List.mem_of_getElem? (i := 54) rfl)) (hw _ (List.mem_of_getElem? (i := 53) rfl)) (by decide) (by decide)) (g := (mkF m 1 #[.val (.ref a1), .val (.ref a2), .val .null, .val (.ref a4)] [(.ref a1)])) rfl (by rw [hml]; rfl) (Steps.refl _) (a := a1) (argsL := []) (rest := []) (lenOf pd11n_0 rfl) rfl (by show 2 * 0 + _ ≤ _; exact Nat.le_of_eq rfl) (hb hby d11n_1) (fun _ _ => ⟨rfl, e0, (by decide : 0 + 0 ≤ _), (by decide : 0 + 0 ≤ _)⟩)
  dsimp only [Pt.U, Pt.locs, Pt.cells, Pt.slots] at X2 l2 y2 z2 st2 hQ2
  subst l2 y2 z2
  obtain ⟨rfl, Nq2, ehq2, hq2⟩ := hQ2
  have N2 := Fr.app N0 Nq2
  have pre3 : ∀ tq, Steps p.tables e below (T2.setTop (mkF m 4 #[.val (.ref a1), .val (.ref a2), .val .null, .val (.ref a4)] [])) tq → Steps p.tables e below (s₁.setTop (entryFrame m #[(.ref a1), (.ref a2), .null, (.ref a4)] 4)) tq := fun tq kq => pre1 tq (st2.trans kq)
  have pre4 : ∀ tq, Steps p.tables e below (T2.setTop (mkF m 5 #[.val (.ref a1), .val (.ref a2), .val .null, .val (.ref a4)] [(.ref a2)])) tq → Steps p.tables e below (s₁.setTop (entryFrame m #[(.ref a1), (.ref a2), .null, (.ref a4)] 4)) tq := by
    refine fun tq kq => pre3 tq ?_
    show Steps p.tables e below (T2.setTop (mkF m 4 #[.val (.ref a1), .val (.ref a2), .val .null, .val (.ref a4)] [])) _
    refine XS.aloadN X2.here hx rfl (hb hby d11n_4) rfl rfl ?_
    exact kq
  have wS : ∀ a ∈ Bundle.stringAtoms, a.before a0 Z = true := (List.forall_mem_cons.mpr ⟨(hw _ (List.mem_of_getElem? (i := 2) rfl)), (List.forall_mem_cons.mpr ⟨(hw _ (List.mem_of_getElem? (i := 1) rfl)), (List.forall_mem_cons.mpr ⟨(hw _ (List.mem_of_getElem? (i := 19) rfl)), (List.forall_mem_cons.mpr ⟨(hw _ (List.mem_of_getElem? (i := 29) rfl)), (List.forall_mem_cons.mpr ⟨(hw _ (List.mem_of_getElem? (i := 27) rfl)), (List.forall_mem_cons.mpr ⟨(hw _ (List.mem_of_getElem? (i := 57) rfl)), (List.forall_mem_cons.mpr ⟨(hw _ (List.mem_of_getElem? (i := 58) rfl)), (fun _ hh => nomatch hh)⟩)⟩)⟩)⟩)⟩)⟩)⟩)
  have hSi : s.Since s.vm h0.size := (State.WarmedH.refl s).since _
  obtain ⟨sa5, T5, h5, kk5, X5, e5, E5, hS5, hk5, hZ5, hown5, st5⟩ := ldcS (s := s) (vm0 := s.vm) X2 hx hZ hown (hw _ (List.mem_of_getElem? (i := 56) rfl)) wS ehq2 hSi (Nat.le_refl _) (g := (mkF m 5 #[.val (.ref a1), .val (.ref a2), .val .null, .val (.ref a4)] [(.ref a2)])) rfl (hb hby d11n_5) (n := 16) (by decide) (by decide) (by decide) (by decide)
  have pre6 : ∀ tq, Steps p.tables e below (T5.setTop (mkF m 7 #[.val (.ref a1), .val (.ref a2), .val .null, .val (.ref a4)] [(.ref sa5), (.ref a2)])) tq → Steps p.tables e below (s₁.setTop (entryFrame m #[(.ref a1), (.ref a2), .null, (.ref a4)] 4)) tq := fun tq kq => pre4 tq (st5 _ kq)
  have f7 := E_a1.ext E5
  have f8 := F_name_a1.ext E5
  have f9 := F_valueName_a1.ext E5
  have f10 := F_description_a1.ext E5
  have K5 : Keep h0 h5 [a1] := Keep.ext (Keep.refl h0 [a1]) E5
  have Z11 : n0 ≤ h5.size := (Nat.le_trans Z0 E5.1)
  obtain ⟨_, _, ⟨T11, L11, k11, n11⟩, -, X11, ⟨Lc11, hQ11, l11, y11, z11⟩, st11⟩ := Jvm.LawKit.callS X5 hx (y := (⟨"java/util/Objects", "requireNonNull", "(Ljava/lang/Object;Ljava/lang/String;)Ljava/lang/Object;"⟩ : MethodName)) hown5 (mvT hZ5 (hw _ (List.mem_of_getElem? (i := 59) rfl))) (mvT hZ5 (hw _ (List.mem_of_getElem? (i := 60) rfl))) (mvT hZ5 (hw _ (List.mem_of_getElem? (i := 61) rfl))) (mvT hZ5 (hw _ (List.mem_of_getElem? (i := 62) rfl))) (by decide) (backOf (W := 0) (rm13 l Z a0 hw [] a2 sa5  h5 n0 Z11 ) hZ5 (hw _ (List.mem_of_getElem? (i := 62) rfl)) (hw _ (List.mem_of_getElem? (i := 61) rfl)) (by decide) (by decide)) (g := (mkF m 7 #[.val (.ref a1), .val (.ref a2), .val .null, .val (.ref a4)] [(.ref sa5), (.ref a2)])) rfl (by rw [hml]; rfl) (argsL := [(.ref a2), (.ref sa5)]) (rest := []) (lenOf pd11n_1 rfl) rfl (by show 2 * 0 + _ ≤ _; exact Nat.le_of_eq rfl) (hb hby d11n_7) (fun _ _ => ⟨rfl, e5, (by decide : ((0 + 0) + 2) + 0 ≤ _), (by decide : ((0 + 0) + 20) + 0 ≤ _)⟩)
  dsimp only [Pt.U, Pt.locs, Pt.cells, Pt.slots] at X11 l11 y11 z11 st11 hQ11
  subst l11 y11 z11
  obtain ⟨r12, rfl, Nq11, ehq11, hq11⟩ := hQ11
  have N11 := Fr.app N2 Nq11
  have pre13 : ∀ tq, Steps p.tables e below (T11.setTop (mkF m 10 #[.val (.ref a1), .val (.ref a2), .val .null, .val (.ref a4)] [(.ref r12)])) tq → Steps p.tables e below (s₁.setTop (entryFrame m #[(.ref a1), (.ref a2), .null, (.ref a4)] 4)) tq := fun tq kq => pre6 tq (st11 _ kq)
  have pre14 : ∀ tq, Steps p.tables e below (T11.setTop (mkF m 12 #[.val (.ref a1), .val (.ref a2), .val .null, .val (.ref a4)] [(.ref a4)])) tq → Steps p.tables e below (s₁.setTop (entryFrame m #[(.ref a1), (.ref a2), .null, (.ref a4)] 4)) tq := by
    refine fun tq kq => pre13 tq ?_
    show Steps p.tables e below (T11.setTop (mkF m 10 #[.val (.ref a1), .val (.ref a2), .val .null, .val (.ref a4)] [(.ref r12)])) _
    refine XS.pop X11.here hx rfl (hb hby d11n_10) rfl rfl ?_
    show Steps p.tables e below (T11.setTop (mkF m 11 #[.val (.ref a1), .val (.ref a2), .val .null, .val (.ref a4)] [])) _
    refine XS.aloadN X11.here hx rfl (hb hby d11n_11) rfl rfl ?_
    exact kq
  obtain ⟨sa15, T15, h15, kk15, X15, e15, E15, hS15, hk15, hZ15, hown15, st15⟩ := ldcS (s := s) (vm0 := T5.vm) X11 hx hZ5 hown5 (hw _ (List.mem_of_getElem? (i := 63) rfl)) wS ehq11 hS5 hk5 (g := (mkF m 12 #[.val (.ref a1), .val (.ref a2), .val .null, .val (.ref a4)] [(.ref a4)])) rfl (hb hby d11n_12) (n := 44) (by decide) (by decide) (by decide) (by decide)
  have pre16 : ∀ tq, Steps p.tables e below (T15.setTop (mkF m 14 #[.val (.ref a1), .val (.ref a2), .val .null, .val (.ref a4)] [(.ref sa15), (.ref a4)])) tq → Steps p.tables e below (s₁.setTop (entryFrame m #[(.ref a1), (.ref a2), .null, (.ref a4)] 4)) tq := fun tq kq => pre14 tq (st15 _ kq)
  have f17 := f7.ext E15
  have f18 := f8.ext E15
  have f19 := f9.ext E15
  have f20 := f10.ext E15
  have K15 : Keep h0 h15 [a1] := Keep.ext K5 E15
  have Z21 : n0 ≤ h15.size := (Nat.le_trans (Nat.le_trans Z0 E5.1) E15.1)
  obtain ⟨_, _, ⟨T21, L21, k21, n21⟩, -, X21, ⟨Lc21, hQ21, l21, y21, z21⟩, st21⟩ := Jvm.LawKit.callS X15 hx (y := (⟨"java/util/Objects", "requireNonNull", "(Ljava/lang/Object;Ljava/lang/String;)Ljava/lang/Object;"⟩ : MethodName)) hown15 (mvT hZ15 (hw _ (List.mem_of_getElem? (i := 59) rfl))) (mvT hZ15 (hw _ (List.mem_of_getElem? (i := 60) rfl))) (mvT hZ15 (hw _ (List.mem_of_getElem? (i := 61) rfl))) (mvT hZ15 (hw _ (List.mem_of_getElem? (i := 62) rfl))) (by decide) (backOf (W := 0) (rm13 l Z a0 hw [] a4 sa15  h15 n0 Z21 ) hZ15 (hw _ (List.mem_of_getElem? (i := 62) rfl)) (hw _ (List.mem_of_getElem? (i := 61) rfl)) (by decide) (by decide)) (g := (mkF m 14 #[.val (.ref a1), .val (.ref a2), .val .null, .val (.ref a4)] [(.ref sa15), (.ref a4)])) rfl (by rw [hml]; rfl) (argsL := [(.ref a4), (.ref sa15)]) (rest := []) (lenOf pd11n_1 rfl) rfl (by show 2 * 0 + _ ≤ _; exact Nat.le_of_eq rfl) (hb hby d11n_14) (fun _ _ => ⟨rfl, e15, (by decide : ((((0 + 0) + 2) + 0) + 2) + 0 ≤ _), (by decide : ((((0 + 0) + 20) + 0) + 48) + 0 ≤ _)⟩)
  dsimp only [Pt.U, Pt.locs, Pt.cells, Pt.slots] at X21 l21 y21 z21 st21 hQ21
  subst l21 y21 z21
  obtain ⟨r22, rfl, Nq21, ehq21, hq21⟩ := hQ21
  have N21 := Fr.app N11 Nq21
  have pre23 : ∀ tq, Steps p.tables e below (T21.setTop (mkF m 17 #[.val (.ref a1), .val (.ref a2), .val .null, .val (.ref a4)] [(.ref r22)])) tq → Steps p.tables e below (s₁.setTop (entryFrame m #[(.ref a1), (.ref a2), .null, (.ref a4)] 4)) tq := fun tq kq => pre16 tq (st21 _ kq)
  have pre24 : ∀ tq, Steps p.tables e below (T21.setTop (mkF m 20 #[.val (.ref a1), .val (.ref a2), .val .null, .val (.ref a4)] [(.ref a2), (.ref a1)])) tq → Steps p.tables e below (s₁.setTop (entryFrame m #[(.ref a1), (.ref a2), .null, (.ref a4)] 4)) tq := by
    refine fun tq kq => pre23 tq ?_
    show Steps p.tables e below (T21.setTop (mkF m 17 #[.val (.ref a1), .val (.ref a2), .val .null, .val (.ref a4)] [(.ref r22)])) _
    refine XS.pop X21.here hx rfl (hb hby d11n_17) rfl rfl ?_
    show Steps p.tables e below (T21.setTop (mkF m 18 #[.val (.ref a1), .val (.ref a2), .val .null, .val (.ref a4)] [])) _
    refine XS.aloadN X21.here hx rfl (hb hby d11n_18) rfl rfl ?_
    show Steps p.tables e below (T21.setTop (mkF m 19 #[.val (.ref a1), .val (.ref a2), .val .null, .val (.ref a4)] [(.ref a1)])) _
    refine XS.aloadN X21.here hx rfl (hb hby d11n_19) rfl rfl ?_
    exact kq
  obtain ⟨T25, h25, X25, e25, W25, st25⟩ := putF X21 hx hZ15 hown15 (host := "") (Or.inl (hw _ (List.mem_of_getElem? (i := 64) rfl))) Via.refl ehq21 f18 f17 (Or.inr ⟨(hw _ (List.mem_of_getElem? (i := 65) rfl)), rfl, hnm⟩) (hw _ (List.mem_of_getElem? (i := 45) rfl)) (ty := (.object "java/lang/String")) (by decide) rfl rfl (g := (mkF m 20 #[.val (.ref a1), .val (.ref a2), .val .null, .val (.ref a4)] [(.ref a2), (.ref a1)])) rfl rfl (hb hby d11n_20)
  have pre26 : ∀ tq, Steps p.tables e below (T25.setTop (mkF m 23 #[.val (.ref a1), .val (.ref a2), .val .null, .val (.ref a4)] [])) tq → Steps p.tables e below (s₁.setTop (entryFrame m #[(.ref a1), (.ref a2), .null, (.ref a4)] 4)) tq := fun tq kq => pre24 tq (st25 _ kq)
  have N25 := Fr.snoc X25 N21 g_a1
  have K25 : Keep h0 h25 [a1] := Keep.wr K15 W25 (Or.inl (List.mem_of_getElem? (i := 0) rfl))
  have f27 := f17.wr W25
  have f28 := f19.other W25 (Or.inr (slot_ne (Or.inr (hw _ (List.mem_of_getElem? (i := 67) rfl))) (Or.inr (hw _ (List.mem_of_getElem? (i := 65) rfl))) (by decide) (t := (.object "java/lang/String")) (t' := (.object "java/lang/String")) (by decide) (by decide)))
  have f29 := f20.other W25 (Or.inr (slot_ne (Or.inr (hw _ (List.mem_of_getElem? (i := 69) rfl))) (Or.inr (hw _ (List.mem_of_getElem? (i := 65) rfl))) (by decide) (t := (.object "java/lang/String")) (t' := (.object "java/lang/String")) (by decide) (by decide)))
  have f30 := f18.same W25
  have pre31 : ∀ tq, Steps p.tables e below (T25.setTop (mkF m 25 #[.val (.ref a1), .val (.ref a2), .val .null, .val (.ref a4)] [.null, (.ref a1)])) tq → Steps p.tables e below (s₁.setTop (entryFrame m #[(.ref a1), (.ref a2), .null, (.ref a4)] 4)) tq := by
    refine fun tq kq => pre26 tq ?_
    show Steps p.tables e below (T25.setTop (mkF m 23 #[.val (.ref a1), .val (.ref a2), .val .null, .val (.ref a4)] [])) _
    refine XS.aloadN X25.here hx rfl (hb hby d11n_23) rfl rfl ?_
    show Steps p.tables e below (T25.setTop (mkF m 24 #[.val (.ref a1), .val (.ref a2), .val .null, .val (.ref a4)] [(.ref a1)])) _
    refine XS.aloadN X25.here hx rfl (hb hby d11n_24) rfl rfl ?_
    exact kq
  obtain ⟨T32, h32, X32, e32, W32, st32⟩ := putF X25 hx hZ15 hown15 (host := "") (Or.inl (hw _ (List.mem_of_getElem? (i := 66) rfl))) Via.refl e25 f28 f27 (Or.inr ⟨(hw _ (List.mem_of_getElem? (i := 67) rfl)), rfl, hnm⟩) (hw _ (List.mem_of_getElem? (i := 45) rfl)) (ty := (.object "java/lang/String")) (by decide) rfl rfl (g := (mkF m 25 #[.val (.ref a1), .val (.ref a2), .val .null, .val (.ref a4)] [.null, (.ref a1)])) rfl rfl (hb hby d11n_25)
  have pre33 : ∀ tq, Steps p.tables e below (T32.setTop (mkF m 28 #[.val (.ref a1), .val (.ref a2), .val .null, .val (.ref a4)] [])) tq → Steps p.tables e below (s₁.setTop (entryFrame m #[(.ref a1), (.ref a2), .null, (.ref a4)] 4)) tq := fun tq kq => pre31 tq (st32 _ kq)
  have N32 := Fr.snoc X32 N25 g_a1
  have K32 : Keep h0 h32 [a1] := Keep.wr K25 W32 (Or.inl (List.mem_of_getElem? (i := 0) rfl))
  have f34 := f27.wr W32
  have f35 := f29.other W32 (Or.inr (slot_ne (Or.inr (hw _ (List.mem_of_getElem? (i := 69) rfl))) (Or.inr (hw _ (List.mem_of_getElem? (i := 67) rfl))) (by decide) (t := (.object "java/lang/String")) (t' := (.object "java/lang/String")) (by decide) (by decide)))
  have f36 := f30.other W32 (Or.inr (slot_ne (Or.inr (hw _ (List.mem_of_getElem? (i := 65) rfl))) (Or.inr (hw _ (List.mem_of_getElem? (i := 67) rfl))) (by decide) (t := (.object "java/lang/String")) (t' := (.object "java/lang/String")) (by decide) (by decide)))
  have f37 := f28.same W32
  have pre38 : ∀ tq, Steps p.tables e below (T32.setTop (mkF m 30 #[.val (.ref a1), .val (.ref a2), .val .null, .val (.ref a4)] [(.ref a4), (.ref a1)])) tq → Steps p.tables e below (s₁.setTop (entryFrame m #[(.ref a1), (.ref a2), .null, (.ref a4)] 4)) tq := by
    refine fun tq kq => pre33 tq ?_
    show Steps p.tables e below (T32.setTop (mkF m 28 #[.val (.ref a1), .val (.ref a2), .val .null, .val (.ref a4)] [])) _
    refine XS.aloadN X32.here hx rfl (hb hby d11n_28) rfl rfl ?_
    show Steps p.tables e below (T32.setTop (mkF m 29 #[.val (.ref a1), .val (.ref a2), .val .null, .val (.ref a4)] [(.ref a1)])) _
    refine XS.aloadN X32.here hx rfl (hb hby d11n_29) rfl rfl ?_
    exact kq
  obtain ⟨T39, h39, X39, e39, W39, st39⟩ := putF X32 hx hZ15 hown15 (host := "") (Or.inl (hw _ (List.mem_of_getElem? (i := 68) rfl))) Via.refl e32 f35 f34 (Or.inr ⟨(hw _ (List.mem_of_getElem? (i := 69) rfl)), rfl, hnm⟩) (hw _ (List.mem_of_getElem? (i := 45) rfl)) (ty := (.object "java/lang/String")) (by decide) rfl rfl (g := (mkF m 30 #[.val (.ref a1), .val (.ref a2), .val .null, .val (.ref a4)] [(.ref a4), (.ref a1)])) rfl rfl (hb hby d11n_30)
  have pre40 : ∀ tq, Steps p.tables e below (T39.setTop (mkF m 33 #[.val (.ref a1), .val (.ref a2), .val .null, .val (.ref a4)] [])) tq → Steps p.tables e below (s₁.setTop (entryFrame m #[(.ref a1), (.ref a2), .null, (.ref a4)] 4)) tq := fun tq kq => pre38 tq (st39 _ kq)
  have N39 := Fr.snoc X39 N32 g_a1
  have K39 : Keep h0 h39 [a1] := Keep.wr K32 W39 (Or.inl (List.mem_of_getElem? (i := 0) rfl))
  have f41 := f34.wr W39
  have f42 := f36.other W39 (Or.inr (slot_ne (Or.inr (hw _ (List.mem_of_getElem? (i := 65) rfl))) (Or.inr (hw _ (List.mem_of_getElem? (i := 69) rfl))) (by decide) (t := (.object "java/lang/String")) (t' := (.object "java/lang/String")) (by decide) (by decide)))
  have f43 := f37.other W39 (Or.inr (slot_ne (Or.inr (hw _ (List.mem_of_getElem? (i := 67) rfl))) (Or.inr (hw _ (List.mem_of_getElem? (i := 69) rfl))) (by decide) (t := (.object "java/lang/String")) (t' := (.object "java/lang/String")) (by decide) (by decide)))
  have f44 := f35.same W39
  obtain ⟨fs, hr, hrun, hended, hEnd⟩ := Stand.leaveW (s := s) (vm₁ := T15.vm) X39 hS15 (by rw [e39]; exact (Nat.le_trans (Nat.le_trans (Nat.le_trans hk15 (Keep.of_wr W25).1) (Keep.of_wr W32).1) (Keep.of_wr W39).1)) (v := none) (fun _ => rfl)
  refine ⟨_, _, pre40 _ ?_, hrun, hended, _, _, rfl, ?_, hEnd.1, hEnd.2.1, hEnd.2.2.1, hEnd.2.2.2.mono (by decide) (by decide)⟩
  · skip
    show Steps p.tables e below (T39.setTop (mkF m 33 #[.val (.ref a1), .val (.ref a2), .val .null, .val (.ref a4)] [])) _
    exact X39.returnOut hx Bd.returns (hb hby d11n_33) hr
  · show Q11n Z a1 a2 a4 h0 n0 _ T39.heap _
    rw [e39]
    refine ⟨rfl, N39, K39, f43, ?_⟩
    trivial
/-! body 14 -/
theorem d14_0 : decode prog_53_method_2_code 0 = .ok (.new 18, 3) := by decide +kernel
theorem d14_3 : decode prog_53_method_2_code 3 = .ok (.dup, 1) := by decide +kernel
theorem d14_4 : decode prog_53_method_2_code 4 = .ok (.aload_n 0, 1) := by decide +kernel
theorem d14_5 : decode prog_53_method_2_code 5 = .ok (.aconst_null, 1) := by decide +kernel
theorem d14_6 : decode prog_53_method_2_code 6 = .ok (.aload_n 1, 1) := by decide +kernel
theorem d14_7 : decode prog_53_method_2_code 7 = .ok (.invokespecial 27, 3) := by decide +kernel
theorem d14_10 : decode prog_53_method_2_code 10 = .ok (.areturn, 1) := by decide +kernel
theorem pn_14 : plainName "com/example/purgecast/purgecast/server/Option" = true := by first | (simp [plainName, overriddenIn]; done) | decide +kernel
theorem pd14_0 : parseMethodDescriptor "(Ljava/lang/String;Ljava/lang/String;Ljava/lang/String;)V" = some ⟨[(.object "java/lang/String"), (.object "java/lang/String"), (.object "java/lang/String")], none⟩ := by decide +kernel
theorem ef_14 (m : MethodId) (a1 : Addr) (a2 : Addr) : entryFrame m #[(.ref a1), (.ref a2)] 2 = mkF m 0 #[.val (.ref a1), .val (.ref a2)] [] := by first | (simp [entryFrame, mkF, argsToLocals, Value.category]; done) | rfl
def Q14 (Z : State) (a1 : Addr) (a2 : Addr) (h0 : Heap) (n0 : Nat) (v : Option Value) (h : Heap) (L : List Loc) : Prop := ∃ r : Addr, v = some (.ref r) ∧ Fr n0 L ∧ Keep h0 h [] ∧ h0.size ≤ r ∧ Exa Z h r "com/example/purgecast/purgecast/server/Option" ∧ Fld Z h r "com/example/purgecast/purgecast/server/Option" "valueName" "Ljava/lang/String;" .null ∧ (True)
set_option maxRecDepth 65536 in
set_option maxHeartbeats 40000000 in
theorem rm14 (l : Launch) (Z : State) (a0 : Array Value) (hw : ∀ d ∈ tables_1, d.before a0 Z = true) (ws : List Jvm.Cond) (a1 : Addr) (a2 : Addr) (h0 : Heap) (n0 : Nat) (Z0 : n0 ≤ h0.size)  :
    MetFree l (⟨"com/example/purgecast/purgecast/server/Option", "flag", "(Ljava/lang/String;Ljava/lang/String;)Lcom/example/purgecast/purgecast/server/Option;"⟩ : MethodName) (head1 (Jvm.Cond.code (⟨"com/example/purgecast/purgecast/server/Option", "flag", "(Ljava/lang/String;Ljava/lang/String;)Lcom/example/purgecast/purgecast/server/Option;"⟩ : MethodName) prog_53_method_2_code 2 (some (.object "com/example/purgecast/purgecast/server/Option")) :: ws) ({ frames := 3, cells := 5, slots := 71, locals := 40 } : Room)) (fun a U => a = #[(.ref a1), (.ref a2)] ∧ Z.Warmed39 U.vm ∧ U.heap = h0) (fun _ _ _ _ _ => True) (fun _ U o U' => ∃ v L, o = .returned v ∧ Q14 Z a1 a2 h0 n0 v U'.heap L ∧ ReturnedEndW U o U' L ({ frames := 3, cells := 5, slots := 71, locals := 40 } : Room).cells ({ frames := 3, cells := 5, slots := 71, locals := 40 } : Room).slots) := by
  refine MetFree.of_bodySF (plainFor_of_name pn_14) hisR ?_
  intro p e s m args below meth c s₁ Bd hml0 hP hK
  obtain ⟨rfl, hZ, hh⟩ := hP
  have hx := Bd.exec
  have hby := Bd.bytes
  have hml : c.maxLocals = 2 := hml0
  have hown : s.vm.findClass "com/example/purgecast/purgecast/server/Option" = some m.cls := findClass_of_methodNamed Bd.named
  have hnm := (name_of_methodNamed Bd.named Bd.method).1
  have X0 : Stand p l e ({ frames := 3, cells := 5, slots := 71, locals := 40 } : Room) s m #[(.ref a1), (.ref a2)] below meth c s₁ [] 0 0 := Stand.of_body Bd
  have e0 : s₁.heap = h0 := by rw [← hh, Bd.state]; rfl
  have N0 := Fr.nil n0
  have pre0 : ∀ tq, Steps p.tables e below (s₁.setTop (mkF m 0 #[.val (.ref a1), .val (.ref a2)] [])) tq → Steps p.tables e below (s₁.setTop (entryFrame m #[(.ref a1), (.ref a2)] 2)) tq := fun tq kq => castTop (ef_14 m a1 a2) kq
  obtain ⟨T1, h1, X1, e1, E1, A1, D1, -, st1⟩ := newO X0 hx hZ hown (hw _ (List.mem_of_getElem? (i := 73) rfl)) (hw _ (List.mem_of_getElem? (i := 45) rfl)) (hw _ (List.mem_of_getElem? (i := 46) rfl)) e0 (g := (mkF m 0 #[.val (.ref a1), .val (.ref a2)] [])) rfl (hb hby d14_0) (by decide) (by decide)
  obtain ⟨b1, g1⟩ : ∃ z, z = h0.size := ⟨_, rfl⟩
  rw [← g1] at A1 D1 st1
  have g_b1 : n0 ≤ b1 := Nat.le_trans Z0 (Nat.le_of_eq g1.symm)
  have sz_b1 : h0.size ≤ b1 := Nat.le_trans (Nat.le_refl h0.size) (Nat.le_of_eq g1.symm)
  have pre2 : ∀ tq, Steps p.tables e below (T1.setTop (mkF m 3 #[.val (.ref a1), .val (.ref a2)] [(.ref b1)])) tq → Steps p.tables e below (s₁.setTop (entryFrame m #[(.ref a1), (.ref a2)] 2)) tq := fun tq kq => pre0 tq (st1 _ kq)
  have K1 : Keep h0 h1 [] := Keep.ext (Keep.refl h0 []) E1
  have f3 : Fld Z h1 b1 "com/example/purgecast/purgecast/server/Option" "name" "Ljava/lang/String;" .null := D1 (Or.inr (hw _ (List.mem_of_getElem? (i := 65) rfl))) (ty := (.object "java/lang/String")) (by decide)
  have f4 : Fld Z h1 b1 "com/example/purgecast/purgecast/server/Option" "valueName" "Ljava/lang/String;" .null := D1 (Or.inr (hw _ (List.mem_of_getElem? (i := 67) rfl))) (ty := (.object "java/lang/String")) (by decide)
  have f5 : Fld Z h1 b1 "com/example/purgecast/purgecast/server/Option" "description" "Ljava/lang/String;" .null := D1 (Or.inr (hw _ (List.mem_of_getElem? (i := 69) rfl))) (ty := (.object "java/lang/String")) (by decide)
  have pre6 : ∀ tq, Steps p.tables e below (T1.setTop (mkF m 7 #[.val (.ref a1), .val (.ref a2)] [(.ref a2), .null, (.ref a1), (.ref b1), (.ref b1)])) tq → Steps p.tables e below (s₁.setTop (entryFrame m #[(.ref a1), (.ref a2)] 2)) tq := by
    refine fun tq kq => pre2 tq ?_
    show Steps p.tables e below (T1.setTop (mkF m 3 #[.val (.ref a1), .val (.ref a2)] [(.ref b1)])) _
    refine XS.dup X1.here hx rfl (hb hby d14_3) rfl rfl ?_
    show Steps p.tables e below (T1.setTop (mkF m 4 #[.val (.ref a1), .val (.ref a2)] [(.ref b1), (.ref b1)])) _
    refine XS.aloadN X1.here hx rfl (hb hby d14_4) rfl rfl ?_
    show Steps p.tables e below (T1.setTop (mkF m 5 #[.val (.ref a1), .val (.ref a2)] [(.ref a1), (.ref b1), (.ref b1)])) _
    refine XS.aconstNull X1.here hx rfl (hb hby d14_5) ?_
    show Steps p.tables e below (T1.setTop (mkF m 6 #[.val (.ref a1), .val (.ref a2)] [.null, (.ref a1), (.ref b1), (.ref b1)])) _
    refine XS.aloadN X1.here hx rfl (hb hby d14_6) rfl rfl ?_
    exact kq
  have Z7 : n0 ≤ h1.size := (Nat.le_trans Z0 E1.1)
  have hSi7 : s.Since s.vm h1.size := (State.WarmedH.refl s).since _
  obtain ⟨_, _, ⟨T7, L7, k7, n7⟩, -, X7, hSc7, hgr7, ⟨Lc7, hQ7, l7, y7, z7⟩, st7⟩ := Stand.specialBackS (s := (s.setVm s.vm)) X1 hx (y := (⟨"com/example/purgecast/purgecast/server/Option", "<init>", "(Ljava/lang/String;Ljava/lang/String;Ljava/lang/String;)V"⟩ : MethodName)) rfl hown (mvT hZ (hw _ (List.mem_of_getElem? (i := 74) rfl))) (mvT hZ (hw _ (List.mem_of_getElem? (i := 48) rfl))) (mvT hZ (hw _ (List.mem_of_getElem? (i := 49) rfl))) (by decide) (backOfS (s := (s.setVm s.vm)) (W := 1) (rm11n l Z a0 hw [] b1 a1 a2  h1 n0 Z7 A1 f3 f4 f5 g_b1) hZ (hw _ (List.mem_of_getElem? (i := 49) rfl)) (hw _ (List.mem_of_getElem? (i := 46) rfl)) (by decide) (by decide)) (g := (mkF m 7 #[.val (.ref a1), .val (.ref a2)] [(.ref a2), .null, (.ref a1), (.ref b1), (.ref b1)])) rfl (by rw [hml]; rfl) (Steps.refl _) (a := b1) (argsL := [(.ref a1), .null, (.ref a2)]) (rest := [(.ref b1)]) (lenOf pd14_0 rfl) rfl (by show 2 * 0 + _ ≤ _; exact Nat.le_of_eq rfl) (hb hby d14_7) (fun _ _ => ⟨rfl, e1, (by decide : (0 + 1) + 4 ≤ _), (by decide : (0 + 3) + 68 ≤ _)⟩)
  dsimp only [Pt.U, Pt.locs, Pt.cells, Pt.slots] at X7 l7 y7 z7 st7 hQ7 hSc7 hgr7
  subst l7 y7 z7
  obtain ⟨XR7, hS7, hZ7, hown7⟩ := rebS (s := s) (vm0 := s.vm) hSi7 (Nat.le_refl _) X7 hSc7 (by first | exact hgr7 | (rw [e1] at hgr7; exact hgr7)) hZ hown
  obtain ⟨rfl, Nq7, Kq7, f8, hq7⟩ := hQ7
  have N7 := Fr.app N0 Nq7
  have pre9 : ∀ tq, Steps p.tables e below (T7.setTop (mkF m 10 #[.val (.ref a1), .val (.ref a2)] [(.ref b1)])) tq → Steps p.tables e below (s₁.setTop (entryFrame m #[(.ref a1), (.ref a2)] 2)) tq := fun tq kq => pre6 tq (st7.trans kq)
  have K7 : Keep h0 T7.heap [] := Keep.trans K1 Kq7 (allS (Or.inr sz_b1) all0)
  have f10 := A1.keep Kq7
  obtain ⟨fs, hr, hrun, hended, hEnd⟩ := Stand.leaveW (s := s) (vm₁ := T7.vm) XR7 hS7 (Nat.le_refl _) (v := some (.ref b1)) (fun h => by rw [Bd.returns] at h; cases h)
  refine ⟨_, _, pre9 _ ?_, hrun, hended, _, _, rfl, ?_, hEnd.1, hEnd.2.1, hEnd.2.2.1, hEnd.2.2.2.mono (by decide) (by decide)⟩
  · skip
    show Steps p.tables e below (T7.setTop (mkF m 10 #[.val (.ref a1), .val (.ref a2)] [(.ref b1)])) _
    exact XR7.areturnOut hx rfl Bd.returns rfl (hb hby d14_10) hr
  · show Q14 Z a1 a2 h0 n0 _ T7.heap _
    refine ⟨b1, rfl, N7, K7, sz_b1, f10, f8, ?_⟩
    trivial
/-! body 15v -/
theorem d15v_0 : decode prog_53_method_3_code 0 = .ok (.aload_n 0, 1) := by decide +kernel
theorem d15v_1 : decode prog_53_method_3_code 1 = .ok (.getfield 22, 3) := by decide +kernel
theorem d15v_4 : decode prog_53_method_3_code 4 = .ok (.ifnull 7, 3) := by decide +kernel
theorem d15v_7 : decode prog_53_method_3_code 7 = .ok (.iconst 1, 1) := by decide +kernel
theorem d15v_8 : decode prog_53_method_3_code 8 = .ok (.goto 4, 3) := by decide +kernel
theorem d15v_12 : decode prog_53_method_3_code 12 = .ok (.ireturn, 1) := by decide +kernel
theorem pn_15v : plainName "com/example/purgecast/purgecast/server/Option" = true := by first | (simp [plainName, overriddenIn]; done) | decide +kernel
theorem ef_15v (m : MethodId) (a1 : Addr) : entryFrame m #[(.ref a1)] 1 = mkF m 0 #[.val (.ref a1)] [] := by first | (simp [entryFrame, mkF, argsToLocals, Value.category]; done) | rfl
def Q15v (Z : State) (a1 : Addr) (w : Addr) (h0 : Heap) (n0 : Nat) (v : Option Value) (h : Heap) (L : List Loc) : Prop := ∃ r : Int32, v = some (.int r) ∧ Fr n0 L ∧ h = h0 ∧ (r = (1 : Int32))
set_option maxRecDepth 65536 in
set_option maxHeartbeats 40000000 in
theorem rm15v (l : Launch) (Z : State) (a0 : Array Value) (hw : ∀ d ∈ tables_1, d.before a0 Z = true) (ws : List Jvm.Cond) (a1 : Addr) (w : Addr) (h0 : Heap) (n0 : Nat) (Z0 : n0 ≤ h0.size) (F_valueName_a1 : Fld Z h0 a1 "com/example/purgecast/purgecast/server/Option" "valueName" "Ljava/lang/String;" (.ref w)) :
    MetFree l (⟨"com/example/purgecast/purgecast/server/Option", "takesValue", "()Z"⟩ : MethodName) (head1 (Jvm.Cond.code (⟨"com/example/purgecast/purgecast/server/Option", "takesValue", "()Z"⟩ : MethodName) prog_53_method_3_code 1 (some .boolean) :: ws) ({ frames := 0, cells := 0, slots := 0, locals := 0 } : Room)) (fun a U => a = #[(.ref a1)] ∧ Z.Warmed39 U.vm ∧ U.heap = h0) (fun _ _ _ _ _ => True) (fun _ U o U' => ∃ v L, o = .returned v ∧ Q15v Z a1 w h0 n0 v U'.heap L ∧ FrameEnd U o U' L ({ frames := 0, cells := 0, slots := 0, locals := 0 } : Room).cells ({ frames := 0, cells := 0, slots := 0, locals := 0 } : Room).slots) := by
  refine MetFree.of_bodySF (plainFor_of_name pn_15v) hisR ?_
  intro p e s m args below meth c s₁ Bd hml0 hP hK
  obtain ⟨rfl, hZ, hh⟩ := hP
  have hx := Bd.exec
  have hby := Bd.bytes
  have hml : c.maxLocals = 1 := hml0
  have hown : s.vm.findClass "com/example/purgecast/purgecast/server/Option" = some m.cls := findClass_of_methodNamed Bd.named
  have hnm := (name_of_methodNamed Bd.named Bd.method).1
  have X0 : Stand p l e ({ frames := 0, cells := 0, slots := 0, locals := 0 } : Room) s m #[(.ref a1)] below meth c s₁ [] 0 0 := Stand.of_body Bd
  have e0 : s₁.heap = h0 := by rw [← hh, Bd.state]; rfl
  have N0 := Fr.nil n0
  have pre0 : ∀ tq, Steps p.tables e below (s₁.setTop (mkF m 0 #[.val (.ref a1)] [])) tq → Steps p.tables e below (s₁.setTop (entryFrame m #[(.ref a1)] 1)) tq := fun tq kq => castTop (ef_15v m a1) kq
  have pre1 : ∀ tq, Steps p.tables e below (s₁.setTop (mkF m 1 #[.val (.ref a1)] [(.ref a1)])) tq → Steps p.tables e below (s₁.setTop (entryFrame m #[(.ref a1)] 1)) tq := by
    refine fun tq kq => pre0 tq ?_
    show Steps p.tables e below (s₁.setTop (mkF m 0 #[.val (.ref a1)] [])) _
    refine XS.aloadN X0.here hx rfl (hb hby d15v_0) rfl rfl ?_
    exact kq
  obtain ⟨T2, X2, e2, st2⟩ := getF X0 hx hZ hown (host := "") (Or.inl (hw _ (List.mem_of_getElem? (i := 66) rfl))) Via.refl e0 F_valueName_a1 (g := (mkF m 1 #[.val (.ref a1)] [(.ref a1)])) rfl rfl (hb hby d15v_1)
  have pre3 : ∀ tq, Steps p.tables e below (T2.setTop (mkF m 4 #[.val (.ref a1)] [(.ref w)])) tq → Steps p.tables e below (s₁.setTop (entryFrame m #[(.ref a1)] 1)) tq := fun tq kq => pre1 tq (st2 _ kq)
  have pre4 : ∀ tq, Steps p.tables e below (T2.setTop (mkF m 7 #[.val (.ref a1)] [])) tq → Steps p.tables e below (s₁.setTop (entryFrame m #[(.ref a1)] 1)) tq := by
    refine fun tq kq => pre3 tq ?_
    show Steps p.tables e below (T2.setTop (mkF m 4 #[.val (.ref a1)] [(.ref w)])) _
    refine XS.ifnullNo X2.here hx rfl (hb hby d15v_4) rfl ?_
    exact kq
  obtain ⟨fs, hr, hrun, hended, hW, hsame⟩ := X2.leave (v := some (.int (1 : Int32))) (fun h => by rw [Bd.returns] at h; cases h)
  refine ⟨_, _, pre4 _ ?_, hrun, hended, _, _, rfl, ?_, ⟨_, rfl⟩, hW, hsame.mono (by decide) (by decide)⟩
  · skip
    show Steps p.tables e below (T2.setTop (mkF m 7 #[.val (.ref a1)] [])) _
    refine XS.iconst X2.here hx rfl (hb hby d15v_7) ?_
    show Steps p.tables e below (T2.setTop (mkF m 8 #[.val (.ref a1)] [(.int (1 : Int32))])) _
    refine XS.goto X2.here hx rfl (pc0 := 8) (pc' := 12) rfl (hb hby d15v_8) (by decide) (by decide) ?_
    show Steps p.tables e below (T2.setTop (mkF m 12 #[.val (.ref a1)] [(.int (1 : Int32))])) _
    exact retN X2 hx (t := .boolean) Bd.returns (by simp) (hb hby d15v_12) hr
  · show Q15v Z a1 w h0 n0 _ T2.heap _
    rw [e2]
    exact ⟨(1 : Int32), rfl, N0, rfl, rfl⟩
/-! body 15n -/
theorem d15n_0 : decode prog_53_method_3_code 0 = .ok (.aload_n 0, 1) := by decide +kernel
theorem d15n_1 : decode prog_53_method_3_code 1 = .ok (.getfield 22, 3) := by decide +kernel
theorem d15n_4 : decode prog_53_method_3_code 4 = .ok (.ifnull 7, 3) := by decide +kernel
theorem d15n_11 : decode prog_53_method_3_code 11 = .ok (.iconst 0, 1) := by decide +kernel
theorem d15n_12 : decode prog_53_method_3_code 12 = .ok (.ireturn, 1) := by decide +kernel
theorem pn_15n : plainName "com/example/purgecast/purgecast/server/Option" = true := by first | (simp [plainName, overriddenIn]; done) | decide +kernel
theorem ef_15n (m : MethodId) (a1 : Addr) : entryFrame m #[(.ref a1)] 1 = mkF m 0 #[.val (.ref a1)] [] := by first | (simp [entryFrame, mkF, argsToLocals, Value.category]; done) | rfl
def Q15n (Z : State) (a1 : Addr) (h0 : Heap) (n0 : Nat) (v : Option Value) (h : Heap) (L : List Loc) : Prop := ∃ r : Int32, v = some (.int r) ∧ Fr n0 L ∧ h = h0 ∧ (r = (0 : Int32))
set_option maxRecDepth 65536 in
set_option maxHeartbeats 40000000 in
theorem rm15n (l : Launch) (Z : State) (a0 : Array Value) (hw : ∀ d ∈ tables_1, d.before a0 Z = true) (ws : List Jvm.Cond) (a1 : Addr) (h0 : Heap) (n0 : Nat) (Z0 : n0 ≤ h0.size) (F_valueName_a1 : Fld Z h0 a1 "com/example/purgecast/purgecast/server/Option" "valueName" "Ljava/lang/String;" .null) :
    MetFree l (⟨"com/example/purgecast/purgecast/server/Option", "takesValue", "()Z"⟩ : MethodName) (head1 (Jvm.Cond.code (⟨"com/example/purgecast/purgecast/server/Option", "takesValue", "()Z"⟩ : MethodName) prog_53_method_3_code 1 (some .boolean) :: ws) ({ frames := 0, cells := 0, slots := 0, locals := 0 } : Room)) (fun a U => a = #[(.ref a1)] ∧ Z.Warmed39 U.vm ∧ U.heap = h0) (fun _ _ _ _ _ => True) (fun _ U o U' => ∃ v L, o = .returned v ∧ Q15n Z a1 h0 n0 v U'.heap L ∧ FrameEnd U o U' L ({ frames := 0, cells := 0, slots := 0, locals := 0 } : Room).cells ({ frames := 0, cells := 0, slots := 0, locals := 0 } : Room).slots) := by
  refine MetFree.of_bodySF (plainFor_of_name pn_15n) hisR ?_
  intro p e s m args below meth c s₁ Bd hml0 hP hK
  obtain ⟨rfl, hZ, hh⟩ := hP
  have hx := Bd.exec
  have hby := Bd.bytes
  have hml : c.maxLocals = 1 := hml0
  have hown : s.vm.findClass "com/example/purgecast/purgecast/server/Option" = some m.cls := findClass_of_methodNamed Bd.named
  have hnm := (name_of_methodNamed Bd.named Bd.method).1
  have X0 : Stand p l e ({ frames := 0, cells := 0, slots := 0, locals := 0 } : Room) s m #[(.ref a1)] below meth c s₁ [] 0 0 := Stand.of_body Bd
  have e0 : s₁.heap = h0 := by rw [← hh, Bd.state]; rfl
  have N0 := Fr.nil n0
  have pre0 : ∀ tq, Steps p.tables e below (s₁.setTop (mkF m 0 #[.val (.ref a1)] [])) tq → Steps p.tables e below (s₁.setTop (entryFrame m #[(.ref a1)] 1)) tq := fun tq kq => castTop (ef_15n m a1) kq
  have pre1 : ∀ tq, Steps p.tables e below (s₁.setTop (mkF m 1 #[.val (.ref a1)] [(.ref a1)])) tq → Steps p.tables e below (s₁.setTop (entryFrame m #[(.ref a1)] 1)) tq := by
    refine fun tq kq => pre0 tq ?_
    show Steps p.tables e below (s₁.setTop (mkF m 0 #[.val (.ref a1)] [])) _
    refine XS.aloadN X0.here hx rfl (hb hby d15n_0) rfl rfl ?_
    exact kq
  obtain ⟨T2, X2, e2, st2⟩ := getF X0 hx hZ hown (host := "") (Or.inl (hw _ (List.mem_of_getElem? (i := 66) rfl))) Via.refl e0 F_valueName_a1 (g := (mkF m 1 #[.val (.ref a1)] [(.ref a1)])) rfl rfl (hb hby d15n_1)
  have pre3 : ∀ tq, Steps p.tables e below (T2.setTop (mkF m 4 #[.val (.ref a1)] [.null])) tq → Steps p.tables e below (s₁.setTop (entryFrame m #[(.ref a1)] 1)) tq := fun tq kq => pre1 tq (st2 _ kq)
  have pre4 : ∀ tq, Steps p.tables e below (T2.setTop (mkF m 11 #[.val (.ref a1)] [])) tq → Steps p.tables e below (s₁.setTop (entryFrame m #[(.ref a1)] 1)) tq := by
    refine fun tq kq => pre3 tq ?_
    show Steps p.tables e below (T2.setTop (mkF m 4 #[.val (.ref a1)] [.null])) _
    refine XS.ifnullYes X2.here hx rfl (pc0 := 4) (pc' := 11) rfl (hb hby d15n_4) rfl (by decide) (by decide) ?_
    exact kq
  obtain ⟨fs, hr, hrun, hended, hW, hsame⟩ := X2.leave (v := some (.int (0 : Int32))) (fun h => by rw [Bd.returns] at h; cases h)
  refine ⟨_, _, pre4 _ ?_, hrun, hended, _, _, rfl, ?_, ⟨_, rfl⟩, hW, hsame.mono (by decide) (by decide)⟩
  · skip
    show Steps p.tables e below (T2.setTop (mkF m 11 #[.val (.ref a1)] [])) _
    refine XS.iconst X2.here hx rfl (hb hby d15n_11) ?_
    show Steps p.tables e below (T2.setTop (mkF m 12 #[.val (.ref a1)] [(.int (0 : Int32))])) _
    exact retN X2 hx (t := .boolean) Bd.returns (by simp) (hb hby d15n_12) hr
  · show Q15n Z a1 h0 n0 _ T2.heap _
    rw [e2]
    exact ⟨(0 : Int32), rfl, N0, rfl, rfl⟩
/-! body 0 -/
theorem pn_0 : plainName "com/example/purgecast/purgecast/server/OptionTakesValuePinLaw" = true := by first | (simp [plainName, overriddenIn]; done) | decide +kernel
theorem pd0_0 : parseMethodDescriptor "([C)V" = some ⟨[(.array .char)], none⟩ := by decide +kernel
theorem pd0_1 : parseMethodDescriptor "(C)Ljava/lang/String;" = some ⟨[.char], some (.object "java/lang/String")⟩ := by decide +kernel
theorem pd0_2 : parseMethodDescriptor "(Ljava/lang/String;Ljava/lang/String;Ljava/lang/String;)V" = some ⟨[(.object "java/lang/String"), (.object "java/lang/String"), (.object "java/lang/String")], none⟩ := by decide +kernel
theorem pd0_3 : parseMethodDescriptor "(Ljava/lang/String;Ljava/lang/String;)Lcom/example/purgecast/purgecast/server/Option;" = some ⟨[(.object "java/lang/String"), (.object "java/lang/String")], some (.object "com/example/purgecast/purgecast/server/Option")⟩ := by decide +kernel
theorem pd0_4 : parseMethodDescriptor "()Z" = some ⟨[], some .boolean⟩ := by decide +kernel
theorem ef_0 (m : MethodId) (p1 : Int32) (p2 : Int32) (p3 : Int32) (p4 : Int32) : entryFrame m #[(.int p1), (.int p2), (.int p3), (.int p4)] maxLocals = mkF m 0 #[.val (.int p1), .val (.int p2), .val (.int p3), .val (.int p4), .unset, .unset, .unset, .unset, .unset, .unset, .unset] [] := by first | (simp [entryFrame, mkF, argsToLocals, Value.category, maxLocals]; done) | rfl
def Q0 (Z : State) (p1 : Int32) (p2 : Int32) (p3 : Int32) (p4 : Int32) (wC : Int32) (h0 : Heap) (n0 : Nat) (v : Option Value) (h : Heap) (L : List Loc) : Prop := v = some (.int 1) ∧ Fr n0 L
set_option maxRecDepth 65536 in
set_option maxHeartbeats 40000000 in
theorem rm0 (l : Launch) (Z : State) (a0 : Array Value) (hw : ∀ d ∈ tables_1, d.before a0 Z = true) (ws : List Jvm.Cond) (p1 : Int32) (p2 : Int32) (p3 : Int32) (p4 : Int32) (wC : Int32) (h0 : Heap) (n0 : Nat) (Z0 : n0 ≤ h0.size) (S_COMPACT_STRINGS : Sta Z h0 "java/lang/String" "COMPACT_STRINGS" "Z" (.int wC)) (hC : ¬ (wC = (0 : Int32))) :
    MetFree l x (head1 (Jvm.Cond.code x code maxLocals ret :: ws) room_1) (fun a U => a = #[(.int p1), (.int p2), (.int p3), (.int p4)] ∧ Z.Warmed39 U.vm ∧ U.heap = h0 ∧ CHv Z own_EL U.vm h0) (fun _ _ _ _ _ => True) (fun _ U o U' => ∃ v L, o = .returned v ∧ Q0 Z p1 p2 p3 p4 wC h0 n0 v U'.heap L ∧ ReturnedEndW U o U' L room_1.cells room_1.slots) := by
  refine MetFree.of_bodySF (plainFor_of_name pn_0) hisR ?_
  intro p e s m args below meth c s₁ Bd hml0 hP hK
  obtain ⟨rfl, hZ, hh, hCH⟩ := hP
  have hx := Bd.exec
  have hby := Bd.bytes
  have hml : c.maxLocals = 11 := hml0
  have hown : s.vm.findClass "com/example/purgecast/purgecast/server/OptionTakesValuePinLaw" = some m.cls := findClass_of_methodNamed Bd.named
  have hnm := (name_of_methodNamed Bd.named Bd.method).1
  have X0 : Stand p l e room_1 s m #[(.int p1), (.int p2), (.int p3), (.int p4)] below meth c s₁ [] 0 0 := Stand.of_body Bd
  have e0 : s₁.heap = h0 := by rw [← hh, Bd.state]; rfl
  have N0 := Fr.nil n0
  have pre0 : ∀ tq, Steps p.tables e below (s₁.setTop (mkF m 0 #[.val (.int p1), .val (.int p2), .val (.int p3), .val (.int p4), .unset, .unset, .unset, .unset, .unset, .unset, .unset] [])) tq → Steps p.tables e below (s₁.setTop (entryFrame m #[(.int p1), (.int p2), (.int p3), (.int p4)] maxLocals)) tq := fun tq kq => castTop (ef_0 m p1 p2 p3 p4) kq
  have own_hEL : EW Z a0 own_EL := EW.cons (hw _ (List.mem_of_getElem? (i := 80) rfl)) (by decide) EW.nil
  obtain ⟨v1, hj2, pre2⟩ : ∃ v1 : Int32, (((p1 &&& (1 : Int32)) = (0 : Int32) ∧ v1 = (0 : Int32)) ∨ (¬ ((p1 &&& (1 : Int32)) = (0 : Int32)) ∧ v1 = (1 : Int32))) ∧ (∀ tq, Steps p.tables e below (s₁.setTop (mkF m 11 #[.val (.int p1), .val (.int p2), .val (.int p3), .val (.int p4), .unset, .unset, .unset, .unset, .unset, .unset, .unset] [(.int v1)])) tq → Steps p.tables e below (s₁.setTop (entryFrame m #[(.int p1), (.int p2), (.int p3), (.int p4)] maxLocals)) tq) := by
    by_cases hb0_3 : (p1 &&& (1 : Int32)) = (0 : Int32)
    · skip
      refine ⟨(0 : Int32), Or.inl (⟨hb0_3, rfl⟩), fun tq kq => pre0 tq ?_⟩
      show Steps p.tables e below (s₁.setTop (mkF m 0 #[.val (.int p1), .val (.int p2), .val (.int p3), .val (.int p4), .unset, .unset, .unset, .unset, .unset, .unset, .unset] [])) _
      refine XS.iloadN X0.here hx rfl (hb hby at_0) rfl ?_
      show Steps p.tables e below (s₁.setTop (mkF m 1 #[.val (.int p1), .val (.int p2), .val (.int p3), .val (.int p4), .unset, .unset, .unset, .unset, .unset, .unset, .unset] [(.int p1)])) _
      refine XS.iconst X0.here hx rfl (hb hby at_1) ?_
      show Steps p.tables e below (s₁.setTop (mkF m 2 #[.val (.int p1), .val (.int p2), .val (.int p3), .val (.int p4), .unset, .unset, .unset, .unset, .unset, .unset, .unset] [(.int (1 : Int32)), (.int p1)])) _
      refine XS.iand X0.here hx rfl (hb hby at_2) rfl ?_
      show Steps p.tables e below (s₁.setTop (mkF m 3 #[.val (.int p1), .val (.int p2), .val (.int p3), .val (.int p4), .unset, .unset, .unset, .unset, .unset, .unset, .unset] [(.int (p1 &&& (1 : Int32)))])) _
      refine XS.ifYes X0.here hx rfl (pc0 := 3) (pc' := 10) rfl (hb hby at_3) rfl ((if0 _ _).trans (teq hb0_3).1) (by decide) (by decide) ?_
      show Steps p.tables e below (s₁.setTop (mkF m 10 #[.val (.int p1), .val (.int p2), .val (.int p3), .val (.int p4), .unset, .unset, .unset, .unset, .unset, .unset, .unset] [])) _
      refine XS.iconst X0.here hx rfl (hb hby at_10) ?_
      exact kq
    · skip
      refine ⟨(1 : Int32), Or.inr (⟨hb0_3, rfl⟩), fun tq kq => pre0 tq ?_⟩
      show Steps p.tables e below (s₁.setTop (mkF m 0 #[.val (.int p1), .val (.int p2), .val (.int p3), .val (.int p4), .unset, .unset, .unset, .unset, .unset, .unset, .unset] [])) _
      refine XS.iloadN X0.here hx rfl (hb hby at_0) rfl ?_
      show Steps p.tables e below (s₁.setTop (mkF m 1 #[.val (.int p1), .val (.int p2), .val (.int p3), .val (.int p4), .unset, .unset, .unset, .unset, .unset, .unset, .unset] [(.int p1)])) _
      refine XS.iconst X0.here hx rfl (hb hby at_1) ?_
      show Steps p.tables e below (s₁.setTop (mkF m 2 #[.val (.int p1), .val (.int p2), .val (.int p3), .val (.int p4), .unset, .unset, .unset, .unset, .unset, .unset, .unset] [(.int (1 : Int32)), (.int p1)])) _
      refine XS.iand X0.here hx rfl (hb hby at_2) rfl ?_
      show Steps p.tables e below (s₁.setTop (mkF m 3 #[.val (.int p1), .val (.int p2), .val (.int p3), .val (.int p4), .unset, .unset, .unset, .unset, .unset, .unset, .unset] [(.int (p1 &&& (1 : Int32)))])) _
      refine XS.ifNo X0.here hx rfl (hb hby at_3) rfl ((if0 _ _).trans (feq hb0_3).1) ?_
      show Steps p.tables e below (s₁.setTop (mkF m 6 #[.val (.int p1), .val (.int p2), .val (.int p3), .val (.int p4), .unset, .unset, .unset, .unset, .unset, .unset, .unset] [])) _
      refine XS.iconst X0.here hx rfl (hb hby at_6) ?_
      show Steps p.tables e below (s₁.setTop (mkF m 7 #[.val (.int p1), .val (.int p2), .val (.int p3), .val (.int p4), .unset, .unset, .unset, .unset, .unset, .unset, .unset] [(.int (1 : Int32))])) _
      refine XS.goto X0.here hx rfl (pc0 := 7) (pc' := 11) rfl (hb hby at_7) (by decide) (by decide) ?_
      exact kq
  obtain ⟨v3, hj4, pre4⟩ : ∃ v3 : Int32, (((p1 &&& (2 : Int32)) = (0 : Int32) ∧ v3 = (0 : Int32)) ∨ (¬ ((p1 &&& (2 : Int32)) = (0 : Int32)) ∧ v3 = (1 : Int32))) ∧ (∀ tq, Steps p.tables e below (s₁.setTop (mkF m 24 #[.val (.int p1), .val (.int p2), .val (.int p3), .val (.int p4), .val (.int v1), .unset, .unset, .unset, .unset, .unset, .unset] [(.int v3)])) tq → Steps p.tables e below (s₁.setTop (entryFrame m #[(.int p1), (.int p2), (.int p3), (.int p4)] maxLocals)) tq) := by
    by_cases hb0_16 : (p1 &&& (2 : Int32)) = (0 : Int32)
    · skip
      refine ⟨(0 : Int32), Or.inl (⟨hb0_16, rfl⟩), fun tq kq => pre2 tq ?_⟩
      show Steps p.tables e below (s₁.setTop (mkF m 11 #[.val (.int p1), .val (.int p2), .val (.int p3), .val (.int p4), .unset, .unset, .unset, .unset, .unset, .unset, .unset] [(.int v1)])) _
      refine XS.istore X0.here hx rfl (hb hby at_11) rfl (l' := #[.val (.int p1), .val (.int p2), .val (.int p3), .val (.int p4), .val (.int v1), .unset, .unset, .unset, .unset, .unset, .unset]) rfl ?_
      show Steps p.tables e below (s₁.setTop (mkF m 13 #[.val (.int p1), .val (.int p2), .val (.int p3), .val (.int p4), .val (.int v1), .unset, .unset, .unset, .unset, .unset, .unset] [])) _
      refine XS.iloadN X0.here hx rfl (hb hby at_13) rfl ?_
      show Steps p.tables e below (s₁.setTop (mkF m 14 #[.val (.int p1), .val (.int p2), .val (.int p3), .val (.int p4), .val (.int v1), .unset, .unset, .unset, .unset, .unset, .unset] [(.int p1)])) _
      refine XS.iconst X0.here hx rfl (hb hby at_14) ?_
      show Steps p.tables e below (s₁.setTop (mkF m 15 #[.val (.int p1), .val (.int p2), .val (.int p3), .val (.int p4), .val (.int v1), .unset, .unset, .unset, .unset, .unset, .unset] [(.int (2 : Int32)), (.int p1)])) _
      refine XS.iand X0.here hx rfl (hb hby at_15) rfl ?_
      show Steps p.tables e below (s₁.setTop (mkF m 16 #[.val (.int p1), .val (.int p2), .val (.int p3), .val (.int p4), .val (.int v1), .unset, .unset, .unset, .unset, .unset, .unset] [(.int (p1 &&& (2 : Int32)))])) _
      refine XS.ifYes X0.here hx rfl (pc0 := 16) (pc' := 23) rfl (hb hby at_16) rfl ((if0 _ _).trans (teq hb0_16).1) (by decide) (by decide) ?_
      show Steps p.tables e below (s₁.setTop (mkF m 23 #[.val (.int p1), .val (.int p2), .val (.int p3), .val (.int p4), .val (.int v1), .unset, .unset, .unset, .unset, .unset, .unset] [])) _
      refine XS.iconst X0.here hx rfl (hb hby at_23) ?_
      exact kq
    · skip
      refine ⟨(1 : Int32), Or.inr (⟨hb0_16, rfl⟩), fun tq kq => pre2 tq ?_⟩
      show Steps p.tables e below (s₁.setTop (mkF m 11 #[.val (.int p1), .val (.int p2), .val (.int p3), .val (.int p4), .unset, .unset, .unset, .unset, .unset, .unset, .unset] [(.int v1)])) _
      refine XS.istore X0.here hx rfl (hb hby at_11) rfl (l' := #[.val (.int p1), .val (.int p2), .val (.int p3), .val (.int p4), .val (.int v1), .unset, .unset, .unset, .unset, .unset, .unset]) rfl ?_
      show Steps p.tables e below (s₁.setTop (mkF m 13 #[.val (.int p1), .val (.int p2), .val (.int p3), .val (.int p4), .val (.int v1), .unset, .unset, .unset, .unset, .unset, .unset] [])) _
      refine XS.iloadN X0.here hx rfl (hb hby at_13) rfl ?_
      show Steps p.tables e below (s₁.setTop (mkF m 14 #[.val (.int p1), .val (.int p2), .val (.int p3), .val (.int p4), .val (.int v1), .unset, .unset, .unset, .unset, .unset, .unset] [(.int p1)])) _
      refine XS.iconst X0.here hx rfl (hb hby at_14) ?_
      show Steps p.tables e below (s₁.setTop (mkF m 15 #[.val (.int p1), .val (.int p2), .val (.int p3), .val (.int p4), .val (.int v1), .unset, .unset, .unset, .unset, .unset, .unset] [(.int (2 : Int32)), (.int p1)])) _
      refine XS.iand X0.here hx rfl (hb hby at_15) rfl ?_
      show Steps p.tables e below (s₁.setTop (mkF m 16 #[.val (.int p1), .val (.int p2), .val (.int p3), .val (.int p4), .val (.int v1), .unset, .unset, .unset, .unset, .unset, .unset] [(.int (p1 &&& (2 : Int32)))])) _
      refine XS.ifNo X0.here hx rfl (hb hby at_16) rfl ((if0 _ _).trans (feq hb0_16).1) ?_
      show Steps p.tables e below (s₁.setTop (mkF m 19 #[.val (.int p1), .val (.int p2), .val (.int p3), .val (.int p4), .val (.int v1), .unset, .unset, .unset, .unset, .unset, .unset] [])) _
      refine XS.iconst X0.here hx rfl (hb hby at_19) ?_
      show Steps p.tables e below (s₁.setTop (mkF m 20 #[.val (.int p1), .val (.int p2), .val (.int p3), .val (.int p4), .val (.int v1), .unset, .unset, .unset, .unset, .unset, .unset] [(.int (1 : Int32))])) _
      refine XS.goto X0.here hx rfl (pc0 := 20) (pc' := 24) rfl (hb hby at_20) (by decide) (by decide) ?_
      exact kq
  have pre5 : ∀ tq, Steps p.tables e below (s₁.setTop (mkF m 26 #[.val (.int p1), .val (.int p2), .val (.int p3), .val (.int p4), .val (.int v1), .val (.int v3), .unset, .unset, .unset, .unset, .unset] [])) tq → Steps p.tables e below (s₁.setTop (entryFrame m #[(.int p1), (.int p2), (.int p3), (.int p4)] maxLocals)) tq := by
    refine fun tq kq => pre4 tq ?_
    show Steps p.tables e below (s₁.setTop (mkF m 24 #[.val (.int p1), .val (.int p2), .val (.int p3), .val (.int p4), .val (.int v1), .unset, .unset, .unset, .unset, .unset, .unset] [(.int v3)])) _
    refine XS.istore X0.here hx rfl (hb hby at_24) rfl (l' := #[.val (.int p1), .val (.int p2), .val (.int p3), .val (.int p4), .val (.int v1), .val (.int v3), .unset, .unset, .unset, .unset, .unset]) rfl ?_
    exact kq
  obtain ⟨T6, h6, X6, e6, E6, A6, D6, -, st6⟩ := newO X0 hx hZ hown (hw _ (List.mem_of_getElem? (i := 0) rfl)) (hw _ (List.mem_of_getElem? (i := 1) rfl)) (hw _ (List.mem_of_getElem? (i := 2) rfl)) e0 (g := (mkF m 26 #[.val (.int p1), .val (.int p2), .val (.int p3), .val (.int p4), .val (.int v1), .val (.int v3), .unset, .unset, .unset, .unset, .unset] [])) rfl (hb hby at_26) (by decide) (by decide)
  obtain ⟨b6, g6⟩ : ∃ z, z = h0.size := ⟨_, rfl⟩
  rw [← g6] at A6 D6 st6
  have g_b6 : n0 ≤ b6 := Nat.le_trans Z0 (Nat.le_of_eq g6.symm)
  have sz_b6 : h0.size ≤ b6 := Nat.le_trans (Nat.le_refl h0.size) (Nat.le_of_eq g6.symm)
  have pre7 : ∀ tq, Steps p.tables e below (T6.setTop (mkF m 29 #[.val (.int p1), .val (.int p2), .val (.int p3), .val (.int p4), .val (.int v1), .val (.int v3), .unset, .unset, .unset, .unset, .unset] [(.ref b6)])) tq → Steps p.tables e below (s₁.setTop (entryFrame m #[(.int p1), (.int p2), (.int p3), (.int p4)] maxLocals)) tq := fun tq kq => pre5 tq (st6 _ kq)
  have f8 := S_COMPACT_STRINGS.ext E6
  have K6 : Keep h0 h6 [] := Keep.ext (Keep.refl h0 []) E6
  have f9 : Fld Z h6 b6 "java/lang/String" "coder" "B" (.int (0 : Int32)) := D6 (Or.inr (hw _ (List.mem_of_getElem? (i := 27) rfl))) (ty := .byte) (by decide)
  have f10 : Fld Z h6 b6 "java/lang/String" "value" "[B" .null := D6 (Or.inr (hw _ (List.mem_of_getElem? (i := 29) rfl))) (ty := (.array .byte)) (by decide)
  have pre11 : ∀ tq, Steps p.tables e below (T6.setTop (mkF m 31 #[.val (.int p1), .val (.int p2), .val (.int p3), .val (.int p4), .val (.int v1), .val (.int v3), .unset, .unset, .unset, .unset, .unset] [(.int (2 : Int32)), (.ref b6), (.ref b6)])) tq → Steps p.tables e below (s₁.setTop (entryFrame m #[(.int p1), (.int p2), (.int p3), (.int p4)] maxLocals)) tq := by
    refine fun tq kq => pre7 tq ?_
    show Steps p.tables e below (T6.setTop (mkF m 29 #[.val (.int p1), .val (.int p2), .val (.int p3), .val (.int p4), .val (.int v1), .val (.int v3), .unset, .unset, .unset, .unset, .unset] [(.ref b6)])) _
    refine XS.dup X6.here hx rfl (hb hby at_29) rfl rfl ?_
    show Steps p.tables e below (T6.setTop (mkF m 30 #[.val (.int p1), .val (.int p2), .val (.int p3), .val (.int p4), .val (.int v1), .val (.int v3), .unset, .unset, .unset, .unset, .unset] [(.ref b6), (.ref b6)])) _
    refine XS.iconst X6.here hx rfl (hb hby at_30) ?_
    exact kq
  obtain ⟨T12, h12, k12, X12, e12, E12, A12, st12⟩ := newP X6 hx hZ (hw _ (List.mem_of_getElem? (i := 3) rfl)) e6 (g := (mkF m 31 #[.val (.int p1), .val (.int p2), .val (.int p3), .val (.int p4), .val (.int v1), .val (.int v3), .unset, .unset, .unset, .unset, .unset] [(.int (2 : Int32)), (.ref b6), (.ref b6)])) rfl (hb hby at_31) rfl (by decide) (cap := 2) (by decide) (by decide) (by decide) (by decide)
  obtain ⟨b12, g12⟩ : ∃ z, z = h6.size := ⟨_, rfl⟩
  rw [← g12] at A12 st12
  have g_b12 : n0 ≤ b12 := Nat.le_trans (Nat.le_trans Z0 E6.1) (Nat.le_of_eq g12.symm)
  have sz_b12 : h0.size ≤ b12 := Nat.le_trans (Nat.le_trans (Nat.le_refl h0.size) E6.1) (Nat.le_of_eq g12.symm)
  have ne13 : b6 ≠ b12 := Nat.ne_of_lt (Nat.lt_of_lt_of_le A6.lt (Nat.le_of_eq g12.symm))
  have pre14 : ∀ tq, Steps p.tables e below (T12.setTop (mkF m 33 #[.val (.int p1), .val (.int p2), .val (.int p3), .val (.int p4), .val (.int v1), .val (.int v3), .unset, .unset, .unset, .unset, .unset] [(.ref b12), (.ref b6), (.ref b6)])) tq → Steps p.tables e below (s₁.setTop (entryFrame m #[(.int p1), (.int p2), (.int p3), (.int p4)] maxLocals)) tq := fun tq kq => pre11 tq (st12 _ kq)
  have f15 := f8.ext E12
  have f16 := A6.ext E12
  have f17 := f9.ext E12
  have f18 := f10.ext E12
  have K12 : Keep h0 h12 [] := Keep.ext K6 E12
  have f19 : Arv Z h12 b12 k12 .char (2 : Int32) [(.int (0 : Int32)), (.int (0 : Int32))] (.int (0 : Int32)) := (Arv.new A12 (by decide)).pad (pad_rep [] (.int (0 : Int32)) 2)
  have pre20 : ∀ tq, Steps p.tables e below (T12.setTop (mkF m 41 #[.val (.int p1), .val (.int p2), .val (.int p3), .val (.int p4), .val (.int v1), .val (.int v3), .unset, .unset, .unset, .unset, .unset] [(.int ((p2 &&& (255 : Int32)).toUInt32.toUInt16.toUInt32.toInt32)), (.int (0 : Int32)), (.ref b12), (.ref b12), (.ref b6), (.ref b6)])) tq → Steps p.tables e below (s₁.setTop (entryFrame m #[(.int p1), (.int p2), (.int p3), (.int p4)] maxLocals)) tq := by
    refine fun tq kq => pre14 tq ?_
    show Steps p.tables e below (T12.setTop (mkF m 33 #[.val (.int p1), .val (.int p2), .val (.int p3), .val (.int p4), .val (.int v1), .val (.int v3), .unset, .unset, .unset, .unset, .unset] [(.ref b12), (.ref b6), (.ref b6)])) _
    refine XS.dup X12.here hx rfl (hb hby at_33) rfl rfl ?_
    show Steps p.tables e below (T12.setTop (mkF m 34 #[.val (.int p1), .val (.int p2), .val (.int p3), .val (.int p4), .val (.int v1), .val (.int v3), .unset, .unset, .unset, .unset, .unset] [(.ref b12), (.ref b12), (.ref b6), (.ref b6)])) _
    refine XS.iconst X12.here hx rfl (hb hby at_34) ?_
    show Steps p.tables e below (T12.setTop (mkF m 35 #[.val (.int p1), .val (.int p2), .val (.int p3), .val (.int p4), .val (.int v1), .val (.int v3), .unset, .unset, .unset, .unset, .unset] [(.int (0 : Int32)), (.ref b12), (.ref b12), (.ref b6), (.ref b6)])) _
    refine XS.iloadN X12.here hx rfl (hb hby at_35) rfl ?_
    show Steps p.tables e below (T12.setTop (mkF m 36 #[.val (.int p1), .val (.int p2), .val (.int p3), .val (.int p4), .val (.int v1), .val (.int v3), .unset, .unset, .unset, .unset, .unset] [(.int p2), (.int (0 : Int32)), (.ref b12), (.ref b12), (.ref b6), (.ref b6)])) _
    refine XS.sipush X12.here hx rfl (hb hby at_36) ?_
    show Steps p.tables e below (T12.setTop (mkF m 39 #[.val (.int p1), .val (.int p2), .val (.int p3), .val (.int p4), .val (.int v1), .val (.int v3), .unset, .unset, .unset, .unset, .unset] [(.int (255 : Int32)), (.int p2), (.int (0 : Int32)), (.ref b12), (.ref b12), (.ref b6), (.ref b6)])) _
    refine XS.iand X12.here hx rfl (hb hby at_39) rfl ?_
    show Steps p.tables e below (T12.setTop (mkF m 40 #[.val (.int p1), .val (.int p2), .val (.int p3), .val (.int p4), .val (.int v1), .val (.int v3), .unset, .unset, .unset, .unset, .unset] [(.int (p2 &&& (255 : Int32))), (.int (0 : Int32)), (.ref b12), (.ref b12), (.ref b6), (.ref b6)])) _
    refine XS.i2c X12.here hx rfl (hb hby at_40) rfl ?_
    exact kq
  have Vc21 := f19
  obtain ⟨cl21, Ar21, Aq21, As21, An21, Ah21, Ag21⟩ := Vc21
  have hin21 : ¬ ((0 : Int32) < 0 ∨ cl21.slots.size ≤ ((0 : Int32)).toNatClampNeg) := inb_of As21 ⟨by decide, by decide⟩
  obtain ⟨T21, h21, X21, e21, W21, st21⟩ := stC X12 hx hZ e12 Ar21 (j := (0 : Int32)) hin21 (g := (mkF m 41 #[.val (.int p1), .val (.int p2), .val (.int p3), .val (.int p4), .val (.int v1), .val (.int v3), .unset, .unset, .unset, .unset, .unset] [(.int ((p2 &&& (255 : Int32)).toUInt32.toUInt16.toUInt32.toInt32)), (.int (0 : Int32)), (.ref b12), (.ref b12), (.ref b6), (.ref b6)])) rfl rfl (hb hby at_41)
  have pre22 : ∀ tq, Steps p.tables e below (T21.setTop (mkF m 42 #[.val (.int p1), .val (.int p2), .val (.int p3), .val (.int p4), .val (.int v1), .val (.int v3), .unset, .unset, .unset, .unset, .unset] [(.ref b12), (.ref b6), (.ref b6)])) tq → Steps p.tables e below (s₁.setTop (entryFrame m #[(.int p1), (.int p2), (.int p3), (.int p4)] maxLocals)) tq := fun tq kq => pre20 tq (st21 _ kq)
  have N21 := Fr.snoc X21 N0 g_b12
  have K21 : Keep h0 h21 [] := Keep.wr K12 W21 (Or.inr sz_b12)
  have f23 := f15.wr W21
  have f24 := f16.wr W21
  have f25 := f17.other W21 (Or.inl ne13)
  have f26 := f18.other W21 (Or.inl ne13)
  have f27 : Arv Z h21 b12 k12 .char (2 : Int32) [(.int (nar .char ((p2 &&& (255 : Int32)).toUInt32.toUInt16.toUInt32.toInt32))), (.int (0 : Int32))] (.int (0 : Int32)) := Arv.set Ar21 Aq21 As21 An21 Ah21 Ag21 (fits_nar_char _) W21 0 rfl (Nat.le_of_ble_eq_true rfl)
  have pre28 : ∀ tq, Steps p.tables e below (T21.setTop (mkF m 53 #[.val (.int p1), .val (.int p2), .val (.int p3), .val (.int p4), .val (.int v1), .val (.int v3), .unset, .unset, .unset, .unset, .unset] [(.int ((((p2.toUInt32 >>> ((8 : Int32) &&& 31).toUInt32).toInt32) &&& (255 : Int32)).toUInt32.toUInt16.toUInt32.toInt32)), (.int (1 : Int32)), (.ref b12), (.ref b12), (.ref b6), (.ref b6)])) tq → Steps p.tables e below (s₁.setTop (entryFrame m #[(.int p1), (.int p2), (.int p3), (.int p4)] maxLocals)) tq := by
    refine fun tq kq => pre22 tq ?_
    show Steps p.tables e below (T21.setTop (mkF m 42 #[.val (.int p1), .val (.int p2), .val (.int p3), .val (.int p4), .val (.int v1), .val (.int v3), .unset, .unset, .unset, .unset, .unset] [(.ref b12), (.ref b6), (.ref b6)])) _
    refine XS.dup X21.here hx rfl (hb hby at_42) rfl rfl ?_
    show Steps p.tables e below (T21.setTop (mkF m 43 #[.val (.int p1), .val (.int p2), .val (.int p3), .val (.int p4), .val (.int v1), .val (.int v3), .unset, .unset, .unset, .unset, .unset] [(.ref b12), (.ref b12), (.ref b6), (.ref b6)])) _
    refine XS.iconst X21.here hx rfl (hb hby at_43) ?_
    show Steps p.tables e below (T21.setTop (mkF m 44 #[.val (.int p1), .val (.int p2), .val (.int p3), .val (.int p4), .val (.int v1), .val (.int v3), .unset, .unset, .unset, .unset, .unset] [(.int (1 : Int32)), (.ref b12), (.ref b12), (.ref b6), (.ref b6)])) _
    refine XS.iloadN X21.here hx rfl (hb hby at_44) rfl ?_
    show Steps p.tables e below (T21.setTop (mkF m 45 #[.val (.int p1), .val (.int p2), .val (.int p3), .val (.int p4), .val (.int v1), .val (.int v3), .unset, .unset, .unset, .unset, .unset] [(.int p2), (.int (1 : Int32)), (.ref b12), (.ref b12), (.ref b6), (.ref b6)])) _
    refine XS.bipush X21.here hx rfl (hb hby at_45) ?_
    show Steps p.tables e below (T21.setTop (mkF m 47 #[.val (.int p1), .val (.int p2), .val (.int p3), .val (.int p4), .val (.int v1), .val (.int v3), .unset, .unset, .unset, .unset, .unset] [(.int (8 : Int32)), (.int p2), (.int (1 : Int32)), (.ref b12), (.ref b12), (.ref b6), (.ref b6)])) _
    refine XS.iushr X21.here hx rfl (hb hby at_47) rfl ?_
    show Steps p.tables e below (T21.setTop (mkF m 48 #[.val (.int p1), .val (.int p2), .val (.int p3), .val (.int p4), .val (.int v1), .val (.int v3), .unset, .unset, .unset, .unset, .unset] [(.int ((p2.toUInt32 >>> ((8 : Int32) &&& 31).toUInt32).toInt32)), (.int (1 : Int32)), (.ref b12), (.ref b12), (.ref b6), (.ref b6)])) _
    refine XS.sipush X21.here hx rfl (hb hby at_48) ?_
    show Steps p.tables e below (T21.setTop (mkF m 51 #[.val (.int p1), .val (.int p2), .val (.int p3), .val (.int p4), .val (.int v1), .val (.int v3), .unset, .unset, .unset, .unset, .unset] [(.int (255 : Int32)), (.int ((p2.toUInt32 >>> ((8 : Int32) &&& 31).toUInt32).toInt32)), (.int (1 : Int32)), (.ref b12), (.ref b12), (.ref b6), (.ref b6)])) _
    refine XS.iand X21.here hx rfl (hb hby at_51) rfl ?_
    show Steps p.tables e below (T21.setTop (mkF m 52 #[.val (.int p1), .val (.int p2), .val (.int p3), .val (.int p4), .val (.int v1), .val (.int v3), .unset, .unset, .unset, .unset, .unset] [(.int (((p2.toUInt32 >>> ((8 : Int32) &&& 31).toUInt32).toInt32) &&& (255 : Int32))), (.int (1 : Int32)), (.ref b12), (.ref b12), (.ref b6), (.ref b6)])) _
    refine XS.i2c X21.here hx rfl (hb hby at_52) rfl ?_
    exact kq
  have Vc29 := f27
  obtain ⟨cl29, Ar29, Aq29, As29, An29, Ah29, Ag29⟩ := Vc29
  have hin29 : ¬ ((1 : Int32) < 0 ∨ cl29.slots.size ≤ ((1 : Int32)).toNatClampNeg) := inb_of As29 ⟨by decide, by decide⟩
  obtain ⟨T29, h29, X29, e29, W29, st29⟩ := stC X21 hx hZ e21 Ar29 (j := (1 : Int32)) hin29 (g := (mkF m 53 #[.val (.int p1), .val (.int p2), .val (.int p3), .val (.int p4), .val (.int v1), .val (.int v3), .unset, .unset, .unset, .unset, .unset] [(.int ((((p2.toUInt32 >>> ((8 : Int32) &&& 31).toUInt32).toInt32) &&& (255 : Int32)).toUInt32.toUInt16.toUInt32.toInt32)), (.int (1 : Int32)), (.ref b12), (.ref b12), (.ref b6), (.ref b6)])) rfl rfl (hb hby at_53)
  have pre30 : ∀ tq, Steps p.tables e below (T29.setTop (mkF m 54 #[.val (.int p1), .val (.int p2), .val (.int p3), .val (.int p4), .val (.int v1), .val (.int v3), .unset, .unset, .unset, .unset, .unset] [(.ref b12), (.ref b6), (.ref b6)])) tq → Steps p.tables e below (s₁.setTop (entryFrame m #[(.int p1), (.int p2), (.int p3), (.int p4)] maxLocals)) tq := fun tq kq => pre28 tq (st29 _ kq)
  have N29 := Fr.snoc X29 N21 g_b12
  have K29 : Keep h0 h29 [] := Keep.wr K21 W29 (Or.inr sz_b12)
  have f31 := f23.wr W29
  have f32 := f24.wr W29
  have f33 := f25.other W29 (Or.inl ne13)
  have f34 := f26.other W29 (Or.inl ne13)
  have f35 : Arv Z h29 b12 k12 .char (2 : Int32) [(.int (nar .char ((p2 &&& (255 : Int32)).toUInt32.toUInt16.toUInt32.toInt32))), (.int (nar .char ((((p2.toUInt32 >>> ((8 : Int32) &&& 31).toUInt32).toInt32) &&& (255 : Int32)).toUInt32.toUInt16.toUInt32.toInt32)))] (.int (0 : Int32)) := Arv.set Ar29 Aq29 As29 An29 Ah29 Ag29 (fits_nar_char _) W29 1 rfl (Nat.le_of_ble_eq_true rfl)
  have Z36 : n0 ≤ h29.size := (Nat.le_trans (Nat.le_trans (Nat.le_trans (Nat.le_trans Z0 E6.1) E12.1) (Keep.of_wr W21).1) (Keep.of_wr W29).1)
  obtain ⟨_, _, ⟨T36, L36, k36, n36⟩, -, X36, ⟨Lc36, hQ36, l36, y36, z36⟩, st36⟩ := X29.specialBack hx (y := (⟨"java/lang/String", "<init>", "([C)V"⟩ : MethodName)) rfl hown (mvT hZ (hw _ (List.mem_of_getElem? (i := 4) rfl))) (mvT hZ (hw _ (List.mem_of_getElem? (i := 5) rfl))) (mvT hZ (hw _ (List.mem_of_getElem? (i := 6) rfl))) (by decide) (backOf (W := 1) (rm1 l Z a0 hw [] b6 b12 k12 (nar .char ((p2 &&& (255 : Int32)).toUInt32.toUInt16.toUInt32.toInt32)) (nar .char ((((p2.toUInt32 >>> ((8 : Int32) &&& 31).toUInt32).toInt32) &&& (255 : Int32)).toUInt32.toUInt16.toUInt32.toInt32)) (.int (0 : Int32)) wC h29 n0 Z36 f32 f34 f33 g_b6 f35 f31 (hC) (own_ch _) (own_ch _)) hZ (hw _ (List.mem_of_getElem? (i := 6) rfl)) (hw _ (List.mem_of_getElem? (i := 2) rfl)) (by decide) (by decide)) (g := (mkF m 54 #[.val (.int p1), .val (.int p2), .val (.int p3), .val (.int p4), .val (.int v1), .val (.int v3), .unset, .unset, .unset, .unset, .unset] [(.ref b12), (.ref b6), (.ref b6)])) rfl (by rw [hml]; rfl) (Steps.refl _) (a := b6) (argsL := [(.ref b12)]) (rest := [(.ref b6)]) (lenOf pd0_0 rfl) rfl (by show 2 * 0 + _ ≤ _; exact Nat.le_of_eq rfl) (hb hby at_54) (fun _ _ => ⟨rfl, e29, (by decide : ((0 + 1) + 1) + 1 ≤ _), (by decide : ((0 + 4) + 2) + 2 ≤ _)⟩)
  dsimp only [Pt.U, Pt.locs, Pt.cells, Pt.slots] at X36 l36 y36 z36 st36 hQ36
  subst l36 y36 z36
  obtain ⟨rfl, Nq36, Kq36, hq36⟩ := hQ36
  have N36 := Fr.app N29 Nq36
  have pre37 : ∀ tq, Steps p.tables e below (T36.setTop (mkF m 57 #[.val (.int p1), .val (.int p2), .val (.int p3), .val (.int p4), .val (.int v1), .val (.int v3), .unset, .unset, .unset, .unset, .unset] [(.ref b6)])) tq → Steps p.tables e below (s₁.setTop (entryFrame m #[(.int p1), (.int p2), (.int p3), (.int p4)] maxLocals)) tq := fun tq kq => pre30 tq (st36.trans kq)
  have K36 : Keep h0 T36.heap [] := Keep.trans K29 Kq36 (allS (Or.inr sz_b6) all0)
  have f38 := own_sta_keep f31 Kq36 (allS (own_nostat f32) all0)
  have f39 := f32.keep Kq36
  have f40 := f35.keep Kq36 (by simp only [List.mem_cons, List.not_mem_nil, or_false, not_or]; exact (Ne.symm ne13))
  have pre41 : ∀ tq, Steps p.tables e below (T36.setTop (mkF m 65 #[.val (.int p1), .val (.int p2), .val (.int p3), .val (.int p4), .val (.int v1), .val (.int v3), .val (.ref b6), .unset, .unset, .unset, .unset] [(.int ((p4 &&& (255 : Int32)).toUInt32.toUInt16.toUInt32.toInt32))])) tq → Steps p.tables e below (s₁.setTop (entryFrame m #[(.int p1), (.int p2), (.int p3), (.int p4)] maxLocals)) tq := by
    refine fun tq kq => pre37 tq ?_
    show Steps p.tables e below (T36.setTop (mkF m 57 #[.val (.int p1), .val (.int p2), .val (.int p3), .val (.int p4), .val (.int v1), .val (.int v3), .unset, .unset, .unset, .unset, .unset] [(.ref b6)])) _
    refine XS.astore X36.here hx rfl (hb hby at_57) rfl rfl (l' := #[.val (.int p1), .val (.int p2), .val (.int p3), .val (.int p4), .val (.int v1), .val (.int v3), .val (.ref b6), .unset, .unset, .unset, .unset]) rfl ?_
    show Steps p.tables e below (T36.setTop (mkF m 59 #[.val (.int p1), .val (.int p2), .val (.int p3), .val (.int p4), .val (.int v1), .val (.int v3), .val (.ref b6), .unset, .unset, .unset, .unset] [])) _
    refine XS.iloadN X36.here hx rfl (hb hby at_59) rfl ?_
    show Steps p.tables e below (T36.setTop (mkF m 60 #[.val (.int p1), .val (.int p2), .val (.int p3), .val (.int p4), .val (.int v1), .val (.int v3), .val (.ref b6), .unset, .unset, .unset, .unset] [(.int p4)])) _
    refine XS.sipush X36.here hx rfl (hb hby at_60) ?_
    show Steps p.tables e below (T36.setTop (mkF m 63 #[.val (.int p1), .val (.int p2), .val (.int p3), .val (.int p4), .val (.int v1), .val (.int v3), .val (.ref b6), .unset, .unset, .unset, .unset] [(.int (255 : Int32)), (.int p4)])) _
    refine XS.iand X36.here hx rfl (hb hby at_63) rfl ?_
    show Steps p.tables e below (T36.setTop (mkF m 64 #[.val (.int p1), .val (.int p2), .val (.int p3), .val (.int p4), .val (.int v1), .val (.int v3), .val (.ref b6), .unset, .unset, .unset, .unset] [(.int (p4 &&& (255 : Int32)))])) _
    refine XS.i2c X36.here hx rfl (hb hby at_64) rfl ?_
    exact kq
  have Z42 : n0 ≤ T36.heap.size := (Nat.le_trans Z36 Kq36.1)
  obtain ⟨_, _, ⟨T42, L42, k42, n42⟩, -, X42, ⟨Lc42, hQ42, l42, y42, z42⟩, st42⟩ := Jvm.LawKit.callS X36 hx (y := (⟨"java/lang/String", "valueOf", "(C)Ljava/lang/String;"⟩ : MethodName)) hown (mvT hZ (hw _ (List.mem_of_getElem? (i := 30) rfl))) (mvT hZ (hw _ (List.mem_of_getElem? (i := 31) rfl))) (mvT hZ (hw _ (List.mem_of_getElem? (i := 2) rfl))) (mvT hZ (hw _ (List.mem_of_getElem? (i := 32) rfl))) (by decide) (backOf (W := 0) (rm7 l Z a0 hw [] ((p4 &&& (255 : Int32)).toUInt32.toUInt16.toUInt32.toInt32) wC T36.heap n0 Z42 f38 (hC) (own_c1 _)) hZ (hw _ (List.mem_of_getElem? (i := 32) rfl)) (hw _ (List.mem_of_getElem? (i := 2) rfl)) (by decide) (by decide)) (g := (mkF m 65 #[.val (.int p1), .val (.int p2), .val (.int p3), .val (.int p4), .val (.int v1), .val (.int v3), .val (.ref b6), .unset, .unset, .unset, .unset] [(.int ((p4 &&& (255 : Int32)).toUInt32.toUInt16.toUInt32.toInt32))])) rfl (by rw [hml]; rfl) (argsL := [(.int ((p4 &&& (255 : Int32)).toUInt32.toUInt16.toUInt32.toInt32))]) (rest := []) (lenOf pd0_1 rfl) rfl (by show 2 * 0 + _ ≤ _; exact Nat.le_of_eq rfl) (hb hby at_65) (fun _ _ => ⟨rfl, rfl, (by decide : (((0 + 1) + 1) + 1) + 2 ≤ _), (by decide : (((0 + 4) + 2) + 2) + 5 ≤ _)⟩)
  dsimp only [Pt.U, Pt.locs, Pt.cells, Pt.slots] at X42 l42 y42 z42 st42 hQ42
  subst l42 y42 z42
  obtain ⟨r43, rfl, Nq42, Kq42, f44, f45, hq42⟩ := hQ42
  have N42 := Fr.app N36 Nq42
  have pre46 : ∀ tq, Steps p.tables e below (T42.setTop (mkF m 68 #[.val (.int p1), .val (.int p2), .val (.int p3), .val (.int p4), .val (.int v1), .val (.int v3), .val (.ref b6), .unset, .unset, .unset, .unset] [(.ref r43)])) tq → Steps p.tables e below (s₁.setTop (entryFrame m #[(.int p1), (.int p2), (.int p3), (.int p4)] maxLocals)) tq := fun tq kq => pre41 tq (st42 _ kq)
  have K42 : Keep h0 T42.heap [] := Keep.trans K36 Kq42 all0
  have f47 := own_sta_keep f38 Kq42 all0
  have f48 := f39.keep Kq42
  have f49 := f40.keep Kq42 (List.not_mem_nil)
  have g_r43 : n0 ≤ r43 := Nat.le_trans Z42 f44
  have sz_r43 : h0.size ≤ r43 := Nat.le_trans (Nat.le_trans (Nat.le_trans (Nat.le_trans (Nat.le_trans (Nat.le_trans (Nat.le_refl h0.size) E6.1) E12.1) (Keep.of_wr W21).1) (Keep.of_wr W29).1) Kq36.1) f44
  have ne50 : b6 ≠ r43 := Nat.ne_of_lt (Nat.lt_of_lt_of_le f39.lt f44)
  have ne51 : b12 ≠ r43 := Nat.ne_of_lt (Nat.lt_of_lt_of_le f40.lt f44)
  have pre52 : ∀ tq, Steps p.tables e below (T42.setTop (mkF m 75 #[.val (.int p1), .val (.int p2), .val (.int p3), .val (.int p4), .val (.int v1), .val (.int v3), .val (.ref b6), .val (.ref r43), .val .null, .unset, .unset] [(.int v1)])) tq → Steps p.tables e below (s₁.setTop (entryFrame m #[(.int p1), (.int p2), (.int p3), (.int p4)] maxLocals)) tq := by
    refine fun tq kq => pre46 tq ?_
    show Steps p.tables e below (T42.setTop (mkF m 68 #[.val (.int p1), .val (.int p2), .val (.int p3), .val (.int p4), .val (.int v1), .val (.int v3), .val (.ref b6), .unset, .unset, .unset, .unset] [(.ref r43)])) _
    refine XS.astore X42.here hx rfl (hb hby at_68) rfl rfl (l' := #[.val (.int p1), .val (.int p2), .val (.int p3), .val (.int p4), .val (.int v1), .val (.int v3), .val (.ref b6), .val (.ref r43), .unset, .unset, .unset]) rfl ?_
    show Steps p.tables e below (T42.setTop (mkF m 70 #[.val (.int p1), .val (.int p2), .val (.int p3), .val (.int p4), .val (.int v1), .val (.int v3), .val (.ref b6), .val (.ref r43), .unset, .unset, .unset] [])) _
    refine XS.aconstNull X42.here hx rfl (hb hby at_70) ?_
    show Steps p.tables e below (T42.setTop (mkF m 71 #[.val (.int p1), .val (.int p2), .val (.int p3), .val (.int p4), .val (.int v1), .val (.int v3), .val (.ref b6), .val (.ref r43), .unset, .unset, .unset] [.null])) _
    refine XS.astore X42.here hx rfl (hb hby at_71) rfl rfl (l' := #[.val (.int p1), .val (.int p2), .val (.int p3), .val (.int p4), .val (.int v1), .val (.int v3), .val (.ref b6), .val (.ref r43), .val .null, .unset, .unset]) rfl ?_
    show Steps p.tables e below (T42.setTop (mkF m 73 #[.val (.int p1), .val (.int p2), .val (.int p3), .val (.int p4), .val (.int v1), .val (.int v3), .val (.ref b6), .val (.ref r43), .val .null, .unset, .unset] [])) _
    refine XS.iload X42.here hx rfl (hb hby at_73) rfl ?_
    exact kq
  by_cases hc75 : v1 = (0 : Int32)
  · skip
    have pre53 : ∀ tq, Steps p.tables e below (T42.setTop (mkF m 131 #[.val (.int p1), .val (.int p2), .val (.int p3), .val (.int p4), .val (.int v1), .val (.int v3), .val (.ref b6), .val (.ref r43), .val .null, .unset, .unset] [])) tq → Steps p.tables e below (s₁.setTop (entryFrame m #[(.int p1), (.int p2), (.int p3), (.int p4)] maxLocals)) tq := by
      refine fun tq kq => pre52 tq ?_
      show Steps p.tables e below (T42.setTop (mkF m 75 #[.val (.int p1), .val (.int p2), .val (.int p3), .val (.int p4), .val (.int v1), .val (.int v3), .val (.ref b6), .val (.ref r43), .val .null, .unset, .unset] [(.int v1)])) _
      refine XS.ifYes X42.here hx rfl (pc0 := 75) (pc' := 131) rfl (hb hby at_75) rfl ((if0 _ _).trans (teq hc75).1) (by decide) (by decide) ?_
      exact kq
    obtain ⟨T54, h54, X54, e54, E54, A54, D54, -, st54⟩ := newO X42 hx hZ hown (hw _ (List.mem_of_getElem? (i := 44) rfl)) (hw _ (List.mem_of_getElem? (i := 45) rfl)) (hw _ (List.mem_of_getElem? (i := 46) rfl)) rfl (g := (mkF m 131 #[.val (.int p1), .val (.int p2), .val (.int p3), .val (.int p4), .val (.int v1), .val (.int v3), .val (.ref b6), .val (.ref r43), .val .null, .unset, .unset] [])) rfl (hb hby at_131) (by decide) (by decide)
    obtain ⟨b54, g54⟩ : ∃ z, z = T42.heap.size := ⟨_, rfl⟩
    rw [← g54] at A54 D54 st54
    have g_b54 : n0 ≤ b54 := Nat.le_trans (Nat.le_trans Z42 Kq42.1) (Nat.le_of_eq g54.symm)
    have sz_b54 : h0.size ≤ b54 := Nat.le_trans (Nat.le_trans (Nat.le_trans (Nat.le_trans (Nat.le_trans (Nat.le_trans (Nat.le_trans (Nat.le_refl h0.size) E6.1) E12.1) (Keep.of_wr W21).1) (Keep.of_wr W29).1) Kq36.1) Kq42.1) (Nat.le_of_eq g54.symm)
    have ne55 : b6 ≠ b54 := Nat.ne_of_lt (Nat.lt_of_lt_of_le f48.lt (Nat.le_of_eq g54.symm))
    have ne56 : b12 ≠ b54 := Nat.ne_of_lt (Nat.lt_of_lt_of_le f49.lt (Nat.le_of_eq g54.symm))
    have ne57 : r43 ≠ b54 := Nat.ne_of_lt (Nat.lt_of_lt_of_le f45.lt (Nat.le_of_eq g54.symm))
    have pre58 : ∀ tq, Steps p.tables e below (T54.setTop (mkF m 134 #[.val (.int p1), .val (.int p2), .val (.int p3), .val (.int p4), .val (.int v1), .val (.int v3), .val (.ref b6), .val (.ref r43), .val .null, .unset, .unset] [(.ref b54)])) tq → Steps p.tables e below (s₁.setTop (entryFrame m #[(.int p1), (.int p2), (.int p3), (.int p4)] maxLocals)) tq := fun tq kq => pre53 tq (st54 _ kq)
    have f59 := f47.ext E54
    have f60 := f48.ext E54
    have f61 := f49.ext E54
    have f62 := f45.ext E54
    have K54 : Keep h0 h54 [] := Keep.ext K42 E54
    have f63 : Fld Z h54 b54 "com/example/purgecast/purgecast/server/Option" "name" "Ljava/lang/String;" .null := D54 (Or.inr (hw _ (List.mem_of_getElem? (i := 65) rfl))) (ty := (.object "java/lang/String")) (by decide)
    have f64 : Fld Z h54 b54 "com/example/purgecast/purgecast/server/Option" "valueName" "Ljava/lang/String;" .null := D54 (Or.inr (hw _ (List.mem_of_getElem? (i := 67) rfl))) (ty := (.object "java/lang/String")) (by decide)
    have f65 : Fld Z h54 b54 "com/example/purgecast/purgecast/server/Option" "description" "Ljava/lang/String;" .null := D54 (Or.inr (hw _ (List.mem_of_getElem? (i := 69) rfl))) (ty := (.object "java/lang/String")) (by decide)
    have pre66 : ∀ tq, Steps p.tables e below (T54.setTop (mkF m 141 #[.val (.int p1), .val (.int p2), .val (.int p3), .val (.int p4), .val (.int v1), .val (.int v3), .val (.ref b6), .val (.ref r43), .val .null, .unset, .unset] [(.ref r43), .null, (.ref b6), (.ref b54), (.ref b54)])) tq → Steps p.tables e below (s₁.setTop (entryFrame m #[(.int p1), (.int p2), (.int p3), (.int p4)] maxLocals)) tq := by
      refine fun tq kq => pre58 tq ?_
      show Steps p.tables e below (T54.setTop (mkF m 134 #[.val (.int p1), .val (.int p2), .val (.int p3), .val (.int p4), .val (.int v1), .val (.int v3), .val (.ref b6), .val (.ref r43), .val .null, .unset, .unset] [(.ref b54)])) _
      refine XS.dup X54.here hx rfl (hb hby at_134) rfl rfl ?_
      show Steps p.tables e below (T54.setTop (mkF m 135 #[.val (.int p1), .val (.int p2), .val (.int p3), .val (.int p4), .val (.int v1), .val (.int v3), .val (.ref b6), .val (.ref r43), .val .null, .unset, .unset] [(.ref b54), (.ref b54)])) _
      refine XS.aload X54.here hx rfl (hb hby at_135) rfl rfl ?_
      show Steps p.tables e below (T54.setTop (mkF m 137 #[.val (.int p1), .val (.int p2), .val (.int p3), .val (.int p4), .val (.int v1), .val (.int v3), .val (.ref b6), .val (.ref r43), .val .null, .unset, .unset] [(.ref b6), (.ref b54), (.ref b54)])) _
      refine XS.aload X54.here hx rfl (hb hby at_137) rfl rfl ?_
      show Steps p.tables e below (T54.setTop (mkF m 139 #[.val (.int p1), .val (.int p2), .val (.int p3), .val (.int p4), .val (.int v1), .val (.int v3), .val (.ref b6), .val (.ref r43), .val .null, .unset, .unset] [.null, (.ref b6), (.ref b54), (.ref b54)])) _
      refine XS.aload X54.here hx rfl (hb hby at_139) rfl rfl ?_
      exact kq
    have Z67 : n0 ≤ h54.size := (Nat.le_trans (Nat.le_trans Z42 Kq42.1) E54.1)
    have hSi67 : s.Since s.vm h54.size := (State.WarmedH.refl s).since _
    obtain ⟨_, _, ⟨T67, L67, k67, n67⟩, -, X67, hSc67, hgr67, ⟨Lc67, hQ67, l67, y67, z67⟩, st67⟩ := Stand.specialBackS (s := (s.setVm s.vm)) X54 hx (y := (⟨"com/example/purgecast/purgecast/server/Option", "<init>", "(Ljava/lang/String;Ljava/lang/String;Ljava/lang/String;)V"⟩ : MethodName)) rfl hown (mvT hZ (hw _ (List.mem_of_getElem? (i := 47) rfl))) (mvT hZ (hw _ (List.mem_of_getElem? (i := 48) rfl))) (mvT hZ (hw _ (List.mem_of_getElem? (i := 49) rfl))) (by decide) (backOfS (s := (s.setVm s.vm)) (W := 1) (rm11n l Z a0 hw [] b54 b6 r43  h54 n0 Z67 A54 f63 f64 f65 g_b54) hZ (hw _ (List.mem_of_getElem? (i := 49) rfl)) (hw _ (List.mem_of_getElem? (i := 46) rfl)) (by decide) (by decide)) (g := (mkF m 141 #[.val (.int p1), .val (.int p2), .val (.int p3), .val (.int p4), .val (.int v1), .val (.int v3), .val (.ref b6), .val (.ref r43), .val .null, .unset, .unset] [(.ref r43), .null, (.ref b6), (.ref b54), (.ref b54)])) rfl (by rw [hml]; rfl) (Steps.refl _) (a := b54) (argsL := [(.ref b6), .null, (.ref r43)]) (rest := [(.ref b54)]) (lenOf pd0_2 rfl) rfl (by show 2 * 0 + _ ≤ _; exact Nat.le_of_eq rfl) (hb hby at_141) (fun _ _ => ⟨rfl, e54, (by decide : (((((0 + 1) + 1) + 1) + 2) + 1) + 4 ≤ _), (by decide : (((((0 + 4) + 2) + 2) + 5) + 3) + 68 ≤ _)⟩)
    dsimp only [Pt.U, Pt.locs, Pt.cells, Pt.slots] at X67 l67 y67 z67 st67 hQ67 hSc67 hgr67
    subst l67 y67 z67
    obtain ⟨XR67, hS67, hZ67, hown67⟩ := rebS (s := s) (vm0 := s.vm) hSi67 (Nat.le_refl _) X67 hSc67 (by first | exact hgr67 | (rw [e54] at hgr67; exact hgr67)) hZ hown
    obtain ⟨rfl, Nq67, Kq67, f68, hq67⟩ := hQ67
    have N67 := Fr.app N42 Nq67
    have pre69 : ∀ tq, Steps p.tables e below (T67.setTop (mkF m 144 #[.val (.int p1), .val (.int p2), .val (.int p3), .val (.int p4), .val (.int v1), .val (.int v3), .val (.ref b6), .val (.ref r43), .val .null, .unset, .unset] [(.ref b54)])) tq → Steps p.tables e below (s₁.setTop (entryFrame m #[(.int p1), (.int p2), (.int p3), (.int p4)] maxLocals)) tq := fun tq kq => pre66 tq (st67.trans kq)
    have K67 : Keep h0 T67.heap [] := Keep.trans K54 Kq67 (allS (Or.inr sz_b54) all0)
    have f70 := own_sta_keep f59 Kq67 (allS (own_nostat A54) all0)
    have f71 := f60.keep Kq67
    have f72 := f61.keep Kq67 (by simp only [List.mem_cons, List.not_mem_nil, or_false, not_or]; exact ne56)
    have f73 := f62.keep Kq67
    have f74 := A54.keep Kq67
    have pre75 : ∀ tq, Steps p.tables e below (T67.setTop (mkF m 150 #[.val (.int p1), .val (.int p2), .val (.int p3), .val (.int p4), .val (.int v1), .val (.int v3), .val (.ref b6), .val (.ref r43), .val .null, .val (.ref b54), .unset] [(.ref r43), (.ref b6)])) tq → Steps p.tables e below (s₁.setTop (entryFrame m #[(.int p1), (.int p2), (.int p3), (.int p4)] maxLocals)) tq := by
      refine fun tq kq => pre69 tq ?_
      show Steps p.tables e below (T67.setTop (mkF m 144 #[.val (.int p1), .val (.int p2), .val (.int p3), .val (.int p4), .val (.int v1), .val (.int v3), .val (.ref b6), .val (.ref r43), .val .null, .unset, .unset] [(.ref b54)])) _
      refine XS.astore XR67.here hx rfl (hb hby at_144) rfl rfl (l' := #[.val (.int p1), .val (.int p2), .val (.int p3), .val (.int p4), .val (.int v1), .val (.int v3), .val (.ref b6), .val (.ref r43), .val .null, .val (.ref b54), .unset]) rfl ?_
      show Steps p.tables e below (T67.setTop (mkF m 146 #[.val (.int p1), .val (.int p2), .val (.int p3), .val (.int p4), .val (.int v1), .val (.int v3), .val (.ref b6), .val (.ref r43), .val .null, .val (.ref b54), .unset] [])) _
      refine XS.aload XR67.here hx rfl (hb hby at_146) rfl rfl ?_
      show Steps p.tables e below (T67.setTop (mkF m 148 #[.val (.int p1), .val (.int p2), .val (.int p3), .val (.int p4), .val (.int v1), .val (.int v3), .val (.ref b6), .val (.ref r43), .val .null, .val (.ref b54), .unset] [(.ref b6)])) _
      refine XS.aload XR67.here hx rfl (hb hby at_148) rfl rfl ?_
      exact kq
    have Z76 : n0 ≤ T67.heap.size := (Nat.le_trans Z67 Kq67.1)
    obtain ⟨_, _, ⟨T76, L76, k76, n76⟩, -, X76, hSc76, hgr76, ⟨Lc76, hQ76, l76, y76, z76⟩, st76⟩ := callSS (s := (s.setVm T67.vm)) XR67 hx (y := (⟨"com/example/purgecast/purgecast/server/Option", "flag", "(Ljava/lang/String;Ljava/lang/String;)Lcom/example/purgecast/purgecast/server/Option;"⟩ : MethodName)) hown67 (mvT hZ67 (hw _ (List.mem_of_getElem? (i := 70) rfl))) (mvT hZ67 (hw _ (List.mem_of_getElem? (i := 71) rfl))) (mvT hZ67 (hw _ (List.mem_of_getElem? (i := 46) rfl))) (mvT hZ67 (hw _ (List.mem_of_getElem? (i := 72) rfl))) (by decide) (backOfS (s := (s.setVm T67.vm)) (W := 0) (rm14 l Z a0 hw [] b6 r43  T67.heap n0 Z76 ) hZ67 (hw _ (List.mem_of_getElem? (i := 72) rfl)) (hw _ (List.mem_of_getElem? (i := 46) rfl)) (by decide) (by decide)) (g := (mkF m 150 #[.val (.int p1), .val (.int p2), .val (.int p3), .val (.int p4), .val (.int v1), .val (.int v3), .val (.ref b6), .val (.ref r43), .val .null, .val (.ref b54), .unset] [(.ref r43), (.ref b6)])) rfl (by rw [hml]; rfl) (argsL := [(.ref b6), (.ref r43)]) (rest := []) (lenOf pd0_3 rfl) rfl (by show 2 * 0 + _ ≤ _; exact Nat.le_of_eq rfl) (hb hby at_150) (fun _ _ => ⟨rfl, rfl, (by decide : ((((((0 + 1) + 1) + 1) + 2) + 1) + 4) + 5 ≤ _), (by decide : ((((((0 + 4) + 2) + 2) + 5) + 3) + 68) + 71 ≤ _)⟩)
    dsimp only [Pt.U, Pt.locs, Pt.cells, Pt.slots] at X76 l76 y76 z76 st76 hQ76 hSc76 hgr76
    subst l76 y76 z76
    obtain ⟨XR76, hS76, hZ76, hown76⟩ := rebS (s := s) (vm0 := T67.vm) hS67 (Nat.le_refl _) X76 hSc76 hgr76 hZ67 hown67
    obtain ⟨r77, rfl, Nq76, Kq76, f78, f79, f80, hq76⟩ := hQ76
    have N76 := Fr.app N67 Nq76
    have pre81 : ∀ tq, Steps p.tables e below (T76.setTop (mkF m 153 #[.val (.int p1), .val (.int p2), .val (.int p3), .val (.int p4), .val (.int v1), .val (.int v3), .val (.ref b6), .val (.ref r43), .val .null, .val (.ref b54), .unset] [(.ref r77)])) tq → Steps p.tables e below (s₁.setTop (entryFrame m #[(.int p1), (.int p2), (.int p3), (.int p4)] maxLocals)) tq := fun tq kq => pre75 tq (st76.trans kq)
    have K76 : Keep h0 T76.heap [] := Keep.trans K67 Kq76 all0
    have f82 := own_sta_keep f70 Kq76 all0
    have f83 := f71.keep Kq76
    have f84 := f72.keep Kq76 (List.not_mem_nil)
    have f85 := f73.keep Kq76
    have f86 := f74.keep Kq76
    have f87 := f68.keep Kq76 (List.not_mem_nil)
    have g_r77 : n0 ≤ r77 := Nat.le_trans Z76 f78
    have sz_r77 : h0.size ≤ r77 := Nat.le_trans (Nat.le_trans (Nat.le_trans (Nat.le_trans (Nat.le_trans (Nat.le_trans (Nat.le_trans (Nat.le_trans (Nat.le_trans (Nat.le_refl h0.size) E6.1) E12.1) (Keep.of_wr W21).1) (Keep.of_wr W29).1) Kq36.1) Kq42.1) E54.1) Kq67.1) f78
    have ne88 : b6 ≠ r77 := Nat.ne_of_lt (Nat.lt_of_lt_of_le f71.lt f78)
    have ne89 : b12 ≠ r77 := Nat.ne_of_lt (Nat.lt_of_lt_of_le f72.lt f78)
    have ne90 : r43 ≠ r77 := Nat.ne_of_lt (Nat.lt_of_lt_of_le f73.lt f78)
    have ne91 : b54 ≠ r77 := Nat.ne_of_lt (Nat.lt_of_lt_of_le f74.lt f78)
    have pre92 : ∀ tq, Steps p.tables e below (T76.setTop (mkF m 157 #[.val (.int p1), .val (.int p2), .val (.int p3), .val (.int p4), .val (.int v1), .val (.int v3), .val (.ref b6), .val (.ref r43), .val .null, .val (.ref b54), .val (.ref r77)] [(.ref b54)])) tq → Steps p.tables e below (s₁.setTop (entryFrame m #[(.int p1), (.int p2), (.int p3), (.int p4)] maxLocals)) tq := by
      refine fun tq kq => pre81 tq ?_
      show Steps p.tables e below (T76.setTop (mkF m 153 #[.val (.int p1), .val (.int p2), .val (.int p3), .val (.int p4), .val (.int v1), .val (.int v3), .val (.ref b6), .val (.ref r43), .val .null, .val (.ref b54), .unset] [(.ref r77)])) _
      refine XS.astore XR76.here hx rfl (hb hby at_153) rfl rfl (l' := #[.val (.int p1), .val (.int p2), .val (.int p3), .val (.int p4), .val (.int v1), .val (.int v3), .val (.ref b6), .val (.ref r43), .val .null, .val (.ref b54), .val (.ref r77)]) rfl ?_
      show Steps p.tables e below (T76.setTop (mkF m 155 #[.val (.int p1), .val (.int p2), .val (.int p3), .val (.int p4), .val (.int v1), .val (.int v3), .val (.ref b6), .val (.ref r43), .val .null, .val (.ref b54), .val (.ref r77)] [])) _
      refine XS.aload XR76.here hx rfl (hb hby at_155) rfl rfl ?_
      exact kq
    have Z93 : n0 ≤ T76.heap.size := (Nat.le_trans Z76 Kq76.1)
    obtain ⟨cq93, kq93, q93a, q93b, q93c⟩ := isOf hZ76 rfl f86
    obtain ⟨_, _, ⟨T93, L93, k93, n93⟩, -, X93, ⟨Lc93, hQ93, l93, y93, z93⟩, st93⟩ := XR76.virtualBack hx (y := (⟨"com/example/purgecast/purgecast/server/Option", "takesValue", "()Z"⟩ : MethodName)) (z := (⟨"com/example/purgecast/purgecast/server/Option", "takesValue", "()Z"⟩ : MethodName)) hown76 (mvT hZ76 (hw _ (List.mem_of_getElem? (i := 75) rfl))) (mvT hZ76 (hw _ (List.mem_of_getElem? (i := 76) rfl))) (notFace_of_selects (args := #[]) (mvT hZ76 (hw _ (List.mem_of_getElem? (i := 78) rfl)))) (mvT hZ76 (hw _ (List.mem_of_getElem? (i := 78) rfl))) (mvT hZ76 (hw _ (List.mem_of_getElem? (i := 77) rfl))) (by decide) (backOf (W := 0) (rm15n l Z a0 hw [] b54  T76.heap n0 Z93 f87) hZ76 (hw _ (List.mem_of_getElem? (i := 79) rfl)) (hw _ (List.mem_of_getElem? (i := 46) rfl)) (by decide) (by decide)) q93a q93c (g := (mkF m 157 #[.val (.int p1), .val (.int p2), .val (.int p3), .val (.int p4), .val (.int v1), .val (.int v3), .val (.ref b6), .val (.ref r43), .val .null, .val (.ref b54), .val (.ref r77)] [(.ref b54)])) rfl (by rw [hml]; rfl) (Steps.refl _) (argsL := []) (rest := []) (lenOf pd0_4 rfl) rfl (by show 2 * 0 + _ ≤ _; exact Nat.le_of_eq rfl) (hb hby at_157) (fun _ _ => ⟨rfl, rfl, (by decide : (((((((0 + 1) + 1) + 1) + 2) + 1) + 4) + 5) + 0 ≤ _), (by decide : (((((((0 + 4) + 2) + 2) + 5) + 3) + 68) + 71) + 0 ≤ _)⟩)
    dsimp only [Pt.U, Pt.locs, Pt.cells, Pt.slots] at X93 l93 y93 z93 st93 hQ93
    subst l93 y93 z93
    obtain ⟨r94, rfl, Nq93, ehq93, hq93⟩ := hQ93
    have N93 := Fr.app N76 Nq93
    have pre95 : ∀ tq, Steps p.tables e below (T93.setTop (mkF m 160 #[.val (.int p1), .val (.int p2), .val (.int p3), .val (.int p4), .val (.int v1), .val (.int v3), .val (.ref b6), .val (.ref r43), .val .null, .val (.ref b54), .val (.ref r77)] [(.int r94)])) tq → Steps p.tables e below (s₁.setTop (entryFrame m #[(.int p1), (.int p2), (.int p3), (.int p4)] maxLocals)) tq := fun tq kq => pre92 tq (st93.trans kq)
    have hc162 : r94 = v1 := by rw [hq93]; rcases hj2 with q | q <;> first | exact q.2.symm | exact absurd q.2 hc75 | exact absurd (hc75.symm.trans q.2) (by decide)
    have pre96 : ∀ tq, Steps p.tables e below (T93.setTop (mkF m 165 #[.val (.int p1), .val (.int p2), .val (.int p3), .val (.int p4), .val (.int v1), .val (.int v3), .val (.ref b6), .val (.ref r43), .val .null, .val (.ref b54), .val (.ref r77)] [])) tq → Steps p.tables e below (s₁.setTop (entryFrame m #[(.int p1), (.int p2), (.int p3), (.int p4)] maxLocals)) tq := by
      refine fun tq kq => pre95 tq ?_
      show Steps p.tables e below (T93.setTop (mkF m 160 #[.val (.int p1), .val (.int p2), .val (.int p3), .val (.int p4), .val (.int v1), .val (.int v3), .val (.ref b6), .val (.ref r43), .val .null, .val (.ref b54), .val (.ref r77)] [(.int r94)])) _
      refine XS.iload X93.here hx rfl (hb hby at_160) rfl ?_
      show Steps p.tables e below (T93.setTop (mkF m 162 #[.val (.int p1), .val (.int p2), .val (.int p3), .val (.int p4), .val (.int v1), .val (.int v3), .val (.ref b6), .val (.ref r43), .val .null, .val (.ref b54), .val (.ref r77)] [(.int v1), (.int r94)])) _
      refine XS.icmpNo X93.here hx rfl (hb hby at_162) rfl (teq hc162).2 ?_
      exact kq
    have pre97 : ∀ tq, Steps p.tables e below (T93.setTop (mkF m 167 #[.val (.int p1), .val (.int p2), .val (.int p3), .val (.int p4), .val (.int v1), .val (.int v3), .val (.ref b6), .val (.ref r43), .val .null, .val (.ref b54), .val (.ref r77)] [(.ref r77)])) tq → Steps p.tables e below (s₁.setTop (entryFrame m #[(.int p1), (.int p2), (.int p3), (.int p4)] maxLocals)) tq := by
      refine fun tq kq => pre96 tq ?_
      show Steps p.tables e below (T93.setTop (mkF m 165 #[.val (.int p1), .val (.int p2), .val (.int p3), .val (.int p4), .val (.int v1), .val (.int v3), .val (.ref b6), .val (.ref r43), .val .null, .val (.ref b54), .val (.ref r77)] [])) _
      refine XS.aload X93.here hx rfl (hb hby at_165) rfl rfl ?_
      exact kq
    have Z98 : n0 ≤ T76.heap.size := (Nat.le_trans Z76 Kq76.1)
    obtain ⟨cq98, kq98, q98a, q98b, q98c⟩ := isOf hZ76 ehq93 f79
    obtain ⟨_, _, ⟨T98, L98, k98, n98⟩, -, X98, ⟨Lc98, hQ98, l98, y98, z98⟩, st98⟩ := X93.virtualBack hx (y := (⟨"com/example/purgecast/purgecast/server/Option", "takesValue", "()Z"⟩ : MethodName)) (z := (⟨"com/example/purgecast/purgecast/server/Option", "takesValue", "()Z"⟩ : MethodName)) hown76 (mvT hZ76 (hw _ (List.mem_of_getElem? (i := 75) rfl))) (mvT hZ76 (hw _ (List.mem_of_getElem? (i := 76) rfl))) (notFace_of_selects (args := #[]) (mvT hZ76 (hw _ (List.mem_of_getElem? (i := 78) rfl)))) (mvT hZ76 (hw _ (List.mem_of_getElem? (i := 78) rfl))) (mvT hZ76 (hw _ (List.mem_of_getElem? (i := 77) rfl))) (by decide) (backOf (W := 0) (rm15n l Z a0 hw [] r77  T76.heap n0 Z98 f80) hZ76 (hw _ (List.mem_of_getElem? (i := 79) rfl)) (hw _ (List.mem_of_getElem? (i := 46) rfl)) (by decide) (by decide)) q98a q98c (g := (mkF m 167 #[.val (.int p1), .val (.int p2), .val (.int p3), .val (.int p4), .val (.int v1), .val (.int v3), .val (.ref b6), .val (.ref r43), .val .null, .val (.ref b54), .val (.ref r77)] [(.ref r77)])) rfl (by rw [hml]; rfl) (Steps.refl _) (argsL := []) (rest := []) (lenOf pd0_4 rfl) rfl (by show 2 * 0 + _ ≤ _; exact Nat.le_of_eq rfl) (hb hby at_167) (fun _ _ => ⟨rfl, ehq93, (by decide : ((((((((0 + 1) + 1) + 1) + 2) + 1) + 4) + 5) + 0) + 0 ≤ _), (by decide : ((((((((0 + 4) + 2) + 2) + 5) + 3) + 68) + 71) + 0) + 0 ≤ _)⟩)
    dsimp only [Pt.U, Pt.locs, Pt.cells, Pt.slots] at X98 l98 y98 z98 st98 hQ98
    subst l98 y98 z98
    obtain ⟨r99, rfl, Nq98, ehq98, hq98⟩ := hQ98
    have N98 := Fr.app N93 Nq98
    have pre100 : ∀ tq, Steps p.tables e below (T98.setTop (mkF m 170 #[.val (.int p1), .val (.int p2), .val (.int p3), .val (.int p4), .val (.int v1), .val (.int v3), .val (.ref b6), .val (.ref r43), .val .null, .val (.ref b54), .val (.ref r77)] [(.int r99)])) tq → Steps p.tables e below (s₁.setTop (entryFrame m #[(.int p1), (.int p2), (.int p3), (.int p4)] maxLocals)) tq := fun tq kq => pre97 tq (st98.trans kq)
    have hc170 : r99 = (0 : Int32) := by exact hq98
    have pre101 : ∀ tq, Steps p.tables e below (T98.setTop (mkF m 173 #[.val (.int p1), .val (.int p2), .val (.int p3), .val (.int p4), .val (.int v1), .val (.int v3), .val (.ref b6), .val (.ref r43), .val .null, .val (.ref b54), .val (.ref r77)] [])) tq → Steps p.tables e below (s₁.setTop (entryFrame m #[(.int p1), (.int p2), (.int p3), (.int p4)] maxLocals)) tq := by
      refine fun tq kq => pre100 tq ?_
      show Steps p.tables e below (T98.setTop (mkF m 170 #[.val (.int p1), .val (.int p2), .val (.int p3), .val (.int p4), .val (.int v1), .val (.int v3), .val (.ref b6), .val (.ref r43), .val .null, .val (.ref b54), .val (.ref r77)] [(.int r99)])) _
      refine XS.ifNo X98.here hx rfl (hb hby at_170) rfl ((if0 _ _).trans (teq hc170).2) ?_
      exact kq
    obtain ⟨fs, hr, hrun, hended, hEnd⟩ := Stand.leaveW (s := s) (vm₁ := T76.vm) X98 hS76 (by rw [ehq98]; exact (Nat.le_refl _)) (v := some (.int (1 : Int32))) (fun h => by rw [Bd.returns] at h; cases h)
    refine ⟨_, _, pre101 _ ?_, hrun, hended, _, _, rfl, ?_, hEnd.1, hEnd.2.1, hEnd.2.2.1, hEnd.2.2.2.mono (by decide) (by decide)⟩
    · skip
      show Steps p.tables e below (T98.setTop (mkF m 173 #[.val (.int p1), .val (.int p2), .val (.int p3), .val (.int p4), .val (.int v1), .val (.int v3), .val (.ref b6), .val (.ref r43), .val .null, .val (.ref b54), .val (.ref r77)] [])) _
      refine XS.iconst X98.here hx rfl (hb hby at_173) ?_
      show Steps p.tables e below (T98.setTop (mkF m 174 #[.val (.int p1), .val (.int p2), .val (.int p3), .val (.int p4), .val (.int v1), .val (.int v3), .val (.ref b6), .val (.ref r43), .val .null, .val (.ref b54), .val (.ref r77)] [(.int (1 : Int32))])) _
      refine XS.goto X98.here hx rfl (pc0 := 174) (pc' := 178) rfl (hb hby at_174) (by decide) (by decide) ?_
      show Steps p.tables e below (T98.setTop (mkF m 178 #[.val (.int p1), .val (.int p2), .val (.int p3), .val (.int p4), .val (.int v1), .val (.int v3), .val (.ref b6), .val (.ref r43), .val .null, .val (.ref b54), .val (.ref r77)] [(.int (1 : Int32))])) _
      exact retN X98 hx (t := .boolean) Bd.returns (by simp) (hb hby at_178) hr
    · show Q0 Z p1 p2 p3 p4 wC h0 n0 _ T98.heap _
      rw [ehq98]
      exact ⟨rfl, N98⟩
  · skip
    have pre102 : ∀ tq, Steps p.tables e below (T42.setTop (mkF m 78 #[.val (.int p1), .val (.int p2), .val (.int p3), .val (.int p4), .val (.int v1), .val (.int v3), .val (.ref b6), .val (.ref r43), .val .null, .unset, .unset] [])) tq → Steps p.tables e below (s₁.setTop (entryFrame m #[(.int p1), (.int p2), (.int p3), (.int p4)] maxLocals)) tq := by
      refine fun tq kq => pre52 tq ?_
      show Steps p.tables e below (T42.setTop (mkF m 75 #[.val (.int p1), .val (.int p2), .val (.int p3), .val (.int p4), .val (.int v1), .val (.int v3), .val (.ref b6), .val (.ref r43), .val .null, .unset, .unset] [(.int v1)])) _
      refine XS.ifNo X42.here hx rfl (hb hby at_75) rfl ((if0 _ _).trans (feq hc75).1) ?_
      exact kq
    have pre103 : ∀ tq, Steps p.tables e below (T42.setTop (mkF m 80 #[.val (.int p1), .val (.int p2), .val (.int p3), .val (.int p4), .val (.int v1), .val (.int v3), .val (.ref b6), .val (.ref r43), .val .null, .unset, .unset] [(.int v3)])) tq → Steps p.tables e below (s₁.setTop (entryFrame m #[(.int p1), (.int p2), (.int p3), (.int p4)] maxLocals)) tq := by
      refine fun tq kq => pre102 tq ?_
      show Steps p.tables e below (T42.setTop (mkF m 78 #[.val (.int p1), .val (.int p2), .val (.int p3), .val (.int p4), .val (.int v1), .val (.int v3), .val (.ref b6), .val (.ref r43), .val .null, .unset, .unset] [])) _
      refine XS.iload X42.here hx rfl (hb hby at_78) rfl ?_
      exact kq
    by_cases hc80 : v3 = (0 : Int32)
    · skip
      have pre104 : ∀ tq, Steps p.tables e below (T42.setTop (mkF m 98 #[.val (.int p1), .val (.int p2), .val (.int p3), .val (.int p4), .val (.int v1), .val (.int v3), .val (.ref b6), .val (.ref r43), .val .null, .unset, .unset] [])) tq → Steps p.tables e below (s₁.setTop (entryFrame m #[(.int p1), (.int p2), (.int p3), (.int p4)] maxLocals)) tq := by
        refine fun tq kq => pre103 tq ?_
        show Steps p.tables e below (T42.setTop (mkF m 80 #[.val (.int p1), .val (.int p2), .val (.int p3), .val (.int p4), .val (.int v1), .val (.int v3), .val (.ref b6), .val (.ref r43), .val .null, .unset, .unset] [(.int v3)])) _
        refine XS.ifYes X42.here hx rfl (pc0 := 80) (pc' := 98) rfl (hb hby at_80) rfl ((if0 _ _).trans (teq hc80).1) (by decide) (by decide) ?_
        exact kq
      obtain ⟨T105, h105, X105, e105, E105, A105, D105, -, st105⟩ := newO X42 hx hZ hown (hw _ (List.mem_of_getElem? (i := 0) rfl)) (hw _ (List.mem_of_getElem? (i := 1) rfl)) (hw _ (List.mem_of_getElem? (i := 2) rfl)) rfl (g := (mkF m 98 #[.val (.int p1), .val (.int p2), .val (.int p3), .val (.int p4), .val (.int v1), .val (.int v3), .val (.ref b6), .val (.ref r43), .val .null, .unset, .unset] [])) rfl (hb hby at_98) (by decide) (by decide)
      obtain ⟨b105, g105⟩ : ∃ z, z = T42.heap.size := ⟨_, rfl⟩
      rw [← g105] at A105 D105 st105
      have g_b105 : n0 ≤ b105 := Nat.le_trans (Nat.le_trans Z42 Kq42.1) (Nat.le_of_eq g105.symm)
      have sz_b105 : h0.size ≤ b105 := Nat.le_trans (Nat.le_trans (Nat.le_trans (Nat.le_trans (Nat.le_trans (Nat.le_trans (Nat.le_trans (Nat.le_refl h0.size) E6.1) E12.1) (Keep.of_wr W21).1) (Keep.of_wr W29).1) Kq36.1) Kq42.1) (Nat.le_of_eq g105.symm)
      have ne106 : b6 ≠ b105 := Nat.ne_of_lt (Nat.lt_of_lt_of_le f48.lt (Nat.le_of_eq g105.symm))
      have ne107 : b12 ≠ b105 := Nat.ne_of_lt (Nat.lt_of_lt_of_le f49.lt (Nat.le_of_eq g105.symm))
      have ne108 : r43 ≠ b105 := Nat.ne_of_lt (Nat.lt_of_lt_of_le f45.lt (Nat.le_of_eq g105.symm))
      have pre109 : ∀ tq, Steps p.tables e below (T105.setTop (mkF m 101 #[.val (.int p1), .val (.int p2), .val (.int p3), .val (.int p4), .val (.int v1), .val (.int v3), .val (.ref b6), .val (.ref r43), .val .null, .unset, .unset] [(.ref b105)])) tq → Steps p.tables e below (s₁.setTop (entryFrame m #[(.int p1), (.int p2), (.int p3), (.int p4)] maxLocals)) tq := fun tq kq => pre104 tq (st105 _ kq)
      have f110 := f47.ext E105
      have f111 := f48.ext E105
      have f112 := f49.ext E105
      have f113 := f45.ext E105
      have K105 : Keep h0 h105 [] := Keep.ext K42 E105
      have f114 : Fld Z h105 b105 "java/lang/String" "coder" "B" (.int (0 : Int32)) := D105 (Or.inr (hw _ (List.mem_of_getElem? (i := 27) rfl))) (ty := .byte) (by decide)
      have f115 : Fld Z h105 b105 "java/lang/String" "value" "[B" .null := D105 (Or.inr (hw _ (List.mem_of_getElem? (i := 29) rfl))) (ty := (.array .byte)) (by decide)
      have pre116 : ∀ tq, Steps p.tables e below (T105.setTop (mkF m 103 #[.val (.int p1), .val (.int p2), .val (.int p3), .val (.int p4), .val (.int v1), .val (.int v3), .val (.ref b6), .val (.ref r43), .val .null, .unset, .unset] [(.int (2 : Int32)), (.ref b105), (.ref b105)])) tq → Steps p.tables e below (s₁.setTop (entryFrame m #[(.int p1), (.int p2), (.int p3), (.int p4)] maxLocals)) tq := by
        refine fun tq kq => pre109 tq ?_
        show Steps p.tables e below (T105.setTop (mkF m 101 #[.val (.int p1), .val (.int p2), .val (.int p3), .val (.int p4), .val (.int v1), .val (.int v3), .val (.ref b6), .val (.ref r43), .val .null, .unset, .unset] [(.ref b105)])) _
        refine XS.dup X105.here hx rfl (hb hby at_101) rfl rfl ?_
        show Steps p.tables e below (T105.setTop (mkF m 102 #[.val (.int p1), .val (.int p2), .val (.int p3), .val (.int p4), .val (.int v1), .val (.int v3), .val (.ref b6), .val (.ref r43), .val .null, .unset, .unset] [(.ref b105), (.ref b105)])) _
        refine XS.iconst X105.here hx rfl (hb hby at_102) ?_
        exact kq
      obtain ⟨T117, h117, k117, X117, e117, E117, A117, st117⟩ := newP X105 hx hZ (hw _ (List.mem_of_getElem? (i := 3) rfl)) e105 (g := (mkF m 103 #[.val (.int p1), .val (.int p2), .val (.int p3), .val (.int p4), .val (.int v1), .val (.int v3), .val (.ref b6), .val (.ref r43), .val .null, .unset, .unset] [(.int (2 : Int32)), (.ref b105), (.ref b105)])) rfl (hb hby at_103) rfl (by decide) (cap := 2) (by decide) (by decide) (by decide) (by decide)
      obtain ⟨b117, g117⟩ : ∃ z, z = h105.size := ⟨_, rfl⟩
      rw [← g117] at A117 st117
      have g_b117 : n0 ≤ b117 := Nat.le_trans (Nat.le_trans (Nat.le_trans Z42 Kq42.1) E105.1) (Nat.le_of_eq g117.symm)
      have sz_b117 : h0.size ≤ b117 := Nat.le_trans (Nat.le_trans (Nat.le_trans (Nat.le_trans (Nat.le_trans (Nat.le_trans (Nat.le_trans (Nat.le_trans (Nat.le_refl h0.size) E6.1) E12.1) (Keep.of_wr W21).1) (Keep.of_wr W29).1) Kq36.1) Kq42.1) E105.1) (Nat.le_of_eq g117.symm)
      have ne118 : b6 ≠ b117 := Nat.ne_of_lt (Nat.lt_of_lt_of_le f111.lt (Nat.le_of_eq g117.symm))
      have ne119 : b12 ≠ b117 := Nat.ne_of_lt (Nat.lt_of_lt_of_le f112.lt (Nat.le_of_eq g117.symm))
      have ne120 : r43 ≠ b117 := Nat.ne_of_lt (Nat.lt_of_lt_of_le f113.lt (Nat.le_of_eq g117.symm))
      have ne121 : b105 ≠ b117 := Nat.ne_of_lt (Nat.lt_of_lt_of_le A105.lt (Nat.le_of_eq g117.symm))
      have pre122 : ∀ tq, Steps p.tables e below (T117.setTop (mkF m 105 #[.val (.int p1), .val (.int p2), .val (.int p3), .val (.int p4), .val (.int v1), .val (.int v3), .val (.ref b6), .val (.ref r43), .val .null, .unset, .unset] [(.ref b117), (.ref b105), (.ref b105)])) tq → Steps p.tables e below (s₁.setTop (entryFrame m #[(.int p1), (.int p2), (.int p3), (.int p4)] maxLocals)) tq := fun tq kq => pre116 tq (st117 _ kq)
      have f123 := f110.ext E117
      have f124 := f111.ext E117
      have f125 := f112.ext E117
      have f126 := f113.ext E117
      have f127 := A105.ext E117
      have f128 := f114.ext E117
      have f129 := f115.ext E117
      have K117 : Keep h0 h117 [] := Keep.ext K105 E117
      have f130 : Arv Z h117 b117 k117 .char (2 : Int32) [(.int (0 : Int32)), (.int (0 : Int32))] (.int (0 : Int32)) := (Arv.new A117 (by decide)).pad (pad_rep [] (.int (0 : Int32)) 2)
      have pre131 : ∀ tq, Steps p.tables e below (T117.setTop (mkF m 113 #[.val (.int p1), .val (.int p2), .val (.int p3), .val (.int p4), .val (.int v1), .val (.int v3), .val (.ref b6), .val (.ref r43), .val .null, .unset, .unset] [(.int ((p3 &&& (255 : Int32)).toUInt32.toUInt16.toUInt32.toInt32)), (.int (0 : Int32)), (.ref b117), (.ref b117), (.ref b105), (.ref b105)])) tq → Steps p.tables e below (s₁.setTop (entryFrame m #[(.int p1), (.int p2), (.int p3), (.int p4)] maxLocals)) tq := by
        refine fun tq kq => pre122 tq ?_
        show Steps p.tables e below (T117.setTop (mkF m 105 #[.val (.int p1), .val (.int p2), .val (.int p3), .val (.int p4), .val (.int v1), .val (.int v3), .val (.ref b6), .val (.ref r43), .val .null, .unset, .unset] [(.ref b117), (.ref b105), (.ref b105)])) _
        refine XS.dup X117.here hx rfl (hb hby at_105) rfl rfl ?_
        show Steps p.tables e below (T117.setTop (mkF m 106 #[.val (.int p1), .val (.int p2), .val (.int p3), .val (.int p4), .val (.int v1), .val (.int v3), .val (.ref b6), .val (.ref r43), .val .null, .unset, .unset] [(.ref b117), (.ref b117), (.ref b105), (.ref b105)])) _
        refine XS.iconst X117.here hx rfl (hb hby at_106) ?_
        show Steps p.tables e below (T117.setTop (mkF m 107 #[.val (.int p1), .val (.int p2), .val (.int p3), .val (.int p4), .val (.int v1), .val (.int v3), .val (.ref b6), .val (.ref r43), .val .null, .unset, .unset] [(.int (0 : Int32)), (.ref b117), (.ref b117), (.ref b105), (.ref b105)])) _
        refine XS.iloadN X117.here hx rfl (hb hby at_107) rfl ?_
        show Steps p.tables e below (T117.setTop (mkF m 108 #[.val (.int p1), .val (.int p2), .val (.int p3), .val (.int p4), .val (.int v1), .val (.int v3), .val (.ref b6), .val (.ref r43), .val .null, .unset, .unset] [(.int p3), (.int (0 : Int32)), (.ref b117), (.ref b117), (.ref b105), (.ref b105)])) _
        refine XS.sipush X117.here hx rfl (hb hby at_108) ?_
        show Steps p.tables e below (T117.setTop (mkF m 111 #[.val (.int p1), .val (.int p2), .val (.int p3), .val (.int p4), .val (.int v1), .val (.int v3), .val (.ref b6), .val (.ref r43), .val .null, .unset, .unset] [(.int (255 : Int32)), (.int p3), (.int (0 : Int32)), (.ref b117), (.ref b117), (.ref b105), (.ref b105)])) _
        refine XS.iand X117.here hx rfl (hb hby at_111) rfl ?_
        show Steps p.tables e below (T117.setTop (mkF m 112 #[.val (.int p1), .val (.int p2), .val (.int p3), .val (.int p4), .val (.int v1), .val (.int v3), .val (.ref b6), .val (.ref r43), .val .null, .unset, .unset] [(.int (p3 &&& (255 : Int32))), (.int (0 : Int32)), (.ref b117), (.ref b117), (.ref b105), (.ref b105)])) _
        refine XS.i2c X117.here hx rfl (hb hby at_112) rfl ?_
        exact kq
      have Vc132 := f130
      obtain ⟨cl132, Ar132, Aq132, As132, An132, Ah132, Ag132⟩ := Vc132
      have hin132 : ¬ ((0 : Int32) < 0 ∨ cl132.slots.size ≤ ((0 : Int32)).toNatClampNeg) := inb_of As132 ⟨by decide, by decide⟩
      obtain ⟨T132, h132, X132, e132, W132, st132⟩ := stC X117 hx hZ e117 Ar132 (j := (0 : Int32)) hin132 (g := (mkF m 113 #[.val (.int p1), .val (.int p2), .val (.int p3), .val (.int p4), .val (.int v1), .val (.int v3), .val (.ref b6), .val (.ref r43), .val .null, .unset, .unset] [(.int ((p3 &&& (255 : Int32)).toUInt32.toUInt16.toUInt32.toInt32)), (.int (0 : Int32)), (.ref b117), (.ref b117), (.ref b105), (.ref b105)])) rfl rfl (hb hby at_113)
      have pre133 : ∀ tq, Steps p.tables e below (T132.setTop (mkF m 114 #[.val (.int p1), .val (.int p2), .val (.int p3), .val (.int p4), .val (.int v1), .val (.int v3), .val (.ref b6), .val (.ref r43), .val .null, .unset, .unset] [(.ref b117), (.ref b105), (.ref b105)])) tq → Steps p.tables e below (s₁.setTop (entryFrame m #[(.int p1), (.int p2), (.int p3), (.int p4)] maxLocals)) tq := fun tq kq => pre131 tq (st132 _ kq)
      have N132 := Fr.snoc X132 N42 g_b117
      have K132 : Keep h0 h132 [] := Keep.wr K117 W132 (Or.inr sz_b117)
      have f134 := f123.wr W132
      have f135 := f124.wr W132
      have f136 := f125.other W132 ne119
      have f137 := f126.wr W132
      have f138 := f127.wr W132
      have f139 := f128.other W132 (Or.inl ne121)
      have f140 := f129.other W132 (Or.inl ne121)
      have f141 : Arv Z h132 b117 k117 .char (2 : Int32) [(.int (nar .char ((p3 &&& (255 : Int32)).toUInt32.toUInt16.toUInt32.toInt32))), (.int (0 : Int32))] (.int (0 : Int32)) := Arv.set Ar132 Aq132 As132 An132 Ah132 Ag132 (fits_nar_char _) W132 0 rfl (Nat.le_of_ble_eq_true rfl)
      have pre142 : ∀ tq, Steps p.tables e below (T132.setTop (mkF m 125 #[.val (.int p1), .val (.int p2), .val (.int p3), .val (.int p4), .val (.int v1), .val (.int v3), .val (.ref b6), .val (.ref r43), .val .null, .unset, .unset] [(.int ((((p3.toUInt32 >>> ((8 : Int32) &&& 31).toUInt32).toInt32) &&& (255 : Int32)).toUInt32.toUInt16.toUInt32.toInt32)), (.int (1 : Int32)), (.ref b117), (.ref b117), (.ref b105), (.ref b105)])) tq → Steps p.tables e below (s₁.setTop (entryFrame m #[(.int p1), (.int p2), (.int p3), (.int p4)] maxLocals)) tq := by
        refine fun tq kq => pre133 tq ?_
        show Steps p.tables e below (T132.setTop (mkF m 114 #[.val (.int p1), .val (.int p2), .val (.int p3), .val (.int p4), .val (.int v1), .val (.int v3), .val (.ref b6), .val (.ref r43), .val .null, .unset, .unset] [(.ref b117), (.ref b105), (.ref b105)])) _
        refine XS.dup X132.here hx rfl (hb hby at_114) rfl rfl ?_
        show Steps p.tables e below (T132.setTop (mkF m 115 #[.val (.int p1), .val (.int p2), .val (.int p3), .val (.int p4), .val (.int v1), .val (.int v3), .val (.ref b6), .val (.ref r43), .val .null, .unset, .unset] [(.ref b117), (.ref b117), (.ref b105), (.ref b105)])) _
        refine XS.iconst X132.here hx rfl (hb hby at_115) ?_
        show Steps p.tables e below (T132.setTop (mkF m 116 #[.val (.int p1), .val (.int p2), .val (.int p3), .val (.int p4), .val (.int v1), .val (.int v3), .val (.ref b6), .val (.ref r43), .val .null, .unset, .unset] [(.int (1 : Int32)), (.ref b117), (.ref b117), (.ref b105), (.ref b105)])) _
        refine XS.iloadN X132.here hx rfl (hb hby at_116) rfl ?_
        show Steps p.tables e below (T132.setTop (mkF m 117 #[.val (.int p1), .val (.int p2), .val (.int p3), .val (.int p4), .val (.int v1), .val (.int v3), .val (.ref b6), .val (.ref r43), .val .null, .unset, .unset] [(.int p3), (.int (1 : Int32)), (.ref b117), (.ref b117), (.ref b105), (.ref b105)])) _
        refine XS.bipush X132.here hx rfl (hb hby at_117) ?_
        show Steps p.tables e below (T132.setTop (mkF m 119 #[.val (.int p1), .val (.int p2), .val (.int p3), .val (.int p4), .val (.int v1), .val (.int v3), .val (.ref b6), .val (.ref r43), .val .null, .unset, .unset] [(.int (8 : Int32)), (.int p3), (.int (1 : Int32)), (.ref b117), (.ref b117), (.ref b105), (.ref b105)])) _
        refine XS.iushr X132.here hx rfl (hb hby at_119) rfl ?_
        show Steps p.tables e below (T132.setTop (mkF m 120 #[.val (.int p1), .val (.int p2), .val (.int p3), .val (.int p4), .val (.int v1), .val (.int v3), .val (.ref b6), .val (.ref r43), .val .null, .unset, .unset] [(.int ((p3.toUInt32 >>> ((8 : Int32) &&& 31).toUInt32).toInt32)), (.int (1 : Int32)), (.ref b117), (.ref b117), (.ref b105), (.ref b105)])) _
        refine XS.sipush X132.here hx rfl (hb hby at_120) ?_
        show Steps p.tables e below (T132.setTop (mkF m 123 #[.val (.int p1), .val (.int p2), .val (.int p3), .val (.int p4), .val (.int v1), .val (.int v3), .val (.ref b6), .val (.ref r43), .val .null, .unset, .unset] [(.int (255 : Int32)), (.int ((p3.toUInt32 >>> ((8 : Int32) &&& 31).toUInt32).toInt32)), (.int (1 : Int32)), (.ref b117), (.ref b117), (.ref b105), (.ref b105)])) _
        refine XS.iand X132.here hx rfl (hb hby at_123) rfl ?_
        show Steps p.tables e below (T132.setTop (mkF m 124 #[.val (.int p1), .val (.int p2), .val (.int p3), .val (.int p4), .val (.int v1), .val (.int v3), .val (.ref b6), .val (.ref r43), .val .null, .unset, .unset] [(.int (((p3.toUInt32 >>> ((8 : Int32) &&& 31).toUInt32).toInt32) &&& (255 : Int32))), (.int (1 : Int32)), (.ref b117), (.ref b117), (.ref b105), (.ref b105)])) _
        refine XS.i2c X132.here hx rfl (hb hby at_124) rfl ?_
        exact kq
      have Vc143 := f141
      obtain ⟨cl143, Ar143, Aq143, As143, An143, Ah143, Ag143⟩ := Vc143
      have hin143 : ¬ ((1 : Int32) < 0 ∨ cl143.slots.size ≤ ((1 : Int32)).toNatClampNeg) := inb_of As143 ⟨by decide, by decide⟩
      obtain ⟨T143, h143, X143, e143, W143, st143⟩ := stC X132 hx hZ e132 Ar143 (j := (1 : Int32)) hin143 (g := (mkF m 125 #[.val (.int p1), .val (.int p2), .val (.int p3), .val (.int p4), .val (.int v1), .val (.int v3), .val (.ref b6), .val (.ref r43), .val .null, .unset, .unset] [(.int ((((p3.toUInt32 >>> ((8 : Int32) &&& 31).toUInt32).toInt32) &&& (255 : Int32)).toUInt32.toUInt16.toUInt32.toInt32)), (.int (1 : Int32)), (.ref b117), (.ref b117), (.ref b105), (.ref b105)])) rfl rfl (hb hby at_125)
      have pre144 : ∀ tq, Steps p.tables e below (T143.setTop (mkF m 126 #[.val (.int p1), .val (.int p2), .val (.int p3), .val (.int p4), .val (.int v1), .val (.int v3), .val (.ref b6), .val (.ref r43), .val .null, .unset, .unset] [(.ref b117), (.ref b105), (.ref b105)])) tq → Steps p.tables e below (s₁.setTop (entryFrame m #[(.int p1), (.int p2), (.int p3), (.int p4)] maxLocals)) tq := fun tq kq => pre142 tq (st143 _ kq)
      have N143 := Fr.snoc X143 N132 g_b117
      have K143 : Keep h0 h143 [] := Keep.wr K132 W143 (Or.inr sz_b117)
      have f145 := f134.wr W143
      have f146 := f135.wr W143
      have f147 := f136.other W143 ne119
      have f148 := f137.wr W143
      have f149 := f138.wr W143
      have f150 := f139.other W143 (Or.inl ne121)
      have f151 := f140.other W143 (Or.inl ne121)
      have f152 : Arv Z h143 b117 k117 .char (2 : Int32) [(.int (nar .char ((p3 &&& (255 : Int32)).toUInt32.toUInt16.toUInt32.toInt32))), (.int (nar .char ((((p3.toUInt32 >>> ((8 : Int32) &&& 31).toUInt32).toInt32) &&& (255 : Int32)).toUInt32.toUInt16.toUInt32.toInt32)))] (.int (0 : Int32)) := Arv.set Ar143 Aq143 As143 An143 Ah143 Ag143 (fits_nar_char _) W143 1 rfl (Nat.le_of_ble_eq_true rfl)
      have Z153 : n0 ≤ h143.size := (Nat.le_trans (Nat.le_trans (Nat.le_trans (Nat.le_trans (Nat.le_trans Z42 Kq42.1) E105.1) E117.1) (Keep.of_wr W132).1) (Keep.of_wr W143).1)
      obtain ⟨_, _, ⟨T153, L153, k153, n153⟩, -, X153, ⟨Lc153, hQ153, l153, y153, z153⟩, st153⟩ := X143.specialBack hx (y := (⟨"java/lang/String", "<init>", "([C)V"⟩ : MethodName)) rfl hown (mvT hZ (hw _ (List.mem_of_getElem? (i := 4) rfl))) (mvT hZ (hw _ (List.mem_of_getElem? (i := 5) rfl))) (mvT hZ (hw _ (List.mem_of_getElem? (i := 6) rfl))) (by decide) (backOf (W := 1) (rm1 l Z a0 hw [] b105 b117 k117 (nar .char ((p3 &&& (255 : Int32)).toUInt32.toUInt16.toUInt32.toInt32)) (nar .char ((((p3.toUInt32 >>> ((8 : Int32) &&& 31).toUInt32).toInt32) &&& (255 : Int32)).toUInt32.toUInt16.toUInt32.toInt32)) (.int (0 : Int32)) wC h143 n0 Z153 f149 f151 f150 g_b105 f152 f145 (hC) (own_ch _) (own_ch _)) hZ (hw _ (List.mem_of_getElem? (i := 6) rfl)) (hw _ (List.mem_of_getElem? (i := 2) rfl)) (by decide) (by decide)) (g := (mkF m 126 #[.val (.int p1), .val (.int p2), .val (.int p3), .val (.int p4), .val (.int v1), .val (.int v3), .val (.ref b6), .val (.ref r43), .val .null, .unset, .unset] [(.ref b117), (.ref b105), (.ref b105)])) rfl (by rw [hml]; rfl) (Steps.refl _) (a := b105) (argsL := [(.ref b117)]) (rest := [(.ref b105)]) (lenOf pd0_0 rfl) rfl (by show 2 * 0 + _ ≤ _; exact Nat.le_of_eq rfl) (hb hby at_126) (fun _ _ => ⟨rfl, e143, (by decide : ((((((0 + 1) + 1) + 1) + 2) + 1) + 1) + 1 ≤ _), (by decide : ((((((0 + 4) + 2) + 2) + 5) + 4) + 2) + 2 ≤ _)⟩)
      dsimp only [Pt.U, Pt.locs, Pt.cells, Pt.slots] at X153 l153 y153 z153 st153 hQ153
      subst l153 y153 z153
      obtain ⟨rfl, Nq153, Kq153, hq153⟩ := hQ153
      have N153 := Fr.app N143 Nq153
      have pre154 : ∀ tq, Steps p.tables e below (T153.setTop (mkF m 129 #[.val (.int p1), .val (.int p2), .val (.int p3), .val (.int p4), .val (.int v1), .val (.int v3), .val (.ref b6), .val (.ref r43), .val .null, .unset, .unset] [(.ref b105)])) tq → Steps p.tables e below (s₁.setTop (entryFrame m #[(.int p1), (.int p2), (.int p3), (.int p4)] maxLocals)) tq := fun tq kq => pre144 tq (st153.trans kq)
      have K153 : Keep h0 T153.heap [] := Keep.trans K143 Kq153 (allS (Or.inr sz_b105) all0)
      have f155 := own_sta_keep f145 Kq153 (allS (own_nostat f149) all0)
      have f156 := f146.keep Kq153
      have f157 := f147.keep Kq153 (by simp only [List.mem_cons, List.not_mem_nil, or_false, not_or]; exact ne107)
      have f158 := f148.keep Kq153
      have f159 := f149.keep Kq153
      have f160 := f152.keep Kq153 (by simp only [List.mem_cons, List.not_mem_nil, or_false, not_or]; exact (Ne.symm ne121))
      have pre161 : ∀ tq, Steps p.tables e below (T153.setTop (mkF m 131 #[.val (.int p1), .val (.int p2), .val (.int p3), .val (.int p4), .val (.int v1), .val (.int v3), .val (.ref b6), .val (.ref r43), .val (.ref b105), .unset, .unset] [])) tq → Steps p.tables e below (s₁.setTop (entryFrame m #[(.int p1), (.int p2), (.int p3), (.int p4)] maxLocals)) tq := by
        refine fun tq kq => pre154 tq ?_
        show Steps p.tables e below (T153.setTop (mkF m 129 #[.val (.int p1), .val (.int p2), .val (.int p3), .val (.int p4), .val (.int v1), .val (.int v3), .val (.ref b6), .val (.ref r43), .val .null, .unset, .unset] [(.ref b105)])) _
        refine XS.astore X153.here hx rfl (hb hby at_129) rfl rfl (l' := #[.val (.int p1), .val (.int p2), .val (.int p3), .val (.int p4), .val (.int v1), .val (.int v3), .val (.ref b6), .val (.ref r43), .val (.ref b105), .unset, .unset]) rfl ?_
        exact kq
      obtain ⟨T162, h162, X162, e162, E162, A162, D162, -, st162⟩ := newO X153 hx hZ hown (hw _ (List.mem_of_getElem? (i := 44) rfl)) (hw _ (List.mem_of_getElem? (i := 45) rfl)) (hw _ (List.mem_of_getElem? (i := 46) rfl)) rfl (g := (mkF m 131 #[.val (.int p1), .val (.int p2), .val (.int p3), .val (.int p4), .val (.int v1), .val (.int v3), .val (.ref b6), .val (.ref r43), .val (.ref b105), .unset, .unset] [])) rfl (hb hby at_131) (by decide) (by decide)
      obtain ⟨b162, g162⟩ : ∃ z, z = T153.heap.size := ⟨_, rfl⟩
      rw [← g162] at A162 D162 st162
      have g_b162 : n0 ≤ b162 := Nat.le_trans (Nat.le_trans Z153 Kq153.1) (Nat.le_of_eq g162.symm)
      have sz_b162 : h0.size ≤ b162 := Nat.le_trans (Nat.le_trans (Nat.le_trans (Nat.le_trans (Nat.le_trans (Nat.le_trans (Nat.le_trans (Nat.le_trans (Nat.le_trans (Nat.le_trans (Nat.le_trans (Nat.le_trans (Nat.le_refl h0.size) E6.1) E12.1) (Keep.of_wr W21).1) (Keep.of_wr W29).1) Kq36.1) Kq42.1) E105.1) E117.1) (Keep.of_wr W132).1) (Keep.of_wr W143).1) Kq153.1) (Nat.le_of_eq g162.symm)
      have ne163 : b6 ≠ b162 := Nat.ne_of_lt (Nat.lt_of_lt_of_le f156.lt (Nat.le_of_eq g162.symm))
      have ne164 : b12 ≠ b162 := Nat.ne_of_lt (Nat.lt_of_lt_of_le f157.lt (Nat.le_of_eq g162.symm))
      have ne165 : r43 ≠ b162 := Nat.ne_of_lt (Nat.lt_of_lt_of_le f158.lt (Nat.le_of_eq g162.symm))
      have ne166 : b105 ≠ b162 := Nat.ne_of_lt (Nat.lt_of_lt_of_le f159.lt (Nat.le_of_eq g162.symm))
      have ne167 : b117 ≠ b162 := Nat.ne_of_lt (Nat.lt_of_lt_of_le f160.lt (Nat.le_of_eq g162.symm))
      have pre168 : ∀ tq, Steps p.tables e below (T162.setTop (mkF m 134 #[.val (.int p1), .val (.int p2), .val (.int p3), .val (.int p4), .val (.int v1), .val (.int v3), .val (.ref b6), .val (.ref r43), .val (.ref b105), .unset, .unset] [(.ref b162)])) tq → Steps p.tables e below (s₁.setTop (entryFrame m #[(.int p1), (.int p2), (.int p3), (.int p4)] maxLocals)) tq := fun tq kq => pre161 tq (st162 _ kq)
      have f169 := f155.ext E162
      have f170 := f156.ext E162
      have f171 := f157.ext E162
      have f172 := f158.ext E162
      have f173 := f159.ext E162
      have f174 := f160.ext E162
      have K162 : Keep h0 h162 [] := Keep.ext K153 E162
      have f175 : Fld Z h162 b162 "com/example/purgecast/purgecast/server/Option" "name" "Ljava/lang/String;" .null := D162 (Or.inr (hw _ (List.mem_of_getElem? (i := 65) rfl))) (ty := (.object "java/lang/String")) (by decide)
      have f176 : Fld Z h162 b162 "com/example/purgecast/purgecast/server/Option" "valueName" "Ljava/lang/String;" .null := D162 (Or.inr (hw _ (List.mem_of_getElem? (i := 67) rfl))) (ty := (.object "java/lang/String")) (by decide)
      have f177 : Fld Z h162 b162 "com/example/purgecast/purgecast/server/Option" "description" "Ljava/lang/String;" .null := D162 (Or.inr (hw _ (List.mem_of_getElem? (i := 69) rfl))) (ty := (.object "java/lang/String")) (by decide)
      have pre178 : ∀ tq, Steps p.tables e below (T162.setTop (mkF m 141 #[.val (.int p1), .val (.int p2), .val (.int p3), .val (.int p4), .val (.int v1), .val (.int v3), .val (.ref b6), .val (.ref r43), .val (.ref b105), .unset, .unset] [(.ref r43), (.ref b105), (.ref b6), (.ref b162), (.ref b162)])) tq → Steps p.tables e below (s₁.setTop (entryFrame m #[(.int p1), (.int p2), (.int p3), (.int p4)] maxLocals)) tq := by
        refine fun tq kq => pre168 tq ?_
        show Steps p.tables e below (T162.setTop (mkF m 134 #[.val (.int p1), .val (.int p2), .val (.int p3), .val (.int p4), .val (.int v1), .val (.int v3), .val (.ref b6), .val (.ref r43), .val (.ref b105), .unset, .unset] [(.ref b162)])) _
        refine XS.dup X162.here hx rfl (hb hby at_134) rfl rfl ?_
        show Steps p.tables e below (T162.setTop (mkF m 135 #[.val (.int p1), .val (.int p2), .val (.int p3), .val (.int p4), .val (.int v1), .val (.int v3), .val (.ref b6), .val (.ref r43), .val (.ref b105), .unset, .unset] [(.ref b162), (.ref b162)])) _
        refine XS.aload X162.here hx rfl (hb hby at_135) rfl rfl ?_
        show Steps p.tables e below (T162.setTop (mkF m 137 #[.val (.int p1), .val (.int p2), .val (.int p3), .val (.int p4), .val (.int v1), .val (.int v3), .val (.ref b6), .val (.ref r43), .val (.ref b105), .unset, .unset] [(.ref b6), (.ref b162), (.ref b162)])) _
        refine XS.aload X162.here hx rfl (hb hby at_137) rfl rfl ?_
        show Steps p.tables e below (T162.setTop (mkF m 139 #[.val (.int p1), .val (.int p2), .val (.int p3), .val (.int p4), .val (.int v1), .val (.int v3), .val (.ref b6), .val (.ref r43), .val (.ref b105), .unset, .unset] [(.ref b105), (.ref b6), (.ref b162), (.ref b162)])) _
        refine XS.aload X162.here hx rfl (hb hby at_139) rfl rfl ?_
        exact kq
      have Z179 : n0 ≤ h162.size := (Nat.le_trans (Nat.le_trans Z153 Kq153.1) E162.1)
      have hSi179 : s.Since s.vm h162.size := (State.WarmedH.refl s).since _
      obtain ⟨_, _, ⟨T179, L179, k179, n179⟩, -, X179, hSc179, hgr179, ⟨Lc179, hQ179, l179, y179, z179⟩, st179⟩ := Stand.specialBackS (s := (s.setVm s.vm)) X162 hx (y := (⟨"com/example/purgecast/purgecast/server/Option", "<init>", "(Ljava/lang/String;Ljava/lang/String;Ljava/lang/String;)V"⟩ : MethodName)) rfl hown (mvT hZ (hw _ (List.mem_of_getElem? (i := 47) rfl))) (mvT hZ (hw _ (List.mem_of_getElem? (i := 48) rfl))) (mvT hZ (hw _ (List.mem_of_getElem? (i := 49) rfl))) (by decide) (backOfS (s := (s.setVm s.vm)) (W := 1) (rm11v l Z a0 hw [] b162 b6 b105 r43  h162 n0 Z179 A162 f175 f176 f177 g_b162) hZ (hw _ (List.mem_of_getElem? (i := 49) rfl)) (hw _ (List.mem_of_getElem? (i := 46) rfl)) (by decide) (by decide)) (g := (mkF m 141 #[.val (.int p1), .val (.int p2), .val (.int p3), .val (.int p4), .val (.int v1), .val (.int v3), .val (.ref b6), .val (.ref r43), .val (.ref b105), .unset, .unset] [(.ref r43), (.ref b105), (.ref b6), (.ref b162), (.ref b162)])) rfl (by rw [hml]; rfl) (Steps.refl _) (a := b162) (argsL := [(.ref b6), (.ref b105), (.ref r43)]) (rest := [(.ref b162)]) (lenOf pd0_2 rfl) rfl (by show 2 * 0 + _ ≤ _; exact Nat.le_of_eq rfl) (hb hby at_141) (fun _ _ => ⟨rfl, e162, (by decide : ((((((((0 + 1) + 1) + 1) + 2) + 1) + 1) + 1) + 1) + 4 ≤ _), (by decide : ((((((((0 + 4) + 2) + 2) + 5) + 4) + 2) + 2) + 3) + 68 ≤ _)⟩)
      dsimp only [Pt.U, Pt.locs, Pt.cells, Pt.slots] at X179 l179 y179 z179 st179 hQ179 hSc179 hgr179
      subst l179 y179 z179
      obtain ⟨XR179, hS179, hZ179, hown179⟩ := rebS (s := s) (vm0 := s.vm) hSi179 (Nat.le_refl _) X179 hSc179 (by first | exact hgr179 | (rw [e162] at hgr179; exact hgr179)) hZ hown
      obtain ⟨rfl, Nq179, Kq179, f180, hq179⟩ := hQ179
      have N179 := Fr.app N153 Nq179
      have pre181 : ∀ tq, Steps p.tables e below (T179.setTop (mkF m 144 #[.val (.int p1), .val (.int p2), .val (.int p3), .val (.int p4), .val (.int v1), .val (.int v3), .val (.ref b6), .val (.ref r43), .val (.ref b105), .unset, .unset] [(.ref b162)])) tq → Steps p.tables e below (s₁.setTop (entryFrame m #[(.int p1), (.int p2), (.int p3), (.int p4)] maxLocals)) tq := fun tq kq => pre178 tq (st179.trans kq)
      have K179 : Keep h0 T179.heap [] := Keep.trans K162 Kq179 (allS (Or.inr sz_b162) all0)
      have f182 := own_sta_keep f169 Kq179 (allS (own_nostat A162) all0)
      have f183 := f170.keep Kq179
      have f184 := f171.keep Kq179 (by simp only [List.mem_cons, List.not_mem_nil, or_false, not_or]; exact ne164)
      have f185 := f172.keep Kq179
      have f186 := f173.keep Kq179
      have f187 := f174.keep Kq179 (by simp only [List.mem_cons, List.not_mem_nil, or_false, not_or]; exact ne167)
      have f188 := A162.keep Kq179
      have pre189 : ∀ tq, Steps p.tables e below (T179.setTop (mkF m 150 #[.val (.int p1), .val (.int p2), .val (.int p3), .val (.int p4), .val (.int v1), .val (.int v3), .val (.ref b6), .val (.ref r43), .val (.ref b105), .val (.ref b162), .unset] [(.ref r43), (.ref b6)])) tq → Steps p.tables e below (s₁.setTop (entryFrame m #[(.int p1), (.int p2), (.int p3), (.int p4)] maxLocals)) tq := by
        refine fun tq kq => pre181 tq ?_
        show Steps p.tables e below (T179.setTop (mkF m 144 #[.val (.int p1), .val (.int p2), .val (.int p3), .val (.int p4), .val (.int v1), .val (.int v3), .val (.ref b6), .val (.ref r43), .val (.ref b105), .unset, .unset] [(.ref b162)])) _
        refine XS.astore XR179.here hx rfl (hb hby at_144) rfl rfl (l' := #[.val (.int p1), .val (.int p2), .val (.int p3), .val (.int p4), .val (.int v1), .val (.int v3), .val (.ref b6), .val (.ref r43), .val (.ref b105), .val (.ref b162), .unset]) rfl ?_
        show Steps p.tables e below (T179.setTop (mkF m 146 #[.val (.int p1), .val (.int p2), .val (.int p3), .val (.int p4), .val (.int v1), .val (.int v3), .val (.ref b6), .val (.ref r43), .val (.ref b105), .val (.ref b162), .unset] [])) _
        refine XS.aload XR179.here hx rfl (hb hby at_146) rfl rfl ?_
        show Steps p.tables e below (T179.setTop (mkF m 148 #[.val (.int p1), .val (.int p2), .val (.int p3), .val (.int p4), .val (.int v1), .val (.int v3), .val (.ref b6), .val (.ref r43), .val (.ref b105), .val (.ref b162), .unset] [(.ref b6)])) _
        refine XS.aload XR179.here hx rfl (hb hby at_148) rfl rfl ?_
        exact kq
      have Z190 : n0 ≤ T179.heap.size := (Nat.le_trans Z179 Kq179.1)
      obtain ⟨_, _, ⟨T190, L190, k190, n190⟩, -, X190, hSc190, hgr190, ⟨Lc190, hQ190, l190, y190, z190⟩, st190⟩ := callSS (s := (s.setVm T179.vm)) XR179 hx (y := (⟨"com/example/purgecast/purgecast/server/Option", "flag", "(Ljava/lang/String;Ljava/lang/String;)Lcom/example/purgecast/purgecast/server/Option;"⟩ : MethodName)) hown179 (mvT hZ179 (hw _ (List.mem_of_getElem? (i := 70) rfl))) (mvT hZ179 (hw _ (List.mem_of_getElem? (i := 71) rfl))) (mvT hZ179 (hw _ (List.mem_of_getElem? (i := 46) rfl))) (mvT hZ179 (hw _ (List.mem_of_getElem? (i := 72) rfl))) (by decide) (backOfS (s := (s.setVm T179.vm)) (W := 0) (rm14 l Z a0 hw [] b6 r43  T179.heap n0 Z190 ) hZ179 (hw _ (List.mem_of_getElem? (i := 72) rfl)) (hw _ (List.mem_of_getElem? (i := 46) rfl)) (by decide) (by decide)) (g := (mkF m 150 #[.val (.int p1), .val (.int p2), .val (.int p3), .val (.int p4), .val (.int v1), .val (.int v3), .val (.ref b6), .val (.ref r43), .val (.ref b105), .val (.ref b162), .unset] [(.ref r43), (.ref b6)])) rfl (by rw [hml]; rfl) (argsL := [(.ref b6), (.ref r43)]) (rest := []) (lenOf pd0_3 rfl) rfl (by show 2 * 0 + _ ≤ _; exact Nat.le_of_eq rfl) (hb hby at_150) (fun _ _ => ⟨rfl, rfl, (by decide : (((((((((0 + 1) + 1) + 1) + 2) + 1) + 1) + 1) + 1) + 4) + 5 ≤ _), (by decide : (((((((((0 + 4) + 2) + 2) + 5) + 4) + 2) + 2) + 3) + 68) + 71 ≤ _)⟩)
      dsimp only [Pt.U, Pt.locs, Pt.cells, Pt.slots] at X190 l190 y190 z190 st190 hQ190 hSc190 hgr190
      subst l190 y190 z190
      obtain ⟨XR190, hS190, hZ190, hown190⟩ := rebS (s := s) (vm0 := T179.vm) hS179 (Nat.le_refl _) X190 hSc190 hgr190 hZ179 hown179
      obtain ⟨r191, rfl, Nq190, Kq190, f192, f193, f194, hq190⟩ := hQ190
      have N190 := Fr.app N179 Nq190
      have pre195 : ∀ tq, Steps p.tables e below (T190.setTop (mkF m 153 #[.val (.int p1), .val (.int p2), .val (.int p3), .val (.int p4), .val (.int v1), .val (.int v3), .val (.ref b6), .val (.ref r43), .val (.ref b105), .val (.ref b162), .unset] [(.ref r191)])) tq → Steps p.tables e below (s₁.setTop (entryFrame m #[(.int p1), (.int p2), (.int p3), (.int p4)] maxLocals)) tq := fun tq kq => pre189 tq (st190.trans kq)
      have K190 : Keep h0 T190.heap [] := Keep.trans K179 Kq190 all0
      have f196 := own_sta_keep f182 Kq190 all0
      have f197 := f183.keep Kq190
      have f198 := f184.keep Kq190 (List.not_mem_nil)
      have f199 := f185.keep Kq190
      have f200 := f186.keep Kq190
      have f201 := f187.keep Kq190 (List.not_mem_nil)
      have f202 := f188.keep Kq190
      have f203 := f180.keep Kq190 (List.not_mem_nil)
      have g_r191 : n0 ≤ r191 := Nat.le_trans Z190 f192
      have sz_r191 : h0.size ≤ r191 := Nat.le_trans (Nat.le_trans (Nat.le_trans (Nat.le_trans (Nat.le_trans (Nat.le_trans (Nat.le_trans (Nat.le_trans (Nat.le_trans (Nat.le_trans (Nat.le_trans (Nat.le_trans (Nat.le_trans (Nat.le_trans (Nat.le_refl h0.size) E6.1) E12.1) (Keep.of_wr W21).1) (Keep.of_wr W29).1) Kq36.1) Kq42.1) E105.1) E117.1) (Keep.of_wr W132).1) (Keep.of_wr W143).1) Kq153.1) E162.1) Kq179.1) f192
      have ne204 : b6 ≠ r191 := Nat.ne_of_lt (Nat.lt_of_lt_of_le f183.lt f192)
      have ne205 : b12 ≠ r191 := Nat.ne_of_lt (Nat.lt_of_lt_of_le f184.lt f192)
      have ne206 : r43 ≠ r191 := Nat.ne_of_lt (Nat.lt_of_lt_of_le f185.lt f192)
      have ne207 : b105 ≠ r191 := Nat.ne_of_lt (Nat.lt_of_lt_of_le f186.lt f192)
      have ne208 : b117 ≠ r191 := Nat.ne_of_lt (Nat.lt_of_lt_of_le f187.lt f192)
      have ne209 : b162 ≠ r191 := Nat.ne_of_lt (Nat.lt_of_lt_of_le f188.lt f192)
      have pre210 : ∀ tq, Steps p.tables e below (T190.setTop (mkF m 157 #[.val (.int p1), .val (.int p2), .val (.int p3), .val (.int p4), .val (.int v1), .val (.int v3), .val (.ref b6), .val (.ref r43), .val (.ref b105), .val (.ref b162), .val (.ref r191)] [(.ref b162)])) tq → Steps p.tables e below (s₁.setTop (entryFrame m #[(.int p1), (.int p2), (.int p3), (.int p4)] maxLocals)) tq := by
        refine fun tq kq => pre195 tq ?_
        show Steps p.tables e below (T190.setTop (mkF m 153 #[.val (.int p1), .val (.int p2), .val (.int p3), .val (.int p4), .val (.int v1), .val (.int v3), .val (.ref b6), .val (.ref r43), .val (.ref b105), .val (.ref b162), .unset] [(.ref r191)])) _
        refine XS.astore XR190.here hx rfl (hb hby at_153) rfl rfl (l' := #[.val (.int p1), .val (.int p2), .val (.int p3), .val (.int p4), .val (.int v1), .val (.int v3), .val (.ref b6), .val (.ref r43), .val (.ref b105), .val (.ref b162), .val (.ref r191)]) rfl ?_
        show Steps p.tables e below (T190.setTop (mkF m 155 #[.val (.int p1), .val (.int p2), .val (.int p3), .val (.int p4), .val (.int v1), .val (.int v3), .val (.ref b6), .val (.ref r43), .val (.ref b105), .val (.ref b162), .val (.ref r191)] [])) _
        refine XS.aload XR190.here hx rfl (hb hby at_155) rfl rfl ?_
        exact kq
      have Z211 : n0 ≤ T190.heap.size := (Nat.le_trans Z190 Kq190.1)
      obtain ⟨cq211, kq211, q211a, q211b, q211c⟩ := isOf hZ190 rfl f202
      obtain ⟨_, _, ⟨T211, L211, k211, n211⟩, -, X211, ⟨Lc211, hQ211, l211, y211, z211⟩, st211⟩ := XR190.virtualBack hx (y := (⟨"com/example/purgecast/purgecast/server/Option", "takesValue", "()Z"⟩ : MethodName)) (z := (⟨"com/example/purgecast/purgecast/server/Option", "takesValue", "()Z"⟩ : MethodName)) hown190 (mvT hZ190 (hw _ (List.mem_of_getElem? (i := 75) rfl))) (mvT hZ190 (hw _ (List.mem_of_getElem? (i := 76) rfl))) (notFace_of_selects (args := #[]) (mvT hZ190 (hw _ (List.mem_of_getElem? (i := 78) rfl)))) (mvT hZ190 (hw _ (List.mem_of_getElem? (i := 78) rfl))) (mvT hZ190 (hw _ (List.mem_of_getElem? (i := 77) rfl))) (by decide) (backOf (W := 0) (rm15v l Z a0 hw [] b162 b105 T190.heap n0 Z211 f203) hZ190 (hw _ (List.mem_of_getElem? (i := 79) rfl)) (hw _ (List.mem_of_getElem? (i := 46) rfl)) (by decide) (by decide)) q211a q211c (g := (mkF m 157 #[.val (.int p1), .val (.int p2), .val (.int p3), .val (.int p4), .val (.int v1), .val (.int v3), .val (.ref b6), .val (.ref r43), .val (.ref b105), .val (.ref b162), .val (.ref r191)] [(.ref b162)])) rfl (by rw [hml]; rfl) (Steps.refl _) (argsL := []) (rest := []) (lenOf pd0_4 rfl) rfl (by show 2 * 0 + _ ≤ _; exact Nat.le_of_eq rfl) (hb hby at_157) (fun _ _ => ⟨rfl, rfl, (by decide : ((((((((((0 + 1) + 1) + 1) + 2) + 1) + 1) + 1) + 1) + 4) + 5) + 0 ≤ _), (by decide : ((((((((((0 + 4) + 2) + 2) + 5) + 4) + 2) + 2) + 3) + 68) + 71) + 0 ≤ _)⟩)
      dsimp only [Pt.U, Pt.locs, Pt.cells, Pt.slots] at X211 l211 y211 z211 st211 hQ211
      subst l211 y211 z211
      obtain ⟨r212, rfl, Nq211, ehq211, hq211⟩ := hQ211
      have N211 := Fr.app N190 Nq211
      have pre213 : ∀ tq, Steps p.tables e below (T211.setTop (mkF m 160 #[.val (.int p1), .val (.int p2), .val (.int p3), .val (.int p4), .val (.int v1), .val (.int v3), .val (.ref b6), .val (.ref r43), .val (.ref b105), .val (.ref b162), .val (.ref r191)] [(.int r212)])) tq → Steps p.tables e below (s₁.setTop (entryFrame m #[(.int p1), (.int p2), (.int p3), (.int p4)] maxLocals)) tq := fun tq kq => pre210 tq (st211.trans kq)
      have hc162 : r212 = v1 := by rw [hq211]; rcases hj2 with q | q <;> first | exact q.2.symm | exact absurd q.2 hc75 | exact absurd (hc75.symm.trans q.2) (by decide)
      have pre214 : ∀ tq, Steps p.tables e below (T211.setTop (mkF m 165 #[.val (.int p1), .val (.int p2), .val (.int p3), .val (.int p4), .val (.int v1), .val (.int v3), .val (.ref b6), .val (.ref r43), .val (.ref b105), .val (.ref b162), .val (.ref r191)] [])) tq → Steps p.tables e below (s₁.setTop (entryFrame m #[(.int p1), (.int p2), (.int p3), (.int p4)] maxLocals)) tq := by
        refine fun tq kq => pre213 tq ?_
        show Steps p.tables e below (T211.setTop (mkF m 160 #[.val (.int p1), .val (.int p2), .val (.int p3), .val (.int p4), .val (.int v1), .val (.int v3), .val (.ref b6), .val (.ref r43), .val (.ref b105), .val (.ref b162), .val (.ref r191)] [(.int r212)])) _
        refine XS.iload X211.here hx rfl (hb hby at_160) rfl ?_
        show Steps p.tables e below (T211.setTop (mkF m 162 #[.val (.int p1), .val (.int p2), .val (.int p3), .val (.int p4), .val (.int v1), .val (.int v3), .val (.ref b6), .val (.ref r43), .val (.ref b105), .val (.ref b162), .val (.ref r191)] [(.int v1), (.int r212)])) _
        refine XS.icmpNo X211.here hx rfl (hb hby at_162) rfl (teq hc162).2 ?_
        exact kq
      have pre215 : ∀ tq, Steps p.tables e below (T211.setTop (mkF m 167 #[.val (.int p1), .val (.int p2), .val (.int p3), .val (.int p4), .val (.int v1), .val (.int v3), .val (.ref b6), .val (.ref r43), .val (.ref b105), .val (.ref b162), .val (.ref r191)] [(.ref r191)])) tq → Steps p.tables e below (s₁.setTop (entryFrame m #[(.int p1), (.int p2), (.int p3), (.int p4)] maxLocals)) tq := by
        refine fun tq kq => pre214 tq ?_
        show Steps p.tables e below (T211.setTop (mkF m 165 #[.val (.int p1), .val (.int p2), .val (.int p3), .val (.int p4), .val (.int v1), .val (.int v3), .val (.ref b6), .val (.ref r43), .val (.ref b105), .val (.ref b162), .val (.ref r191)] [])) _
        refine XS.aload X211.here hx rfl (hb hby at_165) rfl rfl ?_
        exact kq
      have Z216 : n0 ≤ T190.heap.size := (Nat.le_trans Z190 Kq190.1)
      obtain ⟨cq216, kq216, q216a, q216b, q216c⟩ := isOf hZ190 ehq211 f193
      obtain ⟨_, _, ⟨T216, L216, k216, n216⟩, -, X216, ⟨Lc216, hQ216, l216, y216, z216⟩, st216⟩ := X211.virtualBack hx (y := (⟨"com/example/purgecast/purgecast/server/Option", "takesValue", "()Z"⟩ : MethodName)) (z := (⟨"com/example/purgecast/purgecast/server/Option", "takesValue", "()Z"⟩ : MethodName)) hown190 (mvT hZ190 (hw _ (List.mem_of_getElem? (i := 75) rfl))) (mvT hZ190 (hw _ (List.mem_of_getElem? (i := 76) rfl))) (notFace_of_selects (args := #[]) (mvT hZ190 (hw _ (List.mem_of_getElem? (i := 78) rfl)))) (mvT hZ190 (hw _ (List.mem_of_getElem? (i := 78) rfl))) (mvT hZ190 (hw _ (List.mem_of_getElem? (i := 77) rfl))) (by decide) (backOf (W := 0) (rm15n l Z a0 hw [] r191  T190.heap n0 Z216 f194) hZ190 (hw _ (List.mem_of_getElem? (i := 79) rfl)) (hw _ (List.mem_of_getElem? (i := 46) rfl)) (by decide) (by decide)) q216a q216c (g := (mkF m 167 #[.val (.int p1), .val (.int p2), .val (.int p3), .val (.int p4), .val (.int v1), .val (.int v3), .val (.ref b6), .val (.ref r43), .val (.ref b105), .val (.ref b162), .val (.ref r191)] [(.ref r191)])) rfl (by rw [hml]; rfl) (Steps.refl _) (argsL := []) (rest := []) (lenOf pd0_4 rfl) rfl (by show 2 * 0 + _ ≤ _; exact Nat.le_of_eq rfl) (hb hby at_167) (fun _ _ => ⟨rfl, ehq211, (by decide : (((((((((((0 + 1) + 1) + 1) + 2) + 1) + 1) + 1) + 1) + 4) + 5) + 0) + 0 ≤ _), (by decide : (((((((((((0 + 4) + 2) + 2) + 5) + 4) + 2) + 2) + 3) + 68) + 71) + 0) + 0 ≤ _)⟩)
      dsimp only [Pt.U, Pt.locs, Pt.cells, Pt.slots] at X216 l216 y216 z216 st216 hQ216
      subst l216 y216 z216
      obtain ⟨r217, rfl, Nq216, ehq216, hq216⟩ := hQ216
      have N216 := Fr.app N211 Nq216
      have pre218 : ∀ tq, Steps p.tables e below (T216.setTop (mkF m 170 #[.val (.int p1), .val (.int p2), .val (.int p3), .val (.int p4), .val (.int v1), .val (.int v3), .val (.ref b6), .val (.ref r43), .val (.ref b105), .val (.ref b162), .val (.ref r191)] [(.int r217)])) tq → Steps p.tables e below (s₁.setTop (entryFrame m #[(.int p1), (.int p2), (.int p3), (.int p4)] maxLocals)) tq := fun tq kq => pre215 tq (st216.trans kq)
      have hc170 : r217 = (0 : Int32) := by exact hq216
      have pre219 : ∀ tq, Steps p.tables e below (T216.setTop (mkF m 173 #[.val (.int p1), .val (.int p2), .val (.int p3), .val (.int p4), .val (.int v1), .val (.int v3), .val (.ref b6), .val (.ref r43), .val (.ref b105), .val (.ref b162), .val (.ref r191)] [])) tq → Steps p.tables e below (s₁.setTop (entryFrame m #[(.int p1), (.int p2), (.int p3), (.int p4)] maxLocals)) tq := by
        refine fun tq kq => pre218 tq ?_
        show Steps p.tables e below (T216.setTop (mkF m 170 #[.val (.int p1), .val (.int p2), .val (.int p3), .val (.int p4), .val (.int v1), .val (.int v3), .val (.ref b6), .val (.ref r43), .val (.ref b105), .val (.ref b162), .val (.ref r191)] [(.int r217)])) _
        refine XS.ifNo X216.here hx rfl (hb hby at_170) rfl ((if0 _ _).trans (teq hc170).2) ?_
        exact kq
      obtain ⟨fs, hr, hrun, hended, hEnd⟩ := Stand.leaveW (s := s) (vm₁ := T190.vm) X216 hS190 (by rw [ehq216]; exact (Nat.le_refl _)) (v := some (.int (1 : Int32))) (fun h => by rw [Bd.returns] at h; cases h)
      refine ⟨_, _, pre219 _ ?_, hrun, hended, _, _, rfl, ?_, hEnd.1, hEnd.2.1, hEnd.2.2.1, hEnd.2.2.2.mono (by decide) (by decide)⟩
      · skip
        show Steps p.tables e below (T216.setTop (mkF m 173 #[.val (.int p1), .val (.int p2), .val (.int p3), .val (.int p4), .val (.int v1), .val (.int v3), .val (.ref b6), .val (.ref r43), .val (.ref b105), .val (.ref b162), .val (.ref r191)] [])) _
        refine XS.iconst X216.here hx rfl (hb hby at_173) ?_
        show Steps p.tables e below (T216.setTop (mkF m 174 #[.val (.int p1), .val (.int p2), .val (.int p3), .val (.int p4), .val (.int v1), .val (.int v3), .val (.ref b6), .val (.ref r43), .val (.ref b105), .val (.ref b162), .val (.ref r191)] [(.int (1 : Int32))])) _
        refine XS.goto X216.here hx rfl (pc0 := 174) (pc' := 178) rfl (hb hby at_174) (by decide) (by decide) ?_
        show Steps p.tables e below (T216.setTop (mkF m 178 #[.val (.int p1), .val (.int p2), .val (.int p3), .val (.int p4), .val (.int v1), .val (.int v3), .val (.ref b6), .val (.ref r43), .val (.ref b105), .val (.ref b162), .val (.ref r191)] [(.int (1 : Int32))])) _
        exact retN X216 hx (t := .boolean) Bd.returns (by simp) (hb hby at_178) hr
      · show Q0 Z p1 p2 p3 p4 wC h0 n0 _ T216.heap _
        rw [ehq216]
        exact ⟨rfl, N216⟩
    · skip
      have pre220 : ∀ tq, Steps p.tables e below (T42.setTop (mkF m 83 #[.val (.int p1), .val (.int p2), .val (.int p3), .val (.int p4), .val (.int v1), .val (.int v3), .val (.ref b6), .val (.ref r43), .val .null, .unset, .unset] [])) tq → Steps p.tables e below (s₁.setTop (entryFrame m #[(.int p1), (.int p2), (.int p3), (.int p4)] maxLocals)) tq := by
        refine fun tq kq => pre103 tq ?_
        show Steps p.tables e below (T42.setTop (mkF m 80 #[.val (.int p1), .val (.int p2), .val (.int p3), .val (.int p4), .val (.int v1), .val (.int v3), .val (.ref b6), .val (.ref r43), .val .null, .unset, .unset] [(.int v3)])) _
        refine XS.ifNo X42.here hx rfl (hb hby at_80) rfl ((if0 _ _).trans (feq hc80).1) ?_
        exact kq
      obtain ⟨T221, h221, X221, e221, E221, A221, D221, -, st221⟩ := newO X42 hx hZ hown (hw _ (List.mem_of_getElem? (i := 0) rfl)) (hw _ (List.mem_of_getElem? (i := 1) rfl)) (hw _ (List.mem_of_getElem? (i := 2) rfl)) rfl (g := (mkF m 83 #[.val (.int p1), .val (.int p2), .val (.int p3), .val (.int p4), .val (.int v1), .val (.int v3), .val (.ref b6), .val (.ref r43), .val .null, .unset, .unset] [])) rfl (hb hby at_83) (by decide) (by decide)
      obtain ⟨b221, g221⟩ : ∃ z, z = T42.heap.size := ⟨_, rfl⟩
      rw [← g221] at A221 D221 st221
      have g_b221 : n0 ≤ b221 := Nat.le_trans (Nat.le_trans Z42 Kq42.1) (Nat.le_of_eq g221.symm)
      have sz_b221 : h0.size ≤ b221 := Nat.le_trans (Nat.le_trans (Nat.le_trans (Nat.le_trans (Nat.le_trans (Nat.le_trans (Nat.le_trans (Nat.le_refl h0.size) E6.1) E12.1) (Keep.of_wr W21).1) (Keep.of_wr W29).1) Kq36.1) Kq42.1) (Nat.le_of_eq g221.symm)
      have ne222 : b6 ≠ b221 := Nat.ne_of_lt (Nat.lt_of_lt_of_le f48.lt (Nat.le_of_eq g221.symm))
      have ne223 : b12 ≠ b221 := Nat.ne_of_lt (Nat.lt_of_lt_of_le f49.lt (Nat.le_of_eq g221.symm))
      have ne224 : r43 ≠ b221 := Nat.ne_of_lt (Nat.lt_of_lt_of_le f45.lt (Nat.le_of_eq g221.symm))
      have pre225 : ∀ tq, Steps p.tables e below (T221.setTop (mkF m 86 #[.val (.int p1), .val (.int p2), .val (.int p3), .val (.int p4), .val (.int v1), .val (.int v3), .val (.ref b6), .val (.ref r43), .val .null, .unset, .unset] [(.ref b221)])) tq → Steps p.tables e below (s₁.setTop (entryFrame m #[(.int p1), (.int p2), (.int p3), (.int p4)] maxLocals)) tq := fun tq kq => pre220 tq (st221 _ kq)
      have f226 := f47.ext E221
      have f227 := f48.ext E221
      have f228 := f49.ext E221
      have f229 := f45.ext E221
      have K221 : Keep h0 h221 [] := Keep.ext K42 E221
      have f230 : Fld Z h221 b221 "java/lang/String" "coder" "B" (.int (0 : Int32)) := D221 (Or.inr (hw _ (List.mem_of_getElem? (i := 27) rfl))) (ty := .byte) (by decide)
      have f231 : Fld Z h221 b221 "java/lang/String" "value" "[B" .null := D221 (Or.inr (hw _ (List.mem_of_getElem? (i := 29) rfl))) (ty := (.array .byte)) (by decide)
      have pre232 : ∀ tq, Steps p.tables e below (T221.setTop (mkF m 88 #[.val (.int p1), .val (.int p2), .val (.int p3), .val (.int p4), .val (.int v1), .val (.int v3), .val (.ref b6), .val (.ref r43), .val .null, .unset, .unset] [(.int (0 : Int32)), (.ref b221), (.ref b221)])) tq → Steps p.tables e below (s₁.setTop (entryFrame m #[(.int p1), (.int p2), (.int p3), (.int p4)] maxLocals)) tq := by
        refine fun tq kq => pre225 tq ?_
        show Steps p.tables e below (T221.setTop (mkF m 86 #[.val (.int p1), .val (.int p2), .val (.int p3), .val (.int p4), .val (.int v1), .val (.int v3), .val (.ref b6), .val (.ref r43), .val .null, .unset, .unset] [(.ref b221)])) _
        refine XS.dup X221.here hx rfl (hb hby at_86) rfl rfl ?_
        show Steps p.tables e below (T221.setTop (mkF m 87 #[.val (.int p1), .val (.int p2), .val (.int p3), .val (.int p4), .val (.int v1), .val (.int v3), .val (.ref b6), .val (.ref r43), .val .null, .unset, .unset] [(.ref b221), (.ref b221)])) _
        refine XS.iconst X221.here hx rfl (hb hby at_87) ?_
        exact kq
      obtain ⟨T233, h233, k233, X233, e233, E233, A233, st233⟩ := newP X221 hx hZ (hw _ (List.mem_of_getElem? (i := 3) rfl)) e221 (g := (mkF m 88 #[.val (.int p1), .val (.int p2), .val (.int p3), .val (.int p4), .val (.int v1), .val (.int v3), .val (.ref b6), .val (.ref r43), .val .null, .unset, .unset] [(.int (0 : Int32)), (.ref b221), (.ref b221)])) rfl (hb hby at_88) rfl (by decide) (cap := 0) (by decide) (by decide) (by decide) (by decide)
      obtain ⟨b233, g233⟩ : ∃ z, z = h221.size := ⟨_, rfl⟩
      rw [← g233] at A233 st233
      have g_b233 : n0 ≤ b233 := Nat.le_trans (Nat.le_trans (Nat.le_trans Z42 Kq42.1) E221.1) (Nat.le_of_eq g233.symm)
      have sz_b233 : h0.size ≤ b233 := Nat.le_trans (Nat.le_trans (Nat.le_trans (Nat.le_trans (Nat.le_trans (Nat.le_trans (Nat.le_trans (Nat.le_trans (Nat.le_refl h0.size) E6.1) E12.1) (Keep.of_wr W21).1) (Keep.of_wr W29).1) Kq36.1) Kq42.1) E221.1) (Nat.le_of_eq g233.symm)
      have ne234 : b6 ≠ b233 := Nat.ne_of_lt (Nat.lt_of_lt_of_le f227.lt (Nat.le_of_eq g233.symm))
      have ne235 : b12 ≠ b233 := Nat.ne_of_lt (Nat.lt_of_lt_of_le f228.lt (Nat.le_of_eq g233.symm))
      have ne236 : r43 ≠ b233 := Nat.ne_of_lt (Nat.lt_of_lt_of_le f229.lt (Nat.le_of_eq g233.symm))
      have ne237 : b221 ≠ b233 := Nat.ne_of_lt (Nat.lt_of_lt_of_le A221.lt (Nat.le_of_eq g233.symm))
      have pre238 : ∀ tq, Steps p.tables e below (T233.setTop (mkF m 90 #[.val (.int p1), .val (.int p2), .val (.int p3), .val (.int p4), .val (.int v1), .val (.int v3), .val (.ref b6), .val (.ref r43), .val .null, .unset, .unset] [(.ref b233), (.ref b221), (.ref b221)])) tq → Steps p.tables e below (s₁.setTop (entryFrame m #[(.int p1), (.int p2), (.int p3), (.int p4)] maxLocals)) tq := fun tq kq => pre232 tq (st233 _ kq)
      have f239 := f226.ext E233
      have f240 := f227.ext E233
      have f241 := f228.ext E233
      have f242 := f229.ext E233
      have f243 := A221.ext E233
      have f244 := f230.ext E233
      have f245 := f231.ext E233
      have K233 : Keep h0 h233 [] := Keep.ext K221 E233
      have f246 : Arv Z h233 b233 k233 .char (0 : Int32) [] (.int (0 : Int32)) := Arv.new A233 (by decide)
      have Z247 : n0 ≤ h233.size := (Nat.le_trans (Nat.le_trans (Nat.le_trans Z42 Kq42.1) E221.1) E233.1)
      have hSi247 : s.Since s.vm h233.size := (State.WarmedH.refl s).since _
      obtain ⟨_, _, ⟨T247, L247, k247, n247⟩, -, X247, hSc247, hgr247, ⟨Lc247, hQ247, l247, y247, z247⟩, st247⟩ := Stand.specialBackS (s := (s.setVm s.vm)) X233 hx (y := (⟨"java/lang/String", "<init>", "([C)V"⟩ : MethodName)) rfl hown (mvT hZ (hw _ (List.mem_of_getElem? (i := 4) rfl))) (mvT hZ (hw _ (List.mem_of_getElem? (i := 5) rfl))) (mvT hZ (hw _ (List.mem_of_getElem? (i := 6) rfl))) (by decide) (own_backOfC (s := s) (vm0 := s.vm) (W := 1) (rm1e l Z a0 hw [] b221 b233 k233 (.int (0 : Int32)) h233 n0 Z247 f243 f245 f244 g_b221 f246) hZ (hw _ (List.mem_of_getElem? (i := 6) rfl)) (hw _ (List.mem_of_getElem? (i := 2) rfl)) (by decide) (by decide) own_hEL (CHv.keep K233 all0 hCH)) (g := (mkF m 90 #[.val (.int p1), .val (.int p2), .val (.int p3), .val (.int p4), .val (.int v1), .val (.int v3), .val (.ref b6), .val (.ref r43), .val .null, .unset, .unset] [(.ref b233), (.ref b221), (.ref b221)])) rfl (by rw [hml]; rfl) (Steps.refl _) (a := b221) (argsL := [(.ref b233)]) (rest := [(.ref b221)]) (lenOf pd0_0 rfl) rfl (by show 2 * 0 + _ ≤ _; exact Nat.le_of_eq rfl) (hb hby at_90) (fun _ _ => ⟨rfl, e233, (by decide : ((((((0 + 1) + 1) + 1) + 2) + 1) + 1) + 2 ≤ _), (by decide : ((((((0 + 4) + 2) + 2) + 5) + 4) + 0) + 4 ≤ _)⟩)
      dsimp only [Pt.U, Pt.locs, Pt.cells, Pt.slots] at X247 l247 y247 z247 st247 hQ247 hSc247 hgr247
      subst l247 y247 z247
      obtain ⟨XR247, hS247, hZ247, hown247⟩ := rebS (s := s) (vm0 := s.vm) hSi247 (Nat.le_refl _) X247 hSc247 (by first | exact hgr247 | (rw [e233] at hgr247; exact hgr247)) hZ hown
      obtain ⟨rfl, Nq247, Kq247, hq247⟩ := hQ247
      have N247 := Fr.app N42 Nq247
      have pre248 : ∀ tq, Steps p.tables e below (T247.setTop (mkF m 93 #[.val (.int p1), .val (.int p2), .val (.int p3), .val (.int p4), .val (.int v1), .val (.int v3), .val (.ref b6), .val (.ref r43), .val .null, .unset, .unset] [(.ref b221)])) tq → Steps p.tables e below (s₁.setTop (entryFrame m #[(.int p1), (.int p2), (.int p3), (.int p4)] maxLocals)) tq := fun tq kq => pre238 tq (st247.trans kq)
      have K247 : Keep h0 T247.heap [] := Keep.trans K233 Kq247 (allS (Or.inr sz_b221) all0)
      have f249 := own_sta_keep f239 Kq247 (allS (own_nostat f243) all0)
      have f250 := f240.keep Kq247
      have f251 := f241.keep Kq247 (by simp only [List.mem_cons, List.not_mem_nil, or_false, not_or]; exact ne223)
      have f252 := f242.keep Kq247
      have f253 := f243.keep Kq247
      have f254 := f246.keep Kq247 (by simp only [List.mem_cons, List.not_mem_nil, or_false, not_or]; exact (Ne.symm ne237))
      have pre255 : ∀ tq, Steps p.tables e below (T247.setTop (mkF m 131 #[.val (.int p1), .val (.int p2), .val (.int p3), .val (.int p4), .val (.int v1), .val (.int v3), .val (.ref b6), .val (.ref r43), .val (.ref b221), .unset, .unset] [])) tq → Steps p.tables e below (s₁.setTop (entryFrame m #[(.int p1), (.int p2), (.int p3), (.int p4)] maxLocals)) tq := by
        refine fun tq kq => pre248 tq ?_
        show Steps p.tables e below (T247.setTop (mkF m 93 #[.val (.int p1), .val (.int p2), .val (.int p3), .val (.int p4), .val (.int v1), .val (.int v3), .val (.ref b6), .val (.ref r43), .val .null, .unset, .unset] [(.ref b221)])) _
        refine XS.astore XR247.here hx rfl (hb hby at_93) rfl rfl (l' := #[.val (.int p1), .val (.int p2), .val (.int p3), .val (.int p4), .val (.int v1), .val (.int v3), .val (.ref b6), .val (.ref r43), .val (.ref b221), .unset, .unset]) rfl ?_
        show Steps p.tables e below (T247.setTop (mkF m 95 #[.val (.int p1), .val (.int p2), .val (.int p3), .val (.int p4), .val (.int v1), .val (.int v3), .val (.ref b6), .val (.ref r43), .val (.ref b221), .unset, .unset] [])) _
        refine XS.goto XR247.here hx rfl (pc0 := 95) (pc' := 131) rfl (hb hby at_95) (by decide) (by decide) ?_
        exact kq
      obtain ⟨T256, h256, X256, e256, E256, A256, D256, -, st256⟩ := newO XR247 hx hZ247 hown247 (hw _ (List.mem_of_getElem? (i := 44) rfl)) (hw _ (List.mem_of_getElem? (i := 45) rfl)) (hw _ (List.mem_of_getElem? (i := 46) rfl)) rfl (g := (mkF m 131 #[.val (.int p1), .val (.int p2), .val (.int p3), .val (.int p4), .val (.int v1), .val (.int v3), .val (.ref b6), .val (.ref r43), .val (.ref b221), .unset, .unset] [])) rfl (hb hby at_131) (by decide) (by decide)
      obtain ⟨b256, g256⟩ : ∃ z, z = T247.heap.size := ⟨_, rfl⟩
      rw [← g256] at A256 D256 st256
      have g_b256 : n0 ≤ b256 := Nat.le_trans (Nat.le_trans Z247 Kq247.1) (Nat.le_of_eq g256.symm)
      have sz_b256 : h0.size ≤ b256 := Nat.le_trans (Nat.le_trans (Nat.le_trans (Nat.le_trans (Nat.le_trans (Nat.le_trans (Nat.le_trans (Nat.le_trans (Nat.le_trans (Nat.le_trans (Nat.le_refl h0.size) E6.1) E12.1) (Keep.of_wr W21).1) (Keep.of_wr W29).1) Kq36.1) Kq42.1) E221.1) E233.1) Kq247.1) (Nat.le_of_eq g256.symm)
      have ne257 : b6 ≠ b256 := Nat.ne_of_lt (Nat.lt_of_lt_of_le f250.lt (Nat.le_of_eq g256.symm))
      have ne258 : b12 ≠ b256 := Nat.ne_of_lt (Nat.lt_of_lt_of_le f251.lt (Nat.le_of_eq g256.symm))
      have ne259 : r43 ≠ b256 := Nat.ne_of_lt (Nat.lt_of_lt_of_le f252.lt (Nat.le_of_eq g256.symm))
      have ne260 : b221 ≠ b256 := Nat.ne_of_lt (Nat.lt_of_lt_of_le f253.lt (Nat.le_of_eq g256.symm))
      have ne261 : b233 ≠ b256 := Nat.ne_of_lt (Nat.lt_of_lt_of_le f254.lt (Nat.le_of_eq g256.symm))
      have pre262 : ∀ tq, Steps p.tables e below (T256.setTop (mkF m 134 #[.val (.int p1), .val (.int p2), .val (.int p3), .val (.int p4), .val (.int v1), .val (.int v3), .val (.ref b6), .val (.ref r43), .val (.ref b221), .unset, .unset] [(.ref b256)])) tq → Steps p.tables e below (s₁.setTop (entryFrame m #[(.int p1), (.int p2), (.int p3), (.int p4)] maxLocals)) tq := fun tq kq => pre255 tq (st256 _ kq)
      have f263 := f249.ext E256
      have f264 := f250.ext E256
      have f265 := f251.ext E256
      have f266 := f252.ext E256
      have f267 := f253.ext E256
      have f268 := f254.ext E256
      have K256 : Keep h0 h256 [] := Keep.ext K247 E256
      have f269 : Fld Z h256 b256 "com/example/purgecast/purgecast/server/Option" "name" "Ljava/lang/String;" .null := D256 (Or.inr (hw _ (List.mem_of_getElem? (i := 65) rfl))) (ty := (.object "java/lang/String")) (by decide)
      have f270 : Fld Z h256 b256 "com/example/purgecast/purgecast/server/Option" "valueName" "Ljava/lang/String;" .null := D256 (Or.inr (hw _ (List.mem_of_getElem? (i := 67) rfl))) (ty := (.object "java/lang/String")) (by decide)
      have f271 : Fld Z h256 b256 "com/example/purgecast/purgecast/server/Option" "description" "Ljava/lang/String;" .null := D256 (Or.inr (hw _ (List.mem_of_getElem? (i := 69) rfl))) (ty := (.object "java/lang/String")) (by decide)
      have pre272 : ∀ tq, Steps p.tables e below (T256.setTop (mkF m 141 #[.val (.int p1), .val (.int p2), .val (.int p3), .val (.int p4), .val (.int v1), .val (.int v3), .val (.ref b6), .val (.ref r43), .val (.ref b221), .unset, .unset] [(.ref r43), (.ref b221), (.ref b6), (.ref b256), (.ref b256)])) tq → Steps p.tables e below (s₁.setTop (entryFrame m #[(.int p1), (.int p2), (.int p3), (.int p4)] maxLocals)) tq := by
        refine fun tq kq => pre262 tq ?_
        show Steps p.tables e below (T256.setTop (mkF m 134 #[.val (.int p1), .val (.int p2), .val (.int p3), .val (.int p4), .val (.int v1), .val (.int v3), .val (.ref b6), .val (.ref r43), .val (.ref b221), .unset, .unset] [(.ref b256)])) _
        refine XS.dup X256.here hx rfl (hb hby at_134) rfl rfl ?_
        show Steps p.tables e below (T256.setTop (mkF m 135 #[.val (.int p1), .val (.int p2), .val (.int p3), .val (.int p4), .val (.int v1), .val (.int v3), .val (.ref b6), .val (.ref r43), .val (.ref b221), .unset, .unset] [(.ref b256), (.ref b256)])) _
        refine XS.aload X256.here hx rfl (hb hby at_135) rfl rfl ?_
        show Steps p.tables e below (T256.setTop (mkF m 137 #[.val (.int p1), .val (.int p2), .val (.int p3), .val (.int p4), .val (.int v1), .val (.int v3), .val (.ref b6), .val (.ref r43), .val (.ref b221), .unset, .unset] [(.ref b6), (.ref b256), (.ref b256)])) _
        refine XS.aload X256.here hx rfl (hb hby at_137) rfl rfl ?_
        show Steps p.tables e below (T256.setTop (mkF m 139 #[.val (.int p1), .val (.int p2), .val (.int p3), .val (.int p4), .val (.int v1), .val (.int v3), .val (.ref b6), .val (.ref r43), .val (.ref b221), .unset, .unset] [(.ref b221), (.ref b6), (.ref b256), (.ref b256)])) _
        refine XS.aload X256.here hx rfl (hb hby at_139) rfl rfl ?_
        exact kq
      have Z273 : n0 ≤ h256.size := (Nat.le_trans (Nat.le_trans Z247 Kq247.1) E256.1)
      obtain ⟨_, _, ⟨T273, L273, k273, n273⟩, -, X273, hSc273, hgr273, ⟨Lc273, hQ273, l273, y273, z273⟩, st273⟩ := Stand.specialBackS (s := (s.setVm T247.vm)) X256 hx (y := (⟨"com/example/purgecast/purgecast/server/Option", "<init>", "(Ljava/lang/String;Ljava/lang/String;Ljava/lang/String;)V"⟩ : MethodName)) rfl hown247 (mvT hZ247 (hw _ (List.mem_of_getElem? (i := 47) rfl))) (mvT hZ247 (hw _ (List.mem_of_getElem? (i := 48) rfl))) (mvT hZ247 (hw _ (List.mem_of_getElem? (i := 49) rfl))) (by decide) (backOfS (s := (s.setVm T247.vm)) (W := 1) (rm11v l Z a0 hw [] b256 b6 b221 r43  h256 n0 Z273 A256 f269 f270 f271 g_b256) hZ247 (hw _ (List.mem_of_getElem? (i := 49) rfl)) (hw _ (List.mem_of_getElem? (i := 46) rfl)) (by decide) (by decide)) (g := (mkF m 141 #[.val (.int p1), .val (.int p2), .val (.int p3), .val (.int p4), .val (.int v1), .val (.int v3), .val (.ref b6), .val (.ref r43), .val (.ref b221), .unset, .unset] [(.ref r43), (.ref b221), (.ref b6), (.ref b256), (.ref b256)])) rfl (by rw [hml]; rfl) (Steps.refl _) (a := b256) (argsL := [(.ref b6), (.ref b221), (.ref r43)]) (rest := [(.ref b256)]) (lenOf pd0_2 rfl) rfl (by show 2 * 0 + _ ≤ _; exact Nat.le_of_eq rfl) (hb hby at_141) (fun _ _ => ⟨rfl, e256, (by decide : ((((((((0 + 1) + 1) + 1) + 2) + 1) + 1) + 2) + 1) + 4 ≤ _), (by decide : ((((((((0 + 4) + 2) + 2) + 5) + 4) + 0) + 4) + 3) + 68 ≤ _)⟩)
      dsimp only [Pt.U, Pt.locs, Pt.cells, Pt.slots] at X273 l273 y273 z273 st273 hQ273 hSc273 hgr273
      subst l273 y273 z273
      obtain ⟨XR273, hS273, hZ273, hown273⟩ := rebS (s := s) (vm0 := T247.vm) hS247 (Nat.le_trans (Nat.le_refl _) E256.1) X273 hSc273 (by first | exact hgr273 | (rw [e256] at hgr273; exact hgr273)) hZ247 hown247
      obtain ⟨rfl, Nq273, Kq273, f274, hq273⟩ := hQ273
      have N273 := Fr.app N247 Nq273
      have pre275 : ∀ tq, Steps p.tables e below (T273.setTop (mkF m 144 #[.val (.int p1), .val (.int p2), .val (.int p3), .val (.int p4), .val (.int v1), .val (.int v3), .val (.ref b6), .val (.ref r43), .val (.ref b221), .unset, .unset] [(.ref b256)])) tq → Steps p.tables e below (s₁.setTop (entryFrame m #[(.int p1), (.int p2), (.int p3), (.int p4)] maxLocals)) tq := fun tq kq => pre272 tq (st273.trans kq)
      have K273 : Keep h0 T273.heap [] := Keep.trans K256 Kq273 (allS (Or.inr sz_b256) all0)
      have f276 := own_sta_keep f263 Kq273 (allS (own_nostat A256) all0)
      have f277 := f264.keep Kq273
      have f278 := f265.keep Kq273 (by simp only [List.mem_cons, List.not_mem_nil, or_false, not_or]; exact ne258)
      have f279 := f266.keep Kq273
      have f280 := f267.keep Kq273
      have f281 := f268.keep Kq273 (by simp only [List.mem_cons, List.not_mem_nil, or_false, not_or]; exact ne261)
      have f282 := A256.keep Kq273
      have pre283 : ∀ tq, Steps p.tables e below (T273.setTop (mkF m 150 #[.val (.int p1), .val (.int p2), .val (.int p3), .val (.int p4), .val (.int v1), .val (.int v3), .val (.ref b6), .val (.ref r43), .val (.ref b221), .val (.ref b256), .unset] [(.ref r43), (.ref b6)])) tq → Steps p.tables e below (s₁.setTop (entryFrame m #[(.int p1), (.int p2), (.int p3), (.int p4)] maxLocals)) tq := by
        refine fun tq kq => pre275 tq ?_
        show Steps p.tables e below (T273.setTop (mkF m 144 #[.val (.int p1), .val (.int p2), .val (.int p3), .val (.int p4), .val (.int v1), .val (.int v3), .val (.ref b6), .val (.ref r43), .val (.ref b221), .unset, .unset] [(.ref b256)])) _
        refine XS.astore XR273.here hx rfl (hb hby at_144) rfl rfl (l' := #[.val (.int p1), .val (.int p2), .val (.int p3), .val (.int p4), .val (.int v1), .val (.int v3), .val (.ref b6), .val (.ref r43), .val (.ref b221), .val (.ref b256), .unset]) rfl ?_
        show Steps p.tables e below (T273.setTop (mkF m 146 #[.val (.int p1), .val (.int p2), .val (.int p3), .val (.int p4), .val (.int v1), .val (.int v3), .val (.ref b6), .val (.ref r43), .val (.ref b221), .val (.ref b256), .unset] [])) _
        refine XS.aload XR273.here hx rfl (hb hby at_146) rfl rfl ?_
        show Steps p.tables e below (T273.setTop (mkF m 148 #[.val (.int p1), .val (.int p2), .val (.int p3), .val (.int p4), .val (.int v1), .val (.int v3), .val (.ref b6), .val (.ref r43), .val (.ref b221), .val (.ref b256), .unset] [(.ref b6)])) _
        refine XS.aload XR273.here hx rfl (hb hby at_148) rfl rfl ?_
        exact kq
      have Z284 : n0 ≤ T273.heap.size := (Nat.le_trans Z273 Kq273.1)
      obtain ⟨_, _, ⟨T284, L284, k284, n284⟩, -, X284, hSc284, hgr284, ⟨Lc284, hQ284, l284, y284, z284⟩, st284⟩ := callSS (s := (s.setVm T273.vm)) XR273 hx (y := (⟨"com/example/purgecast/purgecast/server/Option", "flag", "(Ljava/lang/String;Ljava/lang/String;)Lcom/example/purgecast/purgecast/server/Option;"⟩ : MethodName)) hown273 (mvT hZ273 (hw _ (List.mem_of_getElem? (i := 70) rfl))) (mvT hZ273 (hw _ (List.mem_of_getElem? (i := 71) rfl))) (mvT hZ273 (hw _ (List.mem_of_getElem? (i := 46) rfl))) (mvT hZ273 (hw _ (List.mem_of_getElem? (i := 72) rfl))) (by decide) (backOfS (s := (s.setVm T273.vm)) (W := 0) (rm14 l Z a0 hw [] b6 r43  T273.heap n0 Z284 ) hZ273 (hw _ (List.mem_of_getElem? (i := 72) rfl)) (hw _ (List.mem_of_getElem? (i := 46) rfl)) (by decide) (by decide)) (g := (mkF m 150 #[.val (.int p1), .val (.int p2), .val (.int p3), .val (.int p4), .val (.int v1), .val (.int v3), .val (.ref b6), .val (.ref r43), .val (.ref b221), .val (.ref b256), .unset] [(.ref r43), (.ref b6)])) rfl (by rw [hml]; rfl) (argsL := [(.ref b6), (.ref r43)]) (rest := []) (lenOf pd0_3 rfl) rfl (by show 2 * 0 + _ ≤ _; exact Nat.le_of_eq rfl) (hb hby at_150) (fun _ _ => ⟨rfl, rfl, (by decide : (((((((((0 + 1) + 1) + 1) + 2) + 1) + 1) + 2) + 1) + 4) + 5 ≤ _), (by decide : (((((((((0 + 4) + 2) + 2) + 5) + 4) + 0) + 4) + 3) + 68) + 71 ≤ _)⟩)
      dsimp only [Pt.U, Pt.locs, Pt.cells, Pt.slots] at X284 l284 y284 z284 st284 hQ284 hSc284 hgr284
      subst l284 y284 z284
      obtain ⟨XR284, hS284, hZ284, hown284⟩ := rebS (s := s) (vm0 := T273.vm) hS273 (Nat.le_refl _) X284 hSc284 hgr284 hZ273 hown273
      obtain ⟨r285, rfl, Nq284, Kq284, f286, f287, f288, hq284⟩ := hQ284
      have N284 := Fr.app N273 Nq284
      have pre289 : ∀ tq, Steps p.tables e below (T284.setTop (mkF m 153 #[.val (.int p1), .val (.int p2), .val (.int p3), .val (.int p4), .val (.int v1), .val (.int v3), .val (.ref b6), .val (.ref r43), .val (.ref b221), .val (.ref b256), .unset] [(.ref r285)])) tq → Steps p.tables e below (s₁.setTop (entryFrame m #[(.int p1), (.int p2), (.int p3), (.int p4)] maxLocals)) tq := fun tq kq => pre283 tq (st284.trans kq)
      have K284 : Keep h0 T284.heap [] := Keep.trans K273 Kq284 all0
      have f290 := own_sta_keep f276 Kq284 all0
      have f291 := f277.keep Kq284
      have f292 := f278.keep Kq284 (List.not_mem_nil)
      have f293 := f279.keep Kq284
      have f294 := f280.keep Kq284
      have f295 := f281.keep Kq284 (List.not_mem_nil)
      have f296 := f282.keep Kq284
      have f297 := f274.keep Kq284 (List.not_mem_nil)
      have g_r285 : n0 ≤ r285 := Nat.le_trans Z284 f286
      have sz_r285 : h0.size ≤ r285 := Nat.le_trans (Nat.le_trans (Nat.le_trans (Nat.le_trans (Nat.le_trans (Nat.le_trans (Nat.le_trans (Nat.le_trans (Nat.le_trans (Nat.le_trans (Nat.le_trans (Nat.le_trans (Nat.le_refl h0.size) E6.1) E12.1) (Keep.of_wr W21).1) (Keep.of_wr W29).1) Kq36.1) Kq42.1) E221.1) E233.1) Kq247.1) E256.1) Kq273.1) f286
      have ne298 : b6 ≠ r285 := Nat.ne_of_lt (Nat.lt_of_lt_of_le f277.lt f286)
      have ne299 : b12 ≠ r285 := Nat.ne_of_lt (Nat.lt_of_lt_of_le f278.lt f286)
      have ne300 : r43 ≠ r285 := Nat.ne_of_lt (Nat.lt_of_lt_of_le f279.lt f286)
      have ne301 : b221 ≠ r285 := Nat.ne_of_lt (Nat.lt_of_lt_of_le f280.lt f286)
      have ne302 : b233 ≠ r285 := Nat.ne_of_lt (Nat.lt_of_lt_of_le f281.lt f286)
      have ne303 : b256 ≠ r285 := Nat.ne_of_lt (Nat.lt_of_lt_of_le f282.lt f286)
      have pre304 : ∀ tq, Steps p.tables e below (T284.setTop (mkF m 157 #[.val (.int p1), .val (.int p2), .val (.int p3), .val (.int p4), .val (.int v1), .val (.int v3), .val (.ref b6), .val (.ref r43), .val (.ref b221), .val (.ref b256), .val (.ref r285)] [(.ref b256)])) tq → Steps p.tables e below (s₁.setTop (entryFrame m #[(.int p1), (.int p2), (.int p3), (.int p4)] maxLocals)) tq := by
        refine fun tq kq => pre289 tq ?_
        show Steps p.tables e below (T284.setTop (mkF m 153 #[.val (.int p1), .val (.int p2), .val (.int p3), .val (.int p4), .val (.int v1), .val (.int v3), .val (.ref b6), .val (.ref r43), .val (.ref b221), .val (.ref b256), .unset] [(.ref r285)])) _
        refine XS.astore XR284.here hx rfl (hb hby at_153) rfl rfl (l' := #[.val (.int p1), .val (.int p2), .val (.int p3), .val (.int p4), .val (.int v1), .val (.int v3), .val (.ref b6), .val (.ref r43), .val (.ref b221), .val (.ref b256), .val (.ref r285)]) rfl ?_
        show Steps p.tables e below (T284.setTop (mkF m 155 #[.val (.int p1), .val (.int p2), .val (.int p3), .val (.int p4), .val (.int v1), .val (.int v3), .val (.ref b6), .val (.ref r43), .val (.ref b221), .val (.ref b256), .val (.ref r285)] [])) _
        refine XS.aload XR284.here hx rfl (hb hby at_155) rfl rfl ?_
        exact kq
      have Z305 : n0 ≤ T284.heap.size := (Nat.le_trans Z284 Kq284.1)
      obtain ⟨cq305, kq305, q305a, q305b, q305c⟩ := isOf hZ284 rfl f296
      obtain ⟨_, _, ⟨T305, L305, k305, n305⟩, -, X305, ⟨Lc305, hQ305, l305, y305, z305⟩, st305⟩ := XR284.virtualBack hx (y := (⟨"com/example/purgecast/purgecast/server/Option", "takesValue", "()Z"⟩ : MethodName)) (z := (⟨"com/example/purgecast/purgecast/server/Option", "takesValue", "()Z"⟩ : MethodName)) hown284 (mvT hZ284 (hw _ (List.mem_of_getElem? (i := 75) rfl))) (mvT hZ284 (hw _ (List.mem_of_getElem? (i := 76) rfl))) (notFace_of_selects (args := #[]) (mvT hZ284 (hw _ (List.mem_of_getElem? (i := 78) rfl)))) (mvT hZ284 (hw _ (List.mem_of_getElem? (i := 78) rfl))) (mvT hZ284 (hw _ (List.mem_of_getElem? (i := 77) rfl))) (by decide) (backOf (W := 0) (rm15v l Z a0 hw [] b256 b221 T284.heap n0 Z305 f297) hZ284 (hw _ (List.mem_of_getElem? (i := 79) rfl)) (hw _ (List.mem_of_getElem? (i := 46) rfl)) (by decide) (by decide)) q305a q305c (g := (mkF m 157 #[.val (.int p1), .val (.int p2), .val (.int p3), .val (.int p4), .val (.int v1), .val (.int v3), .val (.ref b6), .val (.ref r43), .val (.ref b221), .val (.ref b256), .val (.ref r285)] [(.ref b256)])) rfl (by rw [hml]; rfl) (Steps.refl _) (argsL := []) (rest := []) (lenOf pd0_4 rfl) rfl (by show 2 * 0 + _ ≤ _; exact Nat.le_of_eq rfl) (hb hby at_157) (fun _ _ => ⟨rfl, rfl, (by decide : ((((((((((0 + 1) + 1) + 1) + 2) + 1) + 1) + 2) + 1) + 4) + 5) + 0 ≤ _), (by decide : ((((((((((0 + 4) + 2) + 2) + 5) + 4) + 0) + 4) + 3) + 68) + 71) + 0 ≤ _)⟩)
      dsimp only [Pt.U, Pt.locs, Pt.cells, Pt.slots] at X305 l305 y305 z305 st305 hQ305
      subst l305 y305 z305
      obtain ⟨r306, rfl, Nq305, ehq305, hq305⟩ := hQ305
      have N305 := Fr.app N284 Nq305
      have pre307 : ∀ tq, Steps p.tables e below (T305.setTop (mkF m 160 #[.val (.int p1), .val (.int p2), .val (.int p3), .val (.int p4), .val (.int v1), .val (.int v3), .val (.ref b6), .val (.ref r43), .val (.ref b221), .val (.ref b256), .val (.ref r285)] [(.int r306)])) tq → Steps p.tables e below (s₁.setTop (entryFrame m #[(.int p1), (.int p2), (.int p3), (.int p4)] maxLocals)) tq := fun tq kq => pre304 tq (st305.trans kq)
      have hc162 : r306 = v1 := by rw [hq305]; rcases hj2 with q | q <;> first | exact q.2.symm | exact absurd q.2 hc75 | exact absurd (hc75.symm.trans q.2) (by decide)
      have pre308 : ∀ tq, Steps p.tables e below (T305.setTop (mkF m 165 #[.val (.int p1), .val (.int p2), .val (.int p3), .val (.int p4), .val (.int v1), .val (.int v3), .val (.ref b6), .val (.ref r43), .val (.ref b221), .val (.ref b256), .val (.ref r285)] [])) tq → Steps p.tables e below (s₁.setTop (entryFrame m #[(.int p1), (.int p2), (.int p3), (.int p4)] maxLocals)) tq := by
        refine fun tq kq => pre307 tq ?_
        show Steps p.tables e below (T305.setTop (mkF m 160 #[.val (.int p1), .val (.int p2), .val (.int p3), .val (.int p4), .val (.int v1), .val (.int v3), .val (.ref b6), .val (.ref r43), .val (.ref b221), .val (.ref b256), .val (.ref r285)] [(.int r306)])) _
        refine XS.iload X305.here hx rfl (hb hby at_160) rfl ?_
        show Steps p.tables e below (T305.setTop (mkF m 162 #[.val (.int p1), .val (.int p2), .val (.int p3), .val (.int p4), .val (.int v1), .val (.int v3), .val (.ref b6), .val (.ref r43), .val (.ref b221), .val (.ref b256), .val (.ref r285)] [(.int v1), (.int r306)])) _
        refine XS.icmpNo X305.here hx rfl (hb hby at_162) rfl (teq hc162).2 ?_
        exact kq
      have pre309 : ∀ tq, Steps p.tables e below (T305.setTop (mkF m 167 #[.val (.int p1), .val (.int p2), .val (.int p3), .val (.int p4), .val (.int v1), .val (.int v3), .val (.ref b6), .val (.ref r43), .val (.ref b221), .val (.ref b256), .val (.ref r285)] [(.ref r285)])) tq → Steps p.tables e below (s₁.setTop (entryFrame m #[(.int p1), (.int p2), (.int p3), (.int p4)] maxLocals)) tq := by
        refine fun tq kq => pre308 tq ?_
        show Steps p.tables e below (T305.setTop (mkF m 165 #[.val (.int p1), .val (.int p2), .val (.int p3), .val (.int p4), .val (.int v1), .val (.int v3), .val (.ref b6), .val (.ref r43), .val (.ref b221), .val (.ref b256), .val (.ref r285)] [])) _
        refine XS.aload X305.here hx rfl (hb hby at_165) rfl rfl ?_
        exact kq
      have Z310 : n0 ≤ T284.heap.size := (Nat.le_trans Z284 Kq284.1)
      obtain ⟨cq310, kq310, q310a, q310b, q310c⟩ := isOf hZ284 ehq305 f287
      obtain ⟨_, _, ⟨T310, L310, k310, n310⟩, -, X310, ⟨Lc310, hQ310, l310, y310, z310⟩, st310⟩ := X305.virtualBack hx (y := (⟨"com/example/purgecast/purgecast/server/Option", "takesValue", "()Z"⟩ : MethodName)) (z := (⟨"com/example/purgecast/purgecast/server/Option", "takesValue", "()Z"⟩ : MethodName)) hown284 (mvT hZ284 (hw _ (List.mem_of_getElem? (i := 75) rfl))) (mvT hZ284 (hw _ (List.mem_of_getElem? (i := 76) rfl))) (notFace_of_selects (args := #[]) (mvT hZ284 (hw _ (List.mem_of_getElem? (i := 78) rfl)))) (mvT hZ284 (hw _ (List.mem_of_getElem? (i := 78) rfl))) (mvT hZ284 (hw _ (List.mem_of_getElem? (i := 77) rfl))) (by decide) (backOf (W := 0) (rm15n l Z a0 hw [] r285  T284.heap n0 Z310 f288) hZ284 (hw _ (List.mem_of_getElem? (i := 79) rfl)) (hw _ (List.mem_of_getElem? (i := 46) rfl)) (by decide) (by decide)) q310a q310c (g := (mkF m 167 #[.val (.int p1), .val (.int p2), .val (.int p3), .val (.int p4), .val (.int v1), .val (.int v3), .val (.ref b6), .val (.ref r43), .val (.ref b221), .val (.ref b256), .val (.ref r285)] [(.ref r285)])) rfl (by rw [hml]; rfl) (Steps.refl _) (argsL := []) (rest := []) (lenOf pd0_4 rfl) rfl (by show 2 * 0 + _ ≤ _; exact Nat.le_of_eq rfl) (hb hby at_167) (fun _ _ => ⟨rfl, ehq305, (by decide : (((((((((((0 + 1) + 1) + 1) + 2) + 1) + 1) + 2) + 1) + 4) + 5) + 0) + 0 ≤ _), (by decide : (((((((((((0 + 4) + 2) + 2) + 5) + 4) + 0) + 4) + 3) + 68) + 71) + 0) + 0 ≤ _)⟩)
      dsimp only [Pt.U, Pt.locs, Pt.cells, Pt.slots] at X310 l310 y310 z310 st310 hQ310
      subst l310 y310 z310
      obtain ⟨r311, rfl, Nq310, ehq310, hq310⟩ := hQ310
      have N310 := Fr.app N305 Nq310
      have pre312 : ∀ tq, Steps p.tables e below (T310.setTop (mkF m 170 #[.val (.int p1), .val (.int p2), .val (.int p3), .val (.int p4), .val (.int v1), .val (.int v3), .val (.ref b6), .val (.ref r43), .val (.ref b221), .val (.ref b256), .val (.ref r285)] [(.int r311)])) tq → Steps p.tables e below (s₁.setTop (entryFrame m #[(.int p1), (.int p2), (.int p3), (.int p4)] maxLocals)) tq := fun tq kq => pre309 tq (st310.trans kq)
      have hc170 : r311 = (0 : Int32) := by exact hq310
      have pre313 : ∀ tq, Steps p.tables e below (T310.setTop (mkF m 173 #[.val (.int p1), .val (.int p2), .val (.int p3), .val (.int p4), .val (.int v1), .val (.int v3), .val (.ref b6), .val (.ref r43), .val (.ref b221), .val (.ref b256), .val (.ref r285)] [])) tq → Steps p.tables e below (s₁.setTop (entryFrame m #[(.int p1), (.int p2), (.int p3), (.int p4)] maxLocals)) tq := by
        refine fun tq kq => pre312 tq ?_
        show Steps p.tables e below (T310.setTop (mkF m 170 #[.val (.int p1), .val (.int p2), .val (.int p3), .val (.int p4), .val (.int v1), .val (.int v3), .val (.ref b6), .val (.ref r43), .val (.ref b221), .val (.ref b256), .val (.ref r285)] [(.int r311)])) _
        refine XS.ifNo X310.here hx rfl (hb hby at_170) rfl ((if0 _ _).trans (teq hc170).2) ?_
        exact kq
      obtain ⟨fs, hr, hrun, hended, hEnd⟩ := Stand.leaveW (s := s) (vm₁ := T284.vm) X310 hS284 (by rw [ehq310]; exact (Nat.le_refl _)) (v := some (.int (1 : Int32))) (fun h => by rw [Bd.returns] at h; cases h)
      refine ⟨_, _, pre313 _ ?_, hrun, hended, _, _, rfl, ?_, hEnd.1, hEnd.2.1, hEnd.2.2.1, hEnd.2.2.2.mono (by decide) (by decide)⟩
      · skip
        show Steps p.tables e below (T310.setTop (mkF m 173 #[.val (.int p1), .val (.int p2), .val (.int p3), .val (.int p4), .val (.int v1), .val (.int v3), .val (.ref b6), .val (.ref r43), .val (.ref b221), .val (.ref b256), .val (.ref r285)] [])) _
        refine XS.iconst X310.here hx rfl (hb hby at_173) ?_
        show Steps p.tables e below (T310.setTop (mkF m 174 #[.val (.int p1), .val (.int p2), .val (.int p3), .val (.int p4), .val (.int v1), .val (.int v3), .val (.ref b6), .val (.ref r43), .val (.ref b221), .val (.ref b256), .val (.ref r285)] [(.int (1 : Int32))])) _
        refine XS.goto X310.here hx rfl (pc0 := 174) (pc' := 178) rfl (hb hby at_174) (by decide) (by decide) ?_
        show Steps p.tables e below (T310.setTop (mkF m 178 #[.val (.int p1), .val (.int p2), .val (.int p3), .val (.int p4), .val (.int v1), .val (.int v3), .val (.ref b6), .val (.ref r43), .val (.ref b221), .val (.ref b256), .val (.ref r285)] [(.int (1 : Int32))])) _
        exact retN X310 hx (t := .boolean) Bd.returns (by simp) (hb hby at_178) hr
      · show Q0 Z p1 p2 p3 p4 wC h0 n0 _ T310.heap _
        rw [ehq310]
        exact ⟨rfl, N310⟩
set_option maxRecDepth 65536 in
set_option maxHeartbeats 40000000 in
theorem comes_1 {Post : Tables → Env → Array Value → State → Outcome → State → Prop} (hpost : ∀ tb e args s v u, (limb_1_1.after args s (.returned v) u = true ∧ limb_1_2.after args s (.returned v) u = true ∧ True) → ReturnedEndW s (.returned v) u (Jvm.fieldLocs frame_1_writes args s ++ Jvm.arrayLocs frame_1_arrays args s ++ Jvm.staticLocs frame_1_statics s) 40 3264 → Post tb e args s (.returned v) u) :
    ArmFor flags0 classFile x code maxLocals ret World_1 tables_1 room_1 Calls_1 rest_1 Pre_1 Post := by
  intro l hfl _ _ p e ha hc hk s m args below hf hA hF happ hP
  obtain ⟨hcalls, hrest, hpre⟩ := hP
  obtain ⟨-, -, -, hnamed, -, -, -, hat⟩ := (Spec.applies_iff hf).mp happ
  obtain ⟨hg, hn⟩ := and_e (Cond.before_iff.mp (show (Jvm.Cond.and given_1 narrow_1).before args s = true from hpre))
  obtain ⟨k0, g0⟩ := and_e hg
  obtain ⟨k1, g1⟩ := and_e g0
  obtain ⟨k2, g2⟩ := and_e g1
  obtain ⟨k3, g3⟩ := and_e g2
  obtain ⟨w0, w1, w2, w3, rfl⟩ : ∃ w0 w1 w2 w3 : Value, args = #[w0, w1, w2, w3] := by
    have hs : args.size = 4 := by simpa [Cond.value, given_1] using k0
    obtain ⟨L⟩ := args
    match L, hs with
    | [w0, w1, w2, w3], _ => exact ⟨w0, w1, w2, w3, rfl⟩
  have hw := fun d (hd : d ∈ tables_1) => atoms_spec (ws := Jvm.Cond.code x code maxLocals ret :: tables_1) hat d (List.mem_cons_of_mem _ hd)
  have hfit : Fit s := fun {y c} hc i hi => by
    obtain ⟨ha, rfl⟩ := Array.getElem?_eq_some_iff.mp hc
    have q := List.all_eq_true.mp ((Array.all_eq_true_iff_forall_mem.mp hF) _ (Array.getElem_mem ha)) i (List.mem_range.mpr hi)
    simpa [Array.getElem?_eq_getElem hi] using q
  obtain ⟨hsets, hown0⟩ := atoms_of _ (rest_1_c_eq ▸ (show rest_1_c.before _ s = true from hrest))
  have hr0 := Cond.before_iff.mp hown0
  obtain ⟨i0, ei0⟩ := is_v k1
  obtain rfl : w0 = (.int i0) := Option.some.inj ei0
  obtain ⟨i1, ei1⟩ := is_v k2
  obtain rfl : w1 = (.int i1) := Option.some.inj ei1
  obtain ⟨i2, ei2⟩ := is_v k3
  obtain rfl : w2 = (.int i2) := Option.some.inj ei2
  obtain ⟨i3, ei3⟩ := is_v g3
  obtain rfl : w3 = (.int i3) := Option.some.inj ei3
  have hcw : Jvm.Lit.compactW.before _ s = true := hsets _ (List.mem_of_getElem? (i := 2) rfl)
  obtain ⟨wC, xC⟩ := is_v (Cond.before_iff.mp (hsets _ (List.mem_of_getElem? (i := 1) rfl)))
  have SC := Sta.start xC (Or.inl (hsets _ (List.mem_of_getElem? (i := 0) rfl)))
  have hC : ¬ (wC = (0 : Int32)) := fun q => by
    have h0 := Cond.before_iff.mp (hsets _ (List.mem_of_getElem? (i := 2) rfl))
    have h1 := not_v h0
    rw [eq_i xC (Term.int_eval 0) (congrArg Value.int q)] at h1
    cases h1
  have hE : EW s _ own_EL := EW.cons (hw _ (List.mem_of_getElem? (i := 80) rfl)) (by decide) EW.nil
  have hCH0 := CHv.start hE (fun q hq => hcalls.1 q (by simp only [List.mem_singleton] at hq; subst hq; decide)) hcw (hw _ (List.mem_of_getElem? (i := 19) rfl)) (hw _ (List.mem_of_getElem? (i := 1) rfl))
  obtain ⟨n, o, h1, h2, h3, _, L, rfl, ⟨rfl, N⟩, hq⟩ := rm0 l s _ hw tables_1 i0 i1 i2 i3 wC s.heap s.heap.size (Nat.le_refl _) SC hC p e ha hc hk s m _ below hf ((Spec.applies_iff_loose hf).mp happ).1 ⟨rfl, State.Warmed39.refl s, rfl, hCH0⟩ trivial
  refine ⟨n, _, h1, h2, h3, hpost _ _ _ _ _ _ ⟨Cond.after_iff.mpr rfl, Cond.after_iff.mpr (eq_i res_at (Term.int_eval (1)) rfl), trivial⟩ ⟨hq.1, hq.2.1, hq.2.2.1, (hq.2.2.2.sift fun y hy => Or.inr (N y hy)).mono (by decide) (by decide)⟩⟩
theorem main_1_1 : Claimed_1_1 := comes_1 fun _ _ _ _ _ _ h hF => ⟨h.1, hF⟩
theorem main_1_2 : Claimed_1_2 := comes_1 fun _ _ _ _ _ _ h hF => ⟨h.2.1, hF⟩
end Jvm.Pilot.@@N@@
namespace Jvm.Pilot.@@N@@
open Jvm Jvm.ClassFile Sem Op Lib Jvm.Free Jvm.Stand Jvm.Pilot.@@N@@.Jvm.D
/-! MADE BY PROGRAM (witnessworld.py) out of the Statement's table words and the real class files: 22 classes; the members and pool entries that the words name. The judged class is class 1, her method 1. -/
namespace start1
open Jvm.ClassFile
def u (s : String) : CpInfo := .utf8 (stringToUtf16 s)
/-- a pool by its gaps: so many unusable entries, then the entry; so many at the end -/
def gap : Nat → List CpInfo → List CpInfo
  | 0, r => r
  | n + 1, r => .unusable :: gap n r
def poolList (es : List (Nat × CpInfo)) (last : Nat) : List CpInfo := es.foldr (fun e r => gap e.1 (e.2 :: r)) (gap last [])
def pool (es : List (Nat × CpInfo)) (last : Nat) : Array CpInfo := ⟨poolList es last⟩
def fileOf (pool : Array CpInfo) (this : Nat) (attrs : Array Attribute := #[]) (ms : Array MethodInfo := #[]) (fl : Nat := 33) (sup : Nat := 0) (ifs : Array Nat := #[]) (fds : Array FieldInfo := #[]) : ClassFile where
  minorVersion := 0
  majorVersion := 65
  constantPool := pool
  accessFlags := fl
  thisClass := this
  superClass := sup
  interfaces := ifs
  fields := fds
  methods := ms
  attributes := attrs
def plain (name : String) (sup : Option ClassId) : Class where
  name := name
  kind := .ordinary
  loader := none
  accessFlags := 33
  super := sup
  interfaces := #[]
  cf := none
  fields := #[]
  methods := #[]
  instanceTypes := #[]
  staticTypes := #[]
  resolved := #[]
  callSites := []
  init := .initialized
  statics := none
  mirror := none

def pool0 : Array CpInfo := pool [(5, u "<init>"), (0, u "()V"), (1, .class_ 10), (1, u "java/lang/Object")] 113

def k0c0 : Code := { maxStack := 0, maxLocals := 1, code := object_method_1_code, exceptionTable := #[], attributes := #[] }
def k0m0 : Method := { name := "<init>", desc := "()V", sig := { parameters := [], returnType := none }, accessFlags := 1, code := some k0c0 }
/-- java/lang/Object -/
def k0 : Class := { plain "java/lang/Object" none with
  accessFlags := 33
  interfaces := #[]
  cf := some (fileOf pool0 8 #[] #[{ accessFlags := 1, nameIndex := 5, descriptorIndex := 6, attributes := #[] }] 33 0 #[] #[])
  fields := #[]
  methods := #[k0m0]
  instanceTypes := #[]
  staticTypes := #[]
  resolved := Array.replicate 124 none
  statics := none }

def pool1 : Array CpInfo := pool [(2, .class_ 4), (1, u "java/lang/Object"), (0, u "<init>"), (0, u "()V"), (0, .class_ 8), (0, u "java/lang/String"), (0, .methodref 7 10), (0, .nameAndType 5 11), (0, u "([C)V"), (0, .methodref 7 13), (0, .nameAndType 14 15), (0, u "valueOf"), (0, u "(C)Ljava/lang/String;"), (0, .class_ 17), (0, u "com/example/purgecast/purgecast/server/Option"), (0, .methodref 16 19), (0, .nameAndType 5 20), (0, u "(Ljava/lang/String;Ljava/lang/String;Ljava/lang/String;)V"), (0, .methodref 16 22), (0, .nameAndType 23 24), (0, u "flag"), (0, u "(Ljava/lang/String;Ljava/lang/String;)Lcom/example/purgecast/purgecast/server/Option;"), (0, .methodref 16 26), (0, .nameAndType 27 28), (0, u "takesValue"), (0, u "()Z"), (0, .class_ 30), (0, u "com/example/purgecast/purgecast/server/OptionTakesValuePinLaw"), (2, u "law"), (0, u "(IIII)Z")] 3

def k1m0 : Method := { name := "<init>", desc := "()V", sig := { parameters := [], returnType := none }, accessFlags := 1, code := none }
def k1c1 : Code := { maxStack := 7, maxLocals := 11, code := code, exceptionTable := #[], attributes := #[] }
def k1m1 : Method := { name := "law", desc := "(IIII)Z", sig := { parameters := [.int, .int, .int, .int], returnType := some .boolean }, accessFlags := 9, code := some k1c1 }
/-- com/example/purgecast/purgecast/server/OptionTakesValuePinLaw -/
def k1 : Class := { plain "com/example/purgecast/purgecast/server/OptionTakesValuePinLaw" (some 0) with
  accessFlags := 49
  interfaces := #[]
  cf := some (fileOf pool1 29 #[] #[{ accessFlags := 1, nameIndex := 5, descriptorIndex := 6, attributes := #[] }, { accessFlags := 9, nameIndex := 33, descriptorIndex := 34, attributes := #[] }] 49 2 #[] #[])
  fields := #[]
  methods := #[k1m0, k1m1]
  instanceTypes := #[]
  staticTypes := #[]
  resolved := Array.replicate 38 none
  statics := none }

def pool2 : Array CpInfo := pool [(1, .class_ 2), (0, u "java/io/Serializable"), (0, .class_ 4), (0, u "java/lang/Object")] 2

/-- java/io/Serializable -/
def k2 : Class := { plain "java/io/Serializable" (some 0) with
  accessFlags := 1537
  interfaces := #[]
  cf := some (fileOf pool2 1 #[] #[] 1537 3 #[] #[])
  fields := #[]
  methods := #[]
  instanceTypes := #[]
  staticTypes := #[]
  resolved := Array.replicate 7 none
  statics := none }

def pool3 : Array CpInfo := pool [(1, .class_ 2), (0, u "java/lang/Comparable"), (0, .class_ 4), (0, u "java/lang/Object")] 7

/-- java/lang/Comparable -/
def k3 : Class := { plain "java/lang/Comparable" (some 0) with
  accessFlags := 1537
  interfaces := #[]
  cf := some (fileOf pool3 1 #[] #[] 1537 3 #[] #[])
  fields := #[]
  methods := #[]
  instanceTypes := #[]
  staticTypes := #[]
  resolved := Array.replicate 12 none
  statics := none }

def pool4 : Array CpInfo := pool [(2, .class_ 4), (1, u "java/lang/CharSequence"), (42, .class_ 48), (0, u "java/lang/CharSequence$1CodePointIterator"), (10, .class_ 60), (0, u "java/lang/CharSequence$1CharIterator"), (5, .class_ 67), (0, u "java/lang/Object")] 63

/-- java/lang/CharSequence -/
def k4 : Class := { plain "java/lang/CharSequence" (some 0) with
  accessFlags := 1537
  interfaces := #[]
  cf := some (fileOf pool4 2 #[.nestMembers #[47, 59]] #[] 1537 66 #[] #[])
  fields := #[]
  methods := #[]
  instanceTypes := #[]
  staticTypes := #[]
  resolved := Array.replicate 131 none
  statics := none }

def pool5 : Array CpInfo := pool [(1, .class_ 2), (0, u "java/lang/constant/Constable"), (0, .class_ 4), (0, u "java/lang/Object")] 6

/-- java/lang/constant/Constable -/
def k5 : Class := { plain "java/lang/constant/Constable" (some 0) with
  accessFlags := 1537
  interfaces := #[]
  cf := some (fileOf pool5 1 #[] #[] 1537 3 #[] #[])
  fields := #[]
  methods := #[]
  instanceTypes := #[]
  staticTypes := #[]
  resolved := Array.replicate 11 none
  statics := none }

def pool6 : Array CpInfo := pool [(1, .class_ 2), (0, u "java/lang/constant/ConstantDesc"), (0, .class_ 4), (0, u "java/lang/Object")] 32

/-- java/lang/constant/ConstantDesc -/
def k6 : Class := { plain "java/lang/constant/ConstantDesc" (some 0) with
  accessFlags := 1537
  interfaces := #[]
  cf := some (fileOf pool6 1 #[] #[] 1537 3 #[] #[])
  fields := #[]
  methods := #[]
  instanceTypes := #[]
  staticTypes := #[]
  resolved := Array.replicate 37 none
  statics := none }

def pool7 : Array CpInfo := pool [(1, .methodref 2 3), (0, .class_ 4), (0, .nameAndType 5 6), (0, u "java/lang/Object"), (0, u "<init>"), (0, u "()V"), (0, .string 8), (0, u ""), (0, .fieldref 10 11), (0, .class_ 12), (0, .nameAndType 13 14), (0, u "java/lang/String"), (0, u "value"), (0, u "[B"), (0, .fieldref 10 16), (0, .nameAndType 17 18), (0, u "coder"), (0, u "B"), (2, u "hash"), (0, u "I"), (2, u "hashIsZero"), (0, u "Z"), (0, .methodref 10 28), (0, .nameAndType 5 29), (0, u "([CIILjava/lang/Void;)V"), (8, .fieldref 10 39), (0, .nameAndType 40 26), (0, u "COMPACT_STRINGS"), (1, .class_ 44), (1, u "java/lang/StringUTF16"), (0, u "compress"), (1, .methodref 42 48), (0, .nameAndType 49 50), (0, u "coderFromArrayLen"), (0, u "([BI)B"), (2, u "toBytes"), (53, .class_ 109), (1, u "java/lang/StringLatin1"), (67, .methodref 42 178), (0, .nameAndType 45 179), (0, u "([CII)[B"), (29, .methodref 10 210), (0, .nameAndType 5 211), (0, u "([BB)V"), (157, u "(C)Z"), (205, .class_ 576), (0, u "java/lang/CharSequence"), (22, u "CASE_INSENSITIVE_ORDER"), (0, u "Ljava/util/Comparator;"), (181, u "valueOf"), (0, u "(C)Ljava/lang/String;"), (226, u "([C)V"), (4, .methodref 107 1016), (0, .nameAndType 1017 369), (0, u "canEncode"), (0, .methodref 107 1019), (0, .nameAndType 53 1020), (0, u "(C)[B"), (80, u "serialPersistentFields"), (0, u "[Ljava/io/ObjectStreamField;"), (0, .class_ 1104), (0, u "java/lang/String$CaseInsensitiveComparator"), (1, .class_ 1107), (0, u "java/io/Serializable"), (0, .class_ 1109), (0, u "java/lang/Comparable"), (0, .class_ 1111), (0, u "java/lang/constant/Constable"), (0, .class_ 1113), (0, u "java/lang/constant/ConstantDesc"), (2, u "serialVersionUID"), (0, u "J"), (3, u "REPL"), (0, u "C"), (2, u "LATIN1"), (1, u "UTF16")] 323

def k7m0 : Method := { name := "<init>", desc := "()V", sig := { parameters := [], returnType := none }, accessFlags := 1, code := none }
def k7c1 : Code := { maxStack := 5, maxLocals := 2, code := jdk_42_method_3_code, exceptionTable := #[], attributes := #[] }
def k7m1 : Method := { name := "<init>", desc := "([C)V", sig := { parameters := [(.array .char)], returnType := none }, accessFlags := 1, code := some k7c1 }
def k7c2 : Code := { maxStack := 4, maxLocals := 1, code := jdk_42_method_139_code, exceptionTable := #[], attributes := #[] }
def k7m2 : Method := { name := "valueOf", desc := "(C)Ljava/lang/String;", sig := { parameters := [.char], returnType := some (.object "java/lang/String") }, accessFlags := 9, code := some k7c2 }
def k7c3 : Code := { maxStack := 4, maxLocals := 6, code := jdk_42_method_149_code, exceptionTable := #[], attributes := #[] }
def k7m3 : Method := { name := "<init>", desc := "([CIILjava/lang/Void;)V", sig := { parameters := [(.array .char), .int, .int, (.object "java/lang/Void")], returnType := none }, accessFlags := 2, code := some k7c3 }
def k7c4 : Code := { maxStack := 2, maxLocals := 3, code := jdk_42_method_151_code, exceptionTable := #[], attributes := #[] }
def k7m4 : Method := { name := "<init>", desc := "([BB)V", sig := { parameters := [(.array .byte), .byte], returnType := none }, accessFlags := 0, code := some k7c4 }
/-- java/lang/String -/
def k7 : Class := { plain "java/lang/String" (some 0) with
  accessFlags := 49
  interfaces := #[2, 3, 4, 5, 6]
  cf := some (fileOf pool7 10 #[.nestMembers #[1103]] #[{ accessFlags := 1, nameIndex := 5, descriptorIndex := 6, attributes := #[] }, { accessFlags := 1, nameIndex := 5, descriptorIndex := 1010, attributes := #[] }, { accessFlags := 9, nameIndex := 782, descriptorIndex := 783, attributes := #[] }, { accessFlags := 2, nameIndex := 5, descriptorIndex := 29, attributes := #[] }, { accessFlags := 0, nameIndex := 5, descriptorIndex := 211, attributes := #[] }] 49 2 #[1106, 1108, 575, 1110, 1112] #[{ accessFlags := 18, nameIndex := 13, descriptorIndex := 14, attributes := #[] }, { accessFlags := 18, nameIndex := 17, descriptorIndex := 18, attributes := #[] }, { accessFlags := 2, nameIndex := 21, descriptorIndex := 22, attributes := #[] }, { accessFlags := 2, nameIndex := 25, descriptorIndex := 26, attributes := #[] }, { accessFlags := 26, nameIndex := 1116, descriptorIndex := 1117, attributes := #[] }, { accessFlags := 24, nameIndex := 40, descriptorIndex := 26, attributes := #[] }, { accessFlags := 26, nameIndex := 1101, descriptorIndex := 1102, attributes := #[] }, { accessFlags := 26, nameIndex := 1121, descriptorIndex := 1122, attributes := #[] }, { accessFlags := 25, nameIndex := 599, descriptorIndex := 600, attributes := #[] }, { accessFlags := 24, nameIndex := 1125, descriptorIndex := 18, attributes := #[] }, { accessFlags := 24, nameIndex := 1127, descriptorIndex := 18, attributes := #[] }])
  fields := #[{ name := "value", type := (.array .byte), accessFlags := 18, slot := 0, constantValue := 0 }, { name := "coder", type := .byte, accessFlags := 18, slot := 1, constantValue := 0 }, { name := "hash", type := .int, accessFlags := 2, slot := 2, constantValue := 0 }, { name := "hashIsZero", type := .boolean, accessFlags := 2, slot := 3, constantValue := 0 }, { name := "serialVersionUID", type := .long, accessFlags := 26, slot := 0, constantValue := 0 }, { name := "COMPACT_STRINGS", type := .boolean, accessFlags := 24, slot := 1, constantValue := 0 }, { name := "serialPersistentFields", type := (.array (.object "java/io/ObjectStreamField")), accessFlags := 26, slot := 2, constantValue := 0 }, { name := "REPL", type := .char, accessFlags := 26, slot := 3, constantValue := 0 }, { name := "CASE_INSENSITIVE_ORDER", type := (.object "java/util/Comparator"), accessFlags := 25, slot := 4, constantValue := 0 }, { name := "LATIN1", type := .byte, accessFlags := 24, slot := 5, constantValue := 0 }, { name := "UTF16", type := .byte, accessFlags := 24, slot := 6, constantValue := 0 }]
  methods := #[k7m0, k7m1, k7m2, k7m3, k7m4]
  instanceTypes := #[(.array .byte), .byte, .int, .boolean]
  staticTypes := #[.long, .boolean, (.array (.object "java/io/ObjectStreamField")), .char, (.object "java/util/Comparator"), .byte, .byte]
  resolved := Array.replicate 1451 none
  statics := some 0 }

def pool8 : Array CpInfo := pool [(6, .class_ 8), (1, u "java/lang/Object"), (0, u "<init>"), (0, u "()V"), (1, .class_ 14), (1, u "java/lang/StringUTF16"), (31, u "$assertionsDisabled"), (0, u "Z"), (13, u "HI_BYTE_SHIFT"), (0, u "I"), (2, u "LO_BYTE_SHIFT"), (49, .methodref 12 116), (0, .nameAndType 117 118), (0, u "compress"), (0, u "([CI[BII)I"), (3, u "([CII)[B"), (138, u "coderFromArrayLen"), (0, u "([BI)B"), (106, .class_ 371), (1, u "java/lang/StringUTF16$LinesSpliterator"), (58, u "MAX_LENGTH"), (196, .class_ 628), (0, u "java/lang/StringUTF16$CodePointsSpliterator"), (0, .class_ 630), (0, u "java/lang/StringUTF16$CharsSpliterator")] 4

def k8m0 : Method := { name := "<init>", desc := "()V", sig := { parameters := [], returnType := none }, accessFlags := 0, code := none }
def k8c1 : Code := { maxStack := 2, maxLocals := 2, code := jdk_52_method_15_code, exceptionTable := #[], attributes := #[] }
def k8m1 : Method := { name := "coderFromArrayLen", desc := "([BI)B", sig := { parameters := [(.array .byte), .int], returnType := some .byte }, accessFlags := 8, code := some k8c1 }
def k8c2 : Code := { maxStack := 5, maxLocals := 6, code := jdk_52_method_16_code, exceptionTable := #[], attributes := #[] }
def k8m2 : Method := { name := "compress", desc := "([CII)[B", sig := { parameters := [(.array .char), .int, .int], returnType := some (.array .byte) }, accessFlags := 9, code := some k8c2 }
def k8c3 : Code := { maxStack := 3, maxLocals := 7, code := jdk_52_method_21_code, exceptionTable := #[], attributes := #[] }
def k8m3 : Method := { name := "compress", desc := "([CI[BII)I", sig := { parameters := [(.array .char), .int, (.array .byte), .int, .int], returnType := some .int }, accessFlags := 9, code := some k8c3 }
/-- java/lang/StringUTF16 -/
def k8 : Class := { plain "java/lang/StringUTF16" (some 0) with
  accessFlags := 48
  interfaces := #[]
  cf := some (fileOf pool8 12 #[.nestMembers #[627, 629, 369]] #[{ accessFlags := 0, nameIndex := 9, descriptorIndex := 10, attributes := #[] }, { accessFlags := 8, nameIndex := 261, descriptorIndex := 262, attributes := #[] }, { accessFlags := 9, nameIndex := 117, descriptorIndex := 122, attributes := #[] }, { accessFlags := 9, nameIndex := 117, descriptorIndex := 118, attributes := #[] }] 48 6 #[] #[{ accessFlags := 26, nameIndex := 61, descriptorIndex := 62, attributes := #[] }, { accessFlags := 26, nameIndex := 65, descriptorIndex := 62, attributes := #[] }, { accessFlags := 24, nameIndex := 430, descriptorIndex := 62, attributes := #[] }, { accessFlags := 4120, nameIndex := 46, descriptorIndex := 47, attributes := #[] }])
  fields := #[{ name := "HI_BYTE_SHIFT", type := .int, accessFlags := 26, slot := 0, constantValue := 0 }, { name := "LO_BYTE_SHIFT", type := .int, accessFlags := 26, slot := 1, constantValue := 0 }, { name := "MAX_LENGTH", type := .int, accessFlags := 24, slot := 2, constantValue := 0 }, { name := "$assertionsDisabled", type := .boolean, accessFlags := 4120, slot := 3, constantValue := 0 }]
  methods := #[k8m0, k8m1, k8m2, k8m3]
  instanceTypes := #[]
  staticTypes := #[.int, .int, .int, .boolean]
  resolved := Array.replicate 635 none
  statics := none }

def pool9 : Array CpInfo := pool [(4, .class_ 6), (1, u "java/lang/Object"), (0, u "<init>"), (0, u "()V"), (5, .class_ 16), (1, u "java/lang/StringLatin1"), (73, u "canEncode"), (14, u "(C)Z"), (15, u "$assertionsDisabled"), (0, u "Z"), (98, .class_ 223), (1, u "java/lang/StringLatin1$LinesSpliterator"), (156, u "toBytes"), (1, u "(C)[B"), (7, .class_ 391), (0, u "java/lang/StringLatin1$CharsSpliterator")] 3

def k9m0 : Method := { name := "<init>", desc := "()V", sig := { parameters := [], returnType := none }, accessFlags := 0, code := none }
def k9c1 : Code := { maxStack := 2, maxLocals := 1, code := jdk_43_method_3_code, exceptionTable := #[], attributes := #[] }
def k9m1 : Method := { name := "canEncode", desc := "(C)Z", sig := { parameters := [.char], returnType := some .boolean }, accessFlags := 9, code := some k9c1 }
def k9c2 : Code := { maxStack := 4, maxLocals := 1, code := jdk_43_method_46_code, exceptionTable := #[], attributes := #[] }
def k9m2 : Method := { name := "toBytes", desc := "(C)[B", sig := { parameters := [.char], returnType := some (.array .byte) }, accessFlags := 9, code := some k9c2 }
/-- java/lang/StringLatin1 -/
def k9 : Class := { plain "java/lang/StringLatin1" (some 0) with
  accessFlags := 48
  interfaces := #[]
  cf := some (fileOf pool9 14 #[.nestMembers #[390, 221]] #[{ accessFlags := 0, nameIndex := 7, descriptorIndex := 8, attributes := #[] }, { accessFlags := 9, nameIndex := 90, descriptorIndex := 105, attributes := #[] }, { accessFlags := 9, nameIndex := 380, descriptorIndex := 382, attributes := #[] }] 48 4 #[] #[{ accessFlags := 4120, nameIndex := 121, descriptorIndex := 122, attributes := #[] }])
  fields := #[{ name := "$assertionsDisabled", type := .boolean, accessFlags := 4120, slot := 0, constantValue := 0 }]
  methods := #[k9m0, k9m1, k9m2]
  instanceTypes := #[]
  staticTypes := #[.boolean]
  resolved := Array.replicate 395 none
  statics := none }

def pool10 : Array CpInfo := pool [(1, .methodref 2 3), (0, .class_ 4), (0, .nameAndType 5 6), (0, u "java/lang/Object"), (0, u "<init>"), (0, u "()V"), (0, .class_ 8), (0, u "java/lang/Record")] 13

def k10c0 : Code := { maxStack := 1, maxLocals := 1, code := jdk_30_method_1_code, exceptionTable := #[], attributes := #[] }
def k10m0 : Method := { name := "<init>", desc := "()V", sig := { parameters := [], returnType := none }, accessFlags := 4, code := some k10c0 }
/-- java/lang/Record -/
def k10 : Class := { plain "java/lang/Record" (some 0) with
  accessFlags := 1057
  interfaces := #[]
  cf := some (fileOf pool10 7 #[] #[{ accessFlags := 4, nameIndex := 5, descriptorIndex := 6, attributes := #[] }] 1057 2 #[] #[])
  fields := #[]
  methods := #[k10m0]
  instanceTypes := #[]
  staticTypes := #[]
  resolved := Array.replicate 22 none
  statics := none }

def pool11 : Array CpInfo := pool [(1, .methodref 2 3), (0, .class_ 4), (0, .nameAndType 5 6), (0, u "java/lang/Record"), (0, u "<init>"), (0, u "()V"), (0, .string 8), (0, u "name"), (0, .methodref 10 11), (0, .class_ 12), (0, .nameAndType 13 14), (0, u "java/util/Objects"), (0, u "requireNonNull"), (0, u "(Ljava/lang/Object;Ljava/lang/String;)Ljava/lang/Object;"), (0, .string 16), (0, u "description"), (0, .fieldref 18 19), (0, .class_ 20), (0, .nameAndType 8 21), (0, u "com/example/purgecast/purgecast/server/Option"), (0, u "Ljava/lang/String;"), (0, .fieldref 18 23), (0, .nameAndType 24 21), (0, u "valueName"), (0, .fieldref 18 26), (0, .nameAndType 16 21), (0, .methodref 18 28), (0, .nameAndType 5 29), (0, u "(Ljava/lang/String;Ljava/lang/String;Ljava/lang/String;)V"), (6, u "takesValue"), (0, u "()Z"), (18, u "flag"), (0, u "(Ljava/lang/String;Ljava/lang/String;)Lcom/example/purgecast/purgecast/server/Option;")] 39

def k11c0 : Code := { maxStack := 2, maxLocals := 4, code := prog_53_method_1_code, exceptionTable := #[], attributes := #[] }
def k11m0 : Method := { name := "<init>", desc := "(Ljava/lang/String;Ljava/lang/String;Ljava/lang/String;)V", sig := { parameters := [(.object "java/lang/String"), (.object "java/lang/String"), (.object "java/lang/String")], returnType := none }, accessFlags := 0, code := some k11c0 }
def k11c1 : Code := { maxStack := 5, maxLocals := 2, code := prog_53_method_2_code, exceptionTable := #[], attributes := #[] }
def k11m1 : Method := { name := "flag", desc := "(Ljava/lang/String;Ljava/lang/String;)Lcom/example/purgecast/purgecast/server/Option;", sig := { parameters := [(.object "java/lang/String"), (.object "java/lang/String")], returnType := some (.object "com/example/purgecast/purgecast/server/Option") }, accessFlags := 8, code := some k11c1 }
def k11c2 : Code := { maxStack := 1, maxLocals := 1, code := prog_53_method_3_code, exceptionTable := #[], attributes := #[] }
def k11m2 : Method := { name := "takesValue", desc := "()Z", sig := { parameters := [], returnType := some .boolean }, accessFlags := 0, code := some k11c2 }
/-- com/example/purgecast/purgecast/server/Option -/
def k11 : Class := { plain "com/example/purgecast/purgecast/server/Option" (some 10) with
  accessFlags := 48
  interfaces := #[]
  cf := some (fileOf pool11 18 #[] #[{ accessFlags := 0, nameIndex := 5, descriptorIndex := 29, attributes := #[] }, { accessFlags := 8, nameIndex := 56, descriptorIndex := 57, attributes := #[] }, { accessFlags := 0, nameIndex := 36, descriptorIndex := 37, attributes := #[] }] 48 2 #[] #[{ accessFlags := 18, nameIndex := 8, descriptorIndex := 21, attributes := #[] }, { accessFlags := 18, nameIndex := 24, descriptorIndex := 21, attributes := #[] }, { accessFlags := 18, nameIndex := 16, descriptorIndex := 21, attributes := #[] }])
  fields := #[{ name := "name", type := (.object "java/lang/String"), accessFlags := 18, slot := 0, constantValue := 0 }, { name := "valueName", type := (.object "java/lang/String"), accessFlags := 18, slot := 1, constantValue := 0 }, { name := "description", type := (.object "java/lang/String"), accessFlags := 18, slot := 2, constantValue := 0 }]
  methods := #[k11m0, k11m1, k11m2]
  instanceTypes := #[(.object "java/lang/String"), (.object "java/lang/String"), (.object "java/lang/String")]
  staticTypes := #[]
  resolved := Array.replicate 97 none
  statics := none }

def pool12 : Array CpInfo := pool [(2, .class_ 4), (1, u "java/lang/Object"), (0, u "<init>"), (0, u "()V"), (35, .class_ 44), (1, u "java/util/Objects"), (0, u "requireNonNull"), (48, u "(Ljava/lang/Object;Ljava/lang/String;)Ljava/lang/Object;")] 89

def k12m0 : Method := { name := "<init>", desc := "()V", sig := { parameters := [], returnType := none }, accessFlags := 2, code := none }
def k12c1 : Code := { maxStack := 3, maxLocals := 2, code := jdk_31_method_11_code, exceptionTable := #[], attributes := #[] }
def k12m1 : Method := { name := "requireNonNull", desc := "(Ljava/lang/Object;Ljava/lang/String;)Ljava/lang/Object;", sig := { parameters := [(.object "java/lang/Object"), (.object "java/lang/String")], returnType := some (.object "java/lang/Object") }, accessFlags := 9, code := some k12c1 }
/-- java/util/Objects -/
def k12 : Class := { plain "java/util/Objects" (some 0) with
  accessFlags := 49
  interfaces := #[]
  cf := some (fileOf pool12 42 #[] #[{ accessFlags := 2, nameIndex := 5, descriptorIndex := 6, attributes := #[] }, { accessFlags := 9, nameIndex := 45, descriptorIndex := 94, attributes := #[] }] 49 2 #[] #[])
  fields := #[]
  methods := #[k12m0, k12m1]
  instanceTypes := #[]
  staticTypes := #[]
  resolved := Array.replicate 184 none
  statics := none }

def pool13 : Array CpInfo := pool [(2, .class_ 4), (1, u "java/lang/Object"), (0, u "<init>"), (0, u "()V"), (17, .class_ 26), (1, u "jdk/internal/util/Preconditions"), (28, .class_ 56), (0, u "jdk/internal/util/Preconditions$4"), (57, .class_ 115), (0, u "jdk/internal/util/Preconditions$1"), (7, u "SIOOBE_FORMATTER"), (0, u "Ljava/util/function/BiFunction;"), (0, .class_ 126), (0, u "jdk/internal/util/Preconditions$2"), (3, u "AIOOBE_FORMATTER"), (0, .class_ 132), (0, u "jdk/internal/util/Preconditions$3"), (3, u "IOOBE_FORMATTER")] 57

def k13m0 : Method := { name := "<init>", desc := "()V", sig := { parameters := [], returnType := none }, accessFlags := 1, code := none }
/-- jdk/internal/util/Preconditions -/
def k13 : Class := { plain "jdk/internal/util/Preconditions" (some 0) with
  accessFlags := 33
  interfaces := #[]
  cf := some (fileOf pool13 24 #[.nestMembers #[55, 131, 125, 114]] #[{ accessFlags := 1, nameIndex := 5, descriptorIndex := 6, attributes := #[] }] 33 2 #[] #[{ accessFlags := 25, nameIndex := 123, descriptorIndex := 124, attributes := #[] }, { accessFlags := 25, nameIndex := 130, descriptorIndex := 124, attributes := #[] }, { accessFlags := 25, nameIndex := 136, descriptorIndex := 124, attributes := #[] }])
  fields := #[{ name := "SIOOBE_FORMATTER", type := (.object "java/util/function/BiFunction"), accessFlags := 25, slot := 0, constantValue := 0 }, { name := "AIOOBE_FORMATTER", type := (.object "java/util/function/BiFunction"), accessFlags := 25, slot := 1, constantValue := 0 }, { name := "IOOBE_FORMATTER", type := (.object "java/util/function/BiFunction"), accessFlags := 25, slot := 2, constantValue := 0 }]
  methods := #[k13m0]
  instanceTypes := #[]
  staticTypes := #[(.object "java/util/function/BiFunction"), (.object "java/util/function/BiFunction"), (.object "java/util/function/BiFunction")]
  resolved := Array.replicate 194 none
  statics := some 1 }

def pool14 : Array CpInfo := pool [(9, u "<init>"), (6, .class_ 18), (1, u "java/lang/Object"), (0, u "()V"), (1, .class_ 23), (1, u "jdk/internal/util/ArraysSupport"), (0, u "LOG2_ARRAY_LONG_INDEX_SCALE"), (0, u "I"), (2, u "U"), (0, u "Ljdk/internal/misc/Unsafe;"), (8, u "BIG_ENDIAN"), (0, u "Z"), (8, u "LOG2_BYTE_BIT_SIZE"), (4, u "LOG2_ARRAY_INT_INDEX_SCALE"), (54, u "JLA"), (0, u "Ljdk/internal/access/JavaLangAccess;"), (11, u "LOG2_ARRAY_BOOLEAN_INDEX_SCALE"), (9, u "LOG2_ARRAY_BYTE_INDEX_SCALE"), (5, u "LOG2_ARRAY_CHAR_INDEX_SCALE"), (5, u "LOG2_ARRAY_SHORT_INDEX_SCALE"), (18, u "LOG2_ARRAY_FLOAT_INDEX_SCALE"), (24, u "LOG2_ARRAY_DOUBLE_INDEX_SCALE"), (89, u "T_BOOLEAN"), (2, u "T_CHAR"), (1, u "T_FLOAT"), (1, u "T_DOUBLE"), (1, u "T_BYTE"), (1, u "T_SHORT"), (1, u "T_INT"), (1, u "T_LONG"), (1, u "SOFT_MAX_ARRAY_LENGTH")] 83

def k14m0 : Method := { name := "<init>", desc := "()V", sig := { parameters := [], returnType := none }, accessFlags := 2, code := none }
/-- jdk/internal/util/ArraysSupport -/
def k14 : Class := { plain "jdk/internal/util/ArraysSupport" (some 0) with
  accessFlags := 33
  interfaces := #[]
  cf := some (fileOf pool14 21 #[] #[{ accessFlags := 2, nameIndex := 9, descriptorIndex := 19, attributes := #[] }] 33 16 #[] #[{ accessFlags := 24, nameIndex := 28, descriptorIndex := 29, attributes := #[] }, { accessFlags := 26, nameIndex := 38, descriptorIndex := 39, attributes := #[] }, { accessFlags := 25, nameIndex := 121, descriptorIndex := 25, attributes := #[] }, { accessFlags := 25, nameIndex := 131, descriptorIndex := 25, attributes := #[] }, { accessFlags := 25, nameIndex := 137, descriptorIndex := 25, attributes := #[] }, { accessFlags := 25, nameIndex := 143, descriptorIndex := 25, attributes := #[] }, { accessFlags := 25, nameIndex := 53, descriptorIndex := 25, attributes := #[] }, { accessFlags := 25, nameIndex := 24, descriptorIndex := 25, attributes := #[] }, { accessFlags := 25, nameIndex := 162, descriptorIndex := 25, attributes := #[] }, { accessFlags := 25, nameIndex := 187, descriptorIndex := 25, attributes := #[] }, { accessFlags := 26, nameIndex := 48, descriptorIndex := 25, attributes := #[] }, { accessFlags := 25, nameIndex := 277, descriptorIndex := 25, attributes := #[] }, { accessFlags := 25, nameIndex := 280, descriptorIndex := 25, attributes := #[] }, { accessFlags := 25, nameIndex := 282, descriptorIndex := 25, attributes := #[] }, { accessFlags := 25, nameIndex := 284, descriptorIndex := 25, attributes := #[] }, { accessFlags := 25, nameIndex := 286, descriptorIndex := 25, attributes := #[] }, { accessFlags := 25, nameIndex := 288, descriptorIndex := 25, attributes := #[] }, { accessFlags := 25, nameIndex := 290, descriptorIndex := 25, attributes := #[] }, { accessFlags := 25, nameIndex := 292, descriptorIndex := 25, attributes := #[] }, { accessFlags := 26, nameIndex := 108, descriptorIndex := 109, attributes := #[] }, { accessFlags := 25, nameIndex := 294, descriptorIndex := 25, attributes := #[] }])
  fields := #[{ name := "U", type := (.object "jdk/internal/misc/Unsafe"), accessFlags := 24, slot := 0, constantValue := 0 }, { name := "BIG_ENDIAN", type := .boolean, accessFlags := 26, slot := 1, constantValue := 0 }, { name := "LOG2_ARRAY_BOOLEAN_INDEX_SCALE", type := .int, accessFlags := 25, slot := 2, constantValue := 0 }, { name := "LOG2_ARRAY_BYTE_INDEX_SCALE", type := .int, accessFlags := 25, slot := 3, constantValue := 0 }, { name := "LOG2_ARRAY_CHAR_INDEX_SCALE", type := .int, accessFlags := 25, slot := 4, constantValue := 0 }, { name := "LOG2_ARRAY_SHORT_INDEX_SCALE", type := .int, accessFlags := 25, slot := 5, constantValue := 0 }, { name := "LOG2_ARRAY_INT_INDEX_SCALE", type := .int, accessFlags := 25, slot := 6, constantValue := 0 }, { name := "LOG2_ARRAY_LONG_INDEX_SCALE", type := .int, accessFlags := 25, slot := 7, constantValue := 0 }, { name := "LOG2_ARRAY_FLOAT_INDEX_SCALE", type := .int, accessFlags := 25, slot := 8, constantValue := 0 }, { name := "LOG2_ARRAY_DOUBLE_INDEX_SCALE", type := .int, accessFlags := 25, slot := 9, constantValue := 0 }, { name := "LOG2_BYTE_BIT_SIZE", type := .int, accessFlags := 26, slot := 10, constantValue := 0 }, { name := "T_BOOLEAN", type := .int, accessFlags := 25, slot := 11, constantValue := 0 }, { name := "T_CHAR", type := .int, accessFlags := 25, slot := 12, constantValue := 0 }, { name := "T_FLOAT", type := .int, accessFlags := 25, slot := 13, constantValue := 0 }, { name := "T_DOUBLE", type := .int, accessFlags := 25, slot := 14, constantValue := 0 }, { name := "T_BYTE", type := .int, accessFlags := 25, slot := 15, constantValue := 0 }, { name := "T_SHORT", type := .int, accessFlags := 25, slot := 16, constantValue := 0 }, { name := "T_INT", type := .int, accessFlags := 25, slot := 17, constantValue := 0 }, { name := "T_LONG", type := .int, accessFlags := 25, slot := 18, constantValue := 0 }, { name := "JLA", type := (.object "jdk/internal/access/JavaLangAccess"), accessFlags := 26, slot := 19, constantValue := 0 }, { name := "SOFT_MAX_ARRAY_LENGTH", type := .int, accessFlags := 25, slot := 20, constantValue := 0 }]
  methods := #[k14m0]
  instanceTypes := #[]
  staticTypes := #[(.object "jdk/internal/misc/Unsafe"), .boolean, .int, .int, .int, .int, .int, .int, .int, .int, .int, .int, .int, .int, .int, .int, .int, .int, .int, (.object "jdk/internal/access/JavaLangAccess"), .int]
  resolved := Array.replicate 378 none
  statics := none }

def pool15 : Array CpInfo := pool [(1, u "java/lang/Cloneable"), (0, .class_ 1), (0, u "java/lang/Object"), (0, .class_ 3)] 3

/-- java/lang/Cloneable -/
def k15 : Class := { plain "java/lang/Cloneable" (some 0) with
  accessFlags := 1537
  interfaces := #[]
  cf := some (fileOf pool15 2 #[] #[] 1537 4 #[] #[])
  fields := #[]
  methods := #[]
  instanceTypes := #[]
  staticTypes := #[]
  resolved := Array.replicate 8 none
  statics := none }

/-- the primitive byte -/
def k16 : Class := { plain "byte" none with kind := .primitive 'B', accessFlags := 0x411 }
/-- [B -/
def k17 : Class := { plain "[B" (some 0) with kind := .array 16 .byte, interfaces := #[15, 2], accessFlags := 1041 }

/-- the primitive char -/
def k18 : Class := { plain "char" none with kind := .primitive 'C', accessFlags := 0x411 }
/-- [C -/
def k19 : Class := { plain "[C" (some 0) with kind := .array 18 .char, interfaces := #[15, 2], accessFlags := 1041 }

/-- the primitive int -/
def k20 : Class := { plain "int" none with kind := .primitive 'I', accessFlags := 0x411 }
/-- [I -/
def k21 : Class := { plain "[I" (some 0) with kind := .array 20 .int, interfaces := #[15, 2], accessFlags := 1041 }

def heap : Heap := #[{ cls := 7, slots := #[.long 0, .int 1, .null, .int 0, .null, .int 0, .int 0], vm := .statics 7 },
  { cls := 13, slots := #[.null, .null, .null], vm := .statics 13 }]
def classes : Array Class := #[k0, k1, k2, k3, k4, k5, k6, k7, k8, k9, k10, k11, k12, k13, k14, k15, k16, k17, k18, k19, k20, k21]
def interned : List (Array UInt16 × Addr) := []
def slotsUsed : Nat := 10
def theMethod : MethodId := ⟨1, 1⟩
def args0 : Array Value := #[.int 1, .int 16961, .int 17475, .int 69]
def aboutOver (below : List Frame) : State where
  vm := { classes := classes, interned := interned.toArray }
  heap := heap
  slotsUsed := slotsUsed
  threads := #[{ frames := .invoking theMethod args0 :: below }]
def below0 : List Frame := [.native { method := ⟨0, 0⟩, args := #[] }]
def about1 : State := aboutOver below0
def p0 : Program := .bare "" "" ""
def e0 : Env := launch0.env 0 0 0
theorem w_frames : about1.frames = Frame.invoking theMethod args0 :: below0 := rfl
set_option maxRecDepth 65536 in
theorem w_args : argsFit about1.vm theMethod args0 = true := by decide +kernel
set_option maxRecDepth 65536 in
theorem w_heap : heapFits about1 = true := by decide +kernel
set_option maxRecDepth 65536 in
theorem w_runnable : about1.curStatus? = some .runnable := by decide +kernel
set_option maxRecDepth 65536 in
theorem w_alone : about1.alone = true := by decide +kernel
set_option maxRecDepth 65536 in
theorem w_named : about1.methodNamed? x = some theMethod := by decide +kernel
set_option maxRecDepth 65536 in
theorem w_hears : about1.hears theMethod below0 = true := by decide +kernel
set_option maxRecDepth 65536 in
theorem w_ripe : about1.ripe theMethod args0 below0 = true := by decide +kernel
theorem w_running : about1.status = .running := rfl
set_option maxRecDepth 65536 in
theorem w_room : about1.hasRoom e0.platform room_1 = true :=
  launch0.hasRoom_least _ room_1 (by decide +kernel) (by decide +kernel) (by decide +kernel) (by decide +kernel) (by decide +kernel) (by decide +kernel)
theorem allAtoms_all (ts : List Jvm.Cond) (a : Array Jvm.Value) (st : Jvm.State) : (allAtoms ts).before a st = ts.all (fun c => c.before a st) := by
  induction ts with
  | nil => rfl
  | cons c t ih =>
    show (Jvm.Cond.and c (allAtoms t)).before a st = _
    rw [Jvm.Cond.before_and, ih, List.all_cons]
def words1 : List Jvm.Cond := Jvm.Cond.code x code maxLocals ret :: tables_1
/-- a 'code' word, met by the world's own term for the bytes: nothing is compared byte by byte -/
theorem code_word {y : MethodName} {bytes : ByteArray} {mx : Nat} {rt : Option FieldType} {a : Array Value} {s : State} {m : MethodId} {meth : Method} {c : Code} (h1 : s.methodNamed? y = some m) (h2 : s.vm.method? m = some meth) (h3 : meth.code = some c) (h4 : c.code = bytes)
    (h5 : (c.maxLocals == mx && c.exceptionTable.isEmpty && decide (c.maxStack ≤ mostOperands) && decide (meth.sig.returnType = rt) && !meth.locks && decide (parseMethodDescriptor y.desc = some meth.sig)) = true) : (Jvm.Cond.code y bytes mx rt).before a s = true := by
  simp only [Bool.and_eq_true, beq_iff_eq, Bool.not_eq_true', decide_eq_true_eq] at h5
  obtain ⟨⟨⟨⟨⟨g1, g2⟩, g3⟩, g4⟩, g5⟩, g6⟩ := h5
  simp [Cond.before, Cond.holds, Cond.value, h1, h2, h3, h4, g1, g2, g3, g4, g5, g6]
def isCode : Jvm.Cond → Bool
  | .code _ _ _ _ => true
  | _ => false
theorem all_split {L : List Jvm.Cond} {P : Jvm.Cond → Bool} (h1 : L.all (fun c => isCode c || P c) = true) (h2 : ∀ c ∈ L.filter isCode, P c = true) : L.all P = true := by
  refine List.all_eq_true.mpr fun c hc => ?_
  have h := List.all_eq_true.mp h1 c hc
  rcases Bool.eq_false_or_eq_true (isCode c) with hi | hi
  · exact h2 c (List.mem_filter.mpr ⟨hc, hi⟩)
  · simpa [hi] using h
set_option maxRecDepth 65536 in
theorem w_c0 : (Jvm.Cond.code x code maxLocals ret).before args0 about1 = true := code_word (m := ⟨1, 1⟩) (meth := k1m1) (c := k1c1) (by decide +kernel) rfl rfl rfl (by decide +kernel)
set_option maxRecDepth 65536 in
theorem w_c1 : (Jvm.Cond.code ({ cls := "java/lang/String", name := "<init>", desc := "([C)V" } : Jvm.MethodName) jdk_42_method_3_code (2 : Nat) (Option.none : Option Jvm.ClassFile.FieldType)).before args0 about1 = true := code_word (m := ⟨7, 1⟩) (meth := k7m1) (c := k7c1) (by decide +kernel) rfl rfl rfl (by decide +kernel)
set_option maxRecDepth 65536 in
theorem w_c2 : (Jvm.Cond.code ({ cls := "java/lang/String", name := "<init>", desc := "([CIILjava/lang/Void;)V" } : Jvm.MethodName) jdk_42_method_149_code (6 : Nat) (Option.none : Option Jvm.ClassFile.FieldType)).before args0 about1 = true := code_word (m := ⟨7, 3⟩) (meth := k7m3) (c := k7c3) (by decide +kernel) rfl rfl rfl (by decide +kernel)
set_option maxRecDepth 65536 in
theorem w_c3 : (Jvm.Cond.code ({ cls := "java/lang/Object", name := "<init>", desc := "()V" } : Jvm.MethodName) object_method_1_code (1 : Nat) (Option.none : Option Jvm.ClassFile.FieldType)).before args0 about1 = true := code_word (m := ⟨0, 0⟩) (meth := k0m0) (c := k0c0) (by decide +kernel) rfl rfl rfl (by decide +kernel)
set_option maxRecDepth 65536 in
theorem w_c4 : (Jvm.Cond.code ({ cls := "java/lang/StringUTF16", name := "compress", desc := "([CII)[B" } : Jvm.MethodName) jdk_52_method_16_code (6 : Nat) (Option.some (Jvm.ClassFile.FieldType.array Jvm.ClassFile.FieldType.byte))).before args0 about1 = true := code_word (m := ⟨8, 2⟩) (meth := k8m2) (c := k8c2) (by decide +kernel) rfl rfl rfl (by decide +kernel)
set_option maxRecDepth 65536 in
theorem w_c5 : (Jvm.Cond.code ({ cls := "java/lang/StringUTF16", name := "compress", desc := "([CI[BII)I" } : Jvm.MethodName) jdk_52_method_21_code (7 : Nat) (Option.some Jvm.ClassFile.FieldType.int)).before args0 about1 = true := code_word (m := ⟨8, 3⟩) (meth := k8m3) (c := k8c3) (by decide +kernel) rfl rfl rfl (by decide +kernel)
set_option maxRecDepth 65536 in
theorem w_c6 : (Jvm.Cond.code ({ cls := "java/lang/StringUTF16", name := "coderFromArrayLen", desc := "([BI)B" } : Jvm.MethodName) jdk_52_method_15_code (2 : Nat) (Option.some Jvm.ClassFile.FieldType.byte)).before args0 about1 = true := code_word (m := ⟨8, 1⟩) (meth := k8m1) (c := k8c1) (by decide +kernel) rfl rfl rfl (by decide +kernel)
set_option maxRecDepth 65536 in
theorem w_c7 : (Jvm.Cond.code ({ cls := "java/lang/String", name := "valueOf", desc := "(C)Ljava/lang/String;" } : Jvm.MethodName) jdk_42_method_139_code (1 : Nat) (Option.some (Jvm.ClassFile.FieldType.object "java/lang/String"))).before args0 about1 = true := code_word (m := ⟨7, 2⟩) (meth := k7m2) (c := k7c2) (by decide +kernel) rfl rfl rfl (by decide +kernel)
set_option maxRecDepth 65536 in
theorem w_c8 : (Jvm.Cond.code ({ cls := "java/lang/StringLatin1", name := "canEncode", desc := "(C)Z" } : Jvm.MethodName) jdk_43_method_3_code (1 : Nat) (Option.some Jvm.ClassFile.FieldType.boolean)).before args0 about1 = true := code_word (m := ⟨9, 1⟩) (meth := k9m1) (c := k9c1) (by decide +kernel) rfl rfl rfl (by decide +kernel)
set_option maxRecDepth 65536 in
theorem w_c9 : (Jvm.Cond.code ({ cls := "java/lang/StringLatin1", name := "toBytes", desc := "(C)[B" } : Jvm.MethodName) jdk_43_method_46_code (1 : Nat) (Option.some (Jvm.ClassFile.FieldType.array Jvm.ClassFile.FieldType.byte))).before args0 about1 = true := code_word (m := ⟨9, 2⟩) (meth := k9m2) (c := k9c2) (by decide +kernel) rfl rfl rfl (by decide +kernel)
set_option maxRecDepth 65536 in
theorem w_c10 : (Jvm.Cond.code ({ cls := "java/lang/String", name := "<init>", desc := "([BB)V" } : Jvm.MethodName) jdk_42_method_151_code (3 : Nat) (Option.none : Option Jvm.ClassFile.FieldType)).before args0 about1 = true := code_word (m := ⟨7, 4⟩) (meth := k7m4) (c := k7c4) (by decide +kernel) rfl rfl rfl (by decide +kernel)
set_option maxRecDepth 65536 in
theorem w_c11 : (Jvm.Cond.code ({ cls := "com/example/purgecast/purgecast/server/Option", name := "<init>", desc := "(Ljava/lang/String;Ljava/lang/String;Ljava/lang/String;)V" } : Jvm.MethodName) prog_53_method_1_code (4 : Nat) (Option.none : Option Jvm.ClassFile.FieldType)).before args0 about1 = true := code_word (m := ⟨11, 0⟩) (meth := k11m0) (c := k11c0) (by decide +kernel) rfl rfl rfl (by decide +kernel)
set_option maxRecDepth 65536 in
theorem w_c12 : (Jvm.Cond.code ({ cls := "java/lang/Record", name := "<init>", desc := "()V" } : Jvm.MethodName) jdk_30_method_1_code (1 : Nat) (Option.none : Option Jvm.ClassFile.FieldType)).before args0 about1 = true := code_word (m := ⟨10, 0⟩) (meth := k10m0) (c := k10c0) (by decide +kernel) rfl rfl rfl (by decide +kernel)
set_option maxRecDepth 65536 in
theorem w_c13 : (Jvm.Cond.code ({ cls := "java/util/Objects", name := "requireNonNull", desc := "(Ljava/lang/Object;Ljava/lang/String;)Ljava/lang/Object;" } : Jvm.MethodName) jdk_31_method_11_code (2 : Nat) (Option.some (Jvm.ClassFile.FieldType.object "java/lang/Object"))).before args0 about1 = true := code_word (m := ⟨12, 1⟩) (meth := k12m1) (c := k12c1) (by decide +kernel) rfl rfl rfl (by decide +kernel)
set_option maxRecDepth 65536 in
theorem w_c14 : (Jvm.Cond.code ({ cls := "com/example/purgecast/purgecast/server/Option", name := "flag", desc := "(Ljava/lang/String;Ljava/lang/String;)Lcom/example/purgecast/purgecast/server/Option;" } : Jvm.MethodName) prog_53_method_2_code (2 : Nat) (Option.some (Jvm.ClassFile.FieldType.object "com/example/purgecast/purgecast/server/Option"))).before args0 about1 = true := code_word (m := ⟨11, 1⟩) (meth := k11m1) (c := k11c1) (by decide +kernel) rfl rfl rfl (by decide +kernel)
set_option maxRecDepth 65536 in
theorem w_c15 : (Jvm.Cond.code ({ cls := "com/example/purgecast/purgecast/server/Option", name := "takesValue", desc := "()Z" } : Jvm.MethodName) prog_53_method_3_code (1 : Nat) (Option.some Jvm.ClassFile.FieldType.boolean)).before args0 about1 = true := code_word (m := ⟨11, 2⟩) (meth := k11m2) (c := k11c2) (by decide +kernel) rfl rfl rfl (by decide +kernel)
def codes1 : List Jvm.Cond := [Jvm.Cond.code x code maxLocals ret, Jvm.Cond.code ({ cls := "java/lang/String", name := "<init>", desc := "([C)V" } : Jvm.MethodName) jdk_42_method_3_code (2 : Nat) (Option.none : Option Jvm.ClassFile.FieldType), Jvm.Cond.code ({ cls := "java/lang/String", name := "<init>", desc := "([CIILjava/lang/Void;)V" } : Jvm.MethodName) jdk_42_method_149_code (6 : Nat) (Option.none : Option Jvm.ClassFile.FieldType), Jvm.Cond.code ({ cls := "java/lang/Object", name := "<init>", desc := "()V" } : Jvm.MethodName) object_method_1_code (1 : Nat) (Option.none : Option Jvm.ClassFile.FieldType), Jvm.Cond.code ({ cls := "java/lang/StringUTF16", name := "compress", desc := "([CII)[B" } : Jvm.MethodName) jdk_52_method_16_code (6 : Nat) (Option.some (Jvm.ClassFile.FieldType.array Jvm.ClassFile.FieldType.byte)), Jvm.Cond.code ({ cls := "java/lang/StringUTF16", name := "compress", desc := "([CI[BII)I" } : Jvm.MethodName) jdk_52_method_21_code (7 : Nat) (Option.some Jvm.ClassFile.FieldType.int), Jvm.Cond.code ({ cls := "java/lang/StringUTF16", name := "coderFromArrayLen", desc := "([BI)B" } : Jvm.MethodName) jdk_52_method_15_code (2 : Nat) (Option.some Jvm.ClassFile.FieldType.byte), Jvm.Cond.code ({ cls := "java/lang/String", name := "valueOf", desc := "(C)Ljava/lang/String;" } : Jvm.MethodName) jdk_42_method_139_code (1 : Nat) (Option.some (Jvm.ClassFile.FieldType.object "java/lang/String")), Jvm.Cond.code ({ cls := "java/lang/StringLatin1", name := "canEncode", desc := "(C)Z" } : Jvm.MethodName) jdk_43_method_3_code (1 : Nat) (Option.some Jvm.ClassFile.FieldType.boolean), Jvm.Cond.code ({ cls := "java/lang/StringLatin1", name := "toBytes", desc := "(C)[B" } : Jvm.MethodName) jdk_43_method_46_code (1 : Nat) (Option.some (Jvm.ClassFile.FieldType.array Jvm.ClassFile.FieldType.byte)), Jvm.Cond.code ({ cls := "java/lang/String", name := "<init>", desc := "([BB)V" } : Jvm.MethodName) jdk_42_method_151_code (3 : Nat) (Option.none : Option Jvm.ClassFile.FieldType), Jvm.Cond.code ({ cls := "com/example/purgecast/purgecast/server/Option", name := "<init>", desc := "(Ljava/lang/String;Ljava/lang/String;Ljava/lang/String;)V" } : Jvm.MethodName) prog_53_method_1_code (4 : Nat) (Option.none : Option Jvm.ClassFile.FieldType), Jvm.Cond.code ({ cls := "java/lang/Record", name := "<init>", desc := "()V" } : Jvm.MethodName) jdk_30_method_1_code (1 : Nat) (Option.none : Option Jvm.ClassFile.FieldType), Jvm.Cond.code ({ cls := "java/util/Objects", name := "requireNonNull", desc := "(Ljava/lang/Object;Ljava/lang/String;)Ljava/lang/Object;" } : Jvm.MethodName) jdk_31_method_11_code (2 : Nat) (Option.some (Jvm.ClassFile.FieldType.object "java/lang/Object")), Jvm.Cond.code ({ cls := "com/example/purgecast/purgecast/server/Option", name := "flag", desc := "(Ljava/lang/String;Ljava/lang/String;)Lcom/example/purgecast/purgecast/server/Option;" } : Jvm.MethodName) prog_53_method_2_code (2 : Nat) (Option.some (Jvm.ClassFile.FieldType.object "com/example/purgecast/purgecast/server/Option")), Jvm.Cond.code ({ cls := "com/example/purgecast/purgecast/server/Option", name := "takesValue", desc := "()Z" } : Jvm.MethodName) prog_53_method_3_code (1 : Nat) (Option.some Jvm.ClassFile.FieldType.boolean)]
set_option maxRecDepth 65536 in
theorem codes_eq : words1.filter isCode = codes1 := rfl
theorem w_codes : ∀ c ∈ words1.filter isCode, c.before args0 about1 = true := by
  rw [codes_eq]
  intro c hc
  simp only [codes1, List.mem_cons, List.not_mem_nil, or_false] at hc
  rcases hc with rfl | rfl | rfl | rfl | rfl | rfl | rfl | rfl | rfl | rfl | rfl | rfl | rfl | rfl | rfl | rfl
  · exact w_c0
  · exact w_c1
  · exact w_c2
  · exact w_c3
  · exact w_c4
  · exact w_c5
  · exact w_c6
  · exact w_c7
  · exact w_c8
  · exact w_c9
  · exact w_c10
  · exact w_c11
  · exact w_c12
  · exact w_c13
  · exact w_c14
  · exact w_c15
set_option maxRecDepth 65536 in
theorem w_t1 : (words1.take 24).all (fun c => isCode c || c.before args0 about1) = true := by decide +kernel
set_option maxRecDepth 65536 in
theorem w_t2 : ((words1.drop 24).take 24).all (fun c => isCode c || c.before args0 about1) = true := by decide +kernel
set_option maxRecDepth 65536 in
theorem w_t3 : (((words1.drop 24).drop 24).take 24).all (fun c => isCode c || c.before args0 about1) = true := by decide +kernel
set_option maxRecDepth 65536 in
theorem w_t4 : (((words1.drop 24).drop 24).drop 24).all (fun c => isCode c || c.before args0 about1) = true := by decide +kernel
theorem w_tables : (allAtoms (Jvm.Cond.code x code maxLocals ret :: tables_1)).before args0 about1 = true := by
  rw [allAtoms_all]
  show words1.all (fun c => c.before args0 about1) = true
  refine all_split ?_ w_codes
  rw [← List.take_append_drop 24 words1, List.all_append, w_t1, ← List.take_append_drop 24 (words1.drop 24), List.all_append, w_t2, ← List.take_append_drop 24 ((words1.drop 24).drop 24), List.all_append, w_t3, w_t4]
  rfl
set_option maxRecDepth 65536 in
theorem w_rest : rest_1_c.before args0 about1 = true := by decide +kernel
set_option maxRecDepth 65536 in
theorem w_case : (Jvm.Cond.and given_1 narrow_1).before args0 about1 = true := by decide +kernel
set_option maxRecDepth 65536 in
theorem w_consts : constsHeld consts_1 about1 := Jvm.Lit.constsHeldB_iff.mp (by decide +kernel)
theorem w_applies : (headSpec (Jvm.Cond.code x code maxLocals ret :: tables_1) room_1).applies x e0.platform about1 = true :=
  (Spec.applies_iff w_frames).mpr ⟨w_running, w_runnable, w_alone, w_named, w_hears, w_ripe, w_room, w_tables⟩
theorem atStart : AtStart classFile x code maxLocals ret World_1 tables_1 room_1 Calls_1 rest_1 Pre_1 launch0 p0 e0 about1 theMethod args0 below0 :=
  ⟨lists_1, trivial, launch0.admits_env _ _ _, launch0.least_env, fairChoices_fair.cas, fairChoices_fair.clock, w_frames, w_args, w_heap, w_applies, ⟨w_consts, trivial⟩, w_rest, w_case⟩
end start1
theorem witness_1 : WitnessClaimed_1 := ⟨start1.p0, start1.e0, start1.about1, start1.theMethod, start1.args0, start1.below0, start1.atStart⟩
end Jvm.Pilot.@@N@@
