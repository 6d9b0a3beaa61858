import JvmDerived
import JvmDerived.Pilot.@@N@@Statement
import JvmDerived.Pilot.@@N@@Code
set_option linter.unusedVariables false
set_option linter.unusedSimpArgs false
@@BLOCK:NumsL.lean.txt@@
namespace Jvm.RoadKit
open Sem ClassFile Op Lib Jvm.Stand Jvm.Free Jvm.LawKit
section New
variable {p : Program} {l : Launch} {e : Env} {R : Room} {s : State} {m : MethodId} {args : Array Value} {below : List Frame} {meth : Method} {c : Code} {T : State} {locs : List Loc} {cells slots : Nat}
theorem retI (X : Stand p l e R s m args below meth c T locs cells slots) (hx : p.tables.exec = Jvm.exec) {pc : Nat} {Ls : Array Slot} {z : Int32} {rest : List Value} (hret : meth.sig.returnType = some .int) (hd : decode c.code pc = .ok (.ireturn, 1)) {fs : List Frame}
    (hl : ∀ (f : JFrame) (acts : List Action), f.method = m → f.locked = none → f.entered = [] → (doReturn e (T.setTop f) acts (some (.int z))).1 = T.setFrames fs) : Steps p.tables e below (T.setTop (mkF m pc Ls (.int z :: rest))) (T.setFrames fs) := by
  have hm' : T.vm.method? m = some meth := X.method'
  have hn : narrow .int (.int z) = .int z := rfl
  show Steps p.tables e below (T.setTop { method := m, pc := pc, locals := Ls, stack := _ :: rest, locked := none }) _
  jvm_step X.here [X.here.top, hx, hd, hm', hret, hn]
  first | (intro acts; rw [hl _ acts rfl rfl rfl]) | rw [hl _ _ rfl rfl rfl]
  exact Steps.refl _
theorem retD (X : Stand p l e R s m args below meth c T locs cells slots) (hx : p.tables.exec = Jvm.exec) {pc : Nat} {Ls : Array Slot} {z : UInt64} {rest : List Value} (hret : meth.sig.returnType = some .double) (hd : decode c.code pc = .ok (.dreturn, 1)) {fs : List Frame}
    (hl : ∀ (f : JFrame) (acts : List Action), f.method = m → f.locked = none → f.entered = [] → (doReturn e (T.setTop f) acts (some (.double z))).1 = T.setFrames fs) : Steps p.tables e below (T.setTop (mkF m pc Ls (.double z :: rest))) (T.setFrames fs) := by
  have hm' : T.vm.method? m = some meth := X.method'
  show Steps p.tables e below (T.setTop { method := m, pc := pc, locals := Ls, stack := _ :: rest, locked := none }) _
  jvm_step X.here [X.here.top, hx, hd, hm', hret]
  first | (intro acts; rw [hl _ acts rfl rfl rfl]) | rw [hl _ _ rfl rfl rfl]
  exact Steps.refl _
end New
end Jvm.RoadKit
namespace Jvm.Pilot.@@N@@
open Jvm Jvm.ClassFile Sem Op Lib Jvm.Free Jvm.Stand Jvm.LawKit Jvm.RoadKit Bundle Jvm.Pilot.@@N@@.Jvm.D
theorem jtlt {x y : Int64} (h : x < y) : ifCond.holds .lt (lcmpW x y) = true ∧ ifCond.holds .ge (lcmpW x y) = false ∧ ifCond.holds .gt (lcmpW y x) = true ∧ ifCond.holds .le (lcmpW y x) = false := by
  have h1 : ¬ y < x := by rw [Int64.lt_iff_toInt_lt] at h ⊢; omega
  have h2 : ¬ x = y := by rintro rfl; exact h1 h
  have h3 : ¬ y = x := fun q => h2 q.symm
  simp [ifCond.holds, lcmpW, h, h1, h2, h3]
theorem jflt {x y : Int64} (h : ¬ x < y) : ifCond.holds .lt (lcmpW x y) = false ∧ ifCond.holds .ge (lcmpW x y) = true ∧ ifCond.holds .gt (lcmpW y x) = false ∧ ifCond.holds .le (lcmpW y x) = true := by
  by_cases h2 : x = y
  · subst h2; simp [ifCond.holds, lcmpW, h]
  · have h1 : y < x := by rw [Int64.lt_iff_toInt_lt] at h ⊢; rw [← Int64.toInt_inj] at h2; omega
    have h3 : ¬ y = x := fun q => h2 q.symm
    simp [ifCond.holds, lcmpW, h, h1, h2, h3]
theorem jteq {x y : Int64} (h : x = y) : ifCond.holds .eq (lcmpW x y) = true ∧ ifCond.holds .ne (lcmpW x y) = false := by
  subst h
  have h1 : ¬ x < x := by rw [Int64.lt_iff_toInt_lt]; omega
  simp [ifCond.holds, lcmpW, h1]
theorem jfeq {x y : Int64} (h : ¬ x = y) : ifCond.holds .eq (lcmpW x y) = false ∧ ifCond.holds .ne (lcmpW x y) = true := by
  by_cases h1 : y < x <;> simp [ifCond.holds, lcmpW, h, h1]
theorem own_sta_keep {Z : State} {h h' : Heap} {C n d : String} {v : Value} {ws : List Addr} (F : Sta Z h C n d v) (K : Keep h h' ws) (q : ∀ x ∈ ws, ∃ c : Cell, h[x]? = some c ∧ c.vm.isStatics = false) : Sta Z h' C n d v := by
  obtain ⟨cf, i, k, f, st, cell, h1, h2, h3, h4, h5, h6, h7⟩ := F
  refine ⟨cf, i, k, f, st, cell, h1, h2, h3, h4, K.2.1 st cell h5 (fun hm => ?_), h6, h7⟩
  obtain ⟨c, e1, e2⟩ := q st hm
  rw [h5] at e1; cases e1; rw [h6] at e2; cases e2
theorem own_nostat {Z : State} {h : Heap} {a : Addr} {C : String} (E : Exa Z h a C) : ∃ c : Cell, h[a]? = some c ∧ c.vm.isStatics = false := by
  obtain ⟨cell, k, h1, -, -, h4, -⟩ := E
  exact ⟨cell, h1, h4⟩

theorem own_mr (a m : Int32) (h : 1 ≤ m.toInt) : 0 ≤ ((a &&& (2147483647 : Int32)) - ((a &&& (2147483647 : Int32)) / m) * m).toInt ∧ ((a &&& (2147483647 : Int32)) - ((a &&& (2147483647 : Int32)) / m) * m).toInt < m.toInt := by
  have mk := Jvm.Kit.i32_mask a (2147483647 : Int32) (k := 31) (by decide) (by decide)
  have nn : 0 ≤ (a &&& (2147483647 : Int32)).toInt := by rw [mk]; omega
  rw [Jvm.LawKit.rem_toInt, Int.tmod_eq_emod_of_nonneg nn]
  exact ⟨Int.emod_nonneg _ (by omega), Int.emod_lt_of_pos _ (by omega)⟩
theorem own_1mr (a m : Int32) (h : 1 ≤ m.toInt) : 1 ≤ ((1 : Int32) + ((a &&& (2147483647 : Int32)) - ((a &&& (2147483647 : Int32)) / m) * m)).toInt ∧ ((1 : Int32) + ((a &&& (2147483647 : Int32)) - ((a &&& (2147483647 : Int32)) / m) * m)).toInt ≤ m.toInt := by
  have q := own_mr a m h
  have b := m.toInt_lt
  have e1 : (1 : Int32).toInt = 1 := by decide
  rw [Jvm.Kit.i32_add (by rw [e1]; omega) (by rw [e1]; omega), e1]
  omega
theorem own_nz {x : Int32} (h : 1 ≤ x.toInt) : ¬ (x = (0 : Int32)) := by
  rintro rfl
  exact absurd h (by decide)
theorem own_div (l : Int32) (h : 1 ≤ l.toInt) : ((2147483647 : Int32) / l).toInt = 2147483647 / l.toInt ∧ 1 ≤ ((2147483647 : Int32) / l).toInt := by
  have b := l.toInt_lt
  have e1 : (2147483647 : Int32).toInt = 2147483647 := by decide
  have e2 : ((2147483647 : Int32) / l).toInt = 2147483647 / l.toInt := by
    rw [Jvm.Kit.i32_div (by rw [e1]; omega), e1, Int.tdiv_eq_ediv_of_nonneg (by omega)]
  rw [e2]
  exact ⟨rfl, (Int.le_ediv_iff_mul_le (by omega)).mpr (by omega)⟩
theorem own_bound {l rows row e : Int} (hl : 1 ≤ l) (hr : rows ≤ 2147483647 / l) (h0 : 0 ≤ row) (h1 : row < rows) (he0 : 0 ≤ e) (he : e < l) : 0 ≤ row * l ∧ row * l + e ≤ 2147483647 ∧ rows * l ≤ 2147483647 ∧ 0 ≤ rows * l := by
  have a : rows * l ≤ (2147483647 / l) * l := Int.mul_le_mul_of_nonneg_right hr (by omega)
  have b : (2147483647 / l) * l ≤ 2147483647 := Int.ediv_mul_le _ (by omega)
  have c : (row + 1) * l ≤ rows * l := Int.mul_le_mul_of_nonneg_right (by omega) (by omega)
  have d : (row + 1) * l = row * l + l := by rw [Int.add_mul, Int.one_mul]
  have e0 : 0 ≤ row * l := Int.mul_nonneg h0 (by omega)
  omega
theorem own_blk (l rows row e : Int32) (hl : 1 ≤ l.toInt) (hr : rows.toInt ≤ 2147483647 / l.toInt) (h0 : 0 ≤ row.toInt) (h1 : row.toInt < rows.toInt) (he0 : 0 ≤ e.toInt) (he : e.toInt < l.toInt) :
    0 ≤ ((row * l) + e).toInt ∧ ((row.toInt64 * l.toInt64) + e.toInt64).toInt = ((row * l) + e).toInt ∧ (((((row * l) + e).toUInt32 >>> ((11 : Int32) &&& 31).toUInt32).toInt32)).toInt = ((row * l) + e).toInt / 2048 ∧ (rows.toInt64 * l.toInt64).toInt ≤ 2147483647 := by
  have B := own_bound hl hr h0 h1 he0 he
  have e1 : (row * l).toInt = row.toInt * l.toInt := Jvm.Kit.i32_mul (by omega) (by omega)
  have e2 : ((row * l) + e).toInt = row.toInt * l.toInt + e.toInt := by rw [Jvm.Kit.i32_add (by rw [e1]; omega) (by rw [e1]; omega), e1]
  have n2 : 0 ≤ ((row * l) + e).toInt := by rw [e2]; omega
  have f1 : (row.toInt64 * l.toInt64).toInt = row.toInt * l.toInt := by
    rw [Jvm.Kit.i64_mul (by rw [Jvm.Kit.i64_of_i32, Jvm.Kit.i64_of_i32]; omega) (by rw [Jvm.Kit.i64_of_i32, Jvm.Kit.i64_of_i32]; omega), Jvm.Kit.i64_of_i32, Jvm.Kit.i64_of_i32]
  have f2 : ((row.toInt64 * l.toInt64) + e.toInt64).toInt = row.toInt * l.toInt + e.toInt := by
    rw [Jvm.Kit.i64_add (by rw [f1, Jvm.Kit.i64_of_i32]; omega) (by rw [f1, Jvm.Kit.i64_of_i32]; omega), f1, Jvm.Kit.i64_of_i32]
  have f3 : (rows.toInt64 * l.toInt64).toInt = rows.toInt * l.toInt := by
    rw [Jvm.Kit.i64_mul (by rw [Jvm.Kit.i64_of_i32, Jvm.Kit.i64_of_i32]; omega) (by rw [Jvm.Kit.i64_of_i32, Jvm.Kit.i64_of_i32]; omega), Jvm.Kit.i64_of_i32, Jvm.Kit.i64_of_i32]
  refine ⟨n2, by rw [f2, e2], ?_, by rw [f3]; omega⟩
  rw [Jvm.Kit.i32_iushr (Jvm.Kit.i32_nonneg.mpr n2) (k := 11) (by decide) (by decide)]
  rfl

theorem own_mr1 (a m : Int32) (h : 1 ≤ m.toInt) : 1 ≤ (((a &&& (2147483647 : Int32)) - ((a &&& (2147483647 : Int32)) / m) * m) + (1 : Int32)).toInt ∧ (((a &&& (2147483647 : Int32)) - ((a &&& (2147483647 : Int32)) / m) * m) + (1 : Int32)).toInt ≤ m.toInt := by
  have q := own_mr a m h
  have b := m.toInt_lt
  have e1 : (1 : Int32).toInt = 1 := by decide
  rw [Jvm.Kit.i32_add (by rw [e1]; omega) (by rw [e1]; omega), e1]
  omega
theorem own_pred {x : Int32} (h : 1 ≤ x.toInt) : 0 ≤ (x - (1 : Int32)).toInt ∧ (x - (1 : Int32)).toInt < x.toInt := by
  have b := x.toInt_lt
  have e1 : (1 : Int32).toInt = 1 := by decide
  rw [Jvm.Kit.i32_sub (by rw [e1]; omega) (by rw [e1]; omega), e1]
  omega
theorem own_two {i pl bl : Int32} {flat : Int64} (h0 : 0 ≤ i.toInt) (hf : flat.toInt = i.toInt) (hp : pl = i &&& (2047 : Int32)) (hb : bl.toInt = i.toInt / 2048) :
    pl = ((flat - (flat / (2048 : Int64)) * (2048 : Int64)).toInt32) ∧ ((bl.toInt64) * (2048 : Int64)) + (pl.toInt64) = flat := by
  have ib := i.toInt_lt
  have e1 : (2048 : Int64).toInt = 2048 := by decide
  have p1 : pl.toInt = i.toInt % 2048 := by rw [hp]; exact Jvm.Kit.i32_mask i (2047 : Int32) (k := 11) (by decide) (by decide)
  have r1 : (flat - (flat / (2048 : Int64)) * (2048 : Int64)).toInt = i.toInt % 2048 := by rw [Jvm.Kit.i64_rem_nonneg (by omega), e1, hf]
  have m1 : ((bl.toInt64) * (2048 : Int64)).toInt = bl.toInt * 2048 := by
    rw [Jvm.Kit.i64_mul (by rw [Jvm.Kit.i64_of_i32, e1]; omega) (by rw [Jvm.Kit.i64_of_i32, e1]; omega), Jvm.Kit.i64_of_i32, e1]
  refine ⟨Int32.toInt_inj.mp ?_, Int64.toInt_inj.mp ?_⟩
  · rw [Jvm.Kit.i32_of_i64 (by rw [r1]; omega) (by rw [r1]; omega), r1, p1]
  · rw [Jvm.Kit.i64_add (by rw [m1, Jvm.Kit.i64_of_i32]; omega) (by rw [m1, Jvm.Kit.i64_of_i32]; omega), m1, Jvm.Kit.i64_of_i32]; omega

/-! body 1 -/
theorem d1_0 : decode prog_7_method_1_code 0 = .ok (.aload_n 0, 1) := by decide +kernel
theorem d1_1 : decode prog_7_method_1_code 1 = .ok (.invokespecial 3, 3) := by decide +kernel
theorem d1_4 : decode prog_7_method_1_code 4 = .ok (.iload_n 1, 1) := by decide +kernel
theorem d1_5 : decode prog_7_method_1_code 5 = .ok (.i2l, 1) := by decide +kernel
theorem d1_6 : decode prog_7_method_1_code 6 = .ok (.iload_n 2, 1) := by decide +kernel
theorem d1_7 : decode prog_7_method_1_code 7 = .ok (.i2l, 1) := by decide +kernel
theorem d1_8 : decode prog_7_method_1_code 8 = .ok (.lmul, 1) := by decide +kernel
theorem d1_9 : decode prog_7_method_1_code 9 = .ok (.ldc2_w 11, 3) := by decide +kernel
theorem d1_12 : decode prog_7_method_1_code 12 = .ok (.lcmp, 1) := by decide +kernel
theorem d1_13 : decode prog_7_method_1_code 13 = .ok (.ifCond .le 18, 3) := by decide +kernel
theorem d1_31 : decode prog_7_method_1_code 31 = .ok (.aload_n 0, 1) := by decide +kernel
theorem d1_32 : decode prog_7_method_1_code 32 = .ok (.iload_n 1, 1) := by decide +kernel
theorem d1_33 : decode prog_7_method_1_code 33 = .ok (.putfield 22, 3) := by decide +kernel
theorem d1_36 : decode prog_7_method_1_code 36 = .ok (.aload_n 0, 1) := by decide +kernel
theorem d1_37 : decode prog_7_method_1_code 37 = .ok (.iload_n 2, 1) := by decide +kernel
theorem d1_38 : decode prog_7_method_1_code 38 = .ok (.putfield 26, 3) := by decide +kernel
theorem d1_41 : decode prog_7_method_1_code 41 = .ok (.return_, 1) := by decide +kernel
theorem pn_1 : plainName "com/example/locatree/locatree/median/RowBlocks" = true := by first | (simp [plainName, overriddenIn]; done) | decide +kernel
theorem ef_1 (m : MethodId) (a1 : Addr) (p2 : Int32) (p3 : Int32) : entryFrame m #[(.ref a1), (.int p2), (.int p3)] 3 = mkF m 0 #[.val (.ref a1), .val (.int p2), .val (.int p3)] [] := by first | (simp [entryFrame, mkF, argsToLocals, Value.category]; done) | rfl
def Q1 (Z : State) (a1 : Addr) (p2 : Int32) (p3 : Int32) (h0 : Heap) (n0 : Nat) (v : Option Value) (h : Heap) (L : List Loc) : Prop := v = none ∧ Fr n0 L ∧ Keep h0 h [a1] ∧ Fld Z h a1 "com/example/locatree/locatree/median/RowBlocks" "rows" "I" (.int p2) ∧ Fld Z h a1 "com/example/locatree/locatree/median/RowBlocks" "length" "I" (.int p3) ∧ (True)
set_option maxRecDepth 65536 in
set_option maxHeartbeats 40000000 in
theorem rm1 (l : Launch) (Z : State) (a0 : Array Value) (hw : ∀ d ∈ tables_1, d.before a0 Z = true) (ws : List Jvm.Cond) (a1 : Addr) (p2 : Int32) (p3 : Int32) (h0 : Heap) (n0 : Nat) (Z0 : n0 ≤ h0.size) (E_a1 : Exa Z h0 a1 "com/example/locatree/locatree/median/RowBlocks") (F_rows_a1 : Fld Z h0 a1 "com/example/locatree/locatree/median/RowBlocks" "rows" "I" (.int (0 : Int32))) (F_length_a1 : Fld Z h0 a1 "com/example/locatree/locatree/median/RowBlocks" "length" "I" (.int (0 : Int32))) (g_a1 : n0 ≤ a1) (hle : ¬ ((2147483647 : Int64) < ((p2.toInt64) * (p3.toInt64)))) :
    MetFree l (⟨"com/example/locatree/locatree/median/RowBlocks", "<init>", "(II)V"⟩ : MethodName) (head1 (Jvm.Cond.code (⟨"com/example/locatree/locatree/median/RowBlocks", "<init>", "(II)V"⟩ : MethodName) prog_7_method_1_code 3 none :: ws) ({ frames := 1, cells := 0, slots := 0, locals := 12 } : Room)) (fun a U => a = #[(.ref a1), (.int p2), (.int p3)] ∧ Z.Warmed39 U.vm ∧ U.heap = h0) (fun _ _ _ _ _ => True) (fun _ U o U' => ∃ v L, o = .returned v ∧ Q1 Z a1 p2 p3 h0 n0 v U'.heap L ∧ FrameEnd U o U' L ({ frames := 1, cells := 0, slots := 0, locals := 12 } : Room).cells ({ frames := 1, cells := 0, slots := 0, locals := 12 } : Room).slots) := by
  refine MetFree.of_bodySF (plainFor_of_name pn_1) hisR ?_
  intro p e s m args below meth c s₁ Bd hml0 hP hK
  obtain ⟨rfl, hZ, hh⟩ := hP
  have hx := Bd.exec
  have hby := Bd.bytes
  have hml : c.maxLocals = 3 := hml0
  have hown : s.vm.findClass "com/example/locatree/locatree/median/RowBlocks" = some m.cls := findClass_of_methodNamed Bd.named
  have hnm := (name_of_methodNamed Bd.named Bd.method).1
  have X0 : Stand p l e ({ frames := 1, cells := 0, slots := 0, locals := 12 } : Room) s m #[(.ref a1), (.int p2), (.int p3)] below meth c s₁ [] 0 0 := Stand.of_body Bd
  have e0 : s₁.heap = h0 := by rw [← hh, Bd.state]; rfl
  have N0 := Fr.nil n0
  have pre0 : ∀ t, Steps p.tables e below (s₁.setTop (mkF m 0 #[.val (.ref a1), .val (.int p2), .val (.int p3)] [])) t → Steps p.tables e below (s₁.setTop (entryFrame m #[(.ref a1), (.int p2), (.int p3)] 3)) t := fun t k => castTop (ef_1 m a1 p2 p3) k
  have pre1 : ∀ t, Steps p.tables e below (s₁.setTop (mkF m 1 #[.val (.ref a1), .val (.int p2), .val (.int p3)] [(.ref a1)])) t → Steps p.tables e below (s₁.setTop (entryFrame m #[(.ref a1), (.int p2), (.int p3)] 3)) t := by
    refine fun t k => pre0 t ?_
    show Steps p.tables e below (s₁.setTop (mkF m 0 #[.val (.ref a1), .val (.int p2), .val (.int p3)] [])) _
    refine XS.aloadN X0.here hx rfl (hb hby d1_0) rfl rfl ?_
    exact k
  obtain ⟨T2, X2, e2, st2⟩ := initO X0 hx hZ hown (hw _ (List.mem_of_getElem? (i := 7) rfl)) (hw _ (List.mem_of_getElem? (i := 8) rfl)) (hw _ (List.mem_of_getElem? (i := 9) rfl)) e0 (g := (mkF m 1 #[.val (.ref a1), .val (.int p2), .val (.int p3)] [(.ref a1)])) rfl (by rw [hml]; rfl) rfl (hb hby d1_1) (by decide) (W := 0) (by show 2 * 0 + _ ≤ _; exact Nat.le_of_eq rfl) (by decide)
  have pre3 : ∀ t, Steps p.tables e below (T2.setTop (mkF m 4 #[.val (.ref a1), .val (.int p2), .val (.int p3)] [])) t → Steps p.tables e below (s₁.setTop (entryFrame m #[(.ref a1), (.int p2), (.int p3)] 3)) t := fun t k => pre1 t (st2 _ k)
  have hc13 : ¬ ((2147483647 : Int64) < ((p2.toInt64) * (p3.toInt64))) := by exact hle
  have pre4 : ∀ t, Steps p.tables e below (T2.setTop (mkF m 31 #[.val (.ref a1), .val (.int p2), .val (.int p3)] [])) t → Steps p.tables e below (s₁.setTop (entryFrame m #[(.ref a1), (.int p2), (.int p3)] 3)) t := by
    refine fun t k => pre3 t ?_
    show Steps p.tables e below (T2.setTop (mkF m 4 #[.val (.ref a1), .val (.int p2), .val (.int p3)] [])) _
    refine XS.iloadN X2.here hx rfl (hb hby d1_4) rfl ?_
    show Steps p.tables e below (T2.setTop (mkF m 5 #[.val (.ref a1), .val (.int p2), .val (.int p3)] [(.int p2)])) _
    refine XS.i2l X2.here hx rfl (hb hby d1_5) rfl ?_
    show Steps p.tables e below (T2.setTop (mkF m 6 #[.val (.ref a1), .val (.int p2), .val (.int p3)] [(.long (p2.toInt64))])) _
    refine XS.iloadN X2.here hx rfl (hb hby d1_6) rfl ?_
    show Steps p.tables e below (T2.setTop (mkF m 7 #[.val (.ref a1), .val (.int p2), .val (.int p3)] [(.int p3), (.long (p2.toInt64))])) _
    refine XS.i2l X2.here hx rfl (hb hby d1_7) rfl ?_
    show Steps p.tables e below (T2.setTop (mkF m 8 #[.val (.ref a1), .val (.int p2), .val (.int p3)] [(.long (p3.toInt64)), (.long (p2.toInt64))])) _
    refine XS.lmul X2.here hx rfl (hb hby d1_8) rfl ?_
    show Steps p.tables e below (T2.setTop (mkF m 9 #[.val (.ref a1), .val (.int p2), .val (.int p3)] [(.long ((p2.toInt64) * (p3.toInt64)))])) _
    refine X2.ldc2Long hx hown (mvT hZ (hw _ (List.mem_of_getElem? (i := 10) rfl))) (g := (mkF m 9 #[.val (.ref a1), .val (.int p2), .val (.int p3)] [(.long ((p2.toInt64) * (p3.toInt64)))])) rfl (hb hby d1_9) _ ?_
    show Steps p.tables e below (T2.setTop (mkF m 12 #[.val (.ref a1), .val (.int p2), .val (.int p3)] [(.long (2147483647 : Int64)), (.long ((p2.toInt64) * (p3.toInt64)))])) _
    refine XS.lcmp X2.here hx rfl (hb hby d1_12) rfl ?_
    show Steps p.tables e below (T2.setTop (mkF m 13 #[.val (.ref a1), .val (.int p2), .val (.int p3)] [(.int (lcmpW ((p2.toInt64) * (p3.toInt64)) (2147483647 : Int64)))])) _
    refine XS.ifYes X2.here hx rfl (pc0 := 13) (pc' := 31) rfl (hb hby d1_13) rfl (jflt hc13).2.2.2 (by decide) (by decide) ?_
    exact k
  have pre5 : ∀ t, Steps p.tables e below (T2.setTop (mkF m 33 #[.val (.ref a1), .val (.int p2), .val (.int p3)] [(.int p2), (.ref a1)])) t → Steps p.tables e below (s₁.setTop (entryFrame m #[(.ref a1), (.int p2), (.int p3)] 3)) t := by
    refine fun t k => pre4 t ?_
    show Steps p.tables e below (T2.setTop (mkF m 31 #[.val (.ref a1), .val (.int p2), .val (.int p3)] [])) _
    refine XS.aloadN X2.here hx rfl (hb hby d1_31) rfl rfl ?_
    show Steps p.tables e below (T2.setTop (mkF m 32 #[.val (.ref a1), .val (.int p2), .val (.int p3)] [(.ref a1)])) _
    refine XS.iloadN X2.here hx rfl (hb hby d1_32) rfl ?_
    exact k
  obtain ⟨T6, h6, X6, e6, W6, st6⟩ := putF X2 hx hZ hown (host := "") (Or.inl (hw _ (List.mem_of_getElem? (i := 11) rfl))) Via.refl e2 F_rows_a1 E_a1 (Or.inr ⟨(hw _ (List.mem_of_getElem? (i := 12) rfl)), rfl, hnm⟩) (hw _ (List.mem_of_getElem? (i := 2) rfl)) (ty := .int) (by decide) rfl rfl (g := (mkF m 33 #[.val (.ref a1), .val (.int p2), .val (.int p3)] [(.int p2), (.ref a1)])) rfl rfl (hb hby d1_33)
  have pre7 : ∀ t, Steps p.tables e below (T6.setTop (mkF m 36 #[.val (.ref a1), .val (.int p2), .val (.int p3)] [])) t → Steps p.tables e below (s₁.setTop (entryFrame m #[(.ref a1), (.int p2), (.int p3)] 3)) t := fun t k => pre5 t (st6 _ k)
  have N6 := Fr.snoc X6 N0 g_a1
  have K6 : Keep h0 h6 [a1] := Keep.wr (Keep.refl h0 [a1]) W6 (Or.inl (List.mem_of_getElem? (i := 0) rfl))
  have f8 := E_a1.wr W6
  have f9 := F_length_a1.other W6 (Or.inr (slot_ne (Or.inr (hw _ (List.mem_of_getElem? (i := 14) rfl))) (Or.inr (hw _ (List.mem_of_getElem? (i := 12) rfl))) (by decide) (t := .int) (t' := .int) (by decide) (by decide)))
  have f10 := F_rows_a1.same W6
  have pre11 : ∀ t, Steps p.tables e below (T6.setTop (mkF m 38 #[.val (.ref a1), .val (.int p2), .val (.int p3)] [(.int p3), (.ref a1)])) t → Steps p.tables e below (s₁.setTop (entryFrame m #[(.ref a1), (.int p2), (.int p3)] 3)) t := by
    refine fun t k => pre7 t ?_
    show Steps p.tables e below (T6.setTop (mkF m 36 #[.val (.ref a1), .val (.int p2), .val (.int p3)] [])) _
    refine XS.aloadN X6.here hx rfl (hb hby d1_36) rfl rfl ?_
    show Steps p.tables e below (T6.setTop (mkF m 37 #[.val (.ref a1), .val (.int p2), .val (.int p3)] [(.ref a1)])) _
    refine XS.iloadN X6.here hx rfl (hb hby d1_37) rfl ?_
    exact k
  obtain ⟨T12, h12, X12, e12, W12, st12⟩ := putF X6 hx hZ hown (host := "") (Or.inl (hw _ (List.mem_of_getElem? (i := 13) rfl))) Via.refl e6 f9 f8 (Or.inr ⟨(hw _ (List.mem_of_getElem? (i := 14) rfl)), rfl, hnm⟩) (hw _ (List.mem_of_getElem? (i := 2) rfl)) (ty := .int) (by decide) rfl rfl (g := (mkF m 38 #[.val (.ref a1), .val (.int p2), .val (.int p3)] [(.int p3), (.ref a1)])) rfl rfl (hb hby d1_38)
  have pre13 : ∀ t, Steps p.tables e below (T12.setTop (mkF m 41 #[.val (.ref a1), .val (.int p2), .val (.int p3)] [])) t → Steps p.tables e below (s₁.setTop (entryFrame m #[(.ref a1), (.int p2), (.int p3)] 3)) t := fun t k => pre11 t (st12 _ k)
  have N12 := Fr.snoc X12 N6 g_a1
  have K12 : Keep h0 h12 [a1] := Keep.wr K6 W12 (Or.inl (List.mem_of_getElem? (i := 0) rfl))
  have f14 := f8.wr W12
  have f15 := f10.other W12 (Or.inr (slot_ne (Or.inr (hw _ (List.mem_of_getElem? (i := 12) rfl))) (Or.inr (hw _ (List.mem_of_getElem? (i := 14) rfl))) (by decide) (t := .int) (t' := .int) (by decide) (by decide)))
  have f16 := f9.same W12
  obtain ⟨fs, hr, hrun, hended, hW, hsame⟩ := X12.leave (v := none) (fun _ => rfl)
  refine ⟨_, _, pre13 _ ?_, hrun, hended, _, _, rfl, ?_, ⟨_, rfl⟩, hW, hsame.mono (by decide) (by decide)⟩
  · skip
    show Steps p.tables e below (T12.setTop (mkF m 41 #[.val (.ref a1), .val (.int p2), .val (.int p3)] [])) _
    exact X12.returnOut hx Bd.returns (hb hby d1_41) hr
  · show Q1 Z a1 p2 p3 h0 n0 _ T12.heap _
    rw [e12]
    refine ⟨rfl, N12, K12, f15, f16, ?_⟩
    trivial
/-! body 3 -/
theorem d3_0 : decode prog_7_method_3_code 0 = .ok (.iload_n 1, 1) := by decide +kernel
theorem d3_1 : decode prog_7_method_3_code 1 = .ok (.aload_n 0, 1) := by decide +kernel
theorem d3_2 : decode prog_7_method_3_code 2 = .ok (.getfield 26, 3) := by decide +kernel
theorem d3_5 : decode prog_7_method_3_code 5 = .ok (.imul, 1) := by decide +kernel
theorem d3_6 : decode prog_7_method_3_code 6 = .ok (.iload_n 2, 1) := by decide +kernel
theorem d3_7 : decode prog_7_method_3_code 7 = .ok (.iadd, 1) := by decide +kernel
theorem d3_8 : decode prog_7_method_3_code 8 = .ok (.sipush 2047, 3) := by decide +kernel
theorem d3_11 : decode prog_7_method_3_code 11 = .ok (.iand, 1) := by decide +kernel
theorem d3_12 : decode prog_7_method_3_code 12 = .ok (.ireturn, 1) := by decide +kernel
theorem pn_3 : plainName "com/example/locatree/locatree/median/RowBlocks" = true := by first | (simp [plainName, overriddenIn]; done) | decide +kernel
theorem ef_3 (m : MethodId) (a1 : Addr) (p2 : Int32) (p3 : Int32) : entryFrame m #[(.ref a1), (.int p2), (.int p3)] 3 = mkF m 0 #[.val (.ref a1), .val (.int p2), .val (.int p3)] [] := by first | (simp [entryFrame, mkF, argsToLocals, Value.category]; done) | rfl
def Q3 (Z : State) (a1 : Addr) (p2 : Int32) (p3 : Int32) (w1 : Int32) (h0 : Heap) (n0 : Nat) (v : Option Value) (h : Heap) (L : List Loc) : Prop := ∃ r : Int32, v = some (.int r) ∧ Fr n0 L ∧ h = h0 ∧ (r = (((p2 * w1) + p3) &&& (2047 : Int32)))
set_option maxRecDepth 65536 in
set_option maxHeartbeats 40000000 in
theorem rm3 (l : Launch) (Z : State) (a0 : Array Value) (hw : ∀ d ∈ tables_1, d.before a0 Z = true) (ws : List Jvm.Cond) (a1 : Addr) (p2 : Int32) (p3 : Int32) (w1 : Int32) (h0 : Heap) (n0 : Nat) (Z0 : n0 ≤ h0.size) (F_length_a1 : Fld Z h0 a1 "com/example/locatree/locatree/median/RowBlocks" "length" "I" (.int w1)) :
    MetFree l (⟨"com/example/locatree/locatree/median/RowBlocks", "place", "(II)I"⟩ : MethodName) (head1 (Jvm.Cond.code (⟨"com/example/locatree/locatree/median/RowBlocks", "place", "(II)I"⟩ : MethodName) prog_7_method_3_code 3 (some .int) :: ws) ({ frames := 0, cells := 0, slots := 0, locals := 0 } : Room)) (fun a U => a = #[(.ref a1), (.int p2), (.int p3)] ∧ Z.Warmed39 U.vm ∧ U.heap = h0) (fun _ _ _ _ _ => True) (fun _ U o U' => ∃ v L, o = .returned v ∧ Q3 Z a1 p2 p3 w1 h0 n0 v U'.heap L ∧ FrameEnd U o U' L ({ frames := 0, cells := 0, slots := 0, locals := 0 } : Room).cells ({ frames := 0, cells := 0, slots := 0, locals := 0 } : Room).slots) := by
  refine MetFree.of_bodySF (plainFor_of_name pn_3) hisR ?_
  intro p e s m args below meth c s₁ Bd hml0 hP hK
  obtain ⟨rfl, hZ, hh⟩ := hP
  have hx := Bd.exec
  have hby := Bd.bytes
  have hml : c.maxLocals = 3 := hml0
  have hown : s.vm.findClass "com/example/locatree/locatree/median/RowBlocks" = some m.cls := findClass_of_methodNamed Bd.named
  have hnm := (name_of_methodNamed Bd.named Bd.method).1
  have X0 : Stand p l e ({ frames := 0, cells := 0, slots := 0, locals := 0 } : Room) s m #[(.ref a1), (.int p2), (.int p3)] below meth c s₁ [] 0 0 := Stand.of_body Bd
  have e0 : s₁.heap = h0 := by rw [← hh, Bd.state]; rfl
  have N0 := Fr.nil n0
  have pre0 : ∀ t, Steps p.tables e below (s₁.setTop (mkF m 0 #[.val (.ref a1), .val (.int p2), .val (.int p3)] [])) t → Steps p.tables e below (s₁.setTop (entryFrame m #[(.ref a1), (.int p2), (.int p3)] 3)) t := fun t k => castTop (ef_3 m a1 p2 p3) k
  have pre1 : ∀ t, Steps p.tables e below (s₁.setTop (mkF m 2 #[.val (.ref a1), .val (.int p2), .val (.int p3)] [(.ref a1), (.int p2)])) t → Steps p.tables e below (s₁.setTop (entryFrame m #[(.ref a1), (.int p2), (.int p3)] 3)) t := by
    refine fun t k => pre0 t ?_
    show Steps p.tables e below (s₁.setTop (mkF m 0 #[.val (.ref a1), .val (.int p2), .val (.int p3)] [])) _
    refine XS.iloadN X0.here hx rfl (hb hby d3_0) rfl ?_
    show Steps p.tables e below (s₁.setTop (mkF m 1 #[.val (.ref a1), .val (.int p2), .val (.int p3)] [(.int p2)])) _
    refine XS.aloadN X0.here hx rfl (hb hby d3_1) rfl rfl ?_
    exact k
  obtain ⟨T2, X2, e2, st2⟩ := getF X0 hx hZ hown (host := "") (Or.inl (hw _ (List.mem_of_getElem? (i := 13) rfl))) Via.refl e0 F_length_a1 (g := (mkF m 2 #[.val (.ref a1), .val (.int p2), .val (.int p3)] [(.ref a1), (.int p2)])) rfl rfl (hb hby d3_2)
  have pre3 : ∀ t, Steps p.tables e below (T2.setTop (mkF m 5 #[.val (.ref a1), .val (.int p2), .val (.int p3)] [(.int w1), (.int p2)])) t → Steps p.tables e below (s₁.setTop (entryFrame m #[(.ref a1), (.int p2), (.int p3)] 3)) t := fun t k => pre1 t (st2 _ k)
  obtain ⟨fs, hr, hrun, hended, hW, hsame⟩ := X2.leave (v := some (.int (((p2 * w1) + p3) &&& (2047 : Int32)))) (fun h => by rw [Bd.returns] at h; cases h)
  refine ⟨_, _, pre3 _ ?_, hrun, hended, _, _, rfl, ?_, ⟨_, rfl⟩, hW, hsame.mono (by decide) (by decide)⟩
  · skip
    show Steps p.tables e below (T2.setTop (mkF m 5 #[.val (.ref a1), .val (.int p2), .val (.int p3)] [(.int w1), (.int p2)])) _
    refine XS.imul X2.here hx rfl (hb hby d3_5) rfl ?_
    show Steps p.tables e below (T2.setTop (mkF m 6 #[.val (.ref a1), .val (.int p2), .val (.int p3)] [(.int (p2 * w1))])) _
    refine XS.iloadN X2.here hx rfl (hb hby d3_6) rfl ?_
    show Steps p.tables e below (T2.setTop (mkF m 7 #[.val (.ref a1), .val (.int p2), .val (.int p3)] [(.int p3), (.int (p2 * w1))])) _
    refine XS.iadd X2.here hx rfl (hb hby d3_7) rfl ?_
    show Steps p.tables e below (T2.setTop (mkF m 8 #[.val (.ref a1), .val (.int p2), .val (.int p3)] [(.int ((p2 * w1) + p3))])) _
    refine XS.sipush X2.here hx rfl (hb hby d3_8) ?_
    show Steps p.tables e below (T2.setTop (mkF m 11 #[.val (.ref a1), .val (.int p2), .val (.int p3)] [(.int (2047 : Int32)), (.int ((p2 * w1) + p3))])) _
    refine XS.iand X2.here hx rfl (hb hby d3_11) rfl ?_
    show Steps p.tables e below (T2.setTop (mkF m 12 #[.val (.ref a1), .val (.int p2), .val (.int p3)] [(.int (((p2 * w1) + p3) &&& (2047 : Int32)))])) _
    exact retI X2 hx Bd.returns (hb hby d3_12) hr
  · show Q3 Z a1 p2 p3 w1 h0 n0 _ T2.heap _
    rw [e2]
    exact ⟨(((p2 * w1) + p3) &&& (2047 : Int32)), rfl, N0, rfl, rfl⟩
/-! body 4 -/
theorem d4_0 : decode prog_7_method_2_code 0 = .ok (.iload_n 1, 1) := by decide +kernel
theorem d4_1 : decode prog_7_method_2_code 1 = .ok (.aload_n 0, 1) := by decide +kernel
theorem d4_2 : decode prog_7_method_2_code 2 = .ok (.getfield 26, 3) := by decide +kernel
theorem d4_5 : decode prog_7_method_2_code 5 = .ok (.imul, 1) := by decide +kernel
theorem d4_6 : decode prog_7_method_2_code 6 = .ok (.iload_n 2, 1) := by decide +kernel
theorem d4_7 : decode prog_7_method_2_code 7 = .ok (.iadd, 1) := by decide +kernel
theorem d4_8 : decode prog_7_method_2_code 8 = .ok (.bipush 11, 2) := by decide +kernel
theorem d4_10 : decode prog_7_method_2_code 10 = .ok (.iushr, 1) := by decide +kernel
theorem d4_11 : decode prog_7_method_2_code 11 = .ok (.ireturn, 1) := by decide +kernel
theorem pn_4 : plainName "com/example/locatree/locatree/median/RowBlocks" = true := by first | (simp [plainName, overriddenIn]; done) | decide +kernel
theorem ef_4 (m : MethodId) (a1 : Addr) (p2 : Int32) (p3 : Int32) : entryFrame m #[(.ref a1), (.int p2), (.int p3)] 3 = mkF m 0 #[.val (.ref a1), .val (.int p2), .val (.int p3)] [] := by first | (simp [entryFrame, mkF, argsToLocals, Value.category]; done) | rfl
def Q4 (Z : State) (a1 : Addr) (p2 : Int32) (p3 : Int32) (w1 : Int32) (h0 : Heap) (n0 : Nat) (v : Option Value) (h : Heap) (L : List Loc) : Prop := ∃ r : Int32, v = some (.int r) ∧ Fr n0 L ∧ h = h0 ∧ (r = ((((p2 * w1) + p3).toUInt32 >>> ((11 : Int32) &&& 31).toUInt32).toInt32))
set_option maxRecDepth 65536 in
set_option maxHeartbeats 40000000 in
theorem rm4 (l : Launch) (Z : State) (a0 : Array Value) (hw : ∀ d ∈ tables_1, d.before a0 Z = true) (ws : List Jvm.Cond) (a1 : Addr) (p2 : Int32) (p3 : Int32) (w1 : Int32) (h0 : Heap) (n0 : Nat) (Z0 : n0 ≤ h0.size) (F_length_a1 : Fld Z h0 a1 "com/example/locatree/locatree/median/RowBlocks" "length" "I" (.int w1)) :
    MetFree l (⟨"com/example/locatree/locatree/median/RowBlocks", "block", "(II)I"⟩ : MethodName) (head1 (Jvm.Cond.code (⟨"com/example/locatree/locatree/median/RowBlocks", "block", "(II)I"⟩ : MethodName) prog_7_method_2_code 3 (some .int) :: ws) ({ frames := 0, cells := 0, slots := 0, locals := 0 } : Room)) (fun a U => a = #[(.ref a1), (.int p2), (.int p3)] ∧ Z.Warmed39 U.vm ∧ U.heap = h0) (fun _ _ _ _ _ => True) (fun _ U o U' => ∃ v L, o = .returned v ∧ Q4 Z a1 p2 p3 w1 h0 n0 v U'.heap L ∧ FrameEnd U o U' L ({ frames := 0, cells := 0, slots := 0, locals := 0 } : Room).cells ({ frames := 0, cells := 0, slots := 0, locals := 0 } : Room).slots) := by
  refine MetFree.of_bodySF (plainFor_of_name pn_4) hisR ?_
  intro p e s m args below meth c s₁ Bd hml0 hP hK
  obtain ⟨rfl, hZ, hh⟩ := hP
  have hx := Bd.exec
  have hby := Bd.bytes
  have hml : c.maxLocals = 3 := hml0
  have hown : s.vm.findClass "com/example/locatree/locatree/median/RowBlocks" = some m.cls := findClass_of_methodNamed Bd.named
  have hnm := (name_of_methodNamed Bd.named Bd.method).1
  have X0 : Stand p l e ({ frames := 0, cells := 0, slots := 0, locals := 0 } : Room) s m #[(.ref a1), (.int p2), (.int p3)] below meth c s₁ [] 0 0 := Stand.of_body Bd
  have e0 : s₁.heap = h0 := by rw [← hh, Bd.state]; rfl
  have N0 := Fr.nil n0
  have pre0 : ∀ t, Steps p.tables e below (s₁.setTop (mkF m 0 #[.val (.ref a1), .val (.int p2), .val (.int p3)] [])) t → Steps p.tables e below (s₁.setTop (entryFrame m #[(.ref a1), (.int p2), (.int p3)] 3)) t := fun t k => castTop (ef_4 m a1 p2 p3) k
  have pre1 : ∀ t, Steps p.tables e below (s₁.setTop (mkF m 2 #[.val (.ref a1), .val (.int p2), .val (.int p3)] [(.ref a1), (.int p2)])) t → Steps p.tables e below (s₁.setTop (entryFrame m #[(.ref a1), (.int p2), (.int p3)] 3)) t := by
    refine fun t k => pre0 t ?_
    show Steps p.tables e below (s₁.setTop (mkF m 0 #[.val (.ref a1), .val (.int p2), .val (.int p3)] [])) _
    refine XS.iloadN X0.here hx rfl (hb hby d4_0) rfl ?_
    show Steps p.tables e below (s₁.setTop (mkF m 1 #[.val (.ref a1), .val (.int p2), .val (.int p3)] [(.int p2)])) _
    refine XS.aloadN X0.here hx rfl (hb hby d4_1) rfl rfl ?_
    exact k
  obtain ⟨T2, X2, e2, st2⟩ := getF X0 hx hZ hown (host := "") (Or.inl (hw _ (List.mem_of_getElem? (i := 13) rfl))) Via.refl e0 F_length_a1 (g := (mkF m 2 #[.val (.ref a1), .val (.int p2), .val (.int p3)] [(.ref a1), (.int p2)])) rfl rfl (hb hby d4_2)
  have pre3 : ∀ t, Steps p.tables e below (T2.setTop (mkF m 5 #[.val (.ref a1), .val (.int p2), .val (.int p3)] [(.int w1), (.int p2)])) t → Steps p.tables e below (s₁.setTop (entryFrame m #[(.ref a1), (.int p2), (.int p3)] 3)) t := fun t k => pre1 t (st2 _ k)
  obtain ⟨fs, hr, hrun, hended, hW, hsame⟩ := X2.leave (v := some (.int ((((p2 * w1) + p3).toUInt32 >>> ((11 : Int32) &&& 31).toUInt32).toInt32))) (fun h => by rw [Bd.returns] at h; cases h)
  refine ⟨_, _, pre3 _ ?_, hrun, hended, _, _, rfl, ?_, ⟨_, rfl⟩, hW, hsame.mono (by decide) (by decide)⟩
  · skip
    show Steps p.tables e below (T2.setTop (mkF m 5 #[.val (.ref a1), .val (.int p2), .val (.int p3)] [(.int w1), (.int p2)])) _
    refine XS.imul X2.here hx rfl (hb hby d4_5) rfl ?_
    show Steps p.tables e below (T2.setTop (mkF m 6 #[.val (.ref a1), .val (.int p2), .val (.int p3)] [(.int (p2 * w1))])) _
    refine XS.iloadN X2.here hx rfl (hb hby d4_6) rfl ?_
    show Steps p.tables e below (T2.setTop (mkF m 7 #[.val (.ref a1), .val (.int p2), .val (.int p3)] [(.int p3), (.int (p2 * w1))])) _
    refine XS.iadd X2.here hx rfl (hb hby d4_7) rfl ?_
    show Steps p.tables e below (T2.setTop (mkF m 8 #[.val (.ref a1), .val (.int p2), .val (.int p3)] [(.int ((p2 * w1) + p3))])) _
    refine XS.bipush X2.here hx rfl (hb hby d4_8) ?_
    show Steps p.tables e below (T2.setTop (mkF m 10 #[.val (.ref a1), .val (.int p2), .val (.int p3)] [(.int (11 : Int32)), (.int ((p2 * w1) + p3))])) _
    refine XS.iushr X2.here hx rfl (hb hby d4_10) rfl ?_
    show Steps p.tables e below (T2.setTop (mkF m 11 #[.val (.ref a1), .val (.int p2), .val (.int p3)] [(.int ((((p2 * w1) + p3).toUInt32 >>> ((11 : Int32) &&& 31).toUInt32).toInt32))])) _
    exact retI X2 hx Bd.returns (hb hby d4_11) hr
  · show Q4 Z a1 p2 p3 w1 h0 n0 _ T2.heap _
    rw [e2]
    exact ⟨((((p2 * w1) + p3).toUInt32 >>> ((11 : Int32) &&& 31).toUInt32).toInt32), rfl, N0, rfl, rfl⟩
/-! body 0 -/
theorem pn_0 : plainName "com/example/locatree/locatree/median/RowBlocksPlacePinLaw" = true := by first | (simp [plainName, overriddenIn]; done) | decide +kernel
theorem pd0_0 : parseMethodDescriptor "(II)V" = some ⟨[.int, .int], none⟩ := by decide +kernel
theorem pd0_1 : parseMethodDescriptor "(II)I" = some ⟨[.int, .int], some .int⟩ := by decide +kernel
theorem ef_0 (m : MethodId) (p1 : Int32) (p2 : Int32) (p3 : Int32) (p4 : Int32) (p5 : Int32) : entryFrame m #[(.int p1), (.int p2), (.int p3), (.int p4), (.int p5)] maxLocals = mkF m 0 #[.val (.int p1), .val (.int p2), .val (.int p3), .val (.int p4), .val (.int p5), .unset, .unset, .unset, .unset, .unset, .unset, .unset, .unset, .unset] [] := by first | (simp [entryFrame, mkF, argsToLocals, Value.category, maxLocals]; done) | rfl
def Q0 (Z : State) (p1 : Int32) (p2 : Int32) (p3 : Int32) (p4 : Int32) (p5 : Int32) (h0 : Heap) (n0 : Nat) (v : Option Value) (h : Heap) (L : List Loc) : Prop := v = some (.int 1) ∧ Fr n0 L
set_option maxRecDepth 65536 in
set_option maxHeartbeats 40000000 in
theorem rm0 (l : Launch) (Z : State) (a0 : Array Value) (hw : ∀ d ∈ tables_1, d.before a0 Z = true) (ws : List Jvm.Cond) (p1 : Int32) (p2 : Int32) (p3 : Int32) (p4 : Int32) (p5 : Int32) (h0 : Heap) (n0 : Nat) (Z0 : n0 ≤ h0.size)  :
    MetFree l x (head1 (Jvm.Cond.code x code maxLocals ret :: ws) room_1) (fun a U => a = #[(.int p1), (.int p2), (.int p3), (.int p4), (.int p5)] ∧ Z.Warmed39 U.vm ∧ U.heap = h0) (fun _ _ _ _ _ => True) (fun _ U o U' => ∃ v L, o = .returned v ∧ Q0 Z p1 p2 p3 p4 p5 h0 n0 v U'.heap L ∧ FrameEnd U o U' L room_1.cells room_1.slots) := by
  refine MetFree.of_bodySF (plainFor_of_name pn_0) hisR ?_
  intro p e s m args below meth c s₁ Bd hml0 hP hK
  obtain ⟨rfl, hZ, hh⟩ := hP
  have hx := Bd.exec
  have hby := Bd.bytes
  have hml : c.maxLocals = 14 := hml0
  have hown : s.vm.findClass "com/example/locatree/locatree/median/RowBlocksPlacePinLaw" = some m.cls := findClass_of_methodNamed Bd.named
  have hnm := (name_of_methodNamed Bd.named Bd.method).1
  have X0 : Stand p l e room_1 s m #[(.int p1), (.int p2), (.int p3), (.int p4), (.int p5)] below meth c s₁ [] 0 0 := Stand.of_body Bd
  have e0 : s₁.heap = h0 := by rw [← hh, Bd.state]; rfl
  have N0 := Fr.nil n0
  have pre0 : ∀ t, Steps p.tables e below (s₁.setTop (mkF m 0 #[.val (.int p1), .val (.int p2), .val (.int p3), .val (.int p4), .val (.int p5), .unset, .unset, .unset, .unset, .unset, .unset, .unset, .unset, .unset] [])) t → Steps p.tables e below (s₁.setTop (entryFrame m #[(.int p1), (.int p2), (.int p3), (.int p4), (.int p5)] maxLocals)) t := fun t k => castTop (ef_0 m p1 p2 p3 p4 p5) k
  obtain ⟨v1, hj2, pre2⟩ : ∃ v1 : Int32, (((p5 &&& (1 : Int32)) = (0 : Int32) ∧ v1 = (((p1 &&& (2147483647 : Int32)) - ((p1 &&& (2147483647 : Int32)) / (2147483647 : Int32)) * (2147483647 : Int32)) + (1 : Int32))) ∨ (¬ ((p5 &&& (1 : Int32)) = (0 : Int32)) ∧ v1 = (((p1 &&& (2147483647 : Int32)) - ((p1 &&& (2147483647 : Int32)) / (4096 : Int32)) * (4096 : Int32)) + (1 : Int32)))) ∧ (∀ t, Steps p.tables e below (s₁.setTop (mkF m 33 #[.val (.int p1), .val (.int p2), .val (.int p3), .val (.int p4), .val (.int p5), .val (.int v1), .unset, .unset, .unset, .unset, .unset, .unset, .unset, .unset] [])) t → Steps p.tables e below (s₁.setTop (entryFrame m #[(.int p1), (.int p2), (.int p3), (.int p4), (.int p5)] maxLocals)) t) := by
    by_cases hb0_4 : (p5 &&& (1 : Int32)) = (0 : Int32)
    · skip
      refine ⟨(((p1 &&& (2147483647 : Int32)) - ((p1 &&& (2147483647 : Int32)) / (2147483647 : Int32)) * (2147483647 : Int32)) + (1 : Int32)), Or.inl (⟨hb0_4, rfl⟩), fun t k => pre0 t ?_⟩
      show Steps p.tables e below (s₁.setTop (mkF m 0 #[.val (.int p1), .val (.int p2), .val (.int p3), .val (.int p4), .val (.int p5), .unset, .unset, .unset, .unset, .unset, .unset, .unset, .unset, .unset] [])) _
      refine XS.iload X0.here hx rfl (hb hby at_0) rfl ?_
      show Steps p.tables e below (s₁.setTop (mkF m 2 #[.val (.int p1), .val (.int p2), .val (.int p3), .val (.int p4), .val (.int p5), .unset, .unset, .unset, .unset, .unset, .unset, .unset, .unset, .unset] [(.int p5)])) _
      refine XS.iconst X0.here hx rfl (hb hby at_2) ?_
      show Steps p.tables e below (s₁.setTop (mkF m 3 #[.val (.int p1), .val (.int p2), .val (.int p3), .val (.int p4), .val (.int p5), .unset, .unset, .unset, .unset, .unset, .unset, .unset, .unset, .unset] [(.int (1 : Int32)), (.int p5)])) _
      refine XS.iand X0.here hx rfl (hb hby at_3) rfl ?_
      show Steps p.tables e below (s₁.setTop (mkF m 4 #[.val (.int p1), .val (.int p2), .val (.int p3), .val (.int p4), .val (.int p5), .unset, .unset, .unset, .unset, .unset, .unset, .unset, .unset, .unset] [(.int (p5 &&& (1 : Int32)))])) _
      refine XS.ifYes X0.here hx rfl (pc0 := 4) (pc' := 22) rfl (hb hby at_4) rfl ((if0 _ _).trans (teq hb0_4).1) (by decide) (by decide) ?_
      show Steps p.tables e below (s₁.setTop (mkF m 22 #[.val (.int p1), .val (.int p2), .val (.int p3), .val (.int p4), .val (.int p5), .unset, .unset, .unset, .unset, .unset, .unset, .unset, .unset, .unset] [])) _
      refine XS.iloadN X0.here hx rfl (hb hby at_22) rfl ?_
      show Steps p.tables e below (s₁.setTop (mkF m 23 #[.val (.int p1), .val (.int p2), .val (.int p3), .val (.int p4), .val (.int p5), .unset, .unset, .unset, .unset, .unset, .unset, .unset, .unset, .unset] [(.int p1)])) _
      refine X0.ldcInt hx hown (mvT hZ (hw _ (List.mem_of_getElem? (i := 0) rfl))) (g := (mkF m 23 #[.val (.int p1), .val (.int p2), .val (.int p3), .val (.int p4), .val (.int p5), .unset, .unset, .unset, .unset, .unset, .unset, .unset, .unset, .unset] [(.int p1)])) rfl (hb hby at_23) _ ?_
      show Steps p.tables e below (s₁.setTop (mkF m 25 #[.val (.int p1), .val (.int p2), .val (.int p3), .val (.int p4), .val (.int p5), .unset, .unset, .unset, .unset, .unset, .unset, .unset, .unset, .unset] [(.int (2147483647 : Int32)), (.int p1)])) _
      refine XS.iand X0.here hx rfl (hb hby at_25) rfl ?_
      show Steps p.tables e below (s₁.setTop (mkF m 26 #[.val (.int p1), .val (.int p2), .val (.int p3), .val (.int p4), .val (.int p5), .unset, .unset, .unset, .unset, .unset, .unset, .unset, .unset, .unset] [(.int (p1 &&& (2147483647 : Int32)))])) _
      refine X0.ldcInt hx hown (mvT hZ (hw _ (List.mem_of_getElem? (i := 0) rfl))) (g := (mkF m 26 #[.val (.int p1), .val (.int p2), .val (.int p3), .val (.int p4), .val (.int p5), .unset, .unset, .unset, .unset, .unset, .unset, .unset, .unset, .unset] [(.int (p1 &&& (2147483647 : Int32)))])) rfl (hb hby at_26) _ ?_
      show Steps p.tables e below (s₁.setTop (mkF m 28 #[.val (.int p1), .val (.int p2), .val (.int p3), .val (.int p4), .val (.int p5), .unset, .unset, .unset, .unset, .unset, .unset, .unset, .unset, .unset] [(.int (2147483647 : Int32)), (.int (p1 &&& (2147483647 : Int32)))])) _
      refine XS.irem X0.here hx rfl (hb hby at_28) rfl (by decide) ?_
      show Steps p.tables e below (s₁.setTop (mkF m 29 #[.val (.int p1), .val (.int p2), .val (.int p3), .val (.int p4), .val (.int p5), .unset, .unset, .unset, .unset, .unset, .unset, .unset, .unset, .unset] [(.int ((p1 &&& (2147483647 : Int32)) - ((p1 &&& (2147483647 : Int32)) / (2147483647 : Int32)) * (2147483647 : Int32)))])) _
      refine XS.iconst X0.here hx rfl (hb hby at_29) ?_
      show Steps p.tables e below (s₁.setTop (mkF m 30 #[.val (.int p1), .val (.int p2), .val (.int p3), .val (.int p4), .val (.int p5), .unset, .unset, .unset, .unset, .unset, .unset, .unset, .unset, .unset] [(.int (1 : Int32)), (.int ((p1 &&& (2147483647 : Int32)) - ((p1 &&& (2147483647 : Int32)) / (2147483647 : Int32)) * (2147483647 : Int32)))])) _
      refine XS.iadd X0.here hx rfl (hb hby at_30) rfl ?_
      show Steps p.tables e below (s₁.setTop (mkF m 31 #[.val (.int p1), .val (.int p2), .val (.int p3), .val (.int p4), .val (.int p5), .unset, .unset, .unset, .unset, .unset, .unset, .unset, .unset, .unset] [(.int (((p1 &&& (2147483647 : Int32)) - ((p1 &&& (2147483647 : Int32)) / (2147483647 : Int32)) * (2147483647 : Int32)) + (1 : Int32)))])) _
      refine XS.istore X0.here hx rfl (hb hby at_31) rfl (l' := #[.val (.int p1), .val (.int p2), .val (.int p3), .val (.int p4), .val (.int p5), .val (.int (((p1 &&& (2147483647 : Int32)) - ((p1 &&& (2147483647 : Int32)) / (2147483647 : Int32)) * (2147483647 : Int32)) + (1 : Int32))), .unset, .unset, .unset, .unset, .unset, .unset, .unset, .unset]) rfl ?_
      exact k
    · skip
      refine ⟨(((p1 &&& (2147483647 : Int32)) - ((p1 &&& (2147483647 : Int32)) / (4096 : Int32)) * (4096 : Int32)) + (1 : Int32)), Or.inr (⟨hb0_4, rfl⟩), fun t k => pre0 t ?_⟩
      show Steps p.tables e below (s₁.setTop (mkF m 0 #[.val (.int p1), .val (.int p2), .val (.int p3), .val (.int p4), .val (.int p5), .unset, .unset, .unset, .unset, .unset, .unset, .unset, .unset, .unset] [])) _
      refine XS.iload X0.here hx rfl (hb hby at_0) rfl ?_
      show Steps p.tables e below (s₁.setTop (mkF m 2 #[.val (.int p1), .val (.int p2), .val (.int p3), .val (.int p4), .val (.int p5), .unset, .unset, .unset, .unset, .unset, .unset, .unset, .unset, .unset] [(.int p5)])) _
      refine XS.iconst X0.here hx rfl (hb hby at_2) ?_
      show Steps p.tables e below (s₁.setTop (mkF m 3 #[.val (.int p1), .val (.int p2), .val (.int p3), .val (.int p4), .val (.int p5), .unset, .unset, .unset, .unset, .unset, .unset, .unset, .unset, .unset] [(.int (1 : Int32)), (.int p5)])) _
      refine XS.iand X0.here hx rfl (hb hby at_3) rfl ?_
      show Steps p.tables e below (s₁.setTop (mkF m 4 #[.val (.int p1), .val (.int p2), .val (.int p3), .val (.int p4), .val (.int p5), .unset, .unset, .unset, .unset, .unset, .unset, .unset, .unset, .unset] [(.int (p5 &&& (1 : Int32)))])) _
      refine XS.ifNo X0.here hx rfl (hb hby at_4) rfl ((if0 _ _).trans (feq hb0_4).1) ?_
      show Steps p.tables e below (s₁.setTop (mkF m 7 #[.val (.int p1), .val (.int p2), .val (.int p3), .val (.int p4), .val (.int p5), .unset, .unset, .unset, .unset, .unset, .unset, .unset, .unset, .unset] [])) _
      refine XS.iloadN X0.here hx rfl (hb hby at_7) rfl ?_
      show Steps p.tables e below (s₁.setTop (mkF m 8 #[.val (.int p1), .val (.int p2), .val (.int p3), .val (.int p4), .val (.int p5), .unset, .unset, .unset, .unset, .unset, .unset, .unset, .unset, .unset] [(.int p1)])) _
      refine X0.ldcInt hx hown (mvT hZ (hw _ (List.mem_of_getElem? (i := 0) rfl))) (g := (mkF m 8 #[.val (.int p1), .val (.int p2), .val (.int p3), .val (.int p4), .val (.int p5), .unset, .unset, .unset, .unset, .unset, .unset, .unset, .unset, .unset] [(.int p1)])) rfl (hb hby at_8) _ ?_
      show Steps p.tables e below (s₁.setTop (mkF m 10 #[.val (.int p1), .val (.int p2), .val (.int p3), .val (.int p4), .val (.int p5), .unset, .unset, .unset, .unset, .unset, .unset, .unset, .unset, .unset] [(.int (2147483647 : Int32)), (.int p1)])) _
      refine XS.iand X0.here hx rfl (hb hby at_10) rfl ?_
      show Steps p.tables e below (s₁.setTop (mkF m 11 #[.val (.int p1), .val (.int p2), .val (.int p3), .val (.int p4), .val (.int p5), .unset, .unset, .unset, .unset, .unset, .unset, .unset, .unset, .unset] [(.int (p1 &&& (2147483647 : Int32)))])) _
      refine XS.sipush X0.here hx rfl (hb hby at_11) ?_
      show Steps p.tables e below (s₁.setTop (mkF m 14 #[.val (.int p1), .val (.int p2), .val (.int p3), .val (.int p4), .val (.int p5), .unset, .unset, .unset, .unset, .unset, .unset, .unset, .unset, .unset] [(.int (4096 : Int32)), (.int (p1 &&& (2147483647 : Int32)))])) _
      refine XS.irem X0.here hx rfl (hb hby at_14) rfl (by decide) ?_
      show Steps p.tables e below (s₁.setTop (mkF m 15 #[.val (.int p1), .val (.int p2), .val (.int p3), .val (.int p4), .val (.int p5), .unset, .unset, .unset, .unset, .unset, .unset, .unset, .unset, .unset] [(.int ((p1 &&& (2147483647 : Int32)) - ((p1 &&& (2147483647 : Int32)) / (4096 : Int32)) * (4096 : Int32)))])) _
      refine XS.iconst X0.here hx rfl (hb hby at_15) ?_
      show Steps p.tables e below (s₁.setTop (mkF m 16 #[.val (.int p1), .val (.int p2), .val (.int p3), .val (.int p4), .val (.int p5), .unset, .unset, .unset, .unset, .unset, .unset, .unset, .unset, .unset] [(.int (1 : Int32)), (.int ((p1 &&& (2147483647 : Int32)) - ((p1 &&& (2147483647 : Int32)) / (4096 : Int32)) * (4096 : Int32)))])) _
      refine XS.iadd X0.here hx rfl (hb hby at_16) rfl ?_
      show Steps p.tables e below (s₁.setTop (mkF m 17 #[.val (.int p1), .val (.int p2), .val (.int p3), .val (.int p4), .val (.int p5), .unset, .unset, .unset, .unset, .unset, .unset, .unset, .unset, .unset] [(.int (((p1 &&& (2147483647 : Int32)) - ((p1 &&& (2147483647 : Int32)) / (4096 : Int32)) * (4096 : Int32)) + (1 : Int32)))])) _
      refine XS.istore X0.here hx rfl (hb hby at_17) rfl (l' := #[.val (.int p1), .val (.int p2), .val (.int p3), .val (.int p4), .val (.int p5), .val (.int (((p1 &&& (2147483647 : Int32)) - ((p1 &&& (2147483647 : Int32)) / (4096 : Int32)) * (4096 : Int32)) + (1 : Int32))), .unset, .unset, .unset, .unset, .unset, .unset, .unset, .unset]) rfl ?_
      show Steps p.tables e below (s₁.setTop (mkF m 19 #[.val (.int p1), .val (.int p2), .val (.int p3), .val (.int p4), .val (.int p5), .val (.int (((p1 &&& (2147483647 : Int32)) - ((p1 &&& (2147483647 : Int32)) / (4096 : Int32)) * (4096 : Int32)) + (1 : Int32))), .unset, .unset, .unset, .unset, .unset, .unset, .unset, .unset] [])) _
      refine XS.goto X0.here hx rfl (pc0 := 19) (pc' := 33) rfl (hb hby at_19) (by decide) (by decide) ?_
      exact k
  have hl : 1 ≤ v1.toInt ∧ v1.toInt ≤ 2147483647 := by
    have a1 := own_mr1 p1 (4096 : Int32) (by decide)
    have a2 := own_mr1 p1 (2147483647 : Int32) (by decide)
    have e1 : (4096 : Int32).toInt = 4096 := by decide
    have e2 : (2147483647 : Int32).toInt = 2147483647 := by decide
    rw [e1] at a1
    rw [e2] at a2
    rcases hj2 with q | q <;> (rw [q.2]; omega)
  have hd := own_div v1 hl.1
  have hnz41 : ¬ (v1 = (0 : Int32)) := by exact own_nz hl.1
  have hnz42 : ¬ (((2147483647 : Int32) / v1) = (0 : Int32)) := by exact own_nz hd.2
  obtain ⟨v4, hv_v4, pre3⟩ : ∃ v4 : Int32, v4 = (((p2 &&& (2147483647 : Int32)) - ((p2 &&& (2147483647 : Int32)) / ((2147483647 : Int32) / v1)) * ((2147483647 : Int32) / v1)) + (1 : Int32)) ∧ (∀ t, Steps p.tables e below (s₁.setTop (mkF m 47 #[.val (.int p1), .val (.int p2), .val (.int p3), .val (.int p4), .val (.int p5), .val (.int v1), .val (.int v4), .unset, .unset, .unset, .unset, .unset, .unset, .unset] [])) t → Steps p.tables e below (s₁.setTop (entryFrame m #[(.int p1), (.int p2), (.int p3), (.int p4), (.int p5)] maxLocals)) t) := by
    refine ⟨_, rfl, fun t k => pre2 t ?_⟩
    show Steps p.tables e below (s₁.setTop (mkF m 33 #[.val (.int p1), .val (.int p2), .val (.int p3), .val (.int p4), .val (.int p5), .val (.int v1), .unset, .unset, .unset, .unset, .unset, .unset, .unset, .unset] [])) _
    refine XS.iloadN X0.here hx rfl (hb hby at_33) rfl ?_
    show Steps p.tables e below (s₁.setTop (mkF m 34 #[.val (.int p1), .val (.int p2), .val (.int p3), .val (.int p4), .val (.int p5), .val (.int v1), .unset, .unset, .unset, .unset, .unset, .unset, .unset, .unset] [(.int p2)])) _
    refine X0.ldcInt hx hown (mvT hZ (hw _ (List.mem_of_getElem? (i := 0) rfl))) (g := (mkF m 34 #[.val (.int p1), .val (.int p2), .val (.int p3), .val (.int p4), .val (.int p5), .val (.int v1), .unset, .unset, .unset, .unset, .unset, .unset, .unset, .unset] [(.int p2)])) rfl (hb hby at_34) _ ?_
    show Steps p.tables e below (s₁.setTop (mkF m 36 #[.val (.int p1), .val (.int p2), .val (.int p3), .val (.int p4), .val (.int p5), .val (.int v1), .unset, .unset, .unset, .unset, .unset, .unset, .unset, .unset] [(.int (2147483647 : Int32)), (.int p2)])) _
    refine XS.iand X0.here hx rfl (hb hby at_36) rfl ?_
    show Steps p.tables e below (s₁.setTop (mkF m 37 #[.val (.int p1), .val (.int p2), .val (.int p3), .val (.int p4), .val (.int p5), .val (.int v1), .unset, .unset, .unset, .unset, .unset, .unset, .unset, .unset] [(.int (p2 &&& (2147483647 : Int32)))])) _
    refine X0.ldcInt hx hown (mvT hZ (hw _ (List.mem_of_getElem? (i := 0) rfl))) (g := (mkF m 37 #[.val (.int p1), .val (.int p2), .val (.int p3), .val (.int p4), .val (.int p5), .val (.int v1), .unset, .unset, .unset, .unset, .unset, .unset, .unset, .unset] [(.int (p2 &&& (2147483647 : Int32)))])) rfl (hb hby at_37) _ ?_
    show Steps p.tables e below (s₁.setTop (mkF m 39 #[.val (.int p1), .val (.int p2), .val (.int p3), .val (.int p4), .val (.int p5), .val (.int v1), .unset, .unset, .unset, .unset, .unset, .unset, .unset, .unset] [(.int (2147483647 : Int32)), (.int (p2 &&& (2147483647 : Int32)))])) _
    refine XS.iload X0.here hx rfl (hb hby at_39) rfl ?_
    show Steps p.tables e below (s₁.setTop (mkF m 41 #[.val (.int p1), .val (.int p2), .val (.int p3), .val (.int p4), .val (.int p5), .val (.int v1), .unset, .unset, .unset, .unset, .unset, .unset, .unset, .unset] [(.int v1), (.int (2147483647 : Int32)), (.int (p2 &&& (2147483647 : Int32)))])) _
    refine XS.idiv X0.here hx rfl (hb hby at_41) rfl hnz41 ?_
    show Steps p.tables e below (s₁.setTop (mkF m 42 #[.val (.int p1), .val (.int p2), .val (.int p3), .val (.int p4), .val (.int p5), .val (.int v1), .unset, .unset, .unset, .unset, .unset, .unset, .unset, .unset] [(.int ((2147483647 : Int32) / v1)), (.int (p2 &&& (2147483647 : Int32)))])) _
    refine XS.irem X0.here hx rfl (hb hby at_42) rfl hnz42 ?_
    show Steps p.tables e below (s₁.setTop (mkF m 43 #[.val (.int p1), .val (.int p2), .val (.int p3), .val (.int p4), .val (.int p5), .val (.int v1), .unset, .unset, .unset, .unset, .unset, .unset, .unset, .unset] [(.int ((p2 &&& (2147483647 : Int32)) - ((p2 &&& (2147483647 : Int32)) / ((2147483647 : Int32) / v1)) * ((2147483647 : Int32) / v1)))])) _
    refine XS.iconst X0.here hx rfl (hb hby at_43) ?_
    show Steps p.tables e below (s₁.setTop (mkF m 44 #[.val (.int p1), .val (.int p2), .val (.int p3), .val (.int p4), .val (.int p5), .val (.int v1), .unset, .unset, .unset, .unset, .unset, .unset, .unset, .unset] [(.int (1 : Int32)), (.int ((p2 &&& (2147483647 : Int32)) - ((p2 &&& (2147483647 : Int32)) / ((2147483647 : Int32) / v1)) * ((2147483647 : Int32) / v1)))])) _
    refine XS.iadd X0.here hx rfl (hb hby at_44) rfl ?_
    show Steps p.tables e below (s₁.setTop (mkF m 45 #[.val (.int p1), .val (.int p2), .val (.int p3), .val (.int p4), .val (.int p5), .val (.int v1), .unset, .unset, .unset, .unset, .unset, .unset, .unset, .unset] [(.int (((p2 &&& (2147483647 : Int32)) - ((p2 &&& (2147483647 : Int32)) / ((2147483647 : Int32) / v1)) * ((2147483647 : Int32) / v1)) + (1 : Int32)))])) _
    refine XS.istore X0.here hx rfl (hb hby at_45) rfl (l' := #[.val (.int p1), .val (.int p2), .val (.int p3), .val (.int p4), .val (.int p5), .val (.int v1), .val (.int (((p2 &&& (2147483647 : Int32)) - ((p2 &&& (2147483647 : Int32)) / ((2147483647 : Int32) / v1)) * ((2147483647 : Int32) / v1)) + (1 : Int32))), .unset, .unset, .unset, .unset, .unset, .unset, .unset]) rfl ?_
    exact k
  have hr := own_mr1 p2 ((2147483647 : Int32) / v1) hd.2
  rw [← hv_v4] at hr
  rw [hd.1] at hr
  have hnz53 : ¬ (v4 = (0 : Int32)) := by exact own_nz hr.1
  obtain ⟨v6, hv_v6, pre5⟩ : ∃ v6 : Int32, v6 = ((p3 &&& (2147483647 : Int32)) - ((p3 &&& (2147483647 : Int32)) / v4) * v4) ∧ (∀ t, Steps p.tables e below (s₁.setTop (mkF m 56 #[.val (.int p1), .val (.int p2), .val (.int p3), .val (.int p4), .val (.int p5), .val (.int v1), .val (.int v4), .val (.int v6), .unset, .unset, .unset, .unset, .unset, .unset] [])) t → Steps p.tables e below (s₁.setTop (entryFrame m #[(.int p1), (.int p2), (.int p3), (.int p4), (.int p5)] maxLocals)) t) := by
    refine ⟨_, rfl, fun t k => pre3 t ?_⟩
    show Steps p.tables e below (s₁.setTop (mkF m 47 #[.val (.int p1), .val (.int p2), .val (.int p3), .val (.int p4), .val (.int p5), .val (.int v1), .val (.int v4), .unset, .unset, .unset, .unset, .unset, .unset, .unset] [])) _
    refine XS.iloadN X0.here hx rfl (hb hby at_47) rfl ?_
    show Steps p.tables e below (s₁.setTop (mkF m 48 #[.val (.int p1), .val (.int p2), .val (.int p3), .val (.int p4), .val (.int p5), .val (.int v1), .val (.int v4), .unset, .unset, .unset, .unset, .unset, .unset, .unset] [(.int p3)])) _
    refine X0.ldcInt hx hown (mvT hZ (hw _ (List.mem_of_getElem? (i := 0) rfl))) (g := (mkF m 48 #[.val (.int p1), .val (.int p2), .val (.int p3), .val (.int p4), .val (.int p5), .val (.int v1), .val (.int v4), .unset, .unset, .unset, .unset, .unset, .unset, .unset] [(.int p3)])) rfl (hb hby at_48) _ ?_
    show Steps p.tables e below (s₁.setTop (mkF m 50 #[.val (.int p1), .val (.int p2), .val (.int p3), .val (.int p4), .val (.int p5), .val (.int v1), .val (.int v4), .unset, .unset, .unset, .unset, .unset, .unset, .unset] [(.int (2147483647 : Int32)), (.int p3)])) _
    refine XS.iand X0.here hx rfl (hb hby at_50) rfl ?_
    show Steps p.tables e below (s₁.setTop (mkF m 51 #[.val (.int p1), .val (.int p2), .val (.int p3), .val (.int p4), .val (.int p5), .val (.int v1), .val (.int v4), .unset, .unset, .unset, .unset, .unset, .unset, .unset] [(.int (p3 &&& (2147483647 : Int32)))])) _
    refine XS.iload X0.here hx rfl (hb hby at_51) rfl ?_
    show Steps p.tables e below (s₁.setTop (mkF m 53 #[.val (.int p1), .val (.int p2), .val (.int p3), .val (.int p4), .val (.int p5), .val (.int v1), .val (.int v4), .unset, .unset, .unset, .unset, .unset, .unset, .unset] [(.int v4), (.int (p3 &&& (2147483647 : Int32)))])) _
    refine XS.irem X0.here hx rfl (hb hby at_53) rfl hnz53 ?_
    show Steps p.tables e below (s₁.setTop (mkF m 54 #[.val (.int p1), .val (.int p2), .val (.int p3), .val (.int p4), .val (.int p5), .val (.int v1), .val (.int v4), .unset, .unset, .unset, .unset, .unset, .unset, .unset] [(.int ((p3 &&& (2147483647 : Int32)) - ((p3 &&& (2147483647 : Int32)) / v4) * v4))])) _
    refine XS.istore X0.here hx rfl (hb hby at_54) rfl (l' := #[.val (.int p1), .val (.int p2), .val (.int p3), .val (.int p4), .val (.int p5), .val (.int v1), .val (.int v4), .val (.int ((p3 &&& (2147483647 : Int32)) - ((p3 &&& (2147483647 : Int32)) / v4) * v4)), .unset, .unset, .unset, .unset, .unset, .unset]) rfl ?_
    exact k
  have hrow := own_mr p3 v4 hr.1
  rw [← hv_v6] at hrow
  have hnz62 : ¬ (v1 = (0 : Int32)) := by exact own_nz hl.1
  obtain ⟨v8, hv_v8, pre7⟩ : ∃ v8 : Int32, v8 = ((p4 &&& (2147483647 : Int32)) - ((p4 &&& (2147483647 : Int32)) / v1) * v1) ∧ (∀ t, Steps p.tables e below (s₁.setTop (mkF m 65 #[.val (.int p1), .val (.int p2), .val (.int p3), .val (.int p4), .val (.int p5), .val (.int v1), .val (.int v4), .val (.int v6), .val (.int v8), .unset, .unset, .unset, .unset, .unset] [])) t → Steps p.tables e below (s₁.setTop (entryFrame m #[(.int p1), (.int p2), (.int p3), (.int p4), (.int p5)] maxLocals)) t) := by
    refine ⟨_, rfl, fun t k => pre5 t ?_⟩
    show Steps p.tables e below (s₁.setTop (mkF m 56 #[.val (.int p1), .val (.int p2), .val (.int p3), .val (.int p4), .val (.int p5), .val (.int v1), .val (.int v4), .val (.int v6), .unset, .unset, .unset, .unset, .unset, .unset] [])) _
    refine XS.iloadN X0.here hx rfl (hb hby at_56) rfl ?_
    show Steps p.tables e below (s₁.setTop (mkF m 57 #[.val (.int p1), .val (.int p2), .val (.int p3), .val (.int p4), .val (.int p5), .val (.int v1), .val (.int v4), .val (.int v6), .unset, .unset, .unset, .unset, .unset, .unset] [(.int p4)])) _
    refine X0.ldcInt hx hown (mvT hZ (hw _ (List.mem_of_getElem? (i := 0) rfl))) (g := (mkF m 57 #[.val (.int p1), .val (.int p2), .val (.int p3), .val (.int p4), .val (.int p5), .val (.int v1), .val (.int v4), .val (.int v6), .unset, .unset, .unset, .unset, .unset, .unset] [(.int p4)])) rfl (hb hby at_57) _ ?_
    show Steps p.tables e below (s₁.setTop (mkF m 59 #[.val (.int p1), .val (.int p2), .val (.int p3), .val (.int p4), .val (.int p5), .val (.int v1), .val (.int v4), .val (.int v6), .unset, .unset, .unset, .unset, .unset, .unset] [(.int (2147483647 : Int32)), (.int p4)])) _
    refine XS.iand X0.here hx rfl (hb hby at_59) rfl ?_
    show Steps p.tables e below (s₁.setTop (mkF m 60 #[.val (.int p1), .val (.int p2), .val (.int p3), .val (.int p4), .val (.int p5), .val (.int v1), .val (.int v4), .val (.int v6), .unset, .unset, .unset, .unset, .unset, .unset] [(.int (p4 &&& (2147483647 : Int32)))])) _
    refine XS.iload X0.here hx rfl (hb hby at_60) rfl ?_
    show Steps p.tables e below (s₁.setTop (mkF m 62 #[.val (.int p1), .val (.int p2), .val (.int p3), .val (.int p4), .val (.int p5), .val (.int v1), .val (.int v4), .val (.int v6), .unset, .unset, .unset, .unset, .unset, .unset] [(.int v1), (.int (p4 &&& (2147483647 : Int32)))])) _
    refine XS.irem X0.here hx rfl (hb hby at_62) rfl hnz62 ?_
    show Steps p.tables e below (s₁.setTop (mkF m 63 #[.val (.int p1), .val (.int p2), .val (.int p3), .val (.int p4), .val (.int p5), .val (.int v1), .val (.int v4), .val (.int v6), .unset, .unset, .unset, .unset, .unset, .unset] [(.int ((p4 &&& (2147483647 : Int32)) - ((p4 &&& (2147483647 : Int32)) / v1) * v1))])) _
    refine XS.istore X0.here hx rfl (hb hby at_63) rfl (l' := #[.val (.int p1), .val (.int p2), .val (.int p3), .val (.int p4), .val (.int p5), .val (.int v1), .val (.int v4), .val (.int v6), .val (.int ((p4 &&& (2147483647 : Int32)) - ((p4 &&& (2147483647 : Int32)) / v1) * v1)), .unset, .unset, .unset, .unset, .unset]) rfl ?_
    exact k
  have hen := own_mr p4 v1 hl.1
  rw [← hv_v8] at hen
  obtain ⟨v9, hj10, pre10⟩ : ∃ v9 : Int32, (((p5 &&& (2 : Int32)) = (0 : Int32) ∧ v9 = v6) ∨ (¬ ((p5 &&& (2 : Int32)) = (0 : Int32)) ∧ v9 = (v4 - (1 : Int32)))) ∧ (∀ t, Steps p.tables e below (s₁.setTop (mkF m 78 #[.val (.int p1), .val (.int p2), .val (.int p3), .val (.int p4), .val (.int p5), .val (.int v1), .val (.int v4), .val (.int v9), .val (.int v8), .unset, .unset, .unset, .unset, .unset] [])) t → Steps p.tables e below (s₁.setTop (entryFrame m #[(.int p1), (.int p2), (.int p3), (.int p4), (.int p5)] maxLocals)) t) := by
    by_cases hb0_69 : (p5 &&& (2 : Int32)) = (0 : Int32)
    · skip
      refine ⟨v6, Or.inl (⟨hb0_69, rfl⟩), fun t k => pre7 t ?_⟩
      show Steps p.tables e below (s₁.setTop (mkF m 65 #[.val (.int p1), .val (.int p2), .val (.int p3), .val (.int p4), .val (.int p5), .val (.int v1), .val (.int v4), .val (.int v6), .val (.int v8), .unset, .unset, .unset, .unset, .unset] [])) _
      refine XS.iload X0.here hx rfl (hb hby at_65) rfl ?_
      show Steps p.tables e below (s₁.setTop (mkF m 67 #[.val (.int p1), .val (.int p2), .val (.int p3), .val (.int p4), .val (.int p5), .val (.int v1), .val (.int v4), .val (.int v6), .val (.int v8), .unset, .unset, .unset, .unset, .unset] [(.int p5)])) _
      refine XS.iconst X0.here hx rfl (hb hby at_67) ?_
      show Steps p.tables e below (s₁.setTop (mkF m 68 #[.val (.int p1), .val (.int p2), .val (.int p3), .val (.int p4), .val (.int p5), .val (.int v1), .val (.int v4), .val (.int v6), .val (.int v8), .unset, .unset, .unset, .unset, .unset] [(.int (2 : Int32)), (.int p5)])) _
      refine XS.iand X0.here hx rfl (hb hby at_68) rfl ?_
      show Steps p.tables e below (s₁.setTop (mkF m 69 #[.val (.int p1), .val (.int p2), .val (.int p3), .val (.int p4), .val (.int p5), .val (.int v1), .val (.int v4), .val (.int v6), .val (.int v8), .unset, .unset, .unset, .unset, .unset] [(.int (p5 &&& (2 : Int32)))])) _
      refine XS.ifYes X0.here hx rfl (pc0 := 69) (pc' := 78) rfl (hb hby at_69) rfl ((if0 _ _).trans (teq hb0_69).1) (by decide) (by decide) ?_
      exact k
    · skip
      refine ⟨(v4 - (1 : Int32)), Or.inr (⟨hb0_69, rfl⟩), fun t k => pre7 t ?_⟩
      show Steps p.tables e below (s₁.setTop (mkF m 65 #[.val (.int p1), .val (.int p2), .val (.int p3), .val (.int p4), .val (.int p5), .val (.int v1), .val (.int v4), .val (.int v6), .val (.int v8), .unset, .unset, .unset, .unset, .unset] [])) _
      refine XS.iload X0.here hx rfl (hb hby at_65) rfl ?_
      show Steps p.tables e below (s₁.setTop (mkF m 67 #[.val (.int p1), .val (.int p2), .val (.int p3), .val (.int p4), .val (.int p5), .val (.int v1), .val (.int v4), .val (.int v6), .val (.int v8), .unset, .unset, .unset, .unset, .unset] [(.int p5)])) _
      refine XS.iconst X0.here hx rfl (hb hby at_67) ?_
      show Steps p.tables e below (s₁.setTop (mkF m 68 #[.val (.int p1), .val (.int p2), .val (.int p3), .val (.int p4), .val (.int p5), .val (.int v1), .val (.int v4), .val (.int v6), .val (.int v8), .unset, .unset, .unset, .unset, .unset] [(.int (2 : Int32)), (.int p5)])) _
      refine XS.iand X0.here hx rfl (hb hby at_68) rfl ?_
      show Steps p.tables e below (s₁.setTop (mkF m 69 #[.val (.int p1), .val (.int p2), .val (.int p3), .val (.int p4), .val (.int p5), .val (.int v1), .val (.int v4), .val (.int v6), .val (.int v8), .unset, .unset, .unset, .unset, .unset] [(.int (p5 &&& (2 : Int32)))])) _
      refine XS.ifNo X0.here hx rfl (hb hby at_69) rfl ((if0 _ _).trans (feq hb0_69).1) ?_
      show Steps p.tables e below (s₁.setTop (mkF m 72 #[.val (.int p1), .val (.int p2), .val (.int p3), .val (.int p4), .val (.int p5), .val (.int v1), .val (.int v4), .val (.int v6), .val (.int v8), .unset, .unset, .unset, .unset, .unset] [])) _
      refine XS.iload X0.here hx rfl (hb hby at_72) rfl ?_
      show Steps p.tables e below (s₁.setTop (mkF m 74 #[.val (.int p1), .val (.int p2), .val (.int p3), .val (.int p4), .val (.int p5), .val (.int v1), .val (.int v4), .val (.int v6), .val (.int v8), .unset, .unset, .unset, .unset, .unset] [(.int v4)])) _
      refine XS.iconst X0.here hx rfl (hb hby at_74) ?_
      show Steps p.tables e below (s₁.setTop (mkF m 75 #[.val (.int p1), .val (.int p2), .val (.int p3), .val (.int p4), .val (.int p5), .val (.int v1), .val (.int v4), .val (.int v6), .val (.int v8), .unset, .unset, .unset, .unset, .unset] [(.int (1 : Int32)), (.int v4)])) _
      refine XS.isub X0.here hx rfl (hb hby at_75) rfl ?_
      show Steps p.tables e below (s₁.setTop (mkF m 76 #[.val (.int p1), .val (.int p2), .val (.int p3), .val (.int p4), .val (.int p5), .val (.int v1), .val (.int v4), .val (.int v6), .val (.int v8), .unset, .unset, .unset, .unset, .unset] [(.int (v4 - (1 : Int32)))])) _
      refine XS.istore X0.here hx rfl (hb hby at_76) rfl (l' := #[.val (.int p1), .val (.int p2), .val (.int p3), .val (.int p4), .val (.int p5), .val (.int v1), .val (.int v4), .val (.int (v4 - (1 : Int32))), .val (.int v8), .unset, .unset, .unset, .unset, .unset]) rfl ?_
      exact k
  have hrow2 : 0 ≤ v9.toInt ∧ v9.toInt < v4.toInt := by
    rcases hj10 with q | q <;> (rw [q.2]; first | exact own_pred hr.1 | exact hrow)
  obtain ⟨v11, hj12, pre12⟩ : ∃ v11 : Int32, (((p5 &&& (4 : Int32)) = (0 : Int32) ∧ v11 = v8) ∨ (¬ ((p5 &&& (4 : Int32)) = (0 : Int32)) ∧ v11 = (v1 - (1 : Int32)))) ∧ (∀ t, Steps p.tables e below (s₁.setTop (mkF m 91 #[.val (.int p1), .val (.int p2), .val (.int p3), .val (.int p4), .val (.int p5), .val (.int v1), .val (.int v4), .val (.int v9), .val (.int v11), .unset, .unset, .unset, .unset, .unset] [])) t → Steps p.tables e below (s₁.setTop (entryFrame m #[(.int p1), (.int p2), (.int p3), (.int p4), (.int p5)] maxLocals)) t) := by
    by_cases hb0_82 : (p5 &&& (4 : Int32)) = (0 : Int32)
    · skip
      refine ⟨v8, Or.inl (⟨hb0_82, rfl⟩), fun t k => pre10 t ?_⟩
      show Steps p.tables e below (s₁.setTop (mkF m 78 #[.val (.int p1), .val (.int p2), .val (.int p3), .val (.int p4), .val (.int p5), .val (.int v1), .val (.int v4), .val (.int v9), .val (.int v8), .unset, .unset, .unset, .unset, .unset] [])) _
      refine XS.iload X0.here hx rfl (hb hby at_78) rfl ?_
      show Steps p.tables e below (s₁.setTop (mkF m 80 #[.val (.int p1), .val (.int p2), .val (.int p3), .val (.int p4), .val (.int p5), .val (.int v1), .val (.int v4), .val (.int v9), .val (.int v8), .unset, .unset, .unset, .unset, .unset] [(.int p5)])) _
      refine XS.iconst X0.here hx rfl (hb hby at_80) ?_
      show Steps p.tables e below (s₁.setTop (mkF m 81 #[.val (.int p1), .val (.int p2), .val (.int p3), .val (.int p4), .val (.int p5), .val (.int v1), .val (.int v4), .val (.int v9), .val (.int v8), .unset, .unset, .unset, .unset, .unset] [(.int (4 : Int32)), (.int p5)])) _
      refine XS.iand X0.here hx rfl (hb hby at_81) rfl ?_
      show Steps p.tables e below (s₁.setTop (mkF m 82 #[.val (.int p1), .val (.int p2), .val (.int p3), .val (.int p4), .val (.int p5), .val (.int v1), .val (.int v4), .val (.int v9), .val (.int v8), .unset, .unset, .unset, .unset, .unset] [(.int (p5 &&& (4 : Int32)))])) _
      refine XS.ifYes X0.here hx rfl (pc0 := 82) (pc' := 91) rfl (hb hby at_82) rfl ((if0 _ _).trans (teq hb0_82).1) (by decide) (by decide) ?_
      exact k
    · skip
      refine ⟨(v1 - (1 : Int32)), Or.inr (⟨hb0_82, rfl⟩), fun t k => pre10 t ?_⟩
      show Steps p.tables e below (s₁.setTop (mkF m 78 #[.val (.int p1), .val (.int p2), .val (.int p3), .val (.int p4), .val (.int p5), .val (.int v1), .val (.int v4), .val (.int v9), .val (.int v8), .unset, .unset, .unset, .unset, .unset] [])) _
      refine XS.iload X0.here hx rfl (hb hby at_78) rfl ?_
      show Steps p.tables e below (s₁.setTop (mkF m 80 #[.val (.int p1), .val (.int p2), .val (.int p3), .val (.int p4), .val (.int p5), .val (.int v1), .val (.int v4), .val (.int v9), .val (.int v8), .unset, .unset, .unset, .unset, .unset] [(.int p5)])) _
      refine XS.iconst X0.here hx rfl (hb hby at_80) ?_
      show Steps p.tables e below (s₁.setTop (mkF m 81 #[.val (.int p1), .val (.int p2), .val (.int p3), .val (.int p4), .val (.int p5), .val (.int v1), .val (.int v4), .val (.int v9), .val (.int v8), .unset, .unset, .unset, .unset, .unset] [(.int (4 : Int32)), (.int p5)])) _
      refine XS.iand X0.here hx rfl (hb hby at_81) rfl ?_
      show Steps p.tables e below (s₁.setTop (mkF m 82 #[.val (.int p1), .val (.int p2), .val (.int p3), .val (.int p4), .val (.int p5), .val (.int v1), .val (.int v4), .val (.int v9), .val (.int v8), .unset, .unset, .unset, .unset, .unset] [(.int (p5 &&& (4 : Int32)))])) _
      refine XS.ifNo X0.here hx rfl (hb hby at_82) rfl ((if0 _ _).trans (feq hb0_82).1) ?_
      show Steps p.tables e below (s₁.setTop (mkF m 85 #[.val (.int p1), .val (.int p2), .val (.int p3), .val (.int p4), .val (.int p5), .val (.int v1), .val (.int v4), .val (.int v9), .val (.int v8), .unset, .unset, .unset, .unset, .unset] [])) _
      refine XS.iload X0.here hx rfl (hb hby at_85) rfl ?_
      show Steps p.tables e below (s₁.setTop (mkF m 87 #[.val (.int p1), .val (.int p2), .val (.int p3), .val (.int p4), .val (.int p5), .val (.int v1), .val (.int v4), .val (.int v9), .val (.int v8), .unset, .unset, .unset, .unset, .unset] [(.int v1)])) _
      refine XS.iconst X0.here hx rfl (hb hby at_87) ?_
      show Steps p.tables e below (s₁.setTop (mkF m 88 #[.val (.int p1), .val (.int p2), .val (.int p3), .val (.int p4), .val (.int p5), .val (.int v1), .val (.int v4), .val (.int v9), .val (.int v8), .unset, .unset, .unset, .unset, .unset] [(.int (1 : Int32)), (.int v1)])) _
      refine XS.isub X0.here hx rfl (hb hby at_88) rfl ?_
      show Steps p.tables e below (s₁.setTop (mkF m 89 #[.val (.int p1), .val (.int p2), .val (.int p3), .val (.int p4), .val (.int p5), .val (.int v1), .val (.int v4), .val (.int v9), .val (.int v8), .unset, .unset, .unset, .unset, .unset] [(.int (v1 - (1 : Int32)))])) _
      refine XS.istore X0.here hx rfl (hb hby at_89) rfl (l' := #[.val (.int p1), .val (.int p2), .val (.int p3), .val (.int p4), .val (.int p5), .val (.int v1), .val (.int v4), .val (.int v9), .val (.int (v1 - (1 : Int32))), .unset, .unset, .unset, .unset, .unset]) rfl ?_
      exact k
  have hen2 : 0 ≤ v11.toInt ∧ v11.toInt < v1.toInt := by
    rcases hj12 with q | q <;> (rw [q.2]; first | exact own_pred hl.1 | exact hen)
  have B := own_blk v1 v4 v9 v11 hl.1 hr.2 hrow2.1 hrow2.2 hen2.1 hen2.2
  have hle : ¬ ((2147483647 : Int64) < ((v4.toInt64) * (v1.toInt64))) := by
    rw [Int64.lt_iff_toInt_lt]
    have e1 : (2147483647 : Int64).toInt = 2147483647 := by decide
    rw [e1]
    exact Int.not_lt.mpr B.2.2.2
  obtain ⟨T13, h13, X13, e13, E13, A13, D13, -, st13⟩ := newO X0 hx hZ hown (hw _ (List.mem_of_getElem? (i := 1) rfl)) (hw _ (List.mem_of_getElem? (i := 2) rfl)) (hw _ (List.mem_of_getElem? (i := 3) rfl)) e0 (g := (mkF m 91 #[.val (.int p1), .val (.int p2), .val (.int p3), .val (.int p4), .val (.int p5), .val (.int v1), .val (.int v4), .val (.int v9), .val (.int v11), .unset, .unset, .unset, .unset, .unset] [])) rfl (hb hby at_91) (by decide) (by decide)
  obtain ⟨b13, g13⟩ : ∃ z, z = h0.size := ⟨_, rfl⟩
  rw [← g13] at A13 D13 st13
  have g_b13 : n0 ≤ b13 := Nat.le_trans Z0 (Nat.le_of_eq g13.symm)
  have sz_b13 : h0.size ≤ b13 := Nat.le_trans (Nat.le_refl h0.size) (Nat.le_of_eq g13.symm)
  have pre14 : ∀ t, Steps p.tables e below (T13.setTop (mkF m 94 #[.val (.int p1), .val (.int p2), .val (.int p3), .val (.int p4), .val (.int p5), .val (.int v1), .val (.int v4), .val (.int v9), .val (.int v11), .unset, .unset, .unset, .unset, .unset] [(.ref b13)])) t → Steps p.tables e below (s₁.setTop (entryFrame m #[(.int p1), (.int p2), (.int p3), (.int p4), (.int p5)] maxLocals)) t := fun t k => pre12 t (st13 _ k)
  have K13 : Keep h0 h13 [] := Keep.ext (Keep.refl h0 []) E13
  have f15 : Fld Z h13 b13 "com/example/locatree/locatree/median/RowBlocks" "rows" "I" (.int (0 : Int32)) := D13 (Or.inr (hw _ (List.mem_of_getElem? (i := 12) rfl))) (ty := .int) (by decide)
  have f16 : Fld Z h13 b13 "com/example/locatree/locatree/median/RowBlocks" "length" "I" (.int (0 : Int32)) := D13 (Or.inr (hw _ (List.mem_of_getElem? (i := 14) rfl))) (ty := .int) (by decide)
  have pre17 : ∀ t, Steps p.tables e below (T13.setTop (mkF m 99 #[.val (.int p1), .val (.int p2), .val (.int p3), .val (.int p4), .val (.int p5), .val (.int v1), .val (.int v4), .val (.int v9), .val (.int v11), .unset, .unset, .unset, .unset, .unset] [(.int v1), (.int v4), (.ref b13), (.ref b13)])) t → Steps p.tables e below (s₁.setTop (entryFrame m #[(.int p1), (.int p2), (.int p3), (.int p4), (.int p5)] maxLocals)) t := by
    refine fun t k => pre14 t ?_
    show Steps p.tables e below (T13.setTop (mkF m 94 #[.val (.int p1), .val (.int p2), .val (.int p3), .val (.int p4), .val (.int p5), .val (.int v1), .val (.int v4), .val (.int v9), .val (.int v11), .unset, .unset, .unset, .unset, .unset] [(.ref b13)])) _
    refine XS.dup X13.here hx rfl (hb hby at_94) rfl rfl ?_
    show Steps p.tables e below (T13.setTop (mkF m 95 #[.val (.int p1), .val (.int p2), .val (.int p3), .val (.int p4), .val (.int p5), .val (.int v1), .val (.int v4), .val (.int v9), .val (.int v11), .unset, .unset, .unset, .unset, .unset] [(.ref b13), (.ref b13)])) _
    refine XS.iload X13.here hx rfl (hb hby at_95) rfl ?_
    show Steps p.tables e below (T13.setTop (mkF m 97 #[.val (.int p1), .val (.int p2), .val (.int p3), .val (.int p4), .val (.int p5), .val (.int v1), .val (.int v4), .val (.int v9), .val (.int v11), .unset, .unset, .unset, .unset, .unset] [(.int v4), (.ref b13), (.ref b13)])) _
    refine XS.iload X13.here hx rfl (hb hby at_97) rfl ?_
    exact k
  have Z18 : n0 ≤ h13.size := (Nat.le_trans Z0 E13.1)
  obtain ⟨_, _, ⟨T18, L18, k18, n18⟩, -, X18, ⟨Lc18, hQ18, l18, y18, z18⟩, st18⟩ := X13.specialBack hx (y := (⟨"com/example/locatree/locatree/median/RowBlocks", "<init>", "(II)V"⟩ : MethodName)) rfl hown (mvT hZ (hw _ (List.mem_of_getElem? (i := 4) rfl))) (mvT hZ (hw _ (List.mem_of_getElem? (i := 5) rfl))) (mvT hZ (hw _ (List.mem_of_getElem? (i := 6) rfl))) (by decide) (backOf (W := 1) (rm1 l Z a0 hw [] b13 v4 v1  h13 n0 Z18 A13 f15 f16 g_b13 (hle)) hZ (hw _ (List.mem_of_getElem? (i := 6) rfl)) (hw _ (List.mem_of_getElem? (i := 3) rfl)) (by decide) (by decide)) (g := (mkF m 99 #[.val (.int p1), .val (.int p2), .val (.int p3), .val (.int p4), .val (.int p5), .val (.int v1), .val (.int v4), .val (.int v9), .val (.int v11), .unset, .unset, .unset, .unset, .unset] [(.int v1), (.int v4), (.ref b13), (.ref b13)])) rfl (by rw [hml]; rfl) (Steps.refl _) (a := b13) (argsL := [(.int v4), (.int v1)]) (rest := [(.ref b13)]) (lenOf pd0_0 rfl) rfl (by show 2 * 0 + _ ≤ _; exact Nat.le_of_eq rfl) (hb hby at_99) (fun _ _ => ⟨rfl, e13, (by decide : (0 + 1) + 0 ≤ _), (by decide : (0 + 2) + 0 ≤ _)⟩)
  dsimp only [Pt.U, Pt.locs, Pt.cells, Pt.slots] at X18 l18 y18 z18 st18 hQ18
  subst l18 y18 z18
  obtain ⟨rfl, Nq18, Kq18, f19, f20, hq18⟩ := hQ18
  have N18 := Fr.app N0 Nq18
  have pre21 : ∀ t, Steps p.tables e below (T18.setTop (mkF m 102 #[.val (.int p1), .val (.int p2), .val (.int p3), .val (.int p4), .val (.int p5), .val (.int v1), .val (.int v4), .val (.int v9), .val (.int v11), .unset, .unset, .unset, .unset, .unset] [(.ref b13)])) t → Steps p.tables e below (s₁.setTop (entryFrame m #[(.int p1), (.int p2), (.int p3), (.int p4), (.int p5)] maxLocals)) t := fun t k => pre17 t (st18.trans k)
  have K18 : Keep h0 T18.heap [] := Keep.trans K13 Kq18 (allS (Or.inr sz_b13) all0)
  have f22 := A13.keep Kq18
  obtain ⟨v24, hv_v24, pre23⟩ : ∃ v24 : Int64, v24 = (((v9.toInt64) * (v1.toInt64)) + (v11.toInt64)) ∧ (∀ t, Steps p.tables e below (T18.setTop (mkF m 117 #[.val (.int p1), .val (.int p2), .val (.int p3), .val (.int p4), .val (.int p5), .val (.int v1), .val (.int v4), .val (.int v9), .val (.int v11), .val (.ref b13), .val (.long v24), .second, .unset, .unset] [])) t → Steps p.tables e below (s₁.setTop (entryFrame m #[(.int p1), (.int p2), (.int p3), (.int p4), (.int p5)] maxLocals)) t) := by
    refine ⟨_, rfl, fun t k => pre21 t ?_⟩
    show Steps p.tables e below (T18.setTop (mkF m 102 #[.val (.int p1), .val (.int p2), .val (.int p3), .val (.int p4), .val (.int p5), .val (.int v1), .val (.int v4), .val (.int v9), .val (.int v11), .unset, .unset, .unset, .unset, .unset] [(.ref b13)])) _
    refine XS.astore X18.here hx rfl (hb hby at_102) rfl rfl (l' := #[.val (.int p1), .val (.int p2), .val (.int p3), .val (.int p4), .val (.int p5), .val (.int v1), .val (.int v4), .val (.int v9), .val (.int v11), .val (.ref b13), .unset, .unset, .unset, .unset]) rfl ?_
    show Steps p.tables e below (T18.setTop (mkF m 104 #[.val (.int p1), .val (.int p2), .val (.int p3), .val (.int p4), .val (.int p5), .val (.int v1), .val (.int v4), .val (.int v9), .val (.int v11), .val (.ref b13), .unset, .unset, .unset, .unset] [])) _
    refine XS.iload X18.here hx rfl (hb hby at_104) rfl ?_
    show Steps p.tables e below (T18.setTop (mkF m 106 #[.val (.int p1), .val (.int p2), .val (.int p3), .val (.int p4), .val (.int p5), .val (.int v1), .val (.int v4), .val (.int v9), .val (.int v11), .val (.ref b13), .unset, .unset, .unset, .unset] [(.int v9)])) _
    refine XS.i2l X18.here hx rfl (hb hby at_106) rfl ?_
    show Steps p.tables e below (T18.setTop (mkF m 107 #[.val (.int p1), .val (.int p2), .val (.int p3), .val (.int p4), .val (.int p5), .val (.int v1), .val (.int v4), .val (.int v9), .val (.int v11), .val (.ref b13), .unset, .unset, .unset, .unset] [(.long (v9.toInt64))])) _
    refine XS.iload X18.here hx rfl (hb hby at_107) rfl ?_
    show Steps p.tables e below (T18.setTop (mkF m 109 #[.val (.int p1), .val (.int p2), .val (.int p3), .val (.int p4), .val (.int p5), .val (.int v1), .val (.int v4), .val (.int v9), .val (.int v11), .val (.ref b13), .unset, .unset, .unset, .unset] [(.int v1), (.long (v9.toInt64))])) _
    refine XS.i2l X18.here hx rfl (hb hby at_109) rfl ?_
    show Steps p.tables e below (T18.setTop (mkF m 110 #[.val (.int p1), .val (.int p2), .val (.int p3), .val (.int p4), .val (.int p5), .val (.int v1), .val (.int v4), .val (.int v9), .val (.int v11), .val (.ref b13), .unset, .unset, .unset, .unset] [(.long (v1.toInt64)), (.long (v9.toInt64))])) _
    refine XS.lmul X18.here hx rfl (hb hby at_110) rfl ?_
    show Steps p.tables e below (T18.setTop (mkF m 111 #[.val (.int p1), .val (.int p2), .val (.int p3), .val (.int p4), .val (.int p5), .val (.int v1), .val (.int v4), .val (.int v9), .val (.int v11), .val (.ref b13), .unset, .unset, .unset, .unset] [(.long ((v9.toInt64) * (v1.toInt64)))])) _
    refine XS.iload X18.here hx rfl (hb hby at_111) rfl ?_
    show Steps p.tables e below (T18.setTop (mkF m 113 #[.val (.int p1), .val (.int p2), .val (.int p3), .val (.int p4), .val (.int p5), .val (.int v1), .val (.int v4), .val (.int v9), .val (.int v11), .val (.ref b13), .unset, .unset, .unset, .unset] [(.int v11), (.long ((v9.toInt64) * (v1.toInt64)))])) _
    refine XS.i2l X18.here hx rfl (hb hby at_113) rfl ?_
    show Steps p.tables e below (T18.setTop (mkF m 114 #[.val (.int p1), .val (.int p2), .val (.int p3), .val (.int p4), .val (.int p5), .val (.int v1), .val (.int v4), .val (.int v9), .val (.int v11), .val (.ref b13), .unset, .unset, .unset, .unset] [(.long (v11.toInt64)), (.long ((v9.toInt64) * (v1.toInt64)))])) _
    refine XS.ladd X18.here hx rfl (hb hby at_114) rfl ?_
    show Steps p.tables e below (T18.setTop (mkF m 115 #[.val (.int p1), .val (.int p2), .val (.int p3), .val (.int p4), .val (.int p5), .val (.int v1), .val (.int v4), .val (.int v9), .val (.int v11), .val (.ref b13), .unset, .unset, .unset, .unset] [(.long (((v9.toInt64) * (v1.toInt64)) + (v11.toInt64)))])) _
    refine XS.lstore X18.here hx rfl (hb hby at_115) rfl (l' := #[.val (.int p1), .val (.int p2), .val (.int p3), .val (.int p4), .val (.int p5), .val (.int v1), .val (.int v4), .val (.int v9), .val (.int v11), .val (.ref b13), .val (.long (((v9.toInt64) * (v1.toInt64)) + (v11.toInt64))), .second, .unset, .unset]) rfl ?_
    exact k
  have pre25 : ∀ t, Steps p.tables e below (T18.setTop (mkF m 123 #[.val (.int p1), .val (.int p2), .val (.int p3), .val (.int p4), .val (.int p5), .val (.int v1), .val (.int v4), .val (.int v9), .val (.int v11), .val (.ref b13), .val (.long v24), .second, .unset, .unset] [(.int v11), (.int v9), (.ref b13)])) t → Steps p.tables e below (s₁.setTop (entryFrame m #[(.int p1), (.int p2), (.int p3), (.int p4), (.int p5)] maxLocals)) t := by
    refine fun t k => pre23 t ?_
    show Steps p.tables e below (T18.setTop (mkF m 117 #[.val (.int p1), .val (.int p2), .val (.int p3), .val (.int p4), .val (.int p5), .val (.int v1), .val (.int v4), .val (.int v9), .val (.int v11), .val (.ref b13), .val (.long v24), .second, .unset, .unset] [])) _
    refine XS.aload X18.here hx rfl (hb hby at_117) rfl rfl ?_
    show Steps p.tables e below (T18.setTop (mkF m 119 #[.val (.int p1), .val (.int p2), .val (.int p3), .val (.int p4), .val (.int p5), .val (.int v1), .val (.int v4), .val (.int v9), .val (.int v11), .val (.ref b13), .val (.long v24), .second, .unset, .unset] [(.ref b13)])) _
    refine XS.iload X18.here hx rfl (hb hby at_119) rfl ?_
    show Steps p.tables e below (T18.setTop (mkF m 121 #[.val (.int p1), .val (.int p2), .val (.int p3), .val (.int p4), .val (.int p5), .val (.int v1), .val (.int v4), .val (.int v9), .val (.int v11), .val (.ref b13), .val (.long v24), .second, .unset, .unset] [(.int v9), (.ref b13)])) _
    refine XS.iload X18.here hx rfl (hb hby at_121) rfl ?_
    exact k
  have Z26 : n0 ≤ T18.heap.size := (Nat.le_trans Z18 Kq18.1)
  obtain ⟨cq26, kq26, q26a, q26b, q26c⟩ := isOf hZ rfl f22
  obtain ⟨_, _, ⟨T26, L26, k26, n26⟩, -, X26, ⟨Lc26, hQ26, l26, y26, z26⟩, st26⟩ := X18.virtualBack hx (y := (⟨"com/example/locatree/locatree/median/RowBlocks", "place", "(II)I"⟩ : MethodName)) (z := (⟨"com/example/locatree/locatree/median/RowBlocks", "place", "(II)I"⟩ : MethodName)) hown (mvT hZ (hw _ (List.mem_of_getElem? (i := 15) rfl))) (mvT hZ (hw _ (List.mem_of_getElem? (i := 16) rfl))) (notFace_of_selects (args := #[]) (mvT hZ (hw _ (List.mem_of_getElem? (i := 18) rfl)))) (mvT hZ (hw _ (List.mem_of_getElem? (i := 18) rfl))) (mvT hZ (hw _ (List.mem_of_getElem? (i := 17) rfl))) (by decide) (backOf (W := 0) (rm3 l Z a0 hw [] b13 v9 v11 v1 T18.heap n0 Z26 f20) hZ (hw _ (List.mem_of_getElem? (i := 19) rfl)) (hw _ (List.mem_of_getElem? (i := 3) rfl)) (by decide) (by decide)) q26a q26c (g := (mkF m 123 #[.val (.int p1), .val (.int p2), .val (.int p3), .val (.int p4), .val (.int p5), .val (.int v1), .val (.int v4), .val (.int v9), .val (.int v11), .val (.ref b13), .val (.long v24), .second, .unset, .unset] [(.int v11), (.int v9), (.ref b13)])) rfl (by rw [hml]; rfl) (Steps.refl _) (argsL := [(.int v9), (.int v11)]) (rest := []) (lenOf pd0_1 rfl) rfl (by show 2 * 0 + _ ≤ _; exact Nat.le_of_eq rfl) (hb hby at_123) (fun _ _ => ⟨rfl, rfl, (by decide : ((0 + 1) + 0) + 0 ≤ _), (by decide : ((0 + 2) + 0) + 0 ≤ _)⟩)
  dsimp only [Pt.U, Pt.locs, Pt.cells, Pt.slots] at X26 l26 y26 z26 st26 hQ26
  subst l26 y26 z26
  obtain ⟨r27, rfl, Nq26, ehq26, hq26⟩ := hQ26
  have N26 := Fr.app N18 Nq26
  have pre28 : ∀ t, Steps p.tables e below (T26.setTop (mkF m 126 #[.val (.int p1), .val (.int p2), .val (.int p3), .val (.int p4), .val (.int p5), .val (.int v1), .val (.int v4), .val (.int v9), .val (.int v11), .val (.ref b13), .val (.long v24), .second, .unset, .unset] [(.int r27)])) t → Steps p.tables e below (s₁.setTop (entryFrame m #[(.int p1), (.int p2), (.int p3), (.int p4), (.int p5)] maxLocals)) t := fun t k => pre25 t (st26.trans k)
  have pre29 : ∀ t, Steps p.tables e below (T26.setTop (mkF m 134 #[.val (.int p1), .val (.int p2), .val (.int p3), .val (.int p4), .val (.int p5), .val (.int v1), .val (.int v4), .val (.int v9), .val (.int v11), .val (.ref b13), .val (.long v24), .second, .val (.int r27), .unset] [(.int v11), (.int v9), (.ref b13)])) t → Steps p.tables e below (s₁.setTop (entryFrame m #[(.int p1), (.int p2), (.int p3), (.int p4), (.int p5)] maxLocals)) t := by
    refine fun t k => pre28 t ?_
    show Steps p.tables e below (T26.setTop (mkF m 126 #[.val (.int p1), .val (.int p2), .val (.int p3), .val (.int p4), .val (.int p5), .val (.int v1), .val (.int v4), .val (.int v9), .val (.int v11), .val (.ref b13), .val (.long v24), .second, .unset, .unset] [(.int r27)])) _
    refine XS.istore X26.here hx rfl (hb hby at_126) rfl (l' := #[.val (.int p1), .val (.int p2), .val (.int p3), .val (.int p4), .val (.int p5), .val (.int v1), .val (.int v4), .val (.int v9), .val (.int v11), .val (.ref b13), .val (.long v24), .second, .val (.int r27), .unset]) rfl ?_
    show Steps p.tables e below (T26.setTop (mkF m 128 #[.val (.int p1), .val (.int p2), .val (.int p3), .val (.int p4), .val (.int p5), .val (.int v1), .val (.int v4), .val (.int v9), .val (.int v11), .val (.ref b13), .val (.long v24), .second, .val (.int r27), .unset] [])) _
    refine XS.aload X26.here hx rfl (hb hby at_128) rfl rfl ?_
    show Steps p.tables e below (T26.setTop (mkF m 130 #[.val (.int p1), .val (.int p2), .val (.int p3), .val (.int p4), .val (.int p5), .val (.int v1), .val (.int v4), .val (.int v9), .val (.int v11), .val (.ref b13), .val (.long v24), .second, .val (.int r27), .unset] [(.ref b13)])) _
    refine XS.iload X26.here hx rfl (hb hby at_130) rfl ?_
    show Steps p.tables e below (T26.setTop (mkF m 132 #[.val (.int p1), .val (.int p2), .val (.int p3), .val (.int p4), .val (.int p5), .val (.int v1), .val (.int v4), .val (.int v9), .val (.int v11), .val (.ref b13), .val (.long v24), .second, .val (.int r27), .unset] [(.int v9), (.ref b13)])) _
    refine XS.iload X26.here hx rfl (hb hby at_132) rfl ?_
    exact k
  have Z30 : n0 ≤ T18.heap.size := (Nat.le_trans Z18 Kq18.1)
  obtain ⟨cq30, kq30, q30a, q30b, q30c⟩ := isOf hZ ehq26 f22
  obtain ⟨_, _, ⟨T30, L30, k30, n30⟩, -, X30, ⟨Lc30, hQ30, l30, y30, z30⟩, st30⟩ := X26.virtualBack hx (y := (⟨"com/example/locatree/locatree/median/RowBlocks", "block", "(II)I"⟩ : MethodName)) (z := (⟨"com/example/locatree/locatree/median/RowBlocks", "block", "(II)I"⟩ : MethodName)) hown (mvT hZ (hw _ (List.mem_of_getElem? (i := 20) rfl))) (mvT hZ (hw _ (List.mem_of_getElem? (i := 21) rfl))) (notFace_of_selects (args := #[]) (mvT hZ (hw _ (List.mem_of_getElem? (i := 23) rfl)))) (mvT hZ (hw _ (List.mem_of_getElem? (i := 23) rfl))) (mvT hZ (hw _ (List.mem_of_getElem? (i := 22) rfl))) (by decide) (backOf (W := 0) (rm4 l Z a0 hw [] b13 v9 v11 v1 T18.heap n0 Z30 f20) hZ (hw _ (List.mem_of_getElem? (i := 24) rfl)) (hw _ (List.mem_of_getElem? (i := 3) rfl)) (by decide) (by decide)) q30a q30c (g := (mkF m 134 #[.val (.int p1), .val (.int p2), .val (.int p3), .val (.int p4), .val (.int p5), .val (.int v1), .val (.int v4), .val (.int v9), .val (.int v11), .val (.ref b13), .val (.long v24), .second, .val (.int r27), .unset] [(.int v11), (.int v9), (.ref b13)])) rfl (by rw [hml]; rfl) (Steps.refl _) (argsL := [(.int v9), (.int v11)]) (rest := []) (lenOf pd0_1 rfl) rfl (by show 2 * 0 + _ ≤ _; exact Nat.le_of_eq rfl) (hb hby at_134) (fun _ _ => ⟨rfl, ehq26, (by decide : (((0 + 1) + 0) + 0) + 0 ≤ _), (by decide : (((0 + 2) + 0) + 0) + 0 ≤ _)⟩)
  dsimp only [Pt.U, Pt.locs, Pt.cells, Pt.slots] at X30 l30 y30 z30 st30 hQ30
  subst l30 y30 z30
  obtain ⟨r31, rfl, Nq30, ehq30, hq30⟩ := hQ30
  have N30 := Fr.app N26 Nq30
  have pre32 : ∀ t, Steps p.tables e below (T30.setTop (mkF m 137 #[.val (.int p1), .val (.int p2), .val (.int p3), .val (.int p4), .val (.int p5), .val (.int v1), .val (.int v4), .val (.int v9), .val (.int v11), .val (.ref b13), .val (.long v24), .second, .val (.int r27), .unset] [(.int r31)])) t → Steps p.tables e below (s₁.setTop (entryFrame m #[(.int p1), (.int p2), (.int p3), (.int p4), (.int p5)] maxLocals)) t := fun t k => pre29 t (st30.trans k)
  obtain ⟨v33, hj34, pre34⟩ : ∃ v33 : Int32, ((r27 = ((v24 - (v24 / (2048 : Int64)) * (2048 : Int64)).toInt32) ∧ (((r31.toInt64) * (2048 : Int64)) + (r27.toInt64)) = v24 ∧ v33 = (1 : Int32)) ∨ (r27 = ((v24 - (v24 / (2048 : Int64)) * (2048 : Int64)).toInt32) ∧ ¬ ((((r31.toInt64) * (2048 : Int64)) + (r27.toInt64)) = v24) ∧ v33 = (0 : Int32)) ∨ (¬ (r27 = ((v24 - (v24 / (2048 : Int64)) * (2048 : Int64)).toInt32)) ∧ v33 = (0 : Int32))) ∧ (∀ t, Steps p.tables e below (T30.setTop (mkF m 173 #[.val (.int p1), .val (.int p2), .val (.int p3), .val (.int p4), .val (.int p5), .val (.int v1), .val (.int v4), .val (.int v9), .val (.int v11), .val (.ref b13), .val (.long v24), .second, .val (.int r27), .val (.int r31)] [(.int v33)])) t → Steps p.tables e below (s₁.setTop (entryFrame m #[(.int p1), (.int p2), (.int p3), (.int p4), (.int p5)] maxLocals)) t) := by
    by_cases hb0_148 : r27 = ((v24 - (v24 / (2048 : Int64)) * (2048 : Int64)).toInt32)
    · skip
      by_cases hb1_165 : (((r31.toInt64) * (2048 : Int64)) + (r27.toInt64)) = v24
      · skip
        refine ⟨(1 : Int32), Or.inl (⟨hb0_148, hb1_165, rfl⟩), fun t k => pre32 t ?_⟩
        show Steps p.tables e below (T30.setTop (mkF m 137 #[.val (.int p1), .val (.int p2), .val (.int p3), .val (.int p4), .val (.int p5), .val (.int v1), .val (.int v4), .val (.int v9), .val (.int v11), .val (.ref b13), .val (.long v24), .second, .val (.int r27), .unset] [(.int r31)])) _
        refine XS.istore X30.here hx rfl (hb hby at_137) rfl (l' := #[.val (.int p1), .val (.int p2), .val (.int p3), .val (.int p4), .val (.int p5), .val (.int v1), .val (.int v4), .val (.int v9), .val (.int v11), .val (.ref b13), .val (.long v24), .second, .val (.int r27), .val (.int r31)]) rfl ?_
        show Steps p.tables e below (T30.setTop (mkF m 139 #[.val (.int p1), .val (.int p2), .val (.int p3), .val (.int p4), .val (.int p5), .val (.int v1), .val (.int v4), .val (.int v9), .val (.int v11), .val (.ref b13), .val (.long v24), .second, .val (.int r27), .val (.int r31)] [])) _
        refine XS.iload X30.here hx rfl (hb hby at_139) rfl ?_
        show Steps p.tables e below (T30.setTop (mkF m 141 #[.val (.int p1), .val (.int p2), .val (.int p3), .val (.int p4), .val (.int p5), .val (.int v1), .val (.int v4), .val (.int v9), .val (.int v11), .val (.ref b13), .val (.long v24), .second, .val (.int r27), .val (.int r31)] [(.int r27)])) _
        refine XS.lload X30.here hx rfl (hb hby at_141) rfl ?_
        show Steps p.tables e below (T30.setTop (mkF m 143 #[.val (.int p1), .val (.int p2), .val (.int p3), .val (.int p4), .val (.int p5), .val (.int v1), .val (.int v4), .val (.int v9), .val (.int v11), .val (.ref b13), .val (.long v24), .second, .val (.int r27), .val (.int r31)] [(.long v24), (.int r27)])) _
        refine X30.ldc2Long hx hown (mvT hZ (hw _ (List.mem_of_getElem? (i := 25) rfl))) (g := (mkF m 143 #[.val (.int p1), .val (.int p2), .val (.int p3), .val (.int p4), .val (.int p5), .val (.int v1), .val (.int v4), .val (.int v9), .val (.int v11), .val (.ref b13), .val (.long v24), .second, .val (.int r27), .val (.int r31)] [(.long v24), (.int r27)])) rfl (hb hby at_143) _ ?_
        show Steps p.tables e below (T30.setTop (mkF m 146 #[.val (.int p1), .val (.int p2), .val (.int p3), .val (.int p4), .val (.int p5), .val (.int v1), .val (.int v4), .val (.int v9), .val (.int v11), .val (.ref b13), .val (.long v24), .second, .val (.int r27), .val (.int r31)] [(.long (2048 : Int64)), (.long v24), (.int r27)])) _
        refine XS.lrem X30.here hx rfl (hb hby at_146) rfl (by decide) ?_
        show Steps p.tables e below (T30.setTop (mkF m 147 #[.val (.int p1), .val (.int p2), .val (.int p3), .val (.int p4), .val (.int p5), .val (.int v1), .val (.int v4), .val (.int v9), .val (.int v11), .val (.ref b13), .val (.long v24), .second, .val (.int r27), .val (.int r31)] [(.long (v24 - (v24 / (2048 : Int64)) * (2048 : Int64))), (.int r27)])) _
        refine XS.l2i X30.here hx rfl (hb hby at_147) rfl ?_
        show Steps p.tables e below (T30.setTop (mkF m 148 #[.val (.int p1), .val (.int p2), .val (.int p3), .val (.int p4), .val (.int p5), .val (.int v1), .val (.int v4), .val (.int v9), .val (.int v11), .val (.ref b13), .val (.long v24), .second, .val (.int r27), .val (.int r31)] [(.int ((v24 - (v24 / (2048 : Int64)) * (2048 : Int64)).toInt32)), (.int r27)])) _
        refine XS.icmpNo X30.here hx rfl (hb hby at_148) rfl (teq hb0_148).2 ?_
        show Steps p.tables e below (T30.setTop (mkF m 151 #[.val (.int p1), .val (.int p2), .val (.int p3), .val (.int p4), .val (.int p5), .val (.int v1), .val (.int v4), .val (.int v9), .val (.int v11), .val (.ref b13), .val (.long v24), .second, .val (.int r27), .val (.int r31)] [])) _
        refine XS.iload X30.here hx rfl (hb hby at_151) rfl ?_
        show Steps p.tables e below (T30.setTop (mkF m 153 #[.val (.int p1), .val (.int p2), .val (.int p3), .val (.int p4), .val (.int p5), .val (.int v1), .val (.int v4), .val (.int v9), .val (.int v11), .val (.ref b13), .val (.long v24), .second, .val (.int r27), .val (.int r31)] [(.int r31)])) _
        refine XS.i2l X30.here hx rfl (hb hby at_153) rfl ?_
        show Steps p.tables e below (T30.setTop (mkF m 154 #[.val (.int p1), .val (.int p2), .val (.int p3), .val (.int p4), .val (.int p5), .val (.int v1), .val (.int v4), .val (.int v9), .val (.int v11), .val (.ref b13), .val (.long v24), .second, .val (.int r27), .val (.int r31)] [(.long (r31.toInt64))])) _
        refine X30.ldc2Long hx hown (mvT hZ (hw _ (List.mem_of_getElem? (i := 25) rfl))) (g := (mkF m 154 #[.val (.int p1), .val (.int p2), .val (.int p3), .val (.int p4), .val (.int p5), .val (.int v1), .val (.int v4), .val (.int v9), .val (.int v11), .val (.ref b13), .val (.long v24), .second, .val (.int r27), .val (.int r31)] [(.long (r31.toInt64))])) rfl (hb hby at_154) _ ?_
        show Steps p.tables e below (T30.setTop (mkF m 157 #[.val (.int p1), .val (.int p2), .val (.int p3), .val (.int p4), .val (.int p5), .val (.int v1), .val (.int v4), .val (.int v9), .val (.int v11), .val (.ref b13), .val (.long v24), .second, .val (.int r27), .val (.int r31)] [(.long (2048 : Int64)), (.long (r31.toInt64))])) _
        refine XS.lmul X30.here hx rfl (hb hby at_157) rfl ?_
        show Steps p.tables e below (T30.setTop (mkF m 158 #[.val (.int p1), .val (.int p2), .val (.int p3), .val (.int p4), .val (.int p5), .val (.int v1), .val (.int v4), .val (.int v9), .val (.int v11), .val (.ref b13), .val (.long v24), .second, .val (.int r27), .val (.int r31)] [(.long ((r31.toInt64) * (2048 : Int64)))])) _
        refine XS.iload X30.here hx rfl (hb hby at_158) rfl ?_
        show Steps p.tables e below (T30.setTop (mkF m 160 #[.val (.int p1), .val (.int p2), .val (.int p3), .val (.int p4), .val (.int p5), .val (.int v1), .val (.int v4), .val (.int v9), .val (.int v11), .val (.ref b13), .val (.long v24), .second, .val (.int r27), .val (.int r31)] [(.int r27), (.long ((r31.toInt64) * (2048 : Int64)))])) _
        refine XS.i2l X30.here hx rfl (hb hby at_160) rfl ?_
        show Steps p.tables e below (T30.setTop (mkF m 161 #[.val (.int p1), .val (.int p2), .val (.int p3), .val (.int p4), .val (.int p5), .val (.int v1), .val (.int v4), .val (.int v9), .val (.int v11), .val (.ref b13), .val (.long v24), .second, .val (.int r27), .val (.int r31)] [(.long (r27.toInt64)), (.long ((r31.toInt64) * (2048 : Int64)))])) _
        refine XS.ladd X30.here hx rfl (hb hby at_161) rfl ?_
        show Steps p.tables e below (T30.setTop (mkF m 162 #[.val (.int p1), .val (.int p2), .val (.int p3), .val (.int p4), .val (.int p5), .val (.int v1), .val (.int v4), .val (.int v9), .val (.int v11), .val (.ref b13), .val (.long v24), .second, .val (.int r27), .val (.int r31)] [(.long (((r31.toInt64) * (2048 : Int64)) + (r27.toInt64)))])) _
        refine XS.lload X30.here hx rfl (hb hby at_162) rfl ?_
        show Steps p.tables e below (T30.setTop (mkF m 164 #[.val (.int p1), .val (.int p2), .val (.int p3), .val (.int p4), .val (.int p5), .val (.int v1), .val (.int v4), .val (.int v9), .val (.int v11), .val (.ref b13), .val (.long v24), .second, .val (.int r27), .val (.int r31)] [(.long v24), (.long (((r31.toInt64) * (2048 : Int64)) + (r27.toInt64)))])) _
        refine XS.lcmp X30.here hx rfl (hb hby at_164) rfl ?_
        show Steps p.tables e below (T30.setTop (mkF m 165 #[.val (.int p1), .val (.int p2), .val (.int p3), .val (.int p4), .val (.int p5), .val (.int v1), .val (.int v4), .val (.int v9), .val (.int v11), .val (.ref b13), .val (.long v24), .second, .val (.int r27), .val (.int r31)] [(.int (lcmpW (((r31.toInt64) * (2048 : Int64)) + (r27.toInt64)) v24))])) _
        refine XS.ifNo X30.here hx rfl (hb hby at_165) rfl (jteq hb1_165).2 ?_
        show Steps p.tables e below (T30.setTop (mkF m 168 #[.val (.int p1), .val (.int p2), .val (.int p3), .val (.int p4), .val (.int p5), .val (.int v1), .val (.int v4), .val (.int v9), .val (.int v11), .val (.ref b13), .val (.long v24), .second, .val (.int r27), .val (.int r31)] [])) _
        refine XS.iconst X30.here hx rfl (hb hby at_168) ?_
        show Steps p.tables e below (T30.setTop (mkF m 169 #[.val (.int p1), .val (.int p2), .val (.int p3), .val (.int p4), .val (.int p5), .val (.int v1), .val (.int v4), .val (.int v9), .val (.int v11), .val (.ref b13), .val (.long v24), .second, .val (.int r27), .val (.int r31)] [(.int (1 : Int32))])) _
        refine XS.goto X30.here hx rfl (pc0 := 169) (pc' := 173) rfl (hb hby at_169) (by decide) (by decide) ?_
        exact k
      · skip
        refine ⟨(0 : Int32), Or.inr (Or.inl (⟨hb0_148, hb1_165, rfl⟩)), fun t k => pre32 t ?_⟩
        show Steps p.tables e below (T30.setTop (mkF m 137 #[.val (.int p1), .val (.int p2), .val (.int p3), .val (.int p4), .val (.int p5), .val (.int v1), .val (.int v4), .val (.int v9), .val (.int v11), .val (.ref b13), .val (.long v24), .second, .val (.int r27), .unset] [(.int r31)])) _
        refine XS.istore X30.here hx rfl (hb hby at_137) rfl (l' := #[.val (.int p1), .val (.int p2), .val (.int p3), .val (.int p4), .val (.int p5), .val (.int v1), .val (.int v4), .val (.int v9), .val (.int v11), .val (.ref b13), .val (.long v24), .second, .val (.int r27), .val (.int r31)]) rfl ?_
        show Steps p.tables e below (T30.setTop (mkF m 139 #[.val (.int p1), .val (.int p2), .val (.int p3), .val (.int p4), .val (.int p5), .val (.int v1), .val (.int v4), .val (.int v9), .val (.int v11), .val (.ref b13), .val (.long v24), .second, .val (.int r27), .val (.int r31)] [])) _
        refine XS.iload X30.here hx rfl (hb hby at_139) rfl ?_
        show Steps p.tables e below (T30.setTop (mkF m 141 #[.val (.int p1), .val (.int p2), .val (.int p3), .val (.int p4), .val (.int p5), .val (.int v1), .val (.int v4), .val (.int v9), .val (.int v11), .val (.ref b13), .val (.long v24), .second, .val (.int r27), .val (.int r31)] [(.int r27)])) _
        refine XS.lload X30.here hx rfl (hb hby at_141) rfl ?_
        show Steps p.tables e below (T30.setTop (mkF m 143 #[.val (.int p1), .val (.int p2), .val (.int p3), .val (.int p4), .val (.int p5), .val (.int v1), .val (.int v4), .val (.int v9), .val (.int v11), .val (.ref b13), .val (.long v24), .second, .val (.int r27), .val (.int r31)] [(.long v24), (.int r27)])) _
        refine X30.ldc2Long hx hown (mvT hZ (hw _ (List.mem_of_getElem? (i := 25) rfl))) (g := (mkF m 143 #[.val (.int p1), .val (.int p2), .val (.int p3), .val (.int p4), .val (.int p5), .val (.int v1), .val (.int v4), .val (.int v9), .val (.int v11), .val (.ref b13), .val (.long v24), .second, .val (.int r27), .val (.int r31)] [(.long v24), (.int r27)])) rfl (hb hby at_143) _ ?_
        show Steps p.tables e below (T30.setTop (mkF m 146 #[.val (.int p1), .val (.int p2), .val (.int p3), .val (.int p4), .val (.int p5), .val (.int v1), .val (.int v4), .val (.int v9), .val (.int v11), .val (.ref b13), .val (.long v24), .second, .val (.int r27), .val (.int r31)] [(.long (2048 : Int64)), (.long v24), (.int r27)])) _
        refine XS.lrem X30.here hx rfl (hb hby at_146) rfl (by decide) ?_
        show Steps p.tables e below (T30.setTop (mkF m 147 #[.val (.int p1), .val (.int p2), .val (.int p3), .val (.int p4), .val (.int p5), .val (.int v1), .val (.int v4), .val (.int v9), .val (.int v11), .val (.ref b13), .val (.long v24), .second, .val (.int r27), .val (.int r31)] [(.long (v24 - (v24 / (2048 : Int64)) * (2048 : Int64))), (.int r27)])) _
        refine XS.l2i X30.here hx rfl (hb hby at_147) rfl ?_
        show Steps p.tables e below (T30.setTop (mkF m 148 #[.val (.int p1), .val (.int p2), .val (.int p3), .val (.int p4), .val (.int p5), .val (.int v1), .val (.int v4), .val (.int v9), .val (.int v11), .val (.ref b13), .val (.long v24), .second, .val (.int r27), .val (.int r31)] [(.int ((v24 - (v24 / (2048 : Int64)) * (2048 : Int64)).toInt32)), (.int r27)])) _
        refine XS.icmpNo X30.here hx rfl (hb hby at_148) rfl (teq hb0_148).2 ?_
        show Steps p.tables e below (T30.setTop (mkF m 151 #[.val (.int p1), .val (.int p2), .val (.int p3), .val (.int p4), .val (.int p5), .val (.int v1), .val (.int v4), .val (.int v9), .val (.int v11), .val (.ref b13), .val (.long v24), .second, .val (.int r27), .val (.int r31)] [])) _
        refine XS.iload X30.here hx rfl (hb hby at_151) rfl ?_
        show Steps p.tables e below (T30.setTop (mkF m 153 #[.val (.int p1), .val (.int p2), .val (.int p3), .val (.int p4), .val (.int p5), .val (.int v1), .val (.int v4), .val (.int v9), .val (.int v11), .val (.ref b13), .val (.long v24), .second, .val (.int r27), .val (.int r31)] [(.int r31)])) _
        refine XS.i2l X30.here hx rfl (hb hby at_153) rfl ?_
        show Steps p.tables e below (T30.setTop (mkF m 154 #[.val (.int p1), .val (.int p2), .val (.int p3), .val (.int p4), .val (.int p5), .val (.int v1), .val (.int v4), .val (.int v9), .val (.int v11), .val (.ref b13), .val (.long v24), .second, .val (.int r27), .val (.int r31)] [(.long (r31.toInt64))])) _
        refine X30.ldc2Long hx hown (mvT hZ (hw _ (List.mem_of_getElem? (i := 25) rfl))) (g := (mkF m 154 #[.val (.int p1), .val (.int p2), .val (.int p3), .val (.int p4), .val (.int p5), .val (.int v1), .val (.int v4), .val (.int v9), .val (.int v11), .val (.ref b13), .val (.long v24), .second, .val (.int r27), .val (.int r31)] [(.long (r31.toInt64))])) rfl (hb hby at_154) _ ?_
        show Steps p.tables e below (T30.setTop (mkF m 157 #[.val (.int p1), .val (.int p2), .val (.int p3), .val (.int p4), .val (.int p5), .val (.int v1), .val (.int v4), .val (.int v9), .val (.int v11), .val (.ref b13), .val (.long v24), .second, .val (.int r27), .val (.int r31)] [(.long (2048 : Int64)), (.long (r31.toInt64))])) _
        refine XS.lmul X30.here hx rfl (hb hby at_157) rfl ?_
        show Steps p.tables e below (T30.setTop (mkF m 158 #[.val (.int p1), .val (.int p2), .val (.int p3), .val (.int p4), .val (.int p5), .val (.int v1), .val (.int v4), .val (.int v9), .val (.int v11), .val (.ref b13), .val (.long v24), .second, .val (.int r27), .val (.int r31)] [(.long ((r31.toInt64) * (2048 : Int64)))])) _
        refine XS.iload X30.here hx rfl (hb hby at_158) rfl ?_
        show Steps p.tables e below (T30.setTop (mkF m 160 #[.val (.int p1), .val (.int p2), .val (.int p3), .val (.int p4), .val (.int p5), .val (.int v1), .val (.int v4), .val (.int v9), .val (.int v11), .val (.ref b13), .val (.long v24), .second, .val (.int r27), .val (.int r31)] [(.int r27), (.long ((r31.toInt64) * (2048 : Int64)))])) _
        refine XS.i2l X30.here hx rfl (hb hby at_160) rfl ?_
        show Steps p.tables e below (T30.setTop (mkF m 161 #[.val (.int p1), .val (.int p2), .val (.int p3), .val (.int p4), .val (.int p5), .val (.int v1), .val (.int v4), .val (.int v9), .val (.int v11), .val (.ref b13), .val (.long v24), .second, .val (.int r27), .val (.int r31)] [(.long (r27.toInt64)), (.long ((r31.toInt64) * (2048 : Int64)))])) _
        refine XS.ladd X30.here hx rfl (hb hby at_161) rfl ?_
        show Steps p.tables e below (T30.setTop (mkF m 162 #[.val (.int p1), .val (.int p2), .val (.int p3), .val (.int p4), .val (.int p5), .val (.int v1), .val (.int v4), .val (.int v9), .val (.int v11), .val (.ref b13), .val (.long v24), .second, .val (.int r27), .val (.int r31)] [(.long (((r31.toInt64) * (2048 : Int64)) + (r27.toInt64)))])) _
        refine XS.lload X30.here hx rfl (hb hby at_162) rfl ?_
        show Steps p.tables e below (T30.setTop (mkF m 164 #[.val (.int p1), .val (.int p2), .val (.int p3), .val (.int p4), .val (.int p5), .val (.int v1), .val (.int v4), .val (.int v9), .val (.int v11), .val (.ref b13), .val (.long v24), .second, .val (.int r27), .val (.int r31)] [(.long v24), (.long (((r31.toInt64) * (2048 : Int64)) + (r27.toInt64)))])) _
        refine XS.lcmp X30.here hx rfl (hb hby at_164) rfl ?_
        show Steps p.tables e below (T30.setTop (mkF m 165 #[.val (.int p1), .val (.int p2), .val (.int p3), .val (.int p4), .val (.int p5), .val (.int v1), .val (.int v4), .val (.int v9), .val (.int v11), .val (.ref b13), .val (.long v24), .second, .val (.int r27), .val (.int r31)] [(.int (lcmpW (((r31.toInt64) * (2048 : Int64)) + (r27.toInt64)) v24))])) _
        refine XS.ifYes X30.here hx rfl (pc0 := 165) (pc' := 172) rfl (hb hby at_165) rfl (jfeq hb1_165).2 (by decide) (by decide) ?_
        show Steps p.tables e below (T30.setTop (mkF m 172 #[.val (.int p1), .val (.int p2), .val (.int p3), .val (.int p4), .val (.int p5), .val (.int v1), .val (.int v4), .val (.int v9), .val (.int v11), .val (.ref b13), .val (.long v24), .second, .val (.int r27), .val (.int r31)] [])) _
        refine XS.iconst X30.here hx rfl (hb hby at_172) ?_
        exact k
    · skip
      refine ⟨(0 : Int32), Or.inr (Or.inr (⟨hb0_148, rfl⟩)), fun t k => pre32 t ?_⟩
      show Steps p.tables e below (T30.setTop (mkF m 137 #[.val (.int p1), .val (.int p2), .val (.int p3), .val (.int p4), .val (.int p5), .val (.int v1), .val (.int v4), .val (.int v9), .val (.int v11), .val (.ref b13), .val (.long v24), .second, .val (.int r27), .unset] [(.int r31)])) _
      refine XS.istore X30.here hx rfl (hb hby at_137) rfl (l' := #[.val (.int p1), .val (.int p2), .val (.int p3), .val (.int p4), .val (.int p5), .val (.int v1), .val (.int v4), .val (.int v9), .val (.int v11), .val (.ref b13), .val (.long v24), .second, .val (.int r27), .val (.int r31)]) rfl ?_
      show Steps p.tables e below (T30.setTop (mkF m 139 #[.val (.int p1), .val (.int p2), .val (.int p3), .val (.int p4), .val (.int p5), .val (.int v1), .val (.int v4), .val (.int v9), .val (.int v11), .val (.ref b13), .val (.long v24), .second, .val (.int r27), .val (.int r31)] [])) _
      refine XS.iload X30.here hx rfl (hb hby at_139) rfl ?_
      show Steps p.tables e below (T30.setTop (mkF m 141 #[.val (.int p1), .val (.int p2), .val (.int p3), .val (.int p4), .val (.int p5), .val (.int v1), .val (.int v4), .val (.int v9), .val (.int v11), .val (.ref b13), .val (.long v24), .second, .val (.int r27), .val (.int r31)] [(.int r27)])) _
      refine XS.lload X30.here hx rfl (hb hby at_141) rfl ?_
      show Steps p.tables e below (T30.setTop (mkF m 143 #[.val (.int p1), .val (.int p2), .val (.int p3), .val (.int p4), .val (.int p5), .val (.int v1), .val (.int v4), .val (.int v9), .val (.int v11), .val (.ref b13), .val (.long v24), .second, .val (.int r27), .val (.int r31)] [(.long v24), (.int r27)])) _
      refine X30.ldc2Long hx hown (mvT hZ (hw _ (List.mem_of_getElem? (i := 25) rfl))) (g := (mkF m 143 #[.val (.int p1), .val (.int p2), .val (.int p3), .val (.int p4), .val (.int p5), .val (.int v1), .val (.int v4), .val (.int v9), .val (.int v11), .val (.ref b13), .val (.long v24), .second, .val (.int r27), .val (.int r31)] [(.long v24), (.int r27)])) rfl (hb hby at_143) _ ?_
      show Steps p.tables e below (T30.setTop (mkF m 146 #[.val (.int p1), .val (.int p2), .val (.int p3), .val (.int p4), .val (.int p5), .val (.int v1), .val (.int v4), .val (.int v9), .val (.int v11), .val (.ref b13), .val (.long v24), .second, .val (.int r27), .val (.int r31)] [(.long (2048 : Int64)), (.long v24), (.int r27)])) _
      refine XS.lrem X30.here hx rfl (hb hby at_146) rfl (by decide) ?_
      show Steps p.tables e below (T30.setTop (mkF m 147 #[.val (.int p1), .val (.int p2), .val (.int p3), .val (.int p4), .val (.int p5), .val (.int v1), .val (.int v4), .val (.int v9), .val (.int v11), .val (.ref b13), .val (.long v24), .second, .val (.int r27), .val (.int r31)] [(.long (v24 - (v24 / (2048 : Int64)) * (2048 : Int64))), (.int r27)])) _
      refine XS.l2i X30.here hx rfl (hb hby at_147) rfl ?_
      show Steps p.tables e below (T30.setTop (mkF m 148 #[.val (.int p1), .val (.int p2), .val (.int p3), .val (.int p4), .val (.int p5), .val (.int v1), .val (.int v4), .val (.int v9), .val (.int v11), .val (.ref b13), .val (.long v24), .second, .val (.int r27), .val (.int r31)] [(.int ((v24 - (v24 / (2048 : Int64)) * (2048 : Int64)).toInt32)), (.int r27)])) _
      refine XS.icmpYes X30.here hx rfl (pc0 := 148) (pc' := 172) rfl (hb hby at_148) rfl (feq hb0_148).2 (by decide) (by decide) ?_
      show Steps p.tables e below (T30.setTop (mkF m 172 #[.val (.int p1), .val (.int p2), .val (.int p3), .val (.int p4), .val (.int p5), .val (.int v1), .val (.int v4), .val (.int v9), .val (.int v11), .val (.ref b13), .val (.long v24), .second, .val (.int r27), .val (.int r31)] [])) _
      refine XS.iconst X30.here hx rfl (hb hby at_172) ?_
      exact k
  have hfin : v33 = 1 := by
    have fl := B.2.1
    rw [← hv_v24] at fl
    have bl := B.2.2.1
    rw [← hq30] at bl
    have W := own_two B.1 fl hq26 bl
    rcases hj34 with q | q | q <;> first | exact q.2.2 | exact absurd W.1 q.1 | exact absurd W.2 q.2.1
  subst hfin
  obtain ⟨fs, hr, hrun, hended, hW, hsame⟩ := X30.leave (v := some (.int (1 : Int32))) (fun h => by rw [Bd.returns] at h; cases h)
  refine ⟨_, _, pre34 _ ?_, hrun, hended, _, _, rfl, ?_, ⟨_, rfl⟩, hW, hsame.mono (by decide) (by decide)⟩
  · skip
    show Steps p.tables e below (T30.setTop (mkF m 173 #[.val (.int p1), .val (.int p2), .val (.int p3), .val (.int p4), .val (.int p5), .val (.int v1), .val (.int v4), .val (.int v9), .val (.int v11), .val (.ref b13), .val (.long v24), .second, .val (.int r27), .val (.int r31)] [(.int (1 : Int32))])) _
    exact retN X30 hx (t := .boolean) Bd.returns (by simp) (hb hby at_173) hr
  · show Q0 Z p1 p2 p3 p4 p5 h0 n0 _ T30.heap _
    rw [ehq30]
    exact ⟨rfl, N30⟩
set_option maxRecDepth 65536 in
set_option maxHeartbeats 40000000 in
theorem comes_1 {Post : Tables → Env → Array Value → State → Outcome → State → Prop} (hpost : ∀ tb e args s v u, (limb_1_1.after args s (.returned v) u = true ∧ limb_1_2.after args s (.returned v) u = true ∧ True) → FrameEnd s (.returned v) u (Jvm.fieldLocs frame_1_writes args s ++ Jvm.arrayLocs frame_1_arrays args s ++ Jvm.staticLocs frame_1_statics s) 16 128 → Post tb e args s (.returned v) u) :
    ArmFor flags0 classFile x code maxLocals ret World_1 tables_1 room_1 Calls_1 rest_1 Pre_1 Post := by
  intro l hfl _ _ p e ha hc hk s m args below hf hA hF happ hP
  obtain ⟨hcalls, hrest, hpre⟩ := hP
  obtain ⟨-, -, -, hnamed, -, -, -, hat⟩ := (Spec.applies_iff hf).mp happ
  obtain ⟨hg, hn⟩ := and_e (Cond.before_iff.mp (show (Jvm.Cond.and given_1 narrow_1).before args s = true from hpre))
  obtain ⟨k0, g0⟩ := and_e hg
  obtain ⟨k1, g1⟩ := and_e g0
  obtain ⟨k2, g2⟩ := and_e g1
  obtain ⟨k3, g3⟩ := and_e g2
  obtain ⟨k4, g4⟩ := and_e g3
  obtain ⟨w0, w1, w2, w3, w4, rfl⟩ : ∃ w0 w1 w2 w3 w4 : Value, args = #[w0, w1, w2, w3, w4] := by
    have hs : args.size = 5 := by simpa [Cond.value, given_1] using k0
    obtain ⟨L⟩ := args
    match L, hs with
    | [w0, w1, w2, w3, w4], _ => exact ⟨w0, w1, w2, w3, w4, rfl⟩
  have hw := fun d (hd : d ∈ tables_1) => atoms_spec (ws := Jvm.Cond.code x code maxLocals ret :: tables_1) hat d (List.mem_cons_of_mem _ hd)
  have hfit : Fit s := fun {y c} hc i hi => by
    obtain ⟨ha, rfl⟩ := Array.getElem?_eq_some_iff.mp hc
    have q := List.all_eq_true.mp ((Array.all_eq_true_iff_forall_mem.mp hF) _ (Array.getElem_mem ha)) i (List.mem_range.mpr hi)
    simpa [Array.getElem?_eq_getElem hi] using q
  obtain ⟨i0, ei0⟩ := is_v k1
  obtain rfl : w0 = (.int i0) := Option.some.inj ei0
  obtain ⟨i1, ei1⟩ := is_v k2
  obtain rfl : w1 = (.int i1) := Option.some.inj ei1
  obtain ⟨i2, ei2⟩ := is_v k3
  obtain rfl : w2 = (.int i2) := Option.some.inj ei2
  obtain ⟨i3, ei3⟩ := is_v k4
  obtain rfl : w3 = (.int i3) := Option.some.inj ei3
  obtain ⟨i4, ei4⟩ := is_v g4
  obtain rfl : w4 = (.int i4) := Option.some.inj ei4
  obtain ⟨n, o, h1, h2, h3, _, L, rfl, ⟨rfl, N⟩, hq⟩ := rm0 l s _ hw tables_1 i0 i1 i2 i3 i4  s.heap s.heap.size (Nat.le_refl _)  p e ha hc hk s m _ below hf ((Spec.applies_iff_loose hf).mp happ).1 ⟨rfl, State.Warmed39.refl s, rfl⟩ trivial
  refine ⟨n, _, h1, h2, h3, hpost _ _ _ _ _ _ ⟨Cond.after_iff.mpr rfl, Cond.after_iff.mpr (eq_i res_at (Term.int_eval (1)) rfl), trivial⟩ ⟨hq.1, hq.2.1, (hq.2.2.sift fun y hy => Or.inr (N y hy)).mono (by decide) (by decide)⟩⟩
theorem main_1_1 : Claimed_1_1 := comes_1 fun _ _ _ _ _ _ h hF => ⟨h.1, hF⟩
theorem main_1_2 : Claimed_1_2 := comes_1 fun _ _ _ _ _ _ h hF => ⟨h.2.1, hF⟩
end Jvm.Pilot.@@N@@
namespace Jvm.Pilot.@@N@@
open Jvm Jvm.ClassFile Sem Op Lib Jvm.Free Jvm.Stand Jvm.Pilot.@@N@@.Jvm.D
/-! MADE BY PROGRAM (witnessworld.py) out of the Statement's table words and the real class files: 9 classes; the members and pool entries that the words name. The judged class is class 1, her method 1. -/
namespace start1
open Jvm.ClassFile
def u (s : String) : CpInfo := .utf8 (stringToUtf16 s)
/-- a pool by its gaps: so many unusable entries, then the entry; so many at the end -/
def gap : Nat → List CpInfo → List CpInfo
  | 0, r => r
  | n + 1, r => .unusable :: gap n r
def poolList (es : List (Nat × CpInfo)) (last : Nat) : List CpInfo := es.foldr (fun e r => gap e.1 (e.2 :: r)) (gap last [])
def pool (es : List (Nat × CpInfo)) (last : Nat) : Array CpInfo := ⟨poolList es last⟩
def fileOf (pool : Array CpInfo) (this : Nat) (attrs : Array Attribute := #[]) (ms : Array MethodInfo := #[]) (fl : Nat := 33) (sup : Nat := 0) (ifs : Array Nat := #[]) (fds : Array FieldInfo := #[]) : ClassFile where
  minorVersion := 0
  majorVersion := 65
  constantPool := pool
  accessFlags := fl
  thisClass := this
  superClass := sup
  interfaces := ifs
  fields := fds
  methods := ms
  attributes := attrs
def plain (name : String) (sup : Option ClassId) : Class where
  name := name
  kind := .ordinary
  loader := none
  accessFlags := 33
  super := sup
  interfaces := #[]
  cf := none
  fields := #[]
  methods := #[]
  instanceTypes := #[]
  staticTypes := #[]
  resolved := #[]
  callSites := []
  init := .initialized
  statics := none
  mirror := none

def pool0 : Array CpInfo := pool [(5, u "<init>"), (0, u "()V"), (1, .class_ 10), (1, u "java/lang/Object")] 113

def k0c0 : Code := { maxStack := 0, maxLocals := 1, code := object_method_1_code, exceptionTable := #[], attributes := #[] }
def k0m0 : Method := { name := "<init>", desc := "()V", sig := { parameters := [], returnType := none }, accessFlags := 1, code := some k0c0 }
/-- java/lang/Object -/
def k0 : Class := { plain "java/lang/Object" none with
  accessFlags := 33
  interfaces := #[]
  cf := some (fileOf pool0 8 #[] #[{ accessFlags := 1, nameIndex := 5, descriptorIndex := 6, attributes := #[] }] 33 0 #[] #[])
  fields := #[]
  methods := #[k0m0]
  instanceTypes := #[]
  staticTypes := #[]
  resolved := Array.replicate 124 none
  statics := none }

def pool1 : Array CpInfo := pool [(2, .class_ 4), (1, u "java/lang/Object"), (0, u "<init>"), (0, u "()V"), (0, .integer 2147483647), (2, .class_ 11), (0, u "com/example/locatree/locatree/median/RowBlocks"), (0, .methodref 10 13), (0, .nameAndType 5 14), (0, u "(II)V"), (0, .methodref 10 16), (0, .nameAndType 17 18), (0, u "place"), (0, u "(II)I"), (0, .methodref 10 20), (0, .nameAndType 21 18), (0, u "block"), (0, .long 2048), (1, .class_ 25), (0, u "com/example/locatree/locatree/median/RowBlocksPlacePinLaw"), (2, u "law"), (0, u "(IIIII)Z")] 3

def k1m0 : Method := { name := "<init>", desc := "()V", sig := { parameters := [], returnType := none }, accessFlags := 1, code := none }
def k1c1 : Code := { maxStack := 5, maxLocals := 14, code := code, exceptionTable := #[], attributes := #[] }
def k1m1 : Method := { name := "law", desc := "(IIIII)Z", sig := { parameters := [.int, .int, .int, .int, .int], returnType := some .boolean }, accessFlags := 9, code := some k1c1 }
/-- com/example/locatree/locatree/median/RowBlocksPlacePinLaw -/
def k1 : Class := { plain "com/example/locatree/locatree/median/RowBlocksPlacePinLaw" (some 0) with
  accessFlags := 49
  interfaces := #[]
  cf := some (fileOf pool1 24 #[] #[{ accessFlags := 1, nameIndex := 5, descriptorIndex := 6, attributes := #[] }, { accessFlags := 9, nameIndex := 28, descriptorIndex := 29, attributes := #[] }] 49 2 #[] #[])
  fields := #[]
  methods := #[k1m0, k1m1]
  instanceTypes := #[]
  staticTypes := #[]
  resolved := Array.replicate 33 none
  statics := none }

def pool2 : Array CpInfo := pool [(1, .class_ 2), (0, u "com/example/locatree/locatree/median/RowBlocks"), (0, .methodref 4 5), (0, .class_ 6), (0, .nameAndType 7 8), (0, u "java/lang/Object"), (0, u "<init>"), (0, u "()V"), (2, .long 2147483647), (10, .fieldref 1 23), (0, .nameAndType 24 25), (0, u "rows"), (0, u "I"), (0, .fieldref 1 27), (0, .nameAndType 28 25), (0, u "length"), (21, u "(II)I"), (8, u "SHIFT"), (2, u "MASK"), (1, u "MOST_ENTRIES"), (1, u "(II)V"), (3, u "block"), (0, u "place")] 29

def k2c0 : Code := { maxStack := 4, maxLocals := 3, code := prog_7_method_1_code, exceptionTable := #[], attributes := #[] }
def k2m0 : Method := { name := "<init>", desc := "(II)V", sig := { parameters := [.int, .int], returnType := none }, accessFlags := 0, code := some k2c0 }
def k2c1 : Code := { maxStack := 2, maxLocals := 3, code := prog_7_method_2_code, exceptionTable := #[], attributes := #[] }
def k2m1 : Method := { name := "block", desc := "(II)I", sig := { parameters := [.int, .int], returnType := some .int }, accessFlags := 0, code := some k2c1 }
def k2c2 : Code := { maxStack := 2, maxLocals := 3, code := prog_7_method_3_code, exceptionTable := #[], attributes := #[] }
def k2m2 : Method := { name := "place", desc := "(II)I", sig := { parameters := [.int, .int], returnType := some .int }, accessFlags := 0, code := some k2c2 }
/-- com/example/locatree/locatree/median/RowBlocks -/
def k2 : Class := { plain "com/example/locatree/locatree/median/RowBlocks" (some 0) with
  accessFlags := 32
  interfaces := #[]
  cf := some (fileOf pool2 1 #[] #[{ accessFlags := 0, nameIndex := 7, descriptorIndex := 66, attributes := #[] }, { accessFlags := 0, nameIndex := 70, descriptorIndex := 50, attributes := #[] }, { accessFlags := 0, nameIndex := 71, descriptorIndex := 50, attributes := #[] }] 32 4 #[] #[{ accessFlags := 26, nameIndex := 59, descriptorIndex := 25, attributes := #[] }, { accessFlags := 26, nameIndex := 62, descriptorIndex := 25, attributes := #[] }, { accessFlags := 24, nameIndex := 64, descriptorIndex := 25, attributes := #[] }, { accessFlags := 18, nameIndex := 24, descriptorIndex := 25, attributes := #[] }, { accessFlags := 18, nameIndex := 28, descriptorIndex := 25, attributes := #[] }])
  fields := #[{ name := "SHIFT", type := .int, accessFlags := 26, slot := 0, constantValue := 0 }, { name := "MASK", type := .int, accessFlags := 26, slot := 1, constantValue := 0 }, { name := "MOST_ENTRIES", type := .int, accessFlags := 24, slot := 2, constantValue := 0 }, { name := "rows", type := .int, accessFlags := 18, slot := 0, constantValue := 0 }, { name := "length", type := .int, accessFlags := 18, slot := 1, constantValue := 0 }]
  methods := #[k2m0, k2m1, k2m2]
  instanceTypes := #[.int, .int]
  staticTypes := #[.int, .int, .int]
  resolved := Array.replicate 101 none
  statics := none }

def pool3 : Array CpInfo := pool [(1, u "java/lang/Cloneable"), (0, .class_ 1), (0, u "java/lang/Object"), (0, .class_ 3)] 3

/-- java/lang/Cloneable -/
def k3 : Class := { plain "java/lang/Cloneable" (some 0) with
  accessFlags := 1537
  interfaces := #[]
  cf := some (fileOf pool3 2 #[] #[] 1537 4 #[] #[])
  fields := #[]
  methods := #[]
  instanceTypes := #[]
  staticTypes := #[]
  resolved := Array.replicate 8 none
  statics := none }

def pool4 : Array CpInfo := pool [(1, u "java/io/Serializable"), (0, .class_ 1), (0, u "java/lang/Object"), (0, .class_ 3)] 3

/-- java/io/Serializable -/
def k4 : Class := { plain "java/io/Serializable" (some 0) with
  accessFlags := 1537
  interfaces := #[]
  cf := some (fileOf pool4 2 #[] #[] 1537 4 #[] #[])
  fields := #[]
  methods := #[]
  instanceTypes := #[]
  staticTypes := #[]
  resolved := Array.replicate 8 none
  statics := none }

/-- the primitive byte -/
def k5 : Class := { plain "byte" none with kind := .primitive 'B', accessFlags := 0x411 }
/-- [B -/
def k6 : Class := { plain "[B" (some 0) with kind := .array 5 .byte, interfaces := #[3, 4], accessFlags := 1041 }

/-- the primitive int -/
def k7 : Class := { plain "int" none with kind := .primitive 'I', accessFlags := 0x411 }
/-- [I -/
def k8 : Class := { plain "[I" (some 0) with kind := .array 7 .int, interfaces := #[3, 4], accessFlags := 1041 }

def heap : Heap := #[]
def classes : Array Class := #[k0, k1, k2, k3, k4, k5, k6, k7, k8]
def interned : List (Array UInt16 × Addr) := []
def slotsUsed : Nat := 0
def theMethod : MethodId := ⟨1, 1⟩
def args0 : Array Value := #[.int 5, .int 6, .int 7, .int 8, .int 3]
def aboutOver (below : List Frame) : State where
  vm := { classes := classes, interned := interned.toArray }
  heap := heap
  slotsUsed := slotsUsed
  threads := #[{ frames := .invoking theMethod args0 :: below }]
def below0 : List Frame := [.native { method := ⟨0, 0⟩, args := #[] }]
def about1 : State := aboutOver below0
def p0 : Program := .bare "" "" ""
def e0 : Env := launch0.env 0 0 0
theorem w_frames : about1.frames = Frame.invoking theMethod args0 :: below0 := rfl
set_option maxRecDepth 65536 in
theorem w_args : argsFit about1.vm theMethod args0 = true := by decide +kernel
set_option maxRecDepth 65536 in
theorem w_heap : heapFits about1 = true := by decide +kernel
set_option maxRecDepth 65536 in
theorem w_runnable : about1.curStatus? = some .runnable := by decide +kernel
set_option maxRecDepth 65536 in
theorem w_alone : about1.alone = true := by decide +kernel
set_option maxRecDepth 65536 in
theorem w_named : about1.methodNamed? x = some theMethod := by decide +kernel
set_option maxRecDepth 65536 in
theorem w_hears : about1.hears theMethod below0 = true := by decide +kernel
set_option maxRecDepth 65536 in
theorem w_ripe : about1.ripe theMethod args0 below0 = true := by decide +kernel
theorem w_running : about1.status = .running := rfl
set_option maxRecDepth 65536 in
theorem w_room : about1.hasRoom e0.platform room_1 = true :=
  launch0.hasRoom_least _ room_1 (by decide +kernel) (by decide +kernel) (by decide +kernel) (by decide +kernel) (by decide +kernel) (by decide +kernel)
theorem allAtoms_all (ts : List Jvm.Cond) (a : Array Jvm.Value) (st : Jvm.State) : (allAtoms ts).before a st = ts.all (fun c => c.before a st) := by
  induction ts with
  | nil => rfl
  | cons c t ih =>
    show (Jvm.Cond.and c (allAtoms t)).before a st = _
    rw [Jvm.Cond.before_and, ih, List.all_cons]
def words1 : List Jvm.Cond := Jvm.Cond.code x code maxLocals ret :: tables_1
/-- a 'code' word, met by the world's own term for the bytes: nothing is compared byte by byte -/
theorem code_word {y : MethodName} {bytes : ByteArray} {mx : Nat} {rt : Option FieldType} {a : Array Value} {s : State} {m : MethodId} {meth : Method} {c : Code} (h1 : s.methodNamed? y = some m) (h2 : s.vm.method? m = some meth) (h3 : meth.code = some c) (h4 : c.code = bytes)
    (h5 : (c.maxLocals == mx && c.exceptionTable.isEmpty && decide (c.maxStack ≤ mostOperands) && decide (meth.sig.returnType = rt) && !meth.locks && decide (parseMethodDescriptor y.desc = some meth.sig)) = true) : (Jvm.Cond.code y bytes mx rt).before a s = true := by
  simp only [Bool.and_eq_true, beq_iff_eq, Bool.not_eq_true', decide_eq_true_eq] at h5
  obtain ⟨⟨⟨⟨⟨g1, g2⟩, g3⟩, g4⟩, g5⟩, g6⟩ := h5
  simp [Cond.before, Cond.holds, Cond.value, h1, h2, h3, h4, g1, g2, g3, g4, g5, g6]
def isCode : Jvm.Cond → Bool
  | .code _ _ _ _ => true
  | _ => false
theorem all_split {L : List Jvm.Cond} {P : Jvm.Cond → Bool} (h1 : L.all (fun c => isCode c || P c) = true) (h2 : ∀ c ∈ L.filter isCode, P c = true) : L.all P = true := by
  refine List.all_eq_true.mpr fun c hc => ?_
  have h := List.all_eq_true.mp h1 c hc
  rcases Bool.eq_false_or_eq_true (isCode c) with hi | hi
  · exact h2 c (List.mem_filter.mpr ⟨hc, hi⟩)
  · simpa [hi] using h
set_option maxRecDepth 65536 in
theorem w_c0 : (Jvm.Cond.code x code maxLocals ret).before args0 about1 = true := code_word (m := ⟨1, 1⟩) (meth := k1m1) (c := k1c1) (by decide +kernel) rfl rfl rfl (by decide +kernel)
set_option maxRecDepth 65536 in
theorem w_c1 : (Jvm.Cond.code ({ cls := "com/example/locatree/locatree/median/RowBlocks", name := "<init>", desc := "(II)V" } : Jvm.MethodName) prog_7_method_1_code (3 : Nat) (Option.none : Option Jvm.ClassFile.FieldType)).before args0 about1 = true := code_word (m := ⟨2, 0⟩) (meth := k2m0) (c := k2c0) (by decide +kernel) rfl rfl rfl (by decide +kernel)
set_option maxRecDepth 65536 in
theorem w_c2 : (Jvm.Cond.code ({ cls := "java/lang/Object", name := "<init>", desc := "()V" } : Jvm.MethodName) object_method_1_code (1 : Nat) (Option.none : Option Jvm.ClassFile.FieldType)).before args0 about1 = true := code_word (m := ⟨0, 0⟩) (meth := k0m0) (c := k0c0) (by decide +kernel) rfl rfl rfl (by decide +kernel)
set_option maxRecDepth 65536 in
theorem w_c3 : (Jvm.Cond.code ({ cls := "com/example/locatree/locatree/median/RowBlocks", name := "place", desc := "(II)I" } : Jvm.MethodName) prog_7_method_3_code (3 : Nat) (Option.some Jvm.ClassFile.FieldType.int)).before args0 about1 = true := code_word (m := ⟨2, 2⟩) (meth := k2m2) (c := k2c2) (by decide +kernel) rfl rfl rfl (by decide +kernel)
set_option maxRecDepth 65536 in
theorem w_c4 : (Jvm.Cond.code ({ cls := "com/example/locatree/locatree/median/RowBlocks", name := "block", desc := "(II)I" } : Jvm.MethodName) prog_7_method_2_code (3 : Nat) (Option.some Jvm.ClassFile.FieldType.int)).before args0 about1 = true := code_word (m := ⟨2, 1⟩) (meth := k2m1) (c := k2c1) (by decide +kernel) rfl rfl rfl (by decide +kernel)
def codes1 : List Jvm.Cond := [Jvm.Cond.code x code maxLocals ret, Jvm.Cond.code ({ cls := "com/example/locatree/locatree/median/RowBlocks", name := "<init>", desc := "(II)V" } : Jvm.MethodName) prog_7_method_1_code (3 : Nat) (Option.none : Option Jvm.ClassFile.FieldType), Jvm.Cond.code ({ cls := "java/lang/Object", name := "<init>", desc := "()V" } : Jvm.MethodName) object_method_1_code (1 : Nat) (Option.none : Option Jvm.ClassFile.FieldType), Jvm.Cond.code ({ cls := "com/example/locatree/locatree/median/RowBlocks", name := "place", desc := "(II)I" } : Jvm.MethodName) prog_7_method_3_code (3 : Nat) (Option.some Jvm.ClassFile.FieldType.int), Jvm.Cond.code ({ cls := "com/example/locatree/locatree/median/RowBlocks", name := "block", desc := "(II)I" } : Jvm.MethodName) prog_7_method_2_code (3 : Nat) (Option.some Jvm.ClassFile.FieldType.int)]
set_option maxRecDepth 65536 in
theorem codes_eq : words1.filter isCode = codes1 := rfl
theorem w_codes : ∀ c ∈ words1.filter isCode, c.before args0 about1 = true := by
  rw [codes_eq]
  intro c hc
  simp only [codes1, List.mem_cons, List.not_mem_nil, or_false] at hc
  rcases hc with rfl | rfl | rfl | rfl | rfl
  · exact w_c0
  · exact w_c1
  · exact w_c2
  · exact w_c3
  · exact w_c4
set_option maxRecDepth 65536 in
theorem w_t1 : (words1.take 24).all (fun c => isCode c || c.before args0 about1) = true := by decide +kernel
set_option maxRecDepth 65536 in
theorem w_t2 : (words1.drop 24).all (fun c => isCode c || c.before args0 about1) = true := by decide +kernel
theorem w_tables : (allAtoms (Jvm.Cond.code x code maxLocals ret :: tables_1)).before args0 about1 = true := by
  rw [allAtoms_all]
  show words1.all (fun c => c.before args0 about1) = true
  refine all_split ?_ w_codes
  rw [← List.take_append_drop 24 words1, List.all_append, w_t1, w_t2]
  rfl
set_option maxRecDepth 65536 in
theorem w_case : (Jvm.Cond.and given_1 narrow_1).before args0 about1 = true := by decide +kernel
theorem w_applies : (headSpec (Jvm.Cond.code x code maxLocals ret :: tables_1) room_1).applies x e0.platform about1 = true :=
  (Spec.applies_iff w_frames).mpr ⟨w_running, w_runnable, w_alone, w_named, w_hears, w_ripe, w_room, w_tables⟩
theorem atStart : AtStart classFile x code maxLocals ret World_1 tables_1 room_1 Calls_1 rest_1 Pre_1 launch0 p0 e0 about1 theMethod args0 below0 :=
  ⟨lists_1, trivial, launch0.admits_env _ _ _, launch0.least_env, fairChoices_fair.cas, fairChoices_fair.clock, w_frames, w_args, w_heap, w_applies, trivial, trivial, w_case⟩
end start1
theorem witness_1 : WitnessClaimed_1 := ⟨start1.p0, start1.e0, start1.about1, start1.theMethod, start1.args0, start1.below0, start1.atStart⟩
end Jvm.Pilot.@@N@@
