import JvmDerived
import JvmDerived.Pilot.@@N@@Statement
import JvmDerived.Pilot.@@N@@Code
set_option linter.unusedVariables false
set_option linter.unusedSimpArgs false
namespace Jvm.RoadKit
open Sem ClassFile Op Lib Jvm.Stand Jvm.Free Jvm.LawKit
section New
variable {p : Program} {l : Launch} {e : Env} {R : Room} {s : State} {m : MethodId} {args : Array Value} {below : List Frame} {meth : Method} {c : Code} {T : State} {locs : List Loc} {cells slots : Nat}
theorem retI (X : Stand p l e R s m args below meth c T locs cells slots) (hx : p.tables.exec = Jvm.exec) {pc : Nat} {Ls : Array Slot} {z : Int32} {rest : List Value} (hret : meth.sig.returnType = some .int) (hd : decode c.code pc = .ok (.ireturn, 1)) {fs : List Frame}
    (hl : ∀ (f : JFrame) (acts : List Action), f.method = m → f.locked = none → f.entered = [] → (doReturn e (T.setTop f) acts (some (.int z))).1 = T.setFrames fs) : Steps p.tables e below (T.setTop (mkF m pc Ls (.int z :: rest))) (T.setFrames fs) := by
  have hm' : T.vm.method? m = some meth := X.method'
  have hn : narrow .int (.int z) = .int z := rfl
  show Steps p.tables e below (T.setTop { method := m, pc := pc, locals := Ls, stack := _ :: rest, locked := none }) _
  jvm_step X.here [X.here.top, hx, hd, hm', hret, hn]
  first | (intro acts; rw [hl _ acts rfl rfl rfl]) | rw [hl _ _ rfl rfl rfl]
  exact Steps.refl _
end New
end Jvm.RoadKit
namespace Jvm.Pilot.@@N@@
open Jvm Jvm.ClassFile Sem Op Lib Jvm.Free Jvm.Stand Jvm.LawKit Jvm.RoadKit Bundle Jvm.Pilot.@@N@@.Jvm.D
theorem own_y (a : Int32) : 0 ≤ ((a &&& 2147483647) % 178956970).toInt ∧ ((a &&& 2147483647) % 178956970).toInt < 178956970 := by
  have h1 := c_and a 2147483647 (by decide)
  have h2 := (c_iremV (a &&& 2147483647) 178956970).1 h1.1 (by decide)
  exact ⟨h2.1, h2.2.1⟩
theorem own_m (a : Int32) : 0 ≤ ((a &&& 2147483647) % 12).toInt ∧ ((a &&& 2147483647) % 12).toInt < 12 := by
  have h1 := c_and a 2147483647 (by decide)
  have h2 := (c_iremV (a &&& 2147483647) 12).1 h1.1 (by decide)
  exact ⟨h2.1, h2.2.1⟩
theorem own_n {y m : Int32} (hy : 0 ≤ y.toInt ∧ y.toInt < 178956970) (hm : 0 ≤ m.toInt ∧ m.toInt < 12) : (y * 12 + m).toInt = y.toInt * 12 + m.toInt := by
  have h1 := c_imul y 12
  have h2 := c_iadd (y * 12) m
  have h3 := rng32 (y * 12)
  have h4 := rng32 (y * 12 + m)
  rw [show (12 : Int32).toInt = 12 from rfl] at h1
  omega
theorem own_c1 {y m : Int32} (hy : 0 ≤ y.toInt ∧ y.toInt < 178956970) (hm : 0 ≤ m.toInt ∧ m.toInt < 12) : ¬ (y * 12 + m) < 0 := by
  rw [Int32.lt_iff_toInt_lt, own_n hy hm, show (0 : Int32).toInt = 0 from rfl]; omega
theorem own_c2 {y m : Int32} (hy : 0 ≤ y.toInt ∧ y.toInt < 178956970) (hm : 0 ≤ m.toInt ∧ m.toInt < 12) : (y * 12 + m) / 12 = y := by
  apply Int32.toInt_inj.mp
  rw [(c_idiv (y * 12 + m) 12 12 rfl (by decide)).1 (by rw [own_n hy hm]; omega), own_n hy hm]; omega
theorem own_c3 {y m : Int32} (hy : 0 ≤ y.toInt ∧ y.toInt < 178956970) (hm : 0 ≤ m.toInt ∧ m.toInt < 12) : (y * 12 + m) % 12 = m := by
  apply Int32.toInt_inj.mp
  rw [(c_irem (y * 12 + m) 12 12 rfl).1 (by rw [own_n hy hm]; omega), own_n hy hm]; omega
theorem d2_0 : decode jdk_30_method_1_code 0 = .ok (.aload_n 0, 1) := by decide +kernel
theorem d2_1 : decode jdk_30_method_1_code 1 = .ok (.invokespecial 1, 3) := by decide +kernel
theorem d2_4 : decode jdk_30_method_1_code 4 = .ok (.return_, 1) := by decide +kernel
theorem own_pn3 : plainName "java/lang/Record" = true := by first | (simp [plainName, overriddenIn]; done) | decide +kernel
theorem ef_2 (m : MethodId) (x0 : Addr) : entryFrame m #[(.ref x0)] 1 = mkF m 0 #[.val (.ref x0)] [] := by first | (simp [entryFrame, mkF, argsToLocals, Value.category]; done) | rfl
def Q2 (Z : State) (ar : Addr) (h0 : Heap) (n0 : Nat) (v : Option Value) (h : Heap) (L : List Loc) : Prop := v = none ∧ Fr n0 L ∧ h = h0
set_option maxRecDepth 65536 in
set_option maxHeartbeats 40000000 in
theorem rm2 (l : Launch) (Z : State) (a0 : Array Value) (hw : ∀ d ∈ tables_1, d.before a0 Z = true) (ws : List Jvm.Cond) (ar : Addr) (h0 : Heap) (n0 : Nat) (Z0 : n0 ≤ h0.size) :
    MetFree l (⟨"java/lang/Record", "<init>", "()V"⟩ : MethodName) (head1 (Jvm.Cond.code (⟨"java/lang/Record", "<init>", "()V"⟩ : MethodName) jdk_30_method_1_code 1 none :: ws) ({ frames := 1, cells := 0, slots := 0, locals := 12 } : Room)) (fun a U => a = #[(.ref ar)] ∧ Z.Warmed39 U.vm ∧ U.heap = h0) (fun _ _ _ _ _ => True) (fun _ U o U' => ∃ v L, o = .returned v ∧ Q2 Z ar h0 n0 v U'.heap L ∧ FrameEnd U o U' L ({ frames := 1, cells := 0, slots := 0, locals := 12 } : Room).cells ({ frames := 1, cells := 0, slots := 0, locals := 12 } : Room).slots) := by
  refine MetFree.of_bodySF (plainFor_of_name own_pn3) hisR ?_
  intro p e s m args below meth c s₁ Bd hml0 hP hK
  obtain ⟨rfl, hZ, hh⟩ := hP
  have hx := Bd.exec
  have hby := Bd.bytes
  have hml : c.maxLocals = 1 := hml0
  have hown : s.vm.findClass "java/lang/Record" = some m.cls := findClass_of_methodNamed Bd.named
  have hnm := (name_of_methodNamed Bd.named Bd.method).1
  have X0 : Stand p l e ({ frames := 1, cells := 0, slots := 0, locals := 12 } : Room) s m #[(.ref ar)] below meth c s₁ [] 0 0 := Stand.of_body Bd
  have e0 : s₁.heap = h0 := by rw [← hh, Bd.state]; rfl
  have N0 := Fr.nil n0
  have pre0 : ∀ t, Steps p.tables e below (s₁.setTop (mkF m 0 #[.val (.ref ar)] [])) t → Steps p.tables e below (s₁.setTop (entryFrame m #[(.ref ar)] 1)) t := fun t k => castTop (ef_2 m ar) k
  generalize s₁.setTop (entryFrame m #[(.ref ar)] 1) = G0 at pre0 ⊢
  obtain ⟨T1, X1, e1, st1⟩ := initO X0 hx hZ hown (hw _ (List.mem_of_getElem? (i := 13) rfl)) (hw _ (List.mem_of_getElem? (i := 14) rfl)) (hw _ (List.mem_of_getElem? (i := 15) rfl)) e0 (g := (mkF m 1 #[.val (.ref ar)] [(.ref ar)])) rfl (by rw [hml]; rfl) rfl (hb hby d2_1) (by decide) (W := 0) (by show 2 * 0 + _ ≤ _; exact Nat.le_of_eq rfl) (by decide)
  obtain ⟨fs, hr, hrun, hended, hW, hsame⟩ := X1.leave (v := none) (fun _ => rfl)
  refine ⟨_, _, pre0 _ ?_, hrun, hended, _, _, rfl, ?_, ⟨_, rfl⟩, hW, hsame.mono (by decide) (by decide)⟩
  · show Steps p.tables e below (s₁.setTop (mkF m 0 #[.val (.ref ar)] [])) _
    refine XS.aloadN X0.here hx rfl (hb hby d2_0) rfl rfl ?_
    show Steps p.tables e below (s₁.setTop (mkF m 1 #[.val (.ref ar)] [(.ref ar)])) _
    refine st1 _ ?_
    show Steps p.tables e below (T1.setTop (mkF m 4 #[.val (.ref ar)] [])) _
    exact X1.returnOut hx Bd.returns (hb hby d2_4) hr
  · show Q2 Z ar h0 n0 _ T1.heap _
    rw [e1]
    exact ⟨rfl, N0, rfl⟩
theorem d1_0 : decode prog_1_method_1_code 0 = .ok (.aload_n 0, 1) := by decide +kernel
theorem d1_1 : decode prog_1_method_1_code 1 = .ok (.invokespecial 1, 3) := by decide +kernel
theorem own_pd6 : parseMethodDescriptor "()V" = some ⟨[], none⟩ := by decide +kernel
theorem d1_4 : decode prog_1_method_1_code 4 = .ok (.aload_n 0, 1) := by decide +kernel
theorem d1_5 : decode prog_1_method_1_code 5 = .ok (.iload_n 1, 1) := by decide +kernel
theorem d1_6 : decode prog_1_method_1_code 6 = .ok (.putfield 7, 3) := by decide +kernel
theorem d1_9 : decode prog_1_method_1_code 9 = .ok (.aload_n 0, 1) := by decide +kernel
theorem d1_10 : decode prog_1_method_1_code 10 = .ok (.iload_n 2, 1) := by decide +kernel
theorem d1_11 : decode prog_1_method_1_code 11 = .ok (.putfield 13, 3) := by decide +kernel
theorem d1_14 : decode prog_1_method_1_code 14 = .ok (.return_, 1) := by decide +kernel
theorem own_pn14 : plainName "com/example/vestwright/vestwright/Age" = true := by first | (simp [plainName, overriddenIn]; done) | decide +kernel
theorem ef_1 (m : MethodId) (x0 : Addr) (x1 : Int32) (x2 : Int32) : entryFrame m #[(.ref x0), (.int x1), (.int x2)] 3 = mkF m 0 #[.val (.ref x0), .val (.int x1), .val (.int x2)] [] := by first | (simp [entryFrame, mkF, argsToLocals, Value.category]; done) | rfl
def Q1 (Z : State) (aa : Addr) (py : Int32) (pm : Int32) (h0 : Heap) (n0 : Nat) (v : Option Value) (h : Heap) (L : List Loc) : Prop := v = none ∧ Fr n0 L ∧ Keep h0 h [aa] ∧ Exa Z h aa "com/example/vestwright/vestwright/Age" ∧ Fld Z h aa "com/example/vestwright/vestwright/Age" "years" "I" (.int py) ∧ Fld Z h aa "com/example/vestwright/vestwright/Age" "months" "I" (.int pm)
set_option maxRecDepth 65536 in
set_option maxHeartbeats 40000000 in
theorem rm1 (l : Launch) (Z : State) (a0 : Array Value) (hw : ∀ d ∈ tables_1, d.before a0 Z = true) (ws : List Jvm.Cond) (aa : Addr) (py : Int32) (pm : Int32) (h0 : Heap) (n0 : Nat) (Z0 : n0 ≤ h0.size) (Fy : Fld Z h0 aa "com/example/vestwright/vestwright/Age" "years" "I" (.int (0 : Int32))) (Fm : Fld Z h0 aa "com/example/vestwright/vestwright/Age" "months" "I" (.int (0 : Int32))) (Ea : Exa Z h0 aa "com/example/vestwright/vestwright/Age") (g_aa : n0 ≤ aa) :
    MetFree l (⟨"com/example/vestwright/vestwright/Age", "<init>", "(II)V"⟩ : MethodName) (head1 (Jvm.Cond.code (⟨"com/example/vestwright/vestwright/Age", "<init>", "(II)V"⟩ : MethodName) prog_1_method_1_code 3 none :: ws) ({ frames := 2, cells := 0, slots := 0, locals := 24 } : Room)) (fun a U => a = #[(.ref aa), (.int py), (.int pm)] ∧ Z.Warmed39 U.vm ∧ U.heap = h0) (fun _ _ _ _ _ => True) (fun _ U o U' => ∃ v L, o = .returned v ∧ Q1 Z aa py pm h0 n0 v U'.heap L ∧ FrameEnd U o U' L ({ frames := 2, cells := 0, slots := 0, locals := 24 } : Room).cells ({ frames := 2, cells := 0, slots := 0, locals := 24 } : Room).slots) := by
  refine MetFree.of_bodySF (plainFor_of_name own_pn14) hisR ?_
  intro p e s m args below meth c s₁ Bd hml0 hP hK
  obtain ⟨rfl, hZ, hh⟩ := hP
  have hx := Bd.exec
  have hby := Bd.bytes
  have hml : c.maxLocals = 3 := hml0
  have hown : s.vm.findClass "com/example/vestwright/vestwright/Age" = some m.cls := findClass_of_methodNamed Bd.named
  have hnm := (name_of_methodNamed Bd.named Bd.method).1
  have X0 : Stand p l e ({ frames := 2, cells := 0, slots := 0, locals := 24 } : Room) s m #[(.ref aa), (.int py), (.int pm)] below meth c s₁ [] 0 0 := Stand.of_body Bd
  have e0 : s₁.heap = h0 := by rw [← hh, Bd.state]; rfl
  have N0 := Fr.nil n0
  have pre0 : ∀ t, Steps p.tables e below (s₁.setTop (mkF m 0 #[.val (.ref aa), .val (.int py), .val (.int pm)] [])) t → Steps p.tables e below (s₁.setTop (entryFrame m #[(.ref aa), (.int py), (.int pm)] 3)) t := fun t k => castTop (ef_1 m aa py pm) k
  generalize s₁.setTop (entryFrame m #[(.ref aa), (.int py), (.int pm)] 3) = G0 at pre0 ⊢
  obtain ⟨_, _, ⟨T2, L2, k2, n2⟩, -, X2, ⟨Lc2, hQ2, l2, y2, z2⟩, st2⟩ := X0.specialBack hx (y := (⟨"java/lang/Record", "<init>", "()V"⟩ : MethodName)) rfl hown (mvT hZ (hw _ (List.mem_of_getElem? (i := 8) rfl))) (mvT hZ (hw _ (List.mem_of_getElem? (i := 9) rfl))) (mvT hZ (hw _ (List.mem_of_getElem? (i := 12) rfl))) (by decide) (backOf (W := 0) (rm2 l Z a0 hw [] aa  h0 n0 Z0 ) hZ (hw _ (List.mem_of_getElem? (i := 12) rfl)) (hw _ (List.mem_of_getElem? (i := 11) rfl)) (by decide) (by decide)) (g := (mkF m 1 #[.val (.ref aa), .val (.int py), .val (.int pm)] [(.ref aa)])) rfl (by rw [hml]; rfl) (Steps.refl _) (a := aa) (argsL := []) (rest := []) (lenOf own_pd6 rfl) rfl (by show 2 * 0 + _ ≤ _; exact Nat.le_of_eq rfl) (hb hby d1_1) (fun _ _ => ⟨rfl, e0, (by decide : 0 + 0 ≤ _), (by decide : 0 + 0 ≤ _)⟩)
  dsimp only [Pt.U, Pt.locs, Pt.cells, Pt.slots] at X2 l2 y2 z2 st2 hQ2
  subst l2 y2 z2
  obtain ⟨rfl, Nq2, e2⟩ := hQ2
  have N2 := Fr.app N0 Nq2
  obtain ⟨T3, h3, X3, e3, W3, st3⟩ := putF X2 hx hZ hown (host := "") (Or.inl (hw _ (List.mem_of_getElem? (i := 16) rfl))) Via.refl e2 Fy Ea (Or.inr ⟨(hw _ (List.mem_of_getElem? (i := 17) rfl)), rfl, hnm⟩) (hw _ (List.mem_of_getElem? (i := 3) rfl)) (ty := .int) (by decide) rfl rfl (g := (mkF m 6 #[.val (.ref aa), .val (.int py), .val (.int pm)] [(.int py), (.ref aa)])) rfl rfl (hb hby d1_6)
  have N3 := Fr.snoc X3 N2 g_aa
  have Zs3 : n0 ≤ h3.size := Nat.le_trans Z0 (Keep.of_wr W3).1
  have KK3 : Keep h0 h3 [aa] := (Keep.refl h0 _).wr W3 (Or.inl (List.mem_of_getElem? (i := 0) rfl))
  have f4 := Ea.wr W3
  have f5 := Fy.same W3
  have f6 := Fm.other W3 (Or.inr (slot_ne (Or.inr (hw _ (List.mem_of_getElem? (i := 19) rfl))) (Or.inr (hw _ (List.mem_of_getElem? (i := 17) rfl))) (by decide) (t := .int) (t' := .int) (by decide) (by decide)))
  obtain ⟨T7, h7, X7, e7, W7, st7⟩ := putF X3 hx hZ hown (host := "") (Or.inl (hw _ (List.mem_of_getElem? (i := 18) rfl))) Via.refl e3 f6 f4 (Or.inr ⟨(hw _ (List.mem_of_getElem? (i := 19) rfl)), rfl, hnm⟩) (hw _ (List.mem_of_getElem? (i := 3) rfl)) (ty := .int) (by decide) rfl rfl (g := (mkF m 11 #[.val (.ref aa), .val (.int py), .val (.int pm)] [(.int pm), (.ref aa)])) rfl rfl (hb hby d1_11)
  have N7 := Fr.snoc X7 N3 g_aa
  have Zs7 : n0 ≤ h7.size := Nat.le_trans Zs3 (Keep.of_wr W7).1
  have KK7 : Keep h0 h7 [aa] := KK3.wr W7 (Or.inl (List.mem_of_getElem? (i := 0) rfl))
  have f8 := f4.wr W7
  have f9 := f5.other W7 (Or.inr (slot_ne (Or.inr (hw _ (List.mem_of_getElem? (i := 17) rfl))) (Or.inr (hw _ (List.mem_of_getElem? (i := 19) rfl))) (by decide) (t := .int) (t' := .int) (by decide) (by decide)))
  have f10 := f6.same W7
  obtain ⟨fs, hr, hrun, hended, hW, hsame⟩ := X7.leave (v := none) (fun _ => rfl)
  refine ⟨_, _, pre0 _ ?_, hrun, hended, _, _, rfl, ?_, ⟨_, rfl⟩, hW, hsame.mono (by decide) (by decide)⟩
  · show Steps p.tables e below (s₁.setTop (mkF m 0 #[.val (.ref aa), .val (.int py), .val (.int pm)] [])) _
    refine XS.aloadN X0.here hx rfl (hb hby d1_0) rfl rfl ?_
    show Steps p.tables e below (s₁.setTop (mkF m 1 #[.val (.ref aa), .val (.int py), .val (.int pm)] [(.ref aa)])) _
    refine st2.trans ?_
    show Steps p.tables e below (T2.setTop (mkF m 4 #[.val (.ref aa), .val (.int py), .val (.int pm)] [])) _
    refine XS.aloadN X2.here hx rfl (hb hby d1_4) rfl rfl ?_
    show Steps p.tables e below (T2.setTop (mkF m 5 #[.val (.ref aa), .val (.int py), .val (.int pm)] [(.ref aa)])) _
    refine XS.iloadN X2.here hx rfl (hb hby d1_5) rfl ?_
    show Steps p.tables e below (T2.setTop (mkF m 6 #[.val (.ref aa), .val (.int py), .val (.int pm)] [(.int py), (.ref aa)])) _
    refine st3 _ ?_
    show Steps p.tables e below (T3.setTop (mkF m 9 #[.val (.ref aa), .val (.int py), .val (.int pm)] [])) _
    refine XS.aloadN X3.here hx rfl (hb hby d1_9) rfl rfl ?_
    show Steps p.tables e below (T3.setTop (mkF m 10 #[.val (.ref aa), .val (.int py), .val (.int pm)] [(.ref aa)])) _
    refine XS.iloadN X3.here hx rfl (hb hby d1_10) rfl ?_
    show Steps p.tables e below (T3.setTop (mkF m 11 #[.val (.ref aa), .val (.int py), .val (.int pm)] [(.int pm), (.ref aa)])) _
    refine st7 _ ?_
    show Steps p.tables e below (T7.setTop (mkF m 14 #[.val (.ref aa), .val (.int py), .val (.int pm)] [])) _
    exact X7.returnOut hx Bd.returns (hb hby d1_14) hr
  · show Q1 Z aa py pm h0 n0 _ T7.heap _
    rw [e7]
    exact ⟨rfl, N7, KK7, f8, f9, f10⟩
theorem d4_0 : decode prog_1_method_4_code 0 = .ok (.aload_n 0, 1) := by decide +kernel
theorem d4_1 : decode prog_1_method_4_code 1 = .ok (.getfield 7, 3) := by decide +kernel
theorem d4_4 : decode prog_1_method_4_code 4 = .ok (.bipush 12, 2) := by decide +kernel
theorem d4_6 : decode prog_1_method_4_code 6 = .ok (.imul, 1) := by decide +kernel
theorem d4_7 : decode prog_1_method_4_code 7 = .ok (.aload_n 0, 1) := by decide +kernel
theorem d4_8 : decode prog_1_method_4_code 8 = .ok (.getfield 13, 3) := by decide +kernel
theorem d4_11 : decode prog_1_method_4_code 11 = .ok (.iadd, 1) := by decide +kernel
theorem d4_12 : decode prog_1_method_4_code 12 = .ok (.ireturn, 1) := by decide +kernel
theorem ef_4 (m : MethodId) (x0 : Addr) : entryFrame m #[(.ref x0)] 1 = mkF m 0 #[.val (.ref x0)] [] := by first | (simp [entryFrame, mkF, argsToLocals, Value.category]; done) | rfl
def Q4 (Z : State) (aa : Addr) (vy : Int32) (vm : Int32) (h0 : Heap) (n0 : Nat) (v : Option Value) (h : Heap) (L : List Loc) : Prop := v = some (.int ((vy * (12 : Int32)) + vm)) ∧ Fr n0 L ∧ h = h0
set_option maxRecDepth 65536 in
set_option maxHeartbeats 40000000 in
theorem rm4 (l : Launch) (Z : State) (a0 : Array Value) (hw : ∀ d ∈ tables_1, d.before a0 Z = true) (ws : List Jvm.Cond) (aa : Addr) (vy : Int32) (vm : Int32) (h0 : Heap) (n0 : Nat) (Z0 : n0 ≤ h0.size) (Fy : Fld Z h0 aa "com/example/vestwright/vestwright/Age" "years" "I" (.int vy)) (Fm : Fld Z h0 aa "com/example/vestwright/vestwright/Age" "months" "I" (.int vm)) :
    MetFree l (⟨"com/example/vestwright/vestwright/Age", "inMonths", "()I"⟩ : MethodName) (head1 (Jvm.Cond.code (⟨"com/example/vestwright/vestwright/Age", "inMonths", "()I"⟩ : MethodName) prog_1_method_4_code 1 (some .int) :: ws) ({ frames := 0, cells := 0, slots := 0, locals := 0 } : Room)) (fun a U => a = #[(.ref aa)] ∧ Z.Warmed39 U.vm ∧ U.heap = h0) (fun _ _ _ _ _ => True) (fun _ U o U' => ∃ v L, o = .returned v ∧ Q4 Z aa vy vm h0 n0 v U'.heap L ∧ FrameEnd U o U' L ({ frames := 0, cells := 0, slots := 0, locals := 0 } : Room).cells ({ frames := 0, cells := 0, slots := 0, locals := 0 } : Room).slots) := by
  refine MetFree.of_bodySF (plainFor_of_name own_pn14) hisR ?_
  intro p e s m args below meth c s₁ Bd hml0 hP hK
  obtain ⟨rfl, hZ, hh⟩ := hP
  have hx := Bd.exec
  have hby := Bd.bytes
  have hml : c.maxLocals = 1 := hml0
  have hown : s.vm.findClass "com/example/vestwright/vestwright/Age" = some m.cls := findClass_of_methodNamed Bd.named
  have hnm := (name_of_methodNamed Bd.named Bd.method).1
  have X0 : Stand p l e ({ frames := 0, cells := 0, slots := 0, locals := 0 } : Room) s m #[(.ref aa)] below meth c s₁ [] 0 0 := Stand.of_body Bd
  have e0 : s₁.heap = h0 := by rw [← hh, Bd.state]; rfl
  have N0 := Fr.nil n0
  have pre0 : ∀ t, Steps p.tables e below (s₁.setTop (mkF m 0 #[.val (.ref aa)] [])) t → Steps p.tables e below (s₁.setTop (entryFrame m #[(.ref aa)] 1)) t := fun t k => castTop (ef_4 m aa) k
  generalize s₁.setTop (entryFrame m #[(.ref aa)] 1) = G0 at pre0 ⊢
  obtain ⟨T11, X11, e11, st11⟩ := getF X0 hx hZ hown (host := "") (Or.inl (hw _ (List.mem_of_getElem? (i := 16) rfl))) Via.refl e0 Fy (g := (mkF m 1 #[.val (.ref aa)] [(.ref aa)])) rfl rfl (hb hby d4_1)
  obtain ⟨T12, X12, e12, st12⟩ := getF X11 hx hZ hown (host := "") (Or.inl (hw _ (List.mem_of_getElem? (i := 18) rfl))) Via.refl e11 Fm (g := (mkF m 8 #[.val (.ref aa)] [(.ref aa), (.int (vy * (12 : Int32)))])) rfl rfl (hb hby d4_8)
  obtain ⟨fs, hr, hrun, hended, hW, hsame⟩ := X12.leave (v := some (.int ((vy * (12 : Int32)) + vm))) (fun h => by rw [Bd.returns] at h; cases h)
  refine ⟨_, _, pre0 _ ?_, hrun, hended, _, _, rfl, ?_, ⟨_, rfl⟩, hW, hsame.mono (by decide) (by decide)⟩
  · show Steps p.tables e below (s₁.setTop (mkF m 0 #[.val (.ref aa)] [])) _
    refine XS.aloadN X0.here hx rfl (hb hby d4_0) rfl rfl ?_
    show Steps p.tables e below (s₁.setTop (mkF m 1 #[.val (.ref aa)] [(.ref aa)])) _
    refine st11 _ ?_
    show Steps p.tables e below (T11.setTop (mkF m 4 #[.val (.ref aa)] [(.int vy)])) _
    refine XS.bipush X11.here hx rfl (hb hby d4_4) ?_
    show Steps p.tables e below (T11.setTop (mkF m 6 #[.val (.ref aa)] [(.int (12 : Int32)), (.int vy)])) _
    refine XS.imul X11.here hx rfl (hb hby d4_6) rfl ?_
    show Steps p.tables e below (T11.setTop (mkF m 7 #[.val (.ref aa)] [(.int (vy * (12 : Int32)))])) _
    refine XS.aloadN X11.here hx rfl (hb hby d4_7) rfl rfl ?_
    show Steps p.tables e below (T11.setTop (mkF m 8 #[.val (.ref aa)] [(.ref aa), (.int (vy * (12 : Int32)))])) _
    refine st12 _ ?_
    show Steps p.tables e below (T12.setTop (mkF m 11 #[.val (.ref aa)] [(.int vm), (.int (vy * (12 : Int32)))])) _
    refine XS.iadd X12.here hx rfl (hb hby d4_11) rfl ?_
    show Steps p.tables e below (T12.setTop (mkF m 12 #[.val (.ref aa)] [(.int ((vy * (12 : Int32)) + vm))])) _
    exact retI X12 hx Bd.returns (hb hby d4_12) hr
  · show Q4 Z aa vy vm h0 n0 _ T12.heap _
    rw [e12]
    exact ⟨rfl, N0, rfl⟩
theorem own_pd23 : parseMethodDescriptor "(II)V" = some ⟨[.int, .int], none⟩ := by decide +kernel
theorem own_pd24 : parseMethodDescriptor "()I" = some ⟨[], some .int⟩ := by decide +kernel
theorem own_pn25 : plainName "com/example/vestwright/vestwright/AgeInMonthsPinLaw" = true := by first | (simp [plainName, overriddenIn]; done) | decide +kernel
theorem ef_0 (m : MethodId) (x0 : Int32) (x1 : Int32) : entryFrame m #[(.int x0), (.int x1)] maxLocals = mkF m 0 #[.val (.int x0), .val (.int x1), .unset, .unset, .unset, .unset] [] := by first | (simp [entryFrame, mkF, argsToLocals, Value.category, maxLocals]; done) | rfl
def Q0 (Z : State) (pa : Int32) (pb : Int32) (h0 : Heap) (n0 : Nat) (v : Option Value) (h : Heap) (L : List Loc) : Prop := v = some (.int (1 : Int32)) ∧ Fr n0 L
set_option maxRecDepth 65536 in
set_option maxHeartbeats 40000000 in
theorem rm0 (l : Launch) (Z : State) (a0 : Array Value) (hw : ∀ d ∈ tables_1, d.before a0 Z = true) (ws : List Jvm.Cond) (pa : Int32) (pb : Int32) (h0 : Heap) (n0 : Nat) (Z0 : n0 ≤ h0.size) :
    MetFree l x (head1 (Jvm.Cond.code x code maxLocals ret :: ws) room_1) (fun a U => a = #[(.int pa), (.int pb)] ∧ Z.Warmed39 U.vm ∧ U.heap = h0) (fun _ _ _ _ _ => True) (fun _ U o U' => ∃ v L, o = .returned v ∧ Q0 Z pa pb h0 n0 v U'.heap L ∧ FrameEnd U o U' L room_1.cells room_1.slots) := by
  refine MetFree.of_bodySF (plainFor_of_name own_pn25) hisR ?_
  intro p e s m args below meth c s₁ Bd hml0 hP hK
  obtain ⟨rfl, hZ, hh⟩ := hP
  have hx := Bd.exec
  have hby := Bd.bytes
  have hml : c.maxLocals = 6 := hml0
  have hown : s.vm.findClass "com/example/vestwright/vestwright/AgeInMonthsPinLaw" = some m.cls := findClass_of_methodNamed Bd.named
  have hnm := (name_of_methodNamed Bd.named Bd.method).1
  have X0 : Stand p l e room_1 s m #[(.int pa), (.int pb)] below meth c s₁ [] 0 0 := Stand.of_body Bd
  have e0 : s₁.heap = h0 := by rw [← hh, Bd.state]; rfl
  have N0 := Fr.nil n0
  have pre0 : ∀ t, Steps p.tables e below (s₁.setTop (mkF m 0 #[.val (.int pa), .val (.int pb), .unset, .unset, .unset, .unset] [])) t → Steps p.tables e below (s₁.setTop (entryFrame m #[(.int pa), (.int pb)] maxLocals)) t := fun t k => castTop (ef_0 m pa pb) k
  generalize s₁.setTop (entryFrame m #[(.int pa), (.int pb)] maxLocals) = G0 at pre0 ⊢
  obtain ⟨T13, h13, X13, e13, E13, A13, D13, -, st13⟩ := newO X0 hx hZ hown (hw _ (List.mem_of_getElem? (i := 2) rfl)) (hw _ (List.mem_of_getElem? (i := 3) rfl)) (hw _ (List.mem_of_getElem? (i := 4) rfl)) e0 (g := (mkF m 16 #[.val (.int pa), .val (.int pb), .val (.int ((pa &&& (2147483647 : Int32)) % (178956970 : Int32))), .val (.int ((pb &&& (2147483647 : Int32)) % (12 : Int32))), .unset, .unset] [])) rfl (hb hby at_16) (by decide) (by decide)
  obtain ⟨b13, g13⟩ : ∃ z, z = h0.size := ⟨_, rfl⟩
  rw [← g13] at A13 D13 st13
  have g_b13 : n0 ≤ b13 := Nat.le_trans Z0 (Nat.le_of_eq g13.symm)
  have sz_b13 : h0.size ≤ b13 := Nat.le_of_eq g13.symm
  have Zs13 : n0 ≤ h13.size := Nat.le_trans Z0 E13.1
  have KK13 : Keep h0 h13 [] := (Keep.refl h0 _).ext E13
  have f14 : Fld Z h13 b13 "com/example/vestwright/vestwright/Age" "years" "I" (.int (0 : Int32)) := D13 (Or.inr (hw _ (List.mem_of_getElem? (i := 17) rfl))) (ty := .int) (by decide)
  have f15 : Fld Z h13 b13 "com/example/vestwright/vestwright/Age" "months" "I" (.int (0 : Int32)) := D13 (Or.inr (hw _ (List.mem_of_getElem? (i := 19) rfl))) (ty := .int) (by decide)
  obtain ⟨_, _, ⟨T16, L16, k16, n16⟩, -, X16, ⟨Lc16, hQ16, l16, y16, z16⟩, st16⟩ := X13.specialBack hx (y := (⟨"com/example/vestwright/vestwright/Age", "<init>", "(II)V"⟩ : MethodName)) rfl hown (mvT hZ (hw _ (List.mem_of_getElem? (i := 5) rfl))) (mvT hZ (hw _ (List.mem_of_getElem? (i := 6) rfl))) (mvT hZ (hw _ (List.mem_of_getElem? (i := 7) rfl))) (by decide) (backOf (W := 1) (rm1 l Z a0 hw [] b13 ((pa &&& (2147483647 : Int32)) % (178956970 : Int32)) ((pb &&& (2147483647 : Int32)) % (12 : Int32))  h13 n0 Zs13 f14 f15 A13 g_b13) hZ (hw _ (List.mem_of_getElem? (i := 7) rfl)) (hw _ (List.mem_of_getElem? (i := 4) rfl)) (by decide) (by decide)) (g := (mkF m 22 #[.val (.int pa), .val (.int pb), .val (.int ((pa &&& (2147483647 : Int32)) % (178956970 : Int32))), .val (.int ((pb &&& (2147483647 : Int32)) % (12 : Int32))), .unset, .unset] [(.int ((pb &&& (2147483647 : Int32)) % (12 : Int32))), (.int ((pa &&& (2147483647 : Int32)) % (178956970 : Int32))), (.ref b13), (.ref b13)])) rfl (by rw [hml]; rfl) (Steps.refl _) (a := b13) (argsL := [(.int ((pa &&& (2147483647 : Int32)) % (178956970 : Int32))), (.int ((pb &&& (2147483647 : Int32)) % (12 : Int32)))]) (rest := [(.ref b13)]) (lenOf own_pd23 rfl) rfl (by show 2 * 0 + _ ≤ _; exact Nat.le_of_eq rfl) (hb hby at_22) (fun _ _ => ⟨rfl, e13, (by decide : 1 + 0 ≤ _), (by decide : 2 + 0 ≤ _)⟩)
  dsimp only [Pt.U, Pt.locs, Pt.cells, Pt.slots] at X16 l16 y16 z16 st16 hQ16
  subst l16 y16 z16
  obtain ⟨rfl, Nq16, K16, p16_0, p16_1, p16_2⟩ := hQ16
  have N16 := Fr.app N0 Nq16
  have Zs16 : n0 ≤ T16.heap.size := Nat.le_trans Zs13 K16.1
  have KK16 : Keep h0 T16.heap [] := KK13.trans K16 (allS (Or.inr sz_b13) all0)
  have f17 := A13.keep K16
  obtain ⟨cq18, kq18, q18a, q18b, q18c⟩ := isOf hZ rfl p16_0
  obtain ⟨_, _, ⟨T18, L18, k18, n18⟩, -, X18, ⟨Lc18, hQ18, l18, y18, z18⟩, st18⟩ := X16.virtualBack hx (y := (⟨"com/example/vestwright/vestwright/Age", "inMonths", "()I"⟩ : MethodName)) (z := (⟨"com/example/vestwright/vestwright/Age", "inMonths", "()I"⟩ : MethodName)) hown (mvT hZ (hw _ (List.mem_of_getElem? (i := 20) rfl))) (mvT hZ (hw _ (List.mem_of_getElem? (i := 21) rfl))) (notFace_of_selects (args := #[]) (mvT hZ (hw _ (List.mem_of_getElem? (i := 23) rfl)))) (mvT hZ (hw _ (List.mem_of_getElem? (i := 23) rfl))) (mvT hZ (hw _ (List.mem_of_getElem? (i := 22) rfl))) (by decide) (backOf (W := 0) (rm4 l Z a0 hw [] b13 ((pa &&& (2147483647 : Int32)) % (178956970 : Int32)) ((pb &&& (2147483647 : Int32)) % (12 : Int32)) T16.heap n0 Zs16 p16_1 p16_2) hZ (hw _ (List.mem_of_getElem? (i := 24) rfl)) (hw _ (List.mem_of_getElem? (i := 4) rfl)) (by decide) (by decide)) q18a q18c (g := (mkF m 29 #[.val (.int pa), .val (.int pb), .val (.int ((pa &&& (2147483647 : Int32)) % (178956970 : Int32))), .val (.int ((pb &&& (2147483647 : Int32)) % (12 : Int32))), .val (.ref b13), .unset] [(.ref b13)])) rfl (by rw [hml]; rfl) (Steps.refl _) (argsL := []) (rest := []) (lenOf own_pd24 rfl) rfl (by show 2 * 0 + _ ≤ _; exact Nat.le_of_eq rfl) (hb hby at_29) (fun _ _ => ⟨rfl, rfl, (by decide : 1 + 0 ≤ _), (by decide : 2 + 0 ≤ _)⟩)
  dsimp only [Pt.U, Pt.locs, Pt.cells, Pt.slots] at X18 l18 y18 z18 st18 hQ18
  subst l18 y18 z18
  obtain ⟨rfl, Nq18, e18⟩ := hQ18
  have N18 := Fr.app N16 Nq18
  obtain ⟨fs, hr, hrun, hended, hW, hsame⟩ := X18.leave (v := some (.int (1 : Int32))) (fun h => by rw [Bd.returns] at h; cases h)
  refine ⟨_, _, pre0 _ ?_, hrun, hended, _, _, rfl, ?_, ⟨_, rfl⟩, hW, hsame.mono (by decide) (by decide)⟩
  · show Steps p.tables e below (s₁.setTop (mkF m 0 #[.val (.int pa), .val (.int pb), .unset, .unset, .unset, .unset] [])) _
    refine XS.iloadN X0.here hx rfl (hb hby at_0) rfl ?_
    show Steps p.tables e below (s₁.setTop (mkF m 1 #[.val (.int pa), .val (.int pb), .unset, .unset, .unset, .unset] [(.int pa)])) _
    refine X0.ldcInt hx hown (mvT hZ (hw _ (List.mem_of_getElem? (i := 0) rfl))) (g := (mkF m 1 #[.val (.int pa), .val (.int pb), .unset, .unset, .unset, .unset] [(.int pa)])) rfl (hb hby at_1) _ ?_
    show Steps p.tables e below (s₁.setTop (mkF m 3 #[.val (.int pa), .val (.int pb), .unset, .unset, .unset, .unset] [(.int (2147483647 : Int32)), (.int pa)])) _
    refine XS.iand X0.here hx rfl (hb hby at_3) rfl ?_
    show Steps p.tables e below (s₁.setTop (mkF m 4 #[.val (.int pa), .val (.int pb), .unset, .unset, .unset, .unset] [(.int (pa &&& (2147483647 : Int32)))])) _
    refine X0.ldcInt hx hown (mvT hZ (hw _ (List.mem_of_getElem? (i := 1) rfl))) (g := (mkF m 4 #[.val (.int pa), .val (.int pb), .unset, .unset, .unset, .unset] [(.int (pa &&& (2147483647 : Int32)))])) rfl (hb hby at_4) _ ?_
    show Steps p.tables e below (s₁.setTop (mkF m 6 #[.val (.int pa), .val (.int pb), .unset, .unset, .unset, .unset] [(.int (178956970 : Int32)), (.int (pa &&& (2147483647 : Int32)))])) _
    refine iremM X0 hx rfl (hb hby at_6) rfl (by decide) ?_
    show Steps p.tables e below (s₁.setTop (mkF m 7 #[.val (.int pa), .val (.int pb), .unset, .unset, .unset, .unset] [(.int ((pa &&& (2147483647 : Int32)) % (178956970 : Int32)))])) _
    refine XS.istoreN X0.here hx rfl (hb hby at_7) rfl (l' := #[.val (.int pa), .val (.int pb), .val (.int ((pa &&& (2147483647 : Int32)) % (178956970 : Int32))), .unset, .unset, .unset]) rfl ?_
    show Steps p.tables e below (s₁.setTop (mkF m 8 #[.val (.int pa), .val (.int pb), .val (.int ((pa &&& (2147483647 : Int32)) % (178956970 : Int32))), .unset, .unset, .unset] [])) _
    refine XS.iloadN X0.here hx rfl (hb hby at_8) rfl ?_
    show Steps p.tables e below (s₁.setTop (mkF m 9 #[.val (.int pa), .val (.int pb), .val (.int ((pa &&& (2147483647 : Int32)) % (178956970 : Int32))), .unset, .unset, .unset] [(.int pb)])) _
    refine X0.ldcInt hx hown (mvT hZ (hw _ (List.mem_of_getElem? (i := 0) rfl))) (g := (mkF m 9 #[.val (.int pa), .val (.int pb), .val (.int ((pa &&& (2147483647 : Int32)) % (178956970 : Int32))), .unset, .unset, .unset] [(.int pb)])) rfl (hb hby at_9) _ ?_
    show Steps p.tables e below (s₁.setTop (mkF m 11 #[.val (.int pa), .val (.int pb), .val (.int ((pa &&& (2147483647 : Int32)) % (178956970 : Int32))), .unset, .unset, .unset] [(.int (2147483647 : Int32)), (.int pb)])) _
    refine XS.iand X0.here hx rfl (hb hby at_11) rfl ?_
    show Steps p.tables e below (s₁.setTop (mkF m 12 #[.val (.int pa), .val (.int pb), .val (.int ((pa &&& (2147483647 : Int32)) % (178956970 : Int32))), .unset, .unset, .unset] [(.int (pb &&& (2147483647 : Int32)))])) _
    refine XS.bipush X0.here hx rfl (hb hby at_12) ?_
    show Steps p.tables e below (s₁.setTop (mkF m 14 #[.val (.int pa), .val (.int pb), .val (.int ((pa &&& (2147483647 : Int32)) % (178956970 : Int32))), .unset, .unset, .unset] [(.int (12 : Int32)), (.int (pb &&& (2147483647 : Int32)))])) _
    refine iremM X0 hx rfl (hb hby at_14) rfl (by decide) ?_
    show Steps p.tables e below (s₁.setTop (mkF m 15 #[.val (.int pa), .val (.int pb), .val (.int ((pa &&& (2147483647 : Int32)) % (178956970 : Int32))), .unset, .unset, .unset] [(.int ((pb &&& (2147483647 : Int32)) % (12 : Int32)))])) _
    refine XS.istoreN X0.here hx rfl (hb hby at_15) rfl (l' := #[.val (.int pa), .val (.int pb), .val (.int ((pa &&& (2147483647 : Int32)) % (178956970 : Int32))), .val (.int ((pb &&& (2147483647 : Int32)) % (12 : Int32))), .unset, .unset]) rfl ?_
    show Steps p.tables e below (s₁.setTop (mkF m 16 #[.val (.int pa), .val (.int pb), .val (.int ((pa &&& (2147483647 : Int32)) % (178956970 : Int32))), .val (.int ((pb &&& (2147483647 : Int32)) % (12 : Int32))), .unset, .unset] [])) _
    refine st13 _ ?_
    show Steps p.tables e below (T13.setTop (mkF m 19 #[.val (.int pa), .val (.int pb), .val (.int ((pa &&& (2147483647 : Int32)) % (178956970 : Int32))), .val (.int ((pb &&& (2147483647 : Int32)) % (12 : Int32))), .unset, .unset] [(.ref b13)])) _
    refine XS.dup X13.here hx rfl (hb hby at_19) rfl rfl ?_
    show Steps p.tables e below (T13.setTop (mkF m 20 #[.val (.int pa), .val (.int pb), .val (.int ((pa &&& (2147483647 : Int32)) % (178956970 : Int32))), .val (.int ((pb &&& (2147483647 : Int32)) % (12 : Int32))), .unset, .unset] [(.ref b13), (.ref b13)])) _
    refine XS.iloadN X13.here hx rfl (hb hby at_20) rfl ?_
    show Steps p.tables e below (T13.setTop (mkF m 21 #[.val (.int pa), .val (.int pb), .val (.int ((pa &&& (2147483647 : Int32)) % (178956970 : Int32))), .val (.int ((pb &&& (2147483647 : Int32)) % (12 : Int32))), .unset, .unset] [(.int ((pa &&& (2147483647 : Int32)) % (178956970 : Int32))), (.ref b13), (.ref b13)])) _
    refine XS.iloadN X13.here hx rfl (hb hby at_21) rfl ?_
    show Steps p.tables e below (T13.setTop (mkF m 22 #[.val (.int pa), .val (.int pb), .val (.int ((pa &&& (2147483647 : Int32)) % (178956970 : Int32))), .val (.int ((pb &&& (2147483647 : Int32)) % (12 : Int32))), .unset, .unset] [(.int ((pb &&& (2147483647 : Int32)) % (12 : Int32))), (.int ((pa &&& (2147483647 : Int32)) % (178956970 : Int32))), (.ref b13), (.ref b13)])) _
    refine st16.trans ?_
    show Steps p.tables e below (T16.setTop (mkF m 25 #[.val (.int pa), .val (.int pb), .val (.int ((pa &&& (2147483647 : Int32)) % (178956970 : Int32))), .val (.int ((pb &&& (2147483647 : Int32)) % (12 : Int32))), .unset, .unset] [(.ref b13)])) _
    refine XS.astore X16.here hx rfl (hb hby at_25) rfl rfl (l' := #[.val (.int pa), .val (.int pb), .val (.int ((pa &&& (2147483647 : Int32)) % (178956970 : Int32))), .val (.int ((pb &&& (2147483647 : Int32)) % (12 : Int32))), .val (.ref b13), .unset]) rfl ?_
    show Steps p.tables e below (T16.setTop (mkF m 27 #[.val (.int pa), .val (.int pb), .val (.int ((pa &&& (2147483647 : Int32)) % (178956970 : Int32))), .val (.int ((pb &&& (2147483647 : Int32)) % (12 : Int32))), .val (.ref b13), .unset] [])) _
    refine XS.aload X16.here hx rfl (hb hby at_27) rfl rfl ?_
    show Steps p.tables e below (T16.setTop (mkF m 29 #[.val (.int pa), .val (.int pb), .val (.int ((pa &&& (2147483647 : Int32)) % (178956970 : Int32))), .val (.int ((pb &&& (2147483647 : Int32)) % (12 : Int32))), .val (.ref b13), .unset] [(.ref b13)])) _
    refine st18.trans ?_
    show Steps p.tables e below (T18.setTop (mkF m 32 #[.val (.int pa), .val (.int pb), .val (.int ((pa &&& (2147483647 : Int32)) % (178956970 : Int32))), .val (.int ((pb &&& (2147483647 : Int32)) % (12 : Int32))), .val (.ref b13), .unset] [(.int ((((pa &&& (2147483647 : Int32)) % (178956970 : Int32)) * (12 : Int32)) + ((pb &&& (2147483647 : Int32)) % (12 : Int32))))])) _
    refine XS.istore X18.here hx rfl (hb hby at_32) rfl (l' := #[.val (.int pa), .val (.int pb), .val (.int ((pa &&& (2147483647 : Int32)) % (178956970 : Int32))), .val (.int ((pb &&& (2147483647 : Int32)) % (12 : Int32))), .val (.ref b13), .val (.int ((((pa &&& (2147483647 : Int32)) % (178956970 : Int32)) * (12 : Int32)) + ((pb &&& (2147483647 : Int32)) % (12 : Int32))))]) rfl ?_
    show Steps p.tables e below (T18.setTop (mkF m 34 #[.val (.int pa), .val (.int pb), .val (.int ((pa &&& (2147483647 : Int32)) % (178956970 : Int32))), .val (.int ((pb &&& (2147483647 : Int32)) % (12 : Int32))), .val (.ref b13), .val (.int ((((pa &&& (2147483647 : Int32)) % (178956970 : Int32)) * (12 : Int32)) + ((pb &&& (2147483647 : Int32)) % (12 : Int32))))] [])) _
    refine XS.iload X18.here hx rfl (hb hby at_34) rfl ?_
    show Steps p.tables e below (T18.setTop (mkF m 36 #[.val (.int pa), .val (.int pb), .val (.int ((pa &&& (2147483647 : Int32)) % (178956970 : Int32))), .val (.int ((pb &&& (2147483647 : Int32)) % (12 : Int32))), .val (.ref b13), .val (.int ((((pa &&& (2147483647 : Int32)) % (178956970 : Int32)) * (12 : Int32)) + ((pb &&& (2147483647 : Int32)) % (12 : Int32))))] [(.int ((((pa &&& (2147483647 : Int32)) % (178956970 : Int32)) * (12 : Int32)) + ((pb &&& (2147483647 : Int32)) % (12 : Int32))))])) _
    refine XS.ifNo X18.here hx rfl (hb hby at_36) rfl ((if0 _ _).trans (flt (own_c1 (own_y pa) (own_m pb) : ¬ (((((pa &&& (2147483647 : Int32)) % (178956970 : Int32)) * (12 : Int32)) + ((pb &&& (2147483647 : Int32)) % (12 : Int32))) < (0 : Int32)))).1) ?_
    show Steps p.tables e below (T18.setTop (mkF m 39 #[.val (.int pa), .val (.int pb), .val (.int ((pa &&& (2147483647 : Int32)) % (178956970 : Int32))), .val (.int ((pb &&& (2147483647 : Int32)) % (12 : Int32))), .val (.ref b13), .val (.int ((((pa &&& (2147483647 : Int32)) % (178956970 : Int32)) * (12 : Int32)) + ((pb &&& (2147483647 : Int32)) % (12 : Int32))))] [])) _
    refine XS.iload X18.here hx rfl (hb hby at_39) rfl ?_
    show Steps p.tables e below (T18.setTop (mkF m 41 #[.val (.int pa), .val (.int pb), .val (.int ((pa &&& (2147483647 : Int32)) % (178956970 : Int32))), .val (.int ((pb &&& (2147483647 : Int32)) % (12 : Int32))), .val (.ref b13), .val (.int ((((pa &&& (2147483647 : Int32)) % (178956970 : Int32)) * (12 : Int32)) + ((pb &&& (2147483647 : Int32)) % (12 : Int32))))] [(.int ((((pa &&& (2147483647 : Int32)) % (178956970 : Int32)) * (12 : Int32)) + ((pb &&& (2147483647 : Int32)) % (12 : Int32))))])) _
    refine XS.bipush X18.here hx rfl (hb hby at_41) ?_
    show Steps p.tables e below (T18.setTop (mkF m 43 #[.val (.int pa), .val (.int pb), .val (.int ((pa &&& (2147483647 : Int32)) % (178956970 : Int32))), .val (.int ((pb &&& (2147483647 : Int32)) % (12 : Int32))), .val (.ref b13), .val (.int ((((pa &&& (2147483647 : Int32)) % (178956970 : Int32)) * (12 : Int32)) + ((pb &&& (2147483647 : Int32)) % (12 : Int32))))] [(.int (12 : Int32)), (.int ((((pa &&& (2147483647 : Int32)) % (178956970 : Int32)) * (12 : Int32)) + ((pb &&& (2147483647 : Int32)) % (12 : Int32))))])) _
    refine XS.idiv X18.here hx rfl (hb hby at_43) rfl (by decide) ?_
    show Steps p.tables e below (T18.setTop (mkF m 44 #[.val (.int pa), .val (.int pb), .val (.int ((pa &&& (2147483647 : Int32)) % (178956970 : Int32))), .val (.int ((pb &&& (2147483647 : Int32)) % (12 : Int32))), .val (.ref b13), .val (.int ((((pa &&& (2147483647 : Int32)) % (178956970 : Int32)) * (12 : Int32)) + ((pb &&& (2147483647 : Int32)) % (12 : Int32))))] [(.int (((((pa &&& (2147483647 : Int32)) % (178956970 : Int32)) * (12 : Int32)) + ((pb &&& (2147483647 : Int32)) % (12 : Int32))) / (12 : Int32)))])) _
    refine XS.iloadN X18.here hx rfl (hb hby at_44) rfl ?_
    show Steps p.tables e below (T18.setTop (mkF m 45 #[.val (.int pa), .val (.int pb), .val (.int ((pa &&& (2147483647 : Int32)) % (178956970 : Int32))), .val (.int ((pb &&& (2147483647 : Int32)) % (12 : Int32))), .val (.ref b13), .val (.int ((((pa &&& (2147483647 : Int32)) % (178956970 : Int32)) * (12 : Int32)) + ((pb &&& (2147483647 : Int32)) % (12 : Int32))))] [(.int ((pa &&& (2147483647 : Int32)) % (178956970 : Int32))), (.int (((((pa &&& (2147483647 : Int32)) % (178956970 : Int32)) * (12 : Int32)) + ((pb &&& (2147483647 : Int32)) % (12 : Int32))) / (12 : Int32)))])) _
    refine XS.icmpNo X18.here hx rfl (hb hby at_45) rfl (teq (own_c2 (own_y pa) (own_m pb) : ((((((pa &&& (2147483647 : Int32)) % (178956970 : Int32)) * (12 : Int32)) + ((pb &&& (2147483647 : Int32)) % (12 : Int32))) / (12 : Int32)) = ((pa &&& (2147483647 : Int32)) % (178956970 : Int32))))).2 ?_
    show Steps p.tables e below (T18.setTop (mkF m 48 #[.val (.int pa), .val (.int pb), .val (.int ((pa &&& (2147483647 : Int32)) % (178956970 : Int32))), .val (.int ((pb &&& (2147483647 : Int32)) % (12 : Int32))), .val (.ref b13), .val (.int ((((pa &&& (2147483647 : Int32)) % (178956970 : Int32)) * (12 : Int32)) + ((pb &&& (2147483647 : Int32)) % (12 : Int32))))] [])) _
    refine XS.iload X18.here hx rfl (hb hby at_48) rfl ?_
    show Steps p.tables e below (T18.setTop (mkF m 50 #[.val (.int pa), .val (.int pb), .val (.int ((pa &&& (2147483647 : Int32)) % (178956970 : Int32))), .val (.int ((pb &&& (2147483647 : Int32)) % (12 : Int32))), .val (.ref b13), .val (.int ((((pa &&& (2147483647 : Int32)) % (178956970 : Int32)) * (12 : Int32)) + ((pb &&& (2147483647 : Int32)) % (12 : Int32))))] [(.int ((((pa &&& (2147483647 : Int32)) % (178956970 : Int32)) * (12 : Int32)) + ((pb &&& (2147483647 : Int32)) % (12 : Int32))))])) _
    refine XS.bipush X18.here hx rfl (hb hby at_50) ?_
    show Steps p.tables e below (T18.setTop (mkF m 52 #[.val (.int pa), .val (.int pb), .val (.int ((pa &&& (2147483647 : Int32)) % (178956970 : Int32))), .val (.int ((pb &&& (2147483647 : Int32)) % (12 : Int32))), .val (.ref b13), .val (.int ((((pa &&& (2147483647 : Int32)) % (178956970 : Int32)) * (12 : Int32)) + ((pb &&& (2147483647 : Int32)) % (12 : Int32))))] [(.int (12 : Int32)), (.int ((((pa &&& (2147483647 : Int32)) % (178956970 : Int32)) * (12 : Int32)) + ((pb &&& (2147483647 : Int32)) % (12 : Int32))))])) _
    refine iremM X18 hx rfl (hb hby at_52) rfl (by decide) ?_
    show Steps p.tables e below (T18.setTop (mkF m 53 #[.val (.int pa), .val (.int pb), .val (.int ((pa &&& (2147483647 : Int32)) % (178956970 : Int32))), .val (.int ((pb &&& (2147483647 : Int32)) % (12 : Int32))), .val (.ref b13), .val (.int ((((pa &&& (2147483647 : Int32)) % (178956970 : Int32)) * (12 : Int32)) + ((pb &&& (2147483647 : Int32)) % (12 : Int32))))] [(.int (((((pa &&& (2147483647 : Int32)) % (178956970 : Int32)) * (12 : Int32)) + ((pb &&& (2147483647 : Int32)) % (12 : Int32))) % (12 : Int32)))])) _
    refine XS.iloadN X18.here hx rfl (hb hby at_53) rfl ?_
    show Steps p.tables e below (T18.setTop (mkF m 54 #[.val (.int pa), .val (.int pb), .val (.int ((pa &&& (2147483647 : Int32)) % (178956970 : Int32))), .val (.int ((pb &&& (2147483647 : Int32)) % (12 : Int32))), .val (.ref b13), .val (.int ((((pa &&& (2147483647 : Int32)) % (178956970 : Int32)) * (12 : Int32)) + ((pb &&& (2147483647 : Int32)) % (12 : Int32))))] [(.int ((pb &&& (2147483647 : Int32)) % (12 : Int32))), (.int (((((pa &&& (2147483647 : Int32)) % (178956970 : Int32)) * (12 : Int32)) + ((pb &&& (2147483647 : Int32)) % (12 : Int32))) % (12 : Int32)))])) _
    refine XS.icmpNo X18.here hx rfl (hb hby at_54) rfl (teq (own_c3 (own_y pa) (own_m pb) : ((((((pa &&& (2147483647 : Int32)) % (178956970 : Int32)) * (12 : Int32)) + ((pb &&& (2147483647 : Int32)) % (12 : Int32))) % (12 : Int32)) = ((pb &&& (2147483647 : Int32)) % (12 : Int32))))).2 ?_
    show Steps p.tables e below (T18.setTop (mkF m 57 #[.val (.int pa), .val (.int pb), .val (.int ((pa &&& (2147483647 : Int32)) % (178956970 : Int32))), .val (.int ((pb &&& (2147483647 : Int32)) % (12 : Int32))), .val (.ref b13), .val (.int ((((pa &&& (2147483647 : Int32)) % (178956970 : Int32)) * (12 : Int32)) + ((pb &&& (2147483647 : Int32)) % (12 : Int32))))] [])) _
    refine XS.iconst X18.here hx rfl (hb hby at_57) ?_
    show Steps p.tables e below (T18.setTop (mkF m 58 #[.val (.int pa), .val (.int pb), .val (.int ((pa &&& (2147483647 : Int32)) % (178956970 : Int32))), .val (.int ((pb &&& (2147483647 : Int32)) % (12 : Int32))), .val (.ref b13), .val (.int ((((pa &&& (2147483647 : Int32)) % (178956970 : Int32)) * (12 : Int32)) + ((pb &&& (2147483647 : Int32)) % (12 : Int32))))] [(.int (1 : Int32))])) _
    refine XS.goto X18.here hx rfl (pc0 := 58) (pc' := 62) rfl (hb hby at_58) (by decide) (by decide) ?_
    show Steps p.tables e below (T18.setTop (mkF m 62 #[.val (.int pa), .val (.int pb), .val (.int ((pa &&& (2147483647 : Int32)) % (178956970 : Int32))), .val (.int ((pb &&& (2147483647 : Int32)) % (12 : Int32))), .val (.ref b13), .val (.int ((((pa &&& (2147483647 : Int32)) % (178956970 : Int32)) * (12 : Int32)) + ((pb &&& (2147483647 : Int32)) % (12 : Int32))))] [(.int (1 : Int32))])) _
    exact retN X18 hx (t := .boolean) Bd.returns (by simp) (hb hby at_62) hr
  · show Q0 Z pa pb h0 n0 _ T18.heap _
    rw [e18]
    exact ⟨rfl, N18⟩
set_option maxRecDepth 65536 in
set_option maxHeartbeats 40000000 in
theorem comes_1 {Post : Tables → Env → Array Value → State → Outcome → State → Prop} (hpost : ∀ tb e args s v u, (limb_1_1.after args s (.returned v) u = true ∧ limb_1_2.after args s (.returned v) u = true ∧ True) → FrameEnd s (.returned v) u (Jvm.fieldLocs frame_1_writes args s ++ Jvm.arrayLocs frame_1_arrays args s ++ Jvm.staticLocs frame_1_statics s) 16 128 → Post tb e args s (.returned v) u) :
    ArmFor flags0 classFile x code maxLocals ret World_1 tables_1 room_1 Calls_1 rest_1 Pre_1 Post := by
  intro l hfl _ _ p e ha hc hk s m args below hf hA hF happ hP
  obtain ⟨hcalls, hrest, hpre⟩ := hP
  obtain ⟨-, -, -, hnamed, -, -, -, hat⟩ := (Spec.applies_iff hf).mp happ
  obtain ⟨hg, hn⟩ := and_e (Cond.before_iff.mp (show (Jvm.Cond.and given_1 narrow_1).before args s = true from hpre))
  obtain ⟨hcount, ga0⟩ := and_e hg
  obtain ⟨gi0, ga1⟩ := and_e ga0
  have gi1 := ga1
  obtain ⟨w0, w1, rfl⟩ : ∃ w0 w1 : Value, args = #[w0, w1] := by
    have hs : args.size = 2 := by simpa [Cond.value, given_1] using hcount
    obtain ⟨L⟩ := args
    match L, hs with
    | [w0, w1], _ => exact ⟨w0, w1, rfl⟩
  have hw := fun d (hd : d ∈ tables_1) => atoms_spec (ws := Jvm.Cond.code x code maxLocals ret :: tables_1) hat d (List.mem_cons_of_mem _ hd)
  have hfit : Fit s := fun {y c} hc i hi => by
    obtain ⟨ha, rfl⟩ := Array.getElem?_eq_some_iff.mp hc
    have q := List.all_eq_true.mp ((Array.all_eq_true_iff_forall_mem.mp hF) _ (Array.getElem_mem ha)) i (List.mem_range.mpr hi)
    simpa [Array.getElem?_eq_getElem hi] using q
  obtain ⟨i0, ei0⟩ := is_v gi0
  obtain rfl : w0 = (.int i0) := Option.some.inj ei0
  obtain ⟨i1, ei1⟩ := is_v gi1
  obtain rfl : w1 = (.int i1) := Option.some.inj ei1
  obtain ⟨n, o, h1, h2, h3, _, L, rfl, ⟨rfl, N⟩, hq⟩ := rm0 l s _ hw tables_1 i0 i1  s.heap s.heap.size (Nat.le_refl _)  p e ha hc hk s m _ below hf ((Spec.applies_iff_loose hf).mp happ).1 ⟨rfl, State.Warmed39.refl s, rfl⟩ trivial
  refine ⟨n, _, h1, h2, h3, hpost _ _ _ _ _ _ ⟨Cond.after_iff.mpr rfl, Cond.after_iff.mpr (eq_i res_at (Term.int_eval (1)) rfl), trivial⟩ ⟨hq.1, hq.2.1, (hq.2.2.sift fun y hy => Or.inr (N y hy)).mono (by decide) (by decide)⟩⟩
theorem main_1_1 : Claimed_1_1 := comes_1 fun _ _ _ _ _ _ h hF => ⟨h.1, hF⟩
theorem main_1_2 : Claimed_1_2 := comes_1 fun _ _ _ _ _ _ h hF => ⟨h.2.1, hF⟩
end Jvm.Pilot.@@N@@
namespace Jvm.Pilot.@@N@@
open Jvm Jvm.ClassFile Sem Op Lib Jvm.Free Jvm.Stand Jvm.Pilot.@@N@@.Jvm.D
/-! MADE BY PROGRAM (witnessworld.py) out of the Statement's table words and the real class files: 10 classes; the members and pool entries that the words name. The judged class is class 1, her method 1. -/
namespace start1
open Jvm.ClassFile
def u (s : String) : CpInfo := .utf8 (stringToUtf16 s)
/-- a pool by its gaps: so many unusable entries, then the entry; so many at the end -/
def gap : Nat → List CpInfo → List CpInfo
  | 0, r => r
  | n + 1, r => .unusable :: gap n r
def poolList (es : List (Nat × CpInfo)) (last : Nat) : List CpInfo := es.foldr (fun e r => gap e.1 (e.2 :: r)) (gap last [])
def pool (es : List (Nat × CpInfo)) (last : Nat) : Array CpInfo := ⟨poolList es last⟩
def fileOf (pool : Array CpInfo) (this : Nat) (attrs : Array Attribute := #[]) (ms : Array MethodInfo := #[]) (fl : Nat := 33) (sup : Nat := 0) (ifs : Array Nat := #[]) (fds : Array FieldInfo := #[]) : ClassFile where
  minorVersion := 0
  majorVersion := 65
  constantPool := pool
  accessFlags := fl
  thisClass := this
  superClass := sup
  interfaces := ifs
  fields := fds
  methods := ms
  attributes := attrs
def plain (name : String) (sup : Option ClassId) : Class where
  name := name
  kind := .ordinary
  loader := none
  accessFlags := 33
  super := sup
  interfaces := #[]
  cf := none
  fields := #[]
  methods := #[]
  instanceTypes := #[]
  staticTypes := #[]
  resolved := #[]
  callSites := []
  init := .initialized
  statics := none
  mirror := none

def pool0 : Array CpInfo := pool [(5, u "<init>"), (0, u "()V"), (1, .class_ 10), (1, u "java/lang/Object")] 113

def k0c0 : Code := { maxStack := 0, maxLocals := 1, code := object_method_1_code, exceptionTable := #[], attributes := #[] }
def k0m0 : Method := { name := "<init>", desc := "()V", sig := { parameters := [], returnType := none }, accessFlags := 1, code := some k0c0 }
/-- java/lang/Object -/
def k0 : Class := { plain "java/lang/Object" none with
  accessFlags := 33
  interfaces := #[]
  cf := some (fileOf pool0 8 #[] #[{ accessFlags := 1, nameIndex := 5, descriptorIndex := 6, attributes := #[] }] 33 0 #[] #[])
  fields := #[]
  methods := #[k0m0]
  instanceTypes := #[]
  staticTypes := #[]
  resolved := Array.replicate 124 none
  statics := none }

def pool1 : Array CpInfo := pool [(2, .class_ 4), (1, u "java/lang/Object"), (0, u "<init>"), (0, u "()V"), (0, .integer 2147483647), (0, .integer 178956970), (0, .class_ 10), (0, u "com/example/vestwright/vestwright/Age"), (0, .methodref 9 12), (0, .nameAndType 5 13), (0, u "(II)V"), (0, .methodref 9 15), (0, .nameAndType 16 17), (0, u "inMonths"), (0, u "()I"), (0, .class_ 19), (0, u "com/example/vestwright/vestwright/AgeInMonthsPinLaw"), (2, u "law"), (0, u "(II)Z")] 3

def k1m0 : Method := { name := "<init>", desc := "()V", sig := { parameters := [], returnType := none }, accessFlags := 2, code := none }
def k1c1 : Code := { maxStack := 4, maxLocals := 6, code := code, exceptionTable := #[], attributes := #[] }
def k1m1 : Method := { name := "law", desc := "(II)Z", sig := { parameters := [.int, .int], returnType := some .boolean }, accessFlags := 9, code := some k1c1 }
/-- com/example/vestwright/vestwright/AgeInMonthsPinLaw -/
def k1 : Class := { plain "com/example/vestwright/vestwright/AgeInMonthsPinLaw" (some 0) with
  accessFlags := 49
  interfaces := #[]
  cf := some (fileOf pool1 18 #[] #[{ accessFlags := 2, nameIndex := 5, descriptorIndex := 6, attributes := #[] }, { accessFlags := 9, nameIndex := 22, descriptorIndex := 23, attributes := #[] }] 49 2 #[] #[])
  fields := #[]
  methods := #[k1m0, k1m1]
  instanceTypes := #[]
  staticTypes := #[]
  resolved := Array.replicate 27 none
  statics := none }

def pool2 : Array CpInfo := pool [(1, .methodref 2 3), (0, .class_ 4), (0, .nameAndType 5 6), (0, u "java/lang/Object"), (0, u "<init>"), (0, u "()V"), (0, .class_ 8), (0, u "java/lang/Record")] 13

def k2c0 : Code := { maxStack := 1, maxLocals := 1, code := jdk_30_method_1_code, exceptionTable := #[], attributes := #[] }
def k2m0 : Method := { name := "<init>", desc := "()V", sig := { parameters := [], returnType := none }, accessFlags := 4, code := some k2c0 }
/-- java/lang/Record -/
def k2 : Class := { plain "java/lang/Record" (some 0) with
  accessFlags := 1057
  interfaces := #[]
  cf := some (fileOf pool2 7 #[] #[{ accessFlags := 4, nameIndex := 5, descriptorIndex := 6, attributes := #[] }] 1057 2 #[] #[])
  fields := #[]
  methods := #[k2m0]
  instanceTypes := #[]
  staticTypes := #[]
  resolved := Array.replicate 22 none
  statics := none }

def pool3 : Array CpInfo := pool [(1, .methodref 2 3), (0, .class_ 4), (0, .nameAndType 5 6), (0, u "java/lang/Record"), (0, u "<init>"), (0, u "()V"), (0, .fieldref 8 9), (0, .class_ 10), (0, .nameAndType 11 12), (0, u "com/example/vestwright/vestwright/Age"), (0, u "years"), (0, u "I"), (0, .fieldref 8 14), (0, .nameAndType 15 12), (0, u "months"), (12, u "inMonths"), (0, u "()I"), (6, u "(II)V")] 46

def k3c0 : Code := { maxStack := 2, maxLocals := 3, code := prog_1_method_1_code, exceptionTable := #[], attributes := #[] }
def k3m0 : Method := { name := "<init>", desc := "(II)V", sig := { parameters := [.int, .int], returnType := none }, accessFlags := 0, code := some k3c0 }
def k3c1 : Code := { maxStack := 2, maxLocals := 1, code := prog_1_method_4_code, exceptionTable := #[], attributes := #[] }
def k3m1 : Method := { name := "inMonths", desc := "()I", sig := { parameters := [], returnType := some .int }, accessFlags := 0, code := some k3c1 }
/-- com/example/vestwright/vestwright/Age -/
def k3 : Class := { plain "com/example/vestwright/vestwright/Age" (some 2) with
  accessFlags := 48
  interfaces := #[]
  cf := some (fileOf pool3 8 #[] #[{ accessFlags := 0, nameIndex := 5, descriptorIndex := 36, attributes := #[] }, { accessFlags := 0, nameIndex := 28, descriptorIndex := 29, attributes := #[] }] 48 2 #[] #[{ accessFlags := 18, nameIndex := 11, descriptorIndex := 12, attributes := #[] }, { accessFlags := 18, nameIndex := 15, descriptorIndex := 12, attributes := #[] }])
  fields := #[{ name := "years", type := .int, accessFlags := 18, slot := 0, constantValue := 0 }, { name := "months", type := .int, accessFlags := 18, slot := 1, constantValue := 0 }]
  methods := #[k3m0, k3m1]
  instanceTypes := #[.int, .int]
  staticTypes := #[]
  resolved := Array.replicate 83 none
  statics := none }

def pool4 : Array CpInfo := pool [(1, u "java/lang/Cloneable"), (0, .class_ 1), (0, u "java/lang/Object"), (0, .class_ 3)] 3

/-- java/lang/Cloneable -/
def k4 : Class := { plain "java/lang/Cloneable" (some 0) with
  accessFlags := 1537
  interfaces := #[]
  cf := some (fileOf pool4 2 #[] #[] 1537 4 #[] #[])
  fields := #[]
  methods := #[]
  instanceTypes := #[]
  staticTypes := #[]
  resolved := Array.replicate 8 none
  statics := none }

def pool5 : Array CpInfo := pool [(1, u "java/io/Serializable"), (0, .class_ 1), (0, u "java/lang/Object"), (0, .class_ 3)] 3

/-- java/io/Serializable -/
def k5 : Class := { plain "java/io/Serializable" (some 0) with
  accessFlags := 1537
  interfaces := #[]
  cf := some (fileOf pool5 2 #[] #[] 1537 4 #[] #[])
  fields := #[]
  methods := #[]
  instanceTypes := #[]
  staticTypes := #[]
  resolved := Array.replicate 8 none
  statics := none }

/-- the primitive byte -/
def k6 : Class := { plain "byte" none with kind := .primitive 'B', accessFlags := 0x411 }
/-- [B -/
def k7 : Class := { plain "[B" (some 0) with kind := .array 6 .byte, interfaces := #[4, 5], accessFlags := 1041 }

/-- the primitive int -/
def k8 : Class := { plain "int" none with kind := .primitive 'I', accessFlags := 0x411 }
/-- [I -/
def k9 : Class := { plain "[I" (some 0) with kind := .array 8 .int, interfaces := #[4, 5], accessFlags := 1041 }

def heap : Heap := #[]
def classes : Array Class := #[k0, k1, k2, k3, k4, k5, k6, k7, k8, k9]
def interned : List (Array UInt16 × Addr) := []
def slotsUsed : Nat := 0
def theMethod : MethodId := ⟨1, 1⟩
def args0 : Array Value := #[.int 5, .int 300]
def aboutOver (below : List Frame) : State where
  vm := { classes := classes, interned := interned.toArray }
  heap := heap
  slotsUsed := slotsUsed
  threads := #[{ frames := .invoking theMethod args0 :: below }]
def below0 : List Frame := [.native { method := ⟨0, 0⟩, args := #[] }]
def about1 : State := aboutOver below0
def p0 : Program := .bare "" "" ""
def e0 : Env := launch0.env 0 0 0
theorem w_frames : about1.frames = Frame.invoking theMethod args0 :: below0 := rfl
set_option maxRecDepth 65536 in
theorem w_args : argsFit about1.vm theMethod args0 = true := by decide +kernel
set_option maxRecDepth 65536 in
theorem w_heap : heapFits about1 = true := by decide +kernel
set_option maxRecDepth 65536 in
theorem w_runnable : about1.curStatus? = some .runnable := by decide +kernel
set_option maxRecDepth 65536 in
theorem w_alone : about1.alone = true := by decide +kernel
set_option maxRecDepth 65536 in
theorem w_named : about1.methodNamed? x = some theMethod := by decide +kernel
set_option maxRecDepth 65536 in
theorem w_hears : about1.hears theMethod below0 = true := by decide +kernel
set_option maxRecDepth 65536 in
theorem w_ripe : about1.ripe theMethod args0 below0 = true := by decide +kernel
theorem w_running : about1.status = .running := rfl
set_option maxRecDepth 65536 in
theorem w_room : about1.hasRoom e0.platform room_1 = true :=
  launch0.hasRoom_least _ room_1 (by decide +kernel) (by decide +kernel) (by decide +kernel) (by decide +kernel) (by decide +kernel) (by decide +kernel)
theorem allAtoms_all (ts : List Jvm.Cond) (a : Array Jvm.Value) (st : Jvm.State) : (allAtoms ts).before a st = ts.all (fun c => c.before a st) := by
  induction ts with
  | nil => rfl
  | cons c t ih =>
    show (Jvm.Cond.and c (allAtoms t)).before a st = _
    rw [Jvm.Cond.before_and, ih, List.all_cons]
def words1 : List Jvm.Cond := Jvm.Cond.code x code maxLocals ret :: tables_1
/-- a 'code' word, met by the world's own term for the bytes: nothing is compared byte by byte -/
theorem code_word {y : MethodName} {bytes : ByteArray} {mx : Nat} {rt : Option FieldType} {a : Array Value} {s : State} {m : MethodId} {meth : Method} {c : Code} (h1 : s.methodNamed? y = some m) (h2 : s.vm.method? m = some meth) (h3 : meth.code = some c) (h4 : c.code = bytes)
    (h5 : (c.maxLocals == mx && c.exceptionTable.isEmpty && decide (c.maxStack ≤ mostOperands) && decide (meth.sig.returnType = rt) && !meth.locks && decide (parseMethodDescriptor y.desc = some meth.sig)) = true) : (Jvm.Cond.code y bytes mx rt).before a s = true := by
  simp only [Bool.and_eq_true, beq_iff_eq, Bool.not_eq_true', decide_eq_true_eq] at h5
  obtain ⟨⟨⟨⟨⟨g1, g2⟩, g3⟩, g4⟩, g5⟩, g6⟩ := h5
  simp [Cond.before, Cond.holds, Cond.value, h1, h2, h3, h4, g1, g2, g3, g4, g5, g6]
def isCode : Jvm.Cond → Bool
  | .code _ _ _ _ => true
  | _ => false
theorem all_split {L : List Jvm.Cond} {P : Jvm.Cond → Bool} (h1 : L.all (fun c => isCode c || P c) = true) (h2 : ∀ c ∈ L.filter isCode, P c = true) : L.all P = true := by
  refine List.all_eq_true.mpr fun c hc => ?_
  have h := List.all_eq_true.mp h1 c hc
  rcases Bool.eq_false_or_eq_true (isCode c) with hi | hi
  · exact h2 c (List.mem_filter.mpr ⟨hc, hi⟩)
  · simpa [hi] using h
set_option maxRecDepth 65536 in
theorem w_c0 : (Jvm.Cond.code x code maxLocals ret).before args0 about1 = true := code_word (m := ⟨1, 1⟩) (meth := k1m1) (c := k1c1) (by decide +kernel) rfl rfl rfl (by decide +kernel)
set_option maxRecDepth 65536 in
theorem w_c1 : (Jvm.Cond.code ({ cls := "com/example/vestwright/vestwright/Age", name := "<init>", desc := "(II)V" } : Jvm.MethodName) prog_1_method_1_code (3 : Nat) (Option.none : Option Jvm.ClassFile.FieldType)).before args0 about1 = true := code_word (m := ⟨3, 0⟩) (meth := k3m0) (c := k3c0) (by decide +kernel) rfl rfl rfl (by decide +kernel)
set_option maxRecDepth 65536 in
theorem w_c2 : (Jvm.Cond.code ({ cls := "java/lang/Record", name := "<init>", desc := "()V" } : Jvm.MethodName) jdk_30_method_1_code (1 : Nat) (Option.none : Option Jvm.ClassFile.FieldType)).before args0 about1 = true := code_word (m := ⟨2, 0⟩) (meth := k2m0) (c := k2c0) (by decide +kernel) rfl rfl rfl (by decide +kernel)
set_option maxRecDepth 65536 in
theorem w_c3 : (Jvm.Cond.code ({ cls := "java/lang/Object", name := "<init>", desc := "()V" } : Jvm.MethodName) object_method_1_code (1 : Nat) (Option.none : Option Jvm.ClassFile.FieldType)).before args0 about1 = true := code_word (m := ⟨0, 0⟩) (meth := k0m0) (c := k0c0) (by decide +kernel) rfl rfl rfl (by decide +kernel)
set_option maxRecDepth 65536 in
theorem w_c4 : (Jvm.Cond.code ({ cls := "com/example/vestwright/vestwright/Age", name := "inMonths", desc := "()I" } : Jvm.MethodName) prog_1_method_4_code (1 : Nat) (Option.some Jvm.ClassFile.FieldType.int)).before args0 about1 = true := code_word (m := ⟨3, 1⟩) (meth := k3m1) (c := k3c1) (by decide +kernel) rfl rfl rfl (by decide +kernel)
def codes1 : List Jvm.Cond := [Jvm.Cond.code x code maxLocals ret, Jvm.Cond.code ({ cls := "com/example/vestwright/vestwright/Age", name := "<init>", desc := "(II)V" } : Jvm.MethodName) prog_1_method_1_code (3 : Nat) (Option.none : Option Jvm.ClassFile.FieldType), Jvm.Cond.code ({ cls := "java/lang/Record", name := "<init>", desc := "()V" } : Jvm.MethodName) jdk_30_method_1_code (1 : Nat) (Option.none : Option Jvm.ClassFile.FieldType), Jvm.Cond.code ({ cls := "java/lang/Object", name := "<init>", desc := "()V" } : Jvm.MethodName) object_method_1_code (1 : Nat) (Option.none : Option Jvm.ClassFile.FieldType), Jvm.Cond.code ({ cls := "com/example/vestwright/vestwright/Age", name := "inMonths", desc := "()I" } : Jvm.MethodName) prog_1_method_4_code (1 : Nat) (Option.some Jvm.ClassFile.FieldType.int)]
set_option maxRecDepth 65536 in
theorem codes_eq : words1.filter isCode = codes1 := rfl
theorem w_codes : ∀ c ∈ words1.filter isCode, c.before args0 about1 = true := by
  rw [codes_eq]
  intro c hc
  simp only [codes1, List.mem_cons, List.not_mem_nil, or_false] at hc
  rcases hc with rfl | rfl | rfl | rfl | rfl
  · exact w_c0
  · exact w_c1
  · exact w_c2
  · exact w_c3
  · exact w_c4
set_option maxRecDepth 65536 in
theorem w_t1 : (words1.take 24).all (fun c => isCode c || c.before args0 about1) = true := by decide +kernel
set_option maxRecDepth 65536 in
theorem w_t2 : (words1.drop 24).all (fun c => isCode c || c.before args0 about1) = true := by decide +kernel
theorem w_tables : (allAtoms (Jvm.Cond.code x code maxLocals ret :: tables_1)).before args0 about1 = true := by
  rw [allAtoms_all]
  show words1.all (fun c => c.before args0 about1) = true
  refine all_split ?_ w_codes
  rw [← List.take_append_drop 24 words1, List.all_append, w_t1, w_t2]
  rfl
set_option maxRecDepth 65536 in
theorem w_case : (Jvm.Cond.and given_1 narrow_1).before args0 about1 = true := by decide +kernel
theorem w_applies : (headSpec (Jvm.Cond.code x code maxLocals ret :: tables_1) room_1).applies x e0.platform about1 = true :=
  (Spec.applies_iff w_frames).mpr ⟨w_running, w_runnable, w_alone, w_named, w_hears, w_ripe, w_room, w_tables⟩
theorem atStart : AtStart classFile x code maxLocals ret World_1 tables_1 room_1 Calls_1 rest_1 Pre_1 launch0 p0 e0 about1 theMethod args0 below0 :=
  ⟨lists_1, trivial, launch0.admits_env _ _ _, launch0.least_env, fairChoices_fair.cas, fairChoices_fair.clock, w_frames, w_args, w_heap, w_applies, trivial, trivial, w_case⟩
end start1
theorem witness_1 : WitnessClaimed_1 := ⟨start1.p0, start1.e0, start1.about1, start1.theMethod, start1.args0, start1.below0, start1.atStart⟩
end Jvm.Pilot.@@N@@
