import JvmDerived
import JvmDerived.Pilot.@@N@@Statement
import JvmDerived.Pilot.@@N@@Code
set_option linter.unusedVariables false
set_option linter.unusedSimpArgs false
namespace Jvm.RoadKit
open Sem ClassFile Op Lib Jvm.Stand Jvm.Free Jvm.LawKit
section New
variable {p : Program} {l : Launch} {e : Env} {R : Room} {s : State} {m : MethodId} {args : Array Value} {below : List Frame} {meth : Method} {c : Code} {T : State} {locs : List Loc} {cells slots : Nat}
theorem retI (X : Stand p l e R s m args below meth c T locs cells slots) (hx : p.tables.exec = Jvm.exec) {pc : Nat} {Ls : Array Slot} {z : Int32} {rest : List Value} (hret : meth.sig.returnType = some .int) (hd : decode c.code pc = .ok (.ireturn, 1)) {fs : List Frame}
    (hl : ∀ (f : JFrame) (acts : List Action), f.method = m → f.locked = none → f.entered = [] → (doReturn e (T.setTop f) acts (some (.int z))).1 = T.setFrames fs) : Steps p.tables e below (T.setTop (mkF m pc Ls (.int z :: rest))) (T.setFrames fs) := by
  have hm' : T.vm.method? m = some meth := X.method'
  have hn : narrow .int (.int z) = .int z := rfl
  show Steps p.tables e below (T.setTop { method := m, pc := pc, locals := Ls, stack := _ :: rest, locked := none }) _
  jvm_step X.here [X.here.top, hx, hd, hm', hret, hn]
  first | (intro acts; rw [hl _ acts rfl rfl rfl]) | rw [hl _ _ rfl rfl rfl]
  exact Steps.refl _
end New
end Jvm.RoadKit
namespace Jvm.Pilot.@@N@@
open Jvm Jvm.ClassFile Sem Op Lib Jvm.Free Jvm.Stand Jvm.LawKit Jvm.RoadKit Bundle Jvm.Pilot.@@N@@.Jvm.D
theorem own_d (r : Int64) : 0 ≤ (r &&& 9223372036854775807).toInt := (c_andSL r 9223372036854775807).2.2 (by decide)
theorem own_d0 (r : Int64) : ¬ (r &&& 9223372036854775807) < 0 := by
  rw [Int64.lt_iff_toInt_lt]; have := own_d r; rw [show (0 : Int64).toInt = 0 from rfl]; omega
theorem own_eq (n d : Int64) (hd : 0 ≤ d.toInt) : (if (n + d) < n then (9223372036854775807 : Int64) else (n + d)) = (if n < 0 then (n + d) else if (9223372036854775807 - n) < d then 9223372036854775807 else (n + d)) := by
  have h1 := c_ladd n d
  have h2 := c_lsub 9223372036854775807 n
  have h3 := rng64 (n + d)
  have h4 := rng64 (9223372036854775807 - n)
  have h5 := rng64 n
  have h6 := rng64 d
  rw [show (9223372036854775807 : Int64).toInt = 9223372036854775807 from rfl] at h2
  by_cases a : (n + d) < n <;> by_cases b : n < 0 <;> by_cases c : (9223372036854775807 - n) < d
  all_goals simp only [a, b, c, if_true, if_false]
  all_goals (exfalso; rw [Int64.lt_iff_toInt_lt] at a b c; rw [show (0 : Int64).toInt = 0 from rfl] at b; omega)
theorem d2_0 : decode jdk_30_method_1_code 0 = .ok (.aload_n 0, 1) := by decide +kernel
theorem d2_1 : decode jdk_30_method_1_code 1 = .ok (.invokespecial 1, 3) := by decide +kernel
theorem d2_4 : decode jdk_30_method_1_code 4 = .ok (.return_, 1) := by decide +kernel
theorem own_pn3 : plainName "java/lang/Record" = true := by first | (simp [plainName, overriddenIn]; done) | decide +kernel
theorem ef_2 (m : MethodId) (x0 : Addr) : entryFrame m #[(.ref x0)] 1 = mkF m 0 #[.val (.ref x0)] [] := by first | (simp [entryFrame, mkF, argsToLocals, Value.category]; done) | rfl
def Q2 (Z : State) (ar : Addr) (h0 : Heap) (n0 : Nat) (v : Option Value) (h : Heap) (L : List Loc) : Prop := v = none ∧ Fr n0 L ∧ h = h0
set_option maxRecDepth 65536 in
set_option maxHeartbeats 40000000 in
theorem rm2 (l : Launch) (Z : State) (a0 : Array Value) (hw : ∀ d ∈ tables_1, d.before a0 Z = true) (ws : List Jvm.Cond) (ar : Addr) (h0 : Heap) (n0 : Nat) (Z0 : n0 ≤ h0.size) :
    MetFree l (⟨"java/lang/Record", "<init>", "()V"⟩ : MethodName) (head1 (Jvm.Cond.code (⟨"java/lang/Record", "<init>", "()V"⟩ : MethodName) jdk_30_method_1_code 1 none :: ws) ({ frames := 1, cells := 0, slots := 0, locals := 12 } : Room)) (fun a U => a = #[(.ref ar)] ∧ Z.Warmed39 U.vm ∧ U.heap = h0) (fun _ _ _ _ _ => True) (fun _ U o U' => ∃ v L, o = .returned v ∧ Q2 Z ar h0 n0 v U'.heap L ∧ FrameEnd U o U' L ({ frames := 1, cells := 0, slots := 0, locals := 12 } : Room).cells ({ frames := 1, cells := 0, slots := 0, locals := 12 } : Room).slots) := by
  refine MetFree.of_bodySF (plainFor_of_name own_pn3) hisR ?_
  intro p e s m args below meth c s₁ Bd hml0 hP hK
  obtain ⟨rfl, hZ, hh⟩ := hP
  have hx := Bd.exec
  have hby := Bd.bytes
  have hml : c.maxLocals = 1 := hml0
  have hown : s.vm.findClass "java/lang/Record" = some m.cls := findClass_of_methodNamed Bd.named
  have hnm := (name_of_methodNamed Bd.named Bd.method).1
  have X0 : Stand p l e ({ frames := 1, cells := 0, slots := 0, locals := 12 } : Room) s m #[(.ref ar)] below meth c s₁ [] 0 0 := Stand.of_body Bd
  have e0 : s₁.heap = h0 := by rw [← hh, Bd.state]; rfl
  have N0 := Fr.nil n0
  have pre0 : ∀ t, Steps p.tables e below (s₁.setTop (mkF m 0 #[.val (.ref ar)] [])) t → Steps p.tables e below (s₁.setTop (entryFrame m #[(.ref ar)] 1)) t := fun t k => castTop (ef_2 m ar) k
  generalize s₁.setTop (entryFrame m #[(.ref ar)] 1) = G0 at pre0 ⊢
  obtain ⟨T1, X1, e1, st1⟩ := initO X0 hx hZ hown (hw _ (List.mem_of_getElem? (i := 12) rfl)) (hw _ (List.mem_of_getElem? (i := 13) rfl)) (hw _ (List.mem_of_getElem? (i := 14) rfl)) e0 (g := (mkF m 1 #[.val (.ref ar)] [(.ref ar)])) rfl (by rw [hml]; rfl) rfl (hb hby d2_1) (by decide) (W := 0) (by show 2 * 0 + _ ≤ _; exact Nat.le_of_eq rfl) (by decide)
  obtain ⟨fs, hr, hrun, hended, hW, hsame⟩ := X1.leave (v := none) (fun _ => rfl)
  refine ⟨_, _, pre0 _ ?_, hrun, hended, _, _, rfl, ?_, ⟨_, rfl⟩, hW, hsame.mono (by decide) (by decide)⟩
  · show Steps p.tables e below (s₁.setTop (mkF m 0 #[.val (.ref ar)] [])) _
    refine XS.aloadN X0.here hx rfl (hb hby d2_0) rfl rfl ?_
    show Steps p.tables e below (s₁.setTop (mkF m 1 #[.val (.ref ar)] [(.ref ar)])) _
    refine st1 _ ?_
    show Steps p.tables e below (T1.setTop (mkF m 4 #[.val (.ref ar)] [])) _
    exact X1.returnOut hx Bd.returns (hb hby d2_4) hr
  · show Q2 Z ar h0 n0 _ T1.heap _
    rw [e1]
    exact ⟨rfl, N0, rfl⟩
theorem d1_0 : decode prog_25_method_1_code 0 = .ok (.aload_n 0, 1) := by decide +kernel
theorem d1_1 : decode prog_25_method_1_code 1 = .ok (.invokespecial 1, 3) := by decide +kernel
theorem own_pd6 : parseMethodDescriptor "()V" = some ⟨[], none⟩ := by decide +kernel
theorem d1_4 : decode prog_25_method_1_code 4 = .ok (.lload_n 1, 1) := by decide +kernel
theorem d1_5 : decode prog_25_method_1_code 5 = .ok (.lconst 0, 1) := by decide +kernel
theorem d1_6 : decode prog_25_method_1_code 6 = .ok (.lcmp, 1) := by decide +kernel
theorem d1_7 : decode prog_25_method_1_code 7 = .ok (.ifCond .ge 16, 3) := by decide +kernel
theorem d1_23 : decode prog_25_method_1_code 23 = .ok (.aload_n 0, 1) := by decide +kernel
theorem d1_24 : decode prog_25_method_1_code 24 = .ok (.lload_n 1, 1) := by decide +kernel
theorem d1_25 : decode prog_25_method_1_code 25 = .ok (.putfield 20, 3) := by decide +kernel
theorem d1_28 : decode prog_25_method_1_code 28 = .ok (.return_, 1) := by decide +kernel
theorem own_pn15 : plainName "com/example/wake_on_log/wakeonlog/timeline/Due$After" = true := by first | (simp [plainName, overriddenIn]; done) | decide +kernel
theorem ef_1 (m : MethodId) (x0 : Addr) (x1 : Int64) : entryFrame m #[(.ref x0), (.long x1)] 3 = mkF m 0 #[.val (.ref x0), .val (.long x1), .second] [] := by first | (simp [entryFrame, mkF, argsToLocals, Value.category]; done) | rfl
def Q1 (Z : State) (aa : Addr) (qd : Int64) (h0 : Heap) (n0 : Nat) (v : Option Value) (h : Heap) (L : List Loc) : Prop := v = none ∧ Fr n0 L ∧ Keep h0 h [aa] ∧ Exa Z h aa "com/example/wake_on_log/wakeonlog/timeline/Due$After" ∧ Fld Z h aa "com/example/wake_on_log/wakeonlog/timeline/Due$After" "delayMillis" "J" (.long qd)
set_option maxRecDepth 65536 in
set_option maxHeartbeats 40000000 in
theorem rm1 (l : Launch) (Z : State) (a0 : Array Value) (hw : ∀ d ∈ tables_1, d.before a0 Z = true) (ws : List Jvm.Cond) (aa : Addr) (qd : Int64) (h0 : Heap) (n0 : Nat) (Z0 : n0 ≤ h0.size) (Fd : Fld Z h0 aa "com/example/wake_on_log/wakeonlog/timeline/Due$After" "delayMillis" "J" (.long (0 : Int64))) (Ea : Exa Z h0 aa "com/example/wake_on_log/wakeonlog/timeline/Due$After") (g_aa : n0 ≤ aa) (hge : ¬ qd < (0 : Int64)) :
    MetFree l (⟨"com/example/wake_on_log/wakeonlog/timeline/Due$After", "<init>", "(J)V"⟩ : MethodName) (head1 (Jvm.Cond.code (⟨"com/example/wake_on_log/wakeonlog/timeline/Due$After", "<init>", "(J)V"⟩ : MethodName) prog_25_method_1_code 3 none :: ws) ({ frames := 2, cells := 0, slots := 0, locals := 24 } : Room)) (fun a U => a = #[(.ref aa), (.long qd)] ∧ Z.Warmed39 U.vm ∧ U.heap = h0) (fun _ _ _ _ _ => True) (fun _ U o U' => ∃ v L, o = .returned v ∧ Q1 Z aa qd h0 n0 v U'.heap L ∧ FrameEnd U o U' L ({ frames := 2, cells := 0, slots := 0, locals := 24 } : Room).cells ({ frames := 2, cells := 0, slots := 0, locals := 24 } : Room).slots) := by
  refine MetFree.of_bodySF (plainFor_of_name own_pn15) hisR ?_
  intro p e s m args below meth c s₁ Bd hml0 hP hK
  obtain ⟨rfl, hZ, hh⟩ := hP
  have hx := Bd.exec
  have hby := Bd.bytes
  have hml : c.maxLocals = 3 := hml0
  have hown : s.vm.findClass "com/example/wake_on_log/wakeonlog/timeline/Due$After" = some m.cls := findClass_of_methodNamed Bd.named
  have hnm := (name_of_methodNamed Bd.named Bd.method).1
  have X0 : Stand p l e ({ frames := 2, cells := 0, slots := 0, locals := 24 } : Room) s m #[(.ref aa), (.long qd)] below meth c s₁ [] 0 0 := Stand.of_body Bd
  have e0 : s₁.heap = h0 := by rw [← hh, Bd.state]; rfl
  have N0 := Fr.nil n0
  have pre0 : ∀ t, Steps p.tables e below (s₁.setTop (mkF m 0 #[.val (.ref aa), .val (.long qd), .second] [])) t → Steps p.tables e below (s₁.setTop (entryFrame m #[(.ref aa), (.long qd)] 3)) t := fun t k => castTop (ef_1 m aa qd) k
  generalize s₁.setTop (entryFrame m #[(.ref aa), (.long qd)] 3) = G0 at pre0 ⊢
  obtain ⟨_, _, ⟨T2, L2, k2, n2⟩, -, X2, ⟨Lc2, hQ2, l2, y2, z2⟩, st2⟩ := X0.specialBack hx (y := (⟨"java/lang/Record", "<init>", "()V"⟩ : MethodName)) rfl hown (mvT hZ (hw _ (List.mem_of_getElem? (i := 7) rfl))) (mvT hZ (hw _ (List.mem_of_getElem? (i := 8) rfl))) (mvT hZ (hw _ (List.mem_of_getElem? (i := 11) rfl))) (by decide) (backOf (W := 0) (rm2 l Z a0 hw [] aa  h0 n0 Z0 ) hZ (hw _ (List.mem_of_getElem? (i := 11) rfl)) (hw _ (List.mem_of_getElem? (i := 10) rfl)) (by decide) (by decide)) (g := (mkF m 1 #[.val (.ref aa), .val (.long qd), .second] [(.ref aa)])) rfl (by rw [hml]; rfl) (Steps.refl _) (a := aa) (argsL := []) (rest := []) (lenOf own_pd6 rfl) rfl (by show 2 * 0 + _ ≤ _; exact Nat.le_of_eq rfl) (hb hby d1_1) (fun _ _ => ⟨rfl, e0, (by decide : 0 + 0 ≤ _), (by decide : 0 + 0 ≤ _)⟩)
  dsimp only [Pt.U, Pt.locs, Pt.cells, Pt.slots] at X2 l2 y2 z2 st2 hQ2
  subst l2 y2 z2
  obtain ⟨rfl, Nq2, e2⟩ := hQ2
  have N2 := Fr.app N0 Nq2
  obtain ⟨T3, h3, X3, e3, W3, st3⟩ := putF X2 hx hZ hown (host := "") (Or.inl (hw _ (List.mem_of_getElem? (i := 15) rfl))) Via.refl e2 Fd Ea (Or.inr ⟨(hw _ (List.mem_of_getElem? (i := 16) rfl)), rfl, hnm⟩) (hw _ (List.mem_of_getElem? (i := 2) rfl)) (ty := .long) (by decide) rfl rfl (g := (mkF m 25 #[.val (.ref aa), .val (.long qd), .second] [(.long qd), (.ref aa)])) rfl rfl (hb hby d1_25)
  have N3 := Fr.snoc X3 N2 g_aa
  have Zs3 : n0 ≤ h3.size := Nat.le_trans Z0 (Keep.of_wr W3).1
  have KK3 : Keep h0 h3 [aa] := (Keep.refl h0 _).wr W3 (Or.inl (List.mem_of_getElem? (i := 0) rfl))
  have f4 := Ea.wr W3
  have f5 := Fd.same W3
  obtain ⟨fs, hr, hrun, hended, hW, hsame⟩ := X3.leave (v := none) (fun _ => rfl)
  refine ⟨_, _, pre0 _ ?_, hrun, hended, _, _, rfl, ?_, ⟨_, rfl⟩, hW, hsame.mono (by decide) (by decide)⟩
  · show Steps p.tables e below (s₁.setTop (mkF m 0 #[.val (.ref aa), .val (.long qd), .second] [])) _
    refine XS.aloadN X0.here hx rfl (hb hby d1_0) rfl rfl ?_
    show Steps p.tables e below (s₁.setTop (mkF m 1 #[.val (.ref aa), .val (.long qd), .second] [(.ref aa)])) _
    refine st2.trans ?_
    show Steps p.tables e below (T2.setTop (mkF m 4 #[.val (.ref aa), .val (.long qd), .second] [])) _
    refine XS.lloadN X2.here hx rfl (hb hby d1_4) rfl ?_
    show Steps p.tables e below (T2.setTop (mkF m 5 #[.val (.ref aa), .val (.long qd), .second] [(.long qd)])) _
    refine XS.lconst X2.here hx rfl (hb hby d1_5) ?_
    show Steps p.tables e below (T2.setTop (mkF m 6 #[.val (.ref aa), .val (.long qd), .second] [(.long (0 : Int64)), (.long qd)])) _
    refine XS.lcmp X2.here hx rfl (hb hby d1_6) rfl ?_
    show Steps p.tables e below (T2.setTop (mkF m 7 #[.val (.ref aa), .val (.long qd), .second] [(.int (lcmpW qd (0 : Int64)))])) _
    refine XS.ifYes X2.here hx rfl (pc0 := 7) (pc' := 23) rfl (hb hby d1_7) rfl ((if0 _ _).trans (flt (fun q => (hge : ¬ (qd < (0 : Int64))) ((lw_lt qd (0 : Int64)).mp q))).2.1) (by decide) (by decide) ?_
    show Steps p.tables e below (T2.setTop (mkF m 23 #[.val (.ref aa), .val (.long qd), .second] [])) _
    refine XS.aloadN X2.here hx rfl (hb hby d1_23) rfl rfl ?_
    show Steps p.tables e below (T2.setTop (mkF m 24 #[.val (.ref aa), .val (.long qd), .second] [(.ref aa)])) _
    refine XS.lloadN X2.here hx rfl (hb hby d1_24) rfl ?_
    show Steps p.tables e below (T2.setTop (mkF m 25 #[.val (.ref aa), .val (.long qd), .second] [(.long qd), (.ref aa)])) _
    refine st3 _ ?_
    show Steps p.tables e below (T3.setTop (mkF m 28 #[.val (.ref aa), .val (.long qd), .second] [])) _
    exact X3.returnOut hx Bd.returns (hb hby d1_28) hr
  · show Q1 Z aa qd h0 n0 _ T3.heap _
    rw [e3]
    exact ⟨rfl, N3, KK3, f4, f5⟩
theorem d4_0 : decode prog_25_method_2_code 0 = .ok (.lload_n 1, 1) := by decide +kernel
theorem d4_1 : decode prog_25_method_2_code 1 = .ok (.aload_n 0, 1) := by decide +kernel
theorem d4_2 : decode prog_25_method_2_code 2 = .ok (.getfield 20, 3) := by decide +kernel
theorem d4_5 : decode prog_25_method_2_code 5 = .ok (.ladd, 1) := by decide +kernel
theorem d4_6 : decode prog_25_method_2_code 6 = .ok (.lstore_n 3, 1) := by decide +kernel
theorem d4_7 : decode prog_25_method_2_code 7 = .ok (.lload_n 3, 1) := by decide +kernel
theorem d4_8 : decode prog_25_method_2_code 8 = .ok (.lload_n 1, 1) := by decide +kernel
theorem d4_9 : decode prog_25_method_2_code 9 = .ok (.lcmp, 1) := by decide +kernel
theorem d4_10 : decode prog_25_method_2_code 10 = .ok (.ifCond .ge 9, 3) := by decide +kernel
theorem d4_13 : decode prog_25_method_2_code 13 = .ok (.ldc2_w 28, 3) := by decide +kernel
theorem d4_16 : decode prog_25_method_2_code 16 = .ok (.goto 4, 3) := by decide +kernel
theorem d4_20 : decode prog_25_method_2_code 20 = .ok (.lreturn, 1) := by decide +kernel
theorem d4_19 : decode prog_25_method_2_code 19 = .ok (.lload_n 3, 1) := by decide +kernel
theorem ef_4 (m : MethodId) (x0 : Addr) (x1 : Int64) : entryFrame m #[(.ref x0), (.long x1)] 5 = mkF m 0 #[.val (.ref x0), .val (.long x1), .second, .unset, .unset] [] := by first | (simp [entryFrame, mkF, argsToLocals, Value.category]; done) | rfl
def Q4 (Z : State) (aa : Addr) (qn : Int64) (qd : Int64) (h0 : Heap) (n0 : Nat) (v : Option Value) (h : Heap) (L : List Loc) : Prop := v = some (.long (if (qn + qd) < qn then (9223372036854775807 : Int64) else (qn + qd))) ∧ Fr n0 L ∧ h = h0
set_option maxRecDepth 65536 in
set_option maxHeartbeats 40000000 in
theorem rm4 (l : Launch) (Z : State) (a0 : Array Value) (hw : ∀ d ∈ tables_1, d.before a0 Z = true) (ws : List Jvm.Cond) (aa : Addr) (qn : Int64) (qd : Int64) (h0 : Heap) (n0 : Nat) (Z0 : n0 ≤ h0.size) (Fd : Fld Z h0 aa "com/example/wake_on_log/wakeonlog/timeline/Due$After" "delayMillis" "J" (.long qd)) :
    MetFree l (⟨"com/example/wake_on_log/wakeonlog/timeline/Due$After", "resolve", "(J)J"⟩ : MethodName) (head1 (Jvm.Cond.code (⟨"com/example/wake_on_log/wakeonlog/timeline/Due$After", "resolve", "(J)J"⟩ : MethodName) prog_25_method_2_code 5 (some .long) :: ws) ({ frames := 0, cells := 0, slots := 0, locals := 0 } : Room)) (fun a U => a = #[(.ref aa), (.long qn)] ∧ Z.Warmed39 U.vm ∧ U.heap = h0) (fun _ _ _ _ _ => True) (fun _ U o U' => ∃ v L, o = .returned v ∧ Q4 Z aa qn qd h0 n0 v U'.heap L ∧ FrameEnd U o U' L ({ frames := 0, cells := 0, slots := 0, locals := 0 } : Room).cells ({ frames := 0, cells := 0, slots := 0, locals := 0 } : Room).slots) := by
  refine MetFree.of_bodySF (plainFor_of_name own_pn15) hisR ?_
  intro p e s m args below meth c s₁ Bd hml0 hP hK
  obtain ⟨rfl, hZ, hh⟩ := hP
  have hx := Bd.exec
  have hby := Bd.bytes
  have hml : c.maxLocals = 5 := hml0
  have hown : s.vm.findClass "com/example/wake_on_log/wakeonlog/timeline/Due$After" = some m.cls := findClass_of_methodNamed Bd.named
  have hnm := (name_of_methodNamed Bd.named Bd.method).1
  have X0 : Stand p l e ({ frames := 0, cells := 0, slots := 0, locals := 0 } : Room) s m #[(.ref aa), (.long qn)] below meth c s₁ [] 0 0 := Stand.of_body Bd
  have e0 : s₁.heap = h0 := by rw [← hh, Bd.state]; rfl
  have N0 := Fr.nil n0
  have pre0 : ∀ t, Steps p.tables e below (s₁.setTop (mkF m 0 #[.val (.ref aa), .val (.long qn), .second, .unset, .unset] [])) t → Steps p.tables e below (s₁.setTop (entryFrame m #[(.ref aa), (.long qn)] 5)) t := fun t k => castTop (ef_4 m aa qn) k
  generalize s₁.setTop (entryFrame m #[(.ref aa), (.long qn)] 5) = G0 at pre0 ⊢
  obtain ⟨T6, X6, e6, st6⟩ := getF X0 hx hZ hown (host := "") (Or.inl (hw _ (List.mem_of_getElem? (i := 15) rfl))) Via.refl e0 Fd (g := (mkF m 2 #[.val (.ref aa), .val (.long qn), .second, .unset, .unset] [(.ref aa), (.long qn)])) rfl rfl (hb hby d4_2)
  have pre7 : ∀ t, Steps p.tables e below (T6.setTop (mkF m 10 #[.val (.ref aa), .val (.long qn), .second, .val (.long (qn + qd)), .second] [(.int (lcmpW (qn + qd) qn))])) t → Steps p.tables e below G0 t := by
    intro t k
    refine pre0 t ?_
    show Steps p.tables e below (s₁.setTop (mkF m 0 #[.val (.ref aa), .val (.long qn), .second, .unset, .unset] [])) _
    refine XS.lloadN X0.here hx rfl (hb hby d4_0) rfl ?_
    show Steps p.tables e below (s₁.setTop (mkF m 1 #[.val (.ref aa), .val (.long qn), .second, .unset, .unset] [(.long qn)])) _
    refine XS.aloadN X0.here hx rfl (hb hby d4_1) rfl rfl ?_
    show Steps p.tables e below (s₁.setTop (mkF m 2 #[.val (.ref aa), .val (.long qn), .second, .unset, .unset] [(.ref aa), (.long qn)])) _
    refine st6 _ ?_
    show Steps p.tables e below (T6.setTop (mkF m 5 #[.val (.ref aa), .val (.long qn), .second, .unset, .unset] [(.long qd), (.long qn)])) _
    refine XS.ladd X6.here hx rfl (hb hby d4_5) rfl ?_
    show Steps p.tables e below (T6.setTop (mkF m 6 #[.val (.ref aa), .val (.long qn), .second, .unset, .unset] [(.long (qn + qd))])) _
    refine XS.lstoreN X6.here hx rfl (hb hby d4_6) rfl (l' := #[.val (.ref aa), .val (.long qn), .second, .val (.long (qn + qd)), .second]) rfl ?_
    show Steps p.tables e below (T6.setTop (mkF m 7 #[.val (.ref aa), .val (.long qn), .second, .val (.long (qn + qd)), .second] [])) _
    refine XS.lloadN X6.here hx rfl (hb hby d4_7) rfl ?_
    show Steps p.tables e below (T6.setTop (mkF m 8 #[.val (.ref aa), .val (.long qn), .second, .val (.long (qn + qd)), .second] [(.long (qn + qd))])) _
    refine XS.lloadN X6.here hx rfl (hb hby d4_8) rfl ?_
    show Steps p.tables e below (T6.setTop (mkF m 9 #[.val (.ref aa), .val (.long qn), .second, .val (.long (qn + qd)), .second] [(.long qn), (.long (qn + qd))])) _
    refine XS.lcmp X6.here hx rfl (hb hby d4_9) rfl ?_
    exact k
  by_cases hc10_8 : (qn + qd) < qn
  · obtain ⟨fs, hr, hrun, hended, hW, hsame⟩ := X6.leave (v := some (.long (9223372036854775807 : Int64))) (fun h => by rw [Bd.returns] at h; cases h)
    refine ⟨_, _, pre7 _ ?_, hrun, hended, _, _, rfl, ?_, ⟨_, rfl⟩, hW, hsame.mono (by decide) (by decide)⟩
    · show Steps p.tables e below (T6.setTop (mkF m 10 #[.val (.ref aa), .val (.long qn), .second, .val (.long (qn + qd)), .second] [(.int (lcmpW (qn + qd) qn))])) _
      refine XS.ifNo X6.here hx rfl (hb hby d4_10) rfl ((if0 _ _).trans (tlt ((lw_lt (qn + qd) qn).mpr hc10_8)).2.1) ?_
      show Steps p.tables e below (T6.setTop (mkF m 13 #[.val (.ref aa), .val (.long qn), .second, .val (.long (qn + qd)), .second] [])) _
      refine X6.ldc2Long hx hown (mvT hZ (hw _ (List.mem_of_getElem? (i := 26) rfl))) (g := (mkF m 13 #[.val (.ref aa), .val (.long qn), .second, .val (.long (qn + qd)), .second] [])) rfl (hb hby d4_13) _ ?_
      show Steps p.tables e below (T6.setTop (mkF m 16 #[.val (.ref aa), .val (.long qn), .second, .val (.long (qn + qd)), .second] [(.long (9223372036854775807 : Int64))])) _
      refine XS.goto X6.here hx rfl (pc0 := 16) (pc' := 20) rfl (hb hby d4_16) (by decide) (by decide) ?_
      show Steps p.tables e below (T6.setTop (mkF m 20 #[.val (.ref aa), .val (.long qn), .second, .val (.long (qn + qd)), .second] [(.long (9223372036854775807 : Int64))])) _
      exact X6.lreturnOut hx Bd.returns (hb hby d4_20) hr
    · show Q4 Z aa qn qd h0 n0 _ T6.heap _
      rw [e6]
      exact ⟨(by simp [hc10_8]), N0, rfl⟩
  · obtain ⟨fs, hr, hrun, hended, hW, hsame⟩ := X6.leave (v := some (.long (qn + qd))) (fun h => by rw [Bd.returns] at h; cases h)
    refine ⟨_, _, pre7 _ ?_, hrun, hended, _, _, rfl, ?_, ⟨_, rfl⟩, hW, hsame.mono (by decide) (by decide)⟩
    · show Steps p.tables e below (T6.setTop (mkF m 10 #[.val (.ref aa), .val (.long qn), .second, .val (.long (qn + qd)), .second] [(.int (lcmpW (qn + qd) qn))])) _
      refine XS.ifYes X6.here hx rfl (pc0 := 10) (pc' := 19) rfl (hb hby d4_10) rfl ((if0 _ _).trans (flt (fun q => hc10_8 ((lw_lt (qn + qd) qn).mp q))).2.1) (by decide) (by decide) ?_
      show Steps p.tables e below (T6.setTop (mkF m 19 #[.val (.ref aa), .val (.long qn), .second, .val (.long (qn + qd)), .second] [])) _
      refine XS.lloadN X6.here hx rfl (hb hby d4_19) rfl ?_
      show Steps p.tables e below (T6.setTop (mkF m 20 #[.val (.ref aa), .val (.long qn), .second, .val (.long (qn + qd)), .second] [(.long (qn + qd))])) _
      exact X6.lreturnOut hx Bd.returns (hb hby d4_20) hr
    · show Q4 Z aa qn qd h0 n0 _ T6.heap _
      rw [e6]
      exact ⟨(by simp [hc10_8]), N0, rfl⟩
theorem d5_0 : decode method_2_code 0 = .ok (.lload_n 0, 1) := by decide +kernel
theorem d5_1 : decode method_2_code 1 = .ok (.lconst 0, 1) := by decide +kernel
theorem d5_2 : decode method_2_code 2 = .ok (.lcmp, 1) := by decide +kernel
theorem d5_3 : decode method_2_code 3 = .ok (.ifCond .ge 7, 3) := by decide +kernel
theorem d5_6 : decode method_2_code 6 = .ok (.lload_n 0, 1) := by decide +kernel
theorem d5_7 : decode method_2_code 7 = .ok (.lload_n 2, 1) := by decide +kernel
theorem d5_8 : decode method_2_code 8 = .ok (.ladd, 1) := by decide +kernel
theorem d5_9 : decode method_2_code 9 = .ok (.lreturn, 1) := by decide +kernel
theorem d5_10 : decode method_2_code 10 = .ok (.ldc2_w 9, 3) := by decide +kernel
theorem d5_13 : decode method_2_code 13 = .ok (.lload_n 0, 1) := by decide +kernel
theorem d5_14 : decode method_2_code 14 = .ok (.lsub, 1) := by decide +kernel
theorem d5_15 : decode method_2_code 15 = .ok (.lstore 4, 2) := by decide +kernel
theorem d5_17 : decode method_2_code 17 = .ok (.lload_n 2, 1) := by decide +kernel
theorem d5_18 : decode method_2_code 18 = .ok (.lload 4, 2) := by decide +kernel
theorem d5_20 : decode method_2_code 20 = .ok (.lcmp, 1) := by decide +kernel
theorem d5_21 : decode method_2_code 21 = .ok (.ifCond .le 7, 3) := by decide +kernel
theorem d5_24 : decode method_2_code 24 = .ok (.ldc2_w 9, 3) := by decide +kernel
theorem d5_27 : decode method_2_code 27 = .ok (.lreturn, 1) := by decide +kernel
theorem d5_28 : decode method_2_code 28 = .ok (.lload_n 0, 1) := by decide +kernel
theorem d5_29 : decode method_2_code 29 = .ok (.lload_n 2, 1) := by decide +kernel
theorem d5_30 : decode method_2_code 30 = .ok (.ladd, 1) := by decide +kernel
theorem d5_31 : decode method_2_code 31 = .ok (.lreturn, 1) := by decide +kernel
theorem own_pn51 : plainName "com/example/wake_on_log/wakeonlog/timeline/AfterResolvePinLaw" = true := by first | (simp [plainName, overriddenIn]; done) | decide +kernel
theorem ef_5 (m : MethodId) (x0 : Int64) (x1 : Int64) : entryFrame m #[(.long x0), (.long x1)] 6 = mkF m 0 #[.val (.long x0), .second, .val (.long x1), .second, .unset, .unset] [] := by first | (simp [entryFrame, mkF, argsToLocals, Value.category]; done) | rfl
def Q5 (Z : State) (qn : Int64) (qd : Int64) (h0 : Heap) (n0 : Nat) (v : Option Value) (h : Heap) (L : List Loc) : Prop := v = some (.long (if qn < 0 then (qn + qd) else if (9223372036854775807 - qn) < qd then 9223372036854775807 else (qn + qd))) ∧ Fr n0 L ∧ h = h0
set_option maxRecDepth 65536 in
set_option maxHeartbeats 40000000 in
theorem rm5 (l : Launch) (Z : State) (a0 : Array Value) (hw : ∀ d ∈ tables_1, d.before a0 Z = true) (ws : List Jvm.Cond) (qn : Int64) (qd : Int64) (h0 : Heap) (n0 : Nat) (Z0 : n0 ≤ h0.size) :
    MetFree l (⟨"com/example/wake_on_log/wakeonlog/timeline/AfterResolvePinLaw", "expected", "(JJ)J"⟩ : MethodName) (head1 (Jvm.Cond.code (⟨"com/example/wake_on_log/wakeonlog/timeline/AfterResolvePinLaw", "expected", "(JJ)J"⟩ : MethodName) method_2_code 6 (some .long) :: ws) ({ frames := 0, cells := 0, slots := 0, locals := 0 } : Room)) (fun a U => a = #[(.long qn), (.long qd)] ∧ Z.Warmed39 U.vm ∧ U.heap = h0) (fun _ _ _ _ _ => True) (fun _ U o U' => ∃ v L, o = .returned v ∧ Q5 Z qn qd h0 n0 v U'.heap L ∧ FrameEnd U o U' L ({ frames := 0, cells := 0, slots := 0, locals := 0 } : Room).cells ({ frames := 0, cells := 0, slots := 0, locals := 0 } : Room).slots) := by
  refine MetFree.of_bodySF (plainFor_of_name own_pn51) hisR ?_
  intro p e s m args below meth c s₁ Bd hml0 hP hK
  obtain ⟨rfl, hZ, hh⟩ := hP
  have hx := Bd.exec
  have hby := Bd.bytes
  have hml : c.maxLocals = 6 := hml0
  have hown : s.vm.findClass "com/example/wake_on_log/wakeonlog/timeline/AfterResolvePinLaw" = some m.cls := findClass_of_methodNamed Bd.named
  have hnm := (name_of_methodNamed Bd.named Bd.method).1
  have X0 : Stand p l e ({ frames := 0, cells := 0, slots := 0, locals := 0 } : Room) s m #[(.long qn), (.long qd)] below meth c s₁ [] 0 0 := Stand.of_body Bd
  have e0 : s₁.heap = h0 := by rw [← hh, Bd.state]; rfl
  have N0 := Fr.nil n0
  have pre0 : ∀ t, Steps p.tables e below (s₁.setTop (mkF m 0 #[.val (.long qn), .second, .val (.long qd), .second, .unset, .unset] [])) t → Steps p.tables e below (s₁.setTop (entryFrame m #[(.long qn), (.long qd)] 6)) t := fun t k => castTop (ef_5 m qn qd) k
  generalize s₁.setTop (entryFrame m #[(.long qn), (.long qd)] 6) = G0 at pre0 ⊢
  have pre9 : ∀ t, Steps p.tables e below (s₁.setTop (mkF m 3 #[.val (.long qn), .second, .val (.long qd), .second, .unset, .unset] [(.int (lcmpW qn (0 : Int64)))])) t → Steps p.tables e below G0 t := by
    intro t k
    refine pre0 t ?_
    show Steps p.tables e below (s₁.setTop (mkF m 0 #[.val (.long qn), .second, .val (.long qd), .second, .unset, .unset] [])) _
    refine XS.lloadN X0.here hx rfl (hb hby d5_0) rfl ?_
    show Steps p.tables e below (s₁.setTop (mkF m 1 #[.val (.long qn), .second, .val (.long qd), .second, .unset, .unset] [(.long qn)])) _
    refine XS.lconst X0.here hx rfl (hb hby d5_1) ?_
    show Steps p.tables e below (s₁.setTop (mkF m 2 #[.val (.long qn), .second, .val (.long qd), .second, .unset, .unset] [(.long (0 : Int64)), (.long qn)])) _
    refine XS.lcmp X0.here hx rfl (hb hby d5_2) rfl ?_
    exact k
  by_cases hc3_10 : qn < (0 : Int64)
  · obtain ⟨fs, hr, hrun, hended, hW, hsame⟩ := X0.leave (v := some (.long (qn + qd))) (fun h => by rw [Bd.returns] at h; cases h)
    refine ⟨_, _, pre9 _ ?_, hrun, hended, _, _, rfl, ?_, ⟨_, rfl⟩, hW, hsame.mono (by decide) (by decide)⟩
    · show Steps p.tables e below (s₁.setTop (mkF m 3 #[.val (.long qn), .second, .val (.long qd), .second, .unset, .unset] [(.int (lcmpW qn (0 : Int64)))])) _
      refine XS.ifNo X0.here hx rfl (hb hby d5_3) rfl ((if0 _ _).trans (tlt ((lw_lt qn (0 : Int64)).mpr hc3_10)).2.1) ?_
      show Steps p.tables e below (s₁.setTop (mkF m 6 #[.val (.long qn), .second, .val (.long qd), .second, .unset, .unset] [])) _
      refine XS.lloadN X0.here hx rfl (hb hby d5_6) rfl ?_
      show Steps p.tables e below (s₁.setTop (mkF m 7 #[.val (.long qn), .second, .val (.long qd), .second, .unset, .unset] [(.long qn)])) _
      refine XS.lloadN X0.here hx rfl (hb hby d5_7) rfl ?_
      show Steps p.tables e below (s₁.setTop (mkF m 8 #[.val (.long qn), .second, .val (.long qd), .second, .unset, .unset] [(.long qd), (.long qn)])) _
      refine XS.ladd X0.here hx rfl (hb hby d5_8) rfl ?_
      show Steps p.tables e below (s₁.setTop (mkF m 9 #[.val (.long qn), .second, .val (.long qd), .second, .unset, .unset] [(.long (qn + qd))])) _
      exact X0.lreturnOut hx Bd.returns (hb hby d5_9) hr
    · show Q5 Z qn qd h0 n0 _ s₁.heap _
      rw [e0]
      exact ⟨(by simp [hc3_10]), N0, rfl⟩
  · have pre11 : ∀ t, Steps p.tables e below (s₁.setTop (mkF m 21 #[.val (.long qn), .second, .val (.long qd), .second, .val (.long ((9223372036854775807 : Int64) - qn)), .second] [(.int (lcmpW qd ((9223372036854775807 : Int64) - qn)))])) t → Steps p.tables e below G0 t := by
      intro t k
      refine pre9 t ?_
      show Steps p.tables e below (s₁.setTop (mkF m 3 #[.val (.long qn), .second, .val (.long qd), .second, .unset, .unset] [(.int (lcmpW qn (0 : Int64)))])) _
      refine XS.ifYes X0.here hx rfl (pc0 := 3) (pc' := 10) rfl (hb hby d5_3) rfl ((if0 _ _).trans (flt (fun q => hc3_10 ((lw_lt qn (0 : Int64)).mp q))).2.1) (by decide) (by decide) ?_
      show Steps p.tables e below (s₁.setTop (mkF m 10 #[.val (.long qn), .second, .val (.long qd), .second, .unset, .unset] [])) _
      refine X0.ldc2Long hx hown (mvT hZ (hw _ (List.mem_of_getElem? (i := 0) rfl))) (g := (mkF m 10 #[.val (.long qn), .second, .val (.long qd), .second, .unset, .unset] [])) rfl (hb hby d5_10) _ ?_
      show Steps p.tables e below (s₁.setTop (mkF m 13 #[.val (.long qn), .second, .val (.long qd), .second, .unset, .unset] [(.long (9223372036854775807 : Int64))])) _
      refine XS.lloadN X0.here hx rfl (hb hby d5_13) rfl ?_
      show Steps p.tables e below (s₁.setTop (mkF m 14 #[.val (.long qn), .second, .val (.long qd), .second, .unset, .unset] [(.long qn), (.long (9223372036854775807 : Int64))])) _
      refine XS.lsub X0.here hx rfl (hb hby d5_14) rfl ?_
      show Steps p.tables e below (s₁.setTop (mkF m 15 #[.val (.long qn), .second, .val (.long qd), .second, .unset, .unset] [(.long ((9223372036854775807 : Int64) - qn))])) _
      refine XS.lstore X0.here hx rfl (hb hby d5_15) rfl (l' := #[.val (.long qn), .second, .val (.long qd), .second, .val (.long ((9223372036854775807 : Int64) - qn)), .second]) rfl ?_
      show Steps p.tables e below (s₁.setTop (mkF m 17 #[.val (.long qn), .second, .val (.long qd), .second, .val (.long ((9223372036854775807 : Int64) - qn)), .second] [])) _
      refine XS.lloadN X0.here hx rfl (hb hby d5_17) rfl ?_
      show Steps p.tables e below (s₁.setTop (mkF m 18 #[.val (.long qn), .second, .val (.long qd), .second, .val (.long ((9223372036854775807 : Int64) - qn)), .second] [(.long qd)])) _
      refine XS.lload X0.here hx rfl (hb hby d5_18) rfl ?_
      show Steps p.tables e below (s₁.setTop (mkF m 20 #[.val (.long qn), .second, .val (.long qd), .second, .val (.long ((9223372036854775807 : Int64) - qn)), .second] [(.long ((9223372036854775807 : Int64) - qn)), (.long qd)])) _
      refine XS.lcmp X0.here hx rfl (hb hby d5_20) rfl ?_
      exact k
    by_cases hc21_12 : ((9223372036854775807 : Int64) - qn) < qd
    · obtain ⟨fs, hr, hrun, hended, hW, hsame⟩ := X0.leave (v := some (.long (9223372036854775807 : Int64))) (fun h => by rw [Bd.returns] at h; cases h)
      refine ⟨_, _, pre11 _ ?_, hrun, hended, _, _, rfl, ?_, ⟨_, rfl⟩, hW, hsame.mono (by decide) (by decide)⟩
      · show Steps p.tables e below (s₁.setTop (mkF m 21 #[.val (.long qn), .second, .val (.long qd), .second, .val (.long ((9223372036854775807 : Int64) - qn)), .second] [(.int (lcmpW qd ((9223372036854775807 : Int64) - qn)))])) _
        refine XS.ifNo X0.here hx rfl (hb hby d5_21) rfl ((if0 _ _).trans (tlt ((lw_gt qd ((9223372036854775807 : Int64) - qn)).mpr hc21_12)).2.2.2) ?_
        show Steps p.tables e below (s₁.setTop (mkF m 24 #[.val (.long qn), .second, .val (.long qd), .second, .val (.long ((9223372036854775807 : Int64) - qn)), .second] [])) _
        refine X0.ldc2Long hx hown (mvT hZ (hw _ (List.mem_of_getElem? (i := 0) rfl))) (g := (mkF m 24 #[.val (.long qn), .second, .val (.long qd), .second, .val (.long ((9223372036854775807 : Int64) - qn)), .second] [])) rfl (hb hby d5_24) _ ?_
        show Steps p.tables e below (s₁.setTop (mkF m 27 #[.val (.long qn), .second, .val (.long qd), .second, .val (.long ((9223372036854775807 : Int64) - qn)), .second] [(.long (9223372036854775807 : Int64))])) _
        exact X0.lreturnOut hx Bd.returns (hb hby d5_27) hr
      · show Q5 Z qn qd h0 n0 _ s₁.heap _
        rw [e0]
        exact ⟨(by simp [hc3_10, hc21_12]), N0, rfl⟩
    · obtain ⟨fs, hr, hrun, hended, hW, hsame⟩ := X0.leave (v := some (.long (qn + qd))) (fun h => by rw [Bd.returns] at h; cases h)
      refine ⟨_, _, pre11 _ ?_, hrun, hended, _, _, rfl, ?_, ⟨_, rfl⟩, hW, hsame.mono (by decide) (by decide)⟩
      · show Steps p.tables e below (s₁.setTop (mkF m 21 #[.val (.long qn), .second, .val (.long qd), .second, .val (.long ((9223372036854775807 : Int64) - qn)), .second] [(.int (lcmpW qd ((9223372036854775807 : Int64) - qn)))])) _
        refine XS.ifYes X0.here hx rfl (pc0 := 21) (pc' := 28) rfl (hb hby d5_21) rfl ((if0 _ _).trans (flt (fun q => hc21_12 ((lw_gt qd ((9223372036854775807 : Int64) - qn)).mp q))).2.2.2) (by decide) (by decide) ?_
        show Steps p.tables e below (s₁.setTop (mkF m 28 #[.val (.long qn), .second, .val (.long qd), .second, .val (.long ((9223372036854775807 : Int64) - qn)), .second] [])) _
        refine XS.lloadN X0.here hx rfl (hb hby d5_28) rfl ?_
        show Steps p.tables e below (s₁.setTop (mkF m 29 #[.val (.long qn), .second, .val (.long qd), .second, .val (.long ((9223372036854775807 : Int64) - qn)), .second] [(.long qn)])) _
        refine XS.lloadN X0.here hx rfl (hb hby d5_29) rfl ?_
        show Steps p.tables e below (s₁.setTop (mkF m 30 #[.val (.long qn), .second, .val (.long qd), .second, .val (.long ((9223372036854775807 : Int64) - qn)), .second] [(.long qd), (.long qn)])) _
        refine XS.ladd X0.here hx rfl (hb hby d5_30) rfl ?_
        show Steps p.tables e below (s₁.setTop (mkF m 31 #[.val (.long qn), .second, .val (.long qd), .second, .val (.long ((9223372036854775807 : Int64) - qn)), .second] [(.long (qn + qd))])) _
        exact X0.lreturnOut hx Bd.returns (hb hby d5_31) hr
      · show Q5 Z qn qd h0 n0 _ s₁.heap _
        rw [e0]
        exact ⟨(by simp [hc3_10, hc21_12]), N0, rfl⟩
theorem own_pd52 : parseMethodDescriptor "(J)V" = some ⟨[.long], none⟩ := by decide +kernel
theorem own_pd53 : parseMethodDescriptor "(J)J" = some ⟨[.long], some .long⟩ := by decide +kernel
theorem own_pd54 : parseMethodDescriptor "(JJ)J" = some ⟨[.long, .long], some .long⟩ := by decide +kernel
theorem ef_0 (m : MethodId) (x0 : Int64) (x1 : Int64) : entryFrame m #[(.long x0), (.long x1)] maxLocals = mkF m 0 #[.val (.long x0), .second, .val (.long x1), .second, .unset, .unset, .unset, .unset, .unset] [] := by first | (simp [entryFrame, mkF, argsToLocals, Value.category, maxLocals]; done) | rfl
def Q0 (Z : State) (qn : Int64) (qr : Int64) (h0 : Heap) (n0 : Nat) (v : Option Value) (h : Heap) (L : List Loc) : Prop := v = some (.int (1 : Int32)) ∧ Fr n0 L
set_option maxRecDepth 65536 in
set_option maxHeartbeats 40000000 in
theorem rm0 (l : Launch) (Z : State) (a0 : Array Value) (hw : ∀ d ∈ tables_1, d.before a0 Z = true) (ws : List Jvm.Cond) (qn : Int64) (qr : Int64) (h0 : Heap) (n0 : Nat) (Z0 : n0 ≤ h0.size) :
    MetFree l x (head1 (Jvm.Cond.code x code maxLocals ret :: ws) room_1) (fun a U => a = #[(.long qn), (.long qr)] ∧ Z.Warmed39 U.vm ∧ U.heap = h0) (fun _ _ _ _ _ => True) (fun _ U o U' => ∃ v L, o = .returned v ∧ Q0 Z qn qr h0 n0 v U'.heap L ∧ FrameEnd U o U' L room_1.cells room_1.slots) := by
  refine MetFree.of_bodySF (plainFor_of_name own_pn51) hisR ?_
  intro p e s m args below meth c s₁ Bd hml0 hP hK
  obtain ⟨rfl, hZ, hh⟩ := hP
  have hx := Bd.exec
  have hby := Bd.bytes
  have hml : c.maxLocals = 9 := hml0
  have hown : s.vm.findClass "com/example/wake_on_log/wakeonlog/timeline/AfterResolvePinLaw" = some m.cls := findClass_of_methodNamed Bd.named
  have hnm := (name_of_methodNamed Bd.named Bd.method).1
  have X0 : Stand p l e room_1 s m #[(.long qn), (.long qr)] below meth c s₁ [] 0 0 := Stand.of_body Bd
  have e0 : s₁.heap = h0 := by rw [← hh, Bd.state]; rfl
  have N0 := Fr.nil n0
  have pre0 : ∀ t, Steps p.tables e below (s₁.setTop (mkF m 0 #[.val (.long qn), .second, .val (.long qr), .second, .unset, .unset, .unset, .unset, .unset] [])) t → Steps p.tables e below (s₁.setTop (entryFrame m #[(.long qn), (.long qr)] maxLocals)) t := fun t k => castTop (ef_0 m qn qr) k
  generalize s₁.setTop (entryFrame m #[(.long qn), (.long qr)] maxLocals) = G0 at pre0 ⊢
  obtain ⟨T13, h13, X13, e13, E13, A13, D13, -, st13⟩ := newO X0 hx hZ hown (hw _ (List.mem_of_getElem? (i := 1) rfl)) (hw _ (List.mem_of_getElem? (i := 2) rfl)) (hw _ (List.mem_of_getElem? (i := 3) rfl)) e0 (g := (mkF m 7 #[.val (.long qn), .second, .val (.long qr), .second, .val (.long (qr &&& (9223372036854775807 : Int64))), .second, .unset, .unset, .unset] [])) rfl (hb hby at_7) (by decide) (by decide)
  obtain ⟨b13, g13⟩ : ∃ z, z = h0.size := ⟨_, rfl⟩
  rw [← g13] at A13 D13 st13
  have g_b13 : n0 ≤ b13 := Nat.le_trans Z0 (Nat.le_of_eq g13.symm)
  have sz_b13 : h0.size ≤ b13 := Nat.le_of_eq g13.symm
  have Zs13 : n0 ≤ h13.size := Nat.le_trans Z0 E13.1
  have KK13 : Keep h0 h13 [] := (Keep.refl h0 _).ext E13
  have f14 : Fld Z h13 b13 "com/example/wake_on_log/wakeonlog/timeline/Due$After" "delayMillis" "J" (.long (0 : Int64)) := D13 (Or.inr (hw _ (List.mem_of_getElem? (i := 16) rfl))) (ty := .long) (by decide)
  obtain ⟨_, _, ⟨T15, L15, k15, n15⟩, -, X15, ⟨Lc15, hQ15, l15, y15, z15⟩, st15⟩ := X13.specialBack hx (y := (⟨"com/example/wake_on_log/wakeonlog/timeline/Due$After", "<init>", "(J)V"⟩ : MethodName)) rfl hown (mvT hZ (hw _ (List.mem_of_getElem? (i := 4) rfl))) (mvT hZ (hw _ (List.mem_of_getElem? (i := 5) rfl))) (mvT hZ (hw _ (List.mem_of_getElem? (i := 6) rfl))) (by decide) (backOf (W := 1) (rm1 l Z a0 hw [] b13 (qr &&& (9223372036854775807 : Int64))  h13 n0 Zs13 f14 A13 g_b13 (own_d0 qr)) hZ (hw _ (List.mem_of_getElem? (i := 6) rfl)) (hw _ (List.mem_of_getElem? (i := 3) rfl)) (by decide) (by decide)) (g := (mkF m 13 #[.val (.long qn), .second, .val (.long qr), .second, .val (.long (qr &&& (9223372036854775807 : Int64))), .second, .unset, .unset, .unset] [(.long (qr &&& (9223372036854775807 : Int64))), (.ref b13), (.ref b13)])) rfl (by rw [hml]; rfl) (Steps.refl _) (a := b13) (argsL := [(.long (qr &&& (9223372036854775807 : Int64)))]) (rest := [(.ref b13)]) (lenOf own_pd52 rfl) rfl (by show 2 * 0 + _ ≤ _; exact Nat.le_of_eq rfl) (hb hby at_13) (fun _ _ => ⟨rfl, e13, (by decide : 1 + 0 ≤ _), (by decide : 1 + 0 ≤ _)⟩)
  dsimp only [Pt.U, Pt.locs, Pt.cells, Pt.slots] at X15 l15 y15 z15 st15 hQ15
  subst l15 y15 z15
  obtain ⟨rfl, Nq15, K15, p15_0, p15_1⟩ := hQ15
  have N15 := Fr.app N0 Nq15
  have Zs15 : n0 ≤ T15.heap.size := Nat.le_trans Zs13 K15.1
  have KK15 : Keep h0 T15.heap [] := KK13.trans K15 (allS (Or.inr sz_b13) all0)
  have f16 := A13.keep K15
  obtain ⟨cq17, kq17, q17a, q17b, q17c⟩ := isOf hZ rfl p15_0
  obtain ⟨_, _, ⟨T17, L17, k17, n17⟩, -, X17, ⟨Lc17, hQ17, l17, y17, z17⟩, st17⟩ := X15.virtualBack hx (y := (⟨"com/example/wake_on_log/wakeonlog/timeline/Due$After", "resolve", "(J)J"⟩ : MethodName)) (z := (⟨"com/example/wake_on_log/wakeonlog/timeline/Due$After", "resolve", "(J)J"⟩ : MethodName)) hown (mvT hZ (hw _ (List.mem_of_getElem? (i := 17) rfl))) (mvT hZ (hw _ (List.mem_of_getElem? (i := 18) rfl))) (notFace_of_selects (args := #[]) (mvT hZ (hw _ (List.mem_of_getElem? (i := 20) rfl)))) (mvT hZ (hw _ (List.mem_of_getElem? (i := 20) rfl))) (mvT hZ (hw _ (List.mem_of_getElem? (i := 19) rfl))) (by decide) (backOf (W := 0) (rm4 l Z a0 hw [] b13 qn (qr &&& (9223372036854775807 : Int64)) T15.heap n0 Zs15 p15_1) hZ (hw _ (List.mem_of_getElem? (i := 21) rfl)) (hw _ (List.mem_of_getElem? (i := 3) rfl)) (by decide) (by decide)) q17a q17c (g := (mkF m 21 #[.val (.long qn), .second, .val (.long qr), .second, .val (.long (qr &&& (9223372036854775807 : Int64))), .second, .val (.ref b13), .unset, .unset] [(.long qn), (.ref b13)])) rfl (by rw [hml]; rfl) (Steps.refl _) (argsL := [(.long qn)]) (rest := []) (lenOf own_pd53 rfl) rfl (by show 2 * 0 + _ ≤ _; exact Nat.le_of_eq rfl) (hb hby at_21) (fun _ _ => ⟨rfl, rfl, (by decide : 1 + 0 ≤ _), (by decide : 1 + 0 ≤ _)⟩)
  dsimp only [Pt.U, Pt.locs, Pt.cells, Pt.slots] at X17 l17 y17 z17 st17 hQ17
  subst l17 y17 z17
  obtain ⟨rfl, Nq17, e17⟩ := hQ17
  have N17 := Fr.app N15 Nq17
  obtain ⟨_, _, ⟨T18, L18, k18, n18⟩, -, X18, ⟨Lc18, hQ18, l18, y18, z18⟩, st18⟩ := Jvm.LawKit.callS X17 hx (y := (⟨"com/example/wake_on_log/wakeonlog/timeline/AfterResolvePinLaw", "expected", "(JJ)J"⟩ : MethodName)) hown (mvT hZ (hw _ (List.mem_of_getElem? (i := 22) rfl))) (mvT hZ (hw _ (List.mem_of_getElem? (i := 23) rfl))) (mvT hZ (hw _ (List.mem_of_getElem? (i := 24) rfl))) (mvT hZ (hw _ (List.mem_of_getElem? (i := 25) rfl))) (by decide) (backOf (W := 2) (rm5 l Z a0 hw [] qn (qr &&& (9223372036854775807 : Int64))  T15.heap n0 Zs15 ) hZ (hw _ (List.mem_of_getElem? (i := 25) rfl)) (hw _ (List.mem_of_getElem? (i := 24) rfl)) (by decide) (by decide)) (g := (mkF m 31 #[.val (.long qn), .second, .val (.long qr), .second, .val (.long (qr &&& (9223372036854775807 : Int64))), .second, .val (.ref b13), .val (.long (if (qn + (qr &&& (9223372036854775807 : Int64))) < qn then (9223372036854775807 : Int64) else (qn + (qr &&& (9223372036854775807 : Int64))))), .second] [(.long (qr &&& (9223372036854775807 : Int64))), (.long qn), (.long (if (qn + (qr &&& (9223372036854775807 : Int64))) < qn then (9223372036854775807 : Int64) else (qn + (qr &&& (9223372036854775807 : Int64)))))])) rfl (by rw [hml]; rfl) (argsL := [(.long qn), (.long (qr &&& (9223372036854775807 : Int64)))]) (rest := [(.long (if (qn + (qr &&& (9223372036854775807 : Int64))) < qn then (9223372036854775807 : Int64) else (qn + (qr &&& (9223372036854775807 : Int64)))))]) (lenOf own_pd54 rfl) rfl (by show 2 * 0 + _ ≤ _; exact Nat.le_of_eq rfl) (hb hby at_31) (fun _ _ => ⟨rfl, e17, (by decide : 1 + 0 ≤ _), (by decide : 1 + 0 ≤ _)⟩)
  dsimp only [Pt.U, Pt.locs, Pt.cells, Pt.slots] at X18 l18 y18 z18 st18 hQ18
  subst l18 y18 z18
  obtain ⟨rfl, Nq18, e18⟩ := hQ18
  have N18 := Fr.app N17 Nq18
  obtain ⟨fs, hr, hrun, hended, hW, hsame⟩ := X18.leave (v := some (.int (1 : Int32))) (fun h => by rw [Bd.returns] at h; cases h)
  refine ⟨_, _, pre0 _ ?_, hrun, hended, _, _, rfl, ?_, ⟨_, rfl⟩, hW, hsame.mono (by decide) (by decide)⟩
  · show Steps p.tables e below (s₁.setTop (mkF m 0 #[.val (.long qn), .second, .val (.long qr), .second, .unset, .unset, .unset, .unset, .unset] [])) _
    refine XS.lloadN X0.here hx rfl (hb hby at_0) rfl ?_
    show Steps p.tables e below (s₁.setTop (mkF m 1 #[.val (.long qn), .second, .val (.long qr), .second, .unset, .unset, .unset, .unset, .unset] [(.long qr)])) _
    refine X0.ldc2Long hx hown (mvT hZ (hw _ (List.mem_of_getElem? (i := 0) rfl))) (g := (mkF m 1 #[.val (.long qn), .second, .val (.long qr), .second, .unset, .unset, .unset, .unset, .unset] [(.long qr)])) rfl (hb hby at_1) _ ?_
    show Steps p.tables e below (s₁.setTop (mkF m 4 #[.val (.long qn), .second, .val (.long qr), .second, .unset, .unset, .unset, .unset, .unset] [(.long (9223372036854775807 : Int64)), (.long qr)])) _
    refine XS.land X0.here hx rfl (hb hby at_4) rfl ?_
    show Steps p.tables e below (s₁.setTop (mkF m 5 #[.val (.long qn), .second, .val (.long qr), .second, .unset, .unset, .unset, .unset, .unset] [(.long (qr &&& (9223372036854775807 : Int64)))])) _
    refine XS.lstore X0.here hx rfl (hb hby at_5) rfl (l' := #[.val (.long qn), .second, .val (.long qr), .second, .val (.long (qr &&& (9223372036854775807 : Int64))), .second, .unset, .unset, .unset]) rfl ?_
    show Steps p.tables e below (s₁.setTop (mkF m 7 #[.val (.long qn), .second, .val (.long qr), .second, .val (.long (qr &&& (9223372036854775807 : Int64))), .second, .unset, .unset, .unset] [])) _
    refine st13 _ ?_
    show Steps p.tables e below (T13.setTop (mkF m 10 #[.val (.long qn), .second, .val (.long qr), .second, .val (.long (qr &&& (9223372036854775807 : Int64))), .second, .unset, .unset, .unset] [(.ref b13)])) _
    refine XS.dup X13.here hx rfl (hb hby at_10) rfl rfl ?_
    show Steps p.tables e below (T13.setTop (mkF m 11 #[.val (.long qn), .second, .val (.long qr), .second, .val (.long (qr &&& (9223372036854775807 : Int64))), .second, .unset, .unset, .unset] [(.ref b13), (.ref b13)])) _
    refine XS.lload X13.here hx rfl (hb hby at_11) rfl ?_
    show Steps p.tables e below (T13.setTop (mkF m 13 #[.val (.long qn), .second, .val (.long qr), .second, .val (.long (qr &&& (9223372036854775807 : Int64))), .second, .unset, .unset, .unset] [(.long (qr &&& (9223372036854775807 : Int64))), (.ref b13), (.ref b13)])) _
    refine st15.trans ?_
    show Steps p.tables e below (T15.setTop (mkF m 16 #[.val (.long qn), .second, .val (.long qr), .second, .val (.long (qr &&& (9223372036854775807 : Int64))), .second, .unset, .unset, .unset] [(.ref b13)])) _
    refine XS.astore X15.here hx rfl (hb hby at_16) rfl rfl (l' := #[.val (.long qn), .second, .val (.long qr), .second, .val (.long (qr &&& (9223372036854775807 : Int64))), .second, .val (.ref b13), .unset, .unset]) rfl ?_
    show Steps p.tables e below (T15.setTop (mkF m 18 #[.val (.long qn), .second, .val (.long qr), .second, .val (.long (qr &&& (9223372036854775807 : Int64))), .second, .val (.ref b13), .unset, .unset] [])) _
    refine XS.aload X15.here hx rfl (hb hby at_18) rfl rfl ?_
    show Steps p.tables e below (T15.setTop (mkF m 20 #[.val (.long qn), .second, .val (.long qr), .second, .val (.long (qr &&& (9223372036854775807 : Int64))), .second, .val (.ref b13), .unset, .unset] [(.ref b13)])) _
    refine XS.lloadN X15.here hx rfl (hb hby at_20) rfl ?_
    show Steps p.tables e below (T15.setTop (mkF m 21 #[.val (.long qn), .second, .val (.long qr), .second, .val (.long (qr &&& (9223372036854775807 : Int64))), .second, .val (.ref b13), .unset, .unset] [(.long qn), (.ref b13)])) _
    refine st17.trans ?_
    show Steps p.tables e below (T17.setTop (mkF m 24 #[.val (.long qn), .second, .val (.long qr), .second, .val (.long (qr &&& (9223372036854775807 : Int64))), .second, .val (.ref b13), .unset, .unset] [(.long (if (qn + (qr &&& (9223372036854775807 : Int64))) < qn then (9223372036854775807 : Int64) else (qn + (qr &&& (9223372036854775807 : Int64)))))])) _
    refine XS.lstore X17.here hx rfl (hb hby at_24) rfl (l' := #[.val (.long qn), .second, .val (.long qr), .second, .val (.long (qr &&& (9223372036854775807 : Int64))), .second, .val (.ref b13), .val (.long (if (qn + (qr &&& (9223372036854775807 : Int64))) < qn then (9223372036854775807 : Int64) else (qn + (qr &&& (9223372036854775807 : Int64))))), .second]) rfl ?_
    show Steps p.tables e below (T17.setTop (mkF m 26 #[.val (.long qn), .second, .val (.long qr), .second, .val (.long (qr &&& (9223372036854775807 : Int64))), .second, .val (.ref b13), .val (.long (if (qn + (qr &&& (9223372036854775807 : Int64))) < qn then (9223372036854775807 : Int64) else (qn + (qr &&& (9223372036854775807 : Int64))))), .second] [])) _
    refine XS.lload X17.here hx rfl (hb hby at_26) rfl ?_
    show Steps p.tables e below (T17.setTop (mkF m 28 #[.val (.long qn), .second, .val (.long qr), .second, .val (.long (qr &&& (9223372036854775807 : Int64))), .second, .val (.ref b13), .val (.long (if (qn + (qr &&& (9223372036854775807 : Int64))) < qn then (9223372036854775807 : Int64) else (qn + (qr &&& (9223372036854775807 : Int64))))), .second] [(.long (if (qn + (qr &&& (9223372036854775807 : Int64))) < qn then (9223372036854775807 : Int64) else (qn + (qr &&& (9223372036854775807 : Int64)))))])) _
    refine XS.lloadN X17.here hx rfl (hb hby at_28) rfl ?_
    show Steps p.tables e below (T17.setTop (mkF m 29 #[.val (.long qn), .second, .val (.long qr), .second, .val (.long (qr &&& (9223372036854775807 : Int64))), .second, .val (.ref b13), .val (.long (if (qn + (qr &&& (9223372036854775807 : Int64))) < qn then (9223372036854775807 : Int64) else (qn + (qr &&& (9223372036854775807 : Int64))))), .second] [(.long qn), (.long (if (qn + (qr &&& (9223372036854775807 : Int64))) < qn then (9223372036854775807 : Int64) else (qn + (qr &&& (9223372036854775807 : Int64)))))])) _
    refine XS.lload X17.here hx rfl (hb hby at_29) rfl ?_
    show Steps p.tables e below (T17.setTop (mkF m 31 #[.val (.long qn), .second, .val (.long qr), .second, .val (.long (qr &&& (9223372036854775807 : Int64))), .second, .val (.ref b13), .val (.long (if (qn + (qr &&& (9223372036854775807 : Int64))) < qn then (9223372036854775807 : Int64) else (qn + (qr &&& (9223372036854775807 : Int64))))), .second] [(.long (qr &&& (9223372036854775807 : Int64))), (.long qn), (.long (if (qn + (qr &&& (9223372036854775807 : Int64))) < qn then (9223372036854775807 : Int64) else (qn + (qr &&& (9223372036854775807 : Int64)))))])) _
    refine st18 _ ?_
    show Steps p.tables e below (T18.setTop (mkF m 34 #[.val (.long qn), .second, .val (.long qr), .second, .val (.long (qr &&& (9223372036854775807 : Int64))), .second, .val (.ref b13), .val (.long (if (qn + (qr &&& (9223372036854775807 : Int64))) < qn then (9223372036854775807 : Int64) else (qn + (qr &&& (9223372036854775807 : Int64))))), .second] [(.long (if qn < 0 then (qn + (qr &&& (9223372036854775807 : Int64))) else if (9223372036854775807 - qn) < (qr &&& (9223372036854775807 : Int64)) then 9223372036854775807 else (qn + (qr &&& (9223372036854775807 : Int64))))), (.long (if (qn + (qr &&& (9223372036854775807 : Int64))) < qn then (9223372036854775807 : Int64) else (qn + (qr &&& (9223372036854775807 : Int64)))))])) _
    refine XS.lcmp X18.here hx rfl (hb hby at_34) rfl ?_
    show Steps p.tables e below (T18.setTop (mkF m 35 #[.val (.long qn), .second, .val (.long qr), .second, .val (.long (qr &&& (9223372036854775807 : Int64))), .second, .val (.ref b13), .val (.long (if (qn + (qr &&& (9223372036854775807 : Int64))) < qn then (9223372036854775807 : Int64) else (qn + (qr &&& (9223372036854775807 : Int64))))), .second] [(.int (lcmpW (if (qn + (qr &&& (9223372036854775807 : Int64))) < qn then (9223372036854775807 : Int64) else (qn + (qr &&& (9223372036854775807 : Int64)))) (if qn < 0 then (qn + (qr &&& (9223372036854775807 : Int64))) else if (9223372036854775807 - qn) < (qr &&& (9223372036854775807 : Int64)) then 9223372036854775807 else (qn + (qr &&& (9223372036854775807 : Int64))))))])) _
    refine XS.ifNo X18.here hx rfl (hb hby at_35) rfl ((if0 _ _).trans (teq ((lw_eq (if (qn + (qr &&& (9223372036854775807 : Int64))) < qn then (9223372036854775807 : Int64) else (qn + (qr &&& (9223372036854775807 : Int64)))) (if qn < 0 then (qn + (qr &&& (9223372036854775807 : Int64))) else if (9223372036854775807 - qn) < (qr &&& (9223372036854775807 : Int64)) then 9223372036854775807 else (qn + (qr &&& (9223372036854775807 : Int64))))).mpr (own_eq qn _ (own_d qr) : ((if (qn + (qr &&& (9223372036854775807 : Int64))) < qn then (9223372036854775807 : Int64) else (qn + (qr &&& (9223372036854775807 : Int64)))) = (if qn < 0 then (qn + (qr &&& (9223372036854775807 : Int64))) else if (9223372036854775807 - qn) < (qr &&& (9223372036854775807 : Int64)) then 9223372036854775807 else (qn + (qr &&& (9223372036854775807 : Int64)))))))).2) ?_
    show Steps p.tables e below (T18.setTop (mkF m 38 #[.val (.long qn), .second, .val (.long qr), .second, .val (.long (qr &&& (9223372036854775807 : Int64))), .second, .val (.ref b13), .val (.long (if (qn + (qr &&& (9223372036854775807 : Int64))) < qn then (9223372036854775807 : Int64) else (qn + (qr &&& (9223372036854775807 : Int64))))), .second] [])) _
    refine XS.iconst X18.here hx rfl (hb hby at_38) ?_
    show Steps p.tables e below (T18.setTop (mkF m 39 #[.val (.long qn), .second, .val (.long qr), .second, .val (.long (qr &&& (9223372036854775807 : Int64))), .second, .val (.ref b13), .val (.long (if (qn + (qr &&& (9223372036854775807 : Int64))) < qn then (9223372036854775807 : Int64) else (qn + (qr &&& (9223372036854775807 : Int64))))), .second] [(.int (1 : Int32))])) _
    refine XS.goto X18.here hx rfl (pc0 := 39) (pc' := 43) rfl (hb hby at_39) (by decide) (by decide) ?_
    show Steps p.tables e below (T18.setTop (mkF m 43 #[.val (.long qn), .second, .val (.long qr), .second, .val (.long (qr &&& (9223372036854775807 : Int64))), .second, .val (.ref b13), .val (.long (if (qn + (qr &&& (9223372036854775807 : Int64))) < qn then (9223372036854775807 : Int64) else (qn + (qr &&& (9223372036854775807 : Int64))))), .second] [(.int (1 : Int32))])) _
    exact retN X18 hx (t := .boolean) Bd.returns (by simp) (hb hby at_43) hr
  · show Q0 Z qn qr h0 n0 _ T18.heap _
    rw [e18]
    exact ⟨rfl, N18⟩
set_option maxRecDepth 65536 in
set_option maxHeartbeats 40000000 in
theorem comes_1 {Post : Tables → Env → Array Value → State → Outcome → State → Prop} (hpost : ∀ tb e args s v u, (limb_1_1.after args s (.returned v) u = true ∧ limb_1_2.after args s (.returned v) u = true ∧ True) → FrameEnd s (.returned v) u (Jvm.fieldLocs frame_1_writes args s ++ Jvm.arrayLocs frame_1_arrays args s ++ Jvm.staticLocs frame_1_statics s) 16 128 → Post tb e args s (.returned v) u) :
    ArmFor flags0 classFile x code maxLocals ret World_1 tables_1 room_1 Calls_1 rest_1 Pre_1 Post := by
  intro l hfl _ _ p e ha hc hk s m args below hf hA hF happ hP
  obtain ⟨hcalls, hrest, hpre⟩ := hP
  obtain ⟨-, -, -, hnamed, -, -, -, hat⟩ := (Spec.applies_iff hf).mp happ
  obtain ⟨hg, hn⟩ := and_e (Cond.before_iff.mp (show (Jvm.Cond.and given_1 narrow_1).before args s = true from hpre))
  obtain ⟨hcount, ga0⟩ := and_e hg
  obtain ⟨gi0, ga1⟩ := and_e ga0
  have gi1 := ga1
  obtain ⟨w0, w1, rfl⟩ : ∃ w0 w1 : Value, args = #[w0, w1] := by
    have hs : args.size = 2 := by simpa [Cond.value, given_1] using hcount
    obtain ⟨L⟩ := args
    match L, hs with
    | [w0, w1], _ => exact ⟨w0, w1, rfl⟩
  have hw := fun d (hd : d ∈ tables_1) => atoms_spec (ws := Jvm.Cond.code x code maxLocals ret :: tables_1) hat d (List.mem_cons_of_mem _ hd)
  have hfit : Fit s := fun {y c} hc i hi => by
    obtain ⟨ha, rfl⟩ := Array.getElem?_eq_some_iff.mp hc
    have q := List.all_eq_true.mp ((Array.all_eq_true_iff_forall_mem.mp hF) _ (Array.getElem_mem ha)) i (List.mem_range.mpr hi)
    simpa [Array.getElem?_eq_getElem hi] using q
  obtain ⟨i0, ei0⟩ := isL_v gi0
  obtain rfl : w0 = (.long i0) := Option.some.inj ei0
  obtain ⟨i1, ei1⟩ := isL_v gi1
  obtain rfl : w1 = (.long i1) := Option.some.inj ei1
  obtain ⟨n, o, h1, h2, h3, _, L, rfl, ⟨rfl, N⟩, hq⟩ := rm0 l s _ hw tables_1 i0 i1  s.heap s.heap.size (Nat.le_refl _)  p e ha hc hk s m _ below hf ((Spec.applies_iff_loose hf).mp happ).1 ⟨rfl, State.Warmed39.refl s, rfl⟩ trivial
  refine ⟨n, _, h1, h2, h3, hpost _ _ _ _ _ _ ⟨Cond.after_iff.mpr rfl, Cond.after_iff.mpr (eq_i res_at (Term.int_eval (1)) rfl), trivial⟩ ⟨hq.1, hq.2.1, (hq.2.2.sift fun y hy => Or.inr (N y hy)).mono (by decide) (by decide)⟩⟩
theorem main_1_1 : Claimed_1_1 := comes_1 fun _ _ _ _ _ _ h hF => ⟨h.1, hF⟩
theorem main_1_2 : Claimed_1_2 := comes_1 fun _ _ _ _ _ _ h hF => ⟨h.2.1, hF⟩
end Jvm.Pilot.@@N@@
namespace Jvm.Pilot.@@N@@
open Jvm Jvm.ClassFile Sem Op Lib Jvm.Free Jvm.Stand Jvm.Pilot.@@N@@.Jvm.D
/-! MADE BY PROGRAM (witnessworld.py) out of the Statement's table words and the real class files: 11 classes; the members and pool entries that the words name. The judged class is class 1, her method 2. -/
namespace start1
open Jvm.ClassFile
def u (s : String) : CpInfo := .utf8 (stringToUtf16 s)
/-- a pool by its gaps: so many unusable entries, then the entry; so many at the end -/
def gap : Nat → List CpInfo → List CpInfo
  | 0, r => r
  | n + 1, r => .unusable :: gap n r
def poolList (es : List (Nat × CpInfo)) (last : Nat) : List CpInfo := es.foldr (fun e r => gap e.1 (e.2 :: r)) (gap last [])
def pool (es : List (Nat × CpInfo)) (last : Nat) : Array CpInfo := ⟨poolList es last⟩
def fileOf (pool : Array CpInfo) (this : Nat) (attrs : Array Attribute := #[]) (ms : Array MethodInfo := #[]) (fl : Nat := 33) (sup : Nat := 0) (ifs : Array Nat := #[]) (fds : Array FieldInfo := #[]) : ClassFile where
  minorVersion := 0
  majorVersion := 65
  constantPool := pool
  accessFlags := fl
  thisClass := this
  superClass := sup
  interfaces := ifs
  fields := fds
  methods := ms
  attributes := attrs
def plain (name : String) (sup : Option ClassId) : Class where
  name := name
  kind := .ordinary
  loader := none
  accessFlags := 33
  super := sup
  interfaces := #[]
  cf := none
  fields := #[]
  methods := #[]
  instanceTypes := #[]
  staticTypes := #[]
  resolved := #[]
  callSites := []
  init := .initialized
  statics := none
  mirror := none

def pool0 : Array CpInfo := pool [(5, u "<init>"), (0, u "()V"), (1, .class_ 10), (1, u "java/lang/Object")] 113

def k0c0 : Code := { maxStack := 0, maxLocals := 1, code := object_method_1_code, exceptionTable := #[], attributes := #[] }
def k0m0 : Method := { name := "<init>", desc := "()V", sig := { parameters := [], returnType := none }, accessFlags := 1, code := some k0c0 }
/-- java/lang/Object -/
def k0 : Class := { plain "java/lang/Object" none with
  accessFlags := 33
  interfaces := #[]
  cf := some (fileOf pool0 8 #[] #[{ accessFlags := 1, nameIndex := 5, descriptorIndex := 6, attributes := #[] }] 33 0 #[] #[])
  fields := #[]
  methods := #[k0m0]
  instanceTypes := #[]
  staticTypes := #[]
  resolved := Array.replicate 124 none
  statics := none }

def pool1 : Array CpInfo := pool [(2, .class_ 4), (1, u "java/lang/Object"), (0, u "<init>"), (0, u "()V"), (2, .long 9223372036854775807), (1, .class_ 12), (0, u "com/example/wake_on_log/wakeonlog/timeline/Due$After"), (0, .methodref 11 14), (0, .nameAndType 5 15), (0, u "(J)V"), (0, .methodref 11 17), (0, .nameAndType 18 19), (0, u "resolve"), (0, u "(J)J"), (0, .methodref 21 22), (0, .class_ 23), (0, .nameAndType 24 25), (0, u "com/example/wake_on_log/wakeonlog/timeline/AfterResolvePinLaw"), (0, u "expected"), (0, u "(JJ)J"), (3, u "law"), (0, u "(JJ)Z")] 6

def k1m0 : Method := { name := "<init>", desc := "()V", sig := { parameters := [], returnType := none }, accessFlags := 2, code := none }
def k1c1 : Code := { maxStack := 4, maxLocals := 6, code := method_2_code, exceptionTable := #[], attributes := #[] }
def k1m1 : Method := { name := "expected", desc := "(JJ)J", sig := { parameters := [.long, .long], returnType := some .long }, accessFlags := 10, code := some k1c1 }
def k1c2 : Code := { maxStack := 6, maxLocals := 9, code := code, exceptionTable := #[], attributes := #[] }
def k1m2 : Method := { name := "law", desc := "(JJ)Z", sig := { parameters := [.long, .long], returnType := some .boolean }, accessFlags := 9, code := some k1c2 }
/-- com/example/wake_on_log/wakeonlog/timeline/AfterResolvePinLaw -/
def k1 : Class := { plain "com/example/wake_on_log/wakeonlog/timeline/AfterResolvePinLaw" (some 0) with
  accessFlags := 49
  interfaces := #[]
  cf := some (fileOf pool1 21 #[] #[{ accessFlags := 2, nameIndex := 5, descriptorIndex := 6, attributes := #[] }, { accessFlags := 10, nameIndex := 24, descriptorIndex := 25, attributes := #[] }, { accessFlags := 9, nameIndex := 29, descriptorIndex := 30, attributes := #[] }] 49 2 #[] #[])
  fields := #[]
  methods := #[k1m0, k1m1, k1m2]
  instanceTypes := #[]
  staticTypes := #[]
  resolved := Array.replicate 37 none
  statics := none }

def pool2 : Array CpInfo := pool [(1, .methodref 2 3), (0, .class_ 4), (0, .nameAndType 5 6), (0, u "java/lang/Object"), (0, u "<init>"), (0, u "()V"), (0, .class_ 8), (0, u "java/lang/Record")] 13

def k2c0 : Code := { maxStack := 1, maxLocals := 1, code := jdk_30_method_1_code, exceptionTable := #[], attributes := #[] }
def k2m0 : Method := { name := "<init>", desc := "()V", sig := { parameters := [], returnType := none }, accessFlags := 4, code := some k2c0 }
/-- java/lang/Record -/
def k2 : Class := { plain "java/lang/Record" (some 0) with
  accessFlags := 1057
  interfaces := #[]
  cf := some (fileOf pool2 7 #[] #[{ accessFlags := 4, nameIndex := 5, descriptorIndex := 6, attributes := #[] }] 1057 2 #[] #[])
  fields := #[]
  methods := #[k2m0]
  instanceTypes := #[]
  staticTypes := #[]
  resolved := Array.replicate 22 none
  statics := none }

def pool3 : Array CpInfo := pool [(1, .class_ 2), (0, u "com/example/wake_on_log/wakeonlog/timeline/Due"), (0, .class_ 4), (0, u "java/lang/Object"), (5, .class_ 11), (0, u "com/example/wake_on_log/wakeonlog/timeline/Due$After"), (0, .class_ 13), (0, u "com/example/wake_on_log/wakeonlog/timeline/Due$At")] 4

/-- com/example/wake_on_log/wakeonlog/timeline/Due -/
def k3 : Class := { plain "com/example/wake_on_log/wakeonlog/timeline/Due" (some 0) with
  accessFlags := 1537
  interfaces := #[]
  cf := some (fileOf pool3 1 #[.nestMembers #[10, 12]] #[] 1537 3 #[] #[])
  fields := #[]
  methods := #[]
  instanceTypes := #[]
  staticTypes := #[]
  resolved := Array.replicate 18 none
  statics := none }

def pool4 : Array CpInfo := pool [(1, .methodref 2 3), (0, .class_ 4), (0, .nameAndType 5 6), (0, u "java/lang/Record"), (0, u "<init>"), (0, u "()V"), (13, .fieldref 21 22), (0, .class_ 23), (0, .nameAndType 24 25), (0, u "com/example/wake_on_log/wakeonlog/timeline/Due$After"), (0, u "delayMillis"), (0, u "J"), (2, .long 9223372036854775807), (13, .class_ 43), (0, u "com/example/wake_on_log/wakeonlog/timeline/Due"), (0, u "(J)V"), (4, u "resolve"), (0, u "(J)J")] 26

def k4c0 : Code := { maxStack := 4, maxLocals := 3, code := prog_25_method_1_code, exceptionTable := #[], attributes := #[] }
def k4m0 : Method := { name := "<init>", desc := "(J)V", sig := { parameters := [.long], returnType := none }, accessFlags := 1, code := some k4c0 }
def k4c1 : Code := { maxStack := 4, maxLocals := 5, code := prog_25_method_2_code, exceptionTable := #[], attributes := #[] }
def k4m1 : Method := { name := "resolve", desc := "(J)J", sig := { parameters := [.long], returnType := some .long }, accessFlags := 1, code := some k4c1 }
/-- com/example/wake_on_log/wakeonlog/timeline/Due$After -/
def k4 : Class := { plain "com/example/wake_on_log/wakeonlog/timeline/Due$After" (some 2) with
  accessFlags := 49
  interfaces := #[3]
  cf := some (fileOf pool4 21 #[.nestHost 42] #[{ accessFlags := 1, nameIndex := 5, descriptorIndex := 44, attributes := #[] }, { accessFlags := 1, nameIndex := 49, descriptorIndex := 50, attributes := #[] }] 49 2 #[42] #[{ accessFlags := 18, nameIndex := 24, descriptorIndex := 25, attributes := #[] }])
  fields := #[{ name := "delayMillis", type := .long, accessFlags := 18, slot := 0, constantValue := 0 }]
  methods := #[k4m0, k4m1]
  instanceTypes := #[.long]
  staticTypes := #[]
  resolved := Array.replicate 77 none
  statics := none }

def pool5 : Array CpInfo := pool [(1, u "java/lang/Cloneable"), (0, .class_ 1), (0, u "java/lang/Object"), (0, .class_ 3)] 3

/-- java/lang/Cloneable -/
def k5 : Class := { plain "java/lang/Cloneable" (some 0) with
  accessFlags := 1537
  interfaces := #[]
  cf := some (fileOf pool5 2 #[] #[] 1537 4 #[] #[])
  fields := #[]
  methods := #[]
  instanceTypes := #[]
  staticTypes := #[]
  resolved := Array.replicate 8 none
  statics := none }

def pool6 : Array CpInfo := pool [(1, u "java/io/Serializable"), (0, .class_ 1), (0, u "java/lang/Object"), (0, .class_ 3)] 3

/-- java/io/Serializable -/
def k6 : Class := { plain "java/io/Serializable" (some 0) with
  accessFlags := 1537
  interfaces := #[]
  cf := some (fileOf pool6 2 #[] #[] 1537 4 #[] #[])
  fields := #[]
  methods := #[]
  instanceTypes := #[]
  staticTypes := #[]
  resolved := Array.replicate 8 none
  statics := none }

/-- the primitive byte -/
def k7 : Class := { plain "byte" none with kind := .primitive 'B', accessFlags := 0x411 }
/-- [B -/
def k8 : Class := { plain "[B" (some 0) with kind := .array 7 .byte, interfaces := #[5, 6], accessFlags := 1041 }

/-- the primitive int -/
def k9 : Class := { plain "int" none with kind := .primitive 'I', accessFlags := 0x411 }
/-- [I -/
def k10 : Class := { plain "[I" (some 0) with kind := .array 9 .int, interfaces := #[5, 6], accessFlags := 1041 }

def heap : Heap := #[]
def classes : Array Class := #[k0, k1, k2, k3, k4, k5, k6, k7, k8, k9, k10]
def interned : List (Array UInt16 × Addr) := []
def slotsUsed : Nat := 0
def theMethod : MethodId := ⟨1, 2⟩
def args0 : Array Value := #[.long 5, .long 300]
def aboutOver (below : List Frame) : State where
  vm := { classes := classes, interned := interned.toArray }
  heap := heap
  slotsUsed := slotsUsed
  threads := #[{ frames := .invoking theMethod args0 :: below }]
def below0 : List Frame := [.native { method := ⟨0, 0⟩, args := #[] }]
def about1 : State := aboutOver below0
def p0 : Program := .bare "" "" ""
def e0 : Env := launch0.env 0 0 0
theorem w_frames : about1.frames = Frame.invoking theMethod args0 :: below0 := rfl
set_option maxRecDepth 65536 in
theorem w_args : argsFit about1.vm theMethod args0 = true := by decide +kernel
set_option maxRecDepth 65536 in
theorem w_heap : heapFits about1 = true := by decide +kernel
set_option maxRecDepth 65536 in
theorem w_runnable : about1.curStatus? = some .runnable := by decide +kernel
set_option maxRecDepth 65536 in
theorem w_alone : about1.alone = true := by decide +kernel
set_option maxRecDepth 65536 in
theorem w_named : about1.methodNamed? x = some theMethod := by decide +kernel
set_option maxRecDepth 65536 in
theorem w_hears : about1.hears theMethod below0 = true := by decide +kernel
set_option maxRecDepth 65536 in
theorem w_ripe : about1.ripe theMethod args0 below0 = true := by decide +kernel
theorem w_running : about1.status = .running := rfl
set_option maxRecDepth 65536 in
theorem w_room : about1.hasRoom e0.platform room_1 = true :=
  launch0.hasRoom_least _ room_1 (by decide +kernel) (by decide +kernel) (by decide +kernel) (by decide +kernel) (by decide +kernel) (by decide +kernel)
theorem allAtoms_all (ts : List Jvm.Cond) (a : Array Jvm.Value) (st : Jvm.State) : (allAtoms ts).before a st = ts.all (fun c => c.before a st) := by
  induction ts with
  | nil => rfl
  | cons c t ih =>
    show (Jvm.Cond.and c (allAtoms t)).before a st = _
    rw [Jvm.Cond.before_and, ih, List.all_cons]
def words1 : List Jvm.Cond := Jvm.Cond.code x code maxLocals ret :: tables_1
/-- a 'code' word, met by the world's own term for the bytes: nothing is compared byte by byte -/
theorem code_word {y : MethodName} {bytes : ByteArray} {mx : Nat} {rt : Option FieldType} {a : Array Value} {s : State} {m : MethodId} {meth : Method} {c : Code} (h1 : s.methodNamed? y = some m) (h2 : s.vm.method? m = some meth) (h3 : meth.code = some c) (h4 : c.code = bytes)
    (h5 : (c.maxLocals == mx && c.exceptionTable.isEmpty && decide (c.maxStack ≤ mostOperands) && decide (meth.sig.returnType = rt) && !meth.locks && decide (parseMethodDescriptor y.desc = some meth.sig)) = true) : (Jvm.Cond.code y bytes mx rt).before a s = true := by
  simp only [Bool.and_eq_true, beq_iff_eq, Bool.not_eq_true', decide_eq_true_eq] at h5
  obtain ⟨⟨⟨⟨⟨g1, g2⟩, g3⟩, g4⟩, g5⟩, g6⟩ := h5
  simp [Cond.before, Cond.holds, Cond.value, h1, h2, h3, h4, g1, g2, g3, g4, g5, g6]
def isCode : Jvm.Cond → Bool
  | .code _ _ _ _ => true
  | _ => false
theorem all_split {L : List Jvm.Cond} {P : Jvm.Cond → Bool} (h1 : L.all (fun c => isCode c || P c) = true) (h2 : ∀ c ∈ L.filter isCode, P c = true) : L.all P = true := by
  refine List.all_eq_true.mpr fun c hc => ?_
  have h := List.all_eq_true.mp h1 c hc
  rcases Bool.eq_false_or_eq_true (isCode c) with hi | hi
  · exact h2 c (List.mem_filter.mpr ⟨hc, hi⟩)
  · simpa [hi] using h
set_option maxRecDepth 65536 in
theorem w_c0 : (Jvm.Cond.code x code maxLocals ret).before args0 about1 = true := code_word (m := ⟨1, 2⟩) (meth := k1m2) (c := k1c2) (by decide +kernel) rfl rfl rfl (by decide +kernel)
set_option maxRecDepth 65536 in
theorem w_c1 : (Jvm.Cond.code ({ cls := "com/example/wake_on_log/wakeonlog/timeline/Due$After", name := "<init>", desc := "(J)V" } : Jvm.MethodName) prog_25_method_1_code (3 : Nat) (Option.none : Option Jvm.ClassFile.FieldType)).before args0 about1 = true := code_word (m := ⟨4, 0⟩) (meth := k4m0) (c := k4c0) (by decide +kernel) rfl rfl rfl (by decide +kernel)
set_option maxRecDepth 65536 in
theorem w_c2 : (Jvm.Cond.code ({ cls := "java/lang/Record", name := "<init>", desc := "()V" } : Jvm.MethodName) jdk_30_method_1_code (1 : Nat) (Option.none : Option Jvm.ClassFile.FieldType)).before args0 about1 = true := code_word (m := ⟨2, 0⟩) (meth := k2m0) (c := k2c0) (by decide +kernel) rfl rfl rfl (by decide +kernel)
set_option maxRecDepth 65536 in
theorem w_c3 : (Jvm.Cond.code ({ cls := "java/lang/Object", name := "<init>", desc := "()V" } : Jvm.MethodName) object_method_1_code (1 : Nat) (Option.none : Option Jvm.ClassFile.FieldType)).before args0 about1 = true := code_word (m := ⟨0, 0⟩) (meth := k0m0) (c := k0c0) (by decide +kernel) rfl rfl rfl (by decide +kernel)
set_option maxRecDepth 65536 in
theorem w_c4 : (Jvm.Cond.code ({ cls := "com/example/wake_on_log/wakeonlog/timeline/Due$After", name := "resolve", desc := "(J)J" } : Jvm.MethodName) prog_25_method_2_code (5 : Nat) (Option.some Jvm.ClassFile.FieldType.long)).before args0 about1 = true := code_word (m := ⟨4, 1⟩) (meth := k4m1) (c := k4c1) (by decide +kernel) rfl rfl rfl (by decide +kernel)
set_option maxRecDepth 65536 in
theorem w_c5 : (Jvm.Cond.code ({ cls := "com/example/wake_on_log/wakeonlog/timeline/AfterResolvePinLaw", name := "expected", desc := "(JJ)J" } : Jvm.MethodName) method_2_code (6 : Nat) (Option.some Jvm.ClassFile.FieldType.long)).before args0 about1 = true := code_word (m := ⟨1, 1⟩) (meth := k1m1) (c := k1c1) (by decide +kernel) rfl rfl rfl (by decide +kernel)
def codes1 : List Jvm.Cond := [Jvm.Cond.code x code maxLocals ret, Jvm.Cond.code ({ cls := "com/example/wake_on_log/wakeonlog/timeline/Due$After", name := "<init>", desc := "(J)V" } : Jvm.MethodName) prog_25_method_1_code (3 : Nat) (Option.none : Option Jvm.ClassFile.FieldType), Jvm.Cond.code ({ cls := "java/lang/Record", name := "<init>", desc := "()V" } : Jvm.MethodName) jdk_30_method_1_code (1 : Nat) (Option.none : Option Jvm.ClassFile.FieldType), Jvm.Cond.code ({ cls := "java/lang/Object", name := "<init>", desc := "()V" } : Jvm.MethodName) object_method_1_code (1 : Nat) (Option.none : Option Jvm.ClassFile.FieldType), Jvm.Cond.code ({ cls := "com/example/wake_on_log/wakeonlog/timeline/Due$After", name := "resolve", desc := "(J)J" } : Jvm.MethodName) prog_25_method_2_code (5 : Nat) (Option.some Jvm.ClassFile.FieldType.long), Jvm.Cond.code ({ cls := "com/example/wake_on_log/wakeonlog/timeline/AfterResolvePinLaw", name := "expected", desc := "(JJ)J" } : Jvm.MethodName) method_2_code (6 : Nat) (Option.some Jvm.ClassFile.FieldType.long)]
set_option maxRecDepth 65536 in
theorem codes_eq : words1.filter isCode = codes1 := rfl
theorem w_codes : ∀ c ∈ words1.filter isCode, c.before args0 about1 = true := by
  rw [codes_eq]
  intro c hc
  simp only [codes1, List.mem_cons, List.not_mem_nil, or_false] at hc
  rcases hc with rfl | rfl | rfl | rfl | rfl | rfl
  · exact w_c0
  · exact w_c1
  · exact w_c2
  · exact w_c3
  · exact w_c4
  · exact w_c5
set_option maxRecDepth 65536 in
theorem w_t1 : (words1.take 24).all (fun c => isCode c || c.before args0 about1) = true := by decide +kernel
set_option maxRecDepth 65536 in
theorem w_t2 : (words1.drop 24).all (fun c => isCode c || c.before args0 about1) = true := by decide +kernel
theorem w_tables : (allAtoms (Jvm.Cond.code x code maxLocals ret :: tables_1)).before args0 about1 = true := by
  rw [allAtoms_all]
  show words1.all (fun c => c.before args0 about1) = true
  refine all_split ?_ w_codes
  rw [← List.take_append_drop 24 words1, List.all_append, w_t1, w_t2]
  rfl
set_option maxRecDepth 65536 in
theorem w_case : (Jvm.Cond.and given_1 narrow_1).before args0 about1 = true := by decide +kernel
theorem w_applies : (headSpec (Jvm.Cond.code x code maxLocals ret :: tables_1) room_1).applies x e0.platform about1 = true :=
  (Spec.applies_iff w_frames).mpr ⟨w_running, w_runnable, w_alone, w_named, w_hears, w_ripe, w_room, w_tables⟩
theorem atStart : AtStart classFile x code maxLocals ret World_1 tables_1 room_1 Calls_1 rest_1 Pre_1 launch0 p0 e0 about1 theMethod args0 below0 :=
  ⟨lists_1, trivial, launch0.admits_env _ _ _, launch0.least_env, fairChoices_fair.cas, fairChoices_fair.clock, w_frames, w_args, w_heap, w_applies, trivial, trivial, w_case⟩
end start1
theorem witness_1 : WitnessClaimed_1 := ⟨start1.p0, start1.e0, start1.about1, start1.theMethod, start1.args0, start1.below0, start1.atStart⟩
end Jvm.Pilot.@@N@@
