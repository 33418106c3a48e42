import JvmDerived
import JvmDerived.Pilot.@@N@@Statement
import JvmDerived.Pilot.@@N@@Code
set_option linter.unusedVariables false
set_option linter.unusedSimpArgs false
namespace Jvm.RoadKit
open Sem ClassFile Op Lib Jvm.Stand Jvm.Free Jvm.LawKit
section New
variable {p : Program} {l : Launch} {e : Env} {R : Room} {s : State} {m : MethodId} {args : Array Value} {below : List Frame} {meth : Method} {c : Code} {T : State} {locs : List Loc} {cells slots : Nat}
theorem retI (X : Stand p l e R s m args below meth c T locs cells slots) (hx : p.tables.exec = Jvm.exec) {pc : Nat} {Ls : Array Slot} {z : Int32} {rest : List Value} (hret : meth.sig.returnType = some .int) (hd : decode c.code pc = .ok (.ireturn, 1)) {fs : List Frame}
    (hl : ∀ (f : JFrame) (acts : List Action), f.method = m → f.locked = none → f.entered = [] → (doReturn e (T.setTop f) acts (some (.int z))).1 = T.setFrames fs) : Steps p.tables e below (T.setTop (mkF m pc Ls (.int z :: rest))) (T.setFrames fs) := by
  have hm' : T.vm.method? m = some meth := X.method'
  have hn : narrow .int (.int z) = .int z := rfl
  show Steps p.tables e below (T.setTop { method := m, pc := pc, locals := Ls, stack := _ :: rest, locked := none }) _
  jvm_step X.here [X.here.top, hx, hd, hm', hret, hn]
  first | (intro acts; rw [hl _ acts rfl rfl rfl]) | rw [hl _ _ rfl rfl rfl]
  exact Steps.refl _
end New
end Jvm.RoadKit
namespace Jvm.Pilot.@@N@@
open Jvm Jvm.ClassFile Sem Op Lib Jvm.Free Jvm.Stand Jvm.LawKit Jvm.RoadKit Bundle Jvm.Pilot.@@N@@.Jvm.D
theorem d3_0 : decode jdk_30_method_1_code 0 = .ok (.aload_n 0, 1) := by decide +kernel
theorem d3_1 : decode jdk_30_method_1_code 1 = .ok (.invokespecial 1, 3) := by decide +kernel
theorem d3_4 : decode jdk_30_method_1_code 4 = .ok (.return_, 1) := by decide +kernel
theorem own_pn3 : plainName "java/lang/Record" = true := by first | (simp [plainName, overriddenIn]; done) | decide +kernel
theorem ef_3 (m : MethodId) (x0 : Addr) : entryFrame m #[(.ref x0)] 1 = mkF m 0 #[.val (.ref x0)] [] := by first | (simp [entryFrame, mkF, argsToLocals, Value.category]; done) | rfl
def Q3 (Z : State) (ar : Addr) (h0 : Heap) (n0 : Nat) (v : Option Value) (h : Heap) (L : List Loc) : Prop := v = none ∧ Fr n0 L ∧ h = h0
set_option maxRecDepth 65536 in
set_option maxHeartbeats 40000000 in
theorem rm3 (l : Launch) (Z : State) (a0 : Array Value) (hw : ∀ d ∈ tables_1, d.before a0 Z = true) (ws : List Jvm.Cond) (ar : Addr) (h0 : Heap) (n0 : Nat) (Z0 : n0 ≤ h0.size) :
    MetFree l (⟨"java/lang/Record", "<init>", "()V"⟩ : MethodName) (head1 (Jvm.Cond.code (⟨"java/lang/Record", "<init>", "()V"⟩ : MethodName) jdk_30_method_1_code 1 none :: ws) ({ frames := 1, cells := 0, slots := 0, locals := 12 } : Room)) (fun a U => a = #[(.ref ar)] ∧ Z.Warmed39 U.vm ∧ U.heap = h0) (fun _ _ _ _ _ => True) (fun _ U o U' => ∃ v L, o = .returned v ∧ Q3 Z ar h0 n0 v U'.heap L ∧ FrameEnd U o U' L ({ frames := 1, cells := 0, slots := 0, locals := 12 } : Room).cells ({ frames := 1, cells := 0, slots := 0, locals := 12 } : Room).slots) := by
  refine MetFree.of_bodySF (plainFor_of_name own_pn3) hisR ?_
  intro p e s m args below meth c s₁ Bd hml0 hP hK
  obtain ⟨rfl, hZ, hh⟩ := hP
  have hx := Bd.exec
  have hby := Bd.bytes
  have hml : c.maxLocals = 1 := hml0
  have hown : s.vm.findClass "java/lang/Record" = some m.cls := findClass_of_methodNamed Bd.named
  have hnm := (name_of_methodNamed Bd.named Bd.method).1
  have X0 : Stand p l e ({ frames := 1, cells := 0, slots := 0, locals := 12 } : Room) s m #[(.ref ar)] below meth c s₁ [] 0 0 := Stand.of_body Bd
  have e0 : s₁.heap = h0 := by rw [← hh, Bd.state]; rfl
  have N0 := Fr.nil n0
  have pre0 : ∀ t, Steps p.tables e below (s₁.setTop (mkF m 0 #[.val (.ref ar)] [])) t → Steps p.tables e below (s₁.setTop (entryFrame m #[(.ref ar)] 1)) t := fun t k => castTop (ef_3 m ar) k
  generalize s₁.setTop (entryFrame m #[(.ref ar)] 1) = G0 at pre0 ⊢
  obtain ⟨T1, X1, e1, st1⟩ := initO X0 hx hZ hown (hw _ (List.mem_of_getElem? (i := 14) rfl)) (hw _ (List.mem_of_getElem? (i := 15) rfl)) (hw _ (List.mem_of_getElem? (i := 16) rfl)) e0 (g := (mkF m 1 #[.val (.ref ar)] [(.ref ar)])) rfl (by rw [hml]; rfl) rfl (hb hby d3_1) (by decide) (W := 0) (by show 2 * 0 + _ ≤ _; exact Nat.le_of_eq rfl) (by decide)
  obtain ⟨fs, hr, hrun, hended, hW, hsame⟩ := X1.leave (v := none) (fun _ => rfl)
  refine ⟨_, _, pre0 _ ?_, hrun, hended, _, _, rfl, ?_, ⟨_, rfl⟩, hW, hsame.mono (by decide) (by decide)⟩
  · show Steps p.tables e below (s₁.setTop (mkF m 0 #[.val (.ref ar)] [])) _
    refine XS.aloadN X0.here hx rfl (hb hby d3_0) rfl rfl ?_
    show Steps p.tables e below (s₁.setTop (mkF m 1 #[.val (.ref ar)] [(.ref ar)])) _
    refine st1 _ ?_
    show Steps p.tables e below (T1.setTop (mkF m 4 #[.val (.ref ar)] [])) _
    exact X1.returnOut hx Bd.returns (hb hby d3_4) hr
  · show Q3 Z ar h0 n0 _ T1.heap _
    rw [e1]
    exact ⟨rfl, N0, rfl⟩
theorem d2_0 : decode prog_51_method_1_code 0 = .ok (.aload_n 0, 1) := by decide +kernel
theorem d2_1 : decode prog_51_method_1_code 1 = .ok (.invokespecial 1, 3) := by decide +kernel
theorem own_pd6 : parseMethodDescriptor "()V" = some ⟨[], none⟩ := by decide +kernel
theorem d2_4 : decode prog_51_method_1_code 4 = .ok (.aload_n 0, 1) := by decide +kernel
theorem d2_5 : decode prog_51_method_1_code 5 = .ok (.iload_n 1, 1) := by decide +kernel
theorem d2_6 : decode prog_51_method_1_code 6 = .ok (.putfield 7, 3) := by decide +kernel
theorem d2_9 : decode prog_51_method_1_code 9 = .ok (.aload_n 0, 1) := by decide +kernel
theorem d2_10 : decode prog_51_method_1_code 10 = .ok (.lload_n 2, 1) := by decide +kernel
theorem d2_11 : decode prog_51_method_1_code 11 = .ok (.putfield 13, 3) := by decide +kernel
theorem d2_14 : decode prog_51_method_1_code 14 = .ok (.aload_n 0, 1) := by decide +kernel
theorem d2_15 : decode prog_51_method_1_code 15 = .ok (.lload 4, 2) := by decide +kernel
theorem d2_17 : decode prog_51_method_1_code 17 = .ok (.putfield 17, 3) := by decide +kernel
theorem d2_20 : decode prog_51_method_1_code 20 = .ok (.aload_n 0, 1) := by decide +kernel
theorem d2_21 : decode prog_51_method_1_code 21 = .ok (.lload 6, 2) := by decide +kernel
theorem d2_23 : decode prog_51_method_1_code 23 = .ok (.putfield 20, 3) := by decide +kernel
theorem d2_26 : decode prog_51_method_1_code 26 = .ok (.return_, 1) := by decide +kernel
theorem own_pn20 : plainName "com/example/tideline/tideline/model/SyncResult" = true := by first | (simp [plainName, overriddenIn]; done) | decide +kernel
theorem ef_2 (m : MethodId) (x0 : Addr) (x1 : Int32) (x2 : Int64) (x3 : Int64) (x4 : Int64) : entryFrame m #[(.ref x0), (.int x1), (.long x2), (.long x3), (.long x4)] 8 = mkF m 0 #[.val (.ref x0), .val (.int x1), .val (.long x2), .second, .val (.long x3), .second, .val (.long x4), .second] [] := by first | (simp [entryFrame, mkF, argsToLocals, Value.category]; done) | rfl
def Q2 (Z : State) (aa : Addr) (pf : Int32) (qi : Int64) (qu : Int64) (qe : Int64) (h0 : Heap) (n0 : Nat) (v : Option Value) (h : Heap) (L : List Loc) : Prop := v = none ∧ Fr n0 L ∧ Keep h0 h [aa] ∧ Exa Z h aa "com/example/tideline/tideline/model/SyncResult" ∧ Fld Z h aa "com/example/tideline/tideline/model/SyncResult" "full" "Z" (.int (nar .boolean pf)) ∧ Fld Z h aa "com/example/tideline/tideline/model/SyncResult" "inserted" "J" (.long qi) ∧ Fld Z h aa "com/example/tideline/tideline/model/SyncResult" "updated" "J" (.long qu) ∧ Fld Z h aa "com/example/tideline/tideline/model/SyncResult" "deleted" "J" (.long qe)
set_option maxRecDepth 65536 in
set_option maxHeartbeats 40000000 in
theorem rm2 (l : Launch) (Z : State) (a0 : Array Value) (hw : ∀ d ∈ tables_1, d.before a0 Z = true) (ws : List Jvm.Cond) (aa : Addr) (pf : Int32) (qi : Int64) (qu : Int64) (qe : Int64) (h0 : Heap) (n0 : Nat) (Z0 : n0 ≤ h0.size) (F0 : Fld Z h0 aa "com/example/tideline/tideline/model/SyncResult" "full" "Z" (.int (0 : Int32))) (F1 : Fld Z h0 aa "com/example/tideline/tideline/model/SyncResult" "inserted" "J" (.long (0 : Int64))) (F2 : Fld Z h0 aa "com/example/tideline/tideline/model/SyncResult" "updated" "J" (.long (0 : Int64))) (F3 : Fld Z h0 aa "com/example/tideline/tideline/model/SyncResult" "deleted" "J" (.long (0 : Int64))) (Ea : Exa Z h0 aa "com/example/tideline/tideline/model/SyncResult") (g_aa : n0 ≤ aa) :
    MetFree l (⟨"com/example/tideline/tideline/model/SyncResult", "<init>", "(ZJJJ)V"⟩ : MethodName) (head1 (Jvm.Cond.code (⟨"com/example/tideline/tideline/model/SyncResult", "<init>", "(ZJJJ)V"⟩ : MethodName) prog_51_method_1_code 8 none :: ws) ({ frames := 2, cells := 0, slots := 0, locals := 24 } : Room)) (fun a U => a = #[(.ref aa), (.int pf), (.long qi), (.long qu), (.long qe)] ∧ Z.Warmed39 U.vm ∧ U.heap = h0) (fun _ _ _ _ _ => True) (fun _ U o U' => ∃ v L, o = .returned v ∧ Q2 Z aa pf qi qu qe h0 n0 v U'.heap L ∧ FrameEnd U o U' L ({ frames := 2, cells := 0, slots := 0, locals := 24 } : Room).cells ({ frames := 2, cells := 0, slots := 0, locals := 24 } : Room).slots) := by
  refine MetFree.of_bodySF (plainFor_of_name own_pn20) hisR ?_
  intro p e s m args below meth c s₁ Bd hml0 hP hK
  obtain ⟨rfl, hZ, hh⟩ := hP
  have hx := Bd.exec
  have hby := Bd.bytes
  have hml : c.maxLocals = 8 := hml0
  have hown : s.vm.findClass "com/example/tideline/tideline/model/SyncResult" = some m.cls := findClass_of_methodNamed Bd.named
  have hnm := (name_of_methodNamed Bd.named Bd.method).1
  have X0 : Stand p l e ({ frames := 2, cells := 0, slots := 0, locals := 24 } : Room) s m #[(.ref aa), (.int pf), (.long qi), (.long qu), (.long qe)] below meth c s₁ [] 0 0 := Stand.of_body Bd
  have e0 : s₁.heap = h0 := by rw [← hh, Bd.state]; rfl
  have N0 := Fr.nil n0
  have pre0 : ∀ t, Steps p.tables e below (s₁.setTop (mkF m 0 #[.val (.ref aa), .val (.int pf), .val (.long qi), .second, .val (.long qu), .second, .val (.long qe), .second] [])) t → Steps p.tables e below (s₁.setTop (entryFrame m #[(.ref aa), (.int pf), (.long qi), (.long qu), (.long qe)] 8)) t := fun t k => castTop (ef_2 m aa pf qi qu qe) k
  generalize s₁.setTop (entryFrame m #[(.ref aa), (.int pf), (.long qi), (.long qu), (.long qe)] 8) = G0 at pre0 ⊢
  obtain ⟨_, _, ⟨T2, L2, k2, n2⟩, -, X2, ⟨Lc2, hQ2, l2, y2, z2⟩, st2⟩ := X0.specialBack hx (y := (⟨"java/lang/Record", "<init>", "()V"⟩ : MethodName)) rfl hown (mvT hZ (hw _ (List.mem_of_getElem? (i := 9) rfl))) (mvT hZ (hw _ (List.mem_of_getElem? (i := 10) rfl))) (mvT hZ (hw _ (List.mem_of_getElem? (i := 13) rfl))) (by decide) (backOf (W := 0) (rm3 l Z a0 hw [] aa  h0 n0 Z0 ) hZ (hw _ (List.mem_of_getElem? (i := 13) rfl)) (hw _ (List.mem_of_getElem? (i := 12) rfl)) (by decide) (by decide)) (g := (mkF m 1 #[.val (.ref aa), .val (.int pf), .val (.long qi), .second, .val (.long qu), .second, .val (.long qe), .second] [(.ref aa)])) rfl (by rw [hml]; rfl) (Steps.refl _) (a := aa) (argsL := []) (rest := []) (lenOf own_pd6 rfl) rfl (by show 2 * 0 + _ ≤ _; exact Nat.le_of_eq rfl) (hb hby d2_1) (fun _ _ => ⟨rfl, e0, (by decide : 0 + 0 ≤ _), (by decide : 0 + 0 ≤ _)⟩)
  dsimp only [Pt.U, Pt.locs, Pt.cells, Pt.slots] at X2 l2 y2 z2 st2 hQ2
  subst l2 y2 z2
  obtain ⟨rfl, Nq2, e2⟩ := hQ2
  have N2 := Fr.app N0 Nq2
  obtain ⟨T3, h3, X3, e3, W3, st3⟩ := putFN X2 hx hZ hown (hw _ (List.mem_of_getElem? (i := 17) rfl)) Via.refl e2 F0 Ea (Or.inr ⟨(hw _ (List.mem_of_getElem? (i := 18) rfl)), rfl, hnm⟩) (hw _ (List.mem_of_getElem? (i := 5) rfl)) (ty := .boolean) (v' := (.int (nar .boolean pf))) (by decide) rfl (fits_nar_bool pf) (g := (mkF m 6 #[.val (.ref aa), .val (.int pf), .val (.long qi), .second, .val (.long qu), .second, .val (.long qe), .second] [(.int pf), (.ref aa)])) rfl rfl (hb hby d2_6)
  have N3 := Fr.snoc X3 N2 g_aa
  have Zs3 : n0 ≤ h3.size := Nat.le_trans Z0 (Keep.of_wr W3).1
  have KK3 : Keep h0 h3 [aa] := (Keep.refl h0 _).wr W3 (Or.inl (List.mem_of_getElem? (i := 0) rfl))
  have f4 := Ea.wr W3
  have f5 := F0.same W3
  have f6 := F1.other W3 (Or.inr (slot_ne (Or.inr (hw _ (List.mem_of_getElem? (i := 20) rfl))) (Or.inr (hw _ (List.mem_of_getElem? (i := 18) rfl))) (by decide) (t := .long) (t' := .boolean) (by decide) (by decide)))
  have f7 := F2.other W3 (Or.inr (slot_ne (Or.inr (hw _ (List.mem_of_getElem? (i := 22) rfl))) (Or.inr (hw _ (List.mem_of_getElem? (i := 18) rfl))) (by decide) (t := .long) (t' := .boolean) (by decide) (by decide)))
  have f8 := F3.other W3 (Or.inr (slot_ne (Or.inr (hw _ (List.mem_of_getElem? (i := 24) rfl))) (Or.inr (hw _ (List.mem_of_getElem? (i := 18) rfl))) (by decide) (t := .long) (t' := .boolean) (by decide) (by decide)))
  obtain ⟨T9, h9, X9, e9, W9, st9⟩ := putF X3 hx hZ hown (host := "") (Or.inl (hw _ (List.mem_of_getElem? (i := 19) rfl))) Via.refl e3 f6 f4 (Or.inr ⟨(hw _ (List.mem_of_getElem? (i := 20) rfl)), rfl, hnm⟩) (hw _ (List.mem_of_getElem? (i := 5) rfl)) (ty := .long) (by decide) rfl rfl (g := (mkF m 11 #[.val (.ref aa), .val (.int pf), .val (.long qi), .second, .val (.long qu), .second, .val (.long qe), .second] [(.long qi), (.ref aa)])) rfl rfl (hb hby d2_11)
  have N9 := Fr.snoc X9 N3 g_aa
  have Zs9 : n0 ≤ h9.size := Nat.le_trans Zs3 (Keep.of_wr W9).1
  have KK9 : Keep h0 h9 [aa] := KK3.wr W9 (Or.inl (List.mem_of_getElem? (i := 0) rfl))
  have f10 := f4.wr W9
  have f11 := f5.other W9 (Or.inr (slot_ne (Or.inr (hw _ (List.mem_of_getElem? (i := 18) rfl))) (Or.inr (hw _ (List.mem_of_getElem? (i := 20) rfl))) (by decide) (t := .boolean) (t' := .long) (by decide) (by decide)))
  have f12 := f6.same W9
  have f13 := f7.other W9 (Or.inr (slot_ne (Or.inr (hw _ (List.mem_of_getElem? (i := 22) rfl))) (Or.inr (hw _ (List.mem_of_getElem? (i := 20) rfl))) (by decide) (t := .long) (t' := .long) (by decide) (by decide)))
  have f14 := f8.other W9 (Or.inr (slot_ne (Or.inr (hw _ (List.mem_of_getElem? (i := 24) rfl))) (Or.inr (hw _ (List.mem_of_getElem? (i := 20) rfl))) (by decide) (t := .long) (t' := .long) (by decide) (by decide)))
  obtain ⟨T15, h15, X15, e15, W15, st15⟩ := putF X9 hx hZ hown (host := "") (Or.inl (hw _ (List.mem_of_getElem? (i := 21) rfl))) Via.refl e9 f13 f10 (Or.inr ⟨(hw _ (List.mem_of_getElem? (i := 22) rfl)), rfl, hnm⟩) (hw _ (List.mem_of_getElem? (i := 5) rfl)) (ty := .long) (by decide) rfl rfl (g := (mkF m 17 #[.val (.ref aa), .val (.int pf), .val (.long qi), .second, .val (.long qu), .second, .val (.long qe), .second] [(.long qu), (.ref aa)])) rfl rfl (hb hby d2_17)
  have N15 := Fr.snoc X15 N9 g_aa
  have Zs15 : n0 ≤ h15.size := Nat.le_trans Zs9 (Keep.of_wr W15).1
  have KK15 : Keep h0 h15 [aa] := KK9.wr W15 (Or.inl (List.mem_of_getElem? (i := 0) rfl))
  have f16 := f10.wr W15
  have f17 := f11.other W15 (Or.inr (slot_ne (Or.inr (hw _ (List.mem_of_getElem? (i := 18) rfl))) (Or.inr (hw _ (List.mem_of_getElem? (i := 22) rfl))) (by decide) (t := .boolean) (t' := .long) (by decide) (by decide)))
  have f18 := f12.other W15 (Or.inr (slot_ne (Or.inr (hw _ (List.mem_of_getElem? (i := 20) rfl))) (Or.inr (hw _ (List.mem_of_getElem? (i := 22) rfl))) (by decide) (t := .long) (t' := .long) (by decide) (by decide)))
  have f19 := f13.same W15
  have f20 := f14.other W15 (Or.inr (slot_ne (Or.inr (hw _ (List.mem_of_getElem? (i := 24) rfl))) (Or.inr (hw _ (List.mem_of_getElem? (i := 22) rfl))) (by decide) (t := .long) (t' := .long) (by decide) (by decide)))
  obtain ⟨T21, h21, X21, e21, W21, st21⟩ := putF X15 hx hZ hown (host := "") (Or.inl (hw _ (List.mem_of_getElem? (i := 23) rfl))) Via.refl e15 f20 f16 (Or.inr ⟨(hw _ (List.mem_of_getElem? (i := 24) rfl)), rfl, hnm⟩) (hw _ (List.mem_of_getElem? (i := 5) rfl)) (ty := .long) (by decide) rfl rfl (g := (mkF m 23 #[.val (.ref aa), .val (.int pf), .val (.long qi), .second, .val (.long qu), .second, .val (.long qe), .second] [(.long qe), (.ref aa)])) rfl rfl (hb hby d2_23)
  have N21 := Fr.snoc X21 N15 g_aa
  have Zs21 : n0 ≤ h21.size := Nat.le_trans Zs15 (Keep.of_wr W21).1
  have KK21 : Keep h0 h21 [aa] := KK15.wr W21 (Or.inl (List.mem_of_getElem? (i := 0) rfl))
  have f22 := f16.wr W21
  have f23 := f17.other W21 (Or.inr (slot_ne (Or.inr (hw _ (List.mem_of_getElem? (i := 18) rfl))) (Or.inr (hw _ (List.mem_of_getElem? (i := 24) rfl))) (by decide) (t := .boolean) (t' := .long) (by decide) (by decide)))
  have f24 := f18.other W21 (Or.inr (slot_ne (Or.inr (hw _ (List.mem_of_getElem? (i := 20) rfl))) (Or.inr (hw _ (List.mem_of_getElem? (i := 24) rfl))) (by decide) (t := .long) (t' := .long) (by decide) (by decide)))
  have f25 := f19.other W21 (Or.inr (slot_ne (Or.inr (hw _ (List.mem_of_getElem? (i := 22) rfl))) (Or.inr (hw _ (List.mem_of_getElem? (i := 24) rfl))) (by decide) (t := .long) (t' := .long) (by decide) (by decide)))
  have f26 := f20.same W21
  obtain ⟨fs, hr, hrun, hended, hW, hsame⟩ := X21.leave (v := none) (fun _ => rfl)
  refine ⟨_, _, pre0 _ ?_, hrun, hended, _, _, rfl, ?_, ⟨_, rfl⟩, hW, hsame.mono (by decide) (by decide)⟩
  · show Steps p.tables e below (s₁.setTop (mkF m 0 #[.val (.ref aa), .val (.int pf), .val (.long qi), .second, .val (.long qu), .second, .val (.long qe), .second] [])) _
    refine XS.aloadN X0.here hx rfl (hb hby d2_0) rfl rfl ?_
    show Steps p.tables e below (s₁.setTop (mkF m 1 #[.val (.ref aa), .val (.int pf), .val (.long qi), .second, .val (.long qu), .second, .val (.long qe), .second] [(.ref aa)])) _
    refine st2.trans ?_
    show Steps p.tables e below (T2.setTop (mkF m 4 #[.val (.ref aa), .val (.int pf), .val (.long qi), .second, .val (.long qu), .second, .val (.long qe), .second] [])) _
    refine XS.aloadN X2.here hx rfl (hb hby d2_4) rfl rfl ?_
    show Steps p.tables e below (T2.setTop (mkF m 5 #[.val (.ref aa), .val (.int pf), .val (.long qi), .second, .val (.long qu), .second, .val (.long qe), .second] [(.ref aa)])) _
    refine XS.iloadN X2.here hx rfl (hb hby d2_5) rfl ?_
    show Steps p.tables e below (T2.setTop (mkF m 6 #[.val (.ref aa), .val (.int pf), .val (.long qi), .second, .val (.long qu), .second, .val (.long qe), .second] [(.int pf), (.ref aa)])) _
    refine st3 _ ?_
    show Steps p.tables e below (T3.setTop (mkF m 9 #[.val (.ref aa), .val (.int pf), .val (.long qi), .second, .val (.long qu), .second, .val (.long qe), .second] [])) _
    refine XS.aloadN X3.here hx rfl (hb hby d2_9) rfl rfl ?_
    show Steps p.tables e below (T3.setTop (mkF m 10 #[.val (.ref aa), .val (.int pf), .val (.long qi), .second, .val (.long qu), .second, .val (.long qe), .second] [(.ref aa)])) _
    refine XS.lloadN X3.here hx rfl (hb hby d2_10) rfl ?_
    show Steps p.tables e below (T3.setTop (mkF m 11 #[.val (.ref aa), .val (.int pf), .val (.long qi), .second, .val (.long qu), .second, .val (.long qe), .second] [(.long qi), (.ref aa)])) _
    refine st9 _ ?_
    show Steps p.tables e below (T9.setTop (mkF m 14 #[.val (.ref aa), .val (.int pf), .val (.long qi), .second, .val (.long qu), .second, .val (.long qe), .second] [])) _
    refine XS.aloadN X9.here hx rfl (hb hby d2_14) rfl rfl ?_
    show Steps p.tables e below (T9.setTop (mkF m 15 #[.val (.ref aa), .val (.int pf), .val (.long qi), .second, .val (.long qu), .second, .val (.long qe), .second] [(.ref aa)])) _
    refine XS.lload X9.here hx rfl (hb hby d2_15) rfl ?_
    show Steps p.tables e below (T9.setTop (mkF m 17 #[.val (.ref aa), .val (.int pf), .val (.long qi), .second, .val (.long qu), .second, .val (.long qe), .second] [(.long qu), (.ref aa)])) _
    refine st15 _ ?_
    show Steps p.tables e below (T15.setTop (mkF m 20 #[.val (.ref aa), .val (.int pf), .val (.long qi), .second, .val (.long qu), .second, .val (.long qe), .second] [])) _
    refine XS.aloadN X15.here hx rfl (hb hby d2_20) rfl rfl ?_
    show Steps p.tables e below (T15.setTop (mkF m 21 #[.val (.ref aa), .val (.int pf), .val (.long qi), .second, .val (.long qu), .second, .val (.long qe), .second] [(.ref aa)])) _
    refine XS.lload X15.here hx rfl (hb hby d2_21) rfl ?_
    show Steps p.tables e below (T15.setTop (mkF m 23 #[.val (.ref aa), .val (.int pf), .val (.long qi), .second, .val (.long qu), .second, .val (.long qe), .second] [(.long qe), (.ref aa)])) _
    refine st21 _ ?_
    show Steps p.tables e below (T21.setTop (mkF m 26 #[.val (.ref aa), .val (.int pf), .val (.long qi), .second, .val (.long qu), .second, .val (.long qe), .second] [])) _
    exact X21.returnOut hx Bd.returns (hb hby d2_26) hr
  · show Q2 Z aa pf qi qu qe h0 n0 _ T21.heap _
    rw [e21]
    exact ⟨rfl, N21, KK21, f22, f23, f24, f25, f26⟩
theorem d1_0 : decode prog_51_method_2_code 0 = .ok (.new 8, 3) := by decide +kernel
theorem d1_3 : decode prog_51_method_2_code 3 = .ok (.dup, 1) := by decide +kernel
theorem d1_4 : decode prog_51_method_2_code 4 = .ok (.iconst 1, 1) := by decide +kernel
theorem d1_5 : decode prog_51_method_2_code 5 = .ok (.lload_n 0, 1) := by decide +kernel
theorem d1_6 : decode prog_51_method_2_code 6 = .ok (.lconst 0, 1) := by decide +kernel
theorem d1_7 : decode prog_51_method_2_code 7 = .ok (.lconst 0, 1) := by decide +kernel
theorem d1_8 : decode prog_51_method_2_code 8 = .ok (.invokespecial 23, 3) := by decide +kernel
theorem own_pd28 : parseMethodDescriptor "(ZJJJ)V" = some ⟨[.boolean, .long, .long, .long], none⟩ := by decide +kernel
theorem d1_11 : decode prog_51_method_2_code 11 = .ok (.areturn, 1) := by decide +kernel
theorem ef_1 (m : MethodId) (x0 : Int64) : entryFrame m #[(.long x0)] 2 = mkF m 0 #[.val (.long x0), .second] [] := by first | (simp [entryFrame, mkF, argsToLocals, Value.category]; done) | rfl
def Q1 (Z : State) (qr : Int64) (h0 : Heap) (n0 : Nat) (v : Option Value) (h : Heap) (L : List Loc) : Prop := ∃ (ro : Addr), v = some (.ref ro) ∧ Fr n0 L ∧ Keep h0 h [] ∧ Exa Z h ro "com/example/tideline/tideline/model/SyncResult" ∧ Fld Z h ro "com/example/tideline/tideline/model/SyncResult" "full" "Z" (.int (nar .boolean (1 : Int32))) ∧ Fld Z h ro "com/example/tideline/tideline/model/SyncResult" "inserted" "J" (.long qr) ∧ Fld Z h ro "com/example/tideline/tideline/model/SyncResult" "updated" "J" (.long (0 : Int64)) ∧ Fld Z h ro "com/example/tideline/tideline/model/SyncResult" "deleted" "J" (.long (0 : Int64))
set_option maxRecDepth 65536 in
set_option maxHeartbeats 40000000 in
theorem rm1 (l : Launch) (Z : State) (a0 : Array Value) (hw : ∀ d ∈ tables_1, d.before a0 Z = true) (ws : List Jvm.Cond) (qr : Int64) (h0 : Heap) (n0 : Nat) (Z0 : n0 ≤ h0.size) :
    MetFree l (⟨"com/example/tideline/tideline/model/SyncResult", "fullCopy", "(J)Lcom/example/tideline/tideline/model/SyncResult;"⟩ : MethodName) (head1 (Jvm.Cond.code (⟨"com/example/tideline/tideline/model/SyncResult", "fullCopy", "(J)Lcom/example/tideline/tideline/model/SyncResult;"⟩ : MethodName) prog_51_method_2_code 2 (some (.object "com/example/tideline/tideline/model/SyncResult")) :: ws) ({ frames := 3, cells := 1, slots := 4, locals := 50 } : Room)) (fun a U => a = #[(.long qr)] ∧ Z.Warmed39 U.vm ∧ U.heap = h0) (fun _ _ _ _ _ => True) (fun _ U o U' => ∃ v L, o = .returned v ∧ Q1 Z qr h0 n0 v U'.heap L ∧ FrameEnd U o U' L ({ frames := 3, cells := 1, slots := 4, locals := 50 } : Room).cells ({ frames := 3, cells := 1, slots := 4, locals := 50 } : Room).slots) := by
  refine MetFree.of_bodySF (plainFor_of_name own_pn20) hisR ?_
  intro p e s m args below meth c s₁ Bd hml0 hP hK
  obtain ⟨rfl, hZ, hh⟩ := hP
  have hx := Bd.exec
  have hby := Bd.bytes
  have hml : c.maxLocals = 2 := hml0
  have hown : s.vm.findClass "com/example/tideline/tideline/model/SyncResult" = some m.cls := findClass_of_methodNamed Bd.named
  have hnm := (name_of_methodNamed Bd.named Bd.method).1
  have X0 : Stand p l e ({ frames := 3, cells := 1, slots := 4, locals := 50 } : Room) s m #[(.long qr)] below meth c s₁ [] 0 0 := Stand.of_body Bd
  have e0 : s₁.heap = h0 := by rw [← hh, Bd.state]; rfl
  have N0 := Fr.nil n0
  have pre0 : ∀ t, Steps p.tables e below (s₁.setTop (mkF m 0 #[.val (.long qr), .second] [])) t → Steps p.tables e below (s₁.setTop (entryFrame m #[(.long qr)] 2)) t := fun t k => castTop (ef_1 m qr) k
  generalize s₁.setTop (entryFrame m #[(.long qr)] 2) = G0 at pre0 ⊢
  obtain ⟨T27, h27, X27, e27, E27, A27, D27, -, st27⟩ := newO X0 hx hZ hown (hw _ (List.mem_of_getElem? (i := 4) rfl)) (hw _ (List.mem_of_getElem? (i := 5) rfl)) (hw _ (List.mem_of_getElem? (i := 2) rfl)) e0 (g := (mkF m 0 #[.val (.long qr), .second] [])) rfl (hb hby d1_0) (by decide) (by decide)
  obtain ⟨b27, g27⟩ : ∃ z, z = h0.size := ⟨_, rfl⟩
  rw [← g27] at A27 D27 st27
  have g_b27 : n0 ≤ b27 := Nat.le_trans Z0 (Nat.le_of_eq g27.symm)
  have sz_b27 : h0.size ≤ b27 := Nat.le_of_eq g27.symm
  have Zs27 : n0 ≤ h27.size := Nat.le_trans Z0 E27.1
  have KK27 : Keep h0 h27 [] := (Keep.refl h0 _).ext E27
  have f28 : Fld Z h27 b27 "com/example/tideline/tideline/model/SyncResult" "full" "Z" (.int (0 : Int32)) := D27 (Or.inr (hw _ (List.mem_of_getElem? (i := 18) rfl))) (ty := .boolean) (by decide)
  have f29 : Fld Z h27 b27 "com/example/tideline/tideline/model/SyncResult" "inserted" "J" (.long (0 : Int64)) := D27 (Or.inr (hw _ (List.mem_of_getElem? (i := 20) rfl))) (ty := .long) (by decide)
  have f30 : Fld Z h27 b27 "com/example/tideline/tideline/model/SyncResult" "updated" "J" (.long (0 : Int64)) := D27 (Or.inr (hw _ (List.mem_of_getElem? (i := 22) rfl))) (ty := .long) (by decide)
  have f31 : Fld Z h27 b27 "com/example/tideline/tideline/model/SyncResult" "deleted" "J" (.long (0 : Int64)) := D27 (Or.inr (hw _ (List.mem_of_getElem? (i := 24) rfl))) (ty := .long) (by decide)
  obtain ⟨_, _, ⟨T32, L32, k32, n32⟩, -, X32, ⟨Lc32, hQ32, l32, y32, z32⟩, st32⟩ := X27.specialBack hx (y := (⟨"com/example/tideline/tideline/model/SyncResult", "<init>", "(ZJJJ)V"⟩ : MethodName)) rfl hown (mvT hZ (hw _ (List.mem_of_getElem? (i := 6) rfl))) (mvT hZ (hw _ (List.mem_of_getElem? (i := 7) rfl))) (mvT hZ (hw _ (List.mem_of_getElem? (i := 8) rfl))) (by decide) (backOf (W := 1) (rm2 l Z a0 hw [] b27 (1 : Int32) qr (0 : Int64) (0 : Int64)  h27 n0 Zs27 f28 f29 f30 f31 A27 g_b27) hZ (hw _ (List.mem_of_getElem? (i := 8) rfl)) (hw _ (List.mem_of_getElem? (i := 2) rfl)) (by decide) (by decide)) (g := (mkF m 8 #[.val (.long qr), .second] [(.long (0 : Int64)), (.long (0 : Int64)), (.long qr), (.int (1 : Int32)), (.ref b27), (.ref b27)])) rfl (by rw [hml]; rfl) (Steps.refl _) (a := b27) (argsL := [(.int (1 : Int32)), (.long qr), (.long (0 : Int64)), (.long (0 : Int64))]) (rest := [(.ref b27)]) (lenOf own_pd28 rfl) rfl (by show 2 * 0 + _ ≤ _; exact Nat.le_of_eq rfl) (hb hby d1_8) (fun _ _ => ⟨rfl, e27, (by decide : 1 + 0 ≤ _), (by decide : 4 + 0 ≤ _)⟩)
  dsimp only [Pt.U, Pt.locs, Pt.cells, Pt.slots] at X32 l32 y32 z32 st32 hQ32
  subst l32 y32 z32
  obtain ⟨rfl, Nq32, K32, p32_0, p32_1, p32_2, p32_3, p32_4⟩ := hQ32
  have N32 := Fr.app N0 Nq32
  have Zs32 : n0 ≤ T32.heap.size := Nat.le_trans Zs27 K32.1
  have KK32 : Keep h0 T32.heap [] := KK27.trans K32 (allS (Or.inr sz_b27) all0)
  have f33 := A27.keep K32
  obtain ⟨fs, hr, hrun, hended, hW, hsame⟩ := X32.leave (v := some (.ref b27)) (fun h => by rw [Bd.returns] at h; cases h)
  refine ⟨_, _, pre0 _ ?_, hrun, hended, _, _, rfl, ?_, ⟨_, rfl⟩, hW, hsame.mono (by decide) (by decide)⟩
  · show Steps p.tables e below (s₁.setTop (mkF m 0 #[.val (.long qr), .second] [])) _
    refine st27 _ ?_
    show Steps p.tables e below (T27.setTop (mkF m 3 #[.val (.long qr), .second] [(.ref b27)])) _
    refine XS.dup X27.here hx rfl (hb hby d1_3) rfl rfl ?_
    show Steps p.tables e below (T27.setTop (mkF m 4 #[.val (.long qr), .second] [(.ref b27), (.ref b27)])) _
    refine XS.iconst X27.here hx rfl (hb hby d1_4) ?_
    show Steps p.tables e below (T27.setTop (mkF m 5 #[.val (.long qr), .second] [(.int (1 : Int32)), (.ref b27), (.ref b27)])) _
    refine XS.lloadN X27.here hx rfl (hb hby d1_5) rfl ?_
    show Steps p.tables e below (T27.setTop (mkF m 6 #[.val (.long qr), .second] [(.long qr), (.int (1 : Int32)), (.ref b27), (.ref b27)])) _
    refine XS.lconst X27.here hx rfl (hb hby d1_6) ?_
    show Steps p.tables e below (T27.setTop (mkF m 7 #[.val (.long qr), .second] [(.long (0 : Int64)), (.long qr), (.int (1 : Int32)), (.ref b27), (.ref b27)])) _
    refine XS.lconst X27.here hx rfl (hb hby d1_7) ?_
    show Steps p.tables e below (T27.setTop (mkF m 8 #[.val (.long qr), .second] [(.long (0 : Int64)), (.long (0 : Int64)), (.long qr), (.int (1 : Int32)), (.ref b27), (.ref b27)])) _
    refine st32.trans ?_
    show Steps p.tables e below (T32.setTop (mkF m 11 #[.val (.long qr), .second] [(.ref b27)])) _
    jvm_step X32.here [X32.here.top, hx, (hb hby d1_11), X32.method', Bd.returns, Value.isRef, FieldType.isReference]
    first | (intro acts; rw [hr _ acts rfl rfl rfl]) | rw [hr _ _ rfl rfl rfl]
    exact Steps.refl _
  · show Q1 Z qr h0 n0 _ T32.heap _
    exact ⟨b27, rfl, N32, KK32, p32_0, p32_1, p32_2, p32_3, p32_4⟩
theorem d5_0 : decode prog_51_method_6_code 0 = .ok (.aload_n 0, 1) := by decide +kernel
theorem d5_1 : decode prog_51_method_6_code 1 = .ok (.getfield 7, 3) := by decide +kernel
theorem d5_4 : decode prog_51_method_6_code 4 = .ok (.ireturn, 1) := by decide +kernel
theorem ef_5 (m : MethodId) (x0 : Addr) : entryFrame m #[(.ref x0)] 1 = mkF m 0 #[.val (.ref x0)] [] := by first | (simp [entryFrame, mkF, argsToLocals, Value.category]; done) | rfl
def Q5 (Z : State) (aa : Addr) (vv : Int32) (h0 : Heap) (n0 : Nat) (v : Option Value) (h : Heap) (L : List Loc) : Prop := v = some (.int (nar .boolean vv)) ∧ Fr n0 L ∧ h = h0
set_option maxRecDepth 65536 in
set_option maxHeartbeats 40000000 in
theorem rm5 (l : Launch) (Z : State) (a0 : Array Value) (hw : ∀ d ∈ tables_1, d.before a0 Z = true) (ws : List Jvm.Cond) (aa : Addr) (vv : Int32) (h0 : Heap) (n0 : Nat) (Z0 : n0 ≤ h0.size) (F0 : Fld Z h0 aa "com/example/tideline/tideline/model/SyncResult" "full" "Z" (.int vv)) :
    MetFree l (⟨"com/example/tideline/tideline/model/SyncResult", "full", "()Z"⟩ : MethodName) (head1 (Jvm.Cond.code (⟨"com/example/tideline/tideline/model/SyncResult", "full", "()Z"⟩ : MethodName) prog_51_method_6_code 1 (some .boolean) :: ws) ({ frames := 0, cells := 0, slots := 0, locals := 0 } : Room)) (fun a U => a = #[(.ref aa)] ∧ Z.Warmed39 U.vm ∧ U.heap = h0) (fun _ _ _ _ _ => True) (fun _ U o U' => ∃ v L, o = .returned v ∧ Q5 Z aa vv h0 n0 v U'.heap L ∧ FrameEnd U o U' L ({ frames := 0, cells := 0, slots := 0, locals := 0 } : Room).cells ({ frames := 0, cells := 0, slots := 0, locals := 0 } : Room).slots) := by
  refine MetFree.of_bodySF (plainFor_of_name own_pn20) hisR ?_
  intro p e s m args below meth c s₁ Bd hml0 hP hK
  obtain ⟨rfl, hZ, hh⟩ := hP
  have hx := Bd.exec
  have hby := Bd.bytes
  have hml : c.maxLocals = 1 := hml0
  have hown : s.vm.findClass "com/example/tideline/tideline/model/SyncResult" = some m.cls := findClass_of_methodNamed Bd.named
  have hnm := (name_of_methodNamed Bd.named Bd.method).1
  have X0 : Stand p l e ({ frames := 0, cells := 0, slots := 0, locals := 0 } : Room) s m #[(.ref aa)] below meth c s₁ [] 0 0 := Stand.of_body Bd
  have e0 : s₁.heap = h0 := by rw [← hh, Bd.state]; rfl
  have N0 := Fr.nil n0
  have pre0 : ∀ t, Steps p.tables e below (s₁.setTop (mkF m 0 #[.val (.ref aa)] [])) t → Steps p.tables e below (s₁.setTop (entryFrame m #[(.ref aa)] 1)) t := fun t k => castTop (ef_5 m aa) k
  generalize s₁.setTop (entryFrame m #[(.ref aa)] 1) = G0 at pre0 ⊢
  obtain ⟨T34, X34, e34, st34⟩ := getF X0 hx hZ hown (host := "") (Or.inl (hw _ (List.mem_of_getElem? (i := 17) rfl))) Via.refl e0 F0 (g := (mkF m 1 #[.val (.ref aa)] [(.ref aa)])) rfl rfl (hb hby d5_1)
  obtain ⟨fs, hr, hrun, hended, hW, hsame⟩ := X34.leave (v := some (.int (nar .boolean vv))) (fun h => by rw [Bd.returns] at h; cases h)
  refine ⟨_, _, pre0 _ ?_, hrun, hended, _, _, rfl, ?_, ⟨_, rfl⟩, hW, hsame.mono (by decide) (by decide)⟩
  · show Steps p.tables e below (s₁.setTop (mkF m 0 #[.val (.ref aa)] [])) _
    refine XS.aloadN X0.here hx rfl (hb hby d5_0) rfl rfl ?_
    show Steps p.tables e below (s₁.setTop (mkF m 1 #[.val (.ref aa)] [(.ref aa)])) _
    refine st34 _ ?_
    show Steps p.tables e below (T34.setTop (mkF m 4 #[.val (.ref aa)] [(.int vv)])) _
    exact retN X34 hx (t := .boolean) Bd.returns (by simp) (hb hby d5_4) hr
  · show Q5 Z aa vv h0 n0 _ T34.heap _
    rw [e34]
    exact ⟨rfl, N0, rfl⟩
theorem d6_0 : decode prog_51_method_7_code 0 = .ok (.aload_n 0, 1) := by decide +kernel
theorem d6_1 : decode prog_51_method_7_code 1 = .ok (.getfield 13, 3) := by decide +kernel
theorem d6_4 : decode prog_51_method_7_code 4 = .ok (.lreturn, 1) := by decide +kernel
theorem ef_6 (m : MethodId) (x0 : Addr) : entryFrame m #[(.ref x0)] 1 = mkF m 0 #[.val (.ref x0)] [] := by first | (simp [entryFrame, mkF, argsToLocals, Value.category]; done) | rfl
def Q6 (Z : State) (aa : Addr) (vv : Int64) (h0 : Heap) (n0 : Nat) (v : Option Value) (h : Heap) (L : List Loc) : Prop := v = some (.long vv) ∧ Fr n0 L ∧ h = h0
set_option maxRecDepth 65536 in
set_option maxHeartbeats 40000000 in
theorem rm6 (l : Launch) (Z : State) (a0 : Array Value) (hw : ∀ d ∈ tables_1, d.before a0 Z = true) (ws : List Jvm.Cond) (aa : Addr) (vv : Int64) (h0 : Heap) (n0 : Nat) (Z0 : n0 ≤ h0.size) (F0 : Fld Z h0 aa "com/example/tideline/tideline/model/SyncResult" "inserted" "J" (.long vv)) :
    MetFree l (⟨"com/example/tideline/tideline/model/SyncResult", "inserted", "()J"⟩ : MethodName) (head1 (Jvm.Cond.code (⟨"com/example/tideline/tideline/model/SyncResult", "inserted", "()J"⟩ : MethodName) prog_51_method_7_code 1 (some .long) :: ws) ({ frames := 0, cells := 0, slots := 0, locals := 0 } : Room)) (fun a U => a = #[(.ref aa)] ∧ Z.Warmed39 U.vm ∧ U.heap = h0) (fun _ _ _ _ _ => True) (fun _ U o U' => ∃ v L, o = .returned v ∧ Q6 Z aa vv h0 n0 v U'.heap L ∧ FrameEnd U o U' L ({ frames := 0, cells := 0, slots := 0, locals := 0 } : Room).cells ({ frames := 0, cells := 0, slots := 0, locals := 0 } : Room).slots) := by
  refine MetFree.of_bodySF (plainFor_of_name own_pn20) hisR ?_
  intro p e s m args below meth c s₁ Bd hml0 hP hK
  obtain ⟨rfl, hZ, hh⟩ := hP
  have hx := Bd.exec
  have hby := Bd.bytes
  have hml : c.maxLocals = 1 := hml0
  have hown : s.vm.findClass "com/example/tideline/tideline/model/SyncResult" = some m.cls := findClass_of_methodNamed Bd.named
  have hnm := (name_of_methodNamed Bd.named Bd.method).1
  have X0 : Stand p l e ({ frames := 0, cells := 0, slots := 0, locals := 0 } : Room) s m #[(.ref aa)] below meth c s₁ [] 0 0 := Stand.of_body Bd
  have e0 : s₁.heap = h0 := by rw [← hh, Bd.state]; rfl
  have N0 := Fr.nil n0
  have pre0 : ∀ t, Steps p.tables e below (s₁.setTop (mkF m 0 #[.val (.ref aa)] [])) t → Steps p.tables e below (s₁.setTop (entryFrame m #[(.ref aa)] 1)) t := fun t k => castTop (ef_6 m aa) k
  generalize s₁.setTop (entryFrame m #[(.ref aa)] 1) = G0 at pre0 ⊢
  obtain ⟨T35, X35, e35, st35⟩ := getF X0 hx hZ hown (host := "") (Or.inl (hw _ (List.mem_of_getElem? (i := 19) rfl))) Via.refl e0 F0 (g := (mkF m 1 #[.val (.ref aa)] [(.ref aa)])) rfl rfl (hb hby d6_1)
  obtain ⟨fs, hr, hrun, hended, hW, hsame⟩ := X35.leave (v := some (.long vv)) (fun h => by rw [Bd.returns] at h; cases h)
  refine ⟨_, _, pre0 _ ?_, hrun, hended, _, _, rfl, ?_, ⟨_, rfl⟩, hW, hsame.mono (by decide) (by decide)⟩
  · show Steps p.tables e below (s₁.setTop (mkF m 0 #[.val (.ref aa)] [])) _
    refine XS.aloadN X0.here hx rfl (hb hby d6_0) rfl rfl ?_
    show Steps p.tables e below (s₁.setTop (mkF m 1 #[.val (.ref aa)] [(.ref aa)])) _
    refine st35 _ ?_
    show Steps p.tables e below (T35.setTop (mkF m 4 #[.val (.ref aa)] [(.long vv)])) _
    exact X35.lreturnOut hx Bd.returns (hb hby d6_4) hr
  · show Q6 Z aa vv h0 n0 _ T35.heap _
    rw [e35]
    exact ⟨rfl, N0, rfl⟩
theorem d7_0 : decode prog_51_method_8_code 0 = .ok (.aload_n 0, 1) := by decide +kernel
theorem d7_1 : decode prog_51_method_8_code 1 = .ok (.getfield 17, 3) := by decide +kernel
theorem d7_4 : decode prog_51_method_8_code 4 = .ok (.lreturn, 1) := by decide +kernel
theorem ef_7 (m : MethodId) (x0 : Addr) : entryFrame m #[(.ref x0)] 1 = mkF m 0 #[.val (.ref x0)] [] := by first | (simp [entryFrame, mkF, argsToLocals, Value.category]; done) | rfl
def Q7 (Z : State) (aa : Addr) (vv : Int64) (h0 : Heap) (n0 : Nat) (v : Option Value) (h : Heap) (L : List Loc) : Prop := v = some (.long vv) ∧ Fr n0 L ∧ h = h0
set_option maxRecDepth 65536 in
set_option maxHeartbeats 40000000 in
theorem rm7 (l : Launch) (Z : State) (a0 : Array Value) (hw : ∀ d ∈ tables_1, d.before a0 Z = true) (ws : List Jvm.Cond) (aa : Addr) (vv : Int64) (h0 : Heap) (n0 : Nat) (Z0 : n0 ≤ h0.size) (F0 : Fld Z h0 aa "com/example/tideline/tideline/model/SyncResult" "updated" "J" (.long vv)) :
    MetFree l (⟨"com/example/tideline/tideline/model/SyncResult", "updated", "()J"⟩ : MethodName) (head1 (Jvm.Cond.code (⟨"com/example/tideline/tideline/model/SyncResult", "updated", "()J"⟩ : MethodName) prog_51_method_8_code 1 (some .long) :: ws) ({ frames := 0, cells := 0, slots := 0, locals := 0 } : Room)) (fun a U => a = #[(.ref aa)] ∧ Z.Warmed39 U.vm ∧ U.heap = h0) (fun _ _ _ _ _ => True) (fun _ U o U' => ∃ v L, o = .returned v ∧ Q7 Z aa vv h0 n0 v U'.heap L ∧ FrameEnd U o U' L ({ frames := 0, cells := 0, slots := 0, locals := 0 } : Room).cells ({ frames := 0, cells := 0, slots := 0, locals := 0 } : Room).slots) := by
  refine MetFree.of_bodySF (plainFor_of_name own_pn20) hisR ?_
  intro p e s m args below meth c s₁ Bd hml0 hP hK
  obtain ⟨rfl, hZ, hh⟩ := hP
  have hx := Bd.exec
  have hby := Bd.bytes
  have hml : c.maxLocals = 1 := hml0
  have hown : s.vm.findClass "com/example/tideline/tideline/model/SyncResult" = some m.cls := findClass_of_methodNamed Bd.named
  have hnm := (name_of_methodNamed Bd.named Bd.method).1
  have X0 : Stand p l e ({ frames := 0, cells := 0, slots := 0, locals := 0 } : Room) s m #[(.ref aa)] below meth c s₁ [] 0 0 := Stand.of_body Bd
  have e0 : s₁.heap = h0 := by rw [← hh, Bd.state]; rfl
  have N0 := Fr.nil n0
  have pre0 : ∀ t, Steps p.tables e below (s₁.setTop (mkF m 0 #[.val (.ref aa)] [])) t → Steps p.tables e below (s₁.setTop (entryFrame m #[(.ref aa)] 1)) t := fun t k => castTop (ef_7 m aa) k
  generalize s₁.setTop (entryFrame m #[(.ref aa)] 1) = G0 at pre0 ⊢
  obtain ⟨T36, X36, e36, st36⟩ := getF X0 hx hZ hown (host := "") (Or.inl (hw _ (List.mem_of_getElem? (i := 21) rfl))) Via.refl e0 F0 (g := (mkF m 1 #[.val (.ref aa)] [(.ref aa)])) rfl rfl (hb hby d7_1)
  obtain ⟨fs, hr, hrun, hended, hW, hsame⟩ := X36.leave (v := some (.long vv)) (fun h => by rw [Bd.returns] at h; cases h)
  refine ⟨_, _, pre0 _ ?_, hrun, hended, _, _, rfl, ?_, ⟨_, rfl⟩, hW, hsame.mono (by decide) (by decide)⟩
  · show Steps p.tables e below (s₁.setTop (mkF m 0 #[.val (.ref aa)] [])) _
    refine XS.aloadN X0.here hx rfl (hb hby d7_0) rfl rfl ?_
    show Steps p.tables e below (s₁.setTop (mkF m 1 #[.val (.ref aa)] [(.ref aa)])) _
    refine st36 _ ?_
    show Steps p.tables e below (T36.setTop (mkF m 4 #[.val (.ref aa)] [(.long vv)])) _
    exact X36.lreturnOut hx Bd.returns (hb hby d7_4) hr
  · show Q7 Z aa vv h0 n0 _ T36.heap _
    rw [e36]
    exact ⟨rfl, N0, rfl⟩
theorem d8_0 : decode prog_51_method_9_code 0 = .ok (.aload_n 0, 1) := by decide +kernel
theorem d8_1 : decode prog_51_method_9_code 1 = .ok (.getfield 20, 3) := by decide +kernel
theorem d8_4 : decode prog_51_method_9_code 4 = .ok (.lreturn, 1) := by decide +kernel
theorem ef_8 (m : MethodId) (x0 : Addr) : entryFrame m #[(.ref x0)] 1 = mkF m 0 #[.val (.ref x0)] [] := by first | (simp [entryFrame, mkF, argsToLocals, Value.category]; done) | rfl
def Q8 (Z : State) (aa : Addr) (vv : Int64) (h0 : Heap) (n0 : Nat) (v : Option Value) (h : Heap) (L : List Loc) : Prop := v = some (.long vv) ∧ Fr n0 L ∧ h = h0
set_option maxRecDepth 65536 in
set_option maxHeartbeats 40000000 in
theorem rm8 (l : Launch) (Z : State) (a0 : Array Value) (hw : ∀ d ∈ tables_1, d.before a0 Z = true) (ws : List Jvm.Cond) (aa : Addr) (vv : Int64) (h0 : Heap) (n0 : Nat) (Z0 : n0 ≤ h0.size) (F0 : Fld Z h0 aa "com/example/tideline/tideline/model/SyncResult" "deleted" "J" (.long vv)) :
    MetFree l (⟨"com/example/tideline/tideline/model/SyncResult", "deleted", "()J"⟩ : MethodName) (head1 (Jvm.Cond.code (⟨"com/example/tideline/tideline/model/SyncResult", "deleted", "()J"⟩ : MethodName) prog_51_method_9_code 1 (some .long) :: ws) ({ frames := 0, cells := 0, slots := 0, locals := 0 } : Room)) (fun a U => a = #[(.ref aa)] ∧ Z.Warmed39 U.vm ∧ U.heap = h0) (fun _ _ _ _ _ => True) (fun _ U o U' => ∃ v L, o = .returned v ∧ Q8 Z aa vv h0 n0 v U'.heap L ∧ FrameEnd U o U' L ({ frames := 0, cells := 0, slots := 0, locals := 0 } : Room).cells ({ frames := 0, cells := 0, slots := 0, locals := 0 } : Room).slots) := by
  refine MetFree.of_bodySF (plainFor_of_name own_pn20) hisR ?_
  intro p e s m args below meth c s₁ Bd hml0 hP hK
  obtain ⟨rfl, hZ, hh⟩ := hP
  have hx := Bd.exec
  have hby := Bd.bytes
  have hml : c.maxLocals = 1 := hml0
  have hown : s.vm.findClass "com/example/tideline/tideline/model/SyncResult" = some m.cls := findClass_of_methodNamed Bd.named
  have hnm := (name_of_methodNamed Bd.named Bd.method).1
  have X0 : Stand p l e ({ frames := 0, cells := 0, slots := 0, locals := 0 } : Room) s m #[(.ref aa)] below meth c s₁ [] 0 0 := Stand.of_body Bd
  have e0 : s₁.heap = h0 := by rw [← hh, Bd.state]; rfl
  have N0 := Fr.nil n0
  have pre0 : ∀ t, Steps p.tables e below (s₁.setTop (mkF m 0 #[.val (.ref aa)] [])) t → Steps p.tables e below (s₁.setTop (entryFrame m #[(.ref aa)] 1)) t := fun t k => castTop (ef_8 m aa) k
  generalize s₁.setTop (entryFrame m #[(.ref aa)] 1) = G0 at pre0 ⊢
  obtain ⟨T37, X37, e37, st37⟩ := getF X0 hx hZ hown (host := "") (Or.inl (hw _ (List.mem_of_getElem? (i := 23) rfl))) Via.refl e0 F0 (g := (mkF m 1 #[.val (.ref aa)] [(.ref aa)])) rfl rfl (hb hby d8_1)
  obtain ⟨fs, hr, hrun, hended, hW, hsame⟩ := X37.leave (v := some (.long vv)) (fun h => by rw [Bd.returns] at h; cases h)
  refine ⟨_, _, pre0 _ ?_, hrun, hended, _, _, rfl, ?_, ⟨_, rfl⟩, hW, hsame.mono (by decide) (by decide)⟩
  · show Steps p.tables e below (s₁.setTop (mkF m 0 #[.val (.ref aa)] [])) _
    refine XS.aloadN X0.here hx rfl (hb hby d8_0) rfl rfl ?_
    show Steps p.tables e below (s₁.setTop (mkF m 1 #[.val (.ref aa)] [(.ref aa)])) _
    refine st37 _ ?_
    show Steps p.tables e below (T37.setTop (mkF m 4 #[.val (.ref aa)] [(.long vv)])) _
    exact X37.lreturnOut hx Bd.returns (hb hby d8_4) hr
  · show Q8 Z aa vv h0 n0 _ T37.heap _
    rw [e37]
    exact ⟨rfl, N0, rfl⟩
theorem own_pd42 : parseMethodDescriptor "(J)Lcom/example/tideline/tideline/model/SyncResult;" = some ⟨[.long], some (.object "com/example/tideline/tideline/model/SyncResult")⟩ := by decide +kernel
theorem own_pd43 : parseMethodDescriptor "()Z" = some ⟨[], some .boolean⟩ := by decide +kernel
theorem own_pd44 : parseMethodDescriptor "()J" = some ⟨[], some .long⟩ := by decide +kernel
theorem own_pn45 : plainName "com/example/tideline/tideline/model/SyncResultFullCopyPinLaw" = true := by first | (simp [plainName, overriddenIn]; done) | decide +kernel
theorem ef_0 (m : MethodId) (x0 : Int64) : entryFrame m #[(.long x0)] maxLocals = mkF m 0 #[.val (.long x0), .second, .unset] [] := by first | (simp [entryFrame, mkF, argsToLocals, Value.category, maxLocals]; done) | rfl
def Q0 (Z : State) (qr : Int64) (h0 : Heap) (n0 : Nat) (v : Option Value) (h : Heap) (L : List Loc) : Prop := v = some (.int (1 : Int32)) ∧ Fr n0 L
set_option maxRecDepth 65536 in
set_option maxHeartbeats 40000000 in
theorem rm0 (l : Launch) (Z : State) (a0 : Array Value) (hw : ∀ d ∈ tables_1, d.before a0 Z = true) (ws : List Jvm.Cond) (qr : Int64) (h0 : Heap) (n0 : Nat) (Z0 : n0 ≤ h0.size) :
    MetFree l x (head1 (Jvm.Cond.code x code maxLocals ret :: ws) room_1) (fun a U => a = #[(.long qr)] ∧ Z.Warmed39 U.vm ∧ U.heap = h0) (fun _ _ _ _ _ => True) (fun _ U o U' => ∃ v L, o = .returned v ∧ Q0 Z qr h0 n0 v U'.heap L ∧ FrameEnd U o U' L room_1.cells room_1.slots) := by
  refine MetFree.of_bodySF (plainFor_of_name own_pn45) hisR ?_
  intro p e s m args below meth c s₁ Bd hml0 hP hK
  obtain ⟨rfl, hZ, hh⟩ := hP
  have hx := Bd.exec
  have hby := Bd.bytes
  have hml : c.maxLocals = 3 := hml0
  have hown : s.vm.findClass "com/example/tideline/tideline/model/SyncResultFullCopyPinLaw" = some m.cls := findClass_of_methodNamed Bd.named
  have hnm := (name_of_methodNamed Bd.named Bd.method).1
  have X0 : Stand p l e room_1 s m #[(.long qr)] below meth c s₁ [] 0 0 := Stand.of_body Bd
  have e0 : s₁.heap = h0 := by rw [← hh, Bd.state]; rfl
  have N0 := Fr.nil n0
  have pre0 : ∀ t, Steps p.tables e below (s₁.setTop (mkF m 0 #[.val (.long qr), .second, .unset] [])) t → Steps p.tables e below (s₁.setTop (entryFrame m #[(.long qr)] maxLocals)) t := fun t k => castTop (ef_0 m qr) k
  generalize s₁.setTop (entryFrame m #[(.long qr)] maxLocals) = G0 at pre0 ⊢
  obtain ⟨_, _, ⟨T38, L38, k38, n38⟩, -, X38, ⟨Lc38, hQ38, l38, y38, z38⟩, st38⟩ := Jvm.LawKit.callS X0 hx (y := (⟨"com/example/tideline/tideline/model/SyncResult", "fullCopy", "(J)Lcom/example/tideline/tideline/model/SyncResult;"⟩ : MethodName)) hown (mvT hZ (hw _ (List.mem_of_getElem? (i := 0) rfl))) (mvT hZ (hw _ (List.mem_of_getElem? (i := 1) rfl))) (mvT hZ (hw _ (List.mem_of_getElem? (i := 2) rfl))) (mvT hZ (hw _ (List.mem_of_getElem? (i := 3) rfl))) (by decide) (backOf (W := 0) (rm1 l Z a0 hw [] qr  h0 n0 Z0 ) hZ (hw _ (List.mem_of_getElem? (i := 3) rfl)) (hw _ (List.mem_of_getElem? (i := 2) rfl)) (by decide) (by decide)) (g := (mkF m 1 #[.val (.long qr), .second, .unset] [(.long qr)])) rfl (by rw [hml]; rfl) (argsL := [(.long qr)]) (rest := []) (lenOf own_pd42 rfl) rfl (by show 2 * 0 + _ ≤ _; exact Nat.le_of_eq rfl) (hb hby at_1) (fun _ _ => ⟨rfl, e0, (by decide : 0 + 1 ≤ _), (by decide : 0 + 4 ≤ _)⟩)
  dsimp only [Pt.U, Pt.locs, Pt.cells, Pt.slots] at X38 l38 y38 z38 st38 hQ38
  subst l38 y38 z38
  obtain ⟨rro_38, rfl, Nq38, K38, p38_0, p38_1, p38_2, p38_3, p38_4⟩ := hQ38
  have N38 := Fr.app N0 Nq38
  have Zs38 : n0 ≤ T38.heap.size := Nat.le_trans Z0 K38.1
  have KK38 : Keep h0 T38.heap [] := (Keep.refl h0 _).trans K38 all0
  obtain ⟨cq39, kq39, q39a, q39b, q39c⟩ := isOf hZ rfl p38_0
  obtain ⟨_, _, ⟨T39, L39, k39, n39⟩, -, X39, ⟨Lc39, hQ39, l39, y39, z39⟩, st39⟩ := X38.virtualBack hx (y := (⟨"com/example/tideline/tideline/model/SyncResult", "full", "()Z"⟩ : MethodName)) (z := (⟨"com/example/tideline/tideline/model/SyncResult", "full", "()Z"⟩ : MethodName)) hown (mvT hZ (hw _ (List.mem_of_getElem? (i := 25) rfl))) (mvT hZ (hw _ (List.mem_of_getElem? (i := 26) rfl))) (notFace_of_selects (args := #[]) (mvT hZ (hw _ (List.mem_of_getElem? (i := 28) rfl)))) (mvT hZ (hw _ (List.mem_of_getElem? (i := 28) rfl))) (mvT hZ (hw _ (List.mem_of_getElem? (i := 27) rfl))) (by decide) (backOf (W := 0) (rm5 l Z a0 hw [] rro_38 (nar .boolean (1 : Int32)) T38.heap n0 Zs38 p38_1) hZ (hw _ (List.mem_of_getElem? (i := 29) rfl)) (hw _ (List.mem_of_getElem? (i := 2) rfl)) (by decide) (by decide)) q39a q39c (g := (mkF m 12 #[.val (.long qr), .second, .val (.ref rro_38)] [(.ref rro_38)])) rfl (by rw [hml]; rfl) (Steps.refl _) (argsL := []) (rest := []) (lenOf own_pd43 rfl) rfl (by show 2 * 0 + _ ≤ _; exact Nat.le_of_eq rfl) (hb hby at_12) (fun _ _ => ⟨rfl, rfl, (by decide : 1 + 0 ≤ _), (by decide : 4 + 0 ≤ _)⟩)
  dsimp only [Pt.U, Pt.locs, Pt.cells, Pt.slots] at X39 l39 y39 z39 st39 hQ39
  subst l39 y39 z39
  obtain ⟨rfl, Nq39, e39⟩ := hQ39
  have N39 := Fr.app N38 Nq39
  obtain ⟨cq40, kq40, q40a, q40b, q40c⟩ := isOf hZ e39 p38_0
  obtain ⟨_, _, ⟨T40, L40, k40, n40⟩, -, X40, ⟨Lc40, hQ40, l40, y40, z40⟩, st40⟩ := X39.virtualBack hx (y := (⟨"com/example/tideline/tideline/model/SyncResult", "inserted", "()J"⟩ : MethodName)) (z := (⟨"com/example/tideline/tideline/model/SyncResult", "inserted", "()J"⟩ : MethodName)) hown (mvT hZ (hw _ (List.mem_of_getElem? (i := 30) rfl))) (mvT hZ (hw _ (List.mem_of_getElem? (i := 31) rfl))) (notFace_of_selects (args := #[]) (mvT hZ (hw _ (List.mem_of_getElem? (i := 33) rfl)))) (mvT hZ (hw _ (List.mem_of_getElem? (i := 33) rfl))) (mvT hZ (hw _ (List.mem_of_getElem? (i := 32) rfl))) (by decide) (backOf (W := 0) (rm6 l Z a0 hw [] rro_38 qr T38.heap n0 Zs38 p38_2) hZ (hw _ (List.mem_of_getElem? (i := 34) rfl)) (hw _ (List.mem_of_getElem? (i := 2) rfl)) (by decide) (by decide)) q40a q40c (g := (mkF m 19 #[.val (.long qr), .second, .val (.ref rro_38)] [(.ref rro_38)])) rfl (by rw [hml]; rfl) (Steps.refl _) (argsL := []) (rest := []) (lenOf own_pd44 rfl) rfl (by show 2 * 0 + _ ≤ _; exact Nat.le_of_eq rfl) (hb hby at_19) (fun _ _ => ⟨rfl, e39, (by decide : 1 + 0 ≤ _), (by decide : 4 + 0 ≤ _)⟩)
  dsimp only [Pt.U, Pt.locs, Pt.cells, Pt.slots] at X40 l40 y40 z40 st40 hQ40
  subst l40 y40 z40
  obtain ⟨rfl, Nq40, e40⟩ := hQ40
  have N40 := Fr.app N39 Nq40
  obtain ⟨cq41, kq41, q41a, q41b, q41c⟩ := isOf hZ e40 p38_0
  obtain ⟨_, _, ⟨T41, L41, k41, n41⟩, -, X41, ⟨Lc41, hQ41, l41, y41, z41⟩, st41⟩ := X40.virtualBack hx (y := (⟨"com/example/tideline/tideline/model/SyncResult", "updated", "()J"⟩ : MethodName)) (z := (⟨"com/example/tideline/tideline/model/SyncResult", "updated", "()J"⟩ : MethodName)) hown (mvT hZ (hw _ (List.mem_of_getElem? (i := 35) rfl))) (mvT hZ (hw _ (List.mem_of_getElem? (i := 36) rfl))) (notFace_of_selects (args := #[]) (mvT hZ (hw _ (List.mem_of_getElem? (i := 38) rfl)))) (mvT hZ (hw _ (List.mem_of_getElem? (i := 38) rfl))) (mvT hZ (hw _ (List.mem_of_getElem? (i := 37) rfl))) (by decide) (backOf (W := 0) (rm7 l Z a0 hw [] rro_38 (0 : Int64) T38.heap n0 Zs38 p38_3) hZ (hw _ (List.mem_of_getElem? (i := 39) rfl)) (hw _ (List.mem_of_getElem? (i := 2) rfl)) (by decide) (by decide)) q41a q41c (g := (mkF m 28 #[.val (.long qr), .second, .val (.ref rro_38)] [(.ref rro_38)])) rfl (by rw [hml]; rfl) (Steps.refl _) (argsL := []) (rest := []) (lenOf own_pd44 rfl) rfl (by show 2 * 0 + _ ≤ _; exact Nat.le_of_eq rfl) (hb hby at_28) (fun _ _ => ⟨rfl, e40, (by decide : 1 + 0 ≤ _), (by decide : 4 + 0 ≤ _)⟩)
  dsimp only [Pt.U, Pt.locs, Pt.cells, Pt.slots] at X41 l41 y41 z41 st41 hQ41
  subst l41 y41 z41
  obtain ⟨rfl, Nq41, e41⟩ := hQ41
  have N41 := Fr.app N40 Nq41
  obtain ⟨cq42, kq42, q42a, q42b, q42c⟩ := isOf hZ e41 p38_0
  obtain ⟨_, _, ⟨T42, L42, k42, n42⟩, -, X42, ⟨Lc42, hQ42, l42, y42, z42⟩, st42⟩ := X41.virtualBack hx (y := (⟨"com/example/tideline/tideline/model/SyncResult", "deleted", "()J"⟩ : MethodName)) (z := (⟨"com/example/tideline/tideline/model/SyncResult", "deleted", "()J"⟩ : MethodName)) hown (mvT hZ (hw _ (List.mem_of_getElem? (i := 40) rfl))) (mvT hZ (hw _ (List.mem_of_getElem? (i := 41) rfl))) (notFace_of_selects (args := #[]) (mvT hZ (hw _ (List.mem_of_getElem? (i := 43) rfl)))) (mvT hZ (hw _ (List.mem_of_getElem? (i := 43) rfl))) (mvT hZ (hw _ (List.mem_of_getElem? (i := 42) rfl))) (by decide) (backOf (W := 0) (rm8 l Z a0 hw [] rro_38 (0 : Int64) T38.heap n0 Zs38 p38_4) hZ (hw _ (List.mem_of_getElem? (i := 44) rfl)) (hw _ (List.mem_of_getElem? (i := 2) rfl)) (by decide) (by decide)) q42a q42c (g := (mkF m 37 #[.val (.long qr), .second, .val (.ref rro_38)] [(.ref rro_38)])) rfl (by rw [hml]; rfl) (Steps.refl _) (argsL := []) (rest := []) (lenOf own_pd44 rfl) rfl (by show 2 * 0 + _ ≤ _; exact Nat.le_of_eq rfl) (hb hby at_37) (fun _ _ => ⟨rfl, e41, (by decide : 1 + 0 ≤ _), (by decide : 4 + 0 ≤ _)⟩)
  dsimp only [Pt.U, Pt.locs, Pt.cells, Pt.slots] at X42 l42 y42 z42 st42 hQ42
  subst l42 y42 z42
  obtain ⟨rfl, Nq42, e42⟩ := hQ42
  have N42 := Fr.app N41 Nq42
  obtain ⟨fs, hr, hrun, hended, hW, hsame⟩ := X42.leave (v := some (.int (1 : Int32))) (fun h => by rw [Bd.returns] at h; cases h)
  refine ⟨_, _, pre0 _ ?_, hrun, hended, _, _, rfl, ?_, ⟨_, rfl⟩, hW, hsame.mono (by decide) (by decide)⟩
  · show Steps p.tables e below (s₁.setTop (mkF m 0 #[.val (.long qr), .second, .unset] [])) _
    refine XS.lloadN X0.here hx rfl (hb hby at_0) rfl ?_
    show Steps p.tables e below (s₁.setTop (mkF m 1 #[.val (.long qr), .second, .unset] [(.long qr)])) _
    refine st38 _ ?_
    show Steps p.tables e below (T38.setTop (mkF m 4 #[.val (.long qr), .second, .unset] [(.ref rro_38)])) _
    refine XS.astoreN X38.here hx rfl (hb hby at_4) rfl rfl (l' := #[.val (.long qr), .second, .val (.ref rro_38)]) rfl ?_
    show Steps p.tables e below (T38.setTop (mkF m 5 #[.val (.long qr), .second, .val (.ref rro_38)] [])) _
    refine XS.aloadN X38.here hx rfl (hb hby at_5) rfl rfl ?_
    show Steps p.tables e below (T38.setTop (mkF m 6 #[.val (.long qr), .second, .val (.ref rro_38)] [(.ref rro_38)])) _
    refine XS.ifnonnullYes X38.here hx rfl (pc0 := 6) (pc' := 11) rfl (hb hby at_6) rfl (by decide) (by decide) ?_
    show Steps p.tables e below (T38.setTop (mkF m 11 #[.val (.long qr), .second, .val (.ref rro_38)] [])) _
    refine XS.aloadN X38.here hx rfl (hb hby at_11) rfl rfl ?_
    show Steps p.tables e below (T38.setTop (mkF m 12 #[.val (.long qr), .second, .val (.ref rro_38)] [(.ref rro_38)])) _
    refine st39.trans ?_
    show Steps p.tables e below (T39.setTop (mkF m 15 #[.val (.long qr), .second, .val (.ref rro_38)] [(.int (nar .boolean (nar .boolean (1 : Int32))))])) _
    refine XS.ifNo X39.here hx rfl (hb hby at_15) rfl ((if0 _ _).trans (feq (by decide : ¬ ((nar .boolean (nar .boolean (1 : Int32))) = (0 : Int32)))).1) ?_
    show Steps p.tables e below (T39.setTop (mkF m 18 #[.val (.long qr), .second, .val (.ref rro_38)] [])) _
    refine XS.aloadN X39.here hx rfl (hb hby at_18) rfl rfl ?_
    show Steps p.tables e below (T39.setTop (mkF m 19 #[.val (.long qr), .second, .val (.ref rro_38)] [(.ref rro_38)])) _
    refine st40.trans ?_
    show Steps p.tables e below (T40.setTop (mkF m 22 #[.val (.long qr), .second, .val (.ref rro_38)] [(.long qr)])) _
    refine XS.lloadN X40.here hx rfl (hb hby at_22) rfl ?_
    show Steps p.tables e below (T40.setTop (mkF m 23 #[.val (.long qr), .second, .val (.ref rro_38)] [(.long qr), (.long qr)])) _
    refine XS.lcmp X40.here hx rfl (hb hby at_23) rfl ?_
    show Steps p.tables e below (T40.setTop (mkF m 24 #[.val (.long qr), .second, .val (.ref rro_38)] [(.int (lcmpW qr qr))])) _
    refine XS.ifNo X40.here hx rfl (hb hby at_24) rfl ((if0 _ _).trans (teq ((lw_eq qr qr).mpr (rfl : qr = qr))).2) ?_
    show Steps p.tables e below (T40.setTop (mkF m 27 #[.val (.long qr), .second, .val (.ref rro_38)] [])) _
    refine XS.aloadN X40.here hx rfl (hb hby at_27) rfl rfl ?_
    show Steps p.tables e below (T40.setTop (mkF m 28 #[.val (.long qr), .second, .val (.ref rro_38)] [(.ref rro_38)])) _
    refine st41.trans ?_
    show Steps p.tables e below (T41.setTop (mkF m 31 #[.val (.long qr), .second, .val (.ref rro_38)] [(.long (0 : Int64))])) _
    refine XS.lconst X41.here hx rfl (hb hby at_31) ?_
    show Steps p.tables e below (T41.setTop (mkF m 32 #[.val (.long qr), .second, .val (.ref rro_38)] [(.long (0 : Int64)), (.long (0 : Int64))])) _
    refine XS.lcmp X41.here hx rfl (hb hby at_32) rfl ?_
    show Steps p.tables e below (T41.setTop (mkF m 33 #[.val (.long qr), .second, .val (.ref rro_38)] [(.int (lcmpW (0 : Int64) (0 : Int64)))])) _
    refine XS.ifNo X41.here hx rfl (hb hby at_33) rfl ((if0 _ _).trans (teq ((lw_eq (0 : Int64) (0 : Int64)).mpr (by decide : ((0 : Int64) = (0 : Int64))))).2) ?_
    show Steps p.tables e below (T41.setTop (mkF m 36 #[.val (.long qr), .second, .val (.ref rro_38)] [])) _
    refine XS.aloadN X41.here hx rfl (hb hby at_36) rfl rfl ?_
    show Steps p.tables e below (T41.setTop (mkF m 37 #[.val (.long qr), .second, .val (.ref rro_38)] [(.ref rro_38)])) _
    refine st42.trans ?_
    show Steps p.tables e below (T42.setTop (mkF m 40 #[.val (.long qr), .second, .val (.ref rro_38)] [(.long (0 : Int64))])) _
    refine XS.lconst X42.here hx rfl (hb hby at_40) ?_
    show Steps p.tables e below (T42.setTop (mkF m 41 #[.val (.long qr), .second, .val (.ref rro_38)] [(.long (0 : Int64)), (.long (0 : Int64))])) _
    refine XS.lcmp X42.here hx rfl (hb hby at_41) rfl ?_
    show Steps p.tables e below (T42.setTop (mkF m 42 #[.val (.long qr), .second, .val (.ref rro_38)] [(.int (lcmpW (0 : Int64) (0 : Int64)))])) _
    refine XS.ifNo X42.here hx rfl (hb hby at_42) rfl ((if0 _ _).trans (teq ((lw_eq (0 : Int64) (0 : Int64)).mpr (by decide : ((0 : Int64) = (0 : Int64))))).2) ?_
    show Steps p.tables e below (T42.setTop (mkF m 45 #[.val (.long qr), .second, .val (.ref rro_38)] [])) _
    refine XS.iconst X42.here hx rfl (hb hby at_45) ?_
    show Steps p.tables e below (T42.setTop (mkF m 46 #[.val (.long qr), .second, .val (.ref rro_38)] [(.int (1 : Int32))])) _
    refine XS.goto X42.here hx rfl (pc0 := 46) (pc' := 50) rfl (hb hby at_46) (by decide) (by decide) ?_
    show Steps p.tables e below (T42.setTop (mkF m 50 #[.val (.long qr), .second, .val (.ref rro_38)] [(.int (1 : Int32))])) _
    exact retN X42 hx (t := .boolean) Bd.returns (by simp) (hb hby at_50) hr
  · show Q0 Z qr h0 n0 _ T42.heap _
    rw [e42]
    exact ⟨rfl, N42⟩
set_option maxRecDepth 65536 in
set_option maxHeartbeats 40000000 in
theorem comes_1 {Post : Tables → Env → Array Value → State → Outcome → State → Prop} (hpost : ∀ tb e args s v u, (limb_1_1.after args s (.returned v) u = true ∧ limb_1_2.after args s (.returned v) u = true ∧ True) → FrameEnd s (.returned v) u (Jvm.fieldLocs frame_1_writes args s ++ Jvm.arrayLocs frame_1_arrays args s ++ Jvm.staticLocs frame_1_statics s) 16 128 → Post tb e args s (.returned v) u) :
    ArmFor flags0 classFile x code maxLocals ret World_1 tables_1 room_1 Calls_1 rest_1 Pre_1 Post := by
  intro l hfl _ _ p e ha hc hk s m args below hf hA hF happ hP
  obtain ⟨hcalls, hrest, hpre⟩ := hP
  obtain ⟨-, -, -, hnamed, -, -, -, hat⟩ := (Spec.applies_iff hf).mp happ
  obtain ⟨hg, hn⟩ := and_e (Cond.before_iff.mp (show (Jvm.Cond.and given_1 narrow_1).before args s = true from hpre))
  obtain ⟨hcount, ga0⟩ := and_e hg
  have gi0 := ga0
  obtain ⟨w0, rfl⟩ : ∃ w0 : Value, args = #[w0] := by
    have hs : args.size = 1 := by simpa [Cond.value, given_1] using hcount
    obtain ⟨L⟩ := args
    match L, hs with
    | [w0], _ => exact ⟨w0, rfl⟩
  have hw := fun d (hd : d ∈ tables_1) => atoms_spec (ws := Jvm.Cond.code x code maxLocals ret :: tables_1) hat d (List.mem_cons_of_mem _ hd)
  have hfit : Fit s := fun {y c} hc i hi => by
    obtain ⟨ha, rfl⟩ := Array.getElem?_eq_some_iff.mp hc
    have q := List.all_eq_true.mp ((Array.all_eq_true_iff_forall_mem.mp hF) _ (Array.getElem_mem ha)) i (List.mem_range.mpr hi)
    simpa [Array.getElem?_eq_getElem hi] using q
  obtain ⟨i0, ei0⟩ := isL_v gi0
  obtain rfl : w0 = (.long i0) := Option.some.inj ei0
  obtain ⟨n, o, h1, h2, h3, _, L, rfl, ⟨rfl, N⟩, hq⟩ := rm0 l s _ hw tables_1 i0  s.heap s.heap.size (Nat.le_refl _)  p e ha hc hk s m _ below hf ((Spec.applies_iff_loose hf).mp happ).1 ⟨rfl, State.Warmed39.refl s, rfl⟩ trivial
  refine ⟨n, _, h1, h2, h3, hpost _ _ _ _ _ _ ⟨Cond.after_iff.mpr rfl, Cond.after_iff.mpr (eq_i res_at (Term.int_eval (1)) rfl), trivial⟩ ⟨hq.1, hq.2.1, (hq.2.2.sift fun y hy => Or.inr (N y hy)).mono (by decide) (by decide)⟩⟩
theorem main_1_1 : Claimed_1_1 := comes_1 fun _ _ _ _ _ _ h hF => ⟨h.1, hF⟩
theorem main_1_2 : Claimed_1_2 := comes_1 fun _ _ _ _ _ _ h hF => ⟨h.2.1, hF⟩
end Jvm.Pilot.@@N@@
namespace Jvm.Pilot.@@N@@
open Jvm Jvm.ClassFile Sem Op Lib Jvm.Free Jvm.Stand Jvm.Pilot.@@N@@.Jvm.D
/-! MADE BY PROGRAM (witnessworld.py) out of the Statement's table words and the real class files: 10 classes; the members and pool entries that the words name. The judged class is class 1, her method 1. -/
namespace start1
open Jvm.ClassFile
def u (s : String) : CpInfo := .utf8 (stringToUtf16 s)
/-- a pool by its gaps: so many unusable entries, then the entry; so many at the end -/
def gap : Nat → List CpInfo → List CpInfo
  | 0, r => r
  | n + 1, r => .unusable :: gap n r
def poolList (es : List (Nat × CpInfo)) (last : Nat) : List CpInfo := es.foldr (fun e r => gap e.1 (e.2 :: r)) (gap last [])
def pool (es : List (Nat × CpInfo)) (last : Nat) : Array CpInfo := ⟨poolList es last⟩
def fileOf (pool : Array CpInfo) (this : Nat) (attrs : Array Attribute := #[]) (ms : Array MethodInfo := #[]) (fl : Nat := 33) (sup : Nat := 0) (ifs : Array Nat := #[]) (fds : Array FieldInfo := #[]) : ClassFile where
  minorVersion := 0
  majorVersion := 65
  constantPool := pool
  accessFlags := fl
  thisClass := this
  superClass := sup
  interfaces := ifs
  fields := fds
  methods := ms
  attributes := attrs
def plain (name : String) (sup : Option ClassId) : Class where
  name := name
  kind := .ordinary
  loader := none
  accessFlags := 33
  super := sup
  interfaces := #[]
  cf := none
  fields := #[]
  methods := #[]
  instanceTypes := #[]
  staticTypes := #[]
  resolved := #[]
  callSites := []
  init := .initialized
  statics := none
  mirror := none

def pool0 : Array CpInfo := pool [(5, u "<init>"), (0, u "()V"), (1, .class_ 10), (1, u "java/lang/Object")] 113

def k0c0 : Code := { maxStack := 0, maxLocals := 1, code := object_method_1_code, exceptionTable := #[], attributes := #[] }
def k0m0 : Method := { name := "<init>", desc := "()V", sig := { parameters := [], returnType := none }, accessFlags := 1, code := some k0c0 }
/-- java/lang/Object -/
def k0 : Class := { plain "java/lang/Object" none with
  accessFlags := 33
  interfaces := #[]
  cf := some (fileOf pool0 8 #[] #[{ accessFlags := 1, nameIndex := 5, descriptorIndex := 6, attributes := #[] }] 33 0 #[] #[])
  fields := #[]
  methods := #[k0m0]
  instanceTypes := #[]
  staticTypes := #[]
  resolved := Array.replicate 124 none
  statics := none }

def pool1 : Array CpInfo := pool [(2, .class_ 4), (1, u "java/lang/Object"), (0, u "<init>"), (0, u "()V"), (0, .methodref 8 9), (0, .class_ 10), (0, .nameAndType 11 12), (0, u "com/example/tideline/tideline/model/SyncResult"), (0, u "fullCopy"), (0, u "(J)Lcom/example/tideline/tideline/model/SyncResult;"), (0, .methodref 8 14), (0, .nameAndType 15 16), (0, u "full"), (0, u "()Z"), (0, .methodref 8 18), (0, .nameAndType 19 20), (0, u "inserted"), (0, u "()J"), (0, .methodref 8 22), (0, .nameAndType 23 20), (0, u "updated"), (0, .methodref 8 25), (0, .nameAndType 26 20), (0, u "deleted"), (0, .class_ 28), (0, u "com/example/tideline/tideline/model/SyncResultFullCopyPinLaw"), (2, u "law"), (0, u "(J)Z")] 3

def k1m0 : Method := { name := "<init>", desc := "()V", sig := { parameters := [], returnType := none }, accessFlags := 1, code := none }
def k1c1 : Code := { maxStack := 4, maxLocals := 3, code := code, exceptionTable := #[], attributes := #[] }
def k1m1 : Method := { name := "law", desc := "(J)Z", sig := { parameters := [.long], returnType := some .boolean }, accessFlags := 9, code := some k1c1 }
/-- com/example/tideline/tideline/model/SyncResultFullCopyPinLaw -/
def k1 : Class := { plain "com/example/tideline/tideline/model/SyncResultFullCopyPinLaw" (some 0) with
  accessFlags := 49
  interfaces := #[]
  cf := some (fileOf pool1 27 #[] #[{ accessFlags := 1, nameIndex := 5, descriptorIndex := 6, attributes := #[] }, { accessFlags := 9, nameIndex := 31, descriptorIndex := 32, attributes := #[] }] 49 2 #[] #[])
  fields := #[]
  methods := #[k1m0, k1m1]
  instanceTypes := #[]
  staticTypes := #[]
  resolved := Array.replicate 36 none
  statics := none }

def pool2 : Array CpInfo := pool [(1, .methodref 2 3), (0, .class_ 4), (0, .nameAndType 5 6), (0, u "java/lang/Object"), (0, u "<init>"), (0, u "()V"), (0, .class_ 8), (0, u "java/lang/Record")] 13

def k2c0 : Code := { maxStack := 1, maxLocals := 1, code := jdk_30_method_1_code, exceptionTable := #[], attributes := #[] }
def k2m0 : Method := { name := "<init>", desc := "()V", sig := { parameters := [], returnType := none }, accessFlags := 4, code := some k2c0 }
/-- java/lang/Record -/
def k2 : Class := { plain "java/lang/Record" (some 0) with
  accessFlags := 1057
  interfaces := #[]
  cf := some (fileOf pool2 7 #[] #[{ accessFlags := 4, nameIndex := 5, descriptorIndex := 6, attributes := #[] }] 1057 2 #[] #[])
  fields := #[]
  methods := #[k2m0]
  instanceTypes := #[]
  staticTypes := #[]
  resolved := Array.replicate 22 none
  statics := none }

def pool3 : Array CpInfo := pool [(1, .methodref 2 3), (0, .class_ 4), (0, .nameAndType 5 6), (0, u "java/lang/Record"), (0, u "<init>"), (0, u "()V"), (0, .fieldref 8 9), (0, .class_ 10), (0, .nameAndType 11 12), (0, u "com/example/tideline/tideline/model/SyncResult"), (0, u "full"), (0, u "Z"), (0, .fieldref 8 14), (0, .nameAndType 15 16), (0, u "inserted"), (0, u "J"), (0, .fieldref 8 18), (0, .nameAndType 19 16), (0, u "updated"), (0, .fieldref 8 21), (0, .nameAndType 22 16), (0, u "deleted"), (0, .methodref 8 24), (0, .nameAndType 5 25), (0, u "(ZJJJ)V"), (15, u "fullCopy"), (0, u "(J)Lcom/example/tideline/tideline/model/SyncResult;"), (3, u "()Z"), (0, u "()J")] 23

def k3c0 : Code := { maxStack := 3, maxLocals := 8, code := prog_51_method_1_code, exceptionTable := #[], attributes := #[] }
def k3m0 : Method := { name := "<init>", desc := "(ZJJJ)V", sig := { parameters := [.boolean, .long, .long, .long], returnType := none }, accessFlags := 1, code := some k3c0 }
def k3c1 : Code := { maxStack := 9, maxLocals := 2, code := prog_51_method_2_code, exceptionTable := #[], attributes := #[] }
def k3m1 : Method := { name := "fullCopy", desc := "(J)Lcom/example/tideline/tideline/model/SyncResult;", sig := { parameters := [.long], returnType := some (.object "com/example/tideline/tideline/model/SyncResult") }, accessFlags := 9, code := some k3c1 }
def k3c2 : Code := { maxStack := 1, maxLocals := 1, code := prog_51_method_6_code, exceptionTable := #[], attributes := #[] }
def k3m2 : Method := { name := "full", desc := "()Z", sig := { parameters := [], returnType := some .boolean }, accessFlags := 1, code := some k3c2 }
def k3c3 : Code := { maxStack := 2, maxLocals := 1, code := prog_51_method_7_code, exceptionTable := #[], attributes := #[] }
def k3m3 : Method := { name := "inserted", desc := "()J", sig := { parameters := [], returnType := some .long }, accessFlags := 1, code := some k3c3 }
def k3c4 : Code := { maxStack := 2, maxLocals := 1, code := prog_51_method_8_code, exceptionTable := #[], attributes := #[] }
def k3m4 : Method := { name := "updated", desc := "()J", sig := { parameters := [], returnType := some .long }, accessFlags := 1, code := some k3c4 }
def k3c5 : Code := { maxStack := 2, maxLocals := 1, code := prog_51_method_9_code, exceptionTable := #[], attributes := #[] }
def k3m5 : Method := { name := "deleted", desc := "()J", sig := { parameters := [], returnType := some .long }, accessFlags := 1, code := some k3c5 }
/-- com/example/tideline/tideline/model/SyncResult -/
def k3 : Class := { plain "com/example/tideline/tideline/model/SyncResult" (some 2) with
  accessFlags := 49
  interfaces := #[]
  cf := some (fileOf pool3 8 #[] #[{ accessFlags := 1, nameIndex := 5, descriptorIndex := 25, attributes := #[] }, { accessFlags := 9, nameIndex := 41, descriptorIndex := 42, attributes := #[] }, { accessFlags := 1, nameIndex := 11, descriptorIndex := 46, attributes := #[] }, { accessFlags := 1, nameIndex := 15, descriptorIndex := 47, attributes := #[] }, { accessFlags := 1, nameIndex := 19, descriptorIndex := 47, attributes := #[] }, { accessFlags := 1, nameIndex := 22, descriptorIndex := 47, attributes := #[] }] 49 2 #[] #[{ accessFlags := 18, nameIndex := 11, descriptorIndex := 12, attributes := #[] }, { accessFlags := 18, nameIndex := 15, descriptorIndex := 16, attributes := #[] }, { accessFlags := 18, nameIndex := 19, descriptorIndex := 16, attributes := #[] }, { accessFlags := 18, nameIndex := 22, descriptorIndex := 16, attributes := #[] }])
  fields := #[{ name := "full", type := .boolean, accessFlags := 18, slot := 0, constantValue := 0 }, { name := "inserted", type := .long, accessFlags := 18, slot := 1, constantValue := 0 }, { name := "updated", type := .long, accessFlags := 18, slot := 2, constantValue := 0 }, { name := "deleted", type := .long, accessFlags := 18, slot := 3, constantValue := 0 }]
  methods := #[k3m0, k3m1, k3m2, k3m3, k3m4, k3m5]
  instanceTypes := #[.boolean, .long, .long, .long]
  staticTypes := #[]
  resolved := Array.replicate 71 none
  statics := none }

def pool4 : Array CpInfo := pool [(1, u "java/lang/Cloneable"), (0, .class_ 1), (0, u "java/lang/Object"), (0, .class_ 3)] 3

/-- java/lang/Cloneable -/
def k4 : Class := { plain "java/lang/Cloneable" (some 0) with
  accessFlags := 1537
  interfaces := #[]
  cf := some (fileOf pool4 2 #[] #[] 1537 4 #[] #[])
  fields := #[]
  methods := #[]
  instanceTypes := #[]
  staticTypes := #[]
  resolved := Array.replicate 8 none
  statics := none }

def pool5 : Array CpInfo := pool [(1, u "java/io/Serializable"), (0, .class_ 1), (0, u "java/lang/Object"), (0, .class_ 3)] 3

/-- java/io/Serializable -/
def k5 : Class := { plain "java/io/Serializable" (some 0) with
  accessFlags := 1537
  interfaces := #[]
  cf := some (fileOf pool5 2 #[] #[] 1537 4 #[] #[])
  fields := #[]
  methods := #[]
  instanceTypes := #[]
  staticTypes := #[]
  resolved := Array.replicate 8 none
  statics := none }

/-- the primitive byte -/
def k6 : Class := { plain "byte" none with kind := .primitive 'B', accessFlags := 0x411 }
/-- [B -/
def k7 : Class := { plain "[B" (some 0) with kind := .array 6 .byte, interfaces := #[4, 5], accessFlags := 1041 }

/-- the primitive int -/
def k8 : Class := { plain "int" none with kind := .primitive 'I', accessFlags := 0x411 }
/-- [I -/
def k9 : Class := { plain "[I" (some 0) with kind := .array 8 .int, interfaces := #[4, 5], accessFlags := 1041 }

def heap : Heap := #[]
def classes : Array Class := #[k0, k1, k2, k3, k4, k5, k6, k7, k8, k9]
def interned : List (Array UInt16 × Addr) := []
def slotsUsed : Nat := 0
def theMethod : MethodId := ⟨1, 1⟩
def args0 : Array Value := #[.long 5]
def aboutOver (below : List Frame) : State where
  vm := { classes := classes, interned := interned.toArray }
  heap := heap
  slotsUsed := slotsUsed
  threads := #[{ frames := .invoking theMethod args0 :: below }]
def below0 : List Frame := [.native { method := ⟨0, 0⟩, args := #[] }]
def about1 : State := aboutOver below0
def p0 : Program := .bare "" "" ""
def e0 : Env := launch0.env 0 0 0
theorem w_frames : about1.frames = Frame.invoking theMethod args0 :: below0 := rfl
set_option maxRecDepth 65536 in
theorem w_args : argsFit about1.vm theMethod args0 = true := by decide +kernel
set_option maxRecDepth 65536 in
theorem w_heap : heapFits about1 = true := by decide +kernel
set_option maxRecDepth 65536 in
theorem w_runnable : about1.curStatus? = some .runnable := by decide +kernel
set_option maxRecDepth 65536 in
theorem w_alone : about1.alone = true := by decide +kernel
set_option maxRecDepth 65536 in
theorem w_named : about1.methodNamed? x = some theMethod := by decide +kernel
set_option maxRecDepth 65536 in
theorem w_hears : about1.hears theMethod below0 = true := by decide +kernel
set_option maxRecDepth 65536 in
theorem w_ripe : about1.ripe theMethod args0 below0 = true := by decide +kernel
theorem w_running : about1.status = .running := rfl
set_option maxRecDepth 65536 in
theorem w_room : about1.hasRoom e0.platform room_1 = true :=
  launch0.hasRoom_least _ room_1 (by decide +kernel) (by decide +kernel) (by decide +kernel) (by decide +kernel) (by decide +kernel) (by decide +kernel)
theorem allAtoms_all (ts : List Jvm.Cond) (a : Array Jvm.Value) (st : Jvm.State) : (allAtoms ts).before a st = ts.all (fun c => c.before a st) := by
  induction ts with
  | nil => rfl
  | cons c t ih =>
    show (Jvm.Cond.and c (allAtoms t)).before a st = _
    rw [Jvm.Cond.before_and, ih, List.all_cons]
def words1 : List Jvm.Cond := Jvm.Cond.code x code maxLocals ret :: tables_1
/-- a 'code' word, met by the world's own term for the bytes: nothing is compared byte by byte -/
theorem code_word {y : MethodName} {bytes : ByteArray} {mx : Nat} {rt : Option FieldType} {a : Array Value} {s : State} {m : MethodId} {meth : Method} {c : Code} (h1 : s.methodNamed? y = some m) (h2 : s.vm.method? m = some meth) (h3 : meth.code = some c) (h4 : c.code = bytes)
    (h5 : (c.maxLocals == mx && c.exceptionTable.isEmpty && decide (c.maxStack ≤ mostOperands) && decide (meth.sig.returnType = rt) && !meth.locks && decide (parseMethodDescriptor y.desc = some meth.sig)) = true) : (Jvm.Cond.code y bytes mx rt).before a s = true := by
  simp only [Bool.and_eq_true, beq_iff_eq, Bool.not_eq_true', decide_eq_true_eq] at h5
  obtain ⟨⟨⟨⟨⟨g1, g2⟩, g3⟩, g4⟩, g5⟩, g6⟩ := h5
  simp [Cond.before, Cond.holds, Cond.value, h1, h2, h3, h4, g1, g2, g3, g4, g5, g6]
def isCode : Jvm.Cond → Bool
  | .code _ _ _ _ => true
  | _ => false
theorem all_split {L : List Jvm.Cond} {P : Jvm.Cond → Bool} (h1 : L.all (fun c => isCode c || P c) = true) (h2 : ∀ c ∈ L.filter isCode, P c = true) : L.all P = true := by
  refine List.all_eq_true.mpr fun c hc => ?_
  have h := List.all_eq_true.mp h1 c hc
  rcases Bool.eq_false_or_eq_true (isCode c) with hi | hi
  · exact h2 c (List.mem_filter.mpr ⟨hc, hi⟩)
  · simpa [hi] using h
set_option maxRecDepth 65536 in
theorem w_c0 : (Jvm.Cond.code x code maxLocals ret).before args0 about1 = true := code_word (m := ⟨1, 1⟩) (meth := k1m1) (c := k1c1) (by decide +kernel) rfl rfl rfl (by decide +kernel)
set_option maxRecDepth 65536 in
theorem w_c1 : (Jvm.Cond.code ({ cls := "com/example/tideline/tideline/model/SyncResult", name := "fullCopy", desc := "(J)Lcom/example/tideline/tideline/model/SyncResult;" } : Jvm.MethodName) prog_51_method_2_code (2 : Nat) (Option.some (Jvm.ClassFile.FieldType.object "com/example/tideline/tideline/model/SyncResult"))).before args0 about1 = true := code_word (m := ⟨3, 1⟩) (meth := k3m1) (c := k3c1) (by decide +kernel) rfl rfl rfl (by decide +kernel)
set_option maxRecDepth 65536 in
theorem w_c2 : (Jvm.Cond.code ({ cls := "com/example/tideline/tideline/model/SyncResult", name := "<init>", desc := "(ZJJJ)V" } : Jvm.MethodName) prog_51_method_1_code (8 : Nat) (Option.none : Option Jvm.ClassFile.FieldType)).before args0 about1 = true := code_word (m := ⟨3, 0⟩) (meth := k3m0) (c := k3c0) (by decide +kernel) rfl rfl rfl (by decide +kernel)
set_option maxRecDepth 65536 in
theorem w_c3 : (Jvm.Cond.code ({ cls := "java/lang/Record", name := "<init>", desc := "()V" } : Jvm.MethodName) jdk_30_method_1_code (1 : Nat) (Option.none : Option Jvm.ClassFile.FieldType)).before args0 about1 = true := code_word (m := ⟨2, 0⟩) (meth := k2m0) (c := k2c0) (by decide +kernel) rfl rfl rfl (by decide +kernel)
set_option maxRecDepth 65536 in
theorem w_c4 : (Jvm.Cond.code ({ cls := "java/lang/Object", name := "<init>", desc := "()V" } : Jvm.MethodName) object_method_1_code (1 : Nat) (Option.none : Option Jvm.ClassFile.FieldType)).before args0 about1 = true := code_word (m := ⟨0, 0⟩) (meth := k0m0) (c := k0c0) (by decide +kernel) rfl rfl rfl (by decide +kernel)
set_option maxRecDepth 65536 in
theorem w_c5 : (Jvm.Cond.code ({ cls := "com/example/tideline/tideline/model/SyncResult", name := "full", desc := "()Z" } : Jvm.MethodName) prog_51_method_6_code (1 : Nat) (Option.some Jvm.ClassFile.FieldType.boolean)).before args0 about1 = true := code_word (m := ⟨3, 2⟩) (meth := k3m2) (c := k3c2) (by decide +kernel) rfl rfl rfl (by decide +kernel)
set_option maxRecDepth 65536 in
theorem w_c6 : (Jvm.Cond.code ({ cls := "com/example/tideline/tideline/model/SyncResult", name := "inserted", desc := "()J" } : Jvm.MethodName) prog_51_method_7_code (1 : Nat) (Option.some Jvm.ClassFile.FieldType.long)).before args0 about1 = true := code_word (m := ⟨3, 3⟩) (meth := k3m3) (c := k3c3) (by decide +kernel) rfl rfl rfl (by decide +kernel)
set_option maxRecDepth 65536 in
theorem w_c7 : (Jvm.Cond.code ({ cls := "com/example/tideline/tideline/model/SyncResult", name := "updated", desc := "()J" } : Jvm.MethodName) prog_51_method_8_code (1 : Nat) (Option.some Jvm.ClassFile.FieldType.long)).before args0 about1 = true := code_word (m := ⟨3, 4⟩) (meth := k3m4) (c := k3c4) (by decide +kernel) rfl rfl rfl (by decide +kernel)
set_option maxRecDepth 65536 in
theorem w_c8 : (Jvm.Cond.code ({ cls := "com/example/tideline/tideline/model/SyncResult", name := "deleted", desc := "()J" } : Jvm.MethodName) prog_51_method_9_code (1 : Nat) (Option.some Jvm.ClassFile.FieldType.long)).before args0 about1 = true := code_word (m := ⟨3, 5⟩) (meth := k3m5) (c := k3c5) (by decide +kernel) rfl rfl rfl (by decide +kernel)
def codes1 : List Jvm.Cond := [Jvm.Cond.code x code maxLocals ret, Jvm.Cond.code ({ cls := "com/example/tideline/tideline/model/SyncResult", name := "fullCopy", desc := "(J)Lcom/example/tideline/tideline/model/SyncResult;" } : Jvm.MethodName) prog_51_method_2_code (2 : Nat) (Option.some (Jvm.ClassFile.FieldType.object "com/example/tideline/tideline/model/SyncResult")), Jvm.Cond.code ({ cls := "com/example/tideline/tideline/model/SyncResult", name := "<init>", desc := "(ZJJJ)V" } : Jvm.MethodName) prog_51_method_1_code (8 : Nat) (Option.none : Option Jvm.ClassFile.FieldType), Jvm.Cond.code ({ cls := "java/lang/Record", name := "<init>", desc := "()V" } : Jvm.MethodName) jdk_30_method_1_code (1 : Nat) (Option.none : Option Jvm.ClassFile.FieldType), Jvm.Cond.code ({ cls := "java/lang/Object", name := "<init>", desc := "()V" } : Jvm.MethodName) object_method_1_code (1 : Nat) (Option.none : Option Jvm.ClassFile.FieldType), Jvm.Cond.code ({ cls := "com/example/tideline/tideline/model/SyncResult", name := "full", desc := "()Z" } : Jvm.MethodName) prog_51_method_6_code (1 : Nat) (Option.some Jvm.ClassFile.FieldType.boolean), Jvm.Cond.code ({ cls := "com/example/tideline/tideline/model/SyncResult", name := "inserted", desc := "()J" } : Jvm.MethodName) prog_51_method_7_code (1 : Nat) (Option.some Jvm.ClassFile.FieldType.long), Jvm.Cond.code ({ cls := "com/example/tideline/tideline/model/SyncResult", name := "updated", desc := "()J" } : Jvm.MethodName) prog_51_method_8_code (1 : Nat) (Option.some Jvm.ClassFile.FieldType.long), Jvm.Cond.code ({ cls := "com/example/tideline/tideline/model/SyncResult", name := "deleted", desc := "()J" } : Jvm.MethodName) prog_51_method_9_code (1 : Nat) (Option.some Jvm.ClassFile.FieldType.long)]
set_option maxRecDepth 65536 in
theorem codes_eq : words1.filter isCode = codes1 := rfl
theorem w_codes : ∀ c ∈ words1.filter isCode, c.before args0 about1 = true := by
  rw [codes_eq]
  intro c hc
  simp only [codes1, List.mem_cons, List.not_mem_nil, or_false] at hc
  rcases hc with rfl | rfl | rfl | rfl | rfl | rfl | rfl | rfl | rfl
  · exact w_c0
  · exact w_c1
  · exact w_c2
  · exact w_c3
  · exact w_c4
  · exact w_c5
  · exact w_c6
  · exact w_c7
  · exact w_c8
set_option maxRecDepth 65536 in
theorem w_t1 : (words1.take 24).all (fun c => isCode c || c.before args0 about1) = true := by decide +kernel
set_option maxRecDepth 65536 in
theorem w_t2 : (words1.drop 24).all (fun c => isCode c || c.before args0 about1) = true := by decide +kernel
theorem w_tables : (allAtoms (Jvm.Cond.code x code maxLocals ret :: tables_1)).before args0 about1 = true := by
  rw [allAtoms_all]
  show words1.all (fun c => c.before args0 about1) = true
  refine all_split ?_ w_codes
  rw [← List.take_append_drop 24 words1, List.all_append, w_t1, w_t2]
  rfl
set_option maxRecDepth 65536 in
theorem w_case : (Jvm.Cond.and given_1 narrow_1).before args0 about1 = true := by decide +kernel
theorem w_applies : (headSpec (Jvm.Cond.code x code maxLocals ret :: tables_1) room_1).applies x e0.platform about1 = true :=
  (Spec.applies_iff w_frames).mpr ⟨w_running, w_runnable, w_alone, w_named, w_hears, w_ripe, w_room, w_tables⟩
theorem atStart : AtStart classFile x code maxLocals ret World_1 tables_1 room_1 Calls_1 rest_1 Pre_1 launch0 p0 e0 about1 theMethod args0 below0 :=
  ⟨lists_1, trivial, launch0.admits_env _ _ _, launch0.least_env, fairChoices_fair.cas, fairChoices_fair.clock, w_frames, w_args, w_heap, w_applies, trivial, trivial, w_case⟩
end start1
theorem witness_1 : WitnessClaimed_1 := ⟨start1.p0, start1.e0, start1.about1, start1.theMethod, start1.args0, start1.below0, start1.atStart⟩
end Jvm.Pilot.@@N@@
