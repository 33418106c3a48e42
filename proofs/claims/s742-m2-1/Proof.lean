import JvmDerived
import JvmDerived.Pilot.@@N@@Statement
import JvmDerived.Pilot.@@N@@Code
set_option linter.unusedVariables false
set_option linter.unusedSimpArgs false
namespace Jvm.RoadKit
open Sem ClassFile Op Lib Jvm.Stand Jvm.Free Jvm.LawKit
section New
variable {p : Program} {l : Launch} {e : Env} {R : Room} {s : State} {m : MethodId} {args : Array Value} {below : List Frame} {meth : Method} {c : Code} {T : State} {locs : List Loc} {cells slots : Nat}
theorem retI (X : Stand p l e R s m args below meth c T locs cells slots) (hx : p.tables.exec = Jvm.exec) {pc : Nat} {Ls : Array Slot} {z : Int32} {rest : List Value} (hret : meth.sig.returnType = some .int) (hd : decode c.code pc = .ok (.ireturn, 1)) {fs : List Frame}
    (hl : ∀ (f : JFrame) (acts : List Action), f.method = m → f.locked = none → f.entered = [] → (doReturn e (T.setTop f) acts (some (.int z))).1 = T.setFrames fs) : Steps p.tables e below (T.setTop (mkF m pc Ls (.int z :: rest))) (T.setFrames fs) := by
  have hm' : T.vm.method? m = some meth := X.method'
  have hn : narrow .int (.int z) = .int z := rfl
  show Steps p.tables e below (T.setTop { method := m, pc := pc, locals := Ls, stack := _ :: rest, locked := none }) _
  jvm_step X.here [X.here.top, hx, hd, hm', hret, hn]
  first | (intro acts; rw [hl _ acts rfl rfl rfl]) | rw [hl _ _ rfl rfl rfl]
  exact Steps.refl _
end New
end Jvm.RoadKit
namespace Jvm.Pilot.@@N@@
open Jvm Jvm.ClassFile Sem Op Lib Jvm.Free Jvm.Stand Jvm.LawKit Jvm.RoadKit Bundle Jvm.Pilot.@@N@@.Jvm.D
theorem own_rng (a : Int32) : (a &&& 3) = 0 ∨ (a &&& 3) = 1 ∨ (a &&& 3) = 2 ∨ (a &&& 3) = 3 := by
  have h := c_mask a 3 2 (by decide) (by decide)
  simp only [← Int32.toInt_inj, show (0 : Int32).toInt = 0 from rfl, show (1 : Int32).toInt = 1 from rfl, show (2 : Int32).toInt = 2 from rfl, show (3 : Int32).toInt = 3 from rfl]
  omega
theorem own_nb (a : Int32) : nar .byte (a.toInt8.toInt32) = a.toInt8.toInt32 := by
  show a.toInt8.toInt32.toInt8.toInt32 = _
  rw [Int8.toInt8_toInt32]
theorem d2_0 : decode prog_12_method_1_code 0 = .ok (.aload_n 0, 1) := by decide +kernel
theorem d2_1 : decode prog_12_method_1_code 1 = .ok (.invokespecial 1, 3) := by decide +kernel
theorem d2_4 : decode prog_12_method_1_code 4 = .ok (.aload_n 0, 1) := by decide +kernel
theorem d2_5 : decode prog_12_method_1_code 5 = .ok (.aload_n 1, 1) := by decide +kernel
theorem d2_6 : decode prog_12_method_1_code 6 = .ok (.putfield 7, 3) := by decide +kernel
theorem d2_9 : decode prog_12_method_1_code 9 = .ok (.aload_n 0, 1) := by decide +kernel
theorem d2_10 : decode prog_12_method_1_code 10 = .ok (.aload_n 2, 1) := by decide +kernel
theorem d2_11 : decode prog_12_method_1_code 11 = .ok (.putfield 13, 3) := by decide +kernel
theorem d2_14 : decode prog_12_method_1_code 14 = .ok (.return_, 1) := by decide +kernel
theorem own_pn9 : plainName "com/example/webhook_acknowledger/webhookacknowledger/receive/Verdict" = true := by first | (simp [plainName, overriddenIn]; done) | decide +kernel
theorem ef_2 (m : MethodId) (x0 : Addr) (x1 : Addr) (x2 : Addr) : entryFrame m #[(.ref x0), (.ref x1), (.ref x2)] 3 = mkF m 0 #[.val (.ref x0), .val (.ref x1), .val (.ref x2)] [] := by first | (simp [entryFrame, mkF, argsToLocals, Value.category]; done) | rfl
def Q2 (Z : State) (aa : Addr) (ao : Addr) (ai : Addr) (h0 : Heap) (n0 : Nat) (v : Option Value) (h : Heap) (L : List Loc) : Prop := v = none ∧ Fr n0 L ∧ Keep h0 h [aa] ∧ Exa Z h aa "com/example/webhook_acknowledger/webhookacknowledger/receive/Verdict" ∧ Fld Z h aa "com/example/webhook_acknowledger/webhookacknowledger/receive/Verdict" "outcome" "Lcom/example/webhook_acknowledger/webhookacknowledger/receive/Verdict$Outcome;" (.ref ao) ∧ Fld Z h aa "com/example/webhook_acknowledger/webhookacknowledger/receive/Verdict" "id" "[B" (.ref ai)
set_option maxRecDepth 65536 in
set_option maxHeartbeats 40000000 in
theorem rm2 (l : Launch) (Z : State) (a0 : Array Value) (hw : ∀ d ∈ tables_1, d.before a0 Z = true) (ws : List Jvm.Cond) (aa : Addr) (ao : Addr) (ai : Addr) (h0 : Heap) (n0 : Nat) (Z0 : n0 ≤ h0.size) (Fo : Fld Z h0 aa "com/example/webhook_acknowledger/webhookacknowledger/receive/Verdict" "outcome" "Lcom/example/webhook_acknowledger/webhookacknowledger/receive/Verdict$Outcome;" .null) (Fi : Fld Z h0 aa "com/example/webhook_acknowledger/webhookacknowledger/receive/Verdict" "id" "[B" .null) (Ea : Exa Z h0 aa "com/example/webhook_acknowledger/webhookacknowledger/receive/Verdict") (g_aa : n0 ≤ aa) :
    MetFree l (⟨"com/example/webhook_acknowledger/webhookacknowledger/receive/Verdict", "<init>", "(Lcom/example/webhook_acknowledger/webhookacknowledger/receive/Verdict$Outcome;[B)V"⟩ : MethodName) (head1 (Jvm.Cond.code (⟨"com/example/webhook_acknowledger/webhookacknowledger/receive/Verdict", "<init>", "(Lcom/example/webhook_acknowledger/webhookacknowledger/receive/Verdict$Outcome;[B)V"⟩ : MethodName) prog_12_method_1_code 3 none :: ws) ({ frames := 1, cells := 0, slots := 0, locals := 12 } : Room)) (fun a U => a = #[(.ref aa), (.ref ao), (.ref ai)] ∧ Z.Warmed39 U.vm ∧ U.heap = h0) (fun _ _ _ _ _ => True) (fun _ U o U' => ∃ v L, o = .returned v ∧ Q2 Z aa ao ai h0 n0 v U'.heap L ∧ FrameEnd U o U' L ({ frames := 1, cells := 0, slots := 0, locals := 12 } : Room).cells ({ frames := 1, cells := 0, slots := 0, locals := 12 } : Room).slots) := by
  refine MetFree.of_bodySF (plainFor_of_name own_pn9) hisR ?_
  intro p e s m args below meth c s₁ Bd hml0 hP hK
  obtain ⟨rfl, hZ, hh⟩ := hP
  have hx := Bd.exec
  have hby := Bd.bytes
  have hml : c.maxLocals = 3 := hml0
  have hown : s.vm.findClass "com/example/webhook_acknowledger/webhookacknowledger/receive/Verdict" = some m.cls := findClass_of_methodNamed Bd.named
  have hnm := (name_of_methodNamed Bd.named Bd.method).1
  have X0 : Stand p l e ({ frames := 1, cells := 0, slots := 0, locals := 12 } : Room) s m #[(.ref aa), (.ref ao), (.ref ai)] below meth c s₁ [] 0 0 := Stand.of_body Bd
  have e0 : s₁.heap = h0 := by rw [← hh, Bd.state]; rfl
  have N0 := Fr.nil n0
  have pre0 : ∀ t, Steps p.tables e below (s₁.setTop (mkF m 0 #[.val (.ref aa), .val (.ref ao), .val (.ref ai)] [])) t → Steps p.tables e below (s₁.setTop (entryFrame m #[(.ref aa), (.ref ao), (.ref ai)] 3)) t := fun t k => castTop (ef_2 m aa ao ai) k
  generalize s₁.setTop (entryFrame m #[(.ref aa), (.ref ao), (.ref ai)] 3) = G0 at pre0 ⊢
  obtain ⟨T1, X1, e1, st1⟩ := initO X0 hx hZ hown (hw _ (List.mem_of_getElem? (i := 13) rfl)) (hw _ (List.mem_of_getElem? (i := 14) rfl)) (hw _ (List.mem_of_getElem? (i := 15) rfl)) e0 (g := (mkF m 1 #[.val (.ref aa), .val (.ref ao), .val (.ref ai)] [(.ref aa)])) rfl (by rw [hml]; rfl) rfl (hb hby d2_1) (by decide) (W := 0) (by show 2 * 0 + _ ≤ _; exact Nat.le_of_eq rfl) (by decide)
  obtain ⟨T2, h2, X2, e2, W2, st2⟩ := putF X1 hx hZ hown (host := "") (Or.inl (hw _ (List.mem_of_getElem? (i := 16) rfl))) Via.refl e1 Fo Ea (Or.inr ⟨(hw _ (List.mem_of_getElem? (i := 17) rfl)), rfl, hnm⟩) (hw _ (List.mem_of_getElem? (i := 6) rfl)) (ty := (.object "com/example/webhook_acknowledger/webhookacknowledger/receive/Verdict$Outcome")) (by decide) rfl rfl (g := (mkF m 6 #[.val (.ref aa), .val (.ref ao), .val (.ref ai)] [(.ref ao), (.ref aa)])) rfl rfl (hb hby d2_6)
  have N2 := Fr.snoc X2 N0 g_aa
  have Zs2 : n0 ≤ h2.size := Nat.le_trans Z0 (Keep.of_wr W2).1
  have KK2 : Keep h0 h2 [aa] := (Keep.refl h0 _).wr W2 (Or.inl (List.mem_of_getElem? (i := 0) rfl))
  have f3 := Ea.wr W2
  have f4 := Fo.same W2
  have f5 := Fi.other W2 (Or.inr (slot_ne (Or.inr (hw _ (List.mem_of_getElem? (i := 19) rfl))) (Or.inr (hw _ (List.mem_of_getElem? (i := 17) rfl))) (by decide) (t := (.array .byte)) (t' := (.object "com/example/webhook_acknowledger/webhookacknowledger/receive/Verdict$Outcome")) (by decide) (by decide)))
  obtain ⟨T6, h6, X6, e6, W6, st6⟩ := putF X2 hx hZ hown (host := "") (Or.inl (hw _ (List.mem_of_getElem? (i := 18) rfl))) Via.refl e2 f5 f3 (Or.inr ⟨(hw _ (List.mem_of_getElem? (i := 19) rfl)), rfl, hnm⟩) (hw _ (List.mem_of_getElem? (i := 6) rfl)) (ty := (.array .byte)) (by decide) rfl rfl (g := (mkF m 11 #[.val (.ref aa), .val (.ref ao), .val (.ref ai)] [(.ref ai), (.ref aa)])) rfl rfl (hb hby d2_11)
  have N6 := Fr.snoc X6 N2 g_aa
  have Zs6 : n0 ≤ h6.size := Nat.le_trans Zs2 (Keep.of_wr W6).1
  have KK6 : Keep h0 h6 [aa] := KK2.wr W6 (Or.inl (List.mem_of_getElem? (i := 0) rfl))
  have f7 := f3.wr W6
  have f8 := f4.other W6 (Or.inr (slot_ne (Or.inr (hw _ (List.mem_of_getElem? (i := 17) rfl))) (Or.inr (hw _ (List.mem_of_getElem? (i := 19) rfl))) (by decide) (t := (.object "com/example/webhook_acknowledger/webhookacknowledger/receive/Verdict$Outcome")) (t' := (.array .byte)) (by decide) (by decide)))
  have f9 := f5.same W6
  obtain ⟨fs, hr, hrun, hended, hW, hsame⟩ := X6.leave (v := none) (fun _ => rfl)
  refine ⟨_, _, pre0 _ ?_, hrun, hended, _, _, rfl, ?_, ⟨_, rfl⟩, hW, hsame.mono (by decide) (by decide)⟩
  · show Steps p.tables e below (s₁.setTop (mkF m 0 #[.val (.ref aa), .val (.ref ao), .val (.ref ai)] [])) _
    refine XS.aloadN X0.here hx rfl (hb hby d2_0) rfl rfl ?_
    show Steps p.tables e below (s₁.setTop (mkF m 1 #[.val (.ref aa), .val (.ref ao), .val (.ref ai)] [(.ref aa)])) _
    refine st1 _ ?_
    show Steps p.tables e below (T1.setTop (mkF m 4 #[.val (.ref aa), .val (.ref ao), .val (.ref ai)] [])) _
    refine XS.aloadN X1.here hx rfl (hb hby d2_4) rfl rfl ?_
    show Steps p.tables e below (T1.setTop (mkF m 5 #[.val (.ref aa), .val (.ref ao), .val (.ref ai)] [(.ref aa)])) _
    refine XS.aloadN X1.here hx rfl (hb hby d2_5) rfl rfl ?_
    show Steps p.tables e below (T1.setTop (mkF m 6 #[.val (.ref aa), .val (.ref ao), .val (.ref ai)] [(.ref ao), (.ref aa)])) _
    refine st2 _ ?_
    show Steps p.tables e below (T2.setTop (mkF m 9 #[.val (.ref aa), .val (.ref ao), .val (.ref ai)] [])) _
    refine XS.aloadN X2.here hx rfl (hb hby d2_9) rfl rfl ?_
    show Steps p.tables e below (T2.setTop (mkF m 10 #[.val (.ref aa), .val (.ref ao), .val (.ref ai)] [(.ref aa)])) _
    refine XS.aloadN X2.here hx rfl (hb hby d2_10) rfl rfl ?_
    show Steps p.tables e below (T2.setTop (mkF m 11 #[.val (.ref aa), .val (.ref ao), .val (.ref ai)] [(.ref ai), (.ref aa)])) _
    refine st6 _ ?_
    show Steps p.tables e below (T6.setTop (mkF m 14 #[.val (.ref aa), .val (.ref ao), .val (.ref ai)] [])) _
    exact X6.returnOut hx Bd.returns (hb hby d2_14) hr
  · show Q2 Z aa ao ai h0 n0 _ T6.heap _
    rw [e6]
    exact ⟨rfl, N6, KK6, f7, f8, f9⟩
theorem d1_0 : decode prog_12_method_2_code 0 = .ok (.new 8, 3) := by decide +kernel
theorem d1_3 : decode prog_12_method_2_code 3 = .ok (.dup, 1) := by decide +kernel
theorem d1_4 : decode prog_12_method_2_code 4 = .ok (.getstatic 17, 3) := by decide +kernel
theorem d1_7 : decode prog_12_method_2_code 7 = .ok (.aload_n 0, 1) := by decide +kernel
theorem d1_8 : decode prog_12_method_2_code 8 = .ok (.invokespecial 22, 3) := by decide +kernel
theorem own_pd15 : parseMethodDescriptor "(Lcom/example/webhook_acknowledger/webhookacknowledger/receive/Verdict$Outcome;[B)V" = some ⟨[(.object "com/example/webhook_acknowledger/webhookacknowledger/receive/Verdict$Outcome"), (.array .byte)], none⟩ := by decide +kernel
theorem d1_11 : decode prog_12_method_2_code 11 = .ok (.areturn, 1) := by decide +kernel
theorem ef_1 (m : MethodId) (x0 : Addr) : entryFrame m #[(.ref x0)] 1 = mkF m 0 #[.val (.ref x0)] [] := by first | (simp [entryFrame, mkF, argsToLocals, Value.category]; done) | rfl
def Q1 (Z : State) (ai : Addr) (aK : Addr) (h0 : Heap) (n0 : Nat) (v : Option Value) (h : Heap) (L : List Loc) : Prop := ∃ (ro : Addr), v = some (.ref ro) ∧ Fr n0 L ∧ Keep h0 h [] ∧ Exa Z h ro "com/example/webhook_acknowledger/webhookacknowledger/receive/Verdict" ∧ Fld Z h ro "com/example/webhook_acknowledger/webhookacknowledger/receive/Verdict" "outcome" "Lcom/example/webhook_acknowledger/webhookacknowledger/receive/Verdict$Outcome;" (.ref aK) ∧ Fld Z h ro "com/example/webhook_acknowledger/webhookacknowledger/receive/Verdict" "id" "[B" (.ref ai) ∧ n0 ≤ ro ∧ h0.size ≤ ro
set_option maxRecDepth 65536 in
set_option maxHeartbeats 40000000 in
theorem rm1 (l : Launch) (Z : State) (a0 : Array Value) (hw : ∀ d ∈ tables_1, d.before a0 Z = true) (ws : List Jvm.Cond) (ai : Addr) (aK : Addr) (h0 : Heap) (n0 : Nat) (Z0 : n0 ≤ h0.size) (S_KEEP : Sta Z h0 "com/example/webhook_acknowledger/webhookacknowledger/receive/Verdict$Outcome" "KEEP" "Lcom/example/webhook_acknowledger/webhookacknowledger/receive/Verdict$Outcome;" (.ref aK)) :
    MetFree l (⟨"com/example/webhook_acknowledger/webhookacknowledger/receive/Verdict", "keepOnce", "([B)Lcom/example/webhook_acknowledger/webhookacknowledger/receive/Verdict;"⟩ : MethodName) (head1 (Jvm.Cond.code (⟨"com/example/webhook_acknowledger/webhookacknowledger/receive/Verdict", "keepOnce", "([B)Lcom/example/webhook_acknowledger/webhookacknowledger/receive/Verdict;"⟩ : MethodName) prog_12_method_2_code 1 (some (.object "com/example/webhook_acknowledger/webhookacknowledger/receive/Verdict")) :: ws) ({ frames := 2, cells := 1, slots := 2, locals := 27 } : Room)) (fun a U => a = #[(.ref ai)] ∧ Z.Warmed39 U.vm ∧ U.heap = h0) (fun _ _ _ _ _ => True) (fun _ U o U' => ∃ v L, o = .returned v ∧ Q1 Z ai aK h0 n0 v U'.heap L ∧ FrameEnd U o U' L ({ frames := 2, cells := 1, slots := 2, locals := 27 } : Room).cells ({ frames := 2, cells := 1, slots := 2, locals := 27 } : Room).slots) := by
  refine MetFree.of_bodySF (plainFor_of_name own_pn9) hisR ?_
  intro p e s m args below meth c s₁ Bd hml0 hP hK
  obtain ⟨rfl, hZ, hh⟩ := hP
  have hx := Bd.exec
  have hby := Bd.bytes
  have hml : c.maxLocals = 1 := hml0
  have hown : s.vm.findClass "com/example/webhook_acknowledger/webhookacknowledger/receive/Verdict" = some m.cls := findClass_of_methodNamed Bd.named
  have hnm := (name_of_methodNamed Bd.named Bd.method).1
  have X0 : Stand p l e ({ frames := 2, cells := 1, slots := 2, locals := 27 } : Room) s m #[(.ref ai)] below meth c s₁ [] 0 0 := Stand.of_body Bd
  have e0 : s₁.heap = h0 := by rw [← hh, Bd.state]; rfl
  have N0 := Fr.nil n0
  have pre0 : ∀ t, Steps p.tables e below (s₁.setTop (mkF m 0 #[.val (.ref ai)] [])) t → Steps p.tables e below (s₁.setTop (entryFrame m #[(.ref ai)] 1)) t := fun t k => castTop (ef_1 m ai) k
  generalize s₁.setTop (entryFrame m #[(.ref ai)] 1) = G0 at pre0 ⊢
  obtain ⟨T10, h10, X10, e10, E10, A10, D10, -, st10⟩ := newO X0 hx hZ hown (hw _ (List.mem_of_getElem? (i := 5) rfl)) (hw _ (List.mem_of_getElem? (i := 6) rfl)) (hw _ (List.mem_of_getElem? (i := 3) rfl)) e0 (g := (mkF m 0 #[.val (.ref ai)] [])) rfl (hb hby d1_0) (by decide) (by decide)
  obtain ⟨b10, g10⟩ : ∃ z, z = h0.size := ⟨_, rfl⟩
  rw [← g10] at A10 D10 st10
  have g_b10 : n0 ≤ b10 := Nat.le_trans Z0 (Nat.le_of_eq g10.symm)
  have sz_b10 : h0.size ≤ b10 := Nat.le_of_eq g10.symm
  have Zs10 : n0 ≤ h10.size := Nat.le_trans Z0 E10.1
  have KK10 : Keep h0 h10 [] := (Keep.refl h0 _).ext E10
  have f11 := S_KEEP.ext E10
  have f12 : Fld Z h10 b10 "com/example/webhook_acknowledger/webhookacknowledger/receive/Verdict" "outcome" "Lcom/example/webhook_acknowledger/webhookacknowledger/receive/Verdict$Outcome;" .null := D10 (Or.inr (hw _ (List.mem_of_getElem? (i := 17) rfl))) (ty := (.object "com/example/webhook_acknowledger/webhookacknowledger/receive/Verdict$Outcome")) (by decide)
  have f13 : Fld Z h10 b10 "com/example/webhook_acknowledger/webhookacknowledger/receive/Verdict" "id" "[B" .null := D10 (Or.inr (hw _ (List.mem_of_getElem? (i := 19) rfl))) (ty := (.array .byte)) (by decide)
  obtain ⟨T14, X14, e14, st14⟩ := getS2 X10 hx hZ hown (host := "") (Or.inl (hw _ (List.mem_of_getElem? (i := 7) rfl))) Via.refl e10 f11 (g := (mkF m 4 #[.val (.ref ai)] [(.ref b10), (.ref b10)])) rfl (hb hby d1_4)
  obtain ⟨_, _, ⟨T15, L15, k15, n15⟩, -, X15, ⟨Lc15, hQ15, l15, y15, z15⟩, st15⟩ := X14.specialBack hx (y := (⟨"com/example/webhook_acknowledger/webhookacknowledger/receive/Verdict", "<init>", "(Lcom/example/webhook_acknowledger/webhookacknowledger/receive/Verdict$Outcome;[B)V"⟩ : MethodName)) rfl hown (mvT hZ (hw _ (List.mem_of_getElem? (i := 10) rfl))) (mvT hZ (hw _ (List.mem_of_getElem? (i := 11) rfl))) (mvT hZ (hw _ (List.mem_of_getElem? (i := 12) rfl))) (by decide) (backOf (W := 1) (rm2 l Z a0 hw [] b10 aK ai  h10 n0 Zs10 f12 f13 A10 g_b10) hZ (hw _ (List.mem_of_getElem? (i := 12) rfl)) (hw _ (List.mem_of_getElem? (i := 3) rfl)) (by decide) (by decide)) (g := (mkF m 8 #[.val (.ref ai)] [(.ref ai), (.ref aK), (.ref b10), (.ref b10)])) rfl (by rw [hml]; rfl) (Steps.refl _) (a := b10) (argsL := [(.ref aK), (.ref ai)]) (rest := [(.ref b10)]) (lenOf own_pd15 rfl) rfl (by show 2 * 0 + _ ≤ _; exact Nat.le_of_eq rfl) (hb hby d1_8) (fun _ _ => ⟨rfl, e14, (by decide : 1 + 0 ≤ _), (by decide : 2 + 0 ≤ _)⟩)
  dsimp only [Pt.U, Pt.locs, Pt.cells, Pt.slots] at X15 l15 y15 z15 st15 hQ15
  subst l15 y15 z15
  obtain ⟨rfl, Nq15, K15, p15_0, p15_1, p15_2⟩ := hQ15
  have N15 := Fr.app N0 Nq15
  have Zs15 : n0 ≤ T15.heap.size := Nat.le_trans Zs10 K15.1
  have KK15 : Keep h0 T15.heap [] := KK10.trans K15 (allS (Or.inr sz_b10) all0)
  have f16 := A10.keep K15
  obtain ⟨fs, hr, hrun, hended, hW, hsame⟩ := X15.leave (v := some (.ref b10)) (fun h => by rw [Bd.returns] at h; cases h)
  refine ⟨_, _, pre0 _ ?_, hrun, hended, _, _, rfl, ?_, ⟨_, rfl⟩, hW, hsame.mono (by decide) (by decide)⟩
  · show Steps p.tables e below (s₁.setTop (mkF m 0 #[.val (.ref ai)] [])) _
    refine st10 _ ?_
    show Steps p.tables e below (T10.setTop (mkF m 3 #[.val (.ref ai)] [(.ref b10)])) _
    refine XS.dup X10.here hx rfl (hb hby d1_3) rfl rfl ?_
    show Steps p.tables e below (T10.setTop (mkF m 4 #[.val (.ref ai)] [(.ref b10), (.ref b10)])) _
    refine st14 _ ?_
    show Steps p.tables e below (T14.setTop (mkF m 7 #[.val (.ref ai)] [(.ref aK), (.ref b10), (.ref b10)])) _
    refine XS.aloadN X14.here hx rfl (hb hby d1_7) rfl rfl ?_
    show Steps p.tables e below (T14.setTop (mkF m 8 #[.val (.ref ai)] [(.ref ai), (.ref aK), (.ref b10), (.ref b10)])) _
    refine st15.trans ?_
    show Steps p.tables e below (T15.setTop (mkF m 11 #[.val (.ref ai)] [(.ref b10)])) _
    jvm_step X15.here [X15.here.top, hx, (hb hby d1_11), X15.method', Bd.returns, Value.isRef, FieldType.isReference]
    first | (intro acts; rw [hr _ acts rfl rfl rfl]) | rw [hr _ _ rfl rfl rfl]
    exact Steps.refl _
  · show Q1 Z ai aK h0 n0 _ T15.heap _
    exact ⟨b10, rfl, N15, KK15, p15_0, p15_1, p15_2, g_b10, sz_b10⟩
theorem d4_0 : decode prog_12_method_3_code 0 = .ok (.aload_n 0, 1) := by decide +kernel
theorem d4_1 : decode prog_12_method_3_code 1 = .ok (.getfield 7, 3) := by decide +kernel
theorem d4_4 : decode prog_12_method_3_code 4 = .ok (.areturn, 1) := by decide +kernel
theorem ef_4 (m : MethodId) (x0 : Addr) : entryFrame m #[(.ref x0)] 1 = mkF m 0 #[.val (.ref x0)] [] := by first | (simp [entryFrame, mkF, argsToLocals, Value.category]; done) | rfl
def Q4 (Z : State) (aa : Addr) (vo : Addr) (h0 : Heap) (n0 : Nat) (v : Option Value) (h : Heap) (L : List Loc) : Prop := v = some (.ref vo) ∧ Fr n0 L ∧ h = h0
set_option maxRecDepth 65536 in
set_option maxHeartbeats 40000000 in
theorem rm4 (l : Launch) (Z : State) (a0 : Array Value) (hw : ∀ d ∈ tables_1, d.before a0 Z = true) (ws : List Jvm.Cond) (aa : Addr) (vo : Addr) (h0 : Heap) (n0 : Nat) (Z0 : n0 ≤ h0.size) (Fo : Fld Z h0 aa "com/example/webhook_acknowledger/webhookacknowledger/receive/Verdict" "outcome" "Lcom/example/webhook_acknowledger/webhookacknowledger/receive/Verdict$Outcome;" (.ref vo)) :
    MetFree l (⟨"com/example/webhook_acknowledger/webhookacknowledger/receive/Verdict", "outcome", "()Lcom/example/webhook_acknowledger/webhookacknowledger/receive/Verdict$Outcome;"⟩ : MethodName) (head1 (Jvm.Cond.code (⟨"com/example/webhook_acknowledger/webhookacknowledger/receive/Verdict", "outcome", "()Lcom/example/webhook_acknowledger/webhookacknowledger/receive/Verdict$Outcome;"⟩ : MethodName) prog_12_method_3_code 1 (some (.object "com/example/webhook_acknowledger/webhookacknowledger/receive/Verdict$Outcome")) :: ws) ({ frames := 0, cells := 0, slots := 0, locals := 0 } : Room)) (fun a U => a = #[(.ref aa)] ∧ Z.Warmed39 U.vm ∧ U.heap = h0) (fun _ _ _ _ _ => True) (fun _ U o U' => ∃ v L, o = .returned v ∧ Q4 Z aa vo h0 n0 v U'.heap L ∧ FrameEnd U o U' L ({ frames := 0, cells := 0, slots := 0, locals := 0 } : Room).cells ({ frames := 0, cells := 0, slots := 0, locals := 0 } : Room).slots) := by
  refine MetFree.of_bodySF (plainFor_of_name own_pn9) hisR ?_
  intro p e s m args below meth c s₁ Bd hml0 hP hK
  obtain ⟨rfl, hZ, hh⟩ := hP
  have hx := Bd.exec
  have hby := Bd.bytes
  have hml : c.maxLocals = 1 := hml0
  have hown : s.vm.findClass "com/example/webhook_acknowledger/webhookacknowledger/receive/Verdict" = some m.cls := findClass_of_methodNamed Bd.named
  have hnm := (name_of_methodNamed Bd.named Bd.method).1
  have X0 : Stand p l e ({ frames := 0, cells := 0, slots := 0, locals := 0 } : Room) s m #[(.ref aa)] below meth c s₁ [] 0 0 := Stand.of_body Bd
  have e0 : s₁.heap = h0 := by rw [← hh, Bd.state]; rfl
  have N0 := Fr.nil n0
  have pre0 : ∀ t, Steps p.tables e below (s₁.setTop (mkF m 0 #[.val (.ref aa)] [])) t → Steps p.tables e below (s₁.setTop (entryFrame m #[(.ref aa)] 1)) t := fun t k => castTop (ef_4 m aa) k
  generalize s₁.setTop (entryFrame m #[(.ref aa)] 1) = G0 at pre0 ⊢
  obtain ⟨T17, X17, e17, st17⟩ := getF X0 hx hZ hown (host := "") (Or.inl (hw _ (List.mem_of_getElem? (i := 16) rfl))) Via.refl e0 Fo (g := (mkF m 1 #[.val (.ref aa)] [(.ref aa)])) rfl rfl (hb hby d4_1)
  obtain ⟨fs, hr, hrun, hended, hW, hsame⟩ := X17.leave (v := some (.ref vo)) (fun h => by rw [Bd.returns] at h; cases h)
  refine ⟨_, _, pre0 _ ?_, hrun, hended, _, _, rfl, ?_, ⟨_, rfl⟩, hW, hsame.mono (by decide) (by decide)⟩
  · show Steps p.tables e below (s₁.setTop (mkF m 0 #[.val (.ref aa)] [])) _
    refine XS.aloadN X0.here hx rfl (hb hby d4_0) rfl rfl ?_
    show Steps p.tables e below (s₁.setTop (mkF m 1 #[.val (.ref aa)] [(.ref aa)])) _
    refine st17 _ ?_
    show Steps p.tables e below (T17.setTop (mkF m 4 #[.val (.ref aa)] [(.ref vo)])) _
    jvm_step X17.here [X17.here.top, hx, (hb hby d4_4), X17.method', Bd.returns, Value.isRef, FieldType.isReference]
    first | (intro acts; rw [hr _ acts rfl rfl rfl]) | rw [hr _ _ rfl rfl rfl]
    exact Steps.refl _
  · show Q4 Z aa vo h0 n0 _ T17.heap _
    rw [e17]
    exact ⟨rfl, N0, rfl⟩
theorem d5_0 : decode prog_12_method_4_code 0 = .ok (.aload_n 0, 1) := by decide +kernel
theorem d5_1 : decode prog_12_method_4_code 1 = .ok (.getfield 13, 3) := by decide +kernel
theorem d5_4 : decode prog_12_method_4_code 4 = .ok (.areturn, 1) := by decide +kernel
theorem ef_5 (m : MethodId) (x0 : Addr) : entryFrame m #[(.ref x0)] 1 = mkF m 0 #[.val (.ref x0)] [] := by first | (simp [entryFrame, mkF, argsToLocals, Value.category]; done) | rfl
def Q5 (Z : State) (aa : Addr) (vi : Addr) (h0 : Heap) (n0 : Nat) (v : Option Value) (h : Heap) (L : List Loc) : Prop := v = some (.ref vi) ∧ Fr n0 L ∧ h = h0
set_option maxRecDepth 65536 in
set_option maxHeartbeats 40000000 in
theorem rm5 (l : Launch) (Z : State) (a0 : Array Value) (hw : ∀ d ∈ tables_1, d.before a0 Z = true) (ws : List Jvm.Cond) (aa : Addr) (vi : Addr) (h0 : Heap) (n0 : Nat) (Z0 : n0 ≤ h0.size) (Fi : Fld Z h0 aa "com/example/webhook_acknowledger/webhookacknowledger/receive/Verdict" "id" "[B" (.ref vi)) :
    MetFree l (⟨"com/example/webhook_acknowledger/webhookacknowledger/receive/Verdict", "id", "()[B"⟩ : MethodName) (head1 (Jvm.Cond.code (⟨"com/example/webhook_acknowledger/webhookacknowledger/receive/Verdict", "id", "()[B"⟩ : MethodName) prog_12_method_4_code 1 (some (.array .byte)) :: ws) ({ frames := 0, cells := 0, slots := 0, locals := 0 } : Room)) (fun a U => a = #[(.ref aa)] ∧ Z.Warmed39 U.vm ∧ U.heap = h0) (fun _ _ _ _ _ => True) (fun _ U o U' => ∃ v L, o = .returned v ∧ Q5 Z aa vi h0 n0 v U'.heap L ∧ FrameEnd U o U' L ({ frames := 0, cells := 0, slots := 0, locals := 0 } : Room).cells ({ frames := 0, cells := 0, slots := 0, locals := 0 } : Room).slots) := by
  refine MetFree.of_bodySF (plainFor_of_name own_pn9) hisR ?_
  intro p e s m args below meth c s₁ Bd hml0 hP hK
  obtain ⟨rfl, hZ, hh⟩ := hP
  have hx := Bd.exec
  have hby := Bd.bytes
  have hml : c.maxLocals = 1 := hml0
  have hown : s.vm.findClass "com/example/webhook_acknowledger/webhookacknowledger/receive/Verdict" = some m.cls := findClass_of_methodNamed Bd.named
  have hnm := (name_of_methodNamed Bd.named Bd.method).1
  have X0 : Stand p l e ({ frames := 0, cells := 0, slots := 0, locals := 0 } : Room) s m #[(.ref aa)] below meth c s₁ [] 0 0 := Stand.of_body Bd
  have e0 : s₁.heap = h0 := by rw [← hh, Bd.state]; rfl
  have N0 := Fr.nil n0
  have pre0 : ∀ t, Steps p.tables e below (s₁.setTop (mkF m 0 #[.val (.ref aa)] [])) t → Steps p.tables e below (s₁.setTop (entryFrame m #[(.ref aa)] 1)) t := fun t k => castTop (ef_5 m aa) k
  generalize s₁.setTop (entryFrame m #[(.ref aa)] 1) = G0 at pre0 ⊢
  obtain ⟨T18, X18, e18, st18⟩ := getF X0 hx hZ hown (host := "") (Or.inl (hw _ (List.mem_of_getElem? (i := 18) rfl))) Via.refl e0 Fi (g := (mkF m 1 #[.val (.ref aa)] [(.ref aa)])) rfl rfl (hb hby d5_1)
  obtain ⟨fs, hr, hrun, hended, hW, hsame⟩ := X18.leave (v := some (.ref vi)) (fun h => by rw [Bd.returns] at h; cases h)
  refine ⟨_, _, pre0 _ ?_, hrun, hended, _, _, rfl, ?_, ⟨_, rfl⟩, hW, hsame.mono (by decide) (by decide)⟩
  · show Steps p.tables e below (s₁.setTop (mkF m 0 #[.val (.ref aa)] [])) _
    refine XS.aloadN X0.here hx rfl (hb hby d5_0) rfl rfl ?_
    show Steps p.tables e below (s₁.setTop (mkF m 1 #[.val (.ref aa)] [(.ref aa)])) _
    refine st18 _ ?_
    show Steps p.tables e below (T18.setTop (mkF m 4 #[.val (.ref aa)] [(.ref vi)])) _
    jvm_step X18.here [X18.here.top, hx, (hb hby d5_4), X18.method', Bd.returns, Value.isRef, FieldType.isReference]
    first | (intro acts; rw [hr _ acts rfl rfl rfl]) | rw [hr _ _ rfl rfl rfl]
    exact Steps.refl _
  · show Q5 Z aa vi h0 n0 _ T18.heap _
    rw [e18]
    exact ⟨rfl, N0, rfl⟩
theorem own_pd23 : parseMethodDescriptor "([B)Lcom/example/webhook_acknowledger/webhookacknowledger/receive/Verdict;" = some ⟨[(.array .byte)], some (.object "com/example/webhook_acknowledger/webhookacknowledger/receive/Verdict")⟩ := by decide +kernel
theorem own_pd24 : parseMethodDescriptor "()Lcom/example/webhook_acknowledger/webhookacknowledger/receive/Verdict$Outcome;" = some ⟨[], some (.object "com/example/webhook_acknowledger/webhookacknowledger/receive/Verdict$Outcome")⟩ := by decide +kernel
theorem own_pd25 : parseMethodDescriptor "()[B" = some ⟨[], some (.array .byte)⟩ := by decide +kernel
theorem own_pn26 : plainName "com/example/webhook_acknowledger/webhookacknowledger/receive/VerdictKeepOncePinLaw" = true := by first | (simp [plainName, overriddenIn]; done) | decide +kernel
theorem ef_0 (m : MethodId) (x0 : Int32) (x1 : Int32) (x2 : Int32) (x3 : Int32) : entryFrame m #[(.int x0), (.int x1), (.int x2), (.int x3)] maxLocals = mkF m 0 #[.val (.int x0), .val (.int x1), .val (.int x2), .val (.int x3), .unset, .unset, .unset, .unset] [] := by first | (simp [entryFrame, mkF, argsToLocals, Value.category, maxLocals]; done) | rfl
def Q0 (Z : State) (ps : Int32) (p0 : Int32) (p1 : Int32) (p2 : Int32) (aK : Addr) (h0 : Heap) (n0 : Nat) (v : Option Value) (h : Heap) (L : List Loc) : Prop := v = some (.int (1 : Int32)) ∧ Fr n0 L
set_option maxRecDepth 65536 in
set_option maxHeartbeats 40000000 in
theorem rm0 (l : Launch) (Z : State) (a0 : Array Value) (hw : ∀ d ∈ tables_1, d.before a0 Z = true) (ws : List Jvm.Cond) (ps : Int32) (p0 : Int32) (p1 : Int32) (p2 : Int32) (aK : Addr) (h0 : Heap) (n0 : Nat) (Z0 : n0 ≤ h0.size) (O0 : Old Z n0 h0) (S_KEEP : Sta Z Z.heap "com/example/webhook_acknowledger/webhookacknowledger/receive/Verdict$Outcome" "KEEP" "Lcom/example/webhook_acknowledger/webhookacknowledger/receive/Verdict$Outcome;" (.ref aK)) :
    MetFree l x (head1 (Jvm.Cond.code x code maxLocals ret :: ws) room_1) (fun a U => a = #[(.int ps), (.int p0), (.int p1), (.int p2)] ∧ Z.Warmed39 U.vm ∧ U.heap = h0) (fun _ _ _ _ _ => True) (fun _ U o U' => ∃ v L, o = .returned v ∧ Q0 Z ps p0 p1 p2 aK h0 n0 v U'.heap L ∧ FrameEnd U o U' L room_1.cells room_1.slots) := by
  refine MetFree.of_bodySF (plainFor_of_name own_pn26) hisR ?_
  intro p e s m args below meth c s₁ Bd hml0 hP hK
  obtain ⟨rfl, hZ, hh⟩ := hP
  have hx := Bd.exec
  have hby := Bd.bytes
  have hml : c.maxLocals = 8 := hml0
  have hown : s.vm.findClass "com/example/webhook_acknowledger/webhookacknowledger/receive/VerdictKeepOncePinLaw" = some m.cls := findClass_of_methodNamed Bd.named
  have hnm := (name_of_methodNamed Bd.named Bd.method).1
  have X0 : Stand p l e room_1 s m #[(.int ps), (.int p0), (.int p1), (.int p2)] below meth c s₁ [] 0 0 := Stand.of_body Bd
  have e0 : s₁.heap = h0 := by rw [← hh, Bd.state]; rfl
  have N0 := Fr.nil n0
  have pre0 : ∀ t, Steps p.tables e below (s₁.setTop (mkF m 0 #[.val (.int ps), .val (.int p0), .val (.int p1), .val (.int p2), .unset, .unset, .unset, .unset] [])) t → Steps p.tables e below (s₁.setTop (entryFrame m #[(.int ps), (.int p0), (.int p1), (.int p2)] maxLocals)) t := fun t k => castTop (ef_0 m ps p0 p1 p2) k
  generalize s₁.setTop (entryFrame m #[(.int ps), (.int p0), (.int p1), (.int p2)] maxLocals) = G0 at pre0 ⊢
  have pre19 : ∀ t, Steps p.tables e below (s₁.setTop (mkF m 5 #[.val (.int ps), .val (.int p0), .val (.int p1), .val (.int p2), .val (.int (ps &&& (3 : Int32))), .unset, .unset, .unset] [])) t → Steps p.tables e below G0 t := by
    intro t k
    refine pre0 t ?_
    show Steps p.tables e below (s₁.setTop (mkF m 0 #[.val (.int ps), .val (.int p0), .val (.int p1), .val (.int p2), .unset, .unset, .unset, .unset] [])) _
    refine XS.iloadN X0.here hx rfl (hb hby at_0) rfl ?_
    show Steps p.tables e below (s₁.setTop (mkF m 1 #[.val (.int ps), .val (.int p0), .val (.int p1), .val (.int p2), .unset, .unset, .unset, .unset] [(.int ps)])) _
    refine XS.iconst X0.here hx rfl (hb hby at_1) ?_
    show Steps p.tables e below (s₁.setTop (mkF m 2 #[.val (.int ps), .val (.int p0), .val (.int p1), .val (.int p2), .unset, .unset, .unset, .unset] [(.int (3 : Int32)), (.int ps)])) _
    refine XS.iand X0.here hx rfl (hb hby at_2) rfl ?_
    show Steps p.tables e below (s₁.setTop (mkF m 3 #[.val (.int ps), .val (.int p0), .val (.int p1), .val (.int p2), .unset, .unset, .unset, .unset] [(.int (ps &&& (3 : Int32)))])) _
    refine XS.istore X0.here hx rfl (hb hby at_3) rfl (l' := #[.val (.int ps), .val (.int p0), .val (.int p1), .val (.int p2), .val (.int (ps &&& (3 : Int32))), .unset, .unset, .unset]) rfl ?_
    exact k
  rcases own_rng ps with hq20 | hq21 | hq22 | hq23
  · rw [hq20] at pre19
    obtain ⟨T24, h24, k24, X24, e24, E24, A24, st24⟩ := newP X0 hx hZ (hw _ (List.mem_of_getElem? (i := 0) rfl)) e0 (g := (mkF m 7 #[.val (.int ps), .val (.int p0), .val (.int p1), .val (.int p2), .val (.int (0 : Int32)), .unset, .unset, .unset] [(.int (0 : Int32))])) rfl (hb hby at_7) rfl (by decide) (cap := 0) (by decide) (by decide) (by decide) (by decide)
    obtain ⟨b24, g24⟩ : ∃ z, z = h0.size := ⟨_, rfl⟩
    rw [← g24] at A24 st24
    have g_b24 : n0 ≤ b24 := Nat.le_trans Z0 (Nat.le_of_eq g24.symm)
    have sz_b24 : h0.size ≤ b24 := Nat.le_of_eq g24.symm
    have Zs24 : n0 ≤ h24.size := Nat.le_trans Z0 E24.1
    have KK24 : Keep h0 h24 [] := (Keep.refl h0 _).ext E24
    have O24 := O0.ext E24
    have f25 := (S_KEEP.ext O0.2).ext E24
    have V24 : Arv Z h24 b24 k24 .byte (0 : Int32) [] (.int (0 : Int32)) := (Arv.new A24 (by decide)).pad (pad_rep [] (.int (0 : Int32)) 0)
    obtain ⟨_, _, ⟨T26, L26, k26, n26⟩, -, X26, ⟨Lc26, hQ26, l26, y26, z26⟩, st26⟩ := Jvm.LawKit.callS X24 hx (y := (⟨"com/example/webhook_acknowledger/webhookacknowledger/receive/Verdict", "keepOnce", "([B)Lcom/example/webhook_acknowledger/webhookacknowledger/receive/Verdict;"⟩ : MethodName)) hown (mvT hZ (hw _ (List.mem_of_getElem? (i := 1) rfl))) (mvT hZ (hw _ (List.mem_of_getElem? (i := 2) rfl))) (mvT hZ (hw _ (List.mem_of_getElem? (i := 3) rfl))) (mvT hZ (hw _ (List.mem_of_getElem? (i := 4) rfl))) (by decide) (backOf (W := 0) (rm1 l Z a0 hw [] b24 aK h24 n0 Zs24 f25) hZ (hw _ (List.mem_of_getElem? (i := 4) rfl)) (hw _ (List.mem_of_getElem? (i := 3) rfl)) (by decide) (by decide)) (g := (mkF m 48 #[.val (.int ps), .val (.int p0), .val (.int p1), .val (.int p2), .val (.int (0 : Int32)), .val (.ref b24), .unset, .unset] [(.ref b24)])) rfl (by rw [hml]; rfl) (argsL := [(.ref b24)]) (rest := []) (lenOf own_pd23 rfl) rfl (by show 2 * 0 + _ ≤ _; exact Nat.le_of_eq rfl) (hb hby at_48) (fun _ _ => ⟨rfl, e24, (by decide : 1 + 1 ≤ _), (by decide : 0 + 2 ≤ _)⟩)
    dsimp only [Pt.U, Pt.locs, Pt.cells, Pt.slots] at X26 l26 y26 z26 st26 hQ26
    subst l26 y26 z26
    obtain ⟨rro_26, rfl, Nq26, K26, p26_0, p26_1, p26_2, p26_3, p26_4⟩ := hQ26
    have N26 := Fr.app N0 Nq26
    have Zs26 : n0 ≤ T26.heap.size := Nat.le_trans Zs24 K26.1
    have KK26 : Keep h0 T26.heap [] := KK24.trans K26 all0
    have ne_b24_rro_26 : b24 ≠ rro_26 := Nat.ne_of_lt (Nat.lt_of_lt_of_le V24.lt p26_4)
    have sz_rro_26 : h0.size ≤ rro_26 := Nat.le_trans KK24.1 p26_4
    have O26 := O24.keep K26 (all0)
    have f27 := S_KEEP.ext O26.2
    have f28 := V24.keep K26 nin0
    have g_rro_26 := p26_3
    obtain ⟨cq29, kq29, q29a, q29b, q29c⟩ := isOf hZ rfl p26_0
    obtain ⟨_, _, ⟨T29, L29, k29, n29⟩, -, X29, ⟨Lc29, hQ29, l29, y29, z29⟩, st29⟩ := X26.virtualBack hx (y := (⟨"com/example/webhook_acknowledger/webhookacknowledger/receive/Verdict", "outcome", "()Lcom/example/webhook_acknowledger/webhookacknowledger/receive/Verdict$Outcome;"⟩ : MethodName)) (z := (⟨"com/example/webhook_acknowledger/webhookacknowledger/receive/Verdict", "outcome", "()Lcom/example/webhook_acknowledger/webhookacknowledger/receive/Verdict$Outcome;"⟩ : MethodName)) hown (mvT hZ (hw _ (List.mem_of_getElem? (i := 20) rfl))) (mvT hZ (hw _ (List.mem_of_getElem? (i := 21) rfl))) (notFace_of_selects (args := #[]) (mvT hZ (hw _ (List.mem_of_getElem? (i := 23) rfl)))) (mvT hZ (hw _ (List.mem_of_getElem? (i := 23) rfl))) (mvT hZ (hw _ (List.mem_of_getElem? (i := 22) rfl))) (by decide) (backOf (W := 0) (rm4 l Z a0 hw [] rro_26 aK T26.heap n0 Zs26 p26_1) hZ (hw _ (List.mem_of_getElem? (i := 24) rfl)) (hw _ (List.mem_of_getElem? (i := 3) rfl)) (by decide) (by decide)) q29a q29c (g := (mkF m 55 #[.val (.int ps), .val (.int p0), .val (.int p1), .val (.int p2), .val (.int (0 : Int32)), .val (.ref b24), .val (.ref rro_26), .unset] [(.ref rro_26)])) rfl (by rw [hml]; rfl) (Steps.refl _) (argsL := []) (rest := []) (lenOf own_pd24 rfl) rfl (by show 2 * 0 + _ ≤ _; exact Nat.le_of_eq rfl) (hb hby at_55) (fun _ _ => ⟨rfl, rfl, (by decide : 2 + 0 ≤ _), (by decide : 2 + 0 ≤ _)⟩)
    dsimp only [Pt.U, Pt.locs, Pt.cells, Pt.slots] at X29 l29 y29 z29 st29 hQ29
    subst l29 y29 z29
    obtain ⟨rfl, Nq29, e29⟩ := hQ29
    have N29 := Fr.app N26 Nq29
    obtain ⟨T30, X30, e30, st30⟩ := getS2 X29 hx hZ hown (host := "") (Or.inl (hw _ (List.mem_of_getElem? (i := 25) rfl))) Via.refl e29 f27 (g := (mkF m 58 #[.val (.int ps), .val (.int p0), .val (.int p1), .val (.int p2), .val (.int (0 : Int32)), .val (.ref b24), .val (.ref rro_26), .unset] [(.ref aK)])) rfl (hb hby at_58)
    obtain ⟨cq31, kq31, q31a, q31b, q31c⟩ := isOf hZ e30 p26_0
    obtain ⟨_, _, ⟨T31, L31, k31, n31⟩, -, X31, ⟨Lc31, hQ31, l31, y31, z31⟩, st31⟩ := X30.virtualBack hx (y := (⟨"com/example/webhook_acknowledger/webhookacknowledger/receive/Verdict", "id", "()[B"⟩ : MethodName)) (z := (⟨"com/example/webhook_acknowledger/webhookacknowledger/receive/Verdict", "id", "()[B"⟩ : MethodName)) hown (mvT hZ (hw _ (List.mem_of_getElem? (i := 26) rfl))) (mvT hZ (hw _ (List.mem_of_getElem? (i := 27) rfl))) (notFace_of_selects (args := #[]) (mvT hZ (hw _ (List.mem_of_getElem? (i := 29) rfl)))) (mvT hZ (hw _ (List.mem_of_getElem? (i := 29) rfl))) (mvT hZ (hw _ (List.mem_of_getElem? (i := 28) rfl))) (by decide) (backOf (W := 0) (rm5 l Z a0 hw [] rro_26 b24 T26.heap n0 Zs26 p26_2) hZ (hw _ (List.mem_of_getElem? (i := 30) rfl)) (hw _ (List.mem_of_getElem? (i := 3) rfl)) (by decide) (by decide)) q31a q31c (g := (mkF m 68 #[.val (.int ps), .val (.int p0), .val (.int p1), .val (.int p2), .val (.int (0 : Int32)), .val (.ref b24), .val (.ref rro_26), .unset] [(.ref rro_26)])) rfl (by rw [hml]; rfl) (Steps.refl _) (argsL := []) (rest := []) (lenOf own_pd25 rfl) rfl (by show 2 * 0 + _ ≤ _; exact Nat.le_of_eq rfl) (hb hby at_68) (fun _ _ => ⟨rfl, e30, (by decide : 2 + 0 ≤ _), (by decide : 2 + 0 ≤ _)⟩)
    dsimp only [Pt.U, Pt.locs, Pt.cells, Pt.slots] at X31 l31 y31 z31 st31 hQ31
    subst l31 y31 z31
    obtain ⟨rfl, Nq31, e31⟩ := hQ31
    have N31 := Fr.app N29 Nq31
    obtain ⟨cl32, Ar32, -, S32, M32, -, -⟩ := id f28
    obtain ⟨fs, hr, hrun, hended, hW, hsame⟩ := X31.leave (v := some (.int (1 : Int32))) (fun h => by rw [Bd.returns] at h; cases h)
    refine ⟨_, _, pre19 _ ?_, hrun, hended, _, _, rfl, ?_, ⟨_, rfl⟩, hW, hsame.mono (by decide) (by decide)⟩
    · show Steps p.tables e below (s₁.setTop (mkF m 5 #[.val (.int ps), .val (.int p0), .val (.int p1), .val (.int p2), .val (.int (0 : Int32)), .unset, .unset, .unset] [])) _
      refine XS.iload X0.here hx rfl (hb hby at_5) rfl ?_
      show Steps p.tables e below (s₁.setTop (mkF m 7 #[.val (.int ps), .val (.int p0), .val (.int p1), .val (.int p2), .val (.int (0 : Int32)), .unset, .unset, .unset] [(.int (0 : Int32))])) _
      refine st24 _ ?_
      show Steps p.tables e below (T24.setTop (mkF m 9 #[.val (.int ps), .val (.int p0), .val (.int p1), .val (.int p2), .val (.int (0 : Int32)), .unset, .unset, .unset] [(.ref b24)])) _
      refine XS.astore X24.here hx rfl (hb hby at_9) rfl rfl (l' := #[.val (.int ps), .val (.int p0), .val (.int p1), .val (.int p2), .val (.int (0 : Int32)), .val (.ref b24), .unset, .unset]) rfl ?_
      show Steps p.tables e below (T24.setTop (mkF m 11 #[.val (.int ps), .val (.int p0), .val (.int p1), .val (.int p2), .val (.int (0 : Int32)), .val (.ref b24), .unset, .unset] [])) _
      refine XS.iload X24.here hx rfl (hb hby at_11) rfl ?_
      show Steps p.tables e below (T24.setTop (mkF m 13 #[.val (.int ps), .val (.int p0), .val (.int p1), .val (.int p2), .val (.int (0 : Int32)), .val (.ref b24), .unset, .unset] [(.int (0 : Int32))])) _
      refine XS.ifYes X24.here hx rfl (pc0 := 13) (pc' := 22) rfl (hb hby at_13) rfl ((if0 _ _).trans (flt (by decide : ¬ ((0 : Int32) < (0 : Int32)))).2.2.2) (by decide) (by decide) ?_
      show Steps p.tables e below (T24.setTop (mkF m 22 #[.val (.int ps), .val (.int p0), .val (.int p1), .val (.int p2), .val (.int (0 : Int32)), .val (.ref b24), .unset, .unset] [])) _
      refine XS.iload X24.here hx rfl (hb hby at_22) rfl ?_
      show Steps p.tables e below (T24.setTop (mkF m 24 #[.val (.int ps), .val (.int p0), .val (.int p1), .val (.int p2), .val (.int (0 : Int32)), .val (.ref b24), .unset, .unset] [(.int (0 : Int32))])) _
      refine XS.iconst X24.here hx rfl (hb hby at_24) ?_
      show Steps p.tables e below (T24.setTop (mkF m 25 #[.val (.int ps), .val (.int p0), .val (.int p1), .val (.int p2), .val (.int (0 : Int32)), .val (.ref b24), .unset, .unset] [(.int (1 : Int32)), (.int (0 : Int32))])) _
      refine XS.icmpYes X24.here hx rfl (pc0 := 25) (pc' := 34) rfl (hb hby at_25) rfl (flt (by decide : ¬ ((1 : Int32) < (0 : Int32)))).2.2.2 (by decide) (by decide) ?_
      show Steps p.tables e below (T24.setTop (mkF m 34 #[.val (.int ps), .val (.int p0), .val (.int p1), .val (.int p2), .val (.int (0 : Int32)), .val (.ref b24), .unset, .unset] [])) _
      refine XS.iload X24.here hx rfl (hb hby at_34) rfl ?_
      show Steps p.tables e below (T24.setTop (mkF m 36 #[.val (.int ps), .val (.int p0), .val (.int p1), .val (.int p2), .val (.int (0 : Int32)), .val (.ref b24), .unset, .unset] [(.int (0 : Int32))])) _
      refine XS.iconst X24.here hx rfl (hb hby at_36) ?_
      show Steps p.tables e below (T24.setTop (mkF m 37 #[.val (.int ps), .val (.int p0), .val (.int p1), .val (.int p2), .val (.int (0 : Int32)), .val (.ref b24), .unset, .unset] [(.int (2 : Int32)), (.int (0 : Int32))])) _
      refine XS.icmpYes X24.here hx rfl (pc0 := 37) (pc' := 46) rfl (hb hby at_37) rfl (flt (by decide : ¬ ((2 : Int32) < (0 : Int32)))).2.2.2 (by decide) (by decide) ?_
      show Steps p.tables e below (T24.setTop (mkF m 46 #[.val (.int ps), .val (.int p0), .val (.int p1), .val (.int p2), .val (.int (0 : Int32)), .val (.ref b24), .unset, .unset] [])) _
      refine XS.aload X24.here hx rfl (hb hby at_46) rfl rfl ?_
      show Steps p.tables e below (T24.setTop (mkF m 48 #[.val (.int ps), .val (.int p0), .val (.int p1), .val (.int p2), .val (.int (0 : Int32)), .val (.ref b24), .unset, .unset] [(.ref b24)])) _
      refine st26 _ ?_
      show Steps p.tables e below (T26.setTop (mkF m 51 #[.val (.int ps), .val (.int p0), .val (.int p1), .val (.int p2), .val (.int (0 : Int32)), .val (.ref b24), .unset, .unset] [(.ref rro_26)])) _
      refine XS.astore X26.here hx rfl (hb hby at_51) rfl rfl (l' := #[.val (.int ps), .val (.int p0), .val (.int p1), .val (.int p2), .val (.int (0 : Int32)), .val (.ref b24), .val (.ref rro_26), .unset]) rfl ?_
      show Steps p.tables e below (T26.setTop (mkF m 53 #[.val (.int ps), .val (.int p0), .val (.int p1), .val (.int p2), .val (.int (0 : Int32)), .val (.ref b24), .val (.ref rro_26), .unset] [])) _
      refine XS.aload X26.here hx rfl (hb hby at_53) rfl rfl ?_
      show Steps p.tables e below (T26.setTop (mkF m 55 #[.val (.int ps), .val (.int p0), .val (.int p1), .val (.int p2), .val (.int (0 : Int32)), .val (.ref b24), .val (.ref rro_26), .unset] [(.ref rro_26)])) _
      refine st29.trans ?_
      show Steps p.tables e below (T29.setTop (mkF m 58 #[.val (.int ps), .val (.int p0), .val (.int p1), .val (.int p2), .val (.int (0 : Int32)), .val (.ref b24), .val (.ref rro_26), .unset] [(.ref aK)])) _
      refine st30 _ ?_
      show Steps p.tables e below (T30.setTop (mkF m 61 #[.val (.int ps), .val (.int p0), .val (.int p1), .val (.int p2), .val (.int (0 : Int32)), .val (.ref b24), .val (.ref rro_26), .unset] [(.ref aK), (.ref aK)])) _
      refine Jvm.RoadKit.acmp (g := (mkF m 61 #[.val (.int ps), .val (.int p0), .val (.int p1), .val (.int p2), .val (.int (0 : Int32)), .val (.ref b24), .val (.ref rro_26), .unset] [(.ref aK), (.ref aK)])) X30 hx rfl rfl rfl (pc0 := 61) (pc' := 66) (same := true) rfl (hb hby at_61) rfl (decide_eq_true rfl) (by decide) (by decide) ?_
      show Steps p.tables e below (T30.setTop (mkF m 66 #[.val (.int ps), .val (.int p0), .val (.int p1), .val (.int p2), .val (.int (0 : Int32)), .val (.ref b24), .val (.ref rro_26), .unset] [])) _
      refine XS.aload X30.here hx rfl (hb hby at_66) rfl rfl ?_
      show Steps p.tables e below (T30.setTop (mkF m 68 #[.val (.int ps), .val (.int p0), .val (.int p1), .val (.int p2), .val (.int (0 : Int32)), .val (.ref b24), .val (.ref rro_26), .unset] [(.ref rro_26)])) _
      refine st31.trans ?_
      show Steps p.tables e below (T31.setTop (mkF m 71 #[.val (.int ps), .val (.int p0), .val (.int p1), .val (.int p2), .val (.int (0 : Int32)), .val (.ref b24), .val (.ref rro_26), .unset] [(.ref b24)])) _
      refine XS.astore X31.here hx rfl (hb hby at_71) rfl rfl (l' := #[.val (.int ps), .val (.int p0), .val (.int p1), .val (.int p2), .val (.int (0 : Int32)), .val (.ref b24), .val (.ref rro_26), .val (.ref b24)]) rfl ?_
      show Steps p.tables e below (T31.setTop (mkF m 73 #[.val (.int ps), .val (.int p0), .val (.int p1), .val (.int p2), .val (.int (0 : Int32)), .val (.ref b24), .val (.ref rro_26), .val (.ref b24)] [])) _
      refine XS.aload X31.here hx rfl (hb hby at_73) rfl rfl ?_
      show Steps p.tables e below (T31.setTop (mkF m 75 #[.val (.int ps), .val (.int p0), .val (.int p1), .val (.int p2), .val (.int (0 : Int32)), .val (.ref b24), .val (.ref rro_26), .val (.ref b24)] [(.ref b24)])) _
      refine XS.aload X31.here hx rfl (hb hby at_75) rfl rfl ?_
      show Steps p.tables e below (T31.setTop (mkF m 77 #[.val (.int ps), .val (.int p0), .val (.int p1), .val (.int p2), .val (.int (0 : Int32)), .val (.ref b24), .val (.ref rro_26), .val (.ref b24)] [(.ref b24), (.ref b24)])) _
      refine Jvm.RoadKit.acmp (g := (mkF m 77 #[.val (.int ps), .val (.int p0), .val (.int p1), .val (.int p2), .val (.int (0 : Int32)), .val (.ref b24), .val (.ref rro_26), .val (.ref b24)] [(.ref b24), (.ref b24)])) X31 hx rfl rfl rfl (pc0 := 77) (pc' := 82) (same := true) rfl (hb hby at_77) rfl (decide_eq_true rfl) (by decide) (by decide) ?_
      show Steps p.tables e below (T31.setTop (mkF m 82 #[.val (.int ps), .val (.int p0), .val (.int p1), .val (.int p2), .val (.int (0 : Int32)), .val (.ref b24), .val (.ref rro_26), .val (.ref b24)] [])) _
      refine XS.aload X31.here hx rfl (hb hby at_82) rfl rfl ?_
      show Steps p.tables e below (T31.setTop (mkF m 84 #[.val (.int ps), .val (.int p0), .val (.int p1), .val (.int p2), .val (.int (0 : Int32)), .val (.ref b24), .val (.ref rro_26), .val (.ref b24)] [(.ref b24)])) _
      refine X31.arraylength hx (by rw [e31]; exact Ar32.1) (State.isArrayOf_alike hZ.alike Ar32.2.1) (g := (mkF m 84 #[.val (.int ps), .val (.int p0), .val (.int p1), .val (.int p2), .val (.int (0 : Int32)), .val (.ref b24), .val (.ref rro_26), .val (.ref b24)] [(.ref b24)])) rfl rfl (hb hby at_84) _ ?_
      rw [len_of S32 M32]
      show Steps p.tables e below (T31.setTop (mkF m 85 #[.val (.int ps), .val (.int p0), .val (.int p1), .val (.int p2), .val (.int (0 : Int32)), .val (.ref b24), .val (.ref rro_26), .val (.ref b24)] [(.int (0 : Int32))])) _
      refine XS.iload X31.here hx rfl (hb hby at_85) rfl ?_
      show Steps p.tables e below (T31.setTop (mkF m 87 #[.val (.int ps), .val (.int p0), .val (.int p1), .val (.int p2), .val (.int (0 : Int32)), .val (.ref b24), .val (.ref rro_26), .val (.ref b24)] [(.int (0 : Int32)), (.int (0 : Int32))])) _
      refine XS.icmpYes X31.here hx rfl (pc0 := 87) (pc' := 92) rfl (hb hby at_87) rfl (teq (by decide : ((0 : Int32) = (0 : Int32)))).1 (by decide) (by decide) ?_
      show Steps p.tables e below (T31.setTop (mkF m 92 #[.val (.int ps), .val (.int p0), .val (.int p1), .val (.int p2), .val (.int (0 : Int32)), .val (.ref b24), .val (.ref rro_26), .val (.ref b24)] [])) _
      refine XS.iload X31.here hx rfl (hb hby at_92) rfl ?_
      show Steps p.tables e below (T31.setTop (mkF m 94 #[.val (.int ps), .val (.int p0), .val (.int p1), .val (.int p2), .val (.int (0 : Int32)), .val (.ref b24), .val (.ref rro_26), .val (.ref b24)] [(.int (0 : Int32))])) _
      refine XS.ifYes X31.here hx rfl (pc0 := 94) (pc' := 108) rfl (hb hby at_94) rfl ((if0 _ _).trans (flt (by decide : ¬ ((0 : Int32) < (0 : Int32)))).2.2.2) (by decide) (by decide) ?_
      show Steps p.tables e below (T31.setTop (mkF m 108 #[.val (.int ps), .val (.int p0), .val (.int p1), .val (.int p2), .val (.int (0 : Int32)), .val (.ref b24), .val (.ref rro_26), .val (.ref b24)] [])) _
      refine XS.iload X31.here hx rfl (hb hby at_108) rfl ?_
      show Steps p.tables e below (T31.setTop (mkF m 110 #[.val (.int ps), .val (.int p0), .val (.int p1), .val (.int p2), .val (.int (0 : Int32)), .val (.ref b24), .val (.ref rro_26), .val (.ref b24)] [(.int (0 : Int32))])) _
      refine XS.iconst X31.here hx rfl (hb hby at_110) ?_
      show Steps p.tables e below (T31.setTop (mkF m 111 #[.val (.int ps), .val (.int p0), .val (.int p1), .val (.int p2), .val (.int (0 : Int32)), .val (.ref b24), .val (.ref rro_26), .val (.ref b24)] [(.int (1 : Int32)), (.int (0 : Int32))])) _
      refine XS.icmpYes X31.here hx rfl (pc0 := 111) (pc' := 125) rfl (hb hby at_111) rfl (flt (by decide : ¬ ((1 : Int32) < (0 : Int32)))).2.2.2 (by decide) (by decide) ?_
      show Steps p.tables e below (T31.setTop (mkF m 125 #[.val (.int ps), .val (.int p0), .val (.int p1), .val (.int p2), .val (.int (0 : Int32)), .val (.ref b24), .val (.ref rro_26), .val (.ref b24)] [])) _
      refine XS.iload X31.here hx rfl (hb hby at_125) rfl ?_
      show Steps p.tables e below (T31.setTop (mkF m 127 #[.val (.int ps), .val (.int p0), .val (.int p1), .val (.int p2), .val (.int (0 : Int32)), .val (.ref b24), .val (.ref rro_26), .val (.ref b24)] [(.int (0 : Int32))])) _
      refine XS.iconst X31.here hx rfl (hb hby at_127) ?_
      show Steps p.tables e below (T31.setTop (mkF m 128 #[.val (.int ps), .val (.int p0), .val (.int p1), .val (.int p2), .val (.int (0 : Int32)), .val (.ref b24), .val (.ref rro_26), .val (.ref b24)] [(.int (2 : Int32)), (.int (0 : Int32))])) _
      refine XS.icmpYes X31.here hx rfl (pc0 := 128) (pc' := 142) rfl (hb hby at_128) rfl (flt (by decide : ¬ ((2 : Int32) < (0 : Int32)))).2.2.2 (by decide) (by decide) ?_
      show Steps p.tables e below (T31.setTop (mkF m 142 #[.val (.int ps), .val (.int p0), .val (.int p1), .val (.int p2), .val (.int (0 : Int32)), .val (.ref b24), .val (.ref rro_26), .val (.ref b24)] [])) _
      refine XS.iload X31.here hx rfl (hb hby at_142) rfl ?_
      show Steps p.tables e below (T31.setTop (mkF m 144 #[.val (.int ps), .val (.int p0), .val (.int p1), .val (.int p2), .val (.int (0 : Int32)), .val (.ref b24), .val (.ref rro_26), .val (.ref b24)] [(.int (0 : Int32))])) _
      refine XS.ifYes X31.here hx rfl (pc0 := 144) (pc' := 171) rfl (hb hby at_144) rfl ((if0 _ _).trans (flt (by decide : ¬ ((0 : Int32) < (0 : Int32)))).2.2.2) (by decide) (by decide) ?_
      show Steps p.tables e below (T31.setTop (mkF m 171 #[.val (.int ps), .val (.int p0), .val (.int p1), .val (.int p2), .val (.int (0 : Int32)), .val (.ref b24), .val (.ref rro_26), .val (.ref b24)] [])) _
      refine XS.iconst X31.here hx rfl (hb hby at_171) ?_
      show Steps p.tables e below (T31.setTop (mkF m 172 #[.val (.int ps), .val (.int p0), .val (.int p1), .val (.int p2), .val (.int (0 : Int32)), .val (.ref b24), .val (.ref rro_26), .val (.ref b24)] [(.int (1 : Int32))])) _
      exact retN X31 hx (t := .boolean) Bd.returns (by simp) (hb hby at_172) hr
    · show Q0 Z ps p0 p1 p2 aK h0 n0 _ T31.heap _
      rw [e31]
      exact ⟨rfl, N31⟩
  · rw [hq21] at pre19
    obtain ⟨T33, h33, k33, X33, e33, E33, A33, st33⟩ := newP X0 hx hZ (hw _ (List.mem_of_getElem? (i := 0) rfl)) e0 (g := (mkF m 7 #[.val (.int ps), .val (.int p0), .val (.int p1), .val (.int p2), .val (.int (1 : Int32)), .unset, .unset, .unset] [(.int (1 : Int32))])) rfl (hb hby at_7) rfl (by decide) (cap := 1) (by decide) (by decide) (by decide) (by decide)
    obtain ⟨b33, g33⟩ : ∃ z, z = h0.size := ⟨_, rfl⟩
    rw [← g33] at A33 st33
    have g_b33 : n0 ≤ b33 := Nat.le_trans Z0 (Nat.le_of_eq g33.symm)
    have sz_b33 : h0.size ≤ b33 := Nat.le_of_eq g33.symm
    have Zs33 : n0 ≤ h33.size := Nat.le_trans Z0 E33.1
    have KK33 : Keep h0 h33 [] := (Keep.refl h0 _).ext E33
    have O33 := O0.ext E33
    have f34 := (S_KEEP.ext O0.2).ext E33
    have V33 : Arv Z h33 b33 k33 .byte (1 : Int32) [(.int (0 : Int32))] (.int (0 : Int32)) := (Arv.new A33 (by decide)).pad (pad_rep [] (.int (0 : Int32)) 1)
    obtain ⟨cl35, Ar35, q35, S35, N35, H35, G35⟩ := id V33
    have hin35 : ¬ ((0 : Int32) < 0 ∨ cl35.slots.size ≤ ((0 : Int32)).toNatClampNeg) := inb_of S35 ⟨by decide, by decide⟩
    obtain ⟨T36, h36, X36, e36, W36, st36⟩ := stB X33 hx hZ e33 Ar35 (j := (0 : Int32)) hin35 (g := (mkF m 21 #[.val (.int ps), .val (.int p0), .val (.int p1), .val (.int p2), .val (.int (1 : Int32)), .val (.ref b33), .unset, .unset] [(.int (p0.toInt8.toInt32)), (.int (0 : Int32)), (.ref b33)])) rfl rfl (hb hby at_21)
    have V36 : Arv Z h36 b33 k33 .byte (1 : Int32) [(.int (nar .byte (p0.toInt8.toInt32)))] (.int (0 : Int32)) := Arv.set Ar35 q35 S35 N35 H35 G35 (fits_nar_byte (p0.toInt8.toInt32)) W36 0 rfl (Nat.le_of_ble_eq_true rfl)
    have N36 := Fr.snoc X36 N0 g_b33
    have Zs36 : n0 ≤ h36.size := Nat.le_trans Zs33 (Keep.of_wr W36).1
    have KK36 : Keep h0 h36 [] := KK33.wr W36 (Or.inr sz_b33)
    have O36 := O33.wr W36 g_b33
    have f37 := f34.wr W36
    obtain ⟨_, _, ⟨T38, L38, k38, n38⟩, -, X38, ⟨Lc38, hQ38, l38, y38, z38⟩, st38⟩ := Jvm.LawKit.callS X36 hx (y := (⟨"com/example/webhook_acknowledger/webhookacknowledger/receive/Verdict", "keepOnce", "([B)Lcom/example/webhook_acknowledger/webhookacknowledger/receive/Verdict;"⟩ : MethodName)) hown (mvT hZ (hw _ (List.mem_of_getElem? (i := 1) rfl))) (mvT hZ (hw _ (List.mem_of_getElem? (i := 2) rfl))) (mvT hZ (hw _ (List.mem_of_getElem? (i := 3) rfl))) (mvT hZ (hw _ (List.mem_of_getElem? (i := 4) rfl))) (by decide) (backOf (W := 0) (rm1 l Z a0 hw [] b33 aK h36 n0 Zs36 f37) hZ (hw _ (List.mem_of_getElem? (i := 4) rfl)) (hw _ (List.mem_of_getElem? (i := 3) rfl)) (by decide) (by decide)) (g := (mkF m 48 #[.val (.int ps), .val (.int p0), .val (.int p1), .val (.int p2), .val (.int (1 : Int32)), .val (.ref b33), .unset, .unset] [(.ref b33)])) rfl (by rw [hml]; rfl) (argsL := [(.ref b33)]) (rest := []) (lenOf own_pd23 rfl) rfl (by show 2 * 0 + _ ≤ _; exact Nat.le_of_eq rfl) (hb hby at_48) (fun _ _ => ⟨rfl, e36, (by decide : 1 + 1 ≤ _), (by decide : 1 + 2 ≤ _)⟩)
    dsimp only [Pt.U, Pt.locs, Pt.cells, Pt.slots] at X38 l38 y38 z38 st38 hQ38
    subst l38 y38 z38
    obtain ⟨rro_38, rfl, Nq38, K38, p38_0, p38_1, p38_2, p38_3, p38_4⟩ := hQ38
    have N38 := Fr.app N36 Nq38
    have Zs38 : n0 ≤ T38.heap.size := Nat.le_trans Zs36 K38.1
    have KK38 : Keep h0 T38.heap [] := KK36.trans K38 all0
    have ne_b33_rro_38 : b33 ≠ rro_38 := Nat.ne_of_lt (Nat.lt_of_lt_of_le V36.lt p38_4)
    have sz_rro_38 : h0.size ≤ rro_38 := Nat.le_trans KK36.1 p38_4
    have O38 := O36.keep K38 (all0)
    have f39 := S_KEEP.ext O38.2
    have f40 := V36.keep K38 nin0
    have g_rro_38 := p38_3
    obtain ⟨cq41, kq41, q41a, q41b, q41c⟩ := isOf hZ rfl p38_0
    obtain ⟨_, _, ⟨T41, L41, k41, n41⟩, -, X41, ⟨Lc41, hQ41, l41, y41, z41⟩, st41⟩ := X38.virtualBack hx (y := (⟨"com/example/webhook_acknowledger/webhookacknowledger/receive/Verdict", "outcome", "()Lcom/example/webhook_acknowledger/webhookacknowledger/receive/Verdict$Outcome;"⟩ : MethodName)) (z := (⟨"com/example/webhook_acknowledger/webhookacknowledger/receive/Verdict", "outcome", "()Lcom/example/webhook_acknowledger/webhookacknowledger/receive/Verdict$Outcome;"⟩ : MethodName)) hown (mvT hZ (hw _ (List.mem_of_getElem? (i := 20) rfl))) (mvT hZ (hw _ (List.mem_of_getElem? (i := 21) rfl))) (notFace_of_selects (args := #[]) (mvT hZ (hw _ (List.mem_of_getElem? (i := 23) rfl)))) (mvT hZ (hw _ (List.mem_of_getElem? (i := 23) rfl))) (mvT hZ (hw _ (List.mem_of_getElem? (i := 22) rfl))) (by decide) (backOf (W := 0) (rm4 l Z a0 hw [] rro_38 aK T38.heap n0 Zs38 p38_1) hZ (hw _ (List.mem_of_getElem? (i := 24) rfl)) (hw _ (List.mem_of_getElem? (i := 3) rfl)) (by decide) (by decide)) q41a q41c (g := (mkF m 55 #[.val (.int ps), .val (.int p0), .val (.int p1), .val (.int p2), .val (.int (1 : Int32)), .val (.ref b33), .val (.ref rro_38), .unset] [(.ref rro_38)])) rfl (by rw [hml]; rfl) (Steps.refl _) (argsL := []) (rest := []) (lenOf own_pd24 rfl) rfl (by show 2 * 0 + _ ≤ _; exact Nat.le_of_eq rfl) (hb hby at_55) (fun _ _ => ⟨rfl, rfl, (by decide : 2 + 0 ≤ _), (by decide : 3 + 0 ≤ _)⟩)
    dsimp only [Pt.U, Pt.locs, Pt.cells, Pt.slots] at X41 l41 y41 z41 st41 hQ41
    subst l41 y41 z41
    obtain ⟨rfl, Nq41, e41⟩ := hQ41
    have N41 := Fr.app N38 Nq41
    obtain ⟨T42, X42, e42, st42⟩ := getS2 X41 hx hZ hown (host := "") (Or.inl (hw _ (List.mem_of_getElem? (i := 25) rfl))) Via.refl e41 f39 (g := (mkF m 58 #[.val (.int ps), .val (.int p0), .val (.int p1), .val (.int p2), .val (.int (1 : Int32)), .val (.ref b33), .val (.ref rro_38), .unset] [(.ref aK)])) rfl (hb hby at_58)
    obtain ⟨cq43, kq43, q43a, q43b, q43c⟩ := isOf hZ e42 p38_0
    obtain ⟨_, _, ⟨T43, L43, k43, n43⟩, -, X43, ⟨Lc43, hQ43, l43, y43, z43⟩, st43⟩ := X42.virtualBack hx (y := (⟨"com/example/webhook_acknowledger/webhookacknowledger/receive/Verdict", "id", "()[B"⟩ : MethodName)) (z := (⟨"com/example/webhook_acknowledger/webhookacknowledger/receive/Verdict", "id", "()[B"⟩ : MethodName)) hown (mvT hZ (hw _ (List.mem_of_getElem? (i := 26) rfl))) (mvT hZ (hw _ (List.mem_of_getElem? (i := 27) rfl))) (notFace_of_selects (args := #[]) (mvT hZ (hw _ (List.mem_of_getElem? (i := 29) rfl)))) (mvT hZ (hw _ (List.mem_of_getElem? (i := 29) rfl))) (mvT hZ (hw _ (List.mem_of_getElem? (i := 28) rfl))) (by decide) (backOf (W := 0) (rm5 l Z a0 hw [] rro_38 b33 T38.heap n0 Zs38 p38_2) hZ (hw _ (List.mem_of_getElem? (i := 30) rfl)) (hw _ (List.mem_of_getElem? (i := 3) rfl)) (by decide) (by decide)) q43a q43c (g := (mkF m 68 #[.val (.int ps), .val (.int p0), .val (.int p1), .val (.int p2), .val (.int (1 : Int32)), .val (.ref b33), .val (.ref rro_38), .unset] [(.ref rro_38)])) rfl (by rw [hml]; rfl) (Steps.refl _) (argsL := []) (rest := []) (lenOf own_pd25 rfl) rfl (by show 2 * 0 + _ ≤ _; exact Nat.le_of_eq rfl) (hb hby at_68) (fun _ _ => ⟨rfl, e42, (by decide : 2 + 0 ≤ _), (by decide : 3 + 0 ≤ _)⟩)
    dsimp only [Pt.U, Pt.locs, Pt.cells, Pt.slots] at X43 l43 y43 z43 st43 hQ43
    subst l43 y43 z43
    obtain ⟨rfl, Nq43, e43⟩ := hQ43
    have N43 := Fr.app N41 Nq43
    obtain ⟨cl44, Ar44, -, S44, M44, -, -⟩ := id f40
    obtain ⟨cl45, Ar45, -, S45, -, H45, -⟩ := id f40
    have hin45 : ¬ ((0 : Int32) < 0 ∨ cl45.slots.size ≤ ((0 : Int32)).toNatClampNeg) := inb_of S45 ⟨by decide, by decide⟩
    have hat45 : cl45.slots[((0 : Int32)).toNatClampNeg]? = some (.int (nar .byte (p0.toInt8.toInt32))) := H45.at hin45 rfl
    obtain ⟨cl46, Ar46, q46, S46, N46, H46, G46⟩ := id f40
    have hin46 : ¬ ((0 : Int32) < 0 ∨ cl46.slots.size ≤ ((0 : Int32)).toNatClampNeg) := inb_of S46 ⟨by decide, by decide⟩
    obtain ⟨T47, h47, X47, e47, W47, st47⟩ := stB X43 hx hZ e43 Ar46 (j := (0 : Int32)) hin46 (g := (mkF m 154 #[.val (.int ps), .val (.int p0), .val (.int p1), .val (.int p2), .val (.int (1 : Int32)), .val (.ref b33), .val (.ref rro_38), .val (.ref b33)] [(.int ((p0 + (1 : Int32)).toInt8.toInt32)), (.int (0 : Int32)), (.ref b33)])) rfl rfl (hb hby at_154)
    have V47 : Arv Z h47 b33 k33 .byte (1 : Int32) [(.int (nar .byte ((p0 + (1 : Int32)).toInt8.toInt32)))] (.int (0 : Int32)) := Arv.set Ar46 q46 S46 N46 H46 G46 (fits_nar_byte ((p0 + (1 : Int32)).toInt8.toInt32)) W47 0 rfl (Nat.le_of_ble_eq_true rfl)
    have N47 := Fr.snoc X47 N43 g_b33
    have Zs47 : n0 ≤ h47.size := Nat.le_trans Zs38 (Keep.of_wr W47).1
    have KK47 : Keep h0 h47 [] := KK38.wr W47 (Or.inr sz_b33)
    have O47 := O38.wr W47 g_b33
    have f48 := f39.wr W47
    have f49 := p38_0.wr W47
    have f50 := p38_1.other W47 (Or.inl (Ne.symm ne_b33_rro_38))
    have f51 := p38_2.other W47 (Or.inl (Ne.symm ne_b33_rro_38))
    obtain ⟨cq52, kq52, q52a, q52b, q52c⟩ := isOf hZ e47 f49
    obtain ⟨_, _, ⟨T52, L52, k52, n52⟩, -, X52, ⟨Lc52, hQ52, l52, y52, z52⟩, st52⟩ := X47.virtualBack hx (y := (⟨"com/example/webhook_acknowledger/webhookacknowledger/receive/Verdict", "id", "()[B"⟩ : MethodName)) (z := (⟨"com/example/webhook_acknowledger/webhookacknowledger/receive/Verdict", "id", "()[B"⟩ : MethodName)) hown (mvT hZ (hw _ (List.mem_of_getElem? (i := 26) rfl))) (mvT hZ (hw _ (List.mem_of_getElem? (i := 27) rfl))) (notFace_of_selects (args := #[]) (mvT hZ (hw _ (List.mem_of_getElem? (i := 29) rfl)))) (mvT hZ (hw _ (List.mem_of_getElem? (i := 29) rfl))) (mvT hZ (hw _ (List.mem_of_getElem? (i := 28) rfl))) (by decide) (backOf (W := 0) (rm5 l Z a0 hw [] rro_38 b33 h47 n0 Zs47 f51) hZ (hw _ (List.mem_of_getElem? (i := 30) rfl)) (hw _ (List.mem_of_getElem? (i := 3) rfl)) (by decide) (by decide)) q52a q52c (g := (mkF m 157 #[.val (.int ps), .val (.int p0), .val (.int p1), .val (.int p2), .val (.int (1 : Int32)), .val (.ref b33), .val (.ref rro_38), .val (.ref b33)] [(.ref rro_38)])) rfl (by rw [hml]; rfl) (Steps.refl _) (argsL := []) (rest := []) (lenOf own_pd25 rfl) rfl (by show 2 * 0 + _ ≤ _; exact Nat.le_of_eq rfl) (hb hby at_157) (fun _ _ => ⟨rfl, e47, (by decide : 2 + 0 ≤ _), (by decide : 3 + 0 ≤ _)⟩)
    dsimp only [Pt.U, Pt.locs, Pt.cells, Pt.slots] at X52 l52 y52 z52 st52 hQ52
    subst l52 y52 z52
    obtain ⟨rfl, Nq52, e52⟩ := hQ52
    have N52 := Fr.app N47 Nq52
    obtain ⟨cl53, Ar53, -, S53, -, H53, -⟩ := id V47
    have hin53 : ¬ ((0 : Int32) < 0 ∨ cl53.slots.size ≤ ((0 : Int32)).toNatClampNeg) := inb_of S53 ⟨by decide, by decide⟩
    have hat53 : cl53.slots[((0 : Int32)).toNatClampNeg]? = some (.int (nar .byte ((p0 + (1 : Int32)).toInt8.toInt32))) := H53.at hin53 rfl
    obtain ⟨fs, hr, hrun, hended, hW, hsame⟩ := X52.leave (v := some (.int (1 : Int32))) (fun h => by rw [Bd.returns] at h; cases h)
    refine ⟨_, _, pre19 _ ?_, hrun, hended, _, _, rfl, ?_, ⟨_, rfl⟩, hW, hsame.mono (by decide) (by decide)⟩
    · show Steps p.tables e below (s₁.setTop (mkF m 5 #[.val (.int ps), .val (.int p0), .val (.int p1), .val (.int p2), .val (.int (1 : Int32)), .unset, .unset, .unset] [])) _
      refine XS.iload X0.here hx rfl (hb hby at_5) rfl ?_
      show Steps p.tables e below (s₁.setTop (mkF m 7 #[.val (.int ps), .val (.int p0), .val (.int p1), .val (.int p2), .val (.int (1 : Int32)), .unset, .unset, .unset] [(.int (1 : Int32))])) _
      refine st33 _ ?_
      show Steps p.tables e below (T33.setTop (mkF m 9 #[.val (.int ps), .val (.int p0), .val (.int p1), .val (.int p2), .val (.int (1 : Int32)), .unset, .unset, .unset] [(.ref b33)])) _
      refine XS.astore X33.here hx rfl (hb hby at_9) rfl rfl (l' := #[.val (.int ps), .val (.int p0), .val (.int p1), .val (.int p2), .val (.int (1 : Int32)), .val (.ref b33), .unset, .unset]) rfl ?_
      show Steps p.tables e below (T33.setTop (mkF m 11 #[.val (.int ps), .val (.int p0), .val (.int p1), .val (.int p2), .val (.int (1 : Int32)), .val (.ref b33), .unset, .unset] [])) _
      refine XS.iload X33.here hx rfl (hb hby at_11) rfl ?_
      show Steps p.tables e below (T33.setTop (mkF m 13 #[.val (.int ps), .val (.int p0), .val (.int p1), .val (.int p2), .val (.int (1 : Int32)), .val (.ref b33), .unset, .unset] [(.int (1 : Int32))])) _
      refine XS.ifNo X33.here hx rfl (hb hby at_13) rfl ((if0 _ _).trans (tlt (by decide : ((0 : Int32) < (1 : Int32)))).2.2.2) ?_
      show Steps p.tables e below (T33.setTop (mkF m 16 #[.val (.int ps), .val (.int p0), .val (.int p1), .val (.int p2), .val (.int (1 : Int32)), .val (.ref b33), .unset, .unset] [])) _
      refine XS.aload X33.here hx rfl (hb hby at_16) rfl rfl ?_
      show Steps p.tables e below (T33.setTop (mkF m 18 #[.val (.int ps), .val (.int p0), .val (.int p1), .val (.int p2), .val (.int (1 : Int32)), .val (.ref b33), .unset, .unset] [(.ref b33)])) _
      refine XS.iconst X33.here hx rfl (hb hby at_18) ?_
      show Steps p.tables e below (T33.setTop (mkF m 19 #[.val (.int ps), .val (.int p0), .val (.int p1), .val (.int p2), .val (.int (1 : Int32)), .val (.ref b33), .unset, .unset] [(.int (0 : Int32)), (.ref b33)])) _
      refine XS.iloadN X33.here hx rfl (hb hby at_19) rfl ?_
      show Steps p.tables e below (T33.setTop (mkF m 20 #[.val (.int ps), .val (.int p0), .val (.int p1), .val (.int p2), .val (.int (1 : Int32)), .val (.ref b33), .unset, .unset] [(.int p0), (.int (0 : Int32)), (.ref b33)])) _
      refine XS.i2b X33.here hx rfl (hb hby at_20) rfl ?_
      show Steps p.tables e below (T33.setTop (mkF m 21 #[.val (.int ps), .val (.int p0), .val (.int p1), .val (.int p2), .val (.int (1 : Int32)), .val (.ref b33), .unset, .unset] [(.int (p0.toInt8.toInt32)), (.int (0 : Int32)), (.ref b33)])) _
      refine st36 _ ?_
      show Steps p.tables e below (T36.setTop (mkF m 22 #[.val (.int ps), .val (.int p0), .val (.int p1), .val (.int p2), .val (.int (1 : Int32)), .val (.ref b33), .unset, .unset] [])) _
      refine XS.iload X36.here hx rfl (hb hby at_22) rfl ?_
      show Steps p.tables e below (T36.setTop (mkF m 24 #[.val (.int ps), .val (.int p0), .val (.int p1), .val (.int p2), .val (.int (1 : Int32)), .val (.ref b33), .unset, .unset] [(.int (1 : Int32))])) _
      refine XS.iconst X36.here hx rfl (hb hby at_24) ?_
      show Steps p.tables e below (T36.setTop (mkF m 25 #[.val (.int ps), .val (.int p0), .val (.int p1), .val (.int p2), .val (.int (1 : Int32)), .val (.ref b33), .unset, .unset] [(.int (1 : Int32)), (.int (1 : Int32))])) _
      refine XS.icmpYes X36.here hx rfl (pc0 := 25) (pc' := 34) rfl (hb hby at_25) rfl (flt (by decide : ¬ ((1 : Int32) < (1 : Int32)))).2.2.2 (by decide) (by decide) ?_
      show Steps p.tables e below (T36.setTop (mkF m 34 #[.val (.int ps), .val (.int p0), .val (.int p1), .val (.int p2), .val (.int (1 : Int32)), .val (.ref b33), .unset, .unset] [])) _
      refine XS.iload X36.here hx rfl (hb hby at_34) rfl ?_
      show Steps p.tables e below (T36.setTop (mkF m 36 #[.val (.int ps), .val (.int p0), .val (.int p1), .val (.int p2), .val (.int (1 : Int32)), .val (.ref b33), .unset, .unset] [(.int (1 : Int32))])) _
      refine XS.iconst X36.here hx rfl (hb hby at_36) ?_
      show Steps p.tables e below (T36.setTop (mkF m 37 #[.val (.int ps), .val (.int p0), .val (.int p1), .val (.int p2), .val (.int (1 : Int32)), .val (.ref b33), .unset, .unset] [(.int (2 : Int32)), (.int (1 : Int32))])) _
      refine XS.icmpYes X36.here hx rfl (pc0 := 37) (pc' := 46) rfl (hb hby at_37) rfl (flt (by decide : ¬ ((2 : Int32) < (1 : Int32)))).2.2.2 (by decide) (by decide) ?_
      show Steps p.tables e below (T36.setTop (mkF m 46 #[.val (.int ps), .val (.int p0), .val (.int p1), .val (.int p2), .val (.int (1 : Int32)), .val (.ref b33), .unset, .unset] [])) _
      refine XS.aload X36.here hx rfl (hb hby at_46) rfl rfl ?_
      show Steps p.tables e below (T36.setTop (mkF m 48 #[.val (.int ps), .val (.int p0), .val (.int p1), .val (.int p2), .val (.int (1 : Int32)), .val (.ref b33), .unset, .unset] [(.ref b33)])) _
      refine st38 _ ?_
      show Steps p.tables e below (T38.setTop (mkF m 51 #[.val (.int ps), .val (.int p0), .val (.int p1), .val (.int p2), .val (.int (1 : Int32)), .val (.ref b33), .unset, .unset] [(.ref rro_38)])) _
      refine XS.astore X38.here hx rfl (hb hby at_51) rfl rfl (l' := #[.val (.int ps), .val (.int p0), .val (.int p1), .val (.int p2), .val (.int (1 : Int32)), .val (.ref b33), .val (.ref rro_38), .unset]) rfl ?_
      show Steps p.tables e below (T38.setTop (mkF m 53 #[.val (.int ps), .val (.int p0), .val (.int p1), .val (.int p2), .val (.int (1 : Int32)), .val (.ref b33), .val (.ref rro_38), .unset] [])) _
      refine XS.aload X38.here hx rfl (hb hby at_53) rfl rfl ?_
      show Steps p.tables e below (T38.setTop (mkF m 55 #[.val (.int ps), .val (.int p0), .val (.int p1), .val (.int p2), .val (.int (1 : Int32)), .val (.ref b33), .val (.ref rro_38), .unset] [(.ref rro_38)])) _
      refine st41.trans ?_
      show Steps p.tables e below (T41.setTop (mkF m 58 #[.val (.int ps), .val (.int p0), .val (.int p1), .val (.int p2), .val (.int (1 : Int32)), .val (.ref b33), .val (.ref rro_38), .unset] [(.ref aK)])) _
      refine st42 _ ?_
      show Steps p.tables e below (T42.setTop (mkF m 61 #[.val (.int ps), .val (.int p0), .val (.int p1), .val (.int p2), .val (.int (1 : Int32)), .val (.ref b33), .val (.ref rro_38), .unset] [(.ref aK), (.ref aK)])) _
      refine Jvm.RoadKit.acmp (g := (mkF m 61 #[.val (.int ps), .val (.int p0), .val (.int p1), .val (.int p2), .val (.int (1 : Int32)), .val (.ref b33), .val (.ref rro_38), .unset] [(.ref aK), (.ref aK)])) X42 hx rfl rfl rfl (pc0 := 61) (pc' := 66) (same := true) rfl (hb hby at_61) rfl (decide_eq_true rfl) (by decide) (by decide) ?_
      show Steps p.tables e below (T42.setTop (mkF m 66 #[.val (.int ps), .val (.int p0), .val (.int p1), .val (.int p2), .val (.int (1 : Int32)), .val (.ref b33), .val (.ref rro_38), .unset] [])) _
      refine XS.aload X42.here hx rfl (hb hby at_66) rfl rfl ?_
      show Steps p.tables e below (T42.setTop (mkF m 68 #[.val (.int ps), .val (.int p0), .val (.int p1), .val (.int p2), .val (.int (1 : Int32)), .val (.ref b33), .val (.ref rro_38), .unset] [(.ref rro_38)])) _
      refine st43.trans ?_
      show Steps p.tables e below (T43.setTop (mkF m 71 #[.val (.int ps), .val (.int p0), .val (.int p1), .val (.int p2), .val (.int (1 : Int32)), .val (.ref b33), .val (.ref rro_38), .unset] [(.ref b33)])) _
      refine XS.astore X43.here hx rfl (hb hby at_71) rfl rfl (l' := #[.val (.int ps), .val (.int p0), .val (.int p1), .val (.int p2), .val (.int (1 : Int32)), .val (.ref b33), .val (.ref rro_38), .val (.ref b33)]) rfl ?_
      show Steps p.tables e below (T43.setTop (mkF m 73 #[.val (.int ps), .val (.int p0), .val (.int p1), .val (.int p2), .val (.int (1 : Int32)), .val (.ref b33), .val (.ref rro_38), .val (.ref b33)] [])) _
      refine XS.aload X43.here hx rfl (hb hby at_73) rfl rfl ?_
      show Steps p.tables e below (T43.setTop (mkF m 75 #[.val (.int ps), .val (.int p0), .val (.int p1), .val (.int p2), .val (.int (1 : Int32)), .val (.ref b33), .val (.ref rro_38), .val (.ref b33)] [(.ref b33)])) _
      refine XS.aload X43.here hx rfl (hb hby at_75) rfl rfl ?_
      show Steps p.tables e below (T43.setTop (mkF m 77 #[.val (.int ps), .val (.int p0), .val (.int p1), .val (.int p2), .val (.int (1 : Int32)), .val (.ref b33), .val (.ref rro_38), .val (.ref b33)] [(.ref b33), (.ref b33)])) _
      refine Jvm.RoadKit.acmp (g := (mkF m 77 #[.val (.int ps), .val (.int p0), .val (.int p1), .val (.int p2), .val (.int (1 : Int32)), .val (.ref b33), .val (.ref rro_38), .val (.ref b33)] [(.ref b33), (.ref b33)])) X43 hx rfl rfl rfl (pc0 := 77) (pc' := 82) (same := true) rfl (hb hby at_77) rfl (decide_eq_true rfl) (by decide) (by decide) ?_
      show Steps p.tables e below (T43.setTop (mkF m 82 #[.val (.int ps), .val (.int p0), .val (.int p1), .val (.int p2), .val (.int (1 : Int32)), .val (.ref b33), .val (.ref rro_38), .val (.ref b33)] [])) _
      refine XS.aload X43.here hx rfl (hb hby at_82) rfl rfl ?_
      show Steps p.tables e below (T43.setTop (mkF m 84 #[.val (.int ps), .val (.int p0), .val (.int p1), .val (.int p2), .val (.int (1 : Int32)), .val (.ref b33), .val (.ref rro_38), .val (.ref b33)] [(.ref b33)])) _
      refine X43.arraylength hx (by rw [e43]; exact Ar44.1) (State.isArrayOf_alike hZ.alike Ar44.2.1) (g := (mkF m 84 #[.val (.int ps), .val (.int p0), .val (.int p1), .val (.int p2), .val (.int (1 : Int32)), .val (.ref b33), .val (.ref rro_38), .val (.ref b33)] [(.ref b33)])) rfl rfl (hb hby at_84) _ ?_
      rw [len_of S44 M44]
      show Steps p.tables e below (T43.setTop (mkF m 85 #[.val (.int ps), .val (.int p0), .val (.int p1), .val (.int p2), .val (.int (1 : Int32)), .val (.ref b33), .val (.ref rro_38), .val (.ref b33)] [(.int (1 : Int32))])) _
      refine XS.iload X43.here hx rfl (hb hby at_85) rfl ?_
      show Steps p.tables e below (T43.setTop (mkF m 87 #[.val (.int ps), .val (.int p0), .val (.int p1), .val (.int p2), .val (.int (1 : Int32)), .val (.ref b33), .val (.ref rro_38), .val (.ref b33)] [(.int (1 : Int32)), (.int (1 : Int32))])) _
      refine XS.icmpYes X43.here hx rfl (pc0 := 87) (pc' := 92) rfl (hb hby at_87) rfl (teq (by decide : ((1 : Int32) = (1 : Int32)))).1 (by decide) (by decide) ?_
      show Steps p.tables e below (T43.setTop (mkF m 92 #[.val (.int ps), .val (.int p0), .val (.int p1), .val (.int p2), .val (.int (1 : Int32)), .val (.ref b33), .val (.ref rro_38), .val (.ref b33)] [])) _
      refine XS.iload X43.here hx rfl (hb hby at_92) rfl ?_
      show Steps p.tables e below (T43.setTop (mkF m 94 #[.val (.int ps), .val (.int p0), .val (.int p1), .val (.int p2), .val (.int (1 : Int32)), .val (.ref b33), .val (.ref rro_38), .val (.ref b33)] [(.int (1 : Int32))])) _
      refine XS.ifNo X43.here hx rfl (hb hby at_94) rfl ((if0 _ _).trans (tlt (by decide : ((0 : Int32) < (1 : Int32)))).2.2.2) ?_
      show Steps p.tables e below (T43.setTop (mkF m 97 #[.val (.int ps), .val (.int p0), .val (.int p1), .val (.int p2), .val (.int (1 : Int32)), .val (.ref b33), .val (.ref rro_38), .val (.ref b33)] [])) _
      refine XS.aload X43.here hx rfl (hb hby at_97) rfl rfl ?_
      show Steps p.tables e below (T43.setTop (mkF m 99 #[.val (.int ps), .val (.int p0), .val (.int p1), .val (.int p2), .val (.int (1 : Int32)), .val (.ref b33), .val (.ref rro_38), .val (.ref b33)] [(.ref b33)])) _
      refine XS.iconst X43.here hx rfl (hb hby at_99) ?_
      show Steps p.tables e below (T43.setTop (mkF m 100 #[.val (.int ps), .val (.int p0), .val (.int p1), .val (.int p2), .val (.int (1 : Int32)), .val (.ref b33), .val (.ref rro_38), .val (.ref b33)] [(.int (0 : Int32)), (.ref b33)])) _
      refine X43.baloadBytes hx (j := (0 : Int32)) (v := (.int (nar .byte (p0.toInt8.toInt32)))) (by rw [e43]; exact Ar45.1) (State.isArrayOf_alike hZ.alike Ar45.2.1) Ar45.2.2 hin45 hat45 (g := (mkF m 100 #[.val (.int ps), .val (.int p0), .val (.int p1), .val (.int p2), .val (.int (1 : Int32)), .val (.ref b33), .val (.ref rro_38), .val (.ref b33)] [(.int (0 : Int32)), (.ref b33)])) rfl rfl (hb hby at_100) _ ?_
      show Steps p.tables e below (T43.setTop (mkF m 101 #[.val (.int ps), .val (.int p0), .val (.int p1), .val (.int p2), .val (.int (1 : Int32)), .val (.ref b33), .val (.ref rro_38), .val (.ref b33)] [(.int (nar .byte (p0.toInt8.toInt32)))])) _
      refine XS.iloadN X43.here hx rfl (hb hby at_101) rfl ?_
      show Steps p.tables e below (T43.setTop (mkF m 102 #[.val (.int ps), .val (.int p0), .val (.int p1), .val (.int p2), .val (.int (1 : Int32)), .val (.ref b33), .val (.ref rro_38), .val (.ref b33)] [(.int p0), (.int (nar .byte (p0.toInt8.toInt32)))])) _
      refine XS.i2b X43.here hx rfl (hb hby at_102) rfl ?_
      show Steps p.tables e below (T43.setTop (mkF m 103 #[.val (.int ps), .val (.int p0), .val (.int p1), .val (.int p2), .val (.int (1 : Int32)), .val (.ref b33), .val (.ref rro_38), .val (.ref b33)] [(.int (p0.toInt8.toInt32)), (.int (nar .byte (p0.toInt8.toInt32)))])) _
      refine XS.icmpYes X43.here hx rfl (pc0 := 103) (pc' := 108) rfl (hb hby at_103) rfl (teq (own_nb _ : ((nar .byte (p0.toInt8.toInt32)) = (p0.toInt8.toInt32)))).1 (by decide) (by decide) ?_
      show Steps p.tables e below (T43.setTop (mkF m 108 #[.val (.int ps), .val (.int p0), .val (.int p1), .val (.int p2), .val (.int (1 : Int32)), .val (.ref b33), .val (.ref rro_38), .val (.ref b33)] [])) _
      refine XS.iload X43.here hx rfl (hb hby at_108) rfl ?_
      show Steps p.tables e below (T43.setTop (mkF m 110 #[.val (.int ps), .val (.int p0), .val (.int p1), .val (.int p2), .val (.int (1 : Int32)), .val (.ref b33), .val (.ref rro_38), .val (.ref b33)] [(.int (1 : Int32))])) _
      refine XS.iconst X43.here hx rfl (hb hby at_110) ?_
      show Steps p.tables e below (T43.setTop (mkF m 111 #[.val (.int ps), .val (.int p0), .val (.int p1), .val (.int p2), .val (.int (1 : Int32)), .val (.ref b33), .val (.ref rro_38), .val (.ref b33)] [(.int (1 : Int32)), (.int (1 : Int32))])) _
      refine XS.icmpYes X43.here hx rfl (pc0 := 111) (pc' := 125) rfl (hb hby at_111) rfl (flt (by decide : ¬ ((1 : Int32) < (1 : Int32)))).2.2.2 (by decide) (by decide) ?_
      show Steps p.tables e below (T43.setTop (mkF m 125 #[.val (.int ps), .val (.int p0), .val (.int p1), .val (.int p2), .val (.int (1 : Int32)), .val (.ref b33), .val (.ref rro_38), .val (.ref b33)] [])) _
      refine XS.iload X43.here hx rfl (hb hby at_125) rfl ?_
      show Steps p.tables e below (T43.setTop (mkF m 127 #[.val (.int ps), .val (.int p0), .val (.int p1), .val (.int p2), .val (.int (1 : Int32)), .val (.ref b33), .val (.ref rro_38), .val (.ref b33)] [(.int (1 : Int32))])) _
      refine XS.iconst X43.here hx rfl (hb hby at_127) ?_
      show Steps p.tables e below (T43.setTop (mkF m 128 #[.val (.int ps), .val (.int p0), .val (.int p1), .val (.int p2), .val (.int (1 : Int32)), .val (.ref b33), .val (.ref rro_38), .val (.ref b33)] [(.int (2 : Int32)), (.int (1 : Int32))])) _
      refine XS.icmpYes X43.here hx rfl (pc0 := 128) (pc' := 142) rfl (hb hby at_128) rfl (flt (by decide : ¬ ((2 : Int32) < (1 : Int32)))).2.2.2 (by decide) (by decide) ?_
      show Steps p.tables e below (T43.setTop (mkF m 142 #[.val (.int ps), .val (.int p0), .val (.int p1), .val (.int p2), .val (.int (1 : Int32)), .val (.ref b33), .val (.ref rro_38), .val (.ref b33)] [])) _
      refine XS.iload X43.here hx rfl (hb hby at_142) rfl ?_
      show Steps p.tables e below (T43.setTop (mkF m 144 #[.val (.int ps), .val (.int p0), .val (.int p1), .val (.int p2), .val (.int (1 : Int32)), .val (.ref b33), .val (.ref rro_38), .val (.ref b33)] [(.int (1 : Int32))])) _
      refine XS.ifNo X43.here hx rfl (hb hby at_144) rfl ((if0 _ _).trans (tlt (by decide : ((0 : Int32) < (1 : Int32)))).2.2.2) ?_
      show Steps p.tables e below (T43.setTop (mkF m 147 #[.val (.int ps), .val (.int p0), .val (.int p1), .val (.int p2), .val (.int (1 : Int32)), .val (.ref b33), .val (.ref rro_38), .val (.ref b33)] [])) _
      refine XS.aload X43.here hx rfl (hb hby at_147) rfl rfl ?_
      show Steps p.tables e below (T43.setTop (mkF m 149 #[.val (.int ps), .val (.int p0), .val (.int p1), .val (.int p2), .val (.int (1 : Int32)), .val (.ref b33), .val (.ref rro_38), .val (.ref b33)] [(.ref b33)])) _
      refine XS.iconst X43.here hx rfl (hb hby at_149) ?_
      show Steps p.tables e below (T43.setTop (mkF m 150 #[.val (.int ps), .val (.int p0), .val (.int p1), .val (.int p2), .val (.int (1 : Int32)), .val (.ref b33), .val (.ref rro_38), .val (.ref b33)] [(.int (0 : Int32)), (.ref b33)])) _
      refine XS.iloadN X43.here hx rfl (hb hby at_150) rfl ?_
      show Steps p.tables e below (T43.setTop (mkF m 151 #[.val (.int ps), .val (.int p0), .val (.int p1), .val (.int p2), .val (.int (1 : Int32)), .val (.ref b33), .val (.ref rro_38), .val (.ref b33)] [(.int p0), (.int (0 : Int32)), (.ref b33)])) _
      refine XS.iconst X43.here hx rfl (hb hby at_151) ?_
      show Steps p.tables e below (T43.setTop (mkF m 152 #[.val (.int ps), .val (.int p0), .val (.int p1), .val (.int p2), .val (.int (1 : Int32)), .val (.ref b33), .val (.ref rro_38), .val (.ref b33)] [(.int (1 : Int32)), (.int p0), (.int (0 : Int32)), (.ref b33)])) _
      refine XS.iadd X43.here hx rfl (hb hby at_152) rfl ?_
      show Steps p.tables e below (T43.setTop (mkF m 153 #[.val (.int ps), .val (.int p0), .val (.int p1), .val (.int p2), .val (.int (1 : Int32)), .val (.ref b33), .val (.ref rro_38), .val (.ref b33)] [(.int (p0 + (1 : Int32))), (.int (0 : Int32)), (.ref b33)])) _
      refine XS.i2b X43.here hx rfl (hb hby at_153) rfl ?_
      show Steps p.tables e below (T43.setTop (mkF m 154 #[.val (.int ps), .val (.int p0), .val (.int p1), .val (.int p2), .val (.int (1 : Int32)), .val (.ref b33), .val (.ref rro_38), .val (.ref b33)] [(.int ((p0 + (1 : Int32)).toInt8.toInt32)), (.int (0 : Int32)), (.ref b33)])) _
      refine st47 _ ?_
      show Steps p.tables e below (T47.setTop (mkF m 155 #[.val (.int ps), .val (.int p0), .val (.int p1), .val (.int p2), .val (.int (1 : Int32)), .val (.ref b33), .val (.ref rro_38), .val (.ref b33)] [])) _
      refine XS.aload X47.here hx rfl (hb hby at_155) rfl rfl ?_
      show Steps p.tables e below (T47.setTop (mkF m 157 #[.val (.int ps), .val (.int p0), .val (.int p1), .val (.int p2), .val (.int (1 : Int32)), .val (.ref b33), .val (.ref rro_38), .val (.ref b33)] [(.ref rro_38)])) _
      refine st52.trans ?_
      show Steps p.tables e below (T52.setTop (mkF m 160 #[.val (.int ps), .val (.int p0), .val (.int p1), .val (.int p2), .val (.int (1 : Int32)), .val (.ref b33), .val (.ref rro_38), .val (.ref b33)] [(.ref b33)])) _
      refine XS.iconst X52.here hx rfl (hb hby at_160) ?_
      show Steps p.tables e below (T52.setTop (mkF m 161 #[.val (.int ps), .val (.int p0), .val (.int p1), .val (.int p2), .val (.int (1 : Int32)), .val (.ref b33), .val (.ref rro_38), .val (.ref b33)] [(.int (0 : Int32)), (.ref b33)])) _
      refine X52.baloadBytes hx (j := (0 : Int32)) (v := (.int (nar .byte ((p0 + (1 : Int32)).toInt8.toInt32)))) (by rw [e52]; exact Ar53.1) (State.isArrayOf_alike hZ.alike Ar53.2.1) Ar53.2.2 hin53 hat53 (g := (mkF m 161 #[.val (.int ps), .val (.int p0), .val (.int p1), .val (.int p2), .val (.int (1 : Int32)), .val (.ref b33), .val (.ref rro_38), .val (.ref b33)] [(.int (0 : Int32)), (.ref b33)])) rfl rfl (hb hby at_161) _ ?_
      show Steps p.tables e below (T52.setTop (mkF m 162 #[.val (.int ps), .val (.int p0), .val (.int p1), .val (.int p2), .val (.int (1 : Int32)), .val (.ref b33), .val (.ref rro_38), .val (.ref b33)] [(.int (nar .byte ((p0 + (1 : Int32)).toInt8.toInt32)))])) _
      refine XS.iloadN X52.here hx rfl (hb hby at_162) rfl ?_
      show Steps p.tables e below (T52.setTop (mkF m 163 #[.val (.int ps), .val (.int p0), .val (.int p1), .val (.int p2), .val (.int (1 : Int32)), .val (.ref b33), .val (.ref rro_38), .val (.ref b33)] [(.int p0), (.int (nar .byte ((p0 + (1 : Int32)).toInt8.toInt32)))])) _
      refine XS.iconst X52.here hx rfl (hb hby at_163) ?_
      show Steps p.tables e below (T52.setTop (mkF m 164 #[.val (.int ps), .val (.int p0), .val (.int p1), .val (.int p2), .val (.int (1 : Int32)), .val (.ref b33), .val (.ref rro_38), .val (.ref b33)] [(.int (1 : Int32)), (.int p0), (.int (nar .byte ((p0 + (1 : Int32)).toInt8.toInt32)))])) _
      refine XS.iadd X52.here hx rfl (hb hby at_164) rfl ?_
      show Steps p.tables e below (T52.setTop (mkF m 165 #[.val (.int ps), .val (.int p0), .val (.int p1), .val (.int p2), .val (.int (1 : Int32)), .val (.ref b33), .val (.ref rro_38), .val (.ref b33)] [(.int (p0 + (1 : Int32))), (.int (nar .byte ((p0 + (1 : Int32)).toInt8.toInt32)))])) _
      refine XS.i2b X52.here hx rfl (hb hby at_165) rfl ?_
      show Steps p.tables e below (T52.setTop (mkF m 166 #[.val (.int ps), .val (.int p0), .val (.int p1), .val (.int p2), .val (.int (1 : Int32)), .val (.ref b33), .val (.ref rro_38), .val (.ref b33)] [(.int ((p0 + (1 : Int32)).toInt8.toInt32)), (.int (nar .byte ((p0 + (1 : Int32)).toInt8.toInt32)))])) _
      refine XS.icmpYes X52.here hx rfl (pc0 := 166) (pc' := 171) rfl (hb hby at_166) rfl (teq (own_nb _ : ((nar .byte ((p0 + (1 : Int32)).toInt8.toInt32)) = ((p0 + (1 : Int32)).toInt8.toInt32)))).1 (by decide) (by decide) ?_
      show Steps p.tables e below (T52.setTop (mkF m 171 #[.val (.int ps), .val (.int p0), .val (.int p1), .val (.int p2), .val (.int (1 : Int32)), .val (.ref b33), .val (.ref rro_38), .val (.ref b33)] [])) _
      refine XS.iconst X52.here hx rfl (hb hby at_171) ?_
      show Steps p.tables e below (T52.setTop (mkF m 172 #[.val (.int ps), .val (.int p0), .val (.int p1), .val (.int p2), .val (.int (1 : Int32)), .val (.ref b33), .val (.ref rro_38), .val (.ref b33)] [(.int (1 : Int32))])) _
      exact retN X52 hx (t := .boolean) Bd.returns (by simp) (hb hby at_172) hr
    · show Q0 Z ps p0 p1 p2 aK h0 n0 _ T52.heap _
      rw [e52]
      exact ⟨rfl, N52⟩
  · rw [hq22] at pre19
    obtain ⟨T54, h54, k54, X54, e54, E54, A54, st54⟩ := newP X0 hx hZ (hw _ (List.mem_of_getElem? (i := 0) rfl)) e0 (g := (mkF m 7 #[.val (.int ps), .val (.int p0), .val (.int p1), .val (.int p2), .val (.int (2 : Int32)), .unset, .unset, .unset] [(.int (2 : Int32))])) rfl (hb hby at_7) rfl (by decide) (cap := 2) (by decide) (by decide) (by decide) (by decide)
    obtain ⟨b54, g54⟩ : ∃ z, z = h0.size := ⟨_, rfl⟩
    rw [← g54] at A54 st54
    have g_b54 : n0 ≤ b54 := Nat.le_trans Z0 (Nat.le_of_eq g54.symm)
    have sz_b54 : h0.size ≤ b54 := Nat.le_of_eq g54.symm
    have Zs54 : n0 ≤ h54.size := Nat.le_trans Z0 E54.1
    have KK54 : Keep h0 h54 [] := (Keep.refl h0 _).ext E54
    have O54 := O0.ext E54
    have f55 := (S_KEEP.ext O0.2).ext E54
    have V54 : Arv Z h54 b54 k54 .byte (2 : Int32) [(.int (0 : Int32)), (.int (0 : Int32))] (.int (0 : Int32)) := (Arv.new A54 (by decide)).pad (pad_rep [] (.int (0 : Int32)) 2)
    obtain ⟨cl56, Ar56, q56, S56, N56, H56, G56⟩ := id V54
    have hin56 : ¬ ((0 : Int32) < 0 ∨ cl56.slots.size ≤ ((0 : Int32)).toNatClampNeg) := inb_of S56 ⟨by decide, by decide⟩
    obtain ⟨T57, h57, X57, e57, W57, st57⟩ := stB X54 hx hZ e54 Ar56 (j := (0 : Int32)) hin56 (g := (mkF m 21 #[.val (.int ps), .val (.int p0), .val (.int p1), .val (.int p2), .val (.int (2 : Int32)), .val (.ref b54), .unset, .unset] [(.int (p0.toInt8.toInt32)), (.int (0 : Int32)), (.ref b54)])) rfl rfl (hb hby at_21)
    have V57 : Arv Z h57 b54 k54 .byte (2 : Int32) [(.int (nar .byte (p0.toInt8.toInt32))), (.int (0 : Int32))] (.int (0 : Int32)) := Arv.set Ar56 q56 S56 N56 H56 G56 (fits_nar_byte (p0.toInt8.toInt32)) W57 0 rfl (Nat.le_of_ble_eq_true rfl)
    have N57 := Fr.snoc X57 N0 g_b54
    have Zs57 : n0 ≤ h57.size := Nat.le_trans Zs54 (Keep.of_wr W57).1
    have KK57 : Keep h0 h57 [] := KK54.wr W57 (Or.inr sz_b54)
    have O57 := O54.wr W57 g_b54
    have f58 := f55.wr W57
    obtain ⟨cl59, Ar59, q59, S59, N59, H59, G59⟩ := id V57
    have hin59 : ¬ ((1 : Int32) < 0 ∨ cl59.slots.size ≤ ((1 : Int32)).toNatClampNeg) := inb_of S59 ⟨by decide, by decide⟩
    obtain ⟨T60, h60, X60, e60, W60, st60⟩ := stB X57 hx hZ e57 Ar59 (j := (1 : Int32)) hin59 (g := (mkF m 33 #[.val (.int ps), .val (.int p0), .val (.int p1), .val (.int p2), .val (.int (2 : Int32)), .val (.ref b54), .unset, .unset] [(.int (p1.toInt8.toInt32)), (.int (1 : Int32)), (.ref b54)])) rfl rfl (hb hby at_33)
    have V60 : Arv Z h60 b54 k54 .byte (2 : Int32) [(.int (nar .byte (p0.toInt8.toInt32))), (.int (nar .byte (p1.toInt8.toInt32)))] (.int (0 : Int32)) := Arv.set Ar59 q59 S59 N59 H59 G59 (fits_nar_byte (p1.toInt8.toInt32)) W60 1 rfl (Nat.le_of_ble_eq_true rfl)
    have N60 := Fr.snoc X60 N57 g_b54
    have Zs60 : n0 ≤ h60.size := Nat.le_trans Zs57 (Keep.of_wr W60).1
    have KK60 : Keep h0 h60 [] := KK57.wr W60 (Or.inr sz_b54)
    have O60 := O57.wr W60 g_b54
    have f61 := f58.wr W60
    obtain ⟨_, _, ⟨T62, L62, k62, n62⟩, -, X62, ⟨Lc62, hQ62, l62, y62, z62⟩, st62⟩ := Jvm.LawKit.callS X60 hx (y := (⟨"com/example/webhook_acknowledger/webhookacknowledger/receive/Verdict", "keepOnce", "([B)Lcom/example/webhook_acknowledger/webhookacknowledger/receive/Verdict;"⟩ : MethodName)) hown (mvT hZ (hw _ (List.mem_of_getElem? (i := 1) rfl))) (mvT hZ (hw _ (List.mem_of_getElem? (i := 2) rfl))) (mvT hZ (hw _ (List.mem_of_getElem? (i := 3) rfl))) (mvT hZ (hw _ (List.mem_of_getElem? (i := 4) rfl))) (by decide) (backOf (W := 0) (rm1 l Z a0 hw [] b54 aK h60 n0 Zs60 f61) hZ (hw _ (List.mem_of_getElem? (i := 4) rfl)) (hw _ (List.mem_of_getElem? (i := 3) rfl)) (by decide) (by decide)) (g := (mkF m 48 #[.val (.int ps), .val (.int p0), .val (.int p1), .val (.int p2), .val (.int (2 : Int32)), .val (.ref b54), .unset, .unset] [(.ref b54)])) rfl (by rw [hml]; rfl) (argsL := [(.ref b54)]) (rest := []) (lenOf own_pd23 rfl) rfl (by show 2 * 0 + _ ≤ _; exact Nat.le_of_eq rfl) (hb hby at_48) (fun _ _ => ⟨rfl, e60, (by decide : 1 + 1 ≤ _), (by decide : 2 + 2 ≤ _)⟩)
    dsimp only [Pt.U, Pt.locs, Pt.cells, Pt.slots] at X62 l62 y62 z62 st62 hQ62
    subst l62 y62 z62
    obtain ⟨rro_62, rfl, Nq62, K62, p62_0, p62_1, p62_2, p62_3, p62_4⟩ := hQ62
    have N62 := Fr.app N60 Nq62
    have Zs62 : n0 ≤ T62.heap.size := Nat.le_trans Zs60 K62.1
    have KK62 : Keep h0 T62.heap [] := KK60.trans K62 all0
    have ne_b54_rro_62 : b54 ≠ rro_62 := Nat.ne_of_lt (Nat.lt_of_lt_of_le V60.lt p62_4)
    have sz_rro_62 : h0.size ≤ rro_62 := Nat.le_trans KK60.1 p62_4
    have O62 := O60.keep K62 (all0)
    have f63 := S_KEEP.ext O62.2
    have f64 := V60.keep K62 nin0
    have g_rro_62 := p62_3
    obtain ⟨cq65, kq65, q65a, q65b, q65c⟩ := isOf hZ rfl p62_0
    obtain ⟨_, _, ⟨T65, L65, k65, n65⟩, -, X65, ⟨Lc65, hQ65, l65, y65, z65⟩, st65⟩ := X62.virtualBack hx (y := (⟨"com/example/webhook_acknowledger/webhookacknowledger/receive/Verdict", "outcome", "()Lcom/example/webhook_acknowledger/webhookacknowledger/receive/Verdict$Outcome;"⟩ : MethodName)) (z := (⟨"com/example/webhook_acknowledger/webhookacknowledger/receive/Verdict", "outcome", "()Lcom/example/webhook_acknowledger/webhookacknowledger/receive/Verdict$Outcome;"⟩ : MethodName)) hown (mvT hZ (hw _ (List.mem_of_getElem? (i := 20) rfl))) (mvT hZ (hw _ (List.mem_of_getElem? (i := 21) rfl))) (notFace_of_selects (args := #[]) (mvT hZ (hw _ (List.mem_of_getElem? (i := 23) rfl)))) (mvT hZ (hw _ (List.mem_of_getElem? (i := 23) rfl))) (mvT hZ (hw _ (List.mem_of_getElem? (i := 22) rfl))) (by decide) (backOf (W := 0) (rm4 l Z a0 hw [] rro_62 aK T62.heap n0 Zs62 p62_1) hZ (hw _ (List.mem_of_getElem? (i := 24) rfl)) (hw _ (List.mem_of_getElem? (i := 3) rfl)) (by decide) (by decide)) q65a q65c (g := (mkF m 55 #[.val (.int ps), .val (.int p0), .val (.int p1), .val (.int p2), .val (.int (2 : Int32)), .val (.ref b54), .val (.ref rro_62), .unset] [(.ref rro_62)])) rfl (by rw [hml]; rfl) (Steps.refl _) (argsL := []) (rest := []) (lenOf own_pd24 rfl) rfl (by show 2 * 0 + _ ≤ _; exact Nat.le_of_eq rfl) (hb hby at_55) (fun _ _ => ⟨rfl, rfl, (by decide : 2 + 0 ≤ _), (by decide : 4 + 0 ≤ _)⟩)
    dsimp only [Pt.U, Pt.locs, Pt.cells, Pt.slots] at X65 l65 y65 z65 st65 hQ65
    subst l65 y65 z65
    obtain ⟨rfl, Nq65, e65⟩ := hQ65
    have N65 := Fr.app N62 Nq65
    obtain ⟨T66, X66, e66, st66⟩ := getS2 X65 hx hZ hown (host := "") (Or.inl (hw _ (List.mem_of_getElem? (i := 25) rfl))) Via.refl e65 f63 (g := (mkF m 58 #[.val (.int ps), .val (.int p0), .val (.int p1), .val (.int p2), .val (.int (2 : Int32)), .val (.ref b54), .val (.ref rro_62), .unset] [(.ref aK)])) rfl (hb hby at_58)
    obtain ⟨cq67, kq67, q67a, q67b, q67c⟩ := isOf hZ e66 p62_0
    obtain ⟨_, _, ⟨T67, L67, k67, n67⟩, -, X67, ⟨Lc67, hQ67, l67, y67, z67⟩, st67⟩ := X66.virtualBack hx (y := (⟨"com/example/webhook_acknowledger/webhookacknowledger/receive/Verdict", "id", "()[B"⟩ : MethodName)) (z := (⟨"com/example/webhook_acknowledger/webhookacknowledger/receive/Verdict", "id", "()[B"⟩ : MethodName)) hown (mvT hZ (hw _ (List.mem_of_getElem? (i := 26) rfl))) (mvT hZ (hw _ (List.mem_of_getElem? (i := 27) rfl))) (notFace_of_selects (args := #[]) (mvT hZ (hw _ (List.mem_of_getElem? (i := 29) rfl)))) (mvT hZ (hw _ (List.mem_of_getElem? (i := 29) rfl))) (mvT hZ (hw _ (List.mem_of_getElem? (i := 28) rfl))) (by decide) (backOf (W := 0) (rm5 l Z a0 hw [] rro_62 b54 T62.heap n0 Zs62 p62_2) hZ (hw _ (List.mem_of_getElem? (i := 30) rfl)) (hw _ (List.mem_of_getElem? (i := 3) rfl)) (by decide) (by decide)) q67a q67c (g := (mkF m 68 #[.val (.int ps), .val (.int p0), .val (.int p1), .val (.int p2), .val (.int (2 : Int32)), .val (.ref b54), .val (.ref rro_62), .unset] [(.ref rro_62)])) rfl (by rw [hml]; rfl) (Steps.refl _) (argsL := []) (rest := []) (lenOf own_pd25 rfl) rfl (by show 2 * 0 + _ ≤ _; exact Nat.le_of_eq rfl) (hb hby at_68) (fun _ _ => ⟨rfl, e66, (by decide : 2 + 0 ≤ _), (by decide : 4 + 0 ≤ _)⟩)
    dsimp only [Pt.U, Pt.locs, Pt.cells, Pt.slots] at X67 l67 y67 z67 st67 hQ67
    subst l67 y67 z67
    obtain ⟨rfl, Nq67, e67⟩ := hQ67
    have N67 := Fr.app N65 Nq67
    obtain ⟨cl68, Ar68, -, S68, M68, -, -⟩ := id f64
    obtain ⟨cl69, Ar69, -, S69, -, H69, -⟩ := id f64
    have hin69 : ¬ ((0 : Int32) < 0 ∨ cl69.slots.size ≤ ((0 : Int32)).toNatClampNeg) := inb_of S69 ⟨by decide, by decide⟩
    have hat69 : cl69.slots[((0 : Int32)).toNatClampNeg]? = some (.int (nar .byte (p0.toInt8.toInt32))) := H69.at hin69 rfl
    obtain ⟨cl70, Ar70, -, S70, -, H70, -⟩ := id f64
    have hin70 : ¬ ((1 : Int32) < 0 ∨ cl70.slots.size ≤ ((1 : Int32)).toNatClampNeg) := inb_of S70 ⟨by decide, by decide⟩
    have hat70 : cl70.slots[((1 : Int32)).toNatClampNeg]? = some (.int (nar .byte (p1.toInt8.toInt32))) := H70.at hin70 rfl
    obtain ⟨cl71, Ar71, q71, S71, N71, H71, G71⟩ := id f64
    have hin71 : ¬ ((0 : Int32) < 0 ∨ cl71.slots.size ≤ ((0 : Int32)).toNatClampNeg) := inb_of S71 ⟨by decide, by decide⟩
    obtain ⟨T72, h72, X72, e72, W72, st72⟩ := stB X67 hx hZ e67 Ar71 (j := (0 : Int32)) hin71 (g := (mkF m 154 #[.val (.int ps), .val (.int p0), .val (.int p1), .val (.int p2), .val (.int (2 : Int32)), .val (.ref b54), .val (.ref rro_62), .val (.ref b54)] [(.int ((p0 + (1 : Int32)).toInt8.toInt32)), (.int (0 : Int32)), (.ref b54)])) rfl rfl (hb hby at_154)
    have V72 : Arv Z h72 b54 k54 .byte (2 : Int32) [(.int (nar .byte ((p0 + (1 : Int32)).toInt8.toInt32))), (.int (nar .byte (p1.toInt8.toInt32)))] (.int (0 : Int32)) := Arv.set Ar71 q71 S71 N71 H71 G71 (fits_nar_byte ((p0 + (1 : Int32)).toInt8.toInt32)) W72 0 rfl (Nat.le_of_ble_eq_true rfl)
    have N72 := Fr.snoc X72 N67 g_b54
    have Zs72 : n0 ≤ h72.size := Nat.le_trans Zs62 (Keep.of_wr W72).1
    have KK72 : Keep h0 h72 [] := KK62.wr W72 (Or.inr sz_b54)
    have O72 := O62.wr W72 g_b54
    have f73 := f63.wr W72
    have f74 := p62_0.wr W72
    have f75 := p62_1.other W72 (Or.inl (Ne.symm ne_b54_rro_62))
    have f76 := p62_2.other W72 (Or.inl (Ne.symm ne_b54_rro_62))
    obtain ⟨cq77, kq77, q77a, q77b, q77c⟩ := isOf hZ e72 f74
    obtain ⟨_, _, ⟨T77, L77, k77, n77⟩, -, X77, ⟨Lc77, hQ77, l77, y77, z77⟩, st77⟩ := X72.virtualBack hx (y := (⟨"com/example/webhook_acknowledger/webhookacknowledger/receive/Verdict", "id", "()[B"⟩ : MethodName)) (z := (⟨"com/example/webhook_acknowledger/webhookacknowledger/receive/Verdict", "id", "()[B"⟩ : MethodName)) hown (mvT hZ (hw _ (List.mem_of_getElem? (i := 26) rfl))) (mvT hZ (hw _ (List.mem_of_getElem? (i := 27) rfl))) (notFace_of_selects (args := #[]) (mvT hZ (hw _ (List.mem_of_getElem? (i := 29) rfl)))) (mvT hZ (hw _ (List.mem_of_getElem? (i := 29) rfl))) (mvT hZ (hw _ (List.mem_of_getElem? (i := 28) rfl))) (by decide) (backOf (W := 0) (rm5 l Z a0 hw [] rro_62 b54 h72 n0 Zs72 f76) hZ (hw _ (List.mem_of_getElem? (i := 30) rfl)) (hw _ (List.mem_of_getElem? (i := 3) rfl)) (by decide) (by decide)) q77a q77c (g := (mkF m 157 #[.val (.int ps), .val (.int p0), .val (.int p1), .val (.int p2), .val (.int (2 : Int32)), .val (.ref b54), .val (.ref rro_62), .val (.ref b54)] [(.ref rro_62)])) rfl (by rw [hml]; rfl) (Steps.refl _) (argsL := []) (rest := []) (lenOf own_pd25 rfl) rfl (by show 2 * 0 + _ ≤ _; exact Nat.le_of_eq rfl) (hb hby at_157) (fun _ _ => ⟨rfl, e72, (by decide : 2 + 0 ≤ _), (by decide : 4 + 0 ≤ _)⟩)
    dsimp only [Pt.U, Pt.locs, Pt.cells, Pt.slots] at X77 l77 y77 z77 st77 hQ77
    subst l77 y77 z77
    obtain ⟨rfl, Nq77, e77⟩ := hQ77
    have N77 := Fr.app N72 Nq77
    obtain ⟨cl78, Ar78, -, S78, -, H78, -⟩ := id V72
    have hin78 : ¬ ((0 : Int32) < 0 ∨ cl78.slots.size ≤ ((0 : Int32)).toNatClampNeg) := inb_of S78 ⟨by decide, by decide⟩
    have hat78 : cl78.slots[((0 : Int32)).toNatClampNeg]? = some (.int (nar .byte ((p0 + (1 : Int32)).toInt8.toInt32))) := H78.at hin78 rfl
    obtain ⟨fs, hr, hrun, hended, hW, hsame⟩ := X77.leave (v := some (.int (1 : Int32))) (fun h => by rw [Bd.returns] at h; cases h)
    refine ⟨_, _, pre19 _ ?_, hrun, hended, _, _, rfl, ?_, ⟨_, rfl⟩, hW, hsame.mono (by decide) (by decide)⟩
    · show Steps p.tables e below (s₁.setTop (mkF m 5 #[.val (.int ps), .val (.int p0), .val (.int p1), .val (.int p2), .val (.int (2 : Int32)), .unset, .unset, .unset] [])) _
      refine XS.iload X0.here hx rfl (hb hby at_5) rfl ?_
      show Steps p.tables e below (s₁.setTop (mkF m 7 #[.val (.int ps), .val (.int p0), .val (.int p1), .val (.int p2), .val (.int (2 : Int32)), .unset, .unset, .unset] [(.int (2 : Int32))])) _
      refine st54 _ ?_
      show Steps p.tables e below (T54.setTop (mkF m 9 #[.val (.int ps), .val (.int p0), .val (.int p1), .val (.int p2), .val (.int (2 : Int32)), .unset, .unset, .unset] [(.ref b54)])) _
      refine XS.astore X54.here hx rfl (hb hby at_9) rfl rfl (l' := #[.val (.int ps), .val (.int p0), .val (.int p1), .val (.int p2), .val (.int (2 : Int32)), .val (.ref b54), .unset, .unset]) rfl ?_
      show Steps p.tables e below (T54.setTop (mkF m 11 #[.val (.int ps), .val (.int p0), .val (.int p1), .val (.int p2), .val (.int (2 : Int32)), .val (.ref b54), .unset, .unset] [])) _
      refine XS.iload X54.here hx rfl (hb hby at_11) rfl ?_
      show Steps p.tables e below (T54.setTop (mkF m 13 #[.val (.int ps), .val (.int p0), .val (.int p1), .val (.int p2), .val (.int (2 : Int32)), .val (.ref b54), .unset, .unset] [(.int (2 : Int32))])) _
      refine XS.ifNo X54.here hx rfl (hb hby at_13) rfl ((if0 _ _).trans (tlt (by decide : ((0 : Int32) < (2 : Int32)))).2.2.2) ?_
      show Steps p.tables e below (T54.setTop (mkF m 16 #[.val (.int ps), .val (.int p0), .val (.int p1), .val (.int p2), .val (.int (2 : Int32)), .val (.ref b54), .unset, .unset] [])) _
      refine XS.aload X54.here hx rfl (hb hby at_16) rfl rfl ?_
      show Steps p.tables e below (T54.setTop (mkF m 18 #[.val (.int ps), .val (.int p0), .val (.int p1), .val (.int p2), .val (.int (2 : Int32)), .val (.ref b54), .unset, .unset] [(.ref b54)])) _
      refine XS.iconst X54.here hx rfl (hb hby at_18) ?_
      show Steps p.tables e below (T54.setTop (mkF m 19 #[.val (.int ps), .val (.int p0), .val (.int p1), .val (.int p2), .val (.int (2 : Int32)), .val (.ref b54), .unset, .unset] [(.int (0 : Int32)), (.ref b54)])) _
      refine XS.iloadN X54.here hx rfl (hb hby at_19) rfl ?_
      show Steps p.tables e below (T54.setTop (mkF m 20 #[.val (.int ps), .val (.int p0), .val (.int p1), .val (.int p2), .val (.int (2 : Int32)), .val (.ref b54), .unset, .unset] [(.int p0), (.int (0 : Int32)), (.ref b54)])) _
      refine XS.i2b X54.here hx rfl (hb hby at_20) rfl ?_
      show Steps p.tables e below (T54.setTop (mkF m 21 #[.val (.int ps), .val (.int p0), .val (.int p1), .val (.int p2), .val (.int (2 : Int32)), .val (.ref b54), .unset, .unset] [(.int (p0.toInt8.toInt32)), (.int (0 : Int32)), (.ref b54)])) _
      refine st57 _ ?_
      show Steps p.tables e below (T57.setTop (mkF m 22 #[.val (.int ps), .val (.int p0), .val (.int p1), .val (.int p2), .val (.int (2 : Int32)), .val (.ref b54), .unset, .unset] [])) _
      refine XS.iload X57.here hx rfl (hb hby at_22) rfl ?_
      show Steps p.tables e below (T57.setTop (mkF m 24 #[.val (.int ps), .val (.int p0), .val (.int p1), .val (.int p2), .val (.int (2 : Int32)), .val (.ref b54), .unset, .unset] [(.int (2 : Int32))])) _
      refine XS.iconst X57.here hx rfl (hb hby at_24) ?_
      show Steps p.tables e below (T57.setTop (mkF m 25 #[.val (.int ps), .val (.int p0), .val (.int p1), .val (.int p2), .val (.int (2 : Int32)), .val (.ref b54), .unset, .unset] [(.int (1 : Int32)), (.int (2 : Int32))])) _
      refine XS.icmpNo X57.here hx rfl (hb hby at_25) rfl (tlt (by decide : ((1 : Int32) < (2 : Int32)))).2.2.2 ?_
      show Steps p.tables e below (T57.setTop (mkF m 28 #[.val (.int ps), .val (.int p0), .val (.int p1), .val (.int p2), .val (.int (2 : Int32)), .val (.ref b54), .unset, .unset] [])) _
      refine XS.aload X57.here hx rfl (hb hby at_28) rfl rfl ?_
      show Steps p.tables e below (T57.setTop (mkF m 30 #[.val (.int ps), .val (.int p0), .val (.int p1), .val (.int p2), .val (.int (2 : Int32)), .val (.ref b54), .unset, .unset] [(.ref b54)])) _
      refine XS.iconst X57.here hx rfl (hb hby at_30) ?_
      show Steps p.tables e below (T57.setTop (mkF m 31 #[.val (.int ps), .val (.int p0), .val (.int p1), .val (.int p2), .val (.int (2 : Int32)), .val (.ref b54), .unset, .unset] [(.int (1 : Int32)), (.ref b54)])) _
      refine XS.iloadN X57.here hx rfl (hb hby at_31) rfl ?_
      show Steps p.tables e below (T57.setTop (mkF m 32 #[.val (.int ps), .val (.int p0), .val (.int p1), .val (.int p2), .val (.int (2 : Int32)), .val (.ref b54), .unset, .unset] [(.int p1), (.int (1 : Int32)), (.ref b54)])) _
      refine XS.i2b X57.here hx rfl (hb hby at_32) rfl ?_
      show Steps p.tables e below (T57.setTop (mkF m 33 #[.val (.int ps), .val (.int p0), .val (.int p1), .val (.int p2), .val (.int (2 : Int32)), .val (.ref b54), .unset, .unset] [(.int (p1.toInt8.toInt32)), (.int (1 : Int32)), (.ref b54)])) _
      refine st60 _ ?_
      show Steps p.tables e below (T60.setTop (mkF m 34 #[.val (.int ps), .val (.int p0), .val (.int p1), .val (.int p2), .val (.int (2 : Int32)), .val (.ref b54), .unset, .unset] [])) _
      refine XS.iload X60.here hx rfl (hb hby at_34) rfl ?_
      show Steps p.tables e below (T60.setTop (mkF m 36 #[.val (.int ps), .val (.int p0), .val (.int p1), .val (.int p2), .val (.int (2 : Int32)), .val (.ref b54), .unset, .unset] [(.int (2 : Int32))])) _
      refine XS.iconst X60.here hx rfl (hb hby at_36) ?_
      show Steps p.tables e below (T60.setTop (mkF m 37 #[.val (.int ps), .val (.int p0), .val (.int p1), .val (.int p2), .val (.int (2 : Int32)), .val (.ref b54), .unset, .unset] [(.int (2 : Int32)), (.int (2 : Int32))])) _
      refine XS.icmpYes X60.here hx rfl (pc0 := 37) (pc' := 46) rfl (hb hby at_37) rfl (flt (by decide : ¬ ((2 : Int32) < (2 : Int32)))).2.2.2 (by decide) (by decide) ?_
      show Steps p.tables e below (T60.setTop (mkF m 46 #[.val (.int ps), .val (.int p0), .val (.int p1), .val (.int p2), .val (.int (2 : Int32)), .val (.ref b54), .unset, .unset] [])) _
      refine XS.aload X60.here hx rfl (hb hby at_46) rfl rfl ?_
      show Steps p.tables e below (T60.setTop (mkF m 48 #[.val (.int ps), .val (.int p0), .val (.int p1), .val (.int p2), .val (.int (2 : Int32)), .val (.ref b54), .unset, .unset] [(.ref b54)])) _
      refine st62 _ ?_
      show Steps p.tables e below (T62.setTop (mkF m 51 #[.val (.int ps), .val (.int p0), .val (.int p1), .val (.int p2), .val (.int (2 : Int32)), .val (.ref b54), .unset, .unset] [(.ref rro_62)])) _
      refine XS.astore X62.here hx rfl (hb hby at_51) rfl rfl (l' := #[.val (.int ps), .val (.int p0), .val (.int p1), .val (.int p2), .val (.int (2 : Int32)), .val (.ref b54), .val (.ref rro_62), .unset]) rfl ?_
      show Steps p.tables e below (T62.setTop (mkF m 53 #[.val (.int ps), .val (.int p0), .val (.int p1), .val (.int p2), .val (.int (2 : Int32)), .val (.ref b54), .val (.ref rro_62), .unset] [])) _
      refine XS.aload X62.here hx rfl (hb hby at_53) rfl rfl ?_
      show Steps p.tables e below (T62.setTop (mkF m 55 #[.val (.int ps), .val (.int p0), .val (.int p1), .val (.int p2), .val (.int (2 : Int32)), .val (.ref b54), .val (.ref rro_62), .unset] [(.ref rro_62)])) _
      refine st65.trans ?_
      show Steps p.tables e below (T65.setTop (mkF m 58 #[.val (.int ps), .val (.int p0), .val (.int p1), .val (.int p2), .val (.int (2 : Int32)), .val (.ref b54), .val (.ref rro_62), .unset] [(.ref aK)])) _
      refine st66 _ ?_
      show Steps p.tables e below (T66.setTop (mkF m 61 #[.val (.int ps), .val (.int p0), .val (.int p1), .val (.int p2), .val (.int (2 : Int32)), .val (.ref b54), .val (.ref rro_62), .unset] [(.ref aK), (.ref aK)])) _
      refine Jvm.RoadKit.acmp (g := (mkF m 61 #[.val (.int ps), .val (.int p0), .val (.int p1), .val (.int p2), .val (.int (2 : Int32)), .val (.ref b54), .val (.ref rro_62), .unset] [(.ref aK), (.ref aK)])) X66 hx rfl rfl rfl (pc0 := 61) (pc' := 66) (same := true) rfl (hb hby at_61) rfl (decide_eq_true rfl) (by decide) (by decide) ?_
      show Steps p.tables e below (T66.setTop (mkF m 66 #[.val (.int ps), .val (.int p0), .val (.int p1), .val (.int p2), .val (.int (2 : Int32)), .val (.ref b54), .val (.ref rro_62), .unset] [])) _
      refine XS.aload X66.here hx rfl (hb hby at_66) rfl rfl ?_
      show Steps p.tables e below (T66.setTop (mkF m 68 #[.val (.int ps), .val (.int p0), .val (.int p1), .val (.int p2), .val (.int (2 : Int32)), .val (.ref b54), .val (.ref rro_62), .unset] [(.ref rro_62)])) _
      refine st67.trans ?_
      show Steps p.tables e below (T67.setTop (mkF m 71 #[.val (.int ps), .val (.int p0), .val (.int p1), .val (.int p2), .val (.int (2 : Int32)), .val (.ref b54), .val (.ref rro_62), .unset] [(.ref b54)])) _
      refine XS.astore X67.here hx rfl (hb hby at_71) rfl rfl (l' := #[.val (.int ps), .val (.int p0), .val (.int p1), .val (.int p2), .val (.int (2 : Int32)), .val (.ref b54), .val (.ref rro_62), .val (.ref b54)]) rfl ?_
      show Steps p.tables e below (T67.setTop (mkF m 73 #[.val (.int ps), .val (.int p0), .val (.int p1), .val (.int p2), .val (.int (2 : Int32)), .val (.ref b54), .val (.ref rro_62), .val (.ref b54)] [])) _
      refine XS.aload X67.here hx rfl (hb hby at_73) rfl rfl ?_
      show Steps p.tables e below (T67.setTop (mkF m 75 #[.val (.int ps), .val (.int p0), .val (.int p1), .val (.int p2), .val (.int (2 : Int32)), .val (.ref b54), .val (.ref rro_62), .val (.ref b54)] [(.ref b54)])) _
      refine XS.aload X67.here hx rfl (hb hby at_75) rfl rfl ?_
      show Steps p.tables e below (T67.setTop (mkF m 77 #[.val (.int ps), .val (.int p0), .val (.int p1), .val (.int p2), .val (.int (2 : Int32)), .val (.ref b54), .val (.ref rro_62), .val (.ref b54)] [(.ref b54), (.ref b54)])) _
      refine Jvm.RoadKit.acmp (g := (mkF m 77 #[.val (.int ps), .val (.int p0), .val (.int p1), .val (.int p2), .val (.int (2 : Int32)), .val (.ref b54), .val (.ref rro_62), .val (.ref b54)] [(.ref b54), (.ref b54)])) X67 hx rfl rfl rfl (pc0 := 77) (pc' := 82) (same := true) rfl (hb hby at_77) rfl (decide_eq_true rfl) (by decide) (by decide) ?_
      show Steps p.tables e below (T67.setTop (mkF m 82 #[.val (.int ps), .val (.int p0), .val (.int p1), .val (.int p2), .val (.int (2 : Int32)), .val (.ref b54), .val (.ref rro_62), .val (.ref b54)] [])) _
      refine XS.aload X67.here hx rfl (hb hby at_82) rfl rfl ?_
      show Steps p.tables e below (T67.setTop (mkF m 84 #[.val (.int ps), .val (.int p0), .val (.int p1), .val (.int p2), .val (.int (2 : Int32)), .val (.ref b54), .val (.ref rro_62), .val (.ref b54)] [(.ref b54)])) _
      refine X67.arraylength hx (by rw [e67]; exact Ar68.1) (State.isArrayOf_alike hZ.alike Ar68.2.1) (g := (mkF m 84 #[.val (.int ps), .val (.int p0), .val (.int p1), .val (.int p2), .val (.int (2 : Int32)), .val (.ref b54), .val (.ref rro_62), .val (.ref b54)] [(.ref b54)])) rfl rfl (hb hby at_84) _ ?_
      rw [len_of S68 M68]
      show Steps p.tables e below (T67.setTop (mkF m 85 #[.val (.int ps), .val (.int p0), .val (.int p1), .val (.int p2), .val (.int (2 : Int32)), .val (.ref b54), .val (.ref rro_62), .val (.ref b54)] [(.int (2 : Int32))])) _
      refine XS.iload X67.here hx rfl (hb hby at_85) rfl ?_
      show Steps p.tables e below (T67.setTop (mkF m 87 #[.val (.int ps), .val (.int p0), .val (.int p1), .val (.int p2), .val (.int (2 : Int32)), .val (.ref b54), .val (.ref rro_62), .val (.ref b54)] [(.int (2 : Int32)), (.int (2 : Int32))])) _
      refine XS.icmpYes X67.here hx rfl (pc0 := 87) (pc' := 92) rfl (hb hby at_87) rfl (teq (by decide : ((2 : Int32) = (2 : Int32)))).1 (by decide) (by decide) ?_
      show Steps p.tables e below (T67.setTop (mkF m 92 #[.val (.int ps), .val (.int p0), .val (.int p1), .val (.int p2), .val (.int (2 : Int32)), .val (.ref b54), .val (.ref rro_62), .val (.ref b54)] [])) _
      refine XS.iload X67.here hx rfl (hb hby at_92) rfl ?_
      show Steps p.tables e below (T67.setTop (mkF m 94 #[.val (.int ps), .val (.int p0), .val (.int p1), .val (.int p2), .val (.int (2 : Int32)), .val (.ref b54), .val (.ref rro_62), .val (.ref b54)] [(.int (2 : Int32))])) _
      refine XS.ifNo X67.here hx rfl (hb hby at_94) rfl ((if0 _ _).trans (tlt (by decide : ((0 : Int32) < (2 : Int32)))).2.2.2) ?_
      show Steps p.tables e below (T67.setTop (mkF m 97 #[.val (.int ps), .val (.int p0), .val (.int p1), .val (.int p2), .val (.int (2 : Int32)), .val (.ref b54), .val (.ref rro_62), .val (.ref b54)] [])) _
      refine XS.aload X67.here hx rfl (hb hby at_97) rfl rfl ?_
      show Steps p.tables e below (T67.setTop (mkF m 99 #[.val (.int ps), .val (.int p0), .val (.int p1), .val (.int p2), .val (.int (2 : Int32)), .val (.ref b54), .val (.ref rro_62), .val (.ref b54)] [(.ref b54)])) _
      refine XS.iconst X67.here hx rfl (hb hby at_99) ?_
      show Steps p.tables e below (T67.setTop (mkF m 100 #[.val (.int ps), .val (.int p0), .val (.int p1), .val (.int p2), .val (.int (2 : Int32)), .val (.ref b54), .val (.ref rro_62), .val (.ref b54)] [(.int (0 : Int32)), (.ref b54)])) _
      refine X67.baloadBytes hx (j := (0 : Int32)) (v := (.int (nar .byte (p0.toInt8.toInt32)))) (by rw [e67]; exact Ar69.1) (State.isArrayOf_alike hZ.alike Ar69.2.1) Ar69.2.2 hin69 hat69 (g := (mkF m 100 #[.val (.int ps), .val (.int p0), .val (.int p1), .val (.int p2), .val (.int (2 : Int32)), .val (.ref b54), .val (.ref rro_62), .val (.ref b54)] [(.int (0 : Int32)), (.ref b54)])) rfl rfl (hb hby at_100) _ ?_
      show Steps p.tables e below (T67.setTop (mkF m 101 #[.val (.int ps), .val (.int p0), .val (.int p1), .val (.int p2), .val (.int (2 : Int32)), .val (.ref b54), .val (.ref rro_62), .val (.ref b54)] [(.int (nar .byte (p0.toInt8.toInt32)))])) _
      refine XS.iloadN X67.here hx rfl (hb hby at_101) rfl ?_
      show Steps p.tables e below (T67.setTop (mkF m 102 #[.val (.int ps), .val (.int p0), .val (.int p1), .val (.int p2), .val (.int (2 : Int32)), .val (.ref b54), .val (.ref rro_62), .val (.ref b54)] [(.int p0), (.int (nar .byte (p0.toInt8.toInt32)))])) _
      refine XS.i2b X67.here hx rfl (hb hby at_102) rfl ?_
      show Steps p.tables e below (T67.setTop (mkF m 103 #[.val (.int ps), .val (.int p0), .val (.int p1), .val (.int p2), .val (.int (2 : Int32)), .val (.ref b54), .val (.ref rro_62), .val (.ref b54)] [(.int (p0.toInt8.toInt32)), (.int (nar .byte (p0.toInt8.toInt32)))])) _
      refine XS.icmpYes X67.here hx rfl (pc0 := 103) (pc' := 108) rfl (hb hby at_103) rfl (teq (own_nb _ : ((nar .byte (p0.toInt8.toInt32)) = (p0.toInt8.toInt32)))).1 (by decide) (by decide) ?_
      show Steps p.tables e below (T67.setTop (mkF m 108 #[.val (.int ps), .val (.int p0), .val (.int p1), .val (.int p2), .val (.int (2 : Int32)), .val (.ref b54), .val (.ref rro_62), .val (.ref b54)] [])) _
      refine XS.iload X67.here hx rfl (hb hby at_108) rfl ?_
      show Steps p.tables e below (T67.setTop (mkF m 110 #[.val (.int ps), .val (.int p0), .val (.int p1), .val (.int p2), .val (.int (2 : Int32)), .val (.ref b54), .val (.ref rro_62), .val (.ref b54)] [(.int (2 : Int32))])) _
      refine XS.iconst X67.here hx rfl (hb hby at_110) ?_
      show Steps p.tables e below (T67.setTop (mkF m 111 #[.val (.int ps), .val (.int p0), .val (.int p1), .val (.int p2), .val (.int (2 : Int32)), .val (.ref b54), .val (.ref rro_62), .val (.ref b54)] [(.int (1 : Int32)), (.int (2 : Int32))])) _
      refine XS.icmpNo X67.here hx rfl (hb hby at_111) rfl (tlt (by decide : ((1 : Int32) < (2 : Int32)))).2.2.2 ?_
      show Steps p.tables e below (T67.setTop (mkF m 114 #[.val (.int ps), .val (.int p0), .val (.int p1), .val (.int p2), .val (.int (2 : Int32)), .val (.ref b54), .val (.ref rro_62), .val (.ref b54)] [])) _
      refine XS.aload X67.here hx rfl (hb hby at_114) rfl rfl ?_
      show Steps p.tables e below (T67.setTop (mkF m 116 #[.val (.int ps), .val (.int p0), .val (.int p1), .val (.int p2), .val (.int (2 : Int32)), .val (.ref b54), .val (.ref rro_62), .val (.ref b54)] [(.ref b54)])) _
      refine XS.iconst X67.here hx rfl (hb hby at_116) ?_
      show Steps p.tables e below (T67.setTop (mkF m 117 #[.val (.int ps), .val (.int p0), .val (.int p1), .val (.int p2), .val (.int (2 : Int32)), .val (.ref b54), .val (.ref rro_62), .val (.ref b54)] [(.int (1 : Int32)), (.ref b54)])) _
      refine X67.baloadBytes hx (j := (1 : Int32)) (v := (.int (nar .byte (p1.toInt8.toInt32)))) (by rw [e67]; exact Ar70.1) (State.isArrayOf_alike hZ.alike Ar70.2.1) Ar70.2.2 hin70 hat70 (g := (mkF m 117 #[.val (.int ps), .val (.int p0), .val (.int p1), .val (.int p2), .val (.int (2 : Int32)), .val (.ref b54), .val (.ref rro_62), .val (.ref b54)] [(.int (1 : Int32)), (.ref b54)])) rfl rfl (hb hby at_117) _ ?_
      show Steps p.tables e below (T67.setTop (mkF m 118 #[.val (.int ps), .val (.int p0), .val (.int p1), .val (.int p2), .val (.int (2 : Int32)), .val (.ref b54), .val (.ref rro_62), .val (.ref b54)] [(.int (nar .byte (p1.toInt8.toInt32)))])) _
      refine XS.iloadN X67.here hx rfl (hb hby at_118) rfl ?_
      show Steps p.tables e below (T67.setTop (mkF m 119 #[.val (.int ps), .val (.int p0), .val (.int p1), .val (.int p2), .val (.int (2 : Int32)), .val (.ref b54), .val (.ref rro_62), .val (.ref b54)] [(.int p1), (.int (nar .byte (p1.toInt8.toInt32)))])) _
      refine XS.i2b X67.here hx rfl (hb hby at_119) rfl ?_
      show Steps p.tables e below (T67.setTop (mkF m 120 #[.val (.int ps), .val (.int p0), .val (.int p1), .val (.int p2), .val (.int (2 : Int32)), .val (.ref b54), .val (.ref rro_62), .val (.ref b54)] [(.int (p1.toInt8.toInt32)), (.int (nar .byte (p1.toInt8.toInt32)))])) _
      refine XS.icmpYes X67.here hx rfl (pc0 := 120) (pc' := 125) rfl (hb hby at_120) rfl (teq (own_nb _ : ((nar .byte (p1.toInt8.toInt32)) = (p1.toInt8.toInt32)))).1 (by decide) (by decide) ?_
      show Steps p.tables e below (T67.setTop (mkF m 125 #[.val (.int ps), .val (.int p0), .val (.int p1), .val (.int p2), .val (.int (2 : Int32)), .val (.ref b54), .val (.ref rro_62), .val (.ref b54)] [])) _
      refine XS.iload X67.here hx rfl (hb hby at_125) rfl ?_
      show Steps p.tables e below (T67.setTop (mkF m 127 #[.val (.int ps), .val (.int p0), .val (.int p1), .val (.int p2), .val (.int (2 : Int32)), .val (.ref b54), .val (.ref rro_62), .val (.ref b54)] [(.int (2 : Int32))])) _
      refine XS.iconst X67.here hx rfl (hb hby at_127) ?_
      show Steps p.tables e below (T67.setTop (mkF m 128 #[.val (.int ps), .val (.int p0), .val (.int p1), .val (.int p2), .val (.int (2 : Int32)), .val (.ref b54), .val (.ref rro_62), .val (.ref b54)] [(.int (2 : Int32)), (.int (2 : Int32))])) _
      refine XS.icmpYes X67.here hx rfl (pc0 := 128) (pc' := 142) rfl (hb hby at_128) rfl (flt (by decide : ¬ ((2 : Int32) < (2 : Int32)))).2.2.2 (by decide) (by decide) ?_
      show Steps p.tables e below (T67.setTop (mkF m 142 #[.val (.int ps), .val (.int p0), .val (.int p1), .val (.int p2), .val (.int (2 : Int32)), .val (.ref b54), .val (.ref rro_62), .val (.ref b54)] [])) _
      refine XS.iload X67.here hx rfl (hb hby at_142) rfl ?_
      show Steps p.tables e below (T67.setTop (mkF m 144 #[.val (.int ps), .val (.int p0), .val (.int p1), .val (.int p2), .val (.int (2 : Int32)), .val (.ref b54), .val (.ref rro_62), .val (.ref b54)] [(.int (2 : Int32))])) _
      refine XS.ifNo X67.here hx rfl (hb hby at_144) rfl ((if0 _ _).trans (tlt (by decide : ((0 : Int32) < (2 : Int32)))).2.2.2) ?_
      show Steps p.tables e below (T67.setTop (mkF m 147 #[.val (.int ps), .val (.int p0), .val (.int p1), .val (.int p2), .val (.int (2 : Int32)), .val (.ref b54), .val (.ref rro_62), .val (.ref b54)] [])) _
      refine XS.aload X67.here hx rfl (hb hby at_147) rfl rfl ?_
      show Steps p.tables e below (T67.setTop (mkF m 149 #[.val (.int ps), .val (.int p0), .val (.int p1), .val (.int p2), .val (.int (2 : Int32)), .val (.ref b54), .val (.ref rro_62), .val (.ref b54)] [(.ref b54)])) _
      refine XS.iconst X67.here hx rfl (hb hby at_149) ?_
      show Steps p.tables e below (T67.setTop (mkF m 150 #[.val (.int ps), .val (.int p0), .val (.int p1), .val (.int p2), .val (.int (2 : Int32)), .val (.ref b54), .val (.ref rro_62), .val (.ref b54)] [(.int (0 : Int32)), (.ref b54)])) _
      refine XS.iloadN X67.here hx rfl (hb hby at_150) rfl ?_
      show Steps p.tables e below (T67.setTop (mkF m 151 #[.val (.int ps), .val (.int p0), .val (.int p1), .val (.int p2), .val (.int (2 : Int32)), .val (.ref b54), .val (.ref rro_62), .val (.ref b54)] [(.int p0), (.int (0 : Int32)), (.ref b54)])) _
      refine XS.iconst X67.here hx rfl (hb hby at_151) ?_
      show Steps p.tables e below (T67.setTop (mkF m 152 #[.val (.int ps), .val (.int p0), .val (.int p1), .val (.int p2), .val (.int (2 : Int32)), .val (.ref b54), .val (.ref rro_62), .val (.ref b54)] [(.int (1 : Int32)), (.int p0), (.int (0 : Int32)), (.ref b54)])) _
      refine XS.iadd X67.here hx rfl (hb hby at_152) rfl ?_
      show Steps p.tables e below (T67.setTop (mkF m 153 #[.val (.int ps), .val (.int p0), .val (.int p1), .val (.int p2), .val (.int (2 : Int32)), .val (.ref b54), .val (.ref rro_62), .val (.ref b54)] [(.int (p0 + (1 : Int32))), (.int (0 : Int32)), (.ref b54)])) _
      refine XS.i2b X67.here hx rfl (hb hby at_153) rfl ?_
      show Steps p.tables e below (T67.setTop (mkF m 154 #[.val (.int ps), .val (.int p0), .val (.int p1), .val (.int p2), .val (.int (2 : Int32)), .val (.ref b54), .val (.ref rro_62), .val (.ref b54)] [(.int ((p0 + (1 : Int32)).toInt8.toInt32)), (.int (0 : Int32)), (.ref b54)])) _
      refine st72 _ ?_
      show Steps p.tables e below (T72.setTop (mkF m 155 #[.val (.int ps), .val (.int p0), .val (.int p1), .val (.int p2), .val (.int (2 : Int32)), .val (.ref b54), .val (.ref rro_62), .val (.ref b54)] [])) _
      refine XS.aload X72.here hx rfl (hb hby at_155) rfl rfl ?_
      show Steps p.tables e below (T72.setTop (mkF m 157 #[.val (.int ps), .val (.int p0), .val (.int p1), .val (.int p2), .val (.int (2 : Int32)), .val (.ref b54), .val (.ref rro_62), .val (.ref b54)] [(.ref rro_62)])) _
      refine st77.trans ?_
      show Steps p.tables e below (T77.setTop (mkF m 160 #[.val (.int ps), .val (.int p0), .val (.int p1), .val (.int p2), .val (.int (2 : Int32)), .val (.ref b54), .val (.ref rro_62), .val (.ref b54)] [(.ref b54)])) _
      refine XS.iconst X77.here hx rfl (hb hby at_160) ?_
      show Steps p.tables e below (T77.setTop (mkF m 161 #[.val (.int ps), .val (.int p0), .val (.int p1), .val (.int p2), .val (.int (2 : Int32)), .val (.ref b54), .val (.ref rro_62), .val (.ref b54)] [(.int (0 : Int32)), (.ref b54)])) _
      refine X77.baloadBytes hx (j := (0 : Int32)) (v := (.int (nar .byte ((p0 + (1 : Int32)).toInt8.toInt32)))) (by rw [e77]; exact Ar78.1) (State.isArrayOf_alike hZ.alike Ar78.2.1) Ar78.2.2 hin78 hat78 (g := (mkF m 161 #[.val (.int ps), .val (.int p0), .val (.int p1), .val (.int p2), .val (.int (2 : Int32)), .val (.ref b54), .val (.ref rro_62), .val (.ref b54)] [(.int (0 : Int32)), (.ref b54)])) rfl rfl (hb hby at_161) _ ?_
      show Steps p.tables e below (T77.setTop (mkF m 162 #[.val (.int ps), .val (.int p0), .val (.int p1), .val (.int p2), .val (.int (2 : Int32)), .val (.ref b54), .val (.ref rro_62), .val (.ref b54)] [(.int (nar .byte ((p0 + (1 : Int32)).toInt8.toInt32)))])) _
      refine XS.iloadN X77.here hx rfl (hb hby at_162) rfl ?_
      show Steps p.tables e below (T77.setTop (mkF m 163 #[.val (.int ps), .val (.int p0), .val (.int p1), .val (.int p2), .val (.int (2 : Int32)), .val (.ref b54), .val (.ref rro_62), .val (.ref b54)] [(.int p0), (.int (nar .byte ((p0 + (1 : Int32)).toInt8.toInt32)))])) _
      refine XS.iconst X77.here hx rfl (hb hby at_163) ?_
      show Steps p.tables e below (T77.setTop (mkF m 164 #[.val (.int ps), .val (.int p0), .val (.int p1), .val (.int p2), .val (.int (2 : Int32)), .val (.ref b54), .val (.ref rro_62), .val (.ref b54)] [(.int (1 : Int32)), (.int p0), (.int (nar .byte ((p0 + (1 : Int32)).toInt8.toInt32)))])) _
      refine XS.iadd X77.here hx rfl (hb hby at_164) rfl ?_
      show Steps p.tables e below (T77.setTop (mkF m 165 #[.val (.int ps), .val (.int p0), .val (.int p1), .val (.int p2), .val (.int (2 : Int32)), .val (.ref b54), .val (.ref rro_62), .val (.ref b54)] [(.int (p0 + (1 : Int32))), (.int (nar .byte ((p0 + (1 : Int32)).toInt8.toInt32)))])) _
      refine XS.i2b X77.here hx rfl (hb hby at_165) rfl ?_
      show Steps p.tables e below (T77.setTop (mkF m 166 #[.val (.int ps), .val (.int p0), .val (.int p1), .val (.int p2), .val (.int (2 : Int32)), .val (.ref b54), .val (.ref rro_62), .val (.ref b54)] [(.int ((p0 + (1 : Int32)).toInt8.toInt32)), (.int (nar .byte ((p0 + (1 : Int32)).toInt8.toInt32)))])) _
      refine XS.icmpYes X77.here hx rfl (pc0 := 166) (pc' := 171) rfl (hb hby at_166) rfl (teq (own_nb _ : ((nar .byte ((p0 + (1 : Int32)).toInt8.toInt32)) = ((p0 + (1 : Int32)).toInt8.toInt32)))).1 (by decide) (by decide) ?_
      show Steps p.tables e below (T77.setTop (mkF m 171 #[.val (.int ps), .val (.int p0), .val (.int p1), .val (.int p2), .val (.int (2 : Int32)), .val (.ref b54), .val (.ref rro_62), .val (.ref b54)] [])) _
      refine XS.iconst X77.here hx rfl (hb hby at_171) ?_
      show Steps p.tables e below (T77.setTop (mkF m 172 #[.val (.int ps), .val (.int p0), .val (.int p1), .val (.int p2), .val (.int (2 : Int32)), .val (.ref b54), .val (.ref rro_62), .val (.ref b54)] [(.int (1 : Int32))])) _
      exact retN X77 hx (t := .boolean) Bd.returns (by simp) (hb hby at_172) hr
    · show Q0 Z ps p0 p1 p2 aK h0 n0 _ T77.heap _
      rw [e77]
      exact ⟨rfl, N77⟩
  · rw [hq23] at pre19
    obtain ⟨T79, h79, k79, X79, e79, E79, A79, st79⟩ := newP X0 hx hZ (hw _ (List.mem_of_getElem? (i := 0) rfl)) e0 (g := (mkF m 7 #[.val (.int ps), .val (.int p0), .val (.int p1), .val (.int p2), .val (.int (3 : Int32)), .unset, .unset, .unset] [(.int (3 : Int32))])) rfl (hb hby at_7) rfl (by decide) (cap := 3) (by decide) (by decide) (by decide) (by decide)
    obtain ⟨b79, g79⟩ : ∃ z, z = h0.size := ⟨_, rfl⟩
    rw [← g79] at A79 st79
    have g_b79 : n0 ≤ b79 := Nat.le_trans Z0 (Nat.le_of_eq g79.symm)
    have sz_b79 : h0.size ≤ b79 := Nat.le_of_eq g79.symm
    have Zs79 : n0 ≤ h79.size := Nat.le_trans Z0 E79.1
    have KK79 : Keep h0 h79 [] := (Keep.refl h0 _).ext E79
    have O79 := O0.ext E79
    have f80 := (S_KEEP.ext O0.2).ext E79
    have V79 : Arv Z h79 b79 k79 .byte (3 : Int32) [(.int (0 : Int32)), (.int (0 : Int32)), (.int (0 : Int32))] (.int (0 : Int32)) := (Arv.new A79 (by decide)).pad (pad_rep [] (.int (0 : Int32)) 3)
    obtain ⟨cl81, Ar81, q81, S81, N81, H81, G81⟩ := id V79
    have hin81 : ¬ ((0 : Int32) < 0 ∨ cl81.slots.size ≤ ((0 : Int32)).toNatClampNeg) := inb_of S81 ⟨by decide, by decide⟩
    obtain ⟨T82, h82, X82, e82, W82, st82⟩ := stB X79 hx hZ e79 Ar81 (j := (0 : Int32)) hin81 (g := (mkF m 21 #[.val (.int ps), .val (.int p0), .val (.int p1), .val (.int p2), .val (.int (3 : Int32)), .val (.ref b79), .unset, .unset] [(.int (p0.toInt8.toInt32)), (.int (0 : Int32)), (.ref b79)])) rfl rfl (hb hby at_21)
    have V82 : Arv Z h82 b79 k79 .byte (3 : Int32) [(.int (nar .byte (p0.toInt8.toInt32))), (.int (0 : Int32)), (.int (0 : Int32))] (.int (0 : Int32)) := Arv.set Ar81 q81 S81 N81 H81 G81 (fits_nar_byte (p0.toInt8.toInt32)) W82 0 rfl (Nat.le_of_ble_eq_true rfl)
    have N82 := Fr.snoc X82 N0 g_b79
    have Zs82 : n0 ≤ h82.size := Nat.le_trans Zs79 (Keep.of_wr W82).1
    have KK82 : Keep h0 h82 [] := KK79.wr W82 (Or.inr sz_b79)
    have O82 := O79.wr W82 g_b79
    have f83 := f80.wr W82
    obtain ⟨cl84, Ar84, q84, S84, N84, H84, G84⟩ := id V82
    have hin84 : ¬ ((1 : Int32) < 0 ∨ cl84.slots.size ≤ ((1 : Int32)).toNatClampNeg) := inb_of S84 ⟨by decide, by decide⟩
    obtain ⟨T85, h85, X85, e85, W85, st85⟩ := stB X82 hx hZ e82 Ar84 (j := (1 : Int32)) hin84 (g := (mkF m 33 #[.val (.int ps), .val (.int p0), .val (.int p1), .val (.int p2), .val (.int (3 : Int32)), .val (.ref b79), .unset, .unset] [(.int (p1.toInt8.toInt32)), (.int (1 : Int32)), (.ref b79)])) rfl rfl (hb hby at_33)
    have V85 : Arv Z h85 b79 k79 .byte (3 : Int32) [(.int (nar .byte (p0.toInt8.toInt32))), (.int (nar .byte (p1.toInt8.toInt32))), (.int (0 : Int32))] (.int (0 : Int32)) := Arv.set Ar84 q84 S84 N84 H84 G84 (fits_nar_byte (p1.toInt8.toInt32)) W85 1 rfl (Nat.le_of_ble_eq_true rfl)
    have N85 := Fr.snoc X85 N82 g_b79
    have Zs85 : n0 ≤ h85.size := Nat.le_trans Zs82 (Keep.of_wr W85).1
    have KK85 : Keep h0 h85 [] := KK82.wr W85 (Or.inr sz_b79)
    have O85 := O82.wr W85 g_b79
    have f86 := f83.wr W85
    obtain ⟨cl87, Ar87, q87, S87, N87, H87, G87⟩ := id V85
    have hin87 : ¬ ((2 : Int32) < 0 ∨ cl87.slots.size ≤ ((2 : Int32)).toNatClampNeg) := inb_of S87 ⟨by decide, by decide⟩
    obtain ⟨T88, h88, X88, e88, W88, st88⟩ := stB X85 hx hZ e85 Ar87 (j := (2 : Int32)) hin87 (g := (mkF m 45 #[.val (.int ps), .val (.int p0), .val (.int p1), .val (.int p2), .val (.int (3 : Int32)), .val (.ref b79), .unset, .unset] [(.int (p2.toInt8.toInt32)), (.int (2 : Int32)), (.ref b79)])) rfl rfl (hb hby at_45)
    have V88 : Arv Z h88 b79 k79 .byte (3 : Int32) [(.int (nar .byte (p0.toInt8.toInt32))), (.int (nar .byte (p1.toInt8.toInt32))), (.int (nar .byte (p2.toInt8.toInt32)))] (.int (0 : Int32)) := Arv.set Ar87 q87 S87 N87 H87 G87 (fits_nar_byte (p2.toInt8.toInt32)) W88 2 rfl (Nat.le_of_ble_eq_true rfl)
    have N88 := Fr.snoc X88 N85 g_b79
    have Zs88 : n0 ≤ h88.size := Nat.le_trans Zs85 (Keep.of_wr W88).1
    have KK88 : Keep h0 h88 [] := KK85.wr W88 (Or.inr sz_b79)
    have O88 := O85.wr W88 g_b79
    have f89 := f86.wr W88
    obtain ⟨_, _, ⟨T90, L90, k90, n90⟩, -, X90, ⟨Lc90, hQ90, l90, y90, z90⟩, st90⟩ := Jvm.LawKit.callS X88 hx (y := (⟨"com/example/webhook_acknowledger/webhookacknowledger/receive/Verdict", "keepOnce", "([B)Lcom/example/webhook_acknowledger/webhookacknowledger/receive/Verdict;"⟩ : MethodName)) hown (mvT hZ (hw _ (List.mem_of_getElem? (i := 1) rfl))) (mvT hZ (hw _ (List.mem_of_getElem? (i := 2) rfl))) (mvT hZ (hw _ (List.mem_of_getElem? (i := 3) rfl))) (mvT hZ (hw _ (List.mem_of_getElem? (i := 4) rfl))) (by decide) (backOf (W := 0) (rm1 l Z a0 hw [] b79 aK h88 n0 Zs88 f89) hZ (hw _ (List.mem_of_getElem? (i := 4) rfl)) (hw _ (List.mem_of_getElem? (i := 3) rfl)) (by decide) (by decide)) (g := (mkF m 48 #[.val (.int ps), .val (.int p0), .val (.int p1), .val (.int p2), .val (.int (3 : Int32)), .val (.ref b79), .unset, .unset] [(.ref b79)])) rfl (by rw [hml]; rfl) (argsL := [(.ref b79)]) (rest := []) (lenOf own_pd23 rfl) rfl (by show 2 * 0 + _ ≤ _; exact Nat.le_of_eq rfl) (hb hby at_48) (fun _ _ => ⟨rfl, e88, (by decide : 1 + 1 ≤ _), (by decide : 3 + 2 ≤ _)⟩)
    dsimp only [Pt.U, Pt.locs, Pt.cells, Pt.slots] at X90 l90 y90 z90 st90 hQ90
    subst l90 y90 z90
    obtain ⟨rro_90, rfl, Nq90, K90, p90_0, p90_1, p90_2, p90_3, p90_4⟩ := hQ90
    have N90 := Fr.app N88 Nq90
    have Zs90 : n0 ≤ T90.heap.size := Nat.le_trans Zs88 K90.1
    have KK90 : Keep h0 T90.heap [] := KK88.trans K90 all0
    have ne_b79_rro_90 : b79 ≠ rro_90 := Nat.ne_of_lt (Nat.lt_of_lt_of_le V88.lt p90_4)
    have sz_rro_90 : h0.size ≤ rro_90 := Nat.le_trans KK88.1 p90_4
    have O90 := O88.keep K90 (all0)
    have f91 := S_KEEP.ext O90.2
    have f92 := V88.keep K90 nin0
    have g_rro_90 := p90_3
    obtain ⟨cq93, kq93, q93a, q93b, q93c⟩ := isOf hZ rfl p90_0
    obtain ⟨_, _, ⟨T93, L93, k93, n93⟩, -, X93, ⟨Lc93, hQ93, l93, y93, z93⟩, st93⟩ := X90.virtualBack hx (y := (⟨"com/example/webhook_acknowledger/webhookacknowledger/receive/Verdict", "outcome", "()Lcom/example/webhook_acknowledger/webhookacknowledger/receive/Verdict$Outcome;"⟩ : MethodName)) (z := (⟨"com/example/webhook_acknowledger/webhookacknowledger/receive/Verdict", "outcome", "()Lcom/example/webhook_acknowledger/webhookacknowledger/receive/Verdict$Outcome;"⟩ : MethodName)) hown (mvT hZ (hw _ (List.mem_of_getElem? (i := 20) rfl))) (mvT hZ (hw _ (List.mem_of_getElem? (i := 21) rfl))) (notFace_of_selects (args := #[]) (mvT hZ (hw _ (List.mem_of_getElem? (i := 23) rfl)))) (mvT hZ (hw _ (List.mem_of_getElem? (i := 23) rfl))) (mvT hZ (hw _ (List.mem_of_getElem? (i := 22) rfl))) (by decide) (backOf (W := 0) (rm4 l Z a0 hw [] rro_90 aK T90.heap n0 Zs90 p90_1) hZ (hw _ (List.mem_of_getElem? (i := 24) rfl)) (hw _ (List.mem_of_getElem? (i := 3) rfl)) (by decide) (by decide)) q93a q93c (g := (mkF m 55 #[.val (.int ps), .val (.int p0), .val (.int p1), .val (.int p2), .val (.int (3 : Int32)), .val (.ref b79), .val (.ref rro_90), .unset] [(.ref rro_90)])) rfl (by rw [hml]; rfl) (Steps.refl _) (argsL := []) (rest := []) (lenOf own_pd24 rfl) rfl (by show 2 * 0 + _ ≤ _; exact Nat.le_of_eq rfl) (hb hby at_55) (fun _ _ => ⟨rfl, rfl, (by decide : 2 + 0 ≤ _), (by decide : 5 + 0 ≤ _)⟩)
    dsimp only [Pt.U, Pt.locs, Pt.cells, Pt.slots] at X93 l93 y93 z93 st93 hQ93
    subst l93 y93 z93
    obtain ⟨rfl, Nq93, e93⟩ := hQ93
    have N93 := Fr.app N90 Nq93
    obtain ⟨T94, X94, e94, st94⟩ := getS2 X93 hx hZ hown (host := "") (Or.inl (hw _ (List.mem_of_getElem? (i := 25) rfl))) Via.refl e93 f91 (g := (mkF m 58 #[.val (.int ps), .val (.int p0), .val (.int p1), .val (.int p2), .val (.int (3 : Int32)), .val (.ref b79), .val (.ref rro_90), .unset] [(.ref aK)])) rfl (hb hby at_58)
    obtain ⟨cq95, kq95, q95a, q95b, q95c⟩ := isOf hZ e94 p90_0
    obtain ⟨_, _, ⟨T95, L95, k95, n95⟩, -, X95, ⟨Lc95, hQ95, l95, y95, z95⟩, st95⟩ := X94.virtualBack hx (y := (⟨"com/example/webhook_acknowledger/webhookacknowledger/receive/Verdict", "id", "()[B"⟩ : MethodName)) (z := (⟨"com/example/webhook_acknowledger/webhookacknowledger/receive/Verdict", "id", "()[B"⟩ : MethodName)) hown (mvT hZ (hw _ (List.mem_of_getElem? (i := 26) rfl))) (mvT hZ (hw _ (List.mem_of_getElem? (i := 27) rfl))) (notFace_of_selects (args := #[]) (mvT hZ (hw _ (List.mem_of_getElem? (i := 29) rfl)))) (mvT hZ (hw _ (List.mem_of_getElem? (i := 29) rfl))) (mvT hZ (hw _ (List.mem_of_getElem? (i := 28) rfl))) (by decide) (backOf (W := 0) (rm5 l Z a0 hw [] rro_90 b79 T90.heap n0 Zs90 p90_2) hZ (hw _ (List.mem_of_getElem? (i := 30) rfl)) (hw _ (List.mem_of_getElem? (i := 3) rfl)) (by decide) (by decide)) q95a q95c (g := (mkF m 68 #[.val (.int ps), .val (.int p0), .val (.int p1), .val (.int p2), .val (.int (3 : Int32)), .val (.ref b79), .val (.ref rro_90), .unset] [(.ref rro_90)])) rfl (by rw [hml]; rfl) (Steps.refl _) (argsL := []) (rest := []) (lenOf own_pd25 rfl) rfl (by show 2 * 0 + _ ≤ _; exact Nat.le_of_eq rfl) (hb hby at_68) (fun _ _ => ⟨rfl, e94, (by decide : 2 + 0 ≤ _), (by decide : 5 + 0 ≤ _)⟩)
    dsimp only [Pt.U, Pt.locs, Pt.cells, Pt.slots] at X95 l95 y95 z95 st95 hQ95
    subst l95 y95 z95
    obtain ⟨rfl, Nq95, e95⟩ := hQ95
    have N95 := Fr.app N93 Nq95
    obtain ⟨cl96, Ar96, -, S96, M96, -, -⟩ := id f92
    obtain ⟨cl97, Ar97, -, S97, -, H97, -⟩ := id f92
    have hin97 : ¬ ((0 : Int32) < 0 ∨ cl97.slots.size ≤ ((0 : Int32)).toNatClampNeg) := inb_of S97 ⟨by decide, by decide⟩
    have hat97 : cl97.slots[((0 : Int32)).toNatClampNeg]? = some (.int (nar .byte (p0.toInt8.toInt32))) := H97.at hin97 rfl
    obtain ⟨cl98, Ar98, -, S98, -, H98, -⟩ := id f92
    have hin98 : ¬ ((1 : Int32) < 0 ∨ cl98.slots.size ≤ ((1 : Int32)).toNatClampNeg) := inb_of S98 ⟨by decide, by decide⟩
    have hat98 : cl98.slots[((1 : Int32)).toNatClampNeg]? = some (.int (nar .byte (p1.toInt8.toInt32))) := H98.at hin98 rfl
    obtain ⟨cl99, Ar99, -, S99, -, H99, -⟩ := id f92
    have hin99 : ¬ ((2 : Int32) < 0 ∨ cl99.slots.size ≤ ((2 : Int32)).toNatClampNeg) := inb_of S99 ⟨by decide, by decide⟩
    have hat99 : cl99.slots[((2 : Int32)).toNatClampNeg]? = some (.int (nar .byte (p2.toInt8.toInt32))) := H99.at hin99 rfl
    obtain ⟨cl100, Ar100, q100, S100, N100, H100, G100⟩ := id f92
    have hin100 : ¬ ((0 : Int32) < 0 ∨ cl100.slots.size ≤ ((0 : Int32)).toNatClampNeg) := inb_of S100 ⟨by decide, by decide⟩
    obtain ⟨T101, h101, X101, e101, W101, st101⟩ := stB X95 hx hZ e95 Ar100 (j := (0 : Int32)) hin100 (g := (mkF m 154 #[.val (.int ps), .val (.int p0), .val (.int p1), .val (.int p2), .val (.int (3 : Int32)), .val (.ref b79), .val (.ref rro_90), .val (.ref b79)] [(.int ((p0 + (1 : Int32)).toInt8.toInt32)), (.int (0 : Int32)), (.ref b79)])) rfl rfl (hb hby at_154)
    have V101 : Arv Z h101 b79 k79 .byte (3 : Int32) [(.int (nar .byte ((p0 + (1 : Int32)).toInt8.toInt32))), (.int (nar .byte (p1.toInt8.toInt32))), (.int (nar .byte (p2.toInt8.toInt32)))] (.int (0 : Int32)) := Arv.set Ar100 q100 S100 N100 H100 G100 (fits_nar_byte ((p0 + (1 : Int32)).toInt8.toInt32)) W101 0 rfl (Nat.le_of_ble_eq_true rfl)
    have N101 := Fr.snoc X101 N95 g_b79
    have Zs101 : n0 ≤ h101.size := Nat.le_trans Zs90 (Keep.of_wr W101).1
    have KK101 : Keep h0 h101 [] := KK90.wr W101 (Or.inr sz_b79)
    have O101 := O90.wr W101 g_b79
    have f102 := f91.wr W101
    have f103 := p90_0.wr W101
    have f104 := p90_1.other W101 (Or.inl (Ne.symm ne_b79_rro_90))
    have f105 := p90_2.other W101 (Or.inl (Ne.symm ne_b79_rro_90))
    obtain ⟨cq106, kq106, q106a, q106b, q106c⟩ := isOf hZ e101 f103
    obtain ⟨_, _, ⟨T106, L106, k106, n106⟩, -, X106, ⟨Lc106, hQ106, l106, y106, z106⟩, st106⟩ := X101.virtualBack hx (y := (⟨"com/example/webhook_acknowledger/webhookacknowledger/receive/Verdict", "id", "()[B"⟩ : MethodName)) (z := (⟨"com/example/webhook_acknowledger/webhookacknowledger/receive/Verdict", "id", "()[B"⟩ : MethodName)) hown (mvT hZ (hw _ (List.mem_of_getElem? (i := 26) rfl))) (mvT hZ (hw _ (List.mem_of_getElem? (i := 27) rfl))) (notFace_of_selects (args := #[]) (mvT hZ (hw _ (List.mem_of_getElem? (i := 29) rfl)))) (mvT hZ (hw _ (List.mem_of_getElem? (i := 29) rfl))) (mvT hZ (hw _ (List.mem_of_getElem? (i := 28) rfl))) (by decide) (backOf (W := 0) (rm5 l Z a0 hw [] rro_90 b79 h101 n0 Zs101 f105) hZ (hw _ (List.mem_of_getElem? (i := 30) rfl)) (hw _ (List.mem_of_getElem? (i := 3) rfl)) (by decide) (by decide)) q106a q106c (g := (mkF m 157 #[.val (.int ps), .val (.int p0), .val (.int p1), .val (.int p2), .val (.int (3 : Int32)), .val (.ref b79), .val (.ref rro_90), .val (.ref b79)] [(.ref rro_90)])) rfl (by rw [hml]; rfl) (Steps.refl _) (argsL := []) (rest := []) (lenOf own_pd25 rfl) rfl (by show 2 * 0 + _ ≤ _; exact Nat.le_of_eq rfl) (hb hby at_157) (fun _ _ => ⟨rfl, e101, (by decide : 2 + 0 ≤ _), (by decide : 5 + 0 ≤ _)⟩)
    dsimp only [Pt.U, Pt.locs, Pt.cells, Pt.slots] at X106 l106 y106 z106 st106 hQ106
    subst l106 y106 z106
    obtain ⟨rfl, Nq106, e106⟩ := hQ106
    have N106 := Fr.app N101 Nq106
    obtain ⟨cl107, Ar107, -, S107, -, H107, -⟩ := id V101
    have hin107 : ¬ ((0 : Int32) < 0 ∨ cl107.slots.size ≤ ((0 : Int32)).toNatClampNeg) := inb_of S107 ⟨by decide, by decide⟩
    have hat107 : cl107.slots[((0 : Int32)).toNatClampNeg]? = some (.int (nar .byte ((p0 + (1 : Int32)).toInt8.toInt32))) := H107.at hin107 rfl
    obtain ⟨fs, hr, hrun, hended, hW, hsame⟩ := X106.leave (v := some (.int (1 : Int32))) (fun h => by rw [Bd.returns] at h; cases h)
    refine ⟨_, _, pre19 _ ?_, hrun, hended, _, _, rfl, ?_, ⟨_, rfl⟩, hW, hsame.mono (by decide) (by decide)⟩
    · show Steps p.tables e below (s₁.setTop (mkF m 5 #[.val (.int ps), .val (.int p0), .val (.int p1), .val (.int p2), .val (.int (3 : Int32)), .unset, .unset, .unset] [])) _
      refine XS.iload X0.here hx rfl (hb hby at_5) rfl ?_
      show Steps p.tables e below (s₁.setTop (mkF m 7 #[.val (.int ps), .val (.int p0), .val (.int p1), .val (.int p2), .val (.int (3 : Int32)), .unset, .unset, .unset] [(.int (3 : Int32))])) _
      refine st79 _ ?_
      show Steps p.tables e below (T79.setTop (mkF m 9 #[.val (.int ps), .val (.int p0), .val (.int p1), .val (.int p2), .val (.int (3 : Int32)), .unset, .unset, .unset] [(.ref b79)])) _
      refine XS.astore X79.here hx rfl (hb hby at_9) rfl rfl (l' := #[.val (.int ps), .val (.int p0), .val (.int p1), .val (.int p2), .val (.int (3 : Int32)), .val (.ref b79), .unset, .unset]) rfl ?_
      show Steps p.tables e below (T79.setTop (mkF m 11 #[.val (.int ps), .val (.int p0), .val (.int p1), .val (.int p2), .val (.int (3 : Int32)), .val (.ref b79), .unset, .unset] [])) _
      refine XS.iload X79.here hx rfl (hb hby at_11) rfl ?_
      show Steps p.tables e below (T79.setTop (mkF m 13 #[.val (.int ps), .val (.int p0), .val (.int p1), .val (.int p2), .val (.int (3 : Int32)), .val (.ref b79), .unset, .unset] [(.int (3 : Int32))])) _
      refine XS.ifNo X79.here hx rfl (hb hby at_13) rfl ((if0 _ _).trans (tlt (by decide : ((0 : Int32) < (3 : Int32)))).2.2.2) ?_
      show Steps p.tables e below (T79.setTop (mkF m 16 #[.val (.int ps), .val (.int p0), .val (.int p1), .val (.int p2), .val (.int (3 : Int32)), .val (.ref b79), .unset, .unset] [])) _
      refine XS.aload X79.here hx rfl (hb hby at_16) rfl rfl ?_
      show Steps p.tables e below (T79.setTop (mkF m 18 #[.val (.int ps), .val (.int p0), .val (.int p1), .val (.int p2), .val (.int (3 : Int32)), .val (.ref b79), .unset, .unset] [(.ref b79)])) _
      refine XS.iconst X79.here hx rfl (hb hby at_18) ?_
      show Steps p.tables e below (T79.setTop (mkF m 19 #[.val (.int ps), .val (.int p0), .val (.int p1), .val (.int p2), .val (.int (3 : Int32)), .val (.ref b79), .unset, .unset] [(.int (0 : Int32)), (.ref b79)])) _
      refine XS.iloadN X79.here hx rfl (hb hby at_19) rfl ?_
      show Steps p.tables e below (T79.setTop (mkF m 20 #[.val (.int ps), .val (.int p0), .val (.int p1), .val (.int p2), .val (.int (3 : Int32)), .val (.ref b79), .unset, .unset] [(.int p0), (.int (0 : Int32)), (.ref b79)])) _
      refine XS.i2b X79.here hx rfl (hb hby at_20) rfl ?_
      show Steps p.tables e below (T79.setTop (mkF m 21 #[.val (.int ps), .val (.int p0), .val (.int p1), .val (.int p2), .val (.int (3 : Int32)), .val (.ref b79), .unset, .unset] [(.int (p0.toInt8.toInt32)), (.int (0 : Int32)), (.ref b79)])) _
      refine st82 _ ?_
      show Steps p.tables e below (T82.setTop (mkF m 22 #[.val (.int ps), .val (.int p0), .val (.int p1), .val (.int p2), .val (.int (3 : Int32)), .val (.ref b79), .unset, .unset] [])) _
      refine XS.iload X82.here hx rfl (hb hby at_22) rfl ?_
      show Steps p.tables e below (T82.setTop (mkF m 24 #[.val (.int ps), .val (.int p0), .val (.int p1), .val (.int p2), .val (.int (3 : Int32)), .val (.ref b79), .unset, .unset] [(.int (3 : Int32))])) _
      refine XS.iconst X82.here hx rfl (hb hby at_24) ?_
      show Steps p.tables e below (T82.setTop (mkF m 25 #[.val (.int ps), .val (.int p0), .val (.int p1), .val (.int p2), .val (.int (3 : Int32)), .val (.ref b79), .unset, .unset] [(.int (1 : Int32)), (.int (3 : Int32))])) _
      refine XS.icmpNo X82.here hx rfl (hb hby at_25) rfl (tlt (by decide : ((1 : Int32) < (3 : Int32)))).2.2.2 ?_
      show Steps p.tables e below (T82.setTop (mkF m 28 #[.val (.int ps), .val (.int p0), .val (.int p1), .val (.int p2), .val (.int (3 : Int32)), .val (.ref b79), .unset, .unset] [])) _
      refine XS.aload X82.here hx rfl (hb hby at_28) rfl rfl ?_
      show Steps p.tables e below (T82.setTop (mkF m 30 #[.val (.int ps), .val (.int p0), .val (.int p1), .val (.int p2), .val (.int (3 : Int32)), .val (.ref b79), .unset, .unset] [(.ref b79)])) _
      refine XS.iconst X82.here hx rfl (hb hby at_30) ?_
      show Steps p.tables e below (T82.setTop (mkF m 31 #[.val (.int ps), .val (.int p0), .val (.int p1), .val (.int p2), .val (.int (3 : Int32)), .val (.ref b79), .unset, .unset] [(.int (1 : Int32)), (.ref b79)])) _
      refine XS.iloadN X82.here hx rfl (hb hby at_31) rfl ?_
      show Steps p.tables e below (T82.setTop (mkF m 32 #[.val (.int ps), .val (.int p0), .val (.int p1), .val (.int p2), .val (.int (3 : Int32)), .val (.ref b79), .unset, .unset] [(.int p1), (.int (1 : Int32)), (.ref b79)])) _
      refine XS.i2b X82.here hx rfl (hb hby at_32) rfl ?_
      show Steps p.tables e below (T82.setTop (mkF m 33 #[.val (.int ps), .val (.int p0), .val (.int p1), .val (.int p2), .val (.int (3 : Int32)), .val (.ref b79), .unset, .unset] [(.int (p1.toInt8.toInt32)), (.int (1 : Int32)), (.ref b79)])) _
      refine st85 _ ?_
      show Steps p.tables e below (T85.setTop (mkF m 34 #[.val (.int ps), .val (.int p0), .val (.int p1), .val (.int p2), .val (.int (3 : Int32)), .val (.ref b79), .unset, .unset] [])) _
      refine XS.iload X85.here hx rfl (hb hby at_34) rfl ?_
      show Steps p.tables e below (T85.setTop (mkF m 36 #[.val (.int ps), .val (.int p0), .val (.int p1), .val (.int p2), .val (.int (3 : Int32)), .val (.ref b79), .unset, .unset] [(.int (3 : Int32))])) _
      refine XS.iconst X85.here hx rfl (hb hby at_36) ?_
      show Steps p.tables e below (T85.setTop (mkF m 37 #[.val (.int ps), .val (.int p0), .val (.int p1), .val (.int p2), .val (.int (3 : Int32)), .val (.ref b79), .unset, .unset] [(.int (2 : Int32)), (.int (3 : Int32))])) _
      refine XS.icmpNo X85.here hx rfl (hb hby at_37) rfl (tlt (by decide : ((2 : Int32) < (3 : Int32)))).2.2.2 ?_
      show Steps p.tables e below (T85.setTop (mkF m 40 #[.val (.int ps), .val (.int p0), .val (.int p1), .val (.int p2), .val (.int (3 : Int32)), .val (.ref b79), .unset, .unset] [])) _
      refine XS.aload X85.here hx rfl (hb hby at_40) rfl rfl ?_
      show Steps p.tables e below (T85.setTop (mkF m 42 #[.val (.int ps), .val (.int p0), .val (.int p1), .val (.int p2), .val (.int (3 : Int32)), .val (.ref b79), .unset, .unset] [(.ref b79)])) _
      refine XS.iconst X85.here hx rfl (hb hby at_42) ?_
      show Steps p.tables e below (T85.setTop (mkF m 43 #[.val (.int ps), .val (.int p0), .val (.int p1), .val (.int p2), .val (.int (3 : Int32)), .val (.ref b79), .unset, .unset] [(.int (2 : Int32)), (.ref b79)])) _
      refine XS.iloadN X85.here hx rfl (hb hby at_43) rfl ?_
      show Steps p.tables e below (T85.setTop (mkF m 44 #[.val (.int ps), .val (.int p0), .val (.int p1), .val (.int p2), .val (.int (3 : Int32)), .val (.ref b79), .unset, .unset] [(.int p2), (.int (2 : Int32)), (.ref b79)])) _
      refine XS.i2b X85.here hx rfl (hb hby at_44) rfl ?_
      show Steps p.tables e below (T85.setTop (mkF m 45 #[.val (.int ps), .val (.int p0), .val (.int p1), .val (.int p2), .val (.int (3 : Int32)), .val (.ref b79), .unset, .unset] [(.int (p2.toInt8.toInt32)), (.int (2 : Int32)), (.ref b79)])) _
      refine st88 _ ?_
      show Steps p.tables e below (T88.setTop (mkF m 46 #[.val (.int ps), .val (.int p0), .val (.int p1), .val (.int p2), .val (.int (3 : Int32)), .val (.ref b79), .unset, .unset] [])) _
      refine XS.aload X88.here hx rfl (hb hby at_46) rfl rfl ?_
      show Steps p.tables e below (T88.setTop (mkF m 48 #[.val (.int ps), .val (.int p0), .val (.int p1), .val (.int p2), .val (.int (3 : Int32)), .val (.ref b79), .unset, .unset] [(.ref b79)])) _
      refine st90 _ ?_
      show Steps p.tables e below (T90.setTop (mkF m 51 #[.val (.int ps), .val (.int p0), .val (.int p1), .val (.int p2), .val (.int (3 : Int32)), .val (.ref b79), .unset, .unset] [(.ref rro_90)])) _
      refine XS.astore X90.here hx rfl (hb hby at_51) rfl rfl (l' := #[.val (.int ps), .val (.int p0), .val (.int p1), .val (.int p2), .val (.int (3 : Int32)), .val (.ref b79), .val (.ref rro_90), .unset]) rfl ?_
      show Steps p.tables e below (T90.setTop (mkF m 53 #[.val (.int ps), .val (.int p0), .val (.int p1), .val (.int p2), .val (.int (3 : Int32)), .val (.ref b79), .val (.ref rro_90), .unset] [])) _
      refine XS.aload X90.here hx rfl (hb hby at_53) rfl rfl ?_
      show Steps p.tables e below (T90.setTop (mkF m 55 #[.val (.int ps), .val (.int p0), .val (.int p1), .val (.int p2), .val (.int (3 : Int32)), .val (.ref b79), .val (.ref rro_90), .unset] [(.ref rro_90)])) _
      refine st93.trans ?_
      show Steps p.tables e below (T93.setTop (mkF m 58 #[.val (.int ps), .val (.int p0), .val (.int p1), .val (.int p2), .val (.int (3 : Int32)), .val (.ref b79), .val (.ref rro_90), .unset] [(.ref aK)])) _
      refine st94 _ ?_
      show Steps p.tables e below (T94.setTop (mkF m 61 #[.val (.int ps), .val (.int p0), .val (.int p1), .val (.int p2), .val (.int (3 : Int32)), .val (.ref b79), .val (.ref rro_90), .unset] [(.ref aK), (.ref aK)])) _
      refine Jvm.RoadKit.acmp (g := (mkF m 61 #[.val (.int ps), .val (.int p0), .val (.int p1), .val (.int p2), .val (.int (3 : Int32)), .val (.ref b79), .val (.ref rro_90), .unset] [(.ref aK), (.ref aK)])) X94 hx rfl rfl rfl (pc0 := 61) (pc' := 66) (same := true) rfl (hb hby at_61) rfl (decide_eq_true rfl) (by decide) (by decide) ?_
      show Steps p.tables e below (T94.setTop (mkF m 66 #[.val (.int ps), .val (.int p0), .val (.int p1), .val (.int p2), .val (.int (3 : Int32)), .val (.ref b79), .val (.ref rro_90), .unset] [])) _
      refine XS.aload X94.here hx rfl (hb hby at_66) rfl rfl ?_
      show Steps p.tables e below (T94.setTop (mkF m 68 #[.val (.int ps), .val (.int p0), .val (.int p1), .val (.int p2), .val (.int (3 : Int32)), .val (.ref b79), .val (.ref rro_90), .unset] [(.ref rro_90)])) _
      refine st95.trans ?_
      show Steps p.tables e below (T95.setTop (mkF m 71 #[.val (.int ps), .val (.int p0), .val (.int p1), .val (.int p2), .val (.int (3 : Int32)), .val (.ref b79), .val (.ref rro_90), .unset] [(.ref b79)])) _
      refine XS.astore X95.here hx rfl (hb hby at_71) rfl rfl (l' := #[.val (.int ps), .val (.int p0), .val (.int p1), .val (.int p2), .val (.int (3 : Int32)), .val (.ref b79), .val (.ref rro_90), .val (.ref b79)]) rfl ?_
      show Steps p.tables e below (T95.setTop (mkF m 73 #[.val (.int ps), .val (.int p0), .val (.int p1), .val (.int p2), .val (.int (3 : Int32)), .val (.ref b79), .val (.ref rro_90), .val (.ref b79)] [])) _
      refine XS.aload X95.here hx rfl (hb hby at_73) rfl rfl ?_
      show Steps p.tables e below (T95.setTop (mkF m 75 #[.val (.int ps), .val (.int p0), .val (.int p1), .val (.int p2), .val (.int (3 : Int32)), .val (.ref b79), .val (.ref rro_90), .val (.ref b79)] [(.ref b79)])) _
      refine XS.aload X95.here hx rfl (hb hby at_75) rfl rfl ?_
      show Steps p.tables e below (T95.setTop (mkF m 77 #[.val (.int ps), .val (.int p0), .val (.int p1), .val (.int p2), .val (.int (3 : Int32)), .val (.ref b79), .val (.ref rro_90), .val (.ref b79)] [(.ref b79), (.ref b79)])) _
      refine Jvm.RoadKit.acmp (g := (mkF m 77 #[.val (.int ps), .val (.int p0), .val (.int p1), .val (.int p2), .val (.int (3 : Int32)), .val (.ref b79), .val (.ref rro_90), .val (.ref b79)] [(.ref b79), (.ref b79)])) X95 hx rfl rfl rfl (pc0 := 77) (pc' := 82) (same := true) rfl (hb hby at_77) rfl (decide_eq_true rfl) (by decide) (by decide) ?_
      show Steps p.tables e below (T95.setTop (mkF m 82 #[.val (.int ps), .val (.int p0), .val (.int p1), .val (.int p2), .val (.int (3 : Int32)), .val (.ref b79), .val (.ref rro_90), .val (.ref b79)] [])) _
      refine XS.aload X95.here hx rfl (hb hby at_82) rfl rfl ?_
      show Steps p.tables e below (T95.setTop (mkF m 84 #[.val (.int ps), .val (.int p0), .val (.int p1), .val (.int p2), .val (.int (3 : Int32)), .val (.ref b79), .val (.ref rro_90), .val (.ref b79)] [(.ref b79)])) _
      refine X95.arraylength hx (by rw [e95]; exact Ar96.1) (State.isArrayOf_alike hZ.alike Ar96.2.1) (g := (mkF m 84 #[.val (.int ps), .val (.int p0), .val (.int p1), .val (.int p2), .val (.int (3 : Int32)), .val (.ref b79), .val (.ref rro_90), .val (.ref b79)] [(.ref b79)])) rfl rfl (hb hby at_84) _ ?_
      rw [len_of S96 M96]
      show Steps p.tables e below (T95.setTop (mkF m 85 #[.val (.int ps), .val (.int p0), .val (.int p1), .val (.int p2), .val (.int (3 : Int32)), .val (.ref b79), .val (.ref rro_90), .val (.ref b79)] [(.int (3 : Int32))])) _
      refine XS.iload X95.here hx rfl (hb hby at_85) rfl ?_
      show Steps p.tables e below (T95.setTop (mkF m 87 #[.val (.int ps), .val (.int p0), .val (.int p1), .val (.int p2), .val (.int (3 : Int32)), .val (.ref b79), .val (.ref rro_90), .val (.ref b79)] [(.int (3 : Int32)), (.int (3 : Int32))])) _
      refine XS.icmpYes X95.here hx rfl (pc0 := 87) (pc' := 92) rfl (hb hby at_87) rfl (teq (by decide : ((3 : Int32) = (3 : Int32)))).1 (by decide) (by decide) ?_
      show Steps p.tables e below (T95.setTop (mkF m 92 #[.val (.int ps), .val (.int p0), .val (.int p1), .val (.int p2), .val (.int (3 : Int32)), .val (.ref b79), .val (.ref rro_90), .val (.ref b79)] [])) _
      refine XS.iload X95.here hx rfl (hb hby at_92) rfl ?_
      show Steps p.tables e below (T95.setTop (mkF m 94 #[.val (.int ps), .val (.int p0), .val (.int p1), .val (.int p2), .val (.int (3 : Int32)), .val (.ref b79), .val (.ref rro_90), .val (.ref b79)] [(.int (3 : Int32))])) _
      refine XS.ifNo X95.here hx rfl (hb hby at_94) rfl ((if0 _ _).trans (tlt (by decide : ((0 : Int32) < (3 : Int32)))).2.2.2) ?_
      show Steps p.tables e below (T95.setTop (mkF m 97 #[.val (.int ps), .val (.int p0), .val (.int p1), .val (.int p2), .val (.int (3 : Int32)), .val (.ref b79), .val (.ref rro_90), .val (.ref b79)] [])) _
      refine XS.aload X95.here hx rfl (hb hby at_97) rfl rfl ?_
      show Steps p.tables e below (T95.setTop (mkF m 99 #[.val (.int ps), .val (.int p0), .val (.int p1), .val (.int p2), .val (.int (3 : Int32)), .val (.ref b79), .val (.ref rro_90), .val (.ref b79)] [(.ref b79)])) _
      refine XS.iconst X95.here hx rfl (hb hby at_99) ?_
      show Steps p.tables e below (T95.setTop (mkF m 100 #[.val (.int ps), .val (.int p0), .val (.int p1), .val (.int p2), .val (.int (3 : Int32)), .val (.ref b79), .val (.ref rro_90), .val (.ref b79)] [(.int (0 : Int32)), (.ref b79)])) _
      refine X95.baloadBytes hx (j := (0 : Int32)) (v := (.int (nar .byte (p0.toInt8.toInt32)))) (by rw [e95]; exact Ar97.1) (State.isArrayOf_alike hZ.alike Ar97.2.1) Ar97.2.2 hin97 hat97 (g := (mkF m 100 #[.val (.int ps), .val (.int p0), .val (.int p1), .val (.int p2), .val (.int (3 : Int32)), .val (.ref b79), .val (.ref rro_90), .val (.ref b79)] [(.int (0 : Int32)), (.ref b79)])) rfl rfl (hb hby at_100) _ ?_
      show Steps p.tables e below (T95.setTop (mkF m 101 #[.val (.int ps), .val (.int p0), .val (.int p1), .val (.int p2), .val (.int (3 : Int32)), .val (.ref b79), .val (.ref rro_90), .val (.ref b79)] [(.int (nar .byte (p0.toInt8.toInt32)))])) _
      refine XS.iloadN X95.here hx rfl (hb hby at_101) rfl ?_
      show Steps p.tables e below (T95.setTop (mkF m 102 #[.val (.int ps), .val (.int p0), .val (.int p1), .val (.int p2), .val (.int (3 : Int32)), .val (.ref b79), .val (.ref rro_90), .val (.ref b79)] [(.int p0), (.int (nar .byte (p0.toInt8.toInt32)))])) _
      refine XS.i2b X95.here hx rfl (hb hby at_102) rfl ?_
      show Steps p.tables e below (T95.setTop (mkF m 103 #[.val (.int ps), .val (.int p0), .val (.int p1), .val (.int p2), .val (.int (3 : Int32)), .val (.ref b79), .val (.ref rro_90), .val (.ref b79)] [(.int (p0.toInt8.toInt32)), (.int (nar .byte (p0.toInt8.toInt32)))])) _
      refine XS.icmpYes X95.here hx rfl (pc0 := 103) (pc' := 108) rfl (hb hby at_103) rfl (teq (own_nb _ : ((nar .byte (p0.toInt8.toInt32)) = (p0.toInt8.toInt32)))).1 (by decide) (by decide) ?_
      show Steps p.tables e below (T95.setTop (mkF m 108 #[.val (.int ps), .val (.int p0), .val (.int p1), .val (.int p2), .val (.int (3 : Int32)), .val (.ref b79), .val (.ref rro_90), .val (.ref b79)] [])) _
      refine XS.iload X95.here hx rfl (hb hby at_108) rfl ?_
      show Steps p.tables e below (T95.setTop (mkF m 110 #[.val (.int ps), .val (.int p0), .val (.int p1), .val (.int p2), .val (.int (3 : Int32)), .val (.ref b79), .val (.ref rro_90), .val (.ref b79)] [(.int (3 : Int32))])) _
      refine XS.iconst X95.here hx rfl (hb hby at_110) ?_
      show Steps p.tables e below (T95.setTop (mkF m 111 #[.val (.int ps), .val (.int p0), .val (.int p1), .val (.int p2), .val (.int (3 : Int32)), .val (.ref b79), .val (.ref rro_90), .val (.ref b79)] [(.int (1 : Int32)), (.int (3 : Int32))])) _
      refine XS.icmpNo X95.here hx rfl (hb hby at_111) rfl (tlt (by decide : ((1 : Int32) < (3 : Int32)))).2.2.2 ?_
      show Steps p.tables e below (T95.setTop (mkF m 114 #[.val (.int ps), .val (.int p0), .val (.int p1), .val (.int p2), .val (.int (3 : Int32)), .val (.ref b79), .val (.ref rro_90), .val (.ref b79)] [])) _
      refine XS.aload X95.here hx rfl (hb hby at_114) rfl rfl ?_
      show Steps p.tables e below (T95.setTop (mkF m 116 #[.val (.int ps), .val (.int p0), .val (.int p1), .val (.int p2), .val (.int (3 : Int32)), .val (.ref b79), .val (.ref rro_90), .val (.ref b79)] [(.ref b79)])) _
      refine XS.iconst X95.here hx rfl (hb hby at_116) ?_
      show Steps p.tables e below (T95.setTop (mkF m 117 #[.val (.int ps), .val (.int p0), .val (.int p1), .val (.int p2), .val (.int (3 : Int32)), .val (.ref b79), .val (.ref rro_90), .val (.ref b79)] [(.int (1 : Int32)), (.ref b79)])) _
      refine X95.baloadBytes hx (j := (1 : Int32)) (v := (.int (nar .byte (p1.toInt8.toInt32)))) (by rw [e95]; exact Ar98.1) (State.isArrayOf_alike hZ.alike Ar98.2.1) Ar98.2.2 hin98 hat98 (g := (mkF m 117 #[.val (.int ps), .val (.int p0), .val (.int p1), .val (.int p2), .val (.int (3 : Int32)), .val (.ref b79), .val (.ref rro_90), .val (.ref b79)] [(.int (1 : Int32)), (.ref b79)])) rfl rfl (hb hby at_117) _ ?_
      show Steps p.tables e below (T95.setTop (mkF m 118 #[.val (.int ps), .val (.int p0), .val (.int p1), .val (.int p2), .val (.int (3 : Int32)), .val (.ref b79), .val (.ref rro_90), .val (.ref b79)] [(.int (nar .byte (p1.toInt8.toInt32)))])) _
      refine XS.iloadN X95.here hx rfl (hb hby at_118) rfl ?_
      show Steps p.tables e below (T95.setTop (mkF m 119 #[.val (.int ps), .val (.int p0), .val (.int p1), .val (.int p2), .val (.int (3 : Int32)), .val (.ref b79), .val (.ref rro_90), .val (.ref b79)] [(.int p1), (.int (nar .byte (p1.toInt8.toInt32)))])) _
      refine XS.i2b X95.here hx rfl (hb hby at_119) rfl ?_
      show Steps p.tables e below (T95.setTop (mkF m 120 #[.val (.int ps), .val (.int p0), .val (.int p1), .val (.int p2), .val (.int (3 : Int32)), .val (.ref b79), .val (.ref rro_90), .val (.ref b79)] [(.int (p1.toInt8.toInt32)), (.int (nar .byte (p1.toInt8.toInt32)))])) _
      refine XS.icmpYes X95.here hx rfl (pc0 := 120) (pc' := 125) rfl (hb hby at_120) rfl (teq (own_nb _ : ((nar .byte (p1.toInt8.toInt32)) = (p1.toInt8.toInt32)))).1 (by decide) (by decide) ?_
      show Steps p.tables e below (T95.setTop (mkF m 125 #[.val (.int ps), .val (.int p0), .val (.int p1), .val (.int p2), .val (.int (3 : Int32)), .val (.ref b79), .val (.ref rro_90), .val (.ref b79)] [])) _
      refine XS.iload X95.here hx rfl (hb hby at_125) rfl ?_
      show Steps p.tables e below (T95.setTop (mkF m 127 #[.val (.int ps), .val (.int p0), .val (.int p1), .val (.int p2), .val (.int (3 : Int32)), .val (.ref b79), .val (.ref rro_90), .val (.ref b79)] [(.int (3 : Int32))])) _
      refine XS.iconst X95.here hx rfl (hb hby at_127) ?_
      show Steps p.tables e below (T95.setTop (mkF m 128 #[.val (.int ps), .val (.int p0), .val (.int p1), .val (.int p2), .val (.int (3 : Int32)), .val (.ref b79), .val (.ref rro_90), .val (.ref b79)] [(.int (2 : Int32)), (.int (3 : Int32))])) _
      refine XS.icmpNo X95.here hx rfl (hb hby at_128) rfl (tlt (by decide : ((2 : Int32) < (3 : Int32)))).2.2.2 ?_
      show Steps p.tables e below (T95.setTop (mkF m 131 #[.val (.int ps), .val (.int p0), .val (.int p1), .val (.int p2), .val (.int (3 : Int32)), .val (.ref b79), .val (.ref rro_90), .val (.ref b79)] [])) _
      refine XS.aload X95.here hx rfl (hb hby at_131) rfl rfl ?_
      show Steps p.tables e below (T95.setTop (mkF m 133 #[.val (.int ps), .val (.int p0), .val (.int p1), .val (.int p2), .val (.int (3 : Int32)), .val (.ref b79), .val (.ref rro_90), .val (.ref b79)] [(.ref b79)])) _
      refine XS.iconst X95.here hx rfl (hb hby at_133) ?_
      show Steps p.tables e below (T95.setTop (mkF m 134 #[.val (.int ps), .val (.int p0), .val (.int p1), .val (.int p2), .val (.int (3 : Int32)), .val (.ref b79), .val (.ref rro_90), .val (.ref b79)] [(.int (2 : Int32)), (.ref b79)])) _
      refine X95.baloadBytes hx (j := (2 : Int32)) (v := (.int (nar .byte (p2.toInt8.toInt32)))) (by rw [e95]; exact Ar99.1) (State.isArrayOf_alike hZ.alike Ar99.2.1) Ar99.2.2 hin99 hat99 (g := (mkF m 134 #[.val (.int ps), .val (.int p0), .val (.int p1), .val (.int p2), .val (.int (3 : Int32)), .val (.ref b79), .val (.ref rro_90), .val (.ref b79)] [(.int (2 : Int32)), (.ref b79)])) rfl rfl (hb hby at_134) _ ?_
      show Steps p.tables e below (T95.setTop (mkF m 135 #[.val (.int ps), .val (.int p0), .val (.int p1), .val (.int p2), .val (.int (3 : Int32)), .val (.ref b79), .val (.ref rro_90), .val (.ref b79)] [(.int (nar .byte (p2.toInt8.toInt32)))])) _
      refine XS.iloadN X95.here hx rfl (hb hby at_135) rfl ?_
      show Steps p.tables e below (T95.setTop (mkF m 136 #[.val (.int ps), .val (.int p0), .val (.int p1), .val (.int p2), .val (.int (3 : Int32)), .val (.ref b79), .val (.ref rro_90), .val (.ref b79)] [(.int p2), (.int (nar .byte (p2.toInt8.toInt32)))])) _
      refine XS.i2b X95.here hx rfl (hb hby at_136) rfl ?_
      show Steps p.tables e below (T95.setTop (mkF m 137 #[.val (.int ps), .val (.int p0), .val (.int p1), .val (.int p2), .val (.int (3 : Int32)), .val (.ref b79), .val (.ref rro_90), .val (.ref b79)] [(.int (p2.toInt8.toInt32)), (.int (nar .byte (p2.toInt8.toInt32)))])) _
      refine XS.icmpYes X95.here hx rfl (pc0 := 137) (pc' := 142) rfl (hb hby at_137) rfl (teq (own_nb _ : ((nar .byte (p2.toInt8.toInt32)) = (p2.toInt8.toInt32)))).1 (by decide) (by decide) ?_
      show Steps p.tables e below (T95.setTop (mkF m 142 #[.val (.int ps), .val (.int p0), .val (.int p1), .val (.int p2), .val (.int (3 : Int32)), .val (.ref b79), .val (.ref rro_90), .val (.ref b79)] [])) _
      refine XS.iload X95.here hx rfl (hb hby at_142) rfl ?_
      show Steps p.tables e below (T95.setTop (mkF m 144 #[.val (.int ps), .val (.int p0), .val (.int p1), .val (.int p2), .val (.int (3 : Int32)), .val (.ref b79), .val (.ref rro_90), .val (.ref b79)] [(.int (3 : Int32))])) _
      refine XS.ifNo X95.here hx rfl (hb hby at_144) rfl ((if0 _ _).trans (tlt (by decide : ((0 : Int32) < (3 : Int32)))).2.2.2) ?_
      show Steps p.tables e below (T95.setTop (mkF m 147 #[.val (.int ps), .val (.int p0), .val (.int p1), .val (.int p2), .val (.int (3 : Int32)), .val (.ref b79), .val (.ref rro_90), .val (.ref b79)] [])) _
      refine XS.aload X95.here hx rfl (hb hby at_147) rfl rfl ?_
      show Steps p.tables e below (T95.setTop (mkF m 149 #[.val (.int ps), .val (.int p0), .val (.int p1), .val (.int p2), .val (.int (3 : Int32)), .val (.ref b79), .val (.ref rro_90), .val (.ref b79)] [(.ref b79)])) _
      refine XS.iconst X95.here hx rfl (hb hby at_149) ?_
      show Steps p.tables e below (T95.setTop (mkF m 150 #[.val (.int ps), .val (.int p0), .val (.int p1), .val (.int p2), .val (.int (3 : Int32)), .val (.ref b79), .val (.ref rro_90), .val (.ref b79)] [(.int (0 : Int32)), (.ref b79)])) _
      refine XS.iloadN X95.here hx rfl (hb hby at_150) rfl ?_
      show Steps p.tables e below (T95.setTop (mkF m 151 #[.val (.int ps), .val (.int p0), .val (.int p1), .val (.int p2), .val (.int (3 : Int32)), .val (.ref b79), .val (.ref rro_90), .val (.ref b79)] [(.int p0), (.int (0 : Int32)), (.ref b79)])) _
      refine XS.iconst X95.here hx rfl (hb hby at_151) ?_
      show Steps p.tables e below (T95.setTop (mkF m 152 #[.val (.int ps), .val (.int p0), .val (.int p1), .val (.int p2), .val (.int (3 : Int32)), .val (.ref b79), .val (.ref rro_90), .val (.ref b79)] [(.int (1 : Int32)), (.int p0), (.int (0 : Int32)), (.ref b79)])) _
      refine XS.iadd X95.here hx rfl (hb hby at_152) rfl ?_
      show Steps p.tables e below (T95.setTop (mkF m 153 #[.val (.int ps), .val (.int p0), .val (.int p1), .val (.int p2), .val (.int (3 : Int32)), .val (.ref b79), .val (.ref rro_90), .val (.ref b79)] [(.int (p0 + (1 : Int32))), (.int (0 : Int32)), (.ref b79)])) _
      refine XS.i2b X95.here hx rfl (hb hby at_153) rfl ?_
      show Steps p.tables e below (T95.setTop (mkF m 154 #[.val (.int ps), .val (.int p0), .val (.int p1), .val (.int p2), .val (.int (3 : Int32)), .val (.ref b79), .val (.ref rro_90), .val (.ref b79)] [(.int ((p0 + (1 : Int32)).toInt8.toInt32)), (.int (0 : Int32)), (.ref b79)])) _
      refine st101 _ ?_
      show Steps p.tables e below (T101.setTop (mkF m 155 #[.val (.int ps), .val (.int p0), .val (.int p1), .val (.int p2), .val (.int (3 : Int32)), .val (.ref b79), .val (.ref rro_90), .val (.ref b79)] [])) _
      refine XS.aload X101.here hx rfl (hb hby at_155) rfl rfl ?_
      show Steps p.tables e below (T101.setTop (mkF m 157 #[.val (.int ps), .val (.int p0), .val (.int p1), .val (.int p2), .val (.int (3 : Int32)), .val (.ref b79), .val (.ref rro_90), .val (.ref b79)] [(.ref rro_90)])) _
      refine st106.trans ?_
      show Steps p.tables e below (T106.setTop (mkF m 160 #[.val (.int ps), .val (.int p0), .val (.int p1), .val (.int p2), .val (.int (3 : Int32)), .val (.ref b79), .val (.ref rro_90), .val (.ref b79)] [(.ref b79)])) _
      refine XS.iconst X106.here hx rfl (hb hby at_160) ?_
      show Steps p.tables e below (T106.setTop (mkF m 161 #[.val (.int ps), .val (.int p0), .val (.int p1), .val (.int p2), .val (.int (3 : Int32)), .val (.ref b79), .val (.ref rro_90), .val (.ref b79)] [(.int (0 : Int32)), (.ref b79)])) _
      refine X106.baloadBytes hx (j := (0 : Int32)) (v := (.int (nar .byte ((p0 + (1 : Int32)).toInt8.toInt32)))) (by rw [e106]; exact Ar107.1) (State.isArrayOf_alike hZ.alike Ar107.2.1) Ar107.2.2 hin107 hat107 (g := (mkF m 161 #[.val (.int ps), .val (.int p0), .val (.int p1), .val (.int p2), .val (.int (3 : Int32)), .val (.ref b79), .val (.ref rro_90), .val (.ref b79)] [(.int (0 : Int32)), (.ref b79)])) rfl rfl (hb hby at_161) _ ?_
      show Steps p.tables e below (T106.setTop (mkF m 162 #[.val (.int ps), .val (.int p0), .val (.int p1), .val (.int p2), .val (.int (3 : Int32)), .val (.ref b79), .val (.ref rro_90), .val (.ref b79)] [(.int (nar .byte ((p0 + (1 : Int32)).toInt8.toInt32)))])) _
      refine XS.iloadN X106.here hx rfl (hb hby at_162) rfl ?_
      show Steps p.tables e below (T106.setTop (mkF m 163 #[.val (.int ps), .val (.int p0), .val (.int p1), .val (.int p2), .val (.int (3 : Int32)), .val (.ref b79), .val (.ref rro_90), .val (.ref b79)] [(.int p0), (.int (nar .byte ((p0 + (1 : Int32)).toInt8.toInt32)))])) _
      refine XS.iconst X106.here hx rfl (hb hby at_163) ?_
      show Steps p.tables e below (T106.setTop (mkF m 164 #[.val (.int ps), .val (.int p0), .val (.int p1), .val (.int p2), .val (.int (3 : Int32)), .val (.ref b79), .val (.ref rro_90), .val (.ref b79)] [(.int (1 : Int32)), (.int p0), (.int (nar .byte ((p0 + (1 : Int32)).toInt8.toInt32)))])) _
      refine XS.iadd X106.here hx rfl (hb hby at_164) rfl ?_
      show Steps p.tables e below (T106.setTop (mkF m 165 #[.val (.int ps), .val (.int p0), .val (.int p1), .val (.int p2), .val (.int (3 : Int32)), .val (.ref b79), .val (.ref rro_90), .val (.ref b79)] [(.int (p0 + (1 : Int32))), (.int (nar .byte ((p0 + (1 : Int32)).toInt8.toInt32)))])) _
      refine XS.i2b X106.here hx rfl (hb hby at_165) rfl ?_
      show Steps p.tables e below (T106.setTop (mkF m 166 #[.val (.int ps), .val (.int p0), .val (.int p1), .val (.int p2), .val (.int (3 : Int32)), .val (.ref b79), .val (.ref rro_90), .val (.ref b79)] [(.int ((p0 + (1 : Int32)).toInt8.toInt32)), (.int (nar .byte ((p0 + (1 : Int32)).toInt8.toInt32)))])) _
      refine XS.icmpYes X106.here hx rfl (pc0 := 166) (pc' := 171) rfl (hb hby at_166) rfl (teq (own_nb _ : ((nar .byte ((p0 + (1 : Int32)).toInt8.toInt32)) = ((p0 + (1 : Int32)).toInt8.toInt32)))).1 (by decide) (by decide) ?_
      show Steps p.tables e below (T106.setTop (mkF m 171 #[.val (.int ps), .val (.int p0), .val (.int p1), .val (.int p2), .val (.int (3 : Int32)), .val (.ref b79), .val (.ref rro_90), .val (.ref b79)] [])) _
      refine XS.iconst X106.here hx rfl (hb hby at_171) ?_
      show Steps p.tables e below (T106.setTop (mkF m 172 #[.val (.int ps), .val (.int p0), .val (.int p1), .val (.int p2), .val (.int (3 : Int32)), .val (.ref b79), .val (.ref rro_90), .val (.ref b79)] [(.int (1 : Int32))])) _
      exact retN X106 hx (t := .boolean) Bd.returns (by simp) (hb hby at_172) hr
    · show Q0 Z ps p0 p1 p2 aK h0 n0 _ T106.heap _
      rw [e106]
      exact ⟨rfl, N106⟩
set_option maxRecDepth 65536 in
set_option maxHeartbeats 40000000 in
theorem comes_1 {Post : Tables → Env → Array Value → State → Outcome → State → Prop} (hpost : ∀ tb e args s v u, (limb_1_1.after args s (.returned v) u = true ∧ limb_1_2.after args s (.returned v) u = true ∧ True) → FrameEnd s (.returned v) u (Jvm.fieldLocs frame_1_writes args s ++ Jvm.arrayLocs frame_1_arrays args s ++ Jvm.staticLocs frame_1_statics s) 16 128 → Post tb e args s (.returned v) u) :
    ArmFor flags0 classFile x code maxLocals ret World_1 tables_1 room_1 Calls_1 rest_1 Pre_1 Post := by
  intro l hfl _ _ p e ha hc hk s m args below hf hA hF happ hP
  obtain ⟨hcalls, hrest, hpre⟩ := hP
  obtain ⟨-, -, -, hnamed, -, -, -, hat⟩ := (Spec.applies_iff hf).mp happ
  obtain ⟨hg, hn⟩ := and_e (Cond.before_iff.mp (show (Jvm.Cond.and given_1 narrow_1).before args s = true from hpre))
  obtain ⟨hcount, ga0⟩ := and_e hg
  obtain ⟨gi0, ga1⟩ := and_e ga0
  obtain ⟨gi1, ga2⟩ := and_e ga1
  obtain ⟨gi2, ga3⟩ := and_e ga2
  have gi3 := ga3
  obtain ⟨w0, w1, w2, w3, rfl⟩ : ∃ w0 w1 w2 w3 : Value, args = #[w0, w1, w2, w3] := by
    have hs : args.size = 4 := by simpa [Cond.value, given_1] using hcount
    obtain ⟨L⟩ := args
    match L, hs with
    | [w0, w1, w2, w3], _ => exact ⟨w0, w1, w2, w3, rfl⟩
  have hw := fun d (hd : d ∈ tables_1) => atoms_spec (ws := Jvm.Cond.code x code maxLocals ret :: tables_1) hat d (List.mem_cons_of_mem _ hd)
  have hfit : Fit s := fun {y c} hc i hi => by
    obtain ⟨ha, rfl⟩ := Array.getElem?_eq_some_iff.mp hc
    have q := List.all_eq_true.mp ((Array.all_eq_true_iff_forall_mem.mp hF) _ (Array.getElem_mem ha)) i (List.mem_range.mpr hi)
    simpa [Array.getElem?_eq_getElem hi] using q
  obtain ⟨i0, ei0⟩ := is_v gi0
  obtain rfl : w0 = (.int i0) := Option.some.inj ei0
  obtain ⟨i1, ei1⟩ := is_v gi1
  obtain rfl : w1 = (.int i1) := Option.some.inj ei1
  obtain ⟨i2, ei2⟩ := is_v gi2
  obtain rfl : w2 = (.int i2) := Option.some.inj ei2
  obtain ⟨i3, ei3⟩ := is_v gi3
  obtain rfl : w3 = (.int i3) := Option.some.inj ei3
  have nn0 := hn
  obtain ⟨a_KEEP, ev_KEEP⟩ := exa_v nn0
  have E_KEEP := Exa.start ev_KEEP nn0
  have S_KEEP := Sta.start ev_KEEP (Or.inr ⟨(hw _ (List.mem_of_getElem? (i := 8) rfl)), (hw _ (List.mem_of_getElem? (i := 9) rfl))⟩)
  obtain ⟨n, o, h1, h2, h3, _, L, rfl, ⟨rfl, N⟩, hq⟩ := rm0 l s _ hw tables_1 i0 i1 i2 i3 a_KEEP s.heap s.heap.size (Nat.le_refl _) (Old.start s) S_KEEP p e ha hc hk s m _ below hf ((Spec.applies_iff_loose hf).mp happ).1 ⟨rfl, State.Warmed39.refl s, rfl⟩ trivial
  refine ⟨n, _, h1, h2, h3, hpost _ _ _ _ _ _ ⟨Cond.after_iff.mpr rfl, Cond.after_iff.mpr (eq_i res_at (Term.int_eval (1)) rfl), trivial⟩ ⟨hq.1, hq.2.1, (hq.2.2.sift fun y hy => Or.inr (N y hy)).mono (by decide) (by decide)⟩⟩
theorem main_1_1 : Claimed_1_1 := comes_1 fun _ _ _ _ _ _ h hF => ⟨h.1, hF⟩
theorem main_1_2 : Claimed_1_2 := comes_1 fun _ _ _ _ _ _ h hF => ⟨h.2.1, hF⟩
end Jvm.Pilot.@@N@@
namespace Jvm.Pilot.@@N@@
open Jvm Jvm.ClassFile Sem Op Lib Jvm.Free Jvm.Stand Jvm.Pilot.@@N@@.Jvm.D
/-! MADE BY PROGRAM (witnessworld.py) out of the Statement's table words and the real class files: 13 classes; the members and pool entries that the words name. The judged class is class 1, her method 1. -/
namespace start1
open Jvm.ClassFile
def u (s : String) : CpInfo := .utf8 (stringToUtf16 s)
/-- a pool by its gaps: so many unusable entries, then the entry; so many at the end -/
def gap : Nat → List CpInfo → List CpInfo
  | 0, r => r
  | n + 1, r => .unusable :: gap n r
def poolList (es : List (Nat × CpInfo)) (last : Nat) : List CpInfo := es.foldr (fun e r => gap e.1 (e.2 :: r)) (gap last [])
def pool (es : List (Nat × CpInfo)) (last : Nat) : Array CpInfo := ⟨poolList es last⟩
def fileOf (pool : Array CpInfo) (this : Nat) (attrs : Array Attribute := #[]) (ms : Array MethodInfo := #[]) (fl : Nat := 33) (sup : Nat := 0) (ifs : Array Nat := #[]) (fds : Array FieldInfo := #[]) : ClassFile where
  minorVersion := 0
  majorVersion := 65
  constantPool := pool
  accessFlags := fl
  thisClass := this
  superClass := sup
  interfaces := ifs
  fields := fds
  methods := ms
  attributes := attrs
def plain (name : String) (sup : Option ClassId) : Class where
  name := name
  kind := .ordinary
  loader := none
  accessFlags := 33
  super := sup
  interfaces := #[]
  cf := none
  fields := #[]
  methods := #[]
  instanceTypes := #[]
  staticTypes := #[]
  resolved := #[]
  callSites := []
  init := .initialized
  statics := none
  mirror := none

def pool0 : Array CpInfo := pool [(5, u "<init>"), (0, u "()V"), (1, .class_ 10), (1, u "java/lang/Object")] 113

def k0c0 : Code := { maxStack := 0, maxLocals := 1, code := object_method_1_code, exceptionTable := #[], attributes := #[] }
def k0m0 : Method := { name := "<init>", desc := "()V", sig := { parameters := [], returnType := none }, accessFlags := 1, code := some k0c0 }
/-- java/lang/Object -/
def k0 : Class := { plain "java/lang/Object" none with
  accessFlags := 33
  interfaces := #[]
  cf := some (fileOf pool0 8 #[] #[{ accessFlags := 1, nameIndex := 5, descriptorIndex := 6, attributes := #[] }] 33 0 #[] #[])
  fields := #[]
  methods := #[k0m0]
  instanceTypes := #[]
  staticTypes := #[]
  resolved := Array.replicate 124 none
  statics := none }

def pool1 : Array CpInfo := pool [(2, .class_ 4), (1, u "java/lang/Object"), (0, u "<init>"), (0, u "()V"), (0, .methodref 8 9), (0, .class_ 10), (0, .nameAndType 11 12), (0, u "com/example/webhook_acknowledger/webhookacknowledger/receive/Verdict"), (0, u "keepOnce"), (0, u "([B)Lcom/example/webhook_acknowledger/webhookacknowledger/receive/Verdict;"), (0, .methodref 8 14), (0, .nameAndType 15 16), (0, u "outcome"), (0, u "()Lcom/example/webhook_acknowledger/webhookacknowledger/receive/Verdict$Outcome;"), (0, .fieldref 18 19), (0, .class_ 20), (0, .nameAndType 21 22), (0, u "com/example/webhook_acknowledger/webhookacknowledger/receive/Verdict$Outcome"), (0, u "KEEP"), (0, u "Lcom/example/webhook_acknowledger/webhookacknowledger/receive/Verdict$Outcome;"), (0, .methodref 8 24), (0, .nameAndType 25 26), (0, u "id"), (0, u "()[B"), (0, .class_ 28), (0, u "com/example/webhook_acknowledger/webhookacknowledger/receive/VerdictKeepOncePinLaw"), (2, u "law"), (0, u "(IIII)Z")] 7

def k1m0 : Method := { name := "<init>", desc := "()V", sig := { parameters := [], returnType := none }, accessFlags := 1, code := none }
def k1c1 : Code := { maxStack := 4, maxLocals := 8, code := code, exceptionTable := #[], attributes := #[] }
def k1m1 : Method := { name := "law", desc := "(IIII)Z", sig := { parameters := [.int, .int, .int, .int], returnType := some .boolean }, accessFlags := 9, code := some k1c1 }
/-- com/example/webhook_acknowledger/webhookacknowledger/receive/VerdictKeepOncePinLaw -/
def k1 : Class := { plain "com/example/webhook_acknowledger/webhookacknowledger/receive/VerdictKeepOncePinLaw" (some 0) with
  accessFlags := 49
  interfaces := #[]
  cf := some (fileOf pool1 27 #[] #[{ accessFlags := 1, nameIndex := 5, descriptorIndex := 6, attributes := #[] }, { accessFlags := 9, nameIndex := 31, descriptorIndex := 32, attributes := #[] }] 49 2 #[] #[])
  fields := #[]
  methods := #[k1m0, k1m1]
  instanceTypes := #[]
  staticTypes := #[]
  resolved := Array.replicate 40 none
  statics := none }

def pool2 : Array CpInfo := pool [(1, .methodref 2 3), (0, .class_ 4), (0, .nameAndType 5 6), (0, u "java/lang/Object"), (0, u "<init>"), (0, u "()V"), (0, .fieldref 8 9), (0, .class_ 10), (0, .nameAndType 11 12), (0, u "com/example/webhook_acknowledger/webhookacknowledger/receive/Verdict"), (0, u "outcome"), (0, u "Lcom/example/webhook_acknowledger/webhookacknowledger/receive/Verdict$Outcome;"), (0, .fieldref 8 14), (0, .nameAndType 15 16), (0, u "id"), (0, u "[B"), (0, .fieldref 18 19), (0, .class_ 20), (0, .nameAndType 21 12), (0, u "com/example/webhook_acknowledger/webhookacknowledger/receive/Verdict$Outcome"), (0, u "KEEP"), (0, .methodref 8 23), (0, .nameAndType 5 24), (0, u "(Lcom/example/webhook_acknowledger/webhookacknowledger/receive/Verdict$Outcome;[B)V"), (2, u "Lcom/example/webhook_acknowledger/webhookacknowledger/receive/Verdict;"), (2, u "UNAUTHORIZED"), (4, u "MALFORMED"), (4, u "ACKNOWLEDGE"), (4, u "keepOnce"), (0, u "([B)Lcom/example/webhook_acknowledger/webhookacknowledger/receive/Verdict;"), (0, u "()Lcom/example/webhook_acknowledger/webhookacknowledger/receive/Verdict$Outcome;"), (0, u "()[B")] 6

def k2c0 : Code := { maxStack := 2, maxLocals := 3, code := prog_12_method_1_code, exceptionTable := #[], attributes := #[] }
def k2m0 : Method := { name := "<init>", desc := "(Lcom/example/webhook_acknowledger/webhookacknowledger/receive/Verdict$Outcome;[B)V", sig := { parameters := [(.object "com/example/webhook_acknowledger/webhookacknowledger/receive/Verdict$Outcome"), (.array .byte)], returnType := none }, accessFlags := 2, code := some k2c0 }
def k2c1 : Code := { maxStack := 4, maxLocals := 1, code := prog_12_method_2_code, exceptionTable := #[], attributes := #[] }
def k2m1 : Method := { name := "keepOnce", desc := "([B)Lcom/example/webhook_acknowledger/webhookacknowledger/receive/Verdict;", sig := { parameters := [(.array .byte)], returnType := some (.object "com/example/webhook_acknowledger/webhookacknowledger/receive/Verdict") }, accessFlags := 9, code := some k2c1 }
def k2c2 : Code := { maxStack := 1, maxLocals := 1, code := prog_12_method_3_code, exceptionTable := #[], attributes := #[] }
def k2m2 : Method := { name := "outcome", desc := "()Lcom/example/webhook_acknowledger/webhookacknowledger/receive/Verdict$Outcome;", sig := { parameters := [], returnType := some (.object "com/example/webhook_acknowledger/webhookacknowledger/receive/Verdict$Outcome") }, accessFlags := 1, code := some k2c2 }
def k2c3 : Code := { maxStack := 1, maxLocals := 1, code := prog_12_method_4_code, exceptionTable := #[], attributes := #[] }
def k2m3 : Method := { name := "id", desc := "()[B", sig := { parameters := [], returnType := some (.array .byte) }, accessFlags := 1, code := some k2c3 }
/-- com/example/webhook_acknowledger/webhookacknowledger/receive/Verdict -/
def k2 : Class := { plain "com/example/webhook_acknowledger/webhookacknowledger/receive/Verdict" (some 0) with
  accessFlags := 33
  interfaces := #[]
  cf := some (fileOf pool2 8 #[.nestMembers #[18]] #[{ accessFlags := 2, nameIndex := 5, descriptorIndex := 24, attributes := #[] }, { accessFlags := 9, nameIndex := 45, descriptorIndex := 46, attributes := #[] }, { accessFlags := 1, nameIndex := 11, descriptorIndex := 47, attributes := #[] }, { accessFlags := 1, nameIndex := 15, descriptorIndex := 48, attributes := #[] }] 33 2 #[] #[{ accessFlags := 25, nameIndex := 21, descriptorIndex := 27, attributes := #[] }, { accessFlags := 25, nameIndex := 30, descriptorIndex := 27, attributes := #[] }, { accessFlags := 25, nameIndex := 35, descriptorIndex := 27, attributes := #[] }, { accessFlags := 25, nameIndex := 40, descriptorIndex := 27, attributes := #[] }, { accessFlags := 18, nameIndex := 11, descriptorIndex := 12, attributes := #[] }, { accessFlags := 18, nameIndex := 15, descriptorIndex := 16, attributes := #[] }])
  fields := #[{ name := "KEEP", type := (.object "com/example/webhook_acknowledger/webhookacknowledger/receive/Verdict"), accessFlags := 25, slot := 0, constantValue := 0 }, { name := "UNAUTHORIZED", type := (.object "com/example/webhook_acknowledger/webhookacknowledger/receive/Verdict"), accessFlags := 25, slot := 1, constantValue := 0 }, { name := "MALFORMED", type := (.object "com/example/webhook_acknowledger/webhookacknowledger/receive/Verdict"), accessFlags := 25, slot := 2, constantValue := 0 }, { name := "ACKNOWLEDGE", type := (.object "com/example/webhook_acknowledger/webhookacknowledger/receive/Verdict"), accessFlags := 25, slot := 3, constantValue := 0 }, { name := "outcome", type := (.object "com/example/webhook_acknowledger/webhookacknowledger/receive/Verdict$Outcome"), accessFlags := 18, slot := 0, constantValue := 0 }, { name := "id", type := (.array .byte), accessFlags := 18, slot := 1, constantValue := 0 }]
  methods := #[k2m0, k2m1, k2m2, k2m3]
  instanceTypes := #[(.object "com/example/webhook_acknowledger/webhookacknowledger/receive/Verdict$Outcome"), (.array .byte)]
  staticTypes := #[(.object "com/example/webhook_acknowledger/webhookacknowledger/receive/Verdict"), (.object "com/example/webhook_acknowledger/webhookacknowledger/receive/Verdict"), (.object "com/example/webhook_acknowledger/webhookacknowledger/receive/Verdict"), (.object "com/example/webhook_acknowledger/webhookacknowledger/receive/Verdict")]
  resolved := Array.replicate 55 none
  statics := none }

def pool3 : Array CpInfo := pool [(1, .class_ 2), (0, u "java/lang/constant/Constable"), (0, .class_ 4), (0, u "java/lang/Object")] 6

/-- java/lang/constant/Constable -/
def k3 : Class := { plain "java/lang/constant/Constable" (some 0) with
  accessFlags := 1537
  interfaces := #[]
  cf := some (fileOf pool3 1 #[] #[] 1537 3 #[] #[])
  fields := #[]
  methods := #[]
  instanceTypes := #[]
  staticTypes := #[]
  resolved := Array.replicate 11 none
  statics := none }

def pool4 : Array CpInfo := pool [(1, .class_ 2), (0, u "java/lang/Comparable"), (0, .class_ 4), (0, u "java/lang/Object")] 7

/-- java/lang/Comparable -/
def k4 : Class := { plain "java/lang/Comparable" (some 0) with
  accessFlags := 1537
  interfaces := #[]
  cf := some (fileOf pool4 1 #[] #[] 1537 3 #[] #[])
  fields := #[]
  methods := #[]
  instanceTypes := #[]
  staticTypes := #[]
  resolved := Array.replicate 12 none
  statics := none }

def pool5 : Array CpInfo := pool [(1, .class_ 2), (0, u "java/io/Serializable"), (0, .class_ 4), (0, u "java/lang/Object")] 2

/-- java/io/Serializable -/
def k5 : Class := { plain "java/io/Serializable" (some 0) with
  accessFlags := 1537
  interfaces := #[]
  cf := some (fileOf pool5 1 #[] #[] 1537 3 #[] #[])
  fields := #[]
  methods := #[]
  instanceTypes := #[]
  staticTypes := #[]
  resolved := Array.replicate 7 none
  statics := none }

def pool6 : Array CpInfo := pool [(2, .class_ 4), (1, u "java/lang/Enum"), (0, u "name"), (0, u "Ljava/lang/String;"), (2, u "ordinal"), (0, u "I"), (1, .class_ 14), (1, u "java/lang/Object"), (4, u "hash"), (86, .class_ 108), (1, u "java/lang/Enum$EnumDesc"), (2, .class_ 112), (0, u "java/lang/constant/Constable"), (0, .class_ 114), (0, u "java/lang/Comparable"), (0, .class_ 116), (0, u "java/io/Serializable")] 87

/-- java/lang/Enum -/
def k6 : Class := { plain "java/lang/Enum" (some 0) with
  accessFlags := 1057
  interfaces := #[3, 4, 5]
  cf := some (fileOf pool6 2 #[.nestMembers #[106]] #[] 1057 12 #[111, 113, 115] #[{ accessFlags := 18, nameIndex := 5, descriptorIndex := 6, attributes := #[] }, { accessFlags := 18, nameIndex := 9, descriptorIndex := 10, attributes := #[] }, { accessFlags := 2, nameIndex := 19, descriptorIndex := 10, attributes := #[] }])
  fields := #[{ name := "name", type := (.object "java/lang/String"), accessFlags := 18, slot := 0, constantValue := 0 }, { name := "ordinal", type := .int, accessFlags := 18, slot := 1, constantValue := 0 }, { name := "hash", type := .int, accessFlags := 2, slot := 2, constantValue := 0 }]
  methods := #[]
  instanceTypes := #[(.object "java/lang/String"), .int, .int]
  staticTypes := #[]
  resolved := Array.replicate 204 none
  statics := none }

def pool7 : Array CpInfo := pool [(1, .class_ 2), (0, u "com/example/webhook_acknowledger/webhookacknowledger/receive/Verdict$Outcome"), (2, u "KEEP"), (0, u "Lcom/example/webhook_acknowledger/webhookacknowledger/receive/Verdict$Outcome;"), (2, u "UNAUTHORIZED"), (2, u "MALFORMED"), (2, u "ACKNOWLEDGE"), (2, u "$VALUES"), (0, u "[Lcom/example/webhook_acknowledger/webhookacknowledger/receive/Verdict$Outcome;"), (6, .class_ 28), (1, u "java/lang/Enum"), (27, .class_ 57), (0, u "com/example/webhook_acknowledger/webhookacknowledger/receive/Verdict")] 2

/-- com/example/webhook_acknowledger/webhookacknowledger/receive/Verdict$Outcome -/
def k7 : Class := { plain "com/example/webhook_acknowledger/webhookacknowledger/receive/Verdict$Outcome" (some 6) with
  accessFlags := 16433
  interfaces := #[]
  cf := some (fileOf pool7 1 #[.nestHost 56] #[] 16433 26 #[] #[{ accessFlags := 16409, nameIndex := 5, descriptorIndex := 6, attributes := #[] }, { accessFlags := 16409, nameIndex := 9, descriptorIndex := 6, attributes := #[] }, { accessFlags := 16409, nameIndex := 12, descriptorIndex := 6, attributes := #[] }, { accessFlags := 16409, nameIndex := 15, descriptorIndex := 6, attributes := #[] }, { accessFlags := 4122, nameIndex := 18, descriptorIndex := 19, attributes := #[] }])
  fields := #[{ name := "KEEP", type := (.object "com/example/webhook_acknowledger/webhookacknowledger/receive/Verdict$Outcome"), accessFlags := 16409, slot := 0, constantValue := 0 }, { name := "UNAUTHORIZED", type := (.object "com/example/webhook_acknowledger/webhookacknowledger/receive/Verdict$Outcome"), accessFlags := 16409, slot := 1, constantValue := 0 }, { name := "MALFORMED", type := (.object "com/example/webhook_acknowledger/webhookacknowledger/receive/Verdict$Outcome"), accessFlags := 16409, slot := 2, constantValue := 0 }, { name := "ACKNOWLEDGE", type := (.object "com/example/webhook_acknowledger/webhookacknowledger/receive/Verdict$Outcome"), accessFlags := 16409, slot := 3, constantValue := 0 }, { name := "$VALUES", type := (.array (.object "com/example/webhook_acknowledger/webhookacknowledger/receive/Verdict$Outcome")), accessFlags := 4122, slot := 4, constantValue := 0 }]
  methods := #[]
  instanceTypes := #[(.object "java/lang/String"), .int, .int]
  staticTypes := #[(.object "com/example/webhook_acknowledger/webhookacknowledger/receive/Verdict$Outcome"), (.object "com/example/webhook_acknowledger/webhookacknowledger/receive/Verdict$Outcome"), (.object "com/example/webhook_acknowledger/webhookacknowledger/receive/Verdict$Outcome"), (.object "com/example/webhook_acknowledger/webhookacknowledger/receive/Verdict$Outcome"), (.array (.object "com/example/webhook_acknowledger/webhookacknowledger/receive/Verdict$Outcome"))]
  resolved := Array.replicate 60 none
  statics := some 0 }

def pool8 : Array CpInfo := pool [(1, u "java/lang/Cloneable"), (0, .class_ 1), (0, u "java/lang/Object"), (0, .class_ 3)] 3

/-- java/lang/Cloneable -/
def k8 : Class := { plain "java/lang/Cloneable" (some 0) with
  accessFlags := 1537
  interfaces := #[]
  cf := some (fileOf pool8 2 #[] #[] 1537 4 #[] #[])
  fields := #[]
  methods := #[]
  instanceTypes := #[]
  staticTypes := #[]
  resolved := Array.replicate 8 none
  statics := none }

/-- the primitive byte -/
def k9 : Class := { plain "byte" none with kind := .primitive 'B', accessFlags := 0x411 }
/-- [B -/
def k10 : Class := { plain "[B" (some 0) with kind := .array 9 .byte, interfaces := #[8, 5], accessFlags := 1041 }

/-- the primitive int -/
def k11 : Class := { plain "int" none with kind := .primitive 'I', accessFlags := 0x411 }
/-- [I -/
def k12 : Class := { plain "[I" (some 0) with kind := .array 11 .int, interfaces := #[8, 5], accessFlags := 1041 }

def heap : Heap := #[{ cls := 7, slots := #[.ref 1, .null, .null, .null, .null], vm := .statics 7 },
  { cls := 7, slots := #[.null, .int 0, .int 0], vm := .none }]
def classes : Array Class := #[k0, k1, k2, k3, k4, k5, k6, k7, k8, k9, k10, k11, k12]
def interned : List (Array UInt16 × Addr) := []
def slotsUsed : Nat := 8
def theMethod : MethodId := ⟨1, 1⟩
def args0 : Array Value := #[.int 5, .int 3, .int 4, .int 9]
def aboutOver (below : List Frame) : State where
  vm := { classes := classes, interned := interned.toArray }
  heap := heap
  slotsUsed := slotsUsed
  threads := #[{ frames := .invoking theMethod args0 :: below }]
def below0 : List Frame := [.native { method := ⟨0, 0⟩, args := #[] }]
def about1 : State := aboutOver below0
def p0 : Program := .bare "" "" ""
def e0 : Env := launch0.env 0 0 0
theorem w_frames : about1.frames = Frame.invoking theMethod args0 :: below0 := rfl
set_option maxRecDepth 65536 in
theorem w_args : argsFit about1.vm theMethod args0 = true := by decide +kernel
set_option maxRecDepth 65536 in
theorem w_heap : heapFits about1 = true := by decide +kernel
set_option maxRecDepth 65536 in
theorem w_runnable : about1.curStatus? = some .runnable := by decide +kernel
set_option maxRecDepth 65536 in
theorem w_alone : about1.alone = true := by decide +kernel
set_option maxRecDepth 65536 in
theorem w_named : about1.methodNamed? x = some theMethod := by decide +kernel
set_option maxRecDepth 65536 in
theorem w_hears : about1.hears theMethod below0 = true := by decide +kernel
set_option maxRecDepth 65536 in
theorem w_ripe : about1.ripe theMethod args0 below0 = true := by decide +kernel
theorem w_running : about1.status = .running := rfl
set_option maxRecDepth 65536 in
theorem w_room : about1.hasRoom e0.platform room_1 = true :=
  launch0.hasRoom_least _ room_1 (by decide +kernel) (by decide +kernel) (by decide +kernel) (by decide +kernel) (by decide +kernel) (by decide +kernel)
theorem allAtoms_all (ts : List Jvm.Cond) (a : Array Jvm.Value) (st : Jvm.State) : (allAtoms ts).before a st = ts.all (fun c => c.before a st) := by
  induction ts with
  | nil => rfl
  | cons c t ih =>
    show (Jvm.Cond.and c (allAtoms t)).before a st = _
    rw [Jvm.Cond.before_and, ih, List.all_cons]
def words1 : List Jvm.Cond := Jvm.Cond.code x code maxLocals ret :: tables_1
/-- a 'code' word, met by the world's own term for the bytes: nothing is compared byte by byte -/
theorem code_word {y : MethodName} {bytes : ByteArray} {mx : Nat} {rt : Option FieldType} {a : Array Value} {s : State} {m : MethodId} {meth : Method} {c : Code} (h1 : s.methodNamed? y = some m) (h2 : s.vm.method? m = some meth) (h3 : meth.code = some c) (h4 : c.code = bytes)
    (h5 : (c.maxLocals == mx && c.exceptionTable.isEmpty && decide (c.maxStack ≤ mostOperands) && decide (meth.sig.returnType = rt) && !meth.locks && decide (parseMethodDescriptor y.desc = some meth.sig)) = true) : (Jvm.Cond.code y bytes mx rt).before a s = true := by
  simp only [Bool.and_eq_true, beq_iff_eq, Bool.not_eq_true', decide_eq_true_eq] at h5
  obtain ⟨⟨⟨⟨⟨g1, g2⟩, g3⟩, g4⟩, g5⟩, g6⟩ := h5
  simp [Cond.before, Cond.holds, Cond.value, h1, h2, h3, h4, g1, g2, g3, g4, g5, g6]
def isCode : Jvm.Cond → Bool
  | .code _ _ _ _ => true
  | _ => false
theorem all_split {L : List Jvm.Cond} {P : Jvm.Cond → Bool} (h1 : L.all (fun c => isCode c || P c) = true) (h2 : ∀ c ∈ L.filter isCode, P c = true) : L.all P = true := by
  refine List.all_eq_true.mpr fun c hc => ?_
  have h := List.all_eq_true.mp h1 c hc
  rcases Bool.eq_false_or_eq_true (isCode c) with hi | hi
  · exact h2 c (List.mem_filter.mpr ⟨hc, hi⟩)
  · simpa [hi] using h
set_option maxRecDepth 65536 in
theorem w_c0 : (Jvm.Cond.code x code maxLocals ret).before args0 about1 = true := code_word (m := ⟨1, 1⟩) (meth := k1m1) (c := k1c1) (by decide +kernel) rfl rfl rfl (by decide +kernel)
set_option maxRecDepth 65536 in
theorem w_c1 : (Jvm.Cond.code ({ cls := "com/example/webhook_acknowledger/webhookacknowledger/receive/Verdict", name := "keepOnce", desc := "([B)Lcom/example/webhook_acknowledger/webhookacknowledger/receive/Verdict;" } : Jvm.MethodName) prog_12_method_2_code (1 : Nat) (Option.some (Jvm.ClassFile.FieldType.object "com/example/webhook_acknowledger/webhookacknowledger/receive/Verdict"))).before args0 about1 = true := code_word (m := ⟨2, 1⟩) (meth := k2m1) (c := k2c1) (by decide +kernel) rfl rfl rfl (by decide +kernel)
set_option maxRecDepth 65536 in
theorem w_c2 : (Jvm.Cond.code ({ cls := "com/example/webhook_acknowledger/webhookacknowledger/receive/Verdict", name := "<init>", desc := "(Lcom/example/webhook_acknowledger/webhookacknowledger/receive/Verdict$Outcome;[B)V" } : Jvm.MethodName) prog_12_method_1_code (3 : Nat) (Option.none : Option Jvm.ClassFile.FieldType)).before args0 about1 = true := code_word (m := ⟨2, 0⟩) (meth := k2m0) (c := k2c0) (by decide +kernel) rfl rfl rfl (by decide +kernel)
set_option maxRecDepth 65536 in
theorem w_c3 : (Jvm.Cond.code ({ cls := "java/lang/Object", name := "<init>", desc := "()V" } : Jvm.MethodName) object_method_1_code (1 : Nat) (Option.none : Option Jvm.ClassFile.FieldType)).before args0 about1 = true := code_word (m := ⟨0, 0⟩) (meth := k0m0) (c := k0c0) (by decide +kernel) rfl rfl rfl (by decide +kernel)
set_option maxRecDepth 65536 in
theorem w_c4 : (Jvm.Cond.code ({ cls := "com/example/webhook_acknowledger/webhookacknowledger/receive/Verdict", name := "outcome", desc := "()Lcom/example/webhook_acknowledger/webhookacknowledger/receive/Verdict$Outcome;" } : Jvm.MethodName) prog_12_method_3_code (1 : Nat) (Option.some (Jvm.ClassFile.FieldType.object "com/example/webhook_acknowledger/webhookacknowledger/receive/Verdict$Outcome"))).before args0 about1 = true := code_word (m := ⟨2, 2⟩) (meth := k2m2) (c := k2c2) (by decide +kernel) rfl rfl rfl (by decide +kernel)
set_option maxRecDepth 65536 in
theorem w_c5 : (Jvm.Cond.code ({ cls := "com/example/webhook_acknowledger/webhookacknowledger/receive/Verdict", name := "id", desc := "()[B" } : Jvm.MethodName) prog_12_method_4_code (1 : Nat) (Option.some (Jvm.ClassFile.FieldType.array Jvm.ClassFile.FieldType.byte))).before args0 about1 = true := code_word (m := ⟨2, 3⟩) (meth := k2m3) (c := k2c3) (by decide +kernel) rfl rfl rfl (by decide +kernel)
def codes1 : List Jvm.Cond := [Jvm.Cond.code x code maxLocals ret, Jvm.Cond.code ({ cls := "com/example/webhook_acknowledger/webhookacknowledger/receive/Verdict", name := "keepOnce", desc := "([B)Lcom/example/webhook_acknowledger/webhookacknowledger/receive/Verdict;" } : Jvm.MethodName) prog_12_method_2_code (1 : Nat) (Option.some (Jvm.ClassFile.FieldType.object "com/example/webhook_acknowledger/webhookacknowledger/receive/Verdict")), Jvm.Cond.code ({ cls := "com/example/webhook_acknowledger/webhookacknowledger/receive/Verdict", name := "<init>", desc := "(Lcom/example/webhook_acknowledger/webhookacknowledger/receive/Verdict$Outcome;[B)V" } : Jvm.MethodName) prog_12_method_1_code (3 : Nat) (Option.none : Option Jvm.ClassFile.FieldType), Jvm.Cond.code ({ cls := "java/lang/Object", name := "<init>", desc := "()V" } : Jvm.MethodName) object_method_1_code (1 : Nat) (Option.none : Option Jvm.ClassFile.FieldType), Jvm.Cond.code ({ cls := "com/example/webhook_acknowledger/webhookacknowledger/receive/Verdict", name := "outcome", desc := "()Lcom/example/webhook_acknowledger/webhookacknowledger/receive/Verdict$Outcome;" } : Jvm.MethodName) prog_12_method_3_code (1 : Nat) (Option.some (Jvm.ClassFile.FieldType.object "com/example/webhook_acknowledger/webhookacknowledger/receive/Verdict$Outcome")), Jvm.Cond.code ({ cls := "com/example/webhook_acknowledger/webhookacknowledger/receive/Verdict", name := "id", desc := "()[B" } : Jvm.MethodName) prog_12_method_4_code (1 : Nat) (Option.some (Jvm.ClassFile.FieldType.array Jvm.ClassFile.FieldType.byte))]
set_option maxRecDepth 65536 in
theorem codes_eq : words1.filter isCode = codes1 := rfl
theorem w_codes : ∀ c ∈ words1.filter isCode, c.before args0 about1 = true := by
  rw [codes_eq]
  intro c hc
  simp only [codes1, List.mem_cons, List.not_mem_nil, or_false] at hc
  rcases hc with rfl | rfl | rfl | rfl | rfl | rfl
  · exact w_c0
  · exact w_c1
  · exact w_c2
  · exact w_c3
  · exact w_c4
  · exact w_c5
set_option maxRecDepth 65536 in
theorem w_t1 : (words1.take 24).all (fun c => isCode c || c.before args0 about1) = true := by decide +kernel
set_option maxRecDepth 65536 in
theorem w_t2 : (words1.drop 24).all (fun c => isCode c || c.before args0 about1) = true := by decide +kernel
theorem w_tables : (allAtoms (Jvm.Cond.code x code maxLocals ret :: tables_1)).before args0 about1 = true := by
  rw [allAtoms_all]
  show words1.all (fun c => c.before args0 about1) = true
  refine all_split ?_ w_codes
  rw [← List.take_append_drop 24 words1, List.all_append, w_t1, w_t2]
  rfl
set_option maxRecDepth 65536 in
theorem w_case : (Jvm.Cond.and given_1 narrow_1).before args0 about1 = true := by decide +kernel
theorem w_applies : (headSpec (Jvm.Cond.code x code maxLocals ret :: tables_1) room_1).applies x e0.platform about1 = true :=
  (Spec.applies_iff w_frames).mpr ⟨w_running, w_runnable, w_alone, w_named, w_hears, w_ripe, w_room, w_tables⟩
theorem atStart : AtStart classFile x code maxLocals ret World_1 tables_1 room_1 Calls_1 rest_1 Pre_1 launch0 p0 e0 about1 theMethod args0 below0 :=
  ⟨lists_1, trivial, launch0.admits_env _ _ _, launch0.least_env, fairChoices_fair.cas, fairChoices_fair.clock, w_frames, w_args, w_heap, w_applies, trivial, trivial, w_case⟩
end start1
theorem witness_1 : WitnessClaimed_1 := ⟨start1.p0, start1.e0, start1.about1, start1.theMethod, start1.args0, start1.below0, start1.atStart⟩
end Jvm.Pilot.@@N@@
