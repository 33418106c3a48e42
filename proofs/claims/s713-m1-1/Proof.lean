import JvmDerived
import JvmDerived.Pilot.@@N@@Statement
import JvmDerived.Pilot.@@N@@Code
set_option linter.unusedVariables false
set_option linter.unusedSimpArgs false
namespace Jvm.RoadKit
open Sem ClassFile Op Lib Jvm.Stand Jvm.Free Jvm.LawKit
section New
variable {p : Program} {l : Launch} {e : Env} {R : Room} {s : State} {m : MethodId} {args : Array Value} {below : List Frame} {meth : Method} {c : Code} {T : State} {locs : List Loc} {cells slots : Nat}
theorem retI (X : Stand p l e R s m args below meth c T locs cells slots) (hx : p.tables.exec = Jvm.exec) {pc : Nat} {Ls : Array Slot} {z : Int32} {rest : List Value} (hret : meth.sig.returnType = some .int) (hd : decode c.code pc = .ok (.ireturn, 1)) {fs : List Frame}
    (hl : ∀ (f : JFrame) (acts : List Action), f.method = m → f.locked = none → f.entered = [] → (doReturn e (T.setTop f) acts (some (.int z))).1 = T.setFrames fs) : Steps p.tables e below (T.setTop (mkF m pc Ls (.int z :: rest))) (T.setFrames fs) := by
  have hm' : T.vm.method? m = some meth := X.method'
  have hn : narrow .int (.int z) = .int z := rfl
  show Steps p.tables e below (T.setTop { method := m, pc := pc, locals := Ls, stack := _ :: rest, locked := none }) _
  jvm_step X.here [X.here.top, hx, hd, hm', hret, hn]
  first | (intro acts; rw [hl _ acts rfl rfl rfl]) | rw [hl _ _ rfl rfl rfl]
  exact Steps.refl _
end New
end Jvm.RoadKit
namespace Jvm.Pilot.@@N@@
open Jvm Jvm.ClassFile Sem Op Lib Jvm.Free Jvm.Stand Jvm.LawKit Jvm.RoadKit Bundle Jvm.Pilot.@@N@@.Jvm.D
theorem own_low (x : Int32) : x &&& 255 = ⟨⟨(x.toInt8.toBitVec).setWidth 32⟩⟩ := by
  apply Int32.toBitVec_inj.mp
  show x.toBitVec &&& 255#32 = (x.toBitVec.signExtend 8).setWidth 32
  apply BitVec.eq_of_toNat_eq
  rw [BitVec.signExtend_eq_setWidth_of_le _ (by decide), BitVec.toNat_and, BitVec.toNat_setWidth, BitVec.toNat_setWidth, show (255#32).toNat = 2 ^ 8 - 1 from rfl, Nat.and_two_pow_sub_one_eq_mod]
  omega
theorem own_byte (x : Int32) : x.toInt8.toInt32 = ⟨⟨(x.toInt8.toBitVec).signExtend 32⟩⟩ := rfl
theorem own_a (b : BitVec 8) : (if ((⟨⟨b.signExtend 32⟩⟩ : Int32) &&& 192) = 128 then (1 : Int32) else 0) = (if (⟨⟨b.setWidth 32⟩⟩ : Int32) < 128 then 0 else if 191 < (⟨⟨b.setWidth 32⟩⟩ : Int32) then 0 else 1) := by
  revert b; decide +kernel
theorem own_b (b : BitVec 8) : (if ((⟨⟨b.signExtend 32⟩⟩ : Int32) &&& 192) = 128 then (1 : Int32) else 0) = (if (-65 : Int32) < (⟨⟨b.signExtend 32⟩⟩ : Int32) then 0 else 1) := by
  revert b; decide +kernel
theorem own_1 {x v : Int32} (h : v = if (x &&& 255) < 128 then 0 else if 191 < (x &&& 255) then 0 else 1) : (if (x.toInt8.toInt32 &&& 192) = 128 then (1 : Int32) else 0) = v := by
  rw [h, own_low, own_byte]; exact own_a _
theorem own_2 {x v : Int32} (h : v = if (-65 : Int32) < x.toInt8.toInt32 then 0 else 1) : (if (x.toInt8.toInt32 &&& 192) = 128 then (1 : Int32) else 0) = v := by
  rw [h, own_byte]; exact own_b _
theorem d1_0 : decode prog_42_method_5_code 0 = .ok (.iload_n 0, 1) := by decide +kernel
theorem d1_1 : decode prog_42_method_5_code 1 = .ok (.sipush 192, 3) := by decide +kernel
theorem d1_4 : decode prog_42_method_5_code 4 = .ok (.iand, 1) := by decide +kernel
theorem d1_5 : decode prog_42_method_5_code 5 = .ok (.sipush 128, 3) := by decide +kernel
theorem d1_8 : decode prog_42_method_5_code 8 = .ok (.if_icmp .ne 7, 3) := by decide +kernel
theorem d1_11 : decode prog_42_method_5_code 11 = .ok (.iconst 1, 1) := by decide +kernel
theorem d1_12 : decode prog_42_method_5_code 12 = .ok (.goto 4, 3) := by decide +kernel
theorem d1_16 : decode prog_42_method_5_code 16 = .ok (.ireturn, 1) := by decide +kernel
theorem d1_15 : decode prog_42_method_5_code 15 = .ok (.iconst 0, 1) := by decide +kernel
theorem own_pn9 : plainName "com/example/narrow_queue/narrowqueue/worker/KeptText" = true := by first | (simp [plainName, overriddenIn]; done) | decide +kernel
theorem ef_1 (m : MethodId) (x0 : Int32) : entryFrame m #[(.int x0)] 1 = mkF m 0 #[.val (.int x0)] [] := by first | (simp [entryFrame, mkF, argsToLocals, Value.category]; done) | rfl
def Q1 (Z : State) (pb : Int32) (h0 : Heap) (n0 : Nat) (v : Option Value) (h : Heap) (L : List Loc) : Prop := v = some (.int (if (pb &&& 192) = 128 then (1 : Int32) else 0)) ∧ Fr n0 L ∧ h = h0
set_option maxRecDepth 65536 in
set_option maxHeartbeats 40000000 in
theorem rm1 (l : Launch) (Z : State) (a0 : Array Value) (hw : ∀ d ∈ tables_1, d.before a0 Z = true) (ws : List Jvm.Cond) (pb : Int32) (h0 : Heap) (n0 : Nat) (Z0 : n0 ≤ h0.size) :
    MetFree l (⟨"com/example/narrow_queue/narrowqueue/worker/KeptText", "isContinuation", "(B)Z"⟩ : MethodName) (head1 (Jvm.Cond.code (⟨"com/example/narrow_queue/narrowqueue/worker/KeptText", "isContinuation", "(B)Z"⟩ : MethodName) prog_42_method_5_code 1 (some .boolean) :: ws) ({ frames := 0, cells := 0, slots := 0, locals := 0 } : Room)) (fun a U => a = #[(.int pb)] ∧ Z.Warmed39 U.vm ∧ U.heap = h0) (fun _ _ _ _ _ => True) (fun _ U o U' => ∃ v L, o = .returned v ∧ Q1 Z pb h0 n0 v U'.heap L ∧ FrameEnd U o U' L ({ frames := 0, cells := 0, slots := 0, locals := 0 } : Room).cells ({ frames := 0, cells := 0, slots := 0, locals := 0 } : Room).slots) := by
  refine MetFree.of_bodySF (plainFor_of_name own_pn9) hisR ?_
  intro p e s m args below meth c s₁ Bd hml0 hP hK
  obtain ⟨rfl, hZ, hh⟩ := hP
  have hx := Bd.exec
  have hby := Bd.bytes
  have hml : c.maxLocals = 1 := hml0
  have hown : s.vm.findClass "com/example/narrow_queue/narrowqueue/worker/KeptText" = some m.cls := findClass_of_methodNamed Bd.named
  have hnm := (name_of_methodNamed Bd.named Bd.method).1
  have X0 : Stand p l e ({ frames := 0, cells := 0, slots := 0, locals := 0 } : Room) s m #[(.int pb)] below meth c s₁ [] 0 0 := Stand.of_body Bd
  have e0 : s₁.heap = h0 := by rw [← hh, Bd.state]; rfl
  have N0 := Fr.nil n0
  have pre0 : ∀ t, Steps p.tables e below (s₁.setTop (mkF m 0 #[.val (.int pb)] [])) t → Steps p.tables e below (s₁.setTop (entryFrame m #[(.int pb)] 1)) t := fun t k => castTop (ef_1 m pb) k
  generalize s₁.setTop (entryFrame m #[(.int pb)] 1) = G0 at pre0 ⊢
  have pre1 : ∀ t, Steps p.tables e below (s₁.setTop (mkF m 8 #[.val (.int pb)] [(.int (128 : Int32)), (.int (pb &&& (192 : Int32)))])) t → Steps p.tables e below G0 t := by
    intro t k
    refine pre0 t ?_
    show Steps p.tables e below (s₁.setTop (mkF m 0 #[.val (.int pb)] [])) _
    refine XS.iloadN X0.here hx rfl (hb hby d1_0) rfl ?_
    show Steps p.tables e below (s₁.setTop (mkF m 1 #[.val (.int pb)] [(.int pb)])) _
    refine XS.sipush X0.here hx rfl (hb hby d1_1) ?_
    show Steps p.tables e below (s₁.setTop (mkF m 4 #[.val (.int pb)] [(.int (192 : Int32)), (.int pb)])) _
    refine XS.iand X0.here hx rfl (hb hby d1_4) rfl ?_
    show Steps p.tables e below (s₁.setTop (mkF m 5 #[.val (.int pb)] [(.int (pb &&& (192 : Int32)))])) _
    refine XS.sipush X0.here hx rfl (hb hby d1_5) ?_
    exact k
  by_cases hc8_2 : (pb &&& (192 : Int32)) = (128 : Int32)
  · obtain ⟨fs, hr, hrun, hended, hW, hsame⟩ := X0.leave (v := some (.int (1 : Int32))) (fun h => by rw [Bd.returns] at h; cases h)
    refine ⟨_, _, pre1 _ ?_, hrun, hended, _, _, rfl, ?_, ⟨_, rfl⟩, hW, hsame.mono (by decide) (by decide)⟩
    · show Steps p.tables e below (s₁.setTop (mkF m 8 #[.val (.int pb)] [(.int (128 : Int32)), (.int (pb &&& (192 : Int32)))])) _
      refine XS.icmpNo X0.here hx rfl (hb hby d1_8) rfl (teq hc8_2).2 ?_
      show Steps p.tables e below (s₁.setTop (mkF m 11 #[.val (.int pb)] [])) _
      refine XS.iconst X0.here hx rfl (hb hby d1_11) ?_
      show Steps p.tables e below (s₁.setTop (mkF m 12 #[.val (.int pb)] [(.int (1 : Int32))])) _
      refine XS.goto X0.here hx rfl (pc0 := 12) (pc' := 16) rfl (hb hby d1_12) (by decide) (by decide) ?_
      show Steps p.tables e below (s₁.setTop (mkF m 16 #[.val (.int pb)] [(.int (1 : Int32))])) _
      exact retN X0 hx (t := .boolean) Bd.returns (by simp) (hb hby d1_16) hr
    · show Q1 Z pb h0 n0 _ s₁.heap _
      rw [e0]
      exact ⟨(by rw [if_pos hc8_2]), N0, rfl⟩
  · obtain ⟨fs, hr, hrun, hended, hW, hsame⟩ := X0.leave (v := some (.int (0 : Int32))) (fun h => by rw [Bd.returns] at h; cases h)
    refine ⟨_, _, pre1 _ ?_, hrun, hended, _, _, rfl, ?_, ⟨_, rfl⟩, hW, hsame.mono (by decide) (by decide)⟩
    · show Steps p.tables e below (s₁.setTop (mkF m 8 #[.val (.int pb)] [(.int (128 : Int32)), (.int (pb &&& (192 : Int32)))])) _
      refine XS.icmpYes X0.here hx rfl (pc0 := 8) (pc' := 15) rfl (hb hby d1_8) rfl (feq hc8_2).2 (by decide) (by decide) ?_
      show Steps p.tables e below (s₁.setTop (mkF m 15 #[.val (.int pb)] [])) _
      refine XS.iconst X0.here hx rfl (hb hby d1_15) ?_
      show Steps p.tables e below (s₁.setTop (mkF m 16 #[.val (.int pb)] [(.int (0 : Int32))])) _
      exact retN X0 hx (t := .boolean) Bd.returns (by simp) (hb hby d1_16) hr
    · show Q1 Z pb h0 n0 _ s₁.heap _
      rw [e0]
      exact ⟨(by rw [if_neg hc8_2]), N0, rfl⟩
theorem own_pd10 : parseMethodDescriptor "(B)Z" = some ⟨[.byte], some .boolean⟩ := by decide +kernel
theorem own_pn11 : plainName "com/example/narrow_queue/narrowqueue/worker/KeptTextIsContinuationPinLaw" = true := by first | (simp [plainName, overriddenIn]; done) | decide +kernel
theorem ef_0 (m : MethodId) (x0 : Int32) : entryFrame m #[(.int x0)] maxLocals = mkF m 0 #[.val (.int x0), .unset, .unset, .unset, .unset, .unset] [] := by first | (simp [entryFrame, mkF, argsToLocals, Value.category, maxLocals]; done) | rfl
def Q0 (Z : State) (px : Int32) (h0 : Heap) (n0 : Nat) (v : Option Value) (h : Heap) (L : List Loc) : Prop := v = some (.int (1 : Int32)) ∧ Fr n0 L
set_option maxRecDepth 65536 in
set_option maxHeartbeats 40000000 in
theorem rm0 (l : Launch) (Z : State) (a0 : Array Value) (hw : ∀ d ∈ tables_1, d.before a0 Z = true) (ws : List Jvm.Cond) (px : Int32) (h0 : Heap) (n0 : Nat) (Z0 : n0 ≤ h0.size) :
    MetFree l x (head1 (Jvm.Cond.code x code maxLocals ret :: ws) room_1) (fun a U => a = #[(.int px)] ∧ Z.Warmed39 U.vm ∧ U.heap = h0) (fun _ _ _ _ _ => True) (fun _ U o U' => ∃ v L, o = .returned v ∧ Q0 Z px h0 n0 v U'.heap L ∧ FrameEnd U o U' L room_1.cells room_1.slots) := by
  refine MetFree.of_bodySF (plainFor_of_name own_pn11) hisR ?_
  intro p e s m args below meth c s₁ Bd hml0 hP hK
  obtain ⟨rfl, hZ, hh⟩ := hP
  have hx := Bd.exec
  have hby := Bd.bytes
  have hml : c.maxLocals = 6 := hml0
  have hown : s.vm.findClass "com/example/narrow_queue/narrowqueue/worker/KeptTextIsContinuationPinLaw" = some m.cls := findClass_of_methodNamed Bd.named
  have hnm := (name_of_methodNamed Bd.named Bd.method).1
  have X0 : Stand p l e room_1 s m #[(.int px)] below meth c s₁ [] 0 0 := Stand.of_body Bd
  have e0 : s₁.heap = h0 := by rw [← hh, Bd.state]; rfl
  have N0 := Fr.nil n0
  have pre0 : ∀ t, Steps p.tables e below (s₁.setTop (mkF m 0 #[.val (.int px), .unset, .unset, .unset, .unset, .unset] [])) t → Steps p.tables e below (s₁.setTop (entryFrame m #[(.int px)] maxLocals)) t := fun t k => castTop (ef_0 m px) k
  generalize s₁.setTop (entryFrame m #[(.int px)] maxLocals) = G0 at pre0 ⊢
  obtain ⟨v28_10, hv13, pre12⟩ : ∃ (v28_10 : Int32), (v28_10 = if (px &&& 255) < 128 then 0 else if 191 < (px &&& 255) then 0 else 1) ∧ ∀ t, Steps p.tables e below (s₁.setTop (mkF m 28 #[.val (.int px), .val (.int (px.toInt8.toInt32)), .val (.int (px &&& (255 : Int32))), .unset, .unset, .unset] [(.int v28_10)])) t → Steps p.tables e below G0 t := by
    have pre3 : ∀ t, Steps p.tables e below (s₁.setTop (mkF m 13 #[.val (.int px), .val (.int (px.toInt8.toInt32)), .val (.int (px &&& (255 : Int32))), .unset, .unset, .unset] [(.int (128 : Int32)), (.int (px &&& (255 : Int32)))])) t → Steps p.tables e below G0 t := by
      intro t k
      refine pre0 t ?_
      show Steps p.tables e below (s₁.setTop (mkF m 0 #[.val (.int px), .unset, .unset, .unset, .unset, .unset] [])) _
      refine XS.iloadN X0.here hx rfl (hb hby at_0) rfl ?_
      show Steps p.tables e below (s₁.setTop (mkF m 1 #[.val (.int px), .unset, .unset, .unset, .unset, .unset] [(.int px)])) _
      refine XS.i2b X0.here hx rfl (hb hby at_1) rfl ?_
      show Steps p.tables e below (s₁.setTop (mkF m 2 #[.val (.int px), .unset, .unset, .unset, .unset, .unset] [(.int (px.toInt8.toInt32))])) _
      refine XS.istoreN X0.here hx rfl (hb hby at_2) rfl (l' := #[.val (.int px), .val (.int (px.toInt8.toInt32)), .unset, .unset, .unset, .unset]) rfl ?_
      show Steps p.tables e below (s₁.setTop (mkF m 3 #[.val (.int px), .val (.int (px.toInt8.toInt32)), .unset, .unset, .unset, .unset] [])) _
      refine XS.iloadN X0.here hx rfl (hb hby at_3) rfl ?_
      show Steps p.tables e below (s₁.setTop (mkF m 4 #[.val (.int px), .val (.int (px.toInt8.toInt32)), .unset, .unset, .unset, .unset] [(.int px)])) _
      refine XS.sipush X0.here hx rfl (hb hby at_4) ?_
      show Steps p.tables e below (s₁.setTop (mkF m 7 #[.val (.int px), .val (.int (px.toInt8.toInt32)), .unset, .unset, .unset, .unset] [(.int (255 : Int32)), (.int px)])) _
      refine XS.iand X0.here hx rfl (hb hby at_7) rfl ?_
      show Steps p.tables e below (s₁.setTop (mkF m 8 #[.val (.int px), .val (.int (px.toInt8.toInt32)), .unset, .unset, .unset, .unset] [(.int (px &&& (255 : Int32)))])) _
      refine XS.istoreN X0.here hx rfl (hb hby at_8) rfl (l' := #[.val (.int px), .val (.int (px.toInt8.toInt32)), .val (.int (px &&& (255 : Int32))), .unset, .unset, .unset]) rfl ?_
      show Steps p.tables e below (s₁.setTop (mkF m 9 #[.val (.int px), .val (.int (px.toInt8.toInt32)), .val (.int (px &&& (255 : Int32))), .unset, .unset, .unset] [])) _
      refine XS.iloadN X0.here hx rfl (hb hby at_9) rfl ?_
      show Steps p.tables e below (s₁.setTop (mkF m 10 #[.val (.int px), .val (.int (px.toInt8.toInt32)), .val (.int (px &&& (255 : Int32))), .unset, .unset, .unset] [(.int (px &&& (255 : Int32)))])) _
      refine XS.sipush X0.here hx rfl (hb hby at_10) ?_
      exact k
    by_cases hc13_4 : (px &&& (255 : Int32)) < (128 : Int32)
    · have pre5 : ∀ t, Steps p.tables e below (s₁.setTop (mkF m 28 #[.val (.int px), .val (.int (px.toInt8.toInt32)), .val (.int (px &&& (255 : Int32))), .unset, .unset, .unset] [(.int (0 : Int32))])) t → Steps p.tables e below G0 t := by
        intro t k
        refine pre3 t ?_
        show Steps p.tables e below (s₁.setTop (mkF m 13 #[.val (.int px), .val (.int (px.toInt8.toInt32)), .val (.int (px &&& (255 : Int32))), .unset, .unset, .unset] [(.int (128 : Int32)), (.int (px &&& (255 : Int32)))])) _
        refine XS.icmpYes X0.here hx rfl (pc0 := 13) (pc' := 27) rfl (hb hby at_13) rfl (tlt hc13_4).1 (by decide) (by decide) ?_
        show Steps p.tables e below (s₁.setTop (mkF m 27 #[.val (.int px), .val (.int (px.toInt8.toInt32)), .val (.int (px &&& (255 : Int32))), .unset, .unset, .unset] [])) _
        refine XS.iconst X0.here hx rfl (hb hby at_27) ?_
        exact k
      exact ⟨(0 : Int32), (by simp [hc13_4]), pre5⟩
    · have pre6 : ∀ t, Steps p.tables e below (s₁.setTop (mkF m 20 #[.val (.int px), .val (.int (px.toInt8.toInt32)), .val (.int (px &&& (255 : Int32))), .unset, .unset, .unset] [(.int (191 : Int32)), (.int (px &&& (255 : Int32)))])) t → Steps p.tables e below G0 t := by
        intro t k
        refine pre3 t ?_
        show Steps p.tables e below (s₁.setTop (mkF m 13 #[.val (.int px), .val (.int (px.toInt8.toInt32)), .val (.int (px &&& (255 : Int32))), .unset, .unset, .unset] [(.int (128 : Int32)), (.int (px &&& (255 : Int32)))])) _
        refine XS.icmpNo X0.here hx rfl (hb hby at_13) rfl (flt hc13_4).1 ?_
        show Steps p.tables e below (s₁.setTop (mkF m 16 #[.val (.int px), .val (.int (px.toInt8.toInt32)), .val (.int (px &&& (255 : Int32))), .unset, .unset, .unset] [])) _
        refine XS.iloadN X0.here hx rfl (hb hby at_16) rfl ?_
        show Steps p.tables e below (s₁.setTop (mkF m 17 #[.val (.int px), .val (.int (px.toInt8.toInt32)), .val (.int (px &&& (255 : Int32))), .unset, .unset, .unset] [(.int (px &&& (255 : Int32)))])) _
        refine XS.sipush X0.here hx rfl (hb hby at_17) ?_
        exact k
      by_cases hc20_7 : (191 : Int32) < (px &&& (255 : Int32))
      · have pre8 : ∀ t, Steps p.tables e below (s₁.setTop (mkF m 28 #[.val (.int px), .val (.int (px.toInt8.toInt32)), .val (.int (px &&& (255 : Int32))), .unset, .unset, .unset] [(.int (0 : Int32))])) t → Steps p.tables e below G0 t := by
          intro t k
          refine pre6 t ?_
          show Steps p.tables e below (s₁.setTop (mkF m 20 #[.val (.int px), .val (.int (px.toInt8.toInt32)), .val (.int (px &&& (255 : Int32))), .unset, .unset, .unset] [(.int (191 : Int32)), (.int (px &&& (255 : Int32)))])) _
          refine XS.icmpYes X0.here hx rfl (pc0 := 20) (pc' := 27) rfl (hb hby at_20) rfl (tlt hc20_7).2.2.1 (by decide) (by decide) ?_
          show Steps p.tables e below (s₁.setTop (mkF m 27 #[.val (.int px), .val (.int (px.toInt8.toInt32)), .val (.int (px &&& (255 : Int32))), .unset, .unset, .unset] [])) _
          refine XS.iconst X0.here hx rfl (hb hby at_27) ?_
          exact k
        exact ⟨(0 : Int32), (by simp [hc13_4, hc20_7]), pre8⟩
      · have pre9 : ∀ t, Steps p.tables e below (s₁.setTop (mkF m 28 #[.val (.int px), .val (.int (px.toInt8.toInt32)), .val (.int (px &&& (255 : Int32))), .unset, .unset, .unset] [(.int (1 : Int32))])) t → Steps p.tables e below G0 t := by
          intro t k
          refine pre6 t ?_
          show Steps p.tables e below (s₁.setTop (mkF m 20 #[.val (.int px), .val (.int (px.toInt8.toInt32)), .val (.int (px &&& (255 : Int32))), .unset, .unset, .unset] [(.int (191 : Int32)), (.int (px &&& (255 : Int32)))])) _
          refine XS.icmpNo X0.here hx rfl (hb hby at_20) rfl (flt hc20_7).2.2.1 ?_
          show Steps p.tables e below (s₁.setTop (mkF m 23 #[.val (.int px), .val (.int (px.toInt8.toInt32)), .val (.int (px &&& (255 : Int32))), .unset, .unset, .unset] [])) _
          refine XS.iconst X0.here hx rfl (hb hby at_23) ?_
          show Steps p.tables e below (s₁.setTop (mkF m 24 #[.val (.int px), .val (.int (px.toInt8.toInt32)), .val (.int (px &&& (255 : Int32))), .unset, .unset, .unset] [(.int (1 : Int32))])) _
          refine XS.goto X0.here hx rfl (pc0 := 24) (pc' := 28) rfl (hb hby at_24) (by decide) (by decide) ?_
          exact k
        exact ⟨(1 : Int32), (by simp [hc13_4, hc20_7]), pre9⟩
  obtain ⟨v40_18, hv21, pre20⟩ : ∃ (v40_18 : Int32), (v40_18 = if (-65 : Int32) < px.toInt8.toInt32 then 0 else 1) ∧ ∀ t, Steps p.tables e below (s₁.setTop (mkF m 40 #[.val (.int px), .val (.int (px.toInt8.toInt32)), .val (.int (px &&& (255 : Int32))), .val (.int v28_10), .unset, .unset] [(.int v40_18)])) t → Steps p.tables e below G0 t := by
    have pre14 : ∀ t, Steps p.tables e below (s₁.setTop (mkF m 32 #[.val (.int px), .val (.int (px.toInt8.toInt32)), .val (.int (px &&& (255 : Int32))), .val (.int v28_10), .unset, .unset] [(.int (-65 : Int32)), (.int (px.toInt8.toInt32))])) t → Steps p.tables e below G0 t := by
      intro t k
      refine pre12 t ?_
      show Steps p.tables e below (s₁.setTop (mkF m 28 #[.val (.int px), .val (.int (px.toInt8.toInt32)), .val (.int (px &&& (255 : Int32))), .unset, .unset, .unset] [(.int v28_10)])) _
      refine XS.istoreN X0.here hx rfl (hb hby at_28) rfl (l' := #[.val (.int px), .val (.int (px.toInt8.toInt32)), .val (.int (px &&& (255 : Int32))), .val (.int v28_10), .unset, .unset]) rfl ?_
      show Steps p.tables e below (s₁.setTop (mkF m 29 #[.val (.int px), .val (.int (px.toInt8.toInt32)), .val (.int (px &&& (255 : Int32))), .val (.int v28_10), .unset, .unset] [])) _
      refine XS.iloadN X0.here hx rfl (hb hby at_29) rfl ?_
      show Steps p.tables e below (s₁.setTop (mkF m 30 #[.val (.int px), .val (.int (px.toInt8.toInt32)), .val (.int (px &&& (255 : Int32))), .val (.int v28_10), .unset, .unset] [(.int (px.toInt8.toInt32))])) _
      refine XS.bipush X0.here hx rfl (hb hby at_30) ?_
      exact k
    by_cases hc32_15 : (-65 : Int32) < (px.toInt8.toInt32)
    · have pre16 : ∀ t, Steps p.tables e below (s₁.setTop (mkF m 40 #[.val (.int px), .val (.int (px.toInt8.toInt32)), .val (.int (px &&& (255 : Int32))), .val (.int v28_10), .unset, .unset] [(.int (0 : Int32))])) t → Steps p.tables e below G0 t := by
        intro t k
        refine pre14 t ?_
        show Steps p.tables e below (s₁.setTop (mkF m 32 #[.val (.int px), .val (.int (px.toInt8.toInt32)), .val (.int (px &&& (255 : Int32))), .val (.int v28_10), .unset, .unset] [(.int (-65 : Int32)), (.int (px.toInt8.toInt32))])) _
        refine XS.icmpYes X0.here hx rfl (pc0 := 32) (pc' := 39) rfl (hb hby at_32) rfl (tlt hc32_15).2.2.1 (by decide) (by decide) ?_
        show Steps p.tables e below (s₁.setTop (mkF m 39 #[.val (.int px), .val (.int (px.toInt8.toInt32)), .val (.int (px &&& (255 : Int32))), .val (.int v28_10), .unset, .unset] [])) _
        refine XS.iconst X0.here hx rfl (hb hby at_39) ?_
        exact k
      exact ⟨(0 : Int32), (by simp [hc32_15]), pre16⟩
    · have pre17 : ∀ t, Steps p.tables e below (s₁.setTop (mkF m 40 #[.val (.int px), .val (.int (px.toInt8.toInt32)), .val (.int (px &&& (255 : Int32))), .val (.int v28_10), .unset, .unset] [(.int (1 : Int32))])) t → Steps p.tables e below G0 t := by
        intro t k
        refine pre14 t ?_
        show Steps p.tables e below (s₁.setTop (mkF m 32 #[.val (.int px), .val (.int (px.toInt8.toInt32)), .val (.int (px &&& (255 : Int32))), .val (.int v28_10), .unset, .unset] [(.int (-65 : Int32)), (.int (px.toInt8.toInt32))])) _
        refine XS.icmpNo X0.here hx rfl (hb hby at_32) rfl (flt hc32_15).2.2.1 ?_
        show Steps p.tables e below (s₁.setTop (mkF m 35 #[.val (.int px), .val (.int (px.toInt8.toInt32)), .val (.int (px &&& (255 : Int32))), .val (.int v28_10), .unset, .unset] [])) _
        refine XS.iconst X0.here hx rfl (hb hby at_35) ?_
        show Steps p.tables e below (s₁.setTop (mkF m 36 #[.val (.int px), .val (.int (px.toInt8.toInt32)), .val (.int (px &&& (255 : Int32))), .val (.int v28_10), .unset, .unset] [(.int (1 : Int32))])) _
        refine XS.goto X0.here hx rfl (pc0 := 36) (pc' := 40) rfl (hb hby at_36) (by decide) (by decide) ?_
        exact k
      exact ⟨(1 : Int32), (by simp [hc32_15]), pre17⟩
  obtain ⟨_, _, ⟨T22, L22, k22, n22⟩, -, X22, ⟨Lc22, hQ22, l22, y22, z22⟩, st22⟩ := Jvm.LawKit.callS X0 hx (y := (⟨"com/example/narrow_queue/narrowqueue/worker/KeptText", "isContinuation", "(B)Z"⟩ : MethodName)) hown (mvT hZ (hw _ (List.mem_of_getElem? (i := 0) rfl))) (mvT hZ (hw _ (List.mem_of_getElem? (i := 1) rfl))) (mvT hZ (hw _ (List.mem_of_getElem? (i := 2) rfl))) (mvT hZ (hw _ (List.mem_of_getElem? (i := 3) rfl))) (by decide) (backOf (W := 0) (rm1 l Z a0 hw [] (px.toInt8.toInt32)  h0 n0 Z0 ) hZ (hw _ (List.mem_of_getElem? (i := 3) rfl)) (hw _ (List.mem_of_getElem? (i := 2) rfl)) (by decide) (by decide)) (g := (mkF m 43 #[.val (.int px), .val (.int (px.toInt8.toInt32)), .val (.int (px &&& (255 : Int32))), .val (.int v28_10), .val (.int v40_18), .unset] [(.int (px.toInt8.toInt32))])) rfl (by rw [hml]; rfl) (argsL := [(.int (px.toInt8.toInt32))]) (rest := []) (lenOf own_pd10 rfl) rfl (by show 2 * 0 + _ ≤ _; exact Nat.le_of_eq rfl) (hb hby at_43) (fun _ _ => ⟨rfl, e0, (by decide : 0 + 0 ≤ _), (by decide : 0 + 0 ≤ _)⟩)
  dsimp only [Pt.U, Pt.locs, Pt.cells, Pt.slots] at X22 l22 y22 z22 st22 hQ22
  subst l22 y22 z22
  obtain ⟨rfl, Nq22, e22⟩ := hQ22
  have N22 := Fr.app N0 Nq22
  obtain ⟨fs, hr, hrun, hended, hW, hsame⟩ := X22.leave (v := some (.int (1 : Int32))) (fun h => by rw [Bd.returns] at h; cases h)
  refine ⟨_, _, pre20 _ ?_, hrun, hended, _, _, rfl, ?_, ⟨_, rfl⟩, hW, hsame.mono (by decide) (by decide)⟩
  · show Steps p.tables e below (s₁.setTop (mkF m 40 #[.val (.int px), .val (.int (px.toInt8.toInt32)), .val (.int (px &&& (255 : Int32))), .val (.int v28_10), .unset, .unset] [(.int v40_18)])) _
    refine XS.istore X0.here hx rfl (hb hby at_40) rfl (l' := #[.val (.int px), .val (.int (px.toInt8.toInt32)), .val (.int (px &&& (255 : Int32))), .val (.int v28_10), .val (.int v40_18), .unset]) rfl ?_
    show Steps p.tables e below (s₁.setTop (mkF m 42 #[.val (.int px), .val (.int (px.toInt8.toInt32)), .val (.int (px &&& (255 : Int32))), .val (.int v28_10), .val (.int v40_18), .unset] [])) _
    refine XS.iloadN X0.here hx rfl (hb hby at_42) rfl ?_
    show Steps p.tables e below (s₁.setTop (mkF m 43 #[.val (.int px), .val (.int (px.toInt8.toInt32)), .val (.int (px &&& (255 : Int32))), .val (.int v28_10), .val (.int v40_18), .unset] [(.int (px.toInt8.toInt32))])) _
    refine st22 _ ?_
    show Steps p.tables e below (T22.setTop (mkF m 46 #[.val (.int px), .val (.int (px.toInt8.toInt32)), .val (.int (px &&& (255 : Int32))), .val (.int v28_10), .val (.int v40_18), .unset] [(.int (if ((px.toInt8.toInt32) &&& 192) = 128 then (1 : Int32) else 0))])) _
    refine XS.istore X22.here hx rfl (hb hby at_46) rfl (l' := #[.val (.int px), .val (.int (px.toInt8.toInt32)), .val (.int (px &&& (255 : Int32))), .val (.int v28_10), .val (.int v40_18), .val (.int (if ((px.toInt8.toInt32) &&& 192) = 128 then (1 : Int32) else 0))]) rfl ?_
    show Steps p.tables e below (T22.setTop (mkF m 48 #[.val (.int px), .val (.int (px.toInt8.toInt32)), .val (.int (px &&& (255 : Int32))), .val (.int v28_10), .val (.int v40_18), .val (.int (if ((px.toInt8.toInt32) &&& 192) = 128 then (1 : Int32) else 0))] [])) _
    refine XS.iload X22.here hx rfl (hb hby at_48) rfl ?_
    show Steps p.tables e below (T22.setTop (mkF m 50 #[.val (.int px), .val (.int (px.toInt8.toInt32)), .val (.int (px &&& (255 : Int32))), .val (.int v28_10), .val (.int v40_18), .val (.int (if ((px.toInt8.toInt32) &&& 192) = 128 then (1 : Int32) else 0))] [(.int (if ((px.toInt8.toInt32) &&& 192) = 128 then (1 : Int32) else 0))])) _
    refine XS.iloadN X22.here hx rfl (hb hby at_50) rfl ?_
    show Steps p.tables e below (T22.setTop (mkF m 51 #[.val (.int px), .val (.int (px.toInt8.toInt32)), .val (.int (px &&& (255 : Int32))), .val (.int v28_10), .val (.int v40_18), .val (.int (if ((px.toInt8.toInt32) &&& 192) = 128 then (1 : Int32) else 0))] [(.int v28_10), (.int (if ((px.toInt8.toInt32) &&& 192) = 128 then (1 : Int32) else 0))])) _
    refine XS.icmpNo X22.here hx rfl (hb hby at_51) rfl (teq (own_1 hv13 : ((if ((px.toInt8.toInt32) &&& 192) = 128 then (1 : Int32) else 0) = v28_10))).2 ?_
    show Steps p.tables e below (T22.setTop (mkF m 54 #[.val (.int px), .val (.int (px.toInt8.toInt32)), .val (.int (px &&& (255 : Int32))), .val (.int v28_10), .val (.int v40_18), .val (.int (if ((px.toInt8.toInt32) &&& 192) = 128 then (1 : Int32) else 0))] [])) _
    refine XS.iload X22.here hx rfl (hb hby at_54) rfl ?_
    show Steps p.tables e below (T22.setTop (mkF m 56 #[.val (.int px), .val (.int (px.toInt8.toInt32)), .val (.int (px &&& (255 : Int32))), .val (.int v28_10), .val (.int v40_18), .val (.int (if ((px.toInt8.toInt32) &&& 192) = 128 then (1 : Int32) else 0))] [(.int (if ((px.toInt8.toInt32) &&& 192) = 128 then (1 : Int32) else 0))])) _
    refine XS.iload X22.here hx rfl (hb hby at_56) rfl ?_
    show Steps p.tables e below (T22.setTop (mkF m 58 #[.val (.int px), .val (.int (px.toInt8.toInt32)), .val (.int (px &&& (255 : Int32))), .val (.int v28_10), .val (.int v40_18), .val (.int (if ((px.toInt8.toInt32) &&& 192) = 128 then (1 : Int32) else 0))] [(.int v40_18), (.int (if ((px.toInt8.toInt32) &&& 192) = 128 then (1 : Int32) else 0))])) _
    refine XS.icmpNo X22.here hx rfl (hb hby at_58) rfl (teq (own_2 hv21 : ((if ((px.toInt8.toInt32) &&& 192) = 128 then (1 : Int32) else 0) = v40_18))).2 ?_
    show Steps p.tables e below (T22.setTop (mkF m 61 #[.val (.int px), .val (.int (px.toInt8.toInt32)), .val (.int (px &&& (255 : Int32))), .val (.int v28_10), .val (.int v40_18), .val (.int (if ((px.toInt8.toInt32) &&& 192) = 128 then (1 : Int32) else 0))] [])) _
    refine XS.iconst X22.here hx rfl (hb hby at_61) ?_
    show Steps p.tables e below (T22.setTop (mkF m 62 #[.val (.int px), .val (.int (px.toInt8.toInt32)), .val (.int (px &&& (255 : Int32))), .val (.int v28_10), .val (.int v40_18), .val (.int (if ((px.toInt8.toInt32) &&& 192) = 128 then (1 : Int32) else 0))] [(.int (1 : Int32))])) _
    refine XS.goto X22.here hx rfl (pc0 := 62) (pc' := 66) rfl (hb hby at_62) (by decide) (by decide) ?_
    show Steps p.tables e below (T22.setTop (mkF m 66 #[.val (.int px), .val (.int (px.toInt8.toInt32)), .val (.int (px &&& (255 : Int32))), .val (.int v28_10), .val (.int v40_18), .val (.int (if ((px.toInt8.toInt32) &&& 192) = 128 then (1 : Int32) else 0))] [(.int (1 : Int32))])) _
    exact retN X22 hx (t := .boolean) Bd.returns (by simp) (hb hby at_66) hr
  · show Q0 Z px h0 n0 _ T22.heap _
    rw [e22]
    exact ⟨rfl, N22⟩
set_option maxRecDepth 65536 in
set_option maxHeartbeats 40000000 in
theorem comes_1 {Post : Tables → Env → Array Value → State → Outcome → State → Prop} (hpost : ∀ tb e args s v u, (limb_1_1.after args s (.returned v) u = true ∧ limb_1_2.after args s (.returned v) u = true ∧ True) → FrameEnd s (.returned v) u (Jvm.fieldLocs frame_1_writes args s ++ Jvm.arrayLocs frame_1_arrays args s ++ Jvm.staticLocs frame_1_statics s) 0 0 → Post tb e args s (.returned v) u) :
    ArmFor flags0 classFile x code maxLocals ret World_1 tables_1 room_1 Calls_1 rest_1 Pre_1 Post := by
  intro l hfl _ _ p e ha hc hk s m args below hf hA hF happ hP
  obtain ⟨hcalls, hrest, hpre⟩ := hP
  obtain ⟨-, -, -, hnamed, -, -, -, hat⟩ := (Spec.applies_iff hf).mp happ
  obtain ⟨hg, hn⟩ := and_e (Cond.before_iff.mp (show (Jvm.Cond.and given_1 narrow_1).before args s = true from hpre))
  obtain ⟨hcount, ga0⟩ := and_e hg
  have gi0 := ga0
  obtain ⟨w0, rfl⟩ : ∃ w0 : Value, args = #[w0] := by
    have hs : args.size = 1 := by simpa [Cond.value, given_1] using hcount
    obtain ⟨L⟩ := args
    match L, hs with
    | [w0], _ => exact ⟨w0, rfl⟩
  have hw := fun d (hd : d ∈ tables_1) => atoms_spec (ws := Jvm.Cond.code x code maxLocals ret :: tables_1) hat d (List.mem_cons_of_mem _ hd)
  have hfit : Fit s := fun {y c} hc i hi => by
    obtain ⟨ha, rfl⟩ := Array.getElem?_eq_some_iff.mp hc
    have q := List.all_eq_true.mp ((Array.all_eq_true_iff_forall_mem.mp hF) _ (Array.getElem_mem ha)) i (List.mem_range.mpr hi)
    simpa [Array.getElem?_eq_getElem hi] using q
  obtain ⟨i0, ei0⟩ := is_v gi0
  obtain rfl : w0 = (.int i0) := Option.some.inj ei0
  obtain ⟨n, o, h1, h2, h3, _, L, rfl, ⟨rfl, N⟩, hq⟩ := rm0 l s _ hw tables_1 i0  s.heap s.heap.size (Nat.le_refl _)  p e ha hc hk s m _ below hf ((Spec.applies_iff_loose hf).mp happ).1 ⟨rfl, State.Warmed39.refl s, rfl⟩ trivial
  refine ⟨n, _, h1, h2, h3, hpost _ _ _ _ _ _ ⟨Cond.after_iff.mpr rfl, Cond.after_iff.mpr (eq_i res_at (Term.int_eval (1)) rfl), trivial⟩ ⟨hq.1, hq.2.1, (hq.2.2.sift fun y hy => Or.inr (N y hy)).mono (by decide) (by decide)⟩⟩
theorem main_1_1 : Claimed_1_1 := comes_1 fun _ _ _ _ _ _ h hF => ⟨h.1, hF⟩
theorem main_1_2 : Claimed_1_2 := comes_1 fun _ _ _ _ _ _ h hF => ⟨h.2.1, hF⟩
end Jvm.Pilot.@@N@@
namespace Jvm.Pilot.@@N@@
open Jvm Jvm.ClassFile Sem Op Lib Jvm.Free Jvm.Stand Jvm.Pilot.@@N@@.Jvm.D
/-! MADE BY PROGRAM (witnessworld.py) out of the Statement's table words and the real class files: 9 classes; the members and pool entries that the words name. The judged class is class 1, her method 1. -/
namespace start1
open Jvm.ClassFile
def u (s : String) : CpInfo := .utf8 (stringToUtf16 s)
/-- a pool by its gaps: so many unusable entries, then the entry; so many at the end -/
def gap : Nat → List CpInfo → List CpInfo
  | 0, r => r
  | n + 1, r => .unusable :: gap n r
def poolList (es : List (Nat × CpInfo)) (last : Nat) : List CpInfo := es.foldr (fun e r => gap e.1 (e.2 :: r)) (gap last [])
def pool (es : List (Nat × CpInfo)) (last : Nat) : Array CpInfo := ⟨poolList es last⟩
def fileOf (pool : Array CpInfo) (this : Nat) (attrs : Array Attribute := #[]) (ms : Array MethodInfo := #[]) (fl : Nat := 33) (sup : Nat := 0) (ifs : Array Nat := #[]) (fds : Array FieldInfo := #[]) : ClassFile where
  minorVersion := 0
  majorVersion := 65
  constantPool := pool
  accessFlags := fl
  thisClass := this
  superClass := sup
  interfaces := ifs
  fields := fds
  methods := ms
  attributes := attrs
def plain (name : String) (sup : Option ClassId) : Class where
  name := name
  kind := .ordinary
  loader := none
  accessFlags := 33
  super := sup
  interfaces := #[]
  cf := none
  fields := #[]
  methods := #[]
  instanceTypes := #[]
  staticTypes := #[]
  resolved := #[]
  callSites := []
  init := .initialized
  statics := none
  mirror := none

def pool0 : Array CpInfo := pool [(5, u "<init>"), (0, u "()V"), (1, .class_ 10), (1, u "java/lang/Object")] 113

def k0m0 : Method := { name := "<init>", desc := "()V", sig := { parameters := [], returnType := none }, accessFlags := 1, code := none }
/-- java/lang/Object -/
def k0 : Class := { plain "java/lang/Object" none with
  accessFlags := 33
  interfaces := #[]
  cf := some (fileOf pool0 8 #[] #[{ accessFlags := 1, nameIndex := 5, descriptorIndex := 6, attributes := #[] }] 33 0 #[] #[])
  fields := #[]
  methods := #[k0m0]
  instanceTypes := #[]
  staticTypes := #[]
  resolved := Array.replicate 124 none
  statics := none }

def pool1 : Array CpInfo := pool [(2, .class_ 4), (1, u "java/lang/Object"), (0, u "<init>"), (0, u "()V"), (0, .methodref 8 9), (0, .class_ 10), (0, .nameAndType 11 12), (0, u "com/example/narrow_queue/narrowqueue/worker/KeptText"), (0, u "isContinuation"), (0, u "(B)Z"), (0, .class_ 14), (0, u "com/example/narrow_queue/narrowqueue/worker/KeptTextIsContinuationPinLaw"), (2, u "law"), (0, u "(I)Z")] 3

def k1m0 : Method := { name := "<init>", desc := "()V", sig := { parameters := [], returnType := none }, accessFlags := 1, code := none }
def k1c1 : Code := { maxStack := 2, maxLocals := 6, code := code, exceptionTable := #[], attributes := #[] }
def k1m1 : Method := { name := "law", desc := "(I)Z", sig := { parameters := [.int], returnType := some .boolean }, accessFlags := 9, code := some k1c1 }
/-- com/example/narrow_queue/narrowqueue/worker/KeptTextIsContinuationPinLaw -/
def k1 : Class := { plain "com/example/narrow_queue/narrowqueue/worker/KeptTextIsContinuationPinLaw" (some 0) with
  accessFlags := 49
  interfaces := #[]
  cf := some (fileOf pool1 13 #[] #[{ accessFlags := 1, nameIndex := 5, descriptorIndex := 6, attributes := #[] }, { accessFlags := 9, nameIndex := 17, descriptorIndex := 18, attributes := #[] }] 49 2 #[] #[])
  fields := #[]
  methods := #[k1m0, k1m1]
  instanceTypes := #[]
  staticTypes := #[]
  resolved := Array.replicate 22 none
  statics := none }

def pool2 : Array CpInfo := pool [(2, .class_ 4), (1, u "java/lang/Object"), (9, .class_ 16), (1, u "com/example/narrow_queue/narrowqueue/worker/KeptText"), (0, u "pieces"), (0, u "Ljava/util/List;"), (22, u "bytes"), (0, u "J"), (31, u "isContinuation"), (0, u "(B)Z"), (20, .class_ 97), (0, u "com/example/narrow_queue/narrowqueue/worker/KeptText$Chunks"), (15, .class_ 114), (0, u "com/example/narrow_queue/narrowqueue/worker/KeptText$Stored"), (1, u "MOST_CONTINUATION_BYTES"), (0, u "I"), (2, u "CHUNK")] 27

def k2c0 : Code := { maxStack := 2, maxLocals := 1, code := prog_42_method_5_code, exceptionTable := #[], attributes := #[] }
def k2m0 : Method := { name := "isContinuation", desc := "(B)Z", sig := { parameters := [.byte], returnType := some .boolean }, accessFlags := 8, code := some k2c0 }
/-- com/example/narrow_queue/narrowqueue/worker/KeptText -/
def k2 : Class := { plain "com/example/narrow_queue/narrowqueue/worker/KeptText" (some 0) with
  accessFlags := 48
  interfaces := #[]
  cf := some (fileOf pool2 14 #[.nestMembers #[113, 96]] #[{ accessFlags := 8, nameIndex := 74, descriptorIndex := 75, attributes := #[] }] 48 2 #[] #[{ accessFlags := 24, nameIndex := 116, descriptorIndex := 117, attributes := #[] }, { accessFlags := 24, nameIndex := 120, descriptorIndex := 117, attributes := #[] }, { accessFlags := 18, nameIndex := 17, descriptorIndex := 18, attributes := #[] }, { accessFlags := 18, nameIndex := 41, descriptorIndex := 42, attributes := #[] }])
  fields := #[{ name := "MOST_CONTINUATION_BYTES", type := .int, accessFlags := 24, slot := 0, constantValue := 0 }, { name := "CHUNK", type := .int, accessFlags := 24, slot := 1, constantValue := 0 }, { name := "pieces", type := (.object "java/util/List"), accessFlags := 18, slot := 0, constantValue := 0 }, { name := "bytes", type := .long, accessFlags := 18, slot := 1, constantValue := 0 }]
  methods := #[k2m0]
  instanceTypes := #[(.object "java/util/List"), .long]
  staticTypes := #[.int, .int]
  resolved := Array.replicate 148 none
  statics := none }

def pool3 : Array CpInfo := pool [(1, u "java/lang/Cloneable"), (0, .class_ 1), (0, u "java/lang/Object"), (0, .class_ 3)] 3

/-- java/lang/Cloneable -/
def k3 : Class := { plain "java/lang/Cloneable" (some 0) with
  accessFlags := 1537
  interfaces := #[]
  cf := some (fileOf pool3 2 #[] #[] 1537 4 #[] #[])
  fields := #[]
  methods := #[]
  instanceTypes := #[]
  staticTypes := #[]
  resolved := Array.replicate 8 none
  statics := none }

def pool4 : Array CpInfo := pool [(1, u "java/io/Serializable"), (0, .class_ 1), (0, u "java/lang/Object"), (0, .class_ 3)] 3

/-- java/io/Serializable -/
def k4 : Class := { plain "java/io/Serializable" (some 0) with
  accessFlags := 1537
  interfaces := #[]
  cf := some (fileOf pool4 2 #[] #[] 1537 4 #[] #[])
  fields := #[]
  methods := #[]
  instanceTypes := #[]
  staticTypes := #[]
  resolved := Array.replicate 8 none
  statics := none }

/-- the primitive byte -/
def k5 : Class := { plain "byte" none with kind := .primitive 'B', accessFlags := 0x411 }
/-- [B -/
def k6 : Class := { plain "[B" (some 0) with kind := .array 5 .byte, interfaces := #[3, 4], accessFlags := 1041 }

/-- the primitive int -/
def k7 : Class := { plain "int" none with kind := .primitive 'I', accessFlags := 0x411 }
/-- [I -/
def k8 : Class := { plain "[I" (some 0) with kind := .array 7 .int, interfaces := #[3, 4], accessFlags := 1041 }

def heap : Heap := #[]
def classes : Array Class := #[k0, k1, k2, k3, k4, k5, k6, k7, k8]
def interned : List (Array UInt16 × Addr) := []
def slotsUsed : Nat := 0
def theMethod : MethodId := ⟨1, 1⟩
def args0 : Array Value := #[.int 5]
def aboutOver (below : List Frame) : State where
  vm := { classes := classes, interned := interned.toArray }
  heap := heap
  slotsUsed := slotsUsed
  threads := #[{ frames := .invoking theMethod args0 :: below }]
def below0 : List Frame := [.native { method := ⟨0, 0⟩, args := #[] }]
def about1 : State := aboutOver below0
def p0 : Program := .bare "" "" ""
def e0 : Env := launch0.env 0 0 0
theorem w_frames : about1.frames = Frame.invoking theMethod args0 :: below0 := rfl
set_option maxRecDepth 65536 in
theorem w_args : argsFit about1.vm theMethod args0 = true := by decide +kernel
set_option maxRecDepth 65536 in
theorem w_heap : heapFits about1 = true := by decide +kernel
set_option maxRecDepth 65536 in
theorem w_runnable : about1.curStatus? = some .runnable := by decide +kernel
set_option maxRecDepth 65536 in
theorem w_alone : about1.alone = true := by decide +kernel
set_option maxRecDepth 65536 in
theorem w_named : about1.methodNamed? x = some theMethod := by decide +kernel
set_option maxRecDepth 65536 in
theorem w_hears : about1.hears theMethod below0 = true := by decide +kernel
set_option maxRecDepth 65536 in
theorem w_ripe : about1.ripe theMethod args0 below0 = true := by decide +kernel
theorem w_running : about1.status = .running := rfl
set_option maxRecDepth 65536 in
theorem w_room : about1.hasRoom e0.platform room_1 = true :=
  launch0.hasRoom_least _ room_1 (by decide +kernel) (by decide +kernel) (by decide +kernel) (by decide +kernel) (by decide +kernel) (by decide +kernel)
theorem allAtoms_all (ts : List Jvm.Cond) (a : Array Jvm.Value) (st : Jvm.State) : (allAtoms ts).before a st = ts.all (fun c => c.before a st) := by
  induction ts with
  | nil => rfl
  | cons c t ih =>
    show (Jvm.Cond.and c (allAtoms t)).before a st = _
    rw [Jvm.Cond.before_and, ih, List.all_cons]
def words1 : List Jvm.Cond := Jvm.Cond.code x code maxLocals ret :: tables_1
/-- a 'code' word, met by the world's own term for the bytes: nothing is compared byte by byte -/
theorem code_word {y : MethodName} {bytes : ByteArray} {mx : Nat} {rt : Option FieldType} {a : Array Value} {s : State} {m : MethodId} {meth : Method} {c : Code} (h1 : s.methodNamed? y = some m) (h2 : s.vm.method? m = some meth) (h3 : meth.code = some c) (h4 : c.code = bytes)
    (h5 : (c.maxLocals == mx && c.exceptionTable.isEmpty && decide (c.maxStack ≤ mostOperands) && decide (meth.sig.returnType = rt) && !meth.locks && decide (parseMethodDescriptor y.desc = some meth.sig)) = true) : (Jvm.Cond.code y bytes mx rt).before a s = true := by
  simp only [Bool.and_eq_true, beq_iff_eq, Bool.not_eq_true', decide_eq_true_eq] at h5
  obtain ⟨⟨⟨⟨⟨g1, g2⟩, g3⟩, g4⟩, g5⟩, g6⟩ := h5
  simp [Cond.before, Cond.holds, Cond.value, h1, h2, h3, h4, g1, g2, g3, g4, g5, g6]
def isCode : Jvm.Cond → Bool
  | .code _ _ _ _ => true
  | _ => false
theorem all_split {L : List Jvm.Cond} {P : Jvm.Cond → Bool} (h1 : L.all (fun c => isCode c || P c) = true) (h2 : ∀ c ∈ L.filter isCode, P c = true) : L.all P = true := by
  refine List.all_eq_true.mpr fun c hc => ?_
  have h := List.all_eq_true.mp h1 c hc
  rcases Bool.eq_false_or_eq_true (isCode c) with hi | hi
  · exact h2 c (List.mem_filter.mpr ⟨hc, hi⟩)
  · simpa [hi] using h
set_option maxRecDepth 65536 in
theorem w_c0 : (Jvm.Cond.code x code maxLocals ret).before args0 about1 = true := code_word (m := ⟨1, 1⟩) (meth := k1m1) (c := k1c1) (by decide +kernel) rfl rfl rfl (by decide +kernel)
set_option maxRecDepth 65536 in
theorem w_c1 : (Jvm.Cond.code ({ cls := "com/example/narrow_queue/narrowqueue/worker/KeptText", name := "isContinuation", desc := "(B)Z" } : Jvm.MethodName) prog_42_method_5_code (1 : Nat) (Option.some Jvm.ClassFile.FieldType.boolean)).before args0 about1 = true := code_word (m := ⟨2, 0⟩) (meth := k2m0) (c := k2c0) (by decide +kernel) rfl rfl rfl (by decide +kernel)
def codes1 : List Jvm.Cond := [Jvm.Cond.code x code maxLocals ret, Jvm.Cond.code ({ cls := "com/example/narrow_queue/narrowqueue/worker/KeptText", name := "isContinuation", desc := "(B)Z" } : Jvm.MethodName) prog_42_method_5_code (1 : Nat) (Option.some Jvm.ClassFile.FieldType.boolean)]
set_option maxRecDepth 65536 in
theorem codes_eq : words1.filter isCode = codes1 := rfl
theorem w_codes : ∀ c ∈ words1.filter isCode, c.before args0 about1 = true := by
  rw [codes_eq]
  intro c hc
  simp only [codes1, List.mem_cons, List.not_mem_nil, or_false] at hc
  rcases hc with rfl | rfl
  · exact w_c0
  · exact w_c1
set_option maxRecDepth 65536 in
theorem w_t1 : words1.all (fun c => isCode c || c.before args0 about1) = true := by decide +kernel
theorem w_tables : (allAtoms (Jvm.Cond.code x code maxLocals ret :: tables_1)).before args0 about1 = true := by
  rw [allAtoms_all]
  show words1.all (fun c => c.before args0 about1) = true
  refine all_split ?_ w_codes
  rw [w_t1]
set_option maxRecDepth 65536 in
theorem w_case : (Jvm.Cond.and given_1 narrow_1).before args0 about1 = true := by decide +kernel
theorem w_applies : (headSpec (Jvm.Cond.code x code maxLocals ret :: tables_1) room_1).applies x e0.platform about1 = true :=
  (Spec.applies_iff w_frames).mpr ⟨w_running, w_runnable, w_alone, w_named, w_hears, w_ripe, w_room, w_tables⟩
theorem atStart : AtStart classFile x code maxLocals ret World_1 tables_1 room_1 Calls_1 rest_1 Pre_1 launch0 p0 e0 about1 theMethod args0 below0 :=
  ⟨lists_1, trivial, launch0.admits_env _ _ _, launch0.least_env, fairChoices_fair.cas, fairChoices_fair.clock, w_frames, w_args, w_heap, w_applies, trivial, trivial, w_case⟩
end start1
theorem witness_1 : WitnessClaimed_1 := ⟨start1.p0, start1.e0, start1.about1, start1.theMethod, start1.args0, start1.below0, start1.atStart⟩
end Jvm.Pilot.@@N@@
