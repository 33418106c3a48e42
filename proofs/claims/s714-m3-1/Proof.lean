import JvmDerived
import JvmDerived.Pilot.@@N@@Statement
import JvmDerived.Pilot.@@N@@Code
set_option linter.unusedVariables false
set_option linter.unusedSimpArgs false
namespace Jvm.RoadKit
open Sem ClassFile Op Lib Jvm.Stand Jvm.Free Jvm.LawKit
section New
variable {p : Program} {l : Launch} {e : Env} {R : Room} {s : State} {m : MethodId} {args : Array Value} {below : List Frame} {meth : Method} {c : Code} {T : State} {locs : List Loc} {cells slots : Nat}
theorem retI (X : Stand p l e R s m args below meth c T locs cells slots) (hx : p.tables.exec = Jvm.exec) {pc : Nat} {Ls : Array Slot} {z : Int32} {rest : List Value} (hret : meth.sig.returnType = some .int) (hd : decode c.code pc = .ok (.ireturn, 1)) {fs : List Frame}
    (hl : ∀ (f : JFrame) (acts : List Action), f.method = m → f.locked = none → f.entered = [] → (doReturn e (T.setTop f) acts (some (.int z))).1 = T.setFrames fs) : Steps p.tables e below (T.setTop (mkF m pc Ls (.int z :: rest))) (T.setFrames fs) := by
  have hm' : T.vm.method? m = some meth := X.method'
  have hn : narrow .int (.int z) = .int z := rfl
  show Steps p.tables e below (T.setTop { method := m, pc := pc, locals := Ls, stack := _ :: rest, locked := none }) _
  jvm_step X.here [X.here.top, hx, hd, hm', hret, hn]
  first | (intro acts; rw [hl _ acts rfl rfl rfl]) | rw [hl _ _ rfl rfl rfl]
  exact Steps.refl _
end New
end Jvm.RoadKit
namespace Jvm.Pilot.@@N@@
open Jvm Jvm.ClassFile Sem Op Lib Jvm.Free Jvm.Stand Jvm.LawKit Jvm.RoadKit Bundle Jvm.Pilot.@@N@@.Jvm.D
abbrev Sp (p : Program) (e : Env) (below : List Frame) (m : MethodId) (T : State) (pc : Nat) (L : Array Slot) (S : List Value) (t : State) : Prop := Steps p.tables e below (T.setTop (mkF m pc L S)) t
theorem own_shr0 (z : Int32) : z >>> ((0 : Int32) &&& 31) = z := by
  apply Int32.toInt_inj.mp
  rw [c_ishr z 0 0 (by decide)]; omega
def own_lat (b : Int32) : Int32 := nar .char ((b &&& (255 : Int32)).toUInt32.toUInt16.toUInt32.toInt32)
theorem own_rt (c : Int32) (h : 0 ≤ c.toInt ∧ c.toInt ≤ 255) : own_lat (nar .byte (c.toInt8.toInt32)) = c := by
  apply Int32.toInt_inj.mp
  have h1 := c_i2b c
  have h2 := c_i2b (c.toInt8.toInt32)
  have h3 := c_mask (c.toInt8.toInt32.toInt8.toInt32) 255 8 (by decide) (by decide)
  have h4 := c_i2c (c.toInt8.toInt32.toInt8.toInt32 &&& 255)
  have h5 := c_i2c ((c.toInt8.toInt32.toInt8.toInt32 &&& 255).toUInt32.toUInt16.toUInt32.toInt32)
  show ((c.toInt8.toInt32.toInt8.toInt32 &&& 255).toUInt32.toUInt16.toUInt32.toInt32).toUInt32.toUInt16.toUInt32.toInt32.toInt = c.toInt
  omega
theorem own_eqi {a : Term} {k : Int32} {args : Array Value} {first s : State} {o : Option Outcome} {idx : List Nat} (h : (Jvm.Cond.eq a (.int k)).value args first o s idx = some true) : a.eval args first o idx s = some (.int k) := by
  obtain ⟨x, y, hx, hy, -, kin⟩ := cmp_v (Or.inl h)
  have e : y = .int k := Option.some.inj (hy.symm.trans (Term.int_eval k))
  subst e
  obtain ⟨z, rfl⟩ := kin
  have := gotT (Cond.eq_ints hx hy) h
  rw [hx, this]
theorem own_d (a : Int32) : (1 + ((a &&& 2147483647) % 3)) = 1 ∨ (1 + ((a &&& 2147483647) % 3)) = 2 ∨ (1 + ((a &&& 2147483647) % 3)) = 3 := by
  have h1 := c_and a 2147483647 (by decide)
  have h2 := (c_iremV (a &&& 2147483647) 3).1 h1.1 (by decide)
  have h3 := h2.1; have h4 := h2.2.1
  rw [show (3 : Int32).toInt = 3 from rfl] at h4
  have h5 := c_iadd 1 ((a &&& 2147483647) % 3)
  have h6 := rng32 (1 + ((a &&& 2147483647) % 3))
  rw [show (1 : Int32).toInt = 1 from rfl] at h5
  simp only [← Int32.toInt_inj, show (1 : Int32).toInt = 1 from rfl, show (2 : Int32).toInt = 2 from rfl, show (3 : Int32).toInt = 3 from rfl]
  omega
theorem own_cb (q : Int64) : 0 ≤ (nar .char ((q &&& 255).toInt32.toUInt32.toUInt16.toUInt32.toInt32)).toInt ∧ (nar .char ((q &&& 255).toInt32.toUInt32.toUInt16.toUInt32.toInt32)).toInt ≤ 255 := by
  have h1 := c_maskL q 255 8 (by decide) (by decide)
  have h2 := c_l2i (q &&& 255)
  have h3 := c_i2c ((q &&& 255).toInt32)
  have h4 := c_i2c ((q &&& 255).toInt32.toUInt32.toUInt16.toUInt32.toInt32)
  have h5 := rng32 ((q &&& 255).toInt32)
  show 0 ≤ (((q &&& 255).toInt32.toUInt32.toUInt16.toUInt32.toInt32).toUInt32.toUInt16.toUInt32.toInt32).toInt ∧ (((q &&& 255).toInt32.toUInt32.toUInt16.toUInt32.toInt32).toUInt32.toUInt16.toUInt32.toInt32).toInt ≤ 255
  omega
theorem own_ne46 {c : Int32} (h : 0 ≤ c.toInt ∧ c.toInt ≤ 255) (hn : ¬ c = 46) : ¬ nar .byte (c.toInt8.toInt32) = 46 := by
  have h1 := c_i2b c
  have h2 := c_i2b (c.toInt8.toInt32)
  intro q
  apply hn
  apply Int32.toInt_inj.mp
  have q2 : (c.toInt8.toInt32.toInt8.toInt32).toInt = (46 : Int32).toInt := congrArg Int32.toInt q
  rw [show (46 : Int32).toInt = 46 from by decide] at q2 ⊢
  omega
theorem d10_0 : decode jdk_42_method_154_code 0 = .ok (.getstatic 38, 3) := by decide +kernel
theorem d10_3 : decode jdk_42_method_154_code 3 = .ok (.ifCond .eq 14, 3) := by decide +kernel
theorem d10_6 : decode jdk_42_method_154_code 6 = .ok (.aload_n 0, 1) := by decide +kernel
theorem d10_7 : decode jdk_42_method_154_code 7 = .ok (.getfield 15, 3) := by decide +kernel
theorem d10_10 : decode jdk_42_method_154_code 10 = .ok (.ifCond .ne 7, 3) := by decide +kernel
theorem d10_13 : decode jdk_42_method_154_code 13 = .ok (.iconst 1, 1) := by decide +kernel
theorem d10_14 : decode jdk_42_method_154_code 14 = .ok (.goto 4, 3) := by decide +kernel
theorem d10_18 : decode jdk_42_method_154_code 18 = .ok (.ireturn, 1) := by decide +kernel
theorem own_pn8 : plainName "java/lang/String" = true := by first | (simp [plainName, overriddenIn]; done) | decide +kernel
theorem ef_10 (m : MethodId) (x0 : Addr) : entryFrame m #[(.ref x0)] 1 = mkF m 0 #[.val (.ref x0)] [] := by first | (simp [entryFrame, mkF, argsToLocals, Value.category]; done) | rfl
def Q10 (Z : State) (aa : Addr) (cs : Int32) (vf : Value) (h0 : Heap) (n0 : Nat) (v : Option Value) (h : Heap) (L : List Loc) : Prop := v = some (.int (1 : Int32)) ∧ Fr n0 L ∧ h = h0
set_option maxRecDepth 65536 in
set_option maxHeartbeats 40000000 in
theorem rm10 (l : Launch) (Z : State) (a0 : Array Value) (hw : ∀ d ∈ tables_1, d.before a0 Z = true) (ws : List Jvm.Cond) (aa : Addr) (cs : Int32) (vf : Value) (h0 : Heap) (n0 : Nat) (Z0 : n0 ≤ h0.size) (O0 : Old Z n0 h0) (Scs : Sta Z Z.heap "java/lang/String" "COMPACT_STRINGS" "Z" (.int cs)) (hcs : ¬ cs = (0 : Int32)) (Ssf : Sta Z Z.heap "jdk/internal/util/Preconditions" "SIOOBE_FORMATTER" "Ljava/util/function/BiFunction;" vf) (hvf : vf.isRef = true) (Fc : Fld Z h0 aa "java/lang/String" "coder" "B" (.int (0 : Int32))) :
    MetFree l (⟨"java/lang/String", "isLatin1", "()Z"⟩ : MethodName) (head1 (Jvm.Cond.code (⟨"java/lang/String", "isLatin1", "()Z"⟩ : MethodName) jdk_42_method_154_code 1 (some .boolean) :: ws) ({ frames := 0, cells := 0, slots := 0, locals := 0 } : Room)) (fun a U => a = #[(.ref aa)] ∧ Z.Warmed39 U.vm ∧ U.heap = h0) (fun _ _ _ _ _ => True) (fun _ U o U' => ∃ v L, o = .returned v ∧ Q10 Z aa cs vf h0 n0 v U'.heap L ∧ FrameEnd U o U' L ({ frames := 0, cells := 0, slots := 0, locals := 0 } : Room).cells ({ frames := 0, cells := 0, slots := 0, locals := 0 } : Room).slots) := by
  refine MetFree.of_bodySF (plainFor_of_name own_pn8) hisR ?_
  intro p e s m args below meth c s₁ Bd hml0 hP hK
  have H := fun i c (h : tables_1[i]? = some c) => hw c (List.mem_of_getElem? h)
  obtain ⟨rfl, hZ, hh⟩ := hP
  have hx := Bd.exec
  have hby := Bd.bytes
  have hml : c.maxLocals = 1 := hml0
  have hown : s.vm.findClass "java/lang/String" = some m.cls := findClass_of_methodNamed Bd.named
  have hnm := (name_of_methodNamed Bd.named Bd.method).1
  have X0 : Stand p l e ({ frames := 0, cells := 0, slots := 0, locals := 0 } : Room) s m #[(.ref aa)] below meth c s₁ [] 0 0 := Stand.of_body Bd
  have e0 : s₁.heap = h0 := by rw [← hh, Bd.state]; rfl
  have N0 := Fr.nil n0
  have pre0 : ∀ t, Sp p e below m s₁ 0 #[.val (.ref aa)] [] t → Steps p.tables e below (s₁.setTop (entryFrame m #[(.ref aa)] 1)) t := fun t k => castTop (ef_10 m aa) k
  generalize s₁.setTop (entryFrame m #[(.ref aa)] 1) = G0 at pre0 ⊢
  obtain ⟨T3, X3, e3, st3⟩ := getS2 X0 hx hZ hown (host := "") (Or.inl (H 16 _ rfl)) Via.refl e0 (Scs.ext O0.2) (g := (mkF m 0 #[.val (.ref aa)] [])) rfl (hb hby d10_0)
  obtain ⟨T4, X4, e4, st4⟩ := getF X3 hx hZ hown (host := "") (Or.inl (H 28 _ rfl)) Via.refl e3 Fc (g := (mkF m 7 #[.val (.ref aa)] [(.ref aa)])) rfl rfl (hb hby d10_7)
  obtain ⟨fs, hr, hrun, hended, hW, hsame⟩ := X4.leave (v := some (.int (1 : Int32))) (fun h => by rw [Bd.returns] at h; cases h)
  refine ⟨_, _, pre0 _ ?_, hrun, hended, _, _, rfl, ?_, ⟨_, rfl⟩, hW, hsame.mono (by decide) (by decide)⟩
  · show Sp p e below m s₁ 0 #[.val (.ref aa)] [] _
    refine st3 _ ?_
    show Sp p e below m T3 3 #[.val (.ref aa)] [(.int cs)] _
    refine XS.ifNo X3.here hx rfl (hb hby d10_3) rfl ((if0 _ _).trans (feq (hcs : ¬ (cs = (0 : Int32)))).1) ?_
    show Sp p e below m T3 6 #[.val (.ref aa)] [] _
    refine XS.aloadN X3.here hx rfl (hb hby d10_6) rfl rfl ?_
    refine st4 _ ?_
    show Sp p e below m T4 10 #[.val (.ref aa)] [(.int (0 : Int32))] _
    refine XS.ifNo X4.here hx rfl (hb hby d10_10) rfl ((if0 _ _).trans (teq (by decide : ((0 : Int32) = (0 : Int32)))).2) ?_
    show Sp p e below m T4 13 #[.val (.ref aa)] [] _
    refine XS.iconst X4.here hx rfl (hb hby d10_13) ?_
    refine XS.goto X4.here hx rfl (pc0 := 14) (pc' := 18) rfl (hb hby d10_14) (by decide) (by decide) ?_
    show Sp p e below m T4 18 #[.val (.ref aa)] [(.int (1 : Int32))] _
    exact retN X4 hx (t := .boolean) Bd.returns (by simp) (hb hby d10_18) hr
  · show Q10 Z aa cs vf h0 n0 _ T4.heap _
    rw [e4]
    exact ⟨rfl, N0, rfl⟩
theorem d12_0 : decode jdk_42_method_152_code 0 = .ok (.getstatic 38, 3) := by decide +kernel
theorem d12_3 : decode jdk_42_method_152_code 3 = .ok (.ifCond .eq 10, 3) := by decide +kernel
theorem d12_6 : decode jdk_42_method_152_code 6 = .ok (.aload_n 0, 1) := by decide +kernel
theorem d12_7 : decode jdk_42_method_152_code 7 = .ok (.getfield 15, 3) := by decide +kernel
theorem d12_10 : decode jdk_42_method_152_code 10 = .ok (.goto 4, 3) := by decide +kernel
theorem d12_14 : decode jdk_42_method_152_code 14 = .ok (.ireturn, 1) := by decide +kernel
theorem ef_12 (m : MethodId) (x0 : Addr) : entryFrame m #[(.ref x0)] 1 = mkF m 0 #[.val (.ref x0)] [] := by first | (simp [entryFrame, mkF, argsToLocals, Value.category]; done) | rfl
def Q12 (Z : State) (aa : Addr) (cs : Int32) (vf : Value) (h0 : Heap) (n0 : Nat) (v : Option Value) (h : Heap) (L : List Loc) : Prop := v = some (.int (0 : Int32)) ∧ Fr n0 L ∧ h = h0
set_option maxRecDepth 65536 in
set_option maxHeartbeats 40000000 in
theorem rm12 (l : Launch) (Z : State) (a0 : Array Value) (hw : ∀ d ∈ tables_1, d.before a0 Z = true) (ws : List Jvm.Cond) (aa : Addr) (cs : Int32) (vf : Value) (h0 : Heap) (n0 : Nat) (Z0 : n0 ≤ h0.size) (O0 : Old Z n0 h0) (Scs : Sta Z Z.heap "java/lang/String" "COMPACT_STRINGS" "Z" (.int cs)) (hcs : ¬ cs = (0 : Int32)) (Ssf : Sta Z Z.heap "jdk/internal/util/Preconditions" "SIOOBE_FORMATTER" "Ljava/util/function/BiFunction;" vf) (hvf : vf.isRef = true) (Fc : Fld Z h0 aa "java/lang/String" "coder" "B" (.int (0 : Int32))) :
    MetFree l (⟨"java/lang/String", "coder", "()B"⟩ : MethodName) (head1 (Jvm.Cond.code (⟨"java/lang/String", "coder", "()B"⟩ : MethodName) jdk_42_method_152_code 1 (some .byte) :: ws) ({ frames := 0, cells := 0, slots := 0, locals := 0 } : Room)) (fun a U => a = #[(.ref aa)] ∧ Z.Warmed39 U.vm ∧ U.heap = h0) (fun _ _ _ _ _ => True) (fun _ U o U' => ∃ v L, o = .returned v ∧ Q12 Z aa cs vf h0 n0 v U'.heap L ∧ FrameEnd U o U' L ({ frames := 0, cells := 0, slots := 0, locals := 0 } : Room).cells ({ frames := 0, cells := 0, slots := 0, locals := 0 } : Room).slots) := by
  refine MetFree.of_bodySF (plainFor_of_name own_pn8) hisR ?_
  intro p e s m args below meth c s₁ Bd hml0 hP hK
  have H := fun i c (h : tables_1[i]? = some c) => hw c (List.mem_of_getElem? h)
  obtain ⟨rfl, hZ, hh⟩ := hP
  have hx := Bd.exec
  have hby := Bd.bytes
  have hml : c.maxLocals = 1 := hml0
  have hown : s.vm.findClass "java/lang/String" = some m.cls := findClass_of_methodNamed Bd.named
  have hnm := (name_of_methodNamed Bd.named Bd.method).1
  have X0 : Stand p l e ({ frames := 0, cells := 0, slots := 0, locals := 0 } : Room) s m #[(.ref aa)] below meth c s₁ [] 0 0 := Stand.of_body Bd
  have e0 : s₁.heap = h0 := by rw [← hh, Bd.state]; rfl
  have N0 := Fr.nil n0
  have pre0 : ∀ t, Sp p e below m s₁ 0 #[.val (.ref aa)] [] t → Steps p.tables e below (s₁.setTop (entryFrame m #[(.ref aa)] 1)) t := fun t k => castTop (ef_12 m aa) k
  generalize s₁.setTop (entryFrame m #[(.ref aa)] 1) = G0 at pre0 ⊢
  obtain ⟨T7, X7, e7, st7⟩ := getS2 X0 hx hZ hown (host := "") (Or.inl (H 16 _ rfl)) Via.refl e0 (Scs.ext O0.2) (g := (mkF m 0 #[.val (.ref aa)] [])) rfl (hb hby d12_0)
  obtain ⟨T8, X8, e8, st8⟩ := getF X7 hx hZ hown (host := "") (Or.inl (H 28 _ rfl)) Via.refl e7 Fc (g := (mkF m 7 #[.val (.ref aa)] [(.ref aa)])) rfl rfl (hb hby d12_7)
  obtain ⟨fs, hr, hrun, hended, hW, hsame⟩ := X8.leave (v := some (.int (nar .byte (0 : Int32)))) (fun h => by rw [Bd.returns] at h; cases h)
  refine ⟨_, _, pre0 _ ?_, hrun, hended, _, _, rfl, ?_, ⟨_, rfl⟩, hW, hsame.mono (by decide) (by decide)⟩
  · show Sp p e below m s₁ 0 #[.val (.ref aa)] [] _
    refine st7 _ ?_
    show Sp p e below m T7 3 #[.val (.ref aa)] [(.int cs)] _
    refine XS.ifNo X7.here hx rfl (hb hby d12_3) rfl ((if0 _ _).trans (feq (hcs : ¬ (cs = (0 : Int32)))).1) ?_
    show Sp p e below m T7 6 #[.val (.ref aa)] [] _
    refine XS.aloadN X7.here hx rfl (hb hby d12_6) rfl rfl ?_
    refine st8 _ ?_
    show Sp p e below m T8 10 #[.val (.ref aa)] [(.int (0 : Int32))] _
    refine XS.goto X8.here hx rfl (pc0 := 10) (pc' := 14) rfl (hb hby d12_10) (by decide) (by decide) ?_
    show Sp p e below m T8 14 #[.val (.ref aa)] [(.int (0 : Int32))] _
    exact retN X8 hx (t := .byte) Bd.returns (by simp) (hb hby d12_14) hr
  · show Q12 Z aa cs vf h0 n0 _ T8.heap _
    rw [e8]
    exact ⟨rfl, N0, rfl⟩
theorem d11_0 : decode jdk_42_method_54_code 0 = .ok (.aload_n 0, 1) := by decide +kernel
theorem d11_1 : decode jdk_42_method_54_code 1 = .ok (.getfield 9, 3) := by decide +kernel
theorem d11_4 : decode jdk_42_method_54_code 4 = .ok (.arraylength, 1) := by decide +kernel
theorem d11_5 : decode jdk_42_method_54_code 5 = .ok (.aload_n 0, 1) := by decide +kernel
theorem d11_6 : decode jdk_42_method_54_code 6 = .ok (.invokevirtual 335, 3) := by decide +kernel
theorem own_pd20 : parseMethodDescriptor "()B" = some ⟨[], some .byte⟩ := by decide +kernel
theorem d11_9 : decode jdk_42_method_54_code 9 = .ok (.ishr, 1) := by decide +kernel
theorem d11_10 : decode jdk_42_method_54_code 10 = .ok (.ireturn, 1) := by decide +kernel
theorem ef_11 (m : MethodId) (x0 : Addr) : entryFrame m #[(.ref x0)] 1 = mkF m 0 #[.val (.ref x0)] [] := by first | (simp [entryFrame, mkF, argsToLocals, Value.category]; done) | rfl
def Q11 (Z : State) (aa : Addr) (cs : Int32) (vf : Value) (ab : Addr) (kb : ClassId) (zn : Int32) (vs : List Value) (h0 : Heap) (n0 : Nat) (v : Option Value) (h : Heap) (L : List Loc) : Prop := v = some (.int zn) ∧ Fr n0 L ∧ h = h0
set_option maxRecDepth 65536 in
set_option maxHeartbeats 40000000 in
theorem rm11 (l : Launch) (Z : State) (a0 : Array Value) (hw : ∀ d ∈ tables_1, d.before a0 Z = true) (ws : List Jvm.Cond) (aa : Addr) (cs : Int32) (vf : Value) (ab : Addr) (kb : ClassId) (zn : Int32) (vs : List Value) (h0 : Heap) (n0 : Nat) (Z0 : n0 ≤ h0.size) (O0 : Old Z n0 h0) (Scs : Sta Z Z.heap "java/lang/String" "COMPACT_STRINGS" "Z" (.int cs)) (hcs : ¬ cs = (0 : Int32)) (Ssf : Sta Z Z.heap "jdk/internal/util/Preconditions" "SIOOBE_FORMATTER" "Ljava/util/function/BiFunction;" vf) (hvf : vf.isRef = true) (Ea : Exa Z h0 aa "java/lang/String") (Fv : Fld Z h0 aa "java/lang/String" "value" "[B" (.ref ab)) (Fc : Fld Z h0 aa "java/lang/String" "coder" "B" (.int (0 : Int32))) (Va : Arv Z h0 ab kb .byte zn vs (.int (0 : Int32))) :
    MetFree l (⟨"java/lang/String", "length", "()I"⟩ : MethodName) (head1 (Jvm.Cond.code (⟨"java/lang/String", "length", "()I"⟩ : MethodName) jdk_42_method_54_code 1 (some .int) :: ws) ({ frames := 1, cells := 0, slots := 0, locals := 13 } : Room)) (fun a U => a = #[(.ref aa)] ∧ Z.Warmed39 U.vm ∧ U.heap = h0) (fun _ _ _ _ _ => True) (fun _ U o U' => ∃ v L, o = .returned v ∧ Q11 Z aa cs vf ab kb zn vs h0 n0 v U'.heap L ∧ FrameEnd U o U' L ({ frames := 1, cells := 0, slots := 0, locals := 13 } : Room).cells ({ frames := 1, cells := 0, slots := 0, locals := 13 } : Room).slots) := by
  refine MetFree.of_bodySF (plainFor_of_name own_pn8) hisR ?_
  intro p e s m args below meth c s₁ Bd hml0 hP hK
  have H := fun i c (h : tables_1[i]? = some c) => hw c (List.mem_of_getElem? h)
  obtain ⟨rfl, hZ, hh⟩ := hP
  have hx := Bd.exec
  have hby := Bd.bytes
  have hml : c.maxLocals = 1 := hml0
  have hown : s.vm.findClass "java/lang/String" = some m.cls := findClass_of_methodNamed Bd.named
  have hnm := (name_of_methodNamed Bd.named Bd.method).1
  have X0 : Stand p l e ({ frames := 1, cells := 0, slots := 0, locals := 13 } : Room) s m #[(.ref aa)] below meth c s₁ [] 0 0 := Stand.of_body Bd
  have e0 : s₁.heap = h0 := by rw [← hh, Bd.state]; rfl
  have N0 := Fr.nil n0
  have pre0 : ∀ t, Sp p e below m s₁ 0 #[.val (.ref aa)] [] t → Steps p.tables e below (s₁.setTop (entryFrame m #[(.ref aa)] 1)) t := fun t k => castTop (ef_11 m aa) k
  generalize s₁.setTop (entryFrame m #[(.ref aa)] 1) = G0 at pre0 ⊢
  obtain ⟨T12, X12, e12, st12⟩ := getF X0 hx hZ hown (host := "") (Or.inl (H 30 _ rfl)) Via.refl e0 Fv (g := (mkF m 1 #[.val (.ref aa)] [(.ref aa)])) rfl rfl (hb hby d11_1)
  obtain ⟨cl13, Ar13, -, S13, M13, -, -⟩ := id Va
  obtain ⟨cq14, kq14, q14a, q14b, q14c⟩ := isOf hZ e12 Ea
  obtain ⟨_, _, ⟨T14, L14, k14, n14⟩, -, X14, ⟨Lc14, hQ14, l14, y14, z14⟩, st14⟩ := X12.virtualBack hx (y := (⟨"java/lang/String", "coder", "()B"⟩ : MethodName)) (z := (⟨"java/lang/String", "coder", "()B"⟩ : MethodName)) hown (mvT hZ (H 56 _ rfl)) (mvT hZ (H 57 _ rfl)) (notFace_of_selects (args := #[]) (mvT hZ (H 59 _ rfl))) (mvT hZ (H 59 _ rfl)) (mvT hZ (H 58 _ rfl)) (by decide) (backOf (W := 1) (rm12 l Z a0 hw [] aa cs vf h0 n0 Z0 O0 Scs hcs Ssf hvf Fc) hZ (H 60 _ rfl) (H 5 _ rfl) (by decide) (by decide)) q14a q14c (g := (mkF m 6 #[.val (.ref aa)] [(.ref aa), (.int zn)])) rfl (by rw [hml]; rfl) (Steps.refl _) (argsL := []) (rest := [(.int zn)]) (lenOf own_pd20 rfl) rfl (Nat.le_of_eq rfl) (hb hby d11_6) (fun _ _ => ⟨rfl, e12, (by decide : 0 + 0 ≤ _), (by decide : 0 + 0 ≤ _)⟩)
  dsimp only [Pt.U, Pt.locs, Pt.cells, Pt.slots] at X14 l14 y14 z14 st14 hQ14
  rw [l14, y14, z14] at X14
  clear l14 y14 z14
  obtain ⟨rfl, Nq14, e14⟩ := hQ14
  have N14 := Fr.app N0 Nq14
  obtain ⟨fs, hr, hrun, hended, hW, hsame⟩ := X14.leave (v := some (.int (zn >>> ((0 : Int32) &&& 31)))) (fun h => by rw [Bd.returns] at h; cases h)
  refine ⟨_, _, pre0 _ ?_, hrun, hended, _, _, rfl, ?_, ⟨_, rfl⟩, hW, hsame.mono (by decide) (by decide)⟩
  · show Sp p e below m s₁ 0 #[.val (.ref aa)] [] _
    refine XS.aloadN X0.here hx rfl (hb hby d11_0) rfl rfl ?_
    refine st12 _ ?_
    show Sp p e below m T12 4 #[.val (.ref aa)] [(.ref ab)] _
    refine X12.arraylength hx (by rw [e12]; exact Ar13.1) (State.isArrayOf_alike hZ.alike Ar13.2.1) (g := (mkF m 4 #[.val (.ref aa)] [(.ref ab)])) rfl rfl (hb hby d11_4) _ ?_
    rw [len_of S13 M13]
    show Sp p e below m T12 5 #[.val (.ref aa)] [(.int zn)] _
    refine XS.aloadN X12.here hx rfl (hb hby d11_5) rfl rfl ?_
    refine st14.trans ?_
    show Sp p e below m T14 9 #[.val (.ref aa)] [(.int (0 : Int32)), (.int zn)] _
    refine XS.ishr X14.here hx rfl (hb hby d11_9) rfl ?_
    show Sp p e below m T14 10 #[.val (.ref aa)] [(.int (zn >>> ((0 : Int32) &&& 31)))] _
    exact retI X14 hx Bd.returns (hb hby d11_10) hr
  · show Q11 Z aa cs vf ab kb zn vs h0 n0 _ T14.heap _
    rw [e14]
    exact ⟨(by rw [own_shr0]), N14, rfl⟩
theorem own_le255 {c : Int32} (h : 0 ≤ c.toInt ∧ c.toInt ≤ 255) : ¬ (255 : Int32) < c := by
  rw [Int32.lt_iff_toInt_lt, show (255 : Int32).toInt = 255 from by decide]; omega
theorem d5_0 : decode jdk_52_method_21_code 0 = .ok (.iconst 0, 1) := by decide +kernel
theorem d5_1 : decode jdk_52_method_21_code 1 = .ok (.istore 5, 2) := by decide +kernel
theorem d5_3 : decode jdk_52_method_21_code 3 = .ok (.iload 5, 2) := by decide +kernel
theorem d5_5 : decode jdk_52_method_21_code 5 = .ok (.iload 4, 2) := by decide +kernel
theorem d5_7 : decode jdk_52_method_21_code 7 = .ok (.if_icmp .ge 37, 3) := by decide +kernel
theorem d5_10 : decode jdk_52_method_21_code 10 = .ok (.aload_n 0, 1) := by decide +kernel
theorem d5_11 : decode jdk_52_method_21_code 11 = .ok (.iload_n 1, 1) := by decide +kernel
theorem d5_12 : decode jdk_52_method_21_code 12 = .ok (.caload, 1) := by decide +kernel
theorem d5_13 : decode jdk_52_method_21_code 13 = .ok (.istore 6, 2) := by decide +kernel
theorem d5_15 : decode jdk_52_method_21_code 15 = .ok (.iload 6, 2) := by decide +kernel
theorem d5_17 : decode jdk_52_method_21_code 17 = .ok (.sipush 255, 3) := by decide +kernel
theorem d5_20 : decode jdk_52_method_21_code 20 = .ok (.if_icmp .le 6, 3) := by decide +kernel
theorem d5_26 : decode jdk_52_method_21_code 26 = .ok (.aload_n 2, 1) := by decide +kernel
theorem d5_27 : decode jdk_52_method_21_code 27 = .ok (.iload_n 3, 1) := by decide +kernel
theorem d5_28 : decode jdk_52_method_21_code 28 = .ok (.iload 6, 2) := by decide +kernel
theorem d5_30 : decode jdk_52_method_21_code 30 = .ok (.i2b, 1) := by decide +kernel
theorem d5_31 : decode jdk_52_method_21_code 31 = .ok (.bastore, 1) := by decide +kernel
theorem d5_32 : decode jdk_52_method_21_code 32 = .ok (.iinc 1 1, 3) := by decide +kernel
theorem d5_35 : decode jdk_52_method_21_code 35 = .ok (.iinc 3 1, 3) := by decide +kernel
theorem d5_38 : decode jdk_52_method_21_code 38 = .ok (.iinc 5 1, 3) := by decide +kernel
theorem d5_41 : decode jdk_52_method_21_code 41 = .ok (.goto (-38), 3) := by decide +kernel
theorem d5_44 : decode jdk_52_method_21_code 44 = .ok (.iload 4, 2) := by decide +kernel
theorem d5_46 : decode jdk_52_method_21_code 46 = .ok (.ireturn, 1) := by decide +kernel
theorem own_pn46 : plainName "java/lang/StringUTF16" = true := by first | (simp [plainName, overriddenIn]; done) | decide +kernel
theorem ef_5n5 (m : MethodId) (x0 : Addr) (x2 : Addr) : entryFrame m #[(.ref x0), (.int (0 : Int32)), (.ref x2), (.int (0 : Int32)), (.int (5 : Int32))] 7 = mkF m 0 #[.val (.ref x0), .val (.int (0 : Int32)), .val (.ref x2), .val (.int (0 : Int32)), .val (.int (5 : Int32)), .unset, .unset] [] := by first | (simp [entryFrame, mkF, argsToLocals, Value.category]; done) | rfl
def Q5n5 (Z : State) (ac : Addr) (ab : Addr) (kc : ClassId) (cc0 : Int32) (cc1 : Int32) (cc2 : Int32) (cc3 : Int32) (cc4 : Int32) (kb : ClassId) (h0 : Heap) (n0 : Nat) (v : Option Value) (h : Heap) (L : List Loc) : Prop := v = some (.int (5 : Int32)) ∧ Fr n0 L ∧ Keep h0 h [ab] ∧ Arv Z h ab kb .byte (5 : Int32) [(.int (nar .byte (cc0.toInt8.toInt32))), (.int (nar .byte (cc1.toInt8.toInt32))), (.int (nar .byte (cc2.toInt8.toInt32))), (.int (nar .byte (cc3.toInt8.toInt32))), (.int (nar .byte (cc4.toInt8.toInt32)))] (.int (0 : Int32))
set_option maxRecDepth 65536 in
set_option maxHeartbeats 40000000 in
theorem rm5n5 (l : Launch) (Z : State) (a0 : Array Value) (hw : ∀ d ∈ tables_1, d.before a0 Z = true) (ws : List Jvm.Cond) (ac : Addr) (ab : Addr) (kc : ClassId) (cc0 : Int32) (cc1 : Int32) (cc2 : Int32) (cc3 : Int32) (cc4 : Int32) (kb : ClassId) (h0 : Heap) (n0 : Nat) (Z0 : n0 ≤ h0.size) (Vc : Arv Z h0 ac kc .char (5 : Int32) [(.int cc0), (.int cc1), (.int cc2), (.int cc3), (.int cc4)] (.int (0 : Int32))) (Vb : Arv Z h0 ab kb .byte (5 : Int32) [(.int (0 : Int32)), (.int (0 : Int32)), (.int (0 : Int32)), (.int (0 : Int32)), (.int (0 : Int32))] (.int (0 : Int32))) (g_ab : n0 ≤ ab) (nab : ac ≠ ab) (hp0 : 0 ≤ cc0.toInt ∧ cc0.toInt ≤ 255) (hp1 : 0 ≤ cc1.toInt ∧ cc1.toInt ≤ 255) (hp2 : 0 ≤ cc2.toInt ∧ cc2.toInt ≤ 255) (hp3 : 0 ≤ cc3.toInt ∧ cc3.toInt ≤ 255) (hp4 : 0 ≤ cc4.toInt ∧ cc4.toInt ≤ 255) :
    MetFree l (⟨"java/lang/StringUTF16", "compress", "([CI[BII)I"⟩ : MethodName) (head1 (Jvm.Cond.code (⟨"java/lang/StringUTF16", "compress", "([CI[BII)I"⟩ : MethodName) jdk_52_method_21_code 7 (some .int) :: ws) ({ frames := 0, cells := 0, slots := 0, locals := 0 } : Room)) (fun a U => a = #[(.ref ac), (.int (0 : Int32)), (.ref ab), (.int (0 : Int32)), (.int (5 : Int32))] ∧ Z.Warmed39 U.vm ∧ U.heap = h0) (fun _ _ _ _ _ => True) (fun _ U o U' => ∃ v L, o = .returned v ∧ Q5n5 Z ac ab kc cc0 cc1 cc2 cc3 cc4 kb h0 n0 v U'.heap L ∧ FrameEnd U o U' L ({ frames := 0, cells := 0, slots := 0, locals := 0 } : Room).cells ({ frames := 0, cells := 0, slots := 0, locals := 0 } : Room).slots) := by
  refine MetFree.of_bodySF (plainFor_of_name own_pn46) hisR ?_
  intro p e s m args below meth c s₁ Bd hml0 hP hK
  have H := fun i c (h : tables_1[i]? = some c) => hw c (List.mem_of_getElem? h)
  obtain ⟨rfl, hZ, hh⟩ := hP
  have hx := Bd.exec
  have hby := Bd.bytes
  have hml : c.maxLocals = 7 := hml0
  have hown : s.vm.findClass "java/lang/StringUTF16" = some m.cls := findClass_of_methodNamed Bd.named
  have hnm := (name_of_methodNamed Bd.named Bd.method).1
  have X0 : Stand p l e ({ frames := 0, cells := 0, slots := 0, locals := 0 } : Room) s m #[(.ref ac), (.int (0 : Int32)), (.ref ab), (.int (0 : Int32)), (.int (5 : Int32))] below meth c s₁ [] 0 0 := Stand.of_body Bd
  have e0 : s₁.heap = h0 := by rw [← hh, Bd.state]; rfl
  have N0 := Fr.nil n0
  have pre0 : ∀ t, Sp p e below m s₁ 0 #[.val (.ref ac), .val (.int (0 : Int32)), .val (.ref ab), .val (.int (0 : Int32)), .val (.int (5 : Int32)), .unset, .unset] [] t → Steps p.tables e below (s₁.setTop (entryFrame m #[(.ref ac), (.int (0 : Int32)), (.ref ab), (.int (0 : Int32)), (.int (5 : Int32))] 7)) t := fun t k => castTop (ef_5n5 m ac ab) k
  generalize s₁.setTop (entryFrame m #[(.ref ac), (.int (0 : Int32)), (.ref ab), (.int (0 : Int32)), (.int (5 : Int32))] 7) = G0 at pre0 ⊢
  obtain ⟨cl35, Ar35, -, S35, -, H35, -⟩ := id Vc
  have hin35 : ¬ ((0 : Int32) < 0 ∨ cl35.slots.size ≤ ((0 : Int32)).toNatClampNeg) := inb_of S35 ⟨by decide, by decide⟩
  have hat35 : cl35.slots[((0 : Int32)).toNatClampNeg]? = some (.int cc0) := H35.at hin35 rfl
  obtain ⟨cl36, Ar36, q36, S36, N36, H36, G36⟩ := id Vb
  have hin36 : ¬ ((0 : Int32) < 0 ∨ cl36.slots.size ≤ ((0 : Int32)).toNatClampNeg) := inb_of S36 ⟨by decide, by decide⟩
  obtain ⟨T37, h37, X37, e37, W37, st37⟩ := stB X0 hx hZ e0 Ar36 (j := (0 : Int32)) hin36 (g := (mkF m 31 #[.val (.ref ac), .val (.int (0 : Int32)), .val (.ref ab), .val (.int (0 : Int32)), .val (.int (5 : Int32)), .val (.int (0 : Int32)), .val (.int cc0)] [(.int (cc0.toInt8.toInt32)), (.int (0 : Int32)), (.ref ab)])) rfl rfl (hb hby d5_31)
  have V37 : Arv Z h37 ab kb .byte (5 : Int32) [(.int (nar .byte (cc0.toInt8.toInt32))), (.int (0 : Int32)), (.int (0 : Int32)), (.int (0 : Int32)), (.int (0 : Int32))] (.int (0 : Int32)) := Arv.set Ar36 q36 S36 N36 H36 G36 (fits_nar_byte (cc0.toInt8.toInt32)) W37 0 rfl (Nat.le_of_ble_eq_true rfl)
  have N37 := Fr.snoc X37 N0 g_ab
  have Zs37 : n0 ≤ h37.size := Nat.le_trans Z0 (Keep.of_wr W37).1
  have KK37 : Keep h0 h37 [ab] := (Keep.refl h0 _).wr W37 (Or.inl (List.mem_of_getElem? (i := 0) rfl))
  have f38 := Vc.other W37 nab
  obtain ⟨cl39, Ar39, -, S39, -, H39, -⟩ := id f38
  have hin39 : ¬ ((1 : Int32) < 0 ∨ cl39.slots.size ≤ ((1 : Int32)).toNatClampNeg) := inb_of S39 ⟨by decide, by decide⟩
  have hat39 : cl39.slots[((1 : Int32)).toNatClampNeg]? = some (.int cc1) := H39.at hin39 rfl
  obtain ⟨cl40, Ar40, q40, S40, N40, H40, G40⟩ := id V37
  have hin40 : ¬ ((1 : Int32) < 0 ∨ cl40.slots.size ≤ ((1 : Int32)).toNatClampNeg) := inb_of S40 ⟨by decide, by decide⟩
  obtain ⟨T41, h41, X41, e41, W41, st41⟩ := stB X37 hx hZ e37 Ar40 (j := (1 : Int32)) hin40 (g := (mkF m 31 #[.val (.ref ac), .val (.int (1 : Int32)), .val (.ref ab), .val (.int (1 : Int32)), .val (.int (5 : Int32)), .val (.int (1 : Int32)), .val (.int cc1)] [(.int (cc1.toInt8.toInt32)), (.int (1 : Int32)), (.ref ab)])) rfl rfl (hb hby d5_31)
  have V41 : Arv Z h41 ab kb .byte (5 : Int32) [(.int (nar .byte (cc0.toInt8.toInt32))), (.int (nar .byte (cc1.toInt8.toInt32))), (.int (0 : Int32)), (.int (0 : Int32)), (.int (0 : Int32))] (.int (0 : Int32)) := Arv.set Ar40 q40 S40 N40 H40 G40 (fits_nar_byte (cc1.toInt8.toInt32)) W41 1 rfl (Nat.le_of_ble_eq_true rfl)
  have N41 := Fr.snoc X41 N37 g_ab
  have Zs41 : n0 ≤ h41.size := Nat.le_trans Zs37 (Keep.of_wr W41).1
  have KK41 : Keep h0 h41 [ab] := KK37.wr W41 (Or.inl (List.mem_of_getElem? (i := 0) rfl))
  have f42 := f38.other W41 nab
  obtain ⟨cl43, Ar43, -, S43, -, H43, -⟩ := id f42
  have hin43 : ¬ ((2 : Int32) < 0 ∨ cl43.slots.size ≤ ((2 : Int32)).toNatClampNeg) := inb_of S43 ⟨by decide, by decide⟩
  have hat43 : cl43.slots[((2 : Int32)).toNatClampNeg]? = some (.int cc2) := H43.at hin43 rfl
  obtain ⟨cl44, Ar44, q44, S44, N44, H44, G44⟩ := id V41
  have hin44 : ¬ ((2 : Int32) < 0 ∨ cl44.slots.size ≤ ((2 : Int32)).toNatClampNeg) := inb_of S44 ⟨by decide, by decide⟩
  obtain ⟨T45, h45, X45, e45, W45, st45⟩ := stB X41 hx hZ e41 Ar44 (j := (2 : Int32)) hin44 (g := (mkF m 31 #[.val (.ref ac), .val (.int (2 : Int32)), .val (.ref ab), .val (.int (2 : Int32)), .val (.int (5 : Int32)), .val (.int (2 : Int32)), .val (.int cc2)] [(.int (cc2.toInt8.toInt32)), (.int (2 : Int32)), (.ref ab)])) rfl rfl (hb hby d5_31)
  have V45 : Arv Z h45 ab kb .byte (5 : Int32) [(.int (nar .byte (cc0.toInt8.toInt32))), (.int (nar .byte (cc1.toInt8.toInt32))), (.int (nar .byte (cc2.toInt8.toInt32))), (.int (0 : Int32)), (.int (0 : Int32))] (.int (0 : Int32)) := Arv.set Ar44 q44 S44 N44 H44 G44 (fits_nar_byte (cc2.toInt8.toInt32)) W45 2 rfl (Nat.le_of_ble_eq_true rfl)
  have N45 := Fr.snoc X45 N41 g_ab
  have Zs45 : n0 ≤ h45.size := Nat.le_trans Zs41 (Keep.of_wr W45).1
  have KK45 : Keep h0 h45 [ab] := KK41.wr W45 (Or.inl (List.mem_of_getElem? (i := 0) rfl))
  have f46 := f42.other W45 nab
  obtain ⟨cl47, Ar47, -, S47, -, H47, -⟩ := id f46
  have hin47 : ¬ ((3 : Int32) < 0 ∨ cl47.slots.size ≤ ((3 : Int32)).toNatClampNeg) := inb_of S47 ⟨by decide, by decide⟩
  have hat47 : cl47.slots[((3 : Int32)).toNatClampNeg]? = some (.int cc3) := H47.at hin47 rfl
  obtain ⟨cl48, Ar48, q48, S48, N48, H48, G48⟩ := id V45
  have hin48 : ¬ ((3 : Int32) < 0 ∨ cl48.slots.size ≤ ((3 : Int32)).toNatClampNeg) := inb_of S48 ⟨by decide, by decide⟩
  obtain ⟨T49, h49, X49, e49, W49, st49⟩ := stB X45 hx hZ e45 Ar48 (j := (3 : Int32)) hin48 (g := (mkF m 31 #[.val (.ref ac), .val (.int (3 : Int32)), .val (.ref ab), .val (.int (3 : Int32)), .val (.int (5 : Int32)), .val (.int (3 : Int32)), .val (.int cc3)] [(.int (cc3.toInt8.toInt32)), (.int (3 : Int32)), (.ref ab)])) rfl rfl (hb hby d5_31)
  have V49 : Arv Z h49 ab kb .byte (5 : Int32) [(.int (nar .byte (cc0.toInt8.toInt32))), (.int (nar .byte (cc1.toInt8.toInt32))), (.int (nar .byte (cc2.toInt8.toInt32))), (.int (nar .byte (cc3.toInt8.toInt32))), (.int (0 : Int32))] (.int (0 : Int32)) := Arv.set Ar48 q48 S48 N48 H48 G48 (fits_nar_byte (cc3.toInt8.toInt32)) W49 3 rfl (Nat.le_of_ble_eq_true rfl)
  have N49 := Fr.snoc X49 N45 g_ab
  have Zs49 : n0 ≤ h49.size := Nat.le_trans Zs45 (Keep.of_wr W49).1
  have KK49 : Keep h0 h49 [ab] := KK45.wr W49 (Or.inl (List.mem_of_getElem? (i := 0) rfl))
  have f50 := f46.other W49 nab
  obtain ⟨cl51, Ar51, -, S51, -, H51, -⟩ := id f50
  have hin51 : ¬ ((4 : Int32) < 0 ∨ cl51.slots.size ≤ ((4 : Int32)).toNatClampNeg) := inb_of S51 ⟨by decide, by decide⟩
  have hat51 : cl51.slots[((4 : Int32)).toNatClampNeg]? = some (.int cc4) := H51.at hin51 rfl
  obtain ⟨cl52, Ar52, q52, S52, N52, H52, G52⟩ := id V49
  have hin52 : ¬ ((4 : Int32) < 0 ∨ cl52.slots.size ≤ ((4 : Int32)).toNatClampNeg) := inb_of S52 ⟨by decide, by decide⟩
  obtain ⟨T53, h53, X53, e53, W53, st53⟩ := stB X49 hx hZ e49 Ar52 (j := (4 : Int32)) hin52 (g := (mkF m 31 #[.val (.ref ac), .val (.int (4 : Int32)), .val (.ref ab), .val (.int (4 : Int32)), .val (.int (5 : Int32)), .val (.int (4 : Int32)), .val (.int cc4)] [(.int (cc4.toInt8.toInt32)), (.int (4 : Int32)), (.ref ab)])) rfl rfl (hb hby d5_31)
  have V53 : Arv Z h53 ab kb .byte (5 : Int32) [(.int (nar .byte (cc0.toInt8.toInt32))), (.int (nar .byte (cc1.toInt8.toInt32))), (.int (nar .byte (cc2.toInt8.toInt32))), (.int (nar .byte (cc3.toInt8.toInt32))), (.int (nar .byte (cc4.toInt8.toInt32)))] (.int (0 : Int32)) := Arv.set Ar52 q52 S52 N52 H52 G52 (fits_nar_byte (cc4.toInt8.toInt32)) W53 4 rfl (Nat.le_of_ble_eq_true rfl)
  have N53 := Fr.snoc X53 N49 g_ab
  have Zs53 : n0 ≤ h53.size := Nat.le_trans Zs49 (Keep.of_wr W53).1
  have KK53 : Keep h0 h53 [ab] := KK49.wr W53 (Or.inl (List.mem_of_getElem? (i := 0) rfl))
  have f54 := f50.other W53 nab
  obtain ⟨fs, hr, hrun, hended, hW, hsame⟩ := X53.leave (v := some (.int (5 : Int32))) (fun h => by rw [Bd.returns] at h; cases h)
  refine ⟨_, _, pre0 _ ?_, hrun, hended, _, _, rfl, ?_, ⟨_, rfl⟩, hW, hsame.mono (by decide) (by decide)⟩
  · show Sp p e below m s₁ 0 #[.val (.ref ac), .val (.int (0 : Int32)), .val (.ref ab), .val (.int (0 : Int32)), .val (.int (5 : Int32)), .unset, .unset] [] _
    refine XS.iconst X0.here hx rfl (hb hby d5_0) ?_
    refine XS.istore X0.here hx rfl (hb hby d5_1) rfl (l' := #[.val (.ref ac), .val (.int (0 : Int32)), .val (.ref ab), .val (.int (0 : Int32)), .val (.int (5 : Int32)), .val (.int (0 : Int32)), .unset]) rfl ?_
    show Sp p e below m s₁ 3 #[.val (.ref ac), .val (.int (0 : Int32)), .val (.ref ab), .val (.int (0 : Int32)), .val (.int (5 : Int32)), .val (.int (0 : Int32)), .unset] [] _
    refine XS.iload X0.here hx rfl (hb hby d5_3) rfl ?_
    refine XS.iload X0.here hx rfl (hb hby d5_5) rfl ?_
    show Sp p e below m s₁ 7 #[.val (.ref ac), .val (.int (0 : Int32)), .val (.ref ab), .val (.int (0 : Int32)), .val (.int (5 : Int32)), .val (.int (0 : Int32)), .unset] [(.int (5 : Int32)), (.int (0 : Int32))] _
    refine XS.icmpNo X0.here hx rfl (hb hby d5_7) rfl (tlt (by decide : ((0 : Int32) < (5 : Int32)))).2.1 ?_
    show Sp p e below m s₁ 10 #[.val (.ref ac), .val (.int (0 : Int32)), .val (.ref ab), .val (.int (0 : Int32)), .val (.int (5 : Int32)), .val (.int (0 : Int32)), .unset] [] _
    refine XS.aloadN X0.here hx rfl (hb hby d5_10) rfl rfl ?_
    refine XS.iloadN X0.here hx rfl (hb hby d5_11) rfl ?_
    show Sp p e below m s₁ 12 #[.val (.ref ac), .val (.int (0 : Int32)), .val (.ref ab), .val (.int (0 : Int32)), .val (.int (5 : Int32)), .val (.int (0 : Int32)), .unset] [(.int (0 : Int32)), (.ref ac)] _
    refine X0.caload hx (j := (0 : Int32)) (v := (.int cc0)) (by rw [e0]; exact Ar35.1) (State.isArrayOf_alike hZ.alike Ar35.2.1) Ar35.2.2 hin35 hat35 (g := (mkF m 12 #[.val (.ref ac), .val (.int (0 : Int32)), .val (.ref ab), .val (.int (0 : Int32)), .val (.int (5 : Int32)), .val (.int (0 : Int32)), .unset] [(.int (0 : Int32)), (.ref ac)])) rfl rfl (hb hby d5_12) _ ?_
    show Sp p e below m s₁ 13 #[.val (.ref ac), .val (.int (0 : Int32)), .val (.ref ab), .val (.int (0 : Int32)), .val (.int (5 : Int32)), .val (.int (0 : Int32)), .unset] [(.int cc0)] _
    refine XS.istore X0.here hx rfl (hb hby d5_13) rfl (l' := #[.val (.ref ac), .val (.int (0 : Int32)), .val (.ref ab), .val (.int (0 : Int32)), .val (.int (5 : Int32)), .val (.int (0 : Int32)), .val (.int cc0)]) rfl ?_
    show Sp p e below m s₁ 15 #[.val (.ref ac), .val (.int (0 : Int32)), .val (.ref ab), .val (.int (0 : Int32)), .val (.int (5 : Int32)), .val (.int (0 : Int32)), .val (.int cc0)] [] _
    refine XS.iload X0.here hx rfl (hb hby d5_15) rfl ?_
    refine XS.sipush X0.here hx rfl (hb hby d5_17) ?_
    show Sp p e below m s₁ 20 #[.val (.ref ac), .val (.int (0 : Int32)), .val (.ref ab), .val (.int (0 : Int32)), .val (.int (5 : Int32)), .val (.int (0 : Int32)), .val (.int cc0)] [(.int (255 : Int32)), (.int cc0)] _
    refine XS.icmpYes X0.here hx rfl (pc0 := 20) (pc' := 26) rfl (hb hby d5_20) rfl (flt (own_le255 hp0 : ¬ ((255 : Int32) < cc0))).2.2.2 (by decide) (by decide) ?_
    show Sp p e below m s₁ 26 #[.val (.ref ac), .val (.int (0 : Int32)), .val (.ref ab), .val (.int (0 : Int32)), .val (.int (5 : Int32)), .val (.int (0 : Int32)), .val (.int cc0)] [] _
    refine XS.aloadN X0.here hx rfl (hb hby d5_26) rfl rfl ?_
    refine XS.iloadN X0.here hx rfl (hb hby d5_27) rfl ?_
    show Sp p e below m s₁ 28 #[.val (.ref ac), .val (.int (0 : Int32)), .val (.ref ab), .val (.int (0 : Int32)), .val (.int (5 : Int32)), .val (.int (0 : Int32)), .val (.int cc0)] [(.int (0 : Int32)), (.ref ab)] _
    refine XS.iload X0.here hx rfl (hb hby d5_28) rfl ?_
    refine XS.i2b X0.here hx rfl (hb hby d5_30) rfl ?_
    show Sp p e below m s₁ 31 #[.val (.ref ac), .val (.int (0 : Int32)), .val (.ref ab), .val (.int (0 : Int32)), .val (.int (5 : Int32)), .val (.int (0 : Int32)), .val (.int cc0)] [(.int (cc0.toInt8.toInt32)), (.int (0 : Int32)), (.ref ab)] _
    refine st37 _ ?_
    show Sp p e below m T37 32 #[.val (.ref ac), .val (.int (0 : Int32)), .val (.ref ab), .val (.int (0 : Int32)), .val (.int (5 : Int32)), .val (.int (0 : Int32)), .val (.int cc0)] [] _
    refine XS.iinc X37.here hx rfl (hb hby d5_32) rfl (l' := #[.val (.ref ac), .val (.int (1 : Int32)), .val (.ref ab), .val (.int (0 : Int32)), .val (.int (5 : Int32)), .val (.int (0 : Int32)), .val (.int cc0)]) rfl ?_
    show Sp p e below m T37 35 #[.val (.ref ac), .val (.int (1 : Int32)), .val (.ref ab), .val (.int (0 : Int32)), .val (.int (5 : Int32)), .val (.int (0 : Int32)), .val (.int cc0)] [] _
    refine XS.iinc X37.here hx rfl (hb hby d5_35) rfl (l' := #[.val (.ref ac), .val (.int (1 : Int32)), .val (.ref ab), .val (.int (1 : Int32)), .val (.int (5 : Int32)), .val (.int (0 : Int32)), .val (.int cc0)]) rfl ?_
    show Sp p e below m T37 38 #[.val (.ref ac), .val (.int (1 : Int32)), .val (.ref ab), .val (.int (1 : Int32)), .val (.int (5 : Int32)), .val (.int (0 : Int32)), .val (.int cc0)] [] _
    refine XS.iinc X37.here hx rfl (hb hby d5_38) rfl (l' := #[.val (.ref ac), .val (.int (1 : Int32)), .val (.ref ab), .val (.int (1 : Int32)), .val (.int (5 : Int32)), .val (.int (1 : Int32)), .val (.int cc0)]) rfl ?_
    show Sp p e below m T37 41 #[.val (.ref ac), .val (.int (1 : Int32)), .val (.ref ab), .val (.int (1 : Int32)), .val (.int (5 : Int32)), .val (.int (1 : Int32)), .val (.int cc0)] [] _
    refine XS.goto X37.here hx rfl (pc0 := 41) (pc' := 3) rfl (hb hby d5_41) (by decide) (by decide) ?_
    show Sp p e below m T37 3 #[.val (.ref ac), .val (.int (1 : Int32)), .val (.ref ab), .val (.int (1 : Int32)), .val (.int (5 : Int32)), .val (.int (1 : Int32)), .val (.int cc0)] [] _
    refine XS.iload X37.here hx rfl (hb hby d5_3) rfl ?_
    refine XS.iload X37.here hx rfl (hb hby d5_5) rfl ?_
    show Sp p e below m T37 7 #[.val (.ref ac), .val (.int (1 : Int32)), .val (.ref ab), .val (.int (1 : Int32)), .val (.int (5 : Int32)), .val (.int (1 : Int32)), .val (.int cc0)] [(.int (5 : Int32)), (.int (1 : Int32))] _
    refine XS.icmpNo X37.here hx rfl (hb hby d5_7) rfl (tlt (by decide : ((1 : Int32) < (5 : Int32)))).2.1 ?_
    show Sp p e below m T37 10 #[.val (.ref ac), .val (.int (1 : Int32)), .val (.ref ab), .val (.int (1 : Int32)), .val (.int (5 : Int32)), .val (.int (1 : Int32)), .val (.int cc0)] [] _
    refine XS.aloadN X37.here hx rfl (hb hby d5_10) rfl rfl ?_
    refine XS.iloadN X37.here hx rfl (hb hby d5_11) rfl ?_
    show Sp p e below m T37 12 #[.val (.ref ac), .val (.int (1 : Int32)), .val (.ref ab), .val (.int (1 : Int32)), .val (.int (5 : Int32)), .val (.int (1 : Int32)), .val (.int cc0)] [(.int (1 : Int32)), (.ref ac)] _
    refine X37.caload hx (j := (1 : Int32)) (v := (.int cc1)) (by rw [e37]; exact Ar39.1) (State.isArrayOf_alike hZ.alike Ar39.2.1) Ar39.2.2 hin39 hat39 (g := (mkF m 12 #[.val (.ref ac), .val (.int (1 : Int32)), .val (.ref ab), .val (.int (1 : Int32)), .val (.int (5 : Int32)), .val (.int (1 : Int32)), .val (.int cc0)] [(.int (1 : Int32)), (.ref ac)])) rfl rfl (hb hby d5_12) _ ?_
    show Sp p e below m T37 13 #[.val (.ref ac), .val (.int (1 : Int32)), .val (.ref ab), .val (.int (1 : Int32)), .val (.int (5 : Int32)), .val (.int (1 : Int32)), .val (.int cc0)] [(.int cc1)] _
    refine XS.istore X37.here hx rfl (hb hby d5_13) rfl (l' := #[.val (.ref ac), .val (.int (1 : Int32)), .val (.ref ab), .val (.int (1 : Int32)), .val (.int (5 : Int32)), .val (.int (1 : Int32)), .val (.int cc1)]) rfl ?_
    show Sp p e below m T37 15 #[.val (.ref ac), .val (.int (1 : Int32)), .val (.ref ab), .val (.int (1 : Int32)), .val (.int (5 : Int32)), .val (.int (1 : Int32)), .val (.int cc1)] [] _
    refine XS.iload X37.here hx rfl (hb hby d5_15) rfl ?_
    refine XS.sipush X37.here hx rfl (hb hby d5_17) ?_
    show Sp p e below m T37 20 #[.val (.ref ac), .val (.int (1 : Int32)), .val (.ref ab), .val (.int (1 : Int32)), .val (.int (5 : Int32)), .val (.int (1 : Int32)), .val (.int cc1)] [(.int (255 : Int32)), (.int cc1)] _
    refine XS.icmpYes X37.here hx rfl (pc0 := 20) (pc' := 26) rfl (hb hby d5_20) rfl (flt (own_le255 hp1 : ¬ ((255 : Int32) < cc1))).2.2.2 (by decide) (by decide) ?_
    show Sp p e below m T37 26 #[.val (.ref ac), .val (.int (1 : Int32)), .val (.ref ab), .val (.int (1 : Int32)), .val (.int (5 : Int32)), .val (.int (1 : Int32)), .val (.int cc1)] [] _
    refine XS.aloadN X37.here hx rfl (hb hby d5_26) rfl rfl ?_
    refine XS.iloadN X37.here hx rfl (hb hby d5_27) rfl ?_
    show Sp p e below m T37 28 #[.val (.ref ac), .val (.int (1 : Int32)), .val (.ref ab), .val (.int (1 : Int32)), .val (.int (5 : Int32)), .val (.int (1 : Int32)), .val (.int cc1)] [(.int (1 : Int32)), (.ref ab)] _
    refine XS.iload X37.here hx rfl (hb hby d5_28) rfl ?_
    refine XS.i2b X37.here hx rfl (hb hby d5_30) rfl ?_
    show Sp p e below m T37 31 #[.val (.ref ac), .val (.int (1 : Int32)), .val (.ref ab), .val (.int (1 : Int32)), .val (.int (5 : Int32)), .val (.int (1 : Int32)), .val (.int cc1)] [(.int (cc1.toInt8.toInt32)), (.int (1 : Int32)), (.ref ab)] _
    refine st41 _ ?_
    show Sp p e below m T41 32 #[.val (.ref ac), .val (.int (1 : Int32)), .val (.ref ab), .val (.int (1 : Int32)), .val (.int (5 : Int32)), .val (.int (1 : Int32)), .val (.int cc1)] [] _
    refine XS.iinc X41.here hx rfl (hb hby d5_32) rfl (l' := #[.val (.ref ac), .val (.int (2 : Int32)), .val (.ref ab), .val (.int (1 : Int32)), .val (.int (5 : Int32)), .val (.int (1 : Int32)), .val (.int cc1)]) rfl ?_
    show Sp p e below m T41 35 #[.val (.ref ac), .val (.int (2 : Int32)), .val (.ref ab), .val (.int (1 : Int32)), .val (.int (5 : Int32)), .val (.int (1 : Int32)), .val (.int cc1)] [] _
    refine XS.iinc X41.here hx rfl (hb hby d5_35) rfl (l' := #[.val (.ref ac), .val (.int (2 : Int32)), .val (.ref ab), .val (.int (2 : Int32)), .val (.int (5 : Int32)), .val (.int (1 : Int32)), .val (.int cc1)]) rfl ?_
    show Sp p e below m T41 38 #[.val (.ref ac), .val (.int (2 : Int32)), .val (.ref ab), .val (.int (2 : Int32)), .val (.int (5 : Int32)), .val (.int (1 : Int32)), .val (.int cc1)] [] _
    refine XS.iinc X41.here hx rfl (hb hby d5_38) rfl (l' := #[.val (.ref ac), .val (.int (2 : Int32)), .val (.ref ab), .val (.int (2 : Int32)), .val (.int (5 : Int32)), .val (.int (2 : Int32)), .val (.int cc1)]) rfl ?_
    show Sp p e below m T41 41 #[.val (.ref ac), .val (.int (2 : Int32)), .val (.ref ab), .val (.int (2 : Int32)), .val (.int (5 : Int32)), .val (.int (2 : Int32)), .val (.int cc1)] [] _
    refine XS.goto X41.here hx rfl (pc0 := 41) (pc' := 3) rfl (hb hby d5_41) (by decide) (by decide) ?_
    show Sp p e below m T41 3 #[.val (.ref ac), .val (.int (2 : Int32)), .val (.ref ab), .val (.int (2 : Int32)), .val (.int (5 : Int32)), .val (.int (2 : Int32)), .val (.int cc1)] [] _
    refine XS.iload X41.here hx rfl (hb hby d5_3) rfl ?_
    refine XS.iload X41.here hx rfl (hb hby d5_5) rfl ?_
    show Sp p e below m T41 7 #[.val (.ref ac), .val (.int (2 : Int32)), .val (.ref ab), .val (.int (2 : Int32)), .val (.int (5 : Int32)), .val (.int (2 : Int32)), .val (.int cc1)] [(.int (5 : Int32)), (.int (2 : Int32))] _
    refine XS.icmpNo X41.here hx rfl (hb hby d5_7) rfl (tlt (by decide : ((2 : Int32) < (5 : Int32)))).2.1 ?_
    show Sp p e below m T41 10 #[.val (.ref ac), .val (.int (2 : Int32)), .val (.ref ab), .val (.int (2 : Int32)), .val (.int (5 : Int32)), .val (.int (2 : Int32)), .val (.int cc1)] [] _
    refine XS.aloadN X41.here hx rfl (hb hby d5_10) rfl rfl ?_
    refine XS.iloadN X41.here hx rfl (hb hby d5_11) rfl ?_
    show Sp p e below m T41 12 #[.val (.ref ac), .val (.int (2 : Int32)), .val (.ref ab), .val (.int (2 : Int32)), .val (.int (5 : Int32)), .val (.int (2 : Int32)), .val (.int cc1)] [(.int (2 : Int32)), (.ref ac)] _
    refine X41.caload hx (j := (2 : Int32)) (v := (.int cc2)) (by rw [e41]; exact Ar43.1) (State.isArrayOf_alike hZ.alike Ar43.2.1) Ar43.2.2 hin43 hat43 (g := (mkF m 12 #[.val (.ref ac), .val (.int (2 : Int32)), .val (.ref ab), .val (.int (2 : Int32)), .val (.int (5 : Int32)), .val (.int (2 : Int32)), .val (.int cc1)] [(.int (2 : Int32)), (.ref ac)])) rfl rfl (hb hby d5_12) _ ?_
    show Sp p e below m T41 13 #[.val (.ref ac), .val (.int (2 : Int32)), .val (.ref ab), .val (.int (2 : Int32)), .val (.int (5 : Int32)), .val (.int (2 : Int32)), .val (.int cc1)] [(.int cc2)] _
    refine XS.istore X41.here hx rfl (hb hby d5_13) rfl (l' := #[.val (.ref ac), .val (.int (2 : Int32)), .val (.ref ab), .val (.int (2 : Int32)), .val (.int (5 : Int32)), .val (.int (2 : Int32)), .val (.int cc2)]) rfl ?_
    show Sp p e below m T41 15 #[.val (.ref ac), .val (.int (2 : Int32)), .val (.ref ab), .val (.int (2 : Int32)), .val (.int (5 : Int32)), .val (.int (2 : Int32)), .val (.int cc2)] [] _
    refine XS.iload X41.here hx rfl (hb hby d5_15) rfl ?_
    refine XS.sipush X41.here hx rfl (hb hby d5_17) ?_
    show Sp p e below m T41 20 #[.val (.ref ac), .val (.int (2 : Int32)), .val (.ref ab), .val (.int (2 : Int32)), .val (.int (5 : Int32)), .val (.int (2 : Int32)), .val (.int cc2)] [(.int (255 : Int32)), (.int cc2)] _
    refine XS.icmpYes X41.here hx rfl (pc0 := 20) (pc' := 26) rfl (hb hby d5_20) rfl (flt (own_le255 hp2 : ¬ ((255 : Int32) < cc2))).2.2.2 (by decide) (by decide) ?_
    show Sp p e below m T41 26 #[.val (.ref ac), .val (.int (2 : Int32)), .val (.ref ab), .val (.int (2 : Int32)), .val (.int (5 : Int32)), .val (.int (2 : Int32)), .val (.int cc2)] [] _
    refine XS.aloadN X41.here hx rfl (hb hby d5_26) rfl rfl ?_
    refine XS.iloadN X41.here hx rfl (hb hby d5_27) rfl ?_
    show Sp p e below m T41 28 #[.val (.ref ac), .val (.int (2 : Int32)), .val (.ref ab), .val (.int (2 : Int32)), .val (.int (5 : Int32)), .val (.int (2 : Int32)), .val (.int cc2)] [(.int (2 : Int32)), (.ref ab)] _
    refine XS.iload X41.here hx rfl (hb hby d5_28) rfl ?_
    refine XS.i2b X41.here hx rfl (hb hby d5_30) rfl ?_
    show Sp p e below m T41 31 #[.val (.ref ac), .val (.int (2 : Int32)), .val (.ref ab), .val (.int (2 : Int32)), .val (.int (5 : Int32)), .val (.int (2 : Int32)), .val (.int cc2)] [(.int (cc2.toInt8.toInt32)), (.int (2 : Int32)), (.ref ab)] _
    refine st45 _ ?_
    show Sp p e below m T45 32 #[.val (.ref ac), .val (.int (2 : Int32)), .val (.ref ab), .val (.int (2 : Int32)), .val (.int (5 : Int32)), .val (.int (2 : Int32)), .val (.int cc2)] [] _
    refine XS.iinc X45.here hx rfl (hb hby d5_32) rfl (l' := #[.val (.ref ac), .val (.int (3 : Int32)), .val (.ref ab), .val (.int (2 : Int32)), .val (.int (5 : Int32)), .val (.int (2 : Int32)), .val (.int cc2)]) rfl ?_
    show Sp p e below m T45 35 #[.val (.ref ac), .val (.int (3 : Int32)), .val (.ref ab), .val (.int (2 : Int32)), .val (.int (5 : Int32)), .val (.int (2 : Int32)), .val (.int cc2)] [] _
    refine XS.iinc X45.here hx rfl (hb hby d5_35) rfl (l' := #[.val (.ref ac), .val (.int (3 : Int32)), .val (.ref ab), .val (.int (3 : Int32)), .val (.int (5 : Int32)), .val (.int (2 : Int32)), .val (.int cc2)]) rfl ?_
    show Sp p e below m T45 38 #[.val (.ref ac), .val (.int (3 : Int32)), .val (.ref ab), .val (.int (3 : Int32)), .val (.int (5 : Int32)), .val (.int (2 : Int32)), .val (.int cc2)] [] _
    refine XS.iinc X45.here hx rfl (hb hby d5_38) rfl (l' := #[.val (.ref ac), .val (.int (3 : Int32)), .val (.ref ab), .val (.int (3 : Int32)), .val (.int (5 : Int32)), .val (.int (3 : Int32)), .val (.int cc2)]) rfl ?_
    show Sp p e below m T45 41 #[.val (.ref ac), .val (.int (3 : Int32)), .val (.ref ab), .val (.int (3 : Int32)), .val (.int (5 : Int32)), .val (.int (3 : Int32)), .val (.int cc2)] [] _
    refine XS.goto X45.here hx rfl (pc0 := 41) (pc' := 3) rfl (hb hby d5_41) (by decide) (by decide) ?_
    show Sp p e below m T45 3 #[.val (.ref ac), .val (.int (3 : Int32)), .val (.ref ab), .val (.int (3 : Int32)), .val (.int (5 : Int32)), .val (.int (3 : Int32)), .val (.int cc2)] [] _
    refine XS.iload X45.here hx rfl (hb hby d5_3) rfl ?_
    refine XS.iload X45.here hx rfl (hb hby d5_5) rfl ?_
    show Sp p e below m T45 7 #[.val (.ref ac), .val (.int (3 : Int32)), .val (.ref ab), .val (.int (3 : Int32)), .val (.int (5 : Int32)), .val (.int (3 : Int32)), .val (.int cc2)] [(.int (5 : Int32)), (.int (3 : Int32))] _
    refine XS.icmpNo X45.here hx rfl (hb hby d5_7) rfl (tlt (by decide : ((3 : Int32) < (5 : Int32)))).2.1 ?_
    show Sp p e below m T45 10 #[.val (.ref ac), .val (.int (3 : Int32)), .val (.ref ab), .val (.int (3 : Int32)), .val (.int (5 : Int32)), .val (.int (3 : Int32)), .val (.int cc2)] [] _
    refine XS.aloadN X45.here hx rfl (hb hby d5_10) rfl rfl ?_
    refine XS.iloadN X45.here hx rfl (hb hby d5_11) rfl ?_
    show Sp p e below m T45 12 #[.val (.ref ac), .val (.int (3 : Int32)), .val (.ref ab), .val (.int (3 : Int32)), .val (.int (5 : Int32)), .val (.int (3 : Int32)), .val (.int cc2)] [(.int (3 : Int32)), (.ref ac)] _
    refine X45.caload hx (j := (3 : Int32)) (v := (.int cc3)) (by rw [e45]; exact Ar47.1) (State.isArrayOf_alike hZ.alike Ar47.2.1) Ar47.2.2 hin47 hat47 (g := (mkF m 12 #[.val (.ref ac), .val (.int (3 : Int32)), .val (.ref ab), .val (.int (3 : Int32)), .val (.int (5 : Int32)), .val (.int (3 : Int32)), .val (.int cc2)] [(.int (3 : Int32)), (.ref ac)])) rfl rfl (hb hby d5_12) _ ?_
    show Sp p e below m T45 13 #[.val (.ref ac), .val (.int (3 : Int32)), .val (.ref ab), .val (.int (3 : Int32)), .val (.int (5 : Int32)), .val (.int (3 : Int32)), .val (.int cc2)] [(.int cc3)] _
    refine XS.istore X45.here hx rfl (hb hby d5_13) rfl (l' := #[.val (.ref ac), .val (.int (3 : Int32)), .val (.ref ab), .val (.int (3 : Int32)), .val (.int (5 : Int32)), .val (.int (3 : Int32)), .val (.int cc3)]) rfl ?_
    show Sp p e below m T45 15 #[.val (.ref ac), .val (.int (3 : Int32)), .val (.ref ab), .val (.int (3 : Int32)), .val (.int (5 : Int32)), .val (.int (3 : Int32)), .val (.int cc3)] [] _
    refine XS.iload X45.here hx rfl (hb hby d5_15) rfl ?_
    refine XS.sipush X45.here hx rfl (hb hby d5_17) ?_
    show Sp p e below m T45 20 #[.val (.ref ac), .val (.int (3 : Int32)), .val (.ref ab), .val (.int (3 : Int32)), .val (.int (5 : Int32)), .val (.int (3 : Int32)), .val (.int cc3)] [(.int (255 : Int32)), (.int cc3)] _
    refine XS.icmpYes X45.here hx rfl (pc0 := 20) (pc' := 26) rfl (hb hby d5_20) rfl (flt (own_le255 hp3 : ¬ ((255 : Int32) < cc3))).2.2.2 (by decide) (by decide) ?_
    show Sp p e below m T45 26 #[.val (.ref ac), .val (.int (3 : Int32)), .val (.ref ab), .val (.int (3 : Int32)), .val (.int (5 : Int32)), .val (.int (3 : Int32)), .val (.int cc3)] [] _
    refine XS.aloadN X45.here hx rfl (hb hby d5_26) rfl rfl ?_
    refine XS.iloadN X45.here hx rfl (hb hby d5_27) rfl ?_
    show Sp p e below m T45 28 #[.val (.ref ac), .val (.int (3 : Int32)), .val (.ref ab), .val (.int (3 : Int32)), .val (.int (5 : Int32)), .val (.int (3 : Int32)), .val (.int cc3)] [(.int (3 : Int32)), (.ref ab)] _
    refine XS.iload X45.here hx rfl (hb hby d5_28) rfl ?_
    refine XS.i2b X45.here hx rfl (hb hby d5_30) rfl ?_
    show Sp p e below m T45 31 #[.val (.ref ac), .val (.int (3 : Int32)), .val (.ref ab), .val (.int (3 : Int32)), .val (.int (5 : Int32)), .val (.int (3 : Int32)), .val (.int cc3)] [(.int (cc3.toInt8.toInt32)), (.int (3 : Int32)), (.ref ab)] _
    refine st49 _ ?_
    show Sp p e below m T49 32 #[.val (.ref ac), .val (.int (3 : Int32)), .val (.ref ab), .val (.int (3 : Int32)), .val (.int (5 : Int32)), .val (.int (3 : Int32)), .val (.int cc3)] [] _
    refine XS.iinc X49.here hx rfl (hb hby d5_32) rfl (l' := #[.val (.ref ac), .val (.int (4 : Int32)), .val (.ref ab), .val (.int (3 : Int32)), .val (.int (5 : Int32)), .val (.int (3 : Int32)), .val (.int cc3)]) rfl ?_
    show Sp p e below m T49 35 #[.val (.ref ac), .val (.int (4 : Int32)), .val (.ref ab), .val (.int (3 : Int32)), .val (.int (5 : Int32)), .val (.int (3 : Int32)), .val (.int cc3)] [] _
    refine XS.iinc X49.here hx rfl (hb hby d5_35) rfl (l' := #[.val (.ref ac), .val (.int (4 : Int32)), .val (.ref ab), .val (.int (4 : Int32)), .val (.int (5 : Int32)), .val (.int (3 : Int32)), .val (.int cc3)]) rfl ?_
    show Sp p e below m T49 38 #[.val (.ref ac), .val (.int (4 : Int32)), .val (.ref ab), .val (.int (4 : Int32)), .val (.int (5 : Int32)), .val (.int (3 : Int32)), .val (.int cc3)] [] _
    refine XS.iinc X49.here hx rfl (hb hby d5_38) rfl (l' := #[.val (.ref ac), .val (.int (4 : Int32)), .val (.ref ab), .val (.int (4 : Int32)), .val (.int (5 : Int32)), .val (.int (4 : Int32)), .val (.int cc3)]) rfl ?_
    show Sp p e below m T49 41 #[.val (.ref ac), .val (.int (4 : Int32)), .val (.ref ab), .val (.int (4 : Int32)), .val (.int (5 : Int32)), .val (.int (4 : Int32)), .val (.int cc3)] [] _
    refine XS.goto X49.here hx rfl (pc0 := 41) (pc' := 3) rfl (hb hby d5_41) (by decide) (by decide) ?_
    show Sp p e below m T49 3 #[.val (.ref ac), .val (.int (4 : Int32)), .val (.ref ab), .val (.int (4 : Int32)), .val (.int (5 : Int32)), .val (.int (4 : Int32)), .val (.int cc3)] [] _
    refine XS.iload X49.here hx rfl (hb hby d5_3) rfl ?_
    refine XS.iload X49.here hx rfl (hb hby d5_5) rfl ?_
    show Sp p e below m T49 7 #[.val (.ref ac), .val (.int (4 : Int32)), .val (.ref ab), .val (.int (4 : Int32)), .val (.int (5 : Int32)), .val (.int (4 : Int32)), .val (.int cc3)] [(.int (5 : Int32)), (.int (4 : Int32))] _
    refine XS.icmpNo X49.here hx rfl (hb hby d5_7) rfl (tlt (by decide : ((4 : Int32) < (5 : Int32)))).2.1 ?_
    show Sp p e below m T49 10 #[.val (.ref ac), .val (.int (4 : Int32)), .val (.ref ab), .val (.int (4 : Int32)), .val (.int (5 : Int32)), .val (.int (4 : Int32)), .val (.int cc3)] [] _
    refine XS.aloadN X49.here hx rfl (hb hby d5_10) rfl rfl ?_
    refine XS.iloadN X49.here hx rfl (hb hby d5_11) rfl ?_
    show Sp p e below m T49 12 #[.val (.ref ac), .val (.int (4 : Int32)), .val (.ref ab), .val (.int (4 : Int32)), .val (.int (5 : Int32)), .val (.int (4 : Int32)), .val (.int cc3)] [(.int (4 : Int32)), (.ref ac)] _
    refine X49.caload hx (j := (4 : Int32)) (v := (.int cc4)) (by rw [e49]; exact Ar51.1) (State.isArrayOf_alike hZ.alike Ar51.2.1) Ar51.2.2 hin51 hat51 (g := (mkF m 12 #[.val (.ref ac), .val (.int (4 : Int32)), .val (.ref ab), .val (.int (4 : Int32)), .val (.int (5 : Int32)), .val (.int (4 : Int32)), .val (.int cc3)] [(.int (4 : Int32)), (.ref ac)])) rfl rfl (hb hby d5_12) _ ?_
    show Sp p e below m T49 13 #[.val (.ref ac), .val (.int (4 : Int32)), .val (.ref ab), .val (.int (4 : Int32)), .val (.int (5 : Int32)), .val (.int (4 : Int32)), .val (.int cc3)] [(.int cc4)] _
    refine XS.istore X49.here hx rfl (hb hby d5_13) rfl (l' := #[.val (.ref ac), .val (.int (4 : Int32)), .val (.ref ab), .val (.int (4 : Int32)), .val (.int (5 : Int32)), .val (.int (4 : Int32)), .val (.int cc4)]) rfl ?_
    show Sp p e below m T49 15 #[.val (.ref ac), .val (.int (4 : Int32)), .val (.ref ab), .val (.int (4 : Int32)), .val (.int (5 : Int32)), .val (.int (4 : Int32)), .val (.int cc4)] [] _
    refine XS.iload X49.here hx rfl (hb hby d5_15) rfl ?_
    refine XS.sipush X49.here hx rfl (hb hby d5_17) ?_
    show Sp p e below m T49 20 #[.val (.ref ac), .val (.int (4 : Int32)), .val (.ref ab), .val (.int (4 : Int32)), .val (.int (5 : Int32)), .val (.int (4 : Int32)), .val (.int cc4)] [(.int (255 : Int32)), (.int cc4)] _
    refine XS.icmpYes X49.here hx rfl (pc0 := 20) (pc' := 26) rfl (hb hby d5_20) rfl (flt (own_le255 hp4 : ¬ ((255 : Int32) < cc4))).2.2.2 (by decide) (by decide) ?_
    show Sp p e below m T49 26 #[.val (.ref ac), .val (.int (4 : Int32)), .val (.ref ab), .val (.int (4 : Int32)), .val (.int (5 : Int32)), .val (.int (4 : Int32)), .val (.int cc4)] [] _
    refine XS.aloadN X49.here hx rfl (hb hby d5_26) rfl rfl ?_
    refine XS.iloadN X49.here hx rfl (hb hby d5_27) rfl ?_
    show Sp p e below m T49 28 #[.val (.ref ac), .val (.int (4 : Int32)), .val (.ref ab), .val (.int (4 : Int32)), .val (.int (5 : Int32)), .val (.int (4 : Int32)), .val (.int cc4)] [(.int (4 : Int32)), (.ref ab)] _
    refine XS.iload X49.here hx rfl (hb hby d5_28) rfl ?_
    refine XS.i2b X49.here hx rfl (hb hby d5_30) rfl ?_
    show Sp p e below m T49 31 #[.val (.ref ac), .val (.int (4 : Int32)), .val (.ref ab), .val (.int (4 : Int32)), .val (.int (5 : Int32)), .val (.int (4 : Int32)), .val (.int cc4)] [(.int (cc4.toInt8.toInt32)), (.int (4 : Int32)), (.ref ab)] _
    refine st53 _ ?_
    show Sp p e below m T53 32 #[.val (.ref ac), .val (.int (4 : Int32)), .val (.ref ab), .val (.int (4 : Int32)), .val (.int (5 : Int32)), .val (.int (4 : Int32)), .val (.int cc4)] [] _
    refine XS.iinc X53.here hx rfl (hb hby d5_32) rfl (l' := #[.val (.ref ac), .val (.int (5 : Int32)), .val (.ref ab), .val (.int (4 : Int32)), .val (.int (5 : Int32)), .val (.int (4 : Int32)), .val (.int cc4)]) rfl ?_
    show Sp p e below m T53 35 #[.val (.ref ac), .val (.int (5 : Int32)), .val (.ref ab), .val (.int (4 : Int32)), .val (.int (5 : Int32)), .val (.int (4 : Int32)), .val (.int cc4)] [] _
    refine XS.iinc X53.here hx rfl (hb hby d5_35) rfl (l' := #[.val (.ref ac), .val (.int (5 : Int32)), .val (.ref ab), .val (.int (5 : Int32)), .val (.int (5 : Int32)), .val (.int (4 : Int32)), .val (.int cc4)]) rfl ?_
    show Sp p e below m T53 38 #[.val (.ref ac), .val (.int (5 : Int32)), .val (.ref ab), .val (.int (5 : Int32)), .val (.int (5 : Int32)), .val (.int (4 : Int32)), .val (.int cc4)] [] _
    refine XS.iinc X53.here hx rfl (hb hby d5_38) rfl (l' := #[.val (.ref ac), .val (.int (5 : Int32)), .val (.ref ab), .val (.int (5 : Int32)), .val (.int (5 : Int32)), .val (.int (5 : Int32)), .val (.int cc4)]) rfl ?_
    show Sp p e below m T53 41 #[.val (.ref ac), .val (.int (5 : Int32)), .val (.ref ab), .val (.int (5 : Int32)), .val (.int (5 : Int32)), .val (.int (5 : Int32)), .val (.int cc4)] [] _
    refine XS.goto X53.here hx rfl (pc0 := 41) (pc' := 3) rfl (hb hby d5_41) (by decide) (by decide) ?_
    show Sp p e below m T53 3 #[.val (.ref ac), .val (.int (5 : Int32)), .val (.ref ab), .val (.int (5 : Int32)), .val (.int (5 : Int32)), .val (.int (5 : Int32)), .val (.int cc4)] [] _
    refine XS.iload X53.here hx rfl (hb hby d5_3) rfl ?_
    refine XS.iload X53.here hx rfl (hb hby d5_5) rfl ?_
    show Sp p e below m T53 7 #[.val (.ref ac), .val (.int (5 : Int32)), .val (.ref ab), .val (.int (5 : Int32)), .val (.int (5 : Int32)), .val (.int (5 : Int32)), .val (.int cc4)] [(.int (5 : Int32)), (.int (5 : Int32))] _
    refine XS.icmpYes X53.here hx rfl (pc0 := 7) (pc' := 44) rfl (hb hby d5_7) rfl (flt (by decide : ¬ ((5 : Int32) < (5 : Int32)))).2.1 (by decide) (by decide) ?_
    show Sp p e below m T53 44 #[.val (.ref ac), .val (.int (5 : Int32)), .val (.ref ab), .val (.int (5 : Int32)), .val (.int (5 : Int32)), .val (.int (5 : Int32)), .val (.int cc4)] [] _
    refine XS.iload X53.here hx rfl (hb hby d5_44) rfl ?_
    exact retI X53 hx Bd.returns (hb hby d5_46) hr
  · show Q5n5 Z ac ab kc cc0 cc1 cc2 cc3 cc4 kb h0 n0 _ T53.heap _
    rw [e53]
    exact ⟨rfl, N53, KK53, V53⟩
theorem d4_0 : decode jdk_52_method_16_code 0 = .ok (.iload_n 2, 1) := by decide +kernel
theorem d4_1 : decode jdk_52_method_16_code 1 = .ok (.newarray .byte, 2) := by decide +kernel
theorem d4_3 : decode jdk_52_method_16_code 3 = .ok (.astore_n 3, 1) := by decide +kernel
theorem d4_4 : decode jdk_52_method_16_code 4 = .ok (.aload_n 0, 1) := by decide +kernel
theorem d4_5 : decode jdk_52_method_16_code 5 = .ok (.iload_n 1, 1) := by decide +kernel
theorem d4_6 : decode jdk_52_method_16_code 6 = .ok (.aload_n 3, 1) := by decide +kernel
theorem d4_7 : decode jdk_52_method_16_code 7 = .ok (.iconst 0, 1) := by decide +kernel
theorem d4_8 : decode jdk_52_method_16_code 8 = .ok (.iload_n 2, 1) := by decide +kernel
theorem d4_9 : decode jdk_52_method_16_code 9 = .ok (.invokestatic 115, 3) := by decide +kernel
theorem own_pd56 : parseMethodDescriptor "([CI[BII)I" = some ⟨[(.array .char), .int, (.array .byte), .int, .int], some .int⟩ := by decide +kernel
theorem d4_12 : decode jdk_52_method_16_code 12 = .ok (.istore 4, 2) := by decide +kernel
theorem d4_14 : decode jdk_52_method_16_code 14 = .ok (.iload 4, 2) := by decide +kernel
theorem d4_16 : decode jdk_52_method_16_code 16 = .ok (.iload_n 2, 1) := by decide +kernel
theorem d4_17 : decode jdk_52_method_16_code 17 = .ok (.if_icmp .eq 40, 3) := by decide +kernel
theorem d4_57 : decode jdk_52_method_16_code 57 = .ok (.aload_n 3, 1) := by decide +kernel
theorem d4_58 : decode jdk_52_method_16_code 58 = .ok (.areturn, 1) := by decide +kernel
theorem ef_4n5 (m : MethodId) (x0 : Addr) : entryFrame m #[(.ref x0), (.int (0 : Int32)), (.int (5 : Int32))] 6 = mkF m 0 #[.val (.ref x0), .val (.int (0 : Int32)), .val (.int (5 : Int32)), .unset, .unset, .unset] [] := by first | (simp [entryFrame, mkF, argsToLocals, Value.category]; done) | rfl
def Q4n5 (Z : State) (ac : Addr) (kc : ClassId) (cc0 : Int32) (cc1 : Int32) (cc2 : Int32) (cc3 : Int32) (cc4 : Int32) (h0 : Heap) (n0 : Nat) (v : Option Value) (h : Heap) (L : List Loc) : Prop := ∃ (rb : Addr) (rk : ClassId), v = some (.ref rb) ∧ Fr n0 L ∧ Keep h0 h [] ∧ Arv Z h rb rk .byte (5 : Int32) [(.int (nar .byte (cc0.toInt8.toInt32))), (.int (nar .byte (cc1.toInt8.toInt32))), (.int (nar .byte (cc2.toInt8.toInt32))), (.int (nar .byte (cc3.toInt8.toInt32))), (.int (nar .byte (cc4.toInt8.toInt32)))] (.int (0 : Int32)) ∧ n0 ≤ rb ∧ h0.size ≤ rb
set_option maxRecDepth 65536 in
set_option maxHeartbeats 40000000 in
theorem rm4n5 (l : Launch) (Z : State) (a0 : Array Value) (hw : ∀ d ∈ tables_1, d.before a0 Z = true) (ws : List Jvm.Cond) (ac : Addr) (kc : ClassId) (cc0 : Int32) (cc1 : Int32) (cc2 : Int32) (cc3 : Int32) (cc4 : Int32) (h0 : Heap) (n0 : Nat) (Z0 : n0 ≤ h0.size) (Vc : Arv Z h0 ac kc .char (5 : Int32) [(.int cc0), (.int cc1), (.int cc2), (.int cc3), (.int cc4)] (.int (0 : Int32))) (hp0 : 0 ≤ cc0.toInt ∧ cc0.toInt ≤ 255) (hp1 : 0 ≤ cc1.toInt ∧ cc1.toInt ≤ 255) (hp2 : 0 ≤ cc2.toInt ∧ cc2.toInt ≤ 255) (hp3 : 0 ≤ cc3.toInt ∧ cc3.toInt ≤ 255) (hp4 : 0 ≤ cc4.toInt ∧ cc4.toInt ≤ 255) :
    MetFree l (⟨"java/lang/StringUTF16", "compress", "([CII)[B"⟩ : MethodName) (head1 (Jvm.Cond.code (⟨"java/lang/StringUTF16", "compress", "([CII)[B"⟩ : MethodName) jdk_52_method_16_code 6 (some (.array .byte)) :: ws) ({ frames := 1, cells := 1, slots := 5, locals := 18 } : Room)) (fun a U => a = #[(.ref ac), (.int (0 : Int32)), (.int (5 : Int32))] ∧ Z.Warmed39 U.vm ∧ U.heap = h0) (fun _ _ _ _ _ => True) (fun _ U o U' => ∃ v L, o = .returned v ∧ Q4n5 Z ac kc cc0 cc1 cc2 cc3 cc4 h0 n0 v U'.heap L ∧ FrameEnd U o U' L ({ frames := 1, cells := 1, slots := 5, locals := 18 } : Room).cells ({ frames := 1, cells := 1, slots := 5, locals := 18 } : Room).slots) := by
  refine MetFree.of_bodySF (plainFor_of_name own_pn46) hisR ?_
  intro p e s m args below meth c s₁ Bd hml0 hP hK
  have H := fun i c (h : tables_1[i]? = some c) => hw c (List.mem_of_getElem? h)
  obtain ⟨rfl, hZ, hh⟩ := hP
  have hx := Bd.exec
  have hby := Bd.bytes
  have hml : c.maxLocals = 6 := hml0
  have hown : s.vm.findClass "java/lang/StringUTF16" = some m.cls := findClass_of_methodNamed Bd.named
  have hnm := (name_of_methodNamed Bd.named Bd.method).1
  have X0 : Stand p l e ({ frames := 1, cells := 1, slots := 5, locals := 18 } : Room) s m #[(.ref ac), (.int (0 : Int32)), (.int (5 : Int32))] below meth c s₁ [] 0 0 := Stand.of_body Bd
  have e0 : s₁.heap = h0 := by rw [← hh, Bd.state]; rfl
  have N0 := Fr.nil n0
  have pre0 : ∀ t, Sp p e below m s₁ 0 #[.val (.ref ac), .val (.int (0 : Int32)), .val (.int (5 : Int32)), .unset, .unset, .unset] [] t → Steps p.tables e below (s₁.setTop (entryFrame m #[(.ref ac), (.int (0 : Int32)), (.int (5 : Int32))] 6)) t := fun t k => castTop (ef_4n5 m ac) k
  generalize s₁.setTop (entryFrame m #[(.ref ac), (.int (0 : Int32)), (.int (5 : Int32))] 6) = G0 at pre0 ⊢
  obtain ⟨T59, h59, k59, X59, e59, E59, A59, st59⟩ := newP X0 hx hZ (H 21 _ rfl) e0 (g := (mkF m 1 #[.val (.ref ac), .val (.int (0 : Int32)), .val (.int (5 : Int32)), .unset, .unset, .unset] [(.int (5 : Int32))])) rfl (hb hby d4_1) rfl (by decide) (cap := 5) (by decide) (by decide) (by decide) (by decide)
  obtain ⟨b59, g59⟩ : ∃ z, z = h0.size := ⟨_, rfl⟩
  rw [← g59] at A59 st59
  have g_b59 : n0 ≤ b59 := Nat.le_trans Z0 (Nat.le_of_eq g59.symm)
  have sz_b59 : h0.size ≤ b59 := Nat.le_of_eq g59.symm
  have lt_ac_b59 : ac < b59 := Nat.lt_of_lt_of_le Vc.lt (Nat.le_of_eq g59.symm)
  have ne_ac_b59 : ac ≠ b59 := Nat.ne_of_lt lt_ac_b59
  have Zs59 : n0 ≤ h59.size := Nat.le_trans Z0 E59.1
  have KK59 : Keep h0 h59 [] := (Keep.refl h0 _).ext E59
  have f60 := Vc.ext E59
  have V59 : Arv Z h59 b59 k59 .byte (5 : Int32) [(.int (0 : Int32)), (.int (0 : Int32)), (.int (0 : Int32)), (.int (0 : Int32)), (.int (0 : Int32))] (.int (0 : Int32)) := (Arv.new A59 (by decide)).pad (pad_rep [] (.int (0 : Int32)) 5)
  obtain ⟨_, _, ⟨T61, L61, k61, n61⟩, -, X61, ⟨Lc61, hQ61, l61, y61, z61⟩, st61⟩ := Jvm.LawKit.callS X59 hx (y := (⟨"java/lang/StringUTF16", "compress", "([CI[BII)I"⟩ : MethodName)) hown (mvT hZ (H 22 _ rfl)) (mvT hZ (H 23 _ rfl)) (mvT hZ (H 19 _ rfl)) (mvT hZ (H 24 _ rfl)) (by decide) (backOf (W := 0) (rm5n5 l Z a0 hw [] ac b59 kc cc0 cc1 cc2 cc3 cc4 k59 h59 n0 Zs59 f60 V59 g_b59 ne_ac_b59 hp0 hp1 hp2 hp3 hp4) hZ (H 24 _ rfl) (H 19 _ rfl) (by decide) (by decide)) (g := (mkF m 9 #[.val (.ref ac), .val (.int (0 : Int32)), .val (.int (5 : Int32)), .val (.ref b59), .unset, .unset] [(.int (5 : Int32)), (.int (0 : Int32)), (.ref b59), (.int (0 : Int32)), (.ref ac)])) rfl (by rw [hml]; rfl) (argsL := [(.ref ac), (.int (0 : Int32)), (.ref b59), (.int (0 : Int32)), (.int (5 : Int32))]) (rest := []) (lenOf own_pd56 rfl) rfl (Nat.le_of_eq rfl) (hb hby d4_9) (fun _ _ => ⟨rfl, e59, (by decide : 1 + 0 ≤ _), (by decide : 5 + 0 ≤ _)⟩)
  dsimp only [Pt.U, Pt.locs, Pt.cells, Pt.slots] at X61 l61 y61 z61 st61 hQ61
  rw [l61, y61, z61] at X61
  clear l61 y61 z61
  obtain ⟨rfl, Nq61, K61, p61_0⟩ := hQ61
  have N61 := Fr.app N0 Nq61
  have Zs61 : n0 ≤ T61.heap.size := Nat.le_trans Zs59 K61.1
  have KK61 : Keep h0 T61.heap [] := KK59.trans K61 (allS (Or.inr sz_b59) all0)
  have f62 := f60.keep K61 (ninS ne_ac_b59 nin0)
  obtain ⟨fs, hr, hrun, hended, hW, hsame⟩ := X61.leave (v := some (.ref b59)) (fun h => by rw [Bd.returns] at h; cases h)
  refine ⟨_, _, pre0 _ ?_, hrun, hended, _, _, rfl, ?_, ⟨_, rfl⟩, hW, hsame.mono (by decide) (by decide)⟩
  · show Sp p e below m s₁ 0 #[.val (.ref ac), .val (.int (0 : Int32)), .val (.int (5 : Int32)), .unset, .unset, .unset] [] _
    refine XS.iloadN X0.here hx rfl (hb hby d4_0) rfl ?_
    refine st59 _ ?_
    show Sp p e below m T59 3 #[.val (.ref ac), .val (.int (0 : Int32)), .val (.int (5 : Int32)), .unset, .unset, .unset] [(.ref b59)] _
    refine XS.astoreN X59.here hx rfl (hb hby d4_3) rfl rfl (l' := #[.val (.ref ac), .val (.int (0 : Int32)), .val (.int (5 : Int32)), .val (.ref b59), .unset, .unset]) rfl ?_
    show Sp p e below m T59 4 #[.val (.ref ac), .val (.int (0 : Int32)), .val (.int (5 : Int32)), .val (.ref b59), .unset, .unset] [] _
    refine XS.aloadN X59.here hx rfl (hb hby d4_4) rfl rfl ?_
    refine XS.iloadN X59.here hx rfl (hb hby d4_5) rfl ?_
    show Sp p e below m T59 6 #[.val (.ref ac), .val (.int (0 : Int32)), .val (.int (5 : Int32)), .val (.ref b59), .unset, .unset] [(.int (0 : Int32)), (.ref ac)] _
    refine XS.aloadN X59.here hx rfl (hb hby d4_6) rfl rfl ?_
    refine XS.iconst X59.here hx rfl (hb hby d4_7) ?_
    show Sp p e below m T59 8 #[.val (.ref ac), .val (.int (0 : Int32)), .val (.int (5 : Int32)), .val (.ref b59), .unset, .unset] [(.int (0 : Int32)), (.ref b59), (.int (0 : Int32)), (.ref ac)] _
    refine XS.iloadN X59.here hx rfl (hb hby d4_8) rfl ?_
    refine st61 _ ?_
    show Sp p e below m T61 12 #[.val (.ref ac), .val (.int (0 : Int32)), .val (.int (5 : Int32)), .val (.ref b59), .unset, .unset] [(.int (5 : Int32))] _
    refine XS.istore X61.here hx rfl (hb hby d4_12) rfl (l' := #[.val (.ref ac), .val (.int (0 : Int32)), .val (.int (5 : Int32)), .val (.ref b59), .val (.int (5 : Int32)), .unset]) rfl ?_
    show Sp p e below m T61 14 #[.val (.ref ac), .val (.int (0 : Int32)), .val (.int (5 : Int32)), .val (.ref b59), .val (.int (5 : Int32)), .unset] [] _
    refine XS.iload X61.here hx rfl (hb hby d4_14) rfl ?_
    refine XS.iloadN X61.here hx rfl (hb hby d4_16) rfl ?_
    show Sp p e below m T61 17 #[.val (.ref ac), .val (.int (0 : Int32)), .val (.int (5 : Int32)), .val (.ref b59), .val (.int (5 : Int32)), .unset] [(.int (5 : Int32)), (.int (5 : Int32))] _
    refine XS.icmpYes X61.here hx rfl (pc0 := 17) (pc' := 57) rfl (hb hby d4_17) rfl (teq (by decide : ((5 : Int32) = (5 : Int32)))).1 (by decide) (by decide) ?_
    show Sp p e below m T61 57 #[.val (.ref ac), .val (.int (0 : Int32)), .val (.int (5 : Int32)), .val (.ref b59), .val (.int (5 : Int32)), .unset] [] _
    refine XS.aloadN X61.here hx rfl (hb hby d4_57) rfl rfl ?_
    jvm_step X61.here [X61.here.top, hx, (hb hby d4_58), X61.method', Bd.returns, Value.isRef, FieldType.isReference]
    first | (intro acts; rw [hr _ acts rfl rfl rfl]) | rw [hr _ _ rfl rfl rfl]
    exact Steps.refl _
  · show Q4n5 Z ac kc cc0 cc1 cc2 cc3 cc4 h0 n0 _ T61.heap _
    exact ⟨b59, k59, rfl, N61, KK61, p61_0, g_b59, sz_b59⟩
theorem d6_0 : decode jdk_52_method_15_code 0 = .ok (.iload_n 1, 1) := by decide +kernel
theorem d6_1 : decode jdk_52_method_15_code 1 = .ok (.aload_n 0, 1) := by decide +kernel
theorem d6_2 : decode jdk_52_method_15_code 2 = .ok (.arraylength, 1) := by decide +kernel
theorem d6_3 : decode jdk_52_method_15_code 3 = .ok (.isub, 1) := by decide +kernel
theorem d6_4 : decode jdk_52_method_15_code 4 = .ok (.bipush 31, 2) := by decide +kernel
theorem d6_6 : decode jdk_52_method_15_code 6 = .ok (.iushr, 1) := by decide +kernel
theorem d6_7 : decode jdk_52_method_15_code 7 = .ok (.i2b, 1) := by decide +kernel
theorem d6_8 : decode jdk_52_method_15_code 8 = .ok (.ireturn, 1) := by decide +kernel
theorem ef_6n5 (m : MethodId) (x0 : Addr) : entryFrame m #[(.ref x0), (.int (5 : Int32))] 2 = mkF m 0 #[.val (.ref x0), .val (.int (5 : Int32))] [] := by first | (simp [entryFrame, mkF, argsToLocals, Value.category]; done) | rfl
def Q6n5 (Z : State) (ab : Addr) (kb : ClassId) (vs : List Value) (h0 : Heap) (n0 : Nat) (v : Option Value) (h : Heap) (L : List Loc) : Prop := v = some (.int (0 : Int32)) ∧ Fr n0 L ∧ h = h0
set_option maxRecDepth 65536 in
set_option maxHeartbeats 40000000 in
theorem rm6n5 (l : Launch) (Z : State) (a0 : Array Value) (hw : ∀ d ∈ tables_1, d.before a0 Z = true) (ws : List Jvm.Cond) (ab : Addr) (kb : ClassId) (vs : List Value) (h0 : Heap) (n0 : Nat) (Z0 : n0 ≤ h0.size) (Vb : Arv Z h0 ab kb .byte (5 : Int32) vs (.int (0 : Int32))) :
    MetFree l (⟨"java/lang/StringUTF16", "coderFromArrayLen", "([BI)B"⟩ : MethodName) (head1 (Jvm.Cond.code (⟨"java/lang/StringUTF16", "coderFromArrayLen", "([BI)B"⟩ : MethodName) jdk_52_method_15_code 2 (some .byte) :: ws) ({ frames := 0, cells := 0, slots := 0, locals := 0 } : Room)) (fun a U => a = #[(.ref ab), (.int (5 : Int32))] ∧ Z.Warmed39 U.vm ∧ U.heap = h0) (fun _ _ _ _ _ => True) (fun _ U o U' => ∃ v L, o = .returned v ∧ Q6n5 Z ab kb vs h0 n0 v U'.heap L ∧ FrameEnd U o U' L ({ frames := 0, cells := 0, slots := 0, locals := 0 } : Room).cells ({ frames := 0, cells := 0, slots := 0, locals := 0 } : Room).slots) := by
  refine MetFree.of_bodySF (plainFor_of_name own_pn46) hisR ?_
  intro p e s m args below meth c s₁ Bd hml0 hP hK
  have H := fun i c (h : tables_1[i]? = some c) => hw c (List.mem_of_getElem? h)
  obtain ⟨rfl, hZ, hh⟩ := hP
  have hx := Bd.exec
  have hby := Bd.bytes
  have hml : c.maxLocals = 2 := hml0
  have hown : s.vm.findClass "java/lang/StringUTF16" = some m.cls := findClass_of_methodNamed Bd.named
  have hnm := (name_of_methodNamed Bd.named Bd.method).1
  have X0 : Stand p l e ({ frames := 0, cells := 0, slots := 0, locals := 0 } : Room) s m #[(.ref ab), (.int (5 : Int32))] below meth c s₁ [] 0 0 := Stand.of_body Bd
  have e0 : s₁.heap = h0 := by rw [← hh, Bd.state]; rfl
  have N0 := Fr.nil n0
  have pre0 : ∀ t, Sp p e below m s₁ 0 #[.val (.ref ab), .val (.int (5 : Int32))] [] t → Steps p.tables e below (s₁.setTop (entryFrame m #[(.ref ab), (.int (5 : Int32))] 2)) t := fun t k => castTop (ef_6n5 m ab) k
  generalize s₁.setTop (entryFrame m #[(.ref ab), (.int (5 : Int32))] 2) = G0 at pre0 ⊢
  obtain ⟨cl64, Ar64, -, S64, M64, -, -⟩ := id Vb
  obtain ⟨fs, hr, hrun, hended, hW, hsame⟩ := X0.leave (v := some (.int (nar .byte (0 : Int32)))) (fun h => by rw [Bd.returns] at h; cases h)
  refine ⟨_, _, pre0 _ ?_, hrun, hended, _, _, rfl, ?_, ⟨_, rfl⟩, hW, hsame.mono (by decide) (by decide)⟩
  · show Sp p e below m s₁ 0 #[.val (.ref ab), .val (.int (5 : Int32))] [] _
    refine XS.iloadN X0.here hx rfl (hb hby d6_0) rfl ?_
    refine XS.aloadN X0.here hx rfl (hb hby d6_1) rfl rfl ?_
    show Sp p e below m s₁ 2 #[.val (.ref ab), .val (.int (5 : Int32))] [(.ref ab), (.int (5 : Int32))] _
    refine X0.arraylength hx (by rw [e0]; exact Ar64.1) (State.isArrayOf_alike hZ.alike Ar64.2.1) (g := (mkF m 2 #[.val (.ref ab), .val (.int (5 : Int32))] [(.ref ab), (.int (5 : Int32))])) rfl rfl (hb hby d6_2) _ ?_
    rw [len_of S64 M64]
    show Sp p e below m s₁ 3 #[.val (.ref ab), .val (.int (5 : Int32))] [(.int (5 : Int32)), (.int (5 : Int32))] _
    refine XS.isub X0.here hx rfl (hb hby d6_3) rfl ?_
    show Sp p e below m s₁ 4 #[.val (.ref ab), .val (.int (5 : Int32))] [(.int (0 : Int32))] _
    refine XS.bipush X0.here hx rfl (hb hby d6_4) ?_
    refine XS.iushr X0.here hx rfl (hb hby d6_6) rfl ?_
    show Sp p e below m s₁ 7 #[.val (.ref ab), .val (.int (5 : Int32))] [(.int (0 : Int32))] _
    refine XS.i2b X0.here hx rfl (hb hby d6_7) rfl ?_
    show Sp p e below m s₁ 8 #[.val (.ref ab), .val (.int (5 : Int32))] [(.int (0 : Int32))] _
    exact retN X0 hx (t := .byte) Bd.returns (by simp) (hb hby d6_8) hr
  · show Q6n5 Z ab kb vs h0 n0 _ s₁.heap _
    rw [e0]
    exact ⟨rfl, N0, rfl⟩
theorem d2_0 : decode jdk_42_method_149_code 0 = .ok (.aload_n 0, 1) := by decide +kernel
theorem d2_1 : decode jdk_42_method_149_code 1 = .ok (.invokespecial 1, 3) := by decide +kernel
theorem d2_4 : decode jdk_42_method_149_code 4 = .ok (.iload_n 3, 1) := by decide +kernel
theorem d2_5 : decode jdk_42_method_149_code 5 = .ok (.ifCond .ne 22, 3) := by decide +kernel
theorem d2_27 : decode jdk_42_method_149_code 27 = .ok (.getstatic 38, 3) := by decide +kernel
theorem d2_30 : decode jdk_42_method_149_code 30 = .ok (.ifCond .eq 28, 3) := by decide +kernel
theorem d2_33 : decode jdk_42_method_149_code 33 = .ok (.aload_n 1, 1) := by decide +kernel
theorem d2_34 : decode jdk_42_method_149_code 34 = .ok (.iload_n 2, 1) := by decide +kernel
theorem d2_35 : decode jdk_42_method_149_code 35 = .ok (.iload_n 3, 1) := by decide +kernel
theorem d2_36 : decode jdk_42_method_149_code 36 = .ok (.invokestatic 177, 3) := by decide +kernel
theorem own_pd81 : parseMethodDescriptor "([CII)[B" = some ⟨[(.array .char), .int, .int], some (.array .byte)⟩ := by decide +kernel
theorem d2_39 : decode jdk_42_method_149_code 39 = .ok (.astore 5, 2) := by decide +kernel
theorem d2_41 : decode jdk_42_method_149_code 41 = .ok (.aload_n 0, 1) := by decide +kernel
theorem d2_42 : decode jdk_42_method_149_code 42 = .ok (.aload 5, 2) := by decide +kernel
theorem d2_44 : decode jdk_42_method_149_code 44 = .ok (.iload_n 3, 1) := by decide +kernel
theorem d2_45 : decode jdk_42_method_149_code 45 = .ok (.invokestatic 47, 3) := by decide +kernel
theorem own_pd87 : parseMethodDescriptor "([BI)B" = some ⟨[(.array .byte), .int], some .byte⟩ := by decide +kernel
theorem d2_48 : decode jdk_42_method_149_code 48 = .ok (.putfield 15, 3) := by decide +kernel
theorem d2_51 : decode jdk_42_method_149_code 51 = .ok (.aload_n 0, 1) := by decide +kernel
theorem d2_52 : decode jdk_42_method_149_code 52 = .ok (.aload 5, 2) := by decide +kernel
theorem d2_54 : decode jdk_42_method_149_code 54 = .ok (.putfield 9, 3) := by decide +kernel
theorem d2_57 : decode jdk_42_method_149_code 57 = .ok (.return_, 1) := by decide +kernel
theorem ef_2n5 (m : MethodId) (x0 : Addr) (x1 : Addr) : entryFrame m #[(.ref x0), (.ref x1), (.int (0 : Int32)), (.int (5 : Int32)), .null] 6 = mkF m 0 #[.val (.ref x0), .val (.ref x1), .val (.int (0 : Int32)), .val (.int (5 : Int32)), .val .null, .unset] [] := by first | (simp [entryFrame, mkF, argsToLocals, Value.category]; done) | rfl
def Q2n5 (Z : State) (aa : Addr) (ac : Addr) (cs : Int32) (vf : Value) (kc : ClassId) (cc0 : Int32) (cc1 : Int32) (cc2 : Int32) (cc3 : Int32) (cc4 : Int32) (h0 : Heap) (n0 : Nat) (v : Option Value) (h : Heap) (L : List Loc) : Prop := ∃ (rb : Addr) (rk : ClassId), v = none ∧ Fr n0 L ∧ Keep h0 h [aa] ∧ Exa Z h aa "java/lang/String" ∧ Fld Z h aa "java/lang/String" "value" "[B" (.ref rb) ∧ Fld Z h aa "java/lang/String" "coder" "B" (.int (0 : Int32)) ∧ Arv Z h rb rk .byte (5 : Int32) [(.int (nar .byte (cc0.toInt8.toInt32))), (.int (nar .byte (cc1.toInt8.toInt32))), (.int (nar .byte (cc2.toInt8.toInt32))), (.int (nar .byte (cc3.toInt8.toInt32))), (.int (nar .byte (cc4.toInt8.toInt32)))] (.int (0 : Int32)) ∧ n0 ≤ rb ∧ h0.size ≤ rb
set_option maxRecDepth 65536 in
set_option maxHeartbeats 40000000 in
theorem rm2n5 (l : Launch) (Z : State) (a0 : Array Value) (hw : ∀ d ∈ tables_1, d.before a0 Z = true) (ws : List Jvm.Cond) (aa : Addr) (ac : Addr) (cs : Int32) (vf : Value) (kc : ClassId) (cc0 : Int32) (cc1 : Int32) (cc2 : Int32) (cc3 : Int32) (cc4 : Int32) (h0 : Heap) (n0 : Nat) (Z0 : n0 ≤ h0.size) (O0 : Old Z n0 h0) (Scs : Sta Z Z.heap "java/lang/String" "COMPACT_STRINGS" "Z" (.int cs)) (hcs : ¬ cs = (0 : Int32)) (Ssf : Sta Z Z.heap "jdk/internal/util/Preconditions" "SIOOBE_FORMATTER" "Ljava/util/function/BiFunction;" vf) (hvf : vf.isRef = true) (Ea : Exa Z h0 aa "java/lang/String") (Fv : Fld Z h0 aa "java/lang/String" "value" "[B" .null) (Fc : Fld Z h0 aa "java/lang/String" "coder" "B" (.int (0 : Int32))) (g_aa : n0 ≤ aa) (Vc : Arv Z h0 ac kc .char (5 : Int32) [(.int cc0), (.int cc1), (.int cc2), (.int cc3), (.int cc4)] (.int (0 : Int32))) (nac : aa ≠ ac) (hp0 : 0 ≤ cc0.toInt ∧ cc0.toInt ≤ 255) (hp1 : 0 ≤ cc1.toInt ∧ cc1.toInt ≤ 255) (hp2 : 0 ≤ cc2.toInt ∧ cc2.toInt ≤ 255) (hp3 : 0 ≤ cc3.toInt ∧ cc3.toInt ≤ 255) (hp4 : 0 ≤ cc4.toInt ∧ cc4.toInt ≤ 255) :
    MetFree l (⟨"java/lang/String", "<init>", "([CIILjava/lang/Void;)V"⟩ : MethodName) (head1 (Jvm.Cond.code (⟨"java/lang/String", "<init>", "([CIILjava/lang/Void;)V"⟩ : MethodName) jdk_42_method_149_code 6 none :: ws) ({ frames := 2, cells := 1, slots := 5, locals := 35 } : Room)) (fun a U => a = #[(.ref aa), (.ref ac), (.int (0 : Int32)), (.int (5 : Int32)), .null] ∧ Z.Warmed39 U.vm ∧ U.heap = h0) (fun _ _ _ _ _ => True) (fun _ U o U' => ∃ v L, o = .returned v ∧ Q2n5 Z aa ac cs vf kc cc0 cc1 cc2 cc3 cc4 h0 n0 v U'.heap L ∧ FrameEnd U o U' L ({ frames := 2, cells := 1, slots := 5, locals := 35 } : Room).cells ({ frames := 2, cells := 1, slots := 5, locals := 35 } : Room).slots) := by
  refine MetFree.of_bodySF (plainFor_of_name own_pn8) hisR ?_
  intro p e s m args below meth c s₁ Bd hml0 hP hK
  have H := fun i c (h : tables_1[i]? = some c) => hw c (List.mem_of_getElem? h)
  obtain ⟨rfl, hZ, hh⟩ := hP
  have hx := Bd.exec
  have hby := Bd.bytes
  have hml : c.maxLocals = 6 := hml0
  have hown : s.vm.findClass "java/lang/String" = some m.cls := findClass_of_methodNamed Bd.named
  have hnm := (name_of_methodNamed Bd.named Bd.method).1
  have X0 : Stand p l e ({ frames := 2, cells := 1, slots := 5, locals := 35 } : Room) s m #[(.ref aa), (.ref ac), (.int (0 : Int32)), (.int (5 : Int32)), .null] below meth c s₁ [] 0 0 := Stand.of_body Bd
  have e0 : s₁.heap = h0 := by rw [← hh, Bd.state]; rfl
  have N0 := Fr.nil n0
  have pre0 : ∀ t, Sp p e below m s₁ 0 #[.val (.ref aa), .val (.ref ac), .val (.int (0 : Int32)), .val (.int (5 : Int32)), .val .null, .unset] [] t → Steps p.tables e below (s₁.setTop (entryFrame m #[(.ref aa), (.ref ac), (.int (0 : Int32)), (.int (5 : Int32)), .null] 6)) t := fun t k => castTop (ef_2n5 m aa ac) k
  generalize s₁.setTop (entryFrame m #[(.ref aa), (.ref ac), (.int (0 : Int32)), (.int (5 : Int32)), .null] 6) = G0 at pre0 ⊢
  obtain ⟨T91, X91, e91, st91⟩ := initO X0 hx hZ hown (H 13 _ rfl) (H 14 _ rfl) (H 15 _ rfl) e0 (g := (mkF m 1 #[.val (.ref aa), .val (.ref ac), .val (.int (0 : Int32)), .val (.int (5 : Int32)), .val .null, .unset] [(.ref aa)])) rfl (by rw [hml]; rfl) rfl (hb hby d2_1) (by decide) (W := 0) (Nat.le_of_eq rfl) (by decide)
  obtain ⟨T92, X92, e92, st92⟩ := getS2 X91 hx hZ hown (host := "") (Or.inl (H 16 _ rfl)) Via.refl e91 (Scs.ext O0.2) (g := (mkF m 27 #[.val (.ref aa), .val (.ref ac), .val (.int (0 : Int32)), .val (.int (5 : Int32)), .val .null, .unset] [])) rfl (hb hby d2_27)
  obtain ⟨_, _, ⟨T93, L93, k93, n93⟩, -, X93, ⟨Lc93, hQ93, l93, y93, z93⟩, st93⟩ := Jvm.LawKit.callS X92 hx (y := (⟨"java/lang/StringUTF16", "compress", "([CII)[B"⟩ : MethodName)) hown (mvT hZ (H 17 _ rfl)) (mvT hZ (H 18 _ rfl)) (mvT hZ (H 19 _ rfl)) (mvT hZ (H 20 _ rfl)) (by decide) (backOf (W := 0) (rm4n5 l Z a0 hw [] ac kc cc0 cc1 cc2 cc3 cc4 h0 n0 Z0 Vc hp0 hp1 hp2 hp3 hp4) hZ (H 20 _ rfl) (H 19 _ rfl) (by decide) (by decide)) (g := (mkF m 36 #[.val (.ref aa), .val (.ref ac), .val (.int (0 : Int32)), .val (.int (5 : Int32)), .val .null, .unset] [(.int (5 : Int32)), (.int (0 : Int32)), (.ref ac)])) rfl (by rw [hml]; rfl) (argsL := [(.ref ac), (.int (0 : Int32)), (.int (5 : Int32))]) (rest := []) (lenOf own_pd81 rfl) rfl (Nat.le_of_eq rfl) (hb hby d2_36) (fun _ _ => ⟨rfl, e92, (by decide : 0 + 1 ≤ _), (by decide : 0 + 5 ≤ _)⟩)
  dsimp only [Pt.U, Pt.locs, Pt.cells, Pt.slots] at X93 l93 y93 z93 st93 hQ93
  rw [l93, y93, z93] at X93
  clear l93 y93 z93
  obtain ⟨rrb_93, rrk_93, rfl, Nq93, K93, p93_0, p93_1, p93_2⟩ := hQ93
  have N93 := Fr.app N0 Nq93
  have Zs93 : n0 ≤ T93.heap.size := Nat.le_trans Z0 K93.1
  have KK93 : Keep h0 T93.heap [aa] := (Keep.refl h0 _).trans K93 all0
  have ne_aa_rrb_93 : aa ≠ rrb_93 := Nat.ne_of_lt (Nat.lt_of_lt_of_le Ea.lt p93_2)
  have ne_ac_rrb_93 : ac ≠ rrb_93 := Nat.ne_of_lt (Nat.lt_of_lt_of_le Vc.lt p93_2)
  have sz_rrb_93 : h0.size ≤ rrb_93 := p93_2
  have O93 := O0.keep K93 (all0)
  have f94 := Scs.ext O93.2
  have f95 := Ssf.ext O93.2
  have f96 := Ea.keep K93
  have f97 := Fv.keep K93 nin0
  have f98 := Fc.keep K93 nin0
  have f99 := Vc.keep K93 nin0
  have g_rrb_93 := p93_1
  obtain ⟨_, _, ⟨T100, L100, k100, n100⟩, -, X100, ⟨Lc100, hQ100, l100, y100, z100⟩, st100⟩ := Jvm.LawKit.callS X93 hx (y := (⟨"java/lang/StringUTF16", "coderFromArrayLen", "([BI)B"⟩ : MethodName)) hown (mvT hZ (H 25 _ rfl)) (mvT hZ (H 26 _ rfl)) (mvT hZ (H 19 _ rfl)) (mvT hZ (H 27 _ rfl)) (by decide) (backOf (W := 1) (rm6n5 l Z a0 hw [] rrb_93 rrk_93 [(.int (nar .byte (cc0.toInt8.toInt32))), (.int (nar .byte (cc1.toInt8.toInt32))), (.int (nar .byte (cc2.toInt8.toInt32))), (.int (nar .byte (cc3.toInt8.toInt32))), (.int (nar .byte (cc4.toInt8.toInt32)))] T93.heap n0 Zs93 p93_0) hZ (H 27 _ rfl) (H 19 _ rfl) (by decide) (by decide)) (g := (mkF m 45 #[.val (.ref aa), .val (.ref ac), .val (.int (0 : Int32)), .val (.int (5 : Int32)), .val .null, .val (.ref rrb_93)] [(.int (5 : Int32)), (.ref rrb_93), (.ref aa)])) rfl (by rw [hml]; rfl) (argsL := [(.ref rrb_93), (.int (5 : Int32))]) (rest := [(.ref aa)]) (lenOf own_pd87 rfl) rfl (Nat.le_of_eq rfl) (hb hby d2_45) (fun _ _ => ⟨rfl, rfl, (by decide : 1 + 0 ≤ _), (by decide : 5 + 0 ≤ _)⟩)
  dsimp only [Pt.U, Pt.locs, Pt.cells, Pt.slots] at X100 l100 y100 z100 st100 hQ100
  rw [l100, y100, z100] at X100
  clear l100 y100 z100
  obtain ⟨rfl, Nq100, e100⟩ := hQ100
  have N100 := Fr.app N93 Nq100
  obtain ⟨T101, h101, X101, e101, W101, st101⟩ := putFN X100 hx hZ hown (H 28 _ rfl) Via.refl e100 f98 f96 (Or.inr ⟨(H 29 _ rfl), rfl, hnm⟩) (H 4 _ rfl) (ty := .byte) (v' := (.int (0 : Int32))) (by decide) rfl (fits_nar_byte (0 : Int32)) (g := (mkF m 48 #[.val (.ref aa), .val (.ref ac), .val (.int (0 : Int32)), .val (.int (5 : Int32)), .val .null, .val (.ref rrb_93)] [(.int (0 : Int32)), (.ref aa)])) rfl rfl (hb hby d2_48)
  have N101 := Fr.snoc X101 N100 g_aa
  have Zs101 : n0 ≤ h101.size := Nat.le_trans Zs93 (Keep.of_wr W101).1
  have KK101 : Keep h0 h101 [aa] := KK93.wr W101 (Or.inl (List.mem_of_getElem? (i := 0) rfl))
  have O101 := O93.wr W101 g_aa
  have f102 := f94.wr W101
  have f103 := f95.wr W101
  have f104 := f96.wr W101
  have f105 := f97.other W101 (Or.inr (slot_ne (Or.inr (H 31 _ rfl)) (Or.inr (H 29 _ rfl)) (by decide) (t := (.array .byte)) (t' := .byte) (by decide) (by decide)))
  have f106 := f98.same W101
  have f107 := f99.other W101 (Ne.symm nac)
  have f108 := p93_0.other W101 (Ne.symm ne_aa_rrb_93)
  obtain ⟨T109, h109, X109, e109, W109, st109⟩ := putF X101 hx hZ hown (host := "") (Or.inl (H 30 _ rfl)) Via.refl e101 f105 f104 (Or.inr ⟨(H 31 _ rfl), rfl, hnm⟩) (H 4 _ rfl) (ty := (.array .byte)) (by decide) rfl rfl (g := (mkF m 54 #[.val (.ref aa), .val (.ref ac), .val (.int (0 : Int32)), .val (.int (5 : Int32)), .val .null, .val (.ref rrb_93)] [(.ref rrb_93), (.ref aa)])) rfl rfl (hb hby d2_54)
  have N109 := Fr.snoc X109 N101 g_aa
  have Zs109 : n0 ≤ h109.size := Nat.le_trans Zs101 (Keep.of_wr W109).1
  have KK109 : Keep h0 h109 [aa] := KK101.wr W109 (Or.inl (List.mem_of_getElem? (i := 0) rfl))
  have O109 := O101.wr W109 g_aa
  have f110 := f102.wr W109
  have f111 := f103.wr W109
  have f112 := f104.wr W109
  have f113 := f105.same W109
  have f114 := f106.other W109 (Or.inr (slot_ne (Or.inr (H 29 _ rfl)) (Or.inr (H 31 _ rfl)) (by decide) (t := .byte) (t' := (.array .byte)) (by decide) (by decide)))
  have f115 := f107.other W109 (Ne.symm nac)
  have f116 := f108.other W109 (Ne.symm ne_aa_rrb_93)
  obtain ⟨fs, hr, hrun, hended, hW, hsame⟩ := X109.leave (v := none) (fun _ => rfl)
  refine ⟨_, _, pre0 _ ?_, hrun, hended, _, _, rfl, ?_, ⟨_, rfl⟩, hW, hsame.mono (by decide) (by decide)⟩
  · show Sp p e below m s₁ 0 #[.val (.ref aa), .val (.ref ac), .val (.int (0 : Int32)), .val (.int (5 : Int32)), .val .null, .unset] [] _
    refine XS.aloadN X0.here hx rfl (hb hby d2_0) rfl rfl ?_
    refine st91 _ ?_
    show Sp p e below m T91 4 #[.val (.ref aa), .val (.ref ac), .val (.int (0 : Int32)), .val (.int (5 : Int32)), .val .null, .unset] [] _
    refine XS.iloadN X91.here hx rfl (hb hby d2_4) rfl ?_
    refine XS.ifYes X91.here hx rfl (pc0 := 5) (pc' := 27) rfl (hb hby d2_5) rfl ((if0 _ _).trans (feq (by decide : ¬ ((5 : Int32) = (0 : Int32)))).2) (by decide) (by decide) ?_
    show Sp p e below m T91 27 #[.val (.ref aa), .val (.ref ac), .val (.int (0 : Int32)), .val (.int (5 : Int32)), .val .null, .unset] [] _
    refine st92 _ ?_
    show Sp p e below m T92 30 #[.val (.ref aa), .val (.ref ac), .val (.int (0 : Int32)), .val (.int (5 : Int32)), .val .null, .unset] [(.int cs)] _
    refine XS.ifNo X92.here hx rfl (hb hby d2_30) rfl ((if0 _ _).trans (feq (hcs : ¬ (cs = (0 : Int32)))).1) ?_
    show Sp p e below m T92 33 #[.val (.ref aa), .val (.ref ac), .val (.int (0 : Int32)), .val (.int (5 : Int32)), .val .null, .unset] [] _
    refine XS.aloadN X92.here hx rfl (hb hby d2_33) rfl rfl ?_
    refine XS.iloadN X92.here hx rfl (hb hby d2_34) rfl ?_
    show Sp p e below m T92 35 #[.val (.ref aa), .val (.ref ac), .val (.int (0 : Int32)), .val (.int (5 : Int32)), .val .null, .unset] [(.int (0 : Int32)), (.ref ac)] _
    refine XS.iloadN X92.here hx rfl (hb hby d2_35) rfl ?_
    refine st93 _ ?_
    show Sp p e below m T93 39 #[.val (.ref aa), .val (.ref ac), .val (.int (0 : Int32)), .val (.int (5 : Int32)), .val .null, .unset] [(.ref rrb_93)] _
    refine XS.astore X93.here hx rfl (hb hby d2_39) rfl rfl (l' := #[.val (.ref aa), .val (.ref ac), .val (.int (0 : Int32)), .val (.int (5 : Int32)), .val .null, .val (.ref rrb_93)]) rfl ?_
    show Sp p e below m T93 41 #[.val (.ref aa), .val (.ref ac), .val (.int (0 : Int32)), .val (.int (5 : Int32)), .val .null, .val (.ref rrb_93)] [] _
    refine XS.aloadN X93.here hx rfl (hb hby d2_41) rfl rfl ?_
    refine XS.aload X93.here hx rfl (hb hby d2_42) rfl rfl ?_
    show Sp p e below m T93 44 #[.val (.ref aa), .val (.ref ac), .val (.int (0 : Int32)), .val (.int (5 : Int32)), .val .null, .val (.ref rrb_93)] [(.ref rrb_93), (.ref aa)] _
    refine XS.iloadN X93.here hx rfl (hb hby d2_44) rfl ?_
    refine st100 _ ?_
    show Sp p e below m T100 48 #[.val (.ref aa), .val (.ref ac), .val (.int (0 : Int32)), .val (.int (5 : Int32)), .val .null, .val (.ref rrb_93)] [(.int (0 : Int32)), (.ref aa)] _
    refine st101 _ ?_
    show Sp p e below m T101 51 #[.val (.ref aa), .val (.ref ac), .val (.int (0 : Int32)), .val (.int (5 : Int32)), .val .null, .val (.ref rrb_93)] [] _
    refine XS.aloadN X101.here hx rfl (hb hby d2_51) rfl rfl ?_
    refine XS.aload X101.here hx rfl (hb hby d2_52) rfl rfl ?_
    show Sp p e below m T101 54 #[.val (.ref aa), .val (.ref ac), .val (.int (0 : Int32)), .val (.int (5 : Int32)), .val .null, .val (.ref rrb_93)] [(.ref rrb_93), (.ref aa)] _
    refine st109 _ ?_
    show Sp p e below m T109 57 #[.val (.ref aa), .val (.ref ac), .val (.int (0 : Int32)), .val (.int (5 : Int32)), .val .null, .val (.ref rrb_93)] [] _
    exact X109.returnOut hx Bd.returns (hb hby d2_57) hr
  · show Q2n5 Z aa ac cs vf kc cc0 cc1 cc2 cc3 cc4 h0 n0 _ T109.heap _
    rw [e109]
    exact ⟨rrb_93, rrk_93, rfl, N109, KK109, f112, f113, f114, f116, g_rrb_93, sz_rrb_93⟩
theorem d1_0 : decode jdk_42_method_3_code 0 = .ok (.aload_n 0, 1) := by decide +kernel
theorem d1_1 : decode jdk_42_method_3_code 1 = .ok (.aload_n 1, 1) := by decide +kernel
theorem d1_2 : decode jdk_42_method_3_code 2 = .ok (.iconst 0, 1) := by decide +kernel
theorem d1_3 : decode jdk_42_method_3_code 3 = .ok (.aload_n 1, 1) := by decide +kernel
theorem d1_4 : decode jdk_42_method_3_code 4 = .ok (.arraylength, 1) := by decide +kernel
theorem d1_5 : decode jdk_42_method_3_code 5 = .ok (.aconst_null, 1) := by decide +kernel
theorem d1_6 : decode jdk_42_method_3_code 6 = .ok (.invokespecial 27, 3) := by decide +kernel
theorem own_pd100 : parseMethodDescriptor "([CIILjava/lang/Void;)V" = some ⟨[(.array .char), .int, .int, (.object "java/lang/Void")], none⟩ := by decide +kernel
theorem d1_9 : decode jdk_42_method_3_code 9 = .ok (.return_, 1) := by decide +kernel
theorem ef_1n5 (m : MethodId) (x0 : Addr) (x1 : Addr) : entryFrame m #[(.ref x0), (.ref x1)] 2 = mkF m 0 #[.val (.ref x0), .val (.ref x1)] [] := by first | (simp [entryFrame, mkF, argsToLocals, Value.category]; done) | rfl
def Q1n5 (Z : State) (aa : Addr) (ac : Addr) (cs : Int32) (vf : Value) (kc : ClassId) (cc0 : Int32) (cc1 : Int32) (cc2 : Int32) (cc3 : Int32) (cc4 : Int32) (h0 : Heap) (n0 : Nat) (v : Option Value) (h : Heap) (L : List Loc) : Prop := ∃ (rb : Addr) (rk : ClassId), v = none ∧ Fr n0 L ∧ Keep h0 h [aa] ∧ Exa Z h aa "java/lang/String" ∧ Fld Z h aa "java/lang/String" "value" "[B" (.ref rb) ∧ Fld Z h aa "java/lang/String" "coder" "B" (.int (0 : Int32)) ∧ Arv Z h rb rk .byte (5 : Int32) [(.int (nar .byte (cc0.toInt8.toInt32))), (.int (nar .byte (cc1.toInt8.toInt32))), (.int (nar .byte (cc2.toInt8.toInt32))), (.int (nar .byte (cc3.toInt8.toInt32))), (.int (nar .byte (cc4.toInt8.toInt32)))] (.int (0 : Int32)) ∧ n0 ≤ rb ∧ h0.size ≤ rb
set_option maxRecDepth 65536 in
set_option maxHeartbeats 40000000 in
theorem rm1n5 (l : Launch) (Z : State) (a0 : Array Value) (hw : ∀ d ∈ tables_1, d.before a0 Z = true) (ws : List Jvm.Cond) (aa : Addr) (ac : Addr) (cs : Int32) (vf : Value) (kc : ClassId) (cc0 : Int32) (cc1 : Int32) (cc2 : Int32) (cc3 : Int32) (cc4 : Int32) (h0 : Heap) (n0 : Nat) (Z0 : n0 ≤ h0.size) (O0 : Old Z n0 h0) (Scs : Sta Z Z.heap "java/lang/String" "COMPACT_STRINGS" "Z" (.int cs)) (hcs : ¬ cs = (0 : Int32)) (Ssf : Sta Z Z.heap "jdk/internal/util/Preconditions" "SIOOBE_FORMATTER" "Ljava/util/function/BiFunction;" vf) (hvf : vf.isRef = true) (Ea : Exa Z h0 aa "java/lang/String") (Fv : Fld Z h0 aa "java/lang/String" "value" "[B" .null) (Fc : Fld Z h0 aa "java/lang/String" "coder" "B" (.int (0 : Int32))) (g_aa : n0 ≤ aa) (Vc : Arv Z h0 ac kc .char (5 : Int32) [(.int cc0), (.int cc1), (.int cc2), (.int cc3), (.int cc4)] (.int (0 : Int32))) (nac : aa ≠ ac) (hp0 : 0 ≤ cc0.toInt ∧ cc0.toInt ≤ 255) (hp1 : 0 ≤ cc1.toInt ∧ cc1.toInt ≤ 255) (hp2 : 0 ≤ cc2.toInt ∧ cc2.toInt ≤ 255) (hp3 : 0 ≤ cc3.toInt ∧ cc3.toInt ≤ 255) (hp4 : 0 ≤ cc4.toInt ∧ cc4.toInt ≤ 255) :
    MetFree l (⟨"java/lang/String", "<init>", "([C)V"⟩ : MethodName) (head1 (Jvm.Cond.code (⟨"java/lang/String", "<init>", "([C)V"⟩ : MethodName) jdk_42_method_3_code 2 none :: ws) ({ frames := 3, cells := 1, slots := 5, locals := 52 } : Room)) (fun a U => a = #[(.ref aa), (.ref ac)] ∧ Z.Warmed39 U.vm ∧ U.heap = h0) (fun _ _ _ _ _ => True) (fun _ U o U' => ∃ v L, o = .returned v ∧ Q1n5 Z aa ac cs vf kc cc0 cc1 cc2 cc3 cc4 h0 n0 v U'.heap L ∧ FrameEnd U o U' L ({ frames := 3, cells := 1, slots := 5, locals := 52 } : Room).cells ({ frames := 3, cells := 1, slots := 5, locals := 52 } : Room).slots) := by
  refine MetFree.of_bodySF (plainFor_of_name own_pn8) hisR ?_
  intro p e s m args below meth c s₁ Bd hml0 hP hK
  have H := fun i c (h : tables_1[i]? = some c) => hw c (List.mem_of_getElem? h)
  obtain ⟨rfl, hZ, hh⟩ := hP
  have hx := Bd.exec
  have hby := Bd.bytes
  have hml : c.maxLocals = 2 := hml0
  have hown : s.vm.findClass "java/lang/String" = some m.cls := findClass_of_methodNamed Bd.named
  have hnm := (name_of_methodNamed Bd.named Bd.method).1
  have X0 : Stand p l e ({ frames := 3, cells := 1, slots := 5, locals := 52 } : Room) s m #[(.ref aa), (.ref ac)] below meth c s₁ [] 0 0 := Stand.of_body Bd
  have e0 : s₁.heap = h0 := by rw [← hh, Bd.state]; rfl
  have N0 := Fr.nil n0
  have pre0 : ∀ t, Sp p e below m s₁ 0 #[.val (.ref aa), .val (.ref ac)] [] t → Steps p.tables e below (s₁.setTop (entryFrame m #[(.ref aa), (.ref ac)] 2)) t := fun t k => castTop (ef_1n5 m aa ac) k
  generalize s₁.setTop (entryFrame m #[(.ref aa), (.ref ac)] 2) = G0 at pre0 ⊢
  obtain ⟨cl123, Ar123, -, S123, M123, -, -⟩ := id Vc
  obtain ⟨_, _, ⟨T124, L124, k124, n124⟩, -, X124, ⟨Lc124, hQ124, l124, y124, z124⟩, st124⟩ := X0.specialBack hx (y := (⟨"java/lang/String", "<init>", "([CIILjava/lang/Void;)V"⟩ : MethodName)) rfl hown (mvT hZ (H 9 _ rfl)) (mvT hZ (H 10 _ rfl)) (mvT hZ (H 12 _ rfl)) (by decide) (backOf (W := 0) (rm2n5 l Z a0 hw [] aa ac cs vf kc cc0 cc1 cc2 cc3 cc4 h0 n0 Z0 O0 Scs hcs Ssf hvf Ea Fv Fc g_aa Vc nac hp0 hp1 hp2 hp3 hp4) hZ (H 12 _ rfl) (H 5 _ rfl) (by decide) (by decide)) (g := (mkF m 6 #[.val (.ref aa), .val (.ref ac)] [.null, (.int (5 : Int32)), (.int (0 : Int32)), (.ref ac), (.ref aa)])) rfl (by rw [hml]; rfl) (Steps.refl _) (a := aa) (argsL := [(.ref ac), (.int (0 : Int32)), (.int (5 : Int32)), .null]) (rest := []) (lenOf own_pd100 rfl) rfl (Nat.le_of_eq rfl) (hb hby d1_6) (fun _ _ => ⟨rfl, e0, (by decide : 0 + 1 ≤ _), (by decide : 0 + 5 ≤ _)⟩)
  dsimp only [Pt.U, Pt.locs, Pt.cells, Pt.slots] at X124 l124 y124 z124 st124 hQ124
  rw [l124, y124, z124] at X124
  clear l124 y124 z124
  obtain ⟨rrb_124, rrk_124, rfl, Nq124, K124, p124_0, p124_1, p124_2, p124_3, p124_4, p124_5⟩ := hQ124
  have N124 := Fr.app N0 Nq124
  have Zs124 : n0 ≤ T124.heap.size := Nat.le_trans Z0 K124.1
  have KK124 : Keep h0 T124.heap [aa] := (Keep.refl h0 _).trans K124 (allS (Or.inl (List.mem_of_getElem? (i := 0) rfl)) all0)
  have ne_aa_rrb_124 : aa ≠ rrb_124 := Nat.ne_of_lt (Nat.lt_of_lt_of_le Ea.lt p124_5)
  have ne_ac_rrb_124 : ac ≠ rrb_124 := Nat.ne_of_lt (Nat.lt_of_lt_of_le Vc.lt p124_5)
  have sz_rrb_124 : h0.size ≤ rrb_124 := p124_5
  have O124 := O0.keep K124 (allS g_aa all0)
  have f125 := Scs.ext O124.2
  have f126 := Ssf.ext O124.2
  have f127 := Ea.keep K124
  have f128 := Vc.keep K124 (ninS (Ne.symm nac) nin0)
  have g_rrb_124 := p124_4
  obtain ⟨fs, hr, hrun, hended, hW, hsame⟩ := X124.leave (v := none) (fun _ => rfl)
  refine ⟨_, _, pre0 _ ?_, hrun, hended, _, _, rfl, ?_, ⟨_, rfl⟩, hW, hsame.mono (by decide) (by decide)⟩
  · show Sp p e below m s₁ 0 #[.val (.ref aa), .val (.ref ac)] [] _
    refine XS.aloadN X0.here hx rfl (hb hby d1_0) rfl rfl ?_
    refine XS.aloadN X0.here hx rfl (hb hby d1_1) rfl rfl ?_
    show Sp p e below m s₁ 2 #[.val (.ref aa), .val (.ref ac)] [(.ref ac), (.ref aa)] _
    refine XS.iconst X0.here hx rfl (hb hby d1_2) ?_
    refine XS.aloadN X0.here hx rfl (hb hby d1_3) rfl rfl ?_
    show Sp p e below m s₁ 4 #[.val (.ref aa), .val (.ref ac)] [(.ref ac), (.int (0 : Int32)), (.ref ac), (.ref aa)] _
    refine X0.arraylength hx (by rw [e0]; exact Ar123.1) (State.isArrayOf_alike hZ.alike Ar123.2.1) (g := (mkF m 4 #[.val (.ref aa), .val (.ref ac)] [(.ref ac), (.int (0 : Int32)), (.ref ac), (.ref aa)])) rfl rfl (hb hby d1_4) _ ?_
    rw [len_of S123 M123]
    show Sp p e below m s₁ 5 #[.val (.ref aa), .val (.ref ac)] [(.int (5 : Int32)), (.int (0 : Int32)), (.ref ac), (.ref aa)] _
    refine XS.aconstNull X0.here hx rfl (hb hby d1_5) ?_
    show Sp p e below m s₁ 6 #[.val (.ref aa), .val (.ref ac)] [.null, (.int (5 : Int32)), (.int (0 : Int32)), (.ref ac), (.ref aa)] _
    refine st124.trans ?_
    show Sp p e below m T124 9 #[.val (.ref aa), .val (.ref ac)] [] _
    exact X124.returnOut hx Bd.returns (hb hby d1_9) hr
  · show Q1n5 Z aa ac cs vf kc cc0 cc1 cc2 cc3 cc4 h0 n0 _ T124.heap _
    exact ⟨rrb_124, rrk_124, rfl, N124, KK124, p124_0, p124_1, p124_2, p124_3, g_rrb_124, sz_rrb_124⟩
theorem d35_0 : decode jdk_41_method_11_code 0 = .ok (.iload_n 0, 1) := by decide +kernel
theorem d35_1 : decode jdk_41_method_11_code 1 = .ok (.ifCond .lt 8, 3) := by decide +kernel
theorem d35_4 : decode jdk_41_method_11_code 4 = .ok (.iload_n 0, 1) := by decide +kernel
theorem d35_5 : decode jdk_41_method_11_code 5 = .ok (.iload_n 1, 1) := by decide +kernel
theorem d35_6 : decode jdk_41_method_11_code 6 = .ok (.if_icmp .lt 10, 3) := by decide +kernel
theorem d35_16 : decode jdk_41_method_11_code 16 = .ok (.iload_n 0, 1) := by decide +kernel
theorem d35_17 : decode jdk_41_method_11_code 17 = .ok (.ireturn, 1) := by decide +kernel
theorem own_pn109 : plainName "jdk/internal/util/Preconditions" = true := by first | (simp [plainName, overriddenIn]; done) | decide +kernel
theorem ef_35 (m : MethodId) (x0 : Int32) (x1 : Int32) (x2 : Value) (hx2 : x2.isRef = true) : entryFrame m #[(.int x0), (.int x1), x2] 3 = mkF m 0 #[.val (.int x0), .val (.int x1), .val x2] [] := by rcases ref_cases hx2 with rfl | ⟨y2, rfl⟩ <;> first | (simp [entryFrame, mkF, argsToLocals, Value.category]; done) | rfl
def Q35 (Z : State) (pi : Int32) (pn : Int32) (vf : Value) (h0 : Heap) (n0 : Nat) (v : Option Value) (h : Heap) (L : List Loc) : Prop := v = some (.int pi) ∧ Fr n0 L ∧ h = h0
set_option maxRecDepth 65536 in
set_option maxHeartbeats 40000000 in
theorem rm35 (l : Launch) (Z : State) (a0 : Array Value) (hw : ∀ d ∈ tables_1, d.before a0 Z = true) (ws : List Jvm.Cond) (pi : Int32) (pn : Int32) (vf : Value) (h0 : Heap) (n0 : Nat) (Z0 : n0 ≤ h0.size) (hvf : vf.isRef = true) (h0i : ¬ pi < (0 : Int32)) (hlt : pi < pn) :
    MetFree l (⟨"jdk/internal/util/Preconditions", "checkIndex", "(IILjava/util/function/BiFunction;)I"⟩ : MethodName) (head1 (Jvm.Cond.code (⟨"jdk/internal/util/Preconditions", "checkIndex", "(IILjava/util/function/BiFunction;)I"⟩ : MethodName) jdk_41_method_11_code 3 (some .int) :: ws) ({ frames := 0, cells := 0, slots := 0, locals := 0 } : Room)) (fun a U => a = #[(.int pi), (.int pn), vf] ∧ Z.Warmed39 U.vm ∧ U.heap = h0) (fun _ _ _ _ _ => True) (fun _ U o U' => ∃ v L, o = .returned v ∧ Q35 Z pi pn vf h0 n0 v U'.heap L ∧ FrameEnd U o U' L ({ frames := 0, cells := 0, slots := 0, locals := 0 } : Room).cells ({ frames := 0, cells := 0, slots := 0, locals := 0 } : Room).slots) := by
  refine MetFree.of_bodySF (plainFor_of_name own_pn109) hisR ?_
  intro p e s m args below meth c s₁ Bd hml0 hP hK
  have H := fun i c (h : tables_1[i]? = some c) => hw c (List.mem_of_getElem? h)
  obtain ⟨rfl, hZ, hh⟩ := hP
  have hx := Bd.exec
  have hby := Bd.bytes
  have hml : c.maxLocals = 3 := hml0
  have hown : s.vm.findClass "jdk/internal/util/Preconditions" = some m.cls := findClass_of_methodNamed Bd.named
  have hnm := (name_of_methodNamed Bd.named Bd.method).1
  have X0 : Stand p l e ({ frames := 0, cells := 0, slots := 0, locals := 0 } : Room) s m #[(.int pi), (.int pn), vf] below meth c s₁ [] 0 0 := Stand.of_body Bd
  have e0 : s₁.heap = h0 := by rw [← hh, Bd.state]; rfl
  have N0 := Fr.nil n0
  have pre0 : ∀ t, Sp p e below m s₁ 0 #[.val (.int pi), .val (.int pn), .val vf] [] t → Steps p.tables e below (s₁.setTop (entryFrame m #[(.int pi), (.int pn), vf] 3)) t := fun t k => castTop (ef_35 m pi pn vf hvf) k
  generalize s₁.setTop (entryFrame m #[(.int pi), (.int pn), vf] 3) = G0 at pre0 ⊢
  obtain ⟨fs, hr, hrun, hended, hW, hsame⟩ := X0.leave (v := some (.int pi)) (fun h => by rw [Bd.returns] at h; cases h)
  refine ⟨_, _, pre0 _ ?_, hrun, hended, _, _, rfl, ?_, ⟨_, rfl⟩, hW, hsame.mono (by decide) (by decide)⟩
  · show Sp p e below m s₁ 0 #[.val (.int pi), .val (.int pn), .val vf] [] _
    refine XS.iloadN X0.here hx rfl (hb hby d35_0) rfl ?_
    refine XS.ifNo X0.here hx rfl (hb hby d35_1) rfl ((if0 _ _).trans (flt (h0i : ¬ (pi < (0 : Int32)))).1) ?_
    show Sp p e below m s₁ 4 #[.val (.int pi), .val (.int pn), .val vf] [] _
    refine XS.iloadN X0.here hx rfl (hb hby d35_4) rfl ?_
    refine XS.iloadN X0.here hx rfl (hb hby d35_5) rfl ?_
    show Sp p e below m s₁ 6 #[.val (.int pi), .val (.int pn), .val vf] [(.int pn), (.int pi)] _
    refine XS.icmpYes X0.here hx rfl (pc0 := 6) (pc' := 16) rfl (hb hby d35_6) rfl (tlt (hlt : (pi < pn))).1 (by decide) (by decide) ?_
    show Sp p e below m s₁ 16 #[.val (.int pi), .val (.int pn), .val vf] [] _
    refine XS.iloadN X0.here hx rfl (hb hby d35_16) rfl ?_
    exact retI X0 hx Bd.returns (hb hby d35_17) hr
  · show Q35 Z pi pn vf h0 n0 _ s₁.heap _
    rw [e0]
    exact ⟨rfl, N0, rfl⟩
theorem d34_0 : decode jdk_42_method_155_code 0 = .ok (.iload_n 0, 1) := by decide +kernel
theorem d34_1 : decode jdk_42_method_155_code 1 = .ok (.iload_n 1, 1) := by decide +kernel
theorem d34_2 : decode jdk_42_method_155_code 2 = .ok (.getstatic 1053, 3) := by decide +kernel
theorem d34_5 : decode jdk_42_method_155_code 5 = .ok (.invokestatic 1059, 3) := by decide +kernel
theorem own_pd114 : parseMethodDescriptor "(IILjava/util/function/BiFunction;)I" = some ⟨[.int, .int, (.object "java/util/function/BiFunction")], some .int⟩ := by decide +kernel
theorem d34_8 : decode jdk_42_method_155_code 8 = .ok (.pop, 1) := by decide +kernel
theorem d34_9 : decode jdk_42_method_155_code 9 = .ok (.return_, 1) := by decide +kernel
theorem ef_34 (m : MethodId) (x0 : Int32) (x1 : Int32) : entryFrame m #[(.int x0), (.int x1)] 2 = mkF m 0 #[.val (.int x0), .val (.int x1)] [] := by first | (simp [entryFrame, mkF, argsToLocals, Value.category]; done) | rfl
def Q34 (Z : State) (pi : Int32) (pn : Int32) (cs : Int32) (vf : Value) (h0 : Heap) (n0 : Nat) (v : Option Value) (h : Heap) (L : List Loc) : Prop := v = none ∧ Fr n0 L ∧ h = h0
set_option maxRecDepth 65536 in
set_option maxHeartbeats 40000000 in
theorem rm34 (l : Launch) (Z : State) (a0 : Array Value) (hw : ∀ d ∈ tables_1, d.before a0 Z = true) (ws : List Jvm.Cond) (pi : Int32) (pn : Int32) (cs : Int32) (vf : Value) (h0 : Heap) (n0 : Nat) (Z0 : n0 ≤ h0.size) (O0 : Old Z n0 h0) (Scs : Sta Z Z.heap "java/lang/String" "COMPACT_STRINGS" "Z" (.int cs)) (hcs : ¬ cs = (0 : Int32)) (Ssf : Sta Z Z.heap "jdk/internal/util/Preconditions" "SIOOBE_FORMATTER" "Ljava/util/function/BiFunction;" vf) (hvf : vf.isRef = true) (h0i : ¬ pi < (0 : Int32)) (hlt : pi < pn) :
    MetFree l (⟨"java/lang/String", "checkIndex", "(II)V"⟩ : MethodName) (head1 (Jvm.Cond.code (⟨"java/lang/String", "checkIndex", "(II)V"⟩ : MethodName) jdk_42_method_155_code 2 none :: ws) ({ frames := 1, cells := 0, slots := 0, locals := 14 } : Room)) (fun a U => a = #[(.int pi), (.int pn)] ∧ Z.Warmed39 U.vm ∧ U.heap = h0) (fun _ _ _ _ _ => True) (fun _ U o U' => ∃ v L, o = .returned v ∧ Q34 Z pi pn cs vf h0 n0 v U'.heap L ∧ FrameEnd U o U' L ({ frames := 1, cells := 0, slots := 0, locals := 14 } : Room).cells ({ frames := 1, cells := 0, slots := 0, locals := 14 } : Room).slots) := by
  refine MetFree.of_bodySF (plainFor_of_name own_pn8) hisR ?_
  intro p e s m args below meth c s₁ Bd hml0 hP hK
  have H := fun i c (h : tables_1[i]? = some c) => hw c (List.mem_of_getElem? h)
  obtain ⟨rfl, hZ, hh⟩ := hP
  have hx := Bd.exec
  have hby := Bd.bytes
  have hml : c.maxLocals = 2 := hml0
  have hown : s.vm.findClass "java/lang/String" = some m.cls := findClass_of_methodNamed Bd.named
  have hnm := (name_of_methodNamed Bd.named Bd.method).1
  have X0 : Stand p l e ({ frames := 1, cells := 0, slots := 0, locals := 14 } : Room) s m #[(.int pi), (.int pn)] below meth c s₁ [] 0 0 := Stand.of_body Bd
  have e0 : s₁.heap = h0 := by rw [← hh, Bd.state]; rfl
  have N0 := Fr.nil n0
  have pre0 : ∀ t, Sp p e below m s₁ 0 #[.val (.int pi), .val (.int pn)] [] t → Steps p.tables e below (s₁.setTop (entryFrame m #[(.int pi), (.int pn)] 2)) t := fun t k => castTop (ef_34 m pi pn) k
  generalize s₁.setTop (entryFrame m #[(.int pi), (.int pn)] 2) = G0 at pre0 ⊢
  obtain ⟨T131, X131, e131, st131⟩ := getS2 X0 hx hZ hown (host := "") (Or.inl (H 89 _ rfl)) Via.refl e0 (Ssf.ext O0.2) (g := (mkF m 2 #[.val (.int pi), .val (.int pn)] [(.int pn), (.int pi)])) rfl (hb hby d34_2)
  obtain ⟨_, _, ⟨T132, L132, k132, n132⟩, -, X132, ⟨Lc132, hQ132, l132, y132, z132⟩, st132⟩ := Jvm.LawKit.callS X131 hx (y := (⟨"jdk/internal/util/Preconditions", "checkIndex", "(IILjava/util/function/BiFunction;)I"⟩ : MethodName)) hown (mvT hZ (H 161 _ rfl)) (mvT hZ (H 162 _ rfl)) (mvT hZ (H 90 _ rfl)) (mvT hZ (H 163 _ rfl)) (by decide) (backOf (W := 0) (rm35 l Z a0 hw [] pi pn vf  h0 n0 Z0 hvf h0i hlt) hZ (H 163 _ rfl) (H 90 _ rfl) (by decide) (by decide)) (g := (mkF m 5 #[.val (.int pi), .val (.int pn)] [vf, (.int pn), (.int pi)])) rfl (by rw [hml]; rfl) (argsL := [(.int pi), (.int pn), vf]) (rest := []) (lenOf own_pd114 rfl) rfl (Nat.le_of_eq rfl) (hb hby d34_5) (fun _ _ => ⟨rfl, e131, (by decide : 0 + 0 ≤ _), (by decide : 0 + 0 ≤ _)⟩)
  dsimp only [Pt.U, Pt.locs, Pt.cells, Pt.slots] at X132 l132 y132 z132 st132 hQ132
  rw [l132, y132, z132] at X132
  clear l132 y132 z132
  obtain ⟨rfl, Nq132, e132⟩ := hQ132
  have N132 := Fr.app N0 Nq132
  obtain ⟨fs, hr, hrun, hended, hW, hsame⟩ := X132.leave (v := none) (fun _ => rfl)
  refine ⟨_, _, pre0 _ ?_, hrun, hended, _, _, rfl, ?_, ⟨_, rfl⟩, hW, hsame.mono (by decide) (by decide)⟩
  · show Sp p e below m s₁ 0 #[.val (.int pi), .val (.int pn)] [] _
    refine XS.iloadN X0.here hx rfl (hb hby d34_0) rfl ?_
    refine XS.iloadN X0.here hx rfl (hb hby d34_1) rfl ?_
    show Sp p e below m s₁ 2 #[.val (.int pi), .val (.int pn)] [(.int pn), (.int pi)] _
    refine st131 _ ?_
    show Sp p e below m T131 5 #[.val (.int pi), .val (.int pn)] [vf, (.int pn), (.int pi)] _
    refine st132 _ ?_
    show Sp p e below m T132 8 #[.val (.int pi), .val (.int pn)] [(.int pi)] _
    refine XS.pop X132.here hx rfl (hb hby d34_8) rfl rfl ?_
    show Sp p e below m T132 9 #[.val (.int pi), .val (.int pn)] [] _
    exact X132.returnOut hx Bd.returns (hb hby d34_9) hr
  · show Q34 Z pi pn cs vf h0 n0 _ T132.heap _
    rw [e132]
    exact ⟨rfl, N132, rfl⟩
theorem d33_0 : decode jdk_43_method_2_code 0 = .ok (.iload_n 1, 1) := by decide +kernel
theorem d33_1 : decode jdk_43_method_2_code 1 = .ok (.aload_n 0, 1) := by decide +kernel
theorem d33_2 : decode jdk_43_method_2_code 2 = .ok (.arraylength, 1) := by decide +kernel
theorem d33_3 : decode jdk_43_method_2_code 3 = .ok (.invokestatic 9, 3) := by decide +kernel
theorem own_pd121 : parseMethodDescriptor "(II)V" = some ⟨[.int, .int], none⟩ := by decide +kernel
theorem d33_6 : decode jdk_43_method_2_code 6 = .ok (.aload_n 0, 1) := by decide +kernel
theorem d33_7 : decode jdk_43_method_2_code 7 = .ok (.iload_n 1, 1) := by decide +kernel
theorem d33_8 : decode jdk_43_method_2_code 8 = .ok (.baload, 1) := by decide +kernel
theorem d33_9 : decode jdk_43_method_2_code 9 = .ok (.sipush 255, 3) := by decide +kernel
theorem d33_12 : decode jdk_43_method_2_code 12 = .ok (.iand, 1) := by decide +kernel
theorem d33_13 : decode jdk_43_method_2_code 13 = .ok (.i2c, 1) := by decide +kernel
theorem d33_14 : decode jdk_43_method_2_code 14 = .ok (.ireturn, 1) := by decide +kernel
theorem own_pn129 : plainName "java/lang/StringLatin1" = true := by first | (simp [plainName, overriddenIn]; done) | decide +kernel
theorem ef_33 (m : MethodId) (x0 : Addr) (x1 : Int32) : entryFrame m #[(.ref x0), (.int x1)] 2 = mkF m 0 #[.val (.ref x0), .val (.int x1)] [] := by first | (simp [entryFrame, mkF, argsToLocals, Value.category]; done) | rfl
def Q33 (Z : State) (ab : Addr) (pi : Int32) (cs : Int32) (vf : Value) (kb : ClassId) (zn : Int32) (vs : List Value) (bv : Int32) (h0 : Heap) (n0 : Nat) (v : Option Value) (h : Heap) (L : List Loc) : Prop := v = some (.int (own_lat bv)) ∧ Fr n0 L ∧ h = h0
set_option maxRecDepth 65536 in
set_option maxHeartbeats 40000000 in
theorem rm33 (l : Launch) (Z : State) (a0 : Array Value) (hw : ∀ d ∈ tables_1, d.before a0 Z = true) (ws : List Jvm.Cond) (ab : Addr) (pi : Int32) (cs : Int32) (vf : Value) (kb : ClassId) (zn : Int32) (vs : List Value) (bv : Int32) (h0 : Heap) (n0 : Nat) (Z0 : n0 ≤ h0.size) (O0 : Old Z n0 h0) (Scs : Sta Z Z.heap "java/lang/String" "COMPACT_STRINGS" "Z" (.int cs)) (hcs : ¬ cs = (0 : Int32)) (Ssf : Sta Z Z.heap "jdk/internal/util/Preconditions" "SIOOBE_FORMATTER" "Ljava/util/function/BiFunction;" vf) (hvf : vf.isRef = true) (Va : Arv Z h0 ab kb .byte zn vs (.int (0 : Int32))) (h0i : ¬ pi < (0 : Int32)) (hlt : pi < zn) (hget : vs.getD pi.toNatClampNeg (.int (0 : Int32)) = .int bv) :
    MetFree l (⟨"java/lang/StringLatin1", "charAt", "([BI)C"⟩ : MethodName) (head1 (Jvm.Cond.code (⟨"java/lang/StringLatin1", "charAt", "([BI)C"⟩ : MethodName) jdk_43_method_2_code 2 (some .char) :: ws) ({ frames := 2, cells := 0, slots := 0, locals := 27 } : Room)) (fun a U => a = #[(.ref ab), (.int pi)] ∧ Z.Warmed39 U.vm ∧ U.heap = h0) (fun _ _ _ _ _ => True) (fun _ U o U' => ∃ v L, o = .returned v ∧ Q33 Z ab pi cs vf kb zn vs bv h0 n0 v U'.heap L ∧ FrameEnd U o U' L ({ frames := 2, cells := 0, slots := 0, locals := 27 } : Room).cells ({ frames := 2, cells := 0, slots := 0, locals := 27 } : Room).slots) := by
  refine MetFree.of_bodySF (plainFor_of_name own_pn129) hisR ?_
  intro p e s m args below meth c s₁ Bd hml0 hP hK
  have H := fun i c (h : tables_1[i]? = some c) => hw c (List.mem_of_getElem? h)
  obtain ⟨rfl, hZ, hh⟩ := hP
  have hx := Bd.exec
  have hby := Bd.bytes
  have hml : c.maxLocals = 2 := hml0
  have hown : s.vm.findClass "java/lang/StringLatin1" = some m.cls := findClass_of_methodNamed Bd.named
  have hnm := (name_of_methodNamed Bd.named Bd.method).1
  have X0 : Stand p l e ({ frames := 2, cells := 0, slots := 0, locals := 27 } : Room) s m #[(.ref ab), (.int pi)] below meth c s₁ [] 0 0 := Stand.of_body Bd
  have e0 : s₁.heap = h0 := by rw [← hh, Bd.state]; rfl
  have N0 := Fr.nil n0
  have pre0 : ∀ t, Sp p e below m s₁ 0 #[.val (.ref ab), .val (.int pi)] [] t → Steps p.tables e below (s₁.setTop (entryFrame m #[(.ref ab), (.int pi)] 2)) t := fun t k => castTop (ef_33 m ab pi) k
  generalize s₁.setTop (entryFrame m #[(.ref ab), (.int pi)] 2) = G0 at pre0 ⊢
  obtain ⟨cl136, Ar136, -, S136, M136, -, -⟩ := id Va
  obtain ⟨_, _, ⟨T137, L137, k137, n137⟩, -, X137, ⟨Lc137, hQ137, l137, y137, z137⟩, st137⟩ := Jvm.LawKit.callS X0 hx (y := (⟨"java/lang/String", "checkIndex", "(II)V"⟩ : MethodName)) hown (mvT hZ (H 158 _ rfl)) (mvT hZ (H 159 _ rfl)) (mvT hZ (H 5 _ rfl)) (mvT hZ (H 160 _ rfl)) (by decide) (backOf (W := 0) (rm34 l Z a0 hw [] pi zn cs vf h0 n0 Z0 O0 Scs hcs Ssf hvf h0i hlt) hZ (H 160 _ rfl) (H 5 _ rfl) (by decide) (by decide)) (g := (mkF m 3 #[.val (.ref ab), .val (.int pi)] [(.int zn), (.int pi)])) rfl (by rw [hml]; rfl) (argsL := [(.int pi), (.int zn)]) (rest := []) (lenOf own_pd121 rfl) rfl (Nat.le_of_eq rfl) (hb hby d33_3) (fun _ _ => ⟨rfl, e0, (by decide : 0 + 0 ≤ _), (by decide : 0 + 0 ≤ _)⟩)
  dsimp only [Pt.U, Pt.locs, Pt.cells, Pt.slots] at X137 l137 y137 z137 st137 hQ137
  rw [l137, y137, z137] at X137
  clear l137 y137 z137
  obtain ⟨rfl, Nq137, e137⟩ := hQ137
  have N137 := Fr.app N0 Nq137
  obtain ⟨cl138, Ar138, -, S138, -, H138, -⟩ := id Va
  have hin138 : ¬ (pi < 0 ∨ cl138.slots.size ≤ (pi).toNatClampNeg) := inb_of S138 ⟨h0i, hlt⟩
  have hat138 : cl138.slots[(pi).toNatClampNeg]? = some (.int bv) := H138.at hin138 hget
  obtain ⟨fs, hr, hrun, hended, hW, hsame⟩ := X137.leave (v := some (.int (nar .char ((bv &&& (255 : Int32)).toUInt32.toUInt16.toUInt32.toInt32)))) (fun h => by rw [Bd.returns] at h; cases h)
  refine ⟨_, _, pre0 _ ?_, hrun, hended, _, _, rfl, ?_, ⟨_, rfl⟩, hW, hsame.mono (by decide) (by decide)⟩
  · show Sp p e below m s₁ 0 #[.val (.ref ab), .val (.int pi)] [] _
    refine XS.iloadN X0.here hx rfl (hb hby d33_0) rfl ?_
    refine XS.aloadN X0.here hx rfl (hb hby d33_1) rfl rfl ?_
    show Sp p e below m s₁ 2 #[.val (.ref ab), .val (.int pi)] [(.ref ab), (.int pi)] _
    refine X0.arraylength hx (by rw [e0]; exact Ar136.1) (State.isArrayOf_alike hZ.alike Ar136.2.1) (g := (mkF m 2 #[.val (.ref ab), .val (.int pi)] [(.ref ab), (.int pi)])) rfl rfl (hb hby d33_2) _ ?_
    rw [len_of S136 M136]
    show Sp p e below m s₁ 3 #[.val (.ref ab), .val (.int pi)] [(.int zn), (.int pi)] _
    refine st137 _ ?_
    show Sp p e below m T137 6 #[.val (.ref ab), .val (.int pi)] [] _
    refine XS.aloadN X137.here hx rfl (hb hby d33_6) rfl rfl ?_
    refine XS.iloadN X137.here hx rfl (hb hby d33_7) rfl ?_
    show Sp p e below m T137 8 #[.val (.ref ab), .val (.int pi)] [(.int pi), (.ref ab)] _
    refine X137.baloadBytes hx (j := pi) (v := (.int bv)) (by rw [e137]; exact Ar138.1) (State.isArrayOf_alike hZ.alike Ar138.2.1) Ar138.2.2 hin138 hat138 (g := (mkF m 8 #[.val (.ref ab), .val (.int pi)] [(.int pi), (.ref ab)])) rfl rfl (hb hby d33_8) _ ?_
    show Sp p e below m T137 9 #[.val (.ref ab), .val (.int pi)] [(.int bv)] _
    refine XS.sipush X137.here hx rfl (hb hby d33_9) ?_
    refine XS.iand X137.here hx rfl (hb hby d33_12) rfl ?_
    show Sp p e below m T137 13 #[.val (.ref ab), .val (.int pi)] [(.int (bv &&& (255 : Int32)))] _
    refine XS.i2c X137.here hx rfl (hb hby d33_13) rfl ?_
    show Sp p e below m T137 14 #[.val (.ref ab), .val (.int pi)] [(.int ((bv &&& (255 : Int32)).toUInt32.toUInt16.toUInt32.toInt32))] _
    exact retN X137 hx (t := .char) Bd.returns (by simp) (hb hby d33_14) hr
  · show Q33 Z ab pi cs vf kb zn vs bv h0 n0 _ T137.heap _
    rw [e137]
    exact ⟨rfl, N137, rfl⟩
theorem own_latlat (b : Int32) : some (Value.int (nar .char (own_lat b))) = some (Value.int (own_lat b)) := by
  have h : nar .char (own_lat b) = own_lat b := by
    apply Int32.toInt_inj.mp
    have h1 := c_i2c ((b &&& (255 : Int32)).toUInt32.toUInt16.toUInt32.toInt32)
    have h2 := c_i2c (own_lat b)
    show (own_lat b).toUInt32.toUInt16.toUInt32.toInt32.toInt = (own_lat b).toInt
    have e : (own_lat b).toInt = ((b &&& (255 : Int32)).toUInt32.toUInt16.toUInt32.toInt32).toUInt32.toUInt16.toUInt32.toInt32.toInt := rfl
    omega
  rw [h]
theorem d32_0 : decode jdk_42_method_56_code 0 = .ok (.aload_n 0, 1) := by decide +kernel
theorem d32_1 : decode jdk_42_method_56_code 1 = .ok (.invokevirtual 492, 3) := by decide +kernel
theorem own_pd132 : parseMethodDescriptor "()Z" = some ⟨[], some .boolean⟩ := by decide +kernel
theorem d32_4 : decode jdk_42_method_56_code 4 = .ok (.ifCond .eq 12, 3) := by decide +kernel
theorem d32_7 : decode jdk_42_method_56_code 7 = .ok (.aload_n 0, 1) := by decide +kernel
theorem d32_8 : decode jdk_42_method_56_code 8 = .ok (.getfield 9, 3) := by decide +kernel
theorem d32_11 : decode jdk_42_method_56_code 11 = .ok (.iload_n 1, 1) := by decide +kernel
theorem d32_12 : decode jdk_42_method_56_code 12 = .ok (.invokestatic 495, 3) := by decide +kernel
theorem own_pd138 : parseMethodDescriptor "([BI)C" = some ⟨[(.array .byte), .int], some .char⟩ := by decide +kernel
theorem d32_15 : decode jdk_42_method_56_code 15 = .ok (.ireturn, 1) := by decide +kernel
theorem ef_32 (m : MethodId) (x0 : Addr) (x1 : Int32) : entryFrame m #[(.ref x0), (.int x1)] 2 = mkF m 0 #[.val (.ref x0), .val (.int x1)] [] := by first | (simp [entryFrame, mkF, argsToLocals, Value.category]; done) | rfl
def Q32 (Z : State) (aa : Addr) (pi : Int32) (cs : Int32) (vf : Value) (ab : Addr) (kb : ClassId) (zn : Int32) (vs : List Value) (bv : Int32) (h0 : Heap) (n0 : Nat) (v : Option Value) (h : Heap) (L : List Loc) : Prop := v = some (.int (own_lat bv)) ∧ Fr n0 L ∧ h = h0
set_option maxRecDepth 65536 in
set_option maxHeartbeats 40000000 in
theorem rm32 (l : Launch) (Z : State) (a0 : Array Value) (hw : ∀ d ∈ tables_1, d.before a0 Z = true) (ws : List Jvm.Cond) (aa : Addr) (pi : Int32) (cs : Int32) (vf : Value) (ab : Addr) (kb : ClassId) (zn : Int32) (vs : List Value) (bv : Int32) (h0 : Heap) (n0 : Nat) (Z0 : n0 ≤ h0.size) (O0 : Old Z n0 h0) (Scs : Sta Z Z.heap "java/lang/String" "COMPACT_STRINGS" "Z" (.int cs)) (hcs : ¬ cs = (0 : Int32)) (Ssf : Sta Z Z.heap "jdk/internal/util/Preconditions" "SIOOBE_FORMATTER" "Ljava/util/function/BiFunction;" vf) (hvf : vf.isRef = true) (Ea : Exa Z h0 aa "java/lang/String") (Fv : Fld Z h0 aa "java/lang/String" "value" "[B" (.ref ab)) (Fc : Fld Z h0 aa "java/lang/String" "coder" "B" (.int (0 : Int32))) (Va : Arv Z h0 ab kb .byte zn vs (.int (0 : Int32))) (h0i : ¬ pi < (0 : Int32)) (hlt : pi < zn) (hget : vs.getD pi.toNatClampNeg (.int (0 : Int32)) = .int bv) :
    MetFree l (⟨"java/lang/String", "charAt", "(I)C"⟩ : MethodName) (head1 (Jvm.Cond.code (⟨"java/lang/String", "charAt", "(I)C"⟩ : MethodName) jdk_42_method_56_code 2 (some .char) :: ws) ({ frames := 3, cells := 0, slots := 0, locals := 40 } : Room)) (fun a U => a = #[(.ref aa), (.int pi)] ∧ Z.Warmed39 U.vm ∧ U.heap = h0) (fun _ _ _ _ _ => True) (fun _ U o U' => ∃ v L, o = .returned v ∧ Q32 Z aa pi cs vf ab kb zn vs bv h0 n0 v U'.heap L ∧ FrameEnd U o U' L ({ frames := 3, cells := 0, slots := 0, locals := 40 } : Room).cells ({ frames := 3, cells := 0, slots := 0, locals := 40 } : Room).slots) := by
  refine MetFree.of_bodySF (plainFor_of_name own_pn8) hisR ?_
  intro p e s m args below meth c s₁ Bd hml0 hP hK
  have H := fun i c (h : tables_1[i]? = some c) => hw c (List.mem_of_getElem? h)
  obtain ⟨rfl, hZ, hh⟩ := hP
  have hx := Bd.exec
  have hby := Bd.bytes
  have hml : c.maxLocals = 2 := hml0
  have hown : s.vm.findClass "java/lang/String" = some m.cls := findClass_of_methodNamed Bd.named
  have hnm := (name_of_methodNamed Bd.named Bd.method).1
  have X0 : Stand p l e ({ frames := 3, cells := 0, slots := 0, locals := 40 } : Room) s m #[(.ref aa), (.int pi)] below meth c s₁ [] 0 0 := Stand.of_body Bd
  have e0 : s₁.heap = h0 := by rw [← hh, Bd.state]; rfl
  have N0 := Fr.nil n0
  have pre0 : ∀ t, Sp p e below m s₁ 0 #[.val (.ref aa), .val (.int pi)] [] t → Steps p.tables e below (s₁.setTop (entryFrame m #[(.ref aa), (.int pi)] 2)) t := fun t k => castTop (ef_32 m aa pi) k
  generalize s₁.setTop (entryFrame m #[(.ref aa), (.int pi)] 2) = G0 at pre0 ⊢
  obtain ⟨cq142, kq142, q142a, q142b, q142c⟩ := isOf hZ e0 Ea
  obtain ⟨_, _, ⟨T142, L142, k142, n142⟩, -, X142, ⟨Lc142, hQ142, l142, y142, z142⟩, st142⟩ := X0.virtualBack hx (y := (⟨"java/lang/String", "isLatin1", "()Z"⟩ : MethodName)) (z := (⟨"java/lang/String", "isLatin1", "()Z"⟩ : MethodName)) hown (mvT hZ (H 46 _ rfl)) (mvT hZ (H 47 _ rfl)) (notFace_of_selects (args := #[]) (mvT hZ (H 49 _ rfl))) (mvT hZ (H 49 _ rfl)) (mvT hZ (H 48 _ rfl)) (by decide) (backOf (W := 0) (rm10 l Z a0 hw [] aa cs vf h0 n0 Z0 O0 Scs hcs Ssf hvf Fc) hZ (H 50 _ rfl) (H 5 _ rfl) (by decide) (by decide)) q142a q142c (g := (mkF m 1 #[.val (.ref aa), .val (.int pi)] [(.ref aa)])) rfl (by rw [hml]; rfl) (Steps.refl _) (argsL := []) (rest := []) (lenOf own_pd132 rfl) rfl (Nat.le_of_eq rfl) (hb hby d32_1) (fun _ _ => ⟨rfl, e0, (by decide : 0 + 0 ≤ _), (by decide : 0 + 0 ≤ _)⟩)
  dsimp only [Pt.U, Pt.locs, Pt.cells, Pt.slots] at X142 l142 y142 z142 st142 hQ142
  rw [l142, y142, z142] at X142
  clear l142 y142 z142
  obtain ⟨rfl, Nq142, e142⟩ := hQ142
  have N142 := Fr.app N0 Nq142
  obtain ⟨T143, X143, e143, st143⟩ := getF X142 hx hZ hown (host := "") (Or.inl (H 30 _ rfl)) Via.refl e142 Fv (g := (mkF m 8 #[.val (.ref aa), .val (.int pi)] [(.ref aa)])) rfl rfl (hb hby d32_8)
  obtain ⟨_, _, ⟨T144, L144, k144, n144⟩, -, X144, ⟨Lc144, hQ144, l144, y144, z144⟩, st144⟩ := Jvm.LawKit.callS X143 hx (y := (⟨"java/lang/StringLatin1", "charAt", "([BI)C"⟩ : MethodName)) hown (mvT hZ (H 155 _ rfl)) (mvT hZ (H 156 _ rfl)) (mvT hZ (H 63 _ rfl)) (mvT hZ (H 157 _ rfl)) (by decide) (backOf (W := 0) (rm33 l Z a0 hw [] ab pi cs vf kb zn vs bv h0 n0 Z0 O0 Scs hcs Ssf hvf Va h0i hlt hget) hZ (H 157 _ rfl) (H 63 _ rfl) (by decide) (by decide)) (g := (mkF m 12 #[.val (.ref aa), .val (.int pi)] [(.int pi), (.ref ab)])) rfl (by rw [hml]; rfl) (argsL := [(.ref ab), (.int pi)]) (rest := []) (lenOf own_pd138 rfl) rfl (Nat.le_of_eq rfl) (hb hby d32_12) (fun _ _ => ⟨rfl, e143, (by decide : 0 + 0 ≤ _), (by decide : 0 + 0 ≤ _)⟩)
  dsimp only [Pt.U, Pt.locs, Pt.cells, Pt.slots] at X144 l144 y144 z144 st144 hQ144
  rw [l144, y144, z144] at X144
  clear l144 y144 z144
  obtain ⟨rfl, Nq144, e144⟩ := hQ144
  have N144 := Fr.app N142 Nq144
  obtain ⟨fs, hr, hrun, hended, hW, hsame⟩ := X144.leave (v := some (.int (nar .char (own_lat bv)))) (fun h => by rw [Bd.returns] at h; cases h)
  refine ⟨_, _, pre0 _ ?_, hrun, hended, _, _, rfl, ?_, ⟨_, rfl⟩, hW, hsame.mono (by decide) (by decide)⟩
  · show Sp p e below m s₁ 0 #[.val (.ref aa), .val (.int pi)] [] _
    refine XS.aloadN X0.here hx rfl (hb hby d32_0) rfl rfl ?_
    refine st142.trans ?_
    show Sp p e below m T142 4 #[.val (.ref aa), .val (.int pi)] [(.int (1 : Int32))] _
    refine XS.ifNo X142.here hx rfl (hb hby d32_4) rfl ((if0 _ _).trans (feq (by decide : ¬ ((1 : Int32) = (0 : Int32)))).1) ?_
    show Sp p e below m T142 7 #[.val (.ref aa), .val (.int pi)] [] _
    refine XS.aloadN X142.here hx rfl (hb hby d32_7) rfl rfl ?_
    refine st143 _ ?_
    show Sp p e below m T143 11 #[.val (.ref aa), .val (.int pi)] [(.ref ab)] _
    refine XS.iloadN X143.here hx rfl (hb hby d32_11) rfl ?_
    refine st144 _ ?_
    show Sp p e below m T144 15 #[.val (.ref aa), .val (.int pi)] [(.int (own_lat bv))] _
    exact retN X144 hx (t := .char) Bd.returns (by simp) (hb hby d32_15) hr
  · show Q32 Z aa pi cs vf ab kb zn vs bv h0 n0 _ T144.heap _
    rw [e144]
    exact ⟨own_latlat bv, N144, rfl⟩
def own_find5 (b0 b1 b2 b3 b4 : Int32) : Int32 := if b0 = 46 then 0 else if b1 = 46 then 1 else if b2 = 46 then 2 else if b3 = 46 then 3 else if b4 = 46 then 4 else -1
theorem d17_0 : decode jdk_43_method_23_code 0 = .ok (.iload_n 1, 1) := by decide +kernel
theorem d17_1 : decode jdk_43_method_23_code 1 = .ok (.i2b, 1) := by decide +kernel
theorem d17_2 : decode jdk_43_method_23_code 2 = .ok (.istore 4, 2) := by decide +kernel
theorem d17_4 : decode jdk_43_method_23_code 4 = .ok (.iload_n 2, 1) := by decide +kernel
theorem d17_5 : decode jdk_43_method_23_code 5 = .ok (.istore 5, 2) := by decide +kernel
theorem d17_7 : decode jdk_43_method_23_code 7 = .ok (.iload 5, 2) := by decide +kernel
theorem d17_9 : decode jdk_43_method_23_code 9 = .ok (.iload_n 3, 1) := by decide +kernel
theorem d17_10 : decode jdk_43_method_23_code 10 = .ok (.if_icmp .ge 21, 3) := by decide +kernel
theorem d17_13 : decode jdk_43_method_23_code 13 = .ok (.aload_n 0, 1) := by decide +kernel
theorem d17_14 : decode jdk_43_method_23_code 14 = .ok (.iload 5, 2) := by decide +kernel
theorem d17_16 : decode jdk_43_method_23_code 16 = .ok (.baload, 1) := by decide +kernel
theorem d17_17 : decode jdk_43_method_23_code 17 = .ok (.iload 4, 2) := by decide +kernel
theorem d17_19 : decode jdk_43_method_23_code 19 = .ok (.if_icmp .ne 6, 3) := by decide +kernel
theorem d17_22 : decode jdk_43_method_23_code 22 = .ok (.iload 5, 2) := by decide +kernel
theorem d17_24 : decode jdk_43_method_23_code 24 = .ok (.ireturn, 1) := by decide +kernel
theorem d17_25 : decode jdk_43_method_23_code 25 = .ok (.iinc 5 1, 3) := by decide +kernel
theorem d17_28 : decode jdk_43_method_23_code 28 = .ok (.goto (-21), 3) := by decide +kernel
theorem d17_31 : decode jdk_43_method_23_code 31 = .ok (.iconst (-1), 1) := by decide +kernel
theorem d17_32 : decode jdk_43_method_23_code 32 = .ok (.ireturn, 1) := by decide +kernel
theorem ef_17n5 (m : MethodId) (x0 : Addr) : entryFrame m #[(.ref x0), (.int (46 : Int32)), (.int (0 : Int32)), (.int (5 : Int32))] 6 = mkF m 0 #[.val (.ref x0), .val (.int (46 : Int32)), .val (.int (0 : Int32)), .val (.int (5 : Int32)), .unset, .unset] [] := by first | (simp [entryFrame, mkF, argsToLocals, Value.category]; done) | rfl
def Q17n5 (Z : State) (ab : Addr) (kb : ClassId) (ee0 : Int32) (ee1 : Int32) (ee2 : Int32) (ee3 : Int32) (ee4 : Int32) (h0 : Heap) (n0 : Nat) (v : Option Value) (h : Heap) (L : List Loc) : Prop := v = some (.int (own_find5 ee0 ee1 ee2 ee3 ee4)) ∧ Fr n0 L ∧ h = h0
set_option maxRecDepth 65536 in
set_option maxHeartbeats 40000000 in
theorem rm17n5 (l : Launch) (Z : State) (a0 : Array Value) (hw : ∀ d ∈ tables_1, d.before a0 Z = true) (ws : List Jvm.Cond) (ab : Addr) (kb : ClassId) (ee0 : Int32) (ee1 : Int32) (ee2 : Int32) (ee3 : Int32) (ee4 : Int32) (h0 : Heap) (n0 : Nat) (Z0 : n0 ≤ h0.size) (Va : Arv Z h0 ab kb .byte (5 : Int32) [(.int ee0), (.int ee1), (.int ee2), (.int ee3), (.int ee4)] (.int (0 : Int32))) :
    MetFree l (⟨"java/lang/StringLatin1", "indexOfChar", "([BIII)I"⟩ : MethodName) (head1 (Jvm.Cond.code (⟨"java/lang/StringLatin1", "indexOfChar", "([BIII)I"⟩ : MethodName) jdk_43_method_23_code 6 (some .int) :: ws) ({ frames := 0, cells := 0, slots := 0, locals := 0 } : Room)) (fun a U => a = #[(.ref ab), (.int (46 : Int32)), (.int (0 : Int32)), (.int (5 : Int32))] ∧ Z.Warmed39 U.vm ∧ U.heap = h0) (fun _ _ _ _ _ => True) (fun _ U o U' => ∃ v L, o = .returned v ∧ Q17n5 Z ab kb ee0 ee1 ee2 ee3 ee4 h0 n0 v U'.heap L ∧ FrameEnd U o U' L ({ frames := 0, cells := 0, slots := 0, locals := 0 } : Room).cells ({ frames := 0, cells := 0, slots := 0, locals := 0 } : Room).slots) := by
  refine MetFree.of_bodySF (plainFor_of_name own_pn129) hisR ?_
  intro p e s m args below meth c s₁ Bd hml0 hP hK
  have H := fun i c (h : tables_1[i]? = some c) => hw c (List.mem_of_getElem? h)
  obtain ⟨rfl, hZ, hh⟩ := hP
  have hx := Bd.exec
  have hby := Bd.bytes
  have hml : c.maxLocals = 6 := hml0
  have hown : s.vm.findClass "java/lang/StringLatin1" = some m.cls := findClass_of_methodNamed Bd.named
  have hnm := (name_of_methodNamed Bd.named Bd.method).1
  have X0 : Stand p l e ({ frames := 0, cells := 0, slots := 0, locals := 0 } : Room) s m #[(.ref ab), (.int (46 : Int32)), (.int (0 : Int32)), (.int (5 : Int32))] below meth c s₁ [] 0 0 := Stand.of_body Bd
  have e0 : s₁.heap = h0 := by rw [← hh, Bd.state]; rfl
  have N0 := Fr.nil n0
  have pre0 : ∀ t, Sp p e below m s₁ 0 #[.val (.ref ab), .val (.int (46 : Int32)), .val (.int (0 : Int32)), .val (.int (5 : Int32)), .unset, .unset] [] t → Steps p.tables e below (s₁.setTop (entryFrame m #[(.ref ab), (.int (46 : Int32)), (.int (0 : Int32)), (.int (5 : Int32))] 6)) t := fun t k => castTop (ef_17n5 m ab) k
  generalize s₁.setTop (entryFrame m #[(.ref ab), (.int (46 : Int32)), (.int (0 : Int32)), (.int (5 : Int32))] 6) = G0 at pre0 ⊢
  obtain ⟨cl160, Ar160, -, S160, -, H160, -⟩ := id Va
  have hin160 : ¬ ((0 : Int32) < 0 ∨ cl160.slots.size ≤ ((0 : Int32)).toNatClampNeg) := inb_of S160 ⟨by decide, by decide⟩
  have hat160 : cl160.slots[((0 : Int32)).toNatClampNeg]? = some (.int ee0) := H160.at hin160 rfl
  have pre161 : ∀ t, Sp p e below m s₁ 19 #[.val (.ref ab), .val (.int (46 : Int32)), .val (.int (0 : Int32)), .val (.int (5 : Int32)), .val (.int (46 : Int32)), .val (.int (0 : Int32))] [(.int (46 : Int32)), (.int ee0)] t → Steps p.tables e below G0 t := by
    intro t k
    refine pre0 t ?_
    show Sp p e below m s₁ 0 #[.val (.ref ab), .val (.int (46 : Int32)), .val (.int (0 : Int32)), .val (.int (5 : Int32)), .unset, .unset] [] _
    refine XS.iloadN X0.here hx rfl (hb hby d17_0) rfl ?_
    refine XS.i2b X0.here hx rfl (hb hby d17_1) rfl ?_
    show Sp p e below m s₁ 2 #[.val (.ref ab), .val (.int (46 : Int32)), .val (.int (0 : Int32)), .val (.int (5 : Int32)), .unset, .unset] [(.int (46 : Int32))] _
    refine XS.istore X0.here hx rfl (hb hby d17_2) rfl (l' := #[.val (.ref ab), .val (.int (46 : Int32)), .val (.int (0 : Int32)), .val (.int (5 : Int32)), .val (.int (46 : Int32)), .unset]) rfl ?_
    show Sp p e below m s₁ 4 #[.val (.ref ab), .val (.int (46 : Int32)), .val (.int (0 : Int32)), .val (.int (5 : Int32)), .val (.int (46 : Int32)), .unset] [] _
    refine XS.iloadN X0.here hx rfl (hb hby d17_4) rfl ?_
    refine XS.istore X0.here hx rfl (hb hby d17_5) rfl (l' := #[.val (.ref ab), .val (.int (46 : Int32)), .val (.int (0 : Int32)), .val (.int (5 : Int32)), .val (.int (46 : Int32)), .val (.int (0 : Int32))]) rfl ?_
    show Sp p e below m s₁ 7 #[.val (.ref ab), .val (.int (46 : Int32)), .val (.int (0 : Int32)), .val (.int (5 : Int32)), .val (.int (46 : Int32)), .val (.int (0 : Int32))] [] _
    refine XS.iload X0.here hx rfl (hb hby d17_7) rfl ?_
    refine XS.iloadN X0.here hx rfl (hb hby d17_9) rfl ?_
    show Sp p e below m s₁ 10 #[.val (.ref ab), .val (.int (46 : Int32)), .val (.int (0 : Int32)), .val (.int (5 : Int32)), .val (.int (46 : Int32)), .val (.int (0 : Int32))] [(.int (5 : Int32)), (.int (0 : Int32))] _
    refine XS.icmpNo X0.here hx rfl (hb hby d17_10) rfl (tlt (by decide : ((0 : Int32) < (5 : Int32)))).2.1 ?_
    show Sp p e below m s₁ 13 #[.val (.ref ab), .val (.int (46 : Int32)), .val (.int (0 : Int32)), .val (.int (5 : Int32)), .val (.int (46 : Int32)), .val (.int (0 : Int32))] [] _
    refine XS.aloadN X0.here hx rfl (hb hby d17_13) rfl rfl ?_
    refine XS.iload X0.here hx rfl (hb hby d17_14) rfl ?_
    show Sp p e below m s₁ 16 #[.val (.ref ab), .val (.int (46 : Int32)), .val (.int (0 : Int32)), .val (.int (5 : Int32)), .val (.int (46 : Int32)), .val (.int (0 : Int32))] [(.int (0 : Int32)), (.ref ab)] _
    refine X0.baloadBytes hx (j := (0 : Int32)) (v := (.int ee0)) (by rw [e0]; exact Ar160.1) (State.isArrayOf_alike hZ.alike Ar160.2.1) Ar160.2.2 hin160 hat160 (g := (mkF m 16 #[.val (.ref ab), .val (.int (46 : Int32)), .val (.int (0 : Int32)), .val (.int (5 : Int32)), .val (.int (46 : Int32)), .val (.int (0 : Int32))] [(.int (0 : Int32)), (.ref ab)])) rfl rfl (hb hby d17_16) _ ?_
    show Sp p e below m s₁ 17 #[.val (.ref ab), .val (.int (46 : Int32)), .val (.int (0 : Int32)), .val (.int (5 : Int32)), .val (.int (46 : Int32)), .val (.int (0 : Int32))] [(.int ee0)] _
    refine XS.iload X0.here hx rfl (hb hby d17_17) rfl ?_
    exact k
  by_cases hc19_162 : ee0 = (46 : Int32)
  · obtain ⟨fs, hr, hrun, hended, hW, hsame⟩ := X0.leave (v := some (.int (0 : Int32))) (fun h => by rw [Bd.returns] at h; cases h)
    refine ⟨_, _, pre161 _ ?_, hrun, hended, _, _, rfl, ?_, ⟨_, rfl⟩, hW, hsame.mono (by decide) (by decide)⟩
    · show Sp p e below m s₁ 19 #[.val (.ref ab), .val (.int (46 : Int32)), .val (.int (0 : Int32)), .val (.int (5 : Int32)), .val (.int (46 : Int32)), .val (.int (0 : Int32))] [(.int (46 : Int32)), (.int ee0)] _
      refine XS.icmpNo X0.here hx rfl (hb hby d17_19) rfl (teq hc19_162).2 ?_
      show Sp p e below m s₁ 22 #[.val (.ref ab), .val (.int (46 : Int32)), .val (.int (0 : Int32)), .val (.int (5 : Int32)), .val (.int (46 : Int32)), .val (.int (0 : Int32))] [] _
      refine XS.iload X0.here hx rfl (hb hby d17_22) rfl ?_
      exact retI X0 hx Bd.returns (hb hby d17_24) hr
    · show Q17n5 Z ab kb ee0 ee1 ee2 ee3 ee4 h0 n0 _ s₁.heap _
      rw [e0]
      exact ⟨(by unfold own_find5; rw [if_pos hc19_162]), N0, rfl⟩
  · obtain ⟨cl163, Ar163, -, S163, -, H163, -⟩ := id Va
    have hin163 : ¬ ((1 : Int32) < 0 ∨ cl163.slots.size ≤ ((1 : Int32)).toNatClampNeg) := inb_of S163 ⟨by decide, by decide⟩
    have hat163 : cl163.slots[((1 : Int32)).toNatClampNeg]? = some (.int ee1) := H163.at hin163 rfl
    have pre164 : ∀ t, Sp p e below m s₁ 19 #[.val (.ref ab), .val (.int (46 : Int32)), .val (.int (0 : Int32)), .val (.int (5 : Int32)), .val (.int (46 : Int32)), .val (.int (1 : Int32))] [(.int (46 : Int32)), (.int ee1)] t → Steps p.tables e below G0 t := by
      intro t k
      refine pre161 t ?_
      show Sp p e below m s₁ 19 #[.val (.ref ab), .val (.int (46 : Int32)), .val (.int (0 : Int32)), .val (.int (5 : Int32)), .val (.int (46 : Int32)), .val (.int (0 : Int32))] [(.int (46 : Int32)), (.int ee0)] _
      refine XS.icmpYes X0.here hx rfl (pc0 := 19) (pc' := 25) rfl (hb hby d17_19) rfl (feq hc19_162).2 (by decide) (by decide) ?_
      show Sp p e below m s₁ 25 #[.val (.ref ab), .val (.int (46 : Int32)), .val (.int (0 : Int32)), .val (.int (5 : Int32)), .val (.int (46 : Int32)), .val (.int (0 : Int32))] [] _
      refine XS.iinc X0.here hx rfl (hb hby d17_25) rfl (l' := #[.val (.ref ab), .val (.int (46 : Int32)), .val (.int (0 : Int32)), .val (.int (5 : Int32)), .val (.int (46 : Int32)), .val (.int (1 : Int32))]) rfl ?_
      show Sp p e below m s₁ 28 #[.val (.ref ab), .val (.int (46 : Int32)), .val (.int (0 : Int32)), .val (.int (5 : Int32)), .val (.int (46 : Int32)), .val (.int (1 : Int32))] [] _
      refine XS.goto X0.here hx rfl (pc0 := 28) (pc' := 7) rfl (hb hby d17_28) (by decide) (by decide) ?_
      show Sp p e below m s₁ 7 #[.val (.ref ab), .val (.int (46 : Int32)), .val (.int (0 : Int32)), .val (.int (5 : Int32)), .val (.int (46 : Int32)), .val (.int (1 : Int32))] [] _
      refine XS.iload X0.here hx rfl (hb hby d17_7) rfl ?_
      refine XS.iloadN X0.here hx rfl (hb hby d17_9) rfl ?_
      show Sp p e below m s₁ 10 #[.val (.ref ab), .val (.int (46 : Int32)), .val (.int (0 : Int32)), .val (.int (5 : Int32)), .val (.int (46 : Int32)), .val (.int (1 : Int32))] [(.int (5 : Int32)), (.int (1 : Int32))] _
      refine XS.icmpNo X0.here hx rfl (hb hby d17_10) rfl (tlt (by decide : ((1 : Int32) < (5 : Int32)))).2.1 ?_
      show Sp p e below m s₁ 13 #[.val (.ref ab), .val (.int (46 : Int32)), .val (.int (0 : Int32)), .val (.int (5 : Int32)), .val (.int (46 : Int32)), .val (.int (1 : Int32))] [] _
      refine XS.aloadN X0.here hx rfl (hb hby d17_13) rfl rfl ?_
      refine XS.iload X0.here hx rfl (hb hby d17_14) rfl ?_
      show Sp p e below m s₁ 16 #[.val (.ref ab), .val (.int (46 : Int32)), .val (.int (0 : Int32)), .val (.int (5 : Int32)), .val (.int (46 : Int32)), .val (.int (1 : Int32))] [(.int (1 : Int32)), (.ref ab)] _
      refine X0.baloadBytes hx (j := (1 : Int32)) (v := (.int ee1)) (by rw [e0]; exact Ar163.1) (State.isArrayOf_alike hZ.alike Ar163.2.1) Ar163.2.2 hin163 hat163 (g := (mkF m 16 #[.val (.ref ab), .val (.int (46 : Int32)), .val (.int (0 : Int32)), .val (.int (5 : Int32)), .val (.int (46 : Int32)), .val (.int (1 : Int32))] [(.int (1 : Int32)), (.ref ab)])) rfl rfl (hb hby d17_16) _ ?_
      show Sp p e below m s₁ 17 #[.val (.ref ab), .val (.int (46 : Int32)), .val (.int (0 : Int32)), .val (.int (5 : Int32)), .val (.int (46 : Int32)), .val (.int (1 : Int32))] [(.int ee1)] _
      refine XS.iload X0.here hx rfl (hb hby d17_17) rfl ?_
      exact k
    by_cases hc19_165 : ee1 = (46 : Int32)
    · obtain ⟨fs, hr, hrun, hended, hW, hsame⟩ := X0.leave (v := some (.int (1 : Int32))) (fun h => by rw [Bd.returns] at h; cases h)
      refine ⟨_, _, pre164 _ ?_, hrun, hended, _, _, rfl, ?_, ⟨_, rfl⟩, hW, hsame.mono (by decide) (by decide)⟩
      · show Sp p e below m s₁ 19 #[.val (.ref ab), .val (.int (46 : Int32)), .val (.int (0 : Int32)), .val (.int (5 : Int32)), .val (.int (46 : Int32)), .val (.int (1 : Int32))] [(.int (46 : Int32)), (.int ee1)] _
        refine XS.icmpNo X0.here hx rfl (hb hby d17_19) rfl (teq hc19_165).2 ?_
        show Sp p e below m s₁ 22 #[.val (.ref ab), .val (.int (46 : Int32)), .val (.int (0 : Int32)), .val (.int (5 : Int32)), .val (.int (46 : Int32)), .val (.int (1 : Int32))] [] _
        refine XS.iload X0.here hx rfl (hb hby d17_22) rfl ?_
        exact retI X0 hx Bd.returns (hb hby d17_24) hr
      · show Q17n5 Z ab kb ee0 ee1 ee2 ee3 ee4 h0 n0 _ s₁.heap _
        rw [e0]
        exact ⟨(by unfold own_find5; rw [if_neg hc19_162, if_pos hc19_165]), N0, rfl⟩
    · obtain ⟨cl166, Ar166, -, S166, -, H166, -⟩ := id Va
      have hin166 : ¬ ((2 : Int32) < 0 ∨ cl166.slots.size ≤ ((2 : Int32)).toNatClampNeg) := inb_of S166 ⟨by decide, by decide⟩
      have hat166 : cl166.slots[((2 : Int32)).toNatClampNeg]? = some (.int ee2) := H166.at hin166 rfl
      have pre167 : ∀ t, Sp p e below m s₁ 19 #[.val (.ref ab), .val (.int (46 : Int32)), .val (.int (0 : Int32)), .val (.int (5 : Int32)), .val (.int (46 : Int32)), .val (.int (2 : Int32))] [(.int (46 : Int32)), (.int ee2)] t → Steps p.tables e below G0 t := by
        intro t k
        refine pre164 t ?_
        show Sp p e below m s₁ 19 #[.val (.ref ab), .val (.int (46 : Int32)), .val (.int (0 : Int32)), .val (.int (5 : Int32)), .val (.int (46 : Int32)), .val (.int (1 : Int32))] [(.int (46 : Int32)), (.int ee1)] _
        refine XS.icmpYes X0.here hx rfl (pc0 := 19) (pc' := 25) rfl (hb hby d17_19) rfl (feq hc19_165).2 (by decide) (by decide) ?_
        show Sp p e below m s₁ 25 #[.val (.ref ab), .val (.int (46 : Int32)), .val (.int (0 : Int32)), .val (.int (5 : Int32)), .val (.int (46 : Int32)), .val (.int (1 : Int32))] [] _
        refine XS.iinc X0.here hx rfl (hb hby d17_25) rfl (l' := #[.val (.ref ab), .val (.int (46 : Int32)), .val (.int (0 : Int32)), .val (.int (5 : Int32)), .val (.int (46 : Int32)), .val (.int (2 : Int32))]) rfl ?_
        show Sp p e below m s₁ 28 #[.val (.ref ab), .val (.int (46 : Int32)), .val (.int (0 : Int32)), .val (.int (5 : Int32)), .val (.int (46 : Int32)), .val (.int (2 : Int32))] [] _
        refine XS.goto X0.here hx rfl (pc0 := 28) (pc' := 7) rfl (hb hby d17_28) (by decide) (by decide) ?_
        show Sp p e below m s₁ 7 #[.val (.ref ab), .val (.int (46 : Int32)), .val (.int (0 : Int32)), .val (.int (5 : Int32)), .val (.int (46 : Int32)), .val (.int (2 : Int32))] [] _
        refine XS.iload X0.here hx rfl (hb hby d17_7) rfl ?_
        refine XS.iloadN X0.here hx rfl (hb hby d17_9) rfl ?_
        show Sp p e below m s₁ 10 #[.val (.ref ab), .val (.int (46 : Int32)), .val (.int (0 : Int32)), .val (.int (5 : Int32)), .val (.int (46 : Int32)), .val (.int (2 : Int32))] [(.int (5 : Int32)), (.int (2 : Int32))] _
        refine XS.icmpNo X0.here hx rfl (hb hby d17_10) rfl (tlt (by decide : ((2 : Int32) < (5 : Int32)))).2.1 ?_
        show Sp p e below m s₁ 13 #[.val (.ref ab), .val (.int (46 : Int32)), .val (.int (0 : Int32)), .val (.int (5 : Int32)), .val (.int (46 : Int32)), .val (.int (2 : Int32))] [] _
        refine XS.aloadN X0.here hx rfl (hb hby d17_13) rfl rfl ?_
        refine XS.iload X0.here hx rfl (hb hby d17_14) rfl ?_
        show Sp p e below m s₁ 16 #[.val (.ref ab), .val (.int (46 : Int32)), .val (.int (0 : Int32)), .val (.int (5 : Int32)), .val (.int (46 : Int32)), .val (.int (2 : Int32))] [(.int (2 : Int32)), (.ref ab)] _
        refine X0.baloadBytes hx (j := (2 : Int32)) (v := (.int ee2)) (by rw [e0]; exact Ar166.1) (State.isArrayOf_alike hZ.alike Ar166.2.1) Ar166.2.2 hin166 hat166 (g := (mkF m 16 #[.val (.ref ab), .val (.int (46 : Int32)), .val (.int (0 : Int32)), .val (.int (5 : Int32)), .val (.int (46 : Int32)), .val (.int (2 : Int32))] [(.int (2 : Int32)), (.ref ab)])) rfl rfl (hb hby d17_16) _ ?_
        show Sp p e below m s₁ 17 #[.val (.ref ab), .val (.int (46 : Int32)), .val (.int (0 : Int32)), .val (.int (5 : Int32)), .val (.int (46 : Int32)), .val (.int (2 : Int32))] [(.int ee2)] _
        refine XS.iload X0.here hx rfl (hb hby d17_17) rfl ?_
        exact k
      by_cases hc19_168 : ee2 = (46 : Int32)
      · obtain ⟨fs, hr, hrun, hended, hW, hsame⟩ := X0.leave (v := some (.int (2 : Int32))) (fun h => by rw [Bd.returns] at h; cases h)
        refine ⟨_, _, pre167 _ ?_, hrun, hended, _, _, rfl, ?_, ⟨_, rfl⟩, hW, hsame.mono (by decide) (by decide)⟩
        · show Sp p e below m s₁ 19 #[.val (.ref ab), .val (.int (46 : Int32)), .val (.int (0 : Int32)), .val (.int (5 : Int32)), .val (.int (46 : Int32)), .val (.int (2 : Int32))] [(.int (46 : Int32)), (.int ee2)] _
          refine XS.icmpNo X0.here hx rfl (hb hby d17_19) rfl (teq hc19_168).2 ?_
          show Sp p e below m s₁ 22 #[.val (.ref ab), .val (.int (46 : Int32)), .val (.int (0 : Int32)), .val (.int (5 : Int32)), .val (.int (46 : Int32)), .val (.int (2 : Int32))] [] _
          refine XS.iload X0.here hx rfl (hb hby d17_22) rfl ?_
          exact retI X0 hx Bd.returns (hb hby d17_24) hr
        · show Q17n5 Z ab kb ee0 ee1 ee2 ee3 ee4 h0 n0 _ s₁.heap _
          rw [e0]
          exact ⟨(by unfold own_find5; rw [if_neg hc19_162, if_neg hc19_165, if_pos hc19_168]), N0, rfl⟩
      · obtain ⟨cl169, Ar169, -, S169, -, H169, -⟩ := id Va
        have hin169 : ¬ ((3 : Int32) < 0 ∨ cl169.slots.size ≤ ((3 : Int32)).toNatClampNeg) := inb_of S169 ⟨by decide, by decide⟩
        have hat169 : cl169.slots[((3 : Int32)).toNatClampNeg]? = some (.int ee3) := H169.at hin169 rfl
        have pre170 : ∀ t, Sp p e below m s₁ 19 #[.val (.ref ab), .val (.int (46 : Int32)), .val (.int (0 : Int32)), .val (.int (5 : Int32)), .val (.int (46 : Int32)), .val (.int (3 : Int32))] [(.int (46 : Int32)), (.int ee3)] t → Steps p.tables e below G0 t := by
          intro t k
          refine pre167 t ?_
          show Sp p e below m s₁ 19 #[.val (.ref ab), .val (.int (46 : Int32)), .val (.int (0 : Int32)), .val (.int (5 : Int32)), .val (.int (46 : Int32)), .val (.int (2 : Int32))] [(.int (46 : Int32)), (.int ee2)] _
          refine XS.icmpYes X0.here hx rfl (pc0 := 19) (pc' := 25) rfl (hb hby d17_19) rfl (feq hc19_168).2 (by decide) (by decide) ?_
          show Sp p e below m s₁ 25 #[.val (.ref ab), .val (.int (46 : Int32)), .val (.int (0 : Int32)), .val (.int (5 : Int32)), .val (.int (46 : Int32)), .val (.int (2 : Int32))] [] _
          refine XS.iinc X0.here hx rfl (hb hby d17_25) rfl (l' := #[.val (.ref ab), .val (.int (46 : Int32)), .val (.int (0 : Int32)), .val (.int (5 : Int32)), .val (.int (46 : Int32)), .val (.int (3 : Int32))]) rfl ?_
          show Sp p e below m s₁ 28 #[.val (.ref ab), .val (.int (46 : Int32)), .val (.int (0 : Int32)), .val (.int (5 : Int32)), .val (.int (46 : Int32)), .val (.int (3 : Int32))] [] _
          refine XS.goto X0.here hx rfl (pc0 := 28) (pc' := 7) rfl (hb hby d17_28) (by decide) (by decide) ?_
          show Sp p e below m s₁ 7 #[.val (.ref ab), .val (.int (46 : Int32)), .val (.int (0 : Int32)), .val (.int (5 : Int32)), .val (.int (46 : Int32)), .val (.int (3 : Int32))] [] _
          refine XS.iload X0.here hx rfl (hb hby d17_7) rfl ?_
          refine XS.iloadN X0.here hx rfl (hb hby d17_9) rfl ?_
          show Sp p e below m s₁ 10 #[.val (.ref ab), .val (.int (46 : Int32)), .val (.int (0 : Int32)), .val (.int (5 : Int32)), .val (.int (46 : Int32)), .val (.int (3 : Int32))] [(.int (5 : Int32)), (.int (3 : Int32))] _
          refine XS.icmpNo X0.here hx rfl (hb hby d17_10) rfl (tlt (by decide : ((3 : Int32) < (5 : Int32)))).2.1 ?_
          show Sp p e below m s₁ 13 #[.val (.ref ab), .val (.int (46 : Int32)), .val (.int (0 : Int32)), .val (.int (5 : Int32)), .val (.int (46 : Int32)), .val (.int (3 : Int32))] [] _
          refine XS.aloadN X0.here hx rfl (hb hby d17_13) rfl rfl ?_
          refine XS.iload X0.here hx rfl (hb hby d17_14) rfl ?_
          show Sp p e below m s₁ 16 #[.val (.ref ab), .val (.int (46 : Int32)), .val (.int (0 : Int32)), .val (.int (5 : Int32)), .val (.int (46 : Int32)), .val (.int (3 : Int32))] [(.int (3 : Int32)), (.ref ab)] _
          refine X0.baloadBytes hx (j := (3 : Int32)) (v := (.int ee3)) (by rw [e0]; exact Ar169.1) (State.isArrayOf_alike hZ.alike Ar169.2.1) Ar169.2.2 hin169 hat169 (g := (mkF m 16 #[.val (.ref ab), .val (.int (46 : Int32)), .val (.int (0 : Int32)), .val (.int (5 : Int32)), .val (.int (46 : Int32)), .val (.int (3 : Int32))] [(.int (3 : Int32)), (.ref ab)])) rfl rfl (hb hby d17_16) _ ?_
          show Sp p e below m s₁ 17 #[.val (.ref ab), .val (.int (46 : Int32)), .val (.int (0 : Int32)), .val (.int (5 : Int32)), .val (.int (46 : Int32)), .val (.int (3 : Int32))] [(.int ee3)] _
          refine XS.iload X0.here hx rfl (hb hby d17_17) rfl ?_
          exact k
        by_cases hc19_171 : ee3 = (46 : Int32)
        · obtain ⟨fs, hr, hrun, hended, hW, hsame⟩ := X0.leave (v := some (.int (3 : Int32))) (fun h => by rw [Bd.returns] at h; cases h)
          refine ⟨_, _, pre170 _ ?_, hrun, hended, _, _, rfl, ?_, ⟨_, rfl⟩, hW, hsame.mono (by decide) (by decide)⟩
          · show Sp p e below m s₁ 19 #[.val (.ref ab), .val (.int (46 : Int32)), .val (.int (0 : Int32)), .val (.int (5 : Int32)), .val (.int (46 : Int32)), .val (.int (3 : Int32))] [(.int (46 : Int32)), (.int ee3)] _
            refine XS.icmpNo X0.here hx rfl (hb hby d17_19) rfl (teq hc19_171).2 ?_
            show Sp p e below m s₁ 22 #[.val (.ref ab), .val (.int (46 : Int32)), .val (.int (0 : Int32)), .val (.int (5 : Int32)), .val (.int (46 : Int32)), .val (.int (3 : Int32))] [] _
            refine XS.iload X0.here hx rfl (hb hby d17_22) rfl ?_
            exact retI X0 hx Bd.returns (hb hby d17_24) hr
          · show Q17n5 Z ab kb ee0 ee1 ee2 ee3 ee4 h0 n0 _ s₁.heap _
            rw [e0]
            exact ⟨(by unfold own_find5; rw [if_neg hc19_162, if_neg hc19_165, if_neg hc19_168, if_pos hc19_171]), N0, rfl⟩
        · obtain ⟨cl172, Ar172, -, S172, -, H172, -⟩ := id Va
          have hin172 : ¬ ((4 : Int32) < 0 ∨ cl172.slots.size ≤ ((4 : Int32)).toNatClampNeg) := inb_of S172 ⟨by decide, by decide⟩
          have hat172 : cl172.slots[((4 : Int32)).toNatClampNeg]? = some (.int ee4) := H172.at hin172 rfl
          have pre173 : ∀ t, Sp p e below m s₁ 19 #[.val (.ref ab), .val (.int (46 : Int32)), .val (.int (0 : Int32)), .val (.int (5 : Int32)), .val (.int (46 : Int32)), .val (.int (4 : Int32))] [(.int (46 : Int32)), (.int ee4)] t → Steps p.tables e below G0 t := by
            intro t k
            refine pre170 t ?_
            show Sp p e below m s₁ 19 #[.val (.ref ab), .val (.int (46 : Int32)), .val (.int (0 : Int32)), .val (.int (5 : Int32)), .val (.int (46 : Int32)), .val (.int (3 : Int32))] [(.int (46 : Int32)), (.int ee3)] _
            refine XS.icmpYes X0.here hx rfl (pc0 := 19) (pc' := 25) rfl (hb hby d17_19) rfl (feq hc19_171).2 (by decide) (by decide) ?_
            show Sp p e below m s₁ 25 #[.val (.ref ab), .val (.int (46 : Int32)), .val (.int (0 : Int32)), .val (.int (5 : Int32)), .val (.int (46 : Int32)), .val (.int (3 : Int32))] [] _
            refine XS.iinc X0.here hx rfl (hb hby d17_25) rfl (l' := #[.val (.ref ab), .val (.int (46 : Int32)), .val (.int (0 : Int32)), .val (.int (5 : Int32)), .val (.int (46 : Int32)), .val (.int (4 : Int32))]) rfl ?_
            show Sp p e below m s₁ 28 #[.val (.ref ab), .val (.int (46 : Int32)), .val (.int (0 : Int32)), .val (.int (5 : Int32)), .val (.int (46 : Int32)), .val (.int (4 : Int32))] [] _
            refine XS.goto X0.here hx rfl (pc0 := 28) (pc' := 7) rfl (hb hby d17_28) (by decide) (by decide) ?_
            show Sp p e below m s₁ 7 #[.val (.ref ab), .val (.int (46 : Int32)), .val (.int (0 : Int32)), .val (.int (5 : Int32)), .val (.int (46 : Int32)), .val (.int (4 : Int32))] [] _
            refine XS.iload X0.here hx rfl (hb hby d17_7) rfl ?_
            refine XS.iloadN X0.here hx rfl (hb hby d17_9) rfl ?_
            show Sp p e below m s₁ 10 #[.val (.ref ab), .val (.int (46 : Int32)), .val (.int (0 : Int32)), .val (.int (5 : Int32)), .val (.int (46 : Int32)), .val (.int (4 : Int32))] [(.int (5 : Int32)), (.int (4 : Int32))] _
            refine XS.icmpNo X0.here hx rfl (hb hby d17_10) rfl (tlt (by decide : ((4 : Int32) < (5 : Int32)))).2.1 ?_
            show Sp p e below m s₁ 13 #[.val (.ref ab), .val (.int (46 : Int32)), .val (.int (0 : Int32)), .val (.int (5 : Int32)), .val (.int (46 : Int32)), .val (.int (4 : Int32))] [] _
            refine XS.aloadN X0.here hx rfl (hb hby d17_13) rfl rfl ?_
            refine XS.iload X0.here hx rfl (hb hby d17_14) rfl ?_
            show Sp p e below m s₁ 16 #[.val (.ref ab), .val (.int (46 : Int32)), .val (.int (0 : Int32)), .val (.int (5 : Int32)), .val (.int (46 : Int32)), .val (.int (4 : Int32))] [(.int (4 : Int32)), (.ref ab)] _
            refine X0.baloadBytes hx (j := (4 : Int32)) (v := (.int ee4)) (by rw [e0]; exact Ar172.1) (State.isArrayOf_alike hZ.alike Ar172.2.1) Ar172.2.2 hin172 hat172 (g := (mkF m 16 #[.val (.ref ab), .val (.int (46 : Int32)), .val (.int (0 : Int32)), .val (.int (5 : Int32)), .val (.int (46 : Int32)), .val (.int (4 : Int32))] [(.int (4 : Int32)), (.ref ab)])) rfl rfl (hb hby d17_16) _ ?_
            show Sp p e below m s₁ 17 #[.val (.ref ab), .val (.int (46 : Int32)), .val (.int (0 : Int32)), .val (.int (5 : Int32)), .val (.int (46 : Int32)), .val (.int (4 : Int32))] [(.int ee4)] _
            refine XS.iload X0.here hx rfl (hb hby d17_17) rfl ?_
            exact k
          by_cases hc19_174 : ee4 = (46 : Int32)
          · obtain ⟨fs, hr, hrun, hended, hW, hsame⟩ := X0.leave (v := some (.int (4 : Int32))) (fun h => by rw [Bd.returns] at h; cases h)
            refine ⟨_, _, pre173 _ ?_, hrun, hended, _, _, rfl, ?_, ⟨_, rfl⟩, hW, hsame.mono (by decide) (by decide)⟩
            · show Sp p e below m s₁ 19 #[.val (.ref ab), .val (.int (46 : Int32)), .val (.int (0 : Int32)), .val (.int (5 : Int32)), .val (.int (46 : Int32)), .val (.int (4 : Int32))] [(.int (46 : Int32)), (.int ee4)] _
              refine XS.icmpNo X0.here hx rfl (hb hby d17_19) rfl (teq hc19_174).2 ?_
              show Sp p e below m s₁ 22 #[.val (.ref ab), .val (.int (46 : Int32)), .val (.int (0 : Int32)), .val (.int (5 : Int32)), .val (.int (46 : Int32)), .val (.int (4 : Int32))] [] _
              refine XS.iload X0.here hx rfl (hb hby d17_22) rfl ?_
              exact retI X0 hx Bd.returns (hb hby d17_24) hr
            · show Q17n5 Z ab kb ee0 ee1 ee2 ee3 ee4 h0 n0 _ s₁.heap _
              rw [e0]
              exact ⟨(by unfold own_find5; rw [if_neg hc19_162, if_neg hc19_165, if_neg hc19_168, if_neg hc19_171, if_pos hc19_174]), N0, rfl⟩
          · obtain ⟨fs, hr, hrun, hended, hW, hsame⟩ := X0.leave (v := some (.int (-1 : Int32))) (fun h => by rw [Bd.returns] at h; cases h)
            refine ⟨_, _, pre173 _ ?_, hrun, hended, _, _, rfl, ?_, ⟨_, rfl⟩, hW, hsame.mono (by decide) (by decide)⟩
            · show Sp p e below m s₁ 19 #[.val (.ref ab), .val (.int (46 : Int32)), .val (.int (0 : Int32)), .val (.int (5 : Int32)), .val (.int (46 : Int32)), .val (.int (4 : Int32))] [(.int (46 : Int32)), (.int ee4)] _
              refine XS.icmpYes X0.here hx rfl (pc0 := 19) (pc' := 25) rfl (hb hby d17_19) rfl (feq hc19_174).2 (by decide) (by decide) ?_
              show Sp p e below m s₁ 25 #[.val (.ref ab), .val (.int (46 : Int32)), .val (.int (0 : Int32)), .val (.int (5 : Int32)), .val (.int (46 : Int32)), .val (.int (4 : Int32))] [] _
              refine XS.iinc X0.here hx rfl (hb hby d17_25) rfl (l' := #[.val (.ref ab), .val (.int (46 : Int32)), .val (.int (0 : Int32)), .val (.int (5 : Int32)), .val (.int (46 : Int32)), .val (.int (5 : Int32))]) rfl ?_
              show Sp p e below m s₁ 28 #[.val (.ref ab), .val (.int (46 : Int32)), .val (.int (0 : Int32)), .val (.int (5 : Int32)), .val (.int (46 : Int32)), .val (.int (5 : Int32))] [] _
              refine XS.goto X0.here hx rfl (pc0 := 28) (pc' := 7) rfl (hb hby d17_28) (by decide) (by decide) ?_
              show Sp p e below m s₁ 7 #[.val (.ref ab), .val (.int (46 : Int32)), .val (.int (0 : Int32)), .val (.int (5 : Int32)), .val (.int (46 : Int32)), .val (.int (5 : Int32))] [] _
              refine XS.iload X0.here hx rfl (hb hby d17_7) rfl ?_
              refine XS.iloadN X0.here hx rfl (hb hby d17_9) rfl ?_
              show Sp p e below m s₁ 10 #[.val (.ref ab), .val (.int (46 : Int32)), .val (.int (0 : Int32)), .val (.int (5 : Int32)), .val (.int (46 : Int32)), .val (.int (5 : Int32))] [(.int (5 : Int32)), (.int (5 : Int32))] _
              refine XS.icmpYes X0.here hx rfl (pc0 := 10) (pc' := 31) rfl (hb hby d17_10) rfl (flt (by decide : ¬ ((5 : Int32) < (5 : Int32)))).2.1 (by decide) (by decide) ?_
              show Sp p e below m s₁ 31 #[.val (.ref ab), .val (.int (46 : Int32)), .val (.int (0 : Int32)), .val (.int (5 : Int32)), .val (.int (46 : Int32)), .val (.int (5 : Int32))] [] _
              refine XS.iconst X0.here hx rfl (hb hby d17_31) ?_
              exact retI X0 hx Bd.returns (hb hby d17_32) hr
            · show Q17n5 Z ab kb ee0 ee1 ee2 ee3 ee4 h0 n0 _ s₁.heap _
              rw [e0]
              exact ⟨(by unfold own_find5; rw [if_neg hc19_162, if_neg hc19_165, if_neg hc19_168, if_neg hc19_171, if_neg hc19_174]), N0, rfl⟩
theorem d14_0 : decode jdk_43_method_4_code 0 = .ok (.iload_n 0, 1) := by decide +kernel
theorem d14_1 : decode jdk_43_method_4_code 1 = .ok (.ifCond .lt 14, 3) := by decide +kernel
theorem d14_4 : decode jdk_43_method_4_code 4 = .ok (.iload_n 0, 1) := by decide +kernel
theorem d14_5 : decode jdk_43_method_4_code 5 = .ok (.sipush 255, 3) := by decide +kernel
theorem d14_8 : decode jdk_43_method_4_code 8 = .ok (.if_icmp .gt 7, 3) := by decide +kernel
theorem d14_11 : decode jdk_43_method_4_code 11 = .ok (.iconst 1, 1) := by decide +kernel
theorem d14_12 : decode jdk_43_method_4_code 12 = .ok (.goto 4, 3) := by decide +kernel
theorem d14_16 : decode jdk_43_method_4_code 16 = .ok (.ireturn, 1) := by decide +kernel
theorem ef_14l46 (m : MethodId)  : entryFrame m #[(.int (46 : Int32))] 1 = mkF m 0 #[.val (.int (46 : Int32))] [] := by first | (simp [entryFrame, mkF, argsToLocals, Value.category]; done) | rfl
def Q14l46 (Z : State)  (h0 : Heap) (n0 : Nat) (v : Option Value) (h : Heap) (L : List Loc) : Prop := v = some (.int (1 : Int32)) ∧ Fr n0 L ∧ h = h0
set_option maxRecDepth 65536 in
set_option maxHeartbeats 40000000 in
theorem rm14l46 (l : Launch) (Z : State) (a0 : Array Value) (hw : ∀ d ∈ tables_1, d.before a0 Z = true) (ws : List Jvm.Cond)  (h0 : Heap) (n0 : Nat) (Z0 : n0 ≤ h0.size) :
    MetFree l (⟨"java/lang/StringLatin1", "canEncode", "(I)Z"⟩ : MethodName) (head1 (Jvm.Cond.code (⟨"java/lang/StringLatin1", "canEncode", "(I)Z"⟩ : MethodName) jdk_43_method_4_code 1 (some .boolean) :: ws) ({ frames := 0, cells := 0, slots := 0, locals := 0 } : Room)) (fun a U => a = #[(.int (46 : Int32))] ∧ Z.Warmed39 U.vm ∧ U.heap = h0) (fun _ _ _ _ _ => True) (fun _ U o U' => ∃ v L, o = .returned v ∧ Q14l46 Z  h0 n0 v U'.heap L ∧ FrameEnd U o U' L ({ frames := 0, cells := 0, slots := 0, locals := 0 } : Room).cells ({ frames := 0, cells := 0, slots := 0, locals := 0 } : Room).slots) := by
  refine MetFree.of_bodySF (plainFor_of_name own_pn129) hisR ?_
  intro p e s m args below meth c s₁ Bd hml0 hP hK
  have H := fun i c (h : tables_1[i]? = some c) => hw c (List.mem_of_getElem? h)
  obtain ⟨rfl, hZ, hh⟩ := hP
  have hx := Bd.exec
  have hby := Bd.bytes
  have hml : c.maxLocals = 1 := hml0
  have hown : s.vm.findClass "java/lang/StringLatin1" = some m.cls := findClass_of_methodNamed Bd.named
  have hnm := (name_of_methodNamed Bd.named Bd.method).1
  have X0 : Stand p l e ({ frames := 0, cells := 0, slots := 0, locals := 0 } : Room) s m #[(.int (46 : Int32))] below meth c s₁ [] 0 0 := Stand.of_body Bd
  have e0 : s₁.heap = h0 := by rw [← hh, Bd.state]; rfl
  have N0 := Fr.nil n0
  have pre0 : ∀ t, Sp p e below m s₁ 0 #[.val (.int (46 : Int32))] [] t → Steps p.tables e below (s₁.setTop (entryFrame m #[(.int (46 : Int32))] 1)) t := fun t k => castTop (ef_14l46 m ) k
  generalize s₁.setTop (entryFrame m #[(.int (46 : Int32))] 1) = G0 at pre0 ⊢
  obtain ⟨fs, hr, hrun, hended, hW, hsame⟩ := X0.leave (v := some (.int (1 : Int32))) (fun h => by rw [Bd.returns] at h; cases h)
  refine ⟨_, _, pre0 _ ?_, hrun, hended, _, _, rfl, ?_, ⟨_, rfl⟩, hW, hsame.mono (by decide) (by decide)⟩
  · show Sp p e below m s₁ 0 #[.val (.int (46 : Int32))] [] _
    refine XS.iloadN X0.here hx rfl (hb hby d14_0) rfl ?_
    refine XS.ifNo X0.here hx rfl (hb hby d14_1) rfl ((if0 _ _).trans (flt (by decide : ¬ ((46 : Int32) < (0 : Int32)))).1) ?_
    show Sp p e below m s₁ 4 #[.val (.int (46 : Int32))] [] _
    refine XS.iloadN X0.here hx rfl (hb hby d14_4) rfl ?_
    refine XS.sipush X0.here hx rfl (hb hby d14_5) ?_
    show Sp p e below m s₁ 8 #[.val (.int (46 : Int32))] [(.int (255 : Int32)), (.int (46 : Int32))] _
    refine XS.icmpNo X0.here hx rfl (hb hby d14_8) rfl (flt (by decide : ¬ ((255 : Int32) < (46 : Int32)))).2.2.1 ?_
    show Sp p e below m s₁ 11 #[.val (.int (46 : Int32))] [] _
    refine XS.iconst X0.here hx rfl (hb hby d14_11) ?_
    refine XS.goto X0.here hx rfl (pc0 := 12) (pc' := 16) rfl (hb hby d14_12) (by decide) (by decide) ?_
    show Sp p e below m s₁ 16 #[.val (.int (46 : Int32))] [(.int (1 : Int32))] _
    exact retN X0 hx (t := .boolean) Bd.returns (by simp) (hb hby d14_16) hr
  · show Q14l46 Z  h0 n0 _ s₁.heap _
    rw [e0]
    exact ⟨rfl, N0, rfl⟩
theorem d15_0 : decode jdk_29_method_65_code 0 = .ok (.iload_n 0, 1) := by decide +kernel
theorem d15_1 : decode jdk_29_method_65_code 1 = .ok (.iload_n 1, 1) := by decide +kernel
theorem d15_2 : decode jdk_29_method_65_code 2 = .ok (.if_icmp .lt 7, 3) := by decide +kernel
theorem d15_9 : decode jdk_29_method_65_code 9 = .ok (.iload_n 1, 1) := by decide +kernel
theorem d15_10 : decode jdk_29_method_65_code 10 = .ok (.ireturn, 1) := by decide +kernel
theorem d15_5 : decode jdk_29_method_65_code 5 = .ok (.iload_n 0, 1) := by decide +kernel
theorem d15_6 : decode jdk_29_method_65_code 6 = .ok (.goto 4, 3) := by decide +kernel
theorem ef_15 (m : MethodId) (x0 : Int32) (x1 : Int32) : entryFrame m #[(.int x0), (.int x1)] 2 = mkF m 0 #[.val (.int x0), .val (.int x1)] [] := by first | (simp [entryFrame, mkF, argsToLocals, Value.category]; done) | rfl
def Q15 (Z : State) (pa : Int32) (pb : Int32) (h0 : Heap) (n0 : Nat) (v : Option Value) (h : Heap) (L : List Loc) : Prop := v = some (.int (if pa < pb then pb else pa)) ∧ Fr n0 L ∧ h = h0
set_option maxRecDepth 65536 in
set_option maxHeartbeats 40000000 in
theorem rm15 (l : Launch) (Z : State) (a0 : Array Value) (hw : ∀ d ∈ tables_1, d.before a0 Z = true) (ws : List Jvm.Cond) (pa : Int32) (pb : Int32) (h0 : Heap) (n0 : Nat) (Z0 : n0 ≤ h0.size) :
    MetFree l (⟨"java/lang/Math", "max", "(II)I"⟩ : MethodName) (head1 (Jvm.Cond.code (⟨"java/lang/Math", "max", "(II)I"⟩ : MethodName) jdk_29_method_65_code 2 (some .int) :: ws) ({ frames := 0, cells := 0, slots := 0, locals := 0 } : Room)) (fun a U => a = #[(.int pa), (.int pb)] ∧ Z.Warmed39 U.vm ∧ U.heap = h0) (fun _ _ _ _ _ => True) (fun _ U o U' => ∃ v L, o = .returned v ∧ Q15 Z pa pb h0 n0 v U'.heap L ∧ FrameEnd U o U' L ({ frames := 0, cells := 0, slots := 0, locals := 0 } : Room).cells ({ frames := 0, cells := 0, slots := 0, locals := 0 } : Room).slots) := by
  refine MetFree.of_bodySF (Jvm.Free.JP.mathPlain rfl (by decide +kernel)) hisR ?_
  intro p e s m args below meth c s₁ Bd hml0 hP hK
  have H := fun i c (h : tables_1[i]? = some c) => hw c (List.mem_of_getElem? h)
  obtain ⟨rfl, hZ, hh⟩ := hP
  have hx := Bd.exec
  have hby := Bd.bytes
  have hml : c.maxLocals = 2 := hml0
  have hown : s.vm.findClass "java/lang/Math" = some m.cls := findClass_of_methodNamed Bd.named
  have hnm := (name_of_methodNamed Bd.named Bd.method).1
  have X0 : Stand p l e ({ frames := 0, cells := 0, slots := 0, locals := 0 } : Room) s m #[(.int pa), (.int pb)] below meth c s₁ [] 0 0 := Stand.of_body Bd
  have e0 : s₁.heap = h0 := by rw [← hh, Bd.state]; rfl
  have N0 := Fr.nil n0
  have pre0 : ∀ t, Sp p e below m s₁ 0 #[.val (.int pa), .val (.int pb)] [] t → Steps p.tables e below (s₁.setTop (entryFrame m #[(.int pa), (.int pb)] 2)) t := fun t k => castTop (ef_15 m pa pb) k
  generalize s₁.setTop (entryFrame m #[(.int pa), (.int pb)] 2) = G0 at pre0 ⊢
  have pre177 : ∀ t, Sp p e below m s₁ 2 #[.val (.int pa), .val (.int pb)] [(.int pb), (.int pa)] t → Steps p.tables e below G0 t := by
    intro t k
    refine pre0 t ?_
    show Sp p e below m s₁ 0 #[.val (.int pa), .val (.int pb)] [] _
    refine XS.iloadN X0.here hx rfl (hb hby d15_0) rfl ?_
    refine XS.iloadN X0.here hx rfl (hb hby d15_1) rfl ?_
    exact k
  by_cases hc2_178 : pa < pb
  · obtain ⟨fs, hr, hrun, hended, hW, hsame⟩ := X0.leave (v := some (.int pb)) (fun h => by rw [Bd.returns] at h; cases h)
    refine ⟨_, _, pre177 _ ?_, hrun, hended, _, _, rfl, ?_, ⟨_, rfl⟩, hW, hsame.mono (by decide) (by decide)⟩
    · show Sp p e below m s₁ 2 #[.val (.int pa), .val (.int pb)] [(.int pb), (.int pa)] _
      refine XS.icmpYes X0.here hx rfl (pc0 := 2) (pc' := 9) rfl (hb hby d15_2) rfl (tlt hc2_178).1 (by decide) (by decide) ?_
      show Sp p e below m s₁ 9 #[.val (.int pa), .val (.int pb)] [] _
      refine XS.iloadN X0.here hx rfl (hb hby d15_9) rfl ?_
      exact retI X0 hx Bd.returns (hb hby d15_10) hr
    · show Q15 Z pa pb h0 n0 _ s₁.heap _
      rw [e0]
      exact ⟨(by rw [if_pos hc2_178]), N0, rfl⟩
  · obtain ⟨fs, hr, hrun, hended, hW, hsame⟩ := X0.leave (v := some (.int pa)) (fun h => by rw [Bd.returns] at h; cases h)
    refine ⟨_, _, pre177 _ ?_, hrun, hended, _, _, rfl, ?_, ⟨_, rfl⟩, hW, hsame.mono (by decide) (by decide)⟩
    · show Sp p e below m s₁ 2 #[.val (.int pa), .val (.int pb)] [(.int pb), (.int pa)] _
      refine XS.icmpNo X0.here hx rfl (hb hby d15_2) rfl (flt hc2_178).1 ?_
      show Sp p e below m s₁ 5 #[.val (.int pa), .val (.int pb)] [] _
      refine XS.iloadN X0.here hx rfl (hb hby d15_5) rfl ?_
      refine XS.goto X0.here hx rfl (pc0 := 6) (pc' := 10) rfl (hb hby d15_6) (by decide) (by decide) ?_
      show Sp p e below m s₁ 10 #[.val (.int pa), .val (.int pb)] [(.int pa)] _
      exact retI X0 hx Bd.returns (hb hby d15_10) hr
    · show Q15 Z pa pb h0 n0 _ s₁.heap _
      rw [e0]
      exact ⟨(by rw [if_neg hc2_178]), N0, rfl⟩
theorem d16_0 : decode jdk_29_method_69_code 0 = .ok (.iload_n 0, 1) := by decide +kernel
theorem d16_1 : decode jdk_29_method_69_code 1 = .ok (.iload_n 1, 1) := by decide +kernel
theorem d16_2 : decode jdk_29_method_69_code 2 = .ok (.if_icmp .gt 7, 3) := by decide +kernel
theorem d16_9 : decode jdk_29_method_69_code 9 = .ok (.iload_n 1, 1) := by decide +kernel
theorem d16_10 : decode jdk_29_method_69_code 10 = .ok (.ireturn, 1) := by decide +kernel
theorem d16_5 : decode jdk_29_method_69_code 5 = .ok (.iload_n 0, 1) := by decide +kernel
theorem d16_6 : decode jdk_29_method_69_code 6 = .ok (.goto 4, 3) := by decide +kernel
theorem ef_16 (m : MethodId) (x0 : Int32) (x1 : Int32) : entryFrame m #[(.int x0), (.int x1)] 2 = mkF m 0 #[.val (.int x0), .val (.int x1)] [] := by first | (simp [entryFrame, mkF, argsToLocals, Value.category]; done) | rfl
def Q16 (Z : State) (pa : Int32) (pb : Int32) (h0 : Heap) (n0 : Nat) (v : Option Value) (h : Heap) (L : List Loc) : Prop := v = some (.int (if pb < pa then pb else pa)) ∧ Fr n0 L ∧ h = h0
set_option maxRecDepth 65536 in
set_option maxHeartbeats 40000000 in
theorem rm16 (l : Launch) (Z : State) (a0 : Array Value) (hw : ∀ d ∈ tables_1, d.before a0 Z = true) (ws : List Jvm.Cond) (pa : Int32) (pb : Int32) (h0 : Heap) (n0 : Nat) (Z0 : n0 ≤ h0.size) :
    MetFree l (⟨"java/lang/Math", "min", "(II)I"⟩ : MethodName) (head1 (Jvm.Cond.code (⟨"java/lang/Math", "min", "(II)I"⟩ : MethodName) jdk_29_method_69_code 2 (some .int) :: ws) ({ frames := 0, cells := 0, slots := 0, locals := 0 } : Room)) (fun a U => a = #[(.int pa), (.int pb)] ∧ Z.Warmed39 U.vm ∧ U.heap = h0) (fun _ _ _ _ _ => True) (fun _ U o U' => ∃ v L, o = .returned v ∧ Q16 Z pa pb h0 n0 v U'.heap L ∧ FrameEnd U o U' L ({ frames := 0, cells := 0, slots := 0, locals := 0 } : Room).cells ({ frames := 0, cells := 0, slots := 0, locals := 0 } : Room).slots) := by
  refine MetFree.of_bodySF (Jvm.Free.JP.mathPlain rfl (by decide +kernel)) hisR ?_
  intro p e s m args below meth c s₁ Bd hml0 hP hK
  have H := fun i c (h : tables_1[i]? = some c) => hw c (List.mem_of_getElem? h)
  obtain ⟨rfl, hZ, hh⟩ := hP
  have hx := Bd.exec
  have hby := Bd.bytes
  have hml : c.maxLocals = 2 := hml0
  have hown : s.vm.findClass "java/lang/Math" = some m.cls := findClass_of_methodNamed Bd.named
  have hnm := (name_of_methodNamed Bd.named Bd.method).1
  have X0 : Stand p l e ({ frames := 0, cells := 0, slots := 0, locals := 0 } : Room) s m #[(.int pa), (.int pb)] below meth c s₁ [] 0 0 := Stand.of_body Bd
  have e0 : s₁.heap = h0 := by rw [← hh, Bd.state]; rfl
  have N0 := Fr.nil n0
  have pre0 : ∀ t, Sp p e below m s₁ 0 #[.val (.int pa), .val (.int pb)] [] t → Steps p.tables e below (s₁.setTop (entryFrame m #[(.int pa), (.int pb)] 2)) t := fun t k => castTop (ef_16 m pa pb) k
  generalize s₁.setTop (entryFrame m #[(.int pa), (.int pb)] 2) = G0 at pre0 ⊢
  have pre181 : ∀ t, Sp p e below m s₁ 2 #[.val (.int pa), .val (.int pb)] [(.int pb), (.int pa)] t → Steps p.tables e below G0 t := by
    intro t k
    refine pre0 t ?_
    show Sp p e below m s₁ 0 #[.val (.int pa), .val (.int pb)] [] _
    refine XS.iloadN X0.here hx rfl (hb hby d16_0) rfl ?_
    refine XS.iloadN X0.here hx rfl (hb hby d16_1) rfl ?_
    exact k
  by_cases hc2_182 : pb < pa
  · obtain ⟨fs, hr, hrun, hended, hW, hsame⟩ := X0.leave (v := some (.int pb)) (fun h => by rw [Bd.returns] at h; cases h)
    refine ⟨_, _, pre181 _ ?_, hrun, hended, _, _, rfl, ?_, ⟨_, rfl⟩, hW, hsame.mono (by decide) (by decide)⟩
    · show Sp p e below m s₁ 2 #[.val (.int pa), .val (.int pb)] [(.int pb), (.int pa)] _
      refine XS.icmpYes X0.here hx rfl (pc0 := 2) (pc' := 9) rfl (hb hby d16_2) rfl (tlt hc2_182).2.2.1 (by decide) (by decide) ?_
      show Sp p e below m s₁ 9 #[.val (.int pa), .val (.int pb)] [] _
      refine XS.iloadN X0.here hx rfl (hb hby d16_9) rfl ?_
      exact retI X0 hx Bd.returns (hb hby d16_10) hr
    · show Q16 Z pa pb h0 n0 _ s₁.heap _
      rw [e0]
      exact ⟨(by rw [if_pos hc2_182]), N0, rfl⟩
  · obtain ⟨fs, hr, hrun, hended, hW, hsame⟩ := X0.leave (v := some (.int pa)) (fun h => by rw [Bd.returns] at h; cases h)
    refine ⟨_, _, pre181 _ ?_, hrun, hended, _, _, rfl, ?_, ⟨_, rfl⟩, hW, hsame.mono (by decide) (by decide)⟩
    · show Sp p e below m s₁ 2 #[.val (.int pa), .val (.int pb)] [(.int pb), (.int pa)] _
      refine XS.icmpNo X0.here hx rfl (hb hby d16_2) rfl (flt hc2_182).2.2.1 ?_
      show Sp p e below m s₁ 5 #[.val (.int pa), .val (.int pb)] [] _
      refine XS.iloadN X0.here hx rfl (hb hby d16_5) rfl ?_
      refine XS.goto X0.here hx rfl (pc0 := 6) (pc' := 10) rfl (hb hby d16_6) (by decide) (by decide) ?_
      show Sp p e below m s₁ 10 #[.val (.int pa), .val (.int pb)] [(.int pa)] _
      exact retI X0 hx Bd.returns (hb hby d16_10) hr
    · show Q16 Z pa pb h0 n0 _ s₁.heap _
      rw [e0]
      exact ⟨(by rw [if_neg hc2_182]), N0, rfl⟩
theorem d13_0 : decode jdk_43_method_22_code 0 = .ok (.iload_n 1, 1) := by decide +kernel
theorem d13_1 : decode jdk_43_method_22_code 1 = .ok (.invokestatic 88, 3) := by decide +kernel
theorem own_pd183 : parseMethodDescriptor "(I)Z" = some ⟨[.int], some .boolean⟩ := by decide +kernel
theorem d13_4 : decode jdk_43_method_22_code 4 = .ok (.ifCond .ne 5, 3) := by decide +kernel
theorem d13_9 : decode jdk_43_method_22_code 9 = .ok (.iload_n 2, 1) := by decide +kernel
theorem d13_10 : decode jdk_43_method_22_code 10 = .ok (.iconst 0, 1) := by decide +kernel
theorem d13_11 : decode jdk_43_method_22_code 11 = .ok (.invokestatic 92, 3) := by decide +kernel
theorem own_pd188 : parseMethodDescriptor "(II)I" = some ⟨[.int, .int], some .int⟩ := by decide +kernel
theorem d13_14 : decode jdk_43_method_22_code 14 = .ok (.istore_n 2, 1) := by decide +kernel
theorem d13_15 : decode jdk_43_method_22_code 15 = .ok (.iload_n 3, 1) := by decide +kernel
theorem d13_16 : decode jdk_43_method_22_code 16 = .ok (.aload_n 0, 1) := by decide +kernel
theorem d13_17 : decode jdk_43_method_22_code 17 = .ok (.arraylength, 1) := by decide +kernel
theorem d13_18 : decode jdk_43_method_22_code 18 = .ok (.invokestatic 38, 3) := by decide +kernel
theorem d13_21 : decode jdk_43_method_22_code 21 = .ok (.istore_n 3, 1) := by decide +kernel
theorem d13_22 : decode jdk_43_method_22_code 22 = .ok (.iload_n 2, 1) := by decide +kernel
theorem d13_23 : decode jdk_43_method_22_code 23 = .ok (.iload_n 3, 1) := by decide +kernel
theorem d13_24 : decode jdk_43_method_22_code 24 = .ok (.if_icmp .lt 5, 3) := by decide +kernel
theorem d13_29 : decode jdk_43_method_22_code 29 = .ok (.aload_n 0, 1) := by decide +kernel
theorem d13_30 : decode jdk_43_method_22_code 30 = .ok (.iload_n 1, 1) := by decide +kernel
theorem d13_31 : decode jdk_43_method_22_code 31 = .ok (.iload_n 2, 1) := by decide +kernel
theorem d13_32 : decode jdk_43_method_22_code 32 = .ok (.iload_n 3, 1) := by decide +kernel
theorem d13_33 : decode jdk_43_method_22_code 33 = .ok (.invokestatic 95, 3) := by decide +kernel
theorem own_pd203 : parseMethodDescriptor "([BIII)I" = some ⟨[(.array .byte), .int, .int, .int], some .int⟩ := by decide +kernel
theorem d13_36 : decode jdk_43_method_22_code 36 = .ok (.ireturn, 1) := by decide +kernel
theorem ef_13n5 (m : MethodId) (x0 : Addr) : entryFrame m #[(.ref x0), (.int (46 : Int32)), (.int (0 : Int32)), (.int (5 : Int32))] 4 = mkF m 0 #[.val (.ref x0), .val (.int (46 : Int32)), .val (.int (0 : Int32)), .val (.int (5 : Int32))] [] := by first | (simp [entryFrame, mkF, argsToLocals, Value.category]; done) | rfl
def Q13n5 (Z : State) (ab : Addr) (kb : ClassId) (ee0 : Int32) (ee1 : Int32) (ee2 : Int32) (ee3 : Int32) (ee4 : Int32) (h0 : Heap) (n0 : Nat) (v : Option Value) (h : Heap) (L : List Loc) : Prop := v = some (.int (own_find5 ee0 ee1 ee2 ee3 ee4)) ∧ Fr n0 L ∧ h = h0
set_option maxRecDepth 65536 in
set_option maxHeartbeats 40000000 in
theorem rm13n5 (l : Launch) (Z : State) (a0 : Array Value) (hw : ∀ d ∈ tables_1, d.before a0 Z = true) (ws : List Jvm.Cond) (ab : Addr) (kb : ClassId) (ee0 : Int32) (ee1 : Int32) (ee2 : Int32) (ee3 : Int32) (ee4 : Int32) (h0 : Heap) (n0 : Nat) (Z0 : n0 ≤ h0.size) (Va : Arv Z h0 ab kb .byte (5 : Int32) [(.int ee0), (.int ee1), (.int ee2), (.int ee3), (.int ee4)] (.int (0 : Int32))) :
    MetFree l (⟨"java/lang/StringLatin1", "indexOf", "([BIII)I"⟩ : MethodName) (head1 (Jvm.Cond.code (⟨"java/lang/StringLatin1", "indexOf", "([BIII)I"⟩ : MethodName) jdk_43_method_22_code 4 (some .int) :: ws) ({ frames := 1, cells := 0, slots := 0, locals := 17 } : Room)) (fun a U => a = #[(.ref ab), (.int (46 : Int32)), (.int (0 : Int32)), (.int (5 : Int32))] ∧ Z.Warmed39 U.vm ∧ U.heap = h0) (fun _ _ _ _ _ => True) (fun _ U o U' => ∃ v L, o = .returned v ∧ Q13n5 Z ab kb ee0 ee1 ee2 ee3 ee4 h0 n0 v U'.heap L ∧ FrameEnd U o U' L ({ frames := 1, cells := 0, slots := 0, locals := 17 } : Room).cells ({ frames := 1, cells := 0, slots := 0, locals := 17 } : Room).slots) := by
  refine MetFree.of_bodySF (plainFor_of_name own_pn129) hisR ?_
  intro p e s m args below meth c s₁ Bd hml0 hP hK
  have H := fun i c (h : tables_1[i]? = some c) => hw c (List.mem_of_getElem? h)
  obtain ⟨rfl, hZ, hh⟩ := hP
  have hx := Bd.exec
  have hby := Bd.bytes
  have hml : c.maxLocals = 4 := hml0
  have hown : s.vm.findClass "java/lang/StringLatin1" = some m.cls := findClass_of_methodNamed Bd.named
  have hnm := (name_of_methodNamed Bd.named Bd.method).1
  have X0 : Stand p l e ({ frames := 1, cells := 0, slots := 0, locals := 17 } : Room) s m #[(.ref ab), (.int (46 : Int32)), (.int (0 : Int32)), (.int (5 : Int32))] below meth c s₁ [] 0 0 := Stand.of_body Bd
  have e0 : s₁.heap = h0 := by rw [← hh, Bd.state]; rfl
  have N0 := Fr.nil n0
  have pre0 : ∀ t, Sp p e below m s₁ 0 #[.val (.ref ab), .val (.int (46 : Int32)), .val (.int (0 : Int32)), .val (.int (5 : Int32))] [] t → Steps p.tables e below (s₁.setTop (entryFrame m #[(.ref ab), (.int (46 : Int32)), (.int (0 : Int32)), (.int (5 : Int32))] 4)) t := fun t k => castTop (ef_13n5 m ab) k
  generalize s₁.setTop (entryFrame m #[(.ref ab), (.int (46 : Int32)), (.int (0 : Int32)), (.int (5 : Int32))] 4) = G0 at pre0 ⊢
  obtain ⟨_, _, ⟨T190, L190, k190, n190⟩, -, X190, ⟨Lc190, hQ190, l190, y190, z190⟩, st190⟩ := Jvm.LawKit.callS X0 hx (y := (⟨"java/lang/StringLatin1", "canEncode", "(I)Z"⟩ : MethodName)) hown (mvT hZ (H 65 _ rfl)) (mvT hZ (H 66 _ rfl)) (mvT hZ (H 63 _ rfl)) (mvT hZ (H 67 _ rfl)) (by decide) (backOf (W := 0) (rm14l46 l Z a0 hw []   h0 n0 Z0 ) hZ (H 67 _ rfl) (H 63 _ rfl) (by decide) (by decide)) (g := (mkF m 1 #[.val (.ref ab), .val (.int (46 : Int32)), .val (.int (0 : Int32)), .val (.int (5 : Int32))] [(.int (46 : Int32))])) rfl (by rw [hml]; rfl) (argsL := [(.int (46 : Int32))]) (rest := []) (lenOf own_pd183 rfl) rfl (Nat.le_of_eq rfl) (hb hby d13_1) (fun _ _ => ⟨rfl, e0, (by decide : 0 + 0 ≤ _), (by decide : 0 + 0 ≤ _)⟩)
  dsimp only [Pt.U, Pt.locs, Pt.cells, Pt.slots] at X190 l190 y190 z190 st190 hQ190
  rw [l190, y190, z190] at X190
  clear l190 y190 z190
  obtain ⟨rfl, Nq190, e190⟩ := hQ190
  have N190 := Fr.app N0 Nq190
  obtain ⟨_, _, ⟨T191, L191, k191, n191⟩, -, X191, ⟨Lc191, hQ191, l191, y191, z191⟩, st191⟩ := Jvm.LawKit.callS X190 hx (y := (⟨"java/lang/Math", "max", "(II)I"⟩ : MethodName)) hown (mvT hZ (H 68 _ rfl)) (mvT hZ (H 69 _ rfl)) (mvT hZ (H 70 _ rfl)) (mvT hZ (H 71 _ rfl)) (by decide) (backOf (W := 0) (rm15 l Z a0 hw [] (0 : Int32) (0 : Int32)  h0 n0 Z0 ) hZ (H 71 _ rfl) (H 70 _ rfl) (by decide) (by decide)) (g := (mkF m 11 #[.val (.ref ab), .val (.int (46 : Int32)), .val (.int (0 : Int32)), .val (.int (5 : Int32))] [(.int (0 : Int32)), (.int (0 : Int32))])) rfl (by rw [hml]; rfl) (argsL := [(.int (0 : Int32)), (.int (0 : Int32))]) (rest := []) (lenOf own_pd188 rfl) rfl (Nat.le_of_eq rfl) (hb hby d13_11) (fun _ _ => ⟨rfl, e190, (by decide : 0 + 0 ≤ _), (by decide : 0 + 0 ≤ _)⟩)
  dsimp only [Pt.U, Pt.locs, Pt.cells, Pt.slots] at X191 l191 y191 z191 st191 hQ191
  rw [l191, y191, z191] at X191
  clear l191 y191 z191
  obtain ⟨rfl, Nq191, e191⟩ := hQ191
  have N191 := Fr.app N190 Nq191
  have pre192 : ∀ t, Sp p e below m T191 14 #[.val (.ref ab), .val (.int (46 : Int32)), .val (.int (0 : Int32)), .val (.int (5 : Int32))] [(.int (if (0 : Int32) < (0 : Int32) then (0 : Int32) else (0 : Int32)))] t → Steps p.tables e below G0 t := by
    intro t k
    refine pre0 t ?_
    show Sp p e below m s₁ 0 #[.val (.ref ab), .val (.int (46 : Int32)), .val (.int (0 : Int32)), .val (.int (5 : Int32))] [] _
    refine XS.iloadN X0.here hx rfl (hb hby d13_0) rfl ?_
    refine st190 _ ?_
    show Sp p e below m T190 4 #[.val (.ref ab), .val (.int (46 : Int32)), .val (.int (0 : Int32)), .val (.int (5 : Int32))] [(.int (1 : Int32))] _
    refine XS.ifYes X190.here hx rfl (pc0 := 4) (pc' := 9) rfl (hb hby d13_4) rfl ((if0 _ _).trans (feq (by decide : ¬ ((1 : Int32) = (0 : Int32)))).2) (by decide) (by decide) ?_
    show Sp p e below m T190 9 #[.val (.ref ab), .val (.int (46 : Int32)), .val (.int (0 : Int32)), .val (.int (5 : Int32))] [] _
    refine XS.iloadN X190.here hx rfl (hb hby d13_9) rfl ?_
    refine XS.iconst X190.here hx rfl (hb hby d13_10) ?_
    show Sp p e below m T190 11 #[.val (.ref ab), .val (.int (46 : Int32)), .val (.int (0 : Int32)), .val (.int (5 : Int32))] [(.int (0 : Int32)), (.int (0 : Int32))] _
    refine st191 _ ?_
    exact k
  rw [show (if (0 : Int32) < (0 : Int32) then (0 : Int32) else (0 : Int32)) = (0 : Int32) from by decide] at pre192
  obtain ⟨cl193, Ar193, -, S193, M193, -, -⟩ := id Va
  obtain ⟨_, _, ⟨T194, L194, k194, n194⟩, -, X194, ⟨Lc194, hQ194, l194, y194, z194⟩, st194⟩ := Jvm.LawKit.callS X191 hx (y := (⟨"java/lang/Math", "min", "(II)I"⟩ : MethodName)) hown (mvT hZ (H 72 _ rfl)) (mvT hZ (H 73 _ rfl)) (mvT hZ (H 70 _ rfl)) (mvT hZ (H 74 _ rfl)) (by decide) (backOf (W := 0) (rm16 l Z a0 hw [] (5 : Int32) (5 : Int32)  h0 n0 Z0 ) hZ (H 74 _ rfl) (H 70 _ rfl) (by decide) (by decide)) (g := (mkF m 18 #[.val (.ref ab), .val (.int (46 : Int32)), .val (.int (0 : Int32)), .val (.int (5 : Int32))] [(.int (5 : Int32)), (.int (5 : Int32))])) rfl (by rw [hml]; rfl) (argsL := [(.int (5 : Int32)), (.int (5 : Int32))]) (rest := []) (lenOf own_pd188 rfl) rfl (Nat.le_of_eq rfl) (hb hby d13_18) (fun _ _ => ⟨rfl, e191, (by decide : 0 + 0 ≤ _), (by decide : 0 + 0 ≤ _)⟩)
  dsimp only [Pt.U, Pt.locs, Pt.cells, Pt.slots] at X194 l194 y194 z194 st194 hQ194
  rw [l194, y194, z194] at X194
  clear l194 y194 z194
  obtain ⟨rfl, Nq194, e194⟩ := hQ194
  have N194 := Fr.app N191 Nq194
  have pre195 : ∀ t, Sp p e below m T194 21 #[.val (.ref ab), .val (.int (46 : Int32)), .val (.int (0 : Int32)), .val (.int (5 : Int32))] [(.int (if (5 : Int32) < (5 : Int32) then (5 : Int32) else (5 : Int32)))] t → Steps p.tables e below G0 t := by
    intro t k
    refine pre192 t ?_
    show Sp p e below m T191 14 #[.val (.ref ab), .val (.int (46 : Int32)), .val (.int (0 : Int32)), .val (.int (5 : Int32))] [(.int (0 : Int32))] _
    refine XS.istoreN X191.here hx rfl (hb hby d13_14) rfl (l' := #[.val (.ref ab), .val (.int (46 : Int32)), .val (.int (0 : Int32)), .val (.int (5 : Int32))]) rfl ?_
    show Sp p e below m T191 15 #[.val (.ref ab), .val (.int (46 : Int32)), .val (.int (0 : Int32)), .val (.int (5 : Int32))] [] _
    refine XS.iloadN X191.here hx rfl (hb hby d13_15) rfl ?_
    refine XS.aloadN X191.here hx rfl (hb hby d13_16) rfl rfl ?_
    show Sp p e below m T191 17 #[.val (.ref ab), .val (.int (46 : Int32)), .val (.int (0 : Int32)), .val (.int (5 : Int32))] [(.ref ab), (.int (5 : Int32))] _
    refine X191.arraylength hx (by rw [e191]; exact Ar193.1) (State.isArrayOf_alike hZ.alike Ar193.2.1) (g := (mkF m 17 #[.val (.ref ab), .val (.int (46 : Int32)), .val (.int (0 : Int32)), .val (.int (5 : Int32))] [(.ref ab), (.int (5 : Int32))])) rfl rfl (hb hby d13_17) _ ?_
    rw [len_of S193 M193]
    show Sp p e below m T191 18 #[.val (.ref ab), .val (.int (46 : Int32)), .val (.int (0 : Int32)), .val (.int (5 : Int32))] [(.int (5 : Int32)), (.int (5 : Int32))] _
    refine st194 _ ?_
    exact k
  rw [show (if (5 : Int32) < (5 : Int32) then (5 : Int32) else (5 : Int32)) = (5 : Int32) from by decide] at pre195
  obtain ⟨_, _, ⟨T196, L196, k196, n196⟩, -, X196, ⟨Lc196, hQ196, l196, y196, z196⟩, st196⟩ := Jvm.LawKit.callS X194 hx (y := (⟨"java/lang/StringLatin1", "indexOfChar", "([BIII)I"⟩ : MethodName)) hown (mvT hZ (H 75 _ rfl)) (mvT hZ (H 76 _ rfl)) (mvT hZ (H 63 _ rfl)) (mvT hZ (H 77 _ rfl)) (by decide) (backOf (W := 0) (rm17n5 l Z a0 hw [] ab kb ee0 ee1 ee2 ee3 ee4 h0 n0 Z0 Va) hZ (H 77 _ rfl) (H 63 _ rfl) (by decide) (by decide)) (g := (mkF m 33 #[.val (.ref ab), .val (.int (46 : Int32)), .val (.int (0 : Int32)), .val (.int (5 : Int32))] [(.int (5 : Int32)), (.int (0 : Int32)), (.int (46 : Int32)), (.ref ab)])) rfl (by rw [hml]; rfl) (argsL := [(.ref ab), (.int (46 : Int32)), (.int (0 : Int32)), (.int (5 : Int32))]) (rest := []) (lenOf own_pd203 rfl) rfl (Nat.le_of_eq rfl) (hb hby d13_33) (fun _ _ => ⟨rfl, e194, (by decide : 0 + 0 ≤ _), (by decide : 0 + 0 ≤ _)⟩)
  dsimp only [Pt.U, Pt.locs, Pt.cells, Pt.slots] at X196 l196 y196 z196 st196 hQ196
  rw [l196, y196, z196] at X196
  clear l196 y196 z196
  obtain ⟨rfl, Nq196, e196⟩ := hQ196
  have N196 := Fr.app N194 Nq196
  obtain ⟨fs, hr, hrun, hended, hW, hsame⟩ := X196.leave (v := some (.int (own_find5 ee0 ee1 ee2 ee3 ee4))) (fun h => by rw [Bd.returns] at h; cases h)
  refine ⟨_, _, pre195 _ ?_, hrun, hended, _, _, rfl, ?_, ⟨_, rfl⟩, hW, hsame.mono (by decide) (by decide)⟩
  · show Sp p e below m T194 21 #[.val (.ref ab), .val (.int (46 : Int32)), .val (.int (0 : Int32)), .val (.int (5 : Int32))] [(.int (5 : Int32))] _
    refine XS.istoreN X194.here hx rfl (hb hby d13_21) rfl (l' := #[.val (.ref ab), .val (.int (46 : Int32)), .val (.int (0 : Int32)), .val (.int (5 : Int32))]) rfl ?_
    show Sp p e below m T194 22 #[.val (.ref ab), .val (.int (46 : Int32)), .val (.int (0 : Int32)), .val (.int (5 : Int32))] [] _
    refine XS.iloadN X194.here hx rfl (hb hby d13_22) rfl ?_
    refine XS.iloadN X194.here hx rfl (hb hby d13_23) rfl ?_
    show Sp p e below m T194 24 #[.val (.ref ab), .val (.int (46 : Int32)), .val (.int (0 : Int32)), .val (.int (5 : Int32))] [(.int (5 : Int32)), (.int (0 : Int32))] _
    refine XS.icmpYes X194.here hx rfl (pc0 := 24) (pc' := 29) rfl (hb hby d13_24) rfl (tlt (by decide : ((0 : Int32) < (5 : Int32)))).1 (by decide) (by decide) ?_
    show Sp p e below m T194 29 #[.val (.ref ab), .val (.int (46 : Int32)), .val (.int (0 : Int32)), .val (.int (5 : Int32))] [] _
    refine XS.aloadN X194.here hx rfl (hb hby d13_29) rfl rfl ?_
    refine XS.iloadN X194.here hx rfl (hb hby d13_30) rfl ?_
    show Sp p e below m T194 31 #[.val (.ref ab), .val (.int (46 : Int32)), .val (.int (0 : Int32)), .val (.int (5 : Int32))] [(.int (46 : Int32)), (.ref ab)] _
    refine XS.iloadN X194.here hx rfl (hb hby d13_31) rfl ?_
    refine XS.iloadN X194.here hx rfl (hb hby d13_32) rfl ?_
    show Sp p e below m T194 33 #[.val (.ref ab), .val (.int (46 : Int32)), .val (.int (0 : Int32)), .val (.int (5 : Int32))] [(.int (5 : Int32)), (.int (0 : Int32)), (.int (46 : Int32)), (.ref ab)] _
    refine st196 _ ?_
    show Sp p e below m T196 36 #[.val (.ref ab), .val (.int (46 : Int32)), .val (.int (0 : Int32)), .val (.int (5 : Int32))] [(.int (own_find5 ee0 ee1 ee2 ee3 ee4))] _
    exact retI X196 hx Bd.returns (hb hby d13_36) hr
  · show Q13n5 Z ab kb ee0 ee1 ee2 ee3 ee4 h0 n0 _ T196.heap _
    rw [e196]
    exact ⟨rfl, N196, rfl⟩
theorem d9_0 : decode jdk_42_method_80_code 0 = .ok (.aload_n 0, 1) := by decide +kernel
theorem d9_1 : decode jdk_42_method_80_code 1 = .ok (.invokevirtual 492, 3) := by decide +kernel
theorem d9_4 : decode jdk_42_method_80_code 4 = .ok (.ifCond .eq 19, 3) := by decide +kernel
theorem d9_7 : decode jdk_42_method_80_code 7 = .ok (.aload_n 0, 1) := by decide +kernel
theorem d9_8 : decode jdk_42_method_80_code 8 = .ok (.getfield 9, 3) := by decide +kernel
theorem d9_11 : decode jdk_42_method_80_code 11 = .ok (.iload_n 1, 1) := by decide +kernel
theorem d9_12 : decode jdk_42_method_80_code 12 = .ok (.iload_n 2, 1) := by decide +kernel
theorem d9_13 : decode jdk_42_method_80_code 13 = .ok (.aload_n 0, 1) := by decide +kernel
theorem d9_14 : decode jdk_42_method_80_code 14 = .ok (.invokevirtual 505, 3) := by decide +kernel
theorem own_pd214 : parseMethodDescriptor "()I" = some ⟨[], some .int⟩ := by decide +kernel
theorem d9_17 : decode jdk_42_method_80_code 17 = .ok (.invokestatic 637, 3) := by decide +kernel
theorem d9_20 : decode jdk_42_method_80_code 20 = .ok (.goto 16, 3) := by decide +kernel
theorem d9_36 : decode jdk_42_method_80_code 36 = .ok (.ireturn, 1) := by decide +kernel
theorem ef_9n5 (m : MethodId) (x0 : Addr) : entryFrame m #[(.ref x0), (.int (46 : Int32)), (.int (0 : Int32))] 3 = mkF m 0 #[.val (.ref x0), .val (.int (46 : Int32)), .val (.int (0 : Int32))] [] := by first | (simp [entryFrame, mkF, argsToLocals, Value.category]; done) | rfl
def Q9n5 (Z : State) (aa : Addr) (cs : Int32) (vf : Value) (ab : Addr) (kb : ClassId) (ee0 : Int32) (ee1 : Int32) (ee2 : Int32) (ee3 : Int32) (ee4 : Int32) (h0 : Heap) (n0 : Nat) (v : Option Value) (h : Heap) (L : List Loc) : Prop := v = some (.int (own_find5 ee0 ee1 ee2 ee3 ee4)) ∧ Fr n0 L ∧ h = h0
set_option maxRecDepth 65536 in
set_option maxHeartbeats 40000000 in
theorem rm9n5 (l : Launch) (Z : State) (a0 : Array Value) (hw : ∀ d ∈ tables_1, d.before a0 Z = true) (ws : List Jvm.Cond) (aa : Addr) (cs : Int32) (vf : Value) (ab : Addr) (kb : ClassId) (ee0 : Int32) (ee1 : Int32) (ee2 : Int32) (ee3 : Int32) (ee4 : Int32) (h0 : Heap) (n0 : Nat) (Z0 : n0 ≤ h0.size) (O0 : Old Z n0 h0) (Scs : Sta Z Z.heap "java/lang/String" "COMPACT_STRINGS" "Z" (.int cs)) (hcs : ¬ cs = (0 : Int32)) (Ssf : Sta Z Z.heap "jdk/internal/util/Preconditions" "SIOOBE_FORMATTER" "Ljava/util/function/BiFunction;" vf) (hvf : vf.isRef = true) (Ea : Exa Z h0 aa "java/lang/String") (Fv : Fld Z h0 aa "java/lang/String" "value" "[B" (.ref ab)) (Fc : Fld Z h0 aa "java/lang/String" "coder" "B" (.int (0 : Int32))) (Va : Arv Z h0 ab kb .byte (5 : Int32) [(.int ee0), (.int ee1), (.int ee2), (.int ee3), (.int ee4)] (.int (0 : Int32))) :
    MetFree l (⟨"java/lang/String", "indexOf", "(II)I"⟩ : MethodName) (head1 (Jvm.Cond.code (⟨"java/lang/String", "indexOf", "(II)I"⟩ : MethodName) jdk_42_method_80_code 3 (some .int) :: ws) ({ frames := 2, cells := 0, slots := 0, locals := 32 } : Room)) (fun a U => a = #[(.ref aa), (.int (46 : Int32)), (.int (0 : Int32))] ∧ Z.Warmed39 U.vm ∧ U.heap = h0) (fun _ _ _ _ _ => True) (fun _ U o U' => ∃ v L, o = .returned v ∧ Q9n5 Z aa cs vf ab kb ee0 ee1 ee2 ee3 ee4 h0 n0 v U'.heap L ∧ FrameEnd U o U' L ({ frames := 2, cells := 0, slots := 0, locals := 32 } : Room).cells ({ frames := 2, cells := 0, slots := 0, locals := 32 } : Room).slots) := by
  refine MetFree.of_bodySF (plainFor_of_name own_pn8) hisR ?_
  intro p e s m args below meth c s₁ Bd hml0 hP hK
  have H := fun i c (h : tables_1[i]? = some c) => hw c (List.mem_of_getElem? h)
  obtain ⟨rfl, hZ, hh⟩ := hP
  have hx := Bd.exec
  have hby := Bd.bytes
  have hml : c.maxLocals = 3 := hml0
  have hown : s.vm.findClass "java/lang/String" = some m.cls := findClass_of_methodNamed Bd.named
  have hnm := (name_of_methodNamed Bd.named Bd.method).1
  have X0 : Stand p l e ({ frames := 2, cells := 0, slots := 0, locals := 32 } : Room) s m #[(.ref aa), (.int (46 : Int32)), (.int (0 : Int32))] below meth c s₁ [] 0 0 := Stand.of_body Bd
  have e0 : s₁.heap = h0 := by rw [← hh, Bd.state]; rfl
  have N0 := Fr.nil n0
  have pre0 : ∀ t, Sp p e below m s₁ 0 #[.val (.ref aa), .val (.int (46 : Int32)), .val (.int (0 : Int32))] [] t → Steps p.tables e below (s₁.setTop (entryFrame m #[(.ref aa), (.int (46 : Int32)), (.int (0 : Int32))] 3)) t := fun t k => castTop (ef_9n5 m aa) k
  generalize s₁.setTop (entryFrame m #[(.ref aa), (.int (46 : Int32)), (.int (0 : Int32))] 3) = G0 at pre0 ⊢
  obtain ⟨cq201, kq201, q201a, q201b, q201c⟩ := isOf hZ e0 Ea
  obtain ⟨_, _, ⟨T201, L201, k201, n201⟩, -, X201, ⟨Lc201, hQ201, l201, y201, z201⟩, st201⟩ := X0.virtualBack hx (y := (⟨"java/lang/String", "isLatin1", "()Z"⟩ : MethodName)) (z := (⟨"java/lang/String", "isLatin1", "()Z"⟩ : MethodName)) hown (mvT hZ (H 46 _ rfl)) (mvT hZ (H 47 _ rfl)) (notFace_of_selects (args := #[]) (mvT hZ (H 49 _ rfl))) (mvT hZ (H 49 _ rfl)) (mvT hZ (H 48 _ rfl)) (by decide) (backOf (W := 0) (rm10 l Z a0 hw [] aa cs vf h0 n0 Z0 O0 Scs hcs Ssf hvf Fc) hZ (H 50 _ rfl) (H 5 _ rfl) (by decide) (by decide)) q201a q201c (g := (mkF m 1 #[.val (.ref aa), .val (.int (46 : Int32)), .val (.int (0 : Int32))] [(.ref aa)])) rfl (by rw [hml]; rfl) (Steps.refl _) (argsL := []) (rest := []) (lenOf own_pd132 rfl) rfl (Nat.le_of_eq rfl) (hb hby d9_1) (fun _ _ => ⟨rfl, e0, (by decide : 0 + 0 ≤ _), (by decide : 0 + 0 ≤ _)⟩)
  dsimp only [Pt.U, Pt.locs, Pt.cells, Pt.slots] at X201 l201 y201 z201 st201 hQ201
  rw [l201, y201, z201] at X201
  clear l201 y201 z201
  obtain ⟨rfl, Nq201, e201⟩ := hQ201
  have N201 := Fr.app N0 Nq201
  obtain ⟨T202, X202, e202, st202⟩ := getF X201 hx hZ hown (host := "") (Or.inl (H 30 _ rfl)) Via.refl e201 Fv (g := (mkF m 8 #[.val (.ref aa), .val (.int (46 : Int32)), .val (.int (0 : Int32))] [(.ref aa)])) rfl rfl (hb hby d9_8)
  obtain ⟨cq203, kq203, q203a, q203b, q203c⟩ := isOf hZ e202 Ea
  obtain ⟨_, _, ⟨T203, L203, k203, n203⟩, -, X203, ⟨Lc203, hQ203, l203, y203, z203⟩, st203⟩ := X202.virtualBack hx (y := (⟨"java/lang/String", "length", "()I"⟩ : MethodName)) (z := (⟨"java/lang/String", "length", "()I"⟩ : MethodName)) hown (mvT hZ (H 51 _ rfl)) (mvT hZ (H 52 _ rfl)) (notFace_of_selects (args := #[]) (mvT hZ (H 54 _ rfl))) (mvT hZ (H 54 _ rfl)) (mvT hZ (H 53 _ rfl)) (by decide) (backOf (W := 3) (rm11 l Z a0 hw [] aa cs vf ab kb (5 : Int32) [(.int ee0), (.int ee1), (.int ee2), (.int ee3), (.int ee4)] h0 n0 Z0 O0 Scs hcs Ssf hvf Ea Fv Fc Va) hZ (H 55 _ rfl) (H 5 _ rfl) (by decide) (by decide)) q203a q203c (g := (mkF m 14 #[.val (.ref aa), .val (.int (46 : Int32)), .val (.int (0 : Int32))] [(.ref aa), (.int (0 : Int32)), (.int (46 : Int32)), (.ref ab)])) rfl (by rw [hml]; rfl) (Steps.refl _) (argsL := []) (rest := [(.int (0 : Int32)), (.int (46 : Int32)), (.ref ab)]) (lenOf own_pd214 rfl) rfl (Nat.le_of_eq rfl) (hb hby d9_14) (fun _ _ => ⟨rfl, e202, (by decide : 0 + 0 ≤ _), (by decide : 0 + 0 ≤ _)⟩)
  dsimp only [Pt.U, Pt.locs, Pt.cells, Pt.slots] at X203 l203 y203 z203 st203 hQ203
  rw [l203, y203, z203] at X203
  clear l203 y203 z203
  obtain ⟨rfl, Nq203, e203⟩ := hQ203
  have N203 := Fr.app N201 Nq203
  obtain ⟨_, _, ⟨T204, L204, k204, n204⟩, -, X204, ⟨Lc204, hQ204, l204, y204, z204⟩, st204⟩ := Jvm.LawKit.callS X203 hx (y := (⟨"java/lang/StringLatin1", "indexOf", "([BIII)I"⟩ : MethodName)) hown (mvT hZ (H 61 _ rfl)) (mvT hZ (H 62 _ rfl)) (mvT hZ (H 63 _ rfl)) (mvT hZ (H 64 _ rfl)) (by decide) (backOf (W := 0) (rm13n5 l Z a0 hw [] ab kb ee0 ee1 ee2 ee3 ee4 h0 n0 Z0 Va) hZ (H 64 _ rfl) (H 63 _ rfl) (by decide) (by decide)) (g := (mkF m 17 #[.val (.ref aa), .val (.int (46 : Int32)), .val (.int (0 : Int32))] [(.int (5 : Int32)), (.int (0 : Int32)), (.int (46 : Int32)), (.ref ab)])) rfl (by rw [hml]; rfl) (argsL := [(.ref ab), (.int (46 : Int32)), (.int (0 : Int32)), (.int (5 : Int32))]) (rest := []) (lenOf own_pd203 rfl) rfl (Nat.le_of_eq rfl) (hb hby d9_17) (fun _ _ => ⟨rfl, e203, (by decide : 0 + 0 ≤ _), (by decide : 0 + 0 ≤ _)⟩)
  dsimp only [Pt.U, Pt.locs, Pt.cells, Pt.slots] at X204 l204 y204 z204 st204 hQ204
  rw [l204, y204, z204] at X204
  clear l204 y204 z204
  obtain ⟨rfl, Nq204, e204⟩ := hQ204
  have N204 := Fr.app N203 Nq204
  obtain ⟨fs, hr, hrun, hended, hW, hsame⟩ := X204.leave (v := some (.int (own_find5 ee0 ee1 ee2 ee3 ee4))) (fun h => by rw [Bd.returns] at h; cases h)
  refine ⟨_, _, pre0 _ ?_, hrun, hended, _, _, rfl, ?_, ⟨_, rfl⟩, hW, hsame.mono (by decide) (by decide)⟩
  · show Sp p e below m s₁ 0 #[.val (.ref aa), .val (.int (46 : Int32)), .val (.int (0 : Int32))] [] _
    refine XS.aloadN X0.here hx rfl (hb hby d9_0) rfl rfl ?_
    refine st201.trans ?_
    show Sp p e below m T201 4 #[.val (.ref aa), .val (.int (46 : Int32)), .val (.int (0 : Int32))] [(.int (1 : Int32))] _
    refine XS.ifNo X201.here hx rfl (hb hby d9_4) rfl ((if0 _ _).trans (feq (by decide : ¬ ((1 : Int32) = (0 : Int32)))).1) ?_
    show Sp p e below m T201 7 #[.val (.ref aa), .val (.int (46 : Int32)), .val (.int (0 : Int32))] [] _
    refine XS.aloadN X201.here hx rfl (hb hby d9_7) rfl rfl ?_
    refine st202 _ ?_
    show Sp p e below m T202 11 #[.val (.ref aa), .val (.int (46 : Int32)), .val (.int (0 : Int32))] [(.ref ab)] _
    refine XS.iloadN X202.here hx rfl (hb hby d9_11) rfl ?_
    refine XS.iloadN X202.here hx rfl (hb hby d9_12) rfl ?_
    show Sp p e below m T202 13 #[.val (.ref aa), .val (.int (46 : Int32)), .val (.int (0 : Int32))] [(.int (0 : Int32)), (.int (46 : Int32)), (.ref ab)] _
    refine XS.aloadN X202.here hx rfl (hb hby d9_13) rfl rfl ?_
    refine st203.trans ?_
    show Sp p e below m T203 17 #[.val (.ref aa), .val (.int (46 : Int32)), .val (.int (0 : Int32))] [(.int (5 : Int32)), (.int (0 : Int32)), (.int (46 : Int32)), (.ref ab)] _
    refine st204 _ ?_
    show Sp p e below m T204 20 #[.val (.ref aa), .val (.int (46 : Int32)), .val (.int (0 : Int32))] [(.int (own_find5 ee0 ee1 ee2 ee3 ee4))] _
    refine XS.goto X204.here hx rfl (pc0 := 20) (pc' := 36) rfl (hb hby d9_20) (by decide) (by decide) ?_
    show Sp p e below m T204 36 #[.val (.ref aa), .val (.int (46 : Int32)), .val (.int (0 : Int32))] [(.int (own_find5 ee0 ee1 ee2 ee3 ee4))] _
    exact retI X204 hx Bd.returns (hb hby d9_36) hr
  · show Q9n5 Z aa cs vf ab kb ee0 ee1 ee2 ee3 ee4 h0 n0 _ T204.heap _
    rw [e204]
    exact ⟨rfl, N204, rfl⟩
theorem d8_0 : decode jdk_42_method_79_code 0 = .ok (.aload_n 0, 1) := by decide +kernel
theorem d8_1 : decode jdk_42_method_79_code 1 = .ok (.iload_n 1, 1) := by decide +kernel
theorem d8_2 : decode jdk_42_method_79_code 2 = .ok (.iconst 0, 1) := by decide +kernel
theorem d8_3 : decode jdk_42_method_79_code 3 = .ok (.invokevirtual 633, 3) := by decide +kernel
theorem d8_6 : decode jdk_42_method_79_code 6 = .ok (.ireturn, 1) := by decide +kernel
theorem ef_8n5 (m : MethodId) (x0 : Addr) : entryFrame m #[(.ref x0), (.int (46 : Int32))] 2 = mkF m 0 #[.val (.ref x0), .val (.int (46 : Int32))] [] := by first | (simp [entryFrame, mkF, argsToLocals, Value.category]; done) | rfl
def Q8n5 (Z : State) (aa : Addr) (cs : Int32) (vf : Value) (ab : Addr) (kb : ClassId) (ee0 : Int32) (ee1 : Int32) (ee2 : Int32) (ee3 : Int32) (ee4 : Int32) (h0 : Heap) (n0 : Nat) (v : Option Value) (h : Heap) (L : List Loc) : Prop := v = some (.int (own_find5 ee0 ee1 ee2 ee3 ee4)) ∧ Fr n0 L ∧ h = h0
set_option maxRecDepth 65536 in
set_option maxHeartbeats 40000000 in
theorem rm8n5 (l : Launch) (Z : State) (a0 : Array Value) (hw : ∀ d ∈ tables_1, d.before a0 Z = true) (ws : List Jvm.Cond) (aa : Addr) (cs : Int32) (vf : Value) (ab : Addr) (kb : ClassId) (ee0 : Int32) (ee1 : Int32) (ee2 : Int32) (ee3 : Int32) (ee4 : Int32) (h0 : Heap) (n0 : Nat) (Z0 : n0 ≤ h0.size) (O0 : Old Z n0 h0) (Scs : Sta Z Z.heap "java/lang/String" "COMPACT_STRINGS" "Z" (.int cs)) (hcs : ¬ cs = (0 : Int32)) (Ssf : Sta Z Z.heap "jdk/internal/util/Preconditions" "SIOOBE_FORMATTER" "Ljava/util/function/BiFunction;" vf) (hvf : vf.isRef = true) (Ea : Exa Z h0 aa "java/lang/String") (Fv : Fld Z h0 aa "java/lang/String" "value" "[B" (.ref ab)) (Fc : Fld Z h0 aa "java/lang/String" "coder" "B" (.int (0 : Int32))) (Va : Arv Z h0 ab kb .byte (5 : Int32) [(.int ee0), (.int ee1), (.int ee2), (.int ee3), (.int ee4)] (.int (0 : Int32))) :
    MetFree l (⟨"java/lang/String", "indexOf", "(I)I"⟩ : MethodName) (head1 (Jvm.Cond.code (⟨"java/lang/String", "indexOf", "(I)I"⟩ : MethodName) jdk_42_method_79_code 2 (some .int) :: ws) ({ frames := 3, cells := 0, slots := 0, locals := 46 } : Room)) (fun a U => a = #[(.ref aa), (.int (46 : Int32))] ∧ Z.Warmed39 U.vm ∧ U.heap = h0) (fun _ _ _ _ _ => True) (fun _ U o U' => ∃ v L, o = .returned v ∧ Q8n5 Z aa cs vf ab kb ee0 ee1 ee2 ee3 ee4 h0 n0 v U'.heap L ∧ FrameEnd U o U' L ({ frames := 3, cells := 0, slots := 0, locals := 46 } : Room).cells ({ frames := 3, cells := 0, slots := 0, locals := 46 } : Room).slots) := by
  refine MetFree.of_bodySF (plainFor_of_name own_pn8) hisR ?_
  intro p e s m args below meth c s₁ Bd hml0 hP hK
  have H := fun i c (h : tables_1[i]? = some c) => hw c (List.mem_of_getElem? h)
  obtain ⟨rfl, hZ, hh⟩ := hP
  have hx := Bd.exec
  have hby := Bd.bytes
  have hml : c.maxLocals = 2 := hml0
  have hown : s.vm.findClass "java/lang/String" = some m.cls := findClass_of_methodNamed Bd.named
  have hnm := (name_of_methodNamed Bd.named Bd.method).1
  have X0 : Stand p l e ({ frames := 3, cells := 0, slots := 0, locals := 46 } : Room) s m #[(.ref aa), (.int (46 : Int32))] below meth c s₁ [] 0 0 := Stand.of_body Bd
  have e0 : s₁.heap = h0 := by rw [← hh, Bd.state]; rfl
  have N0 := Fr.nil n0
  have pre0 : ∀ t, Sp p e below m s₁ 0 #[.val (.ref aa), .val (.int (46 : Int32))] [] t → Steps p.tables e below (s₁.setTop (entryFrame m #[(.ref aa), (.int (46 : Int32))] 2)) t := fun t k => castTop (ef_8n5 m aa) k
  generalize s₁.setTop (entryFrame m #[(.ref aa), (.int (46 : Int32))] 2) = G0 at pre0 ⊢
  obtain ⟨cq206, kq206, q206a, q206b, q206c⟩ := isOf hZ e0 Ea
  obtain ⟨_, _, ⟨T206, L206, k206, n206⟩, -, X206, ⟨Lc206, hQ206, l206, y206, z206⟩, st206⟩ := X0.virtualBack hx (y := (⟨"java/lang/String", "indexOf", "(II)I"⟩ : MethodName)) (z := (⟨"java/lang/String", "indexOf", "(II)I"⟩ : MethodName)) hown (mvT hZ (H 41 _ rfl)) (mvT hZ (H 42 _ rfl)) (notFace_of_selects (args := #[]) (mvT hZ (H 44 _ rfl))) (mvT hZ (H 44 _ rfl)) (mvT hZ (H 43 _ rfl)) (by decide) (backOf (W := 0) (rm9n5 l Z a0 hw [] aa cs vf ab kb ee0 ee1 ee2 ee3 ee4 h0 n0 Z0 O0 Scs hcs Ssf hvf Ea Fv Fc Va) hZ (H 45 _ rfl) (H 5 _ rfl) (by decide) (by decide)) q206a q206c (g := (mkF m 3 #[.val (.ref aa), .val (.int (46 : Int32))] [(.int (0 : Int32)), (.int (46 : Int32)), (.ref aa)])) rfl (by rw [hml]; rfl) (Steps.refl _) (argsL := [(.int (46 : Int32)), (.int (0 : Int32))]) (rest := []) (lenOf own_pd188 rfl) rfl (Nat.le_of_eq rfl) (hb hby d8_3) (fun _ _ => ⟨rfl, e0, (by decide : 0 + 0 ≤ _), (by decide : 0 + 0 ≤ _)⟩)
  dsimp only [Pt.U, Pt.locs, Pt.cells, Pt.slots] at X206 l206 y206 z206 st206 hQ206
  rw [l206, y206, z206] at X206
  clear l206 y206 z206
  obtain ⟨rfl, Nq206, e206⟩ := hQ206
  have N206 := Fr.app N0 Nq206
  obtain ⟨fs, hr, hrun, hended, hW, hsame⟩ := X206.leave (v := some (.int (own_find5 ee0 ee1 ee2 ee3 ee4))) (fun h => by rw [Bd.returns] at h; cases h)
  refine ⟨_, _, pre0 _ ?_, hrun, hended, _, _, rfl, ?_, ⟨_, rfl⟩, hW, hsame.mono (by decide) (by decide)⟩
  · show Sp p e below m s₁ 0 #[.val (.ref aa), .val (.int (46 : Int32))] [] _
    refine XS.aloadN X0.here hx rfl (hb hby d8_0) rfl rfl ?_
    refine XS.iloadN X0.here hx rfl (hb hby d8_1) rfl ?_
    show Sp p e below m s₁ 2 #[.val (.ref aa), .val (.int (46 : Int32))] [(.int (46 : Int32)), (.ref aa)] _
    refine XS.iconst X0.here hx rfl (hb hby d8_2) ?_
    refine st206.trans ?_
    show Sp p e below m T206 6 #[.val (.ref aa), .val (.int (46 : Int32))] [(.int (own_find5 ee0 ee1 ee2 ee3 ee4))] _
    exact retI X206 hx Bd.returns (hb hby d8_6) hr
  · show Q8n5 Z aa cs vf ab kb ee0 ee1 ee2 ee3 ee4 h0 n0 _ T206.heap _
    rw [e206]
    exact ⟨rfl, N206, rfl⟩
theorem d28_0 : decode jdk_30_method_1_code 0 = .ok (.aload_n 0, 1) := by decide +kernel
theorem d28_1 : decode jdk_30_method_1_code 1 = .ok (.invokespecial 1, 3) := by decide +kernel
theorem d28_4 : decode jdk_30_method_1_code 4 = .ok (.return_, 1) := by decide +kernel
theorem own_pn226 : plainName "java/lang/Record" = true := by first | (simp [plainName, overriddenIn]; done) | decide +kernel
theorem ef_28 (m : MethodId) (x0 : Addr) : entryFrame m #[(.ref x0)] 1 = mkF m 0 #[.val (.ref x0)] [] := by first | (simp [entryFrame, mkF, argsToLocals, Value.category]; done) | rfl
def Q28 (Z : State) (ar : Addr) (h0 : Heap) (n0 : Nat) (v : Option Value) (h : Heap) (L : List Loc) : Prop := v = none ∧ Fr n0 L ∧ h = h0
set_option maxRecDepth 65536 in
set_option maxHeartbeats 40000000 in
theorem rm28 (l : Launch) (Z : State) (a0 : Array Value) (hw : ∀ d ∈ tables_1, d.before a0 Z = true) (ws : List Jvm.Cond) (ar : Addr) (h0 : Heap) (n0 : Nat) (Z0 : n0 ≤ h0.size) :
    MetFree l (⟨"java/lang/Record", "<init>", "()V"⟩ : MethodName) (head1 (Jvm.Cond.code (⟨"java/lang/Record", "<init>", "()V"⟩ : MethodName) jdk_30_method_1_code 1 none :: ws) ({ frames := 1, cells := 0, slots := 0, locals := 12 } : Room)) (fun a U => a = #[(.ref ar)] ∧ Z.Warmed39 U.vm ∧ U.heap = h0) (fun _ _ _ _ _ => True) (fun _ U o U' => ∃ v L, o = .returned v ∧ Q28 Z ar h0 n0 v U'.heap L ∧ FrameEnd U o U' L ({ frames := 1, cells := 0, slots := 0, locals := 12 } : Room).cells ({ frames := 1, cells := 0, slots := 0, locals := 12 } : Room).slots) := by
  refine MetFree.of_bodySF (plainFor_of_name own_pn226) hisR ?_
  intro p e s m args below meth c s₁ Bd hml0 hP hK
  have H := fun i c (h : tables_1[i]? = some c) => hw c (List.mem_of_getElem? h)
  obtain ⟨rfl, hZ, hh⟩ := hP
  have hx := Bd.exec
  have hby := Bd.bytes
  have hml : c.maxLocals = 1 := hml0
  have hown : s.vm.findClass "java/lang/Record" = some m.cls := findClass_of_methodNamed Bd.named
  have hnm := (name_of_methodNamed Bd.named Bd.method).1
  have X0 : Stand p l e ({ frames := 1, cells := 0, slots := 0, locals := 12 } : Room) s m #[(.ref ar)] below meth c s₁ [] 0 0 := Stand.of_body Bd
  have e0 : s₁.heap = h0 := by rw [← hh, Bd.state]; rfl
  have N0 := Fr.nil n0
  have pre0 : ∀ t, Sp p e below m s₁ 0 #[.val (.ref ar)] [] t → Steps p.tables e below (s₁.setTop (entryFrame m #[(.ref ar)] 1)) t := fun t k => castTop (ef_28 m ar) k
  generalize s₁.setTop (entryFrame m #[(.ref ar)] 1) = G0 at pre0 ⊢
  obtain ⟨T208, X208, e208, st208⟩ := initO X0 hx hZ hown (H 130 _ rfl) (H 14 _ rfl) (H 15 _ rfl) e0 (g := (mkF m 1 #[.val (.ref ar)] [(.ref ar)])) rfl (by rw [hml]; rfl) rfl (hb hby d28_1) (by decide) (W := 0) (Nat.le_of_eq rfl) (by decide)
  obtain ⟨fs, hr, hrun, hended, hW, hsame⟩ := X208.leave (v := none) (fun _ => rfl)
  refine ⟨_, _, pre0 _ ?_, hrun, hended, _, _, rfl, ?_, ⟨_, rfl⟩, hW, hsame.mono (by decide) (by decide)⟩
  · show Sp p e below m s₁ 0 #[.val (.ref ar)] [] _
    refine XS.aloadN X0.here hx rfl (hb hby d28_0) rfl rfl ?_
    refine st208 _ ?_
    show Sp p e below m T208 4 #[.val (.ref ar)] [] _
    exact X208.returnOut hx Bd.returns (hb hby d28_4) hr
  · show Q28 Z ar h0 n0 _ T208.heap _
    rw [e208]
    exact ⟨rfl, N0, rfl⟩
theorem d27_0 : decode prog_53_method_1_code 0 = .ok (.aload_n 0, 1) := by decide +kernel
theorem d27_1 : decode prog_53_method_1_code 1 = .ok (.invokespecial 1, 3) := by decide +kernel
theorem own_pd229 : parseMethodDescriptor "()V" = some ⟨[], none⟩ := by decide +kernel
theorem d27_4 : decode prog_53_method_1_code 4 = .ok (.aload_n 0, 1) := by decide +kernel
theorem d27_5 : decode prog_53_method_1_code 5 = .ok (.aload_n 1, 1) := by decide +kernel
theorem d27_6 : decode prog_53_method_1_code 6 = .ok (.putfield 7, 3) := by decide +kernel
theorem d27_9 : decode prog_53_method_1_code 9 = .ok (.aload_n 0, 1) := by decide +kernel
theorem d27_10 : decode prog_53_method_1_code 10 = .ok (.aload_n 2, 1) := by decide +kernel
theorem d27_11 : decode prog_53_method_1_code 11 = .ok (.putfield 13, 3) := by decide +kernel
theorem d27_14 : decode prog_53_method_1_code 14 = .ok (.return_, 1) := by decide +kernel
theorem own_pn237 : plainName "com/example/tideline/tideline/model/TableName" = true := by first | (simp [plainName, overriddenIn]; done) | decide +kernel
theorem ef_27 (m : MethodId) (x0 : Addr) (x1 : Addr) (x2 : Addr) : entryFrame m #[(.ref x0), (.ref x1), (.ref x2)] 3 = mkF m 0 #[.val (.ref x0), .val (.ref x1), .val (.ref x2)] [] := by first | (simp [entryFrame, mkF, argsToLocals, Value.category]; done) | rfl
def Q27 (Z : State) (aa : Addr) (a1 : Addr) (a2 : Addr) (h0 : Heap) (n0 : Nat) (v : Option Value) (h : Heap) (L : List Loc) : Prop := v = none ∧ Fr n0 L ∧ Keep h0 h [aa] ∧ Exa Z h aa "com/example/tideline/tideline/model/TableName" ∧ Fld Z h aa "com/example/tideline/tideline/model/TableName" "schema" "Ljava/lang/String;" (.ref a1) ∧ Fld Z h aa "com/example/tideline/tideline/model/TableName" "table" "Ljava/lang/String;" (.ref a2)
set_option maxRecDepth 65536 in
set_option maxHeartbeats 40000000 in
theorem rm27 (l : Launch) (Z : State) (a0 : Array Value) (hw : ∀ d ∈ tables_1, d.before a0 Z = true) (ws : List Jvm.Cond) (aa : Addr) (a1 : Addr) (a2 : Addr) (h0 : Heap) (n0 : Nat) (Z0 : n0 ≤ h0.size) (Ea : Exa Z h0 aa "com/example/tideline/tideline/model/TableName") (Fs : Fld Z h0 aa "com/example/tideline/tideline/model/TableName" "schema" "Ljava/lang/String;" .null) (Ft : Fld Z h0 aa "com/example/tideline/tideline/model/TableName" "table" "Ljava/lang/String;" .null) (g_aa : n0 ≤ aa) :
    MetFree l (⟨"com/example/tideline/tideline/model/TableName", "<init>", "(Ljava/lang/String;Ljava/lang/String;)V"⟩ : MethodName) (head1 (Jvm.Cond.code (⟨"com/example/tideline/tideline/model/TableName", "<init>", "(Ljava/lang/String;Ljava/lang/String;)V"⟩ : MethodName) prog_53_method_1_code 3 none :: ws) ({ frames := 2, cells := 0, slots := 0, locals := 24 } : Room)) (fun a U => a = #[(.ref aa), (.ref a1), (.ref a2)] ∧ Z.Warmed39 U.vm ∧ U.heap = h0) (fun _ _ _ _ _ => True) (fun _ U o U' => ∃ v L, o = .returned v ∧ Q27 Z aa a1 a2 h0 n0 v U'.heap L ∧ FrameEnd U o U' L ({ frames := 2, cells := 0, slots := 0, locals := 24 } : Room).cells ({ frames := 2, cells := 0, slots := 0, locals := 24 } : Room).slots) := by
  refine MetFree.of_bodySF (plainFor_of_name own_pn237) hisR ?_
  intro p e s m args below meth c s₁ Bd hml0 hP hK
  have H := fun i c (h : tables_1[i]? = some c) => hw c (List.mem_of_getElem? h)
  obtain ⟨rfl, hZ, hh⟩ := hP
  have hx := Bd.exec
  have hby := Bd.bytes
  have hml : c.maxLocals = 3 := hml0
  have hown : s.vm.findClass "com/example/tideline/tideline/model/TableName" = some m.cls := findClass_of_methodNamed Bd.named
  have hnm := (name_of_methodNamed Bd.named Bd.method).1
  have X0 : Stand p l e ({ frames := 2, cells := 0, slots := 0, locals := 24 } : Room) s m #[(.ref aa), (.ref a1), (.ref a2)] below meth c s₁ [] 0 0 := Stand.of_body Bd
  have e0 : s₁.heap = h0 := by rw [← hh, Bd.state]; rfl
  have N0 := Fr.nil n0
  have pre0 : ∀ t, Sp p e below m s₁ 0 #[.val (.ref aa), .val (.ref a1), .val (.ref a2)] [] t → Steps p.tables e below (s₁.setTop (entryFrame m #[(.ref aa), (.ref a1), (.ref a2)] 3)) t := fun t k => castTop (ef_27 m aa a1 a2) k
  generalize s₁.setTop (entryFrame m #[(.ref aa), (.ref a1), (.ref a2)] 3) = G0 at pre0 ⊢
  obtain ⟨_, _, ⟨T218, L218, k218, n218⟩, -, X218, ⟨Lc218, hQ218, l218, y218, z218⟩, st218⟩ := X0.specialBack hx (y := (⟨"java/lang/Record", "<init>", "()V"⟩ : MethodName)) rfl hown (mvT hZ (H 125 _ rfl)) (mvT hZ (H 126 _ rfl)) (mvT hZ (H 129 _ rfl)) (by decide) (backOf (W := 0) (rm28 l Z a0 hw [] aa  h0 n0 Z0 ) hZ (H 129 _ rfl) (H 128 _ rfl) (by decide) (by decide)) (g := (mkF m 1 #[.val (.ref aa), .val (.ref a1), .val (.ref a2)] [(.ref aa)])) rfl (by rw [hml]; rfl) (Steps.refl _) (a := aa) (argsL := []) (rest := []) (lenOf own_pd229 rfl) rfl (Nat.le_of_eq rfl) (hb hby d27_1) (fun _ _ => ⟨rfl, e0, (by decide : 0 + 0 ≤ _), (by decide : 0 + 0 ≤ _)⟩)
  dsimp only [Pt.U, Pt.locs, Pt.cells, Pt.slots] at X218 l218 y218 z218 st218 hQ218
  rw [l218, y218, z218] at X218
  clear l218 y218 z218
  obtain ⟨rfl, Nq218, e218⟩ := hQ218
  have N218 := Fr.app N0 Nq218
  obtain ⟨T219, h219, X219, e219, W219, st219⟩ := putF X218 hx hZ hown (host := "") (Or.inl (H 131 _ rfl)) Via.refl e218 Fs Ea (Or.inr ⟨(H 132 _ rfl), rfl, hnm⟩) (H 80 _ rfl) (ty := (.object "java/lang/String")) (by decide) rfl rfl (g := (mkF m 6 #[.val (.ref aa), .val (.ref a1), .val (.ref a2)] [(.ref a1), (.ref aa)])) rfl rfl (hb hby d27_6)
  have N219 := Fr.snoc X219 N218 g_aa
  have Zs219 : n0 ≤ h219.size := Nat.le_trans Z0 (Keep.of_wr W219).1
  have KK219 : Keep h0 h219 [aa] := (Keep.refl h0 _).wr W219 (Or.inl (List.mem_of_getElem? (i := 0) rfl))
  have f220 := Ea.wr W219
  have f221 := Fs.same W219
  have f222 := Ft.other W219 (Or.inr (slot_ne (Or.inr (H 134 _ rfl)) (Or.inr (H 132 _ rfl)) (by decide) (t := (.object "java/lang/String")) (t' := (.object "java/lang/String")) (by decide) (by decide)))
  obtain ⟨T223, h223, X223, e223, W223, st223⟩ := putF X219 hx hZ hown (host := "") (Or.inl (H 133 _ rfl)) Via.refl e219 f222 f220 (Or.inr ⟨(H 134 _ rfl), rfl, hnm⟩) (H 80 _ rfl) (ty := (.object "java/lang/String")) (by decide) rfl rfl (g := (mkF m 11 #[.val (.ref aa), .val (.ref a1), .val (.ref a2)] [(.ref a2), (.ref aa)])) rfl rfl (hb hby d27_11)
  have N223 := Fr.snoc X223 N219 g_aa
  have Zs223 : n0 ≤ h223.size := Nat.le_trans Zs219 (Keep.of_wr W223).1
  have KK223 : Keep h0 h223 [aa] := KK219.wr W223 (Or.inl (List.mem_of_getElem? (i := 0) rfl))
  have f224 := f220.wr W223
  have f225 := f221.other W223 (Or.inr (slot_ne (Or.inr (H 132 _ rfl)) (Or.inr (H 134 _ rfl)) (by decide) (t := (.object "java/lang/String")) (t' := (.object "java/lang/String")) (by decide) (by decide)))
  have f226 := f222.same W223
  obtain ⟨fs, hr, hrun, hended, hW, hsame⟩ := X223.leave (v := none) (fun _ => rfl)
  refine ⟨_, _, pre0 _ ?_, hrun, hended, _, _, rfl, ?_, ⟨_, rfl⟩, hW, hsame.mono (by decide) (by decide)⟩
  · show Sp p e below m s₁ 0 #[.val (.ref aa), .val (.ref a1), .val (.ref a2)] [] _
    refine XS.aloadN X0.here hx rfl (hb hby d27_0) rfl rfl ?_
    refine st218.trans ?_
    show Sp p e below m T218 4 #[.val (.ref aa), .val (.ref a1), .val (.ref a2)] [] _
    refine XS.aloadN X218.here hx rfl (hb hby d27_4) rfl rfl ?_
    refine XS.aloadN X218.here hx rfl (hb hby d27_5) rfl rfl ?_
    show Sp p e below m T218 6 #[.val (.ref aa), .val (.ref a1), .val (.ref a2)] [(.ref a1), (.ref aa)] _
    refine st219 _ ?_
    show Sp p e below m T219 9 #[.val (.ref aa), .val (.ref a1), .val (.ref a2)] [] _
    refine XS.aloadN X219.here hx rfl (hb hby d27_9) rfl rfl ?_
    refine XS.aloadN X219.here hx rfl (hb hby d27_10) rfl rfl ?_
    show Sp p e below m T219 11 #[.val (.ref aa), .val (.ref a1), .val (.ref a2)] [(.ref a2), (.ref aa)] _
    refine st223 _ ?_
    show Sp p e below m T223 14 #[.val (.ref aa), .val (.ref a1), .val (.ref a2)] [] _
    exact X223.returnOut hx Bd.returns (hb hby d27_14) hr
  · show Q27 Z aa a1 a2 h0 n0 _ T223.heap _
    rw [e223]
    exact ⟨rfl, N223, KK223, f224, f225, f226⟩
theorem d29_0 : decode prog_53_method_6_code 0 = .ok (.aload_n 0, 1) := by decide +kernel
theorem d29_1 : decode prog_53_method_6_code 1 = .ok (.getfield 7, 3) := by decide +kernel
theorem d29_4 : decode prog_53_method_6_code 4 = .ok (.areturn, 1) := by decide +kernel
theorem ef_29 (m : MethodId) (x0 : Addr) : entryFrame m #[(.ref x0)] 1 = mkF m 0 #[.val (.ref x0)] [] := by first | (simp [entryFrame, mkF, argsToLocals, Value.category]; done) | rfl
def Q29 (Z : State) (aa : Addr) (vo : Addr) (h0 : Heap) (n0 : Nat) (v : Option Value) (h : Heap) (L : List Loc) : Prop := v = some (.ref vo) ∧ Fr n0 L ∧ h = h0
set_option maxRecDepth 65536 in
set_option maxHeartbeats 40000000 in
theorem rm29 (l : Launch) (Z : State) (a0 : Array Value) (hw : ∀ d ∈ tables_1, d.before a0 Z = true) (ws : List Jvm.Cond) (aa : Addr) (vo : Addr) (h0 : Heap) (n0 : Nat) (Z0 : n0 ≤ h0.size) (Fo : Fld Z h0 aa "com/example/tideline/tideline/model/TableName" "schema" "Ljava/lang/String;" (.ref vo)) :
    MetFree l (⟨"com/example/tideline/tideline/model/TableName", "schema", "()Ljava/lang/String;"⟩ : MethodName) (head1 (Jvm.Cond.code (⟨"com/example/tideline/tideline/model/TableName", "schema", "()Ljava/lang/String;"⟩ : MethodName) prog_53_method_6_code 1 (some (.object "java/lang/String")) :: ws) ({ frames := 0, cells := 0, slots := 0, locals := 0 } : Room)) (fun a U => a = #[(.ref aa)] ∧ Z.Warmed39 U.vm ∧ U.heap = h0) (fun _ _ _ _ _ => True) (fun _ U o U' => ∃ v L, o = .returned v ∧ Q29 Z aa vo h0 n0 v U'.heap L ∧ FrameEnd U o U' L ({ frames := 0, cells := 0, slots := 0, locals := 0 } : Room).cells ({ frames := 0, cells := 0, slots := 0, locals := 0 } : Room).slots) := by
  refine MetFree.of_bodySF (plainFor_of_name own_pn237) hisR ?_
  intro p e s m args below meth c s₁ Bd hml0 hP hK
  have H := fun i c (h : tables_1[i]? = some c) => hw c (List.mem_of_getElem? h)
  obtain ⟨rfl, hZ, hh⟩ := hP
  have hx := Bd.exec
  have hby := Bd.bytes
  have hml : c.maxLocals = 1 := hml0
  have hown : s.vm.findClass "com/example/tideline/tideline/model/TableName" = some m.cls := findClass_of_methodNamed Bd.named
  have hnm := (name_of_methodNamed Bd.named Bd.method).1
  have X0 : Stand p l e ({ frames := 0, cells := 0, slots := 0, locals := 0 } : Room) s m #[(.ref aa)] below meth c s₁ [] 0 0 := Stand.of_body Bd
  have e0 : s₁.heap = h0 := by rw [← hh, Bd.state]; rfl
  have N0 := Fr.nil n0
  have pre0 : ∀ t, Sp p e below m s₁ 0 #[.val (.ref aa)] [] t → Steps p.tables e below (s₁.setTop (entryFrame m #[(.ref aa)] 1)) t := fun t k => castTop (ef_29 m aa) k
  generalize s₁.setTop (entryFrame m #[(.ref aa)] 1) = G0 at pre0 ⊢
  obtain ⟨T228, X228, e228, st228⟩ := getF X0 hx hZ hown (host := "") (Or.inl (H 131 _ rfl)) Via.refl e0 Fo (g := (mkF m 1 #[.val (.ref aa)] [(.ref aa)])) rfl rfl (hb hby d29_1)
  obtain ⟨fs, hr, hrun, hended, hW, hsame⟩ := X228.leave (v := some (.ref vo)) (fun h => by rw [Bd.returns] at h; cases h)
  refine ⟨_, _, pre0 _ ?_, hrun, hended, _, _, rfl, ?_, ⟨_, rfl⟩, hW, hsame.mono (by decide) (by decide)⟩
  · show Sp p e below m s₁ 0 #[.val (.ref aa)] [] _
    refine XS.aloadN X0.here hx rfl (hb hby d29_0) rfl rfl ?_
    refine st228 _ ?_
    show Sp p e below m T228 4 #[.val (.ref aa)] [(.ref vo)] _
    jvm_step X228.here [X228.here.top, hx, (hb hby d29_4), X228.method', Bd.returns, Value.isRef, FieldType.isReference]
    first | (intro acts; rw [hr _ acts rfl rfl rfl]) | rw [hr _ _ rfl rfl rfl]
    exact Steps.refl _
  · show Q29 Z aa vo h0 n0 _ T228.heap _
    rw [e228]
    exact ⟨rfl, N0, rfl⟩
theorem d30_0 : decode prog_53_method_7_code 0 = .ok (.aload_n 0, 1) := by decide +kernel
theorem d30_1 : decode prog_53_method_7_code 1 = .ok (.getfield 13, 3) := by decide +kernel
theorem d30_4 : decode prog_53_method_7_code 4 = .ok (.areturn, 1) := by decide +kernel
theorem ef_30 (m : MethodId) (x0 : Addr) : entryFrame m #[(.ref x0)] 1 = mkF m 0 #[.val (.ref x0)] [] := by first | (simp [entryFrame, mkF, argsToLocals, Value.category]; done) | rfl
def Q30 (Z : State) (aa : Addr) (vo : Addr) (h0 : Heap) (n0 : Nat) (v : Option Value) (h : Heap) (L : List Loc) : Prop := v = some (.ref vo) ∧ Fr n0 L ∧ h = h0
set_option maxRecDepth 65536 in
set_option maxHeartbeats 40000000 in
theorem rm30 (l : Launch) (Z : State) (a0 : Array Value) (hw : ∀ d ∈ tables_1, d.before a0 Z = true) (ws : List Jvm.Cond) (aa : Addr) (vo : Addr) (h0 : Heap) (n0 : Nat) (Z0 : n0 ≤ h0.size) (Fo : Fld Z h0 aa "com/example/tideline/tideline/model/TableName" "table" "Ljava/lang/String;" (.ref vo)) :
    MetFree l (⟨"com/example/tideline/tideline/model/TableName", "table", "()Ljava/lang/String;"⟩ : MethodName) (head1 (Jvm.Cond.code (⟨"com/example/tideline/tideline/model/TableName", "table", "()Ljava/lang/String;"⟩ : MethodName) prog_53_method_7_code 1 (some (.object "java/lang/String")) :: ws) ({ frames := 0, cells := 0, slots := 0, locals := 0 } : Room)) (fun a U => a = #[(.ref aa)] ∧ Z.Warmed39 U.vm ∧ U.heap = h0) (fun _ _ _ _ _ => True) (fun _ U o U' => ∃ v L, o = .returned v ∧ Q30 Z aa vo h0 n0 v U'.heap L ∧ FrameEnd U o U' L ({ frames := 0, cells := 0, slots := 0, locals := 0 } : Room).cells ({ frames := 0, cells := 0, slots := 0, locals := 0 } : Room).slots) := by
  refine MetFree.of_bodySF (plainFor_of_name own_pn237) hisR ?_
  intro p e s m args below meth c s₁ Bd hml0 hP hK
  have H := fun i c (h : tables_1[i]? = some c) => hw c (List.mem_of_getElem? h)
  obtain ⟨rfl, hZ, hh⟩ := hP
  have hx := Bd.exec
  have hby := Bd.bytes
  have hml : c.maxLocals = 1 := hml0
  have hown : s.vm.findClass "com/example/tideline/tideline/model/TableName" = some m.cls := findClass_of_methodNamed Bd.named
  have hnm := (name_of_methodNamed Bd.named Bd.method).1
  have X0 : Stand p l e ({ frames := 0, cells := 0, slots := 0, locals := 0 } : Room) s m #[(.ref aa)] below meth c s₁ [] 0 0 := Stand.of_body Bd
  have e0 : s₁.heap = h0 := by rw [← hh, Bd.state]; rfl
  have N0 := Fr.nil n0
  have pre0 : ∀ t, Sp p e below m s₁ 0 #[.val (.ref aa)] [] t → Steps p.tables e below (s₁.setTop (entryFrame m #[(.ref aa)] 1)) t := fun t k => castTop (ef_30 m aa) k
  generalize s₁.setTop (entryFrame m #[(.ref aa)] 1) = G0 at pre0 ⊢
  obtain ⟨T230, X230, e230, st230⟩ := getF X0 hx hZ hown (host := "") (Or.inl (H 133 _ rfl)) Via.refl e0 Fo (g := (mkF m 1 #[.val (.ref aa)] [(.ref aa)])) rfl rfl (hb hby d30_1)
  obtain ⟨fs, hr, hrun, hended, hW, hsame⟩ := X230.leave (v := some (.ref vo)) (fun h => by rw [Bd.returns] at h; cases h)
  refine ⟨_, _, pre0 _ ?_, hrun, hended, _, _, rfl, ?_, ⟨_, rfl⟩, hW, hsame.mono (by decide) (by decide)⟩
  · show Sp p e below m s₁ 0 #[.val (.ref aa)] [] _
    refine XS.aloadN X0.here hx rfl (hb hby d30_0) rfl rfl ?_
    refine st230 _ ?_
    show Sp p e below m T230 4 #[.val (.ref aa)] [(.ref vo)] _
    jvm_step X230.here [X230.here.top, hx, (hb hby d30_4), X230.method', Bd.returns, Value.isRef, FieldType.isReference]
    first | (intro acts; rw [hr _ acts rfl rfl rfl]) | rw [hr _ _ rfl rfl rfl]
    exact Steps.refl _
  · show Q30 Z aa vo h0 n0 _ T230.heap _
    rw [e230]
    exact ⟨rfl, N0, rfl⟩
theorem d24_0 : decode jdk_65_method_131_code 0 = .ok (.iload_n 1, 1) := by decide +kernel
theorem d24_1 : decode jdk_65_method_131_code 1 = .ok (.iload_n 0, 1) := by decide +kernel
theorem d24_2 : decode jdk_65_method_131_code 2 = .ok (.if_icmp .ge 35, 3) := by decide +kernel
theorem d24_37 : decode jdk_65_method_131_code 37 = .ok (.return_, 1) := by decide +kernel
theorem own_pn248 : plainName "java/util/Arrays" = true := by first | (simp [plainName, overriddenIn]; done) | decide +kernel
theorem ef_24 (m : MethodId) (x0 : Int32) (x1 : Int32) : entryFrame m #[(.int x0), (.int x1)] 2 = mkF m 0 #[.val (.int x0), .val (.int x1)] [] := by first | (simp [entryFrame, mkF, argsToLocals, Value.category]; done) | rfl
def Q24 (Z : State) (pa : Int32) (pb : Int32) (h0 : Heap) (n0 : Nat) (v : Option Value) (h : Heap) (L : List Loc) : Prop := v = none ∧ Fr n0 L ∧ h = h0
set_option maxRecDepth 65536 in
set_option maxHeartbeats 40000000 in
theorem rm24 (l : Launch) (Z : State) (a0 : Array Value) (hw : ∀ d ∈ tables_1, d.before a0 Z = true) (ws : List Jvm.Cond) (pa : Int32) (pb : Int32) (h0 : Heap) (n0 : Nat) (Z0 : n0 ≤ h0.size) (hle : ¬ pb < pa) :
    MetFree l (⟨"java/util/Arrays", "checkLength", "(II)V"⟩ : MethodName) (head1 (Jvm.Cond.code (⟨"java/util/Arrays", "checkLength", "(II)V"⟩ : MethodName) jdk_65_method_131_code 2 none :: ws) ({ frames := 0, cells := 0, slots := 0, locals := 0 } : Room)) (fun a U => a = #[(.int pa), (.int pb)] ∧ Z.Warmed39 U.vm ∧ U.heap = h0) (fun _ _ _ _ _ => True) (fun _ U o U' => ∃ v L, o = .returned v ∧ Q24 Z pa pb h0 n0 v U'.heap L ∧ FrameEnd U o U' L ({ frames := 0, cells := 0, slots := 0, locals := 0 } : Room).cells ({ frames := 0, cells := 0, slots := 0, locals := 0 } : Room).slots) := by
  refine MetFree.of_bodySF (plainFor_of_name own_pn248) hisR ?_
  intro p e s m args below meth c s₁ Bd hml0 hP hK
  have H := fun i c (h : tables_1[i]? = some c) => hw c (List.mem_of_getElem? h)
  obtain ⟨rfl, hZ, hh⟩ := hP
  have hx := Bd.exec
  have hby := Bd.bytes
  have hml : c.maxLocals = 2 := hml0
  have hown : s.vm.findClass "java/util/Arrays" = some m.cls := findClass_of_methodNamed Bd.named
  have hnm := (name_of_methodNamed Bd.named Bd.method).1
  have X0 : Stand p l e ({ frames := 0, cells := 0, slots := 0, locals := 0 } : Room) s m #[(.int pa), (.int pb)] below meth c s₁ [] 0 0 := Stand.of_body Bd
  have e0 : s₁.heap = h0 := by rw [← hh, Bd.state]; rfl
  have N0 := Fr.nil n0
  have pre0 : ∀ t, Sp p e below m s₁ 0 #[.val (.int pa), .val (.int pb)] [] t → Steps p.tables e below (s₁.setTop (entryFrame m #[(.int pa), (.int pb)] 2)) t := fun t k => castTop (ef_24 m pa pb) k
  generalize s₁.setTop (entryFrame m #[(.int pa), (.int pb)] 2) = G0 at pre0 ⊢
  obtain ⟨fs, hr, hrun, hended, hW, hsame⟩ := X0.leave (v := none) (fun _ => rfl)
  refine ⟨_, _, pre0 _ ?_, hrun, hended, _, _, rfl, ?_, ⟨_, rfl⟩, hW, hsame.mono (by decide) (by decide)⟩
  · show Sp p e below m s₁ 0 #[.val (.int pa), .val (.int pb)] [] _
    refine XS.iloadN X0.here hx rfl (hb hby d24_0) rfl ?_
    refine XS.iloadN X0.here hx rfl (hb hby d24_1) rfl ?_
    show Sp p e below m s₁ 2 #[.val (.int pa), .val (.int pb)] [(.int pa), (.int pb)] _
    refine XS.icmpYes X0.here hx rfl (pc0 := 2) (pc' := 37) rfl (hb hby d24_2) rfl (flt (hle : ¬ (pb < pa))).2.1 (by decide) (by decide) ?_
    show Sp p e below m s₁ 37 #[.val (.int pa), .val (.int pb)] [] _
    exact X0.returnOut hx Bd.returns (hb hby d24_37) hr
  · show Q24 Z pa pb h0 n0 _ s₁.heap _
    rw [e0]
    exact ⟨rfl, N0, rfl⟩
theorem d23_0 : decode jdk_65_method_133_code 0 = .ok (.iload_n 1, 1) := by decide +kernel
theorem d23_1 : decode jdk_65_method_133_code 1 = .ok (.iload_n 2, 1) := by decide +kernel
theorem d23_2 : decode jdk_65_method_133_code 2 = .ok (.invokestatic 343, 3) := by decide +kernel
theorem d23_5 : decode jdk_65_method_133_code 5 = .ok (.iload_n 2, 1) := by decide +kernel
theorem d23_6 : decode jdk_65_method_133_code 6 = .ok (.iload_n 1, 1) := by decide +kernel
theorem d23_7 : decode jdk_65_method_133_code 7 = .ok (.isub, 1) := by decide +kernel
theorem d23_8 : decode jdk_65_method_133_code 8 = .ok (.istore_n 3, 1) := by decide +kernel
theorem d23_9 : decode jdk_65_method_133_code 9 = .ok (.iload_n 3, 1) := by decide +kernel
theorem d23_10 : decode jdk_65_method_133_code 10 = .ok (.newarray .byte, 2) := by decide +kernel
theorem d23_12 : decode jdk_65_method_133_code 12 = .ok (.astore 4, 2) := by decide +kernel
theorem d23_14 : decode jdk_65_method_133_code 14 = .ok (.aload_n 0, 1) := by decide +kernel
theorem d23_15 : decode jdk_65_method_133_code 15 = .ok (.iload_n 1, 1) := by decide +kernel
theorem d23_16 : decode jdk_65_method_133_code 16 = .ok (.aload 4, 2) := by decide +kernel
theorem d23_18 : decode jdk_65_method_133_code 18 = .ok (.iconst 0, 1) := by decide +kernel
theorem d23_19 : decode jdk_65_method_133_code 19 = .ok (.aload_n 0, 1) := by decide +kernel
theorem d23_20 : decode jdk_65_method_133_code 20 = .ok (.arraylength, 1) := by decide +kernel
theorem d23_21 : decode jdk_65_method_133_code 21 = .ok (.iload_n 1, 1) := by decide +kernel
theorem d23_22 : decode jdk_65_method_133_code 22 = .ok (.isub, 1) := by decide +kernel
theorem d23_23 : decode jdk_65_method_133_code 23 = .ok (.iload_n 3, 1) := by decide +kernel
theorem d23_24 : decode jdk_65_method_133_code 24 = .ok (.invokestatic 304, 3) := by decide +kernel
theorem d23_27 : decode jdk_65_method_133_code 27 = .ok (.invokestatic 150, 3) := by decide +kernel
theorem d23_30 : decode jdk_65_method_133_code 30 = .ok (.aload 4, 2) := by decide +kernel
theorem d23_32 : decode jdk_65_method_133_code 32 = .ok (.areturn, 1) := by decide +kernel
theorem ef_23n5b0e1 (m : MethodId) (x0 : Addr) : entryFrame m #[(.ref x0), (.int (0 : Int32)), (.int (1 : Int32))] 5 = mkF m 0 #[.val (.ref x0), .val (.int (0 : Int32)), .val (.int (1 : Int32)), .unset, .unset] [] := by first | (simp [entryFrame, mkF, argsToLocals, Value.category]; done) | rfl
def Q23n5b0e1 (Z : State) (ab : Addr) (kb : ClassId) (ee0 : Int32) (ee1 : Int32) (ee2 : Int32) (ee3 : Int32) (ee4 : Int32) (h0 : Heap) (n0 : Nat) (v : Option Value) (h : Heap) (L : List Loc) : Prop := ∃ (rb : Addr) (rk : ClassId), v = some (.ref rb) ∧ Fr n0 L ∧ Keep h0 h [] ∧ Arv Z h rb rk .byte (1 : Int32) [(.int ee0)] (.int (0 : Int32)) ∧ n0 ≤ rb ∧ h0.size ≤ rb
set_option maxRecDepth 65536 in
set_option maxHeartbeats 40000000 in
theorem rm23n5b0e1 (l : Launch) (Z : State) (a0 : Array Value) (hw : ∀ d ∈ tables_1, d.before a0 Z = true) (ws : List Jvm.Cond) (ab : Addr) (kb : ClassId) (ee0 : Int32) (ee1 : Int32) (ee2 : Int32) (ee3 : Int32) (ee4 : Int32) (h0 : Heap) (n0 : Nat) (Z0 : n0 ≤ h0.size) (Va : Arv Z h0 ab kb .byte (5 : Int32) [(.int ee0), (.int ee1), (.int ee2), (.int ee3), (.int ee4)] (.int (0 : Int32))) :
    MetFree l (⟨"java/util/Arrays", "copyOfRangeByte", "([BII)[B"⟩ : MethodName) (head1 (Jvm.Cond.code (⟨"java/util/Arrays", "copyOfRangeByte", "([BII)[B"⟩ : MethodName) jdk_65_method_133_code 5 (some (.array .byte)) :: ws) ({ frames := 1, cells := 1, slots := 1, locals := 18 } : Room)) (fun a U => a = #[(.ref ab), (.int (0 : Int32)), (.int (1 : Int32))] ∧ Z.Warmed39 U.vm ∧ U.heap = h0) (fun _ _ _ _ _ => True) (fun _ U o U' => ∃ v L, o = .returned v ∧ Q23n5b0e1 Z ab kb ee0 ee1 ee2 ee3 ee4 h0 n0 v U'.heap L ∧ FrameEnd U o U' L ({ frames := 1, cells := 1, slots := 1, locals := 18 } : Room).cells ({ frames := 1, cells := 1, slots := 1, locals := 18 } : Room).slots) := by
  refine MetFree.of_bodySF (plainFor_of_name own_pn248) hisR ?_
  intro p e s m args below meth c s₁ Bd hml0 hP hK
  have H := fun i c (h : tables_1[i]? = some c) => hw c (List.mem_of_getElem? h)
  obtain ⟨rfl, hZ, hh⟩ := hP
  have hx := Bd.exec
  have hby := Bd.bytes
  have hml : c.maxLocals = 5 := hml0
  have hown : s.vm.findClass "java/util/Arrays" = some m.cls := findClass_of_methodNamed Bd.named
  have hnm := (name_of_methodNamed Bd.named Bd.method).1
  have X0 : Stand p l e ({ frames := 1, cells := 1, slots := 1, locals := 18 } : Room) s m #[(.ref ab), (.int (0 : Int32)), (.int (1 : Int32))] below meth c s₁ [] 0 0 := Stand.of_body Bd
  have e0 : s₁.heap = h0 := by rw [← hh, Bd.state]; rfl
  have N0 := Fr.nil n0
  have pre0 : ∀ t, Sp p e below m s₁ 0 #[.val (.ref ab), .val (.int (0 : Int32)), .val (.int (1 : Int32)), .unset, .unset] [] t → Steps p.tables e below (s₁.setTop (entryFrame m #[(.ref ab), (.int (0 : Int32)), (.int (1 : Int32))] 5)) t := fun t k => castTop (ef_23n5b0e1 m ab) k
  generalize s₁.setTop (entryFrame m #[(.ref ab), (.int (0 : Int32)), (.int (1 : Int32))] 5) = G0 at pre0 ⊢
  obtain ⟨_, _, ⟨T239, L239, k239, n239⟩, -, X239, ⟨Lc239, hQ239, l239, y239, z239⟩, st239⟩ := Jvm.LawKit.callS X0 hx (y := (⟨"java/util/Arrays", "checkLength", "(II)V"⟩ : MethodName)) hown (mvT hZ (H 105 _ rfl)) (mvT hZ (H 106 _ rfl)) (mvT hZ (H 100 _ rfl)) (mvT hZ (H 107 _ rfl)) (by decide) (backOf (W := 0) (rm24 l Z a0 hw [] (0 : Int32) (1 : Int32)  h0 n0 Z0 (by decide)) hZ (H 107 _ rfl) (H 100 _ rfl) (by decide) (by decide)) (g := (mkF m 2 #[.val (.ref ab), .val (.int (0 : Int32)), .val (.int (1 : Int32)), .unset, .unset] [(.int (1 : Int32)), (.int (0 : Int32))])) rfl (by rw [hml]; rfl) (argsL := [(.int (0 : Int32)), (.int (1 : Int32))]) (rest := []) (lenOf own_pd121 rfl) rfl (Nat.le_of_eq rfl) (hb hby d23_2) (fun _ _ => ⟨rfl, e0, (by decide : 0 + 0 ≤ _), (by decide : 0 + 0 ≤ _)⟩)
  dsimp only [Pt.U, Pt.locs, Pt.cells, Pt.slots] at X239 l239 y239 z239 st239 hQ239
  rw [l239, y239, z239] at X239
  clear l239 y239 z239
  obtain ⟨rfl, Nq239, e239⟩ := hQ239
  have N239 := Fr.app N0 Nq239
  obtain ⟨T240, h240, k240, X240, e240, E240, A240, st240⟩ := newP X239 hx hZ (H 21 _ rfl) e239 (g := (mkF m 10 #[.val (.ref ab), .val (.int (0 : Int32)), .val (.int (1 : Int32)), .val (.int (1 : Int32)), .unset] [(.int (1 : Int32))])) rfl (hb hby d23_10) rfl (by decide) (cap := 1) (by decide) (by decide) (by decide) (by decide)
  obtain ⟨b240, g240⟩ : ∃ z, z = h0.size := ⟨_, rfl⟩
  rw [← g240] at A240 st240
  have g_b240 : n0 ≤ b240 := Nat.le_trans Z0 (Nat.le_of_eq g240.symm)
  have sz_b240 : h0.size ≤ b240 := Nat.le_of_eq g240.symm
  have lt_ab_b240 : ab < b240 := Nat.lt_of_lt_of_le Va.lt (Nat.le_of_eq g240.symm)
  have ne_ab_b240 : ab ≠ b240 := Nat.ne_of_lt lt_ab_b240
  have Zs240 : n0 ≤ h240.size := Nat.le_trans Z0 E240.1
  have KK240 : Keep h0 h240 [] := (Keep.refl h0 _).ext E240
  have f241 := Va.ext E240
  have V240 : Arv Z h240 b240 k240 .byte (1 : Int32) [(.int (0 : Int32))] (.int (0 : Int32)) := (Arv.new A240 (by decide)).pad (pad_rep [] (.int (0 : Int32)) 1)
  obtain ⟨cl242, Ar242, -, S242, M242, -, -⟩ := id f241
  obtain ⟨_, _, ⟨T243, L243, k243, n243⟩, -, X243, ⟨Lc243, hQ243, l243, y243, z243⟩, st243⟩ := Jvm.LawKit.callS X240 hx (y := (⟨"java/lang/Math", "min", "(II)I"⟩ : MethodName)) hown (mvT hZ (H 108 _ rfl)) (mvT hZ (H 73 _ rfl)) (mvT hZ (H 70 _ rfl)) (mvT hZ (H 74 _ rfl)) (by decide) (backOf (W := 4) (rm16 l Z a0 hw [] (5 : Int32) (1 : Int32)  h240 n0 Zs240 ) hZ (H 74 _ rfl) (H 70 _ rfl) (by decide) (by decide)) (g := (mkF m 24 #[.val (.ref ab), .val (.int (0 : Int32)), .val (.int (1 : Int32)), .val (.int (1 : Int32)), .val (.ref b240)] [(.int (1 : Int32)), (.int (5 : Int32)), (.int (0 : Int32)), (.ref b240), (.int (0 : Int32)), (.ref ab)])) rfl (by rw [hml]; rfl) (argsL := [(.int (5 : Int32)), (.int (1 : Int32))]) (rest := [(.int (0 : Int32)), (.ref b240), (.int (0 : Int32)), (.ref ab)]) (lenOf own_pd188 rfl) rfl (Nat.le_of_eq rfl) (hb hby d23_24) (fun _ _ => ⟨rfl, e240, (by decide : 1 + 0 ≤ _), (by decide : 1 + 0 ≤ _)⟩)
  dsimp only [Pt.U, Pt.locs, Pt.cells, Pt.slots] at X243 l243 y243 z243 st243 hQ243
  rw [l243, y243, z243] at X243
  clear l243 y243 z243
  obtain ⟨rfl, Nq243, e243⟩ := hQ243
  have N243 := Fr.app N239 Nq243
  have pre244 : ∀ t, Sp p e below m T243 27 #[.val (.ref ab), .val (.int (0 : Int32)), .val (.int (1 : Int32)), .val (.int (1 : Int32)), .val (.ref b240)] [(.int (if (1 : Int32) < (5 : Int32) then (1 : Int32) else (5 : Int32))), (.int (0 : Int32)), (.ref b240), (.int (0 : Int32)), (.ref ab)] t → Steps p.tables e below G0 t := by
    intro t k
    refine pre0 t ?_
    show Sp p e below m s₁ 0 #[.val (.ref ab), .val (.int (0 : Int32)), .val (.int (1 : Int32)), .unset, .unset] [] _
    refine XS.iloadN X0.here hx rfl (hb hby d23_0) rfl ?_
    refine XS.iloadN X0.here hx rfl (hb hby d23_1) rfl ?_
    show Sp p e below m s₁ 2 #[.val (.ref ab), .val (.int (0 : Int32)), .val (.int (1 : Int32)), .unset, .unset] [(.int (1 : Int32)), (.int (0 : Int32))] _
    refine st239 _ ?_
    show Sp p e below m T239 5 #[.val (.ref ab), .val (.int (0 : Int32)), .val (.int (1 : Int32)), .unset, .unset] [] _
    refine XS.iloadN X239.here hx rfl (hb hby d23_5) rfl ?_
    refine XS.iloadN X239.here hx rfl (hb hby d23_6) rfl ?_
    show Sp p e below m T239 7 #[.val (.ref ab), .val (.int (0 : Int32)), .val (.int (1 : Int32)), .unset, .unset] [(.int (0 : Int32)), (.int (1 : Int32))] _
    refine XS.isub X239.here hx rfl (hb hby d23_7) rfl ?_
    show Sp p e below m T239 8 #[.val (.ref ab), .val (.int (0 : Int32)), .val (.int (1 : Int32)), .unset, .unset] [(.int (1 : Int32))] _
    refine XS.istoreN X239.here hx rfl (hb hby d23_8) rfl (l' := #[.val (.ref ab), .val (.int (0 : Int32)), .val (.int (1 : Int32)), .val (.int (1 : Int32)), .unset]) rfl ?_
    show Sp p e below m T239 9 #[.val (.ref ab), .val (.int (0 : Int32)), .val (.int (1 : Int32)), .val (.int (1 : Int32)), .unset] [] _
    refine XS.iloadN X239.here hx rfl (hb hby d23_9) rfl ?_
    refine st240 _ ?_
    show Sp p e below m T240 12 #[.val (.ref ab), .val (.int (0 : Int32)), .val (.int (1 : Int32)), .val (.int (1 : Int32)), .unset] [(.ref b240)] _
    refine XS.astore X240.here hx rfl (hb hby d23_12) rfl rfl (l' := #[.val (.ref ab), .val (.int (0 : Int32)), .val (.int (1 : Int32)), .val (.int (1 : Int32)), .val (.ref b240)]) rfl ?_
    show Sp p e below m T240 14 #[.val (.ref ab), .val (.int (0 : Int32)), .val (.int (1 : Int32)), .val (.int (1 : Int32)), .val (.ref b240)] [] _
    refine XS.aloadN X240.here hx rfl (hb hby d23_14) rfl rfl ?_
    refine XS.iloadN X240.here hx rfl (hb hby d23_15) rfl ?_
    show Sp p e below m T240 16 #[.val (.ref ab), .val (.int (0 : Int32)), .val (.int (1 : Int32)), .val (.int (1 : Int32)), .val (.ref b240)] [(.int (0 : Int32)), (.ref ab)] _
    refine XS.aload X240.here hx rfl (hb hby d23_16) rfl rfl ?_
    refine XS.iconst X240.here hx rfl (hb hby d23_18) ?_
    show Sp p e below m T240 19 #[.val (.ref ab), .val (.int (0 : Int32)), .val (.int (1 : Int32)), .val (.int (1 : Int32)), .val (.ref b240)] [(.int (0 : Int32)), (.ref b240), (.int (0 : Int32)), (.ref ab)] _
    refine XS.aloadN X240.here hx rfl (hb hby d23_19) rfl rfl ?_
    refine X240.arraylength hx (by rw [e240]; exact Ar242.1) (State.isArrayOf_alike hZ.alike Ar242.2.1) (g := (mkF m 20 #[.val (.ref ab), .val (.int (0 : Int32)), .val (.int (1 : Int32)), .val (.int (1 : Int32)), .val (.ref b240)] [(.ref ab), (.int (0 : Int32)), (.ref b240), (.int (0 : Int32)), (.ref ab)])) rfl rfl (hb hby d23_20) _ ?_
    rw [len_of S242 M242]
    show Sp p e below m T240 21 #[.val (.ref ab), .val (.int (0 : Int32)), .val (.int (1 : Int32)), .val (.int (1 : Int32)), .val (.ref b240)] [(.int (5 : Int32)), (.int (0 : Int32)), (.ref b240), (.int (0 : Int32)), (.ref ab)] _
    refine XS.iloadN X240.here hx rfl (hb hby d23_21) rfl ?_
    refine XS.isub X240.here hx rfl (hb hby d23_22) rfl ?_
    show Sp p e below m T240 23 #[.val (.ref ab), .val (.int (0 : Int32)), .val (.int (1 : Int32)), .val (.int (1 : Int32)), .val (.ref b240)] [(.int (5 : Int32)), (.int (0 : Int32)), (.ref b240), (.int (0 : Int32)), (.ref ab)] _
    refine XS.iloadN X240.here hx rfl (hb hby d23_23) rfl ?_
    refine st243 _ ?_
    exact k
  rw [show (if (1 : Int32) < (5 : Int32) then (1 : Int32) else (5 : Int32)) = (1 : Int32) from by decide] at pre244
  obtain ⟨T245, h245, L245, X245, e245, N245, K245, Vc245, st245⟩ := cpA X243 hx hZ hown (H 109 _ rfl) (H 112 _ rfl) (H 110 _ rfl) (H 111 _ rfl) e243 f241 V240 (Or.inl ⟨rfl, rfl⟩) (by decide) (by decide) (by decide) (by decide) (by decide) rfl (Nat.le_of_ble_eq_true rfl) N243 g_b240 (g := (mkF m 27 #[.val (.ref ab), .val (.int (0 : Int32)), .val (.int (1 : Int32)), .val (.int (1 : Int32)), .val (.ref b240)] [(.int (1 : Int32)), (.int (0 : Int32)), (.ref b240), (.int (0 : Int32)), (.ref ab)])) rfl (by rw [hml]; rfl) rfl (hb hby d23_27) (by decide) (W := 0) (Nat.le_of_eq rfl) (by decide)
  have V245 : Arv Z h245 b240 k240 .byte (1 : Int32) [(.int ee0)] (.int (0 : Int32)) := Vc245
  have Zs245 : n0 ≤ h245.size := Nat.le_trans Zs240 K245.1
  have KK245 : Keep h0 h245 [] := KK240.trans K245 (allS (Or.inr sz_b240) all0)
  have f246 := f241.keep K245 (ninS ne_ab_b240 nin0)
  obtain ⟨fs, hr, hrun, hended, hW, hsame⟩ := X245.leave (v := some (.ref b240)) (fun h => by rw [Bd.returns] at h; cases h)
  refine ⟨_, _, pre244 _ ?_, hrun, hended, _, _, rfl, ?_, ⟨_, rfl⟩, hW, hsame.mono (by decide) (by decide)⟩
  · show Sp p e below m T243 27 #[.val (.ref ab), .val (.int (0 : Int32)), .val (.int (1 : Int32)), .val (.int (1 : Int32)), .val (.ref b240)] [(.int (1 : Int32)), (.int (0 : Int32)), (.ref b240), (.int (0 : Int32)), (.ref ab)] _
    refine st245 _ ?_
    show Sp p e below m T245 30 #[.val (.ref ab), .val (.int (0 : Int32)), .val (.int (1 : Int32)), .val (.int (1 : Int32)), .val (.ref b240)] [] _
    refine XS.aload X245.here hx rfl (hb hby d23_30) rfl rfl ?_
    jvm_step X245.here [X245.here.top, hx, (hb hby d23_32), X245.method', Bd.returns, Value.isRef, FieldType.isReference]
    first | (intro acts; rw [hr _ acts rfl rfl rfl]) | rw [hr _ _ rfl rfl rfl]
    exact Steps.refl _
  · show Q23n5b0e1 Z ab kb ee0 ee1 ee2 ee3 ee4 h0 n0 _ T245.heap _
    rw [e245]
    exact ⟨b240, k240, rfl, N245, KK245, V245, g_b240, sz_b240⟩
theorem d22_0 : decode jdk_65_method_132_code 0 = .ok (.iload_n 1, 1) := by decide +kernel
theorem d22_1 : decode jdk_65_method_132_code 1 = .ok (.ifCond .ne 9, 3) := by decide +kernel
theorem d22_4 : decode jdk_65_method_132_code 4 = .ok (.iload_n 2, 1) := by decide +kernel
theorem d22_5 : decode jdk_65_method_132_code 5 = .ok (.aload_n 0, 1) := by decide +kernel
theorem d22_6 : decode jdk_65_method_132_code 6 = .ok (.arraylength, 1) := by decide +kernel
theorem d22_7 : decode jdk_65_method_132_code 7 = .ok (.if_icmp .eq 10, 3) := by decide +kernel
theorem d22_10 : decode jdk_65_method_132_code 10 = .ok (.aload_n 0, 1) := by decide +kernel
theorem d22_11 : decode jdk_65_method_132_code 11 = .ok (.iload_n 1, 1) := by decide +kernel
theorem d22_12 : decode jdk_65_method_132_code 12 = .ok (.iload_n 2, 1) := by decide +kernel
theorem d22_13 : decode jdk_65_method_132_code 13 = .ok (.invokestatic 339, 3) := by decide +kernel
theorem own_pd282 : parseMethodDescriptor "([BII)[B" = some ⟨[(.array .byte), .int, .int], some (.array .byte)⟩ := by decide +kernel
theorem d22_16 : decode jdk_65_method_132_code 16 = .ok (.areturn, 1) := by decide +kernel
theorem ef_22n5b0e1 (m : MethodId) (x0 : Addr) : entryFrame m #[(.ref x0), (.int (0 : Int32)), (.int (1 : Int32))] 3 = mkF m 0 #[.val (.ref x0), .val (.int (0 : Int32)), .val (.int (1 : Int32))] [] := by first | (simp [entryFrame, mkF, argsToLocals, Value.category]; done) | rfl
def Q22n5b0e1 (Z : State) (ab : Addr) (kb : ClassId) (ee0 : Int32) (ee1 : Int32) (ee2 : Int32) (ee3 : Int32) (ee4 : Int32) (h0 : Heap) (n0 : Nat) (v : Option Value) (h : Heap) (L : List Loc) : Prop := ∃ (rb : Addr) (rk : ClassId), v = some (.ref rb) ∧ Fr n0 L ∧ Keep h0 h [] ∧ Arv Z h rb rk .byte (1 : Int32) [(.int ee0)] (.int (0 : Int32)) ∧ n0 ≤ rb ∧ h0.size ≤ rb
set_option maxRecDepth 65536 in
set_option maxHeartbeats 40000000 in
theorem rm22n5b0e1 (l : Launch) (Z : State) (a0 : Array Value) (hw : ∀ d ∈ tables_1, d.before a0 Z = true) (ws : List Jvm.Cond) (ab : Addr) (kb : ClassId) (ee0 : Int32) (ee1 : Int32) (ee2 : Int32) (ee3 : Int32) (ee4 : Int32) (h0 : Heap) (n0 : Nat) (Z0 : n0 ≤ h0.size) (Va : Arv Z h0 ab kb .byte (5 : Int32) [(.int ee0), (.int ee1), (.int ee2), (.int ee3), (.int ee4)] (.int (0 : Int32))) :
    MetFree l (⟨"java/util/Arrays", "copyOfRange", "([BII)[B"⟩ : MethodName) (head1 (Jvm.Cond.code (⟨"java/util/Arrays", "copyOfRange", "([BII)[B"⟩ : MethodName) jdk_65_method_132_code 3 (some (.array .byte)) :: ws) ({ frames := 2, cells := 1, slots := 1, locals := 34 } : Room)) (fun a U => a = #[(.ref ab), (.int (0 : Int32)), (.int (1 : Int32))] ∧ Z.Warmed39 U.vm ∧ U.heap = h0) (fun _ _ _ _ _ => True) (fun _ U o U' => ∃ v L, o = .returned v ∧ Q22n5b0e1 Z ab kb ee0 ee1 ee2 ee3 ee4 h0 n0 v U'.heap L ∧ FrameEnd U o U' L ({ frames := 2, cells := 1, slots := 1, locals := 34 } : Room).cells ({ frames := 2, cells := 1, slots := 1, locals := 34 } : Room).slots) := by
  refine MetFree.of_bodySF (plainFor_of_name own_pn248) hisR ?_
  intro p e s m args below meth c s₁ Bd hml0 hP hK
  have H := fun i c (h : tables_1[i]? = some c) => hw c (List.mem_of_getElem? h)
  obtain ⟨rfl, hZ, hh⟩ := hP
  have hx := Bd.exec
  have hby := Bd.bytes
  have hml : c.maxLocals = 3 := hml0
  have hown : s.vm.findClass "java/util/Arrays" = some m.cls := findClass_of_methodNamed Bd.named
  have hnm := (name_of_methodNamed Bd.named Bd.method).1
  have X0 : Stand p l e ({ frames := 2, cells := 1, slots := 1, locals := 34 } : Room) s m #[(.ref ab), (.int (0 : Int32)), (.int (1 : Int32))] below meth c s₁ [] 0 0 := Stand.of_body Bd
  have e0 : s₁.heap = h0 := by rw [← hh, Bd.state]; rfl
  have N0 := Fr.nil n0
  have pre0 : ∀ t, Sp p e below m s₁ 0 #[.val (.ref ab), .val (.int (0 : Int32)), .val (.int (1 : Int32))] [] t → Steps p.tables e below (s₁.setTop (entryFrame m #[(.ref ab), (.int (0 : Int32)), (.int (1 : Int32))] 3)) t := fun t k => castTop (ef_22n5b0e1 m ab) k
  generalize s₁.setTop (entryFrame m #[(.ref ab), (.int (0 : Int32)), (.int (1 : Int32))] 3) = G0 at pre0 ⊢
  obtain ⟨cl250, Ar250, -, S250, M250, -, -⟩ := id Va
  obtain ⟨_, _, ⟨T251, L251, k251, n251⟩, -, X251, ⟨Lc251, hQ251, l251, y251, z251⟩, st251⟩ := Jvm.LawKit.callS X0 hx (y := (⟨"java/util/Arrays", "copyOfRangeByte", "([BII)[B"⟩ : MethodName)) hown (mvT hZ (H 102 _ rfl)) (mvT hZ (H 103 _ rfl)) (mvT hZ (H 100 _ rfl)) (mvT hZ (H 104 _ rfl)) (by decide) (backOf (W := 0) (rm23n5b0e1 l Z a0 hw [] ab kb ee0 ee1 ee2 ee3 ee4 h0 n0 Z0 Va) hZ (H 104 _ rfl) (H 100 _ rfl) (by decide) (by decide)) (g := (mkF m 13 #[.val (.ref ab), .val (.int (0 : Int32)), .val (.int (1 : Int32))] [(.int (1 : Int32)), (.int (0 : Int32)), (.ref ab)])) rfl (by rw [hml]; rfl) (argsL := [(.ref ab), (.int (0 : Int32)), (.int (1 : Int32))]) (rest := []) (lenOf own_pd282 rfl) rfl (Nat.le_of_eq rfl) (hb hby d22_13) (fun _ _ => ⟨rfl, e0, (by decide : 0 + 1 ≤ _), (by decide : 0 + 1 ≤ _)⟩)
  dsimp only [Pt.U, Pt.locs, Pt.cells, Pt.slots] at X251 l251 y251 z251 st251 hQ251
  rw [l251, y251, z251] at X251
  clear l251 y251 z251
  obtain ⟨rrb_251, rrk_251, rfl, Nq251, K251, p251_0, p251_1, p251_2⟩ := hQ251
  have N251 := Fr.app N0 Nq251
  have Zs251 : n0 ≤ T251.heap.size := Nat.le_trans Z0 K251.1
  have KK251 : Keep h0 T251.heap [] := (Keep.refl h0 _).trans K251 all0
  have ne_ab_rrb_251 : ab ≠ rrb_251 := Nat.ne_of_lt (Nat.lt_of_lt_of_le Va.lt p251_2)
  have sz_rrb_251 : h0.size ≤ rrb_251 := p251_2
  have f252 := Va.keep K251 nin0
  have g_rrb_251 := p251_1
  obtain ⟨fs, hr, hrun, hended, hW, hsame⟩ := X251.leave (v := some (.ref rrb_251)) (fun h => by rw [Bd.returns] at h; cases h)
  refine ⟨_, _, pre0 _ ?_, hrun, hended, _, _, rfl, ?_, ⟨_, rfl⟩, hW, hsame.mono (by decide) (by decide)⟩
  · show Sp p e below m s₁ 0 #[.val (.ref ab), .val (.int (0 : Int32)), .val (.int (1 : Int32))] [] _
    refine XS.iloadN X0.here hx rfl (hb hby d22_0) rfl ?_
    refine XS.ifNo X0.here hx rfl (hb hby d22_1) rfl ((if0 _ _).trans (teq (by decide : ((0 : Int32) = (0 : Int32)))).2) ?_
    show Sp p e below m s₁ 4 #[.val (.ref ab), .val (.int (0 : Int32)), .val (.int (1 : Int32))] [] _
    refine XS.iloadN X0.here hx rfl (hb hby d22_4) rfl ?_
    refine XS.aloadN X0.here hx rfl (hb hby d22_5) rfl rfl ?_
    show Sp p e below m s₁ 6 #[.val (.ref ab), .val (.int (0 : Int32)), .val (.int (1 : Int32))] [(.ref ab), (.int (1 : Int32))] _
    refine X0.arraylength hx (by rw [e0]; exact Ar250.1) (State.isArrayOf_alike hZ.alike Ar250.2.1) (g := (mkF m 6 #[.val (.ref ab), .val (.int (0 : Int32)), .val (.int (1 : Int32))] [(.ref ab), (.int (1 : Int32))])) rfl rfl (hb hby d22_6) _ ?_
    rw [len_of S250 M250]
    show Sp p e below m s₁ 7 #[.val (.ref ab), .val (.int (0 : Int32)), .val (.int (1 : Int32))] [(.int (5 : Int32)), (.int (1 : Int32))] _
    refine XS.icmpNo X0.here hx rfl (hb hby d22_7) rfl (feq (by decide : ¬ ((1 : Int32) = (5 : Int32)))).1 ?_
    show Sp p e below m s₁ 10 #[.val (.ref ab), .val (.int (0 : Int32)), .val (.int (1 : Int32))] [] _
    refine XS.aloadN X0.here hx rfl (hb hby d22_10) rfl rfl ?_
    refine XS.iloadN X0.here hx rfl (hb hby d22_11) rfl ?_
    show Sp p e below m s₁ 12 #[.val (.ref ab), .val (.int (0 : Int32)), .val (.int (1 : Int32))] [(.int (0 : Int32)), (.ref ab)] _
    refine XS.iloadN X0.here hx rfl (hb hby d22_12) rfl ?_
    refine st251 _ ?_
    show Sp p e below m T251 16 #[.val (.ref ab), .val (.int (0 : Int32)), .val (.int (1 : Int32))] [(.ref rrb_251)] _
    jvm_step X251.here [X251.here.top, hx, (hb hby d22_16), X251.method', Bd.returns, Value.isRef, FieldType.isReference]
    first | (intro acts; rw [hr _ acts rfl rfl rfl]) | rw [hr _ _ rfl rfl rfl]
    exact Steps.refl _
  · show Q22n5b0e1 Z ab kb ee0 ee1 ee2 ee3 ee4 h0 n0 _ T251.heap _
    exact ⟨rrb_251, rrk_251, rfl, N251, KK251, p251_0, g_rrb_251, sz_rrb_251⟩
theorem d25_0 : decode jdk_42_method_151_code 0 = .ok (.aload_n 0, 1) := by decide +kernel
theorem d25_1 : decode jdk_42_method_151_code 1 = .ok (.invokespecial 1, 3) := by decide +kernel
theorem d25_4 : decode jdk_42_method_151_code 4 = .ok (.aload_n 0, 1) := by decide +kernel
theorem d25_5 : decode jdk_42_method_151_code 5 = .ok (.aload_n 1, 1) := by decide +kernel
theorem d25_6 : decode jdk_42_method_151_code 6 = .ok (.putfield 9, 3) := by decide +kernel
theorem d25_9 : decode jdk_42_method_151_code 9 = .ok (.aload_n 0, 1) := by decide +kernel
theorem d25_10 : decode jdk_42_method_151_code 10 = .ok (.iload_n 2, 1) := by decide +kernel
theorem d25_11 : decode jdk_42_method_151_code 11 = .ok (.putfield 15, 3) := by decide +kernel
theorem d25_14 : decode jdk_42_method_151_code 14 = .ok (.return_, 1) := by decide +kernel
theorem ef_25 (m : MethodId) (x0 : Addr) (x1 : Addr) : entryFrame m #[(.ref x0), (.ref x1), (.int (0 : Int32))] 3 = mkF m 0 #[.val (.ref x0), .val (.ref x1), .val (.int (0 : Int32))] [] := by first | (simp [entryFrame, mkF, argsToLocals, Value.category]; done) | rfl
def Q25 (Z : State) (aa : Addr) (ab : Addr) (h0 : Heap) (n0 : Nat) (v : Option Value) (h : Heap) (L : List Loc) : Prop := v = none ∧ Fr n0 L ∧ Keep h0 h [aa] ∧ Exa Z h aa "java/lang/String" ∧ Fld Z h aa "java/lang/String" "value" "[B" (.ref ab) ∧ Fld Z h aa "java/lang/String" "coder" "B" (.int (0 : Int32))
set_option maxRecDepth 65536 in
set_option maxHeartbeats 40000000 in
theorem rm25 (l : Launch) (Z : State) (a0 : Array Value) (hw : ∀ d ∈ tables_1, d.before a0 Z = true) (ws : List Jvm.Cond) (aa : Addr) (ab : Addr) (h0 : Heap) (n0 : Nat) (Z0 : n0 ≤ h0.size) (Ea : Exa Z h0 aa "java/lang/String") (Fv : Fld Z h0 aa "java/lang/String" "value" "[B" .null) (Fc : Fld Z h0 aa "java/lang/String" "coder" "B" (.int (0 : Int32))) (g_aa : n0 ≤ aa) :
    MetFree l (⟨"java/lang/String", "<init>", "([BB)V"⟩ : MethodName) (head1 (Jvm.Cond.code (⟨"java/lang/String", "<init>", "([BB)V"⟩ : MethodName) jdk_42_method_151_code 3 none :: ws) ({ frames := 1, cells := 0, slots := 0, locals := 12 } : Room)) (fun a U => a = #[(.ref aa), (.ref ab), (.int (0 : Int32))] ∧ Z.Warmed39 U.vm ∧ U.heap = h0) (fun _ _ _ _ _ => True) (fun _ U o U' => ∃ v L, o = .returned v ∧ Q25 Z aa ab h0 n0 v U'.heap L ∧ FrameEnd U o U' L ({ frames := 1, cells := 0, slots := 0, locals := 12 } : Room).cells ({ frames := 1, cells := 0, slots := 0, locals := 12 } : Room).slots) := by
  refine MetFree.of_bodySF (plainFor_of_name own_pn8) hisR ?_
  intro p e s m args below meth c s₁ Bd hml0 hP hK
  have H := fun i c (h : tables_1[i]? = some c) => hw c (List.mem_of_getElem? h)
  obtain ⟨rfl, hZ, hh⟩ := hP
  have hx := Bd.exec
  have hby := Bd.bytes
  have hml : c.maxLocals = 3 := hml0
  have hown : s.vm.findClass "java/lang/String" = some m.cls := findClass_of_methodNamed Bd.named
  have hnm := (name_of_methodNamed Bd.named Bd.method).1
  have X0 : Stand p l e ({ frames := 1, cells := 0, slots := 0, locals := 12 } : Room) s m #[(.ref aa), (.ref ab), (.int (0 : Int32))] below meth c s₁ [] 0 0 := Stand.of_body Bd
  have e0 : s₁.heap = h0 := by rw [← hh, Bd.state]; rfl
  have N0 := Fr.nil n0
  have pre0 : ∀ t, Sp p e below m s₁ 0 #[.val (.ref aa), .val (.ref ab), .val (.int (0 : Int32))] [] t → Steps p.tables e below (s₁.setTop (entryFrame m #[(.ref aa), (.ref ab), (.int (0 : Int32))] 3)) t := fun t k => castTop (ef_25 m aa ab) k
  generalize s₁.setTop (entryFrame m #[(.ref aa), (.ref ab), (.int (0 : Int32))] 3) = G0 at pre0 ⊢
  obtain ⟨T262, X262, e262, st262⟩ := initO X0 hx hZ hown (H 13 _ rfl) (H 14 _ rfl) (H 15 _ rfl) e0 (g := (mkF m 1 #[.val (.ref aa), .val (.ref ab), .val (.int (0 : Int32))] [(.ref aa)])) rfl (by rw [hml]; rfl) rfl (hb hby d25_1) (by decide) (W := 0) (Nat.le_of_eq rfl) (by decide)
  obtain ⟨T263, h263, X263, e263, W263, st263⟩ := putF X262 hx hZ hown (host := "") (Or.inl (H 30 _ rfl)) Via.refl e262 Fv Ea (Or.inr ⟨(H 31 _ rfl), rfl, hnm⟩) (H 4 _ rfl) (ty := (.array .byte)) (by decide) rfl rfl (g := (mkF m 6 #[.val (.ref aa), .val (.ref ab), .val (.int (0 : Int32))] [(.ref ab), (.ref aa)])) rfl rfl (hb hby d25_6)
  have N263 := Fr.snoc X263 N0 g_aa
  have Zs263 : n0 ≤ h263.size := Nat.le_trans Z0 (Keep.of_wr W263).1
  have KK263 : Keep h0 h263 [aa] := (Keep.refl h0 _).wr W263 (Or.inl (List.mem_of_getElem? (i := 0) rfl))
  have f264 := Ea.wr W263
  have f265 := Fv.same W263
  have f266 := Fc.other W263 (Or.inr (slot_ne (Or.inr (H 29 _ rfl)) (Or.inr (H 31 _ rfl)) (by decide) (t := .byte) (t' := (.array .byte)) (by decide) (by decide)))
  obtain ⟨T267, h267, X267, e267, W267, st267⟩ := putFN X263 hx hZ hown (H 28 _ rfl) Via.refl e263 f266 f264 (Or.inr ⟨(H 29 _ rfl), rfl, hnm⟩) (H 4 _ rfl) (ty := .byte) (v' := (.int (0 : Int32))) (by decide) rfl (fits_nar_byte (0 : Int32)) (g := (mkF m 11 #[.val (.ref aa), .val (.ref ab), .val (.int (0 : Int32))] [(.int (0 : Int32)), (.ref aa)])) rfl rfl (hb hby d25_11)
  have N267 := Fr.snoc X267 N263 g_aa
  have Zs267 : n0 ≤ h267.size := Nat.le_trans Zs263 (Keep.of_wr W267).1
  have KK267 : Keep h0 h267 [aa] := KK263.wr W267 (Or.inl (List.mem_of_getElem? (i := 0) rfl))
  have f268 := f264.wr W267
  have f269 := f265.other W267 (Or.inr (slot_ne (Or.inr (H 31 _ rfl)) (Or.inr (H 29 _ rfl)) (by decide) (t := (.array .byte)) (t' := .byte) (by decide) (by decide)))
  have f270 := f266.same W267
  obtain ⟨fs, hr, hrun, hended, hW, hsame⟩ := X267.leave (v := none) (fun _ => rfl)
  refine ⟨_, _, pre0 _ ?_, hrun, hended, _, _, rfl, ?_, ⟨_, rfl⟩, hW, hsame.mono (by decide) (by decide)⟩
  · show Sp p e below m s₁ 0 #[.val (.ref aa), .val (.ref ab), .val (.int (0 : Int32))] [] _
    refine XS.aloadN X0.here hx rfl (hb hby d25_0) rfl rfl ?_
    refine st262 _ ?_
    show Sp p e below m T262 4 #[.val (.ref aa), .val (.ref ab), .val (.int (0 : Int32))] [] _
    refine XS.aloadN X262.here hx rfl (hb hby d25_4) rfl rfl ?_
    refine XS.aloadN X262.here hx rfl (hb hby d25_5) rfl rfl ?_
    show Sp p e below m T262 6 #[.val (.ref aa), .val (.ref ab), .val (.int (0 : Int32))] [(.ref ab), (.ref aa)] _
    refine st263 _ ?_
    show Sp p e below m T263 9 #[.val (.ref aa), .val (.ref ab), .val (.int (0 : Int32))] [] _
    refine XS.aloadN X263.here hx rfl (hb hby d25_9) rfl rfl ?_
    refine XS.iloadN X263.here hx rfl (hb hby d25_10) rfl ?_
    show Sp p e below m T263 11 #[.val (.ref aa), .val (.ref ab), .val (.int (0 : Int32))] [(.int (0 : Int32)), (.ref aa)] _
    refine st267 _ ?_
    show Sp p e below m T267 14 #[.val (.ref aa), .val (.ref ab), .val (.int (0 : Int32))] [] _
    exact X267.returnOut hx Bd.returns (hb hby d25_14) hr
  · show Q25 Z aa ab h0 n0 _ T267.heap _
    rw [e267]
    exact ⟨rfl, N267, KK267, f268, f269, f270⟩
theorem d21_0 : decode jdk_43_method_47_code 0 = .ok (.iload_n 2, 1) := by decide +kernel
theorem d21_1 : decode jdk_43_method_47_code 1 = .ok (.ifCond .ne 6, 3) := by decide +kernel
theorem d21_7 : decode jdk_43_method_47_code 7 = .ok (.new 1, 3) := by decide +kernel
theorem d21_10 : decode jdk_43_method_47_code 10 = .ok (.dup, 1) := by decide +kernel
theorem d21_11 : decode jdk_43_method_47_code 11 = .ok (.aload_n 0, 1) := by decide +kernel
theorem d21_12 : decode jdk_43_method_47_code 12 = .ok (.iload_n 1, 1) := by decide +kernel
theorem d21_13 : decode jdk_43_method_47_code 13 = .ok (.iload_n 1, 1) := by decide +kernel
theorem d21_14 : decode jdk_43_method_47_code 14 = .ok (.iload_n 2, 1) := by decide +kernel
theorem d21_15 : decode jdk_43_method_47_code 15 = .ok (.iadd, 1) := by decide +kernel
theorem d21_16 : decode jdk_43_method_47_code 16 = .ok (.invokestatic 232, 3) := by decide +kernel
theorem d21_19 : decode jdk_43_method_47_code 19 = .ok (.iconst 0, 1) := by decide +kernel
theorem d21_20 : decode jdk_43_method_47_code 20 = .ok (.invokespecial 112, 3) := by decide +kernel
theorem own_pd305 : parseMethodDescriptor "([BB)V" = some ⟨[(.array .byte), .byte], none⟩ := by decide +kernel
theorem d21_23 : decode jdk_43_method_47_code 23 = .ok (.areturn, 1) := by decide +kernel
theorem ef_21n5b0e1 (m : MethodId) (x0 : Addr) : entryFrame m #[(.ref x0), (.int (0 : Int32)), (.int (1 : Int32))] 3 = mkF m 0 #[.val (.ref x0), .val (.int (0 : Int32)), .val (.int (1 : Int32))] [] := by first | (simp [entryFrame, mkF, argsToLocals, Value.category]; done) | rfl
def Q21n5b0e1 (Z : State) (ab : Addr) (kb : ClassId) (ee0 : Int32) (ee1 : Int32) (ee2 : Int32) (ee3 : Int32) (ee4 : Int32) (h0 : Heap) (n0 : Nat) (v : Option Value) (h : Heap) (L : List Loc) : Prop := ∃ (so : Addr) (rb : Addr) (rk : ClassId), v = some (.ref so) ∧ Fr n0 L ∧ Keep h0 h [] ∧ Exa Z h so "java/lang/String" ∧ Fld Z h so "java/lang/String" "value" "[B" (.ref rb) ∧ Fld Z h so "java/lang/String" "coder" "B" (.int (0 : Int32)) ∧ Arv Z h rb rk .byte (1 : Int32) [(.int ee0)] (.int (0 : Int32)) ∧ n0 ≤ so ∧ h0.size ≤ so ∧ n0 ≤ rb ∧ h0.size ≤ rb
set_option maxRecDepth 65536 in
set_option maxHeartbeats 40000000 in
theorem rm21n5b0e1 (l : Launch) (Z : State) (a0 : Array Value) (hw : ∀ d ∈ tables_1, d.before a0 Z = true) (ws : List Jvm.Cond) (ab : Addr) (kb : ClassId) (ee0 : Int32) (ee1 : Int32) (ee2 : Int32) (ee3 : Int32) (ee4 : Int32) (h0 : Heap) (n0 : Nat) (Z0 : n0 ≤ h0.size) (Va : Arv Z h0 ab kb .byte (5 : Int32) [(.int ee0), (.int ee1), (.int ee2), (.int ee3), (.int ee4)] (.int (0 : Int32))) :
    MetFree l (⟨"java/lang/StringLatin1", "newString", "([BII)Ljava/lang/String;"⟩ : MethodName) (head1 (Jvm.Cond.code (⟨"java/lang/StringLatin1", "newString", "([BII)Ljava/lang/String;"⟩ : MethodName) jdk_43_method_47_code 3 (some (.object "java/lang/String")) :: ws) ({ frames := 3, cells := 2, slots := 5, locals := 50 } : Room)) (fun a U => a = #[(.ref ab), (.int (0 : Int32)), (.int (1 : Int32))] ∧ Z.Warmed39 U.vm ∧ U.heap = h0) (fun _ _ _ _ _ => True) (fun _ U o U' => ∃ v L, o = .returned v ∧ Q21n5b0e1 Z ab kb ee0 ee1 ee2 ee3 ee4 h0 n0 v U'.heap L ∧ FrameEnd U o U' L ({ frames := 3, cells := 2, slots := 5, locals := 50 } : Room).cells ({ frames := 3, cells := 2, slots := 5, locals := 50 } : Room).slots) := by
  refine MetFree.of_bodySF (plainFor_of_name own_pn129) hisR ?_
  intro p e s m args below meth c s₁ Bd hml0 hP hK
  have H := fun i c (h : tables_1[i]? = some c) => hw c (List.mem_of_getElem? h)
  obtain ⟨rfl, hZ, hh⟩ := hP
  have hx := Bd.exec
  have hby := Bd.bytes
  have hml : c.maxLocals = 3 := hml0
  have hown : s.vm.findClass "java/lang/StringLatin1" = some m.cls := findClass_of_methodNamed Bd.named
  have hnm := (name_of_methodNamed Bd.named Bd.method).1
  have X0 : Stand p l e ({ frames := 3, cells := 2, slots := 5, locals := 50 } : Room) s m #[(.ref ab), (.int (0 : Int32)), (.int (1 : Int32))] below meth c s₁ [] 0 0 := Stand.of_body Bd
  have e0 : s₁.heap = h0 := by rw [← hh, Bd.state]; rfl
  have N0 := Fr.nil n0
  have pre0 : ∀ t, Sp p e below m s₁ 0 #[.val (.ref ab), .val (.int (0 : Int32)), .val (.int (1 : Int32))] [] t → Steps p.tables e below (s₁.setTop (entryFrame m #[(.ref ab), (.int (0 : Int32)), (.int (1 : Int32))] 3)) t := fun t k => castTop (ef_21n5b0e1 m ab) k
  generalize s₁.setTop (entryFrame m #[(.ref ab), (.int (0 : Int32)), (.int (1 : Int32))] 3) = G0 at pre0 ⊢
  obtain ⟨T284, h284, X284, e284, E284, A284, D284, -, st284⟩ := newO X0 hx hZ hown (H 97 _ rfl) (H 4 _ rfl) (H 5 _ rfl) e0 (g := (mkF m 7 #[.val (.ref ab), .val (.int (0 : Int32)), .val (.int (1 : Int32))] [])) rfl (hb hby d21_7) (by decide) (by decide)
  obtain ⟨b284, g284⟩ : ∃ z, z = h0.size := ⟨_, rfl⟩
  rw [← g284] at A284 D284 st284
  have g_b284 : n0 ≤ b284 := Nat.le_trans Z0 (Nat.le_of_eq g284.symm)
  have sz_b284 : h0.size ≤ b284 := Nat.le_of_eq g284.symm
  have lt_ab_b284 : ab < b284 := Nat.lt_of_lt_of_le Va.lt (Nat.le_of_eq g284.symm)
  have ne_ab_b284 : ab ≠ b284 := Nat.ne_of_lt lt_ab_b284
  have Zs284 : n0 ≤ h284.size := Nat.le_trans Z0 E284.1
  have KK284 : Keep h0 h284 [] := (Keep.refl h0 _).ext E284
  have f285 := Va.ext E284
  have f286 : Fld Z h284 b284 "java/lang/String" "coder" "B" (.int (0 : Int32)) := D284 (Or.inr (H 29 _ rfl)) (ty := .byte) (by decide)
  have f287 : Fld Z h284 b284 "java/lang/String" "value" "[B" .null := D284 (Or.inr (H 31 _ rfl)) (ty := (.array .byte)) (by decide)
  obtain ⟨_, _, ⟨T288, L288, k288, n288⟩, -, X288, ⟨Lc288, hQ288, l288, y288, z288⟩, st288⟩ := Jvm.LawKit.callS X284 hx (y := (⟨"java/util/Arrays", "copyOfRange", "([BII)[B"⟩ : MethodName)) hown (mvT hZ (H 98 _ rfl)) (mvT hZ (H 99 _ rfl)) (mvT hZ (H 100 _ rfl)) (mvT hZ (H 101 _ rfl)) (by decide) (backOf (W := 2) (rm22n5b0e1 l Z a0 hw [] ab kb ee0 ee1 ee2 ee3 ee4 h284 n0 Zs284 f285) hZ (H 101 _ rfl) (H 100 _ rfl) (by decide) (by decide)) (g := (mkF m 16 #[.val (.ref ab), .val (.int (0 : Int32)), .val (.int (1 : Int32))] [(.int (1 : Int32)), (.int (0 : Int32)), (.ref ab), (.ref b284), (.ref b284)])) rfl (by rw [hml]; rfl) (argsL := [(.ref ab), (.int (0 : Int32)), (.int (1 : Int32))]) (rest := [(.ref b284), (.ref b284)]) (lenOf own_pd282 rfl) rfl (Nat.le_of_eq rfl) (hb hby d21_16) (fun _ _ => ⟨rfl, e284, (by decide : 1 + 1 ≤ _), (by decide : 4 + 1 ≤ _)⟩)
  dsimp only [Pt.U, Pt.locs, Pt.cells, Pt.slots] at X288 l288 y288 z288 st288 hQ288
  rw [l288, y288, z288] at X288
  clear l288 y288 z288
  obtain ⟨rrb_288, rrk_288, rfl, Nq288, K288, p288_0, p288_1, p288_2⟩ := hQ288
  have N288 := Fr.app N0 Nq288
  have Zs288 : n0 ≤ T288.heap.size := Nat.le_trans Zs284 K288.1
  have KK288 : Keep h0 T288.heap [] := KK284.trans K288 all0
  have ne_ab_rrb_288 : ab ≠ rrb_288 := Nat.ne_of_lt (Nat.lt_of_lt_of_le f285.lt p288_2)
  have ne_b284_rrb_288 : b284 ≠ rrb_288 := Nat.ne_of_lt (Nat.lt_of_lt_of_le A284.lt p288_2)
  have sz_rrb_288 : h0.size ≤ rrb_288 := Nat.le_trans KK284.1 p288_2
  have f289 := f285.keep K288 nin0
  have f290 := A284.keep K288
  have f291 := f286.keep K288 nin0
  have f292 := f287.keep K288 nin0
  have g_rrb_288 := p288_1
  obtain ⟨_, _, ⟨T293, L293, k293, n293⟩, -, X293, ⟨Lc293, hQ293, l293, y293, z293⟩, st293⟩ := X288.specialBack hx (y := (⟨"java/lang/String", "<init>", "([BB)V"⟩ : MethodName)) rfl hown (mvT hZ (H 113 _ rfl)) (mvT hZ (H 114 _ rfl)) (mvT hZ (H 115 _ rfl)) (by decide) (backOf (W := 1) (rm25 l Z a0 hw [] b284 rrb_288  T288.heap n0 Zs288 f290 f292 f291 g_b284) hZ (H 115 _ rfl) (H 5 _ rfl) (by decide) (by decide)) (g := (mkF m 20 #[.val (.ref ab), .val (.int (0 : Int32)), .val (.int (1 : Int32))] [(.int (0 : Int32)), (.ref rrb_288), (.ref b284), (.ref b284)])) rfl (by rw [hml]; rfl) (Steps.refl _) (a := b284) (argsL := [(.ref rrb_288), (.int (0 : Int32))]) (rest := [(.ref b284)]) (lenOf own_pd305 rfl) rfl (Nat.le_of_eq rfl) (hb hby d21_20) (fun _ _ => ⟨rfl, rfl, (by decide : 2 + 0 ≤ _), (by decide : 5 + 0 ≤ _)⟩)
  dsimp only [Pt.U, Pt.locs, Pt.cells, Pt.slots] at X293 l293 y293 z293 st293 hQ293
  rw [l293, y293, z293] at X293
  clear l293 y293 z293
  obtain ⟨rfl, Nq293, K293, p293_0, p293_1, p293_2⟩ := hQ293
  have N293 := Fr.app N288 Nq293
  have Zs293 : n0 ≤ T293.heap.size := Nat.le_trans Zs288 K293.1
  have KK293 : Keep h0 T293.heap [] := KK288.trans K293 (allS (Or.inr sz_b284) all0)
  have f294 := f289.keep K293 (ninS ne_ab_b284 nin0)
  have f295 := f290.keep K293
  have f296 := p288_0.keep K293 (ninS (Ne.symm ne_b284_rrb_288) nin0)
  obtain ⟨fs, hr, hrun, hended, hW, hsame⟩ := X293.leave (v := some (.ref b284)) (fun h => by rw [Bd.returns] at h; cases h)
  refine ⟨_, _, pre0 _ ?_, hrun, hended, _, _, rfl, ?_, ⟨_, rfl⟩, hW, hsame.mono (by decide) (by decide)⟩
  · show Sp p e below m s₁ 0 #[.val (.ref ab), .val (.int (0 : Int32)), .val (.int (1 : Int32))] [] _
    refine XS.iloadN X0.here hx rfl (hb hby d21_0) rfl ?_
    refine XS.ifYes X0.here hx rfl (pc0 := 1) (pc' := 7) rfl (hb hby d21_1) rfl ((if0 _ _).trans (feq (by decide : ¬ ((1 : Int32) = (0 : Int32)))).2) (by decide) (by decide) ?_
    show Sp p e below m s₁ 7 #[.val (.ref ab), .val (.int (0 : Int32)), .val (.int (1 : Int32))] [] _
    refine st284 _ ?_
    show Sp p e below m T284 10 #[.val (.ref ab), .val (.int (0 : Int32)), .val (.int (1 : Int32))] [(.ref b284)] _
    refine XS.dup X284.here hx rfl (hb hby d21_10) rfl rfl ?_
    refine XS.aloadN X284.here hx rfl (hb hby d21_11) rfl rfl ?_
    show Sp p e below m T284 12 #[.val (.ref ab), .val (.int (0 : Int32)), .val (.int (1 : Int32))] [(.ref ab), (.ref b284), (.ref b284)] _
    refine XS.iloadN X284.here hx rfl (hb hby d21_12) rfl ?_
    refine XS.iloadN X284.here hx rfl (hb hby d21_13) rfl ?_
    show Sp p e below m T284 14 #[.val (.ref ab), .val (.int (0 : Int32)), .val (.int (1 : Int32))] [(.int (0 : Int32)), (.int (0 : Int32)), (.ref ab), (.ref b284), (.ref b284)] _
    refine XS.iloadN X284.here hx rfl (hb hby d21_14) rfl ?_
    refine XS.iadd X284.here hx rfl (hb hby d21_15) rfl ?_
    show Sp p e below m T284 16 #[.val (.ref ab), .val (.int (0 : Int32)), .val (.int (1 : Int32))] [(.int (1 : Int32)), (.int (0 : Int32)), (.ref ab), (.ref b284), (.ref b284)] _
    refine st288 _ ?_
    show Sp p e below m T288 19 #[.val (.ref ab), .val (.int (0 : Int32)), .val (.int (1 : Int32))] [(.ref rrb_288), (.ref b284), (.ref b284)] _
    refine XS.iconst X288.here hx rfl (hb hby d21_19) ?_
    refine st293.trans ?_
    show Sp p e below m T293 23 #[.val (.ref ab), .val (.int (0 : Int32)), .val (.int (1 : Int32))] [(.ref b284)] _
    jvm_step X293.here [X293.here.top, hx, (hb hby d21_23), X293.method', Bd.returns, Value.isRef, FieldType.isReference]
    first | (intro acts; rw [hr _ acts rfl rfl rfl]) | rw [hr _ _ rfl rfl rfl]
    exact Steps.refl _
  · show Q21n5b0e1 Z ab kb ee0 ee1 ee2 ee3 ee4 h0 n0 _ T293.heap _
    exact ⟨b284, rrb_288, rrk_288, rfl, N293, KK293, p293_0, p293_1, p293_2, f296, g_b284, sz_b284, g_rrb_288, sz_rrb_288⟩
theorem d20_0 : decode jdk_41_method_12_code 0 = .ok (.iload_n 0, 1) := by decide +kernel
theorem d20_1 : decode jdk_41_method_12_code 1 = .ok (.ifCond .lt 13, 3) := by decide +kernel
theorem d20_4 : decode jdk_41_method_12_code 4 = .ok (.iload_n 0, 1) := by decide +kernel
theorem d20_5 : decode jdk_41_method_12_code 5 = .ok (.iload_n 1, 1) := by decide +kernel
theorem d20_6 : decode jdk_41_method_12_code 6 = .ok (.if_icmp .gt 8, 3) := by decide +kernel
theorem d20_9 : decode jdk_41_method_12_code 9 = .ok (.iload_n 1, 1) := by decide +kernel
theorem d20_10 : decode jdk_41_method_12_code 10 = .ok (.iload_n 2, 1) := by decide +kernel
theorem d20_11 : decode jdk_41_method_12_code 11 = .ok (.if_icmp .le 11, 3) := by decide +kernel
theorem d20_22 : decode jdk_41_method_12_code 22 = .ok (.iload_n 0, 1) := by decide +kernel
theorem d20_23 : decode jdk_41_method_12_code 23 = .ok (.ireturn, 1) := by decide +kernel
theorem ef_20 (m : MethodId) (x0 : Int32) (x1 : Int32) (x2 : Int32) (x3 : Value) (hx3 : x3.isRef = true) : entryFrame m #[(.int x0), (.int x1), (.int x2), x3] 4 = mkF m 0 #[.val (.int x0), .val (.int x1), .val (.int x2), .val x3] [] := by rcases ref_cases hx3 with rfl | ⟨y3, rfl⟩ <;> first | (simp [entryFrame, mkF, argsToLocals, Value.category]; done) | rfl
def Q20 (Z : State) (pi : Int32) (pj : Int32) (pn : Int32) (vf : Value) (h0 : Heap) (n0 : Nat) (v : Option Value) (h : Heap) (L : List Loc) : Prop := v = some (.int pi) ∧ Fr n0 L ∧ h = h0
set_option maxRecDepth 65536 in
set_option maxHeartbeats 40000000 in
theorem rm20 (l : Launch) (Z : State) (a0 : Array Value) (hw : ∀ d ∈ tables_1, d.before a0 Z = true) (ws : List Jvm.Cond) (pi : Int32) (pj : Int32) (pn : Int32) (vf : Value) (h0 : Heap) (n0 : Nat) (Z0 : n0 ≤ h0.size) (hvf : vf.isRef = true) (h1 : ¬ pi < (0 : Int32)) (h2 : ¬ pj < pi) (h3 : ¬ pn < pj) :
    MetFree l (⟨"jdk/internal/util/Preconditions", "checkFromToIndex", "(IIILjava/util/function/BiFunction;)I"⟩ : MethodName) (head1 (Jvm.Cond.code (⟨"jdk/internal/util/Preconditions", "checkFromToIndex", "(IIILjava/util/function/BiFunction;)I"⟩ : MethodName) jdk_41_method_12_code 4 (some .int) :: ws) ({ frames := 0, cells := 0, slots := 0, locals := 0 } : Room)) (fun a U => a = #[(.int pi), (.int pj), (.int pn), vf] ∧ Z.Warmed39 U.vm ∧ U.heap = h0) (fun _ _ _ _ _ => True) (fun _ U o U' => ∃ v L, o = .returned v ∧ Q20 Z pi pj pn vf h0 n0 v U'.heap L ∧ FrameEnd U o U' L ({ frames := 0, cells := 0, slots := 0, locals := 0 } : Room).cells ({ frames := 0, cells := 0, slots := 0, locals := 0 } : Room).slots) := by
  refine MetFree.of_bodySF (plainFor_of_name own_pn109) hisR ?_
  intro p e s m args below meth c s₁ Bd hml0 hP hK
  have H := fun i c (h : tables_1[i]? = some c) => hw c (List.mem_of_getElem? h)
  obtain ⟨rfl, hZ, hh⟩ := hP
  have hx := Bd.exec
  have hby := Bd.bytes
  have hml : c.maxLocals = 4 := hml0
  have hown : s.vm.findClass "jdk/internal/util/Preconditions" = some m.cls := findClass_of_methodNamed Bd.named
  have hnm := (name_of_methodNamed Bd.named Bd.method).1
  have X0 : Stand p l e ({ frames := 0, cells := 0, slots := 0, locals := 0 } : Room) s m #[(.int pi), (.int pj), (.int pn), vf] below meth c s₁ [] 0 0 := Stand.of_body Bd
  have e0 : s₁.heap = h0 := by rw [← hh, Bd.state]; rfl
  have N0 := Fr.nil n0
  have pre0 : ∀ t, Sp p e below m s₁ 0 #[.val (.int pi), .val (.int pj), .val (.int pn), .val vf] [] t → Steps p.tables e below (s₁.setTop (entryFrame m #[(.int pi), (.int pj), (.int pn), vf] 4)) t := fun t k => castTop (ef_20 m pi pj pn vf hvf) k
  generalize s₁.setTop (entryFrame m #[(.int pi), (.int pj), (.int pn), vf] 4) = G0 at pre0 ⊢
  obtain ⟨fs, hr, hrun, hended, hW, hsame⟩ := X0.leave (v := some (.int pi)) (fun h => by rw [Bd.returns] at h; cases h)
  refine ⟨_, _, pre0 _ ?_, hrun, hended, _, _, rfl, ?_, ⟨_, rfl⟩, hW, hsame.mono (by decide) (by decide)⟩
  · show Sp p e below m s₁ 0 #[.val (.int pi), .val (.int pj), .val (.int pn), .val vf] [] _
    refine XS.iloadN X0.here hx rfl (hb hby d20_0) rfl ?_
    refine XS.ifNo X0.here hx rfl (hb hby d20_1) rfl ((if0 _ _).trans (flt (h1 : ¬ (pi < (0 : Int32)))).1) ?_
    show Sp p e below m s₁ 4 #[.val (.int pi), .val (.int pj), .val (.int pn), .val vf] [] _
    refine XS.iloadN X0.here hx rfl (hb hby d20_4) rfl ?_
    refine XS.iloadN X0.here hx rfl (hb hby d20_5) rfl ?_
    show Sp p e below m s₁ 6 #[.val (.int pi), .val (.int pj), .val (.int pn), .val vf] [(.int pj), (.int pi)] _
    refine XS.icmpNo X0.here hx rfl (hb hby d20_6) rfl (flt (h2 : ¬ (pj < pi))).2.2.1 ?_
    show Sp p e below m s₁ 9 #[.val (.int pi), .val (.int pj), .val (.int pn), .val vf] [] _
    refine XS.iloadN X0.here hx rfl (hb hby d20_9) rfl ?_
    refine XS.iloadN X0.here hx rfl (hb hby d20_10) rfl ?_
    show Sp p e below m s₁ 11 #[.val (.int pi), .val (.int pj), .val (.int pn), .val vf] [(.int pn), (.int pj)] _
    refine XS.icmpYes X0.here hx rfl (pc0 := 11) (pc' := 22) rfl (hb hby d20_11) rfl (flt (h3 : ¬ (pn < pj))).2.2.2 (by decide) (by decide) ?_
    show Sp p e below m s₁ 22 #[.val (.int pi), .val (.int pj), .val (.int pn), .val vf] [] _
    refine XS.iloadN X0.here hx rfl (hb hby d20_22) rfl ?_
    exact retI X0 hx Bd.returns (hb hby d20_23) hr
  · show Q20 Z pi pj pn vf h0 n0 _ s₁.heap _
    rw [e0]
    exact ⟨rfl, N0, rfl⟩
theorem d19_0 : decode jdk_42_method_158_code 0 = .ok (.iload_n 0, 1) := by decide +kernel
theorem d19_1 : decode jdk_42_method_158_code 1 = .ok (.iload_n 1, 1) := by decide +kernel
theorem d19_2 : decode jdk_42_method_158_code 2 = .ok (.iload_n 2, 1) := by decide +kernel
theorem d19_3 : decode jdk_42_method_158_code 3 = .ok (.getstatic 1053, 3) := by decide +kernel
theorem d19_6 : decode jdk_42_method_158_code 6 = .ok (.invokestatic 1062, 3) := by decide +kernel
theorem own_pd322 : parseMethodDescriptor "(IIILjava/util/function/BiFunction;)I" = some ⟨[.int, .int, .int, (.object "java/util/function/BiFunction")], some .int⟩ := by decide +kernel
theorem d19_9 : decode jdk_42_method_158_code 9 = .ok (.pop, 1) := by decide +kernel
theorem d19_10 : decode jdk_42_method_158_code 10 = .ok (.return_, 1) := by decide +kernel
theorem ef_19 (m : MethodId) (x0 : Int32) (x1 : Int32) (x2 : Int32) : entryFrame m #[(.int x0), (.int x1), (.int x2)] 3 = mkF m 0 #[.val (.int x0), .val (.int x1), .val (.int x2)] [] := by first | (simp [entryFrame, mkF, argsToLocals, Value.category]; done) | rfl
def Q19 (Z : State) (pi : Int32) (pj : Int32) (pn : Int32) (cs : Int32) (vf : Value) (h0 : Heap) (n0 : Nat) (v : Option Value) (h : Heap) (L : List Loc) : Prop := v = none ∧ Fr n0 L ∧ h = h0
set_option maxRecDepth 65536 in
set_option maxHeartbeats 40000000 in
theorem rm19 (l : Launch) (Z : State) (a0 : Array Value) (hw : ∀ d ∈ tables_1, d.before a0 Z = true) (ws : List Jvm.Cond) (pi : Int32) (pj : Int32) (pn : Int32) (cs : Int32) (vf : Value) (h0 : Heap) (n0 : Nat) (Z0 : n0 ≤ h0.size) (O0 : Old Z n0 h0) (Scs : Sta Z Z.heap "java/lang/String" "COMPACT_STRINGS" "Z" (.int cs)) (hcs : ¬ cs = (0 : Int32)) (Ssf : Sta Z Z.heap "jdk/internal/util/Preconditions" "SIOOBE_FORMATTER" "Ljava/util/function/BiFunction;" vf) (hvf : vf.isRef = true) (h1 : ¬ pi < (0 : Int32)) (h2 : ¬ pj < pi) (h3 : ¬ pn < pj) :
    MetFree l (⟨"java/lang/String", "checkBoundsBeginEnd", "(III)V"⟩ : MethodName) (head1 (Jvm.Cond.code (⟨"java/lang/String", "checkBoundsBeginEnd", "(III)V"⟩ : MethodName) jdk_42_method_158_code 3 none :: ws) ({ frames := 1, cells := 0, slots := 0, locals := 15 } : Room)) (fun a U => a = #[(.int pi), (.int pj), (.int pn)] ∧ Z.Warmed39 U.vm ∧ U.heap = h0) (fun _ _ _ _ _ => True) (fun _ U o U' => ∃ v L, o = .returned v ∧ Q19 Z pi pj pn cs vf h0 n0 v U'.heap L ∧ FrameEnd U o U' L ({ frames := 1, cells := 0, slots := 0, locals := 15 } : Room).cells ({ frames := 1, cells := 0, slots := 0, locals := 15 } : Room).slots) := by
  refine MetFree.of_bodySF (plainFor_of_name own_pn8) hisR ?_
  intro p e s m args below meth c s₁ Bd hml0 hP hK
  have H := fun i c (h : tables_1[i]? = some c) => hw c (List.mem_of_getElem? h)
  obtain ⟨rfl, hZ, hh⟩ := hP
  have hx := Bd.exec
  have hby := Bd.bytes
  have hml : c.maxLocals = 3 := hml0
  have hown : s.vm.findClass "java/lang/String" = some m.cls := findClass_of_methodNamed Bd.named
  have hnm := (name_of_methodNamed Bd.named Bd.method).1
  have X0 : Stand p l e ({ frames := 1, cells := 0, slots := 0, locals := 15 } : Room) s m #[(.int pi), (.int pj), (.int pn)] below meth c s₁ [] 0 0 := Stand.of_body Bd
  have e0 : s₁.heap = h0 := by rw [← hh, Bd.state]; rfl
  have N0 := Fr.nil n0
  have pre0 : ∀ t, Sp p e below m s₁ 0 #[.val (.int pi), .val (.int pj), .val (.int pn)] [] t → Steps p.tables e below (s₁.setTop (entryFrame m #[(.int pi), (.int pj), (.int pn)] 3)) t := fun t k => castTop (ef_19 m pi pj pn) k
  generalize s₁.setTop (entryFrame m #[(.int pi), (.int pj), (.int pn)] 3) = G0 at pre0 ⊢
  obtain ⟨T299, X299, e299, st299⟩ := getS2 X0 hx hZ hown (host := "") (Or.inl (H 89 _ rfl)) Via.refl e0 (Ssf.ext O0.2) (g := (mkF m 3 #[.val (.int pi), .val (.int pj), .val (.int pn)] [(.int pn), (.int pj), (.int pi)])) rfl (hb hby d19_3)
  obtain ⟨_, _, ⟨T300, L300, k300, n300⟩, -, X300, ⟨Lc300, hQ300, l300, y300, z300⟩, st300⟩ := Jvm.LawKit.callS X299 hx (y := (⟨"jdk/internal/util/Preconditions", "checkFromToIndex", "(IIILjava/util/function/BiFunction;)I"⟩ : MethodName)) hown (mvT hZ (H 91 _ rfl)) (mvT hZ (H 92 _ rfl)) (mvT hZ (H 90 _ rfl)) (mvT hZ (H 93 _ rfl)) (by decide) (backOf (W := 0) (rm20 l Z a0 hw [] pi pj pn vf  h0 n0 Z0 hvf h1 h2 h3) hZ (H 93 _ rfl) (H 90 _ rfl) (by decide) (by decide)) (g := (mkF m 6 #[.val (.int pi), .val (.int pj), .val (.int pn)] [vf, (.int pn), (.int pj), (.int pi)])) rfl (by rw [hml]; rfl) (argsL := [(.int pi), (.int pj), (.int pn), vf]) (rest := []) (lenOf own_pd322 rfl) rfl (Nat.le_of_eq rfl) (hb hby d19_6) (fun _ _ => ⟨rfl, e299, (by decide : 0 + 0 ≤ _), (by decide : 0 + 0 ≤ _)⟩)
  dsimp only [Pt.U, Pt.locs, Pt.cells, Pt.slots] at X300 l300 y300 z300 st300 hQ300
  rw [l300, y300, z300] at X300
  clear l300 y300 z300
  obtain ⟨rfl, Nq300, e300⟩ := hQ300
  have N300 := Fr.app N0 Nq300
  obtain ⟨fs, hr, hrun, hended, hW, hsame⟩ := X300.leave (v := none) (fun _ => rfl)
  refine ⟨_, _, pre0 _ ?_, hrun, hended, _, _, rfl, ?_, ⟨_, rfl⟩, hW, hsame.mono (by decide) (by decide)⟩
  · show Sp p e below m s₁ 0 #[.val (.int pi), .val (.int pj), .val (.int pn)] [] _
    refine XS.iloadN X0.here hx rfl (hb hby d19_0) rfl ?_
    refine XS.iloadN X0.here hx rfl (hb hby d19_1) rfl ?_
    show Sp p e below m s₁ 2 #[.val (.int pi), .val (.int pj), .val (.int pn)] [(.int pj), (.int pi)] _
    refine XS.iloadN X0.here hx rfl (hb hby d19_2) rfl ?_
    refine st299 _ ?_
    show Sp p e below m T299 6 #[.val (.int pi), .val (.int pj), .val (.int pn)] [vf, (.int pn), (.int pj), (.int pi)] _
    refine st300 _ ?_
    show Sp p e below m T300 9 #[.val (.int pi), .val (.int pj), .val (.int pn)] [(.int pi)] _
    refine XS.pop X300.here hx rfl (hb hby d19_9) rfl rfl ?_
    show Sp p e below m T300 10 #[.val (.int pi), .val (.int pj), .val (.int pn)] [] _
    exact X300.returnOut hx Bd.returns (hb hby d19_10) hr
  · show Q19 Z pi pj pn cs vf h0 n0 _ T300.heap _
    rw [e300]
    exact ⟨rfl, N300, rfl⟩
theorem d18_0 : decode jdk_42_method_92_code 0 = .ok (.aload_n 0, 1) := by decide +kernel
theorem d18_1 : decode jdk_42_method_92_code 1 = .ok (.invokevirtual 505, 3) := by decide +kernel
theorem d18_4 : decode jdk_42_method_92_code 4 = .ok (.istore_n 3, 1) := by decide +kernel
theorem d18_5 : decode jdk_42_method_92_code 5 = .ok (.iload_n 1, 1) := by decide +kernel
theorem d18_6 : decode jdk_42_method_92_code 6 = .ok (.iload_n 2, 1) := by decide +kernel
theorem d18_7 : decode jdk_42_method_92_code 7 = .ok (.iload_n 3, 1) := by decide +kernel
theorem d18_8 : decode jdk_42_method_92_code 8 = .ok (.invokestatic 521, 3) := by decide +kernel
theorem own_pd332 : parseMethodDescriptor "(III)V" = some ⟨[.int, .int, .int], none⟩ := by decide +kernel
theorem d18_11 : decode jdk_42_method_92_code 11 = .ok (.iload_n 1, 1) := by decide +kernel
theorem d18_12 : decode jdk_42_method_92_code 12 = .ok (.ifCond .ne 10, 3) := by decide +kernel
theorem d18_15 : decode jdk_42_method_92_code 15 = .ok (.iload_n 2, 1) := by decide +kernel
theorem d18_16 : decode jdk_42_method_92_code 16 = .ok (.iload_n 3, 1) := by decide +kernel
theorem d18_17 : decode jdk_42_method_92_code 17 = .ok (.if_icmp .ne 5, 3) := by decide +kernel
theorem d18_22 : decode jdk_42_method_92_code 22 = .ok (.iload_n 2, 1) := by decide +kernel
theorem d18_23 : decode jdk_42_method_92_code 23 = .ok (.iload_n 1, 1) := by decide +kernel
theorem d18_24 : decode jdk_42_method_92_code 24 = .ok (.isub, 1) := by decide +kernel
theorem d18_25 : decode jdk_42_method_92_code 25 = .ok (.istore 4, 2) := by decide +kernel
theorem d18_27 : decode jdk_42_method_92_code 27 = .ok (.aload_n 0, 1) := by decide +kernel
theorem d18_28 : decode jdk_42_method_92_code 28 = .ok (.invokevirtual 492, 3) := by decide +kernel
theorem d18_31 : decode jdk_42_method_92_code 31 = .ok (.ifCond .eq 16, 3) := by decide +kernel
theorem d18_34 : decode jdk_42_method_92_code 34 = .ok (.aload_n 0, 1) := by decide +kernel
theorem d18_35 : decode jdk_42_method_92_code 35 = .ok (.getfield 9, 3) := by decide +kernel
theorem d18_38 : decode jdk_42_method_92_code 38 = .ok (.iload_n 1, 1) := by decide +kernel
theorem d18_39 : decode jdk_42_method_92_code 39 = .ok (.iload 4, 2) := by decide +kernel
theorem d18_41 : decode jdk_42_method_92_code 41 = .ok (.invokestatic 685, 3) := by decide +kernel
theorem own_pd350 : parseMethodDescriptor "([BII)Ljava/lang/String;" = some ⟨[(.array .byte), .int, .int], some (.object "java/lang/String")⟩ := by decide +kernel
theorem d18_44 : decode jdk_42_method_92_code 44 = .ok (.goto 13, 3) := by decide +kernel
theorem d18_57 : decode jdk_42_method_92_code 57 = .ok (.areturn, 1) := by decide +kernel
theorem ef_18n5b0e1 (m : MethodId) (x0 : Addr) : entryFrame m #[(.ref x0), (.int (0 : Int32)), (.int (1 : Int32))] 5 = mkF m 0 #[.val (.ref x0), .val (.int (0 : Int32)), .val (.int (1 : Int32)), .unset, .unset] [] := by first | (simp [entryFrame, mkF, argsToLocals, Value.category]; done) | rfl
def Q18n5b0e1 (Z : State) (aa : Addr) (cs : Int32) (vf : Value) (ab : Addr) (kb : ClassId) (ee0 : Int32) (ee1 : Int32) (ee2 : Int32) (ee3 : Int32) (ee4 : Int32) (h0 : Heap) (n0 : Nat) (v : Option Value) (h : Heap) (L : List Loc) : Prop := ∃ (so : Addr) (rb : Addr) (rk : ClassId), v = some (.ref so) ∧ Fr n0 L ∧ Keep h0 h [] ∧ Exa Z h so "java/lang/String" ∧ Fld Z h so "java/lang/String" "value" "[B" (.ref rb) ∧ Fld Z h so "java/lang/String" "coder" "B" (.int (0 : Int32)) ∧ Arv Z h rb rk .byte (1 : Int32) [(.int ee0)] (.int (0 : Int32)) ∧ n0 ≤ so ∧ h0.size ≤ so ∧ n0 ≤ rb ∧ h0.size ≤ rb
set_option maxRecDepth 65536 in
set_option maxHeartbeats 40000000 in
theorem rm18n5b0e1 (l : Launch) (Z : State) (a0 : Array Value) (hw : ∀ d ∈ tables_1, d.before a0 Z = true) (ws : List Jvm.Cond) (aa : Addr) (cs : Int32) (vf : Value) (ab : Addr) (kb : ClassId) (ee0 : Int32) (ee1 : Int32) (ee2 : Int32) (ee3 : Int32) (ee4 : Int32) (h0 : Heap) (n0 : Nat) (Z0 : n0 ≤ h0.size) (O0 : Old Z n0 h0) (Scs : Sta Z Z.heap "java/lang/String" "COMPACT_STRINGS" "Z" (.int cs)) (hcs : ¬ cs = (0 : Int32)) (Ssf : Sta Z Z.heap "jdk/internal/util/Preconditions" "SIOOBE_FORMATTER" "Ljava/util/function/BiFunction;" vf) (hvf : vf.isRef = true) (Ea : Exa Z h0 aa "java/lang/String") (Fv : Fld Z h0 aa "java/lang/String" "value" "[B" (.ref ab)) (Fc : Fld Z h0 aa "java/lang/String" "coder" "B" (.int (0 : Int32))) (Va : Arv Z h0 ab kb .byte (5 : Int32) [(.int ee0), (.int ee1), (.int ee2), (.int ee3), (.int ee4)] (.int (0 : Int32))) :
    MetFree l (⟨"java/lang/String", "substring", "(II)Ljava/lang/String;"⟩ : MethodName) (head1 (Jvm.Cond.code (⟨"java/lang/String", "substring", "(II)Ljava/lang/String;"⟩ : MethodName) jdk_42_method_92_code 5 (some (.object "java/lang/String")) :: ws) ({ frames := 4, cells := 2, slots := 5, locals := 64 } : Room)) (fun a U => a = #[(.ref aa), (.int (0 : Int32)), (.int (1 : Int32))] ∧ Z.Warmed39 U.vm ∧ U.heap = h0) (fun _ _ _ _ _ => True) (fun _ U o U' => ∃ v L, o = .returned v ∧ Q18n5b0e1 Z aa cs vf ab kb ee0 ee1 ee2 ee3 ee4 h0 n0 v U'.heap L ∧ FrameEnd U o U' L ({ frames := 4, cells := 2, slots := 5, locals := 64 } : Room).cells ({ frames := 4, cells := 2, slots := 5, locals := 64 } : Room).slots) := by
  refine MetFree.of_bodySF (plainFor_of_name own_pn8) hisR ?_
  intro p e s m args below meth c s₁ Bd hml0 hP hK
  have H := fun i c (h : tables_1[i]? = some c) => hw c (List.mem_of_getElem? h)
  obtain ⟨rfl, hZ, hh⟩ := hP
  have hx := Bd.exec
  have hby := Bd.bytes
  have hml : c.maxLocals = 5 := hml0
  have hown : s.vm.findClass "java/lang/String" = some m.cls := findClass_of_methodNamed Bd.named
  have hnm := (name_of_methodNamed Bd.named Bd.method).1
  have X0 : Stand p l e ({ frames := 4, cells := 2, slots := 5, locals := 64 } : Room) s m #[(.ref aa), (.int (0 : Int32)), (.int (1 : Int32))] below meth c s₁ [] 0 0 := Stand.of_body Bd
  have e0 : s₁.heap = h0 := by rw [← hh, Bd.state]; rfl
  have N0 := Fr.nil n0
  have pre0 : ∀ t, Sp p e below m s₁ 0 #[.val (.ref aa), .val (.int (0 : Int32)), .val (.int (1 : Int32)), .unset, .unset] [] t → Steps p.tables e below (s₁.setTop (entryFrame m #[(.ref aa), (.int (0 : Int32)), (.int (1 : Int32))] 5)) t := fun t k => castTop (ef_18n5b0e1 m aa) k
  generalize s₁.setTop (entryFrame m #[(.ref aa), (.int (0 : Int32)), (.int (1 : Int32))] 5) = G0 at pre0 ⊢
  obtain ⟨cq312, kq312, q312a, q312b, q312c⟩ := isOf hZ e0 Ea
  obtain ⟨_, _, ⟨T312, L312, k312, n312⟩, -, X312, ⟨Lc312, hQ312, l312, y312, z312⟩, st312⟩ := X0.virtualBack hx (y := (⟨"java/lang/String", "length", "()I"⟩ : MethodName)) (z := (⟨"java/lang/String", "length", "()I"⟩ : MethodName)) hown (mvT hZ (H 51 _ rfl)) (mvT hZ (H 52 _ rfl)) (notFace_of_selects (args := #[]) (mvT hZ (H 54 _ rfl))) (mvT hZ (H 54 _ rfl)) (mvT hZ (H 53 _ rfl)) (by decide) (backOf (W := 0) (rm11 l Z a0 hw [] aa cs vf ab kb (5 : Int32) [(.int ee0), (.int ee1), (.int ee2), (.int ee3), (.int ee4)] h0 n0 Z0 O0 Scs hcs Ssf hvf Ea Fv Fc Va) hZ (H 55 _ rfl) (H 5 _ rfl) (by decide) (by decide)) q312a q312c (g := (mkF m 1 #[.val (.ref aa), .val (.int (0 : Int32)), .val (.int (1 : Int32)), .unset, .unset] [(.ref aa)])) rfl (by rw [hml]; rfl) (Steps.refl _) (argsL := []) (rest := []) (lenOf own_pd214 rfl) rfl (Nat.le_of_eq rfl) (hb hby d18_1) (fun _ _ => ⟨rfl, e0, (by decide : 0 + 0 ≤ _), (by decide : 0 + 0 ≤ _)⟩)
  dsimp only [Pt.U, Pt.locs, Pt.cells, Pt.slots] at X312 l312 y312 z312 st312 hQ312
  rw [l312, y312, z312] at X312
  clear l312 y312 z312
  obtain ⟨rfl, Nq312, e312⟩ := hQ312
  have N312 := Fr.app N0 Nq312
  obtain ⟨_, _, ⟨T313, L313, k313, n313⟩, -, X313, ⟨Lc313, hQ313, l313, y313, z313⟩, st313⟩ := Jvm.LawKit.callS X312 hx (y := (⟨"java/lang/String", "checkBoundsBeginEnd", "(III)V"⟩ : MethodName)) hown (mvT hZ (H 86 _ rfl)) (mvT hZ (H 87 _ rfl)) (mvT hZ (H 5 _ rfl)) (mvT hZ (H 88 _ rfl)) (by decide) (backOf (W := 0) (rm19 l Z a0 hw [] (0 : Int32) (1 : Int32) (5 : Int32) cs vf h0 n0 Z0 O0 Scs hcs Ssf hvf (by decide) (by decide) (by decide)) hZ (H 88 _ rfl) (H 5 _ rfl) (by decide) (by decide)) (g := (mkF m 8 #[.val (.ref aa), .val (.int (0 : Int32)), .val (.int (1 : Int32)), .val (.int (5 : Int32)), .unset] [(.int (5 : Int32)), (.int (1 : Int32)), (.int (0 : Int32))])) rfl (by rw [hml]; rfl) (argsL := [(.int (0 : Int32)), (.int (1 : Int32)), (.int (5 : Int32))]) (rest := []) (lenOf own_pd332 rfl) rfl (Nat.le_of_eq rfl) (hb hby d18_8) (fun _ _ => ⟨rfl, e312, (by decide : 0 + 0 ≤ _), (by decide : 0 + 0 ≤ _)⟩)
  dsimp only [Pt.U, Pt.locs, Pt.cells, Pt.slots] at X313 l313 y313 z313 st313 hQ313
  rw [l313, y313, z313] at X313
  clear l313 y313 z313
  obtain ⟨rfl, Nq313, e313⟩ := hQ313
  have N313 := Fr.app N312 Nq313
  obtain ⟨cq314, kq314, q314a, q314b, q314c⟩ := isOf hZ e313 Ea
  obtain ⟨_, _, ⟨T314, L314, k314, n314⟩, -, X314, ⟨Lc314, hQ314, l314, y314, z314⟩, st314⟩ := X313.virtualBack hx (y := (⟨"java/lang/String", "isLatin1", "()Z"⟩ : MethodName)) (z := (⟨"java/lang/String", "isLatin1", "()Z"⟩ : MethodName)) hown (mvT hZ (H 46 _ rfl)) (mvT hZ (H 47 _ rfl)) (notFace_of_selects (args := #[]) (mvT hZ (H 49 _ rfl))) (mvT hZ (H 49 _ rfl)) (mvT hZ (H 48 _ rfl)) (by decide) (backOf (W := 0) (rm10 l Z a0 hw [] aa cs vf h0 n0 Z0 O0 Scs hcs Ssf hvf Fc) hZ (H 50 _ rfl) (H 5 _ rfl) (by decide) (by decide)) q314a q314c (g := (mkF m 28 #[.val (.ref aa), .val (.int (0 : Int32)), .val (.int (1 : Int32)), .val (.int (5 : Int32)), .val (.int (1 : Int32))] [(.ref aa)])) rfl (by rw [hml]; rfl) (Steps.refl _) (argsL := []) (rest := []) (lenOf own_pd132 rfl) rfl (Nat.le_of_eq rfl) (hb hby d18_28) (fun _ _ => ⟨rfl, e313, (by decide : 0 + 0 ≤ _), (by decide : 0 + 0 ≤ _)⟩)
  dsimp only [Pt.U, Pt.locs, Pt.cells, Pt.slots] at X314 l314 y314 z314 st314 hQ314
  rw [l314, y314, z314] at X314
  clear l314 y314 z314
  obtain ⟨rfl, Nq314, e314⟩ := hQ314
  have N314 := Fr.app N313 Nq314
  obtain ⟨T315, X315, e315, st315⟩ := getF X314 hx hZ hown (host := "") (Or.inl (H 30 _ rfl)) Via.refl e314 Fv (g := (mkF m 35 #[.val (.ref aa), .val (.int (0 : Int32)), .val (.int (1 : Int32)), .val (.int (5 : Int32)), .val (.int (1 : Int32))] [(.ref aa)])) rfl rfl (hb hby d18_35)
  obtain ⟨_, _, ⟨T316, L316, k316, n316⟩, -, X316, ⟨Lc316, hQ316, l316, y316, z316⟩, st316⟩ := Jvm.LawKit.callS X315 hx (y := (⟨"java/lang/StringLatin1", "newString", "([BII)Ljava/lang/String;"⟩ : MethodName)) hown (mvT hZ (H 94 _ rfl)) (mvT hZ (H 95 _ rfl)) (mvT hZ (H 63 _ rfl)) (mvT hZ (H 96 _ rfl)) (by decide) (backOf (W := 0) (rm21n5b0e1 l Z a0 hw [] ab kb ee0 ee1 ee2 ee3 ee4 h0 n0 Z0 Va) hZ (H 96 _ rfl) (H 63 _ rfl) (by decide) (by decide)) (g := (mkF m 41 #[.val (.ref aa), .val (.int (0 : Int32)), .val (.int (1 : Int32)), .val (.int (5 : Int32)), .val (.int (1 : Int32))] [(.int (1 : Int32)), (.int (0 : Int32)), (.ref ab)])) rfl (by rw [hml]; rfl) (argsL := [(.ref ab), (.int (0 : Int32)), (.int (1 : Int32))]) (rest := []) (lenOf own_pd350 rfl) rfl (Nat.le_of_eq rfl) (hb hby d18_41) (fun _ _ => ⟨rfl, e315, (by decide : 0 + 2 ≤ _), (by decide : 0 + 5 ≤ _)⟩)
  dsimp only [Pt.U, Pt.locs, Pt.cells, Pt.slots] at X316 l316 y316 z316 st316 hQ316
  rw [l316, y316, z316] at X316
  clear l316 y316 z316
  obtain ⟨rso_316, rrb_316, rrk_316, rfl, Nq316, K316, p316_0, p316_1, p316_2, p316_3, p316_4, p316_5, p316_6, p316_7⟩ := hQ316
  have N316 := Fr.app N314 Nq316
  have Zs316 : n0 ≤ T316.heap.size := Nat.le_trans Z0 K316.1
  have KK316 : Keep h0 T316.heap [] := (Keep.refl h0 _).trans K316 all0
  have ne_aa_rso_316 : aa ≠ rso_316 := Nat.ne_of_lt (Nat.lt_of_lt_of_le Ea.lt p316_5)
  have ne_ab_rso_316 : ab ≠ rso_316 := Nat.ne_of_lt (Nat.lt_of_lt_of_le Va.lt p316_5)
  have sz_rso_316 : h0.size ≤ rso_316 := p316_5
  have ne_aa_rrb_316 : aa ≠ rrb_316 := Nat.ne_of_lt (Nat.lt_of_lt_of_le Ea.lt p316_7)
  have ne_ab_rrb_316 : ab ≠ rrb_316 := Nat.ne_of_lt (Nat.lt_of_lt_of_le Va.lt p316_7)
  have sz_rrb_316 : h0.size ≤ rrb_316 := p316_7
  have O316 := O0.keep K316 (all0)
  have f317 := Scs.ext O316.2
  have f318 := Ssf.ext O316.2
  have f319 := Ea.keep K316
  have f320 := Fv.keep K316 nin0
  have f321 := Fc.keep K316 nin0
  have f322 := Va.keep K316 nin0
  have g_rso_316 := p316_4
  have g_rrb_316 := p316_6
  obtain ⟨fs, hr, hrun, hended, hW, hsame⟩ := X316.leave (v := some (.ref rso_316)) (fun h => by rw [Bd.returns] at h; cases h)
  refine ⟨_, _, pre0 _ ?_, hrun, hended, _, _, rfl, ?_, ⟨_, rfl⟩, hW, hsame.mono (by decide) (by decide)⟩
  · show Sp p e below m s₁ 0 #[.val (.ref aa), .val (.int (0 : Int32)), .val (.int (1 : Int32)), .unset, .unset] [] _
    refine XS.aloadN X0.here hx rfl (hb hby d18_0) rfl rfl ?_
    refine st312.trans ?_
    show Sp p e below m T312 4 #[.val (.ref aa), .val (.int (0 : Int32)), .val (.int (1 : Int32)), .unset, .unset] [(.int (5 : Int32))] _
    refine XS.istoreN X312.here hx rfl (hb hby d18_4) rfl (l' := #[.val (.ref aa), .val (.int (0 : Int32)), .val (.int (1 : Int32)), .val (.int (5 : Int32)), .unset]) rfl ?_
    show Sp p e below m T312 5 #[.val (.ref aa), .val (.int (0 : Int32)), .val (.int (1 : Int32)), .val (.int (5 : Int32)), .unset] [] _
    refine XS.iloadN X312.here hx rfl (hb hby d18_5) rfl ?_
    refine XS.iloadN X312.here hx rfl (hb hby d18_6) rfl ?_
    show Sp p e below m T312 7 #[.val (.ref aa), .val (.int (0 : Int32)), .val (.int (1 : Int32)), .val (.int (5 : Int32)), .unset] [(.int (1 : Int32)), (.int (0 : Int32))] _
    refine XS.iloadN X312.here hx rfl (hb hby d18_7) rfl ?_
    refine st313 _ ?_
    show Sp p e below m T313 11 #[.val (.ref aa), .val (.int (0 : Int32)), .val (.int (1 : Int32)), .val (.int (5 : Int32)), .unset] [] _
    refine XS.iloadN X313.here hx rfl (hb hby d18_11) rfl ?_
    refine XS.ifNo X313.here hx rfl (hb hby d18_12) rfl ((if0 _ _).trans (teq (by decide : ((0 : Int32) = (0 : Int32)))).2) ?_
    show Sp p e below m T313 15 #[.val (.ref aa), .val (.int (0 : Int32)), .val (.int (1 : Int32)), .val (.int (5 : Int32)), .unset] [] _
    refine XS.iloadN X313.here hx rfl (hb hby d18_15) rfl ?_
    refine XS.iloadN X313.here hx rfl (hb hby d18_16) rfl ?_
    show Sp p e below m T313 17 #[.val (.ref aa), .val (.int (0 : Int32)), .val (.int (1 : Int32)), .val (.int (5 : Int32)), .unset] [(.int (5 : Int32)), (.int (1 : Int32))] _
    refine XS.icmpYes X313.here hx rfl (pc0 := 17) (pc' := 22) rfl (hb hby d18_17) rfl (feq (by decide : ¬ ((1 : Int32) = (5 : Int32)))).2 (by decide) (by decide) ?_
    show Sp p e below m T313 22 #[.val (.ref aa), .val (.int (0 : Int32)), .val (.int (1 : Int32)), .val (.int (5 : Int32)), .unset] [] _
    refine XS.iloadN X313.here hx rfl (hb hby d18_22) rfl ?_
    refine XS.iloadN X313.here hx rfl (hb hby d18_23) rfl ?_
    show Sp p e below m T313 24 #[.val (.ref aa), .val (.int (0 : Int32)), .val (.int (1 : Int32)), .val (.int (5 : Int32)), .unset] [(.int (0 : Int32)), (.int (1 : Int32))] _
    refine XS.isub X313.here hx rfl (hb hby d18_24) rfl ?_
    show Sp p e below m T313 25 #[.val (.ref aa), .val (.int (0 : Int32)), .val (.int (1 : Int32)), .val (.int (5 : Int32)), .unset] [(.int (1 : Int32))] _
    refine XS.istore X313.here hx rfl (hb hby d18_25) rfl (l' := #[.val (.ref aa), .val (.int (0 : Int32)), .val (.int (1 : Int32)), .val (.int (5 : Int32)), .val (.int (1 : Int32))]) rfl ?_
    show Sp p e below m T313 27 #[.val (.ref aa), .val (.int (0 : Int32)), .val (.int (1 : Int32)), .val (.int (5 : Int32)), .val (.int (1 : Int32))] [] _
    refine XS.aloadN X313.here hx rfl (hb hby d18_27) rfl rfl ?_
    refine st314.trans ?_
    show Sp p e below m T314 31 #[.val (.ref aa), .val (.int (0 : Int32)), .val (.int (1 : Int32)), .val (.int (5 : Int32)), .val (.int (1 : Int32))] [(.int (1 : Int32))] _
    refine XS.ifNo X314.here hx rfl (hb hby d18_31) rfl ((if0 _ _).trans (feq (by decide : ¬ ((1 : Int32) = (0 : Int32)))).1) ?_
    show Sp p e below m T314 34 #[.val (.ref aa), .val (.int (0 : Int32)), .val (.int (1 : Int32)), .val (.int (5 : Int32)), .val (.int (1 : Int32))] [] _
    refine XS.aloadN X314.here hx rfl (hb hby d18_34) rfl rfl ?_
    refine st315 _ ?_
    show Sp p e below m T315 38 #[.val (.ref aa), .val (.int (0 : Int32)), .val (.int (1 : Int32)), .val (.int (5 : Int32)), .val (.int (1 : Int32))] [(.ref ab)] _
    refine XS.iloadN X315.here hx rfl (hb hby d18_38) rfl ?_
    refine XS.iload X315.here hx rfl (hb hby d18_39) rfl ?_
    show Sp p e below m T315 41 #[.val (.ref aa), .val (.int (0 : Int32)), .val (.int (1 : Int32)), .val (.int (5 : Int32)), .val (.int (1 : Int32))] [(.int (1 : Int32)), (.int (0 : Int32)), (.ref ab)] _
    refine st316 _ ?_
    show Sp p e below m T316 44 #[.val (.ref aa), .val (.int (0 : Int32)), .val (.int (1 : Int32)), .val (.int (5 : Int32)), .val (.int (1 : Int32))] [(.ref rso_316)] _
    refine XS.goto X316.here hx rfl (pc0 := 44) (pc' := 57) rfl (hb hby d18_44) (by decide) (by decide) ?_
    show Sp p e below m T316 57 #[.val (.ref aa), .val (.int (0 : Int32)), .val (.int (1 : Int32)), .val (.int (5 : Int32)), .val (.int (1 : Int32))] [(.ref rso_316)] _
    jvm_step X316.here [X316.here.top, hx, (hb hby d18_57), X316.method', Bd.returns, Value.isRef, FieldType.isReference]
    first | (intro acts; rw [hr _ acts rfl rfl rfl]) | rw [hr _ _ rfl rfl rfl]
    exact Steps.refl _
  · show Q18n5b0e1 Z aa cs vf ab kb ee0 ee1 ee2 ee3 ee4 h0 n0 _ T316.heap _
    exact ⟨rso_316, rrb_316, rrk_316, rfl, N316, KK316, p316_0, p316_1, p316_2, p316_3, g_rso_316, sz_rso_316, g_rrb_316, sz_rrb_316⟩
theorem ef_23n5b2e5 (m : MethodId) (x0 : Addr) : entryFrame m #[(.ref x0), (.int (2 : Int32)), (.int (5 : Int32))] 5 = mkF m 0 #[.val (.ref x0), .val (.int (2 : Int32)), .val (.int (5 : Int32)), .unset, .unset] [] := by first | (simp [entryFrame, mkF, argsToLocals, Value.category]; done) | rfl
def Q23n5b2e5 (Z : State) (ab : Addr) (kb : ClassId) (ee0 : Int32) (ee1 : Int32) (ee2 : Int32) (ee3 : Int32) (ee4 : Int32) (h0 : Heap) (n0 : Nat) (v : Option Value) (h : Heap) (L : List Loc) : Prop := ∃ (rb : Addr) (rk : ClassId), v = some (.ref rb) ∧ Fr n0 L ∧ Keep h0 h [] ∧ Arv Z h rb rk .byte (3 : Int32) [(.int ee2), (.int ee3), (.int ee4)] (.int (0 : Int32)) ∧ n0 ≤ rb ∧ h0.size ≤ rb
set_option maxRecDepth 65536 in
set_option maxHeartbeats 40000000 in
theorem rm23n5b2e5 (l : Launch) (Z : State) (a0 : Array Value) (hw : ∀ d ∈ tables_1, d.before a0 Z = true) (ws : List Jvm.Cond) (ab : Addr) (kb : ClassId) (ee0 : Int32) (ee1 : Int32) (ee2 : Int32) (ee3 : Int32) (ee4 : Int32) (h0 : Heap) (n0 : Nat) (Z0 : n0 ≤ h0.size) (Va : Arv Z h0 ab kb .byte (5 : Int32) [(.int ee0), (.int ee1), (.int ee2), (.int ee3), (.int ee4)] (.int (0 : Int32))) :
    MetFree l (⟨"java/util/Arrays", "copyOfRangeByte", "([BII)[B"⟩ : MethodName) (head1 (Jvm.Cond.code (⟨"java/util/Arrays", "copyOfRangeByte", "([BII)[B"⟩ : MethodName) jdk_65_method_133_code 5 (some (.array .byte)) :: ws) ({ frames := 1, cells := 1, slots := 3, locals := 18 } : Room)) (fun a U => a = #[(.ref ab), (.int (2 : Int32)), (.int (5 : Int32))] ∧ Z.Warmed39 U.vm ∧ U.heap = h0) (fun _ _ _ _ _ => True) (fun _ U o U' => ∃ v L, o = .returned v ∧ Q23n5b2e5 Z ab kb ee0 ee1 ee2 ee3 ee4 h0 n0 v U'.heap L ∧ FrameEnd U o U' L ({ frames := 1, cells := 1, slots := 3, locals := 18 } : Room).cells ({ frames := 1, cells := 1, slots := 3, locals := 18 } : Room).slots) := by
  refine MetFree.of_bodySF (plainFor_of_name own_pn248) hisR ?_
  intro p e s m args below meth c s₁ Bd hml0 hP hK
  have H := fun i c (h : tables_1[i]? = some c) => hw c (List.mem_of_getElem? h)
  obtain ⟨rfl, hZ, hh⟩ := hP
  have hx := Bd.exec
  have hby := Bd.bytes
  have hml : c.maxLocals = 5 := hml0
  have hown : s.vm.findClass "java/util/Arrays" = some m.cls := findClass_of_methodNamed Bd.named
  have hnm := (name_of_methodNamed Bd.named Bd.method).1
  have X0 : Stand p l e ({ frames := 1, cells := 1, slots := 3, locals := 18 } : Room) s m #[(.ref ab), (.int (2 : Int32)), (.int (5 : Int32))] below meth c s₁ [] 0 0 := Stand.of_body Bd
  have e0 : s₁.heap = h0 := by rw [← hh, Bd.state]; rfl
  have N0 := Fr.nil n0
  have pre0 : ∀ t, Sp p e below m s₁ 0 #[.val (.ref ab), .val (.int (2 : Int32)), .val (.int (5 : Int32)), .unset, .unset] [] t → Steps p.tables e below (s₁.setTop (entryFrame m #[(.ref ab), (.int (2 : Int32)), (.int (5 : Int32))] 5)) t := fun t k => castTop (ef_23n5b2e5 m ab) k
  generalize s₁.setTop (entryFrame m #[(.ref ab), (.int (2 : Int32)), (.int (5 : Int32))] 5) = G0 at pre0 ⊢
  obtain ⟨_, _, ⟨T331, L331, k331, n331⟩, -, X331, ⟨Lc331, hQ331, l331, y331, z331⟩, st331⟩ := Jvm.LawKit.callS X0 hx (y := (⟨"java/util/Arrays", "checkLength", "(II)V"⟩ : MethodName)) hown (mvT hZ (H 105 _ rfl)) (mvT hZ (H 106 _ rfl)) (mvT hZ (H 100 _ rfl)) (mvT hZ (H 107 _ rfl)) (by decide) (backOf (W := 0) (rm24 l Z a0 hw [] (2 : Int32) (5 : Int32)  h0 n0 Z0 (by decide)) hZ (H 107 _ rfl) (H 100 _ rfl) (by decide) (by decide)) (g := (mkF m 2 #[.val (.ref ab), .val (.int (2 : Int32)), .val (.int (5 : Int32)), .unset, .unset] [(.int (5 : Int32)), (.int (2 : Int32))])) rfl (by rw [hml]; rfl) (argsL := [(.int (2 : Int32)), (.int (5 : Int32))]) (rest := []) (lenOf own_pd121 rfl) rfl (Nat.le_of_eq rfl) (hb hby d23_2) (fun _ _ => ⟨rfl, e0, (by decide : 0 + 0 ≤ _), (by decide : 0 + 0 ≤ _)⟩)
  dsimp only [Pt.U, Pt.locs, Pt.cells, Pt.slots] at X331 l331 y331 z331 st331 hQ331
  rw [l331, y331, z331] at X331
  clear l331 y331 z331
  obtain ⟨rfl, Nq331, e331⟩ := hQ331
  have N331 := Fr.app N0 Nq331
  obtain ⟨T332, h332, k332, X332, e332, E332, A332, st332⟩ := newP X331 hx hZ (H 21 _ rfl) e331 (g := (mkF m 10 #[.val (.ref ab), .val (.int (2 : Int32)), .val (.int (5 : Int32)), .val (.int (3 : Int32)), .unset] [(.int (3 : Int32))])) rfl (hb hby d23_10) rfl (by decide) (cap := 3) (by decide) (by decide) (by decide) (by decide)
  obtain ⟨b332, g332⟩ : ∃ z, z = h0.size := ⟨_, rfl⟩
  rw [← g332] at A332 st332
  have g_b332 : n0 ≤ b332 := Nat.le_trans Z0 (Nat.le_of_eq g332.symm)
  have sz_b332 : h0.size ≤ b332 := Nat.le_of_eq g332.symm
  have lt_ab_b332 : ab < b332 := Nat.lt_of_lt_of_le Va.lt (Nat.le_of_eq g332.symm)
  have ne_ab_b332 : ab ≠ b332 := Nat.ne_of_lt lt_ab_b332
  have Zs332 : n0 ≤ h332.size := Nat.le_trans Z0 E332.1
  have KK332 : Keep h0 h332 [] := (Keep.refl h0 _).ext E332
  have f333 := Va.ext E332
  have V332 : Arv Z h332 b332 k332 .byte (3 : Int32) [(.int (0 : Int32)), (.int (0 : Int32)), (.int (0 : Int32))] (.int (0 : Int32)) := (Arv.new A332 (by decide)).pad (pad_rep [] (.int (0 : Int32)) 3)
  obtain ⟨cl334, Ar334, -, S334, M334, -, -⟩ := id f333
  obtain ⟨_, _, ⟨T335, L335, k335, n335⟩, -, X335, ⟨Lc335, hQ335, l335, y335, z335⟩, st335⟩ := Jvm.LawKit.callS X332 hx (y := (⟨"java/lang/Math", "min", "(II)I"⟩ : MethodName)) hown (mvT hZ (H 108 _ rfl)) (mvT hZ (H 73 _ rfl)) (mvT hZ (H 70 _ rfl)) (mvT hZ (H 74 _ rfl)) (by decide) (backOf (W := 4) (rm16 l Z a0 hw [] (3 : Int32) (3 : Int32)  h332 n0 Zs332 ) hZ (H 74 _ rfl) (H 70 _ rfl) (by decide) (by decide)) (g := (mkF m 24 #[.val (.ref ab), .val (.int (2 : Int32)), .val (.int (5 : Int32)), .val (.int (3 : Int32)), .val (.ref b332)] [(.int (3 : Int32)), (.int (3 : Int32)), (.int (0 : Int32)), (.ref b332), (.int (2 : Int32)), (.ref ab)])) rfl (by rw [hml]; rfl) (argsL := [(.int (3 : Int32)), (.int (3 : Int32))]) (rest := [(.int (0 : Int32)), (.ref b332), (.int (2 : Int32)), (.ref ab)]) (lenOf own_pd188 rfl) rfl (Nat.le_of_eq rfl) (hb hby d23_24) (fun _ _ => ⟨rfl, e332, (by decide : 1 + 0 ≤ _), (by decide : 3 + 0 ≤ _)⟩)
  dsimp only [Pt.U, Pt.locs, Pt.cells, Pt.slots] at X335 l335 y335 z335 st335 hQ335
  rw [l335, y335, z335] at X335
  clear l335 y335 z335
  obtain ⟨rfl, Nq335, e335⟩ := hQ335
  have N335 := Fr.app N331 Nq335
  have pre336 : ∀ t, Sp p e below m T335 27 #[.val (.ref ab), .val (.int (2 : Int32)), .val (.int (5 : Int32)), .val (.int (3 : Int32)), .val (.ref b332)] [(.int (if (3 : Int32) < (3 : Int32) then (3 : Int32) else (3 : Int32))), (.int (0 : Int32)), (.ref b332), (.int (2 : Int32)), (.ref ab)] t → Steps p.tables e below G0 t := by
    intro t k
    refine pre0 t ?_
    show Sp p e below m s₁ 0 #[.val (.ref ab), .val (.int (2 : Int32)), .val (.int (5 : Int32)), .unset, .unset] [] _
    refine XS.iloadN X0.here hx rfl (hb hby d23_0) rfl ?_
    refine XS.iloadN X0.here hx rfl (hb hby d23_1) rfl ?_
    show Sp p e below m s₁ 2 #[.val (.ref ab), .val (.int (2 : Int32)), .val (.int (5 : Int32)), .unset, .unset] [(.int (5 : Int32)), (.int (2 : Int32))] _
    refine st331 _ ?_
    show Sp p e below m T331 5 #[.val (.ref ab), .val (.int (2 : Int32)), .val (.int (5 : Int32)), .unset, .unset] [] _
    refine XS.iloadN X331.here hx rfl (hb hby d23_5) rfl ?_
    refine XS.iloadN X331.here hx rfl (hb hby d23_6) rfl ?_
    show Sp p e below m T331 7 #[.val (.ref ab), .val (.int (2 : Int32)), .val (.int (5 : Int32)), .unset, .unset] [(.int (2 : Int32)), (.int (5 : Int32))] _
    refine XS.isub X331.here hx rfl (hb hby d23_7) rfl ?_
    show Sp p e below m T331 8 #[.val (.ref ab), .val (.int (2 : Int32)), .val (.int (5 : Int32)), .unset, .unset] [(.int (3 : Int32))] _
    refine XS.istoreN X331.here hx rfl (hb hby d23_8) rfl (l' := #[.val (.ref ab), .val (.int (2 : Int32)), .val (.int (5 : Int32)), .val (.int (3 : Int32)), .unset]) rfl ?_
    show Sp p e below m T331 9 #[.val (.ref ab), .val (.int (2 : Int32)), .val (.int (5 : Int32)), .val (.int (3 : Int32)), .unset] [] _
    refine XS.iloadN X331.here hx rfl (hb hby d23_9) rfl ?_
    refine st332 _ ?_
    show Sp p e below m T332 12 #[.val (.ref ab), .val (.int (2 : Int32)), .val (.int (5 : Int32)), .val (.int (3 : Int32)), .unset] [(.ref b332)] _
    refine XS.astore X332.here hx rfl (hb hby d23_12) rfl rfl (l' := #[.val (.ref ab), .val (.int (2 : Int32)), .val (.int (5 : Int32)), .val (.int (3 : Int32)), .val (.ref b332)]) rfl ?_
    show Sp p e below m T332 14 #[.val (.ref ab), .val (.int (2 : Int32)), .val (.int (5 : Int32)), .val (.int (3 : Int32)), .val (.ref b332)] [] _
    refine XS.aloadN X332.here hx rfl (hb hby d23_14) rfl rfl ?_
    refine XS.iloadN X332.here hx rfl (hb hby d23_15) rfl ?_
    show Sp p e below m T332 16 #[.val (.ref ab), .val (.int (2 : Int32)), .val (.int (5 : Int32)), .val (.int (3 : Int32)), .val (.ref b332)] [(.int (2 : Int32)), (.ref ab)] _
    refine XS.aload X332.here hx rfl (hb hby d23_16) rfl rfl ?_
    refine XS.iconst X332.here hx rfl (hb hby d23_18) ?_
    show Sp p e below m T332 19 #[.val (.ref ab), .val (.int (2 : Int32)), .val (.int (5 : Int32)), .val (.int (3 : Int32)), .val (.ref b332)] [(.int (0 : Int32)), (.ref b332), (.int (2 : Int32)), (.ref ab)] _
    refine XS.aloadN X332.here hx rfl (hb hby d23_19) rfl rfl ?_
    refine X332.arraylength hx (by rw [e332]; exact Ar334.1) (State.isArrayOf_alike hZ.alike Ar334.2.1) (g := (mkF m 20 #[.val (.ref ab), .val (.int (2 : Int32)), .val (.int (5 : Int32)), .val (.int (3 : Int32)), .val (.ref b332)] [(.ref ab), (.int (0 : Int32)), (.ref b332), (.int (2 : Int32)), (.ref ab)])) rfl rfl (hb hby d23_20) _ ?_
    rw [len_of S334 M334]
    show Sp p e below m T332 21 #[.val (.ref ab), .val (.int (2 : Int32)), .val (.int (5 : Int32)), .val (.int (3 : Int32)), .val (.ref b332)] [(.int (5 : Int32)), (.int (0 : Int32)), (.ref b332), (.int (2 : Int32)), (.ref ab)] _
    refine XS.iloadN X332.here hx rfl (hb hby d23_21) rfl ?_
    refine XS.isub X332.here hx rfl (hb hby d23_22) rfl ?_
    show Sp p e below m T332 23 #[.val (.ref ab), .val (.int (2 : Int32)), .val (.int (5 : Int32)), .val (.int (3 : Int32)), .val (.ref b332)] [(.int (3 : Int32)), (.int (0 : Int32)), (.ref b332), (.int (2 : Int32)), (.ref ab)] _
    refine XS.iloadN X332.here hx rfl (hb hby d23_23) rfl ?_
    refine st335 _ ?_
    exact k
  rw [show (if (3 : Int32) < (3 : Int32) then (3 : Int32) else (3 : Int32)) = (3 : Int32) from by decide] at pre336
  obtain ⟨T337, h337, L337, X337, e337, N337, K337, Vc337, st337⟩ := cpA X335 hx hZ hown (H 109 _ rfl) (H 112 _ rfl) (H 110 _ rfl) (H 111 _ rfl) e335 f333 V332 (Or.inl ⟨rfl, rfl⟩) (by decide) (by decide) (by decide) (by decide) (by decide) rfl (Nat.le_of_ble_eq_true rfl) N335 g_b332 (g := (mkF m 27 #[.val (.ref ab), .val (.int (2 : Int32)), .val (.int (5 : Int32)), .val (.int (3 : Int32)), .val (.ref b332)] [(.int (3 : Int32)), (.int (0 : Int32)), (.ref b332), (.int (2 : Int32)), (.ref ab)])) rfl (by rw [hml]; rfl) rfl (hb hby d23_27) (by decide) (W := 0) (Nat.le_of_eq rfl) (by decide)
  have V337 : Arv Z h337 b332 k332 .byte (3 : Int32) [(.int ee2), (.int ee3), (.int ee4)] (.int (0 : Int32)) := Vc337
  have Zs337 : n0 ≤ h337.size := Nat.le_trans Zs332 K337.1
  have KK337 : Keep h0 h337 [] := KK332.trans K337 (allS (Or.inr sz_b332) all0)
  have f338 := f333.keep K337 (ninS ne_ab_b332 nin0)
  obtain ⟨fs, hr, hrun, hended, hW, hsame⟩ := X337.leave (v := some (.ref b332)) (fun h => by rw [Bd.returns] at h; cases h)
  refine ⟨_, _, pre336 _ ?_, hrun, hended, _, _, rfl, ?_, ⟨_, rfl⟩, hW, hsame.mono (by decide) (by decide)⟩
  · show Sp p e below m T335 27 #[.val (.ref ab), .val (.int (2 : Int32)), .val (.int (5 : Int32)), .val (.int (3 : Int32)), .val (.ref b332)] [(.int (3 : Int32)), (.int (0 : Int32)), (.ref b332), (.int (2 : Int32)), (.ref ab)] _
    refine st337 _ ?_
    show Sp p e below m T337 30 #[.val (.ref ab), .val (.int (2 : Int32)), .val (.int (5 : Int32)), .val (.int (3 : Int32)), .val (.ref b332)] [] _
    refine XS.aload X337.here hx rfl (hb hby d23_30) rfl rfl ?_
    jvm_step X337.here [X337.here.top, hx, (hb hby d23_32), X337.method', Bd.returns, Value.isRef, FieldType.isReference]
    first | (intro acts; rw [hr _ acts rfl rfl rfl]) | rw [hr _ _ rfl rfl rfl]
    exact Steps.refl _
  · show Q23n5b2e5 Z ab kb ee0 ee1 ee2 ee3 ee4 h0 n0 _ T337.heap _
    rw [e337]
    exact ⟨b332, k332, rfl, N337, KK337, V337, g_b332, sz_b332⟩
theorem ef_22n5b2e5 (m : MethodId) (x0 : Addr) : entryFrame m #[(.ref x0), (.int (2 : Int32)), (.int (5 : Int32))] 3 = mkF m 0 #[.val (.ref x0), .val (.int (2 : Int32)), .val (.int (5 : Int32))] [] := by first | (simp [entryFrame, mkF, argsToLocals, Value.category]; done) | rfl
def Q22n5b2e5 (Z : State) (ab : Addr) (kb : ClassId) (ee0 : Int32) (ee1 : Int32) (ee2 : Int32) (ee3 : Int32) (ee4 : Int32) (h0 : Heap) (n0 : Nat) (v : Option Value) (h : Heap) (L : List Loc) : Prop := ∃ (rb : Addr) (rk : ClassId), v = some (.ref rb) ∧ Fr n0 L ∧ Keep h0 h [] ∧ Arv Z h rb rk .byte (3 : Int32) [(.int ee2), (.int ee3), (.int ee4)] (.int (0 : Int32)) ∧ n0 ≤ rb ∧ h0.size ≤ rb
set_option maxRecDepth 65536 in
set_option maxHeartbeats 40000000 in
theorem rm22n5b2e5 (l : Launch) (Z : State) (a0 : Array Value) (hw : ∀ d ∈ tables_1, d.before a0 Z = true) (ws : List Jvm.Cond) (ab : Addr) (kb : ClassId) (ee0 : Int32) (ee1 : Int32) (ee2 : Int32) (ee3 : Int32) (ee4 : Int32) (h0 : Heap) (n0 : Nat) (Z0 : n0 ≤ h0.size) (Va : Arv Z h0 ab kb .byte (5 : Int32) [(.int ee0), (.int ee1), (.int ee2), (.int ee3), (.int ee4)] (.int (0 : Int32))) :
    MetFree l (⟨"java/util/Arrays", "copyOfRange", "([BII)[B"⟩ : MethodName) (head1 (Jvm.Cond.code (⟨"java/util/Arrays", "copyOfRange", "([BII)[B"⟩ : MethodName) jdk_65_method_132_code 3 (some (.array .byte)) :: ws) ({ frames := 2, cells := 1, slots := 3, locals := 34 } : Room)) (fun a U => a = #[(.ref ab), (.int (2 : Int32)), (.int (5 : Int32))] ∧ Z.Warmed39 U.vm ∧ U.heap = h0) (fun _ _ _ _ _ => True) (fun _ U o U' => ∃ v L, o = .returned v ∧ Q22n5b2e5 Z ab kb ee0 ee1 ee2 ee3 ee4 h0 n0 v U'.heap L ∧ FrameEnd U o U' L ({ frames := 2, cells := 1, slots := 3, locals := 34 } : Room).cells ({ frames := 2, cells := 1, slots := 3, locals := 34 } : Room).slots) := by
  refine MetFree.of_bodySF (plainFor_of_name own_pn248) hisR ?_
  intro p e s m args below meth c s₁ Bd hml0 hP hK
  have H := fun i c (h : tables_1[i]? = some c) => hw c (List.mem_of_getElem? h)
  obtain ⟨rfl, hZ, hh⟩ := hP
  have hx := Bd.exec
  have hby := Bd.bytes
  have hml : c.maxLocals = 3 := hml0
  have hown : s.vm.findClass "java/util/Arrays" = some m.cls := findClass_of_methodNamed Bd.named
  have hnm := (name_of_methodNamed Bd.named Bd.method).1
  have X0 : Stand p l e ({ frames := 2, cells := 1, slots := 3, locals := 34 } : Room) s m #[(.ref ab), (.int (2 : Int32)), (.int (5 : Int32))] below meth c s₁ [] 0 0 := Stand.of_body Bd
  have e0 : s₁.heap = h0 := by rw [← hh, Bd.state]; rfl
  have N0 := Fr.nil n0
  have pre0 : ∀ t, Sp p e below m s₁ 0 #[.val (.ref ab), .val (.int (2 : Int32)), .val (.int (5 : Int32))] [] t → Steps p.tables e below (s₁.setTop (entryFrame m #[(.ref ab), (.int (2 : Int32)), (.int (5 : Int32))] 3)) t := fun t k => castTop (ef_22n5b2e5 m ab) k
  generalize s₁.setTop (entryFrame m #[(.ref ab), (.int (2 : Int32)), (.int (5 : Int32))] 3) = G0 at pre0 ⊢
  obtain ⟨_, _, ⟨T341, L341, k341, n341⟩, -, X341, ⟨Lc341, hQ341, l341, y341, z341⟩, st341⟩ := Jvm.LawKit.callS X0 hx (y := (⟨"java/util/Arrays", "copyOfRangeByte", "([BII)[B"⟩ : MethodName)) hown (mvT hZ (H 102 _ rfl)) (mvT hZ (H 103 _ rfl)) (mvT hZ (H 100 _ rfl)) (mvT hZ (H 104 _ rfl)) (by decide) (backOf (W := 0) (rm23n5b2e5 l Z a0 hw [] ab kb ee0 ee1 ee2 ee3 ee4 h0 n0 Z0 Va) hZ (H 104 _ rfl) (H 100 _ rfl) (by decide) (by decide)) (g := (mkF m 13 #[.val (.ref ab), .val (.int (2 : Int32)), .val (.int (5 : Int32))] [(.int (5 : Int32)), (.int (2 : Int32)), (.ref ab)])) rfl (by rw [hml]; rfl) (argsL := [(.ref ab), (.int (2 : Int32)), (.int (5 : Int32))]) (rest := []) (lenOf own_pd282 rfl) rfl (Nat.le_of_eq rfl) (hb hby d22_13) (fun _ _ => ⟨rfl, e0, (by decide : 0 + 1 ≤ _), (by decide : 0 + 3 ≤ _)⟩)
  dsimp only [Pt.U, Pt.locs, Pt.cells, Pt.slots] at X341 l341 y341 z341 st341 hQ341
  rw [l341, y341, z341] at X341
  clear l341 y341 z341
  obtain ⟨rrb_341, rrk_341, rfl, Nq341, K341, p341_0, p341_1, p341_2⟩ := hQ341
  have N341 := Fr.app N0 Nq341
  have Zs341 : n0 ≤ T341.heap.size := Nat.le_trans Z0 K341.1
  have KK341 : Keep h0 T341.heap [] := (Keep.refl h0 _).trans K341 all0
  have ne_ab_rrb_341 : ab ≠ rrb_341 := Nat.ne_of_lt (Nat.lt_of_lt_of_le Va.lt p341_2)
  have sz_rrb_341 : h0.size ≤ rrb_341 := p341_2
  have f342 := Va.keep K341 nin0
  have g_rrb_341 := p341_1
  obtain ⟨fs, hr, hrun, hended, hW, hsame⟩ := X341.leave (v := some (.ref rrb_341)) (fun h => by rw [Bd.returns] at h; cases h)
  refine ⟨_, _, pre0 _ ?_, hrun, hended, _, _, rfl, ?_, ⟨_, rfl⟩, hW, hsame.mono (by decide) (by decide)⟩
  · show Sp p e below m s₁ 0 #[.val (.ref ab), .val (.int (2 : Int32)), .val (.int (5 : Int32))] [] _
    refine XS.iloadN X0.here hx rfl (hb hby d22_0) rfl ?_
    refine XS.ifYes X0.here hx rfl (pc0 := 1) (pc' := 10) rfl (hb hby d22_1) rfl ((if0 _ _).trans (feq (by decide : ¬ ((2 : Int32) = (0 : Int32)))).2) (by decide) (by decide) ?_
    show Sp p e below m s₁ 10 #[.val (.ref ab), .val (.int (2 : Int32)), .val (.int (5 : Int32))] [] _
    refine XS.aloadN X0.here hx rfl (hb hby d22_10) rfl rfl ?_
    refine XS.iloadN X0.here hx rfl (hb hby d22_11) rfl ?_
    show Sp p e below m s₁ 12 #[.val (.ref ab), .val (.int (2 : Int32)), .val (.int (5 : Int32))] [(.int (2 : Int32)), (.ref ab)] _
    refine XS.iloadN X0.here hx rfl (hb hby d22_12) rfl ?_
    refine st341 _ ?_
    show Sp p e below m T341 16 #[.val (.ref ab), .val (.int (2 : Int32)), .val (.int (5 : Int32))] [(.ref rrb_341)] _
    jvm_step X341.here [X341.here.top, hx, (hb hby d22_16), X341.method', Bd.returns, Value.isRef, FieldType.isReference]
    first | (intro acts; rw [hr _ acts rfl rfl rfl]) | rw [hr _ _ rfl rfl rfl]
    exact Steps.refl _
  · show Q22n5b2e5 Z ab kb ee0 ee1 ee2 ee3 ee4 h0 n0 _ T341.heap _
    exact ⟨rrb_341, rrk_341, rfl, N341, KK341, p341_0, g_rrb_341, sz_rrb_341⟩
theorem ef_21n5b2e5 (m : MethodId) (x0 : Addr) : entryFrame m #[(.ref x0), (.int (2 : Int32)), (.int (3 : Int32))] 3 = mkF m 0 #[.val (.ref x0), .val (.int (2 : Int32)), .val (.int (3 : Int32))] [] := by first | (simp [entryFrame, mkF, argsToLocals, Value.category]; done) | rfl
def Q21n5b2e5 (Z : State) (ab : Addr) (kb : ClassId) (ee0 : Int32) (ee1 : Int32) (ee2 : Int32) (ee3 : Int32) (ee4 : Int32) (h0 : Heap) (n0 : Nat) (v : Option Value) (h : Heap) (L : List Loc) : Prop := ∃ (so : Addr) (rb : Addr) (rk : ClassId), v = some (.ref so) ∧ Fr n0 L ∧ Keep h0 h [] ∧ Exa Z h so "java/lang/String" ∧ Fld Z h so "java/lang/String" "value" "[B" (.ref rb) ∧ Fld Z h so "java/lang/String" "coder" "B" (.int (0 : Int32)) ∧ Arv Z h rb rk .byte (3 : Int32) [(.int ee2), (.int ee3), (.int ee4)] (.int (0 : Int32)) ∧ n0 ≤ so ∧ h0.size ≤ so ∧ n0 ≤ rb ∧ h0.size ≤ rb
set_option maxRecDepth 65536 in
set_option maxHeartbeats 40000000 in
theorem rm21n5b2e5 (l : Launch) (Z : State) (a0 : Array Value) (hw : ∀ d ∈ tables_1, d.before a0 Z = true) (ws : List Jvm.Cond) (ab : Addr) (kb : ClassId) (ee0 : Int32) (ee1 : Int32) (ee2 : Int32) (ee3 : Int32) (ee4 : Int32) (h0 : Heap) (n0 : Nat) (Z0 : n0 ≤ h0.size) (Va : Arv Z h0 ab kb .byte (5 : Int32) [(.int ee0), (.int ee1), (.int ee2), (.int ee3), (.int ee4)] (.int (0 : Int32))) :
    MetFree l (⟨"java/lang/StringLatin1", "newString", "([BII)Ljava/lang/String;"⟩ : MethodName) (head1 (Jvm.Cond.code (⟨"java/lang/StringLatin1", "newString", "([BII)Ljava/lang/String;"⟩ : MethodName) jdk_43_method_47_code 3 (some (.object "java/lang/String")) :: ws) ({ frames := 3, cells := 2, slots := 7, locals := 50 } : Room)) (fun a U => a = #[(.ref ab), (.int (2 : Int32)), (.int (3 : Int32))] ∧ Z.Warmed39 U.vm ∧ U.heap = h0) (fun _ _ _ _ _ => True) (fun _ U o U' => ∃ v L, o = .returned v ∧ Q21n5b2e5 Z ab kb ee0 ee1 ee2 ee3 ee4 h0 n0 v U'.heap L ∧ FrameEnd U o U' L ({ frames := 3, cells := 2, slots := 7, locals := 50 } : Room).cells ({ frames := 3, cells := 2, slots := 7, locals := 50 } : Room).slots) := by
  refine MetFree.of_bodySF (plainFor_of_name own_pn129) hisR ?_
  intro p e s m args below meth c s₁ Bd hml0 hP hK
  have H := fun i c (h : tables_1[i]? = some c) => hw c (List.mem_of_getElem? h)
  obtain ⟨rfl, hZ, hh⟩ := hP
  have hx := Bd.exec
  have hby := Bd.bytes
  have hml : c.maxLocals = 3 := hml0
  have hown : s.vm.findClass "java/lang/StringLatin1" = some m.cls := findClass_of_methodNamed Bd.named
  have hnm := (name_of_methodNamed Bd.named Bd.method).1
  have X0 : Stand p l e ({ frames := 3, cells := 2, slots := 7, locals := 50 } : Room) s m #[(.ref ab), (.int (2 : Int32)), (.int (3 : Int32))] below meth c s₁ [] 0 0 := Stand.of_body Bd
  have e0 : s₁.heap = h0 := by rw [← hh, Bd.state]; rfl
  have N0 := Fr.nil n0
  have pre0 : ∀ t, Sp p e below m s₁ 0 #[.val (.ref ab), .val (.int (2 : Int32)), .val (.int (3 : Int32))] [] t → Steps p.tables e below (s₁.setTop (entryFrame m #[(.ref ab), (.int (2 : Int32)), (.int (3 : Int32))] 3)) t := fun t k => castTop (ef_21n5b2e5 m ab) k
  generalize s₁.setTop (entryFrame m #[(.ref ab), (.int (2 : Int32)), (.int (3 : Int32))] 3) = G0 at pre0 ⊢
  obtain ⟨T356, h356, X356, e356, E356, A356, D356, -, st356⟩ := newO X0 hx hZ hown (H 97 _ rfl) (H 4 _ rfl) (H 5 _ rfl) e0 (g := (mkF m 7 #[.val (.ref ab), .val (.int (2 : Int32)), .val (.int (3 : Int32))] [])) rfl (hb hby d21_7) (by decide) (by decide)
  obtain ⟨b356, g356⟩ : ∃ z, z = h0.size := ⟨_, rfl⟩
  rw [← g356] at A356 D356 st356
  have g_b356 : n0 ≤ b356 := Nat.le_trans Z0 (Nat.le_of_eq g356.symm)
  have sz_b356 : h0.size ≤ b356 := Nat.le_of_eq g356.symm
  have lt_ab_b356 : ab < b356 := Nat.lt_of_lt_of_le Va.lt (Nat.le_of_eq g356.symm)
  have ne_ab_b356 : ab ≠ b356 := Nat.ne_of_lt lt_ab_b356
  have Zs356 : n0 ≤ h356.size := Nat.le_trans Z0 E356.1
  have KK356 : Keep h0 h356 [] := (Keep.refl h0 _).ext E356
  have f357 := Va.ext E356
  have f358 : Fld Z h356 b356 "java/lang/String" "coder" "B" (.int (0 : Int32)) := D356 (Or.inr (H 29 _ rfl)) (ty := .byte) (by decide)
  have f359 : Fld Z h356 b356 "java/lang/String" "value" "[B" .null := D356 (Or.inr (H 31 _ rfl)) (ty := (.array .byte)) (by decide)
  obtain ⟨_, _, ⟨T360, L360, k360, n360⟩, -, X360, ⟨Lc360, hQ360, l360, y360, z360⟩, st360⟩ := Jvm.LawKit.callS X356 hx (y := (⟨"java/util/Arrays", "copyOfRange", "([BII)[B"⟩ : MethodName)) hown (mvT hZ (H 98 _ rfl)) (mvT hZ (H 99 _ rfl)) (mvT hZ (H 100 _ rfl)) (mvT hZ (H 101 _ rfl)) (by decide) (backOf (W := 2) (rm22n5b2e5 l Z a0 hw [] ab kb ee0 ee1 ee2 ee3 ee4 h356 n0 Zs356 f357) hZ (H 101 _ rfl) (H 100 _ rfl) (by decide) (by decide)) (g := (mkF m 16 #[.val (.ref ab), .val (.int (2 : Int32)), .val (.int (3 : Int32))] [(.int (5 : Int32)), (.int (2 : Int32)), (.ref ab), (.ref b356), (.ref b356)])) rfl (by rw [hml]; rfl) (argsL := [(.ref ab), (.int (2 : Int32)), (.int (5 : Int32))]) (rest := [(.ref b356), (.ref b356)]) (lenOf own_pd282 rfl) rfl (Nat.le_of_eq rfl) (hb hby d21_16) (fun _ _ => ⟨rfl, e356, (by decide : 1 + 1 ≤ _), (by decide : 4 + 3 ≤ _)⟩)
  dsimp only [Pt.U, Pt.locs, Pt.cells, Pt.slots] at X360 l360 y360 z360 st360 hQ360
  rw [l360, y360, z360] at X360
  clear l360 y360 z360
  obtain ⟨rrb_360, rrk_360, rfl, Nq360, K360, p360_0, p360_1, p360_2⟩ := hQ360
  have N360 := Fr.app N0 Nq360
  have Zs360 : n0 ≤ T360.heap.size := Nat.le_trans Zs356 K360.1
  have KK360 : Keep h0 T360.heap [] := KK356.trans K360 all0
  have ne_ab_rrb_360 : ab ≠ rrb_360 := Nat.ne_of_lt (Nat.lt_of_lt_of_le f357.lt p360_2)
  have ne_b356_rrb_360 : b356 ≠ rrb_360 := Nat.ne_of_lt (Nat.lt_of_lt_of_le A356.lt p360_2)
  have sz_rrb_360 : h0.size ≤ rrb_360 := Nat.le_trans KK356.1 p360_2
  have f361 := f357.keep K360 nin0
  have f362 := A356.keep K360
  have f363 := f358.keep K360 nin0
  have f364 := f359.keep K360 nin0
  have g_rrb_360 := p360_1
  obtain ⟨_, _, ⟨T365, L365, k365, n365⟩, -, X365, ⟨Lc365, hQ365, l365, y365, z365⟩, st365⟩ := X360.specialBack hx (y := (⟨"java/lang/String", "<init>", "([BB)V"⟩ : MethodName)) rfl hown (mvT hZ (H 113 _ rfl)) (mvT hZ (H 114 _ rfl)) (mvT hZ (H 115 _ rfl)) (by decide) (backOf (W := 1) (rm25 l Z a0 hw [] b356 rrb_360  T360.heap n0 Zs360 f362 f364 f363 g_b356) hZ (H 115 _ rfl) (H 5 _ rfl) (by decide) (by decide)) (g := (mkF m 20 #[.val (.ref ab), .val (.int (2 : Int32)), .val (.int (3 : Int32))] [(.int (0 : Int32)), (.ref rrb_360), (.ref b356), (.ref b356)])) rfl (by rw [hml]; rfl) (Steps.refl _) (a := b356) (argsL := [(.ref rrb_360), (.int (0 : Int32))]) (rest := [(.ref b356)]) (lenOf own_pd305 rfl) rfl (Nat.le_of_eq rfl) (hb hby d21_20) (fun _ _ => ⟨rfl, rfl, (by decide : 2 + 0 ≤ _), (by decide : 7 + 0 ≤ _)⟩)
  dsimp only [Pt.U, Pt.locs, Pt.cells, Pt.slots] at X365 l365 y365 z365 st365 hQ365
  rw [l365, y365, z365] at X365
  clear l365 y365 z365
  obtain ⟨rfl, Nq365, K365, p365_0, p365_1, p365_2⟩ := hQ365
  have N365 := Fr.app N360 Nq365
  have Zs365 : n0 ≤ T365.heap.size := Nat.le_trans Zs360 K365.1
  have KK365 : Keep h0 T365.heap [] := KK360.trans K365 (allS (Or.inr sz_b356) all0)
  have f366 := f361.keep K365 (ninS ne_ab_b356 nin0)
  have f367 := f362.keep K365
  have f368 := p360_0.keep K365 (ninS (Ne.symm ne_b356_rrb_360) nin0)
  obtain ⟨fs, hr, hrun, hended, hW, hsame⟩ := X365.leave (v := some (.ref b356)) (fun h => by rw [Bd.returns] at h; cases h)
  refine ⟨_, _, pre0 _ ?_, hrun, hended, _, _, rfl, ?_, ⟨_, rfl⟩, hW, hsame.mono (by decide) (by decide)⟩
  · show Sp p e below m s₁ 0 #[.val (.ref ab), .val (.int (2 : Int32)), .val (.int (3 : Int32))] [] _
    refine XS.iloadN X0.here hx rfl (hb hby d21_0) rfl ?_
    refine XS.ifYes X0.here hx rfl (pc0 := 1) (pc' := 7) rfl (hb hby d21_1) rfl ((if0 _ _).trans (feq (by decide : ¬ ((3 : Int32) = (0 : Int32)))).2) (by decide) (by decide) ?_
    show Sp p e below m s₁ 7 #[.val (.ref ab), .val (.int (2 : Int32)), .val (.int (3 : Int32))] [] _
    refine st356 _ ?_
    show Sp p e below m T356 10 #[.val (.ref ab), .val (.int (2 : Int32)), .val (.int (3 : Int32))] [(.ref b356)] _
    refine XS.dup X356.here hx rfl (hb hby d21_10) rfl rfl ?_
    refine XS.aloadN X356.here hx rfl (hb hby d21_11) rfl rfl ?_
    show Sp p e below m T356 12 #[.val (.ref ab), .val (.int (2 : Int32)), .val (.int (3 : Int32))] [(.ref ab), (.ref b356), (.ref b356)] _
    refine XS.iloadN X356.here hx rfl (hb hby d21_12) rfl ?_
    refine XS.iloadN X356.here hx rfl (hb hby d21_13) rfl ?_
    show Sp p e below m T356 14 #[.val (.ref ab), .val (.int (2 : Int32)), .val (.int (3 : Int32))] [(.int (2 : Int32)), (.int (2 : Int32)), (.ref ab), (.ref b356), (.ref b356)] _
    refine XS.iloadN X356.here hx rfl (hb hby d21_14) rfl ?_
    refine XS.iadd X356.here hx rfl (hb hby d21_15) rfl ?_
    show Sp p e below m T356 16 #[.val (.ref ab), .val (.int (2 : Int32)), .val (.int (3 : Int32))] [(.int (5 : Int32)), (.int (2 : Int32)), (.ref ab), (.ref b356), (.ref b356)] _
    refine st360 _ ?_
    show Sp p e below m T360 19 #[.val (.ref ab), .val (.int (2 : Int32)), .val (.int (3 : Int32))] [(.ref rrb_360), (.ref b356), (.ref b356)] _
    refine XS.iconst X360.here hx rfl (hb hby d21_19) ?_
    refine st365.trans ?_
    show Sp p e below m T365 23 #[.val (.ref ab), .val (.int (2 : Int32)), .val (.int (3 : Int32))] [(.ref b356)] _
    jvm_step X365.here [X365.here.top, hx, (hb hby d21_23), X365.method', Bd.returns, Value.isRef, FieldType.isReference]
    first | (intro acts; rw [hr _ acts rfl rfl rfl]) | rw [hr _ _ rfl rfl rfl]
    exact Steps.refl _
  · show Q21n5b2e5 Z ab kb ee0 ee1 ee2 ee3 ee4 h0 n0 _ T365.heap _
    exact ⟨b356, rrb_360, rrk_360, rfl, N365, KK365, p365_0, p365_1, p365_2, f368, g_b356, sz_b356, g_rrb_360, sz_rrb_360⟩
theorem ef_18n5b2e5 (m : MethodId) (x0 : Addr) : entryFrame m #[(.ref x0), (.int (2 : Int32)), (.int (5 : Int32))] 5 = mkF m 0 #[.val (.ref x0), .val (.int (2 : Int32)), .val (.int (5 : Int32)), .unset, .unset] [] := by first | (simp [entryFrame, mkF, argsToLocals, Value.category]; done) | rfl
def Q18n5b2e5 (Z : State) (aa : Addr) (cs : Int32) (vf : Value) (ab : Addr) (kb : ClassId) (ee0 : Int32) (ee1 : Int32) (ee2 : Int32) (ee3 : Int32) (ee4 : Int32) (h0 : Heap) (n0 : Nat) (v : Option Value) (h : Heap) (L : List Loc) : Prop := ∃ (so : Addr) (rb : Addr) (rk : ClassId), v = some (.ref so) ∧ Fr n0 L ∧ Keep h0 h [] ∧ Exa Z h so "java/lang/String" ∧ Fld Z h so "java/lang/String" "value" "[B" (.ref rb) ∧ Fld Z h so "java/lang/String" "coder" "B" (.int (0 : Int32)) ∧ Arv Z h rb rk .byte (3 : Int32) [(.int ee2), (.int ee3), (.int ee4)] (.int (0 : Int32)) ∧ n0 ≤ so ∧ h0.size ≤ so ∧ n0 ≤ rb ∧ h0.size ≤ rb
set_option maxRecDepth 65536 in
set_option maxHeartbeats 40000000 in
theorem rm18n5b2e5 (l : Launch) (Z : State) (a0 : Array Value) (hw : ∀ d ∈ tables_1, d.before a0 Z = true) (ws : List Jvm.Cond) (aa : Addr) (cs : Int32) (vf : Value) (ab : Addr) (kb : ClassId) (ee0 : Int32) (ee1 : Int32) (ee2 : Int32) (ee3 : Int32) (ee4 : Int32) (h0 : Heap) (n0 : Nat) (Z0 : n0 ≤ h0.size) (O0 : Old Z n0 h0) (Scs : Sta Z Z.heap "java/lang/String" "COMPACT_STRINGS" "Z" (.int cs)) (hcs : ¬ cs = (0 : Int32)) (Ssf : Sta Z Z.heap "jdk/internal/util/Preconditions" "SIOOBE_FORMATTER" "Ljava/util/function/BiFunction;" vf) (hvf : vf.isRef = true) (Ea : Exa Z h0 aa "java/lang/String") (Fv : Fld Z h0 aa "java/lang/String" "value" "[B" (.ref ab)) (Fc : Fld Z h0 aa "java/lang/String" "coder" "B" (.int (0 : Int32))) (Va : Arv Z h0 ab kb .byte (5 : Int32) [(.int ee0), (.int ee1), (.int ee2), (.int ee3), (.int ee4)] (.int (0 : Int32))) :
    MetFree l (⟨"java/lang/String", "substring", "(II)Ljava/lang/String;"⟩ : MethodName) (head1 (Jvm.Cond.code (⟨"java/lang/String", "substring", "(II)Ljava/lang/String;"⟩ : MethodName) jdk_42_method_92_code 5 (some (.object "java/lang/String")) :: ws) ({ frames := 4, cells := 2, slots := 7, locals := 64 } : Room)) (fun a U => a = #[(.ref aa), (.int (2 : Int32)), (.int (5 : Int32))] ∧ Z.Warmed39 U.vm ∧ U.heap = h0) (fun _ _ _ _ _ => True) (fun _ U o U' => ∃ v L, o = .returned v ∧ Q18n5b2e5 Z aa cs vf ab kb ee0 ee1 ee2 ee3 ee4 h0 n0 v U'.heap L ∧ FrameEnd U o U' L ({ frames := 4, cells := 2, slots := 7, locals := 64 } : Room).cells ({ frames := 4, cells := 2, slots := 7, locals := 64 } : Room).slots) := by
  refine MetFree.of_bodySF (plainFor_of_name own_pn8) hisR ?_
  intro p e s m args below meth c s₁ Bd hml0 hP hK
  have H := fun i c (h : tables_1[i]? = some c) => hw c (List.mem_of_getElem? h)
  obtain ⟨rfl, hZ, hh⟩ := hP
  have hx := Bd.exec
  have hby := Bd.bytes
  have hml : c.maxLocals = 5 := hml0
  have hown : s.vm.findClass "java/lang/String" = some m.cls := findClass_of_methodNamed Bd.named
  have hnm := (name_of_methodNamed Bd.named Bd.method).1
  have X0 : Stand p l e ({ frames := 4, cells := 2, slots := 7, locals := 64 } : Room) s m #[(.ref aa), (.int (2 : Int32)), (.int (5 : Int32))] below meth c s₁ [] 0 0 := Stand.of_body Bd
  have e0 : s₁.heap = h0 := by rw [← hh, Bd.state]; rfl
  have N0 := Fr.nil n0
  have pre0 : ∀ t, Sp p e below m s₁ 0 #[.val (.ref aa), .val (.int (2 : Int32)), .val (.int (5 : Int32)), .unset, .unset] [] t → Steps p.tables e below (s₁.setTop (entryFrame m #[(.ref aa), (.int (2 : Int32)), (.int (5 : Int32))] 5)) t := fun t k => castTop (ef_18n5b2e5 m aa) k
  generalize s₁.setTop (entryFrame m #[(.ref aa), (.int (2 : Int32)), (.int (5 : Int32))] 5) = G0 at pre0 ⊢
  obtain ⟨cq380, kq380, q380a, q380b, q380c⟩ := isOf hZ e0 Ea
  obtain ⟨_, _, ⟨T380, L380, k380, n380⟩, -, X380, ⟨Lc380, hQ380, l380, y380, z380⟩, st380⟩ := X0.virtualBack hx (y := (⟨"java/lang/String", "length", "()I"⟩ : MethodName)) (z := (⟨"java/lang/String", "length", "()I"⟩ : MethodName)) hown (mvT hZ (H 51 _ rfl)) (mvT hZ (H 52 _ rfl)) (notFace_of_selects (args := #[]) (mvT hZ (H 54 _ rfl))) (mvT hZ (H 54 _ rfl)) (mvT hZ (H 53 _ rfl)) (by decide) (backOf (W := 0) (rm11 l Z a0 hw [] aa cs vf ab kb (5 : Int32) [(.int ee0), (.int ee1), (.int ee2), (.int ee3), (.int ee4)] h0 n0 Z0 O0 Scs hcs Ssf hvf Ea Fv Fc Va) hZ (H 55 _ rfl) (H 5 _ rfl) (by decide) (by decide)) q380a q380c (g := (mkF m 1 #[.val (.ref aa), .val (.int (2 : Int32)), .val (.int (5 : Int32)), .unset, .unset] [(.ref aa)])) rfl (by rw [hml]; rfl) (Steps.refl _) (argsL := []) (rest := []) (lenOf own_pd214 rfl) rfl (Nat.le_of_eq rfl) (hb hby d18_1) (fun _ _ => ⟨rfl, e0, (by decide : 0 + 0 ≤ _), (by decide : 0 + 0 ≤ _)⟩)
  dsimp only [Pt.U, Pt.locs, Pt.cells, Pt.slots] at X380 l380 y380 z380 st380 hQ380
  rw [l380, y380, z380] at X380
  clear l380 y380 z380
  obtain ⟨rfl, Nq380, e380⟩ := hQ380
  have N380 := Fr.app N0 Nq380
  obtain ⟨_, _, ⟨T381, L381, k381, n381⟩, -, X381, ⟨Lc381, hQ381, l381, y381, z381⟩, st381⟩ := Jvm.LawKit.callS X380 hx (y := (⟨"java/lang/String", "checkBoundsBeginEnd", "(III)V"⟩ : MethodName)) hown (mvT hZ (H 86 _ rfl)) (mvT hZ (H 87 _ rfl)) (mvT hZ (H 5 _ rfl)) (mvT hZ (H 88 _ rfl)) (by decide) (backOf (W := 0) (rm19 l Z a0 hw [] (2 : Int32) (5 : Int32) (5 : Int32) cs vf h0 n0 Z0 O0 Scs hcs Ssf hvf (by decide) (by decide) (by decide)) hZ (H 88 _ rfl) (H 5 _ rfl) (by decide) (by decide)) (g := (mkF m 8 #[.val (.ref aa), .val (.int (2 : Int32)), .val (.int (5 : Int32)), .val (.int (5 : Int32)), .unset] [(.int (5 : Int32)), (.int (5 : Int32)), (.int (2 : Int32))])) rfl (by rw [hml]; rfl) (argsL := [(.int (2 : Int32)), (.int (5 : Int32)), (.int (5 : Int32))]) (rest := []) (lenOf own_pd332 rfl) rfl (Nat.le_of_eq rfl) (hb hby d18_8) (fun _ _ => ⟨rfl, e380, (by decide : 0 + 0 ≤ _), (by decide : 0 + 0 ≤ _)⟩)
  dsimp only [Pt.U, Pt.locs, Pt.cells, Pt.slots] at X381 l381 y381 z381 st381 hQ381
  rw [l381, y381, z381] at X381
  clear l381 y381 z381
  obtain ⟨rfl, Nq381, e381⟩ := hQ381
  have N381 := Fr.app N380 Nq381
  obtain ⟨cq382, kq382, q382a, q382b, q382c⟩ := isOf hZ e381 Ea
  obtain ⟨_, _, ⟨T382, L382, k382, n382⟩, -, X382, ⟨Lc382, hQ382, l382, y382, z382⟩, st382⟩ := X381.virtualBack hx (y := (⟨"java/lang/String", "isLatin1", "()Z"⟩ : MethodName)) (z := (⟨"java/lang/String", "isLatin1", "()Z"⟩ : MethodName)) hown (mvT hZ (H 46 _ rfl)) (mvT hZ (H 47 _ rfl)) (notFace_of_selects (args := #[]) (mvT hZ (H 49 _ rfl))) (mvT hZ (H 49 _ rfl)) (mvT hZ (H 48 _ rfl)) (by decide) (backOf (W := 0) (rm10 l Z a0 hw [] aa cs vf h0 n0 Z0 O0 Scs hcs Ssf hvf Fc) hZ (H 50 _ rfl) (H 5 _ rfl) (by decide) (by decide)) q382a q382c (g := (mkF m 28 #[.val (.ref aa), .val (.int (2 : Int32)), .val (.int (5 : Int32)), .val (.int (5 : Int32)), .val (.int (3 : Int32))] [(.ref aa)])) rfl (by rw [hml]; rfl) (Steps.refl _) (argsL := []) (rest := []) (lenOf own_pd132 rfl) rfl (Nat.le_of_eq rfl) (hb hby d18_28) (fun _ _ => ⟨rfl, e381, (by decide : 0 + 0 ≤ _), (by decide : 0 + 0 ≤ _)⟩)
  dsimp only [Pt.U, Pt.locs, Pt.cells, Pt.slots] at X382 l382 y382 z382 st382 hQ382
  rw [l382, y382, z382] at X382
  clear l382 y382 z382
  obtain ⟨rfl, Nq382, e382⟩ := hQ382
  have N382 := Fr.app N381 Nq382
  obtain ⟨T383, X383, e383, st383⟩ := getF X382 hx hZ hown (host := "") (Or.inl (H 30 _ rfl)) Via.refl e382 Fv (g := (mkF m 35 #[.val (.ref aa), .val (.int (2 : Int32)), .val (.int (5 : Int32)), .val (.int (5 : Int32)), .val (.int (3 : Int32))] [(.ref aa)])) rfl rfl (hb hby d18_35)
  obtain ⟨_, _, ⟨T384, L384, k384, n384⟩, -, X384, ⟨Lc384, hQ384, l384, y384, z384⟩, st384⟩ := Jvm.LawKit.callS X383 hx (y := (⟨"java/lang/StringLatin1", "newString", "([BII)Ljava/lang/String;"⟩ : MethodName)) hown (mvT hZ (H 94 _ rfl)) (mvT hZ (H 95 _ rfl)) (mvT hZ (H 63 _ rfl)) (mvT hZ (H 96 _ rfl)) (by decide) (backOf (W := 0) (rm21n5b2e5 l Z a0 hw [] ab kb ee0 ee1 ee2 ee3 ee4 h0 n0 Z0 Va) hZ (H 96 _ rfl) (H 63 _ rfl) (by decide) (by decide)) (g := (mkF m 41 #[.val (.ref aa), .val (.int (2 : Int32)), .val (.int (5 : Int32)), .val (.int (5 : Int32)), .val (.int (3 : Int32))] [(.int (3 : Int32)), (.int (2 : Int32)), (.ref ab)])) rfl (by rw [hml]; rfl) (argsL := [(.ref ab), (.int (2 : Int32)), (.int (3 : Int32))]) (rest := []) (lenOf own_pd350 rfl) rfl (Nat.le_of_eq rfl) (hb hby d18_41) (fun _ _ => ⟨rfl, e383, (by decide : 0 + 2 ≤ _), (by decide : 0 + 7 ≤ _)⟩)
  dsimp only [Pt.U, Pt.locs, Pt.cells, Pt.slots] at X384 l384 y384 z384 st384 hQ384
  rw [l384, y384, z384] at X384
  clear l384 y384 z384
  obtain ⟨rso_384, rrb_384, rrk_384, rfl, Nq384, K384, p384_0, p384_1, p384_2, p384_3, p384_4, p384_5, p384_6, p384_7⟩ := hQ384
  have N384 := Fr.app N382 Nq384
  have Zs384 : n0 ≤ T384.heap.size := Nat.le_trans Z0 K384.1
  have KK384 : Keep h0 T384.heap [] := (Keep.refl h0 _).trans K384 all0
  have ne_aa_rso_384 : aa ≠ rso_384 := Nat.ne_of_lt (Nat.lt_of_lt_of_le Ea.lt p384_5)
  have ne_ab_rso_384 : ab ≠ rso_384 := Nat.ne_of_lt (Nat.lt_of_lt_of_le Va.lt p384_5)
  have sz_rso_384 : h0.size ≤ rso_384 := p384_5
  have ne_aa_rrb_384 : aa ≠ rrb_384 := Nat.ne_of_lt (Nat.lt_of_lt_of_le Ea.lt p384_7)
  have ne_ab_rrb_384 : ab ≠ rrb_384 := Nat.ne_of_lt (Nat.lt_of_lt_of_le Va.lt p384_7)
  have sz_rrb_384 : h0.size ≤ rrb_384 := p384_7
  have O384 := O0.keep K384 (all0)
  have f385 := Scs.ext O384.2
  have f386 := Ssf.ext O384.2
  have f387 := Ea.keep K384
  have f388 := Fv.keep K384 nin0
  have f389 := Fc.keep K384 nin0
  have f390 := Va.keep K384 nin0
  have g_rso_384 := p384_4
  have g_rrb_384 := p384_6
  obtain ⟨fs, hr, hrun, hended, hW, hsame⟩ := X384.leave (v := some (.ref rso_384)) (fun h => by rw [Bd.returns] at h; cases h)
  refine ⟨_, _, pre0 _ ?_, hrun, hended, _, _, rfl, ?_, ⟨_, rfl⟩, hW, hsame.mono (by decide) (by decide)⟩
  · show Sp p e below m s₁ 0 #[.val (.ref aa), .val (.int (2 : Int32)), .val (.int (5 : Int32)), .unset, .unset] [] _
    refine XS.aloadN X0.here hx rfl (hb hby d18_0) rfl rfl ?_
    refine st380.trans ?_
    show Sp p e below m T380 4 #[.val (.ref aa), .val (.int (2 : Int32)), .val (.int (5 : Int32)), .unset, .unset] [(.int (5 : Int32))] _
    refine XS.istoreN X380.here hx rfl (hb hby d18_4) rfl (l' := #[.val (.ref aa), .val (.int (2 : Int32)), .val (.int (5 : Int32)), .val (.int (5 : Int32)), .unset]) rfl ?_
    show Sp p e below m T380 5 #[.val (.ref aa), .val (.int (2 : Int32)), .val (.int (5 : Int32)), .val (.int (5 : Int32)), .unset] [] _
    refine XS.iloadN X380.here hx rfl (hb hby d18_5) rfl ?_
    refine XS.iloadN X380.here hx rfl (hb hby d18_6) rfl ?_
    show Sp p e below m T380 7 #[.val (.ref aa), .val (.int (2 : Int32)), .val (.int (5 : Int32)), .val (.int (5 : Int32)), .unset] [(.int (5 : Int32)), (.int (2 : Int32))] _
    refine XS.iloadN X380.here hx rfl (hb hby d18_7) rfl ?_
    refine st381 _ ?_
    show Sp p e below m T381 11 #[.val (.ref aa), .val (.int (2 : Int32)), .val (.int (5 : Int32)), .val (.int (5 : Int32)), .unset] [] _
    refine XS.iloadN X381.here hx rfl (hb hby d18_11) rfl ?_
    refine XS.ifYes X381.here hx rfl (pc0 := 12) (pc' := 22) rfl (hb hby d18_12) rfl ((if0 _ _).trans (feq (by decide : ¬ ((2 : Int32) = (0 : Int32)))).2) (by decide) (by decide) ?_
    show Sp p e below m T381 22 #[.val (.ref aa), .val (.int (2 : Int32)), .val (.int (5 : Int32)), .val (.int (5 : Int32)), .unset] [] _
    refine XS.iloadN X381.here hx rfl (hb hby d18_22) rfl ?_
    refine XS.iloadN X381.here hx rfl (hb hby d18_23) rfl ?_
    show Sp p e below m T381 24 #[.val (.ref aa), .val (.int (2 : Int32)), .val (.int (5 : Int32)), .val (.int (5 : Int32)), .unset] [(.int (2 : Int32)), (.int (5 : Int32))] _
    refine XS.isub X381.here hx rfl (hb hby d18_24) rfl ?_
    show Sp p e below m T381 25 #[.val (.ref aa), .val (.int (2 : Int32)), .val (.int (5 : Int32)), .val (.int (5 : Int32)), .unset] [(.int (3 : Int32))] _
    refine XS.istore X381.here hx rfl (hb hby d18_25) rfl (l' := #[.val (.ref aa), .val (.int (2 : Int32)), .val (.int (5 : Int32)), .val (.int (5 : Int32)), .val (.int (3 : Int32))]) rfl ?_
    show Sp p e below m T381 27 #[.val (.ref aa), .val (.int (2 : Int32)), .val (.int (5 : Int32)), .val (.int (5 : Int32)), .val (.int (3 : Int32))] [] _
    refine XS.aloadN X381.here hx rfl (hb hby d18_27) rfl rfl ?_
    refine st382.trans ?_
    show Sp p e below m T382 31 #[.val (.ref aa), .val (.int (2 : Int32)), .val (.int (5 : Int32)), .val (.int (5 : Int32)), .val (.int (3 : Int32))] [(.int (1 : Int32))] _
    refine XS.ifNo X382.here hx rfl (hb hby d18_31) rfl ((if0 _ _).trans (feq (by decide : ¬ ((1 : Int32) = (0 : Int32)))).1) ?_
    show Sp p e below m T382 34 #[.val (.ref aa), .val (.int (2 : Int32)), .val (.int (5 : Int32)), .val (.int (5 : Int32)), .val (.int (3 : Int32))] [] _
    refine XS.aloadN X382.here hx rfl (hb hby d18_34) rfl rfl ?_
    refine st383 _ ?_
    show Sp p e below m T383 38 #[.val (.ref aa), .val (.int (2 : Int32)), .val (.int (5 : Int32)), .val (.int (5 : Int32)), .val (.int (3 : Int32))] [(.ref ab)] _
    refine XS.iloadN X383.here hx rfl (hb hby d18_38) rfl ?_
    refine XS.iload X383.here hx rfl (hb hby d18_39) rfl ?_
    show Sp p e below m T383 41 #[.val (.ref aa), .val (.int (2 : Int32)), .val (.int (5 : Int32)), .val (.int (5 : Int32)), .val (.int (3 : Int32))] [(.int (3 : Int32)), (.int (2 : Int32)), (.ref ab)] _
    refine st384 _ ?_
    show Sp p e below m T384 44 #[.val (.ref aa), .val (.int (2 : Int32)), .val (.int (5 : Int32)), .val (.int (5 : Int32)), .val (.int (3 : Int32))] [(.ref rso_384)] _
    refine XS.goto X384.here hx rfl (pc0 := 44) (pc' := 57) rfl (hb hby d18_44) (by decide) (by decide) ?_
    show Sp p e below m T384 57 #[.val (.ref aa), .val (.int (2 : Int32)), .val (.int (5 : Int32)), .val (.int (5 : Int32)), .val (.int (3 : Int32))] [(.ref rso_384)] _
    jvm_step X384.here [X384.here.top, hx, (hb hby d18_57), X384.method', Bd.returns, Value.isRef, FieldType.isReference]
    first | (intro acts; rw [hr _ acts rfl rfl rfl]) | rw [hr _ _ rfl rfl rfl]
    exact Steps.refl _
  · show Q18n5b2e5 Z aa cs vf ab kb ee0 ee1 ee2 ee3 ee4 h0 n0 _ T384.heap _
    exact ⟨rso_384, rrb_384, rrk_384, rfl, N384, KK384, p384_0, p384_1, p384_2, p384_3, g_rso_384, sz_rso_384, g_rrb_384, sz_rrb_384⟩
theorem d26_0 : decode jdk_42_method_91_code 0 = .ok (.aload_n 0, 1) := by decide +kernel
theorem d26_1 : decode jdk_42_method_91_code 1 = .ok (.iload_n 1, 1) := by decide +kernel
theorem d26_2 : decode jdk_42_method_91_code 2 = .ok (.aload_n 0, 1) := by decide +kernel
theorem d26_3 : decode jdk_42_method_91_code 3 = .ok (.invokevirtual 505, 3) := by decide +kernel
theorem d26_6 : decode jdk_42_method_91_code 6 = .ok (.invokevirtual 681, 3) := by decide +kernel
theorem own_pd358 : parseMethodDescriptor "(II)Ljava/lang/String;" = some ⟨[.int, .int], some (.object "java/lang/String")⟩ := by decide +kernel
theorem d26_9 : decode jdk_42_method_91_code 9 = .ok (.areturn, 1) := by decide +kernel
theorem ef_26n5b2e5 (m : MethodId) (x0 : Addr) : entryFrame m #[(.ref x0), (.int (2 : Int32))] 2 = mkF m 0 #[.val (.ref x0), .val (.int (2 : Int32))] [] := by first | (simp [entryFrame, mkF, argsToLocals, Value.category]; done) | rfl
def Q26n5b2e5 (Z : State) (aa : Addr) (cs : Int32) (vf : Value) (ab : Addr) (kb : ClassId) (ee0 : Int32) (ee1 : Int32) (ee2 : Int32) (ee3 : Int32) (ee4 : Int32) (h0 : Heap) (n0 : Nat) (v : Option Value) (h : Heap) (L : List Loc) : Prop := ∃ (so : Addr) (rb : Addr) (rk : ClassId), v = some (.ref so) ∧ Fr n0 L ∧ Keep h0 h [] ∧ Exa Z h so "java/lang/String" ∧ Fld Z h so "java/lang/String" "value" "[B" (.ref rb) ∧ Fld Z h so "java/lang/String" "coder" "B" (.int (0 : Int32)) ∧ Arv Z h rb rk .byte (3 : Int32) [(.int ee2), (.int ee3), (.int ee4)] (.int (0 : Int32)) ∧ n0 ≤ so ∧ h0.size ≤ so ∧ n0 ≤ rb ∧ h0.size ≤ rb
set_option maxRecDepth 65536 in
set_option maxHeartbeats 40000000 in
theorem rm26n5b2e5 (l : Launch) (Z : State) (a0 : Array Value) (hw : ∀ d ∈ tables_1, d.before a0 Z = true) (ws : List Jvm.Cond) (aa : Addr) (cs : Int32) (vf : Value) (ab : Addr) (kb : ClassId) (ee0 : Int32) (ee1 : Int32) (ee2 : Int32) (ee3 : Int32) (ee4 : Int32) (h0 : Heap) (n0 : Nat) (Z0 : n0 ≤ h0.size) (O0 : Old Z n0 h0) (Scs : Sta Z Z.heap "java/lang/String" "COMPACT_STRINGS" "Z" (.int cs)) (hcs : ¬ cs = (0 : Int32)) (Ssf : Sta Z Z.heap "jdk/internal/util/Preconditions" "SIOOBE_FORMATTER" "Ljava/util/function/BiFunction;" vf) (hvf : vf.isRef = true) (Ea : Exa Z h0 aa "java/lang/String") (Fv : Fld Z h0 aa "java/lang/String" "value" "[B" (.ref ab)) (Fc : Fld Z h0 aa "java/lang/String" "coder" "B" (.int (0 : Int32))) (Va : Arv Z h0 ab kb .byte (5 : Int32) [(.int ee0), (.int ee1), (.int ee2), (.int ee3), (.int ee4)] (.int (0 : Int32))) :
    MetFree l (⟨"java/lang/String", "substring", "(I)Ljava/lang/String;"⟩ : MethodName) (head1 (Jvm.Cond.code (⟨"java/lang/String", "substring", "(I)Ljava/lang/String;"⟩ : MethodName) jdk_42_method_91_code 2 (some (.object "java/lang/String")) :: ws) ({ frames := 5, cells := 2, slots := 7, locals := 80 } : Room)) (fun a U => a = #[(.ref aa), (.int (2 : Int32))] ∧ Z.Warmed39 U.vm ∧ U.heap = h0) (fun _ _ _ _ _ => True) (fun _ U o U' => ∃ v L, o = .returned v ∧ Q26n5b2e5 Z aa cs vf ab kb ee0 ee1 ee2 ee3 ee4 h0 n0 v U'.heap L ∧ FrameEnd U o U' L ({ frames := 5, cells := 2, slots := 7, locals := 80 } : Room).cells ({ frames := 5, cells := 2, slots := 7, locals := 80 } : Room).slots) := by
  refine MetFree.of_bodySF (plainFor_of_name own_pn8) hisR ?_
  intro p e s m args below meth c s₁ Bd hml0 hP hK
  have H := fun i c (h : tables_1[i]? = some c) => hw c (List.mem_of_getElem? h)
  obtain ⟨rfl, hZ, hh⟩ := hP
  have hx := Bd.exec
  have hby := Bd.bytes
  have hml : c.maxLocals = 2 := hml0
  have hown : s.vm.findClass "java/lang/String" = some m.cls := findClass_of_methodNamed Bd.named
  have hnm := (name_of_methodNamed Bd.named Bd.method).1
  have X0 : Stand p l e ({ frames := 5, cells := 2, slots := 7, locals := 80 } : Room) s m #[(.ref aa), (.int (2 : Int32))] below meth c s₁ [] 0 0 := Stand.of_body Bd
  have e0 : s₁.heap = h0 := by rw [← hh, Bd.state]; rfl
  have N0 := Fr.nil n0
  have pre0 : ∀ t, Sp p e below m s₁ 0 #[.val (.ref aa), .val (.int (2 : Int32))] [] t → Steps p.tables e below (s₁.setTop (entryFrame m #[(.ref aa), (.int (2 : Int32))] 2)) t := fun t k => castTop (ef_26n5b2e5 m aa) k
  generalize s₁.setTop (entryFrame m #[(.ref aa), (.int (2 : Int32))] 2) = G0 at pre0 ⊢
  obtain ⟨cq399, kq399, q399a, q399b, q399c⟩ := isOf hZ e0 Ea
  obtain ⟨_, _, ⟨T399, L399, k399, n399⟩, -, X399, ⟨Lc399, hQ399, l399, y399, z399⟩, st399⟩ := X0.virtualBack hx (y := (⟨"java/lang/String", "length", "()I"⟩ : MethodName)) (z := (⟨"java/lang/String", "length", "()I"⟩ : MethodName)) hown (mvT hZ (H 51 _ rfl)) (mvT hZ (H 52 _ rfl)) (notFace_of_selects (args := #[]) (mvT hZ (H 54 _ rfl))) (mvT hZ (H 54 _ rfl)) (mvT hZ (H 53 _ rfl)) (by decide) (backOf (W := 2) (rm11 l Z a0 hw [] aa cs vf ab kb (5 : Int32) [(.int ee0), (.int ee1), (.int ee2), (.int ee3), (.int ee4)] h0 n0 Z0 O0 Scs hcs Ssf hvf Ea Fv Fc Va) hZ (H 55 _ rfl) (H 5 _ rfl) (by decide) (by decide)) q399a q399c (g := (mkF m 3 #[.val (.ref aa), .val (.int (2 : Int32))] [(.ref aa), (.int (2 : Int32)), (.ref aa)])) rfl (by rw [hml]; rfl) (Steps.refl _) (argsL := []) (rest := [(.int (2 : Int32)), (.ref aa)]) (lenOf own_pd214 rfl) rfl (Nat.le_of_eq rfl) (hb hby d26_3) (fun _ _ => ⟨rfl, e0, (by decide : 0 + 0 ≤ _), (by decide : 0 + 0 ≤ _)⟩)
  dsimp only [Pt.U, Pt.locs, Pt.cells, Pt.slots] at X399 l399 y399 z399 st399 hQ399
  rw [l399, y399, z399] at X399
  clear l399 y399 z399
  obtain ⟨rfl, Nq399, e399⟩ := hQ399
  have N399 := Fr.app N0 Nq399
  obtain ⟨cq400, kq400, q400a, q400b, q400c⟩ := isOf hZ e399 Ea
  obtain ⟨_, _, ⟨T400, L400, k400, n400⟩, -, X400, ⟨Lc400, hQ400, l400, y400, z400⟩, st400⟩ := X399.virtualBack hx (y := (⟨"java/lang/String", "substring", "(II)Ljava/lang/String;"⟩ : MethodName)) (z := (⟨"java/lang/String", "substring", "(II)Ljava/lang/String;"⟩ : MethodName)) hown (mvT hZ (H 121 _ rfl)) (mvT hZ (H 82 _ rfl)) (notFace_of_selects (args := #[]) (mvT hZ (H 84 _ rfl))) (mvT hZ (H 84 _ rfl)) (mvT hZ (H 83 _ rfl)) (by decide) (backOf (W := 0) (rm18n5b2e5 l Z a0 hw [] aa cs vf ab kb ee0 ee1 ee2 ee3 ee4 h0 n0 Z0 O0 Scs hcs Ssf hvf Ea Fv Fc Va) hZ (H 85 _ rfl) (H 5 _ rfl) (by decide) (by decide)) q400a q400c (g := (mkF m 6 #[.val (.ref aa), .val (.int (2 : Int32))] [(.int (5 : Int32)), (.int (2 : Int32)), (.ref aa)])) rfl (by rw [hml]; rfl) (Steps.refl _) (argsL := [(.int (2 : Int32)), (.int (5 : Int32))]) (rest := []) (lenOf own_pd358 rfl) rfl (Nat.le_of_eq rfl) (hb hby d26_6) (fun _ _ => ⟨rfl, e399, (by decide : 0 + 2 ≤ _), (by decide : 0 + 7 ≤ _)⟩)
  dsimp only [Pt.U, Pt.locs, Pt.cells, Pt.slots] at X400 l400 y400 z400 st400 hQ400
  rw [l400, y400, z400] at X400
  clear l400 y400 z400
  obtain ⟨rso_400, rrb_400, rrk_400, rfl, Nq400, K400, p400_0, p400_1, p400_2, p400_3, p400_4, p400_5, p400_6, p400_7⟩ := hQ400
  have N400 := Fr.app N399 Nq400
  have Zs400 : n0 ≤ T400.heap.size := Nat.le_trans Z0 K400.1
  have KK400 : Keep h0 T400.heap [] := (Keep.refl h0 _).trans K400 all0
  have ne_aa_rso_400 : aa ≠ rso_400 := Nat.ne_of_lt (Nat.lt_of_lt_of_le Ea.lt p400_5)
  have ne_ab_rso_400 : ab ≠ rso_400 := Nat.ne_of_lt (Nat.lt_of_lt_of_le Va.lt p400_5)
  have sz_rso_400 : h0.size ≤ rso_400 := p400_5
  have ne_aa_rrb_400 : aa ≠ rrb_400 := Nat.ne_of_lt (Nat.lt_of_lt_of_le Ea.lt p400_7)
  have ne_ab_rrb_400 : ab ≠ rrb_400 := Nat.ne_of_lt (Nat.lt_of_lt_of_le Va.lt p400_7)
  have sz_rrb_400 : h0.size ≤ rrb_400 := p400_7
  have O400 := O0.keep K400 (all0)
  have f401 := Scs.ext O400.2
  have f402 := Ssf.ext O400.2
  have f403 := Ea.keep K400
  have f404 := Fv.keep K400 nin0
  have f405 := Fc.keep K400 nin0
  have f406 := Va.keep K400 nin0
  have g_rso_400 := p400_4
  have g_rrb_400 := p400_6
  obtain ⟨fs, hr, hrun, hended, hW, hsame⟩ := X400.leave (v := some (.ref rso_400)) (fun h => by rw [Bd.returns] at h; cases h)
  refine ⟨_, _, pre0 _ ?_, hrun, hended, _, _, rfl, ?_, ⟨_, rfl⟩, hW, hsame.mono (by decide) (by decide)⟩
  · show Sp p e below m s₁ 0 #[.val (.ref aa), .val (.int (2 : Int32))] [] _
    refine XS.aloadN X0.here hx rfl (hb hby d26_0) rfl rfl ?_
    refine XS.iloadN X0.here hx rfl (hb hby d26_1) rfl ?_
    show Sp p e below m s₁ 2 #[.val (.ref aa), .val (.int (2 : Int32))] [(.int (2 : Int32)), (.ref aa)] _
    refine XS.aloadN X0.here hx rfl (hb hby d26_2) rfl rfl ?_
    refine st399.trans ?_
    show Sp p e below m T399 6 #[.val (.ref aa), .val (.int (2 : Int32))] [(.int (5 : Int32)), (.int (2 : Int32)), (.ref aa)] _
    refine st400.trans ?_
    show Sp p e below m T400 9 #[.val (.ref aa), .val (.int (2 : Int32))] [(.ref rso_400)] _
    jvm_step X400.here [X400.here.top, hx, (hb hby d26_9), X400.method', Bd.returns, Value.isRef, FieldType.isReference]
    first | (intro acts; rw [hr _ acts rfl rfl rfl]) | rw [hr _ _ rfl rfl rfl]
    exact Steps.refl _
  · show Q26n5b2e5 Z aa cs vf ab kb ee0 ee1 ee2 ee3 ee4 h0 n0 _ T400.heap _
    exact ⟨rso_400, rrb_400, rrk_400, rfl, N400, KK400, p400_0, p400_1, p400_2, p400_3, g_rso_400, sz_rso_400, g_rrb_400, sz_rrb_400⟩
theorem d7_0 : decode prog_53_method_2_code 0 = .ok (.aload_n 0, 1) := by decide +kernel
theorem d7_1 : decode prog_53_method_2_code 1 = .ok (.bipush 46, 2) := by decide +kernel
theorem d7_3 : decode prog_53_method_2_code 3 = .ok (.invokevirtual 16, 3) := by decide +kernel
theorem own_pd363 : parseMethodDescriptor "(I)I" = some ⟨[.int], some .int⟩ := by decide +kernel
theorem d7_6 : decode prog_53_method_2_code 6 = .ok (.istore_n 1, 1) := by decide +kernel
theorem d7_7 : decode prog_53_method_2_code 7 = .ok (.iload_n 1, 1) := by decide +kernel
theorem d7_8 : decode prog_53_method_2_code 8 = .ok (.ifCond .le 13, 3) := by decide +kernel
theorem d7_11 : decode prog_53_method_2_code 11 = .ok (.iload_n 1, 1) := by decide +kernel
theorem d7_12 : decode prog_53_method_2_code 12 = .ok (.aload_n 0, 1) := by decide +kernel
theorem d7_13 : decode prog_53_method_2_code 13 = .ok (.invokevirtual 22, 3) := by decide +kernel
theorem d7_16 : decode prog_53_method_2_code 16 = .ok (.iconst 1, 1) := by decide +kernel
theorem d7_17 : decode prog_53_method_2_code 17 = .ok (.isub, 1) := by decide +kernel
theorem d7_18 : decode prog_53_method_2_code 18 = .ok (.if_icmp .ne 17, 3) := by decide +kernel
theorem d7_35 : decode prog_53_method_2_code 35 = .ok (.new 8, 3) := by decide +kernel
theorem d7_38 : decode prog_53_method_2_code 38 = .ok (.dup, 1) := by decide +kernel
theorem d7_39 : decode prog_53_method_2_code 39 = .ok (.aload_n 0, 1) := by decide +kernel
theorem d7_40 : decode prog_53_method_2_code 40 = .ok (.iconst 0, 1) := by decide +kernel
theorem d7_41 : decode prog_53_method_2_code 41 = .ok (.iload_n 1, 1) := by decide +kernel
theorem d7_42 : decode prog_53_method_2_code 42 = .ok (.invokevirtual 35, 3) := by decide +kernel
theorem d7_45 : decode prog_53_method_2_code 45 = .ok (.aload_n 0, 1) := by decide +kernel
theorem d7_46 : decode prog_53_method_2_code 46 = .ok (.iload_n 1, 1) := by decide +kernel
theorem d7_47 : decode prog_53_method_2_code 47 = .ok (.iconst 1, 1) := by decide +kernel
theorem d7_48 : decode prog_53_method_2_code 48 = .ok (.iadd, 1) := by decide +kernel
theorem d7_49 : decode prog_53_method_2_code 49 = .ok (.invokevirtual 39, 3) := by decide +kernel
theorem own_pd384 : parseMethodDescriptor "(I)Ljava/lang/String;" = some ⟨[.int], some (.object "java/lang/String")⟩ := by decide +kernel
theorem d7_52 : decode prog_53_method_2_code 52 = .ok (.invokespecial 42, 3) := by decide +kernel
theorem own_pd386 : parseMethodDescriptor "(Ljava/lang/String;Ljava/lang/String;)V" = some ⟨[(.object "java/lang/String"), (.object "java/lang/String")], none⟩ := by decide +kernel
theorem d7_55 : decode prog_53_method_2_code 55 = .ok (.areturn, 1) := by decide +kernel
theorem ef_7d1 (m : MethodId) (x0 : Addr) : entryFrame m #[(.ref x0)] 2 = mkF m 0 #[.val (.ref x0), .unset] [] := by first | (simp [entryFrame, mkF, argsToLocals, Value.category]; done) | rfl
def Q7d1 (Z : State) (aa : Addr) (cs : Int32) (vf : Value) (ab : Addr) (kb : ClassId) (ee0 : Int32) (ee1 : Int32) (ee2 : Int32) (ee3 : Int32) (ee4 : Int32) (h0 : Heap) (n0 : Nat) (v : Option Value) (h : Heap) (L : List Loc) : Prop := ∃ (tn : Addr) (s1 : Addr) (b1 : Addr) (k1 : ClassId) (s2 : Addr) (b2 : Addr) (k2 : ClassId), v = some (.ref tn) ∧ Fr n0 L ∧ Keep h0 h [] ∧ Exa Z h tn "com/example/tideline/tideline/model/TableName" ∧ Fld Z h tn "com/example/tideline/tideline/model/TableName" "schema" "Ljava/lang/String;" (.ref s1) ∧ Fld Z h tn "com/example/tideline/tideline/model/TableName" "table" "Ljava/lang/String;" (.ref s2) ∧ Exa Z h s1 "java/lang/String" ∧ Fld Z h s1 "java/lang/String" "value" "[B" (.ref b1) ∧ Fld Z h s1 "java/lang/String" "coder" "B" (.int (0 : Int32)) ∧ Arv Z h b1 k1 .byte (1 : Int32) [(.int ee0)] (.int (0 : Int32)) ∧ Exa Z h s2 "java/lang/String" ∧ Fld Z h s2 "java/lang/String" "value" "[B" (.ref b2) ∧ Fld Z h s2 "java/lang/String" "coder" "B" (.int (0 : Int32)) ∧ Arv Z h b2 k2 .byte (3 : Int32) [(.int ee2), (.int ee3), (.int ee4)] (.int (0 : Int32))
set_option maxRecDepth 65536 in
set_option maxHeartbeats 40000000 in
theorem rm7d1 (l : Launch) (Z : State) (a0 : Array Value) (hw : ∀ d ∈ tables_1, d.before a0 Z = true) (ws : List Jvm.Cond) (aa : Addr) (cs : Int32) (vf : Value) (ab : Addr) (kb : ClassId) (ee0 : Int32) (ee1 : Int32) (ee2 : Int32) (ee3 : Int32) (ee4 : Int32) (h0 : Heap) (n0 : Nat) (Z0 : n0 ≤ h0.size) (O0 : Old Z n0 h0) (Scs : Sta Z Z.heap "java/lang/String" "COMPACT_STRINGS" "Z" (.int cs)) (hcs : ¬ cs = (0 : Int32)) (Ssf : Sta Z Z.heap "jdk/internal/util/Preconditions" "SIOOBE_FORMATTER" "Ljava/util/function/BiFunction;" vf) (hvf : vf.isRef = true) (Ea : Exa Z h0 aa "java/lang/String") (Fv : Fld Z h0 aa "java/lang/String" "value" "[B" (.ref ab)) (Fc : Fld Z h0 aa "java/lang/String" "coder" "B" (.int (0 : Int32))) (Va : Arv Z h0 ab kb .byte (5 : Int32) [(.int ee0), (.int ee1), (.int ee2), (.int ee3), (.int ee4)] (.int (0 : Int32))) (hfind : own_find5 ee0 ee1 ee2 ee3 ee4 = (1 : Int32)) :
    MetFree l (⟨"com/example/tideline/tideline/model/TableName", "parse", "(Ljava/lang/String;)Lcom/example/tideline/tideline/model/TableName;"⟩ : MethodName) (head1 (Jvm.Cond.code (⟨"com/example/tideline/tideline/model/TableName", "parse", "(Ljava/lang/String;)Lcom/example/tideline/tideline/model/TableName;"⟩ : MethodName) prog_53_method_2_code 2 (some (.object "com/example/tideline/tideline/model/TableName")) :: ws) ({ frames := 6, cells := 5, slots := 14, locals := 96 } : Room)) (fun a U => a = #[(.ref aa)] ∧ Z.Warmed39 U.vm ∧ U.heap = h0) (fun _ _ _ _ _ => True) (fun _ U o U' => ∃ v L, o = .returned v ∧ Q7d1 Z aa cs vf ab kb ee0 ee1 ee2 ee3 ee4 h0 n0 v U'.heap L ∧ FrameEnd U o U' L ({ frames := 6, cells := 5, slots := 14, locals := 96 } : Room).cells ({ frames := 6, cells := 5, slots := 14, locals := 96 } : Room).slots) := by
  refine MetFree.of_bodySF (plainFor_of_name own_pn237) hisR ?_
  intro p e s m args below meth c s₁ Bd hml0 hP hK
  have H := fun i c (h : tables_1[i]? = some c) => hw c (List.mem_of_getElem? h)
  obtain ⟨rfl, hZ, hh⟩ := hP
  have hx := Bd.exec
  have hby := Bd.bytes
  have hml : c.maxLocals = 2 := hml0
  have hown : s.vm.findClass "com/example/tideline/tideline/model/TableName" = some m.cls := findClass_of_methodNamed Bd.named
  have hnm := (name_of_methodNamed Bd.named Bd.method).1
  have X0 : Stand p l e ({ frames := 6, cells := 5, slots := 14, locals := 96 } : Room) s m #[(.ref aa)] below meth c s₁ [] 0 0 := Stand.of_body Bd
  have e0 : s₁.heap = h0 := by rw [← hh, Bd.state]; rfl
  have N0 := Fr.nil n0
  have pre0 : ∀ t, Sp p e below m s₁ 0 #[.val (.ref aa), .unset] [] t → Steps p.tables e below (s₁.setTop (entryFrame m #[(.ref aa)] 2)) t := fun t k => castTop (ef_7d1 m aa) k
  generalize s₁.setTop (entryFrame m #[(.ref aa)] 2) = G0 at pre0 ⊢
  obtain ⟨cq459, kq459, q459a, q459b, q459c⟩ := isOf hZ e0 Ea
  obtain ⟨_, _, ⟨T459, L459, k459, n459⟩, -, X459, ⟨Lc459, hQ459, l459, y459, z459⟩, st459⟩ := X0.virtualBack hx (y := (⟨"java/lang/String", "indexOf", "(I)I"⟩ : MethodName)) (z := (⟨"java/lang/String", "indexOf", "(I)I"⟩ : MethodName)) hown (mvT hZ (H 36 _ rfl)) (mvT hZ (H 37 _ rfl)) (notFace_of_selects (args := #[]) (mvT hZ (H 39 _ rfl))) (mvT hZ (H 39 _ rfl)) (mvT hZ (H 38 _ rfl)) (by decide) (backOf (W := 0) (rm8n5 l Z a0 hw [] aa cs vf ab kb ee0 ee1 ee2 ee3 ee4 h0 n0 Z0 O0 Scs hcs Ssf hvf Ea Fv Fc Va) hZ (H 40 _ rfl) (H 5 _ rfl) (by decide) (by decide)) q459a q459c (g := (mkF m 3 #[.val (.ref aa), .unset] [(.int (46 : Int32)), (.ref aa)])) rfl (by rw [hml]; rfl) (Steps.refl _) (argsL := [(.int (46 : Int32))]) (rest := []) (lenOf own_pd363 rfl) rfl (Nat.le_of_eq rfl) (hb hby d7_3) (fun _ _ => ⟨rfl, e0, (by decide : 0 + 0 ≤ _), (by decide : 0 + 0 ≤ _)⟩)
  dsimp only [Pt.U, Pt.locs, Pt.cells, Pt.slots] at X459 l459 y459 z459 st459 hQ459
  rw [l459, y459, z459] at X459
  clear l459 y459 z459
  obtain ⟨rfl, Nq459, e459⟩ := hQ459
  have N459 := Fr.app N0 Nq459
  have pre460 : ∀ t, Sp p e below m T459 6 #[.val (.ref aa), .unset] [(.int (own_find5 ee0 ee1 ee2 ee3 ee4))] t → Steps p.tables e below G0 t := by
    intro t k
    refine pre0 t ?_
    show Sp p e below m s₁ 0 #[.val (.ref aa), .unset] [] _
    refine XS.aloadN X0.here hx rfl (hb hby d7_0) rfl rfl ?_
    refine XS.bipush X0.here hx rfl (hb hby d7_1) ?_
    show Sp p e below m s₁ 3 #[.val (.ref aa), .unset] [(.int (46 : Int32)), (.ref aa)] _
    refine st459.trans ?_
    exact k
  rw [show (own_find5 ee0 ee1 ee2 ee3 ee4) = (1 : Int32) from hfind] at pre460
  obtain ⟨cq461, kq461, q461a, q461b, q461c⟩ := isOf hZ e459 Ea
  obtain ⟨_, _, ⟨T461, L461, k461, n461⟩, -, X461, ⟨Lc461, hQ461, l461, y461, z461⟩, st461⟩ := X459.virtualBack hx (y := (⟨"java/lang/String", "length", "()I"⟩ : MethodName)) (z := (⟨"java/lang/String", "length", "()I"⟩ : MethodName)) hown (mvT hZ (H 78 _ rfl)) (mvT hZ (H 52 _ rfl)) (notFace_of_selects (args := #[]) (mvT hZ (H 54 _ rfl))) (mvT hZ (H 54 _ rfl)) (mvT hZ (H 53 _ rfl)) (by decide) (backOf (W := 1) (rm11 l Z a0 hw [] aa cs vf ab kb (5 : Int32) [(.int ee0), (.int ee1), (.int ee2), (.int ee3), (.int ee4)] h0 n0 Z0 O0 Scs hcs Ssf hvf Ea Fv Fc Va) hZ (H 55 _ rfl) (H 5 _ rfl) (by decide) (by decide)) q461a q461c (g := (mkF m 13 #[.val (.ref aa), .val (.int (1 : Int32))] [(.ref aa), (.int (1 : Int32))])) rfl (by rw [hml]; rfl) (Steps.refl _) (argsL := []) (rest := [(.int (1 : Int32))]) (lenOf own_pd214 rfl) rfl (Nat.le_of_eq rfl) (hb hby d7_13) (fun _ _ => ⟨rfl, e459, (by decide : 0 + 0 ≤ _), (by decide : 0 + 0 ≤ _)⟩)
  dsimp only [Pt.U, Pt.locs, Pt.cells, Pt.slots] at X461 l461 y461 z461 st461 hQ461
  rw [l461, y461, z461] at X461
  clear l461 y461 z461
  obtain ⟨rfl, Nq461, e461⟩ := hQ461
  have N461 := Fr.app N459 Nq461
  obtain ⟨T462, h462, X462, e462, E462, A462, D462, -, st462⟩ := newO X461 hx hZ hown (H 79 _ rfl) (H 80 _ rfl) (H 34 _ rfl) e461 (g := (mkF m 35 #[.val (.ref aa), .val (.int (1 : Int32))] [])) rfl (hb hby d7_35) (by decide) (by decide)
  obtain ⟨b462, g462⟩ : ∃ z, z = h0.size := ⟨_, rfl⟩
  rw [← g462] at A462 D462 st462
  have g_b462 : n0 ≤ b462 := Nat.le_trans Z0 (Nat.le_of_eq g462.symm)
  have sz_b462 : h0.size ≤ b462 := Nat.le_of_eq g462.symm
  have lt_aa_b462 : aa < b462 := Nat.lt_of_lt_of_le Ea.lt (Nat.le_of_eq g462.symm)
  have ne_aa_b462 : aa ≠ b462 := Nat.ne_of_lt lt_aa_b462
  have lt_ab_b462 : ab < b462 := Nat.lt_of_lt_of_le Va.lt (Nat.le_of_eq g462.symm)
  have ne_ab_b462 : ab ≠ b462 := Nat.ne_of_lt lt_ab_b462
  have Zs462 : n0 ≤ h462.size := Nat.le_trans Z0 E462.1
  have KK462 : Keep h0 h462 [] := (Keep.refl h0 _).ext E462
  have O462 := O0.ext E462
  have f463 := (Scs.ext O0.2).ext E462
  have f464 := (Ssf.ext O0.2).ext E462
  have f465 := Ea.ext E462
  have f466 := Fv.ext E462
  have f467 := Fc.ext E462
  have f468 := Va.ext E462
  have f469 : Fld Z h462 b462 "com/example/tideline/tideline/model/TableName" "schema" "Ljava/lang/String;" .null := D462 (Or.inr (H 132 _ rfl)) (ty := (.object "java/lang/String")) (by decide)
  have f470 : Fld Z h462 b462 "com/example/tideline/tideline/model/TableName" "table" "Ljava/lang/String;" .null := D462 (Or.inr (H 134 _ rfl)) (ty := (.object "java/lang/String")) (by decide)
  obtain ⟨cq471, kq471, q471a, q471b, q471c⟩ := isOf hZ e462 f465
  obtain ⟨_, _, ⟨T471, L471, k471, n471⟩, -, X471, ⟨Lc471, hQ471, l471, y471, z471⟩, st471⟩ := X462.virtualBack hx (y := (⟨"java/lang/String", "substring", "(II)Ljava/lang/String;"⟩ : MethodName)) (z := (⟨"java/lang/String", "substring", "(II)Ljava/lang/String;"⟩ : MethodName)) hown (mvT hZ (H 81 _ rfl)) (mvT hZ (H 82 _ rfl)) (notFace_of_selects (args := #[]) (mvT hZ (H 84 _ rfl))) (mvT hZ (H 84 _ rfl)) (mvT hZ (H 83 _ rfl)) (by decide) (backOf (W := 2) (rm18n5b0e1 l Z a0 hw [] aa cs vf ab kb ee0 ee1 ee2 ee3 ee4 h462 n0 Zs462 O462 Scs hcs Ssf hvf f465 f466 f467 f468) hZ (H 85 _ rfl) (H 5 _ rfl) (by decide) (by decide)) q471a q471c (g := (mkF m 42 #[.val (.ref aa), .val (.int (1 : Int32))] [(.int (1 : Int32)), (.int (0 : Int32)), (.ref aa), (.ref b462), (.ref b462)])) rfl (by rw [hml]; rfl) (Steps.refl _) (argsL := [(.int (0 : Int32)), (.int (1 : Int32))]) (rest := [(.ref b462), (.ref b462)]) (lenOf own_pd358 rfl) rfl (Nat.le_of_eq rfl) (hb hby d7_42) (fun _ _ => ⟨rfl, e462, (by decide : 1 + 2 ≤ _), (by decide : 2 + 5 ≤ _)⟩)
  dsimp only [Pt.U, Pt.locs, Pt.cells, Pt.slots] at X471 l471 y471 z471 st471 hQ471
  rw [l471, y471, z471] at X471
  clear l471 y471 z471
  obtain ⟨rso_471, rrb_471, rrk_471, rfl, Nq471, K471, p471_0, p471_1, p471_2, p471_3, p471_4, p471_5, p471_6, p471_7⟩ := hQ471
  have N471 := Fr.app N461 Nq471
  have Zs471 : n0 ≤ T471.heap.size := Nat.le_trans Zs462 K471.1
  have KK471 : Keep h0 T471.heap [] := KK462.trans K471 all0
  have ne_aa_rso_471 : aa ≠ rso_471 := Nat.ne_of_lt (Nat.lt_of_lt_of_le f465.lt p471_5)
  have ne_ab_rso_471 : ab ≠ rso_471 := Nat.ne_of_lt (Nat.lt_of_lt_of_le f468.lt p471_5)
  have ne_b462_rso_471 : b462 ≠ rso_471 := Nat.ne_of_lt (Nat.lt_of_lt_of_le A462.lt p471_5)
  have sz_rso_471 : h0.size ≤ rso_471 := Nat.le_trans KK462.1 p471_5
  have ne_aa_rrb_471 : aa ≠ rrb_471 := Nat.ne_of_lt (Nat.lt_of_lt_of_le f465.lt p471_7)
  have ne_ab_rrb_471 : ab ≠ rrb_471 := Nat.ne_of_lt (Nat.lt_of_lt_of_le f468.lt p471_7)
  have ne_b462_rrb_471 : b462 ≠ rrb_471 := Nat.ne_of_lt (Nat.lt_of_lt_of_le A462.lt p471_7)
  have sz_rrb_471 : h0.size ≤ rrb_471 := Nat.le_trans KK462.1 p471_7
  have O471 := O462.keep K471 (all0)
  have f472 := Scs.ext O471.2
  have f473 := Ssf.ext O471.2
  have f474 := f465.keep K471
  have f475 := f466.keep K471 nin0
  have f476 := f467.keep K471 nin0
  have f477 := f468.keep K471 nin0
  have f478 := A462.keep K471
  have f479 := f469.keep K471 nin0
  have f480 := f470.keep K471 nin0
  have g_rso_471 := p471_4
  have g_rrb_471 := p471_6
  obtain ⟨cq481, kq481, q481a, q481b, q481c⟩ := isOf hZ rfl f474
  obtain ⟨_, _, ⟨T481, L481, k481, n481⟩, -, X481, ⟨Lc481, hQ481, l481, y481, z481⟩, st481⟩ := X471.virtualBack hx (y := (⟨"java/lang/String", "substring", "(I)Ljava/lang/String;"⟩ : MethodName)) (z := (⟨"java/lang/String", "substring", "(I)Ljava/lang/String;"⟩ : MethodName)) hown (mvT hZ (H 116 _ rfl)) (mvT hZ (H 117 _ rfl)) (notFace_of_selects (args := #[]) (mvT hZ (H 119 _ rfl))) (mvT hZ (H 119 _ rfl)) (mvT hZ (H 118 _ rfl)) (by decide) (backOf (W := 3) (rm26n5b2e5 l Z a0 hw [] aa cs vf ab kb ee0 ee1 ee2 ee3 ee4 T471.heap n0 Zs471 O471 Scs hcs Ssf hvf f474 f475 f476 f477) hZ (H 120 _ rfl) (H 5 _ rfl) (by decide) (by decide)) q481a q481c (g := (mkF m 49 #[.val (.ref aa), .val (.int (1 : Int32))] [(.int (2 : Int32)), (.ref aa), (.ref rso_471), (.ref b462), (.ref b462)])) rfl (by rw [hml]; rfl) (Steps.refl _) (argsL := [(.int (2 : Int32))]) (rest := [(.ref rso_471), (.ref b462), (.ref b462)]) (lenOf own_pd384 rfl) rfl (Nat.le_of_eq rfl) (hb hby d7_49) (fun _ _ => ⟨rfl, rfl, (by decide : 3 + 2 ≤ _), (by decide : 7 + 7 ≤ _)⟩)
  dsimp only [Pt.U, Pt.locs, Pt.cells, Pt.slots] at X481 l481 y481 z481 st481 hQ481
  rw [l481, y481, z481] at X481
  clear l481 y481 z481
  obtain ⟨rso_481, rrb_481, rrk_481, rfl, Nq481, K481, p481_0, p481_1, p481_2, p481_3, p481_4, p481_5, p481_6, p481_7⟩ := hQ481
  have N481 := Fr.app N471 Nq481
  have Zs481 : n0 ≤ T481.heap.size := Nat.le_trans Zs471 K481.1
  have KK481 : Keep h0 T481.heap [] := KK471.trans K481 all0
  have ne_aa_rso_481 : aa ≠ rso_481 := Nat.ne_of_lt (Nat.lt_of_lt_of_le f474.lt p481_5)
  have ne_ab_rso_481 : ab ≠ rso_481 := Nat.ne_of_lt (Nat.lt_of_lt_of_le f477.lt p481_5)
  have ne_b462_rso_481 : b462 ≠ rso_481 := Nat.ne_of_lt (Nat.lt_of_lt_of_le f478.lt p481_5)
  have ne_rso_471_rso_481 : rso_471 ≠ rso_481 := Nat.ne_of_lt (Nat.lt_of_lt_of_le p471_0.lt p481_5)
  have ne_rrb_471_rso_481 : rrb_471 ≠ rso_481 := Nat.ne_of_lt (Nat.lt_of_lt_of_le p471_3.lt p481_5)
  have sz_rso_481 : h0.size ≤ rso_481 := Nat.le_trans KK471.1 p481_5
  have ne_aa_rrb_481 : aa ≠ rrb_481 := Nat.ne_of_lt (Nat.lt_of_lt_of_le f474.lt p481_7)
  have ne_ab_rrb_481 : ab ≠ rrb_481 := Nat.ne_of_lt (Nat.lt_of_lt_of_le f477.lt p481_7)
  have ne_b462_rrb_481 : b462 ≠ rrb_481 := Nat.ne_of_lt (Nat.lt_of_lt_of_le f478.lt p481_7)
  have ne_rso_471_rrb_481 : rso_471 ≠ rrb_481 := Nat.ne_of_lt (Nat.lt_of_lt_of_le p471_0.lt p481_7)
  have ne_rrb_471_rrb_481 : rrb_471 ≠ rrb_481 := Nat.ne_of_lt (Nat.lt_of_lt_of_le p471_3.lt p481_7)
  have sz_rrb_481 : h0.size ≤ rrb_481 := Nat.le_trans KK471.1 p481_7
  have O481 := O471.keep K481 (all0)
  have f482 := Scs.ext O481.2
  have f483 := Ssf.ext O481.2
  have f484 := f474.keep K481
  have f485 := f475.keep K481 nin0
  have f486 := f476.keep K481 nin0
  have f487 := f477.keep K481 nin0
  have f488 := f478.keep K481
  have f489 := f479.keep K481 nin0
  have f490 := f480.keep K481 nin0
  have f491 := p471_0.keep K481
  have f492 := p471_1.keep K481 nin0
  have f493 := p471_2.keep K481 nin0
  have f494 := p471_3.keep K481 nin0
  have g_rso_481 := p481_4
  have g_rrb_481 := p481_6
  obtain ⟨_, _, ⟨T495, L495, k495, n495⟩, -, X495, ⟨Lc495, hQ495, l495, y495, z495⟩, st495⟩ := X481.specialBack hx (y := (⟨"com/example/tideline/tideline/model/TableName", "<init>", "(Ljava/lang/String;Ljava/lang/String;)V"⟩ : MethodName)) rfl hown (mvT hZ (H 122 _ rfl)) (mvT hZ (H 123 _ rfl)) (mvT hZ (H 124 _ rfl)) (by decide) (backOf (W := 1) (rm27 l Z a0 hw [] b462 rso_471 rso_481  T481.heap n0 Zs481 f488 f489 f490 g_b462) hZ (H 124 _ rfl) (H 34 _ rfl) (by decide) (by decide)) (g := (mkF m 52 #[.val (.ref aa), .val (.int (1 : Int32))] [(.ref rso_481), (.ref rso_471), (.ref b462), (.ref b462)])) rfl (by rw [hml]; rfl) (Steps.refl _) (a := b462) (argsL := [(.ref rso_471), (.ref rso_481)]) (rest := [(.ref b462)]) (lenOf own_pd386 rfl) rfl (Nat.le_of_eq rfl) (hb hby d7_52) (fun _ _ => ⟨rfl, rfl, (by decide : 5 + 0 ≤ _), (by decide : 14 + 0 ≤ _)⟩)
  dsimp only [Pt.U, Pt.locs, Pt.cells, Pt.slots] at X495 l495 y495 z495 st495 hQ495
  rw [l495, y495, z495] at X495
  clear l495 y495 z495
  obtain ⟨rfl, Nq495, K495, p495_0, p495_1, p495_2⟩ := hQ495
  have N495 := Fr.app N481 Nq495
  have Zs495 : n0 ≤ T495.heap.size := Nat.le_trans Zs481 K495.1
  have KK495 : Keep h0 T495.heap [] := KK481.trans K495 (allS (Or.inr sz_b462) all0)
  have O495 := O481.keep K495 (allS g_b462 all0)
  have f496 := Scs.ext O495.2
  have f497 := Ssf.ext O495.2
  have f498 := f484.keep K495
  have f499 := f485.keep K495 (ninS ne_aa_b462 nin0)
  have f500 := f486.keep K495 (ninS ne_aa_b462 nin0)
  have f501 := f487.keep K495 (ninS ne_ab_b462 nin0)
  have f502 := f488.keep K495
  have f503 := f491.keep K495
  have f504 := f492.keep K495 (ninS (Ne.symm ne_b462_rso_471) nin0)
  have f505 := f493.keep K495 (ninS (Ne.symm ne_b462_rso_471) nin0)
  have f506 := f494.keep K495 (ninS (Ne.symm ne_b462_rrb_471) nin0)
  have f507 := p481_0.keep K495
  have f508 := p481_1.keep K495 (ninS (Ne.symm ne_b462_rso_481) nin0)
  have f509 := p481_2.keep K495 (ninS (Ne.symm ne_b462_rso_481) nin0)
  have f510 := p481_3.keep K495 (ninS (Ne.symm ne_b462_rrb_481) nin0)
  obtain ⟨fs, hr, hrun, hended, hW, hsame⟩ := X495.leave (v := some (.ref b462)) (fun h => by rw [Bd.returns] at h; cases h)
  refine ⟨_, _, pre460 _ ?_, hrun, hended, _, _, rfl, ?_, ⟨_, rfl⟩, hW, hsame.mono (by decide) (by decide)⟩
  · show Sp p e below m T459 6 #[.val (.ref aa), .unset] [(.int (1 : Int32))] _
    refine XS.istoreN X459.here hx rfl (hb hby d7_6) rfl (l' := #[.val (.ref aa), .val (.int (1 : Int32))]) rfl ?_
    show Sp p e below m T459 7 #[.val (.ref aa), .val (.int (1 : Int32))] [] _
    refine XS.iloadN X459.here hx rfl (hb hby d7_7) rfl ?_
    refine XS.ifNo X459.here hx rfl (hb hby d7_8) rfl ((if0 _ _).trans (tlt (by decide : ((0 : Int32) < (1 : Int32)))).2.2.2) ?_
    show Sp p e below m T459 11 #[.val (.ref aa), .val (.int (1 : Int32))] [] _
    refine XS.iloadN X459.here hx rfl (hb hby d7_11) rfl ?_
    refine XS.aloadN X459.here hx rfl (hb hby d7_12) rfl rfl ?_
    show Sp p e below m T459 13 #[.val (.ref aa), .val (.int (1 : Int32))] [(.ref aa), (.int (1 : Int32))] _
    refine st461.trans ?_
    show Sp p e below m T461 16 #[.val (.ref aa), .val (.int (1 : Int32))] [(.int (5 : Int32)), (.int (1 : Int32))] _
    refine XS.iconst X461.here hx rfl (hb hby d7_16) ?_
    refine XS.isub X461.here hx rfl (hb hby d7_17) rfl ?_
    show Sp p e below m T461 18 #[.val (.ref aa), .val (.int (1 : Int32))] [(.int (4 : Int32)), (.int (1 : Int32))] _
    refine XS.icmpYes X461.here hx rfl (pc0 := 18) (pc' := 35) rfl (hb hby d7_18) rfl (feq (by decide : ¬ ((1 : Int32) = (4 : Int32)))).2 (by decide) (by decide) ?_
    show Sp p e below m T461 35 #[.val (.ref aa), .val (.int (1 : Int32))] [] _
    refine st462 _ ?_
    show Sp p e below m T462 38 #[.val (.ref aa), .val (.int (1 : Int32))] [(.ref b462)] _
    refine XS.dup X462.here hx rfl (hb hby d7_38) rfl rfl ?_
    refine XS.aloadN X462.here hx rfl (hb hby d7_39) rfl rfl ?_
    show Sp p e below m T462 40 #[.val (.ref aa), .val (.int (1 : Int32))] [(.ref aa), (.ref b462), (.ref b462)] _
    refine XS.iconst X462.here hx rfl (hb hby d7_40) ?_
    refine XS.iloadN X462.here hx rfl (hb hby d7_41) rfl ?_
    show Sp p e below m T462 42 #[.val (.ref aa), .val (.int (1 : Int32))] [(.int (1 : Int32)), (.int (0 : Int32)), (.ref aa), (.ref b462), (.ref b462)] _
    refine st471.trans ?_
    show Sp p e below m T471 45 #[.val (.ref aa), .val (.int (1 : Int32))] [(.ref rso_471), (.ref b462), (.ref b462)] _
    refine XS.aloadN X471.here hx rfl (hb hby d7_45) rfl rfl ?_
    refine XS.iloadN X471.here hx rfl (hb hby d7_46) rfl ?_
    show Sp p e below m T471 47 #[.val (.ref aa), .val (.int (1 : Int32))] [(.int (1 : Int32)), (.ref aa), (.ref rso_471), (.ref b462), (.ref b462)] _
    refine XS.iconst X471.here hx rfl (hb hby d7_47) ?_
    refine XS.iadd X471.here hx rfl (hb hby d7_48) rfl ?_
    show Sp p e below m T471 49 #[.val (.ref aa), .val (.int (1 : Int32))] [(.int (2 : Int32)), (.ref aa), (.ref rso_471), (.ref b462), (.ref b462)] _
    refine st481.trans ?_
    show Sp p e below m T481 52 #[.val (.ref aa), .val (.int (1 : Int32))] [(.ref rso_481), (.ref rso_471), (.ref b462), (.ref b462)] _
    refine st495.trans ?_
    show Sp p e below m T495 55 #[.val (.ref aa), .val (.int (1 : Int32))] [(.ref b462)] _
    jvm_step X495.here [X495.here.top, hx, (hb hby d7_55), X495.method', Bd.returns, Value.isRef, FieldType.isReference]
    first | (intro acts; rw [hr _ acts rfl rfl rfl]) | rw [hr _ _ rfl rfl rfl]
    exact Steps.refl _
  · show Q7d1 Z aa cs vf ab kb ee0 ee1 ee2 ee3 ee4 h0 n0 _ T495.heap _
    exact ⟨b462, rso_471, rrb_471, rrk_471, rso_481, rrb_481, rrk_481, rfl, N495, KK495, p495_0, p495_1, p495_2, f503, f504, f505, f506, f507, f508, f509, f510⟩
theorem ef_23n5b0e2 (m : MethodId) (x0 : Addr) : entryFrame m #[(.ref x0), (.int (0 : Int32)), (.int (2 : Int32))] 5 = mkF m 0 #[.val (.ref x0), .val (.int (0 : Int32)), .val (.int (2 : Int32)), .unset, .unset] [] := by first | (simp [entryFrame, mkF, argsToLocals, Value.category]; done) | rfl
def Q23n5b0e2 (Z : State) (ab : Addr) (kb : ClassId) (ee0 : Int32) (ee1 : Int32) (ee2 : Int32) (ee3 : Int32) (ee4 : Int32) (h0 : Heap) (n0 : Nat) (v : Option Value) (h : Heap) (L : List Loc) : Prop := ∃ (rb : Addr) (rk : ClassId), v = some (.ref rb) ∧ Fr n0 L ∧ Keep h0 h [] ∧ Arv Z h rb rk .byte (2 : Int32) [(.int ee0), (.int ee1)] (.int (0 : Int32)) ∧ n0 ≤ rb ∧ h0.size ≤ rb
set_option maxRecDepth 65536 in
set_option maxHeartbeats 40000000 in
theorem rm23n5b0e2 (l : Launch) (Z : State) (a0 : Array Value) (hw : ∀ d ∈ tables_1, d.before a0 Z = true) (ws : List Jvm.Cond) (ab : Addr) (kb : ClassId) (ee0 : Int32) (ee1 : Int32) (ee2 : Int32) (ee3 : Int32) (ee4 : Int32) (h0 : Heap) (n0 : Nat) (Z0 : n0 ≤ h0.size) (Va : Arv Z h0 ab kb .byte (5 : Int32) [(.int ee0), (.int ee1), (.int ee2), (.int ee3), (.int ee4)] (.int (0 : Int32))) :
    MetFree l (⟨"java/util/Arrays", "copyOfRangeByte", "([BII)[B"⟩ : MethodName) (head1 (Jvm.Cond.code (⟨"java/util/Arrays", "copyOfRangeByte", "([BII)[B"⟩ : MethodName) jdk_65_method_133_code 5 (some (.array .byte)) :: ws) ({ frames := 1, cells := 1, slots := 2, locals := 18 } : Room)) (fun a U => a = #[(.ref ab), (.int (0 : Int32)), (.int (2 : Int32))] ∧ Z.Warmed39 U.vm ∧ U.heap = h0) (fun _ _ _ _ _ => True) (fun _ U o U' => ∃ v L, o = .returned v ∧ Q23n5b0e2 Z ab kb ee0 ee1 ee2 ee3 ee4 h0 n0 v U'.heap L ∧ FrameEnd U o U' L ({ frames := 1, cells := 1, slots := 2, locals := 18 } : Room).cells ({ frames := 1, cells := 1, slots := 2, locals := 18 } : Room).slots) := by
  refine MetFree.of_bodySF (plainFor_of_name own_pn248) hisR ?_
  intro p e s m args below meth c s₁ Bd hml0 hP hK
  have H := fun i c (h : tables_1[i]? = some c) => hw c (List.mem_of_getElem? h)
  obtain ⟨rfl, hZ, hh⟩ := hP
  have hx := Bd.exec
  have hby := Bd.bytes
  have hml : c.maxLocals = 5 := hml0
  have hown : s.vm.findClass "java/util/Arrays" = some m.cls := findClass_of_methodNamed Bd.named
  have hnm := (name_of_methodNamed Bd.named Bd.method).1
  have X0 : Stand p l e ({ frames := 1, cells := 1, slots := 2, locals := 18 } : Room) s m #[(.ref ab), (.int (0 : Int32)), (.int (2 : Int32))] below meth c s₁ [] 0 0 := Stand.of_body Bd
  have e0 : s₁.heap = h0 := by rw [← hh, Bd.state]; rfl
  have N0 := Fr.nil n0
  have pre0 : ∀ t, Sp p e below m s₁ 0 #[.val (.ref ab), .val (.int (0 : Int32)), .val (.int (2 : Int32)), .unset, .unset] [] t → Steps p.tables e below (s₁.setTop (entryFrame m #[(.ref ab), (.int (0 : Int32)), (.int (2 : Int32))] 5)) t := fun t k => castTop (ef_23n5b0e2 m ab) k
  generalize s₁.setTop (entryFrame m #[(.ref ab), (.int (0 : Int32)), (.int (2 : Int32))] 5) = G0 at pre0 ⊢
  obtain ⟨_, _, ⟨T519, L519, k519, n519⟩, -, X519, ⟨Lc519, hQ519, l519, y519, z519⟩, st519⟩ := Jvm.LawKit.callS X0 hx (y := (⟨"java/util/Arrays", "checkLength", "(II)V"⟩ : MethodName)) hown (mvT hZ (H 105 _ rfl)) (mvT hZ (H 106 _ rfl)) (mvT hZ (H 100 _ rfl)) (mvT hZ (H 107 _ rfl)) (by decide) (backOf (W := 0) (rm24 l Z a0 hw [] (0 : Int32) (2 : Int32)  h0 n0 Z0 (by decide)) hZ (H 107 _ rfl) (H 100 _ rfl) (by decide) (by decide)) (g := (mkF m 2 #[.val (.ref ab), .val (.int (0 : Int32)), .val (.int (2 : Int32)), .unset, .unset] [(.int (2 : Int32)), (.int (0 : Int32))])) rfl (by rw [hml]; rfl) (argsL := [(.int (0 : Int32)), (.int (2 : Int32))]) (rest := []) (lenOf own_pd121 rfl) rfl (Nat.le_of_eq rfl) (hb hby d23_2) (fun _ _ => ⟨rfl, e0, (by decide : 0 + 0 ≤ _), (by decide : 0 + 0 ≤ _)⟩)
  dsimp only [Pt.U, Pt.locs, Pt.cells, Pt.slots] at X519 l519 y519 z519 st519 hQ519
  rw [l519, y519, z519] at X519
  clear l519 y519 z519
  obtain ⟨rfl, Nq519, e519⟩ := hQ519
  have N519 := Fr.app N0 Nq519
  obtain ⟨T520, h520, k520, X520, e520, E520, A520, st520⟩ := newP X519 hx hZ (H 21 _ rfl) e519 (g := (mkF m 10 #[.val (.ref ab), .val (.int (0 : Int32)), .val (.int (2 : Int32)), .val (.int (2 : Int32)), .unset] [(.int (2 : Int32))])) rfl (hb hby d23_10) rfl (by decide) (cap := 2) (by decide) (by decide) (by decide) (by decide)
  obtain ⟨b520, g520⟩ : ∃ z, z = h0.size := ⟨_, rfl⟩
  rw [← g520] at A520 st520
  have g_b520 : n0 ≤ b520 := Nat.le_trans Z0 (Nat.le_of_eq g520.symm)
  have sz_b520 : h0.size ≤ b520 := Nat.le_of_eq g520.symm
  have lt_ab_b520 : ab < b520 := Nat.lt_of_lt_of_le Va.lt (Nat.le_of_eq g520.symm)
  have ne_ab_b520 : ab ≠ b520 := Nat.ne_of_lt lt_ab_b520
  have Zs520 : n0 ≤ h520.size := Nat.le_trans Z0 E520.1
  have KK520 : Keep h0 h520 [] := (Keep.refl h0 _).ext E520
  have f521 := Va.ext E520
  have V520 : Arv Z h520 b520 k520 .byte (2 : Int32) [(.int (0 : Int32)), (.int (0 : Int32))] (.int (0 : Int32)) := (Arv.new A520 (by decide)).pad (pad_rep [] (.int (0 : Int32)) 2)
  obtain ⟨cl522, Ar522, -, S522, M522, -, -⟩ := id f521
  obtain ⟨_, _, ⟨T523, L523, k523, n523⟩, -, X523, ⟨Lc523, hQ523, l523, y523, z523⟩, st523⟩ := Jvm.LawKit.callS X520 hx (y := (⟨"java/lang/Math", "min", "(II)I"⟩ : MethodName)) hown (mvT hZ (H 108 _ rfl)) (mvT hZ (H 73 _ rfl)) (mvT hZ (H 70 _ rfl)) (mvT hZ (H 74 _ rfl)) (by decide) (backOf (W := 4) (rm16 l Z a0 hw [] (5 : Int32) (2 : Int32)  h520 n0 Zs520 ) hZ (H 74 _ rfl) (H 70 _ rfl) (by decide) (by decide)) (g := (mkF m 24 #[.val (.ref ab), .val (.int (0 : Int32)), .val (.int (2 : Int32)), .val (.int (2 : Int32)), .val (.ref b520)] [(.int (2 : Int32)), (.int (5 : Int32)), (.int (0 : Int32)), (.ref b520), (.int (0 : Int32)), (.ref ab)])) rfl (by rw [hml]; rfl) (argsL := [(.int (5 : Int32)), (.int (2 : Int32))]) (rest := [(.int (0 : Int32)), (.ref b520), (.int (0 : Int32)), (.ref ab)]) (lenOf own_pd188 rfl) rfl (Nat.le_of_eq rfl) (hb hby d23_24) (fun _ _ => ⟨rfl, e520, (by decide : 1 + 0 ≤ _), (by decide : 2 + 0 ≤ _)⟩)
  dsimp only [Pt.U, Pt.locs, Pt.cells, Pt.slots] at X523 l523 y523 z523 st523 hQ523
  rw [l523, y523, z523] at X523
  clear l523 y523 z523
  obtain ⟨rfl, Nq523, e523⟩ := hQ523
  have N523 := Fr.app N519 Nq523
  have pre524 : ∀ t, Sp p e below m T523 27 #[.val (.ref ab), .val (.int (0 : Int32)), .val (.int (2 : Int32)), .val (.int (2 : Int32)), .val (.ref b520)] [(.int (if (2 : Int32) < (5 : Int32) then (2 : Int32) else (5 : Int32))), (.int (0 : Int32)), (.ref b520), (.int (0 : Int32)), (.ref ab)] t → Steps p.tables e below G0 t := by
    intro t k
    refine pre0 t ?_
    show Sp p e below m s₁ 0 #[.val (.ref ab), .val (.int (0 : Int32)), .val (.int (2 : Int32)), .unset, .unset] [] _
    refine XS.iloadN X0.here hx rfl (hb hby d23_0) rfl ?_
    refine XS.iloadN X0.here hx rfl (hb hby d23_1) rfl ?_
    show Sp p e below m s₁ 2 #[.val (.ref ab), .val (.int (0 : Int32)), .val (.int (2 : Int32)), .unset, .unset] [(.int (2 : Int32)), (.int (0 : Int32))] _
    refine st519 _ ?_
    show Sp p e below m T519 5 #[.val (.ref ab), .val (.int (0 : Int32)), .val (.int (2 : Int32)), .unset, .unset] [] _
    refine XS.iloadN X519.here hx rfl (hb hby d23_5) rfl ?_
    refine XS.iloadN X519.here hx rfl (hb hby d23_6) rfl ?_
    show Sp p e below m T519 7 #[.val (.ref ab), .val (.int (0 : Int32)), .val (.int (2 : Int32)), .unset, .unset] [(.int (0 : Int32)), (.int (2 : Int32))] _
    refine XS.isub X519.here hx rfl (hb hby d23_7) rfl ?_
    show Sp p e below m T519 8 #[.val (.ref ab), .val (.int (0 : Int32)), .val (.int (2 : Int32)), .unset, .unset] [(.int (2 : Int32))] _
    refine XS.istoreN X519.here hx rfl (hb hby d23_8) rfl (l' := #[.val (.ref ab), .val (.int (0 : Int32)), .val (.int (2 : Int32)), .val (.int (2 : Int32)), .unset]) rfl ?_
    show Sp p e below m T519 9 #[.val (.ref ab), .val (.int (0 : Int32)), .val (.int (2 : Int32)), .val (.int (2 : Int32)), .unset] [] _
    refine XS.iloadN X519.here hx rfl (hb hby d23_9) rfl ?_
    refine st520 _ ?_
    show Sp p e below m T520 12 #[.val (.ref ab), .val (.int (0 : Int32)), .val (.int (2 : Int32)), .val (.int (2 : Int32)), .unset] [(.ref b520)] _
    refine XS.astore X520.here hx rfl (hb hby d23_12) rfl rfl (l' := #[.val (.ref ab), .val (.int (0 : Int32)), .val (.int (2 : Int32)), .val (.int (2 : Int32)), .val (.ref b520)]) rfl ?_
    show Sp p e below m T520 14 #[.val (.ref ab), .val (.int (0 : Int32)), .val (.int (2 : Int32)), .val (.int (2 : Int32)), .val (.ref b520)] [] _
    refine XS.aloadN X520.here hx rfl (hb hby d23_14) rfl rfl ?_
    refine XS.iloadN X520.here hx rfl (hb hby d23_15) rfl ?_
    show Sp p e below m T520 16 #[.val (.ref ab), .val (.int (0 : Int32)), .val (.int (2 : Int32)), .val (.int (2 : Int32)), .val (.ref b520)] [(.int (0 : Int32)), (.ref ab)] _
    refine XS.aload X520.here hx rfl (hb hby d23_16) rfl rfl ?_
    refine XS.iconst X520.here hx rfl (hb hby d23_18) ?_
    show Sp p e below m T520 19 #[.val (.ref ab), .val (.int (0 : Int32)), .val (.int (2 : Int32)), .val (.int (2 : Int32)), .val (.ref b520)] [(.int (0 : Int32)), (.ref b520), (.int (0 : Int32)), (.ref ab)] _
    refine XS.aloadN X520.here hx rfl (hb hby d23_19) rfl rfl ?_
    refine X520.arraylength hx (by rw [e520]; exact Ar522.1) (State.isArrayOf_alike hZ.alike Ar522.2.1) (g := (mkF m 20 #[.val (.ref ab), .val (.int (0 : Int32)), .val (.int (2 : Int32)), .val (.int (2 : Int32)), .val (.ref b520)] [(.ref ab), (.int (0 : Int32)), (.ref b520), (.int (0 : Int32)), (.ref ab)])) rfl rfl (hb hby d23_20) _ ?_
    rw [len_of S522 M522]
    show Sp p e below m T520 21 #[.val (.ref ab), .val (.int (0 : Int32)), .val (.int (2 : Int32)), .val (.int (2 : Int32)), .val (.ref b520)] [(.int (5 : Int32)), (.int (0 : Int32)), (.ref b520), (.int (0 : Int32)), (.ref ab)] _
    refine XS.iloadN X520.here hx rfl (hb hby d23_21) rfl ?_
    refine XS.isub X520.here hx rfl (hb hby d23_22) rfl ?_
    show Sp p e below m T520 23 #[.val (.ref ab), .val (.int (0 : Int32)), .val (.int (2 : Int32)), .val (.int (2 : Int32)), .val (.ref b520)] [(.int (5 : Int32)), (.int (0 : Int32)), (.ref b520), (.int (0 : Int32)), (.ref ab)] _
    refine XS.iloadN X520.here hx rfl (hb hby d23_23) rfl ?_
    refine st523 _ ?_
    exact k
  rw [show (if (2 : Int32) < (5 : Int32) then (2 : Int32) else (5 : Int32)) = (2 : Int32) from by decide] at pre524
  obtain ⟨T525, h525, L525, X525, e525, N525, K525, Vc525, st525⟩ := cpA X523 hx hZ hown (H 109 _ rfl) (H 112 _ rfl) (H 110 _ rfl) (H 111 _ rfl) e523 f521 V520 (Or.inl ⟨rfl, rfl⟩) (by decide) (by decide) (by decide) (by decide) (by decide) rfl (Nat.le_of_ble_eq_true rfl) N523 g_b520 (g := (mkF m 27 #[.val (.ref ab), .val (.int (0 : Int32)), .val (.int (2 : Int32)), .val (.int (2 : Int32)), .val (.ref b520)] [(.int (2 : Int32)), (.int (0 : Int32)), (.ref b520), (.int (0 : Int32)), (.ref ab)])) rfl (by rw [hml]; rfl) rfl (hb hby d23_27) (by decide) (W := 0) (Nat.le_of_eq rfl) (by decide)
  have V525 : Arv Z h525 b520 k520 .byte (2 : Int32) [(.int ee0), (.int ee1)] (.int (0 : Int32)) := Vc525
  have Zs525 : n0 ≤ h525.size := Nat.le_trans Zs520 K525.1
  have KK525 : Keep h0 h525 [] := KK520.trans K525 (allS (Or.inr sz_b520) all0)
  have f526 := f521.keep K525 (ninS ne_ab_b520 nin0)
  obtain ⟨fs, hr, hrun, hended, hW, hsame⟩ := X525.leave (v := some (.ref b520)) (fun h => by rw [Bd.returns] at h; cases h)
  refine ⟨_, _, pre524 _ ?_, hrun, hended, _, _, rfl, ?_, ⟨_, rfl⟩, hW, hsame.mono (by decide) (by decide)⟩
  · show Sp p e below m T523 27 #[.val (.ref ab), .val (.int (0 : Int32)), .val (.int (2 : Int32)), .val (.int (2 : Int32)), .val (.ref b520)] [(.int (2 : Int32)), (.int (0 : Int32)), (.ref b520), (.int (0 : Int32)), (.ref ab)] _
    refine st525 _ ?_
    show Sp p e below m T525 30 #[.val (.ref ab), .val (.int (0 : Int32)), .val (.int (2 : Int32)), .val (.int (2 : Int32)), .val (.ref b520)] [] _
    refine XS.aload X525.here hx rfl (hb hby d23_30) rfl rfl ?_
    jvm_step X525.here [X525.here.top, hx, (hb hby d23_32), X525.method', Bd.returns, Value.isRef, FieldType.isReference]
    first | (intro acts; rw [hr _ acts rfl rfl rfl]) | rw [hr _ _ rfl rfl rfl]
    exact Steps.refl _
  · show Q23n5b0e2 Z ab kb ee0 ee1 ee2 ee3 ee4 h0 n0 _ T525.heap _
    rw [e525]
    exact ⟨b520, k520, rfl, N525, KK525, V525, g_b520, sz_b520⟩
theorem ef_22n5b0e2 (m : MethodId) (x0 : Addr) : entryFrame m #[(.ref x0), (.int (0 : Int32)), (.int (2 : Int32))] 3 = mkF m 0 #[.val (.ref x0), .val (.int (0 : Int32)), .val (.int (2 : Int32))] [] := by first | (simp [entryFrame, mkF, argsToLocals, Value.category]; done) | rfl
def Q22n5b0e2 (Z : State) (ab : Addr) (kb : ClassId) (ee0 : Int32) (ee1 : Int32) (ee2 : Int32) (ee3 : Int32) (ee4 : Int32) (h0 : Heap) (n0 : Nat) (v : Option Value) (h : Heap) (L : List Loc) : Prop := ∃ (rb : Addr) (rk : ClassId), v = some (.ref rb) ∧ Fr n0 L ∧ Keep h0 h [] ∧ Arv Z h rb rk .byte (2 : Int32) [(.int ee0), (.int ee1)] (.int (0 : Int32)) ∧ n0 ≤ rb ∧ h0.size ≤ rb
set_option maxRecDepth 65536 in
set_option maxHeartbeats 40000000 in
theorem rm22n5b0e2 (l : Launch) (Z : State) (a0 : Array Value) (hw : ∀ d ∈ tables_1, d.before a0 Z = true) (ws : List Jvm.Cond) (ab : Addr) (kb : ClassId) (ee0 : Int32) (ee1 : Int32) (ee2 : Int32) (ee3 : Int32) (ee4 : Int32) (h0 : Heap) (n0 : Nat) (Z0 : n0 ≤ h0.size) (Va : Arv Z h0 ab kb .byte (5 : Int32) [(.int ee0), (.int ee1), (.int ee2), (.int ee3), (.int ee4)] (.int (0 : Int32))) :
    MetFree l (⟨"java/util/Arrays", "copyOfRange", "([BII)[B"⟩ : MethodName) (head1 (Jvm.Cond.code (⟨"java/util/Arrays", "copyOfRange", "([BII)[B"⟩ : MethodName) jdk_65_method_132_code 3 (some (.array .byte)) :: ws) ({ frames := 2, cells := 1, slots := 2, locals := 34 } : Room)) (fun a U => a = #[(.ref ab), (.int (0 : Int32)), (.int (2 : Int32))] ∧ Z.Warmed39 U.vm ∧ U.heap = h0) (fun _ _ _ _ _ => True) (fun _ U o U' => ∃ v L, o = .returned v ∧ Q22n5b0e2 Z ab kb ee0 ee1 ee2 ee3 ee4 h0 n0 v U'.heap L ∧ FrameEnd U o U' L ({ frames := 2, cells := 1, slots := 2, locals := 34 } : Room).cells ({ frames := 2, cells := 1, slots := 2, locals := 34 } : Room).slots) := by
  refine MetFree.of_bodySF (plainFor_of_name own_pn248) hisR ?_
  intro p e s m args below meth c s₁ Bd hml0 hP hK
  have H := fun i c (h : tables_1[i]? = some c) => hw c (List.mem_of_getElem? h)
  obtain ⟨rfl, hZ, hh⟩ := hP
  have hx := Bd.exec
  have hby := Bd.bytes
  have hml : c.maxLocals = 3 := hml0
  have hown : s.vm.findClass "java/util/Arrays" = some m.cls := findClass_of_methodNamed Bd.named
  have hnm := (name_of_methodNamed Bd.named Bd.method).1
  have X0 : Stand p l e ({ frames := 2, cells := 1, slots := 2, locals := 34 } : Room) s m #[(.ref ab), (.int (0 : Int32)), (.int (2 : Int32))] below meth c s₁ [] 0 0 := Stand.of_body Bd
  have e0 : s₁.heap = h0 := by rw [← hh, Bd.state]; rfl
  have N0 := Fr.nil n0
  have pre0 : ∀ t, Sp p e below m s₁ 0 #[.val (.ref ab), .val (.int (0 : Int32)), .val (.int (2 : Int32))] [] t → Steps p.tables e below (s₁.setTop (entryFrame m #[(.ref ab), (.int (0 : Int32)), (.int (2 : Int32))] 3)) t := fun t k => castTop (ef_22n5b0e2 m ab) k
  generalize s₁.setTop (entryFrame m #[(.ref ab), (.int (0 : Int32)), (.int (2 : Int32))] 3) = G0 at pre0 ⊢
  obtain ⟨cl530, Ar530, -, S530, M530, -, -⟩ := id Va
  obtain ⟨_, _, ⟨T531, L531, k531, n531⟩, -, X531, ⟨Lc531, hQ531, l531, y531, z531⟩, st531⟩ := Jvm.LawKit.callS X0 hx (y := (⟨"java/util/Arrays", "copyOfRangeByte", "([BII)[B"⟩ : MethodName)) hown (mvT hZ (H 102 _ rfl)) (mvT hZ (H 103 _ rfl)) (mvT hZ (H 100 _ rfl)) (mvT hZ (H 104 _ rfl)) (by decide) (backOf (W := 0) (rm23n5b0e2 l Z a0 hw [] ab kb ee0 ee1 ee2 ee3 ee4 h0 n0 Z0 Va) hZ (H 104 _ rfl) (H 100 _ rfl) (by decide) (by decide)) (g := (mkF m 13 #[.val (.ref ab), .val (.int (0 : Int32)), .val (.int (2 : Int32))] [(.int (2 : Int32)), (.int (0 : Int32)), (.ref ab)])) rfl (by rw [hml]; rfl) (argsL := [(.ref ab), (.int (0 : Int32)), (.int (2 : Int32))]) (rest := []) (lenOf own_pd282 rfl) rfl (Nat.le_of_eq rfl) (hb hby d22_13) (fun _ _ => ⟨rfl, e0, (by decide : 0 + 1 ≤ _), (by decide : 0 + 2 ≤ _)⟩)
  dsimp only [Pt.U, Pt.locs, Pt.cells, Pt.slots] at X531 l531 y531 z531 st531 hQ531
  rw [l531, y531, z531] at X531
  clear l531 y531 z531
  obtain ⟨rrb_531, rrk_531, rfl, Nq531, K531, p531_0, p531_1, p531_2⟩ := hQ531
  have N531 := Fr.app N0 Nq531
  have Zs531 : n0 ≤ T531.heap.size := Nat.le_trans Z0 K531.1
  have KK531 : Keep h0 T531.heap [] := (Keep.refl h0 _).trans K531 all0
  have ne_ab_rrb_531 : ab ≠ rrb_531 := Nat.ne_of_lt (Nat.lt_of_lt_of_le Va.lt p531_2)
  have sz_rrb_531 : h0.size ≤ rrb_531 := p531_2
  have f532 := Va.keep K531 nin0
  have g_rrb_531 := p531_1
  obtain ⟨fs, hr, hrun, hended, hW, hsame⟩ := X531.leave (v := some (.ref rrb_531)) (fun h => by rw [Bd.returns] at h; cases h)
  refine ⟨_, _, pre0 _ ?_, hrun, hended, _, _, rfl, ?_, ⟨_, rfl⟩, hW, hsame.mono (by decide) (by decide)⟩
  · show Sp p e below m s₁ 0 #[.val (.ref ab), .val (.int (0 : Int32)), .val (.int (2 : Int32))] [] _
    refine XS.iloadN X0.here hx rfl (hb hby d22_0) rfl ?_
    refine XS.ifNo X0.here hx rfl (hb hby d22_1) rfl ((if0 _ _).trans (teq (by decide : ((0 : Int32) = (0 : Int32)))).2) ?_
    show Sp p e below m s₁ 4 #[.val (.ref ab), .val (.int (0 : Int32)), .val (.int (2 : Int32))] [] _
    refine XS.iloadN X0.here hx rfl (hb hby d22_4) rfl ?_
    refine XS.aloadN X0.here hx rfl (hb hby d22_5) rfl rfl ?_
    show Sp p e below m s₁ 6 #[.val (.ref ab), .val (.int (0 : Int32)), .val (.int (2 : Int32))] [(.ref ab), (.int (2 : Int32))] _
    refine X0.arraylength hx (by rw [e0]; exact Ar530.1) (State.isArrayOf_alike hZ.alike Ar530.2.1) (g := (mkF m 6 #[.val (.ref ab), .val (.int (0 : Int32)), .val (.int (2 : Int32))] [(.ref ab), (.int (2 : Int32))])) rfl rfl (hb hby d22_6) _ ?_
    rw [len_of S530 M530]
    show Sp p e below m s₁ 7 #[.val (.ref ab), .val (.int (0 : Int32)), .val (.int (2 : Int32))] [(.int (5 : Int32)), (.int (2 : Int32))] _
    refine XS.icmpNo X0.here hx rfl (hb hby d22_7) rfl (feq (by decide : ¬ ((2 : Int32) = (5 : Int32)))).1 ?_
    show Sp p e below m s₁ 10 #[.val (.ref ab), .val (.int (0 : Int32)), .val (.int (2 : Int32))] [] _
    refine XS.aloadN X0.here hx rfl (hb hby d22_10) rfl rfl ?_
    refine XS.iloadN X0.here hx rfl (hb hby d22_11) rfl ?_
    show Sp p e below m s₁ 12 #[.val (.ref ab), .val (.int (0 : Int32)), .val (.int (2 : Int32))] [(.int (0 : Int32)), (.ref ab)] _
    refine XS.iloadN X0.here hx rfl (hb hby d22_12) rfl ?_
    refine st531 _ ?_
    show Sp p e below m T531 16 #[.val (.ref ab), .val (.int (0 : Int32)), .val (.int (2 : Int32))] [(.ref rrb_531)] _
    jvm_step X531.here [X531.here.top, hx, (hb hby d22_16), X531.method', Bd.returns, Value.isRef, FieldType.isReference]
    first | (intro acts; rw [hr _ acts rfl rfl rfl]) | rw [hr _ _ rfl rfl rfl]
    exact Steps.refl _
  · show Q22n5b0e2 Z ab kb ee0 ee1 ee2 ee3 ee4 h0 n0 _ T531.heap _
    exact ⟨rrb_531, rrk_531, rfl, N531, KK531, p531_0, g_rrb_531, sz_rrb_531⟩
theorem ef_21n5b0e2 (m : MethodId) (x0 : Addr) : entryFrame m #[(.ref x0), (.int (0 : Int32)), (.int (2 : Int32))] 3 = mkF m 0 #[.val (.ref x0), .val (.int (0 : Int32)), .val (.int (2 : Int32))] [] := by first | (simp [entryFrame, mkF, argsToLocals, Value.category]; done) | rfl
def Q21n5b0e2 (Z : State) (ab : Addr) (kb : ClassId) (ee0 : Int32) (ee1 : Int32) (ee2 : Int32) (ee3 : Int32) (ee4 : Int32) (h0 : Heap) (n0 : Nat) (v : Option Value) (h : Heap) (L : List Loc) : Prop := ∃ (so : Addr) (rb : Addr) (rk : ClassId), v = some (.ref so) ∧ Fr n0 L ∧ Keep h0 h [] ∧ Exa Z h so "java/lang/String" ∧ Fld Z h so "java/lang/String" "value" "[B" (.ref rb) ∧ Fld Z h so "java/lang/String" "coder" "B" (.int (0 : Int32)) ∧ Arv Z h rb rk .byte (2 : Int32) [(.int ee0), (.int ee1)] (.int (0 : Int32)) ∧ n0 ≤ so ∧ h0.size ≤ so ∧ n0 ≤ rb ∧ h0.size ≤ rb
set_option maxRecDepth 65536 in
set_option maxHeartbeats 40000000 in
theorem rm21n5b0e2 (l : Launch) (Z : State) (a0 : Array Value) (hw : ∀ d ∈ tables_1, d.before a0 Z = true) (ws : List Jvm.Cond) (ab : Addr) (kb : ClassId) (ee0 : Int32) (ee1 : Int32) (ee2 : Int32) (ee3 : Int32) (ee4 : Int32) (h0 : Heap) (n0 : Nat) (Z0 : n0 ≤ h0.size) (Va : Arv Z h0 ab kb .byte (5 : Int32) [(.int ee0), (.int ee1), (.int ee2), (.int ee3), (.int ee4)] (.int (0 : Int32))) :
    MetFree l (⟨"java/lang/StringLatin1", "newString", "([BII)Ljava/lang/String;"⟩ : MethodName) (head1 (Jvm.Cond.code (⟨"java/lang/StringLatin1", "newString", "([BII)Ljava/lang/String;"⟩ : MethodName) jdk_43_method_47_code 3 (some (.object "java/lang/String")) :: ws) ({ frames := 3, cells := 2, slots := 6, locals := 50 } : Room)) (fun a U => a = #[(.ref ab), (.int (0 : Int32)), (.int (2 : Int32))] ∧ Z.Warmed39 U.vm ∧ U.heap = h0) (fun _ _ _ _ _ => True) (fun _ U o U' => ∃ v L, o = .returned v ∧ Q21n5b0e2 Z ab kb ee0 ee1 ee2 ee3 ee4 h0 n0 v U'.heap L ∧ FrameEnd U o U' L ({ frames := 3, cells := 2, slots := 6, locals := 50 } : Room).cells ({ frames := 3, cells := 2, slots := 6, locals := 50 } : Room).slots) := by
  refine MetFree.of_bodySF (plainFor_of_name own_pn129) hisR ?_
  intro p e s m args below meth c s₁ Bd hml0 hP hK
  have H := fun i c (h : tables_1[i]? = some c) => hw c (List.mem_of_getElem? h)
  obtain ⟨rfl, hZ, hh⟩ := hP
  have hx := Bd.exec
  have hby := Bd.bytes
  have hml : c.maxLocals = 3 := hml0
  have hown : s.vm.findClass "java/lang/StringLatin1" = some m.cls := findClass_of_methodNamed Bd.named
  have hnm := (name_of_methodNamed Bd.named Bd.method).1
  have X0 : Stand p l e ({ frames := 3, cells := 2, slots := 6, locals := 50 } : Room) s m #[(.ref ab), (.int (0 : Int32)), (.int (2 : Int32))] below meth c s₁ [] 0 0 := Stand.of_body Bd
  have e0 : s₁.heap = h0 := by rw [← hh, Bd.state]; rfl
  have N0 := Fr.nil n0
  have pre0 : ∀ t, Sp p e below m s₁ 0 #[.val (.ref ab), .val (.int (0 : Int32)), .val (.int (2 : Int32))] [] t → Steps p.tables e below (s₁.setTop (entryFrame m #[(.ref ab), (.int (0 : Int32)), (.int (2 : Int32))] 3)) t := fun t k => castTop (ef_21n5b0e2 m ab) k
  generalize s₁.setTop (entryFrame m #[(.ref ab), (.int (0 : Int32)), (.int (2 : Int32))] 3) = G0 at pre0 ⊢
  obtain ⟨T546, h546, X546, e546, E546, A546, D546, -, st546⟩ := newO X0 hx hZ hown (H 97 _ rfl) (H 4 _ rfl) (H 5 _ rfl) e0 (g := (mkF m 7 #[.val (.ref ab), .val (.int (0 : Int32)), .val (.int (2 : Int32))] [])) rfl (hb hby d21_7) (by decide) (by decide)
  obtain ⟨b546, g546⟩ : ∃ z, z = h0.size := ⟨_, rfl⟩
  rw [← g546] at A546 D546 st546
  have g_b546 : n0 ≤ b546 := Nat.le_trans Z0 (Nat.le_of_eq g546.symm)
  have sz_b546 : h0.size ≤ b546 := Nat.le_of_eq g546.symm
  have lt_ab_b546 : ab < b546 := Nat.lt_of_lt_of_le Va.lt (Nat.le_of_eq g546.symm)
  have ne_ab_b546 : ab ≠ b546 := Nat.ne_of_lt lt_ab_b546
  have Zs546 : n0 ≤ h546.size := Nat.le_trans Z0 E546.1
  have KK546 : Keep h0 h546 [] := (Keep.refl h0 _).ext E546
  have f547 := Va.ext E546
  have f548 : Fld Z h546 b546 "java/lang/String" "coder" "B" (.int (0 : Int32)) := D546 (Or.inr (H 29 _ rfl)) (ty := .byte) (by decide)
  have f549 : Fld Z h546 b546 "java/lang/String" "value" "[B" .null := D546 (Or.inr (H 31 _ rfl)) (ty := (.array .byte)) (by decide)
  obtain ⟨_, _, ⟨T550, L550, k550, n550⟩, -, X550, ⟨Lc550, hQ550, l550, y550, z550⟩, st550⟩ := Jvm.LawKit.callS X546 hx (y := (⟨"java/util/Arrays", "copyOfRange", "([BII)[B"⟩ : MethodName)) hown (mvT hZ (H 98 _ rfl)) (mvT hZ (H 99 _ rfl)) (mvT hZ (H 100 _ rfl)) (mvT hZ (H 101 _ rfl)) (by decide) (backOf (W := 2) (rm22n5b0e2 l Z a0 hw [] ab kb ee0 ee1 ee2 ee3 ee4 h546 n0 Zs546 f547) hZ (H 101 _ rfl) (H 100 _ rfl) (by decide) (by decide)) (g := (mkF m 16 #[.val (.ref ab), .val (.int (0 : Int32)), .val (.int (2 : Int32))] [(.int (2 : Int32)), (.int (0 : Int32)), (.ref ab), (.ref b546), (.ref b546)])) rfl (by rw [hml]; rfl) (argsL := [(.ref ab), (.int (0 : Int32)), (.int (2 : Int32))]) (rest := [(.ref b546), (.ref b546)]) (lenOf own_pd282 rfl) rfl (Nat.le_of_eq rfl) (hb hby d21_16) (fun _ _ => ⟨rfl, e546, (by decide : 1 + 1 ≤ _), (by decide : 4 + 2 ≤ _)⟩)
  dsimp only [Pt.U, Pt.locs, Pt.cells, Pt.slots] at X550 l550 y550 z550 st550 hQ550
  rw [l550, y550, z550] at X550
  clear l550 y550 z550
  obtain ⟨rrb_550, rrk_550, rfl, Nq550, K550, p550_0, p550_1, p550_2⟩ := hQ550
  have N550 := Fr.app N0 Nq550
  have Zs550 : n0 ≤ T550.heap.size := Nat.le_trans Zs546 K550.1
  have KK550 : Keep h0 T550.heap [] := KK546.trans K550 all0
  have ne_ab_rrb_550 : ab ≠ rrb_550 := Nat.ne_of_lt (Nat.lt_of_lt_of_le f547.lt p550_2)
  have ne_b546_rrb_550 : b546 ≠ rrb_550 := Nat.ne_of_lt (Nat.lt_of_lt_of_le A546.lt p550_2)
  have sz_rrb_550 : h0.size ≤ rrb_550 := Nat.le_trans KK546.1 p550_2
  have f551 := f547.keep K550 nin0
  have f552 := A546.keep K550
  have f553 := f548.keep K550 nin0
  have f554 := f549.keep K550 nin0
  have g_rrb_550 := p550_1
  obtain ⟨_, _, ⟨T555, L555, k555, n555⟩, -, X555, ⟨Lc555, hQ555, l555, y555, z555⟩, st555⟩ := X550.specialBack hx (y := (⟨"java/lang/String", "<init>", "([BB)V"⟩ : MethodName)) rfl hown (mvT hZ (H 113 _ rfl)) (mvT hZ (H 114 _ rfl)) (mvT hZ (H 115 _ rfl)) (by decide) (backOf (W := 1) (rm25 l Z a0 hw [] b546 rrb_550  T550.heap n0 Zs550 f552 f554 f553 g_b546) hZ (H 115 _ rfl) (H 5 _ rfl) (by decide) (by decide)) (g := (mkF m 20 #[.val (.ref ab), .val (.int (0 : Int32)), .val (.int (2 : Int32))] [(.int (0 : Int32)), (.ref rrb_550), (.ref b546), (.ref b546)])) rfl (by rw [hml]; rfl) (Steps.refl _) (a := b546) (argsL := [(.ref rrb_550), (.int (0 : Int32))]) (rest := [(.ref b546)]) (lenOf own_pd305 rfl) rfl (Nat.le_of_eq rfl) (hb hby d21_20) (fun _ _ => ⟨rfl, rfl, (by decide : 2 + 0 ≤ _), (by decide : 6 + 0 ≤ _)⟩)
  dsimp only [Pt.U, Pt.locs, Pt.cells, Pt.slots] at X555 l555 y555 z555 st555 hQ555
  rw [l555, y555, z555] at X555
  clear l555 y555 z555
  obtain ⟨rfl, Nq555, K555, p555_0, p555_1, p555_2⟩ := hQ555
  have N555 := Fr.app N550 Nq555
  have Zs555 : n0 ≤ T555.heap.size := Nat.le_trans Zs550 K555.1
  have KK555 : Keep h0 T555.heap [] := KK550.trans K555 (allS (Or.inr sz_b546) all0)
  have f556 := f551.keep K555 (ninS ne_ab_b546 nin0)
  have f557 := f552.keep K555
  have f558 := p550_0.keep K555 (ninS (Ne.symm ne_b546_rrb_550) nin0)
  obtain ⟨fs, hr, hrun, hended, hW, hsame⟩ := X555.leave (v := some (.ref b546)) (fun h => by rw [Bd.returns] at h; cases h)
  refine ⟨_, _, pre0 _ ?_, hrun, hended, _, _, rfl, ?_, ⟨_, rfl⟩, hW, hsame.mono (by decide) (by decide)⟩
  · show Sp p e below m s₁ 0 #[.val (.ref ab), .val (.int (0 : Int32)), .val (.int (2 : Int32))] [] _
    refine XS.iloadN X0.here hx rfl (hb hby d21_0) rfl ?_
    refine XS.ifYes X0.here hx rfl (pc0 := 1) (pc' := 7) rfl (hb hby d21_1) rfl ((if0 _ _).trans (feq (by decide : ¬ ((2 : Int32) = (0 : Int32)))).2) (by decide) (by decide) ?_
    show Sp p e below m s₁ 7 #[.val (.ref ab), .val (.int (0 : Int32)), .val (.int (2 : Int32))] [] _
    refine st546 _ ?_
    show Sp p e below m T546 10 #[.val (.ref ab), .val (.int (0 : Int32)), .val (.int (2 : Int32))] [(.ref b546)] _
    refine XS.dup X546.here hx rfl (hb hby d21_10) rfl rfl ?_
    refine XS.aloadN X546.here hx rfl (hb hby d21_11) rfl rfl ?_
    show Sp p e below m T546 12 #[.val (.ref ab), .val (.int (0 : Int32)), .val (.int (2 : Int32))] [(.ref ab), (.ref b546), (.ref b546)] _
    refine XS.iloadN X546.here hx rfl (hb hby d21_12) rfl ?_
    refine XS.iloadN X546.here hx rfl (hb hby d21_13) rfl ?_
    show Sp p e below m T546 14 #[.val (.ref ab), .val (.int (0 : Int32)), .val (.int (2 : Int32))] [(.int (0 : Int32)), (.int (0 : Int32)), (.ref ab), (.ref b546), (.ref b546)] _
    refine XS.iloadN X546.here hx rfl (hb hby d21_14) rfl ?_
    refine XS.iadd X546.here hx rfl (hb hby d21_15) rfl ?_
    show Sp p e below m T546 16 #[.val (.ref ab), .val (.int (0 : Int32)), .val (.int (2 : Int32))] [(.int (2 : Int32)), (.int (0 : Int32)), (.ref ab), (.ref b546), (.ref b546)] _
    refine st550 _ ?_
    show Sp p e below m T550 19 #[.val (.ref ab), .val (.int (0 : Int32)), .val (.int (2 : Int32))] [(.ref rrb_550), (.ref b546), (.ref b546)] _
    refine XS.iconst X550.here hx rfl (hb hby d21_19) ?_
    refine st555.trans ?_
    show Sp p e below m T555 23 #[.val (.ref ab), .val (.int (0 : Int32)), .val (.int (2 : Int32))] [(.ref b546)] _
    jvm_step X555.here [X555.here.top, hx, (hb hby d21_23), X555.method', Bd.returns, Value.isRef, FieldType.isReference]
    first | (intro acts; rw [hr _ acts rfl rfl rfl]) | rw [hr _ _ rfl rfl rfl]
    exact Steps.refl _
  · show Q21n5b0e2 Z ab kb ee0 ee1 ee2 ee3 ee4 h0 n0 _ T555.heap _
    exact ⟨b546, rrb_550, rrk_550, rfl, N555, KK555, p555_0, p555_1, p555_2, f558, g_b546, sz_b546, g_rrb_550, sz_rrb_550⟩
theorem ef_18n5b0e2 (m : MethodId) (x0 : Addr) : entryFrame m #[(.ref x0), (.int (0 : Int32)), (.int (2 : Int32))] 5 = mkF m 0 #[.val (.ref x0), .val (.int (0 : Int32)), .val (.int (2 : Int32)), .unset, .unset] [] := by first | (simp [entryFrame, mkF, argsToLocals, Value.category]; done) | rfl
def Q18n5b0e2 (Z : State) (aa : Addr) (cs : Int32) (vf : Value) (ab : Addr) (kb : ClassId) (ee0 : Int32) (ee1 : Int32) (ee2 : Int32) (ee3 : Int32) (ee4 : Int32) (h0 : Heap) (n0 : Nat) (v : Option Value) (h : Heap) (L : List Loc) : Prop := ∃ (so : Addr) (rb : Addr) (rk : ClassId), v = some (.ref so) ∧ Fr n0 L ∧ Keep h0 h [] ∧ Exa Z h so "java/lang/String" ∧ Fld Z h so "java/lang/String" "value" "[B" (.ref rb) ∧ Fld Z h so "java/lang/String" "coder" "B" (.int (0 : Int32)) ∧ Arv Z h rb rk .byte (2 : Int32) [(.int ee0), (.int ee1)] (.int (0 : Int32)) ∧ n0 ≤ so ∧ h0.size ≤ so ∧ n0 ≤ rb ∧ h0.size ≤ rb
set_option maxRecDepth 65536 in
set_option maxHeartbeats 40000000 in
theorem rm18n5b0e2 (l : Launch) (Z : State) (a0 : Array Value) (hw : ∀ d ∈ tables_1, d.before a0 Z = true) (ws : List Jvm.Cond) (aa : Addr) (cs : Int32) (vf : Value) (ab : Addr) (kb : ClassId) (ee0 : Int32) (ee1 : Int32) (ee2 : Int32) (ee3 : Int32) (ee4 : Int32) (h0 : Heap) (n0 : Nat) (Z0 : n0 ≤ h0.size) (O0 : Old Z n0 h0) (Scs : Sta Z Z.heap "java/lang/String" "COMPACT_STRINGS" "Z" (.int cs)) (hcs : ¬ cs = (0 : Int32)) (Ssf : Sta Z Z.heap "jdk/internal/util/Preconditions" "SIOOBE_FORMATTER" "Ljava/util/function/BiFunction;" vf) (hvf : vf.isRef = true) (Ea : Exa Z h0 aa "java/lang/String") (Fv : Fld Z h0 aa "java/lang/String" "value" "[B" (.ref ab)) (Fc : Fld Z h0 aa "java/lang/String" "coder" "B" (.int (0 : Int32))) (Va : Arv Z h0 ab kb .byte (5 : Int32) [(.int ee0), (.int ee1), (.int ee2), (.int ee3), (.int ee4)] (.int (0 : Int32))) :
    MetFree l (⟨"java/lang/String", "substring", "(II)Ljava/lang/String;"⟩ : MethodName) (head1 (Jvm.Cond.code (⟨"java/lang/String", "substring", "(II)Ljava/lang/String;"⟩ : MethodName) jdk_42_method_92_code 5 (some (.object "java/lang/String")) :: ws) ({ frames := 4, cells := 2, slots := 6, locals := 64 } : Room)) (fun a U => a = #[(.ref aa), (.int (0 : Int32)), (.int (2 : Int32))] ∧ Z.Warmed39 U.vm ∧ U.heap = h0) (fun _ _ _ _ _ => True) (fun _ U o U' => ∃ v L, o = .returned v ∧ Q18n5b0e2 Z aa cs vf ab kb ee0 ee1 ee2 ee3 ee4 h0 n0 v U'.heap L ∧ FrameEnd U o U' L ({ frames := 4, cells := 2, slots := 6, locals := 64 } : Room).cells ({ frames := 4, cells := 2, slots := 6, locals := 64 } : Room).slots) := by
  refine MetFree.of_bodySF (plainFor_of_name own_pn8) hisR ?_
  intro p e s m args below meth c s₁ Bd hml0 hP hK
  have H := fun i c (h : tables_1[i]? = some c) => hw c (List.mem_of_getElem? h)
  obtain ⟨rfl, hZ, hh⟩ := hP
  have hx := Bd.exec
  have hby := Bd.bytes
  have hml : c.maxLocals = 5 := hml0
  have hown : s.vm.findClass "java/lang/String" = some m.cls := findClass_of_methodNamed Bd.named
  have hnm := (name_of_methodNamed Bd.named Bd.method).1
  have X0 : Stand p l e ({ frames := 4, cells := 2, slots := 6, locals := 64 } : Room) s m #[(.ref aa), (.int (0 : Int32)), (.int (2 : Int32))] below meth c s₁ [] 0 0 := Stand.of_body Bd
  have e0 : s₁.heap = h0 := by rw [← hh, Bd.state]; rfl
  have N0 := Fr.nil n0
  have pre0 : ∀ t, Sp p e below m s₁ 0 #[.val (.ref aa), .val (.int (0 : Int32)), .val (.int (2 : Int32)), .unset, .unset] [] t → Steps p.tables e below (s₁.setTop (entryFrame m #[(.ref aa), (.int (0 : Int32)), (.int (2 : Int32))] 5)) t := fun t k => castTop (ef_18n5b0e2 m aa) k
  generalize s₁.setTop (entryFrame m #[(.ref aa), (.int (0 : Int32)), (.int (2 : Int32))] 5) = G0 at pre0 ⊢
  obtain ⟨cq570, kq570, q570a, q570b, q570c⟩ := isOf hZ e0 Ea
  obtain ⟨_, _, ⟨T570, L570, k570, n570⟩, -, X570, ⟨Lc570, hQ570, l570, y570, z570⟩, st570⟩ := X0.virtualBack hx (y := (⟨"java/lang/String", "length", "()I"⟩ : MethodName)) (z := (⟨"java/lang/String", "length", "()I"⟩ : MethodName)) hown (mvT hZ (H 51 _ rfl)) (mvT hZ (H 52 _ rfl)) (notFace_of_selects (args := #[]) (mvT hZ (H 54 _ rfl))) (mvT hZ (H 54 _ rfl)) (mvT hZ (H 53 _ rfl)) (by decide) (backOf (W := 0) (rm11 l Z a0 hw [] aa cs vf ab kb (5 : Int32) [(.int ee0), (.int ee1), (.int ee2), (.int ee3), (.int ee4)] h0 n0 Z0 O0 Scs hcs Ssf hvf Ea Fv Fc Va) hZ (H 55 _ rfl) (H 5 _ rfl) (by decide) (by decide)) q570a q570c (g := (mkF m 1 #[.val (.ref aa), .val (.int (0 : Int32)), .val (.int (2 : Int32)), .unset, .unset] [(.ref aa)])) rfl (by rw [hml]; rfl) (Steps.refl _) (argsL := []) (rest := []) (lenOf own_pd214 rfl) rfl (Nat.le_of_eq rfl) (hb hby d18_1) (fun _ _ => ⟨rfl, e0, (by decide : 0 + 0 ≤ _), (by decide : 0 + 0 ≤ _)⟩)
  dsimp only [Pt.U, Pt.locs, Pt.cells, Pt.slots] at X570 l570 y570 z570 st570 hQ570
  rw [l570, y570, z570] at X570
  clear l570 y570 z570
  obtain ⟨rfl, Nq570, e570⟩ := hQ570
  have N570 := Fr.app N0 Nq570
  obtain ⟨_, _, ⟨T571, L571, k571, n571⟩, -, X571, ⟨Lc571, hQ571, l571, y571, z571⟩, st571⟩ := Jvm.LawKit.callS X570 hx (y := (⟨"java/lang/String", "checkBoundsBeginEnd", "(III)V"⟩ : MethodName)) hown (mvT hZ (H 86 _ rfl)) (mvT hZ (H 87 _ rfl)) (mvT hZ (H 5 _ rfl)) (mvT hZ (H 88 _ rfl)) (by decide) (backOf (W := 0) (rm19 l Z a0 hw [] (0 : Int32) (2 : Int32) (5 : Int32) cs vf h0 n0 Z0 O0 Scs hcs Ssf hvf (by decide) (by decide) (by decide)) hZ (H 88 _ rfl) (H 5 _ rfl) (by decide) (by decide)) (g := (mkF m 8 #[.val (.ref aa), .val (.int (0 : Int32)), .val (.int (2 : Int32)), .val (.int (5 : Int32)), .unset] [(.int (5 : Int32)), (.int (2 : Int32)), (.int (0 : Int32))])) rfl (by rw [hml]; rfl) (argsL := [(.int (0 : Int32)), (.int (2 : Int32)), (.int (5 : Int32))]) (rest := []) (lenOf own_pd332 rfl) rfl (Nat.le_of_eq rfl) (hb hby d18_8) (fun _ _ => ⟨rfl, e570, (by decide : 0 + 0 ≤ _), (by decide : 0 + 0 ≤ _)⟩)
  dsimp only [Pt.U, Pt.locs, Pt.cells, Pt.slots] at X571 l571 y571 z571 st571 hQ571
  rw [l571, y571, z571] at X571
  clear l571 y571 z571
  obtain ⟨rfl, Nq571, e571⟩ := hQ571
  have N571 := Fr.app N570 Nq571
  obtain ⟨cq572, kq572, q572a, q572b, q572c⟩ := isOf hZ e571 Ea
  obtain ⟨_, _, ⟨T572, L572, k572, n572⟩, -, X572, ⟨Lc572, hQ572, l572, y572, z572⟩, st572⟩ := X571.virtualBack hx (y := (⟨"java/lang/String", "isLatin1", "()Z"⟩ : MethodName)) (z := (⟨"java/lang/String", "isLatin1", "()Z"⟩ : MethodName)) hown (mvT hZ (H 46 _ rfl)) (mvT hZ (H 47 _ rfl)) (notFace_of_selects (args := #[]) (mvT hZ (H 49 _ rfl))) (mvT hZ (H 49 _ rfl)) (mvT hZ (H 48 _ rfl)) (by decide) (backOf (W := 0) (rm10 l Z a0 hw [] aa cs vf h0 n0 Z0 O0 Scs hcs Ssf hvf Fc) hZ (H 50 _ rfl) (H 5 _ rfl) (by decide) (by decide)) q572a q572c (g := (mkF m 28 #[.val (.ref aa), .val (.int (0 : Int32)), .val (.int (2 : Int32)), .val (.int (5 : Int32)), .val (.int (2 : Int32))] [(.ref aa)])) rfl (by rw [hml]; rfl) (Steps.refl _) (argsL := []) (rest := []) (lenOf own_pd132 rfl) rfl (Nat.le_of_eq rfl) (hb hby d18_28) (fun _ _ => ⟨rfl, e571, (by decide : 0 + 0 ≤ _), (by decide : 0 + 0 ≤ _)⟩)
  dsimp only [Pt.U, Pt.locs, Pt.cells, Pt.slots] at X572 l572 y572 z572 st572 hQ572
  rw [l572, y572, z572] at X572
  clear l572 y572 z572
  obtain ⟨rfl, Nq572, e572⟩ := hQ572
  have N572 := Fr.app N571 Nq572
  obtain ⟨T573, X573, e573, st573⟩ := getF X572 hx hZ hown (host := "") (Or.inl (H 30 _ rfl)) Via.refl e572 Fv (g := (mkF m 35 #[.val (.ref aa), .val (.int (0 : Int32)), .val (.int (2 : Int32)), .val (.int (5 : Int32)), .val (.int (2 : Int32))] [(.ref aa)])) rfl rfl (hb hby d18_35)
  obtain ⟨_, _, ⟨T574, L574, k574, n574⟩, -, X574, ⟨Lc574, hQ574, l574, y574, z574⟩, st574⟩ := Jvm.LawKit.callS X573 hx (y := (⟨"java/lang/StringLatin1", "newString", "([BII)Ljava/lang/String;"⟩ : MethodName)) hown (mvT hZ (H 94 _ rfl)) (mvT hZ (H 95 _ rfl)) (mvT hZ (H 63 _ rfl)) (mvT hZ (H 96 _ rfl)) (by decide) (backOf (W := 0) (rm21n5b0e2 l Z a0 hw [] ab kb ee0 ee1 ee2 ee3 ee4 h0 n0 Z0 Va) hZ (H 96 _ rfl) (H 63 _ rfl) (by decide) (by decide)) (g := (mkF m 41 #[.val (.ref aa), .val (.int (0 : Int32)), .val (.int (2 : Int32)), .val (.int (5 : Int32)), .val (.int (2 : Int32))] [(.int (2 : Int32)), (.int (0 : Int32)), (.ref ab)])) rfl (by rw [hml]; rfl) (argsL := [(.ref ab), (.int (0 : Int32)), (.int (2 : Int32))]) (rest := []) (lenOf own_pd350 rfl) rfl (Nat.le_of_eq rfl) (hb hby d18_41) (fun _ _ => ⟨rfl, e573, (by decide : 0 + 2 ≤ _), (by decide : 0 + 6 ≤ _)⟩)
  dsimp only [Pt.U, Pt.locs, Pt.cells, Pt.slots] at X574 l574 y574 z574 st574 hQ574
  rw [l574, y574, z574] at X574
  clear l574 y574 z574
  obtain ⟨rso_574, rrb_574, rrk_574, rfl, Nq574, K574, p574_0, p574_1, p574_2, p574_3, p574_4, p574_5, p574_6, p574_7⟩ := hQ574
  have N574 := Fr.app N572 Nq574
  have Zs574 : n0 ≤ T574.heap.size := Nat.le_trans Z0 K574.1
  have KK574 : Keep h0 T574.heap [] := (Keep.refl h0 _).trans K574 all0
  have ne_aa_rso_574 : aa ≠ rso_574 := Nat.ne_of_lt (Nat.lt_of_lt_of_le Ea.lt p574_5)
  have ne_ab_rso_574 : ab ≠ rso_574 := Nat.ne_of_lt (Nat.lt_of_lt_of_le Va.lt p574_5)
  have sz_rso_574 : h0.size ≤ rso_574 := p574_5
  have ne_aa_rrb_574 : aa ≠ rrb_574 := Nat.ne_of_lt (Nat.lt_of_lt_of_le Ea.lt p574_7)
  have ne_ab_rrb_574 : ab ≠ rrb_574 := Nat.ne_of_lt (Nat.lt_of_lt_of_le Va.lt p574_7)
  have sz_rrb_574 : h0.size ≤ rrb_574 := p574_7
  have O574 := O0.keep K574 (all0)
  have f575 := Scs.ext O574.2
  have f576 := Ssf.ext O574.2
  have f577 := Ea.keep K574
  have f578 := Fv.keep K574 nin0
  have f579 := Fc.keep K574 nin0
  have f580 := Va.keep K574 nin0
  have g_rso_574 := p574_4
  have g_rrb_574 := p574_6
  obtain ⟨fs, hr, hrun, hended, hW, hsame⟩ := X574.leave (v := some (.ref rso_574)) (fun h => by rw [Bd.returns] at h; cases h)
  refine ⟨_, _, pre0 _ ?_, hrun, hended, _, _, rfl, ?_, ⟨_, rfl⟩, hW, hsame.mono (by decide) (by decide)⟩
  · show Sp p e below m s₁ 0 #[.val (.ref aa), .val (.int (0 : Int32)), .val (.int (2 : Int32)), .unset, .unset] [] _
    refine XS.aloadN X0.here hx rfl (hb hby d18_0) rfl rfl ?_
    refine st570.trans ?_
    show Sp p e below m T570 4 #[.val (.ref aa), .val (.int (0 : Int32)), .val (.int (2 : Int32)), .unset, .unset] [(.int (5 : Int32))] _
    refine XS.istoreN X570.here hx rfl (hb hby d18_4) rfl (l' := #[.val (.ref aa), .val (.int (0 : Int32)), .val (.int (2 : Int32)), .val (.int (5 : Int32)), .unset]) rfl ?_
    show Sp p e below m T570 5 #[.val (.ref aa), .val (.int (0 : Int32)), .val (.int (2 : Int32)), .val (.int (5 : Int32)), .unset] [] _
    refine XS.iloadN X570.here hx rfl (hb hby d18_5) rfl ?_
    refine XS.iloadN X570.here hx rfl (hb hby d18_6) rfl ?_
    show Sp p e below m T570 7 #[.val (.ref aa), .val (.int (0 : Int32)), .val (.int (2 : Int32)), .val (.int (5 : Int32)), .unset] [(.int (2 : Int32)), (.int (0 : Int32))] _
    refine XS.iloadN X570.here hx rfl (hb hby d18_7) rfl ?_
    refine st571 _ ?_
    show Sp p e below m T571 11 #[.val (.ref aa), .val (.int (0 : Int32)), .val (.int (2 : Int32)), .val (.int (5 : Int32)), .unset] [] _
    refine XS.iloadN X571.here hx rfl (hb hby d18_11) rfl ?_
    refine XS.ifNo X571.here hx rfl (hb hby d18_12) rfl ((if0 _ _).trans (teq (by decide : ((0 : Int32) = (0 : Int32)))).2) ?_
    show Sp p e below m T571 15 #[.val (.ref aa), .val (.int (0 : Int32)), .val (.int (2 : Int32)), .val (.int (5 : Int32)), .unset] [] _
    refine XS.iloadN X571.here hx rfl (hb hby d18_15) rfl ?_
    refine XS.iloadN X571.here hx rfl (hb hby d18_16) rfl ?_
    show Sp p e below m T571 17 #[.val (.ref aa), .val (.int (0 : Int32)), .val (.int (2 : Int32)), .val (.int (5 : Int32)), .unset] [(.int (5 : Int32)), (.int (2 : Int32))] _
    refine XS.icmpYes X571.here hx rfl (pc0 := 17) (pc' := 22) rfl (hb hby d18_17) rfl (feq (by decide : ¬ ((2 : Int32) = (5 : Int32)))).2 (by decide) (by decide) ?_
    show Sp p e below m T571 22 #[.val (.ref aa), .val (.int (0 : Int32)), .val (.int (2 : Int32)), .val (.int (5 : Int32)), .unset] [] _
    refine XS.iloadN X571.here hx rfl (hb hby d18_22) rfl ?_
    refine XS.iloadN X571.here hx rfl (hb hby d18_23) rfl ?_
    show Sp p e below m T571 24 #[.val (.ref aa), .val (.int (0 : Int32)), .val (.int (2 : Int32)), .val (.int (5 : Int32)), .unset] [(.int (0 : Int32)), (.int (2 : Int32))] _
    refine XS.isub X571.here hx rfl (hb hby d18_24) rfl ?_
    show Sp p e below m T571 25 #[.val (.ref aa), .val (.int (0 : Int32)), .val (.int (2 : Int32)), .val (.int (5 : Int32)), .unset] [(.int (2 : Int32))] _
    refine XS.istore X571.here hx rfl (hb hby d18_25) rfl (l' := #[.val (.ref aa), .val (.int (0 : Int32)), .val (.int (2 : Int32)), .val (.int (5 : Int32)), .val (.int (2 : Int32))]) rfl ?_
    show Sp p e below m T571 27 #[.val (.ref aa), .val (.int (0 : Int32)), .val (.int (2 : Int32)), .val (.int (5 : Int32)), .val (.int (2 : Int32))] [] _
    refine XS.aloadN X571.here hx rfl (hb hby d18_27) rfl rfl ?_
    refine st572.trans ?_
    show Sp p e below m T572 31 #[.val (.ref aa), .val (.int (0 : Int32)), .val (.int (2 : Int32)), .val (.int (5 : Int32)), .val (.int (2 : Int32))] [(.int (1 : Int32))] _
    refine XS.ifNo X572.here hx rfl (hb hby d18_31) rfl ((if0 _ _).trans (feq (by decide : ¬ ((1 : Int32) = (0 : Int32)))).1) ?_
    show Sp p e below m T572 34 #[.val (.ref aa), .val (.int (0 : Int32)), .val (.int (2 : Int32)), .val (.int (5 : Int32)), .val (.int (2 : Int32))] [] _
    refine XS.aloadN X572.here hx rfl (hb hby d18_34) rfl rfl ?_
    refine st573 _ ?_
    show Sp p e below m T573 38 #[.val (.ref aa), .val (.int (0 : Int32)), .val (.int (2 : Int32)), .val (.int (5 : Int32)), .val (.int (2 : Int32))] [(.ref ab)] _
    refine XS.iloadN X573.here hx rfl (hb hby d18_38) rfl ?_
    refine XS.iload X573.here hx rfl (hb hby d18_39) rfl ?_
    show Sp p e below m T573 41 #[.val (.ref aa), .val (.int (0 : Int32)), .val (.int (2 : Int32)), .val (.int (5 : Int32)), .val (.int (2 : Int32))] [(.int (2 : Int32)), (.int (0 : Int32)), (.ref ab)] _
    refine st574 _ ?_
    show Sp p e below m T574 44 #[.val (.ref aa), .val (.int (0 : Int32)), .val (.int (2 : Int32)), .val (.int (5 : Int32)), .val (.int (2 : Int32))] [(.ref rso_574)] _
    refine XS.goto X574.here hx rfl (pc0 := 44) (pc' := 57) rfl (hb hby d18_44) (by decide) (by decide) ?_
    show Sp p e below m T574 57 #[.val (.ref aa), .val (.int (0 : Int32)), .val (.int (2 : Int32)), .val (.int (5 : Int32)), .val (.int (2 : Int32))] [(.ref rso_574)] _
    jvm_step X574.here [X574.here.top, hx, (hb hby d18_57), X574.method', Bd.returns, Value.isRef, FieldType.isReference]
    first | (intro acts; rw [hr _ acts rfl rfl rfl]) | rw [hr _ _ rfl rfl rfl]
    exact Steps.refl _
  · show Q18n5b0e2 Z aa cs vf ab kb ee0 ee1 ee2 ee3 ee4 h0 n0 _ T574.heap _
    exact ⟨rso_574, rrb_574, rrk_574, rfl, N574, KK574, p574_0, p574_1, p574_2, p574_3, g_rso_574, sz_rso_574, g_rrb_574, sz_rrb_574⟩
theorem ef_23n5b3e5 (m : MethodId) (x0 : Addr) : entryFrame m #[(.ref x0), (.int (3 : Int32)), (.int (5 : Int32))] 5 = mkF m 0 #[.val (.ref x0), .val (.int (3 : Int32)), .val (.int (5 : Int32)), .unset, .unset] [] := by first | (simp [entryFrame, mkF, argsToLocals, Value.category]; done) | rfl
def Q23n5b3e5 (Z : State) (ab : Addr) (kb : ClassId) (ee0 : Int32) (ee1 : Int32) (ee2 : Int32) (ee3 : Int32) (ee4 : Int32) (h0 : Heap) (n0 : Nat) (v : Option Value) (h : Heap) (L : List Loc) : Prop := ∃ (rb : Addr) (rk : ClassId), v = some (.ref rb) ∧ Fr n0 L ∧ Keep h0 h [] ∧ Arv Z h rb rk .byte (2 : Int32) [(.int ee3), (.int ee4)] (.int (0 : Int32)) ∧ n0 ≤ rb ∧ h0.size ≤ rb
set_option maxRecDepth 65536 in
set_option maxHeartbeats 40000000 in
theorem rm23n5b3e5 (l : Launch) (Z : State) (a0 : Array Value) (hw : ∀ d ∈ tables_1, d.before a0 Z = true) (ws : List Jvm.Cond) (ab : Addr) (kb : ClassId) (ee0 : Int32) (ee1 : Int32) (ee2 : Int32) (ee3 : Int32) (ee4 : Int32) (h0 : Heap) (n0 : Nat) (Z0 : n0 ≤ h0.size) (Va : Arv Z h0 ab kb .byte (5 : Int32) [(.int ee0), (.int ee1), (.int ee2), (.int ee3), (.int ee4)] (.int (0 : Int32))) :
    MetFree l (⟨"java/util/Arrays", "copyOfRangeByte", "([BII)[B"⟩ : MethodName) (head1 (Jvm.Cond.code (⟨"java/util/Arrays", "copyOfRangeByte", "([BII)[B"⟩ : MethodName) jdk_65_method_133_code 5 (some (.array .byte)) :: ws) ({ frames := 1, cells := 1, slots := 2, locals := 18 } : Room)) (fun a U => a = #[(.ref ab), (.int (3 : Int32)), (.int (5 : Int32))] ∧ Z.Warmed39 U.vm ∧ U.heap = h0) (fun _ _ _ _ _ => True) (fun _ U o U' => ∃ v L, o = .returned v ∧ Q23n5b3e5 Z ab kb ee0 ee1 ee2 ee3 ee4 h0 n0 v U'.heap L ∧ FrameEnd U o U' L ({ frames := 1, cells := 1, slots := 2, locals := 18 } : Room).cells ({ frames := 1, cells := 1, slots := 2, locals := 18 } : Room).slots) := by
  refine MetFree.of_bodySF (plainFor_of_name own_pn248) hisR ?_
  intro p e s m args below meth c s₁ Bd hml0 hP hK
  have H := fun i c (h : tables_1[i]? = some c) => hw c (List.mem_of_getElem? h)
  obtain ⟨rfl, hZ, hh⟩ := hP
  have hx := Bd.exec
  have hby := Bd.bytes
  have hml : c.maxLocals = 5 := hml0
  have hown : s.vm.findClass "java/util/Arrays" = some m.cls := findClass_of_methodNamed Bd.named
  have hnm := (name_of_methodNamed Bd.named Bd.method).1
  have X0 : Stand p l e ({ frames := 1, cells := 1, slots := 2, locals := 18 } : Room) s m #[(.ref ab), (.int (3 : Int32)), (.int (5 : Int32))] below meth c s₁ [] 0 0 := Stand.of_body Bd
  have e0 : s₁.heap = h0 := by rw [← hh, Bd.state]; rfl
  have N0 := Fr.nil n0
  have pre0 : ∀ t, Sp p e below m s₁ 0 #[.val (.ref ab), .val (.int (3 : Int32)), .val (.int (5 : Int32)), .unset, .unset] [] t → Steps p.tables e below (s₁.setTop (entryFrame m #[(.ref ab), (.int (3 : Int32)), (.int (5 : Int32))] 5)) t := fun t k => castTop (ef_23n5b3e5 m ab) k
  generalize s₁.setTop (entryFrame m #[(.ref ab), (.int (3 : Int32)), (.int (5 : Int32))] 5) = G0 at pre0 ⊢
  obtain ⟨_, _, ⟨T589, L589, k589, n589⟩, -, X589, ⟨Lc589, hQ589, l589, y589, z589⟩, st589⟩ := Jvm.LawKit.callS X0 hx (y := (⟨"java/util/Arrays", "checkLength", "(II)V"⟩ : MethodName)) hown (mvT hZ (H 105 _ rfl)) (mvT hZ (H 106 _ rfl)) (mvT hZ (H 100 _ rfl)) (mvT hZ (H 107 _ rfl)) (by decide) (backOf (W := 0) (rm24 l Z a0 hw [] (3 : Int32) (5 : Int32)  h0 n0 Z0 (by decide)) hZ (H 107 _ rfl) (H 100 _ rfl) (by decide) (by decide)) (g := (mkF m 2 #[.val (.ref ab), .val (.int (3 : Int32)), .val (.int (5 : Int32)), .unset, .unset] [(.int (5 : Int32)), (.int (3 : Int32))])) rfl (by rw [hml]; rfl) (argsL := [(.int (3 : Int32)), (.int (5 : Int32))]) (rest := []) (lenOf own_pd121 rfl) rfl (Nat.le_of_eq rfl) (hb hby d23_2) (fun _ _ => ⟨rfl, e0, (by decide : 0 + 0 ≤ _), (by decide : 0 + 0 ≤ _)⟩)
  dsimp only [Pt.U, Pt.locs, Pt.cells, Pt.slots] at X589 l589 y589 z589 st589 hQ589
  rw [l589, y589, z589] at X589
  clear l589 y589 z589
  obtain ⟨rfl, Nq589, e589⟩ := hQ589
  have N589 := Fr.app N0 Nq589
  obtain ⟨T590, h590, k590, X590, e590, E590, A590, st590⟩ := newP X589 hx hZ (H 21 _ rfl) e589 (g := (mkF m 10 #[.val (.ref ab), .val (.int (3 : Int32)), .val (.int (5 : Int32)), .val (.int (2 : Int32)), .unset] [(.int (2 : Int32))])) rfl (hb hby d23_10) rfl (by decide) (cap := 2) (by decide) (by decide) (by decide) (by decide)
  obtain ⟨b590, g590⟩ : ∃ z, z = h0.size := ⟨_, rfl⟩
  rw [← g590] at A590 st590
  have g_b590 : n0 ≤ b590 := Nat.le_trans Z0 (Nat.le_of_eq g590.symm)
  have sz_b590 : h0.size ≤ b590 := Nat.le_of_eq g590.symm
  have lt_ab_b590 : ab < b590 := Nat.lt_of_lt_of_le Va.lt (Nat.le_of_eq g590.symm)
  have ne_ab_b590 : ab ≠ b590 := Nat.ne_of_lt lt_ab_b590
  have Zs590 : n0 ≤ h590.size := Nat.le_trans Z0 E590.1
  have KK590 : Keep h0 h590 [] := (Keep.refl h0 _).ext E590
  have f591 := Va.ext E590
  have V590 : Arv Z h590 b590 k590 .byte (2 : Int32) [(.int (0 : Int32)), (.int (0 : Int32))] (.int (0 : Int32)) := (Arv.new A590 (by decide)).pad (pad_rep [] (.int (0 : Int32)) 2)
  obtain ⟨cl592, Ar592, -, S592, M592, -, -⟩ := id f591
  obtain ⟨_, _, ⟨T593, L593, k593, n593⟩, -, X593, ⟨Lc593, hQ593, l593, y593, z593⟩, st593⟩ := Jvm.LawKit.callS X590 hx (y := (⟨"java/lang/Math", "min", "(II)I"⟩ : MethodName)) hown (mvT hZ (H 108 _ rfl)) (mvT hZ (H 73 _ rfl)) (mvT hZ (H 70 _ rfl)) (mvT hZ (H 74 _ rfl)) (by decide) (backOf (W := 4) (rm16 l Z a0 hw [] (2 : Int32) (2 : Int32)  h590 n0 Zs590 ) hZ (H 74 _ rfl) (H 70 _ rfl) (by decide) (by decide)) (g := (mkF m 24 #[.val (.ref ab), .val (.int (3 : Int32)), .val (.int (5 : Int32)), .val (.int (2 : Int32)), .val (.ref b590)] [(.int (2 : Int32)), (.int (2 : Int32)), (.int (0 : Int32)), (.ref b590), (.int (3 : Int32)), (.ref ab)])) rfl (by rw [hml]; rfl) (argsL := [(.int (2 : Int32)), (.int (2 : Int32))]) (rest := [(.int (0 : Int32)), (.ref b590), (.int (3 : Int32)), (.ref ab)]) (lenOf own_pd188 rfl) rfl (Nat.le_of_eq rfl) (hb hby d23_24) (fun _ _ => ⟨rfl, e590, (by decide : 1 + 0 ≤ _), (by decide : 2 + 0 ≤ _)⟩)
  dsimp only [Pt.U, Pt.locs, Pt.cells, Pt.slots] at X593 l593 y593 z593 st593 hQ593
  rw [l593, y593, z593] at X593
  clear l593 y593 z593
  obtain ⟨rfl, Nq593, e593⟩ := hQ593
  have N593 := Fr.app N589 Nq593
  have pre594 : ∀ t, Sp p e below m T593 27 #[.val (.ref ab), .val (.int (3 : Int32)), .val (.int (5 : Int32)), .val (.int (2 : Int32)), .val (.ref b590)] [(.int (if (2 : Int32) < (2 : Int32) then (2 : Int32) else (2 : Int32))), (.int (0 : Int32)), (.ref b590), (.int (3 : Int32)), (.ref ab)] t → Steps p.tables e below G0 t := by
    intro t k
    refine pre0 t ?_
    show Sp p e below m s₁ 0 #[.val (.ref ab), .val (.int (3 : Int32)), .val (.int (5 : Int32)), .unset, .unset] [] _
    refine XS.iloadN X0.here hx rfl (hb hby d23_0) rfl ?_
    refine XS.iloadN X0.here hx rfl (hb hby d23_1) rfl ?_
    show Sp p e below m s₁ 2 #[.val (.ref ab), .val (.int (3 : Int32)), .val (.int (5 : Int32)), .unset, .unset] [(.int (5 : Int32)), (.int (3 : Int32))] _
    refine st589 _ ?_
    show Sp p e below m T589 5 #[.val (.ref ab), .val (.int (3 : Int32)), .val (.int (5 : Int32)), .unset, .unset] [] _
    refine XS.iloadN X589.here hx rfl (hb hby d23_5) rfl ?_
    refine XS.iloadN X589.here hx rfl (hb hby d23_6) rfl ?_
    show Sp p e below m T589 7 #[.val (.ref ab), .val (.int (3 : Int32)), .val (.int (5 : Int32)), .unset, .unset] [(.int (3 : Int32)), (.int (5 : Int32))] _
    refine XS.isub X589.here hx rfl (hb hby d23_7) rfl ?_
    show Sp p e below m T589 8 #[.val (.ref ab), .val (.int (3 : Int32)), .val (.int (5 : Int32)), .unset, .unset] [(.int (2 : Int32))] _
    refine XS.istoreN X589.here hx rfl (hb hby d23_8) rfl (l' := #[.val (.ref ab), .val (.int (3 : Int32)), .val (.int (5 : Int32)), .val (.int (2 : Int32)), .unset]) rfl ?_
    show Sp p e below m T589 9 #[.val (.ref ab), .val (.int (3 : Int32)), .val (.int (5 : Int32)), .val (.int (2 : Int32)), .unset] [] _
    refine XS.iloadN X589.here hx rfl (hb hby d23_9) rfl ?_
    refine st590 _ ?_
    show Sp p e below m T590 12 #[.val (.ref ab), .val (.int (3 : Int32)), .val (.int (5 : Int32)), .val (.int (2 : Int32)), .unset] [(.ref b590)] _
    refine XS.astore X590.here hx rfl (hb hby d23_12) rfl rfl (l' := #[.val (.ref ab), .val (.int (3 : Int32)), .val (.int (5 : Int32)), .val (.int (2 : Int32)), .val (.ref b590)]) rfl ?_
    show Sp p e below m T590 14 #[.val (.ref ab), .val (.int (3 : Int32)), .val (.int (5 : Int32)), .val (.int (2 : Int32)), .val (.ref b590)] [] _
    refine XS.aloadN X590.here hx rfl (hb hby d23_14) rfl rfl ?_
    refine XS.iloadN X590.here hx rfl (hb hby d23_15) rfl ?_
    show Sp p e below m T590 16 #[.val (.ref ab), .val (.int (3 : Int32)), .val (.int (5 : Int32)), .val (.int (2 : Int32)), .val (.ref b590)] [(.int (3 : Int32)), (.ref ab)] _
    refine XS.aload X590.here hx rfl (hb hby d23_16) rfl rfl ?_
    refine XS.iconst X590.here hx rfl (hb hby d23_18) ?_
    show Sp p e below m T590 19 #[.val (.ref ab), .val (.int (3 : Int32)), .val (.int (5 : Int32)), .val (.int (2 : Int32)), .val (.ref b590)] [(.int (0 : Int32)), (.ref b590), (.int (3 : Int32)), (.ref ab)] _
    refine XS.aloadN X590.here hx rfl (hb hby d23_19) rfl rfl ?_
    refine X590.arraylength hx (by rw [e590]; exact Ar592.1) (State.isArrayOf_alike hZ.alike Ar592.2.1) (g := (mkF m 20 #[.val (.ref ab), .val (.int (3 : Int32)), .val (.int (5 : Int32)), .val (.int (2 : Int32)), .val (.ref b590)] [(.ref ab), (.int (0 : Int32)), (.ref b590), (.int (3 : Int32)), (.ref ab)])) rfl rfl (hb hby d23_20) _ ?_
    rw [len_of S592 M592]
    show Sp p e below m T590 21 #[.val (.ref ab), .val (.int (3 : Int32)), .val (.int (5 : Int32)), .val (.int (2 : Int32)), .val (.ref b590)] [(.int (5 : Int32)), (.int (0 : Int32)), (.ref b590), (.int (3 : Int32)), (.ref ab)] _
    refine XS.iloadN X590.here hx rfl (hb hby d23_21) rfl ?_
    refine XS.isub X590.here hx rfl (hb hby d23_22) rfl ?_
    show Sp p e below m T590 23 #[.val (.ref ab), .val (.int (3 : Int32)), .val (.int (5 : Int32)), .val (.int (2 : Int32)), .val (.ref b590)] [(.int (2 : Int32)), (.int (0 : Int32)), (.ref b590), (.int (3 : Int32)), (.ref ab)] _
    refine XS.iloadN X590.here hx rfl (hb hby d23_23) rfl ?_
    refine st593 _ ?_
    exact k
  rw [show (if (2 : Int32) < (2 : Int32) then (2 : Int32) else (2 : Int32)) = (2 : Int32) from by decide] at pre594
  obtain ⟨T595, h595, L595, X595, e595, N595, K595, Vc595, st595⟩ := cpA X593 hx hZ hown (H 109 _ rfl) (H 112 _ rfl) (H 110 _ rfl) (H 111 _ rfl) e593 f591 V590 (Or.inl ⟨rfl, rfl⟩) (by decide) (by decide) (by decide) (by decide) (by decide) rfl (Nat.le_of_ble_eq_true rfl) N593 g_b590 (g := (mkF m 27 #[.val (.ref ab), .val (.int (3 : Int32)), .val (.int (5 : Int32)), .val (.int (2 : Int32)), .val (.ref b590)] [(.int (2 : Int32)), (.int (0 : Int32)), (.ref b590), (.int (3 : Int32)), (.ref ab)])) rfl (by rw [hml]; rfl) rfl (hb hby d23_27) (by decide) (W := 0) (Nat.le_of_eq rfl) (by decide)
  have V595 : Arv Z h595 b590 k590 .byte (2 : Int32) [(.int ee3), (.int ee4)] (.int (0 : Int32)) := Vc595
  have Zs595 : n0 ≤ h595.size := Nat.le_trans Zs590 K595.1
  have KK595 : Keep h0 h595 [] := KK590.trans K595 (allS (Or.inr sz_b590) all0)
  have f596 := f591.keep K595 (ninS ne_ab_b590 nin0)
  obtain ⟨fs, hr, hrun, hended, hW, hsame⟩ := X595.leave (v := some (.ref b590)) (fun h => by rw [Bd.returns] at h; cases h)
  refine ⟨_, _, pre594 _ ?_, hrun, hended, _, _, rfl, ?_, ⟨_, rfl⟩, hW, hsame.mono (by decide) (by decide)⟩
  · show Sp p e below m T593 27 #[.val (.ref ab), .val (.int (3 : Int32)), .val (.int (5 : Int32)), .val (.int (2 : Int32)), .val (.ref b590)] [(.int (2 : Int32)), (.int (0 : Int32)), (.ref b590), (.int (3 : Int32)), (.ref ab)] _
    refine st595 _ ?_
    show Sp p e below m T595 30 #[.val (.ref ab), .val (.int (3 : Int32)), .val (.int (5 : Int32)), .val (.int (2 : Int32)), .val (.ref b590)] [] _
    refine XS.aload X595.here hx rfl (hb hby d23_30) rfl rfl ?_
    jvm_step X595.here [X595.here.top, hx, (hb hby d23_32), X595.method', Bd.returns, Value.isRef, FieldType.isReference]
    first | (intro acts; rw [hr _ acts rfl rfl rfl]) | rw [hr _ _ rfl rfl rfl]
    exact Steps.refl _
  · show Q23n5b3e5 Z ab kb ee0 ee1 ee2 ee3 ee4 h0 n0 _ T595.heap _
    rw [e595]
    exact ⟨b590, k590, rfl, N595, KK595, V595, g_b590, sz_b590⟩
theorem ef_22n5b3e5 (m : MethodId) (x0 : Addr) : entryFrame m #[(.ref x0), (.int (3 : Int32)), (.int (5 : Int32))] 3 = mkF m 0 #[.val (.ref x0), .val (.int (3 : Int32)), .val (.int (5 : Int32))] [] := by first | (simp [entryFrame, mkF, argsToLocals, Value.category]; done) | rfl
def Q22n5b3e5 (Z : State) (ab : Addr) (kb : ClassId) (ee0 : Int32) (ee1 : Int32) (ee2 : Int32) (ee3 : Int32) (ee4 : Int32) (h0 : Heap) (n0 : Nat) (v : Option Value) (h : Heap) (L : List Loc) : Prop := ∃ (rb : Addr) (rk : ClassId), v = some (.ref rb) ∧ Fr n0 L ∧ Keep h0 h [] ∧ Arv Z h rb rk .byte (2 : Int32) [(.int ee3), (.int ee4)] (.int (0 : Int32)) ∧ n0 ≤ rb ∧ h0.size ≤ rb
set_option maxRecDepth 65536 in
set_option maxHeartbeats 40000000 in
theorem rm22n5b3e5 (l : Launch) (Z : State) (a0 : Array Value) (hw : ∀ d ∈ tables_1, d.before a0 Z = true) (ws : List Jvm.Cond) (ab : Addr) (kb : ClassId) (ee0 : Int32) (ee1 : Int32) (ee2 : Int32) (ee3 : Int32) (ee4 : Int32) (h0 : Heap) (n0 : Nat) (Z0 : n0 ≤ h0.size) (Va : Arv Z h0 ab kb .byte (5 : Int32) [(.int ee0), (.int ee1), (.int ee2), (.int ee3), (.int ee4)] (.int (0 : Int32))) :
    MetFree l (⟨"java/util/Arrays", "copyOfRange", "([BII)[B"⟩ : MethodName) (head1 (Jvm.Cond.code (⟨"java/util/Arrays", "copyOfRange", "([BII)[B"⟩ : MethodName) jdk_65_method_132_code 3 (some (.array .byte)) :: ws) ({ frames := 2, cells := 1, slots := 2, locals := 34 } : Room)) (fun a U => a = #[(.ref ab), (.int (3 : Int32)), (.int (5 : Int32))] ∧ Z.Warmed39 U.vm ∧ U.heap = h0) (fun _ _ _ _ _ => True) (fun _ U o U' => ∃ v L, o = .returned v ∧ Q22n5b3e5 Z ab kb ee0 ee1 ee2 ee3 ee4 h0 n0 v U'.heap L ∧ FrameEnd U o U' L ({ frames := 2, cells := 1, slots := 2, locals := 34 } : Room).cells ({ frames := 2, cells := 1, slots := 2, locals := 34 } : Room).slots) := by
  refine MetFree.of_bodySF (plainFor_of_name own_pn248) hisR ?_
  intro p e s m args below meth c s₁ Bd hml0 hP hK
  have H := fun i c (h : tables_1[i]? = some c) => hw c (List.mem_of_getElem? h)
  obtain ⟨rfl, hZ, hh⟩ := hP
  have hx := Bd.exec
  have hby := Bd.bytes
  have hml : c.maxLocals = 3 := hml0
  have hown : s.vm.findClass "java/util/Arrays" = some m.cls := findClass_of_methodNamed Bd.named
  have hnm := (name_of_methodNamed Bd.named Bd.method).1
  have X0 : Stand p l e ({ frames := 2, cells := 1, slots := 2, locals := 34 } : Room) s m #[(.ref ab), (.int (3 : Int32)), (.int (5 : Int32))] below meth c s₁ [] 0 0 := Stand.of_body Bd
  have e0 : s₁.heap = h0 := by rw [← hh, Bd.state]; rfl
  have N0 := Fr.nil n0
  have pre0 : ∀ t, Sp p e below m s₁ 0 #[.val (.ref ab), .val (.int (3 : Int32)), .val (.int (5 : Int32))] [] t → Steps p.tables e below (s₁.setTop (entryFrame m #[(.ref ab), (.int (3 : Int32)), (.int (5 : Int32))] 3)) t := fun t k => castTop (ef_22n5b3e5 m ab) k
  generalize s₁.setTop (entryFrame m #[(.ref ab), (.int (3 : Int32)), (.int (5 : Int32))] 3) = G0 at pre0 ⊢
  obtain ⟨_, _, ⟨T599, L599, k599, n599⟩, -, X599, ⟨Lc599, hQ599, l599, y599, z599⟩, st599⟩ := Jvm.LawKit.callS X0 hx (y := (⟨"java/util/Arrays", "copyOfRangeByte", "([BII)[B"⟩ : MethodName)) hown (mvT hZ (H 102 _ rfl)) (mvT hZ (H 103 _ rfl)) (mvT hZ (H 100 _ rfl)) (mvT hZ (H 104 _ rfl)) (by decide) (backOf (W := 0) (rm23n5b3e5 l Z a0 hw [] ab kb ee0 ee1 ee2 ee3 ee4 h0 n0 Z0 Va) hZ (H 104 _ rfl) (H 100 _ rfl) (by decide) (by decide)) (g := (mkF m 13 #[.val (.ref ab), .val (.int (3 : Int32)), .val (.int (5 : Int32))] [(.int (5 : Int32)), (.int (3 : Int32)), (.ref ab)])) rfl (by rw [hml]; rfl) (argsL := [(.ref ab), (.int (3 : Int32)), (.int (5 : Int32))]) (rest := []) (lenOf own_pd282 rfl) rfl (Nat.le_of_eq rfl) (hb hby d22_13) (fun _ _ => ⟨rfl, e0, (by decide : 0 + 1 ≤ _), (by decide : 0 + 2 ≤ _)⟩)
  dsimp only [Pt.U, Pt.locs, Pt.cells, Pt.slots] at X599 l599 y599 z599 st599 hQ599
  rw [l599, y599, z599] at X599
  clear l599 y599 z599
  obtain ⟨rrb_599, rrk_599, rfl, Nq599, K599, p599_0, p599_1, p599_2⟩ := hQ599
  have N599 := Fr.app N0 Nq599
  have Zs599 : n0 ≤ T599.heap.size := Nat.le_trans Z0 K599.1
  have KK599 : Keep h0 T599.heap [] := (Keep.refl h0 _).trans K599 all0
  have ne_ab_rrb_599 : ab ≠ rrb_599 := Nat.ne_of_lt (Nat.lt_of_lt_of_le Va.lt p599_2)
  have sz_rrb_599 : h0.size ≤ rrb_599 := p599_2
  have f600 := Va.keep K599 nin0
  have g_rrb_599 := p599_1
  obtain ⟨fs, hr, hrun, hended, hW, hsame⟩ := X599.leave (v := some (.ref rrb_599)) (fun h => by rw [Bd.returns] at h; cases h)
  refine ⟨_, _, pre0 _ ?_, hrun, hended, _, _, rfl, ?_, ⟨_, rfl⟩, hW, hsame.mono (by decide) (by decide)⟩
  · show Sp p e below m s₁ 0 #[.val (.ref ab), .val (.int (3 : Int32)), .val (.int (5 : Int32))] [] _
    refine XS.iloadN X0.here hx rfl (hb hby d22_0) rfl ?_
    refine XS.ifYes X0.here hx rfl (pc0 := 1) (pc' := 10) rfl (hb hby d22_1) rfl ((if0 _ _).trans (feq (by decide : ¬ ((3 : Int32) = (0 : Int32)))).2) (by decide) (by decide) ?_
    show Sp p e below m s₁ 10 #[.val (.ref ab), .val (.int (3 : Int32)), .val (.int (5 : Int32))] [] _
    refine XS.aloadN X0.here hx rfl (hb hby d22_10) rfl rfl ?_
    refine XS.iloadN X0.here hx rfl (hb hby d22_11) rfl ?_
    show Sp p e below m s₁ 12 #[.val (.ref ab), .val (.int (3 : Int32)), .val (.int (5 : Int32))] [(.int (3 : Int32)), (.ref ab)] _
    refine XS.iloadN X0.here hx rfl (hb hby d22_12) rfl ?_
    refine st599 _ ?_
    show Sp p e below m T599 16 #[.val (.ref ab), .val (.int (3 : Int32)), .val (.int (5 : Int32))] [(.ref rrb_599)] _
    jvm_step X599.here [X599.here.top, hx, (hb hby d22_16), X599.method', Bd.returns, Value.isRef, FieldType.isReference]
    first | (intro acts; rw [hr _ acts rfl rfl rfl]) | rw [hr _ _ rfl rfl rfl]
    exact Steps.refl _
  · show Q22n5b3e5 Z ab kb ee0 ee1 ee2 ee3 ee4 h0 n0 _ T599.heap _
    exact ⟨rrb_599, rrk_599, rfl, N599, KK599, p599_0, g_rrb_599, sz_rrb_599⟩
theorem ef_21n5b3e5 (m : MethodId) (x0 : Addr) : entryFrame m #[(.ref x0), (.int (3 : Int32)), (.int (2 : Int32))] 3 = mkF m 0 #[.val (.ref x0), .val (.int (3 : Int32)), .val (.int (2 : Int32))] [] := by first | (simp [entryFrame, mkF, argsToLocals, Value.category]; done) | rfl
def Q21n5b3e5 (Z : State) (ab : Addr) (kb : ClassId) (ee0 : Int32) (ee1 : Int32) (ee2 : Int32) (ee3 : Int32) (ee4 : Int32) (h0 : Heap) (n0 : Nat) (v : Option Value) (h : Heap) (L : List Loc) : Prop := ∃ (so : Addr) (rb : Addr) (rk : ClassId), v = some (.ref so) ∧ Fr n0 L ∧ Keep h0 h [] ∧ Exa Z h so "java/lang/String" ∧ Fld Z h so "java/lang/String" "value" "[B" (.ref rb) ∧ Fld Z h so "java/lang/String" "coder" "B" (.int (0 : Int32)) ∧ Arv Z h rb rk .byte (2 : Int32) [(.int ee3), (.int ee4)] (.int (0 : Int32)) ∧ n0 ≤ so ∧ h0.size ≤ so ∧ n0 ≤ rb ∧ h0.size ≤ rb
set_option maxRecDepth 65536 in
set_option maxHeartbeats 40000000 in
theorem rm21n5b3e5 (l : Launch) (Z : State) (a0 : Array Value) (hw : ∀ d ∈ tables_1, d.before a0 Z = true) (ws : List Jvm.Cond) (ab : Addr) (kb : ClassId) (ee0 : Int32) (ee1 : Int32) (ee2 : Int32) (ee3 : Int32) (ee4 : Int32) (h0 : Heap) (n0 : Nat) (Z0 : n0 ≤ h0.size) (Va : Arv Z h0 ab kb .byte (5 : Int32) [(.int ee0), (.int ee1), (.int ee2), (.int ee3), (.int ee4)] (.int (0 : Int32))) :
    MetFree l (⟨"java/lang/StringLatin1", "newString", "([BII)Ljava/lang/String;"⟩ : MethodName) (head1 (Jvm.Cond.code (⟨"java/lang/StringLatin1", "newString", "([BII)Ljava/lang/String;"⟩ : MethodName) jdk_43_method_47_code 3 (some (.object "java/lang/String")) :: ws) ({ frames := 3, cells := 2, slots := 6, locals := 50 } : Room)) (fun a U => a = #[(.ref ab), (.int (3 : Int32)), (.int (2 : Int32))] ∧ Z.Warmed39 U.vm ∧ U.heap = h0) (fun _ _ _ _ _ => True) (fun _ U o U' => ∃ v L, o = .returned v ∧ Q21n5b3e5 Z ab kb ee0 ee1 ee2 ee3 ee4 h0 n0 v U'.heap L ∧ FrameEnd U o U' L ({ frames := 3, cells := 2, slots := 6, locals := 50 } : Room).cells ({ frames := 3, cells := 2, slots := 6, locals := 50 } : Room).slots) := by
  refine MetFree.of_bodySF (plainFor_of_name own_pn129) hisR ?_
  intro p e s m args below meth c s₁ Bd hml0 hP hK
  have H := fun i c (h : tables_1[i]? = some c) => hw c (List.mem_of_getElem? h)
  obtain ⟨rfl, hZ, hh⟩ := hP
  have hx := Bd.exec
  have hby := Bd.bytes
  have hml : c.maxLocals = 3 := hml0
  have hown : s.vm.findClass "java/lang/StringLatin1" = some m.cls := findClass_of_methodNamed Bd.named
  have hnm := (name_of_methodNamed Bd.named Bd.method).1
  have X0 : Stand p l e ({ frames := 3, cells := 2, slots := 6, locals := 50 } : Room) s m #[(.ref ab), (.int (3 : Int32)), (.int (2 : Int32))] below meth c s₁ [] 0 0 := Stand.of_body Bd
  have e0 : s₁.heap = h0 := by rw [← hh, Bd.state]; rfl
  have N0 := Fr.nil n0
  have pre0 : ∀ t, Sp p e below m s₁ 0 #[.val (.ref ab), .val (.int (3 : Int32)), .val (.int (2 : Int32))] [] t → Steps p.tables e below (s₁.setTop (entryFrame m #[(.ref ab), (.int (3 : Int32)), (.int (2 : Int32))] 3)) t := fun t k => castTop (ef_21n5b3e5 m ab) k
  generalize s₁.setTop (entryFrame m #[(.ref ab), (.int (3 : Int32)), (.int (2 : Int32))] 3) = G0 at pre0 ⊢
  obtain ⟨T614, h614, X614, e614, E614, A614, D614, -, st614⟩ := newO X0 hx hZ hown (H 97 _ rfl) (H 4 _ rfl) (H 5 _ rfl) e0 (g := (mkF m 7 #[.val (.ref ab), .val (.int (3 : Int32)), .val (.int (2 : Int32))] [])) rfl (hb hby d21_7) (by decide) (by decide)
  obtain ⟨b614, g614⟩ : ∃ z, z = h0.size := ⟨_, rfl⟩
  rw [← g614] at A614 D614 st614
  have g_b614 : n0 ≤ b614 := Nat.le_trans Z0 (Nat.le_of_eq g614.symm)
  have sz_b614 : h0.size ≤ b614 := Nat.le_of_eq g614.symm
  have lt_ab_b614 : ab < b614 := Nat.lt_of_lt_of_le Va.lt (Nat.le_of_eq g614.symm)
  have ne_ab_b614 : ab ≠ b614 := Nat.ne_of_lt lt_ab_b614
  have Zs614 : n0 ≤ h614.size := Nat.le_trans Z0 E614.1
  have KK614 : Keep h0 h614 [] := (Keep.refl h0 _).ext E614
  have f615 := Va.ext E614
  have f616 : Fld Z h614 b614 "java/lang/String" "coder" "B" (.int (0 : Int32)) := D614 (Or.inr (H 29 _ rfl)) (ty := .byte) (by decide)
  have f617 : Fld Z h614 b614 "java/lang/String" "value" "[B" .null := D614 (Or.inr (H 31 _ rfl)) (ty := (.array .byte)) (by decide)
  obtain ⟨_, _, ⟨T618, L618, k618, n618⟩, -, X618, ⟨Lc618, hQ618, l618, y618, z618⟩, st618⟩ := Jvm.LawKit.callS X614 hx (y := (⟨"java/util/Arrays", "copyOfRange", "([BII)[B"⟩ : MethodName)) hown (mvT hZ (H 98 _ rfl)) (mvT hZ (H 99 _ rfl)) (mvT hZ (H 100 _ rfl)) (mvT hZ (H 101 _ rfl)) (by decide) (backOf (W := 2) (rm22n5b3e5 l Z a0 hw [] ab kb ee0 ee1 ee2 ee3 ee4 h614 n0 Zs614 f615) hZ (H 101 _ rfl) (H 100 _ rfl) (by decide) (by decide)) (g := (mkF m 16 #[.val (.ref ab), .val (.int (3 : Int32)), .val (.int (2 : Int32))] [(.int (5 : Int32)), (.int (3 : Int32)), (.ref ab), (.ref b614), (.ref b614)])) rfl (by rw [hml]; rfl) (argsL := [(.ref ab), (.int (3 : Int32)), (.int (5 : Int32))]) (rest := [(.ref b614), (.ref b614)]) (lenOf own_pd282 rfl) rfl (Nat.le_of_eq rfl) (hb hby d21_16) (fun _ _ => ⟨rfl, e614, (by decide : 1 + 1 ≤ _), (by decide : 4 + 2 ≤ _)⟩)
  dsimp only [Pt.U, Pt.locs, Pt.cells, Pt.slots] at X618 l618 y618 z618 st618 hQ618
  rw [l618, y618, z618] at X618
  clear l618 y618 z618
  obtain ⟨rrb_618, rrk_618, rfl, Nq618, K618, p618_0, p618_1, p618_2⟩ := hQ618
  have N618 := Fr.app N0 Nq618
  have Zs618 : n0 ≤ T618.heap.size := Nat.le_trans Zs614 K618.1
  have KK618 : Keep h0 T618.heap [] := KK614.trans K618 all0
  have ne_ab_rrb_618 : ab ≠ rrb_618 := Nat.ne_of_lt (Nat.lt_of_lt_of_le f615.lt p618_2)
  have ne_b614_rrb_618 : b614 ≠ rrb_618 := Nat.ne_of_lt (Nat.lt_of_lt_of_le A614.lt p618_2)
  have sz_rrb_618 : h0.size ≤ rrb_618 := Nat.le_trans KK614.1 p618_2
  have f619 := f615.keep K618 nin0
  have f620 := A614.keep K618
  have f621 := f616.keep K618 nin0
  have f622 := f617.keep K618 nin0
  have g_rrb_618 := p618_1
  obtain ⟨_, _, ⟨T623, L623, k623, n623⟩, -, X623, ⟨Lc623, hQ623, l623, y623, z623⟩, st623⟩ := X618.specialBack hx (y := (⟨"java/lang/String", "<init>", "([BB)V"⟩ : MethodName)) rfl hown (mvT hZ (H 113 _ rfl)) (mvT hZ (H 114 _ rfl)) (mvT hZ (H 115 _ rfl)) (by decide) (backOf (W := 1) (rm25 l Z a0 hw [] b614 rrb_618  T618.heap n0 Zs618 f620 f622 f621 g_b614) hZ (H 115 _ rfl) (H 5 _ rfl) (by decide) (by decide)) (g := (mkF m 20 #[.val (.ref ab), .val (.int (3 : Int32)), .val (.int (2 : Int32))] [(.int (0 : Int32)), (.ref rrb_618), (.ref b614), (.ref b614)])) rfl (by rw [hml]; rfl) (Steps.refl _) (a := b614) (argsL := [(.ref rrb_618), (.int (0 : Int32))]) (rest := [(.ref b614)]) (lenOf own_pd305 rfl) rfl (Nat.le_of_eq rfl) (hb hby d21_20) (fun _ _ => ⟨rfl, rfl, (by decide : 2 + 0 ≤ _), (by decide : 6 + 0 ≤ _)⟩)
  dsimp only [Pt.U, Pt.locs, Pt.cells, Pt.slots] at X623 l623 y623 z623 st623 hQ623
  rw [l623, y623, z623] at X623
  clear l623 y623 z623
  obtain ⟨rfl, Nq623, K623, p623_0, p623_1, p623_2⟩ := hQ623
  have N623 := Fr.app N618 Nq623
  have Zs623 : n0 ≤ T623.heap.size := Nat.le_trans Zs618 K623.1
  have KK623 : Keep h0 T623.heap [] := KK618.trans K623 (allS (Or.inr sz_b614) all0)
  have f624 := f619.keep K623 (ninS ne_ab_b614 nin0)
  have f625 := f620.keep K623
  have f626 := p618_0.keep K623 (ninS (Ne.symm ne_b614_rrb_618) nin0)
  obtain ⟨fs, hr, hrun, hended, hW, hsame⟩ := X623.leave (v := some (.ref b614)) (fun h => by rw [Bd.returns] at h; cases h)
  refine ⟨_, _, pre0 _ ?_, hrun, hended, _, _, rfl, ?_, ⟨_, rfl⟩, hW, hsame.mono (by decide) (by decide)⟩
  · show Sp p e below m s₁ 0 #[.val (.ref ab), .val (.int (3 : Int32)), .val (.int (2 : Int32))] [] _
    refine XS.iloadN X0.here hx rfl (hb hby d21_0) rfl ?_
    refine XS.ifYes X0.here hx rfl (pc0 := 1) (pc' := 7) rfl (hb hby d21_1) rfl ((if0 _ _).trans (feq (by decide : ¬ ((2 : Int32) = (0 : Int32)))).2) (by decide) (by decide) ?_
    show Sp p e below m s₁ 7 #[.val (.ref ab), .val (.int (3 : Int32)), .val (.int (2 : Int32))] [] _
    refine st614 _ ?_
    show Sp p e below m T614 10 #[.val (.ref ab), .val (.int (3 : Int32)), .val (.int (2 : Int32))] [(.ref b614)] _
    refine XS.dup X614.here hx rfl (hb hby d21_10) rfl rfl ?_
    refine XS.aloadN X614.here hx rfl (hb hby d21_11) rfl rfl ?_
    show Sp p e below m T614 12 #[.val (.ref ab), .val (.int (3 : Int32)), .val (.int (2 : Int32))] [(.ref ab), (.ref b614), (.ref b614)] _
    refine XS.iloadN X614.here hx rfl (hb hby d21_12) rfl ?_
    refine XS.iloadN X614.here hx rfl (hb hby d21_13) rfl ?_
    show Sp p e below m T614 14 #[.val (.ref ab), .val (.int (3 : Int32)), .val (.int (2 : Int32))] [(.int (3 : Int32)), (.int (3 : Int32)), (.ref ab), (.ref b614), (.ref b614)] _
    refine XS.iloadN X614.here hx rfl (hb hby d21_14) rfl ?_
    refine XS.iadd X614.here hx rfl (hb hby d21_15) rfl ?_
    show Sp p e below m T614 16 #[.val (.ref ab), .val (.int (3 : Int32)), .val (.int (2 : Int32))] [(.int (5 : Int32)), (.int (3 : Int32)), (.ref ab), (.ref b614), (.ref b614)] _
    refine st618 _ ?_
    show Sp p e below m T618 19 #[.val (.ref ab), .val (.int (3 : Int32)), .val (.int (2 : Int32))] [(.ref rrb_618), (.ref b614), (.ref b614)] _
    refine XS.iconst X618.here hx rfl (hb hby d21_19) ?_
    refine st623.trans ?_
    show Sp p e below m T623 23 #[.val (.ref ab), .val (.int (3 : Int32)), .val (.int (2 : Int32))] [(.ref b614)] _
    jvm_step X623.here [X623.here.top, hx, (hb hby d21_23), X623.method', Bd.returns, Value.isRef, FieldType.isReference]
    first | (intro acts; rw [hr _ acts rfl rfl rfl]) | rw [hr _ _ rfl rfl rfl]
    exact Steps.refl _
  · show Q21n5b3e5 Z ab kb ee0 ee1 ee2 ee3 ee4 h0 n0 _ T623.heap _
    exact ⟨b614, rrb_618, rrk_618, rfl, N623, KK623, p623_0, p623_1, p623_2, f626, g_b614, sz_b614, g_rrb_618, sz_rrb_618⟩
theorem ef_18n5b3e5 (m : MethodId) (x0 : Addr) : entryFrame m #[(.ref x0), (.int (3 : Int32)), (.int (5 : Int32))] 5 = mkF m 0 #[.val (.ref x0), .val (.int (3 : Int32)), .val (.int (5 : Int32)), .unset, .unset] [] := by first | (simp [entryFrame, mkF, argsToLocals, Value.category]; done) | rfl
def Q18n5b3e5 (Z : State) (aa : Addr) (cs : Int32) (vf : Value) (ab : Addr) (kb : ClassId) (ee0 : Int32) (ee1 : Int32) (ee2 : Int32) (ee3 : Int32) (ee4 : Int32) (h0 : Heap) (n0 : Nat) (v : Option Value) (h : Heap) (L : List Loc) : Prop := ∃ (so : Addr) (rb : Addr) (rk : ClassId), v = some (.ref so) ∧ Fr n0 L ∧ Keep h0 h [] ∧ Exa Z h so "java/lang/String" ∧ Fld Z h so "java/lang/String" "value" "[B" (.ref rb) ∧ Fld Z h so "java/lang/String" "coder" "B" (.int (0 : Int32)) ∧ Arv Z h rb rk .byte (2 : Int32) [(.int ee3), (.int ee4)] (.int (0 : Int32)) ∧ n0 ≤ so ∧ h0.size ≤ so ∧ n0 ≤ rb ∧ h0.size ≤ rb
set_option maxRecDepth 65536 in
set_option maxHeartbeats 40000000 in
theorem rm18n5b3e5 (l : Launch) (Z : State) (a0 : Array Value) (hw : ∀ d ∈ tables_1, d.before a0 Z = true) (ws : List Jvm.Cond) (aa : Addr) (cs : Int32) (vf : Value) (ab : Addr) (kb : ClassId) (ee0 : Int32) (ee1 : Int32) (ee2 : Int32) (ee3 : Int32) (ee4 : Int32) (h0 : Heap) (n0 : Nat) (Z0 : n0 ≤ h0.size) (O0 : Old Z n0 h0) (Scs : Sta Z Z.heap "java/lang/String" "COMPACT_STRINGS" "Z" (.int cs)) (hcs : ¬ cs = (0 : Int32)) (Ssf : Sta Z Z.heap "jdk/internal/util/Preconditions" "SIOOBE_FORMATTER" "Ljava/util/function/BiFunction;" vf) (hvf : vf.isRef = true) (Ea : Exa Z h0 aa "java/lang/String") (Fv : Fld Z h0 aa "java/lang/String" "value" "[B" (.ref ab)) (Fc : Fld Z h0 aa "java/lang/String" "coder" "B" (.int (0 : Int32))) (Va : Arv Z h0 ab kb .byte (5 : Int32) [(.int ee0), (.int ee1), (.int ee2), (.int ee3), (.int ee4)] (.int (0 : Int32))) :
    MetFree l (⟨"java/lang/String", "substring", "(II)Ljava/lang/String;"⟩ : MethodName) (head1 (Jvm.Cond.code (⟨"java/lang/String", "substring", "(II)Ljava/lang/String;"⟩ : MethodName) jdk_42_method_92_code 5 (some (.object "java/lang/String")) :: ws) ({ frames := 4, cells := 2, slots := 6, locals := 64 } : Room)) (fun a U => a = #[(.ref aa), (.int (3 : Int32)), (.int (5 : Int32))] ∧ Z.Warmed39 U.vm ∧ U.heap = h0) (fun _ _ _ _ _ => True) (fun _ U o U' => ∃ v L, o = .returned v ∧ Q18n5b3e5 Z aa cs vf ab kb ee0 ee1 ee2 ee3 ee4 h0 n0 v U'.heap L ∧ FrameEnd U o U' L ({ frames := 4, cells := 2, slots := 6, locals := 64 } : Room).cells ({ frames := 4, cells := 2, slots := 6, locals := 64 } : Room).slots) := by
  refine MetFree.of_bodySF (plainFor_of_name own_pn8) hisR ?_
  intro p e s m args below meth c s₁ Bd hml0 hP hK
  have H := fun i c (h : tables_1[i]? = some c) => hw c (List.mem_of_getElem? h)
  obtain ⟨rfl, hZ, hh⟩ := hP
  have hx := Bd.exec
  have hby := Bd.bytes
  have hml : c.maxLocals = 5 := hml0
  have hown : s.vm.findClass "java/lang/String" = some m.cls := findClass_of_methodNamed Bd.named
  have hnm := (name_of_methodNamed Bd.named Bd.method).1
  have X0 : Stand p l e ({ frames := 4, cells := 2, slots := 6, locals := 64 } : Room) s m #[(.ref aa), (.int (3 : Int32)), (.int (5 : Int32))] below meth c s₁ [] 0 0 := Stand.of_body Bd
  have e0 : s₁.heap = h0 := by rw [← hh, Bd.state]; rfl
  have N0 := Fr.nil n0
  have pre0 : ∀ t, Sp p e below m s₁ 0 #[.val (.ref aa), .val (.int (3 : Int32)), .val (.int (5 : Int32)), .unset, .unset] [] t → Steps p.tables e below (s₁.setTop (entryFrame m #[(.ref aa), (.int (3 : Int32)), (.int (5 : Int32))] 5)) t := fun t k => castTop (ef_18n5b3e5 m aa) k
  generalize s₁.setTop (entryFrame m #[(.ref aa), (.int (3 : Int32)), (.int (5 : Int32))] 5) = G0 at pre0 ⊢
  obtain ⟨cq638, kq638, q638a, q638b, q638c⟩ := isOf hZ e0 Ea
  obtain ⟨_, _, ⟨T638, L638, k638, n638⟩, -, X638, ⟨Lc638, hQ638, l638, y638, z638⟩, st638⟩ := X0.virtualBack hx (y := (⟨"java/lang/String", "length", "()I"⟩ : MethodName)) (z := (⟨"java/lang/String", "length", "()I"⟩ : MethodName)) hown (mvT hZ (H 51 _ rfl)) (mvT hZ (H 52 _ rfl)) (notFace_of_selects (args := #[]) (mvT hZ (H 54 _ rfl))) (mvT hZ (H 54 _ rfl)) (mvT hZ (H 53 _ rfl)) (by decide) (backOf (W := 0) (rm11 l Z a0 hw [] aa cs vf ab kb (5 : Int32) [(.int ee0), (.int ee1), (.int ee2), (.int ee3), (.int ee4)] h0 n0 Z0 O0 Scs hcs Ssf hvf Ea Fv Fc Va) hZ (H 55 _ rfl) (H 5 _ rfl) (by decide) (by decide)) q638a q638c (g := (mkF m 1 #[.val (.ref aa), .val (.int (3 : Int32)), .val (.int (5 : Int32)), .unset, .unset] [(.ref aa)])) rfl (by rw [hml]; rfl) (Steps.refl _) (argsL := []) (rest := []) (lenOf own_pd214 rfl) rfl (Nat.le_of_eq rfl) (hb hby d18_1) (fun _ _ => ⟨rfl, e0, (by decide : 0 + 0 ≤ _), (by decide : 0 + 0 ≤ _)⟩)
  dsimp only [Pt.U, Pt.locs, Pt.cells, Pt.slots] at X638 l638 y638 z638 st638 hQ638
  rw [l638, y638, z638] at X638
  clear l638 y638 z638
  obtain ⟨rfl, Nq638, e638⟩ := hQ638
  have N638 := Fr.app N0 Nq638
  obtain ⟨_, _, ⟨T639, L639, k639, n639⟩, -, X639, ⟨Lc639, hQ639, l639, y639, z639⟩, st639⟩ := Jvm.LawKit.callS X638 hx (y := (⟨"java/lang/String", "checkBoundsBeginEnd", "(III)V"⟩ : MethodName)) hown (mvT hZ (H 86 _ rfl)) (mvT hZ (H 87 _ rfl)) (mvT hZ (H 5 _ rfl)) (mvT hZ (H 88 _ rfl)) (by decide) (backOf (W := 0) (rm19 l Z a0 hw [] (3 : Int32) (5 : Int32) (5 : Int32) cs vf h0 n0 Z0 O0 Scs hcs Ssf hvf (by decide) (by decide) (by decide)) hZ (H 88 _ rfl) (H 5 _ rfl) (by decide) (by decide)) (g := (mkF m 8 #[.val (.ref aa), .val (.int (3 : Int32)), .val (.int (5 : Int32)), .val (.int (5 : Int32)), .unset] [(.int (5 : Int32)), (.int (5 : Int32)), (.int (3 : Int32))])) rfl (by rw [hml]; rfl) (argsL := [(.int (3 : Int32)), (.int (5 : Int32)), (.int (5 : Int32))]) (rest := []) (lenOf own_pd332 rfl) rfl (Nat.le_of_eq rfl) (hb hby d18_8) (fun _ _ => ⟨rfl, e638, (by decide : 0 + 0 ≤ _), (by decide : 0 + 0 ≤ _)⟩)
  dsimp only [Pt.U, Pt.locs, Pt.cells, Pt.slots] at X639 l639 y639 z639 st639 hQ639
  rw [l639, y639, z639] at X639
  clear l639 y639 z639
  obtain ⟨rfl, Nq639, e639⟩ := hQ639
  have N639 := Fr.app N638 Nq639
  obtain ⟨cq640, kq640, q640a, q640b, q640c⟩ := isOf hZ e639 Ea
  obtain ⟨_, _, ⟨T640, L640, k640, n640⟩, -, X640, ⟨Lc640, hQ640, l640, y640, z640⟩, st640⟩ := X639.virtualBack hx (y := (⟨"java/lang/String", "isLatin1", "()Z"⟩ : MethodName)) (z := (⟨"java/lang/String", "isLatin1", "()Z"⟩ : MethodName)) hown (mvT hZ (H 46 _ rfl)) (mvT hZ (H 47 _ rfl)) (notFace_of_selects (args := #[]) (mvT hZ (H 49 _ rfl))) (mvT hZ (H 49 _ rfl)) (mvT hZ (H 48 _ rfl)) (by decide) (backOf (W := 0) (rm10 l Z a0 hw [] aa cs vf h0 n0 Z0 O0 Scs hcs Ssf hvf Fc) hZ (H 50 _ rfl) (H 5 _ rfl) (by decide) (by decide)) q640a q640c (g := (mkF m 28 #[.val (.ref aa), .val (.int (3 : Int32)), .val (.int (5 : Int32)), .val (.int (5 : Int32)), .val (.int (2 : Int32))] [(.ref aa)])) rfl (by rw [hml]; rfl) (Steps.refl _) (argsL := []) (rest := []) (lenOf own_pd132 rfl) rfl (Nat.le_of_eq rfl) (hb hby d18_28) (fun _ _ => ⟨rfl, e639, (by decide : 0 + 0 ≤ _), (by decide : 0 + 0 ≤ _)⟩)
  dsimp only [Pt.U, Pt.locs, Pt.cells, Pt.slots] at X640 l640 y640 z640 st640 hQ640
  rw [l640, y640, z640] at X640
  clear l640 y640 z640
  obtain ⟨rfl, Nq640, e640⟩ := hQ640
  have N640 := Fr.app N639 Nq640
  obtain ⟨T641, X641, e641, st641⟩ := getF X640 hx hZ hown (host := "") (Or.inl (H 30 _ rfl)) Via.refl e640 Fv (g := (mkF m 35 #[.val (.ref aa), .val (.int (3 : Int32)), .val (.int (5 : Int32)), .val (.int (5 : Int32)), .val (.int (2 : Int32))] [(.ref aa)])) rfl rfl (hb hby d18_35)
  obtain ⟨_, _, ⟨T642, L642, k642, n642⟩, -, X642, ⟨Lc642, hQ642, l642, y642, z642⟩, st642⟩ := Jvm.LawKit.callS X641 hx (y := (⟨"java/lang/StringLatin1", "newString", "([BII)Ljava/lang/String;"⟩ : MethodName)) hown (mvT hZ (H 94 _ rfl)) (mvT hZ (H 95 _ rfl)) (mvT hZ (H 63 _ rfl)) (mvT hZ (H 96 _ rfl)) (by decide) (backOf (W := 0) (rm21n5b3e5 l Z a0 hw [] ab kb ee0 ee1 ee2 ee3 ee4 h0 n0 Z0 Va) hZ (H 96 _ rfl) (H 63 _ rfl) (by decide) (by decide)) (g := (mkF m 41 #[.val (.ref aa), .val (.int (3 : Int32)), .val (.int (5 : Int32)), .val (.int (5 : Int32)), .val (.int (2 : Int32))] [(.int (2 : Int32)), (.int (3 : Int32)), (.ref ab)])) rfl (by rw [hml]; rfl) (argsL := [(.ref ab), (.int (3 : Int32)), (.int (2 : Int32))]) (rest := []) (lenOf own_pd350 rfl) rfl (Nat.le_of_eq rfl) (hb hby d18_41) (fun _ _ => ⟨rfl, e641, (by decide : 0 + 2 ≤ _), (by decide : 0 + 6 ≤ _)⟩)
  dsimp only [Pt.U, Pt.locs, Pt.cells, Pt.slots] at X642 l642 y642 z642 st642 hQ642
  rw [l642, y642, z642] at X642
  clear l642 y642 z642
  obtain ⟨rso_642, rrb_642, rrk_642, rfl, Nq642, K642, p642_0, p642_1, p642_2, p642_3, p642_4, p642_5, p642_6, p642_7⟩ := hQ642
  have N642 := Fr.app N640 Nq642
  have Zs642 : n0 ≤ T642.heap.size := Nat.le_trans Z0 K642.1
  have KK642 : Keep h0 T642.heap [] := (Keep.refl h0 _).trans K642 all0
  have ne_aa_rso_642 : aa ≠ rso_642 := Nat.ne_of_lt (Nat.lt_of_lt_of_le Ea.lt p642_5)
  have ne_ab_rso_642 : ab ≠ rso_642 := Nat.ne_of_lt (Nat.lt_of_lt_of_le Va.lt p642_5)
  have sz_rso_642 : h0.size ≤ rso_642 := p642_5
  have ne_aa_rrb_642 : aa ≠ rrb_642 := Nat.ne_of_lt (Nat.lt_of_lt_of_le Ea.lt p642_7)
  have ne_ab_rrb_642 : ab ≠ rrb_642 := Nat.ne_of_lt (Nat.lt_of_lt_of_le Va.lt p642_7)
  have sz_rrb_642 : h0.size ≤ rrb_642 := p642_7
  have O642 := O0.keep K642 (all0)
  have f643 := Scs.ext O642.2
  have f644 := Ssf.ext O642.2
  have f645 := Ea.keep K642
  have f646 := Fv.keep K642 nin0
  have f647 := Fc.keep K642 nin0
  have f648 := Va.keep K642 nin0
  have g_rso_642 := p642_4
  have g_rrb_642 := p642_6
  obtain ⟨fs, hr, hrun, hended, hW, hsame⟩ := X642.leave (v := some (.ref rso_642)) (fun h => by rw [Bd.returns] at h; cases h)
  refine ⟨_, _, pre0 _ ?_, hrun, hended, _, _, rfl, ?_, ⟨_, rfl⟩, hW, hsame.mono (by decide) (by decide)⟩
  · show Sp p e below m s₁ 0 #[.val (.ref aa), .val (.int (3 : Int32)), .val (.int (5 : Int32)), .unset, .unset] [] _
    refine XS.aloadN X0.here hx rfl (hb hby d18_0) rfl rfl ?_
    refine st638.trans ?_
    show Sp p e below m T638 4 #[.val (.ref aa), .val (.int (3 : Int32)), .val (.int (5 : Int32)), .unset, .unset] [(.int (5 : Int32))] _
    refine XS.istoreN X638.here hx rfl (hb hby d18_4) rfl (l' := #[.val (.ref aa), .val (.int (3 : Int32)), .val (.int (5 : Int32)), .val (.int (5 : Int32)), .unset]) rfl ?_
    show Sp p e below m T638 5 #[.val (.ref aa), .val (.int (3 : Int32)), .val (.int (5 : Int32)), .val (.int (5 : Int32)), .unset] [] _
    refine XS.iloadN X638.here hx rfl (hb hby d18_5) rfl ?_
    refine XS.iloadN X638.here hx rfl (hb hby d18_6) rfl ?_
    show Sp p e below m T638 7 #[.val (.ref aa), .val (.int (3 : Int32)), .val (.int (5 : Int32)), .val (.int (5 : Int32)), .unset] [(.int (5 : Int32)), (.int (3 : Int32))] _
    refine XS.iloadN X638.here hx rfl (hb hby d18_7) rfl ?_
    refine st639 _ ?_
    show Sp p e below m T639 11 #[.val (.ref aa), .val (.int (3 : Int32)), .val (.int (5 : Int32)), .val (.int (5 : Int32)), .unset] [] _
    refine XS.iloadN X639.here hx rfl (hb hby d18_11) rfl ?_
    refine XS.ifYes X639.here hx rfl (pc0 := 12) (pc' := 22) rfl (hb hby d18_12) rfl ((if0 _ _).trans (feq (by decide : ¬ ((3 : Int32) = (0 : Int32)))).2) (by decide) (by decide) ?_
    show Sp p e below m T639 22 #[.val (.ref aa), .val (.int (3 : Int32)), .val (.int (5 : Int32)), .val (.int (5 : Int32)), .unset] [] _
    refine XS.iloadN X639.here hx rfl (hb hby d18_22) rfl ?_
    refine XS.iloadN X639.here hx rfl (hb hby d18_23) rfl ?_
    show Sp p e below m T639 24 #[.val (.ref aa), .val (.int (3 : Int32)), .val (.int (5 : Int32)), .val (.int (5 : Int32)), .unset] [(.int (3 : Int32)), (.int (5 : Int32))] _
    refine XS.isub X639.here hx rfl (hb hby d18_24) rfl ?_
    show Sp p e below m T639 25 #[.val (.ref aa), .val (.int (3 : Int32)), .val (.int (5 : Int32)), .val (.int (5 : Int32)), .unset] [(.int (2 : Int32))] _
    refine XS.istore X639.here hx rfl (hb hby d18_25) rfl (l' := #[.val (.ref aa), .val (.int (3 : Int32)), .val (.int (5 : Int32)), .val (.int (5 : Int32)), .val (.int (2 : Int32))]) rfl ?_
    show Sp p e below m T639 27 #[.val (.ref aa), .val (.int (3 : Int32)), .val (.int (5 : Int32)), .val (.int (5 : Int32)), .val (.int (2 : Int32))] [] _
    refine XS.aloadN X639.here hx rfl (hb hby d18_27) rfl rfl ?_
    refine st640.trans ?_
    show Sp p e below m T640 31 #[.val (.ref aa), .val (.int (3 : Int32)), .val (.int (5 : Int32)), .val (.int (5 : Int32)), .val (.int (2 : Int32))] [(.int (1 : Int32))] _
    refine XS.ifNo X640.here hx rfl (hb hby d18_31) rfl ((if0 _ _).trans (feq (by decide : ¬ ((1 : Int32) = (0 : Int32)))).1) ?_
    show Sp p e below m T640 34 #[.val (.ref aa), .val (.int (3 : Int32)), .val (.int (5 : Int32)), .val (.int (5 : Int32)), .val (.int (2 : Int32))] [] _
    refine XS.aloadN X640.here hx rfl (hb hby d18_34) rfl rfl ?_
    refine st641 _ ?_
    show Sp p e below m T641 38 #[.val (.ref aa), .val (.int (3 : Int32)), .val (.int (5 : Int32)), .val (.int (5 : Int32)), .val (.int (2 : Int32))] [(.ref ab)] _
    refine XS.iloadN X641.here hx rfl (hb hby d18_38) rfl ?_
    refine XS.iload X641.here hx rfl (hb hby d18_39) rfl ?_
    show Sp p e below m T641 41 #[.val (.ref aa), .val (.int (3 : Int32)), .val (.int (5 : Int32)), .val (.int (5 : Int32)), .val (.int (2 : Int32))] [(.int (2 : Int32)), (.int (3 : Int32)), (.ref ab)] _
    refine st642 _ ?_
    show Sp p e below m T642 44 #[.val (.ref aa), .val (.int (3 : Int32)), .val (.int (5 : Int32)), .val (.int (5 : Int32)), .val (.int (2 : Int32))] [(.ref rso_642)] _
    refine XS.goto X642.here hx rfl (pc0 := 44) (pc' := 57) rfl (hb hby d18_44) (by decide) (by decide) ?_
    show Sp p e below m T642 57 #[.val (.ref aa), .val (.int (3 : Int32)), .val (.int (5 : Int32)), .val (.int (5 : Int32)), .val (.int (2 : Int32))] [(.ref rso_642)] _
    jvm_step X642.here [X642.here.top, hx, (hb hby d18_57), X642.method', Bd.returns, Value.isRef, FieldType.isReference]
    first | (intro acts; rw [hr _ acts rfl rfl rfl]) | rw [hr _ _ rfl rfl rfl]
    exact Steps.refl _
  · show Q18n5b3e5 Z aa cs vf ab kb ee0 ee1 ee2 ee3 ee4 h0 n0 _ T642.heap _
    exact ⟨rso_642, rrb_642, rrk_642, rfl, N642, KK642, p642_0, p642_1, p642_2, p642_3, g_rso_642, sz_rso_642, g_rrb_642, sz_rrb_642⟩
theorem ef_26n5b3e5 (m : MethodId) (x0 : Addr) : entryFrame m #[(.ref x0), (.int (3 : Int32))] 2 = mkF m 0 #[.val (.ref x0), .val (.int (3 : Int32))] [] := by first | (simp [entryFrame, mkF, argsToLocals, Value.category]; done) | rfl
def Q26n5b3e5 (Z : State) (aa : Addr) (cs : Int32) (vf : Value) (ab : Addr) (kb : ClassId) (ee0 : Int32) (ee1 : Int32) (ee2 : Int32) (ee3 : Int32) (ee4 : Int32) (h0 : Heap) (n0 : Nat) (v : Option Value) (h : Heap) (L : List Loc) : Prop := ∃ (so : Addr) (rb : Addr) (rk : ClassId), v = some (.ref so) ∧ Fr n0 L ∧ Keep h0 h [] ∧ Exa Z h so "java/lang/String" ∧ Fld Z h so "java/lang/String" "value" "[B" (.ref rb) ∧ Fld Z h so "java/lang/String" "coder" "B" (.int (0 : Int32)) ∧ Arv Z h rb rk .byte (2 : Int32) [(.int ee3), (.int ee4)] (.int (0 : Int32)) ∧ n0 ≤ so ∧ h0.size ≤ so ∧ n0 ≤ rb ∧ h0.size ≤ rb
set_option maxRecDepth 65536 in
set_option maxHeartbeats 40000000 in
theorem rm26n5b3e5 (l : Launch) (Z : State) (a0 : Array Value) (hw : ∀ d ∈ tables_1, d.before a0 Z = true) (ws : List Jvm.Cond) (aa : Addr) (cs : Int32) (vf : Value) (ab : Addr) (kb : ClassId) (ee0 : Int32) (ee1 : Int32) (ee2 : Int32) (ee3 : Int32) (ee4 : Int32) (h0 : Heap) (n0 : Nat) (Z0 : n0 ≤ h0.size) (O0 : Old Z n0 h0) (Scs : Sta Z Z.heap "java/lang/String" "COMPACT_STRINGS" "Z" (.int cs)) (hcs : ¬ cs = (0 : Int32)) (Ssf : Sta Z Z.heap "jdk/internal/util/Preconditions" "SIOOBE_FORMATTER" "Ljava/util/function/BiFunction;" vf) (hvf : vf.isRef = true) (Ea : Exa Z h0 aa "java/lang/String") (Fv : Fld Z h0 aa "java/lang/String" "value" "[B" (.ref ab)) (Fc : Fld Z h0 aa "java/lang/String" "coder" "B" (.int (0 : Int32))) (Va : Arv Z h0 ab kb .byte (5 : Int32) [(.int ee0), (.int ee1), (.int ee2), (.int ee3), (.int ee4)] (.int (0 : Int32))) :
    MetFree l (⟨"java/lang/String", "substring", "(I)Ljava/lang/String;"⟩ : MethodName) (head1 (Jvm.Cond.code (⟨"java/lang/String", "substring", "(I)Ljava/lang/String;"⟩ : MethodName) jdk_42_method_91_code 2 (some (.object "java/lang/String")) :: ws) ({ frames := 5, cells := 2, slots := 6, locals := 80 } : Room)) (fun a U => a = #[(.ref aa), (.int (3 : Int32))] ∧ Z.Warmed39 U.vm ∧ U.heap = h0) (fun _ _ _ _ _ => True) (fun _ U o U' => ∃ v L, o = .returned v ∧ Q26n5b3e5 Z aa cs vf ab kb ee0 ee1 ee2 ee3 ee4 h0 n0 v U'.heap L ∧ FrameEnd U o U' L ({ frames := 5, cells := 2, slots := 6, locals := 80 } : Room).cells ({ frames := 5, cells := 2, slots := 6, locals := 80 } : Room).slots) := by
  refine MetFree.of_bodySF (plainFor_of_name own_pn8) hisR ?_
  intro p e s m args below meth c s₁ Bd hml0 hP hK
  have H := fun i c (h : tables_1[i]? = some c) => hw c (List.mem_of_getElem? h)
  obtain ⟨rfl, hZ, hh⟩ := hP
  have hx := Bd.exec
  have hby := Bd.bytes
  have hml : c.maxLocals = 2 := hml0
  have hown : s.vm.findClass "java/lang/String" = some m.cls := findClass_of_methodNamed Bd.named
  have hnm := (name_of_methodNamed Bd.named Bd.method).1
  have X0 : Stand p l e ({ frames := 5, cells := 2, slots := 6, locals := 80 } : Room) s m #[(.ref aa), (.int (3 : Int32))] below meth c s₁ [] 0 0 := Stand.of_body Bd
  have e0 : s₁.heap = h0 := by rw [← hh, Bd.state]; rfl
  have N0 := Fr.nil n0
  have pre0 : ∀ t, Sp p e below m s₁ 0 #[.val (.ref aa), .val (.int (3 : Int32))] [] t → Steps p.tables e below (s₁.setTop (entryFrame m #[(.ref aa), (.int (3 : Int32))] 2)) t := fun t k => castTop (ef_26n5b3e5 m aa) k
  generalize s₁.setTop (entryFrame m #[(.ref aa), (.int (3 : Int32))] 2) = G0 at pre0 ⊢
  obtain ⟨cq657, kq657, q657a, q657b, q657c⟩ := isOf hZ e0 Ea
  obtain ⟨_, _, ⟨T657, L657, k657, n657⟩, -, X657, ⟨Lc657, hQ657, l657, y657, z657⟩, st657⟩ := X0.virtualBack hx (y := (⟨"java/lang/String", "length", "()I"⟩ : MethodName)) (z := (⟨"java/lang/String", "length", "()I"⟩ : MethodName)) hown (mvT hZ (H 51 _ rfl)) (mvT hZ (H 52 _ rfl)) (notFace_of_selects (args := #[]) (mvT hZ (H 54 _ rfl))) (mvT hZ (H 54 _ rfl)) (mvT hZ (H 53 _ rfl)) (by decide) (backOf (W := 2) (rm11 l Z a0 hw [] aa cs vf ab kb (5 : Int32) [(.int ee0), (.int ee1), (.int ee2), (.int ee3), (.int ee4)] h0 n0 Z0 O0 Scs hcs Ssf hvf Ea Fv Fc Va) hZ (H 55 _ rfl) (H 5 _ rfl) (by decide) (by decide)) q657a q657c (g := (mkF m 3 #[.val (.ref aa), .val (.int (3 : Int32))] [(.ref aa), (.int (3 : Int32)), (.ref aa)])) rfl (by rw [hml]; rfl) (Steps.refl _) (argsL := []) (rest := [(.int (3 : Int32)), (.ref aa)]) (lenOf own_pd214 rfl) rfl (Nat.le_of_eq rfl) (hb hby d26_3) (fun _ _ => ⟨rfl, e0, (by decide : 0 + 0 ≤ _), (by decide : 0 + 0 ≤ _)⟩)
  dsimp only [Pt.U, Pt.locs, Pt.cells, Pt.slots] at X657 l657 y657 z657 st657 hQ657
  rw [l657, y657, z657] at X657
  clear l657 y657 z657
  obtain ⟨rfl, Nq657, e657⟩ := hQ657
  have N657 := Fr.app N0 Nq657
  obtain ⟨cq658, kq658, q658a, q658b, q658c⟩ := isOf hZ e657 Ea
  obtain ⟨_, _, ⟨T658, L658, k658, n658⟩, -, X658, ⟨Lc658, hQ658, l658, y658, z658⟩, st658⟩ := X657.virtualBack hx (y := (⟨"java/lang/String", "substring", "(II)Ljava/lang/String;"⟩ : MethodName)) (z := (⟨"java/lang/String", "substring", "(II)Ljava/lang/String;"⟩ : MethodName)) hown (mvT hZ (H 121 _ rfl)) (mvT hZ (H 82 _ rfl)) (notFace_of_selects (args := #[]) (mvT hZ (H 84 _ rfl))) (mvT hZ (H 84 _ rfl)) (mvT hZ (H 83 _ rfl)) (by decide) (backOf (W := 0) (rm18n5b3e5 l Z a0 hw [] aa cs vf ab kb ee0 ee1 ee2 ee3 ee4 h0 n0 Z0 O0 Scs hcs Ssf hvf Ea Fv Fc Va) hZ (H 85 _ rfl) (H 5 _ rfl) (by decide) (by decide)) q658a q658c (g := (mkF m 6 #[.val (.ref aa), .val (.int (3 : Int32))] [(.int (5 : Int32)), (.int (3 : Int32)), (.ref aa)])) rfl (by rw [hml]; rfl) (Steps.refl _) (argsL := [(.int (3 : Int32)), (.int (5 : Int32))]) (rest := []) (lenOf own_pd358 rfl) rfl (Nat.le_of_eq rfl) (hb hby d26_6) (fun _ _ => ⟨rfl, e657, (by decide : 0 + 2 ≤ _), (by decide : 0 + 6 ≤ _)⟩)
  dsimp only [Pt.U, Pt.locs, Pt.cells, Pt.slots] at X658 l658 y658 z658 st658 hQ658
  rw [l658, y658, z658] at X658
  clear l658 y658 z658
  obtain ⟨rso_658, rrb_658, rrk_658, rfl, Nq658, K658, p658_0, p658_1, p658_2, p658_3, p658_4, p658_5, p658_6, p658_7⟩ := hQ658
  have N658 := Fr.app N657 Nq658
  have Zs658 : n0 ≤ T658.heap.size := Nat.le_trans Z0 K658.1
  have KK658 : Keep h0 T658.heap [] := (Keep.refl h0 _).trans K658 all0
  have ne_aa_rso_658 : aa ≠ rso_658 := Nat.ne_of_lt (Nat.lt_of_lt_of_le Ea.lt p658_5)
  have ne_ab_rso_658 : ab ≠ rso_658 := Nat.ne_of_lt (Nat.lt_of_lt_of_le Va.lt p658_5)
  have sz_rso_658 : h0.size ≤ rso_658 := p658_5
  have ne_aa_rrb_658 : aa ≠ rrb_658 := Nat.ne_of_lt (Nat.lt_of_lt_of_le Ea.lt p658_7)
  have ne_ab_rrb_658 : ab ≠ rrb_658 := Nat.ne_of_lt (Nat.lt_of_lt_of_le Va.lt p658_7)
  have sz_rrb_658 : h0.size ≤ rrb_658 := p658_7
  have O658 := O0.keep K658 (all0)
  have f659 := Scs.ext O658.2
  have f660 := Ssf.ext O658.2
  have f661 := Ea.keep K658
  have f662 := Fv.keep K658 nin0
  have f663 := Fc.keep K658 nin0
  have f664 := Va.keep K658 nin0
  have g_rso_658 := p658_4
  have g_rrb_658 := p658_6
  obtain ⟨fs, hr, hrun, hended, hW, hsame⟩ := X658.leave (v := some (.ref rso_658)) (fun h => by rw [Bd.returns] at h; cases h)
  refine ⟨_, _, pre0 _ ?_, hrun, hended, _, _, rfl, ?_, ⟨_, rfl⟩, hW, hsame.mono (by decide) (by decide)⟩
  · show Sp p e below m s₁ 0 #[.val (.ref aa), .val (.int (3 : Int32))] [] _
    refine XS.aloadN X0.here hx rfl (hb hby d26_0) rfl rfl ?_
    refine XS.iloadN X0.here hx rfl (hb hby d26_1) rfl ?_
    show Sp p e below m s₁ 2 #[.val (.ref aa), .val (.int (3 : Int32))] [(.int (3 : Int32)), (.ref aa)] _
    refine XS.aloadN X0.here hx rfl (hb hby d26_2) rfl rfl ?_
    refine st657.trans ?_
    show Sp p e below m T657 6 #[.val (.ref aa), .val (.int (3 : Int32))] [(.int (5 : Int32)), (.int (3 : Int32)), (.ref aa)] _
    refine st658.trans ?_
    show Sp p e below m T658 9 #[.val (.ref aa), .val (.int (3 : Int32))] [(.ref rso_658)] _
    jvm_step X658.here [X658.here.top, hx, (hb hby d26_9), X658.method', Bd.returns, Value.isRef, FieldType.isReference]
    first | (intro acts; rw [hr _ acts rfl rfl rfl]) | rw [hr _ _ rfl rfl rfl]
    exact Steps.refl _
  · show Q26n5b3e5 Z aa cs vf ab kb ee0 ee1 ee2 ee3 ee4 h0 n0 _ T658.heap _
    exact ⟨rso_658, rrb_658, rrk_658, rfl, N658, KK658, p658_0, p658_1, p658_2, p658_3, g_rso_658, sz_rso_658, g_rrb_658, sz_rrb_658⟩
theorem ef_7d2 (m : MethodId) (x0 : Addr) : entryFrame m #[(.ref x0)] 2 = mkF m 0 #[.val (.ref x0), .unset] [] := by first | (simp [entryFrame, mkF, argsToLocals, Value.category]; done) | rfl
def Q7d2 (Z : State) (aa : Addr) (cs : Int32) (vf : Value) (ab : Addr) (kb : ClassId) (ee0 : Int32) (ee1 : Int32) (ee2 : Int32) (ee3 : Int32) (ee4 : Int32) (h0 : Heap) (n0 : Nat) (v : Option Value) (h : Heap) (L : List Loc) : Prop := ∃ (tn : Addr) (s1 : Addr) (b1 : Addr) (k1 : ClassId) (s2 : Addr) (b2 : Addr) (k2 : ClassId), v = some (.ref tn) ∧ Fr n0 L ∧ Keep h0 h [] ∧ Exa Z h tn "com/example/tideline/tideline/model/TableName" ∧ Fld Z h tn "com/example/tideline/tideline/model/TableName" "schema" "Ljava/lang/String;" (.ref s1) ∧ Fld Z h tn "com/example/tideline/tideline/model/TableName" "table" "Ljava/lang/String;" (.ref s2) ∧ Exa Z h s1 "java/lang/String" ∧ Fld Z h s1 "java/lang/String" "value" "[B" (.ref b1) ∧ Fld Z h s1 "java/lang/String" "coder" "B" (.int (0 : Int32)) ∧ Arv Z h b1 k1 .byte (2 : Int32) [(.int ee0), (.int ee1)] (.int (0 : Int32)) ∧ Exa Z h s2 "java/lang/String" ∧ Fld Z h s2 "java/lang/String" "value" "[B" (.ref b2) ∧ Fld Z h s2 "java/lang/String" "coder" "B" (.int (0 : Int32)) ∧ Arv Z h b2 k2 .byte (2 : Int32) [(.int ee3), (.int ee4)] (.int (0 : Int32))
set_option maxRecDepth 65536 in
set_option maxHeartbeats 40000000 in
theorem rm7d2 (l : Launch) (Z : State) (a0 : Array Value) (hw : ∀ d ∈ tables_1, d.before a0 Z = true) (ws : List Jvm.Cond) (aa : Addr) (cs : Int32) (vf : Value) (ab : Addr) (kb : ClassId) (ee0 : Int32) (ee1 : Int32) (ee2 : Int32) (ee3 : Int32) (ee4 : Int32) (h0 : Heap) (n0 : Nat) (Z0 : n0 ≤ h0.size) (O0 : Old Z n0 h0) (Scs : Sta Z Z.heap "java/lang/String" "COMPACT_STRINGS" "Z" (.int cs)) (hcs : ¬ cs = (0 : Int32)) (Ssf : Sta Z Z.heap "jdk/internal/util/Preconditions" "SIOOBE_FORMATTER" "Ljava/util/function/BiFunction;" vf) (hvf : vf.isRef = true) (Ea : Exa Z h0 aa "java/lang/String") (Fv : Fld Z h0 aa "java/lang/String" "value" "[B" (.ref ab)) (Fc : Fld Z h0 aa "java/lang/String" "coder" "B" (.int (0 : Int32))) (Va : Arv Z h0 ab kb .byte (5 : Int32) [(.int ee0), (.int ee1), (.int ee2), (.int ee3), (.int ee4)] (.int (0 : Int32))) (hfind : own_find5 ee0 ee1 ee2 ee3 ee4 = (2 : Int32)) :
    MetFree l (⟨"com/example/tideline/tideline/model/TableName", "parse", "(Ljava/lang/String;)Lcom/example/tideline/tideline/model/TableName;"⟩ : MethodName) (head1 (Jvm.Cond.code (⟨"com/example/tideline/tideline/model/TableName", "parse", "(Ljava/lang/String;)Lcom/example/tideline/tideline/model/TableName;"⟩ : MethodName) prog_53_method_2_code 2 (some (.object "com/example/tideline/tideline/model/TableName")) :: ws) ({ frames := 6, cells := 5, slots := 14, locals := 96 } : Room)) (fun a U => a = #[(.ref aa)] ∧ Z.Warmed39 U.vm ∧ U.heap = h0) (fun _ _ _ _ _ => True) (fun _ U o U' => ∃ v L, o = .returned v ∧ Q7d2 Z aa cs vf ab kb ee0 ee1 ee2 ee3 ee4 h0 n0 v U'.heap L ∧ FrameEnd U o U' L ({ frames := 6, cells := 5, slots := 14, locals := 96 } : Room).cells ({ frames := 6, cells := 5, slots := 14, locals := 96 } : Room).slots) := by
  refine MetFree.of_bodySF (plainFor_of_name own_pn237) hisR ?_
  intro p e s m args below meth c s₁ Bd hml0 hP hK
  have H := fun i c (h : tables_1[i]? = some c) => hw c (List.mem_of_getElem? h)
  obtain ⟨rfl, hZ, hh⟩ := hP
  have hx := Bd.exec
  have hby := Bd.bytes
  have hml : c.maxLocals = 2 := hml0
  have hown : s.vm.findClass "com/example/tideline/tideline/model/TableName" = some m.cls := findClass_of_methodNamed Bd.named
  have hnm := (name_of_methodNamed Bd.named Bd.method).1
  have X0 : Stand p l e ({ frames := 6, cells := 5, slots := 14, locals := 96 } : Room) s m #[(.ref aa)] below meth c s₁ [] 0 0 := Stand.of_body Bd
  have e0 : s₁.heap = h0 := by rw [← hh, Bd.state]; rfl
  have N0 := Fr.nil n0
  have pre0 : ∀ t, Sp p e below m s₁ 0 #[.val (.ref aa), .unset] [] t → Steps p.tables e below (s₁.setTop (entryFrame m #[(.ref aa)] 2)) t := fun t k => castTop (ef_7d2 m aa) k
  generalize s₁.setTop (entryFrame m #[(.ref aa)] 2) = G0 at pre0 ⊢
  obtain ⟨cq717, kq717, q717a, q717b, q717c⟩ := isOf hZ e0 Ea
  obtain ⟨_, _, ⟨T717, L717, k717, n717⟩, -, X717, ⟨Lc717, hQ717, l717, y717, z717⟩, st717⟩ := X0.virtualBack hx (y := (⟨"java/lang/String", "indexOf", "(I)I"⟩ : MethodName)) (z := (⟨"java/lang/String", "indexOf", "(I)I"⟩ : MethodName)) hown (mvT hZ (H 36 _ rfl)) (mvT hZ (H 37 _ rfl)) (notFace_of_selects (args := #[]) (mvT hZ (H 39 _ rfl))) (mvT hZ (H 39 _ rfl)) (mvT hZ (H 38 _ rfl)) (by decide) (backOf (W := 0) (rm8n5 l Z a0 hw [] aa cs vf ab kb ee0 ee1 ee2 ee3 ee4 h0 n0 Z0 O0 Scs hcs Ssf hvf Ea Fv Fc Va) hZ (H 40 _ rfl) (H 5 _ rfl) (by decide) (by decide)) q717a q717c (g := (mkF m 3 #[.val (.ref aa), .unset] [(.int (46 : Int32)), (.ref aa)])) rfl (by rw [hml]; rfl) (Steps.refl _) (argsL := [(.int (46 : Int32))]) (rest := []) (lenOf own_pd363 rfl) rfl (Nat.le_of_eq rfl) (hb hby d7_3) (fun _ _ => ⟨rfl, e0, (by decide : 0 + 0 ≤ _), (by decide : 0 + 0 ≤ _)⟩)
  dsimp only [Pt.U, Pt.locs, Pt.cells, Pt.slots] at X717 l717 y717 z717 st717 hQ717
  rw [l717, y717, z717] at X717
  clear l717 y717 z717
  obtain ⟨rfl, Nq717, e717⟩ := hQ717
  have N717 := Fr.app N0 Nq717
  have pre718 : ∀ t, Sp p e below m T717 6 #[.val (.ref aa), .unset] [(.int (own_find5 ee0 ee1 ee2 ee3 ee4))] t → Steps p.tables e below G0 t := by
    intro t k
    refine pre0 t ?_
    show Sp p e below m s₁ 0 #[.val (.ref aa), .unset] [] _
    refine XS.aloadN X0.here hx rfl (hb hby d7_0) rfl rfl ?_
    refine XS.bipush X0.here hx rfl (hb hby d7_1) ?_
    show Sp p e below m s₁ 3 #[.val (.ref aa), .unset] [(.int (46 : Int32)), (.ref aa)] _
    refine st717.trans ?_
    exact k
  rw [show (own_find5 ee0 ee1 ee2 ee3 ee4) = (2 : Int32) from hfind] at pre718
  obtain ⟨cq719, kq719, q719a, q719b, q719c⟩ := isOf hZ e717 Ea
  obtain ⟨_, _, ⟨T719, L719, k719, n719⟩, -, X719, ⟨Lc719, hQ719, l719, y719, z719⟩, st719⟩ := X717.virtualBack hx (y := (⟨"java/lang/String", "length", "()I"⟩ : MethodName)) (z := (⟨"java/lang/String", "length", "()I"⟩ : MethodName)) hown (mvT hZ (H 78 _ rfl)) (mvT hZ (H 52 _ rfl)) (notFace_of_selects (args := #[]) (mvT hZ (H 54 _ rfl))) (mvT hZ (H 54 _ rfl)) (mvT hZ (H 53 _ rfl)) (by decide) (backOf (W := 1) (rm11 l Z a0 hw [] aa cs vf ab kb (5 : Int32) [(.int ee0), (.int ee1), (.int ee2), (.int ee3), (.int ee4)] h0 n0 Z0 O0 Scs hcs Ssf hvf Ea Fv Fc Va) hZ (H 55 _ rfl) (H 5 _ rfl) (by decide) (by decide)) q719a q719c (g := (mkF m 13 #[.val (.ref aa), .val (.int (2 : Int32))] [(.ref aa), (.int (2 : Int32))])) rfl (by rw [hml]; rfl) (Steps.refl _) (argsL := []) (rest := [(.int (2 : Int32))]) (lenOf own_pd214 rfl) rfl (Nat.le_of_eq rfl) (hb hby d7_13) (fun _ _ => ⟨rfl, e717, (by decide : 0 + 0 ≤ _), (by decide : 0 + 0 ≤ _)⟩)
  dsimp only [Pt.U, Pt.locs, Pt.cells, Pt.slots] at X719 l719 y719 z719 st719 hQ719
  rw [l719, y719, z719] at X719
  clear l719 y719 z719
  obtain ⟨rfl, Nq719, e719⟩ := hQ719
  have N719 := Fr.app N717 Nq719
  obtain ⟨T720, h720, X720, e720, E720, A720, D720, -, st720⟩ := newO X719 hx hZ hown (H 79 _ rfl) (H 80 _ rfl) (H 34 _ rfl) e719 (g := (mkF m 35 #[.val (.ref aa), .val (.int (2 : Int32))] [])) rfl (hb hby d7_35) (by decide) (by decide)
  obtain ⟨b720, g720⟩ : ∃ z, z = h0.size := ⟨_, rfl⟩
  rw [← g720] at A720 D720 st720
  have g_b720 : n0 ≤ b720 := Nat.le_trans Z0 (Nat.le_of_eq g720.symm)
  have sz_b720 : h0.size ≤ b720 := Nat.le_of_eq g720.symm
  have lt_aa_b720 : aa < b720 := Nat.lt_of_lt_of_le Ea.lt (Nat.le_of_eq g720.symm)
  have ne_aa_b720 : aa ≠ b720 := Nat.ne_of_lt lt_aa_b720
  have lt_ab_b720 : ab < b720 := Nat.lt_of_lt_of_le Va.lt (Nat.le_of_eq g720.symm)
  have ne_ab_b720 : ab ≠ b720 := Nat.ne_of_lt lt_ab_b720
  have Zs720 : n0 ≤ h720.size := Nat.le_trans Z0 E720.1
  have KK720 : Keep h0 h720 [] := (Keep.refl h0 _).ext E720
  have O720 := O0.ext E720
  have f721 := (Scs.ext O0.2).ext E720
  have f722 := (Ssf.ext O0.2).ext E720
  have f723 := Ea.ext E720
  have f724 := Fv.ext E720
  have f725 := Fc.ext E720
  have f726 := Va.ext E720
  have f727 : Fld Z h720 b720 "com/example/tideline/tideline/model/TableName" "schema" "Ljava/lang/String;" .null := D720 (Or.inr (H 132 _ rfl)) (ty := (.object "java/lang/String")) (by decide)
  have f728 : Fld Z h720 b720 "com/example/tideline/tideline/model/TableName" "table" "Ljava/lang/String;" .null := D720 (Or.inr (H 134 _ rfl)) (ty := (.object "java/lang/String")) (by decide)
  obtain ⟨cq729, kq729, q729a, q729b, q729c⟩ := isOf hZ e720 f723
  obtain ⟨_, _, ⟨T729, L729, k729, n729⟩, -, X729, ⟨Lc729, hQ729, l729, y729, z729⟩, st729⟩ := X720.virtualBack hx (y := (⟨"java/lang/String", "substring", "(II)Ljava/lang/String;"⟩ : MethodName)) (z := (⟨"java/lang/String", "substring", "(II)Ljava/lang/String;"⟩ : MethodName)) hown (mvT hZ (H 81 _ rfl)) (mvT hZ (H 82 _ rfl)) (notFace_of_selects (args := #[]) (mvT hZ (H 84 _ rfl))) (mvT hZ (H 84 _ rfl)) (mvT hZ (H 83 _ rfl)) (by decide) (backOf (W := 2) (rm18n5b0e2 l Z a0 hw [] aa cs vf ab kb ee0 ee1 ee2 ee3 ee4 h720 n0 Zs720 O720 Scs hcs Ssf hvf f723 f724 f725 f726) hZ (H 85 _ rfl) (H 5 _ rfl) (by decide) (by decide)) q729a q729c (g := (mkF m 42 #[.val (.ref aa), .val (.int (2 : Int32))] [(.int (2 : Int32)), (.int (0 : Int32)), (.ref aa), (.ref b720), (.ref b720)])) rfl (by rw [hml]; rfl) (Steps.refl _) (argsL := [(.int (0 : Int32)), (.int (2 : Int32))]) (rest := [(.ref b720), (.ref b720)]) (lenOf own_pd358 rfl) rfl (Nat.le_of_eq rfl) (hb hby d7_42) (fun _ _ => ⟨rfl, e720, (by decide : 1 + 2 ≤ _), (by decide : 2 + 6 ≤ _)⟩)
  dsimp only [Pt.U, Pt.locs, Pt.cells, Pt.slots] at X729 l729 y729 z729 st729 hQ729
  rw [l729, y729, z729] at X729
  clear l729 y729 z729
  obtain ⟨rso_729, rrb_729, rrk_729, rfl, Nq729, K729, p729_0, p729_1, p729_2, p729_3, p729_4, p729_5, p729_6, p729_7⟩ := hQ729
  have N729 := Fr.app N719 Nq729
  have Zs729 : n0 ≤ T729.heap.size := Nat.le_trans Zs720 K729.1
  have KK729 : Keep h0 T729.heap [] := KK720.trans K729 all0
  have ne_aa_rso_729 : aa ≠ rso_729 := Nat.ne_of_lt (Nat.lt_of_lt_of_le f723.lt p729_5)
  have ne_ab_rso_729 : ab ≠ rso_729 := Nat.ne_of_lt (Nat.lt_of_lt_of_le f726.lt p729_5)
  have ne_b720_rso_729 : b720 ≠ rso_729 := Nat.ne_of_lt (Nat.lt_of_lt_of_le A720.lt p729_5)
  have sz_rso_729 : h0.size ≤ rso_729 := Nat.le_trans KK720.1 p729_5
  have ne_aa_rrb_729 : aa ≠ rrb_729 := Nat.ne_of_lt (Nat.lt_of_lt_of_le f723.lt p729_7)
  have ne_ab_rrb_729 : ab ≠ rrb_729 := Nat.ne_of_lt (Nat.lt_of_lt_of_le f726.lt p729_7)
  have ne_b720_rrb_729 : b720 ≠ rrb_729 := Nat.ne_of_lt (Nat.lt_of_lt_of_le A720.lt p729_7)
  have sz_rrb_729 : h0.size ≤ rrb_729 := Nat.le_trans KK720.1 p729_7
  have O729 := O720.keep K729 (all0)
  have f730 := Scs.ext O729.2
  have f731 := Ssf.ext O729.2
  have f732 := f723.keep K729
  have f733 := f724.keep K729 nin0
  have f734 := f725.keep K729 nin0
  have f735 := f726.keep K729 nin0
  have f736 := A720.keep K729
  have f737 := f727.keep K729 nin0
  have f738 := f728.keep K729 nin0
  have g_rso_729 := p729_4
  have g_rrb_729 := p729_6
  obtain ⟨cq739, kq739, q739a, q739b, q739c⟩ := isOf hZ rfl f732
  obtain ⟨_, _, ⟨T739, L739, k739, n739⟩, -, X739, ⟨Lc739, hQ739, l739, y739, z739⟩, st739⟩ := X729.virtualBack hx (y := (⟨"java/lang/String", "substring", "(I)Ljava/lang/String;"⟩ : MethodName)) (z := (⟨"java/lang/String", "substring", "(I)Ljava/lang/String;"⟩ : MethodName)) hown (mvT hZ (H 116 _ rfl)) (mvT hZ (H 117 _ rfl)) (notFace_of_selects (args := #[]) (mvT hZ (H 119 _ rfl))) (mvT hZ (H 119 _ rfl)) (mvT hZ (H 118 _ rfl)) (by decide) (backOf (W := 3) (rm26n5b3e5 l Z a0 hw [] aa cs vf ab kb ee0 ee1 ee2 ee3 ee4 T729.heap n0 Zs729 O729 Scs hcs Ssf hvf f732 f733 f734 f735) hZ (H 120 _ rfl) (H 5 _ rfl) (by decide) (by decide)) q739a q739c (g := (mkF m 49 #[.val (.ref aa), .val (.int (2 : Int32))] [(.int (3 : Int32)), (.ref aa), (.ref rso_729), (.ref b720), (.ref b720)])) rfl (by rw [hml]; rfl) (Steps.refl _) (argsL := [(.int (3 : Int32))]) (rest := [(.ref rso_729), (.ref b720), (.ref b720)]) (lenOf own_pd384 rfl) rfl (Nat.le_of_eq rfl) (hb hby d7_49) (fun _ _ => ⟨rfl, rfl, (by decide : 3 + 2 ≤ _), (by decide : 8 + 6 ≤ _)⟩)
  dsimp only [Pt.U, Pt.locs, Pt.cells, Pt.slots] at X739 l739 y739 z739 st739 hQ739
  rw [l739, y739, z739] at X739
  clear l739 y739 z739
  obtain ⟨rso_739, rrb_739, rrk_739, rfl, Nq739, K739, p739_0, p739_1, p739_2, p739_3, p739_4, p739_5, p739_6, p739_7⟩ := hQ739
  have N739 := Fr.app N729 Nq739
  have Zs739 : n0 ≤ T739.heap.size := Nat.le_trans Zs729 K739.1
  have KK739 : Keep h0 T739.heap [] := KK729.trans K739 all0
  have ne_aa_rso_739 : aa ≠ rso_739 := Nat.ne_of_lt (Nat.lt_of_lt_of_le f732.lt p739_5)
  have ne_ab_rso_739 : ab ≠ rso_739 := Nat.ne_of_lt (Nat.lt_of_lt_of_le f735.lt p739_5)
  have ne_b720_rso_739 : b720 ≠ rso_739 := Nat.ne_of_lt (Nat.lt_of_lt_of_le f736.lt p739_5)
  have ne_rso_729_rso_739 : rso_729 ≠ rso_739 := Nat.ne_of_lt (Nat.lt_of_lt_of_le p729_0.lt p739_5)
  have ne_rrb_729_rso_739 : rrb_729 ≠ rso_739 := Nat.ne_of_lt (Nat.lt_of_lt_of_le p729_3.lt p739_5)
  have sz_rso_739 : h0.size ≤ rso_739 := Nat.le_trans KK729.1 p739_5
  have ne_aa_rrb_739 : aa ≠ rrb_739 := Nat.ne_of_lt (Nat.lt_of_lt_of_le f732.lt p739_7)
  have ne_ab_rrb_739 : ab ≠ rrb_739 := Nat.ne_of_lt (Nat.lt_of_lt_of_le f735.lt p739_7)
  have ne_b720_rrb_739 : b720 ≠ rrb_739 := Nat.ne_of_lt (Nat.lt_of_lt_of_le f736.lt p739_7)
  have ne_rso_729_rrb_739 : rso_729 ≠ rrb_739 := Nat.ne_of_lt (Nat.lt_of_lt_of_le p729_0.lt p739_7)
  have ne_rrb_729_rrb_739 : rrb_729 ≠ rrb_739 := Nat.ne_of_lt (Nat.lt_of_lt_of_le p729_3.lt p739_7)
  have sz_rrb_739 : h0.size ≤ rrb_739 := Nat.le_trans KK729.1 p739_7
  have O739 := O729.keep K739 (all0)
  have f740 := Scs.ext O739.2
  have f741 := Ssf.ext O739.2
  have f742 := f732.keep K739
  have f743 := f733.keep K739 nin0
  have f744 := f734.keep K739 nin0
  have f745 := f735.keep K739 nin0
  have f746 := f736.keep K739
  have f747 := f737.keep K739 nin0
  have f748 := f738.keep K739 nin0
  have f749 := p729_0.keep K739
  have f750 := p729_1.keep K739 nin0
  have f751 := p729_2.keep K739 nin0
  have f752 := p729_3.keep K739 nin0
  have g_rso_739 := p739_4
  have g_rrb_739 := p739_6
  obtain ⟨_, _, ⟨T753, L753, k753, n753⟩, -, X753, ⟨Lc753, hQ753, l753, y753, z753⟩, st753⟩ := X739.specialBack hx (y := (⟨"com/example/tideline/tideline/model/TableName", "<init>", "(Ljava/lang/String;Ljava/lang/String;)V"⟩ : MethodName)) rfl hown (mvT hZ (H 122 _ rfl)) (mvT hZ (H 123 _ rfl)) (mvT hZ (H 124 _ rfl)) (by decide) (backOf (W := 1) (rm27 l Z a0 hw [] b720 rso_729 rso_739  T739.heap n0 Zs739 f746 f747 f748 g_b720) hZ (H 124 _ rfl) (H 34 _ rfl) (by decide) (by decide)) (g := (mkF m 52 #[.val (.ref aa), .val (.int (2 : Int32))] [(.ref rso_739), (.ref rso_729), (.ref b720), (.ref b720)])) rfl (by rw [hml]; rfl) (Steps.refl _) (a := b720) (argsL := [(.ref rso_729), (.ref rso_739)]) (rest := [(.ref b720)]) (lenOf own_pd386 rfl) rfl (Nat.le_of_eq rfl) (hb hby d7_52) (fun _ _ => ⟨rfl, rfl, (by decide : 5 + 0 ≤ _), (by decide : 14 + 0 ≤ _)⟩)
  dsimp only [Pt.U, Pt.locs, Pt.cells, Pt.slots] at X753 l753 y753 z753 st753 hQ753
  rw [l753, y753, z753] at X753
  clear l753 y753 z753
  obtain ⟨rfl, Nq753, K753, p753_0, p753_1, p753_2⟩ := hQ753
  have N753 := Fr.app N739 Nq753
  have Zs753 : n0 ≤ T753.heap.size := Nat.le_trans Zs739 K753.1
  have KK753 : Keep h0 T753.heap [] := KK739.trans K753 (allS (Or.inr sz_b720) all0)
  have O753 := O739.keep K753 (allS g_b720 all0)
  have f754 := Scs.ext O753.2
  have f755 := Ssf.ext O753.2
  have f756 := f742.keep K753
  have f757 := f743.keep K753 (ninS ne_aa_b720 nin0)
  have f758 := f744.keep K753 (ninS ne_aa_b720 nin0)
  have f759 := f745.keep K753 (ninS ne_ab_b720 nin0)
  have f760 := f746.keep K753
  have f761 := f749.keep K753
  have f762 := f750.keep K753 (ninS (Ne.symm ne_b720_rso_729) nin0)
  have f763 := f751.keep K753 (ninS (Ne.symm ne_b720_rso_729) nin0)
  have f764 := f752.keep K753 (ninS (Ne.symm ne_b720_rrb_729) nin0)
  have f765 := p739_0.keep K753
  have f766 := p739_1.keep K753 (ninS (Ne.symm ne_b720_rso_739) nin0)
  have f767 := p739_2.keep K753 (ninS (Ne.symm ne_b720_rso_739) nin0)
  have f768 := p739_3.keep K753 (ninS (Ne.symm ne_b720_rrb_739) nin0)
  obtain ⟨fs, hr, hrun, hended, hW, hsame⟩ := X753.leave (v := some (.ref b720)) (fun h => by rw [Bd.returns] at h; cases h)
  refine ⟨_, _, pre718 _ ?_, hrun, hended, _, _, rfl, ?_, ⟨_, rfl⟩, hW, hsame.mono (by decide) (by decide)⟩
  · show Sp p e below m T717 6 #[.val (.ref aa), .unset] [(.int (2 : Int32))] _
    refine XS.istoreN X717.here hx rfl (hb hby d7_6) rfl (l' := #[.val (.ref aa), .val (.int (2 : Int32))]) rfl ?_
    show Sp p e below m T717 7 #[.val (.ref aa), .val (.int (2 : Int32))] [] _
    refine XS.iloadN X717.here hx rfl (hb hby d7_7) rfl ?_
    refine XS.ifNo X717.here hx rfl (hb hby d7_8) rfl ((if0 _ _).trans (tlt (by decide : ((0 : Int32) < (2 : Int32)))).2.2.2) ?_
    show Sp p e below m T717 11 #[.val (.ref aa), .val (.int (2 : Int32))] [] _
    refine XS.iloadN X717.here hx rfl (hb hby d7_11) rfl ?_
    refine XS.aloadN X717.here hx rfl (hb hby d7_12) rfl rfl ?_
    show Sp p e below m T717 13 #[.val (.ref aa), .val (.int (2 : Int32))] [(.ref aa), (.int (2 : Int32))] _
    refine st719.trans ?_
    show Sp p e below m T719 16 #[.val (.ref aa), .val (.int (2 : Int32))] [(.int (5 : Int32)), (.int (2 : Int32))] _
    refine XS.iconst X719.here hx rfl (hb hby d7_16) ?_
    refine XS.isub X719.here hx rfl (hb hby d7_17) rfl ?_
    show Sp p e below m T719 18 #[.val (.ref aa), .val (.int (2 : Int32))] [(.int (4 : Int32)), (.int (2 : Int32))] _
    refine XS.icmpYes X719.here hx rfl (pc0 := 18) (pc' := 35) rfl (hb hby d7_18) rfl (feq (by decide : ¬ ((2 : Int32) = (4 : Int32)))).2 (by decide) (by decide) ?_
    show Sp p e below m T719 35 #[.val (.ref aa), .val (.int (2 : Int32))] [] _
    refine st720 _ ?_
    show Sp p e below m T720 38 #[.val (.ref aa), .val (.int (2 : Int32))] [(.ref b720)] _
    refine XS.dup X720.here hx rfl (hb hby d7_38) rfl rfl ?_
    refine XS.aloadN X720.here hx rfl (hb hby d7_39) rfl rfl ?_
    show Sp p e below m T720 40 #[.val (.ref aa), .val (.int (2 : Int32))] [(.ref aa), (.ref b720), (.ref b720)] _
    refine XS.iconst X720.here hx rfl (hb hby d7_40) ?_
    refine XS.iloadN X720.here hx rfl (hb hby d7_41) rfl ?_
    show Sp p e below m T720 42 #[.val (.ref aa), .val (.int (2 : Int32))] [(.int (2 : Int32)), (.int (0 : Int32)), (.ref aa), (.ref b720), (.ref b720)] _
    refine st729.trans ?_
    show Sp p e below m T729 45 #[.val (.ref aa), .val (.int (2 : Int32))] [(.ref rso_729), (.ref b720), (.ref b720)] _
    refine XS.aloadN X729.here hx rfl (hb hby d7_45) rfl rfl ?_
    refine XS.iloadN X729.here hx rfl (hb hby d7_46) rfl ?_
    show Sp p e below m T729 47 #[.val (.ref aa), .val (.int (2 : Int32))] [(.int (2 : Int32)), (.ref aa), (.ref rso_729), (.ref b720), (.ref b720)] _
    refine XS.iconst X729.here hx rfl (hb hby d7_47) ?_
    refine XS.iadd X729.here hx rfl (hb hby d7_48) rfl ?_
    show Sp p e below m T729 49 #[.val (.ref aa), .val (.int (2 : Int32))] [(.int (3 : Int32)), (.ref aa), (.ref rso_729), (.ref b720), (.ref b720)] _
    refine st739.trans ?_
    show Sp p e below m T739 52 #[.val (.ref aa), .val (.int (2 : Int32))] [(.ref rso_739), (.ref rso_729), (.ref b720), (.ref b720)] _
    refine st753.trans ?_
    show Sp p e below m T753 55 #[.val (.ref aa), .val (.int (2 : Int32))] [(.ref b720)] _
    jvm_step X753.here [X753.here.top, hx, (hb hby d7_55), X753.method', Bd.returns, Value.isRef, FieldType.isReference]
    first | (intro acts; rw [hr _ acts rfl rfl rfl]) | rw [hr _ _ rfl rfl rfl]
    exact Steps.refl _
  · show Q7d2 Z aa cs vf ab kb ee0 ee1 ee2 ee3 ee4 h0 n0 _ T753.heap _
    exact ⟨b720, rso_729, rrb_729, rrk_729, rso_739, rrb_739, rrk_739, rfl, N753, KK753, p753_0, p753_1, p753_2, f761, f762, f763, f764, f765, f766, f767, f768⟩
theorem ef_23n5b0e3 (m : MethodId) (x0 : Addr) : entryFrame m #[(.ref x0), (.int (0 : Int32)), (.int (3 : Int32))] 5 = mkF m 0 #[.val (.ref x0), .val (.int (0 : Int32)), .val (.int (3 : Int32)), .unset, .unset] [] := by first | (simp [entryFrame, mkF, argsToLocals, Value.category]; done) | rfl
def Q23n5b0e3 (Z : State) (ab : Addr) (kb : ClassId) (ee0 : Int32) (ee1 : Int32) (ee2 : Int32) (ee3 : Int32) (ee4 : Int32) (h0 : Heap) (n0 : Nat) (v : Option Value) (h : Heap) (L : List Loc) : Prop := ∃ (rb : Addr) (rk : ClassId), v = some (.ref rb) ∧ Fr n0 L ∧ Keep h0 h [] ∧ Arv Z h rb rk .byte (3 : Int32) [(.int ee0), (.int ee1), (.int ee2)] (.int (0 : Int32)) ∧ n0 ≤ rb ∧ h0.size ≤ rb
set_option maxRecDepth 65536 in
set_option maxHeartbeats 40000000 in
theorem rm23n5b0e3 (l : Launch) (Z : State) (a0 : Array Value) (hw : ∀ d ∈ tables_1, d.before a0 Z = true) (ws : List Jvm.Cond) (ab : Addr) (kb : ClassId) (ee0 : Int32) (ee1 : Int32) (ee2 : Int32) (ee3 : Int32) (ee4 : Int32) (h0 : Heap) (n0 : Nat) (Z0 : n0 ≤ h0.size) (Va : Arv Z h0 ab kb .byte (5 : Int32) [(.int ee0), (.int ee1), (.int ee2), (.int ee3), (.int ee4)] (.int (0 : Int32))) :
    MetFree l (⟨"java/util/Arrays", "copyOfRangeByte", "([BII)[B"⟩ : MethodName) (head1 (Jvm.Cond.code (⟨"java/util/Arrays", "copyOfRangeByte", "([BII)[B"⟩ : MethodName) jdk_65_method_133_code 5 (some (.array .byte)) :: ws) ({ frames := 1, cells := 1, slots := 3, locals := 18 } : Room)) (fun a U => a = #[(.ref ab), (.int (0 : Int32)), (.int (3 : Int32))] ∧ Z.Warmed39 U.vm ∧ U.heap = h0) (fun _ _ _ _ _ => True) (fun _ U o U' => ∃ v L, o = .returned v ∧ Q23n5b0e3 Z ab kb ee0 ee1 ee2 ee3 ee4 h0 n0 v U'.heap L ∧ FrameEnd U o U' L ({ frames := 1, cells := 1, slots := 3, locals := 18 } : Room).cells ({ frames := 1, cells := 1, slots := 3, locals := 18 } : Room).slots) := by
  refine MetFree.of_bodySF (plainFor_of_name own_pn248) hisR ?_
  intro p e s m args below meth c s₁ Bd hml0 hP hK
  have H := fun i c (h : tables_1[i]? = some c) => hw c (List.mem_of_getElem? h)
  obtain ⟨rfl, hZ, hh⟩ := hP
  have hx := Bd.exec
  have hby := Bd.bytes
  have hml : c.maxLocals = 5 := hml0
  have hown : s.vm.findClass "java/util/Arrays" = some m.cls := findClass_of_methodNamed Bd.named
  have hnm := (name_of_methodNamed Bd.named Bd.method).1
  have X0 : Stand p l e ({ frames := 1, cells := 1, slots := 3, locals := 18 } : Room) s m #[(.ref ab), (.int (0 : Int32)), (.int (3 : Int32))] below meth c s₁ [] 0 0 := Stand.of_body Bd
  have e0 : s₁.heap = h0 := by rw [← hh, Bd.state]; rfl
  have N0 := Fr.nil n0
  have pre0 : ∀ t, Sp p e below m s₁ 0 #[.val (.ref ab), .val (.int (0 : Int32)), .val (.int (3 : Int32)), .unset, .unset] [] t → Steps p.tables e below (s₁.setTop (entryFrame m #[(.ref ab), (.int (0 : Int32)), (.int (3 : Int32))] 5)) t := fun t k => castTop (ef_23n5b0e3 m ab) k
  generalize s₁.setTop (entryFrame m #[(.ref ab), (.int (0 : Int32)), (.int (3 : Int32))] 5) = G0 at pre0 ⊢
  obtain ⟨_, _, ⟨T777, L777, k777, n777⟩, -, X777, ⟨Lc777, hQ777, l777, y777, z777⟩, st777⟩ := Jvm.LawKit.callS X0 hx (y := (⟨"java/util/Arrays", "checkLength", "(II)V"⟩ : MethodName)) hown (mvT hZ (H 105 _ rfl)) (mvT hZ (H 106 _ rfl)) (mvT hZ (H 100 _ rfl)) (mvT hZ (H 107 _ rfl)) (by decide) (backOf (W := 0) (rm24 l Z a0 hw [] (0 : Int32) (3 : Int32)  h0 n0 Z0 (by decide)) hZ (H 107 _ rfl) (H 100 _ rfl) (by decide) (by decide)) (g := (mkF m 2 #[.val (.ref ab), .val (.int (0 : Int32)), .val (.int (3 : Int32)), .unset, .unset] [(.int (3 : Int32)), (.int (0 : Int32))])) rfl (by rw [hml]; rfl) (argsL := [(.int (0 : Int32)), (.int (3 : Int32))]) (rest := []) (lenOf own_pd121 rfl) rfl (Nat.le_of_eq rfl) (hb hby d23_2) (fun _ _ => ⟨rfl, e0, (by decide : 0 + 0 ≤ _), (by decide : 0 + 0 ≤ _)⟩)
  dsimp only [Pt.U, Pt.locs, Pt.cells, Pt.slots] at X777 l777 y777 z777 st777 hQ777
  rw [l777, y777, z777] at X777
  clear l777 y777 z777
  obtain ⟨rfl, Nq777, e777⟩ := hQ777
  have N777 := Fr.app N0 Nq777
  obtain ⟨T778, h778, k778, X778, e778, E778, A778, st778⟩ := newP X777 hx hZ (H 21 _ rfl) e777 (g := (mkF m 10 #[.val (.ref ab), .val (.int (0 : Int32)), .val (.int (3 : Int32)), .val (.int (3 : Int32)), .unset] [(.int (3 : Int32))])) rfl (hb hby d23_10) rfl (by decide) (cap := 3) (by decide) (by decide) (by decide) (by decide)
  obtain ⟨b778, g778⟩ : ∃ z, z = h0.size := ⟨_, rfl⟩
  rw [← g778] at A778 st778
  have g_b778 : n0 ≤ b778 := Nat.le_trans Z0 (Nat.le_of_eq g778.symm)
  have sz_b778 : h0.size ≤ b778 := Nat.le_of_eq g778.symm
  have lt_ab_b778 : ab < b778 := Nat.lt_of_lt_of_le Va.lt (Nat.le_of_eq g778.symm)
  have ne_ab_b778 : ab ≠ b778 := Nat.ne_of_lt lt_ab_b778
  have Zs778 : n0 ≤ h778.size := Nat.le_trans Z0 E778.1
  have KK778 : Keep h0 h778 [] := (Keep.refl h0 _).ext E778
  have f779 := Va.ext E778
  have V778 : Arv Z h778 b778 k778 .byte (3 : Int32) [(.int (0 : Int32)), (.int (0 : Int32)), (.int (0 : Int32))] (.int (0 : Int32)) := (Arv.new A778 (by decide)).pad (pad_rep [] (.int (0 : Int32)) 3)
  obtain ⟨cl780, Ar780, -, S780, M780, -, -⟩ := id f779
  obtain ⟨_, _, ⟨T781, L781, k781, n781⟩, -, X781, ⟨Lc781, hQ781, l781, y781, z781⟩, st781⟩ := Jvm.LawKit.callS X778 hx (y := (⟨"java/lang/Math", "min", "(II)I"⟩ : MethodName)) hown (mvT hZ (H 108 _ rfl)) (mvT hZ (H 73 _ rfl)) (mvT hZ (H 70 _ rfl)) (mvT hZ (H 74 _ rfl)) (by decide) (backOf (W := 4) (rm16 l Z a0 hw [] (5 : Int32) (3 : Int32)  h778 n0 Zs778 ) hZ (H 74 _ rfl) (H 70 _ rfl) (by decide) (by decide)) (g := (mkF m 24 #[.val (.ref ab), .val (.int (0 : Int32)), .val (.int (3 : Int32)), .val (.int (3 : Int32)), .val (.ref b778)] [(.int (3 : Int32)), (.int (5 : Int32)), (.int (0 : Int32)), (.ref b778), (.int (0 : Int32)), (.ref ab)])) rfl (by rw [hml]; rfl) (argsL := [(.int (5 : Int32)), (.int (3 : Int32))]) (rest := [(.int (0 : Int32)), (.ref b778), (.int (0 : Int32)), (.ref ab)]) (lenOf own_pd188 rfl) rfl (Nat.le_of_eq rfl) (hb hby d23_24) (fun _ _ => ⟨rfl, e778, (by decide : 1 + 0 ≤ _), (by decide : 3 + 0 ≤ _)⟩)
  dsimp only [Pt.U, Pt.locs, Pt.cells, Pt.slots] at X781 l781 y781 z781 st781 hQ781
  rw [l781, y781, z781] at X781
  clear l781 y781 z781
  obtain ⟨rfl, Nq781, e781⟩ := hQ781
  have N781 := Fr.app N777 Nq781
  have pre782 : ∀ t, Sp p e below m T781 27 #[.val (.ref ab), .val (.int (0 : Int32)), .val (.int (3 : Int32)), .val (.int (3 : Int32)), .val (.ref b778)] [(.int (if (3 : Int32) < (5 : Int32) then (3 : Int32) else (5 : Int32))), (.int (0 : Int32)), (.ref b778), (.int (0 : Int32)), (.ref ab)] t → Steps p.tables e below G0 t := by
    intro t k
    refine pre0 t ?_
    show Sp p e below m s₁ 0 #[.val (.ref ab), .val (.int (0 : Int32)), .val (.int (3 : Int32)), .unset, .unset] [] _
    refine XS.iloadN X0.here hx rfl (hb hby d23_0) rfl ?_
    refine XS.iloadN X0.here hx rfl (hb hby d23_1) rfl ?_
    show Sp p e below m s₁ 2 #[.val (.ref ab), .val (.int (0 : Int32)), .val (.int (3 : Int32)), .unset, .unset] [(.int (3 : Int32)), (.int (0 : Int32))] _
    refine st777 _ ?_
    show Sp p e below m T777 5 #[.val (.ref ab), .val (.int (0 : Int32)), .val (.int (3 : Int32)), .unset, .unset] [] _
    refine XS.iloadN X777.here hx rfl (hb hby d23_5) rfl ?_
    refine XS.iloadN X777.here hx rfl (hb hby d23_6) rfl ?_
    show Sp p e below m T777 7 #[.val (.ref ab), .val (.int (0 : Int32)), .val (.int (3 : Int32)), .unset, .unset] [(.int (0 : Int32)), (.int (3 : Int32))] _
    refine XS.isub X777.here hx rfl (hb hby d23_7) rfl ?_
    show Sp p e below m T777 8 #[.val (.ref ab), .val (.int (0 : Int32)), .val (.int (3 : Int32)), .unset, .unset] [(.int (3 : Int32))] _
    refine XS.istoreN X777.here hx rfl (hb hby d23_8) rfl (l' := #[.val (.ref ab), .val (.int (0 : Int32)), .val (.int (3 : Int32)), .val (.int (3 : Int32)), .unset]) rfl ?_
    show Sp p e below m T777 9 #[.val (.ref ab), .val (.int (0 : Int32)), .val (.int (3 : Int32)), .val (.int (3 : Int32)), .unset] [] _
    refine XS.iloadN X777.here hx rfl (hb hby d23_9) rfl ?_
    refine st778 _ ?_
    show Sp p e below m T778 12 #[.val (.ref ab), .val (.int (0 : Int32)), .val (.int (3 : Int32)), .val (.int (3 : Int32)), .unset] [(.ref b778)] _
    refine XS.astore X778.here hx rfl (hb hby d23_12) rfl rfl (l' := #[.val (.ref ab), .val (.int (0 : Int32)), .val (.int (3 : Int32)), .val (.int (3 : Int32)), .val (.ref b778)]) rfl ?_
    show Sp p e below m T778 14 #[.val (.ref ab), .val (.int (0 : Int32)), .val (.int (3 : Int32)), .val (.int (3 : Int32)), .val (.ref b778)] [] _
    refine XS.aloadN X778.here hx rfl (hb hby d23_14) rfl rfl ?_
    refine XS.iloadN X778.here hx rfl (hb hby d23_15) rfl ?_
    show Sp p e below m T778 16 #[.val (.ref ab), .val (.int (0 : Int32)), .val (.int (3 : Int32)), .val (.int (3 : Int32)), .val (.ref b778)] [(.int (0 : Int32)), (.ref ab)] _
    refine XS.aload X778.here hx rfl (hb hby d23_16) rfl rfl ?_
    refine XS.iconst X778.here hx rfl (hb hby d23_18) ?_
    show Sp p e below m T778 19 #[.val (.ref ab), .val (.int (0 : Int32)), .val (.int (3 : Int32)), .val (.int (3 : Int32)), .val (.ref b778)] [(.int (0 : Int32)), (.ref b778), (.int (0 : Int32)), (.ref ab)] _
    refine XS.aloadN X778.here hx rfl (hb hby d23_19) rfl rfl ?_
    refine X778.arraylength hx (by rw [e778]; exact Ar780.1) (State.isArrayOf_alike hZ.alike Ar780.2.1) (g := (mkF m 20 #[.val (.ref ab), .val (.int (0 : Int32)), .val (.int (3 : Int32)), .val (.int (3 : Int32)), .val (.ref b778)] [(.ref ab), (.int (0 : Int32)), (.ref b778), (.int (0 : Int32)), (.ref ab)])) rfl rfl (hb hby d23_20) _ ?_
    rw [len_of S780 M780]
    show Sp p e below m T778 21 #[.val (.ref ab), .val (.int (0 : Int32)), .val (.int (3 : Int32)), .val (.int (3 : Int32)), .val (.ref b778)] [(.int (5 : Int32)), (.int (0 : Int32)), (.ref b778), (.int (0 : Int32)), (.ref ab)] _
    refine XS.iloadN X778.here hx rfl (hb hby d23_21) rfl ?_
    refine XS.isub X778.here hx rfl (hb hby d23_22) rfl ?_
    show Sp p e below m T778 23 #[.val (.ref ab), .val (.int (0 : Int32)), .val (.int (3 : Int32)), .val (.int (3 : Int32)), .val (.ref b778)] [(.int (5 : Int32)), (.int (0 : Int32)), (.ref b778), (.int (0 : Int32)), (.ref ab)] _
    refine XS.iloadN X778.here hx rfl (hb hby d23_23) rfl ?_
    refine st781 _ ?_
    exact k
  rw [show (if (3 : Int32) < (5 : Int32) then (3 : Int32) else (5 : Int32)) = (3 : Int32) from by decide] at pre782
  obtain ⟨T783, h783, L783, X783, e783, N783, K783, Vc783, st783⟩ := cpA X781 hx hZ hown (H 109 _ rfl) (H 112 _ rfl) (H 110 _ rfl) (H 111 _ rfl) e781 f779 V778 (Or.inl ⟨rfl, rfl⟩) (by decide) (by decide) (by decide) (by decide) (by decide) rfl (Nat.le_of_ble_eq_true rfl) N781 g_b778 (g := (mkF m 27 #[.val (.ref ab), .val (.int (0 : Int32)), .val (.int (3 : Int32)), .val (.int (3 : Int32)), .val (.ref b778)] [(.int (3 : Int32)), (.int (0 : Int32)), (.ref b778), (.int (0 : Int32)), (.ref ab)])) rfl (by rw [hml]; rfl) rfl (hb hby d23_27) (by decide) (W := 0) (Nat.le_of_eq rfl) (by decide)
  have V783 : Arv Z h783 b778 k778 .byte (3 : Int32) [(.int ee0), (.int ee1), (.int ee2)] (.int (0 : Int32)) := Vc783
  have Zs783 : n0 ≤ h783.size := Nat.le_trans Zs778 K783.1
  have KK783 : Keep h0 h783 [] := KK778.trans K783 (allS (Or.inr sz_b778) all0)
  have f784 := f779.keep K783 (ninS ne_ab_b778 nin0)
  obtain ⟨fs, hr, hrun, hended, hW, hsame⟩ := X783.leave (v := some (.ref b778)) (fun h => by rw [Bd.returns] at h; cases h)
  refine ⟨_, _, pre782 _ ?_, hrun, hended, _, _, rfl, ?_, ⟨_, rfl⟩, hW, hsame.mono (by decide) (by decide)⟩
  · show Sp p e below m T781 27 #[.val (.ref ab), .val (.int (0 : Int32)), .val (.int (3 : Int32)), .val (.int (3 : Int32)), .val (.ref b778)] [(.int (3 : Int32)), (.int (0 : Int32)), (.ref b778), (.int (0 : Int32)), (.ref ab)] _
    refine st783 _ ?_
    show Sp p e below m T783 30 #[.val (.ref ab), .val (.int (0 : Int32)), .val (.int (3 : Int32)), .val (.int (3 : Int32)), .val (.ref b778)] [] _
    refine XS.aload X783.here hx rfl (hb hby d23_30) rfl rfl ?_
    jvm_step X783.here [X783.here.top, hx, (hb hby d23_32), X783.method', Bd.returns, Value.isRef, FieldType.isReference]
    first | (intro acts; rw [hr _ acts rfl rfl rfl]) | rw [hr _ _ rfl rfl rfl]
    exact Steps.refl _
  · show Q23n5b0e3 Z ab kb ee0 ee1 ee2 ee3 ee4 h0 n0 _ T783.heap _
    rw [e783]
    exact ⟨b778, k778, rfl, N783, KK783, V783, g_b778, sz_b778⟩
theorem ef_22n5b0e3 (m : MethodId) (x0 : Addr) : entryFrame m #[(.ref x0), (.int (0 : Int32)), (.int (3 : Int32))] 3 = mkF m 0 #[.val (.ref x0), .val (.int (0 : Int32)), .val (.int (3 : Int32))] [] := by first | (simp [entryFrame, mkF, argsToLocals, Value.category]; done) | rfl
def Q22n5b0e3 (Z : State) (ab : Addr) (kb : ClassId) (ee0 : Int32) (ee1 : Int32) (ee2 : Int32) (ee3 : Int32) (ee4 : Int32) (h0 : Heap) (n0 : Nat) (v : Option Value) (h : Heap) (L : List Loc) : Prop := ∃ (rb : Addr) (rk : ClassId), v = some (.ref rb) ∧ Fr n0 L ∧ Keep h0 h [] ∧ Arv Z h rb rk .byte (3 : Int32) [(.int ee0), (.int ee1), (.int ee2)] (.int (0 : Int32)) ∧ n0 ≤ rb ∧ h0.size ≤ rb
set_option maxRecDepth 65536 in
set_option maxHeartbeats 40000000 in
theorem rm22n5b0e3 (l : Launch) (Z : State) (a0 : Array Value) (hw : ∀ d ∈ tables_1, d.before a0 Z = true) (ws : List Jvm.Cond) (ab : Addr) (kb : ClassId) (ee0 : Int32) (ee1 : Int32) (ee2 : Int32) (ee3 : Int32) (ee4 : Int32) (h0 : Heap) (n0 : Nat) (Z0 : n0 ≤ h0.size) (Va : Arv Z h0 ab kb .byte (5 : Int32) [(.int ee0), (.int ee1), (.int ee2), (.int ee3), (.int ee4)] (.int (0 : Int32))) :
    MetFree l (⟨"java/util/Arrays", "copyOfRange", "([BII)[B"⟩ : MethodName) (head1 (Jvm.Cond.code (⟨"java/util/Arrays", "copyOfRange", "([BII)[B"⟩ : MethodName) jdk_65_method_132_code 3 (some (.array .byte)) :: ws) ({ frames := 2, cells := 1, slots := 3, locals := 34 } : Room)) (fun a U => a = #[(.ref ab), (.int (0 : Int32)), (.int (3 : Int32))] ∧ Z.Warmed39 U.vm ∧ U.heap = h0) (fun _ _ _ _ _ => True) (fun _ U o U' => ∃ v L, o = .returned v ∧ Q22n5b0e3 Z ab kb ee0 ee1 ee2 ee3 ee4 h0 n0 v U'.heap L ∧ FrameEnd U o U' L ({ frames := 2, cells := 1, slots := 3, locals := 34 } : Room).cells ({ frames := 2, cells := 1, slots := 3, locals := 34 } : Room).slots) := by
  refine MetFree.of_bodySF (plainFor_of_name own_pn248) hisR ?_
  intro p e s m args below meth c s₁ Bd hml0 hP hK
  have H := fun i c (h : tables_1[i]? = some c) => hw c (List.mem_of_getElem? h)
  obtain ⟨rfl, hZ, hh⟩ := hP
  have hx := Bd.exec
  have hby := Bd.bytes
  have hml : c.maxLocals = 3 := hml0
  have hown : s.vm.findClass "java/util/Arrays" = some m.cls := findClass_of_methodNamed Bd.named
  have hnm := (name_of_methodNamed Bd.named Bd.method).1
  have X0 : Stand p l e ({ frames := 2, cells := 1, slots := 3, locals := 34 } : Room) s m #[(.ref ab), (.int (0 : Int32)), (.int (3 : Int32))] below meth c s₁ [] 0 0 := Stand.of_body Bd
  have e0 : s₁.heap = h0 := by rw [← hh, Bd.state]; rfl
  have N0 := Fr.nil n0
  have pre0 : ∀ t, Sp p e below m s₁ 0 #[.val (.ref ab), .val (.int (0 : Int32)), .val (.int (3 : Int32))] [] t → Steps p.tables e below (s₁.setTop (entryFrame m #[(.ref ab), (.int (0 : Int32)), (.int (3 : Int32))] 3)) t := fun t k => castTop (ef_22n5b0e3 m ab) k
  generalize s₁.setTop (entryFrame m #[(.ref ab), (.int (0 : Int32)), (.int (3 : Int32))] 3) = G0 at pre0 ⊢
  obtain ⟨cl788, Ar788, -, S788, M788, -, -⟩ := id Va
  obtain ⟨_, _, ⟨T789, L789, k789, n789⟩, -, X789, ⟨Lc789, hQ789, l789, y789, z789⟩, st789⟩ := Jvm.LawKit.callS X0 hx (y := (⟨"java/util/Arrays", "copyOfRangeByte", "([BII)[B"⟩ : MethodName)) hown (mvT hZ (H 102 _ rfl)) (mvT hZ (H 103 _ rfl)) (mvT hZ (H 100 _ rfl)) (mvT hZ (H 104 _ rfl)) (by decide) (backOf (W := 0) (rm23n5b0e3 l Z a0 hw [] ab kb ee0 ee1 ee2 ee3 ee4 h0 n0 Z0 Va) hZ (H 104 _ rfl) (H 100 _ rfl) (by decide) (by decide)) (g := (mkF m 13 #[.val (.ref ab), .val (.int (0 : Int32)), .val (.int (3 : Int32))] [(.int (3 : Int32)), (.int (0 : Int32)), (.ref ab)])) rfl (by rw [hml]; rfl) (argsL := [(.ref ab), (.int (0 : Int32)), (.int (3 : Int32))]) (rest := []) (lenOf own_pd282 rfl) rfl (Nat.le_of_eq rfl) (hb hby d22_13) (fun _ _ => ⟨rfl, e0, (by decide : 0 + 1 ≤ _), (by decide : 0 + 3 ≤ _)⟩)
  dsimp only [Pt.U, Pt.locs, Pt.cells, Pt.slots] at X789 l789 y789 z789 st789 hQ789
  rw [l789, y789, z789] at X789
  clear l789 y789 z789
  obtain ⟨rrb_789, rrk_789, rfl, Nq789, K789, p789_0, p789_1, p789_2⟩ := hQ789
  have N789 := Fr.app N0 Nq789
  have Zs789 : n0 ≤ T789.heap.size := Nat.le_trans Z0 K789.1
  have KK789 : Keep h0 T789.heap [] := (Keep.refl h0 _).trans K789 all0
  have ne_ab_rrb_789 : ab ≠ rrb_789 := Nat.ne_of_lt (Nat.lt_of_lt_of_le Va.lt p789_2)
  have sz_rrb_789 : h0.size ≤ rrb_789 := p789_2
  have f790 := Va.keep K789 nin0
  have g_rrb_789 := p789_1
  obtain ⟨fs, hr, hrun, hended, hW, hsame⟩ := X789.leave (v := some (.ref rrb_789)) (fun h => by rw [Bd.returns] at h; cases h)
  refine ⟨_, _, pre0 _ ?_, hrun, hended, _, _, rfl, ?_, ⟨_, rfl⟩, hW, hsame.mono (by decide) (by decide)⟩
  · show Sp p e below m s₁ 0 #[.val (.ref ab), .val (.int (0 : Int32)), .val (.int (3 : Int32))] [] _
    refine XS.iloadN X0.here hx rfl (hb hby d22_0) rfl ?_
    refine XS.ifNo X0.here hx rfl (hb hby d22_1) rfl ((if0 _ _).trans (teq (by decide : ((0 : Int32) = (0 : Int32)))).2) ?_
    show Sp p e below m s₁ 4 #[.val (.ref ab), .val (.int (0 : Int32)), .val (.int (3 : Int32))] [] _
    refine XS.iloadN X0.here hx rfl (hb hby d22_4) rfl ?_
    refine XS.aloadN X0.here hx rfl (hb hby d22_5) rfl rfl ?_
    show Sp p e below m s₁ 6 #[.val (.ref ab), .val (.int (0 : Int32)), .val (.int (3 : Int32))] [(.ref ab), (.int (3 : Int32))] _
    refine X0.arraylength hx (by rw [e0]; exact Ar788.1) (State.isArrayOf_alike hZ.alike Ar788.2.1) (g := (mkF m 6 #[.val (.ref ab), .val (.int (0 : Int32)), .val (.int (3 : Int32))] [(.ref ab), (.int (3 : Int32))])) rfl rfl (hb hby d22_6) _ ?_
    rw [len_of S788 M788]
    show Sp p e below m s₁ 7 #[.val (.ref ab), .val (.int (0 : Int32)), .val (.int (3 : Int32))] [(.int (5 : Int32)), (.int (3 : Int32))] _
    refine XS.icmpNo X0.here hx rfl (hb hby d22_7) rfl (feq (by decide : ¬ ((3 : Int32) = (5 : Int32)))).1 ?_
    show Sp p e below m s₁ 10 #[.val (.ref ab), .val (.int (0 : Int32)), .val (.int (3 : Int32))] [] _
    refine XS.aloadN X0.here hx rfl (hb hby d22_10) rfl rfl ?_
    refine XS.iloadN X0.here hx rfl (hb hby d22_11) rfl ?_
    show Sp p e below m s₁ 12 #[.val (.ref ab), .val (.int (0 : Int32)), .val (.int (3 : Int32))] [(.int (0 : Int32)), (.ref ab)] _
    refine XS.iloadN X0.here hx rfl (hb hby d22_12) rfl ?_
    refine st789 _ ?_
    show Sp p e below m T789 16 #[.val (.ref ab), .val (.int (0 : Int32)), .val (.int (3 : Int32))] [(.ref rrb_789)] _
    jvm_step X789.here [X789.here.top, hx, (hb hby d22_16), X789.method', Bd.returns, Value.isRef, FieldType.isReference]
    first | (intro acts; rw [hr _ acts rfl rfl rfl]) | rw [hr _ _ rfl rfl rfl]
    exact Steps.refl _
  · show Q22n5b0e3 Z ab kb ee0 ee1 ee2 ee3 ee4 h0 n0 _ T789.heap _
    exact ⟨rrb_789, rrk_789, rfl, N789, KK789, p789_0, g_rrb_789, sz_rrb_789⟩
theorem ef_21n5b0e3 (m : MethodId) (x0 : Addr) : entryFrame m #[(.ref x0), (.int (0 : Int32)), (.int (3 : Int32))] 3 = mkF m 0 #[.val (.ref x0), .val (.int (0 : Int32)), .val (.int (3 : Int32))] [] := by first | (simp [entryFrame, mkF, argsToLocals, Value.category]; done) | rfl
def Q21n5b0e3 (Z : State) (ab : Addr) (kb : ClassId) (ee0 : Int32) (ee1 : Int32) (ee2 : Int32) (ee3 : Int32) (ee4 : Int32) (h0 : Heap) (n0 : Nat) (v : Option Value) (h : Heap) (L : List Loc) : Prop := ∃ (so : Addr) (rb : Addr) (rk : ClassId), v = some (.ref so) ∧ Fr n0 L ∧ Keep h0 h [] ∧ Exa Z h so "java/lang/String" ∧ Fld Z h so "java/lang/String" "value" "[B" (.ref rb) ∧ Fld Z h so "java/lang/String" "coder" "B" (.int (0 : Int32)) ∧ Arv Z h rb rk .byte (3 : Int32) [(.int ee0), (.int ee1), (.int ee2)] (.int (0 : Int32)) ∧ n0 ≤ so ∧ h0.size ≤ so ∧ n0 ≤ rb ∧ h0.size ≤ rb
set_option maxRecDepth 65536 in
set_option maxHeartbeats 40000000 in
theorem rm21n5b0e3 (l : Launch) (Z : State) (a0 : Array Value) (hw : ∀ d ∈ tables_1, d.before a0 Z = true) (ws : List Jvm.Cond) (ab : Addr) (kb : ClassId) (ee0 : Int32) (ee1 : Int32) (ee2 : Int32) (ee3 : Int32) (ee4 : Int32) (h0 : Heap) (n0 : Nat) (Z0 : n0 ≤ h0.size) (Va : Arv Z h0 ab kb .byte (5 : Int32) [(.int ee0), (.int ee1), (.int ee2), (.int ee3), (.int ee4)] (.int (0 : Int32))) :
    MetFree l (⟨"java/lang/StringLatin1", "newString", "([BII)Ljava/lang/String;"⟩ : MethodName) (head1 (Jvm.Cond.code (⟨"java/lang/StringLatin1", "newString", "([BII)Ljava/lang/String;"⟩ : MethodName) jdk_43_method_47_code 3 (some (.object "java/lang/String")) :: ws) ({ frames := 3, cells := 2, slots := 7, locals := 50 } : Room)) (fun a U => a = #[(.ref ab), (.int (0 : Int32)), (.int (3 : Int32))] ∧ Z.Warmed39 U.vm ∧ U.heap = h0) (fun _ _ _ _ _ => True) (fun _ U o U' => ∃ v L, o = .returned v ∧ Q21n5b0e3 Z ab kb ee0 ee1 ee2 ee3 ee4 h0 n0 v U'.heap L ∧ FrameEnd U o U' L ({ frames := 3, cells := 2, slots := 7, locals := 50 } : Room).cells ({ frames := 3, cells := 2, slots := 7, locals := 50 } : Room).slots) := by
  refine MetFree.of_bodySF (plainFor_of_name own_pn129) hisR ?_
  intro p e s m args below meth c s₁ Bd hml0 hP hK
  have H := fun i c (h : tables_1[i]? = some c) => hw c (List.mem_of_getElem? h)
  obtain ⟨rfl, hZ, hh⟩ := hP
  have hx := Bd.exec
  have hby := Bd.bytes
  have hml : c.maxLocals = 3 := hml0
  have hown : s.vm.findClass "java/lang/StringLatin1" = some m.cls := findClass_of_methodNamed Bd.named
  have hnm := (name_of_methodNamed Bd.named Bd.method).1
  have X0 : Stand p l e ({ frames := 3, cells := 2, slots := 7, locals := 50 } : Room) s m #[(.ref ab), (.int (0 : Int32)), (.int (3 : Int32))] below meth c s₁ [] 0 0 := Stand.of_body Bd
  have e0 : s₁.heap = h0 := by rw [← hh, Bd.state]; rfl
  have N0 := Fr.nil n0
  have pre0 : ∀ t, Sp p e below m s₁ 0 #[.val (.ref ab), .val (.int (0 : Int32)), .val (.int (3 : Int32))] [] t → Steps p.tables e below (s₁.setTop (entryFrame m #[(.ref ab), (.int (0 : Int32)), (.int (3 : Int32))] 3)) t := fun t k => castTop (ef_21n5b0e3 m ab) k
  generalize s₁.setTop (entryFrame m #[(.ref ab), (.int (0 : Int32)), (.int (3 : Int32))] 3) = G0 at pre0 ⊢
  obtain ⟨T804, h804, X804, e804, E804, A804, D804, -, st804⟩ := newO X0 hx hZ hown (H 97 _ rfl) (H 4 _ rfl) (H 5 _ rfl) e0 (g := (mkF m 7 #[.val (.ref ab), .val (.int (0 : Int32)), .val (.int (3 : Int32))] [])) rfl (hb hby d21_7) (by decide) (by decide)
  obtain ⟨b804, g804⟩ : ∃ z, z = h0.size := ⟨_, rfl⟩
  rw [← g804] at A804 D804 st804
  have g_b804 : n0 ≤ b804 := Nat.le_trans Z0 (Nat.le_of_eq g804.symm)
  have sz_b804 : h0.size ≤ b804 := Nat.le_of_eq g804.symm
  have lt_ab_b804 : ab < b804 := Nat.lt_of_lt_of_le Va.lt (Nat.le_of_eq g804.symm)
  have ne_ab_b804 : ab ≠ b804 := Nat.ne_of_lt lt_ab_b804
  have Zs804 : n0 ≤ h804.size := Nat.le_trans Z0 E804.1
  have KK804 : Keep h0 h804 [] := (Keep.refl h0 _).ext E804
  have f805 := Va.ext E804
  have f806 : Fld Z h804 b804 "java/lang/String" "coder" "B" (.int (0 : Int32)) := D804 (Or.inr (H 29 _ rfl)) (ty := .byte) (by decide)
  have f807 : Fld Z h804 b804 "java/lang/String" "value" "[B" .null := D804 (Or.inr (H 31 _ rfl)) (ty := (.array .byte)) (by decide)
  obtain ⟨_, _, ⟨T808, L808, k808, n808⟩, -, X808, ⟨Lc808, hQ808, l808, y808, z808⟩, st808⟩ := Jvm.LawKit.callS X804 hx (y := (⟨"java/util/Arrays", "copyOfRange", "([BII)[B"⟩ : MethodName)) hown (mvT hZ (H 98 _ rfl)) (mvT hZ (H 99 _ rfl)) (mvT hZ (H 100 _ rfl)) (mvT hZ (H 101 _ rfl)) (by decide) (backOf (W := 2) (rm22n5b0e3 l Z a0 hw [] ab kb ee0 ee1 ee2 ee3 ee4 h804 n0 Zs804 f805) hZ (H 101 _ rfl) (H 100 _ rfl) (by decide) (by decide)) (g := (mkF m 16 #[.val (.ref ab), .val (.int (0 : Int32)), .val (.int (3 : Int32))] [(.int (3 : Int32)), (.int (0 : Int32)), (.ref ab), (.ref b804), (.ref b804)])) rfl (by rw [hml]; rfl) (argsL := [(.ref ab), (.int (0 : Int32)), (.int (3 : Int32))]) (rest := [(.ref b804), (.ref b804)]) (lenOf own_pd282 rfl) rfl (Nat.le_of_eq rfl) (hb hby d21_16) (fun _ _ => ⟨rfl, e804, (by decide : 1 + 1 ≤ _), (by decide : 4 + 3 ≤ _)⟩)
  dsimp only [Pt.U, Pt.locs, Pt.cells, Pt.slots] at X808 l808 y808 z808 st808 hQ808
  rw [l808, y808, z808] at X808
  clear l808 y808 z808
  obtain ⟨rrb_808, rrk_808, rfl, Nq808, K808, p808_0, p808_1, p808_2⟩ := hQ808
  have N808 := Fr.app N0 Nq808
  have Zs808 : n0 ≤ T808.heap.size := Nat.le_trans Zs804 K808.1
  have KK808 : Keep h0 T808.heap [] := KK804.trans K808 all0
  have ne_ab_rrb_808 : ab ≠ rrb_808 := Nat.ne_of_lt (Nat.lt_of_lt_of_le f805.lt p808_2)
  have ne_b804_rrb_808 : b804 ≠ rrb_808 := Nat.ne_of_lt (Nat.lt_of_lt_of_le A804.lt p808_2)
  have sz_rrb_808 : h0.size ≤ rrb_808 := Nat.le_trans KK804.1 p808_2
  have f809 := f805.keep K808 nin0
  have f810 := A804.keep K808
  have f811 := f806.keep K808 nin0
  have f812 := f807.keep K808 nin0
  have g_rrb_808 := p808_1
  obtain ⟨_, _, ⟨T813, L813, k813, n813⟩, -, X813, ⟨Lc813, hQ813, l813, y813, z813⟩, st813⟩ := X808.specialBack hx (y := (⟨"java/lang/String", "<init>", "([BB)V"⟩ : MethodName)) rfl hown (mvT hZ (H 113 _ rfl)) (mvT hZ (H 114 _ rfl)) (mvT hZ (H 115 _ rfl)) (by decide) (backOf (W := 1) (rm25 l Z a0 hw [] b804 rrb_808  T808.heap n0 Zs808 f810 f812 f811 g_b804) hZ (H 115 _ rfl) (H 5 _ rfl) (by decide) (by decide)) (g := (mkF m 20 #[.val (.ref ab), .val (.int (0 : Int32)), .val (.int (3 : Int32))] [(.int (0 : Int32)), (.ref rrb_808), (.ref b804), (.ref b804)])) rfl (by rw [hml]; rfl) (Steps.refl _) (a := b804) (argsL := [(.ref rrb_808), (.int (0 : Int32))]) (rest := [(.ref b804)]) (lenOf own_pd305 rfl) rfl (Nat.le_of_eq rfl) (hb hby d21_20) (fun _ _ => ⟨rfl, rfl, (by decide : 2 + 0 ≤ _), (by decide : 7 + 0 ≤ _)⟩)
  dsimp only [Pt.U, Pt.locs, Pt.cells, Pt.slots] at X813 l813 y813 z813 st813 hQ813
  rw [l813, y813, z813] at X813
  clear l813 y813 z813
  obtain ⟨rfl, Nq813, K813, p813_0, p813_1, p813_2⟩ := hQ813
  have N813 := Fr.app N808 Nq813
  have Zs813 : n0 ≤ T813.heap.size := Nat.le_trans Zs808 K813.1
  have KK813 : Keep h0 T813.heap [] := KK808.trans K813 (allS (Or.inr sz_b804) all0)
  have f814 := f809.keep K813 (ninS ne_ab_b804 nin0)
  have f815 := f810.keep K813
  have f816 := p808_0.keep K813 (ninS (Ne.symm ne_b804_rrb_808) nin0)
  obtain ⟨fs, hr, hrun, hended, hW, hsame⟩ := X813.leave (v := some (.ref b804)) (fun h => by rw [Bd.returns] at h; cases h)
  refine ⟨_, _, pre0 _ ?_, hrun, hended, _, _, rfl, ?_, ⟨_, rfl⟩, hW, hsame.mono (by decide) (by decide)⟩
  · show Sp p e below m s₁ 0 #[.val (.ref ab), .val (.int (0 : Int32)), .val (.int (3 : Int32))] [] _
    refine XS.iloadN X0.here hx rfl (hb hby d21_0) rfl ?_
    refine XS.ifYes X0.here hx rfl (pc0 := 1) (pc' := 7) rfl (hb hby d21_1) rfl ((if0 _ _).trans (feq (by decide : ¬ ((3 : Int32) = (0 : Int32)))).2) (by decide) (by decide) ?_
    show Sp p e below m s₁ 7 #[.val (.ref ab), .val (.int (0 : Int32)), .val (.int (3 : Int32))] [] _
    refine st804 _ ?_
    show Sp p e below m T804 10 #[.val (.ref ab), .val (.int (0 : Int32)), .val (.int (3 : Int32))] [(.ref b804)] _
    refine XS.dup X804.here hx rfl (hb hby d21_10) rfl rfl ?_
    refine XS.aloadN X804.here hx rfl (hb hby d21_11) rfl rfl ?_
    show Sp p e below m T804 12 #[.val (.ref ab), .val (.int (0 : Int32)), .val (.int (3 : Int32))] [(.ref ab), (.ref b804), (.ref b804)] _
    refine XS.iloadN X804.here hx rfl (hb hby d21_12) rfl ?_
    refine XS.iloadN X804.here hx rfl (hb hby d21_13) rfl ?_
    show Sp p e below m T804 14 #[.val (.ref ab), .val (.int (0 : Int32)), .val (.int (3 : Int32))] [(.int (0 : Int32)), (.int (0 : Int32)), (.ref ab), (.ref b804), (.ref b804)] _
    refine XS.iloadN X804.here hx rfl (hb hby d21_14) rfl ?_
    refine XS.iadd X804.here hx rfl (hb hby d21_15) rfl ?_
    show Sp p e below m T804 16 #[.val (.ref ab), .val (.int (0 : Int32)), .val (.int (3 : Int32))] [(.int (3 : Int32)), (.int (0 : Int32)), (.ref ab), (.ref b804), (.ref b804)] _
    refine st808 _ ?_
    show Sp p e below m T808 19 #[.val (.ref ab), .val (.int (0 : Int32)), .val (.int (3 : Int32))] [(.ref rrb_808), (.ref b804), (.ref b804)] _
    refine XS.iconst X808.here hx rfl (hb hby d21_19) ?_
    refine st813.trans ?_
    show Sp p e below m T813 23 #[.val (.ref ab), .val (.int (0 : Int32)), .val (.int (3 : Int32))] [(.ref b804)] _
    jvm_step X813.here [X813.here.top, hx, (hb hby d21_23), X813.method', Bd.returns, Value.isRef, FieldType.isReference]
    first | (intro acts; rw [hr _ acts rfl rfl rfl]) | rw [hr _ _ rfl rfl rfl]
    exact Steps.refl _
  · show Q21n5b0e3 Z ab kb ee0 ee1 ee2 ee3 ee4 h0 n0 _ T813.heap _
    exact ⟨b804, rrb_808, rrk_808, rfl, N813, KK813, p813_0, p813_1, p813_2, f816, g_b804, sz_b804, g_rrb_808, sz_rrb_808⟩
theorem ef_18n5b0e3 (m : MethodId) (x0 : Addr) : entryFrame m #[(.ref x0), (.int (0 : Int32)), (.int (3 : Int32))] 5 = mkF m 0 #[.val (.ref x0), .val (.int (0 : Int32)), .val (.int (3 : Int32)), .unset, .unset] [] := by first | (simp [entryFrame, mkF, argsToLocals, Value.category]; done) | rfl
def Q18n5b0e3 (Z : State) (aa : Addr) (cs : Int32) (vf : Value) (ab : Addr) (kb : ClassId) (ee0 : Int32) (ee1 : Int32) (ee2 : Int32) (ee3 : Int32) (ee4 : Int32) (h0 : Heap) (n0 : Nat) (v : Option Value) (h : Heap) (L : List Loc) : Prop := ∃ (so : Addr) (rb : Addr) (rk : ClassId), v = some (.ref so) ∧ Fr n0 L ∧ Keep h0 h [] ∧ Exa Z h so "java/lang/String" ∧ Fld Z h so "java/lang/String" "value" "[B" (.ref rb) ∧ Fld Z h so "java/lang/String" "coder" "B" (.int (0 : Int32)) ∧ Arv Z h rb rk .byte (3 : Int32) [(.int ee0), (.int ee1), (.int ee2)] (.int (0 : Int32)) ∧ n0 ≤ so ∧ h0.size ≤ so ∧ n0 ≤ rb ∧ h0.size ≤ rb
set_option maxRecDepth 65536 in
set_option maxHeartbeats 40000000 in
theorem rm18n5b0e3 (l : Launch) (Z : State) (a0 : Array Value) (hw : ∀ d ∈ tables_1, d.before a0 Z = true) (ws : List Jvm.Cond) (aa : Addr) (cs : Int32) (vf : Value) (ab : Addr) (kb : ClassId) (ee0 : Int32) (ee1 : Int32) (ee2 : Int32) (ee3 : Int32) (ee4 : Int32) (h0 : Heap) (n0 : Nat) (Z0 : n0 ≤ h0.size) (O0 : Old Z n0 h0) (Scs : Sta Z Z.heap "java/lang/String" "COMPACT_STRINGS" "Z" (.int cs)) (hcs : ¬ cs = (0 : Int32)) (Ssf : Sta Z Z.heap "jdk/internal/util/Preconditions" "SIOOBE_FORMATTER" "Ljava/util/function/BiFunction;" vf) (hvf : vf.isRef = true) (Ea : Exa Z h0 aa "java/lang/String") (Fv : Fld Z h0 aa "java/lang/String" "value" "[B" (.ref ab)) (Fc : Fld Z h0 aa "java/lang/String" "coder" "B" (.int (0 : Int32))) (Va : Arv Z h0 ab kb .byte (5 : Int32) [(.int ee0), (.int ee1), (.int ee2), (.int ee3), (.int ee4)] (.int (0 : Int32))) :
    MetFree l (⟨"java/lang/String", "substring", "(II)Ljava/lang/String;"⟩ : MethodName) (head1 (Jvm.Cond.code (⟨"java/lang/String", "substring", "(II)Ljava/lang/String;"⟩ : MethodName) jdk_42_method_92_code 5 (some (.object "java/lang/String")) :: ws) ({ frames := 4, cells := 2, slots := 7, locals := 64 } : Room)) (fun a U => a = #[(.ref aa), (.int (0 : Int32)), (.int (3 : Int32))] ∧ Z.Warmed39 U.vm ∧ U.heap = h0) (fun _ _ _ _ _ => True) (fun _ U o U' => ∃ v L, o = .returned v ∧ Q18n5b0e3 Z aa cs vf ab kb ee0 ee1 ee2 ee3 ee4 h0 n0 v U'.heap L ∧ FrameEnd U o U' L ({ frames := 4, cells := 2, slots := 7, locals := 64 } : Room).cells ({ frames := 4, cells := 2, slots := 7, locals := 64 } : Room).slots) := by
  refine MetFree.of_bodySF (plainFor_of_name own_pn8) hisR ?_
  intro p e s m args below meth c s₁ Bd hml0 hP hK
  have H := fun i c (h : tables_1[i]? = some c) => hw c (List.mem_of_getElem? h)
  obtain ⟨rfl, hZ, hh⟩ := hP
  have hx := Bd.exec
  have hby := Bd.bytes
  have hml : c.maxLocals = 5 := hml0
  have hown : s.vm.findClass "java/lang/String" = some m.cls := findClass_of_methodNamed Bd.named
  have hnm := (name_of_methodNamed Bd.named Bd.method).1
  have X0 : Stand p l e ({ frames := 4, cells := 2, slots := 7, locals := 64 } : Room) s m #[(.ref aa), (.int (0 : Int32)), (.int (3 : Int32))] below meth c s₁ [] 0 0 := Stand.of_body Bd
  have e0 : s₁.heap = h0 := by rw [← hh, Bd.state]; rfl
  have N0 := Fr.nil n0
  have pre0 : ∀ t, Sp p e below m s₁ 0 #[.val (.ref aa), .val (.int (0 : Int32)), .val (.int (3 : Int32)), .unset, .unset] [] t → Steps p.tables e below (s₁.setTop (entryFrame m #[(.ref aa), (.int (0 : Int32)), (.int (3 : Int32))] 5)) t := fun t k => castTop (ef_18n5b0e3 m aa) k
  generalize s₁.setTop (entryFrame m #[(.ref aa), (.int (0 : Int32)), (.int (3 : Int32))] 5) = G0 at pre0 ⊢
  obtain ⟨cq828, kq828, q828a, q828b, q828c⟩ := isOf hZ e0 Ea
  obtain ⟨_, _, ⟨T828, L828, k828, n828⟩, -, X828, ⟨Lc828, hQ828, l828, y828, z828⟩, st828⟩ := X0.virtualBack hx (y := (⟨"java/lang/String", "length", "()I"⟩ : MethodName)) (z := (⟨"java/lang/String", "length", "()I"⟩ : MethodName)) hown (mvT hZ (H 51 _ rfl)) (mvT hZ (H 52 _ rfl)) (notFace_of_selects (args := #[]) (mvT hZ (H 54 _ rfl))) (mvT hZ (H 54 _ rfl)) (mvT hZ (H 53 _ rfl)) (by decide) (backOf (W := 0) (rm11 l Z a0 hw [] aa cs vf ab kb (5 : Int32) [(.int ee0), (.int ee1), (.int ee2), (.int ee3), (.int ee4)] h0 n0 Z0 O0 Scs hcs Ssf hvf Ea Fv Fc Va) hZ (H 55 _ rfl) (H 5 _ rfl) (by decide) (by decide)) q828a q828c (g := (mkF m 1 #[.val (.ref aa), .val (.int (0 : Int32)), .val (.int (3 : Int32)), .unset, .unset] [(.ref aa)])) rfl (by rw [hml]; rfl) (Steps.refl _) (argsL := []) (rest := []) (lenOf own_pd214 rfl) rfl (Nat.le_of_eq rfl) (hb hby d18_1) (fun _ _ => ⟨rfl, e0, (by decide : 0 + 0 ≤ _), (by decide : 0 + 0 ≤ _)⟩)
  dsimp only [Pt.U, Pt.locs, Pt.cells, Pt.slots] at X828 l828 y828 z828 st828 hQ828
  rw [l828, y828, z828] at X828
  clear l828 y828 z828
  obtain ⟨rfl, Nq828, e828⟩ := hQ828
  have N828 := Fr.app N0 Nq828
  obtain ⟨_, _, ⟨T829, L829, k829, n829⟩, -, X829, ⟨Lc829, hQ829, l829, y829, z829⟩, st829⟩ := Jvm.LawKit.callS X828 hx (y := (⟨"java/lang/String", "checkBoundsBeginEnd", "(III)V"⟩ : MethodName)) hown (mvT hZ (H 86 _ rfl)) (mvT hZ (H 87 _ rfl)) (mvT hZ (H 5 _ rfl)) (mvT hZ (H 88 _ rfl)) (by decide) (backOf (W := 0) (rm19 l Z a0 hw [] (0 : Int32) (3 : Int32) (5 : Int32) cs vf h0 n0 Z0 O0 Scs hcs Ssf hvf (by decide) (by decide) (by decide)) hZ (H 88 _ rfl) (H 5 _ rfl) (by decide) (by decide)) (g := (mkF m 8 #[.val (.ref aa), .val (.int (0 : Int32)), .val (.int (3 : Int32)), .val (.int (5 : Int32)), .unset] [(.int (5 : Int32)), (.int (3 : Int32)), (.int (0 : Int32))])) rfl (by rw [hml]; rfl) (argsL := [(.int (0 : Int32)), (.int (3 : Int32)), (.int (5 : Int32))]) (rest := []) (lenOf own_pd332 rfl) rfl (Nat.le_of_eq rfl) (hb hby d18_8) (fun _ _ => ⟨rfl, e828, (by decide : 0 + 0 ≤ _), (by decide : 0 + 0 ≤ _)⟩)
  dsimp only [Pt.U, Pt.locs, Pt.cells, Pt.slots] at X829 l829 y829 z829 st829 hQ829
  rw [l829, y829, z829] at X829
  clear l829 y829 z829
  obtain ⟨rfl, Nq829, e829⟩ := hQ829
  have N829 := Fr.app N828 Nq829
  obtain ⟨cq830, kq830, q830a, q830b, q830c⟩ := isOf hZ e829 Ea
  obtain ⟨_, _, ⟨T830, L830, k830, n830⟩, -, X830, ⟨Lc830, hQ830, l830, y830, z830⟩, st830⟩ := X829.virtualBack hx (y := (⟨"java/lang/String", "isLatin1", "()Z"⟩ : MethodName)) (z := (⟨"java/lang/String", "isLatin1", "()Z"⟩ : MethodName)) hown (mvT hZ (H 46 _ rfl)) (mvT hZ (H 47 _ rfl)) (notFace_of_selects (args := #[]) (mvT hZ (H 49 _ rfl))) (mvT hZ (H 49 _ rfl)) (mvT hZ (H 48 _ rfl)) (by decide) (backOf (W := 0) (rm10 l Z a0 hw [] aa cs vf h0 n0 Z0 O0 Scs hcs Ssf hvf Fc) hZ (H 50 _ rfl) (H 5 _ rfl) (by decide) (by decide)) q830a q830c (g := (mkF m 28 #[.val (.ref aa), .val (.int (0 : Int32)), .val (.int (3 : Int32)), .val (.int (5 : Int32)), .val (.int (3 : Int32))] [(.ref aa)])) rfl (by rw [hml]; rfl) (Steps.refl _) (argsL := []) (rest := []) (lenOf own_pd132 rfl) rfl (Nat.le_of_eq rfl) (hb hby d18_28) (fun _ _ => ⟨rfl, e829, (by decide : 0 + 0 ≤ _), (by decide : 0 + 0 ≤ _)⟩)
  dsimp only [Pt.U, Pt.locs, Pt.cells, Pt.slots] at X830 l830 y830 z830 st830 hQ830
  rw [l830, y830, z830] at X830
  clear l830 y830 z830
  obtain ⟨rfl, Nq830, e830⟩ := hQ830
  have N830 := Fr.app N829 Nq830
  obtain ⟨T831, X831, e831, st831⟩ := getF X830 hx hZ hown (host := "") (Or.inl (H 30 _ rfl)) Via.refl e830 Fv (g := (mkF m 35 #[.val (.ref aa), .val (.int (0 : Int32)), .val (.int (3 : Int32)), .val (.int (5 : Int32)), .val (.int (3 : Int32))] [(.ref aa)])) rfl rfl (hb hby d18_35)
  obtain ⟨_, _, ⟨T832, L832, k832, n832⟩, -, X832, ⟨Lc832, hQ832, l832, y832, z832⟩, st832⟩ := Jvm.LawKit.callS X831 hx (y := (⟨"java/lang/StringLatin1", "newString", "([BII)Ljava/lang/String;"⟩ : MethodName)) hown (mvT hZ (H 94 _ rfl)) (mvT hZ (H 95 _ rfl)) (mvT hZ (H 63 _ rfl)) (mvT hZ (H 96 _ rfl)) (by decide) (backOf (W := 0) (rm21n5b0e3 l Z a0 hw [] ab kb ee0 ee1 ee2 ee3 ee4 h0 n0 Z0 Va) hZ (H 96 _ rfl) (H 63 _ rfl) (by decide) (by decide)) (g := (mkF m 41 #[.val (.ref aa), .val (.int (0 : Int32)), .val (.int (3 : Int32)), .val (.int (5 : Int32)), .val (.int (3 : Int32))] [(.int (3 : Int32)), (.int (0 : Int32)), (.ref ab)])) rfl (by rw [hml]; rfl) (argsL := [(.ref ab), (.int (0 : Int32)), (.int (3 : Int32))]) (rest := []) (lenOf own_pd350 rfl) rfl (Nat.le_of_eq rfl) (hb hby d18_41) (fun _ _ => ⟨rfl, e831, (by decide : 0 + 2 ≤ _), (by decide : 0 + 7 ≤ _)⟩)
  dsimp only [Pt.U, Pt.locs, Pt.cells, Pt.slots] at X832 l832 y832 z832 st832 hQ832
  rw [l832, y832, z832] at X832
  clear l832 y832 z832
  obtain ⟨rso_832, rrb_832, rrk_832, rfl, Nq832, K832, p832_0, p832_1, p832_2, p832_3, p832_4, p832_5, p832_6, p832_7⟩ := hQ832
  have N832 := Fr.app N830 Nq832
  have Zs832 : n0 ≤ T832.heap.size := Nat.le_trans Z0 K832.1
  have KK832 : Keep h0 T832.heap [] := (Keep.refl h0 _).trans K832 all0
  have ne_aa_rso_832 : aa ≠ rso_832 := Nat.ne_of_lt (Nat.lt_of_lt_of_le Ea.lt p832_5)
  have ne_ab_rso_832 : ab ≠ rso_832 := Nat.ne_of_lt (Nat.lt_of_lt_of_le Va.lt p832_5)
  have sz_rso_832 : h0.size ≤ rso_832 := p832_5
  have ne_aa_rrb_832 : aa ≠ rrb_832 := Nat.ne_of_lt (Nat.lt_of_lt_of_le Ea.lt p832_7)
  have ne_ab_rrb_832 : ab ≠ rrb_832 := Nat.ne_of_lt (Nat.lt_of_lt_of_le Va.lt p832_7)
  have sz_rrb_832 : h0.size ≤ rrb_832 := p832_7
  have O832 := O0.keep K832 (all0)
  have f833 := Scs.ext O832.2
  have f834 := Ssf.ext O832.2
  have f835 := Ea.keep K832
  have f836 := Fv.keep K832 nin0
  have f837 := Fc.keep K832 nin0
  have f838 := Va.keep K832 nin0
  have g_rso_832 := p832_4
  have g_rrb_832 := p832_6
  obtain ⟨fs, hr, hrun, hended, hW, hsame⟩ := X832.leave (v := some (.ref rso_832)) (fun h => by rw [Bd.returns] at h; cases h)
  refine ⟨_, _, pre0 _ ?_, hrun, hended, _, _, rfl, ?_, ⟨_, rfl⟩, hW, hsame.mono (by decide) (by decide)⟩
  · show Sp p e below m s₁ 0 #[.val (.ref aa), .val (.int (0 : Int32)), .val (.int (3 : Int32)), .unset, .unset] [] _
    refine XS.aloadN X0.here hx rfl (hb hby d18_0) rfl rfl ?_
    refine st828.trans ?_
    show Sp p e below m T828 4 #[.val (.ref aa), .val (.int (0 : Int32)), .val (.int (3 : Int32)), .unset, .unset] [(.int (5 : Int32))] _
    refine XS.istoreN X828.here hx rfl (hb hby d18_4) rfl (l' := #[.val (.ref aa), .val (.int (0 : Int32)), .val (.int (3 : Int32)), .val (.int (5 : Int32)), .unset]) rfl ?_
    show Sp p e below m T828 5 #[.val (.ref aa), .val (.int (0 : Int32)), .val (.int (3 : Int32)), .val (.int (5 : Int32)), .unset] [] _
    refine XS.iloadN X828.here hx rfl (hb hby d18_5) rfl ?_
    refine XS.iloadN X828.here hx rfl (hb hby d18_6) rfl ?_
    show Sp p e below m T828 7 #[.val (.ref aa), .val (.int (0 : Int32)), .val (.int (3 : Int32)), .val (.int (5 : Int32)), .unset] [(.int (3 : Int32)), (.int (0 : Int32))] _
    refine XS.iloadN X828.here hx rfl (hb hby d18_7) rfl ?_
    refine st829 _ ?_
    show Sp p e below m T829 11 #[.val (.ref aa), .val (.int (0 : Int32)), .val (.int (3 : Int32)), .val (.int (5 : Int32)), .unset] [] _
    refine XS.iloadN X829.here hx rfl (hb hby d18_11) rfl ?_
    refine XS.ifNo X829.here hx rfl (hb hby d18_12) rfl ((if0 _ _).trans (teq (by decide : ((0 : Int32) = (0 : Int32)))).2) ?_
    show Sp p e below m T829 15 #[.val (.ref aa), .val (.int (0 : Int32)), .val (.int (3 : Int32)), .val (.int (5 : Int32)), .unset] [] _
    refine XS.iloadN X829.here hx rfl (hb hby d18_15) rfl ?_
    refine XS.iloadN X829.here hx rfl (hb hby d18_16) rfl ?_
    show Sp p e below m T829 17 #[.val (.ref aa), .val (.int (0 : Int32)), .val (.int (3 : Int32)), .val (.int (5 : Int32)), .unset] [(.int (5 : Int32)), (.int (3 : Int32))] _
    refine XS.icmpYes X829.here hx rfl (pc0 := 17) (pc' := 22) rfl (hb hby d18_17) rfl (feq (by decide : ¬ ((3 : Int32) = (5 : Int32)))).2 (by decide) (by decide) ?_
    show Sp p e below m T829 22 #[.val (.ref aa), .val (.int (0 : Int32)), .val (.int (3 : Int32)), .val (.int (5 : Int32)), .unset] [] _
    refine XS.iloadN X829.here hx rfl (hb hby d18_22) rfl ?_
    refine XS.iloadN X829.here hx rfl (hb hby d18_23) rfl ?_
    show Sp p e below m T829 24 #[.val (.ref aa), .val (.int (0 : Int32)), .val (.int (3 : Int32)), .val (.int (5 : Int32)), .unset] [(.int (0 : Int32)), (.int (3 : Int32))] _
    refine XS.isub X829.here hx rfl (hb hby d18_24) rfl ?_
    show Sp p e below m T829 25 #[.val (.ref aa), .val (.int (0 : Int32)), .val (.int (3 : Int32)), .val (.int (5 : Int32)), .unset] [(.int (3 : Int32))] _
    refine XS.istore X829.here hx rfl (hb hby d18_25) rfl (l' := #[.val (.ref aa), .val (.int (0 : Int32)), .val (.int (3 : Int32)), .val (.int (5 : Int32)), .val (.int (3 : Int32))]) rfl ?_
    show Sp p e below m T829 27 #[.val (.ref aa), .val (.int (0 : Int32)), .val (.int (3 : Int32)), .val (.int (5 : Int32)), .val (.int (3 : Int32))] [] _
    refine XS.aloadN X829.here hx rfl (hb hby d18_27) rfl rfl ?_
    refine st830.trans ?_
    show Sp p e below m T830 31 #[.val (.ref aa), .val (.int (0 : Int32)), .val (.int (3 : Int32)), .val (.int (5 : Int32)), .val (.int (3 : Int32))] [(.int (1 : Int32))] _
    refine XS.ifNo X830.here hx rfl (hb hby d18_31) rfl ((if0 _ _).trans (feq (by decide : ¬ ((1 : Int32) = (0 : Int32)))).1) ?_
    show Sp p e below m T830 34 #[.val (.ref aa), .val (.int (0 : Int32)), .val (.int (3 : Int32)), .val (.int (5 : Int32)), .val (.int (3 : Int32))] [] _
    refine XS.aloadN X830.here hx rfl (hb hby d18_34) rfl rfl ?_
    refine st831 _ ?_
    show Sp p e below m T831 38 #[.val (.ref aa), .val (.int (0 : Int32)), .val (.int (3 : Int32)), .val (.int (5 : Int32)), .val (.int (3 : Int32))] [(.ref ab)] _
    refine XS.iloadN X831.here hx rfl (hb hby d18_38) rfl ?_
    refine XS.iload X831.here hx rfl (hb hby d18_39) rfl ?_
    show Sp p e below m T831 41 #[.val (.ref aa), .val (.int (0 : Int32)), .val (.int (3 : Int32)), .val (.int (5 : Int32)), .val (.int (3 : Int32))] [(.int (3 : Int32)), (.int (0 : Int32)), (.ref ab)] _
    refine st832 _ ?_
    show Sp p e below m T832 44 #[.val (.ref aa), .val (.int (0 : Int32)), .val (.int (3 : Int32)), .val (.int (5 : Int32)), .val (.int (3 : Int32))] [(.ref rso_832)] _
    refine XS.goto X832.here hx rfl (pc0 := 44) (pc' := 57) rfl (hb hby d18_44) (by decide) (by decide) ?_
    show Sp p e below m T832 57 #[.val (.ref aa), .val (.int (0 : Int32)), .val (.int (3 : Int32)), .val (.int (5 : Int32)), .val (.int (3 : Int32))] [(.ref rso_832)] _
    jvm_step X832.here [X832.here.top, hx, (hb hby d18_57), X832.method', Bd.returns, Value.isRef, FieldType.isReference]
    first | (intro acts; rw [hr _ acts rfl rfl rfl]) | rw [hr _ _ rfl rfl rfl]
    exact Steps.refl _
  · show Q18n5b0e3 Z aa cs vf ab kb ee0 ee1 ee2 ee3 ee4 h0 n0 _ T832.heap _
    exact ⟨rso_832, rrb_832, rrk_832, rfl, N832, KK832, p832_0, p832_1, p832_2, p832_3, g_rso_832, sz_rso_832, g_rrb_832, sz_rrb_832⟩
theorem ef_23n5b4e5 (m : MethodId) (x0 : Addr) : entryFrame m #[(.ref x0), (.int (4 : Int32)), (.int (5 : Int32))] 5 = mkF m 0 #[.val (.ref x0), .val (.int (4 : Int32)), .val (.int (5 : Int32)), .unset, .unset] [] := by first | (simp [entryFrame, mkF, argsToLocals, Value.category]; done) | rfl
def Q23n5b4e5 (Z : State) (ab : Addr) (kb : ClassId) (ee0 : Int32) (ee1 : Int32) (ee2 : Int32) (ee3 : Int32) (ee4 : Int32) (h0 : Heap) (n0 : Nat) (v : Option Value) (h : Heap) (L : List Loc) : Prop := ∃ (rb : Addr) (rk : ClassId), v = some (.ref rb) ∧ Fr n0 L ∧ Keep h0 h [] ∧ Arv Z h rb rk .byte (1 : Int32) [(.int ee4)] (.int (0 : Int32)) ∧ n0 ≤ rb ∧ h0.size ≤ rb
set_option maxRecDepth 65536 in
set_option maxHeartbeats 40000000 in
theorem rm23n5b4e5 (l : Launch) (Z : State) (a0 : Array Value) (hw : ∀ d ∈ tables_1, d.before a0 Z = true) (ws : List Jvm.Cond) (ab : Addr) (kb : ClassId) (ee0 : Int32) (ee1 : Int32) (ee2 : Int32) (ee3 : Int32) (ee4 : Int32) (h0 : Heap) (n0 : Nat) (Z0 : n0 ≤ h0.size) (Va : Arv Z h0 ab kb .byte (5 : Int32) [(.int ee0), (.int ee1), (.int ee2), (.int ee3), (.int ee4)] (.int (0 : Int32))) :
    MetFree l (⟨"java/util/Arrays", "copyOfRangeByte", "([BII)[B"⟩ : MethodName) (head1 (Jvm.Cond.code (⟨"java/util/Arrays", "copyOfRangeByte", "([BII)[B"⟩ : MethodName) jdk_65_method_133_code 5 (some (.array .byte)) :: ws) ({ frames := 1, cells := 1, slots := 1, locals := 18 } : Room)) (fun a U => a = #[(.ref ab), (.int (4 : Int32)), (.int (5 : Int32))] ∧ Z.Warmed39 U.vm ∧ U.heap = h0) (fun _ _ _ _ _ => True) (fun _ U o U' => ∃ v L, o = .returned v ∧ Q23n5b4e5 Z ab kb ee0 ee1 ee2 ee3 ee4 h0 n0 v U'.heap L ∧ FrameEnd U o U' L ({ frames := 1, cells := 1, slots := 1, locals := 18 } : Room).cells ({ frames := 1, cells := 1, slots := 1, locals := 18 } : Room).slots) := by
  refine MetFree.of_bodySF (plainFor_of_name own_pn248) hisR ?_
  intro p e s m args below meth c s₁ Bd hml0 hP hK
  have H := fun i c (h : tables_1[i]? = some c) => hw c (List.mem_of_getElem? h)
  obtain ⟨rfl, hZ, hh⟩ := hP
  have hx := Bd.exec
  have hby := Bd.bytes
  have hml : c.maxLocals = 5 := hml0
  have hown : s.vm.findClass "java/util/Arrays" = some m.cls := findClass_of_methodNamed Bd.named
  have hnm := (name_of_methodNamed Bd.named Bd.method).1
  have X0 : Stand p l e ({ frames := 1, cells := 1, slots := 1, locals := 18 } : Room) s m #[(.ref ab), (.int (4 : Int32)), (.int (5 : Int32))] below meth c s₁ [] 0 0 := Stand.of_body Bd
  have e0 : s₁.heap = h0 := by rw [← hh, Bd.state]; rfl
  have N0 := Fr.nil n0
  have pre0 : ∀ t, Sp p e below m s₁ 0 #[.val (.ref ab), .val (.int (4 : Int32)), .val (.int (5 : Int32)), .unset, .unset] [] t → Steps p.tables e below (s₁.setTop (entryFrame m #[(.ref ab), (.int (4 : Int32)), (.int (5 : Int32))] 5)) t := fun t k => castTop (ef_23n5b4e5 m ab) k
  generalize s₁.setTop (entryFrame m #[(.ref ab), (.int (4 : Int32)), (.int (5 : Int32))] 5) = G0 at pre0 ⊢
  obtain ⟨_, _, ⟨T847, L847, k847, n847⟩, -, X847, ⟨Lc847, hQ847, l847, y847, z847⟩, st847⟩ := Jvm.LawKit.callS X0 hx (y := (⟨"java/util/Arrays", "checkLength", "(II)V"⟩ : MethodName)) hown (mvT hZ (H 105 _ rfl)) (mvT hZ (H 106 _ rfl)) (mvT hZ (H 100 _ rfl)) (mvT hZ (H 107 _ rfl)) (by decide) (backOf (W := 0) (rm24 l Z a0 hw [] (4 : Int32) (5 : Int32)  h0 n0 Z0 (by decide)) hZ (H 107 _ rfl) (H 100 _ rfl) (by decide) (by decide)) (g := (mkF m 2 #[.val (.ref ab), .val (.int (4 : Int32)), .val (.int (5 : Int32)), .unset, .unset] [(.int (5 : Int32)), (.int (4 : Int32))])) rfl (by rw [hml]; rfl) (argsL := [(.int (4 : Int32)), (.int (5 : Int32))]) (rest := []) (lenOf own_pd121 rfl) rfl (Nat.le_of_eq rfl) (hb hby d23_2) (fun _ _ => ⟨rfl, e0, (by decide : 0 + 0 ≤ _), (by decide : 0 + 0 ≤ _)⟩)
  dsimp only [Pt.U, Pt.locs, Pt.cells, Pt.slots] at X847 l847 y847 z847 st847 hQ847
  rw [l847, y847, z847] at X847
  clear l847 y847 z847
  obtain ⟨rfl, Nq847, e847⟩ := hQ847
  have N847 := Fr.app N0 Nq847
  obtain ⟨T848, h848, k848, X848, e848, E848, A848, st848⟩ := newP X847 hx hZ (H 21 _ rfl) e847 (g := (mkF m 10 #[.val (.ref ab), .val (.int (4 : Int32)), .val (.int (5 : Int32)), .val (.int (1 : Int32)), .unset] [(.int (1 : Int32))])) rfl (hb hby d23_10) rfl (by decide) (cap := 1) (by decide) (by decide) (by decide) (by decide)
  obtain ⟨b848, g848⟩ : ∃ z, z = h0.size := ⟨_, rfl⟩
  rw [← g848] at A848 st848
  have g_b848 : n0 ≤ b848 := Nat.le_trans Z0 (Nat.le_of_eq g848.symm)
  have sz_b848 : h0.size ≤ b848 := Nat.le_of_eq g848.symm
  have lt_ab_b848 : ab < b848 := Nat.lt_of_lt_of_le Va.lt (Nat.le_of_eq g848.symm)
  have ne_ab_b848 : ab ≠ b848 := Nat.ne_of_lt lt_ab_b848
  have Zs848 : n0 ≤ h848.size := Nat.le_trans Z0 E848.1
  have KK848 : Keep h0 h848 [] := (Keep.refl h0 _).ext E848
  have f849 := Va.ext E848
  have V848 : Arv Z h848 b848 k848 .byte (1 : Int32) [(.int (0 : Int32))] (.int (0 : Int32)) := (Arv.new A848 (by decide)).pad (pad_rep [] (.int (0 : Int32)) 1)
  obtain ⟨cl850, Ar850, -, S850, M850, -, -⟩ := id f849
  obtain ⟨_, _, ⟨T851, L851, k851, n851⟩, -, X851, ⟨Lc851, hQ851, l851, y851, z851⟩, st851⟩ := Jvm.LawKit.callS X848 hx (y := (⟨"java/lang/Math", "min", "(II)I"⟩ : MethodName)) hown (mvT hZ (H 108 _ rfl)) (mvT hZ (H 73 _ rfl)) (mvT hZ (H 70 _ rfl)) (mvT hZ (H 74 _ rfl)) (by decide) (backOf (W := 4) (rm16 l Z a0 hw [] (1 : Int32) (1 : Int32)  h848 n0 Zs848 ) hZ (H 74 _ rfl) (H 70 _ rfl) (by decide) (by decide)) (g := (mkF m 24 #[.val (.ref ab), .val (.int (4 : Int32)), .val (.int (5 : Int32)), .val (.int (1 : Int32)), .val (.ref b848)] [(.int (1 : Int32)), (.int (1 : Int32)), (.int (0 : Int32)), (.ref b848), (.int (4 : Int32)), (.ref ab)])) rfl (by rw [hml]; rfl) (argsL := [(.int (1 : Int32)), (.int (1 : Int32))]) (rest := [(.int (0 : Int32)), (.ref b848), (.int (4 : Int32)), (.ref ab)]) (lenOf own_pd188 rfl) rfl (Nat.le_of_eq rfl) (hb hby d23_24) (fun _ _ => ⟨rfl, e848, (by decide : 1 + 0 ≤ _), (by decide : 1 + 0 ≤ _)⟩)
  dsimp only [Pt.U, Pt.locs, Pt.cells, Pt.slots] at X851 l851 y851 z851 st851 hQ851
  rw [l851, y851, z851] at X851
  clear l851 y851 z851
  obtain ⟨rfl, Nq851, e851⟩ := hQ851
  have N851 := Fr.app N847 Nq851
  have pre852 : ∀ t, Sp p e below m T851 27 #[.val (.ref ab), .val (.int (4 : Int32)), .val (.int (5 : Int32)), .val (.int (1 : Int32)), .val (.ref b848)] [(.int (if (1 : Int32) < (1 : Int32) then (1 : Int32) else (1 : Int32))), (.int (0 : Int32)), (.ref b848), (.int (4 : Int32)), (.ref ab)] t → Steps p.tables e below G0 t := by
    intro t k
    refine pre0 t ?_
    show Sp p e below m s₁ 0 #[.val (.ref ab), .val (.int (4 : Int32)), .val (.int (5 : Int32)), .unset, .unset] [] _
    refine XS.iloadN X0.here hx rfl (hb hby d23_0) rfl ?_
    refine XS.iloadN X0.here hx rfl (hb hby d23_1) rfl ?_
    show Sp p e below m s₁ 2 #[.val (.ref ab), .val (.int (4 : Int32)), .val (.int (5 : Int32)), .unset, .unset] [(.int (5 : Int32)), (.int (4 : Int32))] _
    refine st847 _ ?_
    show Sp p e below m T847 5 #[.val (.ref ab), .val (.int (4 : Int32)), .val (.int (5 : Int32)), .unset, .unset] [] _
    refine XS.iloadN X847.here hx rfl (hb hby d23_5) rfl ?_
    refine XS.iloadN X847.here hx rfl (hb hby d23_6) rfl ?_
    show Sp p e below m T847 7 #[.val (.ref ab), .val (.int (4 : Int32)), .val (.int (5 : Int32)), .unset, .unset] [(.int (4 : Int32)), (.int (5 : Int32))] _
    refine XS.isub X847.here hx rfl (hb hby d23_7) rfl ?_
    show Sp p e below m T847 8 #[.val (.ref ab), .val (.int (4 : Int32)), .val (.int (5 : Int32)), .unset, .unset] [(.int (1 : Int32))] _
    refine XS.istoreN X847.here hx rfl (hb hby d23_8) rfl (l' := #[.val (.ref ab), .val (.int (4 : Int32)), .val (.int (5 : Int32)), .val (.int (1 : Int32)), .unset]) rfl ?_
    show Sp p e below m T847 9 #[.val (.ref ab), .val (.int (4 : Int32)), .val (.int (5 : Int32)), .val (.int (1 : Int32)), .unset] [] _
    refine XS.iloadN X847.here hx rfl (hb hby d23_9) rfl ?_
    refine st848 _ ?_
    show Sp p e below m T848 12 #[.val (.ref ab), .val (.int (4 : Int32)), .val (.int (5 : Int32)), .val (.int (1 : Int32)), .unset] [(.ref b848)] _
    refine XS.astore X848.here hx rfl (hb hby d23_12) rfl rfl (l' := #[.val (.ref ab), .val (.int (4 : Int32)), .val (.int (5 : Int32)), .val (.int (1 : Int32)), .val (.ref b848)]) rfl ?_
    show Sp p e below m T848 14 #[.val (.ref ab), .val (.int (4 : Int32)), .val (.int (5 : Int32)), .val (.int (1 : Int32)), .val (.ref b848)] [] _
    refine XS.aloadN X848.here hx rfl (hb hby d23_14) rfl rfl ?_
    refine XS.iloadN X848.here hx rfl (hb hby d23_15) rfl ?_
    show Sp p e below m T848 16 #[.val (.ref ab), .val (.int (4 : Int32)), .val (.int (5 : Int32)), .val (.int (1 : Int32)), .val (.ref b848)] [(.int (4 : Int32)), (.ref ab)] _
    refine XS.aload X848.here hx rfl (hb hby d23_16) rfl rfl ?_
    refine XS.iconst X848.here hx rfl (hb hby d23_18) ?_
    show Sp p e below m T848 19 #[.val (.ref ab), .val (.int (4 : Int32)), .val (.int (5 : Int32)), .val (.int (1 : Int32)), .val (.ref b848)] [(.int (0 : Int32)), (.ref b848), (.int (4 : Int32)), (.ref ab)] _
    refine XS.aloadN X848.here hx rfl (hb hby d23_19) rfl rfl ?_
    refine X848.arraylength hx (by rw [e848]; exact Ar850.1) (State.isArrayOf_alike hZ.alike Ar850.2.1) (g := (mkF m 20 #[.val (.ref ab), .val (.int (4 : Int32)), .val (.int (5 : Int32)), .val (.int (1 : Int32)), .val (.ref b848)] [(.ref ab), (.int (0 : Int32)), (.ref b848), (.int (4 : Int32)), (.ref ab)])) rfl rfl (hb hby d23_20) _ ?_
    rw [len_of S850 M850]
    show Sp p e below m T848 21 #[.val (.ref ab), .val (.int (4 : Int32)), .val (.int (5 : Int32)), .val (.int (1 : Int32)), .val (.ref b848)] [(.int (5 : Int32)), (.int (0 : Int32)), (.ref b848), (.int (4 : Int32)), (.ref ab)] _
    refine XS.iloadN X848.here hx rfl (hb hby d23_21) rfl ?_
    refine XS.isub X848.here hx rfl (hb hby d23_22) rfl ?_
    show Sp p e below m T848 23 #[.val (.ref ab), .val (.int (4 : Int32)), .val (.int (5 : Int32)), .val (.int (1 : Int32)), .val (.ref b848)] [(.int (1 : Int32)), (.int (0 : Int32)), (.ref b848), (.int (4 : Int32)), (.ref ab)] _
    refine XS.iloadN X848.here hx rfl (hb hby d23_23) rfl ?_
    refine st851 _ ?_
    exact k
  rw [show (if (1 : Int32) < (1 : Int32) then (1 : Int32) else (1 : Int32)) = (1 : Int32) from by decide] at pre852
  obtain ⟨T853, h853, L853, X853, e853, N853, K853, Vc853, st853⟩ := cpA X851 hx hZ hown (H 109 _ rfl) (H 112 _ rfl) (H 110 _ rfl) (H 111 _ rfl) e851 f849 V848 (Or.inl ⟨rfl, rfl⟩) (by decide) (by decide) (by decide) (by decide) (by decide) rfl (Nat.le_of_ble_eq_true rfl) N851 g_b848 (g := (mkF m 27 #[.val (.ref ab), .val (.int (4 : Int32)), .val (.int (5 : Int32)), .val (.int (1 : Int32)), .val (.ref b848)] [(.int (1 : Int32)), (.int (0 : Int32)), (.ref b848), (.int (4 : Int32)), (.ref ab)])) rfl (by rw [hml]; rfl) rfl (hb hby d23_27) (by decide) (W := 0) (Nat.le_of_eq rfl) (by decide)
  have V853 : Arv Z h853 b848 k848 .byte (1 : Int32) [(.int ee4)] (.int (0 : Int32)) := Vc853
  have Zs853 : n0 ≤ h853.size := Nat.le_trans Zs848 K853.1
  have KK853 : Keep h0 h853 [] := KK848.trans K853 (allS (Or.inr sz_b848) all0)
  have f854 := f849.keep K853 (ninS ne_ab_b848 nin0)
  obtain ⟨fs, hr, hrun, hended, hW, hsame⟩ := X853.leave (v := some (.ref b848)) (fun h => by rw [Bd.returns] at h; cases h)
  refine ⟨_, _, pre852 _ ?_, hrun, hended, _, _, rfl, ?_, ⟨_, rfl⟩, hW, hsame.mono (by decide) (by decide)⟩
  · show Sp p e below m T851 27 #[.val (.ref ab), .val (.int (4 : Int32)), .val (.int (5 : Int32)), .val (.int (1 : Int32)), .val (.ref b848)] [(.int (1 : Int32)), (.int (0 : Int32)), (.ref b848), (.int (4 : Int32)), (.ref ab)] _
    refine st853 _ ?_
    show Sp p e below m T853 30 #[.val (.ref ab), .val (.int (4 : Int32)), .val (.int (5 : Int32)), .val (.int (1 : Int32)), .val (.ref b848)] [] _
    refine XS.aload X853.here hx rfl (hb hby d23_30) rfl rfl ?_
    jvm_step X853.here [X853.here.top, hx, (hb hby d23_32), X853.method', Bd.returns, Value.isRef, FieldType.isReference]
    first | (intro acts; rw [hr _ acts rfl rfl rfl]) | rw [hr _ _ rfl rfl rfl]
    exact Steps.refl _
  · show Q23n5b4e5 Z ab kb ee0 ee1 ee2 ee3 ee4 h0 n0 _ T853.heap _
    rw [e853]
    exact ⟨b848, k848, rfl, N853, KK853, V853, g_b848, sz_b848⟩
theorem ef_22n5b4e5 (m : MethodId) (x0 : Addr) : entryFrame m #[(.ref x0), (.int (4 : Int32)), (.int (5 : Int32))] 3 = mkF m 0 #[.val (.ref x0), .val (.int (4 : Int32)), .val (.int (5 : Int32))] [] := by first | (simp [entryFrame, mkF, argsToLocals, Value.category]; done) | rfl
def Q22n5b4e5 (Z : State) (ab : Addr) (kb : ClassId) (ee0 : Int32) (ee1 : Int32) (ee2 : Int32) (ee3 : Int32) (ee4 : Int32) (h0 : Heap) (n0 : Nat) (v : Option Value) (h : Heap) (L : List Loc) : Prop := ∃ (rb : Addr) (rk : ClassId), v = some (.ref rb) ∧ Fr n0 L ∧ Keep h0 h [] ∧ Arv Z h rb rk .byte (1 : Int32) [(.int ee4)] (.int (0 : Int32)) ∧ n0 ≤ rb ∧ h0.size ≤ rb
set_option maxRecDepth 65536 in
set_option maxHeartbeats 40000000 in
theorem rm22n5b4e5 (l : Launch) (Z : State) (a0 : Array Value) (hw : ∀ d ∈ tables_1, d.before a0 Z = true) (ws : List Jvm.Cond) (ab : Addr) (kb : ClassId) (ee0 : Int32) (ee1 : Int32) (ee2 : Int32) (ee3 : Int32) (ee4 : Int32) (h0 : Heap) (n0 : Nat) (Z0 : n0 ≤ h0.size) (Va : Arv Z h0 ab kb .byte (5 : Int32) [(.int ee0), (.int ee1), (.int ee2), (.int ee3), (.int ee4)] (.int (0 : Int32))) :
    MetFree l (⟨"java/util/Arrays", "copyOfRange", "([BII)[B"⟩ : MethodName) (head1 (Jvm.Cond.code (⟨"java/util/Arrays", "copyOfRange", "([BII)[B"⟩ : MethodName) jdk_65_method_132_code 3 (some (.array .byte)) :: ws) ({ frames := 2, cells := 1, slots := 1, locals := 34 } : Room)) (fun a U => a = #[(.ref ab), (.int (4 : Int32)), (.int (5 : Int32))] ∧ Z.Warmed39 U.vm ∧ U.heap = h0) (fun _ _ _ _ _ => True) (fun _ U o U' => ∃ v L, o = .returned v ∧ Q22n5b4e5 Z ab kb ee0 ee1 ee2 ee3 ee4 h0 n0 v U'.heap L ∧ FrameEnd U o U' L ({ frames := 2, cells := 1, slots := 1, locals := 34 } : Room).cells ({ frames := 2, cells := 1, slots := 1, locals := 34 } : Room).slots) := by
  refine MetFree.of_bodySF (plainFor_of_name own_pn248) hisR ?_
  intro p e s m args below meth c s₁ Bd hml0 hP hK
  have H := fun i c (h : tables_1[i]? = some c) => hw c (List.mem_of_getElem? h)
  obtain ⟨rfl, hZ, hh⟩ := hP
  have hx := Bd.exec
  have hby := Bd.bytes
  have hml : c.maxLocals = 3 := hml0
  have hown : s.vm.findClass "java/util/Arrays" = some m.cls := findClass_of_methodNamed Bd.named
  have hnm := (name_of_methodNamed Bd.named Bd.method).1
  have X0 : Stand p l e ({ frames := 2, cells := 1, slots := 1, locals := 34 } : Room) s m #[(.ref ab), (.int (4 : Int32)), (.int (5 : Int32))] below meth c s₁ [] 0 0 := Stand.of_body Bd
  have e0 : s₁.heap = h0 := by rw [← hh, Bd.state]; rfl
  have N0 := Fr.nil n0
  have pre0 : ∀ t, Sp p e below m s₁ 0 #[.val (.ref ab), .val (.int (4 : Int32)), .val (.int (5 : Int32))] [] t → Steps p.tables e below (s₁.setTop (entryFrame m #[(.ref ab), (.int (4 : Int32)), (.int (5 : Int32))] 3)) t := fun t k => castTop (ef_22n5b4e5 m ab) k
  generalize s₁.setTop (entryFrame m #[(.ref ab), (.int (4 : Int32)), (.int (5 : Int32))] 3) = G0 at pre0 ⊢
  obtain ⟨_, _, ⟨T857, L857, k857, n857⟩, -, X857, ⟨Lc857, hQ857, l857, y857, z857⟩, st857⟩ := Jvm.LawKit.callS X0 hx (y := (⟨"java/util/Arrays", "copyOfRangeByte", "([BII)[B"⟩ : MethodName)) hown (mvT hZ (H 102 _ rfl)) (mvT hZ (H 103 _ rfl)) (mvT hZ (H 100 _ rfl)) (mvT hZ (H 104 _ rfl)) (by decide) (backOf (W := 0) (rm23n5b4e5 l Z a0 hw [] ab kb ee0 ee1 ee2 ee3 ee4 h0 n0 Z0 Va) hZ (H 104 _ rfl) (H 100 _ rfl) (by decide) (by decide)) (g := (mkF m 13 #[.val (.ref ab), .val (.int (4 : Int32)), .val (.int (5 : Int32))] [(.int (5 : Int32)), (.int (4 : Int32)), (.ref ab)])) rfl (by rw [hml]; rfl) (argsL := [(.ref ab), (.int (4 : Int32)), (.int (5 : Int32))]) (rest := []) (lenOf own_pd282 rfl) rfl (Nat.le_of_eq rfl) (hb hby d22_13) (fun _ _ => ⟨rfl, e0, (by decide : 0 + 1 ≤ _), (by decide : 0 + 1 ≤ _)⟩)
  dsimp only [Pt.U, Pt.locs, Pt.cells, Pt.slots] at X857 l857 y857 z857 st857 hQ857
  rw [l857, y857, z857] at X857
  clear l857 y857 z857
  obtain ⟨rrb_857, rrk_857, rfl, Nq857, K857, p857_0, p857_1, p857_2⟩ := hQ857
  have N857 := Fr.app N0 Nq857
  have Zs857 : n0 ≤ T857.heap.size := Nat.le_trans Z0 K857.1
  have KK857 : Keep h0 T857.heap [] := (Keep.refl h0 _).trans K857 all0
  have ne_ab_rrb_857 : ab ≠ rrb_857 := Nat.ne_of_lt (Nat.lt_of_lt_of_le Va.lt p857_2)
  have sz_rrb_857 : h0.size ≤ rrb_857 := p857_2
  have f858 := Va.keep K857 nin0
  have g_rrb_857 := p857_1
  obtain ⟨fs, hr, hrun, hended, hW, hsame⟩ := X857.leave (v := some (.ref rrb_857)) (fun h => by rw [Bd.returns] at h; cases h)
  refine ⟨_, _, pre0 _ ?_, hrun, hended, _, _, rfl, ?_, ⟨_, rfl⟩, hW, hsame.mono (by decide) (by decide)⟩
  · show Sp p e below m s₁ 0 #[.val (.ref ab), .val (.int (4 : Int32)), .val (.int (5 : Int32))] [] _
    refine XS.iloadN X0.here hx rfl (hb hby d22_0) rfl ?_
    refine XS.ifYes X0.here hx rfl (pc0 := 1) (pc' := 10) rfl (hb hby d22_1) rfl ((if0 _ _).trans (feq (by decide : ¬ ((4 : Int32) = (0 : Int32)))).2) (by decide) (by decide) ?_
    show Sp p e below m s₁ 10 #[.val (.ref ab), .val (.int (4 : Int32)), .val (.int (5 : Int32))] [] _
    refine XS.aloadN X0.here hx rfl (hb hby d22_10) rfl rfl ?_
    refine XS.iloadN X0.here hx rfl (hb hby d22_11) rfl ?_
    show Sp p e below m s₁ 12 #[.val (.ref ab), .val (.int (4 : Int32)), .val (.int (5 : Int32))] [(.int (4 : Int32)), (.ref ab)] _
    refine XS.iloadN X0.here hx rfl (hb hby d22_12) rfl ?_
    refine st857 _ ?_
    show Sp p e below m T857 16 #[.val (.ref ab), .val (.int (4 : Int32)), .val (.int (5 : Int32))] [(.ref rrb_857)] _
    jvm_step X857.here [X857.here.top, hx, (hb hby d22_16), X857.method', Bd.returns, Value.isRef, FieldType.isReference]
    first | (intro acts; rw [hr _ acts rfl rfl rfl]) | rw [hr _ _ rfl rfl rfl]
    exact Steps.refl _
  · show Q22n5b4e5 Z ab kb ee0 ee1 ee2 ee3 ee4 h0 n0 _ T857.heap _
    exact ⟨rrb_857, rrk_857, rfl, N857, KK857, p857_0, g_rrb_857, sz_rrb_857⟩
theorem ef_21n5b4e5 (m : MethodId) (x0 : Addr) : entryFrame m #[(.ref x0), (.int (4 : Int32)), (.int (1 : Int32))] 3 = mkF m 0 #[.val (.ref x0), .val (.int (4 : Int32)), .val (.int (1 : Int32))] [] := by first | (simp [entryFrame, mkF, argsToLocals, Value.category]; done) | rfl
def Q21n5b4e5 (Z : State) (ab : Addr) (kb : ClassId) (ee0 : Int32) (ee1 : Int32) (ee2 : Int32) (ee3 : Int32) (ee4 : Int32) (h0 : Heap) (n0 : Nat) (v : Option Value) (h : Heap) (L : List Loc) : Prop := ∃ (so : Addr) (rb : Addr) (rk : ClassId), v = some (.ref so) ∧ Fr n0 L ∧ Keep h0 h [] ∧ Exa Z h so "java/lang/String" ∧ Fld Z h so "java/lang/String" "value" "[B" (.ref rb) ∧ Fld Z h so "java/lang/String" "coder" "B" (.int (0 : Int32)) ∧ Arv Z h rb rk .byte (1 : Int32) [(.int ee4)] (.int (0 : Int32)) ∧ n0 ≤ so ∧ h0.size ≤ so ∧ n0 ≤ rb ∧ h0.size ≤ rb
set_option maxRecDepth 65536 in
set_option maxHeartbeats 40000000 in
theorem rm21n5b4e5 (l : Launch) (Z : State) (a0 : Array Value) (hw : ∀ d ∈ tables_1, d.before a0 Z = true) (ws : List Jvm.Cond) (ab : Addr) (kb : ClassId) (ee0 : Int32) (ee1 : Int32) (ee2 : Int32) (ee3 : Int32) (ee4 : Int32) (h0 : Heap) (n0 : Nat) (Z0 : n0 ≤ h0.size) (Va : Arv Z h0 ab kb .byte (5 : Int32) [(.int ee0), (.int ee1), (.int ee2), (.int ee3), (.int ee4)] (.int (0 : Int32))) :
    MetFree l (⟨"java/lang/StringLatin1", "newString", "([BII)Ljava/lang/String;"⟩ : MethodName) (head1 (Jvm.Cond.code (⟨"java/lang/StringLatin1", "newString", "([BII)Ljava/lang/String;"⟩ : MethodName) jdk_43_method_47_code 3 (some (.object "java/lang/String")) :: ws) ({ frames := 3, cells := 2, slots := 5, locals := 50 } : Room)) (fun a U => a = #[(.ref ab), (.int (4 : Int32)), (.int (1 : Int32))] ∧ Z.Warmed39 U.vm ∧ U.heap = h0) (fun _ _ _ _ _ => True) (fun _ U o U' => ∃ v L, o = .returned v ∧ Q21n5b4e5 Z ab kb ee0 ee1 ee2 ee3 ee4 h0 n0 v U'.heap L ∧ FrameEnd U o U' L ({ frames := 3, cells := 2, slots := 5, locals := 50 } : Room).cells ({ frames := 3, cells := 2, slots := 5, locals := 50 } : Room).slots) := by
  refine MetFree.of_bodySF (plainFor_of_name own_pn129) hisR ?_
  intro p e s m args below meth c s₁ Bd hml0 hP hK
  have H := fun i c (h : tables_1[i]? = some c) => hw c (List.mem_of_getElem? h)
  obtain ⟨rfl, hZ, hh⟩ := hP
  have hx := Bd.exec
  have hby := Bd.bytes
  have hml : c.maxLocals = 3 := hml0
  have hown : s.vm.findClass "java/lang/StringLatin1" = some m.cls := findClass_of_methodNamed Bd.named
  have hnm := (name_of_methodNamed Bd.named Bd.method).1
  have X0 : Stand p l e ({ frames := 3, cells := 2, slots := 5, locals := 50 } : Room) s m #[(.ref ab), (.int (4 : Int32)), (.int (1 : Int32))] below meth c s₁ [] 0 0 := Stand.of_body Bd
  have e0 : s₁.heap = h0 := by rw [← hh, Bd.state]; rfl
  have N0 := Fr.nil n0
  have pre0 : ∀ t, Sp p e below m s₁ 0 #[.val (.ref ab), .val (.int (4 : Int32)), .val (.int (1 : Int32))] [] t → Steps p.tables e below (s₁.setTop (entryFrame m #[(.ref ab), (.int (4 : Int32)), (.int (1 : Int32))] 3)) t := fun t k => castTop (ef_21n5b4e5 m ab) k
  generalize s₁.setTop (entryFrame m #[(.ref ab), (.int (4 : Int32)), (.int (1 : Int32))] 3) = G0 at pre0 ⊢
  obtain ⟨T872, h872, X872, e872, E872, A872, D872, -, st872⟩ := newO X0 hx hZ hown (H 97 _ rfl) (H 4 _ rfl) (H 5 _ rfl) e0 (g := (mkF m 7 #[.val (.ref ab), .val (.int (4 : Int32)), .val (.int (1 : Int32))] [])) rfl (hb hby d21_7) (by decide) (by decide)
  obtain ⟨b872, g872⟩ : ∃ z, z = h0.size := ⟨_, rfl⟩
  rw [← g872] at A872 D872 st872
  have g_b872 : n0 ≤ b872 := Nat.le_trans Z0 (Nat.le_of_eq g872.symm)
  have sz_b872 : h0.size ≤ b872 := Nat.le_of_eq g872.symm
  have lt_ab_b872 : ab < b872 := Nat.lt_of_lt_of_le Va.lt (Nat.le_of_eq g872.symm)
  have ne_ab_b872 : ab ≠ b872 := Nat.ne_of_lt lt_ab_b872
  have Zs872 : n0 ≤ h872.size := Nat.le_trans Z0 E872.1
  have KK872 : Keep h0 h872 [] := (Keep.refl h0 _).ext E872
  have f873 := Va.ext E872
  have f874 : Fld Z h872 b872 "java/lang/String" "coder" "B" (.int (0 : Int32)) := D872 (Or.inr (H 29 _ rfl)) (ty := .byte) (by decide)
  have f875 : Fld Z h872 b872 "java/lang/String" "value" "[B" .null := D872 (Or.inr (H 31 _ rfl)) (ty := (.array .byte)) (by decide)
  obtain ⟨_, _, ⟨T876, L876, k876, n876⟩, -, X876, ⟨Lc876, hQ876, l876, y876, z876⟩, st876⟩ := Jvm.LawKit.callS X872 hx (y := (⟨"java/util/Arrays", "copyOfRange", "([BII)[B"⟩ : MethodName)) hown (mvT hZ (H 98 _ rfl)) (mvT hZ (H 99 _ rfl)) (mvT hZ (H 100 _ rfl)) (mvT hZ (H 101 _ rfl)) (by decide) (backOf (W := 2) (rm22n5b4e5 l Z a0 hw [] ab kb ee0 ee1 ee2 ee3 ee4 h872 n0 Zs872 f873) hZ (H 101 _ rfl) (H 100 _ rfl) (by decide) (by decide)) (g := (mkF m 16 #[.val (.ref ab), .val (.int (4 : Int32)), .val (.int (1 : Int32))] [(.int (5 : Int32)), (.int (4 : Int32)), (.ref ab), (.ref b872), (.ref b872)])) rfl (by rw [hml]; rfl) (argsL := [(.ref ab), (.int (4 : Int32)), (.int (5 : Int32))]) (rest := [(.ref b872), (.ref b872)]) (lenOf own_pd282 rfl) rfl (Nat.le_of_eq rfl) (hb hby d21_16) (fun _ _ => ⟨rfl, e872, (by decide : 1 + 1 ≤ _), (by decide : 4 + 1 ≤ _)⟩)
  dsimp only [Pt.U, Pt.locs, Pt.cells, Pt.slots] at X876 l876 y876 z876 st876 hQ876
  rw [l876, y876, z876] at X876
  clear l876 y876 z876
  obtain ⟨rrb_876, rrk_876, rfl, Nq876, K876, p876_0, p876_1, p876_2⟩ := hQ876
  have N876 := Fr.app N0 Nq876
  have Zs876 : n0 ≤ T876.heap.size := Nat.le_trans Zs872 K876.1
  have KK876 : Keep h0 T876.heap [] := KK872.trans K876 all0
  have ne_ab_rrb_876 : ab ≠ rrb_876 := Nat.ne_of_lt (Nat.lt_of_lt_of_le f873.lt p876_2)
  have ne_b872_rrb_876 : b872 ≠ rrb_876 := Nat.ne_of_lt (Nat.lt_of_lt_of_le A872.lt p876_2)
  have sz_rrb_876 : h0.size ≤ rrb_876 := Nat.le_trans KK872.1 p876_2
  have f877 := f873.keep K876 nin0
  have f878 := A872.keep K876
  have f879 := f874.keep K876 nin0
  have f880 := f875.keep K876 nin0
  have g_rrb_876 := p876_1
  obtain ⟨_, _, ⟨T881, L881, k881, n881⟩, -, X881, ⟨Lc881, hQ881, l881, y881, z881⟩, st881⟩ := X876.specialBack hx (y := (⟨"java/lang/String", "<init>", "([BB)V"⟩ : MethodName)) rfl hown (mvT hZ (H 113 _ rfl)) (mvT hZ (H 114 _ rfl)) (mvT hZ (H 115 _ rfl)) (by decide) (backOf (W := 1) (rm25 l Z a0 hw [] b872 rrb_876  T876.heap n0 Zs876 f878 f880 f879 g_b872) hZ (H 115 _ rfl) (H 5 _ rfl) (by decide) (by decide)) (g := (mkF m 20 #[.val (.ref ab), .val (.int (4 : Int32)), .val (.int (1 : Int32))] [(.int (0 : Int32)), (.ref rrb_876), (.ref b872), (.ref b872)])) rfl (by rw [hml]; rfl) (Steps.refl _) (a := b872) (argsL := [(.ref rrb_876), (.int (0 : Int32))]) (rest := [(.ref b872)]) (lenOf own_pd305 rfl) rfl (Nat.le_of_eq rfl) (hb hby d21_20) (fun _ _ => ⟨rfl, rfl, (by decide : 2 + 0 ≤ _), (by decide : 5 + 0 ≤ _)⟩)
  dsimp only [Pt.U, Pt.locs, Pt.cells, Pt.slots] at X881 l881 y881 z881 st881 hQ881
  rw [l881, y881, z881] at X881
  clear l881 y881 z881
  obtain ⟨rfl, Nq881, K881, p881_0, p881_1, p881_2⟩ := hQ881
  have N881 := Fr.app N876 Nq881
  have Zs881 : n0 ≤ T881.heap.size := Nat.le_trans Zs876 K881.1
  have KK881 : Keep h0 T881.heap [] := KK876.trans K881 (allS (Or.inr sz_b872) all0)
  have f882 := f877.keep K881 (ninS ne_ab_b872 nin0)
  have f883 := f878.keep K881
  have f884 := p876_0.keep K881 (ninS (Ne.symm ne_b872_rrb_876) nin0)
  obtain ⟨fs, hr, hrun, hended, hW, hsame⟩ := X881.leave (v := some (.ref b872)) (fun h => by rw [Bd.returns] at h; cases h)
  refine ⟨_, _, pre0 _ ?_, hrun, hended, _, _, rfl, ?_, ⟨_, rfl⟩, hW, hsame.mono (by decide) (by decide)⟩
  · show Sp p e below m s₁ 0 #[.val (.ref ab), .val (.int (4 : Int32)), .val (.int (1 : Int32))] [] _
    refine XS.iloadN X0.here hx rfl (hb hby d21_0) rfl ?_
    refine XS.ifYes X0.here hx rfl (pc0 := 1) (pc' := 7) rfl (hb hby d21_1) rfl ((if0 _ _).trans (feq (by decide : ¬ ((1 : Int32) = (0 : Int32)))).2) (by decide) (by decide) ?_
    show Sp p e below m s₁ 7 #[.val (.ref ab), .val (.int (4 : Int32)), .val (.int (1 : Int32))] [] _
    refine st872 _ ?_
    show Sp p e below m T872 10 #[.val (.ref ab), .val (.int (4 : Int32)), .val (.int (1 : Int32))] [(.ref b872)] _
    refine XS.dup X872.here hx rfl (hb hby d21_10) rfl rfl ?_
    refine XS.aloadN X872.here hx rfl (hb hby d21_11) rfl rfl ?_
    show Sp p e below m T872 12 #[.val (.ref ab), .val (.int (4 : Int32)), .val (.int (1 : Int32))] [(.ref ab), (.ref b872), (.ref b872)] _
    refine XS.iloadN X872.here hx rfl (hb hby d21_12) rfl ?_
    refine XS.iloadN X872.here hx rfl (hb hby d21_13) rfl ?_
    show Sp p e below m T872 14 #[.val (.ref ab), .val (.int (4 : Int32)), .val (.int (1 : Int32))] [(.int (4 : Int32)), (.int (4 : Int32)), (.ref ab), (.ref b872), (.ref b872)] _
    refine XS.iloadN X872.here hx rfl (hb hby d21_14) rfl ?_
    refine XS.iadd X872.here hx rfl (hb hby d21_15) rfl ?_
    show Sp p e below m T872 16 #[.val (.ref ab), .val (.int (4 : Int32)), .val (.int (1 : Int32))] [(.int (5 : Int32)), (.int (4 : Int32)), (.ref ab), (.ref b872), (.ref b872)] _
    refine st876 _ ?_
    show Sp p e below m T876 19 #[.val (.ref ab), .val (.int (4 : Int32)), .val (.int (1 : Int32))] [(.ref rrb_876), (.ref b872), (.ref b872)] _
    refine XS.iconst X876.here hx rfl (hb hby d21_19) ?_
    refine st881.trans ?_
    show Sp p e below m T881 23 #[.val (.ref ab), .val (.int (4 : Int32)), .val (.int (1 : Int32))] [(.ref b872)] _
    jvm_step X881.here [X881.here.top, hx, (hb hby d21_23), X881.method', Bd.returns, Value.isRef, FieldType.isReference]
    first | (intro acts; rw [hr _ acts rfl rfl rfl]) | rw [hr _ _ rfl rfl rfl]
    exact Steps.refl _
  · show Q21n5b4e5 Z ab kb ee0 ee1 ee2 ee3 ee4 h0 n0 _ T881.heap _
    exact ⟨b872, rrb_876, rrk_876, rfl, N881, KK881, p881_0, p881_1, p881_2, f884, g_b872, sz_b872, g_rrb_876, sz_rrb_876⟩
theorem ef_18n5b4e5 (m : MethodId) (x0 : Addr) : entryFrame m #[(.ref x0), (.int (4 : Int32)), (.int (5 : Int32))] 5 = mkF m 0 #[.val (.ref x0), .val (.int (4 : Int32)), .val (.int (5 : Int32)), .unset, .unset] [] := by first | (simp [entryFrame, mkF, argsToLocals, Value.category]; done) | rfl
def Q18n5b4e5 (Z : State) (aa : Addr) (cs : Int32) (vf : Value) (ab : Addr) (kb : ClassId) (ee0 : Int32) (ee1 : Int32) (ee2 : Int32) (ee3 : Int32) (ee4 : Int32) (h0 : Heap) (n0 : Nat) (v : Option Value) (h : Heap) (L : List Loc) : Prop := ∃ (so : Addr) (rb : Addr) (rk : ClassId), v = some (.ref so) ∧ Fr n0 L ∧ Keep h0 h [] ∧ Exa Z h so "java/lang/String" ∧ Fld Z h so "java/lang/String" "value" "[B" (.ref rb) ∧ Fld Z h so "java/lang/String" "coder" "B" (.int (0 : Int32)) ∧ Arv Z h rb rk .byte (1 : Int32) [(.int ee4)] (.int (0 : Int32)) ∧ n0 ≤ so ∧ h0.size ≤ so ∧ n0 ≤ rb ∧ h0.size ≤ rb
set_option maxRecDepth 65536 in
set_option maxHeartbeats 40000000 in
theorem rm18n5b4e5 (l : Launch) (Z : State) (a0 : Array Value) (hw : ∀ d ∈ tables_1, d.before a0 Z = true) (ws : List Jvm.Cond) (aa : Addr) (cs : Int32) (vf : Value) (ab : Addr) (kb : ClassId) (ee0 : Int32) (ee1 : Int32) (ee2 : Int32) (ee3 : Int32) (ee4 : Int32) (h0 : Heap) (n0 : Nat) (Z0 : n0 ≤ h0.size) (O0 : Old Z n0 h0) (Scs : Sta Z Z.heap "java/lang/String" "COMPACT_STRINGS" "Z" (.int cs)) (hcs : ¬ cs = (0 : Int32)) (Ssf : Sta Z Z.heap "jdk/internal/util/Preconditions" "SIOOBE_FORMATTER" "Ljava/util/function/BiFunction;" vf) (hvf : vf.isRef = true) (Ea : Exa Z h0 aa "java/lang/String") (Fv : Fld Z h0 aa "java/lang/String" "value" "[B" (.ref ab)) (Fc : Fld Z h0 aa "java/lang/String" "coder" "B" (.int (0 : Int32))) (Va : Arv Z h0 ab kb .byte (5 : Int32) [(.int ee0), (.int ee1), (.int ee2), (.int ee3), (.int ee4)] (.int (0 : Int32))) :
    MetFree l (⟨"java/lang/String", "substring", "(II)Ljava/lang/String;"⟩ : MethodName) (head1 (Jvm.Cond.code (⟨"java/lang/String", "substring", "(II)Ljava/lang/String;"⟩ : MethodName) jdk_42_method_92_code 5 (some (.object "java/lang/String")) :: ws) ({ frames := 4, cells := 2, slots := 5, locals := 64 } : Room)) (fun a U => a = #[(.ref aa), (.int (4 : Int32)), (.int (5 : Int32))] ∧ Z.Warmed39 U.vm ∧ U.heap = h0) (fun _ _ _ _ _ => True) (fun _ U o U' => ∃ v L, o = .returned v ∧ Q18n5b4e5 Z aa cs vf ab kb ee0 ee1 ee2 ee3 ee4 h0 n0 v U'.heap L ∧ FrameEnd U o U' L ({ frames := 4, cells := 2, slots := 5, locals := 64 } : Room).cells ({ frames := 4, cells := 2, slots := 5, locals := 64 } : Room).slots) := by
  refine MetFree.of_bodySF (plainFor_of_name own_pn8) hisR ?_
  intro p e s m args below meth c s₁ Bd hml0 hP hK
  have H := fun i c (h : tables_1[i]? = some c) => hw c (List.mem_of_getElem? h)
  obtain ⟨rfl, hZ, hh⟩ := hP
  have hx := Bd.exec
  have hby := Bd.bytes
  have hml : c.maxLocals = 5 := hml0
  have hown : s.vm.findClass "java/lang/String" = some m.cls := findClass_of_methodNamed Bd.named
  have hnm := (name_of_methodNamed Bd.named Bd.method).1
  have X0 : Stand p l e ({ frames := 4, cells := 2, slots := 5, locals := 64 } : Room) s m #[(.ref aa), (.int (4 : Int32)), (.int (5 : Int32))] below meth c s₁ [] 0 0 := Stand.of_body Bd
  have e0 : s₁.heap = h0 := by rw [← hh, Bd.state]; rfl
  have N0 := Fr.nil n0
  have pre0 : ∀ t, Sp p e below m s₁ 0 #[.val (.ref aa), .val (.int (4 : Int32)), .val (.int (5 : Int32)), .unset, .unset] [] t → Steps p.tables e below (s₁.setTop (entryFrame m #[(.ref aa), (.int (4 : Int32)), (.int (5 : Int32))] 5)) t := fun t k => castTop (ef_18n5b4e5 m aa) k
  generalize s₁.setTop (entryFrame m #[(.ref aa), (.int (4 : Int32)), (.int (5 : Int32))] 5) = G0 at pre0 ⊢
  obtain ⟨cq896, kq896, q896a, q896b, q896c⟩ := isOf hZ e0 Ea
  obtain ⟨_, _, ⟨T896, L896, k896, n896⟩, -, X896, ⟨Lc896, hQ896, l896, y896, z896⟩, st896⟩ := X0.virtualBack hx (y := (⟨"java/lang/String", "length", "()I"⟩ : MethodName)) (z := (⟨"java/lang/String", "length", "()I"⟩ : MethodName)) hown (mvT hZ (H 51 _ rfl)) (mvT hZ (H 52 _ rfl)) (notFace_of_selects (args := #[]) (mvT hZ (H 54 _ rfl))) (mvT hZ (H 54 _ rfl)) (mvT hZ (H 53 _ rfl)) (by decide) (backOf (W := 0) (rm11 l Z a0 hw [] aa cs vf ab kb (5 : Int32) [(.int ee0), (.int ee1), (.int ee2), (.int ee3), (.int ee4)] h0 n0 Z0 O0 Scs hcs Ssf hvf Ea Fv Fc Va) hZ (H 55 _ rfl) (H 5 _ rfl) (by decide) (by decide)) q896a q896c (g := (mkF m 1 #[.val (.ref aa), .val (.int (4 : Int32)), .val (.int (5 : Int32)), .unset, .unset] [(.ref aa)])) rfl (by rw [hml]; rfl) (Steps.refl _) (argsL := []) (rest := []) (lenOf own_pd214 rfl) rfl (Nat.le_of_eq rfl) (hb hby d18_1) (fun _ _ => ⟨rfl, e0, (by decide : 0 + 0 ≤ _), (by decide : 0 + 0 ≤ _)⟩)
  dsimp only [Pt.U, Pt.locs, Pt.cells, Pt.slots] at X896 l896 y896 z896 st896 hQ896
  rw [l896, y896, z896] at X896
  clear l896 y896 z896
  obtain ⟨rfl, Nq896, e896⟩ := hQ896
  have N896 := Fr.app N0 Nq896
  obtain ⟨_, _, ⟨T897, L897, k897, n897⟩, -, X897, ⟨Lc897, hQ897, l897, y897, z897⟩, st897⟩ := Jvm.LawKit.callS X896 hx (y := (⟨"java/lang/String", "checkBoundsBeginEnd", "(III)V"⟩ : MethodName)) hown (mvT hZ (H 86 _ rfl)) (mvT hZ (H 87 _ rfl)) (mvT hZ (H 5 _ rfl)) (mvT hZ (H 88 _ rfl)) (by decide) (backOf (W := 0) (rm19 l Z a0 hw [] (4 : Int32) (5 : Int32) (5 : Int32) cs vf h0 n0 Z0 O0 Scs hcs Ssf hvf (by decide) (by decide) (by decide)) hZ (H 88 _ rfl) (H 5 _ rfl) (by decide) (by decide)) (g := (mkF m 8 #[.val (.ref aa), .val (.int (4 : Int32)), .val (.int (5 : Int32)), .val (.int (5 : Int32)), .unset] [(.int (5 : Int32)), (.int (5 : Int32)), (.int (4 : Int32))])) rfl (by rw [hml]; rfl) (argsL := [(.int (4 : Int32)), (.int (5 : Int32)), (.int (5 : Int32))]) (rest := []) (lenOf own_pd332 rfl) rfl (Nat.le_of_eq rfl) (hb hby d18_8) (fun _ _ => ⟨rfl, e896, (by decide : 0 + 0 ≤ _), (by decide : 0 + 0 ≤ _)⟩)
  dsimp only [Pt.U, Pt.locs, Pt.cells, Pt.slots] at X897 l897 y897 z897 st897 hQ897
  rw [l897, y897, z897] at X897
  clear l897 y897 z897
  obtain ⟨rfl, Nq897, e897⟩ := hQ897
  have N897 := Fr.app N896 Nq897
  obtain ⟨cq898, kq898, q898a, q898b, q898c⟩ := isOf hZ e897 Ea
  obtain ⟨_, _, ⟨T898, L898, k898, n898⟩, -, X898, ⟨Lc898, hQ898, l898, y898, z898⟩, st898⟩ := X897.virtualBack hx (y := (⟨"java/lang/String", "isLatin1", "()Z"⟩ : MethodName)) (z := (⟨"java/lang/String", "isLatin1", "()Z"⟩ : MethodName)) hown (mvT hZ (H 46 _ rfl)) (mvT hZ (H 47 _ rfl)) (notFace_of_selects (args := #[]) (mvT hZ (H 49 _ rfl))) (mvT hZ (H 49 _ rfl)) (mvT hZ (H 48 _ rfl)) (by decide) (backOf (W := 0) (rm10 l Z a0 hw [] aa cs vf h0 n0 Z0 O0 Scs hcs Ssf hvf Fc) hZ (H 50 _ rfl) (H 5 _ rfl) (by decide) (by decide)) q898a q898c (g := (mkF m 28 #[.val (.ref aa), .val (.int (4 : Int32)), .val (.int (5 : Int32)), .val (.int (5 : Int32)), .val (.int (1 : Int32))] [(.ref aa)])) rfl (by rw [hml]; rfl) (Steps.refl _) (argsL := []) (rest := []) (lenOf own_pd132 rfl) rfl (Nat.le_of_eq rfl) (hb hby d18_28) (fun _ _ => ⟨rfl, e897, (by decide : 0 + 0 ≤ _), (by decide : 0 + 0 ≤ _)⟩)
  dsimp only [Pt.U, Pt.locs, Pt.cells, Pt.slots] at X898 l898 y898 z898 st898 hQ898
  rw [l898, y898, z898] at X898
  clear l898 y898 z898
  obtain ⟨rfl, Nq898, e898⟩ := hQ898
  have N898 := Fr.app N897 Nq898
  obtain ⟨T899, X899, e899, st899⟩ := getF X898 hx hZ hown (host := "") (Or.inl (H 30 _ rfl)) Via.refl e898 Fv (g := (mkF m 35 #[.val (.ref aa), .val (.int (4 : Int32)), .val (.int (5 : Int32)), .val (.int (5 : Int32)), .val (.int (1 : Int32))] [(.ref aa)])) rfl rfl (hb hby d18_35)
  obtain ⟨_, _, ⟨T900, L900, k900, n900⟩, -, X900, ⟨Lc900, hQ900, l900, y900, z900⟩, st900⟩ := Jvm.LawKit.callS X899 hx (y := (⟨"java/lang/StringLatin1", "newString", "([BII)Ljava/lang/String;"⟩ : MethodName)) hown (mvT hZ (H 94 _ rfl)) (mvT hZ (H 95 _ rfl)) (mvT hZ (H 63 _ rfl)) (mvT hZ (H 96 _ rfl)) (by decide) (backOf (W := 0) (rm21n5b4e5 l Z a0 hw [] ab kb ee0 ee1 ee2 ee3 ee4 h0 n0 Z0 Va) hZ (H 96 _ rfl) (H 63 _ rfl) (by decide) (by decide)) (g := (mkF m 41 #[.val (.ref aa), .val (.int (4 : Int32)), .val (.int (5 : Int32)), .val (.int (5 : Int32)), .val (.int (1 : Int32))] [(.int (1 : Int32)), (.int (4 : Int32)), (.ref ab)])) rfl (by rw [hml]; rfl) (argsL := [(.ref ab), (.int (4 : Int32)), (.int (1 : Int32))]) (rest := []) (lenOf own_pd350 rfl) rfl (Nat.le_of_eq rfl) (hb hby d18_41) (fun _ _ => ⟨rfl, e899, (by decide : 0 + 2 ≤ _), (by decide : 0 + 5 ≤ _)⟩)
  dsimp only [Pt.U, Pt.locs, Pt.cells, Pt.slots] at X900 l900 y900 z900 st900 hQ900
  rw [l900, y900, z900] at X900
  clear l900 y900 z900
  obtain ⟨rso_900, rrb_900, rrk_900, rfl, Nq900, K900, p900_0, p900_1, p900_2, p900_3, p900_4, p900_5, p900_6, p900_7⟩ := hQ900
  have N900 := Fr.app N898 Nq900
  have Zs900 : n0 ≤ T900.heap.size := Nat.le_trans Z0 K900.1
  have KK900 : Keep h0 T900.heap [] := (Keep.refl h0 _).trans K900 all0
  have ne_aa_rso_900 : aa ≠ rso_900 := Nat.ne_of_lt (Nat.lt_of_lt_of_le Ea.lt p900_5)
  have ne_ab_rso_900 : ab ≠ rso_900 := Nat.ne_of_lt (Nat.lt_of_lt_of_le Va.lt p900_5)
  have sz_rso_900 : h0.size ≤ rso_900 := p900_5
  have ne_aa_rrb_900 : aa ≠ rrb_900 := Nat.ne_of_lt (Nat.lt_of_lt_of_le Ea.lt p900_7)
  have ne_ab_rrb_900 : ab ≠ rrb_900 := Nat.ne_of_lt (Nat.lt_of_lt_of_le Va.lt p900_7)
  have sz_rrb_900 : h0.size ≤ rrb_900 := p900_7
  have O900 := O0.keep K900 (all0)
  have f901 := Scs.ext O900.2
  have f902 := Ssf.ext O900.2
  have f903 := Ea.keep K900
  have f904 := Fv.keep K900 nin0
  have f905 := Fc.keep K900 nin0
  have f906 := Va.keep K900 nin0
  have g_rso_900 := p900_4
  have g_rrb_900 := p900_6
  obtain ⟨fs, hr, hrun, hended, hW, hsame⟩ := X900.leave (v := some (.ref rso_900)) (fun h => by rw [Bd.returns] at h; cases h)
  refine ⟨_, _, pre0 _ ?_, hrun, hended, _, _, rfl, ?_, ⟨_, rfl⟩, hW, hsame.mono (by decide) (by decide)⟩
  · show Sp p e below m s₁ 0 #[.val (.ref aa), .val (.int (4 : Int32)), .val (.int (5 : Int32)), .unset, .unset] [] _
    refine XS.aloadN X0.here hx rfl (hb hby d18_0) rfl rfl ?_
    refine st896.trans ?_
    show Sp p e below m T896 4 #[.val (.ref aa), .val (.int (4 : Int32)), .val (.int (5 : Int32)), .unset, .unset] [(.int (5 : Int32))] _
    refine XS.istoreN X896.here hx rfl (hb hby d18_4) rfl (l' := #[.val (.ref aa), .val (.int (4 : Int32)), .val (.int (5 : Int32)), .val (.int (5 : Int32)), .unset]) rfl ?_
    show Sp p e below m T896 5 #[.val (.ref aa), .val (.int (4 : Int32)), .val (.int (5 : Int32)), .val (.int (5 : Int32)), .unset] [] _
    refine XS.iloadN X896.here hx rfl (hb hby d18_5) rfl ?_
    refine XS.iloadN X896.here hx rfl (hb hby d18_6) rfl ?_
    show Sp p e below m T896 7 #[.val (.ref aa), .val (.int (4 : Int32)), .val (.int (5 : Int32)), .val (.int (5 : Int32)), .unset] [(.int (5 : Int32)), (.int (4 : Int32))] _
    refine XS.iloadN X896.here hx rfl (hb hby d18_7) rfl ?_
    refine st897 _ ?_
    show Sp p e below m T897 11 #[.val (.ref aa), .val (.int (4 : Int32)), .val (.int (5 : Int32)), .val (.int (5 : Int32)), .unset] [] _
    refine XS.iloadN X897.here hx rfl (hb hby d18_11) rfl ?_
    refine XS.ifYes X897.here hx rfl (pc0 := 12) (pc' := 22) rfl (hb hby d18_12) rfl ((if0 _ _).trans (feq (by decide : ¬ ((4 : Int32) = (0 : Int32)))).2) (by decide) (by decide) ?_
    show Sp p e below m T897 22 #[.val (.ref aa), .val (.int (4 : Int32)), .val (.int (5 : Int32)), .val (.int (5 : Int32)), .unset] [] _
    refine XS.iloadN X897.here hx rfl (hb hby d18_22) rfl ?_
    refine XS.iloadN X897.here hx rfl (hb hby d18_23) rfl ?_
    show Sp p e below m T897 24 #[.val (.ref aa), .val (.int (4 : Int32)), .val (.int (5 : Int32)), .val (.int (5 : Int32)), .unset] [(.int (4 : Int32)), (.int (5 : Int32))] _
    refine XS.isub X897.here hx rfl (hb hby d18_24) rfl ?_
    show Sp p e below m T897 25 #[.val (.ref aa), .val (.int (4 : Int32)), .val (.int (5 : Int32)), .val (.int (5 : Int32)), .unset] [(.int (1 : Int32))] _
    refine XS.istore X897.here hx rfl (hb hby d18_25) rfl (l' := #[.val (.ref aa), .val (.int (4 : Int32)), .val (.int (5 : Int32)), .val (.int (5 : Int32)), .val (.int (1 : Int32))]) rfl ?_
    show Sp p e below m T897 27 #[.val (.ref aa), .val (.int (4 : Int32)), .val (.int (5 : Int32)), .val (.int (5 : Int32)), .val (.int (1 : Int32))] [] _
    refine XS.aloadN X897.here hx rfl (hb hby d18_27) rfl rfl ?_
    refine st898.trans ?_
    show Sp p e below m T898 31 #[.val (.ref aa), .val (.int (4 : Int32)), .val (.int (5 : Int32)), .val (.int (5 : Int32)), .val (.int (1 : Int32))] [(.int (1 : Int32))] _
    refine XS.ifNo X898.here hx rfl (hb hby d18_31) rfl ((if0 _ _).trans (feq (by decide : ¬ ((1 : Int32) = (0 : Int32)))).1) ?_
    show Sp p e below m T898 34 #[.val (.ref aa), .val (.int (4 : Int32)), .val (.int (5 : Int32)), .val (.int (5 : Int32)), .val (.int (1 : Int32))] [] _
    refine XS.aloadN X898.here hx rfl (hb hby d18_34) rfl rfl ?_
    refine st899 _ ?_
    show Sp p e below m T899 38 #[.val (.ref aa), .val (.int (4 : Int32)), .val (.int (5 : Int32)), .val (.int (5 : Int32)), .val (.int (1 : Int32))] [(.ref ab)] _
    refine XS.iloadN X899.here hx rfl (hb hby d18_38) rfl ?_
    refine XS.iload X899.here hx rfl (hb hby d18_39) rfl ?_
    show Sp p e below m T899 41 #[.val (.ref aa), .val (.int (4 : Int32)), .val (.int (5 : Int32)), .val (.int (5 : Int32)), .val (.int (1 : Int32))] [(.int (1 : Int32)), (.int (4 : Int32)), (.ref ab)] _
    refine st900 _ ?_
    show Sp p e below m T900 44 #[.val (.ref aa), .val (.int (4 : Int32)), .val (.int (5 : Int32)), .val (.int (5 : Int32)), .val (.int (1 : Int32))] [(.ref rso_900)] _
    refine XS.goto X900.here hx rfl (pc0 := 44) (pc' := 57) rfl (hb hby d18_44) (by decide) (by decide) ?_
    show Sp p e below m T900 57 #[.val (.ref aa), .val (.int (4 : Int32)), .val (.int (5 : Int32)), .val (.int (5 : Int32)), .val (.int (1 : Int32))] [(.ref rso_900)] _
    jvm_step X900.here [X900.here.top, hx, (hb hby d18_57), X900.method', Bd.returns, Value.isRef, FieldType.isReference]
    first | (intro acts; rw [hr _ acts rfl rfl rfl]) | rw [hr _ _ rfl rfl rfl]
    exact Steps.refl _
  · show Q18n5b4e5 Z aa cs vf ab kb ee0 ee1 ee2 ee3 ee4 h0 n0 _ T900.heap _
    exact ⟨rso_900, rrb_900, rrk_900, rfl, N900, KK900, p900_0, p900_1, p900_2, p900_3, g_rso_900, sz_rso_900, g_rrb_900, sz_rrb_900⟩
theorem ef_26n5b4e5 (m : MethodId) (x0 : Addr) : entryFrame m #[(.ref x0), (.int (4 : Int32))] 2 = mkF m 0 #[.val (.ref x0), .val (.int (4 : Int32))] [] := by first | (simp [entryFrame, mkF, argsToLocals, Value.category]; done) | rfl
def Q26n5b4e5 (Z : State) (aa : Addr) (cs : Int32) (vf : Value) (ab : Addr) (kb : ClassId) (ee0 : Int32) (ee1 : Int32) (ee2 : Int32) (ee3 : Int32) (ee4 : Int32) (h0 : Heap) (n0 : Nat) (v : Option Value) (h : Heap) (L : List Loc) : Prop := ∃ (so : Addr) (rb : Addr) (rk : ClassId), v = some (.ref so) ∧ Fr n0 L ∧ Keep h0 h [] ∧ Exa Z h so "java/lang/String" ∧ Fld Z h so "java/lang/String" "value" "[B" (.ref rb) ∧ Fld Z h so "java/lang/String" "coder" "B" (.int (0 : Int32)) ∧ Arv Z h rb rk .byte (1 : Int32) [(.int ee4)] (.int (0 : Int32)) ∧ n0 ≤ so ∧ h0.size ≤ so ∧ n0 ≤ rb ∧ h0.size ≤ rb
set_option maxRecDepth 65536 in
set_option maxHeartbeats 40000000 in
theorem rm26n5b4e5 (l : Launch) (Z : State) (a0 : Array Value) (hw : ∀ d ∈ tables_1, d.before a0 Z = true) (ws : List Jvm.Cond) (aa : Addr) (cs : Int32) (vf : Value) (ab : Addr) (kb : ClassId) (ee0 : Int32) (ee1 : Int32) (ee2 : Int32) (ee3 : Int32) (ee4 : Int32) (h0 : Heap) (n0 : Nat) (Z0 : n0 ≤ h0.size) (O0 : Old Z n0 h0) (Scs : Sta Z Z.heap "java/lang/String" "COMPACT_STRINGS" "Z" (.int cs)) (hcs : ¬ cs = (0 : Int32)) (Ssf : Sta Z Z.heap "jdk/internal/util/Preconditions" "SIOOBE_FORMATTER" "Ljava/util/function/BiFunction;" vf) (hvf : vf.isRef = true) (Ea : Exa Z h0 aa "java/lang/String") (Fv : Fld Z h0 aa "java/lang/String" "value" "[B" (.ref ab)) (Fc : Fld Z h0 aa "java/lang/String" "coder" "B" (.int (0 : Int32))) (Va : Arv Z h0 ab kb .byte (5 : Int32) [(.int ee0), (.int ee1), (.int ee2), (.int ee3), (.int ee4)] (.int (0 : Int32))) :
    MetFree l (⟨"java/lang/String", "substring", "(I)Ljava/lang/String;"⟩ : MethodName) (head1 (Jvm.Cond.code (⟨"java/lang/String", "substring", "(I)Ljava/lang/String;"⟩ : MethodName) jdk_42_method_91_code 2 (some (.object "java/lang/String")) :: ws) ({ frames := 5, cells := 2, slots := 5, locals := 80 } : Room)) (fun a U => a = #[(.ref aa), (.int (4 : Int32))] ∧ Z.Warmed39 U.vm ∧ U.heap = h0) (fun _ _ _ _ _ => True) (fun _ U o U' => ∃ v L, o = .returned v ∧ Q26n5b4e5 Z aa cs vf ab kb ee0 ee1 ee2 ee3 ee4 h0 n0 v U'.heap L ∧ FrameEnd U o U' L ({ frames := 5, cells := 2, slots := 5, locals := 80 } : Room).cells ({ frames := 5, cells := 2, slots := 5, locals := 80 } : Room).slots) := by
  refine MetFree.of_bodySF (plainFor_of_name own_pn8) hisR ?_
  intro p e s m args below meth c s₁ Bd hml0 hP hK
  have H := fun i c (h : tables_1[i]? = some c) => hw c (List.mem_of_getElem? h)
  obtain ⟨rfl, hZ, hh⟩ := hP
  have hx := Bd.exec
  have hby := Bd.bytes
  have hml : c.maxLocals = 2 := hml0
  have hown : s.vm.findClass "java/lang/String" = some m.cls := findClass_of_methodNamed Bd.named
  have hnm := (name_of_methodNamed Bd.named Bd.method).1
  have X0 : Stand p l e ({ frames := 5, cells := 2, slots := 5, locals := 80 } : Room) s m #[(.ref aa), (.int (4 : Int32))] below meth c s₁ [] 0 0 := Stand.of_body Bd
  have e0 : s₁.heap = h0 := by rw [← hh, Bd.state]; rfl
  have N0 := Fr.nil n0
  have pre0 : ∀ t, Sp p e below m s₁ 0 #[.val (.ref aa), .val (.int (4 : Int32))] [] t → Steps p.tables e below (s₁.setTop (entryFrame m #[(.ref aa), (.int (4 : Int32))] 2)) t := fun t k => castTop (ef_26n5b4e5 m aa) k
  generalize s₁.setTop (entryFrame m #[(.ref aa), (.int (4 : Int32))] 2) = G0 at pre0 ⊢
  obtain ⟨cq915, kq915, q915a, q915b, q915c⟩ := isOf hZ e0 Ea
  obtain ⟨_, _, ⟨T915, L915, k915, n915⟩, -, X915, ⟨Lc915, hQ915, l915, y915, z915⟩, st915⟩ := X0.virtualBack hx (y := (⟨"java/lang/String", "length", "()I"⟩ : MethodName)) (z := (⟨"java/lang/String", "length", "()I"⟩ : MethodName)) hown (mvT hZ (H 51 _ rfl)) (mvT hZ (H 52 _ rfl)) (notFace_of_selects (args := #[]) (mvT hZ (H 54 _ rfl))) (mvT hZ (H 54 _ rfl)) (mvT hZ (H 53 _ rfl)) (by decide) (backOf (W := 2) (rm11 l Z a0 hw [] aa cs vf ab kb (5 : Int32) [(.int ee0), (.int ee1), (.int ee2), (.int ee3), (.int ee4)] h0 n0 Z0 O0 Scs hcs Ssf hvf Ea Fv Fc Va) hZ (H 55 _ rfl) (H 5 _ rfl) (by decide) (by decide)) q915a q915c (g := (mkF m 3 #[.val (.ref aa), .val (.int (4 : Int32))] [(.ref aa), (.int (4 : Int32)), (.ref aa)])) rfl (by rw [hml]; rfl) (Steps.refl _) (argsL := []) (rest := [(.int (4 : Int32)), (.ref aa)]) (lenOf own_pd214 rfl) rfl (Nat.le_of_eq rfl) (hb hby d26_3) (fun _ _ => ⟨rfl, e0, (by decide : 0 + 0 ≤ _), (by decide : 0 + 0 ≤ _)⟩)
  dsimp only [Pt.U, Pt.locs, Pt.cells, Pt.slots] at X915 l915 y915 z915 st915 hQ915
  rw [l915, y915, z915] at X915
  clear l915 y915 z915
  obtain ⟨rfl, Nq915, e915⟩ := hQ915
  have N915 := Fr.app N0 Nq915
  obtain ⟨cq916, kq916, q916a, q916b, q916c⟩ := isOf hZ e915 Ea
  obtain ⟨_, _, ⟨T916, L916, k916, n916⟩, -, X916, ⟨Lc916, hQ916, l916, y916, z916⟩, st916⟩ := X915.virtualBack hx (y := (⟨"java/lang/String", "substring", "(II)Ljava/lang/String;"⟩ : MethodName)) (z := (⟨"java/lang/String", "substring", "(II)Ljava/lang/String;"⟩ : MethodName)) hown (mvT hZ (H 121 _ rfl)) (mvT hZ (H 82 _ rfl)) (notFace_of_selects (args := #[]) (mvT hZ (H 84 _ rfl))) (mvT hZ (H 84 _ rfl)) (mvT hZ (H 83 _ rfl)) (by decide) (backOf (W := 0) (rm18n5b4e5 l Z a0 hw [] aa cs vf ab kb ee0 ee1 ee2 ee3 ee4 h0 n0 Z0 O0 Scs hcs Ssf hvf Ea Fv Fc Va) hZ (H 85 _ rfl) (H 5 _ rfl) (by decide) (by decide)) q916a q916c (g := (mkF m 6 #[.val (.ref aa), .val (.int (4 : Int32))] [(.int (5 : Int32)), (.int (4 : Int32)), (.ref aa)])) rfl (by rw [hml]; rfl) (Steps.refl _) (argsL := [(.int (4 : Int32)), (.int (5 : Int32))]) (rest := []) (lenOf own_pd358 rfl) rfl (Nat.le_of_eq rfl) (hb hby d26_6) (fun _ _ => ⟨rfl, e915, (by decide : 0 + 2 ≤ _), (by decide : 0 + 5 ≤ _)⟩)
  dsimp only [Pt.U, Pt.locs, Pt.cells, Pt.slots] at X916 l916 y916 z916 st916 hQ916
  rw [l916, y916, z916] at X916
  clear l916 y916 z916
  obtain ⟨rso_916, rrb_916, rrk_916, rfl, Nq916, K916, p916_0, p916_1, p916_2, p916_3, p916_4, p916_5, p916_6, p916_7⟩ := hQ916
  have N916 := Fr.app N915 Nq916
  have Zs916 : n0 ≤ T916.heap.size := Nat.le_trans Z0 K916.1
  have KK916 : Keep h0 T916.heap [] := (Keep.refl h0 _).trans K916 all0
  have ne_aa_rso_916 : aa ≠ rso_916 := Nat.ne_of_lt (Nat.lt_of_lt_of_le Ea.lt p916_5)
  have ne_ab_rso_916 : ab ≠ rso_916 := Nat.ne_of_lt (Nat.lt_of_lt_of_le Va.lt p916_5)
  have sz_rso_916 : h0.size ≤ rso_916 := p916_5
  have ne_aa_rrb_916 : aa ≠ rrb_916 := Nat.ne_of_lt (Nat.lt_of_lt_of_le Ea.lt p916_7)
  have ne_ab_rrb_916 : ab ≠ rrb_916 := Nat.ne_of_lt (Nat.lt_of_lt_of_le Va.lt p916_7)
  have sz_rrb_916 : h0.size ≤ rrb_916 := p916_7
  have O916 := O0.keep K916 (all0)
  have f917 := Scs.ext O916.2
  have f918 := Ssf.ext O916.2
  have f919 := Ea.keep K916
  have f920 := Fv.keep K916 nin0
  have f921 := Fc.keep K916 nin0
  have f922 := Va.keep K916 nin0
  have g_rso_916 := p916_4
  have g_rrb_916 := p916_6
  obtain ⟨fs, hr, hrun, hended, hW, hsame⟩ := X916.leave (v := some (.ref rso_916)) (fun h => by rw [Bd.returns] at h; cases h)
  refine ⟨_, _, pre0 _ ?_, hrun, hended, _, _, rfl, ?_, ⟨_, rfl⟩, hW, hsame.mono (by decide) (by decide)⟩
  · show Sp p e below m s₁ 0 #[.val (.ref aa), .val (.int (4 : Int32))] [] _
    refine XS.aloadN X0.here hx rfl (hb hby d26_0) rfl rfl ?_
    refine XS.iloadN X0.here hx rfl (hb hby d26_1) rfl ?_
    show Sp p e below m s₁ 2 #[.val (.ref aa), .val (.int (4 : Int32))] [(.int (4 : Int32)), (.ref aa)] _
    refine XS.aloadN X0.here hx rfl (hb hby d26_2) rfl rfl ?_
    refine st915.trans ?_
    show Sp p e below m T915 6 #[.val (.ref aa), .val (.int (4 : Int32))] [(.int (5 : Int32)), (.int (4 : Int32)), (.ref aa)] _
    refine st916.trans ?_
    show Sp p e below m T916 9 #[.val (.ref aa), .val (.int (4 : Int32))] [(.ref rso_916)] _
    jvm_step X916.here [X916.here.top, hx, (hb hby d26_9), X916.method', Bd.returns, Value.isRef, FieldType.isReference]
    first | (intro acts; rw [hr _ acts rfl rfl rfl]) | rw [hr _ _ rfl rfl rfl]
    exact Steps.refl _
  · show Q26n5b4e5 Z aa cs vf ab kb ee0 ee1 ee2 ee3 ee4 h0 n0 _ T916.heap _
    exact ⟨rso_916, rrb_916, rrk_916, rfl, N916, KK916, p916_0, p916_1, p916_2, p916_3, g_rso_916, sz_rso_916, g_rrb_916, sz_rrb_916⟩
theorem ef_7d3 (m : MethodId) (x0 : Addr) : entryFrame m #[(.ref x0)] 2 = mkF m 0 #[.val (.ref x0), .unset] [] := by first | (simp [entryFrame, mkF, argsToLocals, Value.category]; done) | rfl
def Q7d3 (Z : State) (aa : Addr) (cs : Int32) (vf : Value) (ab : Addr) (kb : ClassId) (ee0 : Int32) (ee1 : Int32) (ee2 : Int32) (ee3 : Int32) (ee4 : Int32) (h0 : Heap) (n0 : Nat) (v : Option Value) (h : Heap) (L : List Loc) : Prop := ∃ (tn : Addr) (s1 : Addr) (b1 : Addr) (k1 : ClassId) (s2 : Addr) (b2 : Addr) (k2 : ClassId), v = some (.ref tn) ∧ Fr n0 L ∧ Keep h0 h [] ∧ Exa Z h tn "com/example/tideline/tideline/model/TableName" ∧ Fld Z h tn "com/example/tideline/tideline/model/TableName" "schema" "Ljava/lang/String;" (.ref s1) ∧ Fld Z h tn "com/example/tideline/tideline/model/TableName" "table" "Ljava/lang/String;" (.ref s2) ∧ Exa Z h s1 "java/lang/String" ∧ Fld Z h s1 "java/lang/String" "value" "[B" (.ref b1) ∧ Fld Z h s1 "java/lang/String" "coder" "B" (.int (0 : Int32)) ∧ Arv Z h b1 k1 .byte (3 : Int32) [(.int ee0), (.int ee1), (.int ee2)] (.int (0 : Int32)) ∧ Exa Z h s2 "java/lang/String" ∧ Fld Z h s2 "java/lang/String" "value" "[B" (.ref b2) ∧ Fld Z h s2 "java/lang/String" "coder" "B" (.int (0 : Int32)) ∧ Arv Z h b2 k2 .byte (1 : Int32) [(.int ee4)] (.int (0 : Int32))
set_option maxRecDepth 65536 in
set_option maxHeartbeats 40000000 in
theorem rm7d3 (l : Launch) (Z : State) (a0 : Array Value) (hw : ∀ d ∈ tables_1, d.before a0 Z = true) (ws : List Jvm.Cond) (aa : Addr) (cs : Int32) (vf : Value) (ab : Addr) (kb : ClassId) (ee0 : Int32) (ee1 : Int32) (ee2 : Int32) (ee3 : Int32) (ee4 : Int32) (h0 : Heap) (n0 : Nat) (Z0 : n0 ≤ h0.size) (O0 : Old Z n0 h0) (Scs : Sta Z Z.heap "java/lang/String" "COMPACT_STRINGS" "Z" (.int cs)) (hcs : ¬ cs = (0 : Int32)) (Ssf : Sta Z Z.heap "jdk/internal/util/Preconditions" "SIOOBE_FORMATTER" "Ljava/util/function/BiFunction;" vf) (hvf : vf.isRef = true) (Ea : Exa Z h0 aa "java/lang/String") (Fv : Fld Z h0 aa "java/lang/String" "value" "[B" (.ref ab)) (Fc : Fld Z h0 aa "java/lang/String" "coder" "B" (.int (0 : Int32))) (Va : Arv Z h0 ab kb .byte (5 : Int32) [(.int ee0), (.int ee1), (.int ee2), (.int ee3), (.int ee4)] (.int (0 : Int32))) (hfind : own_find5 ee0 ee1 ee2 ee3 ee4 = (3 : Int32)) :
    MetFree l (⟨"com/example/tideline/tideline/model/TableName", "parse", "(Ljava/lang/String;)Lcom/example/tideline/tideline/model/TableName;"⟩ : MethodName) (head1 (Jvm.Cond.code (⟨"com/example/tideline/tideline/model/TableName", "parse", "(Ljava/lang/String;)Lcom/example/tideline/tideline/model/TableName;"⟩ : MethodName) prog_53_method_2_code 2 (some (.object "com/example/tideline/tideline/model/TableName")) :: ws) ({ frames := 6, cells := 5, slots := 14, locals := 96 } : Room)) (fun a U => a = #[(.ref aa)] ∧ Z.Warmed39 U.vm ∧ U.heap = h0) (fun _ _ _ _ _ => True) (fun _ U o U' => ∃ v L, o = .returned v ∧ Q7d3 Z aa cs vf ab kb ee0 ee1 ee2 ee3 ee4 h0 n0 v U'.heap L ∧ FrameEnd U o U' L ({ frames := 6, cells := 5, slots := 14, locals := 96 } : Room).cells ({ frames := 6, cells := 5, slots := 14, locals := 96 } : Room).slots) := by
  refine MetFree.of_bodySF (plainFor_of_name own_pn237) hisR ?_
  intro p e s m args below meth c s₁ Bd hml0 hP hK
  have H := fun i c (h : tables_1[i]? = some c) => hw c (List.mem_of_getElem? h)
  obtain ⟨rfl, hZ, hh⟩ := hP
  have hx := Bd.exec
  have hby := Bd.bytes
  have hml : c.maxLocals = 2 := hml0
  have hown : s.vm.findClass "com/example/tideline/tideline/model/TableName" = some m.cls := findClass_of_methodNamed Bd.named
  have hnm := (name_of_methodNamed Bd.named Bd.method).1
  have X0 : Stand p l e ({ frames := 6, cells := 5, slots := 14, locals := 96 } : Room) s m #[(.ref aa)] below meth c s₁ [] 0 0 := Stand.of_body Bd
  have e0 : s₁.heap = h0 := by rw [← hh, Bd.state]; rfl
  have N0 := Fr.nil n0
  have pre0 : ∀ t, Sp p e below m s₁ 0 #[.val (.ref aa), .unset] [] t → Steps p.tables e below (s₁.setTop (entryFrame m #[(.ref aa)] 2)) t := fun t k => castTop (ef_7d3 m aa) k
  generalize s₁.setTop (entryFrame m #[(.ref aa)] 2) = G0 at pre0 ⊢
  obtain ⟨cq975, kq975, q975a, q975b, q975c⟩ := isOf hZ e0 Ea
  obtain ⟨_, _, ⟨T975, L975, k975, n975⟩, -, X975, ⟨Lc975, hQ975, l975, y975, z975⟩, st975⟩ := X0.virtualBack hx (y := (⟨"java/lang/String", "indexOf", "(I)I"⟩ : MethodName)) (z := (⟨"java/lang/String", "indexOf", "(I)I"⟩ : MethodName)) hown (mvT hZ (H 36 _ rfl)) (mvT hZ (H 37 _ rfl)) (notFace_of_selects (args := #[]) (mvT hZ (H 39 _ rfl))) (mvT hZ (H 39 _ rfl)) (mvT hZ (H 38 _ rfl)) (by decide) (backOf (W := 0) (rm8n5 l Z a0 hw [] aa cs vf ab kb ee0 ee1 ee2 ee3 ee4 h0 n0 Z0 O0 Scs hcs Ssf hvf Ea Fv Fc Va) hZ (H 40 _ rfl) (H 5 _ rfl) (by decide) (by decide)) q975a q975c (g := (mkF m 3 #[.val (.ref aa), .unset] [(.int (46 : Int32)), (.ref aa)])) rfl (by rw [hml]; rfl) (Steps.refl _) (argsL := [(.int (46 : Int32))]) (rest := []) (lenOf own_pd363 rfl) rfl (Nat.le_of_eq rfl) (hb hby d7_3) (fun _ _ => ⟨rfl, e0, (by decide : 0 + 0 ≤ _), (by decide : 0 + 0 ≤ _)⟩)
  dsimp only [Pt.U, Pt.locs, Pt.cells, Pt.slots] at X975 l975 y975 z975 st975 hQ975
  rw [l975, y975, z975] at X975
  clear l975 y975 z975
  obtain ⟨rfl, Nq975, e975⟩ := hQ975
  have N975 := Fr.app N0 Nq975
  have pre976 : ∀ t, Sp p e below m T975 6 #[.val (.ref aa), .unset] [(.int (own_find5 ee0 ee1 ee2 ee3 ee4))] t → Steps p.tables e below G0 t := by
    intro t k
    refine pre0 t ?_
    show Sp p e below m s₁ 0 #[.val (.ref aa), .unset] [] _
    refine XS.aloadN X0.here hx rfl (hb hby d7_0) rfl rfl ?_
    refine XS.bipush X0.here hx rfl (hb hby d7_1) ?_
    show Sp p e below m s₁ 3 #[.val (.ref aa), .unset] [(.int (46 : Int32)), (.ref aa)] _
    refine st975.trans ?_
    exact k
  rw [show (own_find5 ee0 ee1 ee2 ee3 ee4) = (3 : Int32) from hfind] at pre976
  obtain ⟨cq977, kq977, q977a, q977b, q977c⟩ := isOf hZ e975 Ea
  obtain ⟨_, _, ⟨T977, L977, k977, n977⟩, -, X977, ⟨Lc977, hQ977, l977, y977, z977⟩, st977⟩ := X975.virtualBack hx (y := (⟨"java/lang/String", "length", "()I"⟩ : MethodName)) (z := (⟨"java/lang/String", "length", "()I"⟩ : MethodName)) hown (mvT hZ (H 78 _ rfl)) (mvT hZ (H 52 _ rfl)) (notFace_of_selects (args := #[]) (mvT hZ (H 54 _ rfl))) (mvT hZ (H 54 _ rfl)) (mvT hZ (H 53 _ rfl)) (by decide) (backOf (W := 1) (rm11 l Z a0 hw [] aa cs vf ab kb (5 : Int32) [(.int ee0), (.int ee1), (.int ee2), (.int ee3), (.int ee4)] h0 n0 Z0 O0 Scs hcs Ssf hvf Ea Fv Fc Va) hZ (H 55 _ rfl) (H 5 _ rfl) (by decide) (by decide)) q977a q977c (g := (mkF m 13 #[.val (.ref aa), .val (.int (3 : Int32))] [(.ref aa), (.int (3 : Int32))])) rfl (by rw [hml]; rfl) (Steps.refl _) (argsL := []) (rest := [(.int (3 : Int32))]) (lenOf own_pd214 rfl) rfl (Nat.le_of_eq rfl) (hb hby d7_13) (fun _ _ => ⟨rfl, e975, (by decide : 0 + 0 ≤ _), (by decide : 0 + 0 ≤ _)⟩)
  dsimp only [Pt.U, Pt.locs, Pt.cells, Pt.slots] at X977 l977 y977 z977 st977 hQ977
  rw [l977, y977, z977] at X977
  clear l977 y977 z977
  obtain ⟨rfl, Nq977, e977⟩ := hQ977
  have N977 := Fr.app N975 Nq977
  obtain ⟨T978, h978, X978, e978, E978, A978, D978, -, st978⟩ := newO X977 hx hZ hown (H 79 _ rfl) (H 80 _ rfl) (H 34 _ rfl) e977 (g := (mkF m 35 #[.val (.ref aa), .val (.int (3 : Int32))] [])) rfl (hb hby d7_35) (by decide) (by decide)
  obtain ⟨b978, g978⟩ : ∃ z, z = h0.size := ⟨_, rfl⟩
  rw [← g978] at A978 D978 st978
  have g_b978 : n0 ≤ b978 := Nat.le_trans Z0 (Nat.le_of_eq g978.symm)
  have sz_b978 : h0.size ≤ b978 := Nat.le_of_eq g978.symm
  have lt_aa_b978 : aa < b978 := Nat.lt_of_lt_of_le Ea.lt (Nat.le_of_eq g978.symm)
  have ne_aa_b978 : aa ≠ b978 := Nat.ne_of_lt lt_aa_b978
  have lt_ab_b978 : ab < b978 := Nat.lt_of_lt_of_le Va.lt (Nat.le_of_eq g978.symm)
  have ne_ab_b978 : ab ≠ b978 := Nat.ne_of_lt lt_ab_b978
  have Zs978 : n0 ≤ h978.size := Nat.le_trans Z0 E978.1
  have KK978 : Keep h0 h978 [] := (Keep.refl h0 _).ext E978
  have O978 := O0.ext E978
  have f979 := (Scs.ext O0.2).ext E978
  have f980 := (Ssf.ext O0.2).ext E978
  have f981 := Ea.ext E978
  have f982 := Fv.ext E978
  have f983 := Fc.ext E978
  have f984 := Va.ext E978
  have f985 : Fld Z h978 b978 "com/example/tideline/tideline/model/TableName" "schema" "Ljava/lang/String;" .null := D978 (Or.inr (H 132 _ rfl)) (ty := (.object "java/lang/String")) (by decide)
  have f986 : Fld Z h978 b978 "com/example/tideline/tideline/model/TableName" "table" "Ljava/lang/String;" .null := D978 (Or.inr (H 134 _ rfl)) (ty := (.object "java/lang/String")) (by decide)
  obtain ⟨cq987, kq987, q987a, q987b, q987c⟩ := isOf hZ e978 f981
  obtain ⟨_, _, ⟨T987, L987, k987, n987⟩, -, X987, ⟨Lc987, hQ987, l987, y987, z987⟩, st987⟩ := X978.virtualBack hx (y := (⟨"java/lang/String", "substring", "(II)Ljava/lang/String;"⟩ : MethodName)) (z := (⟨"java/lang/String", "substring", "(II)Ljava/lang/String;"⟩ : MethodName)) hown (mvT hZ (H 81 _ rfl)) (mvT hZ (H 82 _ rfl)) (notFace_of_selects (args := #[]) (mvT hZ (H 84 _ rfl))) (mvT hZ (H 84 _ rfl)) (mvT hZ (H 83 _ rfl)) (by decide) (backOf (W := 2) (rm18n5b0e3 l Z a0 hw [] aa cs vf ab kb ee0 ee1 ee2 ee3 ee4 h978 n0 Zs978 O978 Scs hcs Ssf hvf f981 f982 f983 f984) hZ (H 85 _ rfl) (H 5 _ rfl) (by decide) (by decide)) q987a q987c (g := (mkF m 42 #[.val (.ref aa), .val (.int (3 : Int32))] [(.int (3 : Int32)), (.int (0 : Int32)), (.ref aa), (.ref b978), (.ref b978)])) rfl (by rw [hml]; rfl) (Steps.refl _) (argsL := [(.int (0 : Int32)), (.int (3 : Int32))]) (rest := [(.ref b978), (.ref b978)]) (lenOf own_pd358 rfl) rfl (Nat.le_of_eq rfl) (hb hby d7_42) (fun _ _ => ⟨rfl, e978, (by decide : 1 + 2 ≤ _), (by decide : 2 + 7 ≤ _)⟩)
  dsimp only [Pt.U, Pt.locs, Pt.cells, Pt.slots] at X987 l987 y987 z987 st987 hQ987
  rw [l987, y987, z987] at X987
  clear l987 y987 z987
  obtain ⟨rso_987, rrb_987, rrk_987, rfl, Nq987, K987, p987_0, p987_1, p987_2, p987_3, p987_4, p987_5, p987_6, p987_7⟩ := hQ987
  have N987 := Fr.app N977 Nq987
  have Zs987 : n0 ≤ T987.heap.size := Nat.le_trans Zs978 K987.1
  have KK987 : Keep h0 T987.heap [] := KK978.trans K987 all0
  have ne_aa_rso_987 : aa ≠ rso_987 := Nat.ne_of_lt (Nat.lt_of_lt_of_le f981.lt p987_5)
  have ne_ab_rso_987 : ab ≠ rso_987 := Nat.ne_of_lt (Nat.lt_of_lt_of_le f984.lt p987_5)
  have ne_b978_rso_987 : b978 ≠ rso_987 := Nat.ne_of_lt (Nat.lt_of_lt_of_le A978.lt p987_5)
  have sz_rso_987 : h0.size ≤ rso_987 := Nat.le_trans KK978.1 p987_5
  have ne_aa_rrb_987 : aa ≠ rrb_987 := Nat.ne_of_lt (Nat.lt_of_lt_of_le f981.lt p987_7)
  have ne_ab_rrb_987 : ab ≠ rrb_987 := Nat.ne_of_lt (Nat.lt_of_lt_of_le f984.lt p987_7)
  have ne_b978_rrb_987 : b978 ≠ rrb_987 := Nat.ne_of_lt (Nat.lt_of_lt_of_le A978.lt p987_7)
  have sz_rrb_987 : h0.size ≤ rrb_987 := Nat.le_trans KK978.1 p987_7
  have O987 := O978.keep K987 (all0)
  have f988 := Scs.ext O987.2
  have f989 := Ssf.ext O987.2
  have f990 := f981.keep K987
  have f991 := f982.keep K987 nin0
  have f992 := f983.keep K987 nin0
  have f993 := f984.keep K987 nin0
  have f994 := A978.keep K987
  have f995 := f985.keep K987 nin0
  have f996 := f986.keep K987 nin0
  have g_rso_987 := p987_4
  have g_rrb_987 := p987_6
  obtain ⟨cq997, kq997, q997a, q997b, q997c⟩ := isOf hZ rfl f990
  obtain ⟨_, _, ⟨T997, L997, k997, n997⟩, -, X997, ⟨Lc997, hQ997, l997, y997, z997⟩, st997⟩ := X987.virtualBack hx (y := (⟨"java/lang/String", "substring", "(I)Ljava/lang/String;"⟩ : MethodName)) (z := (⟨"java/lang/String", "substring", "(I)Ljava/lang/String;"⟩ : MethodName)) hown (mvT hZ (H 116 _ rfl)) (mvT hZ (H 117 _ rfl)) (notFace_of_selects (args := #[]) (mvT hZ (H 119 _ rfl))) (mvT hZ (H 119 _ rfl)) (mvT hZ (H 118 _ rfl)) (by decide) (backOf (W := 3) (rm26n5b4e5 l Z a0 hw [] aa cs vf ab kb ee0 ee1 ee2 ee3 ee4 T987.heap n0 Zs987 O987 Scs hcs Ssf hvf f990 f991 f992 f993) hZ (H 120 _ rfl) (H 5 _ rfl) (by decide) (by decide)) q997a q997c (g := (mkF m 49 #[.val (.ref aa), .val (.int (3 : Int32))] [(.int (4 : Int32)), (.ref aa), (.ref rso_987), (.ref b978), (.ref b978)])) rfl (by rw [hml]; rfl) (Steps.refl _) (argsL := [(.int (4 : Int32))]) (rest := [(.ref rso_987), (.ref b978), (.ref b978)]) (lenOf own_pd384 rfl) rfl (Nat.le_of_eq rfl) (hb hby d7_49) (fun _ _ => ⟨rfl, rfl, (by decide : 3 + 2 ≤ _), (by decide : 9 + 5 ≤ _)⟩)
  dsimp only [Pt.U, Pt.locs, Pt.cells, Pt.slots] at X997 l997 y997 z997 st997 hQ997
  rw [l997, y997, z997] at X997
  clear l997 y997 z997
  obtain ⟨rso_997, rrb_997, rrk_997, rfl, Nq997, K997, p997_0, p997_1, p997_2, p997_3, p997_4, p997_5, p997_6, p997_7⟩ := hQ997
  have N997 := Fr.app N987 Nq997
  have Zs997 : n0 ≤ T997.heap.size := Nat.le_trans Zs987 K997.1
  have KK997 : Keep h0 T997.heap [] := KK987.trans K997 all0
  have ne_aa_rso_997 : aa ≠ rso_997 := Nat.ne_of_lt (Nat.lt_of_lt_of_le f990.lt p997_5)
  have ne_ab_rso_997 : ab ≠ rso_997 := Nat.ne_of_lt (Nat.lt_of_lt_of_le f993.lt p997_5)
  have ne_b978_rso_997 : b978 ≠ rso_997 := Nat.ne_of_lt (Nat.lt_of_lt_of_le f994.lt p997_5)
  have ne_rso_987_rso_997 : rso_987 ≠ rso_997 := Nat.ne_of_lt (Nat.lt_of_lt_of_le p987_0.lt p997_5)
  have ne_rrb_987_rso_997 : rrb_987 ≠ rso_997 := Nat.ne_of_lt (Nat.lt_of_lt_of_le p987_3.lt p997_5)
  have sz_rso_997 : h0.size ≤ rso_997 := Nat.le_trans KK987.1 p997_5
  have ne_aa_rrb_997 : aa ≠ rrb_997 := Nat.ne_of_lt (Nat.lt_of_lt_of_le f990.lt p997_7)
  have ne_ab_rrb_997 : ab ≠ rrb_997 := Nat.ne_of_lt (Nat.lt_of_lt_of_le f993.lt p997_7)
  have ne_b978_rrb_997 : b978 ≠ rrb_997 := Nat.ne_of_lt (Nat.lt_of_lt_of_le f994.lt p997_7)
  have ne_rso_987_rrb_997 : rso_987 ≠ rrb_997 := Nat.ne_of_lt (Nat.lt_of_lt_of_le p987_0.lt p997_7)
  have ne_rrb_987_rrb_997 : rrb_987 ≠ rrb_997 := Nat.ne_of_lt (Nat.lt_of_lt_of_le p987_3.lt p997_7)
  have sz_rrb_997 : h0.size ≤ rrb_997 := Nat.le_trans KK987.1 p997_7
  have O997 := O987.keep K997 (all0)
  have f998 := Scs.ext O997.2
  have f999 := Ssf.ext O997.2
  have f1000 := f990.keep K997
  have f1001 := f991.keep K997 nin0
  have f1002 := f992.keep K997 nin0
  have f1003 := f993.keep K997 nin0
  have f1004 := f994.keep K997
  have f1005 := f995.keep K997 nin0
  have f1006 := f996.keep K997 nin0
  have f1007 := p987_0.keep K997
  have f1008 := p987_1.keep K997 nin0
  have f1009 := p987_2.keep K997 nin0
  have f1010 := p987_3.keep K997 nin0
  have g_rso_997 := p997_4
  have g_rrb_997 := p997_6
  obtain ⟨_, _, ⟨T1011, L1011, k1011, n1011⟩, -, X1011, ⟨Lc1011, hQ1011, l1011, y1011, z1011⟩, st1011⟩ := X997.specialBack hx (y := (⟨"com/example/tideline/tideline/model/TableName", "<init>", "(Ljava/lang/String;Ljava/lang/String;)V"⟩ : MethodName)) rfl hown (mvT hZ (H 122 _ rfl)) (mvT hZ (H 123 _ rfl)) (mvT hZ (H 124 _ rfl)) (by decide) (backOf (W := 1) (rm27 l Z a0 hw [] b978 rso_987 rso_997  T997.heap n0 Zs997 f1004 f1005 f1006 g_b978) hZ (H 124 _ rfl) (H 34 _ rfl) (by decide) (by decide)) (g := (mkF m 52 #[.val (.ref aa), .val (.int (3 : Int32))] [(.ref rso_997), (.ref rso_987), (.ref b978), (.ref b978)])) rfl (by rw [hml]; rfl) (Steps.refl _) (a := b978) (argsL := [(.ref rso_987), (.ref rso_997)]) (rest := [(.ref b978)]) (lenOf own_pd386 rfl) rfl (Nat.le_of_eq rfl) (hb hby d7_52) (fun _ _ => ⟨rfl, rfl, (by decide : 5 + 0 ≤ _), (by decide : 14 + 0 ≤ _)⟩)
  dsimp only [Pt.U, Pt.locs, Pt.cells, Pt.slots] at X1011 l1011 y1011 z1011 st1011 hQ1011
  rw [l1011, y1011, z1011] at X1011
  clear l1011 y1011 z1011
  obtain ⟨rfl, Nq1011, K1011, p1011_0, p1011_1, p1011_2⟩ := hQ1011
  have N1011 := Fr.app N997 Nq1011
  have Zs1011 : n0 ≤ T1011.heap.size := Nat.le_trans Zs997 K1011.1
  have KK1011 : Keep h0 T1011.heap [] := KK997.trans K1011 (allS (Or.inr sz_b978) all0)
  have O1011 := O997.keep K1011 (allS g_b978 all0)
  have f1012 := Scs.ext O1011.2
  have f1013 := Ssf.ext O1011.2
  have f1014 := f1000.keep K1011
  have f1015 := f1001.keep K1011 (ninS ne_aa_b978 nin0)
  have f1016 := f1002.keep K1011 (ninS ne_aa_b978 nin0)
  have f1017 := f1003.keep K1011 (ninS ne_ab_b978 nin0)
  have f1018 := f1004.keep K1011
  have f1019 := f1007.keep K1011
  have f1020 := f1008.keep K1011 (ninS (Ne.symm ne_b978_rso_987) nin0)
  have f1021 := f1009.keep K1011 (ninS (Ne.symm ne_b978_rso_987) nin0)
  have f1022 := f1010.keep K1011 (ninS (Ne.symm ne_b978_rrb_987) nin0)
  have f1023 := p997_0.keep K1011
  have f1024 := p997_1.keep K1011 (ninS (Ne.symm ne_b978_rso_997) nin0)
  have f1025 := p997_2.keep K1011 (ninS (Ne.symm ne_b978_rso_997) nin0)
  have f1026 := p997_3.keep K1011 (ninS (Ne.symm ne_b978_rrb_997) nin0)
  obtain ⟨fs, hr, hrun, hended, hW, hsame⟩ := X1011.leave (v := some (.ref b978)) (fun h => by rw [Bd.returns] at h; cases h)
  refine ⟨_, _, pre976 _ ?_, hrun, hended, _, _, rfl, ?_, ⟨_, rfl⟩, hW, hsame.mono (by decide) (by decide)⟩
  · show Sp p e below m T975 6 #[.val (.ref aa), .unset] [(.int (3 : Int32))] _
    refine XS.istoreN X975.here hx rfl (hb hby d7_6) rfl (l' := #[.val (.ref aa), .val (.int (3 : Int32))]) rfl ?_
    show Sp p e below m T975 7 #[.val (.ref aa), .val (.int (3 : Int32))] [] _
    refine XS.iloadN X975.here hx rfl (hb hby d7_7) rfl ?_
    refine XS.ifNo X975.here hx rfl (hb hby d7_8) rfl ((if0 _ _).trans (tlt (by decide : ((0 : Int32) < (3 : Int32)))).2.2.2) ?_
    show Sp p e below m T975 11 #[.val (.ref aa), .val (.int (3 : Int32))] [] _
    refine XS.iloadN X975.here hx rfl (hb hby d7_11) rfl ?_
    refine XS.aloadN X975.here hx rfl (hb hby d7_12) rfl rfl ?_
    show Sp p e below m T975 13 #[.val (.ref aa), .val (.int (3 : Int32))] [(.ref aa), (.int (3 : Int32))] _
    refine st977.trans ?_
    show Sp p e below m T977 16 #[.val (.ref aa), .val (.int (3 : Int32))] [(.int (5 : Int32)), (.int (3 : Int32))] _
    refine XS.iconst X977.here hx rfl (hb hby d7_16) ?_
    refine XS.isub X977.here hx rfl (hb hby d7_17) rfl ?_
    show Sp p e below m T977 18 #[.val (.ref aa), .val (.int (3 : Int32))] [(.int (4 : Int32)), (.int (3 : Int32))] _
    refine XS.icmpYes X977.here hx rfl (pc0 := 18) (pc' := 35) rfl (hb hby d7_18) rfl (feq (by decide : ¬ ((3 : Int32) = (4 : Int32)))).2 (by decide) (by decide) ?_
    show Sp p e below m T977 35 #[.val (.ref aa), .val (.int (3 : Int32))] [] _
    refine st978 _ ?_
    show Sp p e below m T978 38 #[.val (.ref aa), .val (.int (3 : Int32))] [(.ref b978)] _
    refine XS.dup X978.here hx rfl (hb hby d7_38) rfl rfl ?_
    refine XS.aloadN X978.here hx rfl (hb hby d7_39) rfl rfl ?_
    show Sp p e below m T978 40 #[.val (.ref aa), .val (.int (3 : Int32))] [(.ref aa), (.ref b978), (.ref b978)] _
    refine XS.iconst X978.here hx rfl (hb hby d7_40) ?_
    refine XS.iloadN X978.here hx rfl (hb hby d7_41) rfl ?_
    show Sp p e below m T978 42 #[.val (.ref aa), .val (.int (3 : Int32))] [(.int (3 : Int32)), (.int (0 : Int32)), (.ref aa), (.ref b978), (.ref b978)] _
    refine st987.trans ?_
    show Sp p e below m T987 45 #[.val (.ref aa), .val (.int (3 : Int32))] [(.ref rso_987), (.ref b978), (.ref b978)] _
    refine XS.aloadN X987.here hx rfl (hb hby d7_45) rfl rfl ?_
    refine XS.iloadN X987.here hx rfl (hb hby d7_46) rfl ?_
    show Sp p e below m T987 47 #[.val (.ref aa), .val (.int (3 : Int32))] [(.int (3 : Int32)), (.ref aa), (.ref rso_987), (.ref b978), (.ref b978)] _
    refine XS.iconst X987.here hx rfl (hb hby d7_47) ?_
    refine XS.iadd X987.here hx rfl (hb hby d7_48) rfl ?_
    show Sp p e below m T987 49 #[.val (.ref aa), .val (.int (3 : Int32))] [(.int (4 : Int32)), (.ref aa), (.ref rso_987), (.ref b978), (.ref b978)] _
    refine st997.trans ?_
    show Sp p e below m T997 52 #[.val (.ref aa), .val (.int (3 : Int32))] [(.ref rso_997), (.ref rso_987), (.ref b978), (.ref b978)] _
    refine st1011.trans ?_
    show Sp p e below m T1011 55 #[.val (.ref aa), .val (.int (3 : Int32))] [(.ref b978)] _
    jvm_step X1011.here [X1011.here.top, hx, (hb hby d7_55), X1011.method', Bd.returns, Value.isRef, FieldType.isReference]
    first | (intro acts; rw [hr _ acts rfl rfl rfl]) | rw [hr _ _ rfl rfl rfl]
    exact Steps.refl _
  · show Q7d3 Z aa cs vf ab kb ee0 ee1 ee2 ee3 ee4 h0 n0 _ T1011.heap _
    exact ⟨b978, rso_987, rrb_987, rrk_987, rso_997, rrb_997, rrk_997, rfl, N1011, KK1011, p1011_0, p1011_1, p1011_2, f1019, f1020, f1021, f1022, f1023, f1024, f1025, f1026⟩
theorem d31_0 : decode method_3_code 0 = .ok (.iload_n 1, 1) := by decide +kernel
theorem d31_1 : decode method_3_code 1 = .ok (.iload_n 2, 1) := by decide +kernel
theorem d31_2 : decode method_3_code 2 = .ok (.if_icmp .ge 17, 3) := by decide +kernel
theorem d31_19 : decode method_3_code 19 = .ok (.iconst 1, 1) := by decide +kernel
theorem d31_20 : decode method_3_code 20 = .ok (.goto 4, 3) := by decide +kernel
theorem d31_24 : decode method_3_code 24 = .ok (.ireturn, 1) := by decide +kernel
theorem own_pn394 : plainName "com/example/tideline/tideline/model/TableNameParsePinLaw" = true := by first | (simp [plainName, overriddenIn]; done) | decide +kernel
theorem ef_31g (m : MethodId) (x0 : Addr) (x1 : Int32) (x2 : Int32) (x3 : Addr) (x4 : Int32) : entryFrame m #[(.ref x0), (.int x1), (.int x2), (.ref x3), (.int x4)] 5 = mkF m 0 #[.val (.ref x0), .val (.int x1), .val (.int x2), .val (.ref x3), .val (.int x4)] [] := by first | (simp [entryFrame, mkF, argsToLocals, Value.category]; done) | rfl
def Q31g (Z : State) (aa : Addr) (pi : Int32) (pn : Int32) (as_ : Addr) (po : Int32) (h0 : Heap) (n0 : Nat) (v : Option Value) (h : Heap) (L : List Loc) : Prop := v = some (.int (1 : Int32)) ∧ Fr n0 L ∧ h = h0
set_option maxRecDepth 65536 in
set_option maxHeartbeats 40000000 in
theorem rm31g (l : Launch) (Z : State) (a0 : Array Value) (hw : ∀ d ∈ tables_1, d.before a0 Z = true) (ws : List Jvm.Cond) (aa : Addr) (pi : Int32) (pn : Int32) (as_ : Addr) (po : Int32) (h0 : Heap) (n0 : Nat) (Z0 : n0 ≤ h0.size) (hge : ¬ pi < pn) :
    MetFree l (⟨"com/example/tideline/tideline/model/TableNameParsePinLaw", "at", "(Ljava/lang/String;II[CI)Z"⟩ : MethodName) (head1 (Jvm.Cond.code (⟨"com/example/tideline/tideline/model/TableNameParsePinLaw", "at", "(Ljava/lang/String;II[CI)Z"⟩ : MethodName) method_3_code 5 (some .boolean) :: ws) ({ frames := 0, cells := 0, slots := 0, locals := 0 } : Room)) (fun a U => a = #[(.ref aa), (.int pi), (.int pn), (.ref as_), (.int po)] ∧ Z.Warmed39 U.vm ∧ U.heap = h0) (fun _ _ _ _ _ => True) (fun _ U o U' => ∃ v L, o = .returned v ∧ Q31g Z aa pi pn as_ po h0 n0 v U'.heap L ∧ FrameEnd U o U' L ({ frames := 0, cells := 0, slots := 0, locals := 0 } : Room).cells ({ frames := 0, cells := 0, slots := 0, locals := 0 } : Room).slots) := by
  refine MetFree.of_bodySF (plainFor_of_name own_pn394) hisR ?_
  intro p e s m args below meth c s₁ Bd hml0 hP hK
  have H := fun i c (h : tables_1[i]? = some c) => hw c (List.mem_of_getElem? h)
  obtain ⟨rfl, hZ, hh⟩ := hP
  have hx := Bd.exec
  have hby := Bd.bytes
  have hml : c.maxLocals = 5 := hml0
  have hown : s.vm.findClass "com/example/tideline/tideline/model/TableNameParsePinLaw" = some m.cls := findClass_of_methodNamed Bd.named
  have hnm := (name_of_methodNamed Bd.named Bd.method).1
  have X0 : Stand p l e ({ frames := 0, cells := 0, slots := 0, locals := 0 } : Room) s m #[(.ref aa), (.int pi), (.int pn), (.ref as_), (.int po)] below meth c s₁ [] 0 0 := Stand.of_body Bd
  have e0 : s₁.heap = h0 := by rw [← hh, Bd.state]; rfl
  have N0 := Fr.nil n0
  have pre0 : ∀ t, Sp p e below m s₁ 0 #[.val (.ref aa), .val (.int pi), .val (.int pn), .val (.ref as_), .val (.int po)] [] t → Steps p.tables e below (s₁.setTop (entryFrame m #[(.ref aa), (.int pi), (.int pn), (.ref as_), (.int po)] 5)) t := fun t k => castTop (ef_31g m aa pi pn as_ po) k
  generalize s₁.setTop (entryFrame m #[(.ref aa), (.int pi), (.int pn), (.ref as_), (.int po)] 5) = G0 at pre0 ⊢
  obtain ⟨fs, hr, hrun, hended, hW, hsame⟩ := X0.leave (v := some (.int (1 : Int32))) (fun h => by rw [Bd.returns] at h; cases h)
  refine ⟨_, _, pre0 _ ?_, hrun, hended, _, _, rfl, ?_, ⟨_, rfl⟩, hW, hsame.mono (by decide) (by decide)⟩
  · show Sp p e below m s₁ 0 #[.val (.ref aa), .val (.int pi), .val (.int pn), .val (.ref as_), .val (.int po)] [] _
    refine XS.iloadN X0.here hx rfl (hb hby d31_0) rfl ?_
    refine XS.iloadN X0.here hx rfl (hb hby d31_1) rfl ?_
    show Sp p e below m s₁ 2 #[.val (.ref aa), .val (.int pi), .val (.int pn), .val (.ref as_), .val (.int po)] [(.int pn), (.int pi)] _
    refine XS.icmpYes X0.here hx rfl (pc0 := 2) (pc' := 19) rfl (hb hby d31_2) rfl (flt (hge : ¬ (pi < pn))).2.1 (by decide) (by decide) ?_
    show Sp p e below m s₁ 19 #[.val (.ref aa), .val (.int pi), .val (.int pn), .val (.ref as_), .val (.int po)] [] _
    refine XS.iconst X0.here hx rfl (hb hby d31_19) ?_
    refine XS.goto X0.here hx rfl (pc0 := 20) (pc' := 24) rfl (hb hby d31_20) (by decide) (by decide) ?_
    show Sp p e below m s₁ 24 #[.val (.ref aa), .val (.int pi), .val (.int pn), .val (.ref as_), .val (.int po)] [(.int (1 : Int32))] _
    exact retN X0 hx (t := .boolean) Bd.returns (by simp) (hb hby d31_24) hr
  · show Q31g Z aa pi pn as_ po h0 n0 _ s₁.heap _
    rw [e0]
    exact ⟨rfl, N0, rfl⟩
theorem d31_5 : decode method_3_code 5 = .ok (.aload_n 0, 1) := by decide +kernel
theorem d31_6 : decode method_3_code 6 = .ok (.iload_n 1, 1) := by decide +kernel
theorem d31_7 : decode method_3_code 7 = .ok (.invokevirtual 38, 3) := by decide +kernel
theorem own_pd398 : parseMethodDescriptor "(I)C" = some ⟨[.int], some .char⟩ := by decide +kernel
theorem d31_10 : decode method_3_code 10 = .ok (.aload_n 3, 1) := by decide +kernel
theorem d31_11 : decode method_3_code 11 = .ok (.iload 4, 2) := by decide +kernel
theorem d31_13 : decode method_3_code 13 = .ok (.iload_n 1, 1) := by decide +kernel
theorem d31_14 : decode method_3_code 14 = .ok (.iadd, 1) := by decide +kernel
theorem d31_15 : decode method_3_code 15 = .ok (.caload, 1) := by decide +kernel
theorem d31_16 : decode method_3_code 16 = .ok (.if_icmp .ne 7, 3) := by decide +kernel
theorem ef_31l (m : MethodId) (x0 : Addr) (x1 : Int32) (x2 : Int32) (x3 : Addr) (x4 : Int32) : entryFrame m #[(.ref x0), (.int x1), (.int x2), (.ref x3), (.int x4)] 5 = mkF m 0 #[.val (.ref x0), .val (.int x1), .val (.int x2), .val (.ref x3), .val (.int x4)] [] := by first | (simp [entryFrame, mkF, argsToLocals, Value.category]; done) | rfl
def Q31l (Z : State) (aa : Addr) (pi : Int32) (pn : Int32) (as_ : Addr) (po : Int32) (cs : Int32) (vf : Value) (ab : Addr) (kb : ClassId) (zn : Int32) (vs : List Value) (bv : Int32) (ks : ClassId) (zs : Int32) (vss : List Value) (cv : Int32) (h0 : Heap) (n0 : Nat) (v : Option Value) (h : Heap) (L : List Loc) : Prop := v = some (.int (1 : Int32)) ∧ Fr n0 L ∧ h = h0
set_option maxRecDepth 65536 in
set_option maxHeartbeats 40000000 in
theorem rm31l (l : Launch) (Z : State) (a0 : Array Value) (hw : ∀ d ∈ tables_1, d.before a0 Z = true) (ws : List Jvm.Cond) (aa : Addr) (pi : Int32) (pn : Int32) (as_ : Addr) (po : Int32) (cs : Int32) (vf : Value) (ab : Addr) (kb : ClassId) (zn : Int32) (vs : List Value) (bv : Int32) (ks : ClassId) (zs : Int32) (vss : List Value) (cv : Int32) (h0 : Heap) (n0 : Nat) (Z0 : n0 ≤ h0.size) (O0 : Old Z n0 h0) (Scs : Sta Z Z.heap "java/lang/String" "COMPACT_STRINGS" "Z" (.int cs)) (hcs : ¬ cs = (0 : Int32)) (Ssf : Sta Z Z.heap "jdk/internal/util/Preconditions" "SIOOBE_FORMATTER" "Ljava/util/function/BiFunction;" vf) (hvf : vf.isRef = true) (Ea : Exa Z h0 aa "java/lang/String") (Fv : Fld Z h0 aa "java/lang/String" "value" "[B" (.ref ab)) (Fc : Fld Z h0 aa "java/lang/String" "coder" "B" (.int (0 : Int32))) (Va : Arv Z h0 ab kb .byte zn vs (.int (0 : Int32))) (hpn : pi < pn) (h0i : ¬ pi < (0 : Int32)) (hlt : pi < zn) (hget : vs.getD pi.toNatClampNeg (.int (0 : Int32)) = .int bv) (Vs : Arv Z h0 as_ ks .char zs vss (.int (0 : Int32))) (hin : ¬ (po + pi) < 0 ∧ (po + pi) < zs) (hgs : vss.getD (po + pi).toNatClampNeg (.int (0 : Int32)) = .int cv) (heq : own_lat bv = cv) :
    MetFree l (⟨"com/example/tideline/tideline/model/TableNameParsePinLaw", "at", "(Ljava/lang/String;II[CI)Z"⟩ : MethodName) (head1 (Jvm.Cond.code (⟨"com/example/tideline/tideline/model/TableNameParsePinLaw", "at", "(Ljava/lang/String;II[CI)Z"⟩ : MethodName) method_3_code 5 (some .boolean) :: ws) ({ frames := 4, cells := 0, slots := 0, locals := 53 } : Room)) (fun a U => a = #[(.ref aa), (.int pi), (.int pn), (.ref as_), (.int po)] ∧ Z.Warmed39 U.vm ∧ U.heap = h0) (fun _ _ _ _ _ => True) (fun _ U o U' => ∃ v L, o = .returned v ∧ Q31l Z aa pi pn as_ po cs vf ab kb zn vs bv ks zs vss cv h0 n0 v U'.heap L ∧ FrameEnd U o U' L ({ frames := 4, cells := 0, slots := 0, locals := 53 } : Room).cells ({ frames := 4, cells := 0, slots := 0, locals := 53 } : Room).slots) := by
  refine MetFree.of_bodySF (plainFor_of_name own_pn394) hisR ?_
  intro p e s m args below meth c s₁ Bd hml0 hP hK
  have H := fun i c (h : tables_1[i]? = some c) => hw c (List.mem_of_getElem? h)
  obtain ⟨rfl, hZ, hh⟩ := hP
  have hx := Bd.exec
  have hby := Bd.bytes
  have hml : c.maxLocals = 5 := hml0
  have hown : s.vm.findClass "com/example/tideline/tideline/model/TableNameParsePinLaw" = some m.cls := findClass_of_methodNamed Bd.named
  have hnm := (name_of_methodNamed Bd.named Bd.method).1
  have X0 : Stand p l e ({ frames := 4, cells := 0, slots := 0, locals := 53 } : Room) s m #[(.ref aa), (.int pi), (.int pn), (.ref as_), (.int po)] below meth c s₁ [] 0 0 := Stand.of_body Bd
  have e0 : s₁.heap = h0 := by rw [← hh, Bd.state]; rfl
  have N0 := Fr.nil n0
  have pre0 : ∀ t, Sp p e below m s₁ 0 #[.val (.ref aa), .val (.int pi), .val (.int pn), .val (.ref as_), .val (.int po)] [] t → Steps p.tables e below (s₁.setTop (entryFrame m #[(.ref aa), (.int pi), (.int pn), (.ref as_), (.int po)] 5)) t := fun t k => castTop (ef_31l m aa pi pn as_ po) k
  generalize s₁.setTop (entryFrame m #[(.ref aa), (.int pi), (.int pn), (.ref as_), (.int po)] 5) = G0 at pre0 ⊢
  obtain ⟨cq1029, kq1029, q1029a, q1029b, q1029c⟩ := isOf hZ e0 Ea
  obtain ⟨_, _, ⟨T1029, L1029, k1029, n1029⟩, -, X1029, ⟨Lc1029, hQ1029, l1029, y1029, z1029⟩, st1029⟩ := X0.virtualBack hx (y := (⟨"java/lang/String", "charAt", "(I)C"⟩ : MethodName)) (z := (⟨"java/lang/String", "charAt", "(I)C"⟩ : MethodName)) hown (mvT hZ (H 150 _ rfl)) (mvT hZ (H 151 _ rfl)) (notFace_of_selects (args := #[]) (mvT hZ (H 153 _ rfl))) (mvT hZ (H 153 _ rfl)) (mvT hZ (H 152 _ rfl)) (by decide) (backOf (W := 0) (rm32 l Z a0 hw [] aa pi cs vf ab kb zn vs bv h0 n0 Z0 O0 Scs hcs Ssf hvf Ea Fv Fc Va h0i hlt hget) hZ (H 154 _ rfl) (H 5 _ rfl) (by decide) (by decide)) q1029a q1029c (g := (mkF m 7 #[.val (.ref aa), .val (.int pi), .val (.int pn), .val (.ref as_), .val (.int po)] [(.int pi), (.ref aa)])) rfl (by rw [hml]; rfl) (Steps.refl _) (argsL := [(.int pi)]) (rest := []) (lenOf own_pd398 rfl) rfl (Nat.le_of_eq rfl) (hb hby d31_7) (fun _ _ => ⟨rfl, e0, (by decide : 0 + 0 ≤ _), (by decide : 0 + 0 ≤ _)⟩)
  dsimp only [Pt.U, Pt.locs, Pt.cells, Pt.slots] at X1029 l1029 y1029 z1029 st1029 hQ1029
  rw [l1029, y1029, z1029] at X1029
  clear l1029 y1029 z1029
  obtain ⟨rfl, Nq1029, e1029⟩ := hQ1029
  have N1029 := Fr.app N0 Nq1029
  obtain ⟨cl1030, Ar1030, -, S1030, -, H1030, -⟩ := id Vs
  have hin1030 : ¬ ((po + pi) < 0 ∨ cl1030.slots.size ≤ ((po + pi)).toNatClampNeg) := inb_of S1030 hin
  have hat1030 : cl1030.slots[((po + pi)).toNatClampNeg]? = some (.int cv) := H1030.at hin1030 hgs
  obtain ⟨fs, hr, hrun, hended, hW, hsame⟩ := X1029.leave (v := some (.int (1 : Int32))) (fun h => by rw [Bd.returns] at h; cases h)
  refine ⟨_, _, pre0 _ ?_, hrun, hended, _, _, rfl, ?_, ⟨_, rfl⟩, hW, hsame.mono (by decide) (by decide)⟩
  · show Sp p e below m s₁ 0 #[.val (.ref aa), .val (.int pi), .val (.int pn), .val (.ref as_), .val (.int po)] [] _
    refine XS.iloadN X0.here hx rfl (hb hby d31_0) rfl ?_
    refine XS.iloadN X0.here hx rfl (hb hby d31_1) rfl ?_
    show Sp p e below m s₁ 2 #[.val (.ref aa), .val (.int pi), .val (.int pn), .val (.ref as_), .val (.int po)] [(.int pn), (.int pi)] _
    refine XS.icmpNo X0.here hx rfl (hb hby d31_2) rfl (tlt (hpn : (pi < pn))).2.1 ?_
    show Sp p e below m s₁ 5 #[.val (.ref aa), .val (.int pi), .val (.int pn), .val (.ref as_), .val (.int po)] [] _
    refine XS.aloadN X0.here hx rfl (hb hby d31_5) rfl rfl ?_
    refine XS.iloadN X0.here hx rfl (hb hby d31_6) rfl ?_
    show Sp p e below m s₁ 7 #[.val (.ref aa), .val (.int pi), .val (.int pn), .val (.ref as_), .val (.int po)] [(.int pi), (.ref aa)] _
    refine st1029.trans ?_
    show Sp p e below m T1029 10 #[.val (.ref aa), .val (.int pi), .val (.int pn), .val (.ref as_), .val (.int po)] [(.int (own_lat bv))] _
    refine XS.aloadN X1029.here hx rfl (hb hby d31_10) rfl rfl ?_
    refine XS.iload X1029.here hx rfl (hb hby d31_11) rfl ?_
    show Sp p e below m T1029 13 #[.val (.ref aa), .val (.int pi), .val (.int pn), .val (.ref as_), .val (.int po)] [(.int po), (.ref as_), (.int (own_lat bv))] _
    refine XS.iloadN X1029.here hx rfl (hb hby d31_13) rfl ?_
    refine XS.iadd X1029.here hx rfl (hb hby d31_14) rfl ?_
    show Sp p e below m T1029 15 #[.val (.ref aa), .val (.int pi), .val (.int pn), .val (.ref as_), .val (.int po)] [(.int (po + pi)), (.ref as_), (.int (own_lat bv))] _
    refine X1029.caload hx (j := (po + pi)) (v := (.int cv)) (by rw [e1029]; exact Ar1030.1) (State.isArrayOf_alike hZ.alike Ar1030.2.1) Ar1030.2.2 hin1030 hat1030 (g := (mkF m 15 #[.val (.ref aa), .val (.int pi), .val (.int pn), .val (.ref as_), .val (.int po)] [(.int (po + pi)), (.ref as_), (.int (own_lat bv))])) rfl rfl (hb hby d31_15) _ ?_
    show Sp p e below m T1029 16 #[.val (.ref aa), .val (.int pi), .val (.int pn), .val (.ref as_), .val (.int po)] [(.int cv), (.int (own_lat bv))] _
    refine XS.icmpNo X1029.here hx rfl (hb hby d31_16) rfl (teq (heq : ((own_lat bv) = cv))).2 ?_
    show Sp p e below m T1029 19 #[.val (.ref aa), .val (.int pi), .val (.int pn), .val (.ref as_), .val (.int po)] [] _
    refine XS.iconst X1029.here hx rfl (hb hby d31_19) ?_
    refine XS.goto X1029.here hx rfl (pc0 := 20) (pc' := 24) rfl (hb hby d31_20) (by decide) (by decide) ?_
    show Sp p e below m T1029 24 #[.val (.ref aa), .val (.int pi), .val (.int pn), .val (.ref as_), .val (.int po)] [(.int (1 : Int32))] _
    exact retN X1029 hx (t := .boolean) Bd.returns (by simp) (hb hby d31_24) hr
  · show Q31l Z aa pi pn as_ po cs vf ab kb zn vs bv ks zs vss cv h0 n0 _ T1029.heap _
    rw [e1029]
    exact ⟨rfl, N1029, rfl⟩
theorem own_pd405 : parseMethodDescriptor "([C)V" = some ⟨[(.array .char)], none⟩ := by decide +kernel
theorem own_pd406 : parseMethodDescriptor "(Ljava/lang/String;)Lcom/example/tideline/tideline/model/TableName;" = some ⟨[(.object "java/lang/String")], some (.object "com/example/tideline/tideline/model/TableName")⟩ := by decide +kernel
theorem own_pd407 : parseMethodDescriptor "()Ljava/lang/String;" = some ⟨[], some (.object "java/lang/String")⟩ := by decide +kernel
theorem own_pd408 : parseMethodDescriptor "(Ljava/lang/String;II[CI)Z" = some ⟨[(.object "java/lang/String"), .int, .int, (.array .char), .int], some .boolean⟩ := by decide +kernel
theorem ef_0 (m : MethodId) (x0 : Int64) (x1 : Int32) : entryFrame m #[(.long x0), (.int x1)] maxLocals = mkF m 0 #[.val (.long x0), .second, .val (.int x1), .unset, .unset, .unset, .unset, .unset, .unset] [] := by first | (simp [entryFrame, mkF, argsToLocals, Value.category, maxLocals]; done) | rfl
def Q0 (Z : State) (qc : Int64) (ps : Int32) (cs : Int32) (vf : Value) (h0 : Heap) (n0 : Nat) (v : Option Value) (h : Heap) (L : List Loc) : Prop := v = some (.int (1 : Int32)) ∧ Fr n0 L
set_option maxRecDepth 65536 in
set_option maxHeartbeats 40000000 in
theorem rm0 (l : Launch) (Z : State) (a0 : Array Value) (hw : ∀ d ∈ tables_1, d.before a0 Z = true) (ws : List Jvm.Cond) (qc : Int64) (ps : Int32) (cs : Int32) (vf : Value) (h0 : Heap) (n0 : Nat) (Z0 : n0 ≤ h0.size) (O0 : Old Z n0 h0) (Scs : Sta Z Z.heap "java/lang/String" "COMPACT_STRINGS" "Z" (.int cs)) (hcs : ¬ cs = (0 : Int32)) (Ssf : Sta Z Z.heap "jdk/internal/util/Preconditions" "SIOOBE_FORMATTER" "Ljava/util/function/BiFunction;" vf) (hvf : vf.isRef = true) :
    MetFree l x (head1 (Jvm.Cond.code x code maxLocals ret :: ws) room_1) (fun a U => a = #[(.long qc), (.int ps)] ∧ Z.Warmed39 U.vm ∧ U.heap = h0) (fun _ _ _ _ _ => True) (fun _ U o U' => ∃ v L, o = .returned v ∧ Q0 Z qc ps cs vf h0 n0 v U'.heap L ∧ FrameEnd U o U' L room_1.cells room_1.slots) := by
  refine MetFree.of_bodySF (plainFor_of_name own_pn394) hisR ?_
  intro p e s m args below meth c s₁ Bd hml0 hP hK
  have H := fun i c (h : tables_1[i]? = some c) => hw c (List.mem_of_getElem? h)
  obtain ⟨rfl, hZ, hh⟩ := hP
  have hx := Bd.exec
  have hby := Bd.bytes
  have hml : c.maxLocals = 9 := hml0
  have hown : s.vm.findClass "com/example/tideline/tideline/model/TableNameParsePinLaw" = some m.cls := findClass_of_methodNamed Bd.named
  have hnm := (name_of_methodNamed Bd.named Bd.method).1
  have X0 : Stand p l e room_1 s m #[(.long qc), (.int ps)] below meth c s₁ [] 0 0 := Stand.of_body Bd
  have e0 : s₁.heap = h0 := by rw [← hh, Bd.state]; rfl
  have N0 := Fr.nil n0
  have pre0 : ∀ t, Sp p e below m s₁ 0 #[.val (.long qc), .second, .val (.int ps), .unset, .unset, .unset, .unset, .unset, .unset] [] t → Steps p.tables e below (s₁.setTop (entryFrame m #[(.long qc), (.int ps)] maxLocals)) t := fun t k => castTop (ef_0 m qc ps) k
  generalize s₁.setTop (entryFrame m #[(.long qc), (.int ps)] maxLocals) = G0 at pre0 ⊢
  have pre1031 : ∀ t, Sp p e below m s₁ 9 #[.val (.long qc), .second, .val (.int ps), .val (.int ((1 : Int32) + ((ps &&& (2147483647 : Int32)) % (3 : Int32)))), .unset, .unset, .unset, .unset, .unset] [] t → Steps p.tables e below G0 t := by
    intro t k
    refine pre0 t ?_
    show Sp p e below m s₁ 0 #[.val (.long qc), .second, .val (.int ps), .unset, .unset, .unset, .unset, .unset, .unset] [] _
    refine XS.iconst X0.here hx rfl (hb hby at_0) ?_
    refine XS.iloadN X0.here hx rfl (hb hby at_1) rfl ?_
    show Sp p e below m s₁ 2 #[.val (.long qc), .second, .val (.int ps), .unset, .unset, .unset, .unset, .unset, .unset] [(.int ps), (.int (1 : Int32))] _
    refine X0.ldcInt hx hown (mvT hZ (H 0 _ rfl)) (g := (mkF m 2 #[.val (.long qc), .second, .val (.int ps), .unset, .unset, .unset, .unset, .unset, .unset] [(.int ps), (.int (1 : Int32))])) rfl (hb hby at_2) _ ?_
    show Sp p e below m s₁ 4 #[.val (.long qc), .second, .val (.int ps), .unset, .unset, .unset, .unset, .unset, .unset] [(.int (2147483647 : Int32)), (.int ps), (.int (1 : Int32))] _
    refine XS.iand X0.here hx rfl (hb hby at_4) rfl ?_
    show Sp p e below m s₁ 5 #[.val (.long qc), .second, .val (.int ps), .unset, .unset, .unset, .unset, .unset, .unset] [(.int (ps &&& (2147483647 : Int32))), (.int (1 : Int32))] _
    refine XS.iconst X0.here hx rfl (hb hby at_5) ?_
    refine iremM X0 hx rfl (hb hby at_6) rfl (by decide) ?_
    show Sp p e below m s₁ 7 #[.val (.long qc), .second, .val (.int ps), .unset, .unset, .unset, .unset, .unset, .unset] [(.int ((ps &&& (2147483647 : Int32)) % (3 : Int32))), (.int (1 : Int32))] _
    refine XS.iadd X0.here hx rfl (hb hby at_7) rfl ?_
    show Sp p e below m s₁ 8 #[.val (.long qc), .second, .val (.int ps), .unset, .unset, .unset, .unset, .unset, .unset] [(.int ((1 : Int32) + ((ps &&& (2147483647 : Int32)) % (3 : Int32))))] _
    refine XS.istoreN X0.here hx rfl (hb hby at_8) rfl (l' := #[.val (.long qc), .second, .val (.int ps), .val (.int ((1 : Int32) + ((ps &&& (2147483647 : Int32)) % (3 : Int32)))), .unset, .unset, .unset, .unset, .unset]) rfl ?_
    exact k
  rcases own_d ps with hq1032 | hq1033 | hq1034
  · rw [hq1032] at pre1031
    obtain ⟨T1035, h1035, k1035, X1035, e1035, E1035, A1035, st1035⟩ := newP X0 hx hZ (H 1 _ rfl) e0 (g := (mkF m 10 #[.val (.long qc), .second, .val (.int ps), .val (.int (1 : Int32)), .unset, .unset, .unset, .unset, .unset] [(.int (5 : Int32))])) rfl (hb hby at_10) rfl (by decide) (cap := 5) (by decide) (by decide) (by decide) (by decide)
    obtain ⟨b1035, g1035⟩ : ∃ z, z = h0.size := ⟨_, rfl⟩
    rw [← g1035] at A1035 st1035
    have g_b1035 : n0 ≤ b1035 := Nat.le_trans Z0 (Nat.le_of_eq g1035.symm)
    have sz_b1035 : h0.size ≤ b1035 := Nat.le_of_eq g1035.symm
    have Zs1035 : n0 ≤ h1035.size := Nat.le_trans Z0 E1035.1
    have KK1035 : Keep h0 h1035 [] := (Keep.refl h0 _).ext E1035
    have O1035 := O0.ext E1035
    have f1036 := (Scs.ext O0.2).ext E1035
    have f1037 := (Ssf.ext O0.2).ext E1035
    have V1035 : Arv Z h1035 b1035 k1035 .char (5 : Int32) [(.int (0 : Int32)), (.int (0 : Int32)), (.int (0 : Int32)), (.int (0 : Int32)), (.int (0 : Int32))] (.int (0 : Int32)) := (Arv.new A1035 (by decide)).pad (pad_rep [] (.int (0 : Int32)) 5)
    have pre1038 : ∀ t, Sp p e below m T1035 24 #[.val (.long qc), .second, .val (.int ps), .val (.int (1 : Int32)), .val (.ref b1035), .unset, .unset, .unset, .unset] [(.int (((qc &&& (255 : Int64)).toInt32).toUInt32.toUInt16.toUInt32.toInt32)), (.int (0 : Int32)), (.ref b1035)] t → Steps p.tables e below G0 t := by
      intro t k
      refine pre1031 t ?_
      show Sp p e below m s₁ 9 #[.val (.long qc), .second, .val (.int ps), .val (.int (1 : Int32)), .unset, .unset, .unset, .unset, .unset] [] _
      refine XS.iconst X0.here hx rfl (hb hby at_9) ?_
      refine st1035 _ ?_
      show Sp p e below m T1035 12 #[.val (.long qc), .second, .val (.int ps), .val (.int (1 : Int32)), .unset, .unset, .unset, .unset, .unset] [(.ref b1035)] _
      refine XS.astore X1035.here hx rfl (hb hby at_12) rfl rfl (l' := #[.val (.long qc), .second, .val (.int ps), .val (.int (1 : Int32)), .val (.ref b1035), .unset, .unset, .unset, .unset]) rfl ?_
      show Sp p e below m T1035 14 #[.val (.long qc), .second, .val (.int ps), .val (.int (1 : Int32)), .val (.ref b1035), .unset, .unset, .unset, .unset] [] _
      refine XS.aload X1035.here hx rfl (hb hby at_14) rfl rfl ?_
      refine XS.iconst X1035.here hx rfl (hb hby at_16) ?_
      show Sp p e below m T1035 17 #[.val (.long qc), .second, .val (.int ps), .val (.int (1 : Int32)), .val (.ref b1035), .unset, .unset, .unset, .unset] [(.int (0 : Int32)), (.ref b1035)] _
      refine XS.lloadN X1035.here hx rfl (hb hby at_17) rfl ?_
      refine X1035.ldc2Long hx hown (mvT hZ (H 2 _ rfl)) (g := (mkF m 18 #[.val (.long qc), .second, .val (.int ps), .val (.int (1 : Int32)), .val (.ref b1035), .unset, .unset, .unset, .unset] [(.long qc), (.int (0 : Int32)), (.ref b1035)])) rfl (hb hby at_18) _ ?_
      show Sp p e below m T1035 21 #[.val (.long qc), .second, .val (.int ps), .val (.int (1 : Int32)), .val (.ref b1035), .unset, .unset, .unset, .unset] [(.long (255 : Int64)), (.long qc), (.int (0 : Int32)), (.ref b1035)] _
      refine XS.land X1035.here hx rfl (hb hby at_21) rfl ?_
      show Sp p e below m T1035 22 #[.val (.long qc), .second, .val (.int ps), .val (.int (1 : Int32)), .val (.ref b1035), .unset, .unset, .unset, .unset] [(.long (qc &&& (255 : Int64))), (.int (0 : Int32)), (.ref b1035)] _
      refine XS.l2i X1035.here hx rfl (hb hby at_22) rfl ?_
      show Sp p e below m T1035 23 #[.val (.long qc), .second, .val (.int ps), .val (.int (1 : Int32)), .val (.ref b1035), .unset, .unset, .unset, .unset] [(.int ((qc &&& (255 : Int64)).toInt32)), (.int (0 : Int32)), (.ref b1035)] _
      refine XS.i2c X1035.here hx rfl (hb hby at_23) rfl ?_
      exact k
    obtain ⟨x0, he1039⟩ : ∃ z : Int32, z = (((qc &&& (255 : Int64)).toInt32).toUInt32.toUInt16.toUInt32.toInt32) := ⟨_, rfl⟩
    rw [← he1039] at pre1038
    have hb0 : 0 ≤ (nar .char x0).toInt ∧ (nar .char x0).toInt ≤ 255 := by rw [he1039]; exact own_cb _
    obtain ⟨cl1040, Ar1040, q1040, S1040, N1040, H1040, G1040⟩ := id V1035
    have hin1040 : ¬ ((0 : Int32) < 0 ∨ cl1040.slots.size ≤ ((0 : Int32)).toNatClampNeg) := inb_of S1040 ⟨by decide, by decide⟩
    obtain ⟨T1041, h1041, X1041, e1041, W1041, st1041⟩ := stC X1035 hx hZ e1035 Ar1040 (j := (0 : Int32)) hin1040 (g := (mkF m 24 #[.val (.long qc), .second, .val (.int ps), .val (.int (1 : Int32)), .val (.ref b1035), .unset, .unset, .unset, .unset] [(.int x0), (.int (0 : Int32)), (.ref b1035)])) rfl rfl (hb hby at_24)
    have V1041 : Arv Z h1041 b1035 k1035 .char (5 : Int32) [(.int (nar .char x0)), (.int (0 : Int32)), (.int (0 : Int32)), (.int (0 : Int32)), (.int (0 : Int32))] (.int (0 : Int32)) := Arv.set Ar1040 q1040 S1040 N1040 H1040 G1040 (fits_nar_char x0) W1041 0 rfl (Nat.le_of_ble_eq_true rfl)
    have N1041 := Fr.snoc X1041 N0 g_b1035
    have Zs1041 : n0 ≤ h1041.size := Nat.le_trans Zs1035 (Keep.of_wr W1041).1
    have KK1041 : Keep h0 h1041 [] := KK1035.wr W1041 (Or.inr sz_b1035)
    have O1041 := O1035.wr W1041 g_b1035
    have f1042 := f1036.wr W1041
    have f1043 := f1037.wr W1041
    have pre1044 : ∀ t, Sp p e below m T1041 38 #[.val (.long qc), .second, .val (.int ps), .val (.int (1 : Int32)), .val (.ref b1035), .unset, .unset, .unset, .unset] [(.int (((((qc.toUInt64 >>> ((8 : Int32) &&& 0x3f).toInt64.toUInt64).toInt64) &&& (255 : Int64)).toInt32).toUInt32.toUInt16.toUInt32.toInt32)), (.int (1 : Int32)), (.ref b1035)] t → Steps p.tables e below G0 t := by
      intro t k
      refine pre1038 t ?_
      show Sp p e below m T1035 24 #[.val (.long qc), .second, .val (.int ps), .val (.int (1 : Int32)), .val (.ref b1035), .unset, .unset, .unset, .unset] [(.int x0), (.int (0 : Int32)), (.ref b1035)] _
      refine st1041 _ ?_
      show Sp p e below m T1041 25 #[.val (.long qc), .second, .val (.int ps), .val (.int (1 : Int32)), .val (.ref b1035), .unset, .unset, .unset, .unset] [] _
      refine XS.aload X1041.here hx rfl (hb hby at_25) rfl rfl ?_
      refine XS.iconst X1041.here hx rfl (hb hby at_27) ?_
      show Sp p e below m T1041 28 #[.val (.long qc), .second, .val (.int ps), .val (.int (1 : Int32)), .val (.ref b1035), .unset, .unset, .unset, .unset] [(.int (1 : Int32)), (.ref b1035)] _
      refine XS.lloadN X1041.here hx rfl (hb hby at_28) rfl ?_
      refine XS.bipush X1041.here hx rfl (hb hby at_29) ?_
      show Sp p e below m T1041 31 #[.val (.long qc), .second, .val (.int ps), .val (.int (1 : Int32)), .val (.ref b1035), .unset, .unset, .unset, .unset] [(.int (8 : Int32)), (.long qc), (.int (1 : Int32)), (.ref b1035)] _
      refine XS.lushr X1041.here hx rfl (hb hby at_31) rfl ?_
      show Sp p e below m T1041 32 #[.val (.long qc), .second, .val (.int ps), .val (.int (1 : Int32)), .val (.ref b1035), .unset, .unset, .unset, .unset] [(.long ((qc.toUInt64 >>> ((8 : Int32) &&& 0x3f).toInt64.toUInt64).toInt64)), (.int (1 : Int32)), (.ref b1035)] _
      refine X1041.ldc2Long hx hown (mvT hZ (H 2 _ rfl)) (g := (mkF m 32 #[.val (.long qc), .second, .val (.int ps), .val (.int (1 : Int32)), .val (.ref b1035), .unset, .unset, .unset, .unset] [(.long ((qc.toUInt64 >>> ((8 : Int32) &&& 0x3f).toInt64.toUInt64).toInt64)), (.int (1 : Int32)), (.ref b1035)])) rfl (hb hby at_32) _ ?_
      show Sp p e below m T1041 35 #[.val (.long qc), .second, .val (.int ps), .val (.int (1 : Int32)), .val (.ref b1035), .unset, .unset, .unset, .unset] [(.long (255 : Int64)), (.long ((qc.toUInt64 >>> ((8 : Int32) &&& 0x3f).toInt64.toUInt64).toInt64)), (.int (1 : Int32)), (.ref b1035)] _
      refine XS.land X1041.here hx rfl (hb hby at_35) rfl ?_
      show Sp p e below m T1041 36 #[.val (.long qc), .second, .val (.int ps), .val (.int (1 : Int32)), .val (.ref b1035), .unset, .unset, .unset, .unset] [(.long (((qc.toUInt64 >>> ((8 : Int32) &&& 0x3f).toInt64.toUInt64).toInt64) &&& (255 : Int64))), (.int (1 : Int32)), (.ref b1035)] _
      refine XS.l2i X1041.here hx rfl (hb hby at_36) rfl ?_
      show Sp p e below m T1041 37 #[.val (.long qc), .second, .val (.int ps), .val (.int (1 : Int32)), .val (.ref b1035), .unset, .unset, .unset, .unset] [(.int ((((qc.toUInt64 >>> ((8 : Int32) &&& 0x3f).toInt64.toUInt64).toInt64) &&& (255 : Int64)).toInt32)), (.int (1 : Int32)), (.ref b1035)] _
      refine XS.i2c X1041.here hx rfl (hb hby at_37) rfl ?_
      exact k
    obtain ⟨x1, he1045⟩ : ∃ z : Int32, z = (((((qc.toUInt64 >>> ((8 : Int32) &&& 0x3f).toInt64.toUInt64).toInt64) &&& (255 : Int64)).toInt32).toUInt32.toUInt16.toUInt32.toInt32) := ⟨_, rfl⟩
    rw [← he1045] at pre1044
    have hb1 : 0 ≤ (nar .char x1).toInt ∧ (nar .char x1).toInt ≤ 255 := by rw [he1045]; exact own_cb _
    obtain ⟨cl1046, Ar1046, q1046, S1046, N1046, H1046, G1046⟩ := id V1041
    have hin1046 : ¬ ((1 : Int32) < 0 ∨ cl1046.slots.size ≤ ((1 : Int32)).toNatClampNeg) := inb_of S1046 ⟨by decide, by decide⟩
    obtain ⟨T1047, h1047, X1047, e1047, W1047, st1047⟩ := stC X1041 hx hZ e1041 Ar1046 (j := (1 : Int32)) hin1046 (g := (mkF m 38 #[.val (.long qc), .second, .val (.int ps), .val (.int (1 : Int32)), .val (.ref b1035), .unset, .unset, .unset, .unset] [(.int x1), (.int (1 : Int32)), (.ref b1035)])) rfl rfl (hb hby at_38)
    have V1047 : Arv Z h1047 b1035 k1035 .char (5 : Int32) [(.int (nar .char x0)), (.int (nar .char x1)), (.int (0 : Int32)), (.int (0 : Int32)), (.int (0 : Int32))] (.int (0 : Int32)) := Arv.set Ar1046 q1046 S1046 N1046 H1046 G1046 (fits_nar_char x1) W1047 1 rfl (Nat.le_of_ble_eq_true rfl)
    have N1047 := Fr.snoc X1047 N1041 g_b1035
    have Zs1047 : n0 ≤ h1047.size := Nat.le_trans Zs1041 (Keep.of_wr W1047).1
    have KK1047 : Keep h0 h1047 [] := KK1041.wr W1047 (Or.inr sz_b1035)
    have O1047 := O1041.wr W1047 g_b1035
    have f1048 := f1042.wr W1047
    have f1049 := f1043.wr W1047
    have pre1050 : ∀ t, Sp p e below m T1047 52 #[.val (.long qc), .second, .val (.int ps), .val (.int (1 : Int32)), .val (.ref b1035), .unset, .unset, .unset, .unset] [(.int (((((qc.toUInt64 >>> ((16 : Int32) &&& 0x3f).toInt64.toUInt64).toInt64) &&& (255 : Int64)).toInt32).toUInt32.toUInt16.toUInt32.toInt32)), (.int (2 : Int32)), (.ref b1035)] t → Steps p.tables e below G0 t := by
      intro t k
      refine pre1044 t ?_
      show Sp p e below m T1041 38 #[.val (.long qc), .second, .val (.int ps), .val (.int (1 : Int32)), .val (.ref b1035), .unset, .unset, .unset, .unset] [(.int x1), (.int (1 : Int32)), (.ref b1035)] _
      refine st1047 _ ?_
      show Sp p e below m T1047 39 #[.val (.long qc), .second, .val (.int ps), .val (.int (1 : Int32)), .val (.ref b1035), .unset, .unset, .unset, .unset] [] _
      refine XS.aload X1047.here hx rfl (hb hby at_39) rfl rfl ?_
      refine XS.iconst X1047.here hx rfl (hb hby at_41) ?_
      show Sp p e below m T1047 42 #[.val (.long qc), .second, .val (.int ps), .val (.int (1 : Int32)), .val (.ref b1035), .unset, .unset, .unset, .unset] [(.int (2 : Int32)), (.ref b1035)] _
      refine XS.lloadN X1047.here hx rfl (hb hby at_42) rfl ?_
      refine XS.bipush X1047.here hx rfl (hb hby at_43) ?_
      show Sp p e below m T1047 45 #[.val (.long qc), .second, .val (.int ps), .val (.int (1 : Int32)), .val (.ref b1035), .unset, .unset, .unset, .unset] [(.int (16 : Int32)), (.long qc), (.int (2 : Int32)), (.ref b1035)] _
      refine XS.lushr X1047.here hx rfl (hb hby at_45) rfl ?_
      show Sp p e below m T1047 46 #[.val (.long qc), .second, .val (.int ps), .val (.int (1 : Int32)), .val (.ref b1035), .unset, .unset, .unset, .unset] [(.long ((qc.toUInt64 >>> ((16 : Int32) &&& 0x3f).toInt64.toUInt64).toInt64)), (.int (2 : Int32)), (.ref b1035)] _
      refine X1047.ldc2Long hx hown (mvT hZ (H 2 _ rfl)) (g := (mkF m 46 #[.val (.long qc), .second, .val (.int ps), .val (.int (1 : Int32)), .val (.ref b1035), .unset, .unset, .unset, .unset] [(.long ((qc.toUInt64 >>> ((16 : Int32) &&& 0x3f).toInt64.toUInt64).toInt64)), (.int (2 : Int32)), (.ref b1035)])) rfl (hb hby at_46) _ ?_
      show Sp p e below m T1047 49 #[.val (.long qc), .second, .val (.int ps), .val (.int (1 : Int32)), .val (.ref b1035), .unset, .unset, .unset, .unset] [(.long (255 : Int64)), (.long ((qc.toUInt64 >>> ((16 : Int32) &&& 0x3f).toInt64.toUInt64).toInt64)), (.int (2 : Int32)), (.ref b1035)] _
      refine XS.land X1047.here hx rfl (hb hby at_49) rfl ?_
      show Sp p e below m T1047 50 #[.val (.long qc), .second, .val (.int ps), .val (.int (1 : Int32)), .val (.ref b1035), .unset, .unset, .unset, .unset] [(.long (((qc.toUInt64 >>> ((16 : Int32) &&& 0x3f).toInt64.toUInt64).toInt64) &&& (255 : Int64))), (.int (2 : Int32)), (.ref b1035)] _
      refine XS.l2i X1047.here hx rfl (hb hby at_50) rfl ?_
      show Sp p e below m T1047 51 #[.val (.long qc), .second, .val (.int ps), .val (.int (1 : Int32)), .val (.ref b1035), .unset, .unset, .unset, .unset] [(.int ((((qc.toUInt64 >>> ((16 : Int32) &&& 0x3f).toInt64.toUInt64).toInt64) &&& (255 : Int64)).toInt32)), (.int (2 : Int32)), (.ref b1035)] _
      refine XS.i2c X1047.here hx rfl (hb hby at_51) rfl ?_
      exact k
    obtain ⟨x2, he1051⟩ : ∃ z : Int32, z = (((((qc.toUInt64 >>> ((16 : Int32) &&& 0x3f).toInt64.toUInt64).toInt64) &&& (255 : Int64)).toInt32).toUInt32.toUInt16.toUInt32.toInt32) := ⟨_, rfl⟩
    rw [← he1051] at pre1050
    have hb2 : 0 ≤ (nar .char x2).toInt ∧ (nar .char x2).toInt ≤ 255 := by rw [he1051]; exact own_cb _
    obtain ⟨cl1052, Ar1052, q1052, S1052, N1052, H1052, G1052⟩ := id V1047
    have hin1052 : ¬ ((2 : Int32) < 0 ∨ cl1052.slots.size ≤ ((2 : Int32)).toNatClampNeg) := inb_of S1052 ⟨by decide, by decide⟩
    obtain ⟨T1053, h1053, X1053, e1053, W1053, st1053⟩ := stC X1047 hx hZ e1047 Ar1052 (j := (2 : Int32)) hin1052 (g := (mkF m 52 #[.val (.long qc), .second, .val (.int ps), .val (.int (1 : Int32)), .val (.ref b1035), .unset, .unset, .unset, .unset] [(.int x2), (.int (2 : Int32)), (.ref b1035)])) rfl rfl (hb hby at_52)
    have V1053 : Arv Z h1053 b1035 k1035 .char (5 : Int32) [(.int (nar .char x0)), (.int (nar .char x1)), (.int (nar .char x2)), (.int (0 : Int32)), (.int (0 : Int32))] (.int (0 : Int32)) := Arv.set Ar1052 q1052 S1052 N1052 H1052 G1052 (fits_nar_char x2) W1053 2 rfl (Nat.le_of_ble_eq_true rfl)
    have N1053 := Fr.snoc X1053 N1047 g_b1035
    have Zs1053 : n0 ≤ h1053.size := Nat.le_trans Zs1047 (Keep.of_wr W1053).1
    have KK1053 : Keep h0 h1053 [] := KK1047.wr W1053 (Or.inr sz_b1035)
    have O1053 := O1047.wr W1053 g_b1035
    have f1054 := f1048.wr W1053
    have f1055 := f1049.wr W1053
    have pre1056 : ∀ t, Sp p e below m T1053 66 #[.val (.long qc), .second, .val (.int ps), .val (.int (1 : Int32)), .val (.ref b1035), .unset, .unset, .unset, .unset] [(.int (((((qc.toUInt64 >>> ((24 : Int32) &&& 0x3f).toInt64.toUInt64).toInt64) &&& (255 : Int64)).toInt32).toUInt32.toUInt16.toUInt32.toInt32)), (.int (3 : Int32)), (.ref b1035)] t → Steps p.tables e below G0 t := by
      intro t k
      refine pre1050 t ?_
      show Sp p e below m T1047 52 #[.val (.long qc), .second, .val (.int ps), .val (.int (1 : Int32)), .val (.ref b1035), .unset, .unset, .unset, .unset] [(.int x2), (.int (2 : Int32)), (.ref b1035)] _
      refine st1053 _ ?_
      show Sp p e below m T1053 53 #[.val (.long qc), .second, .val (.int ps), .val (.int (1 : Int32)), .val (.ref b1035), .unset, .unset, .unset, .unset] [] _
      refine XS.aload X1053.here hx rfl (hb hby at_53) rfl rfl ?_
      refine XS.iconst X1053.here hx rfl (hb hby at_55) ?_
      show Sp p e below m T1053 56 #[.val (.long qc), .second, .val (.int ps), .val (.int (1 : Int32)), .val (.ref b1035), .unset, .unset, .unset, .unset] [(.int (3 : Int32)), (.ref b1035)] _
      refine XS.lloadN X1053.here hx rfl (hb hby at_56) rfl ?_
      refine XS.bipush X1053.here hx rfl (hb hby at_57) ?_
      show Sp p e below m T1053 59 #[.val (.long qc), .second, .val (.int ps), .val (.int (1 : Int32)), .val (.ref b1035), .unset, .unset, .unset, .unset] [(.int (24 : Int32)), (.long qc), (.int (3 : Int32)), (.ref b1035)] _
      refine XS.lushr X1053.here hx rfl (hb hby at_59) rfl ?_
      show Sp p e below m T1053 60 #[.val (.long qc), .second, .val (.int ps), .val (.int (1 : Int32)), .val (.ref b1035), .unset, .unset, .unset, .unset] [(.long ((qc.toUInt64 >>> ((24 : Int32) &&& 0x3f).toInt64.toUInt64).toInt64)), (.int (3 : Int32)), (.ref b1035)] _
      refine X1053.ldc2Long hx hown (mvT hZ (H 2 _ rfl)) (g := (mkF m 60 #[.val (.long qc), .second, .val (.int ps), .val (.int (1 : Int32)), .val (.ref b1035), .unset, .unset, .unset, .unset] [(.long ((qc.toUInt64 >>> ((24 : Int32) &&& 0x3f).toInt64.toUInt64).toInt64)), (.int (3 : Int32)), (.ref b1035)])) rfl (hb hby at_60) _ ?_
      show Sp p e below m T1053 63 #[.val (.long qc), .second, .val (.int ps), .val (.int (1 : Int32)), .val (.ref b1035), .unset, .unset, .unset, .unset] [(.long (255 : Int64)), (.long ((qc.toUInt64 >>> ((24 : Int32) &&& 0x3f).toInt64.toUInt64).toInt64)), (.int (3 : Int32)), (.ref b1035)] _
      refine XS.land X1053.here hx rfl (hb hby at_63) rfl ?_
      show Sp p e below m T1053 64 #[.val (.long qc), .second, .val (.int ps), .val (.int (1 : Int32)), .val (.ref b1035), .unset, .unset, .unset, .unset] [(.long (((qc.toUInt64 >>> ((24 : Int32) &&& 0x3f).toInt64.toUInt64).toInt64) &&& (255 : Int64))), (.int (3 : Int32)), (.ref b1035)] _
      refine XS.l2i X1053.here hx rfl (hb hby at_64) rfl ?_
      show Sp p e below m T1053 65 #[.val (.long qc), .second, .val (.int ps), .val (.int (1 : Int32)), .val (.ref b1035), .unset, .unset, .unset, .unset] [(.int ((((qc.toUInt64 >>> ((24 : Int32) &&& 0x3f).toInt64.toUInt64).toInt64) &&& (255 : Int64)).toInt32)), (.int (3 : Int32)), (.ref b1035)] _
      refine XS.i2c X1053.here hx rfl (hb hby at_65) rfl ?_
      exact k
    obtain ⟨x3, he1057⟩ : ∃ z : Int32, z = (((((qc.toUInt64 >>> ((24 : Int32) &&& 0x3f).toInt64.toUInt64).toInt64) &&& (255 : Int64)).toInt32).toUInt32.toUInt16.toUInt32.toInt32) := ⟨_, rfl⟩
    rw [← he1057] at pre1056
    have hb3 : 0 ≤ (nar .char x3).toInt ∧ (nar .char x3).toInt ≤ 255 := by rw [he1057]; exact own_cb _
    obtain ⟨cl1058, Ar1058, q1058, S1058, N1058, H1058, G1058⟩ := id V1053
    have hin1058 : ¬ ((3 : Int32) < 0 ∨ cl1058.slots.size ≤ ((3 : Int32)).toNatClampNeg) := inb_of S1058 ⟨by decide, by decide⟩
    obtain ⟨T1059, h1059, X1059, e1059, W1059, st1059⟩ := stC X1053 hx hZ e1053 Ar1058 (j := (3 : Int32)) hin1058 (g := (mkF m 66 #[.val (.long qc), .second, .val (.int ps), .val (.int (1 : Int32)), .val (.ref b1035), .unset, .unset, .unset, .unset] [(.int x3), (.int (3 : Int32)), (.ref b1035)])) rfl rfl (hb hby at_66)
    have V1059 : Arv Z h1059 b1035 k1035 .char (5 : Int32) [(.int (nar .char x0)), (.int (nar .char x1)), (.int (nar .char x2)), (.int (nar .char x3)), (.int (0 : Int32))] (.int (0 : Int32)) := Arv.set Ar1058 q1058 S1058 N1058 H1058 G1058 (fits_nar_char x3) W1059 3 rfl (Nat.le_of_ble_eq_true rfl)
    have N1059 := Fr.snoc X1059 N1053 g_b1035
    have Zs1059 : n0 ≤ h1059.size := Nat.le_trans Zs1053 (Keep.of_wr W1059).1
    have KK1059 : Keep h0 h1059 [] := KK1053.wr W1059 (Or.inr sz_b1035)
    have O1059 := O1053.wr W1059 g_b1035
    have f1060 := f1054.wr W1059
    have f1061 := f1055.wr W1059
    have pre1062 : ∀ t, Sp p e below m T1059 80 #[.val (.long qc), .second, .val (.int ps), .val (.int (1 : Int32)), .val (.ref b1035), .unset, .unset, .unset, .unset] [(.int (((((qc.toUInt64 >>> ((32 : Int32) &&& 0x3f).toInt64.toUInt64).toInt64) &&& (255 : Int64)).toInt32).toUInt32.toUInt16.toUInt32.toInt32)), (.int (4 : Int32)), (.ref b1035)] t → Steps p.tables e below G0 t := by
      intro t k
      refine pre1056 t ?_
      show Sp p e below m T1053 66 #[.val (.long qc), .second, .val (.int ps), .val (.int (1 : Int32)), .val (.ref b1035), .unset, .unset, .unset, .unset] [(.int x3), (.int (3 : Int32)), (.ref b1035)] _
      refine st1059 _ ?_
      show Sp p e below m T1059 67 #[.val (.long qc), .second, .val (.int ps), .val (.int (1 : Int32)), .val (.ref b1035), .unset, .unset, .unset, .unset] [] _
      refine XS.aload X1059.here hx rfl (hb hby at_67) rfl rfl ?_
      refine XS.iconst X1059.here hx rfl (hb hby at_69) ?_
      show Sp p e below m T1059 70 #[.val (.long qc), .second, .val (.int ps), .val (.int (1 : Int32)), .val (.ref b1035), .unset, .unset, .unset, .unset] [(.int (4 : Int32)), (.ref b1035)] _
      refine XS.lloadN X1059.here hx rfl (hb hby at_70) rfl ?_
      refine XS.bipush X1059.here hx rfl (hb hby at_71) ?_
      show Sp p e below m T1059 73 #[.val (.long qc), .second, .val (.int ps), .val (.int (1 : Int32)), .val (.ref b1035), .unset, .unset, .unset, .unset] [(.int (32 : Int32)), (.long qc), (.int (4 : Int32)), (.ref b1035)] _
      refine XS.lushr X1059.here hx rfl (hb hby at_73) rfl ?_
      show Sp p e below m T1059 74 #[.val (.long qc), .second, .val (.int ps), .val (.int (1 : Int32)), .val (.ref b1035), .unset, .unset, .unset, .unset] [(.long ((qc.toUInt64 >>> ((32 : Int32) &&& 0x3f).toInt64.toUInt64).toInt64)), (.int (4 : Int32)), (.ref b1035)] _
      refine X1059.ldc2Long hx hown (mvT hZ (H 2 _ rfl)) (g := (mkF m 74 #[.val (.long qc), .second, .val (.int ps), .val (.int (1 : Int32)), .val (.ref b1035), .unset, .unset, .unset, .unset] [(.long ((qc.toUInt64 >>> ((32 : Int32) &&& 0x3f).toInt64.toUInt64).toInt64)), (.int (4 : Int32)), (.ref b1035)])) rfl (hb hby at_74) _ ?_
      show Sp p e below m T1059 77 #[.val (.long qc), .second, .val (.int ps), .val (.int (1 : Int32)), .val (.ref b1035), .unset, .unset, .unset, .unset] [(.long (255 : Int64)), (.long ((qc.toUInt64 >>> ((32 : Int32) &&& 0x3f).toInt64.toUInt64).toInt64)), (.int (4 : Int32)), (.ref b1035)] _
      refine XS.land X1059.here hx rfl (hb hby at_77) rfl ?_
      show Sp p e below m T1059 78 #[.val (.long qc), .second, .val (.int ps), .val (.int (1 : Int32)), .val (.ref b1035), .unset, .unset, .unset, .unset] [(.long (((qc.toUInt64 >>> ((32 : Int32) &&& 0x3f).toInt64.toUInt64).toInt64) &&& (255 : Int64))), (.int (4 : Int32)), (.ref b1035)] _
      refine XS.l2i X1059.here hx rfl (hb hby at_78) rfl ?_
      show Sp p e below m T1059 79 #[.val (.long qc), .second, .val (.int ps), .val (.int (1 : Int32)), .val (.ref b1035), .unset, .unset, .unset, .unset] [(.int ((((qc.toUInt64 >>> ((32 : Int32) &&& 0x3f).toInt64.toUInt64).toInt64) &&& (255 : Int64)).toInt32)), (.int (4 : Int32)), (.ref b1035)] _
      refine XS.i2c X1059.here hx rfl (hb hby at_79) rfl ?_
      exact k
    obtain ⟨x4, he1063⟩ : ∃ z : Int32, z = (((((qc.toUInt64 >>> ((32 : Int32) &&& 0x3f).toInt64.toUInt64).toInt64) &&& (255 : Int64)).toInt32).toUInt32.toUInt16.toUInt32.toInt32) := ⟨_, rfl⟩
    rw [← he1063] at pre1062
    have hb4 : 0 ≤ (nar .char x4).toInt ∧ (nar .char x4).toInt ≤ 255 := by rw [he1063]; exact own_cb _
    obtain ⟨Tm1077, hm1077, lm1077, y0, Xm1077, em1077, Nm1077, Zm1077, Km1077, f1078, f1079, f1080, f1081, hv1083, pre1082⟩ : ∃ (Tm1077 : State) (hm1077 : Heap) (lm1077 : List Loc) (y0 : Int32), Stand p l e room_1 s m #[(.long qc), (.int ps)] below meth c Tm1077 lm1077 1 5 ∧ Tm1077.heap = hm1077 ∧ Fr n0 lm1077 ∧ n0 ≤ hm1077.size ∧ Keep h0 hm1077 [] ∧ Old Z n0 hm1077 ∧ Sta Z hm1077 "java/lang/String" "COMPACT_STRINGS" "Z" (.int cs) ∧ Sta Z hm1077 "jdk/internal/util/Preconditions" "SIOOBE_FORMATTER" "Ljava/util/function/BiFunction;" vf ∧ Arv Z hm1077 b1035 k1035 .char (5 : Int32) [(.int y0), (.int (nar .char x1)), (.int (nar .char x2)), (.int (nar .char x3)), (.int (nar .char x4))] (.int (0 : Int32)) ∧ (¬ y0 = 46 ∧ (0 ≤ y0.toInt ∧ y0.toInt ≤ 255)) ∧ ∀ t, Sp p e below m Tm1077 96 #[.val (.long qc), .second, .val (.int ps), .val (.int (1 : Int32)), .val (.ref b1035), .unset, .unset, .unset, .unset] [] t → Steps p.tables e below G0 t := by
      obtain ⟨cl1064, Ar1064, q1064, S1064, N1064, H1064, G1064⟩ := id V1059
      have hin1064 : ¬ ((4 : Int32) < 0 ∨ cl1064.slots.size ≤ ((4 : Int32)).toNatClampNeg) := inb_of S1064 ⟨by decide, by decide⟩
      obtain ⟨T1065, h1065, X1065, e1065, W1065, st1065⟩ := stC X1059 hx hZ e1059 Ar1064 (j := (4 : Int32)) hin1064 (g := (mkF m 80 #[.val (.long qc), .second, .val (.int ps), .val (.int (1 : Int32)), .val (.ref b1035), .unset, .unset, .unset, .unset] [(.int x4), (.int (4 : Int32)), (.ref b1035)])) rfl rfl (hb hby at_80)
      have V1065 : Arv Z h1065 b1035 k1035 .char (5 : Int32) [(.int (nar .char x0)), (.int (nar .char x1)), (.int (nar .char x2)), (.int (nar .char x3)), (.int (nar .char x4))] (.int (0 : Int32)) := Arv.set Ar1064 q1064 S1064 N1064 H1064 G1064 (fits_nar_char x4) W1065 4 rfl (Nat.le_of_ble_eq_true rfl)
      have N1065 := Fr.snoc X1065 N1059 g_b1035
      have Zs1065 : n0 ≤ h1065.size := Nat.le_trans Zs1059 (Keep.of_wr W1065).1
      have KK1065 : Keep h0 h1065 [] := KK1059.wr W1065 (Or.inr sz_b1035)
      have O1065 := O1059.wr W1065 g_b1035
      have f1066 := f1060.wr W1065
      have f1067 := f1061.wr W1065
      obtain ⟨cl1068, Ar1068, -, S1068, -, H1068, -⟩ := id V1065
      have hin1068 : ¬ ((0 : Int32) < 0 ∨ cl1068.slots.size ≤ ((0 : Int32)).toNatClampNeg) := inb_of S1068 ⟨by decide, by decide⟩
      have hat1068 : cl1068.slots[((0 : Int32)).toNatClampNeg]? = some (.int (nar .char x0)) := H1068.at hin1068 rfl
      have pre1069 : ∀ t, Sp p e below m T1065 87 #[.val (.long qc), .second, .val (.int ps), .val (.int (1 : Int32)), .val (.ref b1035), .unset, .unset, .unset, .unset] [(.int (46 : Int32)), (.int (nar .char x0))] t → Steps p.tables e below G0 t := by
        intro t k
        refine pre1062 t ?_
        show Sp p e below m T1059 80 #[.val (.long qc), .second, .val (.int ps), .val (.int (1 : Int32)), .val (.ref b1035), .unset, .unset, .unset, .unset] [(.int x4), (.int (4 : Int32)), (.ref b1035)] _
        refine st1065 _ ?_
        show Sp p e below m T1065 81 #[.val (.long qc), .second, .val (.int ps), .val (.int (1 : Int32)), .val (.ref b1035), .unset, .unset, .unset, .unset] [] _
        refine XS.aload X1065.here hx rfl (hb hby at_81) rfl rfl ?_
        refine XS.iconst X1065.here hx rfl (hb hby at_83) ?_
        show Sp p e below m T1065 84 #[.val (.long qc), .second, .val (.int ps), .val (.int (1 : Int32)), .val (.ref b1035), .unset, .unset, .unset, .unset] [(.int (0 : Int32)), (.ref b1035)] _
        refine X1065.caload hx (j := (0 : Int32)) (v := (.int (nar .char x0))) (by rw [e1065]; exact Ar1068.1) (State.isArrayOf_alike hZ.alike Ar1068.2.1) Ar1068.2.2 hin1068 hat1068 (g := (mkF m 84 #[.val (.long qc), .second, .val (.int ps), .val (.int (1 : Int32)), .val (.ref b1035), .unset, .unset, .unset, .unset] [(.int (0 : Int32)), (.ref b1035)])) rfl rfl (hb hby at_84) _ ?_
        show Sp p e below m T1065 85 #[.val (.long qc), .second, .val (.int ps), .val (.int (1 : Int32)), .val (.ref b1035), .unset, .unset, .unset, .unset] [(.int (nar .char x0))] _
        refine XS.bipush X1065.here hx rfl (hb hby at_85) ?_
        exact k
      by_cases hc87_1070 : (nar .char x0) = (46 : Int32)
      · obtain ⟨cl1071, Ar1071, q1071, S1071, N1071, H1071, G1071⟩ := id V1065
        have hin1071 : ¬ ((0 : Int32) < 0 ∨ cl1071.slots.size ≤ ((0 : Int32)).toNatClampNeg) := inb_of S1071 ⟨by decide, by decide⟩
        obtain ⟨T1072, h1072, X1072, e1072, W1072, st1072⟩ := stC X1065 hx hZ e1065 Ar1071 (j := (0 : Int32)) hin1071 (g := (mkF m 95 #[.val (.long qc), .second, .val (.int ps), .val (.int (1 : Int32)), .val (.ref b1035), .unset, .unset, .unset, .unset] [(.int (47 : Int32)), (.int (0 : Int32)), (.ref b1035)])) rfl rfl (hb hby at_95)
        have V1072 : Arv Z h1072 b1035 k1035 .char (5 : Int32) [(.int (47 : Int32)), (.int (nar .char x1)), (.int (nar .char x2)), (.int (nar .char x3)), (.int (nar .char x4))] (.int (0 : Int32)) := Arv.set Ar1071 q1071 S1071 N1071 H1071 G1071 (fits_nar_char (47 : Int32)) W1072 0 rfl (Nat.le_of_ble_eq_true rfl)
        have N1072 := Fr.snoc X1072 N1065 g_b1035
        have Zs1072 : n0 ≤ h1072.size := Nat.le_trans Zs1065 (Keep.of_wr W1072).1
        have KK1072 : Keep h0 h1072 [] := KK1065.wr W1072 (Or.inr sz_b1035)
        have O1072 := O1065.wr W1072 g_b1035
        have f1073 := f1066.wr W1072
        have f1074 := f1067.wr W1072
        have pre1075 : ∀ t, Sp p e below m T1072 96 #[.val (.long qc), .second, .val (.int ps), .val (.int (1 : Int32)), .val (.ref b1035), .unset, .unset, .unset, .unset] [] t → Steps p.tables e below G0 t := by
          intro t k
          refine pre1069 t ?_
          show Sp p e below m T1065 87 #[.val (.long qc), .second, .val (.int ps), .val (.int (1 : Int32)), .val (.ref b1035), .unset, .unset, .unset, .unset] [(.int (46 : Int32)), (.int (nar .char x0))] _
          refine XS.icmpNo X1065.here hx rfl (hb hby at_87) rfl (teq hc87_1070).2 ?_
          show Sp p e below m T1065 90 #[.val (.long qc), .second, .val (.int ps), .val (.int (1 : Int32)), .val (.ref b1035), .unset, .unset, .unset, .unset] [] _
          refine XS.aload X1065.here hx rfl (hb hby at_90) rfl rfl ?_
          refine XS.iconst X1065.here hx rfl (hb hby at_92) ?_
          show Sp p e below m T1065 93 #[.val (.long qc), .second, .val (.int ps), .val (.int (1 : Int32)), .val (.ref b1035), .unset, .unset, .unset, .unset] [(.int (0 : Int32)), (.ref b1035)] _
          refine XS.bipush X1065.here hx rfl (hb hby at_93) ?_
          refine st1072 _ ?_
          exact k
        exact ⟨T1072, h1072, _, (47 : Int32), X1072, e1072, N1072, Zs1072, KK1072, O1072, f1073, f1074, V1072, (by exact ⟨by decide, by decide⟩), pre1075⟩
      · have pre1076 : ∀ t, Sp p e below m T1065 96 #[.val (.long qc), .second, .val (.int ps), .val (.int (1 : Int32)), .val (.ref b1035), .unset, .unset, .unset, .unset] [] t → Steps p.tables e below G0 t := by
          intro t k
          refine pre1069 t ?_
          show Sp p e below m T1065 87 #[.val (.long qc), .second, .val (.int ps), .val (.int (1 : Int32)), .val (.ref b1035), .unset, .unset, .unset, .unset] [(.int (46 : Int32)), (.int (nar .char x0))] _
          refine XS.icmpYes X1065.here hx rfl (pc0 := 87) (pc' := 96) rfl (hb hby at_87) rfl (feq hc87_1070).2 (by decide) (by decide) ?_
          exact k
        exact ⟨T1065, h1065, _, (nar .char x0), X1065, e1065, N1065, Zs1065, KK1065, O1065, f1066, f1067, V1065, (by exact ⟨hc87_1070, hb0⟩), pre1076⟩
    obtain ⟨cl1084, Ar1084, q1084, S1084, N1084, H1084, G1084⟩ := id f1081
    have hin1084 : ¬ ((1 : Int32) < 0 ∨ cl1084.slots.size ≤ ((1 : Int32)).toNatClampNeg) := inb_of S1084 ⟨by decide, by decide⟩
    obtain ⟨T1085, h1085, X1085, e1085, W1085, st1085⟩ := stC Xm1077 hx hZ em1077 Ar1084 (j := (1 : Int32)) hin1084 (g := (mkF m 141 #[.val (.long qc), .second, .val (.int ps), .val (.int (1 : Int32)), .val (.ref b1035), .unset, .unset, .unset, .unset] [(.int (46 : Int32)), (.int (1 : Int32)), (.ref b1035)])) rfl rfl (hb hby at_141)
    have V1085 : Arv Z h1085 b1035 k1035 .char (5 : Int32) [(.int y0), (.int (46 : Int32)), (.int (nar .char x2)), (.int (nar .char x3)), (.int (nar .char x4))] (.int (0 : Int32)) := Arv.set Ar1084 q1084 S1084 N1084 H1084 G1084 (fits_nar_char (46 : Int32)) W1085 1 rfl (Nat.le_of_ble_eq_true rfl)
    have N1085 := Fr.snoc X1085 Nm1077 g_b1035
    have Zs1085 : n0 ≤ h1085.size := Nat.le_trans Zm1077 (Keep.of_wr W1085).1
    have KK1085 : Keep h0 h1085 [] := Km1077.wr W1085 (Or.inr sz_b1035)
    have O1085 := f1078.wr W1085 g_b1035
    have f1086 := f1079.wr W1085
    have f1087 := f1080.wr W1085
    obtain ⟨T1088, h1088, X1088, e1088, E1088, A1088, D1088, -, st1088⟩ := newO X1085 hx hZ hown (H 3 _ rfl) (H 4 _ rfl) (H 5 _ rfl) e1085 (g := (mkF m 142 #[.val (.long qc), .second, .val (.int ps), .val (.int (1 : Int32)), .val (.ref b1035), .unset, .unset, .unset, .unset] [])) rfl (hb hby at_142) (by decide) (by decide)
    obtain ⟨b1088, g1088⟩ : ∃ z, z = h1085.size := ⟨_, rfl⟩
    rw [← g1088] at A1088 D1088 st1088
    have g_b1088 : n0 ≤ b1088 := Nat.le_trans Zs1085 (Nat.le_of_eq g1088.symm)
    have sz_b1088 : h0.size ≤ b1088 := Nat.le_trans KK1085.1 (Nat.le_of_eq g1088.symm)
    have lt_b1035_b1088 : b1035 < b1088 := Nat.lt_of_lt_of_le V1085.lt (Nat.le_of_eq g1088.symm)
    have ne_b1035_b1088 : b1035 ≠ b1088 := Nat.ne_of_lt lt_b1035_b1088
    have Zs1088 : n0 ≤ h1088.size := Nat.le_trans Zs1085 E1088.1
    have KK1088 : Keep h0 h1088 [] := KK1085.ext E1088
    have O1088 := O1085.ext E1088
    have f1089 := f1086.ext E1088
    have f1090 := f1087.ext E1088
    have f1091 := V1085.ext E1088
    have f1092 : Fld Z h1088 b1088 "java/lang/String" "coder" "B" (.int (0 : Int32)) := D1088 (Or.inr (H 29 _ rfl)) (ty := .byte) (by decide)
    have f1093 : Fld Z h1088 b1088 "java/lang/String" "value" "[B" .null := D1088 (Or.inr (H 31 _ rfl)) (ty := (.array .byte)) (by decide)
    obtain ⟨_, _, ⟨T1094, L1094, k1094, n1094⟩, -, X1094, ⟨Lc1094, hQ1094, l1094, y1094, z1094⟩, st1094⟩ := X1088.specialBack hx (y := (⟨"java/lang/String", "<init>", "([C)V"⟩ : MethodName)) rfl hown (mvT hZ (H 6 _ rfl)) (mvT hZ (H 7 _ rfl)) (mvT hZ (H 8 _ rfl)) (by decide) (backOf (W := 1) (rm1n5 l Z a0 hw [] b1088 b1035 cs vf k1035 y0 (46 : Int32) (nar .char x2) (nar .char x3) (nar .char x4) h1088 n0 Zs1088 O1088 Scs hcs Ssf hvf A1088 f1093 f1092 g_b1088 f1091 (Ne.symm ne_b1035_b1088) hv1083.2 (by decide) hb2 hb3 hb4) hZ (H 8 _ rfl) (H 5 _ rfl) (by decide) (by decide)) (g := (mkF m 148 #[.val (.long qc), .second, .val (.int ps), .val (.int (1 : Int32)), .val (.ref b1035), .unset, .unset, .unset, .unset] [(.ref b1035), (.ref b1088), (.ref b1088)])) rfl (by rw [hml]; rfl) (Steps.refl _) (a := b1088) (argsL := [(.ref b1035)]) (rest := [(.ref b1088)]) (lenOf own_pd405 rfl) rfl (Nat.le_of_eq rfl) (hb hby at_148) (fun _ _ => ⟨rfl, e1088, (by decide : 2 + 1 ≤ _), (by decide : 9 + 5 ≤ _)⟩)
    dsimp only [Pt.U, Pt.locs, Pt.cells, Pt.slots] at X1094 l1094 y1094 z1094 st1094 hQ1094
    rw [l1094, y1094, z1094] at X1094
    clear l1094 y1094 z1094
    obtain ⟨rrb_1094, rrk_1094, rfl, Nq1094, K1094, p1094_0, p1094_1, p1094_2, p1094_3, p1094_4, p1094_5⟩ := hQ1094
    have N1094 := Fr.app N1085 Nq1094
    have Zs1094 : n0 ≤ T1094.heap.size := Nat.le_trans Zs1088 K1094.1
    have KK1094 : Keep h0 T1094.heap [] := KK1088.trans K1094 (allS (Or.inr sz_b1088) all0)
    have ne_b1035_rrb_1094 : b1035 ≠ rrb_1094 := Nat.ne_of_lt (Nat.lt_of_lt_of_le f1091.lt p1094_5)
    have ne_b1088_rrb_1094 : b1088 ≠ rrb_1094 := Nat.ne_of_lt (Nat.lt_of_lt_of_le A1088.lt p1094_5)
    have sz_rrb_1094 : h0.size ≤ rrb_1094 := Nat.le_trans KK1088.1 p1094_5
    have O1094 := O1088.keep K1094 (allS g_b1088 all0)
    have f1095 := Scs.ext O1094.2
    have f1096 := Ssf.ext O1094.2
    have f1097 := f1091.keep K1094 (ninS ne_b1035_b1088 nin0)
    have f1098 := A1088.keep K1094
    have g_rrb_1094 := p1094_4
    obtain ⟨_, _, ⟨T1099, L1099, k1099, n1099⟩, -, X1099, ⟨Lc1099, hQ1099, l1099, y1099, z1099⟩, st1099⟩ := Jvm.LawKit.callS X1094 hx (y := (⟨"com/example/tideline/tideline/model/TableName", "parse", "(Ljava/lang/String;)Lcom/example/tideline/tideline/model/TableName;"⟩ : MethodName)) hown (mvT hZ (H 32 _ rfl)) (mvT hZ (H 33 _ rfl)) (mvT hZ (H 34 _ rfl)) (mvT hZ (H 35 _ rfl)) (by decide) (backOf (W := 0) (rm7d1 l Z a0 hw [] b1088 cs vf rrb_1094 rrk_1094 (nar .byte (y0.toInt8.toInt32)) (nar .byte ((46 : Int32).toInt8.toInt32)) (nar .byte ((nar .char x2).toInt8.toInt32)) (nar .byte ((nar .char x3).toInt8.toInt32)) (nar .byte ((nar .char x4).toInt8.toInt32)) T1094.heap n0 Zs1094 O1094 Scs hcs Ssf hvf p1094_0 p1094_1 p1094_2 p1094_3 (by unfold own_find5; rw [if_neg (own_ne46 (hv1083.2) (hv1083.1)), if_pos (by decide)])) hZ (H 35 _ rfl) (H 34 _ rfl) (by decide) (by decide)) (g := (mkF m 151 #[.val (.long qc), .second, .val (.int ps), .val (.int (1 : Int32)), .val (.ref b1035), .unset, .unset, .unset, .unset] [(.ref b1088)])) rfl (by rw [hml]; rfl) (argsL := [(.ref b1088)]) (rest := []) (lenOf own_pd406 rfl) rfl (Nat.le_of_eq rfl) (hb hby at_151) (fun _ _ => ⟨rfl, rfl, (by decide : 3 + 5 ≤ _), (by decide : 14 + 14 ≤ _)⟩)
    dsimp only [Pt.U, Pt.locs, Pt.cells, Pt.slots] at X1099 l1099 y1099 z1099 st1099 hQ1099
    rw [l1099, y1099, z1099] at X1099
    clear l1099 y1099 z1099
    obtain ⟨rtn_1099, rs1_1099, rb1_1099, rk1_1099, rs2_1099, rb2_1099, rk2_1099, rfl, Nq1099, K1099, p1099_0, p1099_1, p1099_2, p1099_3, p1099_4, p1099_5, p1099_6, p1099_7, p1099_8, p1099_9, p1099_10⟩ := hQ1099
    have N1099 := Fr.app N1094 Nq1099
    have Zs1099 : n0 ≤ T1099.heap.size := Nat.le_trans Zs1094 K1099.1
    have KK1099 : Keep h0 T1099.heap [] := KK1094.trans K1099 all0
    have O1099 := O1094.keep K1099 (all0)
    have f1100 := Scs.ext O1099.2
    have f1101 := Ssf.ext O1099.2
    have f1102 := f1097.keep K1099 nin0
    have f1103 := p1094_0.keep K1099
    have f1104 := p1094_1.keep K1099 nin0
    have f1105 := p1094_2.keep K1099 nin0
    have f1106 := p1094_3.keep K1099 nin0
    obtain ⟨cq1107, kq1107, q1107a, q1107b, q1107c⟩ := isOf hZ rfl p1099_0
    obtain ⟨_, _, ⟨T1107, L1107, k1107, n1107⟩, -, X1107, ⟨Lc1107, hQ1107, l1107, y1107, z1107⟩, st1107⟩ := X1099.virtualBack hx (y := (⟨"com/example/tideline/tideline/model/TableName", "schema", "()Ljava/lang/String;"⟩ : MethodName)) (z := (⟨"com/example/tideline/tideline/model/TableName", "schema", "()Ljava/lang/String;"⟩ : MethodName)) hown (mvT hZ (H 135 _ rfl)) (mvT hZ (H 136 _ rfl)) (notFace_of_selects (args := #[]) (mvT hZ (H 138 _ rfl))) (mvT hZ (H 138 _ rfl)) (mvT hZ (H 137 _ rfl)) (by decide) (backOf (W := 0) (rm29 l Z a0 hw [] rtn_1099 rs1_1099 T1099.heap n0 Zs1099 p1099_1) hZ (H 139 _ rfl) (H 34 _ rfl) (by decide) (by decide)) q1107a q1107c (g := (mkF m 158 #[.val (.long qc), .second, .val (.int ps), .val (.int (1 : Int32)), .val (.ref b1035), .val (.ref rtn_1099), .unset, .unset, .unset] [(.ref rtn_1099)])) rfl (by rw [hml]; rfl) (Steps.refl _) (argsL := []) (rest := []) (lenOf own_pd407 rfl) rfl (Nat.le_of_eq rfl) (hb hby at_158) (fun _ _ => ⟨rfl, rfl, (by decide : 8 + 0 ≤ _), (by decide : 28 + 0 ≤ _)⟩)
    dsimp only [Pt.U, Pt.locs, Pt.cells, Pt.slots] at X1107 l1107 y1107 z1107 st1107 hQ1107
    rw [l1107, y1107, z1107] at X1107
    clear l1107 y1107 z1107
    obtain ⟨rfl, Nq1107, e1107⟩ := hQ1107
    have N1107 := Fr.app N1099 Nq1107
    obtain ⟨cq1108, kq1108, q1108a, q1108b, q1108c⟩ := isOf hZ e1107 p1099_0
    obtain ⟨_, _, ⟨T1108, L1108, k1108, n1108⟩, -, X1108, ⟨Lc1108, hQ1108, l1108, y1108, z1108⟩, st1108⟩ := X1107.virtualBack hx (y := (⟨"com/example/tideline/tideline/model/TableName", "table", "()Ljava/lang/String;"⟩ : MethodName)) (z := (⟨"com/example/tideline/tideline/model/TableName", "table", "()Ljava/lang/String;"⟩ : MethodName)) hown (mvT hZ (H 140 _ rfl)) (mvT hZ (H 141 _ rfl)) (notFace_of_selects (args := #[]) (mvT hZ (H 143 _ rfl))) (mvT hZ (H 143 _ rfl)) (mvT hZ (H 142 _ rfl)) (by decide) (backOf (W := 0) (rm30 l Z a0 hw [] rtn_1099 rs2_1099 T1099.heap n0 Zs1099 p1099_2) hZ (H 144 _ rfl) (H 34 _ rfl) (by decide) (by decide)) q1108a q1108c (g := (mkF m 165 #[.val (.long qc), .second, .val (.int ps), .val (.int (1 : Int32)), .val (.ref b1035), .val (.ref rtn_1099), .val (.ref rs1_1099), .unset, .unset] [(.ref rtn_1099)])) rfl (by rw [hml]; rfl) (Steps.refl _) (argsL := []) (rest := []) (lenOf own_pd407 rfl) rfl (Nat.le_of_eq rfl) (hb hby at_165) (fun _ _ => ⟨rfl, e1107, (by decide : 8 + 0 ≤ _), (by decide : 28 + 0 ≤ _)⟩)
    dsimp only [Pt.U, Pt.locs, Pt.cells, Pt.slots] at X1108 l1108 y1108 z1108 st1108 hQ1108
    rw [l1108, y1108, z1108] at X1108
    clear l1108 y1108 z1108
    obtain ⟨rfl, Nq1108, e1108⟩ := hQ1108
    have N1108 := Fr.app N1107 Nq1108
    obtain ⟨cq1109, kq1109, q1109a, q1109b, q1109c⟩ := isOf hZ e1108 p1099_3
    obtain ⟨_, _, ⟨T1109, L1109, k1109, n1109⟩, -, X1109, ⟨Lc1109, hQ1109, l1109, y1109, z1109⟩, st1109⟩ := X1108.virtualBack hx (y := (⟨"java/lang/String", "length", "()I"⟩ : MethodName)) (z := (⟨"java/lang/String", "length", "()I"⟩ : MethodName)) hown (mvT hZ (H 145 _ rfl)) (mvT hZ (H 52 _ rfl)) (notFace_of_selects (args := #[]) (mvT hZ (H 54 _ rfl))) (mvT hZ (H 54 _ rfl)) (mvT hZ (H 53 _ rfl)) (by decide) (backOf (W := 0) (rm11 l Z a0 hw [] rs1_1099 cs vf rb1_1099 rk1_1099 (1 : Int32) [(.int (nar .byte (y0.toInt8.toInt32)))] T1099.heap n0 Zs1099 O1099 Scs hcs Ssf hvf p1099_3 p1099_4 p1099_5 p1099_6) hZ (H 55 _ rfl) (H 5 _ rfl) (by decide) (by decide)) q1109a q1109c (g := (mkF m 177 #[.val (.long qc), .second, .val (.int ps), .val (.int (1 : Int32)), .val (.ref b1035), .val (.ref rtn_1099), .val (.ref rs1_1099), .val (.ref rs2_1099), .val (.int (3 : Int32))] [(.ref rs1_1099)])) rfl (by rw [hml]; rfl) (Steps.refl _) (argsL := []) (rest := []) (lenOf own_pd214 rfl) rfl (Nat.le_of_eq rfl) (hb hby at_177) (fun _ _ => ⟨rfl, e1108, (by decide : 8 + 0 ≤ _), (by decide : 28 + 0 ≤ _)⟩)
    dsimp only [Pt.U, Pt.locs, Pt.cells, Pt.slots] at X1109 l1109 y1109 z1109 st1109 hQ1109
    rw [l1109, y1109, z1109] at X1109
    clear l1109 y1109 z1109
    obtain ⟨rfl, Nq1109, e1109⟩ := hQ1109
    have N1109 := Fr.app N1108 Nq1109
    obtain ⟨cq1110, kq1110, q1110a, q1110b, q1110c⟩ := isOf hZ e1109 p1099_7
    obtain ⟨_, _, ⟨T1110, L1110, k1110, n1110⟩, -, X1110, ⟨Lc1110, hQ1110, l1110, y1110, z1110⟩, st1110⟩ := X1109.virtualBack hx (y := (⟨"java/lang/String", "length", "()I"⟩ : MethodName)) (z := (⟨"java/lang/String", "length", "()I"⟩ : MethodName)) hown (mvT hZ (H 145 _ rfl)) (mvT hZ (H 52 _ rfl)) (notFace_of_selects (args := #[]) (mvT hZ (H 54 _ rfl))) (mvT hZ (H 54 _ rfl)) (mvT hZ (H 53 _ rfl)) (by decide) (backOf (W := 0) (rm11 l Z a0 hw [] rs2_1099 cs vf rb2_1099 rk2_1099 (3 : Int32) [(.int (nar .byte ((nar .char x2).toInt8.toInt32))), (.int (nar .byte ((nar .char x3).toInt8.toInt32))), (.int (nar .byte ((nar .char x4).toInt8.toInt32)))] T1099.heap n0 Zs1099 O1099 Scs hcs Ssf hvf p1099_7 p1099_8 p1099_9 p1099_10) hZ (H 55 _ rfl) (H 5 _ rfl) (by decide) (by decide)) q1110a q1110c (g := (mkF m 186 #[.val (.long qc), .second, .val (.int ps), .val (.int (1 : Int32)), .val (.ref b1035), .val (.ref rtn_1099), .val (.ref rs1_1099), .val (.ref rs2_1099), .val (.int (3 : Int32))] [(.ref rs2_1099)])) rfl (by rw [hml]; rfl) (Steps.refl _) (argsL := []) (rest := []) (lenOf own_pd214 rfl) rfl (Nat.le_of_eq rfl) (hb hby at_186) (fun _ _ => ⟨rfl, e1109, (by decide : 8 + 0 ≤ _), (by decide : 28 + 0 ≤ _)⟩)
    dsimp only [Pt.U, Pt.locs, Pt.cells, Pt.slots] at X1110 l1110 y1110 z1110 st1110 hQ1110
    rw [l1110, y1110, z1110] at X1110
    clear l1110 y1110 z1110
    obtain ⟨rfl, Nq1110, e1110⟩ := hQ1110
    have N1110 := Fr.app N1109 Nq1110
    obtain ⟨_, _, ⟨T1111, L1111, k1111, n1111⟩, -, X1111, ⟨Lc1111, hQ1111, l1111, y1111, z1111⟩, st1111⟩ := Jvm.LawKit.callS X1110 hx (y := (⟨"com/example/tideline/tideline/model/TableNameParsePinLaw", "at", "(Ljava/lang/String;II[CI)Z"⟩ : MethodName)) hown (mvT hZ (H 146 _ rfl)) (mvT hZ (H 147 _ rfl)) (mvT hZ (H 148 _ rfl)) (mvT hZ (H 149 _ rfl)) (by decide) (backOf (W := 0) (rm31l l Z a0 hw [] rs1_1099 (0 : Int32) (1 : Int32) b1035 (0 : Int32) cs vf rb1_1099 rk1_1099 (1 : Int32) [(.int (nar .byte (y0.toInt8.toInt32)))] (nar .byte (y0.toInt8.toInt32)) k1035 (5 : Int32) [(.int y0), (.int (46 : Int32)), (.int (nar .char x2)), (.int (nar .char x3)), (.int (nar .char x4))] y0 T1099.heap n0 Zs1099 O1099 Scs hcs Ssf hvf p1099_3 p1099_4 p1099_5 p1099_6 (by decide) (by decide) (by decide) rfl f1102 (by decide) rfl (own_rt _ (hv1083.2))) hZ (H 149 _ rfl) (H 148 _ rfl) (by decide) (by decide)) (g := (mkF m 203 #[.val (.long qc), .second, .val (.int ps), .val (.int (1 : Int32)), .val (.ref b1035), .val (.ref rtn_1099), .val (.ref rs1_1099), .val (.ref rs2_1099), .val (.int (3 : Int32))] [(.int (0 : Int32)), (.ref b1035), (.int (1 : Int32)), (.int (0 : Int32)), (.ref rs1_1099)])) rfl (by rw [hml]; rfl) (argsL := [(.ref rs1_1099), (.int (0 : Int32)), (.int (1 : Int32)), (.ref b1035), (.int (0 : Int32))]) (rest := []) (lenOf own_pd408 rfl) rfl (Nat.le_of_eq rfl) (hb hby at_203) (fun _ _ => ⟨rfl, e1110, (by decide : 8 + 0 ≤ _), (by decide : 28 + 0 ≤ _)⟩)
    dsimp only [Pt.U, Pt.locs, Pt.cells, Pt.slots] at X1111 l1111 y1111 z1111 st1111 hQ1111
    rw [l1111, y1111, z1111] at X1111
    clear l1111 y1111 z1111
    obtain ⟨rfl, Nq1111, e1111⟩ := hQ1111
    have N1111 := Fr.app N1110 Nq1111
    obtain ⟨_, _, ⟨T1112, L1112, k1112, n1112⟩, -, X1112, ⟨Lc1112, hQ1112, l1112, y1112, z1112⟩, st1112⟩ := Jvm.LawKit.callS X1111 hx (y := (⟨"com/example/tideline/tideline/model/TableNameParsePinLaw", "at", "(Ljava/lang/String;II[CI)Z"⟩ : MethodName)) hown (mvT hZ (H 146 _ rfl)) (mvT hZ (H 147 _ rfl)) (mvT hZ (H 148 _ rfl)) (mvT hZ (H 149 _ rfl)) (by decide) (backOf (W := 0) (rm31g l Z a0 hw [] rs1_1099 (1 : Int32) (1 : Int32) b1035 (0 : Int32)  T1099.heap n0 Zs1099 (by decide)) hZ (H 149 _ rfl) (H 148 _ rfl) (by decide) (by decide)) (g := (mkF m 216 #[.val (.long qc), .second, .val (.int ps), .val (.int (1 : Int32)), .val (.ref b1035), .val (.ref rtn_1099), .val (.ref rs1_1099), .val (.ref rs2_1099), .val (.int (3 : Int32))] [(.int (0 : Int32)), (.ref b1035), (.int (1 : Int32)), (.int (1 : Int32)), (.ref rs1_1099)])) rfl (by rw [hml]; rfl) (argsL := [(.ref rs1_1099), (.int (1 : Int32)), (.int (1 : Int32)), (.ref b1035), (.int (0 : Int32))]) (rest := []) (lenOf own_pd408 rfl) rfl (Nat.le_of_eq rfl) (hb hby at_216) (fun _ _ => ⟨rfl, e1111, (by decide : 8 + 0 ≤ _), (by decide : 28 + 0 ≤ _)⟩)
    dsimp only [Pt.U, Pt.locs, Pt.cells, Pt.slots] at X1112 l1112 y1112 z1112 st1112 hQ1112
    rw [l1112, y1112, z1112] at X1112
    clear l1112 y1112 z1112
    obtain ⟨rfl, Nq1112, e1112⟩ := hQ1112
    have N1112 := Fr.app N1111 Nq1112
    obtain ⟨_, _, ⟨T1113, L1113, k1113, n1113⟩, -, X1113, ⟨Lc1113, hQ1113, l1113, y1113, z1113⟩, st1113⟩ := Jvm.LawKit.callS X1112 hx (y := (⟨"com/example/tideline/tideline/model/TableNameParsePinLaw", "at", "(Ljava/lang/String;II[CI)Z"⟩ : MethodName)) hown (mvT hZ (H 146 _ rfl)) (mvT hZ (H 147 _ rfl)) (mvT hZ (H 148 _ rfl)) (mvT hZ (H 149 _ rfl)) (by decide) (backOf (W := 0) (rm31g l Z a0 hw [] rs1_1099 (2 : Int32) (1 : Int32) b1035 (0 : Int32)  T1099.heap n0 Zs1099 (by decide)) hZ (H 149 _ rfl) (H 148 _ rfl) (by decide) (by decide)) (g := (mkF m 229 #[.val (.long qc), .second, .val (.int ps), .val (.int (1 : Int32)), .val (.ref b1035), .val (.ref rtn_1099), .val (.ref rs1_1099), .val (.ref rs2_1099), .val (.int (3 : Int32))] [(.int (0 : Int32)), (.ref b1035), (.int (1 : Int32)), (.int (2 : Int32)), (.ref rs1_1099)])) rfl (by rw [hml]; rfl) (argsL := [(.ref rs1_1099), (.int (2 : Int32)), (.int (1 : Int32)), (.ref b1035), (.int (0 : Int32))]) (rest := []) (lenOf own_pd408 rfl) rfl (Nat.le_of_eq rfl) (hb hby at_229) (fun _ _ => ⟨rfl, e1112, (by decide : 8 + 0 ≤ _), (by decide : 28 + 0 ≤ _)⟩)
    dsimp only [Pt.U, Pt.locs, Pt.cells, Pt.slots] at X1113 l1113 y1113 z1113 st1113 hQ1113
    rw [l1113, y1113, z1113] at X1113
    clear l1113 y1113 z1113
    obtain ⟨rfl, Nq1113, e1113⟩ := hQ1113
    have N1113 := Fr.app N1112 Nq1113
    obtain ⟨_, _, ⟨T1114, L1114, k1114, n1114⟩, -, X1114, ⟨Lc1114, hQ1114, l1114, y1114, z1114⟩, st1114⟩ := Jvm.LawKit.callS X1113 hx (y := (⟨"com/example/tideline/tideline/model/TableNameParsePinLaw", "at", "(Ljava/lang/String;II[CI)Z"⟩ : MethodName)) hown (mvT hZ (H 146 _ rfl)) (mvT hZ (H 147 _ rfl)) (mvT hZ (H 148 _ rfl)) (mvT hZ (H 149 _ rfl)) (by decide) (backOf (W := 0) (rm31l l Z a0 hw [] rs2_1099 (0 : Int32) (3 : Int32) b1035 (2 : Int32) cs vf rb2_1099 rk2_1099 (3 : Int32) [(.int (nar .byte ((nar .char x2).toInt8.toInt32))), (.int (nar .byte ((nar .char x3).toInt8.toInt32))), (.int (nar .byte ((nar .char x4).toInt8.toInt32)))] (nar .byte ((nar .char x2).toInt8.toInt32)) k1035 (5 : Int32) [(.int y0), (.int (46 : Int32)), (.int (nar .char x2)), (.int (nar .char x3)), (.int (nar .char x4))] (nar .char x2) T1099.heap n0 Zs1099 O1099 Scs hcs Ssf hvf p1099_7 p1099_8 p1099_9 p1099_10 (by decide) (by decide) (by decide) rfl f1102 (by decide) rfl (own_rt _ (hb2))) hZ (H 149 _ rfl) (H 148 _ rfl) (by decide) (by decide)) (g := (mkF m 245 #[.val (.long qc), .second, .val (.int ps), .val (.int (1 : Int32)), .val (.ref b1035), .val (.ref rtn_1099), .val (.ref rs1_1099), .val (.ref rs2_1099), .val (.int (3 : Int32))] [(.int (2 : Int32)), (.ref b1035), (.int (3 : Int32)), (.int (0 : Int32)), (.ref rs2_1099)])) rfl (by rw [hml]; rfl) (argsL := [(.ref rs2_1099), (.int (0 : Int32)), (.int (3 : Int32)), (.ref b1035), (.int (2 : Int32))]) (rest := []) (lenOf own_pd408 rfl) rfl (Nat.le_of_eq rfl) (hb hby at_245) (fun _ _ => ⟨rfl, e1113, (by decide : 8 + 0 ≤ _), (by decide : 28 + 0 ≤ _)⟩)
    dsimp only [Pt.U, Pt.locs, Pt.cells, Pt.slots] at X1114 l1114 y1114 z1114 st1114 hQ1114
    rw [l1114, y1114, z1114] at X1114
    clear l1114 y1114 z1114
    obtain ⟨rfl, Nq1114, e1114⟩ := hQ1114
    have N1114 := Fr.app N1113 Nq1114
    obtain ⟨_, _, ⟨T1115, L1115, k1115, n1115⟩, -, X1115, ⟨Lc1115, hQ1115, l1115, y1115, z1115⟩, st1115⟩ := Jvm.LawKit.callS X1114 hx (y := (⟨"com/example/tideline/tideline/model/TableNameParsePinLaw", "at", "(Ljava/lang/String;II[CI)Z"⟩ : MethodName)) hown (mvT hZ (H 146 _ rfl)) (mvT hZ (H 147 _ rfl)) (mvT hZ (H 148 _ rfl)) (mvT hZ (H 149 _ rfl)) (by decide) (backOf (W := 0) (rm31l l Z a0 hw [] rs2_1099 (1 : Int32) (3 : Int32) b1035 (2 : Int32) cs vf rb2_1099 rk2_1099 (3 : Int32) [(.int (nar .byte ((nar .char x2).toInt8.toInt32))), (.int (nar .byte ((nar .char x3).toInt8.toInt32))), (.int (nar .byte ((nar .char x4).toInt8.toInt32)))] (nar .byte ((nar .char x3).toInt8.toInt32)) k1035 (5 : Int32) [(.int y0), (.int (46 : Int32)), (.int (nar .char x2)), (.int (nar .char x3)), (.int (nar .char x4))] (nar .char x3) T1099.heap n0 Zs1099 O1099 Scs hcs Ssf hvf p1099_7 p1099_8 p1099_9 p1099_10 (by decide) (by decide) (by decide) rfl f1102 (by decide) rfl (own_rt _ (hb3))) hZ (H 149 _ rfl) (H 148 _ rfl) (by decide) (by decide)) (g := (mkF m 261 #[.val (.long qc), .second, .val (.int ps), .val (.int (1 : Int32)), .val (.ref b1035), .val (.ref rtn_1099), .val (.ref rs1_1099), .val (.ref rs2_1099), .val (.int (3 : Int32))] [(.int (2 : Int32)), (.ref b1035), (.int (3 : Int32)), (.int (1 : Int32)), (.ref rs2_1099)])) rfl (by rw [hml]; rfl) (argsL := [(.ref rs2_1099), (.int (1 : Int32)), (.int (3 : Int32)), (.ref b1035), (.int (2 : Int32))]) (rest := []) (lenOf own_pd408 rfl) rfl (Nat.le_of_eq rfl) (hb hby at_261) (fun _ _ => ⟨rfl, e1114, (by decide : 8 + 0 ≤ _), (by decide : 28 + 0 ≤ _)⟩)
    dsimp only [Pt.U, Pt.locs, Pt.cells, Pt.slots] at X1115 l1115 y1115 z1115 st1115 hQ1115
    rw [l1115, y1115, z1115] at X1115
    clear l1115 y1115 z1115
    obtain ⟨rfl, Nq1115, e1115⟩ := hQ1115
    have N1115 := Fr.app N1114 Nq1115
    obtain ⟨_, _, ⟨T1116, L1116, k1116, n1116⟩, -, X1116, ⟨Lc1116, hQ1116, l1116, y1116, z1116⟩, st1116⟩ := Jvm.LawKit.callS X1115 hx (y := (⟨"com/example/tideline/tideline/model/TableNameParsePinLaw", "at", "(Ljava/lang/String;II[CI)Z"⟩ : MethodName)) hown (mvT hZ (H 146 _ rfl)) (mvT hZ (H 147 _ rfl)) (mvT hZ (H 148 _ rfl)) (mvT hZ (H 149 _ rfl)) (by decide) (backOf (W := 0) (rm31l l Z a0 hw [] rs2_1099 (2 : Int32) (3 : Int32) b1035 (2 : Int32) cs vf rb2_1099 rk2_1099 (3 : Int32) [(.int (nar .byte ((nar .char x2).toInt8.toInt32))), (.int (nar .byte ((nar .char x3).toInt8.toInt32))), (.int (nar .byte ((nar .char x4).toInt8.toInt32)))] (nar .byte ((nar .char x4).toInt8.toInt32)) k1035 (5 : Int32) [(.int y0), (.int (46 : Int32)), (.int (nar .char x2)), (.int (nar .char x3)), (.int (nar .char x4))] (nar .char x4) T1099.heap n0 Zs1099 O1099 Scs hcs Ssf hvf p1099_7 p1099_8 p1099_9 p1099_10 (by decide) (by decide) (by decide) rfl f1102 (by decide) rfl (own_rt _ (hb4))) hZ (H 149 _ rfl) (H 148 _ rfl) (by decide) (by decide)) (g := (mkF m 277 #[.val (.long qc), .second, .val (.int ps), .val (.int (1 : Int32)), .val (.ref b1035), .val (.ref rtn_1099), .val (.ref rs1_1099), .val (.ref rs2_1099), .val (.int (3 : Int32))] [(.int (2 : Int32)), (.ref b1035), (.int (3 : Int32)), (.int (2 : Int32)), (.ref rs2_1099)])) rfl (by rw [hml]; rfl) (argsL := [(.ref rs2_1099), (.int (2 : Int32)), (.int (3 : Int32)), (.ref b1035), (.int (2 : Int32))]) (rest := []) (lenOf own_pd408 rfl) rfl (Nat.le_of_eq rfl) (hb hby at_277) (fun _ _ => ⟨rfl, e1115, (by decide : 8 + 0 ≤ _), (by decide : 28 + 0 ≤ _)⟩)
    dsimp only [Pt.U, Pt.locs, Pt.cells, Pt.slots] at X1116 l1116 y1116 z1116 st1116 hQ1116
    rw [l1116, y1116, z1116] at X1116
    clear l1116 y1116 z1116
    obtain ⟨rfl, Nq1116, e1116⟩ := hQ1116
    have N1116 := Fr.app N1115 Nq1116
    obtain ⟨fs, hr, hrun, hended, hW, hsame⟩ := X1116.leave (v := some (.int (1 : Int32))) (fun h => by rw [Bd.returns] at h; cases h)
    refine ⟨_, _, pre1082 _ ?_, hrun, hended, _, _, rfl, ?_, ⟨_, rfl⟩, hW, hsame.mono (by decide) (by decide)⟩
    · show Sp p e below m Tm1077 96 #[.val (.long qc), .second, .val (.int ps), .val (.int (1 : Int32)), .val (.ref b1035), .unset, .unset, .unset, .unset] [] _
      refine XS.iloadN Xm1077.here hx rfl (hb hby at_96) rfl ?_
      refine XS.iconst Xm1077.here hx rfl (hb hby at_97) ?_
      show Sp p e below m Tm1077 98 #[.val (.long qc), .second, .val (.int ps), .val (.int (1 : Int32)), .val (.ref b1035), .unset, .unset, .unset, .unset] [(.int (1 : Int32)), (.int (1 : Int32))] _
      refine XS.icmpYes Xm1077.here hx rfl (pc0 := 98) (pc' := 116) rfl (hb hby at_98) rfl (flt (by decide : ¬ ((1 : Int32) < (1 : Int32)))).2.2.2 (by decide) (by decide) ?_
      show Sp p e below m Tm1077 116 #[.val (.long qc), .second, .val (.int ps), .val (.int (1 : Int32)), .val (.ref b1035), .unset, .unset, .unset, .unset] [] _
      refine XS.iloadN Xm1077.here hx rfl (hb hby at_116) rfl ?_
      refine XS.iconst Xm1077.here hx rfl (hb hby at_117) ?_
      show Sp p e below m Tm1077 118 #[.val (.long qc), .second, .val (.int ps), .val (.int (1 : Int32)), .val (.ref b1035), .unset, .unset, .unset, .unset] [(.int (2 : Int32)), (.int (1 : Int32))] _
      refine XS.icmpYes Xm1077.here hx rfl (pc0 := 118) (pc' := 136) rfl (hb hby at_118) rfl (flt (by decide : ¬ ((2 : Int32) < (1 : Int32)))).2.2.2 (by decide) (by decide) ?_
      show Sp p e below m Tm1077 136 #[.val (.long qc), .second, .val (.int ps), .val (.int (1 : Int32)), .val (.ref b1035), .unset, .unset, .unset, .unset] [] _
      refine XS.aload Xm1077.here hx rfl (hb hby at_136) rfl rfl ?_
      refine XS.iloadN Xm1077.here hx rfl (hb hby at_138) rfl ?_
      show Sp p e below m Tm1077 139 #[.val (.long qc), .second, .val (.int ps), .val (.int (1 : Int32)), .val (.ref b1035), .unset, .unset, .unset, .unset] [(.int (1 : Int32)), (.ref b1035)] _
      refine XS.bipush Xm1077.here hx rfl (hb hby at_139) ?_
      refine st1085 _ ?_
      show Sp p e below m T1085 142 #[.val (.long qc), .second, .val (.int ps), .val (.int (1 : Int32)), .val (.ref b1035), .unset, .unset, .unset, .unset] [] _
      refine st1088 _ ?_
      show Sp p e below m T1088 145 #[.val (.long qc), .second, .val (.int ps), .val (.int (1 : Int32)), .val (.ref b1035), .unset, .unset, .unset, .unset] [(.ref b1088)] _
      refine XS.dup X1088.here hx rfl (hb hby at_145) rfl rfl ?_
      refine XS.aload X1088.here hx rfl (hb hby at_146) rfl rfl ?_
      show Sp p e below m T1088 148 #[.val (.long qc), .second, .val (.int ps), .val (.int (1 : Int32)), .val (.ref b1035), .unset, .unset, .unset, .unset] [(.ref b1035), (.ref b1088), (.ref b1088)] _
      refine st1094.trans ?_
      show Sp p e below m T1094 151 #[.val (.long qc), .second, .val (.int ps), .val (.int (1 : Int32)), .val (.ref b1035), .unset, .unset, .unset, .unset] [(.ref b1088)] _
      refine st1099 _ ?_
      show Sp p e below m T1099 154 #[.val (.long qc), .second, .val (.int ps), .val (.int (1 : Int32)), .val (.ref b1035), .unset, .unset, .unset, .unset] [(.ref rtn_1099)] _
      refine XS.astore X1099.here hx rfl (hb hby at_154) rfl rfl (l' := #[.val (.long qc), .second, .val (.int ps), .val (.int (1 : Int32)), .val (.ref b1035), .val (.ref rtn_1099), .unset, .unset, .unset]) rfl ?_
      show Sp p e below m T1099 156 #[.val (.long qc), .second, .val (.int ps), .val (.int (1 : Int32)), .val (.ref b1035), .val (.ref rtn_1099), .unset, .unset, .unset] [] _
      refine XS.aload X1099.here hx rfl (hb hby at_156) rfl rfl ?_
      refine st1107.trans ?_
      show Sp p e below m T1107 161 #[.val (.long qc), .second, .val (.int ps), .val (.int (1 : Int32)), .val (.ref b1035), .val (.ref rtn_1099), .unset, .unset, .unset] [(.ref rs1_1099)] _
      refine XS.astore X1107.here hx rfl (hb hby at_161) rfl rfl (l' := #[.val (.long qc), .second, .val (.int ps), .val (.int (1 : Int32)), .val (.ref b1035), .val (.ref rtn_1099), .val (.ref rs1_1099), .unset, .unset]) rfl ?_
      show Sp p e below m T1107 163 #[.val (.long qc), .second, .val (.int ps), .val (.int (1 : Int32)), .val (.ref b1035), .val (.ref rtn_1099), .val (.ref rs1_1099), .unset, .unset] [] _
      refine XS.aload X1107.here hx rfl (hb hby at_163) rfl rfl ?_
      refine st1108.trans ?_
      show Sp p e below m T1108 168 #[.val (.long qc), .second, .val (.int ps), .val (.int (1 : Int32)), .val (.ref b1035), .val (.ref rtn_1099), .val (.ref rs1_1099), .unset, .unset] [(.ref rs2_1099)] _
      refine XS.astore X1108.here hx rfl (hb hby at_168) rfl rfl (l' := #[.val (.long qc), .second, .val (.int ps), .val (.int (1 : Int32)), .val (.ref b1035), .val (.ref rtn_1099), .val (.ref rs1_1099), .val (.ref rs2_1099), .unset]) rfl ?_
      show Sp p e below m T1108 170 #[.val (.long qc), .second, .val (.int ps), .val (.int (1 : Int32)), .val (.ref b1035), .val (.ref rtn_1099), .val (.ref rs1_1099), .val (.ref rs2_1099), .unset] [] _
      refine XS.iconst X1108.here hx rfl (hb hby at_170) ?_
      refine XS.iloadN X1108.here hx rfl (hb hby at_171) rfl ?_
      show Sp p e below m T1108 172 #[.val (.long qc), .second, .val (.int ps), .val (.int (1 : Int32)), .val (.ref b1035), .val (.ref rtn_1099), .val (.ref rs1_1099), .val (.ref rs2_1099), .unset] [(.int (1 : Int32)), (.int (4 : Int32))] _
      refine XS.isub X1108.here hx rfl (hb hby at_172) rfl ?_
      show Sp p e below m T1108 173 #[.val (.long qc), .second, .val (.int ps), .val (.int (1 : Int32)), .val (.ref b1035), .val (.ref rtn_1099), .val (.ref rs1_1099), .val (.ref rs2_1099), .unset] [(.int (3 : Int32))] _
      refine XS.istore X1108.here hx rfl (hb hby at_173) rfl (l' := #[.val (.long qc), .second, .val (.int ps), .val (.int (1 : Int32)), .val (.ref b1035), .val (.ref rtn_1099), .val (.ref rs1_1099), .val (.ref rs2_1099), .val (.int (3 : Int32))]) rfl ?_
      show Sp p e below m T1108 175 #[.val (.long qc), .second, .val (.int ps), .val (.int (1 : Int32)), .val (.ref b1035), .val (.ref rtn_1099), .val (.ref rs1_1099), .val (.ref rs2_1099), .val (.int (3 : Int32))] [] _
      refine XS.aload X1108.here hx rfl (hb hby at_175) rfl rfl ?_
      refine st1109.trans ?_
      show Sp p e below m T1109 180 #[.val (.long qc), .second, .val (.int ps), .val (.int (1 : Int32)), .val (.ref b1035), .val (.ref rtn_1099), .val (.ref rs1_1099), .val (.ref rs2_1099), .val (.int (3 : Int32))] [(.int (1 : Int32))] _
      refine XS.iloadN X1109.here hx rfl (hb hby at_180) rfl ?_
      refine XS.icmpNo X1109.here hx rfl (hb hby at_181) rfl (teq (by decide : ((1 : Int32) = (1 : Int32)))).2 ?_
      show Sp p e below m T1109 184 #[.val (.long qc), .second, .val (.int ps), .val (.int (1 : Int32)), .val (.ref b1035), .val (.ref rtn_1099), .val (.ref rs1_1099), .val (.ref rs2_1099), .val (.int (3 : Int32))] [] _
      refine XS.aload X1109.here hx rfl (hb hby at_184) rfl rfl ?_
      refine st1110.trans ?_
      show Sp p e below m T1110 189 #[.val (.long qc), .second, .val (.int ps), .val (.int (1 : Int32)), .val (.ref b1035), .val (.ref rtn_1099), .val (.ref rs1_1099), .val (.ref rs2_1099), .val (.int (3 : Int32))] [(.int (3 : Int32))] _
      refine XS.iload X1110.here hx rfl (hb hby at_189) rfl ?_
      refine XS.icmpYes X1110.here hx rfl (pc0 := 191) (pc' := 196) rfl (hb hby at_191) rfl (teq (by decide : ((3 : Int32) = (3 : Int32)))).1 (by decide) (by decide) ?_
      show Sp p e below m T1110 196 #[.val (.long qc), .second, .val (.int ps), .val (.int (1 : Int32)), .val (.ref b1035), .val (.ref rtn_1099), .val (.ref rs1_1099), .val (.ref rs2_1099), .val (.int (3 : Int32))] [] _
      refine XS.aload X1110.here hx rfl (hb hby at_196) rfl rfl ?_
      refine XS.iconst X1110.here hx rfl (hb hby at_198) ?_
      show Sp p e below m T1110 199 #[.val (.long qc), .second, .val (.int ps), .val (.int (1 : Int32)), .val (.ref b1035), .val (.ref rtn_1099), .val (.ref rs1_1099), .val (.ref rs2_1099), .val (.int (3 : Int32))] [(.int (0 : Int32)), (.ref rs1_1099)] _
      refine XS.iloadN X1110.here hx rfl (hb hby at_199) rfl ?_
      refine XS.aload X1110.here hx rfl (hb hby at_200) rfl rfl ?_
      show Sp p e below m T1110 202 #[.val (.long qc), .second, .val (.int ps), .val (.int (1 : Int32)), .val (.ref b1035), .val (.ref rtn_1099), .val (.ref rs1_1099), .val (.ref rs2_1099), .val (.int (3 : Int32))] [(.ref b1035), (.int (1 : Int32)), (.int (0 : Int32)), (.ref rs1_1099)] _
      refine XS.iconst X1110.here hx rfl (hb hby at_202) ?_
      refine st1111 _ ?_
      show Sp p e below m T1111 206 #[.val (.long qc), .second, .val (.int ps), .val (.int (1 : Int32)), .val (.ref b1035), .val (.ref rtn_1099), .val (.ref rs1_1099), .val (.ref rs2_1099), .val (.int (3 : Int32))] [(.int (1 : Int32))] _
      refine XS.ifNo X1111.here hx rfl (hb hby at_206) rfl ((if0 _ _).trans (feq (by decide : ¬ ((1 : Int32) = (0 : Int32)))).1) ?_
      show Sp p e below m T1111 209 #[.val (.long qc), .second, .val (.int ps), .val (.int (1 : Int32)), .val (.ref b1035), .val (.ref rtn_1099), .val (.ref rs1_1099), .val (.ref rs2_1099), .val (.int (3 : Int32))] [] _
      refine XS.aload X1111.here hx rfl (hb hby at_209) rfl rfl ?_
      refine XS.iconst X1111.here hx rfl (hb hby at_211) ?_
      show Sp p e below m T1111 212 #[.val (.long qc), .second, .val (.int ps), .val (.int (1 : Int32)), .val (.ref b1035), .val (.ref rtn_1099), .val (.ref rs1_1099), .val (.ref rs2_1099), .val (.int (3 : Int32))] [(.int (1 : Int32)), (.ref rs1_1099)] _
      refine XS.iloadN X1111.here hx rfl (hb hby at_212) rfl ?_
      refine XS.aload X1111.here hx rfl (hb hby at_213) rfl rfl ?_
      show Sp p e below m T1111 215 #[.val (.long qc), .second, .val (.int ps), .val (.int (1 : Int32)), .val (.ref b1035), .val (.ref rtn_1099), .val (.ref rs1_1099), .val (.ref rs2_1099), .val (.int (3 : Int32))] [(.ref b1035), (.int (1 : Int32)), (.int (1 : Int32)), (.ref rs1_1099)] _
      refine XS.iconst X1111.here hx rfl (hb hby at_215) ?_
      refine st1112 _ ?_
      show Sp p e below m T1112 219 #[.val (.long qc), .second, .val (.int ps), .val (.int (1 : Int32)), .val (.ref b1035), .val (.ref rtn_1099), .val (.ref rs1_1099), .val (.ref rs2_1099), .val (.int (3 : Int32))] [(.int (1 : Int32))] _
      refine XS.ifNo X1112.here hx rfl (hb hby at_219) rfl ((if0 _ _).trans (feq (by decide : ¬ ((1 : Int32) = (0 : Int32)))).1) ?_
      show Sp p e below m T1112 222 #[.val (.long qc), .second, .val (.int ps), .val (.int (1 : Int32)), .val (.ref b1035), .val (.ref rtn_1099), .val (.ref rs1_1099), .val (.ref rs2_1099), .val (.int (3 : Int32))] [] _
      refine XS.aload X1112.here hx rfl (hb hby at_222) rfl rfl ?_
      refine XS.iconst X1112.here hx rfl (hb hby at_224) ?_
      show Sp p e below m T1112 225 #[.val (.long qc), .second, .val (.int ps), .val (.int (1 : Int32)), .val (.ref b1035), .val (.ref rtn_1099), .val (.ref rs1_1099), .val (.ref rs2_1099), .val (.int (3 : Int32))] [(.int (2 : Int32)), (.ref rs1_1099)] _
      refine XS.iloadN X1112.here hx rfl (hb hby at_225) rfl ?_
      refine XS.aload X1112.here hx rfl (hb hby at_226) rfl rfl ?_
      show Sp p e below m T1112 228 #[.val (.long qc), .second, .val (.int ps), .val (.int (1 : Int32)), .val (.ref b1035), .val (.ref rtn_1099), .val (.ref rs1_1099), .val (.ref rs2_1099), .val (.int (3 : Int32))] [(.ref b1035), (.int (1 : Int32)), (.int (2 : Int32)), (.ref rs1_1099)] _
      refine XS.iconst X1112.here hx rfl (hb hby at_228) ?_
      refine st1113 _ ?_
      show Sp p e below m T1113 232 #[.val (.long qc), .second, .val (.int ps), .val (.int (1 : Int32)), .val (.ref b1035), .val (.ref rtn_1099), .val (.ref rs1_1099), .val (.ref rs2_1099), .val (.int (3 : Int32))] [(.int (1 : Int32))] _
      refine XS.ifNo X1113.here hx rfl (hb hby at_232) rfl ((if0 _ _).trans (feq (by decide : ¬ ((1 : Int32) = (0 : Int32)))).1) ?_
      show Sp p e below m T1113 235 #[.val (.long qc), .second, .val (.int ps), .val (.int (1 : Int32)), .val (.ref b1035), .val (.ref rtn_1099), .val (.ref rs1_1099), .val (.ref rs2_1099), .val (.int (3 : Int32))] [] _
      refine XS.aload X1113.here hx rfl (hb hby at_235) rfl rfl ?_
      refine XS.iconst X1113.here hx rfl (hb hby at_237) ?_
      show Sp p e below m T1113 238 #[.val (.long qc), .second, .val (.int ps), .val (.int (1 : Int32)), .val (.ref b1035), .val (.ref rtn_1099), .val (.ref rs1_1099), .val (.ref rs2_1099), .val (.int (3 : Int32))] [(.int (0 : Int32)), (.ref rs2_1099)] _
      refine XS.iload X1113.here hx rfl (hb hby at_238) rfl ?_
      refine XS.aload X1113.here hx rfl (hb hby at_240) rfl rfl ?_
      show Sp p e below m T1113 242 #[.val (.long qc), .second, .val (.int ps), .val (.int (1 : Int32)), .val (.ref b1035), .val (.ref rtn_1099), .val (.ref rs1_1099), .val (.ref rs2_1099), .val (.int (3 : Int32))] [(.ref b1035), (.int (3 : Int32)), (.int (0 : Int32)), (.ref rs2_1099)] _
      refine XS.iloadN X1113.here hx rfl (hb hby at_242) rfl ?_
      refine XS.iconst X1113.here hx rfl (hb hby at_243) ?_
      show Sp p e below m T1113 244 #[.val (.long qc), .second, .val (.int ps), .val (.int (1 : Int32)), .val (.ref b1035), .val (.ref rtn_1099), .val (.ref rs1_1099), .val (.ref rs2_1099), .val (.int (3 : Int32))] [(.int (1 : Int32)), (.int (1 : Int32)), (.ref b1035), (.int (3 : Int32)), (.int (0 : Int32)), (.ref rs2_1099)] _
      refine XS.iadd X1113.here hx rfl (hb hby at_244) rfl ?_
      show Sp p e below m T1113 245 #[.val (.long qc), .second, .val (.int ps), .val (.int (1 : Int32)), .val (.ref b1035), .val (.ref rtn_1099), .val (.ref rs1_1099), .val (.ref rs2_1099), .val (.int (3 : Int32))] [(.int (2 : Int32)), (.ref b1035), (.int (3 : Int32)), (.int (0 : Int32)), (.ref rs2_1099)] _
      refine st1114 _ ?_
      show Sp p e below m T1114 248 #[.val (.long qc), .second, .val (.int ps), .val (.int (1 : Int32)), .val (.ref b1035), .val (.ref rtn_1099), .val (.ref rs1_1099), .val (.ref rs2_1099), .val (.int (3 : Int32))] [(.int (1 : Int32))] _
      refine XS.ifNo X1114.here hx rfl (hb hby at_248) rfl ((if0 _ _).trans (feq (by decide : ¬ ((1 : Int32) = (0 : Int32)))).1) ?_
      show Sp p e below m T1114 251 #[.val (.long qc), .second, .val (.int ps), .val (.int (1 : Int32)), .val (.ref b1035), .val (.ref rtn_1099), .val (.ref rs1_1099), .val (.ref rs2_1099), .val (.int (3 : Int32))] [] _
      refine XS.aload X1114.here hx rfl (hb hby at_251) rfl rfl ?_
      refine XS.iconst X1114.here hx rfl (hb hby at_253) ?_
      show Sp p e below m T1114 254 #[.val (.long qc), .second, .val (.int ps), .val (.int (1 : Int32)), .val (.ref b1035), .val (.ref rtn_1099), .val (.ref rs1_1099), .val (.ref rs2_1099), .val (.int (3 : Int32))] [(.int (1 : Int32)), (.ref rs2_1099)] _
      refine XS.iload X1114.here hx rfl (hb hby at_254) rfl ?_
      refine XS.aload X1114.here hx rfl (hb hby at_256) rfl rfl ?_
      show Sp p e below m T1114 258 #[.val (.long qc), .second, .val (.int ps), .val (.int (1 : Int32)), .val (.ref b1035), .val (.ref rtn_1099), .val (.ref rs1_1099), .val (.ref rs2_1099), .val (.int (3 : Int32))] [(.ref b1035), (.int (3 : Int32)), (.int (1 : Int32)), (.ref rs2_1099)] _
      refine XS.iloadN X1114.here hx rfl (hb hby at_258) rfl ?_
      refine XS.iconst X1114.here hx rfl (hb hby at_259) ?_
      show Sp p e below m T1114 260 #[.val (.long qc), .second, .val (.int ps), .val (.int (1 : Int32)), .val (.ref b1035), .val (.ref rtn_1099), .val (.ref rs1_1099), .val (.ref rs2_1099), .val (.int (3 : Int32))] [(.int (1 : Int32)), (.int (1 : Int32)), (.ref b1035), (.int (3 : Int32)), (.int (1 : Int32)), (.ref rs2_1099)] _
      refine XS.iadd X1114.here hx rfl (hb hby at_260) rfl ?_
      show Sp p e below m T1114 261 #[.val (.long qc), .second, .val (.int ps), .val (.int (1 : Int32)), .val (.ref b1035), .val (.ref rtn_1099), .val (.ref rs1_1099), .val (.ref rs2_1099), .val (.int (3 : Int32))] [(.int (2 : Int32)), (.ref b1035), (.int (3 : Int32)), (.int (1 : Int32)), (.ref rs2_1099)] _
      refine st1115 _ ?_
      show Sp p e below m T1115 264 #[.val (.long qc), .second, .val (.int ps), .val (.int (1 : Int32)), .val (.ref b1035), .val (.ref rtn_1099), .val (.ref rs1_1099), .val (.ref rs2_1099), .val (.int (3 : Int32))] [(.int (1 : Int32))] _
      refine XS.ifNo X1115.here hx rfl (hb hby at_264) rfl ((if0 _ _).trans (feq (by decide : ¬ ((1 : Int32) = (0 : Int32)))).1) ?_
      show Sp p e below m T1115 267 #[.val (.long qc), .second, .val (.int ps), .val (.int (1 : Int32)), .val (.ref b1035), .val (.ref rtn_1099), .val (.ref rs1_1099), .val (.ref rs2_1099), .val (.int (3 : Int32))] [] _
      refine XS.aload X1115.here hx rfl (hb hby at_267) rfl rfl ?_
      refine XS.iconst X1115.here hx rfl (hb hby at_269) ?_
      show Sp p e below m T1115 270 #[.val (.long qc), .second, .val (.int ps), .val (.int (1 : Int32)), .val (.ref b1035), .val (.ref rtn_1099), .val (.ref rs1_1099), .val (.ref rs2_1099), .val (.int (3 : Int32))] [(.int (2 : Int32)), (.ref rs2_1099)] _
      refine XS.iload X1115.here hx rfl (hb hby at_270) rfl ?_
      refine XS.aload X1115.here hx rfl (hb hby at_272) rfl rfl ?_
      show Sp p e below m T1115 274 #[.val (.long qc), .second, .val (.int ps), .val (.int (1 : Int32)), .val (.ref b1035), .val (.ref rtn_1099), .val (.ref rs1_1099), .val (.ref rs2_1099), .val (.int (3 : Int32))] [(.ref b1035), (.int (3 : Int32)), (.int (2 : Int32)), (.ref rs2_1099)] _
      refine XS.iloadN X1115.here hx rfl (hb hby at_274) rfl ?_
      refine XS.iconst X1115.here hx rfl (hb hby at_275) ?_
      show Sp p e below m T1115 276 #[.val (.long qc), .second, .val (.int ps), .val (.int (1 : Int32)), .val (.ref b1035), .val (.ref rtn_1099), .val (.ref rs1_1099), .val (.ref rs2_1099), .val (.int (3 : Int32))] [(.int (1 : Int32)), (.int (1 : Int32)), (.ref b1035), (.int (3 : Int32)), (.int (2 : Int32)), (.ref rs2_1099)] _
      refine XS.iadd X1115.here hx rfl (hb hby at_276) rfl ?_
      show Sp p e below m T1115 277 #[.val (.long qc), .second, .val (.int ps), .val (.int (1 : Int32)), .val (.ref b1035), .val (.ref rtn_1099), .val (.ref rs1_1099), .val (.ref rs2_1099), .val (.int (3 : Int32))] [(.int (2 : Int32)), (.ref b1035), (.int (3 : Int32)), (.int (2 : Int32)), (.ref rs2_1099)] _
      refine st1116 _ ?_
      show Sp p e below m T1116 280 #[.val (.long qc), .second, .val (.int ps), .val (.int (1 : Int32)), .val (.ref b1035), .val (.ref rtn_1099), .val (.ref rs1_1099), .val (.ref rs2_1099), .val (.int (3 : Int32))] [(.int (1 : Int32))] _
      refine XS.ifNo X1116.here hx rfl (hb hby at_280) rfl ((if0 _ _).trans (feq (by decide : ¬ ((1 : Int32) = (0 : Int32)))).1) ?_
      show Sp p e below m T1116 283 #[.val (.long qc), .second, .val (.int ps), .val (.int (1 : Int32)), .val (.ref b1035), .val (.ref rtn_1099), .val (.ref rs1_1099), .val (.ref rs2_1099), .val (.int (3 : Int32))] [] _
      refine XS.iconst X1116.here hx rfl (hb hby at_283) ?_
      refine XS.goto X1116.here hx rfl (pc0 := 284) (pc' := 288) rfl (hb hby at_284) (by decide) (by decide) ?_
      show Sp p e below m T1116 288 #[.val (.long qc), .second, .val (.int ps), .val (.int (1 : Int32)), .val (.ref b1035), .val (.ref rtn_1099), .val (.ref rs1_1099), .val (.ref rs2_1099), .val (.int (3 : Int32))] [(.int (1 : Int32))] _
      exact retN X1116 hx (t := .boolean) Bd.returns (by simp) (hb hby at_288) hr
    · show Q0 Z qc ps cs vf h0 n0 _ T1116.heap _
      rw [e1116]
      exact ⟨rfl, N1116⟩
  · rw [hq1033] at pre1031
    obtain ⟨T1117, h1117, k1117, X1117, e1117, E1117, A1117, st1117⟩ := newP X0 hx hZ (H 1 _ rfl) e0 (g := (mkF m 10 #[.val (.long qc), .second, .val (.int ps), .val (.int (2 : Int32)), .unset, .unset, .unset, .unset, .unset] [(.int (5 : Int32))])) rfl (hb hby at_10) rfl (by decide) (cap := 5) (by decide) (by decide) (by decide) (by decide)
    obtain ⟨b1117, g1117⟩ : ∃ z, z = h0.size := ⟨_, rfl⟩
    rw [← g1117] at A1117 st1117
    have g_b1117 : n0 ≤ b1117 := Nat.le_trans Z0 (Nat.le_of_eq g1117.symm)
    have sz_b1117 : h0.size ≤ b1117 := Nat.le_of_eq g1117.symm
    have Zs1117 : n0 ≤ h1117.size := Nat.le_trans Z0 E1117.1
    have KK1117 : Keep h0 h1117 [] := (Keep.refl h0 _).ext E1117
    have O1117 := O0.ext E1117
    have f1118 := (Scs.ext O0.2).ext E1117
    have f1119 := (Ssf.ext O0.2).ext E1117
    have V1117 : Arv Z h1117 b1117 k1117 .char (5 : Int32) [(.int (0 : Int32)), (.int (0 : Int32)), (.int (0 : Int32)), (.int (0 : Int32)), (.int (0 : Int32))] (.int (0 : Int32)) := (Arv.new A1117 (by decide)).pad (pad_rep [] (.int (0 : Int32)) 5)
    have pre1120 : ∀ t, Sp p e below m T1117 24 #[.val (.long qc), .second, .val (.int ps), .val (.int (2 : Int32)), .val (.ref b1117), .unset, .unset, .unset, .unset] [(.int (((qc &&& (255 : Int64)).toInt32).toUInt32.toUInt16.toUInt32.toInt32)), (.int (0 : Int32)), (.ref b1117)] t → Steps p.tables e below G0 t := by
      intro t k
      refine pre1031 t ?_
      show Sp p e below m s₁ 9 #[.val (.long qc), .second, .val (.int ps), .val (.int (2 : Int32)), .unset, .unset, .unset, .unset, .unset] [] _
      refine XS.iconst X0.here hx rfl (hb hby at_9) ?_
      refine st1117 _ ?_
      show Sp p e below m T1117 12 #[.val (.long qc), .second, .val (.int ps), .val (.int (2 : Int32)), .unset, .unset, .unset, .unset, .unset] [(.ref b1117)] _
      refine XS.astore X1117.here hx rfl (hb hby at_12) rfl rfl (l' := #[.val (.long qc), .second, .val (.int ps), .val (.int (2 : Int32)), .val (.ref b1117), .unset, .unset, .unset, .unset]) rfl ?_
      show Sp p e below m T1117 14 #[.val (.long qc), .second, .val (.int ps), .val (.int (2 : Int32)), .val (.ref b1117), .unset, .unset, .unset, .unset] [] _
      refine XS.aload X1117.here hx rfl (hb hby at_14) rfl rfl ?_
      refine XS.iconst X1117.here hx rfl (hb hby at_16) ?_
      show Sp p e below m T1117 17 #[.val (.long qc), .second, .val (.int ps), .val (.int (2 : Int32)), .val (.ref b1117), .unset, .unset, .unset, .unset] [(.int (0 : Int32)), (.ref b1117)] _
      refine XS.lloadN X1117.here hx rfl (hb hby at_17) rfl ?_
      refine X1117.ldc2Long hx hown (mvT hZ (H 2 _ rfl)) (g := (mkF m 18 #[.val (.long qc), .second, .val (.int ps), .val (.int (2 : Int32)), .val (.ref b1117), .unset, .unset, .unset, .unset] [(.long qc), (.int (0 : Int32)), (.ref b1117)])) rfl (hb hby at_18) _ ?_
      show Sp p e below m T1117 21 #[.val (.long qc), .second, .val (.int ps), .val (.int (2 : Int32)), .val (.ref b1117), .unset, .unset, .unset, .unset] [(.long (255 : Int64)), (.long qc), (.int (0 : Int32)), (.ref b1117)] _
      refine XS.land X1117.here hx rfl (hb hby at_21) rfl ?_
      show Sp p e below m T1117 22 #[.val (.long qc), .second, .val (.int ps), .val (.int (2 : Int32)), .val (.ref b1117), .unset, .unset, .unset, .unset] [(.long (qc &&& (255 : Int64))), (.int (0 : Int32)), (.ref b1117)] _
      refine XS.l2i X1117.here hx rfl (hb hby at_22) rfl ?_
      show Sp p e below m T1117 23 #[.val (.long qc), .second, .val (.int ps), .val (.int (2 : Int32)), .val (.ref b1117), .unset, .unset, .unset, .unset] [(.int ((qc &&& (255 : Int64)).toInt32)), (.int (0 : Int32)), (.ref b1117)] _
      refine XS.i2c X1117.here hx rfl (hb hby at_23) rfl ?_
      exact k
    obtain ⟨x0, he1121⟩ : ∃ z : Int32, z = (((qc &&& (255 : Int64)).toInt32).toUInt32.toUInt16.toUInt32.toInt32) := ⟨_, rfl⟩
    rw [← he1121] at pre1120
    have hb0 : 0 ≤ (nar .char x0).toInt ∧ (nar .char x0).toInt ≤ 255 := by rw [he1121]; exact own_cb _
    obtain ⟨cl1122, Ar1122, q1122, S1122, N1122, H1122, G1122⟩ := id V1117
    have hin1122 : ¬ ((0 : Int32) < 0 ∨ cl1122.slots.size ≤ ((0 : Int32)).toNatClampNeg) := inb_of S1122 ⟨by decide, by decide⟩
    obtain ⟨T1123, h1123, X1123, e1123, W1123, st1123⟩ := stC X1117 hx hZ e1117 Ar1122 (j := (0 : Int32)) hin1122 (g := (mkF m 24 #[.val (.long qc), .second, .val (.int ps), .val (.int (2 : Int32)), .val (.ref b1117), .unset, .unset, .unset, .unset] [(.int x0), (.int (0 : Int32)), (.ref b1117)])) rfl rfl (hb hby at_24)
    have V1123 : Arv Z h1123 b1117 k1117 .char (5 : Int32) [(.int (nar .char x0)), (.int (0 : Int32)), (.int (0 : Int32)), (.int (0 : Int32)), (.int (0 : Int32))] (.int (0 : Int32)) := Arv.set Ar1122 q1122 S1122 N1122 H1122 G1122 (fits_nar_char x0) W1123 0 rfl (Nat.le_of_ble_eq_true rfl)
    have N1123 := Fr.snoc X1123 N0 g_b1117
    have Zs1123 : n0 ≤ h1123.size := Nat.le_trans Zs1117 (Keep.of_wr W1123).1
    have KK1123 : Keep h0 h1123 [] := KK1117.wr W1123 (Or.inr sz_b1117)
    have O1123 := O1117.wr W1123 g_b1117
    have f1124 := f1118.wr W1123
    have f1125 := f1119.wr W1123
    have pre1126 : ∀ t, Sp p e below m T1123 38 #[.val (.long qc), .second, .val (.int ps), .val (.int (2 : Int32)), .val (.ref b1117), .unset, .unset, .unset, .unset] [(.int (((((qc.toUInt64 >>> ((8 : Int32) &&& 0x3f).toInt64.toUInt64).toInt64) &&& (255 : Int64)).toInt32).toUInt32.toUInt16.toUInt32.toInt32)), (.int (1 : Int32)), (.ref b1117)] t → Steps p.tables e below G0 t := by
      intro t k
      refine pre1120 t ?_
      show Sp p e below m T1117 24 #[.val (.long qc), .second, .val (.int ps), .val (.int (2 : Int32)), .val (.ref b1117), .unset, .unset, .unset, .unset] [(.int x0), (.int (0 : Int32)), (.ref b1117)] _
      refine st1123 _ ?_
      show Sp p e below m T1123 25 #[.val (.long qc), .second, .val (.int ps), .val (.int (2 : Int32)), .val (.ref b1117), .unset, .unset, .unset, .unset] [] _
      refine XS.aload X1123.here hx rfl (hb hby at_25) rfl rfl ?_
      refine XS.iconst X1123.here hx rfl (hb hby at_27) ?_
      show Sp p e below m T1123 28 #[.val (.long qc), .second, .val (.int ps), .val (.int (2 : Int32)), .val (.ref b1117), .unset, .unset, .unset, .unset] [(.int (1 : Int32)), (.ref b1117)] _
      refine XS.lloadN X1123.here hx rfl (hb hby at_28) rfl ?_
      refine XS.bipush X1123.here hx rfl (hb hby at_29) ?_
      show Sp p e below m T1123 31 #[.val (.long qc), .second, .val (.int ps), .val (.int (2 : Int32)), .val (.ref b1117), .unset, .unset, .unset, .unset] [(.int (8 : Int32)), (.long qc), (.int (1 : Int32)), (.ref b1117)] _
      refine XS.lushr X1123.here hx rfl (hb hby at_31) rfl ?_
      show Sp p e below m T1123 32 #[.val (.long qc), .second, .val (.int ps), .val (.int (2 : Int32)), .val (.ref b1117), .unset, .unset, .unset, .unset] [(.long ((qc.toUInt64 >>> ((8 : Int32) &&& 0x3f).toInt64.toUInt64).toInt64)), (.int (1 : Int32)), (.ref b1117)] _
      refine X1123.ldc2Long hx hown (mvT hZ (H 2 _ rfl)) (g := (mkF m 32 #[.val (.long qc), .second, .val (.int ps), .val (.int (2 : Int32)), .val (.ref b1117), .unset, .unset, .unset, .unset] [(.long ((qc.toUInt64 >>> ((8 : Int32) &&& 0x3f).toInt64.toUInt64).toInt64)), (.int (1 : Int32)), (.ref b1117)])) rfl (hb hby at_32) _ ?_
      show Sp p e below m T1123 35 #[.val (.long qc), .second, .val (.int ps), .val (.int (2 : Int32)), .val (.ref b1117), .unset, .unset, .unset, .unset] [(.long (255 : Int64)), (.long ((qc.toUInt64 >>> ((8 : Int32) &&& 0x3f).toInt64.toUInt64).toInt64)), (.int (1 : Int32)), (.ref b1117)] _
      refine XS.land X1123.here hx rfl (hb hby at_35) rfl ?_
      show Sp p e below m T1123 36 #[.val (.long qc), .second, .val (.int ps), .val (.int (2 : Int32)), .val (.ref b1117), .unset, .unset, .unset, .unset] [(.long (((qc.toUInt64 >>> ((8 : Int32) &&& 0x3f).toInt64.toUInt64).toInt64) &&& (255 : Int64))), (.int (1 : Int32)), (.ref b1117)] _
      refine XS.l2i X1123.here hx rfl (hb hby at_36) rfl ?_
      show Sp p e below m T1123 37 #[.val (.long qc), .second, .val (.int ps), .val (.int (2 : Int32)), .val (.ref b1117), .unset, .unset, .unset, .unset] [(.int ((((qc.toUInt64 >>> ((8 : Int32) &&& 0x3f).toInt64.toUInt64).toInt64) &&& (255 : Int64)).toInt32)), (.int (1 : Int32)), (.ref b1117)] _
      refine XS.i2c X1123.here hx rfl (hb hby at_37) rfl ?_
      exact k
    obtain ⟨x1, he1127⟩ : ∃ z : Int32, z = (((((qc.toUInt64 >>> ((8 : Int32) &&& 0x3f).toInt64.toUInt64).toInt64) &&& (255 : Int64)).toInt32).toUInt32.toUInt16.toUInt32.toInt32) := ⟨_, rfl⟩
    rw [← he1127] at pre1126
    have hb1 : 0 ≤ (nar .char x1).toInt ∧ (nar .char x1).toInt ≤ 255 := by rw [he1127]; exact own_cb _
    obtain ⟨cl1128, Ar1128, q1128, S1128, N1128, H1128, G1128⟩ := id V1123
    have hin1128 : ¬ ((1 : Int32) < 0 ∨ cl1128.slots.size ≤ ((1 : Int32)).toNatClampNeg) := inb_of S1128 ⟨by decide, by decide⟩
    obtain ⟨T1129, h1129, X1129, e1129, W1129, st1129⟩ := stC X1123 hx hZ e1123 Ar1128 (j := (1 : Int32)) hin1128 (g := (mkF m 38 #[.val (.long qc), .second, .val (.int ps), .val (.int (2 : Int32)), .val (.ref b1117), .unset, .unset, .unset, .unset] [(.int x1), (.int (1 : Int32)), (.ref b1117)])) rfl rfl (hb hby at_38)
    have V1129 : Arv Z h1129 b1117 k1117 .char (5 : Int32) [(.int (nar .char x0)), (.int (nar .char x1)), (.int (0 : Int32)), (.int (0 : Int32)), (.int (0 : Int32))] (.int (0 : Int32)) := Arv.set Ar1128 q1128 S1128 N1128 H1128 G1128 (fits_nar_char x1) W1129 1 rfl (Nat.le_of_ble_eq_true rfl)
    have N1129 := Fr.snoc X1129 N1123 g_b1117
    have Zs1129 : n0 ≤ h1129.size := Nat.le_trans Zs1123 (Keep.of_wr W1129).1
    have KK1129 : Keep h0 h1129 [] := KK1123.wr W1129 (Or.inr sz_b1117)
    have O1129 := O1123.wr W1129 g_b1117
    have f1130 := f1124.wr W1129
    have f1131 := f1125.wr W1129
    have pre1132 : ∀ t, Sp p e below m T1129 52 #[.val (.long qc), .second, .val (.int ps), .val (.int (2 : Int32)), .val (.ref b1117), .unset, .unset, .unset, .unset] [(.int (((((qc.toUInt64 >>> ((16 : Int32) &&& 0x3f).toInt64.toUInt64).toInt64) &&& (255 : Int64)).toInt32).toUInt32.toUInt16.toUInt32.toInt32)), (.int (2 : Int32)), (.ref b1117)] t → Steps p.tables e below G0 t := by
      intro t k
      refine pre1126 t ?_
      show Sp p e below m T1123 38 #[.val (.long qc), .second, .val (.int ps), .val (.int (2 : Int32)), .val (.ref b1117), .unset, .unset, .unset, .unset] [(.int x1), (.int (1 : Int32)), (.ref b1117)] _
      refine st1129 _ ?_
      show Sp p e below m T1129 39 #[.val (.long qc), .second, .val (.int ps), .val (.int (2 : Int32)), .val (.ref b1117), .unset, .unset, .unset, .unset] [] _
      refine XS.aload X1129.here hx rfl (hb hby at_39) rfl rfl ?_
      refine XS.iconst X1129.here hx rfl (hb hby at_41) ?_
      show Sp p e below m T1129 42 #[.val (.long qc), .second, .val (.int ps), .val (.int (2 : Int32)), .val (.ref b1117), .unset, .unset, .unset, .unset] [(.int (2 : Int32)), (.ref b1117)] _
      refine XS.lloadN X1129.here hx rfl (hb hby at_42) rfl ?_
      refine XS.bipush X1129.here hx rfl (hb hby at_43) ?_
      show Sp p e below m T1129 45 #[.val (.long qc), .second, .val (.int ps), .val (.int (2 : Int32)), .val (.ref b1117), .unset, .unset, .unset, .unset] [(.int (16 : Int32)), (.long qc), (.int (2 : Int32)), (.ref b1117)] _
      refine XS.lushr X1129.here hx rfl (hb hby at_45) rfl ?_
      show Sp p e below m T1129 46 #[.val (.long qc), .second, .val (.int ps), .val (.int (2 : Int32)), .val (.ref b1117), .unset, .unset, .unset, .unset] [(.long ((qc.toUInt64 >>> ((16 : Int32) &&& 0x3f).toInt64.toUInt64).toInt64)), (.int (2 : Int32)), (.ref b1117)] _
      refine X1129.ldc2Long hx hown (mvT hZ (H 2 _ rfl)) (g := (mkF m 46 #[.val (.long qc), .second, .val (.int ps), .val (.int (2 : Int32)), .val (.ref b1117), .unset, .unset, .unset, .unset] [(.long ((qc.toUInt64 >>> ((16 : Int32) &&& 0x3f).toInt64.toUInt64).toInt64)), (.int (2 : Int32)), (.ref b1117)])) rfl (hb hby at_46) _ ?_
      show Sp p e below m T1129 49 #[.val (.long qc), .second, .val (.int ps), .val (.int (2 : Int32)), .val (.ref b1117), .unset, .unset, .unset, .unset] [(.long (255 : Int64)), (.long ((qc.toUInt64 >>> ((16 : Int32) &&& 0x3f).toInt64.toUInt64).toInt64)), (.int (2 : Int32)), (.ref b1117)] _
      refine XS.land X1129.here hx rfl (hb hby at_49) rfl ?_
      show Sp p e below m T1129 50 #[.val (.long qc), .second, .val (.int ps), .val (.int (2 : Int32)), .val (.ref b1117), .unset, .unset, .unset, .unset] [(.long (((qc.toUInt64 >>> ((16 : Int32) &&& 0x3f).toInt64.toUInt64).toInt64) &&& (255 : Int64))), (.int (2 : Int32)), (.ref b1117)] _
      refine XS.l2i X1129.here hx rfl (hb hby at_50) rfl ?_
      show Sp p e below m T1129 51 #[.val (.long qc), .second, .val (.int ps), .val (.int (2 : Int32)), .val (.ref b1117), .unset, .unset, .unset, .unset] [(.int ((((qc.toUInt64 >>> ((16 : Int32) &&& 0x3f).toInt64.toUInt64).toInt64) &&& (255 : Int64)).toInt32)), (.int (2 : Int32)), (.ref b1117)] _
      refine XS.i2c X1129.here hx rfl (hb hby at_51) rfl ?_
      exact k
    obtain ⟨x2, he1133⟩ : ∃ z : Int32, z = (((((qc.toUInt64 >>> ((16 : Int32) &&& 0x3f).toInt64.toUInt64).toInt64) &&& (255 : Int64)).toInt32).toUInt32.toUInt16.toUInt32.toInt32) := ⟨_, rfl⟩
    rw [← he1133] at pre1132
    have hb2 : 0 ≤ (nar .char x2).toInt ∧ (nar .char x2).toInt ≤ 255 := by rw [he1133]; exact own_cb _
    obtain ⟨cl1134, Ar1134, q1134, S1134, N1134, H1134, G1134⟩ := id V1129
    have hin1134 : ¬ ((2 : Int32) < 0 ∨ cl1134.slots.size ≤ ((2 : Int32)).toNatClampNeg) := inb_of S1134 ⟨by decide, by decide⟩
    obtain ⟨T1135, h1135, X1135, e1135, W1135, st1135⟩ := stC X1129 hx hZ e1129 Ar1134 (j := (2 : Int32)) hin1134 (g := (mkF m 52 #[.val (.long qc), .second, .val (.int ps), .val (.int (2 : Int32)), .val (.ref b1117), .unset, .unset, .unset, .unset] [(.int x2), (.int (2 : Int32)), (.ref b1117)])) rfl rfl (hb hby at_52)
    have V1135 : Arv Z h1135 b1117 k1117 .char (5 : Int32) [(.int (nar .char x0)), (.int (nar .char x1)), (.int (nar .char x2)), (.int (0 : Int32)), (.int (0 : Int32))] (.int (0 : Int32)) := Arv.set Ar1134 q1134 S1134 N1134 H1134 G1134 (fits_nar_char x2) W1135 2 rfl (Nat.le_of_ble_eq_true rfl)
    have N1135 := Fr.snoc X1135 N1129 g_b1117
    have Zs1135 : n0 ≤ h1135.size := Nat.le_trans Zs1129 (Keep.of_wr W1135).1
    have KK1135 : Keep h0 h1135 [] := KK1129.wr W1135 (Or.inr sz_b1117)
    have O1135 := O1129.wr W1135 g_b1117
    have f1136 := f1130.wr W1135
    have f1137 := f1131.wr W1135
    have pre1138 : ∀ t, Sp p e below m T1135 66 #[.val (.long qc), .second, .val (.int ps), .val (.int (2 : Int32)), .val (.ref b1117), .unset, .unset, .unset, .unset] [(.int (((((qc.toUInt64 >>> ((24 : Int32) &&& 0x3f).toInt64.toUInt64).toInt64) &&& (255 : Int64)).toInt32).toUInt32.toUInt16.toUInt32.toInt32)), (.int (3 : Int32)), (.ref b1117)] t → Steps p.tables e below G0 t := by
      intro t k
      refine pre1132 t ?_
      show Sp p e below m T1129 52 #[.val (.long qc), .second, .val (.int ps), .val (.int (2 : Int32)), .val (.ref b1117), .unset, .unset, .unset, .unset] [(.int x2), (.int (2 : Int32)), (.ref b1117)] _
      refine st1135 _ ?_
      show Sp p e below m T1135 53 #[.val (.long qc), .second, .val (.int ps), .val (.int (2 : Int32)), .val (.ref b1117), .unset, .unset, .unset, .unset] [] _
      refine XS.aload X1135.here hx rfl (hb hby at_53) rfl rfl ?_
      refine XS.iconst X1135.here hx rfl (hb hby at_55) ?_
      show Sp p e below m T1135 56 #[.val (.long qc), .second, .val (.int ps), .val (.int (2 : Int32)), .val (.ref b1117), .unset, .unset, .unset, .unset] [(.int (3 : Int32)), (.ref b1117)] _
      refine XS.lloadN X1135.here hx rfl (hb hby at_56) rfl ?_
      refine XS.bipush X1135.here hx rfl (hb hby at_57) ?_
      show Sp p e below m T1135 59 #[.val (.long qc), .second, .val (.int ps), .val (.int (2 : Int32)), .val (.ref b1117), .unset, .unset, .unset, .unset] [(.int (24 : Int32)), (.long qc), (.int (3 : Int32)), (.ref b1117)] _
      refine XS.lushr X1135.here hx rfl (hb hby at_59) rfl ?_
      show Sp p e below m T1135 60 #[.val (.long qc), .second, .val (.int ps), .val (.int (2 : Int32)), .val (.ref b1117), .unset, .unset, .unset, .unset] [(.long ((qc.toUInt64 >>> ((24 : Int32) &&& 0x3f).toInt64.toUInt64).toInt64)), (.int (3 : Int32)), (.ref b1117)] _
      refine X1135.ldc2Long hx hown (mvT hZ (H 2 _ rfl)) (g := (mkF m 60 #[.val (.long qc), .second, .val (.int ps), .val (.int (2 : Int32)), .val (.ref b1117), .unset, .unset, .unset, .unset] [(.long ((qc.toUInt64 >>> ((24 : Int32) &&& 0x3f).toInt64.toUInt64).toInt64)), (.int (3 : Int32)), (.ref b1117)])) rfl (hb hby at_60) _ ?_
      show Sp p e below m T1135 63 #[.val (.long qc), .second, .val (.int ps), .val (.int (2 : Int32)), .val (.ref b1117), .unset, .unset, .unset, .unset] [(.long (255 : Int64)), (.long ((qc.toUInt64 >>> ((24 : Int32) &&& 0x3f).toInt64.toUInt64).toInt64)), (.int (3 : Int32)), (.ref b1117)] _
      refine XS.land X1135.here hx rfl (hb hby at_63) rfl ?_
      show Sp p e below m T1135 64 #[.val (.long qc), .second, .val (.int ps), .val (.int (2 : Int32)), .val (.ref b1117), .unset, .unset, .unset, .unset] [(.long (((qc.toUInt64 >>> ((24 : Int32) &&& 0x3f).toInt64.toUInt64).toInt64) &&& (255 : Int64))), (.int (3 : Int32)), (.ref b1117)] _
      refine XS.l2i X1135.here hx rfl (hb hby at_64) rfl ?_
      show Sp p e below m T1135 65 #[.val (.long qc), .second, .val (.int ps), .val (.int (2 : Int32)), .val (.ref b1117), .unset, .unset, .unset, .unset] [(.int ((((qc.toUInt64 >>> ((24 : Int32) &&& 0x3f).toInt64.toUInt64).toInt64) &&& (255 : Int64)).toInt32)), (.int (3 : Int32)), (.ref b1117)] _
      refine XS.i2c X1135.here hx rfl (hb hby at_65) rfl ?_
      exact k
    obtain ⟨x3, he1139⟩ : ∃ z : Int32, z = (((((qc.toUInt64 >>> ((24 : Int32) &&& 0x3f).toInt64.toUInt64).toInt64) &&& (255 : Int64)).toInt32).toUInt32.toUInt16.toUInt32.toInt32) := ⟨_, rfl⟩
    rw [← he1139] at pre1138
    have hb3 : 0 ≤ (nar .char x3).toInt ∧ (nar .char x3).toInt ≤ 255 := by rw [he1139]; exact own_cb _
    obtain ⟨cl1140, Ar1140, q1140, S1140, N1140, H1140, G1140⟩ := id V1135
    have hin1140 : ¬ ((3 : Int32) < 0 ∨ cl1140.slots.size ≤ ((3 : Int32)).toNatClampNeg) := inb_of S1140 ⟨by decide, by decide⟩
    obtain ⟨T1141, h1141, X1141, e1141, W1141, st1141⟩ := stC X1135 hx hZ e1135 Ar1140 (j := (3 : Int32)) hin1140 (g := (mkF m 66 #[.val (.long qc), .second, .val (.int ps), .val (.int (2 : Int32)), .val (.ref b1117), .unset, .unset, .unset, .unset] [(.int x3), (.int (3 : Int32)), (.ref b1117)])) rfl rfl (hb hby at_66)
    have V1141 : Arv Z h1141 b1117 k1117 .char (5 : Int32) [(.int (nar .char x0)), (.int (nar .char x1)), (.int (nar .char x2)), (.int (nar .char x3)), (.int (0 : Int32))] (.int (0 : Int32)) := Arv.set Ar1140 q1140 S1140 N1140 H1140 G1140 (fits_nar_char x3) W1141 3 rfl (Nat.le_of_ble_eq_true rfl)
    have N1141 := Fr.snoc X1141 N1135 g_b1117
    have Zs1141 : n0 ≤ h1141.size := Nat.le_trans Zs1135 (Keep.of_wr W1141).1
    have KK1141 : Keep h0 h1141 [] := KK1135.wr W1141 (Or.inr sz_b1117)
    have O1141 := O1135.wr W1141 g_b1117
    have f1142 := f1136.wr W1141
    have f1143 := f1137.wr W1141
    have pre1144 : ∀ t, Sp p e below m T1141 80 #[.val (.long qc), .second, .val (.int ps), .val (.int (2 : Int32)), .val (.ref b1117), .unset, .unset, .unset, .unset] [(.int (((((qc.toUInt64 >>> ((32 : Int32) &&& 0x3f).toInt64.toUInt64).toInt64) &&& (255 : Int64)).toInt32).toUInt32.toUInt16.toUInt32.toInt32)), (.int (4 : Int32)), (.ref b1117)] t → Steps p.tables e below G0 t := by
      intro t k
      refine pre1138 t ?_
      show Sp p e below m T1135 66 #[.val (.long qc), .second, .val (.int ps), .val (.int (2 : Int32)), .val (.ref b1117), .unset, .unset, .unset, .unset] [(.int x3), (.int (3 : Int32)), (.ref b1117)] _
      refine st1141 _ ?_
      show Sp p e below m T1141 67 #[.val (.long qc), .second, .val (.int ps), .val (.int (2 : Int32)), .val (.ref b1117), .unset, .unset, .unset, .unset] [] _
      refine XS.aload X1141.here hx rfl (hb hby at_67) rfl rfl ?_
      refine XS.iconst X1141.here hx rfl (hb hby at_69) ?_
      show Sp p e below m T1141 70 #[.val (.long qc), .second, .val (.int ps), .val (.int (2 : Int32)), .val (.ref b1117), .unset, .unset, .unset, .unset] [(.int (4 : Int32)), (.ref b1117)] _
      refine XS.lloadN X1141.here hx rfl (hb hby at_70) rfl ?_
      refine XS.bipush X1141.here hx rfl (hb hby at_71) ?_
      show Sp p e below m T1141 73 #[.val (.long qc), .second, .val (.int ps), .val (.int (2 : Int32)), .val (.ref b1117), .unset, .unset, .unset, .unset] [(.int (32 : Int32)), (.long qc), (.int (4 : Int32)), (.ref b1117)] _
      refine XS.lushr X1141.here hx rfl (hb hby at_73) rfl ?_
      show Sp p e below m T1141 74 #[.val (.long qc), .second, .val (.int ps), .val (.int (2 : Int32)), .val (.ref b1117), .unset, .unset, .unset, .unset] [(.long ((qc.toUInt64 >>> ((32 : Int32) &&& 0x3f).toInt64.toUInt64).toInt64)), (.int (4 : Int32)), (.ref b1117)] _
      refine X1141.ldc2Long hx hown (mvT hZ (H 2 _ rfl)) (g := (mkF m 74 #[.val (.long qc), .second, .val (.int ps), .val (.int (2 : Int32)), .val (.ref b1117), .unset, .unset, .unset, .unset] [(.long ((qc.toUInt64 >>> ((32 : Int32) &&& 0x3f).toInt64.toUInt64).toInt64)), (.int (4 : Int32)), (.ref b1117)])) rfl (hb hby at_74) _ ?_
      show Sp p e below m T1141 77 #[.val (.long qc), .second, .val (.int ps), .val (.int (2 : Int32)), .val (.ref b1117), .unset, .unset, .unset, .unset] [(.long (255 : Int64)), (.long ((qc.toUInt64 >>> ((32 : Int32) &&& 0x3f).toInt64.toUInt64).toInt64)), (.int (4 : Int32)), (.ref b1117)] _
      refine XS.land X1141.here hx rfl (hb hby at_77) rfl ?_
      show Sp p e below m T1141 78 #[.val (.long qc), .second, .val (.int ps), .val (.int (2 : Int32)), .val (.ref b1117), .unset, .unset, .unset, .unset] [(.long (((qc.toUInt64 >>> ((32 : Int32) &&& 0x3f).toInt64.toUInt64).toInt64) &&& (255 : Int64))), (.int (4 : Int32)), (.ref b1117)] _
      refine XS.l2i X1141.here hx rfl (hb hby at_78) rfl ?_
      show Sp p e below m T1141 79 #[.val (.long qc), .second, .val (.int ps), .val (.int (2 : Int32)), .val (.ref b1117), .unset, .unset, .unset, .unset] [(.int ((((qc.toUInt64 >>> ((32 : Int32) &&& 0x3f).toInt64.toUInt64).toInt64) &&& (255 : Int64)).toInt32)), (.int (4 : Int32)), (.ref b1117)] _
      refine XS.i2c X1141.here hx rfl (hb hby at_79) rfl ?_
      exact k
    obtain ⟨x4, he1145⟩ : ∃ z : Int32, z = (((((qc.toUInt64 >>> ((32 : Int32) &&& 0x3f).toInt64.toUInt64).toInt64) &&& (255 : Int64)).toInt32).toUInt32.toUInt16.toUInt32.toInt32) := ⟨_, rfl⟩
    rw [← he1145] at pre1144
    have hb4 : 0 ≤ (nar .char x4).toInt ∧ (nar .char x4).toInt ≤ 255 := by rw [he1145]; exact own_cb _
    obtain ⟨Tm1159, hm1159, lm1159, y0, Xm1159, em1159, Nm1159, Zm1159, Km1159, f1160, f1161, f1162, f1163, hv1165, pre1164⟩ : ∃ (Tm1159 : State) (hm1159 : Heap) (lm1159 : List Loc) (y0 : Int32), Stand p l e room_1 s m #[(.long qc), (.int ps)] below meth c Tm1159 lm1159 1 5 ∧ Tm1159.heap = hm1159 ∧ Fr n0 lm1159 ∧ n0 ≤ hm1159.size ∧ Keep h0 hm1159 [] ∧ Old Z n0 hm1159 ∧ Sta Z hm1159 "java/lang/String" "COMPACT_STRINGS" "Z" (.int cs) ∧ Sta Z hm1159 "jdk/internal/util/Preconditions" "SIOOBE_FORMATTER" "Ljava/util/function/BiFunction;" vf ∧ Arv Z hm1159 b1117 k1117 .char (5 : Int32) [(.int y0), (.int (nar .char x1)), (.int (nar .char x2)), (.int (nar .char x3)), (.int (nar .char x4))] (.int (0 : Int32)) ∧ (¬ y0 = 46 ∧ (0 ≤ y0.toInt ∧ y0.toInt ≤ 255)) ∧ ∀ t, Sp p e below m Tm1159 96 #[.val (.long qc), .second, .val (.int ps), .val (.int (2 : Int32)), .val (.ref b1117), .unset, .unset, .unset, .unset] [] t → Steps p.tables e below G0 t := by
      obtain ⟨cl1146, Ar1146, q1146, S1146, N1146, H1146, G1146⟩ := id V1141
      have hin1146 : ¬ ((4 : Int32) < 0 ∨ cl1146.slots.size ≤ ((4 : Int32)).toNatClampNeg) := inb_of S1146 ⟨by decide, by decide⟩
      obtain ⟨T1147, h1147, X1147, e1147, W1147, st1147⟩ := stC X1141 hx hZ e1141 Ar1146 (j := (4 : Int32)) hin1146 (g := (mkF m 80 #[.val (.long qc), .second, .val (.int ps), .val (.int (2 : Int32)), .val (.ref b1117), .unset, .unset, .unset, .unset] [(.int x4), (.int (4 : Int32)), (.ref b1117)])) rfl rfl (hb hby at_80)
      have V1147 : Arv Z h1147 b1117 k1117 .char (5 : Int32) [(.int (nar .char x0)), (.int (nar .char x1)), (.int (nar .char x2)), (.int (nar .char x3)), (.int (nar .char x4))] (.int (0 : Int32)) := Arv.set Ar1146 q1146 S1146 N1146 H1146 G1146 (fits_nar_char x4) W1147 4 rfl (Nat.le_of_ble_eq_true rfl)
      have N1147 := Fr.snoc X1147 N1141 g_b1117
      have Zs1147 : n0 ≤ h1147.size := Nat.le_trans Zs1141 (Keep.of_wr W1147).1
      have KK1147 : Keep h0 h1147 [] := KK1141.wr W1147 (Or.inr sz_b1117)
      have O1147 := O1141.wr W1147 g_b1117
      have f1148 := f1142.wr W1147
      have f1149 := f1143.wr W1147
      obtain ⟨cl1150, Ar1150, -, S1150, -, H1150, -⟩ := id V1147
      have hin1150 : ¬ ((0 : Int32) < 0 ∨ cl1150.slots.size ≤ ((0 : Int32)).toNatClampNeg) := inb_of S1150 ⟨by decide, by decide⟩
      have hat1150 : cl1150.slots[((0 : Int32)).toNatClampNeg]? = some (.int (nar .char x0)) := H1150.at hin1150 rfl
      have pre1151 : ∀ t, Sp p e below m T1147 87 #[.val (.long qc), .second, .val (.int ps), .val (.int (2 : Int32)), .val (.ref b1117), .unset, .unset, .unset, .unset] [(.int (46 : Int32)), (.int (nar .char x0))] t → Steps p.tables e below G0 t := by
        intro t k
        refine pre1144 t ?_
        show Sp p e below m T1141 80 #[.val (.long qc), .second, .val (.int ps), .val (.int (2 : Int32)), .val (.ref b1117), .unset, .unset, .unset, .unset] [(.int x4), (.int (4 : Int32)), (.ref b1117)] _
        refine st1147 _ ?_
        show Sp p e below m T1147 81 #[.val (.long qc), .second, .val (.int ps), .val (.int (2 : Int32)), .val (.ref b1117), .unset, .unset, .unset, .unset] [] _
        refine XS.aload X1147.here hx rfl (hb hby at_81) rfl rfl ?_
        refine XS.iconst X1147.here hx rfl (hb hby at_83) ?_
        show Sp p e below m T1147 84 #[.val (.long qc), .second, .val (.int ps), .val (.int (2 : Int32)), .val (.ref b1117), .unset, .unset, .unset, .unset] [(.int (0 : Int32)), (.ref b1117)] _
        refine X1147.caload hx (j := (0 : Int32)) (v := (.int (nar .char x0))) (by rw [e1147]; exact Ar1150.1) (State.isArrayOf_alike hZ.alike Ar1150.2.1) Ar1150.2.2 hin1150 hat1150 (g := (mkF m 84 #[.val (.long qc), .second, .val (.int ps), .val (.int (2 : Int32)), .val (.ref b1117), .unset, .unset, .unset, .unset] [(.int (0 : Int32)), (.ref b1117)])) rfl rfl (hb hby at_84) _ ?_
        show Sp p e below m T1147 85 #[.val (.long qc), .second, .val (.int ps), .val (.int (2 : Int32)), .val (.ref b1117), .unset, .unset, .unset, .unset] [(.int (nar .char x0))] _
        refine XS.bipush X1147.here hx rfl (hb hby at_85) ?_
        exact k
      by_cases hc87_1152 : (nar .char x0) = (46 : Int32)
      · obtain ⟨cl1153, Ar1153, q1153, S1153, N1153, H1153, G1153⟩ := id V1147
        have hin1153 : ¬ ((0 : Int32) < 0 ∨ cl1153.slots.size ≤ ((0 : Int32)).toNatClampNeg) := inb_of S1153 ⟨by decide, by decide⟩
        obtain ⟨T1154, h1154, X1154, e1154, W1154, st1154⟩ := stC X1147 hx hZ e1147 Ar1153 (j := (0 : Int32)) hin1153 (g := (mkF m 95 #[.val (.long qc), .second, .val (.int ps), .val (.int (2 : Int32)), .val (.ref b1117), .unset, .unset, .unset, .unset] [(.int (47 : Int32)), (.int (0 : Int32)), (.ref b1117)])) rfl rfl (hb hby at_95)
        have V1154 : Arv Z h1154 b1117 k1117 .char (5 : Int32) [(.int (47 : Int32)), (.int (nar .char x1)), (.int (nar .char x2)), (.int (nar .char x3)), (.int (nar .char x4))] (.int (0 : Int32)) := Arv.set Ar1153 q1153 S1153 N1153 H1153 G1153 (fits_nar_char (47 : Int32)) W1154 0 rfl (Nat.le_of_ble_eq_true rfl)
        have N1154 := Fr.snoc X1154 N1147 g_b1117
        have Zs1154 : n0 ≤ h1154.size := Nat.le_trans Zs1147 (Keep.of_wr W1154).1
        have KK1154 : Keep h0 h1154 [] := KK1147.wr W1154 (Or.inr sz_b1117)
        have O1154 := O1147.wr W1154 g_b1117
        have f1155 := f1148.wr W1154
        have f1156 := f1149.wr W1154
        have pre1157 : ∀ t, Sp p e below m T1154 96 #[.val (.long qc), .second, .val (.int ps), .val (.int (2 : Int32)), .val (.ref b1117), .unset, .unset, .unset, .unset] [] t → Steps p.tables e below G0 t := by
          intro t k
          refine pre1151 t ?_
          show Sp p e below m T1147 87 #[.val (.long qc), .second, .val (.int ps), .val (.int (2 : Int32)), .val (.ref b1117), .unset, .unset, .unset, .unset] [(.int (46 : Int32)), (.int (nar .char x0))] _
          refine XS.icmpNo X1147.here hx rfl (hb hby at_87) rfl (teq hc87_1152).2 ?_
          show Sp p e below m T1147 90 #[.val (.long qc), .second, .val (.int ps), .val (.int (2 : Int32)), .val (.ref b1117), .unset, .unset, .unset, .unset] [] _
          refine XS.aload X1147.here hx rfl (hb hby at_90) rfl rfl ?_
          refine XS.iconst X1147.here hx rfl (hb hby at_92) ?_
          show Sp p e below m T1147 93 #[.val (.long qc), .second, .val (.int ps), .val (.int (2 : Int32)), .val (.ref b1117), .unset, .unset, .unset, .unset] [(.int (0 : Int32)), (.ref b1117)] _
          refine XS.bipush X1147.here hx rfl (hb hby at_93) ?_
          refine st1154 _ ?_
          exact k
        exact ⟨T1154, h1154, _, (47 : Int32), X1154, e1154, N1154, Zs1154, KK1154, O1154, f1155, f1156, V1154, (by exact ⟨by decide, by decide⟩), pre1157⟩
      · have pre1158 : ∀ t, Sp p e below m T1147 96 #[.val (.long qc), .second, .val (.int ps), .val (.int (2 : Int32)), .val (.ref b1117), .unset, .unset, .unset, .unset] [] t → Steps p.tables e below G0 t := by
          intro t k
          refine pre1151 t ?_
          show Sp p e below m T1147 87 #[.val (.long qc), .second, .val (.int ps), .val (.int (2 : Int32)), .val (.ref b1117), .unset, .unset, .unset, .unset] [(.int (46 : Int32)), (.int (nar .char x0))] _
          refine XS.icmpYes X1147.here hx rfl (pc0 := 87) (pc' := 96) rfl (hb hby at_87) rfl (feq hc87_1152).2 (by decide) (by decide) ?_
          exact k
        exact ⟨T1147, h1147, _, (nar .char x0), X1147, e1147, N1147, Zs1147, KK1147, O1147, f1148, f1149, V1147, (by exact ⟨hc87_1152, hb0⟩), pre1158⟩
    obtain ⟨Tm1175, hm1175, lm1175, y1, Xm1175, em1175, Nm1175, Zm1175, Km1175, f1176, f1177, f1178, f1179, hv1181, pre1180⟩ : ∃ (Tm1175 : State) (hm1175 : Heap) (lm1175 : List Loc) (y1 : Int32), Stand p l e room_1 s m #[(.long qc), (.int ps)] below meth c Tm1175 lm1175 1 5 ∧ Tm1175.heap = hm1175 ∧ Fr n0 lm1175 ∧ n0 ≤ hm1175.size ∧ Keep h0 hm1175 [] ∧ Old Z n0 hm1175 ∧ Sta Z hm1175 "java/lang/String" "COMPACT_STRINGS" "Z" (.int cs) ∧ Sta Z hm1175 "jdk/internal/util/Preconditions" "SIOOBE_FORMATTER" "Ljava/util/function/BiFunction;" vf ∧ Arv Z hm1175 b1117 k1117 .char (5 : Int32) [(.int y0), (.int y1), (.int (nar .char x2)), (.int (nar .char x3)), (.int (nar .char x4))] (.int (0 : Int32)) ∧ (¬ y1 = 46 ∧ (0 ≤ y1.toInt ∧ y1.toInt ≤ 255)) ∧ ∀ t, Sp p e below m Tm1175 116 #[.val (.long qc), .second, .val (.int ps), .val (.int (2 : Int32)), .val (.ref b1117), .unset, .unset, .unset, .unset] [] t → Steps p.tables e below G0 t := by
      obtain ⟨cl1166, Ar1166, -, S1166, -, H1166, -⟩ := id f1163
      have hin1166 : ¬ ((1 : Int32) < 0 ∨ cl1166.slots.size ≤ ((1 : Int32)).toNatClampNeg) := inb_of S1166 ⟨by decide, by decide⟩
      have hat1166 : cl1166.slots[((1 : Int32)).toNatClampNeg]? = some (.int (nar .char x1)) := H1166.at hin1166 rfl
      have pre1167 : ∀ t, Sp p e below m Tm1159 107 #[.val (.long qc), .second, .val (.int ps), .val (.int (2 : Int32)), .val (.ref b1117), .unset, .unset, .unset, .unset] [(.int (46 : Int32)), (.int (nar .char x1))] t → Steps p.tables e below G0 t := by
        intro t k
        refine pre1164 t ?_
        show Sp p e below m Tm1159 96 #[.val (.long qc), .second, .val (.int ps), .val (.int (2 : Int32)), .val (.ref b1117), .unset, .unset, .unset, .unset] [] _
        refine XS.iloadN Xm1159.here hx rfl (hb hby at_96) rfl ?_
        refine XS.iconst Xm1159.here hx rfl (hb hby at_97) ?_
        show Sp p e below m Tm1159 98 #[.val (.long qc), .second, .val (.int ps), .val (.int (2 : Int32)), .val (.ref b1117), .unset, .unset, .unset, .unset] [(.int (1 : Int32)), (.int (2 : Int32))] _
        refine XS.icmpNo Xm1159.here hx rfl (hb hby at_98) rfl (tlt (by decide : ((1 : Int32) < (2 : Int32)))).2.2.2 ?_
        show Sp p e below m Tm1159 101 #[.val (.long qc), .second, .val (.int ps), .val (.int (2 : Int32)), .val (.ref b1117), .unset, .unset, .unset, .unset] [] _
        refine XS.aload Xm1159.here hx rfl (hb hby at_101) rfl rfl ?_
        refine XS.iconst Xm1159.here hx rfl (hb hby at_103) ?_
        show Sp p e below m Tm1159 104 #[.val (.long qc), .second, .val (.int ps), .val (.int (2 : Int32)), .val (.ref b1117), .unset, .unset, .unset, .unset] [(.int (1 : Int32)), (.ref b1117)] _
        refine Xm1159.caload hx (j := (1 : Int32)) (v := (.int (nar .char x1))) (by rw [em1159]; exact Ar1166.1) (State.isArrayOf_alike hZ.alike Ar1166.2.1) Ar1166.2.2 hin1166 hat1166 (g := (mkF m 104 #[.val (.long qc), .second, .val (.int ps), .val (.int (2 : Int32)), .val (.ref b1117), .unset, .unset, .unset, .unset] [(.int (1 : Int32)), (.ref b1117)])) rfl rfl (hb hby at_104) _ ?_
        show Sp p e below m Tm1159 105 #[.val (.long qc), .second, .val (.int ps), .val (.int (2 : Int32)), .val (.ref b1117), .unset, .unset, .unset, .unset] [(.int (nar .char x1))] _
        refine XS.bipush Xm1159.here hx rfl (hb hby at_105) ?_
        exact k
      by_cases hc107_1168 : (nar .char x1) = (46 : Int32)
      · obtain ⟨cl1169, Ar1169, q1169, S1169, N1169, H1169, G1169⟩ := id f1163
        have hin1169 : ¬ ((1 : Int32) < 0 ∨ cl1169.slots.size ≤ ((1 : Int32)).toNatClampNeg) := inb_of S1169 ⟨by decide, by decide⟩
        obtain ⟨T1170, h1170, X1170, e1170, W1170, st1170⟩ := stC Xm1159 hx hZ em1159 Ar1169 (j := (1 : Int32)) hin1169 (g := (mkF m 115 #[.val (.long qc), .second, .val (.int ps), .val (.int (2 : Int32)), .val (.ref b1117), .unset, .unset, .unset, .unset] [(.int (47 : Int32)), (.int (1 : Int32)), (.ref b1117)])) rfl rfl (hb hby at_115)
        have V1170 : Arv Z h1170 b1117 k1117 .char (5 : Int32) [(.int y0), (.int (47 : Int32)), (.int (nar .char x2)), (.int (nar .char x3)), (.int (nar .char x4))] (.int (0 : Int32)) := Arv.set Ar1169 q1169 S1169 N1169 H1169 G1169 (fits_nar_char (47 : Int32)) W1170 1 rfl (Nat.le_of_ble_eq_true rfl)
        have N1170 := Fr.snoc X1170 Nm1159 g_b1117
        have Zs1170 : n0 ≤ h1170.size := Nat.le_trans Zm1159 (Keep.of_wr W1170).1
        have KK1170 : Keep h0 h1170 [] := Km1159.wr W1170 (Or.inr sz_b1117)
        have O1170 := f1160.wr W1170 g_b1117
        have f1171 := f1161.wr W1170
        have f1172 := f1162.wr W1170
        have pre1173 : ∀ t, Sp p e below m T1170 116 #[.val (.long qc), .second, .val (.int ps), .val (.int (2 : Int32)), .val (.ref b1117), .unset, .unset, .unset, .unset] [] t → Steps p.tables e below G0 t := by
          intro t k
          refine pre1167 t ?_
          show Sp p e below m Tm1159 107 #[.val (.long qc), .second, .val (.int ps), .val (.int (2 : Int32)), .val (.ref b1117), .unset, .unset, .unset, .unset] [(.int (46 : Int32)), (.int (nar .char x1))] _
          refine XS.icmpNo Xm1159.here hx rfl (hb hby at_107) rfl (teq hc107_1168).2 ?_
          show Sp p e below m Tm1159 110 #[.val (.long qc), .second, .val (.int ps), .val (.int (2 : Int32)), .val (.ref b1117), .unset, .unset, .unset, .unset] [] _
          refine XS.aload Xm1159.here hx rfl (hb hby at_110) rfl rfl ?_
          refine XS.iconst Xm1159.here hx rfl (hb hby at_112) ?_
          show Sp p e below m Tm1159 113 #[.val (.long qc), .second, .val (.int ps), .val (.int (2 : Int32)), .val (.ref b1117), .unset, .unset, .unset, .unset] [(.int (1 : Int32)), (.ref b1117)] _
          refine XS.bipush Xm1159.here hx rfl (hb hby at_113) ?_
          refine st1170 _ ?_
          exact k
        exact ⟨T1170, h1170, _, (47 : Int32), X1170, e1170, N1170, Zs1170, KK1170, O1170, f1171, f1172, V1170, (by exact ⟨by decide, by decide⟩), pre1173⟩
      · have pre1174 : ∀ t, Sp p e below m Tm1159 116 #[.val (.long qc), .second, .val (.int ps), .val (.int (2 : Int32)), .val (.ref b1117), .unset, .unset, .unset, .unset] [] t → Steps p.tables e below G0 t := by
          intro t k
          refine pre1167 t ?_
          show Sp p e below m Tm1159 107 #[.val (.long qc), .second, .val (.int ps), .val (.int (2 : Int32)), .val (.ref b1117), .unset, .unset, .unset, .unset] [(.int (46 : Int32)), (.int (nar .char x1))] _
          refine XS.icmpYes Xm1159.here hx rfl (pc0 := 107) (pc' := 116) rfl (hb hby at_107) rfl (feq hc107_1168).2 (by decide) (by decide) ?_
          exact k
        exact ⟨Tm1159, hm1159, _, (nar .char x1), Xm1159, em1159, Nm1159, Zm1159, Km1159, f1160, f1161, f1162, f1163, (by exact ⟨hc107_1168, hb1⟩), pre1174⟩
    obtain ⟨cl1182, Ar1182, q1182, S1182, N1182, H1182, G1182⟩ := id f1179
    have hin1182 : ¬ ((2 : Int32) < 0 ∨ cl1182.slots.size ≤ ((2 : Int32)).toNatClampNeg) := inb_of S1182 ⟨by decide, by decide⟩
    obtain ⟨T1183, h1183, X1183, e1183, W1183, st1183⟩ := stC Xm1175 hx hZ em1175 Ar1182 (j := (2 : Int32)) hin1182 (g := (mkF m 141 #[.val (.long qc), .second, .val (.int ps), .val (.int (2 : Int32)), .val (.ref b1117), .unset, .unset, .unset, .unset] [(.int (46 : Int32)), (.int (2 : Int32)), (.ref b1117)])) rfl rfl (hb hby at_141)
    have V1183 : Arv Z h1183 b1117 k1117 .char (5 : Int32) [(.int y0), (.int y1), (.int (46 : Int32)), (.int (nar .char x3)), (.int (nar .char x4))] (.int (0 : Int32)) := Arv.set Ar1182 q1182 S1182 N1182 H1182 G1182 (fits_nar_char (46 : Int32)) W1183 2 rfl (Nat.le_of_ble_eq_true rfl)
    have N1183 := Fr.snoc X1183 Nm1175 g_b1117
    have Zs1183 : n0 ≤ h1183.size := Nat.le_trans Zm1175 (Keep.of_wr W1183).1
    have KK1183 : Keep h0 h1183 [] := Km1175.wr W1183 (Or.inr sz_b1117)
    have O1183 := f1176.wr W1183 g_b1117
    have f1184 := f1177.wr W1183
    have f1185 := f1178.wr W1183
    obtain ⟨T1186, h1186, X1186, e1186, E1186, A1186, D1186, -, st1186⟩ := newO X1183 hx hZ hown (H 3 _ rfl) (H 4 _ rfl) (H 5 _ rfl) e1183 (g := (mkF m 142 #[.val (.long qc), .second, .val (.int ps), .val (.int (2 : Int32)), .val (.ref b1117), .unset, .unset, .unset, .unset] [])) rfl (hb hby at_142) (by decide) (by decide)
    obtain ⟨b1186, g1186⟩ : ∃ z, z = h1183.size := ⟨_, rfl⟩
    rw [← g1186] at A1186 D1186 st1186
    have g_b1186 : n0 ≤ b1186 := Nat.le_trans Zs1183 (Nat.le_of_eq g1186.symm)
    have sz_b1186 : h0.size ≤ b1186 := Nat.le_trans KK1183.1 (Nat.le_of_eq g1186.symm)
    have lt_b1117_b1186 : b1117 < b1186 := Nat.lt_of_lt_of_le V1183.lt (Nat.le_of_eq g1186.symm)
    have ne_b1117_b1186 : b1117 ≠ b1186 := Nat.ne_of_lt lt_b1117_b1186
    have Zs1186 : n0 ≤ h1186.size := Nat.le_trans Zs1183 E1186.1
    have KK1186 : Keep h0 h1186 [] := KK1183.ext E1186
    have O1186 := O1183.ext E1186
    have f1187 := f1184.ext E1186
    have f1188 := f1185.ext E1186
    have f1189 := V1183.ext E1186
    have f1190 : Fld Z h1186 b1186 "java/lang/String" "coder" "B" (.int (0 : Int32)) := D1186 (Or.inr (H 29 _ rfl)) (ty := .byte) (by decide)
    have f1191 : Fld Z h1186 b1186 "java/lang/String" "value" "[B" .null := D1186 (Or.inr (H 31 _ rfl)) (ty := (.array .byte)) (by decide)
    obtain ⟨_, _, ⟨T1192, L1192, k1192, n1192⟩, -, X1192, ⟨Lc1192, hQ1192, l1192, y1192, z1192⟩, st1192⟩ := X1186.specialBack hx (y := (⟨"java/lang/String", "<init>", "([C)V"⟩ : MethodName)) rfl hown (mvT hZ (H 6 _ rfl)) (mvT hZ (H 7 _ rfl)) (mvT hZ (H 8 _ rfl)) (by decide) (backOf (W := 1) (rm1n5 l Z a0 hw [] b1186 b1117 cs vf k1117 y0 y1 (46 : Int32) (nar .char x3) (nar .char x4) h1186 n0 Zs1186 O1186 Scs hcs Ssf hvf A1186 f1191 f1190 g_b1186 f1189 (Ne.symm ne_b1117_b1186) hv1165.2 hv1181.2 (by decide) hb3 hb4) hZ (H 8 _ rfl) (H 5 _ rfl) (by decide) (by decide)) (g := (mkF m 148 #[.val (.long qc), .second, .val (.int ps), .val (.int (2 : Int32)), .val (.ref b1117), .unset, .unset, .unset, .unset] [(.ref b1117), (.ref b1186), (.ref b1186)])) rfl (by rw [hml]; rfl) (Steps.refl _) (a := b1186) (argsL := [(.ref b1117)]) (rest := [(.ref b1186)]) (lenOf own_pd405 rfl) rfl (Nat.le_of_eq rfl) (hb hby at_148) (fun _ _ => ⟨rfl, e1186, (by decide : 2 + 1 ≤ _), (by decide : 9 + 5 ≤ _)⟩)
    dsimp only [Pt.U, Pt.locs, Pt.cells, Pt.slots] at X1192 l1192 y1192 z1192 st1192 hQ1192
    rw [l1192, y1192, z1192] at X1192
    clear l1192 y1192 z1192
    obtain ⟨rrb_1192, rrk_1192, rfl, Nq1192, K1192, p1192_0, p1192_1, p1192_2, p1192_3, p1192_4, p1192_5⟩ := hQ1192
    have N1192 := Fr.app N1183 Nq1192
    have Zs1192 : n0 ≤ T1192.heap.size := Nat.le_trans Zs1186 K1192.1
    have KK1192 : Keep h0 T1192.heap [] := KK1186.trans K1192 (allS (Or.inr sz_b1186) all0)
    have ne_b1117_rrb_1192 : b1117 ≠ rrb_1192 := Nat.ne_of_lt (Nat.lt_of_lt_of_le f1189.lt p1192_5)
    have ne_b1186_rrb_1192 : b1186 ≠ rrb_1192 := Nat.ne_of_lt (Nat.lt_of_lt_of_le A1186.lt p1192_5)
    have sz_rrb_1192 : h0.size ≤ rrb_1192 := Nat.le_trans KK1186.1 p1192_5
    have O1192 := O1186.keep K1192 (allS g_b1186 all0)
    have f1193 := Scs.ext O1192.2
    have f1194 := Ssf.ext O1192.2
    have f1195 := f1189.keep K1192 (ninS ne_b1117_b1186 nin0)
    have f1196 := A1186.keep K1192
    have g_rrb_1192 := p1192_4
    obtain ⟨_, _, ⟨T1197, L1197, k1197, n1197⟩, -, X1197, ⟨Lc1197, hQ1197, l1197, y1197, z1197⟩, st1197⟩ := Jvm.LawKit.callS X1192 hx (y := (⟨"com/example/tideline/tideline/model/TableName", "parse", "(Ljava/lang/String;)Lcom/example/tideline/tideline/model/TableName;"⟩ : MethodName)) hown (mvT hZ (H 32 _ rfl)) (mvT hZ (H 33 _ rfl)) (mvT hZ (H 34 _ rfl)) (mvT hZ (H 35 _ rfl)) (by decide) (backOf (W := 0) (rm7d2 l Z a0 hw [] b1186 cs vf rrb_1192 rrk_1192 (nar .byte (y0.toInt8.toInt32)) (nar .byte (y1.toInt8.toInt32)) (nar .byte ((46 : Int32).toInt8.toInt32)) (nar .byte ((nar .char x3).toInt8.toInt32)) (nar .byte ((nar .char x4).toInt8.toInt32)) T1192.heap n0 Zs1192 O1192 Scs hcs Ssf hvf p1192_0 p1192_1 p1192_2 p1192_3 (by unfold own_find5; rw [if_neg (own_ne46 (hv1165.2) (hv1165.1)), if_neg (own_ne46 (hv1181.2) (hv1181.1)), if_pos (by decide)])) hZ (H 35 _ rfl) (H 34 _ rfl) (by decide) (by decide)) (g := (mkF m 151 #[.val (.long qc), .second, .val (.int ps), .val (.int (2 : Int32)), .val (.ref b1117), .unset, .unset, .unset, .unset] [(.ref b1186)])) rfl (by rw [hml]; rfl) (argsL := [(.ref b1186)]) (rest := []) (lenOf own_pd406 rfl) rfl (Nat.le_of_eq rfl) (hb hby at_151) (fun _ _ => ⟨rfl, rfl, (by decide : 3 + 5 ≤ _), (by decide : 14 + 14 ≤ _)⟩)
    dsimp only [Pt.U, Pt.locs, Pt.cells, Pt.slots] at X1197 l1197 y1197 z1197 st1197 hQ1197
    rw [l1197, y1197, z1197] at X1197
    clear l1197 y1197 z1197
    obtain ⟨rtn_1197, rs1_1197, rb1_1197, rk1_1197, rs2_1197, rb2_1197, rk2_1197, rfl, Nq1197, K1197, p1197_0, p1197_1, p1197_2, p1197_3, p1197_4, p1197_5, p1197_6, p1197_7, p1197_8, p1197_9, p1197_10⟩ := hQ1197
    have N1197 := Fr.app N1192 Nq1197
    have Zs1197 : n0 ≤ T1197.heap.size := Nat.le_trans Zs1192 K1197.1
    have KK1197 : Keep h0 T1197.heap [] := KK1192.trans K1197 all0
    have O1197 := O1192.keep K1197 (all0)
    have f1198 := Scs.ext O1197.2
    have f1199 := Ssf.ext O1197.2
    have f1200 := f1195.keep K1197 nin0
    have f1201 := p1192_0.keep K1197
    have f1202 := p1192_1.keep K1197 nin0
    have f1203 := p1192_2.keep K1197 nin0
    have f1204 := p1192_3.keep K1197 nin0
    obtain ⟨cq1205, kq1205, q1205a, q1205b, q1205c⟩ := isOf hZ rfl p1197_0
    obtain ⟨_, _, ⟨T1205, L1205, k1205, n1205⟩, -, X1205, ⟨Lc1205, hQ1205, l1205, y1205, z1205⟩, st1205⟩ := X1197.virtualBack hx (y := (⟨"com/example/tideline/tideline/model/TableName", "schema", "()Ljava/lang/String;"⟩ : MethodName)) (z := (⟨"com/example/tideline/tideline/model/TableName", "schema", "()Ljava/lang/String;"⟩ : MethodName)) hown (mvT hZ (H 135 _ rfl)) (mvT hZ (H 136 _ rfl)) (notFace_of_selects (args := #[]) (mvT hZ (H 138 _ rfl))) (mvT hZ (H 138 _ rfl)) (mvT hZ (H 137 _ rfl)) (by decide) (backOf (W := 0) (rm29 l Z a0 hw [] rtn_1197 rs1_1197 T1197.heap n0 Zs1197 p1197_1) hZ (H 139 _ rfl) (H 34 _ rfl) (by decide) (by decide)) q1205a q1205c (g := (mkF m 158 #[.val (.long qc), .second, .val (.int ps), .val (.int (2 : Int32)), .val (.ref b1117), .val (.ref rtn_1197), .unset, .unset, .unset] [(.ref rtn_1197)])) rfl (by rw [hml]; rfl) (Steps.refl _) (argsL := []) (rest := []) (lenOf own_pd407 rfl) rfl (Nat.le_of_eq rfl) (hb hby at_158) (fun _ _ => ⟨rfl, rfl, (by decide : 8 + 0 ≤ _), (by decide : 28 + 0 ≤ _)⟩)
    dsimp only [Pt.U, Pt.locs, Pt.cells, Pt.slots] at X1205 l1205 y1205 z1205 st1205 hQ1205
    rw [l1205, y1205, z1205] at X1205
    clear l1205 y1205 z1205
    obtain ⟨rfl, Nq1205, e1205⟩ := hQ1205
    have N1205 := Fr.app N1197 Nq1205
    obtain ⟨cq1206, kq1206, q1206a, q1206b, q1206c⟩ := isOf hZ e1205 p1197_0
    obtain ⟨_, _, ⟨T1206, L1206, k1206, n1206⟩, -, X1206, ⟨Lc1206, hQ1206, l1206, y1206, z1206⟩, st1206⟩ := X1205.virtualBack hx (y := (⟨"com/example/tideline/tideline/model/TableName", "table", "()Ljava/lang/String;"⟩ : MethodName)) (z := (⟨"com/example/tideline/tideline/model/TableName", "table", "()Ljava/lang/String;"⟩ : MethodName)) hown (mvT hZ (H 140 _ rfl)) (mvT hZ (H 141 _ rfl)) (notFace_of_selects (args := #[]) (mvT hZ (H 143 _ rfl))) (mvT hZ (H 143 _ rfl)) (mvT hZ (H 142 _ rfl)) (by decide) (backOf (W := 0) (rm30 l Z a0 hw [] rtn_1197 rs2_1197 T1197.heap n0 Zs1197 p1197_2) hZ (H 144 _ rfl) (H 34 _ rfl) (by decide) (by decide)) q1206a q1206c (g := (mkF m 165 #[.val (.long qc), .second, .val (.int ps), .val (.int (2 : Int32)), .val (.ref b1117), .val (.ref rtn_1197), .val (.ref rs1_1197), .unset, .unset] [(.ref rtn_1197)])) rfl (by rw [hml]; rfl) (Steps.refl _) (argsL := []) (rest := []) (lenOf own_pd407 rfl) rfl (Nat.le_of_eq rfl) (hb hby at_165) (fun _ _ => ⟨rfl, e1205, (by decide : 8 + 0 ≤ _), (by decide : 28 + 0 ≤ _)⟩)
    dsimp only [Pt.U, Pt.locs, Pt.cells, Pt.slots] at X1206 l1206 y1206 z1206 st1206 hQ1206
    rw [l1206, y1206, z1206] at X1206
    clear l1206 y1206 z1206
    obtain ⟨rfl, Nq1206, e1206⟩ := hQ1206
    have N1206 := Fr.app N1205 Nq1206
    obtain ⟨cq1207, kq1207, q1207a, q1207b, q1207c⟩ := isOf hZ e1206 p1197_3
    obtain ⟨_, _, ⟨T1207, L1207, k1207, n1207⟩, -, X1207, ⟨Lc1207, hQ1207, l1207, y1207, z1207⟩, st1207⟩ := X1206.virtualBack hx (y := (⟨"java/lang/String", "length", "()I"⟩ : MethodName)) (z := (⟨"java/lang/String", "length", "()I"⟩ : MethodName)) hown (mvT hZ (H 145 _ rfl)) (mvT hZ (H 52 _ rfl)) (notFace_of_selects (args := #[]) (mvT hZ (H 54 _ rfl))) (mvT hZ (H 54 _ rfl)) (mvT hZ (H 53 _ rfl)) (by decide) (backOf (W := 0) (rm11 l Z a0 hw [] rs1_1197 cs vf rb1_1197 rk1_1197 (2 : Int32) [(.int (nar .byte (y0.toInt8.toInt32))), (.int (nar .byte (y1.toInt8.toInt32)))] T1197.heap n0 Zs1197 O1197 Scs hcs Ssf hvf p1197_3 p1197_4 p1197_5 p1197_6) hZ (H 55 _ rfl) (H 5 _ rfl) (by decide) (by decide)) q1207a q1207c (g := (mkF m 177 #[.val (.long qc), .second, .val (.int ps), .val (.int (2 : Int32)), .val (.ref b1117), .val (.ref rtn_1197), .val (.ref rs1_1197), .val (.ref rs2_1197), .val (.int (2 : Int32))] [(.ref rs1_1197)])) rfl (by rw [hml]; rfl) (Steps.refl _) (argsL := []) (rest := []) (lenOf own_pd214 rfl) rfl (Nat.le_of_eq rfl) (hb hby at_177) (fun _ _ => ⟨rfl, e1206, (by decide : 8 + 0 ≤ _), (by decide : 28 + 0 ≤ _)⟩)
    dsimp only [Pt.U, Pt.locs, Pt.cells, Pt.slots] at X1207 l1207 y1207 z1207 st1207 hQ1207
    rw [l1207, y1207, z1207] at X1207
    clear l1207 y1207 z1207
    obtain ⟨rfl, Nq1207, e1207⟩ := hQ1207
    have N1207 := Fr.app N1206 Nq1207
    obtain ⟨cq1208, kq1208, q1208a, q1208b, q1208c⟩ := isOf hZ e1207 p1197_7
    obtain ⟨_, _, ⟨T1208, L1208, k1208, n1208⟩, -, X1208, ⟨Lc1208, hQ1208, l1208, y1208, z1208⟩, st1208⟩ := X1207.virtualBack hx (y := (⟨"java/lang/String", "length", "()I"⟩ : MethodName)) (z := (⟨"java/lang/String", "length", "()I"⟩ : MethodName)) hown (mvT hZ (H 145 _ rfl)) (mvT hZ (H 52 _ rfl)) (notFace_of_selects (args := #[]) (mvT hZ (H 54 _ rfl))) (mvT hZ (H 54 _ rfl)) (mvT hZ (H 53 _ rfl)) (by decide) (backOf (W := 0) (rm11 l Z a0 hw [] rs2_1197 cs vf rb2_1197 rk2_1197 (2 : Int32) [(.int (nar .byte ((nar .char x3).toInt8.toInt32))), (.int (nar .byte ((nar .char x4).toInt8.toInt32)))] T1197.heap n0 Zs1197 O1197 Scs hcs Ssf hvf p1197_7 p1197_8 p1197_9 p1197_10) hZ (H 55 _ rfl) (H 5 _ rfl) (by decide) (by decide)) q1208a q1208c (g := (mkF m 186 #[.val (.long qc), .second, .val (.int ps), .val (.int (2 : Int32)), .val (.ref b1117), .val (.ref rtn_1197), .val (.ref rs1_1197), .val (.ref rs2_1197), .val (.int (2 : Int32))] [(.ref rs2_1197)])) rfl (by rw [hml]; rfl) (Steps.refl _) (argsL := []) (rest := []) (lenOf own_pd214 rfl) rfl (Nat.le_of_eq rfl) (hb hby at_186) (fun _ _ => ⟨rfl, e1207, (by decide : 8 + 0 ≤ _), (by decide : 28 + 0 ≤ _)⟩)
    dsimp only [Pt.U, Pt.locs, Pt.cells, Pt.slots] at X1208 l1208 y1208 z1208 st1208 hQ1208
    rw [l1208, y1208, z1208] at X1208
    clear l1208 y1208 z1208
    obtain ⟨rfl, Nq1208, e1208⟩ := hQ1208
    have N1208 := Fr.app N1207 Nq1208
    obtain ⟨_, _, ⟨T1209, L1209, k1209, n1209⟩, -, X1209, ⟨Lc1209, hQ1209, l1209, y1209, z1209⟩, st1209⟩ := Jvm.LawKit.callS X1208 hx (y := (⟨"com/example/tideline/tideline/model/TableNameParsePinLaw", "at", "(Ljava/lang/String;II[CI)Z"⟩ : MethodName)) hown (mvT hZ (H 146 _ rfl)) (mvT hZ (H 147 _ rfl)) (mvT hZ (H 148 _ rfl)) (mvT hZ (H 149 _ rfl)) (by decide) (backOf (W := 0) (rm31l l Z a0 hw [] rs1_1197 (0 : Int32) (2 : Int32) b1117 (0 : Int32) cs vf rb1_1197 rk1_1197 (2 : Int32) [(.int (nar .byte (y0.toInt8.toInt32))), (.int (nar .byte (y1.toInt8.toInt32)))] (nar .byte (y0.toInt8.toInt32)) k1117 (5 : Int32) [(.int y0), (.int y1), (.int (46 : Int32)), (.int (nar .char x3)), (.int (nar .char x4))] y0 T1197.heap n0 Zs1197 O1197 Scs hcs Ssf hvf p1197_3 p1197_4 p1197_5 p1197_6 (by decide) (by decide) (by decide) rfl f1200 (by decide) rfl (own_rt _ (hv1165.2))) hZ (H 149 _ rfl) (H 148 _ rfl) (by decide) (by decide)) (g := (mkF m 203 #[.val (.long qc), .second, .val (.int ps), .val (.int (2 : Int32)), .val (.ref b1117), .val (.ref rtn_1197), .val (.ref rs1_1197), .val (.ref rs2_1197), .val (.int (2 : Int32))] [(.int (0 : Int32)), (.ref b1117), (.int (2 : Int32)), (.int (0 : Int32)), (.ref rs1_1197)])) rfl (by rw [hml]; rfl) (argsL := [(.ref rs1_1197), (.int (0 : Int32)), (.int (2 : Int32)), (.ref b1117), (.int (0 : Int32))]) (rest := []) (lenOf own_pd408 rfl) rfl (Nat.le_of_eq rfl) (hb hby at_203) (fun _ _ => ⟨rfl, e1208, (by decide : 8 + 0 ≤ _), (by decide : 28 + 0 ≤ _)⟩)
    dsimp only [Pt.U, Pt.locs, Pt.cells, Pt.slots] at X1209 l1209 y1209 z1209 st1209 hQ1209
    rw [l1209, y1209, z1209] at X1209
    clear l1209 y1209 z1209
    obtain ⟨rfl, Nq1209, e1209⟩ := hQ1209
    have N1209 := Fr.app N1208 Nq1209
    obtain ⟨_, _, ⟨T1210, L1210, k1210, n1210⟩, -, X1210, ⟨Lc1210, hQ1210, l1210, y1210, z1210⟩, st1210⟩ := Jvm.LawKit.callS X1209 hx (y := (⟨"com/example/tideline/tideline/model/TableNameParsePinLaw", "at", "(Ljava/lang/String;II[CI)Z"⟩ : MethodName)) hown (mvT hZ (H 146 _ rfl)) (mvT hZ (H 147 _ rfl)) (mvT hZ (H 148 _ rfl)) (mvT hZ (H 149 _ rfl)) (by decide) (backOf (W := 0) (rm31l l Z a0 hw [] rs1_1197 (1 : Int32) (2 : Int32) b1117 (0 : Int32) cs vf rb1_1197 rk1_1197 (2 : Int32) [(.int (nar .byte (y0.toInt8.toInt32))), (.int (nar .byte (y1.toInt8.toInt32)))] (nar .byte (y1.toInt8.toInt32)) k1117 (5 : Int32) [(.int y0), (.int y1), (.int (46 : Int32)), (.int (nar .char x3)), (.int (nar .char x4))] y1 T1197.heap n0 Zs1197 O1197 Scs hcs Ssf hvf p1197_3 p1197_4 p1197_5 p1197_6 (by decide) (by decide) (by decide) rfl f1200 (by decide) rfl (own_rt _ (hv1181.2))) hZ (H 149 _ rfl) (H 148 _ rfl) (by decide) (by decide)) (g := (mkF m 216 #[.val (.long qc), .second, .val (.int ps), .val (.int (2 : Int32)), .val (.ref b1117), .val (.ref rtn_1197), .val (.ref rs1_1197), .val (.ref rs2_1197), .val (.int (2 : Int32))] [(.int (0 : Int32)), (.ref b1117), (.int (2 : Int32)), (.int (1 : Int32)), (.ref rs1_1197)])) rfl (by rw [hml]; rfl) (argsL := [(.ref rs1_1197), (.int (1 : Int32)), (.int (2 : Int32)), (.ref b1117), (.int (0 : Int32))]) (rest := []) (lenOf own_pd408 rfl) rfl (Nat.le_of_eq rfl) (hb hby at_216) (fun _ _ => ⟨rfl, e1209, (by decide : 8 + 0 ≤ _), (by decide : 28 + 0 ≤ _)⟩)
    dsimp only [Pt.U, Pt.locs, Pt.cells, Pt.slots] at X1210 l1210 y1210 z1210 st1210 hQ1210
    rw [l1210, y1210, z1210] at X1210
    clear l1210 y1210 z1210
    obtain ⟨rfl, Nq1210, e1210⟩ := hQ1210
    have N1210 := Fr.app N1209 Nq1210
    obtain ⟨_, _, ⟨T1211, L1211, k1211, n1211⟩, -, X1211, ⟨Lc1211, hQ1211, l1211, y1211, z1211⟩, st1211⟩ := Jvm.LawKit.callS X1210 hx (y := (⟨"com/example/tideline/tideline/model/TableNameParsePinLaw", "at", "(Ljava/lang/String;II[CI)Z"⟩ : MethodName)) hown (mvT hZ (H 146 _ rfl)) (mvT hZ (H 147 _ rfl)) (mvT hZ (H 148 _ rfl)) (mvT hZ (H 149 _ rfl)) (by decide) (backOf (W := 0) (rm31g l Z a0 hw [] rs1_1197 (2 : Int32) (2 : Int32) b1117 (0 : Int32)  T1197.heap n0 Zs1197 (by decide)) hZ (H 149 _ rfl) (H 148 _ rfl) (by decide) (by decide)) (g := (mkF m 229 #[.val (.long qc), .second, .val (.int ps), .val (.int (2 : Int32)), .val (.ref b1117), .val (.ref rtn_1197), .val (.ref rs1_1197), .val (.ref rs2_1197), .val (.int (2 : Int32))] [(.int (0 : Int32)), (.ref b1117), (.int (2 : Int32)), (.int (2 : Int32)), (.ref rs1_1197)])) rfl (by rw [hml]; rfl) (argsL := [(.ref rs1_1197), (.int (2 : Int32)), (.int (2 : Int32)), (.ref b1117), (.int (0 : Int32))]) (rest := []) (lenOf own_pd408 rfl) rfl (Nat.le_of_eq rfl) (hb hby at_229) (fun _ _ => ⟨rfl, e1210, (by decide : 8 + 0 ≤ _), (by decide : 28 + 0 ≤ _)⟩)
    dsimp only [Pt.U, Pt.locs, Pt.cells, Pt.slots] at X1211 l1211 y1211 z1211 st1211 hQ1211
    rw [l1211, y1211, z1211] at X1211
    clear l1211 y1211 z1211
    obtain ⟨rfl, Nq1211, e1211⟩ := hQ1211
    have N1211 := Fr.app N1210 Nq1211
    obtain ⟨_, _, ⟨T1212, L1212, k1212, n1212⟩, -, X1212, ⟨Lc1212, hQ1212, l1212, y1212, z1212⟩, st1212⟩ := Jvm.LawKit.callS X1211 hx (y := (⟨"com/example/tideline/tideline/model/TableNameParsePinLaw", "at", "(Ljava/lang/String;II[CI)Z"⟩ : MethodName)) hown (mvT hZ (H 146 _ rfl)) (mvT hZ (H 147 _ rfl)) (mvT hZ (H 148 _ rfl)) (mvT hZ (H 149 _ rfl)) (by decide) (backOf (W := 0) (rm31l l Z a0 hw [] rs2_1197 (0 : Int32) (2 : Int32) b1117 (3 : Int32) cs vf rb2_1197 rk2_1197 (2 : Int32) [(.int (nar .byte ((nar .char x3).toInt8.toInt32))), (.int (nar .byte ((nar .char x4).toInt8.toInt32)))] (nar .byte ((nar .char x3).toInt8.toInt32)) k1117 (5 : Int32) [(.int y0), (.int y1), (.int (46 : Int32)), (.int (nar .char x3)), (.int (nar .char x4))] (nar .char x3) T1197.heap n0 Zs1197 O1197 Scs hcs Ssf hvf p1197_7 p1197_8 p1197_9 p1197_10 (by decide) (by decide) (by decide) rfl f1200 (by decide) rfl (own_rt _ (hb3))) hZ (H 149 _ rfl) (H 148 _ rfl) (by decide) (by decide)) (g := (mkF m 245 #[.val (.long qc), .second, .val (.int ps), .val (.int (2 : Int32)), .val (.ref b1117), .val (.ref rtn_1197), .val (.ref rs1_1197), .val (.ref rs2_1197), .val (.int (2 : Int32))] [(.int (3 : Int32)), (.ref b1117), (.int (2 : Int32)), (.int (0 : Int32)), (.ref rs2_1197)])) rfl (by rw [hml]; rfl) (argsL := [(.ref rs2_1197), (.int (0 : Int32)), (.int (2 : Int32)), (.ref b1117), (.int (3 : Int32))]) (rest := []) (lenOf own_pd408 rfl) rfl (Nat.le_of_eq rfl) (hb hby at_245) (fun _ _ => ⟨rfl, e1211, (by decide : 8 + 0 ≤ _), (by decide : 28 + 0 ≤ _)⟩)
    dsimp only [Pt.U, Pt.locs, Pt.cells, Pt.slots] at X1212 l1212 y1212 z1212 st1212 hQ1212
    rw [l1212, y1212, z1212] at X1212
    clear l1212 y1212 z1212
    obtain ⟨rfl, Nq1212, e1212⟩ := hQ1212
    have N1212 := Fr.app N1211 Nq1212
    obtain ⟨_, _, ⟨T1213, L1213, k1213, n1213⟩, -, X1213, ⟨Lc1213, hQ1213, l1213, y1213, z1213⟩, st1213⟩ := Jvm.LawKit.callS X1212 hx (y := (⟨"com/example/tideline/tideline/model/TableNameParsePinLaw", "at", "(Ljava/lang/String;II[CI)Z"⟩ : MethodName)) hown (mvT hZ (H 146 _ rfl)) (mvT hZ (H 147 _ rfl)) (mvT hZ (H 148 _ rfl)) (mvT hZ (H 149 _ rfl)) (by decide) (backOf (W := 0) (rm31l l Z a0 hw [] rs2_1197 (1 : Int32) (2 : Int32) b1117 (3 : Int32) cs vf rb2_1197 rk2_1197 (2 : Int32) [(.int (nar .byte ((nar .char x3).toInt8.toInt32))), (.int (nar .byte ((nar .char x4).toInt8.toInt32)))] (nar .byte ((nar .char x4).toInt8.toInt32)) k1117 (5 : Int32) [(.int y0), (.int y1), (.int (46 : Int32)), (.int (nar .char x3)), (.int (nar .char x4))] (nar .char x4) T1197.heap n0 Zs1197 O1197 Scs hcs Ssf hvf p1197_7 p1197_8 p1197_9 p1197_10 (by decide) (by decide) (by decide) rfl f1200 (by decide) rfl (own_rt _ (hb4))) hZ (H 149 _ rfl) (H 148 _ rfl) (by decide) (by decide)) (g := (mkF m 261 #[.val (.long qc), .second, .val (.int ps), .val (.int (2 : Int32)), .val (.ref b1117), .val (.ref rtn_1197), .val (.ref rs1_1197), .val (.ref rs2_1197), .val (.int (2 : Int32))] [(.int (3 : Int32)), (.ref b1117), (.int (2 : Int32)), (.int (1 : Int32)), (.ref rs2_1197)])) rfl (by rw [hml]; rfl) (argsL := [(.ref rs2_1197), (.int (1 : Int32)), (.int (2 : Int32)), (.ref b1117), (.int (3 : Int32))]) (rest := []) (lenOf own_pd408 rfl) rfl (Nat.le_of_eq rfl) (hb hby at_261) (fun _ _ => ⟨rfl, e1212, (by decide : 8 + 0 ≤ _), (by decide : 28 + 0 ≤ _)⟩)
    dsimp only [Pt.U, Pt.locs, Pt.cells, Pt.slots] at X1213 l1213 y1213 z1213 st1213 hQ1213
    rw [l1213, y1213, z1213] at X1213
    clear l1213 y1213 z1213
    obtain ⟨rfl, Nq1213, e1213⟩ := hQ1213
    have N1213 := Fr.app N1212 Nq1213
    obtain ⟨_, _, ⟨T1214, L1214, k1214, n1214⟩, -, X1214, ⟨Lc1214, hQ1214, l1214, y1214, z1214⟩, st1214⟩ := Jvm.LawKit.callS X1213 hx (y := (⟨"com/example/tideline/tideline/model/TableNameParsePinLaw", "at", "(Ljava/lang/String;II[CI)Z"⟩ : MethodName)) hown (mvT hZ (H 146 _ rfl)) (mvT hZ (H 147 _ rfl)) (mvT hZ (H 148 _ rfl)) (mvT hZ (H 149 _ rfl)) (by decide) (backOf (W := 0) (rm31g l Z a0 hw [] rs2_1197 (2 : Int32) (2 : Int32) b1117 (3 : Int32)  T1197.heap n0 Zs1197 (by decide)) hZ (H 149 _ rfl) (H 148 _ rfl) (by decide) (by decide)) (g := (mkF m 277 #[.val (.long qc), .second, .val (.int ps), .val (.int (2 : Int32)), .val (.ref b1117), .val (.ref rtn_1197), .val (.ref rs1_1197), .val (.ref rs2_1197), .val (.int (2 : Int32))] [(.int (3 : Int32)), (.ref b1117), (.int (2 : Int32)), (.int (2 : Int32)), (.ref rs2_1197)])) rfl (by rw [hml]; rfl) (argsL := [(.ref rs2_1197), (.int (2 : Int32)), (.int (2 : Int32)), (.ref b1117), (.int (3 : Int32))]) (rest := []) (lenOf own_pd408 rfl) rfl (Nat.le_of_eq rfl) (hb hby at_277) (fun _ _ => ⟨rfl, e1213, (by decide : 8 + 0 ≤ _), (by decide : 28 + 0 ≤ _)⟩)
    dsimp only [Pt.U, Pt.locs, Pt.cells, Pt.slots] at X1214 l1214 y1214 z1214 st1214 hQ1214
    rw [l1214, y1214, z1214] at X1214
    clear l1214 y1214 z1214
    obtain ⟨rfl, Nq1214, e1214⟩ := hQ1214
    have N1214 := Fr.app N1213 Nq1214
    obtain ⟨fs, hr, hrun, hended, hW, hsame⟩ := X1214.leave (v := some (.int (1 : Int32))) (fun h => by rw [Bd.returns] at h; cases h)
    refine ⟨_, _, pre1180 _ ?_, hrun, hended, _, _, rfl, ?_, ⟨_, rfl⟩, hW, hsame.mono (by decide) (by decide)⟩
    · show Sp p e below m Tm1175 116 #[.val (.long qc), .second, .val (.int ps), .val (.int (2 : Int32)), .val (.ref b1117), .unset, .unset, .unset, .unset] [] _
      refine XS.iloadN Xm1175.here hx rfl (hb hby at_116) rfl ?_
      refine XS.iconst Xm1175.here hx rfl (hb hby at_117) ?_
      show Sp p e below m Tm1175 118 #[.val (.long qc), .second, .val (.int ps), .val (.int (2 : Int32)), .val (.ref b1117), .unset, .unset, .unset, .unset] [(.int (2 : Int32)), (.int (2 : Int32))] _
      refine XS.icmpYes Xm1175.here hx rfl (pc0 := 118) (pc' := 136) rfl (hb hby at_118) rfl (flt (by decide : ¬ ((2 : Int32) < (2 : Int32)))).2.2.2 (by decide) (by decide) ?_
      show Sp p e below m Tm1175 136 #[.val (.long qc), .second, .val (.int ps), .val (.int (2 : Int32)), .val (.ref b1117), .unset, .unset, .unset, .unset] [] _
      refine XS.aload Xm1175.here hx rfl (hb hby at_136) rfl rfl ?_
      refine XS.iloadN Xm1175.here hx rfl (hb hby at_138) rfl ?_
      show Sp p e below m Tm1175 139 #[.val (.long qc), .second, .val (.int ps), .val (.int (2 : Int32)), .val (.ref b1117), .unset, .unset, .unset, .unset] [(.int (2 : Int32)), (.ref b1117)] _
      refine XS.bipush Xm1175.here hx rfl (hb hby at_139) ?_
      refine st1183 _ ?_
      show Sp p e below m T1183 142 #[.val (.long qc), .second, .val (.int ps), .val (.int (2 : Int32)), .val (.ref b1117), .unset, .unset, .unset, .unset] [] _
      refine st1186 _ ?_
      show Sp p e below m T1186 145 #[.val (.long qc), .second, .val (.int ps), .val (.int (2 : Int32)), .val (.ref b1117), .unset, .unset, .unset, .unset] [(.ref b1186)] _
      refine XS.dup X1186.here hx rfl (hb hby at_145) rfl rfl ?_
      refine XS.aload X1186.here hx rfl (hb hby at_146) rfl rfl ?_
      show Sp p e below m T1186 148 #[.val (.long qc), .second, .val (.int ps), .val (.int (2 : Int32)), .val (.ref b1117), .unset, .unset, .unset, .unset] [(.ref b1117), (.ref b1186), (.ref b1186)] _
      refine st1192.trans ?_
      show Sp p e below m T1192 151 #[.val (.long qc), .second, .val (.int ps), .val (.int (2 : Int32)), .val (.ref b1117), .unset, .unset, .unset, .unset] [(.ref b1186)] _
      refine st1197 _ ?_
      show Sp p e below m T1197 154 #[.val (.long qc), .second, .val (.int ps), .val (.int (2 : Int32)), .val (.ref b1117), .unset, .unset, .unset, .unset] [(.ref rtn_1197)] _
      refine XS.astore X1197.here hx rfl (hb hby at_154) rfl rfl (l' := #[.val (.long qc), .second, .val (.int ps), .val (.int (2 : Int32)), .val (.ref b1117), .val (.ref rtn_1197), .unset, .unset, .unset]) rfl ?_
      show Sp p e below m T1197 156 #[.val (.long qc), .second, .val (.int ps), .val (.int (2 : Int32)), .val (.ref b1117), .val (.ref rtn_1197), .unset, .unset, .unset] [] _
      refine XS.aload X1197.here hx rfl (hb hby at_156) rfl rfl ?_
      refine st1205.trans ?_
      show Sp p e below m T1205 161 #[.val (.long qc), .second, .val (.int ps), .val (.int (2 : Int32)), .val (.ref b1117), .val (.ref rtn_1197), .unset, .unset, .unset] [(.ref rs1_1197)] _
      refine XS.astore X1205.here hx rfl (hb hby at_161) rfl rfl (l' := #[.val (.long qc), .second, .val (.int ps), .val (.int (2 : Int32)), .val (.ref b1117), .val (.ref rtn_1197), .val (.ref rs1_1197), .unset, .unset]) rfl ?_
      show Sp p e below m T1205 163 #[.val (.long qc), .second, .val (.int ps), .val (.int (2 : Int32)), .val (.ref b1117), .val (.ref rtn_1197), .val (.ref rs1_1197), .unset, .unset] [] _
      refine XS.aload X1205.here hx rfl (hb hby at_163) rfl rfl ?_
      refine st1206.trans ?_
      show Sp p e below m T1206 168 #[.val (.long qc), .second, .val (.int ps), .val (.int (2 : Int32)), .val (.ref b1117), .val (.ref rtn_1197), .val (.ref rs1_1197), .unset, .unset] [(.ref rs2_1197)] _
      refine XS.astore X1206.here hx rfl (hb hby at_168) rfl rfl (l' := #[.val (.long qc), .second, .val (.int ps), .val (.int (2 : Int32)), .val (.ref b1117), .val (.ref rtn_1197), .val (.ref rs1_1197), .val (.ref rs2_1197), .unset]) rfl ?_
      show Sp p e below m T1206 170 #[.val (.long qc), .second, .val (.int ps), .val (.int (2 : Int32)), .val (.ref b1117), .val (.ref rtn_1197), .val (.ref rs1_1197), .val (.ref rs2_1197), .unset] [] _
      refine XS.iconst X1206.here hx rfl (hb hby at_170) ?_
      refine XS.iloadN X1206.here hx rfl (hb hby at_171) rfl ?_
      show Sp p e below m T1206 172 #[.val (.long qc), .second, .val (.int ps), .val (.int (2 : Int32)), .val (.ref b1117), .val (.ref rtn_1197), .val (.ref rs1_1197), .val (.ref rs2_1197), .unset] [(.int (2 : Int32)), (.int (4 : Int32))] _
      refine XS.isub X1206.here hx rfl (hb hby at_172) rfl ?_
      show Sp p e below m T1206 173 #[.val (.long qc), .second, .val (.int ps), .val (.int (2 : Int32)), .val (.ref b1117), .val (.ref rtn_1197), .val (.ref rs1_1197), .val (.ref rs2_1197), .unset] [(.int (2 : Int32))] _
      refine XS.istore X1206.here hx rfl (hb hby at_173) rfl (l' := #[.val (.long qc), .second, .val (.int ps), .val (.int (2 : Int32)), .val (.ref b1117), .val (.ref rtn_1197), .val (.ref rs1_1197), .val (.ref rs2_1197), .val (.int (2 : Int32))]) rfl ?_
      show Sp p e below m T1206 175 #[.val (.long qc), .second, .val (.int ps), .val (.int (2 : Int32)), .val (.ref b1117), .val (.ref rtn_1197), .val (.ref rs1_1197), .val (.ref rs2_1197), .val (.int (2 : Int32))] [] _
      refine XS.aload X1206.here hx rfl (hb hby at_175) rfl rfl ?_
      refine st1207.trans ?_
      show Sp p e below m T1207 180 #[.val (.long qc), .second, .val (.int ps), .val (.int (2 : Int32)), .val (.ref b1117), .val (.ref rtn_1197), .val (.ref rs1_1197), .val (.ref rs2_1197), .val (.int (2 : Int32))] [(.int (2 : Int32))] _
      refine XS.iloadN X1207.here hx rfl (hb hby at_180) rfl ?_
      refine XS.icmpNo X1207.here hx rfl (hb hby at_181) rfl (teq (by decide : ((2 : Int32) = (2 : Int32)))).2 ?_
      show Sp p e below m T1207 184 #[.val (.long qc), .second, .val (.int ps), .val (.int (2 : Int32)), .val (.ref b1117), .val (.ref rtn_1197), .val (.ref rs1_1197), .val (.ref rs2_1197), .val (.int (2 : Int32))] [] _
      refine XS.aload X1207.here hx rfl (hb hby at_184) rfl rfl ?_
      refine st1208.trans ?_
      show Sp p e below m T1208 189 #[.val (.long qc), .second, .val (.int ps), .val (.int (2 : Int32)), .val (.ref b1117), .val (.ref rtn_1197), .val (.ref rs1_1197), .val (.ref rs2_1197), .val (.int (2 : Int32))] [(.int (2 : Int32))] _
      refine XS.iload X1208.here hx rfl (hb hby at_189) rfl ?_
      refine XS.icmpYes X1208.here hx rfl (pc0 := 191) (pc' := 196) rfl (hb hby at_191) rfl (teq (by decide : ((2 : Int32) = (2 : Int32)))).1 (by decide) (by decide) ?_
      show Sp p e below m T1208 196 #[.val (.long qc), .second, .val (.int ps), .val (.int (2 : Int32)), .val (.ref b1117), .val (.ref rtn_1197), .val (.ref rs1_1197), .val (.ref rs2_1197), .val (.int (2 : Int32))] [] _
      refine XS.aload X1208.here hx rfl (hb hby at_196) rfl rfl ?_
      refine XS.iconst X1208.here hx rfl (hb hby at_198) ?_
      show Sp p e below m T1208 199 #[.val (.long qc), .second, .val (.int ps), .val (.int (2 : Int32)), .val (.ref b1117), .val (.ref rtn_1197), .val (.ref rs1_1197), .val (.ref rs2_1197), .val (.int (2 : Int32))] [(.int (0 : Int32)), (.ref rs1_1197)] _
      refine XS.iloadN X1208.here hx rfl (hb hby at_199) rfl ?_
      refine XS.aload X1208.here hx rfl (hb hby at_200) rfl rfl ?_
      show Sp p e below m T1208 202 #[.val (.long qc), .second, .val (.int ps), .val (.int (2 : Int32)), .val (.ref b1117), .val (.ref rtn_1197), .val (.ref rs1_1197), .val (.ref rs2_1197), .val (.int (2 : Int32))] [(.ref b1117), (.int (2 : Int32)), (.int (0 : Int32)), (.ref rs1_1197)] _
      refine XS.iconst X1208.here hx rfl (hb hby at_202) ?_
      refine st1209 _ ?_
      show Sp p e below m T1209 206 #[.val (.long qc), .second, .val (.int ps), .val (.int (2 : Int32)), .val (.ref b1117), .val (.ref rtn_1197), .val (.ref rs1_1197), .val (.ref rs2_1197), .val (.int (2 : Int32))] [(.int (1 : Int32))] _
      refine XS.ifNo X1209.here hx rfl (hb hby at_206) rfl ((if0 _ _).trans (feq (by decide : ¬ ((1 : Int32) = (0 : Int32)))).1) ?_
      show Sp p e below m T1209 209 #[.val (.long qc), .second, .val (.int ps), .val (.int (2 : Int32)), .val (.ref b1117), .val (.ref rtn_1197), .val (.ref rs1_1197), .val (.ref rs2_1197), .val (.int (2 : Int32))] [] _
      refine XS.aload X1209.here hx rfl (hb hby at_209) rfl rfl ?_
      refine XS.iconst X1209.here hx rfl (hb hby at_211) ?_
      show Sp p e below m T1209 212 #[.val (.long qc), .second, .val (.int ps), .val (.int (2 : Int32)), .val (.ref b1117), .val (.ref rtn_1197), .val (.ref rs1_1197), .val (.ref rs2_1197), .val (.int (2 : Int32))] [(.int (1 : Int32)), (.ref rs1_1197)] _
      refine XS.iloadN X1209.here hx rfl (hb hby at_212) rfl ?_
      refine XS.aload X1209.here hx rfl (hb hby at_213) rfl rfl ?_
      show Sp p e below m T1209 215 #[.val (.long qc), .second, .val (.int ps), .val (.int (2 : Int32)), .val (.ref b1117), .val (.ref rtn_1197), .val (.ref rs1_1197), .val (.ref rs2_1197), .val (.int (2 : Int32))] [(.ref b1117), (.int (2 : Int32)), (.int (1 : Int32)), (.ref rs1_1197)] _
      refine XS.iconst X1209.here hx rfl (hb hby at_215) ?_
      refine st1210 _ ?_
      show Sp p e below m T1210 219 #[.val (.long qc), .second, .val (.int ps), .val (.int (2 : Int32)), .val (.ref b1117), .val (.ref rtn_1197), .val (.ref rs1_1197), .val (.ref rs2_1197), .val (.int (2 : Int32))] [(.int (1 : Int32))] _
      refine XS.ifNo X1210.here hx rfl (hb hby at_219) rfl ((if0 _ _).trans (feq (by decide : ¬ ((1 : Int32) = (0 : Int32)))).1) ?_
      show Sp p e below m T1210 222 #[.val (.long qc), .second, .val (.int ps), .val (.int (2 : Int32)), .val (.ref b1117), .val (.ref rtn_1197), .val (.ref rs1_1197), .val (.ref rs2_1197), .val (.int (2 : Int32))] [] _
      refine XS.aload X1210.here hx rfl (hb hby at_222) rfl rfl ?_
      refine XS.iconst X1210.here hx rfl (hb hby at_224) ?_
      show Sp p e below m T1210 225 #[.val (.long qc), .second, .val (.int ps), .val (.int (2 : Int32)), .val (.ref b1117), .val (.ref rtn_1197), .val (.ref rs1_1197), .val (.ref rs2_1197), .val (.int (2 : Int32))] [(.int (2 : Int32)), (.ref rs1_1197)] _
      refine XS.iloadN X1210.here hx rfl (hb hby at_225) rfl ?_
      refine XS.aload X1210.here hx rfl (hb hby at_226) rfl rfl ?_
      show Sp p e below m T1210 228 #[.val (.long qc), .second, .val (.int ps), .val (.int (2 : Int32)), .val (.ref b1117), .val (.ref rtn_1197), .val (.ref rs1_1197), .val (.ref rs2_1197), .val (.int (2 : Int32))] [(.ref b1117), (.int (2 : Int32)), (.int (2 : Int32)), (.ref rs1_1197)] _
      refine XS.iconst X1210.here hx rfl (hb hby at_228) ?_
      refine st1211 _ ?_
      show Sp p e below m T1211 232 #[.val (.long qc), .second, .val (.int ps), .val (.int (2 : Int32)), .val (.ref b1117), .val (.ref rtn_1197), .val (.ref rs1_1197), .val (.ref rs2_1197), .val (.int (2 : Int32))] [(.int (1 : Int32))] _
      refine XS.ifNo X1211.here hx rfl (hb hby at_232) rfl ((if0 _ _).trans (feq (by decide : ¬ ((1 : Int32) = (0 : Int32)))).1) ?_
      show Sp p e below m T1211 235 #[.val (.long qc), .second, .val (.int ps), .val (.int (2 : Int32)), .val (.ref b1117), .val (.ref rtn_1197), .val (.ref rs1_1197), .val (.ref rs2_1197), .val (.int (2 : Int32))] [] _
      refine XS.aload X1211.here hx rfl (hb hby at_235) rfl rfl ?_
      refine XS.iconst X1211.here hx rfl (hb hby at_237) ?_
      show Sp p e below m T1211 238 #[.val (.long qc), .second, .val (.int ps), .val (.int (2 : Int32)), .val (.ref b1117), .val (.ref rtn_1197), .val (.ref rs1_1197), .val (.ref rs2_1197), .val (.int (2 : Int32))] [(.int (0 : Int32)), (.ref rs2_1197)] _
      refine XS.iload X1211.here hx rfl (hb hby at_238) rfl ?_
      refine XS.aload X1211.here hx rfl (hb hby at_240) rfl rfl ?_
      show Sp p e below m T1211 242 #[.val (.long qc), .second, .val (.int ps), .val (.int (2 : Int32)), .val (.ref b1117), .val (.ref rtn_1197), .val (.ref rs1_1197), .val (.ref rs2_1197), .val (.int (2 : Int32))] [(.ref b1117), (.int (2 : Int32)), (.int (0 : Int32)), (.ref rs2_1197)] _
      refine XS.iloadN X1211.here hx rfl (hb hby at_242) rfl ?_
      refine XS.iconst X1211.here hx rfl (hb hby at_243) ?_
      show Sp p e below m T1211 244 #[.val (.long qc), .second, .val (.int ps), .val (.int (2 : Int32)), .val (.ref b1117), .val (.ref rtn_1197), .val (.ref rs1_1197), .val (.ref rs2_1197), .val (.int (2 : Int32))] [(.int (1 : Int32)), (.int (2 : Int32)), (.ref b1117), (.int (2 : Int32)), (.int (0 : Int32)), (.ref rs2_1197)] _
      refine XS.iadd X1211.here hx rfl (hb hby at_244) rfl ?_
      show Sp p e below m T1211 245 #[.val (.long qc), .second, .val (.int ps), .val (.int (2 : Int32)), .val (.ref b1117), .val (.ref rtn_1197), .val (.ref rs1_1197), .val (.ref rs2_1197), .val (.int (2 : Int32))] [(.int (3 : Int32)), (.ref b1117), (.int (2 : Int32)), (.int (0 : Int32)), (.ref rs2_1197)] _
      refine st1212 _ ?_
      show Sp p e below m T1212 248 #[.val (.long qc), .second, .val (.int ps), .val (.int (2 : Int32)), .val (.ref b1117), .val (.ref rtn_1197), .val (.ref rs1_1197), .val (.ref rs2_1197), .val (.int (2 : Int32))] [(.int (1 : Int32))] _
      refine XS.ifNo X1212.here hx rfl (hb hby at_248) rfl ((if0 _ _).trans (feq (by decide : ¬ ((1 : Int32) = (0 : Int32)))).1) ?_
      show Sp p e below m T1212 251 #[.val (.long qc), .second, .val (.int ps), .val (.int (2 : Int32)), .val (.ref b1117), .val (.ref rtn_1197), .val (.ref rs1_1197), .val (.ref rs2_1197), .val (.int (2 : Int32))] [] _
      refine XS.aload X1212.here hx rfl (hb hby at_251) rfl rfl ?_
      refine XS.iconst X1212.here hx rfl (hb hby at_253) ?_
      show Sp p e below m T1212 254 #[.val (.long qc), .second, .val (.int ps), .val (.int (2 : Int32)), .val (.ref b1117), .val (.ref rtn_1197), .val (.ref rs1_1197), .val (.ref rs2_1197), .val (.int (2 : Int32))] [(.int (1 : Int32)), (.ref rs2_1197)] _
      refine XS.iload X1212.here hx rfl (hb hby at_254) rfl ?_
      refine XS.aload X1212.here hx rfl (hb hby at_256) rfl rfl ?_
      show Sp p e below m T1212 258 #[.val (.long qc), .second, .val (.int ps), .val (.int (2 : Int32)), .val (.ref b1117), .val (.ref rtn_1197), .val (.ref rs1_1197), .val (.ref rs2_1197), .val (.int (2 : Int32))] [(.ref b1117), (.int (2 : Int32)), (.int (1 : Int32)), (.ref rs2_1197)] _
      refine XS.iloadN X1212.here hx rfl (hb hby at_258) rfl ?_
      refine XS.iconst X1212.here hx rfl (hb hby at_259) ?_
      show Sp p e below m T1212 260 #[.val (.long qc), .second, .val (.int ps), .val (.int (2 : Int32)), .val (.ref b1117), .val (.ref rtn_1197), .val (.ref rs1_1197), .val (.ref rs2_1197), .val (.int (2 : Int32))] [(.int (1 : Int32)), (.int (2 : Int32)), (.ref b1117), (.int (2 : Int32)), (.int (1 : Int32)), (.ref rs2_1197)] _
      refine XS.iadd X1212.here hx rfl (hb hby at_260) rfl ?_
      show Sp p e below m T1212 261 #[.val (.long qc), .second, .val (.int ps), .val (.int (2 : Int32)), .val (.ref b1117), .val (.ref rtn_1197), .val (.ref rs1_1197), .val (.ref rs2_1197), .val (.int (2 : Int32))] [(.int (3 : Int32)), (.ref b1117), (.int (2 : Int32)), (.int (1 : Int32)), (.ref rs2_1197)] _
      refine st1213 _ ?_
      show Sp p e below m T1213 264 #[.val (.long qc), .second, .val (.int ps), .val (.int (2 : Int32)), .val (.ref b1117), .val (.ref rtn_1197), .val (.ref rs1_1197), .val (.ref rs2_1197), .val (.int (2 : Int32))] [(.int (1 : Int32))] _
      refine XS.ifNo X1213.here hx rfl (hb hby at_264) rfl ((if0 _ _).trans (feq (by decide : ¬ ((1 : Int32) = (0 : Int32)))).1) ?_
      show Sp p e below m T1213 267 #[.val (.long qc), .second, .val (.int ps), .val (.int (2 : Int32)), .val (.ref b1117), .val (.ref rtn_1197), .val (.ref rs1_1197), .val (.ref rs2_1197), .val (.int (2 : Int32))] [] _
      refine XS.aload X1213.here hx rfl (hb hby at_267) rfl rfl ?_
      refine XS.iconst X1213.here hx rfl (hb hby at_269) ?_
      show Sp p e below m T1213 270 #[.val (.long qc), .second, .val (.int ps), .val (.int (2 : Int32)), .val (.ref b1117), .val (.ref rtn_1197), .val (.ref rs1_1197), .val (.ref rs2_1197), .val (.int (2 : Int32))] [(.int (2 : Int32)), (.ref rs2_1197)] _
      refine XS.iload X1213.here hx rfl (hb hby at_270) rfl ?_
      refine XS.aload X1213.here hx rfl (hb hby at_272) rfl rfl ?_
      show Sp p e below m T1213 274 #[.val (.long qc), .second, .val (.int ps), .val (.int (2 : Int32)), .val (.ref b1117), .val (.ref rtn_1197), .val (.ref rs1_1197), .val (.ref rs2_1197), .val (.int (2 : Int32))] [(.ref b1117), (.int (2 : Int32)), (.int (2 : Int32)), (.ref rs2_1197)] _
      refine XS.iloadN X1213.here hx rfl (hb hby at_274) rfl ?_
      refine XS.iconst X1213.here hx rfl (hb hby at_275) ?_
      show Sp p e below m T1213 276 #[.val (.long qc), .second, .val (.int ps), .val (.int (2 : Int32)), .val (.ref b1117), .val (.ref rtn_1197), .val (.ref rs1_1197), .val (.ref rs2_1197), .val (.int (2 : Int32))] [(.int (1 : Int32)), (.int (2 : Int32)), (.ref b1117), (.int (2 : Int32)), (.int (2 : Int32)), (.ref rs2_1197)] _
      refine XS.iadd X1213.here hx rfl (hb hby at_276) rfl ?_
      show Sp p e below m T1213 277 #[.val (.long qc), .second, .val (.int ps), .val (.int (2 : Int32)), .val (.ref b1117), .val (.ref rtn_1197), .val (.ref rs1_1197), .val (.ref rs2_1197), .val (.int (2 : Int32))] [(.int (3 : Int32)), (.ref b1117), (.int (2 : Int32)), (.int (2 : Int32)), (.ref rs2_1197)] _
      refine st1214 _ ?_
      show Sp p e below m T1214 280 #[.val (.long qc), .second, .val (.int ps), .val (.int (2 : Int32)), .val (.ref b1117), .val (.ref rtn_1197), .val (.ref rs1_1197), .val (.ref rs2_1197), .val (.int (2 : Int32))] [(.int (1 : Int32))] _
      refine XS.ifNo X1214.here hx rfl (hb hby at_280) rfl ((if0 _ _).trans (feq (by decide : ¬ ((1 : Int32) = (0 : Int32)))).1) ?_
      show Sp p e below m T1214 283 #[.val (.long qc), .second, .val (.int ps), .val (.int (2 : Int32)), .val (.ref b1117), .val (.ref rtn_1197), .val (.ref rs1_1197), .val (.ref rs2_1197), .val (.int (2 : Int32))] [] _
      refine XS.iconst X1214.here hx rfl (hb hby at_283) ?_
      refine XS.goto X1214.here hx rfl (pc0 := 284) (pc' := 288) rfl (hb hby at_284) (by decide) (by decide) ?_
      show Sp p e below m T1214 288 #[.val (.long qc), .second, .val (.int ps), .val (.int (2 : Int32)), .val (.ref b1117), .val (.ref rtn_1197), .val (.ref rs1_1197), .val (.ref rs2_1197), .val (.int (2 : Int32))] [(.int (1 : Int32))] _
      exact retN X1214 hx (t := .boolean) Bd.returns (by simp) (hb hby at_288) hr
    · show Q0 Z qc ps cs vf h0 n0 _ T1214.heap _
      rw [e1214]
      exact ⟨rfl, N1214⟩
  · rw [hq1034] at pre1031
    obtain ⟨T1215, h1215, k1215, X1215, e1215, E1215, A1215, st1215⟩ := newP X0 hx hZ (H 1 _ rfl) e0 (g := (mkF m 10 #[.val (.long qc), .second, .val (.int ps), .val (.int (3 : Int32)), .unset, .unset, .unset, .unset, .unset] [(.int (5 : Int32))])) rfl (hb hby at_10) rfl (by decide) (cap := 5) (by decide) (by decide) (by decide) (by decide)
    obtain ⟨b1215, g1215⟩ : ∃ z, z = h0.size := ⟨_, rfl⟩
    rw [← g1215] at A1215 st1215
    have g_b1215 : n0 ≤ b1215 := Nat.le_trans Z0 (Nat.le_of_eq g1215.symm)
    have sz_b1215 : h0.size ≤ b1215 := Nat.le_of_eq g1215.symm
    have Zs1215 : n0 ≤ h1215.size := Nat.le_trans Z0 E1215.1
    have KK1215 : Keep h0 h1215 [] := (Keep.refl h0 _).ext E1215
    have O1215 := O0.ext E1215
    have f1216 := (Scs.ext O0.2).ext E1215
    have f1217 := (Ssf.ext O0.2).ext E1215
    have V1215 : Arv Z h1215 b1215 k1215 .char (5 : Int32) [(.int (0 : Int32)), (.int (0 : Int32)), (.int (0 : Int32)), (.int (0 : Int32)), (.int (0 : Int32))] (.int (0 : Int32)) := (Arv.new A1215 (by decide)).pad (pad_rep [] (.int (0 : Int32)) 5)
    have pre1218 : ∀ t, Sp p e below m T1215 24 #[.val (.long qc), .second, .val (.int ps), .val (.int (3 : Int32)), .val (.ref b1215), .unset, .unset, .unset, .unset] [(.int (((qc &&& (255 : Int64)).toInt32).toUInt32.toUInt16.toUInt32.toInt32)), (.int (0 : Int32)), (.ref b1215)] t → Steps p.tables e below G0 t := by
      intro t k
      refine pre1031 t ?_
      show Sp p e below m s₁ 9 #[.val (.long qc), .second, .val (.int ps), .val (.int (3 : Int32)), .unset, .unset, .unset, .unset, .unset] [] _
      refine XS.iconst X0.here hx rfl (hb hby at_9) ?_
      refine st1215 _ ?_
      show Sp p e below m T1215 12 #[.val (.long qc), .second, .val (.int ps), .val (.int (3 : Int32)), .unset, .unset, .unset, .unset, .unset] [(.ref b1215)] _
      refine XS.astore X1215.here hx rfl (hb hby at_12) rfl rfl (l' := #[.val (.long qc), .second, .val (.int ps), .val (.int (3 : Int32)), .val (.ref b1215), .unset, .unset, .unset, .unset]) rfl ?_
      show Sp p e below m T1215 14 #[.val (.long qc), .second, .val (.int ps), .val (.int (3 : Int32)), .val (.ref b1215), .unset, .unset, .unset, .unset] [] _
      refine XS.aload X1215.here hx rfl (hb hby at_14) rfl rfl ?_
      refine XS.iconst X1215.here hx rfl (hb hby at_16) ?_
      show Sp p e below m T1215 17 #[.val (.long qc), .second, .val (.int ps), .val (.int (3 : Int32)), .val (.ref b1215), .unset, .unset, .unset, .unset] [(.int (0 : Int32)), (.ref b1215)] _
      refine XS.lloadN X1215.here hx rfl (hb hby at_17) rfl ?_
      refine X1215.ldc2Long hx hown (mvT hZ (H 2 _ rfl)) (g := (mkF m 18 #[.val (.long qc), .second, .val (.int ps), .val (.int (3 : Int32)), .val (.ref b1215), .unset, .unset, .unset, .unset] [(.long qc), (.int (0 : Int32)), (.ref b1215)])) rfl (hb hby at_18) _ ?_
      show Sp p e below m T1215 21 #[.val (.long qc), .second, .val (.int ps), .val (.int (3 : Int32)), .val (.ref b1215), .unset, .unset, .unset, .unset] [(.long (255 : Int64)), (.long qc), (.int (0 : Int32)), (.ref b1215)] _
      refine XS.land X1215.here hx rfl (hb hby at_21) rfl ?_
      show Sp p e below m T1215 22 #[.val (.long qc), .second, .val (.int ps), .val (.int (3 : Int32)), .val (.ref b1215), .unset, .unset, .unset, .unset] [(.long (qc &&& (255 : Int64))), (.int (0 : Int32)), (.ref b1215)] _
      refine XS.l2i X1215.here hx rfl (hb hby at_22) rfl ?_
      show Sp p e below m T1215 23 #[.val (.long qc), .second, .val (.int ps), .val (.int (3 : Int32)), .val (.ref b1215), .unset, .unset, .unset, .unset] [(.int ((qc &&& (255 : Int64)).toInt32)), (.int (0 : Int32)), (.ref b1215)] _
      refine XS.i2c X1215.here hx rfl (hb hby at_23) rfl ?_
      exact k
    obtain ⟨x0, he1219⟩ : ∃ z : Int32, z = (((qc &&& (255 : Int64)).toInt32).toUInt32.toUInt16.toUInt32.toInt32) := ⟨_, rfl⟩
    rw [← he1219] at pre1218
    have hb0 : 0 ≤ (nar .char x0).toInt ∧ (nar .char x0).toInt ≤ 255 := by rw [he1219]; exact own_cb _
    obtain ⟨cl1220, Ar1220, q1220, S1220, N1220, H1220, G1220⟩ := id V1215
    have hin1220 : ¬ ((0 : Int32) < 0 ∨ cl1220.slots.size ≤ ((0 : Int32)).toNatClampNeg) := inb_of S1220 ⟨by decide, by decide⟩
    obtain ⟨T1221, h1221, X1221, e1221, W1221, st1221⟩ := stC X1215 hx hZ e1215 Ar1220 (j := (0 : Int32)) hin1220 (g := (mkF m 24 #[.val (.long qc), .second, .val (.int ps), .val (.int (3 : Int32)), .val (.ref b1215), .unset, .unset, .unset, .unset] [(.int x0), (.int (0 : Int32)), (.ref b1215)])) rfl rfl (hb hby at_24)
    have V1221 : Arv Z h1221 b1215 k1215 .char (5 : Int32) [(.int (nar .char x0)), (.int (0 : Int32)), (.int (0 : Int32)), (.int (0 : Int32)), (.int (0 : Int32))] (.int (0 : Int32)) := Arv.set Ar1220 q1220 S1220 N1220 H1220 G1220 (fits_nar_char x0) W1221 0 rfl (Nat.le_of_ble_eq_true rfl)
    have N1221 := Fr.snoc X1221 N0 g_b1215
    have Zs1221 : n0 ≤ h1221.size := Nat.le_trans Zs1215 (Keep.of_wr W1221).1
    have KK1221 : Keep h0 h1221 [] := KK1215.wr W1221 (Or.inr sz_b1215)
    have O1221 := O1215.wr W1221 g_b1215
    have f1222 := f1216.wr W1221
    have f1223 := f1217.wr W1221
    have pre1224 : ∀ t, Sp p e below m T1221 38 #[.val (.long qc), .second, .val (.int ps), .val (.int (3 : Int32)), .val (.ref b1215), .unset, .unset, .unset, .unset] [(.int (((((qc.toUInt64 >>> ((8 : Int32) &&& 0x3f).toInt64.toUInt64).toInt64) &&& (255 : Int64)).toInt32).toUInt32.toUInt16.toUInt32.toInt32)), (.int (1 : Int32)), (.ref b1215)] t → Steps p.tables e below G0 t := by
      intro t k
      refine pre1218 t ?_
      show Sp p e below m T1215 24 #[.val (.long qc), .second, .val (.int ps), .val (.int (3 : Int32)), .val (.ref b1215), .unset, .unset, .unset, .unset] [(.int x0), (.int (0 : Int32)), (.ref b1215)] _
      refine st1221 _ ?_
      show Sp p e below m T1221 25 #[.val (.long qc), .second, .val (.int ps), .val (.int (3 : Int32)), .val (.ref b1215), .unset, .unset, .unset, .unset] [] _
      refine XS.aload X1221.here hx rfl (hb hby at_25) rfl rfl ?_
      refine XS.iconst X1221.here hx rfl (hb hby at_27) ?_
      show Sp p e below m T1221 28 #[.val (.long qc), .second, .val (.int ps), .val (.int (3 : Int32)), .val (.ref b1215), .unset, .unset, .unset, .unset] [(.int (1 : Int32)), (.ref b1215)] _
      refine XS.lloadN X1221.here hx rfl (hb hby at_28) rfl ?_
      refine XS.bipush X1221.here hx rfl (hb hby at_29) ?_
      show Sp p e below m T1221 31 #[.val (.long qc), .second, .val (.int ps), .val (.int (3 : Int32)), .val (.ref b1215), .unset, .unset, .unset, .unset] [(.int (8 : Int32)), (.long qc), (.int (1 : Int32)), (.ref b1215)] _
      refine XS.lushr X1221.here hx rfl (hb hby at_31) rfl ?_
      show Sp p e below m T1221 32 #[.val (.long qc), .second, .val (.int ps), .val (.int (3 : Int32)), .val (.ref b1215), .unset, .unset, .unset, .unset] [(.long ((qc.toUInt64 >>> ((8 : Int32) &&& 0x3f).toInt64.toUInt64).toInt64)), (.int (1 : Int32)), (.ref b1215)] _
      refine X1221.ldc2Long hx hown (mvT hZ (H 2 _ rfl)) (g := (mkF m 32 #[.val (.long qc), .second, .val (.int ps), .val (.int (3 : Int32)), .val (.ref b1215), .unset, .unset, .unset, .unset] [(.long ((qc.toUInt64 >>> ((8 : Int32) &&& 0x3f).toInt64.toUInt64).toInt64)), (.int (1 : Int32)), (.ref b1215)])) rfl (hb hby at_32) _ ?_
      show Sp p e below m T1221 35 #[.val (.long qc), .second, .val (.int ps), .val (.int (3 : Int32)), .val (.ref b1215), .unset, .unset, .unset, .unset] [(.long (255 : Int64)), (.long ((qc.toUInt64 >>> ((8 : Int32) &&& 0x3f).toInt64.toUInt64).toInt64)), (.int (1 : Int32)), (.ref b1215)] _
      refine XS.land X1221.here hx rfl (hb hby at_35) rfl ?_
      show Sp p e below m T1221 36 #[.val (.long qc), .second, .val (.int ps), .val (.int (3 : Int32)), .val (.ref b1215), .unset, .unset, .unset, .unset] [(.long (((qc.toUInt64 >>> ((8 : Int32) &&& 0x3f).toInt64.toUInt64).toInt64) &&& (255 : Int64))), (.int (1 : Int32)), (.ref b1215)] _
      refine XS.l2i X1221.here hx rfl (hb hby at_36) rfl ?_
      show Sp p e below m T1221 37 #[.val (.long qc), .second, .val (.int ps), .val (.int (3 : Int32)), .val (.ref b1215), .unset, .unset, .unset, .unset] [(.int ((((qc.toUInt64 >>> ((8 : Int32) &&& 0x3f).toInt64.toUInt64).toInt64) &&& (255 : Int64)).toInt32)), (.int (1 : Int32)), (.ref b1215)] _
      refine XS.i2c X1221.here hx rfl (hb hby at_37) rfl ?_
      exact k
    obtain ⟨x1, he1225⟩ : ∃ z : Int32, z = (((((qc.toUInt64 >>> ((8 : Int32) &&& 0x3f).toInt64.toUInt64).toInt64) &&& (255 : Int64)).toInt32).toUInt32.toUInt16.toUInt32.toInt32) := ⟨_, rfl⟩
    rw [← he1225] at pre1224
    have hb1 : 0 ≤ (nar .char x1).toInt ∧ (nar .char x1).toInt ≤ 255 := by rw [he1225]; exact own_cb _
    obtain ⟨cl1226, Ar1226, q1226, S1226, N1226, H1226, G1226⟩ := id V1221
    have hin1226 : ¬ ((1 : Int32) < 0 ∨ cl1226.slots.size ≤ ((1 : Int32)).toNatClampNeg) := inb_of S1226 ⟨by decide, by decide⟩
    obtain ⟨T1227, h1227, X1227, e1227, W1227, st1227⟩ := stC X1221 hx hZ e1221 Ar1226 (j := (1 : Int32)) hin1226 (g := (mkF m 38 #[.val (.long qc), .second, .val (.int ps), .val (.int (3 : Int32)), .val (.ref b1215), .unset, .unset, .unset, .unset] [(.int x1), (.int (1 : Int32)), (.ref b1215)])) rfl rfl (hb hby at_38)
    have V1227 : Arv Z h1227 b1215 k1215 .char (5 : Int32) [(.int (nar .char x0)), (.int (nar .char x1)), (.int (0 : Int32)), (.int (0 : Int32)), (.int (0 : Int32))] (.int (0 : Int32)) := Arv.set Ar1226 q1226 S1226 N1226 H1226 G1226 (fits_nar_char x1) W1227 1 rfl (Nat.le_of_ble_eq_true rfl)
    have N1227 := Fr.snoc X1227 N1221 g_b1215
    have Zs1227 : n0 ≤ h1227.size := Nat.le_trans Zs1221 (Keep.of_wr W1227).1
    have KK1227 : Keep h0 h1227 [] := KK1221.wr W1227 (Or.inr sz_b1215)
    have O1227 := O1221.wr W1227 g_b1215
    have f1228 := f1222.wr W1227
    have f1229 := f1223.wr W1227
    have pre1230 : ∀ t, Sp p e below m T1227 52 #[.val (.long qc), .second, .val (.int ps), .val (.int (3 : Int32)), .val (.ref b1215), .unset, .unset, .unset, .unset] [(.int (((((qc.toUInt64 >>> ((16 : Int32) &&& 0x3f).toInt64.toUInt64).toInt64) &&& (255 : Int64)).toInt32).toUInt32.toUInt16.toUInt32.toInt32)), (.int (2 : Int32)), (.ref b1215)] t → Steps p.tables e below G0 t := by
      intro t k
      refine pre1224 t ?_
      show Sp p e below m T1221 38 #[.val (.long qc), .second, .val (.int ps), .val (.int (3 : Int32)), .val (.ref b1215), .unset, .unset, .unset, .unset] [(.int x1), (.int (1 : Int32)), (.ref b1215)] _
      refine st1227 _ ?_
      show Sp p e below m T1227 39 #[.val (.long qc), .second, .val (.int ps), .val (.int (3 : Int32)), .val (.ref b1215), .unset, .unset, .unset, .unset] [] _
      refine XS.aload X1227.here hx rfl (hb hby at_39) rfl rfl ?_
      refine XS.iconst X1227.here hx rfl (hb hby at_41) ?_
      show Sp p e below m T1227 42 #[.val (.long qc), .second, .val (.int ps), .val (.int (3 : Int32)), .val (.ref b1215), .unset, .unset, .unset, .unset] [(.int (2 : Int32)), (.ref b1215)] _
      refine XS.lloadN X1227.here hx rfl (hb hby at_42) rfl ?_
      refine XS.bipush X1227.here hx rfl (hb hby at_43) ?_
      show Sp p e below m T1227 45 #[.val (.long qc), .second, .val (.int ps), .val (.int (3 : Int32)), .val (.ref b1215), .unset, .unset, .unset, .unset] [(.int (16 : Int32)), (.long qc), (.int (2 : Int32)), (.ref b1215)] _
      refine XS.lushr X1227.here hx rfl (hb hby at_45) rfl ?_
      show Sp p e below m T1227 46 #[.val (.long qc), .second, .val (.int ps), .val (.int (3 : Int32)), .val (.ref b1215), .unset, .unset, .unset, .unset] [(.long ((qc.toUInt64 >>> ((16 : Int32) &&& 0x3f).toInt64.toUInt64).toInt64)), (.int (2 : Int32)), (.ref b1215)] _
      refine X1227.ldc2Long hx hown (mvT hZ (H 2 _ rfl)) (g := (mkF m 46 #[.val (.long qc), .second, .val (.int ps), .val (.int (3 : Int32)), .val (.ref b1215), .unset, .unset, .unset, .unset] [(.long ((qc.toUInt64 >>> ((16 : Int32) &&& 0x3f).toInt64.toUInt64).toInt64)), (.int (2 : Int32)), (.ref b1215)])) rfl (hb hby at_46) _ ?_
      show Sp p e below m T1227 49 #[.val (.long qc), .second, .val (.int ps), .val (.int (3 : Int32)), .val (.ref b1215), .unset, .unset, .unset, .unset] [(.long (255 : Int64)), (.long ((qc.toUInt64 >>> ((16 : Int32) &&& 0x3f).toInt64.toUInt64).toInt64)), (.int (2 : Int32)), (.ref b1215)] _
      refine XS.land X1227.here hx rfl (hb hby at_49) rfl ?_
      show Sp p e below m T1227 50 #[.val (.long qc), .second, .val (.int ps), .val (.int (3 : Int32)), .val (.ref b1215), .unset, .unset, .unset, .unset] [(.long (((qc.toUInt64 >>> ((16 : Int32) &&& 0x3f).toInt64.toUInt64).toInt64) &&& (255 : Int64))), (.int (2 : Int32)), (.ref b1215)] _
      refine XS.l2i X1227.here hx rfl (hb hby at_50) rfl ?_
      show Sp p e below m T1227 51 #[.val (.long qc), .second, .val (.int ps), .val (.int (3 : Int32)), .val (.ref b1215), .unset, .unset, .unset, .unset] [(.int ((((qc.toUInt64 >>> ((16 : Int32) &&& 0x3f).toInt64.toUInt64).toInt64) &&& (255 : Int64)).toInt32)), (.int (2 : Int32)), (.ref b1215)] _
      refine XS.i2c X1227.here hx rfl (hb hby at_51) rfl ?_
      exact k
    obtain ⟨x2, he1231⟩ : ∃ z : Int32, z = (((((qc.toUInt64 >>> ((16 : Int32) &&& 0x3f).toInt64.toUInt64).toInt64) &&& (255 : Int64)).toInt32).toUInt32.toUInt16.toUInt32.toInt32) := ⟨_, rfl⟩
    rw [← he1231] at pre1230
    have hb2 : 0 ≤ (nar .char x2).toInt ∧ (nar .char x2).toInt ≤ 255 := by rw [he1231]; exact own_cb _
    obtain ⟨cl1232, Ar1232, q1232, S1232, N1232, H1232, G1232⟩ := id V1227
    have hin1232 : ¬ ((2 : Int32) < 0 ∨ cl1232.slots.size ≤ ((2 : Int32)).toNatClampNeg) := inb_of S1232 ⟨by decide, by decide⟩
    obtain ⟨T1233, h1233, X1233, e1233, W1233, st1233⟩ := stC X1227 hx hZ e1227 Ar1232 (j := (2 : Int32)) hin1232 (g := (mkF m 52 #[.val (.long qc), .second, .val (.int ps), .val (.int (3 : Int32)), .val (.ref b1215), .unset, .unset, .unset, .unset] [(.int x2), (.int (2 : Int32)), (.ref b1215)])) rfl rfl (hb hby at_52)
    have V1233 : Arv Z h1233 b1215 k1215 .char (5 : Int32) [(.int (nar .char x0)), (.int (nar .char x1)), (.int (nar .char x2)), (.int (0 : Int32)), (.int (0 : Int32))] (.int (0 : Int32)) := Arv.set Ar1232 q1232 S1232 N1232 H1232 G1232 (fits_nar_char x2) W1233 2 rfl (Nat.le_of_ble_eq_true rfl)
    have N1233 := Fr.snoc X1233 N1227 g_b1215
    have Zs1233 : n0 ≤ h1233.size := Nat.le_trans Zs1227 (Keep.of_wr W1233).1
    have KK1233 : Keep h0 h1233 [] := KK1227.wr W1233 (Or.inr sz_b1215)
    have O1233 := O1227.wr W1233 g_b1215
    have f1234 := f1228.wr W1233
    have f1235 := f1229.wr W1233
    have pre1236 : ∀ t, Sp p e below m T1233 66 #[.val (.long qc), .second, .val (.int ps), .val (.int (3 : Int32)), .val (.ref b1215), .unset, .unset, .unset, .unset] [(.int (((((qc.toUInt64 >>> ((24 : Int32) &&& 0x3f).toInt64.toUInt64).toInt64) &&& (255 : Int64)).toInt32).toUInt32.toUInt16.toUInt32.toInt32)), (.int (3 : Int32)), (.ref b1215)] t → Steps p.tables e below G0 t := by
      intro t k
      refine pre1230 t ?_
      show Sp p e below m T1227 52 #[.val (.long qc), .second, .val (.int ps), .val (.int (3 : Int32)), .val (.ref b1215), .unset, .unset, .unset, .unset] [(.int x2), (.int (2 : Int32)), (.ref b1215)] _
      refine st1233 _ ?_
      show Sp p e below m T1233 53 #[.val (.long qc), .second, .val (.int ps), .val (.int (3 : Int32)), .val (.ref b1215), .unset, .unset, .unset, .unset] [] _
      refine XS.aload X1233.here hx rfl (hb hby at_53) rfl rfl ?_
      refine XS.iconst X1233.here hx rfl (hb hby at_55) ?_
      show Sp p e below m T1233 56 #[.val (.long qc), .second, .val (.int ps), .val (.int (3 : Int32)), .val (.ref b1215), .unset, .unset, .unset, .unset] [(.int (3 : Int32)), (.ref b1215)] _
      refine XS.lloadN X1233.here hx rfl (hb hby at_56) rfl ?_
      refine XS.bipush X1233.here hx rfl (hb hby at_57) ?_
      show Sp p e below m T1233 59 #[.val (.long qc), .second, .val (.int ps), .val (.int (3 : Int32)), .val (.ref b1215), .unset, .unset, .unset, .unset] [(.int (24 : Int32)), (.long qc), (.int (3 : Int32)), (.ref b1215)] _
      refine XS.lushr X1233.here hx rfl (hb hby at_59) rfl ?_
      show Sp p e below m T1233 60 #[.val (.long qc), .second, .val (.int ps), .val (.int (3 : Int32)), .val (.ref b1215), .unset, .unset, .unset, .unset] [(.long ((qc.toUInt64 >>> ((24 : Int32) &&& 0x3f).toInt64.toUInt64).toInt64)), (.int (3 : Int32)), (.ref b1215)] _
      refine X1233.ldc2Long hx hown (mvT hZ (H 2 _ rfl)) (g := (mkF m 60 #[.val (.long qc), .second, .val (.int ps), .val (.int (3 : Int32)), .val (.ref b1215), .unset, .unset, .unset, .unset] [(.long ((qc.toUInt64 >>> ((24 : Int32) &&& 0x3f).toInt64.toUInt64).toInt64)), (.int (3 : Int32)), (.ref b1215)])) rfl (hb hby at_60) _ ?_
      show Sp p e below m T1233 63 #[.val (.long qc), .second, .val (.int ps), .val (.int (3 : Int32)), .val (.ref b1215), .unset, .unset, .unset, .unset] [(.long (255 : Int64)), (.long ((qc.toUInt64 >>> ((24 : Int32) &&& 0x3f).toInt64.toUInt64).toInt64)), (.int (3 : Int32)), (.ref b1215)] _
      refine XS.land X1233.here hx rfl (hb hby at_63) rfl ?_
      show Sp p e below m T1233 64 #[.val (.long qc), .second, .val (.int ps), .val (.int (3 : Int32)), .val (.ref b1215), .unset, .unset, .unset, .unset] [(.long (((qc.toUInt64 >>> ((24 : Int32) &&& 0x3f).toInt64.toUInt64).toInt64) &&& (255 : Int64))), (.int (3 : Int32)), (.ref b1215)] _
      refine XS.l2i X1233.here hx rfl (hb hby at_64) rfl ?_
      show Sp p e below m T1233 65 #[.val (.long qc), .second, .val (.int ps), .val (.int (3 : Int32)), .val (.ref b1215), .unset, .unset, .unset, .unset] [(.int ((((qc.toUInt64 >>> ((24 : Int32) &&& 0x3f).toInt64.toUInt64).toInt64) &&& (255 : Int64)).toInt32)), (.int (3 : Int32)), (.ref b1215)] _
      refine XS.i2c X1233.here hx rfl (hb hby at_65) rfl ?_
      exact k
    obtain ⟨x3, he1237⟩ : ∃ z : Int32, z = (((((qc.toUInt64 >>> ((24 : Int32) &&& 0x3f).toInt64.toUInt64).toInt64) &&& (255 : Int64)).toInt32).toUInt32.toUInt16.toUInt32.toInt32) := ⟨_, rfl⟩
    rw [← he1237] at pre1236
    have hb3 : 0 ≤ (nar .char x3).toInt ∧ (nar .char x3).toInt ≤ 255 := by rw [he1237]; exact own_cb _
    obtain ⟨cl1238, Ar1238, q1238, S1238, N1238, H1238, G1238⟩ := id V1233
    have hin1238 : ¬ ((3 : Int32) < 0 ∨ cl1238.slots.size ≤ ((3 : Int32)).toNatClampNeg) := inb_of S1238 ⟨by decide, by decide⟩
    obtain ⟨T1239, h1239, X1239, e1239, W1239, st1239⟩ := stC X1233 hx hZ e1233 Ar1238 (j := (3 : Int32)) hin1238 (g := (mkF m 66 #[.val (.long qc), .second, .val (.int ps), .val (.int (3 : Int32)), .val (.ref b1215), .unset, .unset, .unset, .unset] [(.int x3), (.int (3 : Int32)), (.ref b1215)])) rfl rfl (hb hby at_66)
    have V1239 : Arv Z h1239 b1215 k1215 .char (5 : Int32) [(.int (nar .char x0)), (.int (nar .char x1)), (.int (nar .char x2)), (.int (nar .char x3)), (.int (0 : Int32))] (.int (0 : Int32)) := Arv.set Ar1238 q1238 S1238 N1238 H1238 G1238 (fits_nar_char x3) W1239 3 rfl (Nat.le_of_ble_eq_true rfl)
    have N1239 := Fr.snoc X1239 N1233 g_b1215
    have Zs1239 : n0 ≤ h1239.size := Nat.le_trans Zs1233 (Keep.of_wr W1239).1
    have KK1239 : Keep h0 h1239 [] := KK1233.wr W1239 (Or.inr sz_b1215)
    have O1239 := O1233.wr W1239 g_b1215
    have f1240 := f1234.wr W1239
    have f1241 := f1235.wr W1239
    have pre1242 : ∀ t, Sp p e below m T1239 80 #[.val (.long qc), .second, .val (.int ps), .val (.int (3 : Int32)), .val (.ref b1215), .unset, .unset, .unset, .unset] [(.int (((((qc.toUInt64 >>> ((32 : Int32) &&& 0x3f).toInt64.toUInt64).toInt64) &&& (255 : Int64)).toInt32).toUInt32.toUInt16.toUInt32.toInt32)), (.int (4 : Int32)), (.ref b1215)] t → Steps p.tables e below G0 t := by
      intro t k
      refine pre1236 t ?_
      show Sp p e below m T1233 66 #[.val (.long qc), .second, .val (.int ps), .val (.int (3 : Int32)), .val (.ref b1215), .unset, .unset, .unset, .unset] [(.int x3), (.int (3 : Int32)), (.ref b1215)] _
      refine st1239 _ ?_
      show Sp p e below m T1239 67 #[.val (.long qc), .second, .val (.int ps), .val (.int (3 : Int32)), .val (.ref b1215), .unset, .unset, .unset, .unset] [] _
      refine XS.aload X1239.here hx rfl (hb hby at_67) rfl rfl ?_
      refine XS.iconst X1239.here hx rfl (hb hby at_69) ?_
      show Sp p e below m T1239 70 #[.val (.long qc), .second, .val (.int ps), .val (.int (3 : Int32)), .val (.ref b1215), .unset, .unset, .unset, .unset] [(.int (4 : Int32)), (.ref b1215)] _
      refine XS.lloadN X1239.here hx rfl (hb hby at_70) rfl ?_
      refine XS.bipush X1239.here hx rfl (hb hby at_71) ?_
      show Sp p e below m T1239 73 #[.val (.long qc), .second, .val (.int ps), .val (.int (3 : Int32)), .val (.ref b1215), .unset, .unset, .unset, .unset] [(.int (32 : Int32)), (.long qc), (.int (4 : Int32)), (.ref b1215)] _
      refine XS.lushr X1239.here hx rfl (hb hby at_73) rfl ?_
      show Sp p e below m T1239 74 #[.val (.long qc), .second, .val (.int ps), .val (.int (3 : Int32)), .val (.ref b1215), .unset, .unset, .unset, .unset] [(.long ((qc.toUInt64 >>> ((32 : Int32) &&& 0x3f).toInt64.toUInt64).toInt64)), (.int (4 : Int32)), (.ref b1215)] _
      refine X1239.ldc2Long hx hown (mvT hZ (H 2 _ rfl)) (g := (mkF m 74 #[.val (.long qc), .second, .val (.int ps), .val (.int (3 : Int32)), .val (.ref b1215), .unset, .unset, .unset, .unset] [(.long ((qc.toUInt64 >>> ((32 : Int32) &&& 0x3f).toInt64.toUInt64).toInt64)), (.int (4 : Int32)), (.ref b1215)])) rfl (hb hby at_74) _ ?_
      show Sp p e below m T1239 77 #[.val (.long qc), .second, .val (.int ps), .val (.int (3 : Int32)), .val (.ref b1215), .unset, .unset, .unset, .unset] [(.long (255 : Int64)), (.long ((qc.toUInt64 >>> ((32 : Int32) &&& 0x3f).toInt64.toUInt64).toInt64)), (.int (4 : Int32)), (.ref b1215)] _
      refine XS.land X1239.here hx rfl (hb hby at_77) rfl ?_
      show Sp p e below m T1239 78 #[.val (.long qc), .second, .val (.int ps), .val (.int (3 : Int32)), .val (.ref b1215), .unset, .unset, .unset, .unset] [(.long (((qc.toUInt64 >>> ((32 : Int32) &&& 0x3f).toInt64.toUInt64).toInt64) &&& (255 : Int64))), (.int (4 : Int32)), (.ref b1215)] _
      refine XS.l2i X1239.here hx rfl (hb hby at_78) rfl ?_
      show Sp p e below m T1239 79 #[.val (.long qc), .second, .val (.int ps), .val (.int (3 : Int32)), .val (.ref b1215), .unset, .unset, .unset, .unset] [(.int ((((qc.toUInt64 >>> ((32 : Int32) &&& 0x3f).toInt64.toUInt64).toInt64) &&& (255 : Int64)).toInt32)), (.int (4 : Int32)), (.ref b1215)] _
      refine XS.i2c X1239.here hx rfl (hb hby at_79) rfl ?_
      exact k
    obtain ⟨x4, he1243⟩ : ∃ z : Int32, z = (((((qc.toUInt64 >>> ((32 : Int32) &&& 0x3f).toInt64.toUInt64).toInt64) &&& (255 : Int64)).toInt32).toUInt32.toUInt16.toUInt32.toInt32) := ⟨_, rfl⟩
    rw [← he1243] at pre1242
    have hb4 : 0 ≤ (nar .char x4).toInt ∧ (nar .char x4).toInt ≤ 255 := by rw [he1243]; exact own_cb _
    obtain ⟨Tm1257, hm1257, lm1257, y0, Xm1257, em1257, Nm1257, Zm1257, Km1257, f1258, f1259, f1260, f1261, hv1263, pre1262⟩ : ∃ (Tm1257 : State) (hm1257 : Heap) (lm1257 : List Loc) (y0 : Int32), Stand p l e room_1 s m #[(.long qc), (.int ps)] below meth c Tm1257 lm1257 1 5 ∧ Tm1257.heap = hm1257 ∧ Fr n0 lm1257 ∧ n0 ≤ hm1257.size ∧ Keep h0 hm1257 [] ∧ Old Z n0 hm1257 ∧ Sta Z hm1257 "java/lang/String" "COMPACT_STRINGS" "Z" (.int cs) ∧ Sta Z hm1257 "jdk/internal/util/Preconditions" "SIOOBE_FORMATTER" "Ljava/util/function/BiFunction;" vf ∧ Arv Z hm1257 b1215 k1215 .char (5 : Int32) [(.int y0), (.int (nar .char x1)), (.int (nar .char x2)), (.int (nar .char x3)), (.int (nar .char x4))] (.int (0 : Int32)) ∧ (¬ y0 = 46 ∧ (0 ≤ y0.toInt ∧ y0.toInt ≤ 255)) ∧ ∀ t, Sp p e below m Tm1257 96 #[.val (.long qc), .second, .val (.int ps), .val (.int (3 : Int32)), .val (.ref b1215), .unset, .unset, .unset, .unset] [] t → Steps p.tables e below G0 t := by
      obtain ⟨cl1244, Ar1244, q1244, S1244, N1244, H1244, G1244⟩ := id V1239
      have hin1244 : ¬ ((4 : Int32) < 0 ∨ cl1244.slots.size ≤ ((4 : Int32)).toNatClampNeg) := inb_of S1244 ⟨by decide, by decide⟩
      obtain ⟨T1245, h1245, X1245, e1245, W1245, st1245⟩ := stC X1239 hx hZ e1239 Ar1244 (j := (4 : Int32)) hin1244 (g := (mkF m 80 #[.val (.long qc), .second, .val (.int ps), .val (.int (3 : Int32)), .val (.ref b1215), .unset, .unset, .unset, .unset] [(.int x4), (.int (4 : Int32)), (.ref b1215)])) rfl rfl (hb hby at_80)
      have V1245 : Arv Z h1245 b1215 k1215 .char (5 : Int32) [(.int (nar .char x0)), (.int (nar .char x1)), (.int (nar .char x2)), (.int (nar .char x3)), (.int (nar .char x4))] (.int (0 : Int32)) := Arv.set Ar1244 q1244 S1244 N1244 H1244 G1244 (fits_nar_char x4) W1245 4 rfl (Nat.le_of_ble_eq_true rfl)
      have N1245 := Fr.snoc X1245 N1239 g_b1215
      have Zs1245 : n0 ≤ h1245.size := Nat.le_trans Zs1239 (Keep.of_wr W1245).1
      have KK1245 : Keep h0 h1245 [] := KK1239.wr W1245 (Or.inr sz_b1215)
      have O1245 := O1239.wr W1245 g_b1215
      have f1246 := f1240.wr W1245
      have f1247 := f1241.wr W1245
      obtain ⟨cl1248, Ar1248, -, S1248, -, H1248, -⟩ := id V1245
      have hin1248 : ¬ ((0 : Int32) < 0 ∨ cl1248.slots.size ≤ ((0 : Int32)).toNatClampNeg) := inb_of S1248 ⟨by decide, by decide⟩
      have hat1248 : cl1248.slots[((0 : Int32)).toNatClampNeg]? = some (.int (nar .char x0)) := H1248.at hin1248 rfl
      have pre1249 : ∀ t, Sp p e below m T1245 87 #[.val (.long qc), .second, .val (.int ps), .val (.int (3 : Int32)), .val (.ref b1215), .unset, .unset, .unset, .unset] [(.int (46 : Int32)), (.int (nar .char x0))] t → Steps p.tables e below G0 t := by
        intro t k
        refine pre1242 t ?_
        show Sp p e below m T1239 80 #[.val (.long qc), .second, .val (.int ps), .val (.int (3 : Int32)), .val (.ref b1215), .unset, .unset, .unset, .unset] [(.int x4), (.int (4 : Int32)), (.ref b1215)] _
        refine st1245 _ ?_
        show Sp p e below m T1245 81 #[.val (.long qc), .second, .val (.int ps), .val (.int (3 : Int32)), .val (.ref b1215), .unset, .unset, .unset, .unset] [] _
        refine XS.aload X1245.here hx rfl (hb hby at_81) rfl rfl ?_
        refine XS.iconst X1245.here hx rfl (hb hby at_83) ?_
        show Sp p e below m T1245 84 #[.val (.long qc), .second, .val (.int ps), .val (.int (3 : Int32)), .val (.ref b1215), .unset, .unset, .unset, .unset] [(.int (0 : Int32)), (.ref b1215)] _
        refine X1245.caload hx (j := (0 : Int32)) (v := (.int (nar .char x0))) (by rw [e1245]; exact Ar1248.1) (State.isArrayOf_alike hZ.alike Ar1248.2.1) Ar1248.2.2 hin1248 hat1248 (g := (mkF m 84 #[.val (.long qc), .second, .val (.int ps), .val (.int (3 : Int32)), .val (.ref b1215), .unset, .unset, .unset, .unset] [(.int (0 : Int32)), (.ref b1215)])) rfl rfl (hb hby at_84) _ ?_
        show Sp p e below m T1245 85 #[.val (.long qc), .second, .val (.int ps), .val (.int (3 : Int32)), .val (.ref b1215), .unset, .unset, .unset, .unset] [(.int (nar .char x0))] _
        refine XS.bipush X1245.here hx rfl (hb hby at_85) ?_
        exact k
      by_cases hc87_1250 : (nar .char x0) = (46 : Int32)
      · obtain ⟨cl1251, Ar1251, q1251, S1251, N1251, H1251, G1251⟩ := id V1245
        have hin1251 : ¬ ((0 : Int32) < 0 ∨ cl1251.slots.size ≤ ((0 : Int32)).toNatClampNeg) := inb_of S1251 ⟨by decide, by decide⟩
        obtain ⟨T1252, h1252, X1252, e1252, W1252, st1252⟩ := stC X1245 hx hZ e1245 Ar1251 (j := (0 : Int32)) hin1251 (g := (mkF m 95 #[.val (.long qc), .second, .val (.int ps), .val (.int (3 : Int32)), .val (.ref b1215), .unset, .unset, .unset, .unset] [(.int (47 : Int32)), (.int (0 : Int32)), (.ref b1215)])) rfl rfl (hb hby at_95)
        have V1252 : Arv Z h1252 b1215 k1215 .char (5 : Int32) [(.int (47 : Int32)), (.int (nar .char x1)), (.int (nar .char x2)), (.int (nar .char x3)), (.int (nar .char x4))] (.int (0 : Int32)) := Arv.set Ar1251 q1251 S1251 N1251 H1251 G1251 (fits_nar_char (47 : Int32)) W1252 0 rfl (Nat.le_of_ble_eq_true rfl)
        have N1252 := Fr.snoc X1252 N1245 g_b1215
        have Zs1252 : n0 ≤ h1252.size := Nat.le_trans Zs1245 (Keep.of_wr W1252).1
        have KK1252 : Keep h0 h1252 [] := KK1245.wr W1252 (Or.inr sz_b1215)
        have O1252 := O1245.wr W1252 g_b1215
        have f1253 := f1246.wr W1252
        have f1254 := f1247.wr W1252
        have pre1255 : ∀ t, Sp p e below m T1252 96 #[.val (.long qc), .second, .val (.int ps), .val (.int (3 : Int32)), .val (.ref b1215), .unset, .unset, .unset, .unset] [] t → Steps p.tables e below G0 t := by
          intro t k
          refine pre1249 t ?_
          show Sp p e below m T1245 87 #[.val (.long qc), .second, .val (.int ps), .val (.int (3 : Int32)), .val (.ref b1215), .unset, .unset, .unset, .unset] [(.int (46 : Int32)), (.int (nar .char x0))] _
          refine XS.icmpNo X1245.here hx rfl (hb hby at_87) rfl (teq hc87_1250).2 ?_
          show Sp p e below m T1245 90 #[.val (.long qc), .second, .val (.int ps), .val (.int (3 : Int32)), .val (.ref b1215), .unset, .unset, .unset, .unset] [] _
          refine XS.aload X1245.here hx rfl (hb hby at_90) rfl rfl ?_
          refine XS.iconst X1245.here hx rfl (hb hby at_92) ?_
          show Sp p e below m T1245 93 #[.val (.long qc), .second, .val (.int ps), .val (.int (3 : Int32)), .val (.ref b1215), .unset, .unset, .unset, .unset] [(.int (0 : Int32)), (.ref b1215)] _
          refine XS.bipush X1245.here hx rfl (hb hby at_93) ?_
          refine st1252 _ ?_
          exact k
        exact ⟨T1252, h1252, _, (47 : Int32), X1252, e1252, N1252, Zs1252, KK1252, O1252, f1253, f1254, V1252, (by exact ⟨by decide, by decide⟩), pre1255⟩
      · have pre1256 : ∀ t, Sp p e below m T1245 96 #[.val (.long qc), .second, .val (.int ps), .val (.int (3 : Int32)), .val (.ref b1215), .unset, .unset, .unset, .unset] [] t → Steps p.tables e below G0 t := by
          intro t k
          refine pre1249 t ?_
          show Sp p e below m T1245 87 #[.val (.long qc), .second, .val (.int ps), .val (.int (3 : Int32)), .val (.ref b1215), .unset, .unset, .unset, .unset] [(.int (46 : Int32)), (.int (nar .char x0))] _
          refine XS.icmpYes X1245.here hx rfl (pc0 := 87) (pc' := 96) rfl (hb hby at_87) rfl (feq hc87_1250).2 (by decide) (by decide) ?_
          exact k
        exact ⟨T1245, h1245, _, (nar .char x0), X1245, e1245, N1245, Zs1245, KK1245, O1245, f1246, f1247, V1245, (by exact ⟨hc87_1250, hb0⟩), pre1256⟩
    obtain ⟨Tm1273, hm1273, lm1273, y1, Xm1273, em1273, Nm1273, Zm1273, Km1273, f1274, f1275, f1276, f1277, hv1279, pre1278⟩ : ∃ (Tm1273 : State) (hm1273 : Heap) (lm1273 : List Loc) (y1 : Int32), Stand p l e room_1 s m #[(.long qc), (.int ps)] below meth c Tm1273 lm1273 1 5 ∧ Tm1273.heap = hm1273 ∧ Fr n0 lm1273 ∧ n0 ≤ hm1273.size ∧ Keep h0 hm1273 [] ∧ Old Z n0 hm1273 ∧ Sta Z hm1273 "java/lang/String" "COMPACT_STRINGS" "Z" (.int cs) ∧ Sta Z hm1273 "jdk/internal/util/Preconditions" "SIOOBE_FORMATTER" "Ljava/util/function/BiFunction;" vf ∧ Arv Z hm1273 b1215 k1215 .char (5 : Int32) [(.int y0), (.int y1), (.int (nar .char x2)), (.int (nar .char x3)), (.int (nar .char x4))] (.int (0 : Int32)) ∧ (¬ y1 = 46 ∧ (0 ≤ y1.toInt ∧ y1.toInt ≤ 255)) ∧ ∀ t, Sp p e below m Tm1273 116 #[.val (.long qc), .second, .val (.int ps), .val (.int (3 : Int32)), .val (.ref b1215), .unset, .unset, .unset, .unset] [] t → Steps p.tables e below G0 t := by
      obtain ⟨cl1264, Ar1264, -, S1264, -, H1264, -⟩ := id f1261
      have hin1264 : ¬ ((1 : Int32) < 0 ∨ cl1264.slots.size ≤ ((1 : Int32)).toNatClampNeg) := inb_of S1264 ⟨by decide, by decide⟩
      have hat1264 : cl1264.slots[((1 : Int32)).toNatClampNeg]? = some (.int (nar .char x1)) := H1264.at hin1264 rfl
      have pre1265 : ∀ t, Sp p e below m Tm1257 107 #[.val (.long qc), .second, .val (.int ps), .val (.int (3 : Int32)), .val (.ref b1215), .unset, .unset, .unset, .unset] [(.int (46 : Int32)), (.int (nar .char x1))] t → Steps p.tables e below G0 t := by
        intro t k
        refine pre1262 t ?_
        show Sp p e below m Tm1257 96 #[.val (.long qc), .second, .val (.int ps), .val (.int (3 : Int32)), .val (.ref b1215), .unset, .unset, .unset, .unset] [] _
        refine XS.iloadN Xm1257.here hx rfl (hb hby at_96) rfl ?_
        refine XS.iconst Xm1257.here hx rfl (hb hby at_97) ?_
        show Sp p e below m Tm1257 98 #[.val (.long qc), .second, .val (.int ps), .val (.int (3 : Int32)), .val (.ref b1215), .unset, .unset, .unset, .unset] [(.int (1 : Int32)), (.int (3 : Int32))] _
        refine XS.icmpNo Xm1257.here hx rfl (hb hby at_98) rfl (tlt (by decide : ((1 : Int32) < (3 : Int32)))).2.2.2 ?_
        show Sp p e below m Tm1257 101 #[.val (.long qc), .second, .val (.int ps), .val (.int (3 : Int32)), .val (.ref b1215), .unset, .unset, .unset, .unset] [] _
        refine XS.aload Xm1257.here hx rfl (hb hby at_101) rfl rfl ?_
        refine XS.iconst Xm1257.here hx rfl (hb hby at_103) ?_
        show Sp p e below m Tm1257 104 #[.val (.long qc), .second, .val (.int ps), .val (.int (3 : Int32)), .val (.ref b1215), .unset, .unset, .unset, .unset] [(.int (1 : Int32)), (.ref b1215)] _
        refine Xm1257.caload hx (j := (1 : Int32)) (v := (.int (nar .char x1))) (by rw [em1257]; exact Ar1264.1) (State.isArrayOf_alike hZ.alike Ar1264.2.1) Ar1264.2.2 hin1264 hat1264 (g := (mkF m 104 #[.val (.long qc), .second, .val (.int ps), .val (.int (3 : Int32)), .val (.ref b1215), .unset, .unset, .unset, .unset] [(.int (1 : Int32)), (.ref b1215)])) rfl rfl (hb hby at_104) _ ?_
        show Sp p e below m Tm1257 105 #[.val (.long qc), .second, .val (.int ps), .val (.int (3 : Int32)), .val (.ref b1215), .unset, .unset, .unset, .unset] [(.int (nar .char x1))] _
        refine XS.bipush Xm1257.here hx rfl (hb hby at_105) ?_
        exact k
      by_cases hc107_1266 : (nar .char x1) = (46 : Int32)
      · obtain ⟨cl1267, Ar1267, q1267, S1267, N1267, H1267, G1267⟩ := id f1261
        have hin1267 : ¬ ((1 : Int32) < 0 ∨ cl1267.slots.size ≤ ((1 : Int32)).toNatClampNeg) := inb_of S1267 ⟨by decide, by decide⟩
        obtain ⟨T1268, h1268, X1268, e1268, W1268, st1268⟩ := stC Xm1257 hx hZ em1257 Ar1267 (j := (1 : Int32)) hin1267 (g := (mkF m 115 #[.val (.long qc), .second, .val (.int ps), .val (.int (3 : Int32)), .val (.ref b1215), .unset, .unset, .unset, .unset] [(.int (47 : Int32)), (.int (1 : Int32)), (.ref b1215)])) rfl rfl (hb hby at_115)
        have V1268 : Arv Z h1268 b1215 k1215 .char (5 : Int32) [(.int y0), (.int (47 : Int32)), (.int (nar .char x2)), (.int (nar .char x3)), (.int (nar .char x4))] (.int (0 : Int32)) := Arv.set Ar1267 q1267 S1267 N1267 H1267 G1267 (fits_nar_char (47 : Int32)) W1268 1 rfl (Nat.le_of_ble_eq_true rfl)
        have N1268 := Fr.snoc X1268 Nm1257 g_b1215
        have Zs1268 : n0 ≤ h1268.size := Nat.le_trans Zm1257 (Keep.of_wr W1268).1
        have KK1268 : Keep h0 h1268 [] := Km1257.wr W1268 (Or.inr sz_b1215)
        have O1268 := f1258.wr W1268 g_b1215
        have f1269 := f1259.wr W1268
        have f1270 := f1260.wr W1268
        have pre1271 : ∀ t, Sp p e below m T1268 116 #[.val (.long qc), .second, .val (.int ps), .val (.int (3 : Int32)), .val (.ref b1215), .unset, .unset, .unset, .unset] [] t → Steps p.tables e below G0 t := by
          intro t k
          refine pre1265 t ?_
          show Sp p e below m Tm1257 107 #[.val (.long qc), .second, .val (.int ps), .val (.int (3 : Int32)), .val (.ref b1215), .unset, .unset, .unset, .unset] [(.int (46 : Int32)), (.int (nar .char x1))] _
          refine XS.icmpNo Xm1257.here hx rfl (hb hby at_107) rfl (teq hc107_1266).2 ?_
          show Sp p e below m Tm1257 110 #[.val (.long qc), .second, .val (.int ps), .val (.int (3 : Int32)), .val (.ref b1215), .unset, .unset, .unset, .unset] [] _
          refine XS.aload Xm1257.here hx rfl (hb hby at_110) rfl rfl ?_
          refine XS.iconst Xm1257.here hx rfl (hb hby at_112) ?_
          show Sp p e below m Tm1257 113 #[.val (.long qc), .second, .val (.int ps), .val (.int (3 : Int32)), .val (.ref b1215), .unset, .unset, .unset, .unset] [(.int (1 : Int32)), (.ref b1215)] _
          refine XS.bipush Xm1257.here hx rfl (hb hby at_113) ?_
          refine st1268 _ ?_
          exact k
        exact ⟨T1268, h1268, _, (47 : Int32), X1268, e1268, N1268, Zs1268, KK1268, O1268, f1269, f1270, V1268, (by exact ⟨by decide, by decide⟩), pre1271⟩
      · have pre1272 : ∀ t, Sp p e below m Tm1257 116 #[.val (.long qc), .second, .val (.int ps), .val (.int (3 : Int32)), .val (.ref b1215), .unset, .unset, .unset, .unset] [] t → Steps p.tables e below G0 t := by
          intro t k
          refine pre1265 t ?_
          show Sp p e below m Tm1257 107 #[.val (.long qc), .second, .val (.int ps), .val (.int (3 : Int32)), .val (.ref b1215), .unset, .unset, .unset, .unset] [(.int (46 : Int32)), (.int (nar .char x1))] _
          refine XS.icmpYes Xm1257.here hx rfl (pc0 := 107) (pc' := 116) rfl (hb hby at_107) rfl (feq hc107_1266).2 (by decide) (by decide) ?_
          exact k
        exact ⟨Tm1257, hm1257, _, (nar .char x1), Xm1257, em1257, Nm1257, Zm1257, Km1257, f1258, f1259, f1260, f1261, (by exact ⟨hc107_1266, hb1⟩), pre1272⟩
    obtain ⟨Tm1289, hm1289, lm1289, y2, Xm1289, em1289, Nm1289, Zm1289, Km1289, f1290, f1291, f1292, f1293, hv1295, pre1294⟩ : ∃ (Tm1289 : State) (hm1289 : Heap) (lm1289 : List Loc) (y2 : Int32), Stand p l e room_1 s m #[(.long qc), (.int ps)] below meth c Tm1289 lm1289 1 5 ∧ Tm1289.heap = hm1289 ∧ Fr n0 lm1289 ∧ n0 ≤ hm1289.size ∧ Keep h0 hm1289 [] ∧ Old Z n0 hm1289 ∧ Sta Z hm1289 "java/lang/String" "COMPACT_STRINGS" "Z" (.int cs) ∧ Sta Z hm1289 "jdk/internal/util/Preconditions" "SIOOBE_FORMATTER" "Ljava/util/function/BiFunction;" vf ∧ Arv Z hm1289 b1215 k1215 .char (5 : Int32) [(.int y0), (.int y1), (.int y2), (.int (nar .char x3)), (.int (nar .char x4))] (.int (0 : Int32)) ∧ (¬ y2 = 46 ∧ (0 ≤ y2.toInt ∧ y2.toInt ≤ 255)) ∧ ∀ t, Sp p e below m Tm1289 136 #[.val (.long qc), .second, .val (.int ps), .val (.int (3 : Int32)), .val (.ref b1215), .unset, .unset, .unset, .unset] [] t → Steps p.tables e below G0 t := by
      obtain ⟨cl1280, Ar1280, -, S1280, -, H1280, -⟩ := id f1277
      have hin1280 : ¬ ((2 : Int32) < 0 ∨ cl1280.slots.size ≤ ((2 : Int32)).toNatClampNeg) := inb_of S1280 ⟨by decide, by decide⟩
      have hat1280 : cl1280.slots[((2 : Int32)).toNatClampNeg]? = some (.int (nar .char x2)) := H1280.at hin1280 rfl
      have pre1281 : ∀ t, Sp p e below m Tm1273 127 #[.val (.long qc), .second, .val (.int ps), .val (.int (3 : Int32)), .val (.ref b1215), .unset, .unset, .unset, .unset] [(.int (46 : Int32)), (.int (nar .char x2))] t → Steps p.tables e below G0 t := by
        intro t k
        refine pre1278 t ?_
        show Sp p e below m Tm1273 116 #[.val (.long qc), .second, .val (.int ps), .val (.int (3 : Int32)), .val (.ref b1215), .unset, .unset, .unset, .unset] [] _
        refine XS.iloadN Xm1273.here hx rfl (hb hby at_116) rfl ?_
        refine XS.iconst Xm1273.here hx rfl (hb hby at_117) ?_
        show Sp p e below m Tm1273 118 #[.val (.long qc), .second, .val (.int ps), .val (.int (3 : Int32)), .val (.ref b1215), .unset, .unset, .unset, .unset] [(.int (2 : Int32)), (.int (3 : Int32))] _
        refine XS.icmpNo Xm1273.here hx rfl (hb hby at_118) rfl (tlt (by decide : ((2 : Int32) < (3 : Int32)))).2.2.2 ?_
        show Sp p e below m Tm1273 121 #[.val (.long qc), .second, .val (.int ps), .val (.int (3 : Int32)), .val (.ref b1215), .unset, .unset, .unset, .unset] [] _
        refine XS.aload Xm1273.here hx rfl (hb hby at_121) rfl rfl ?_
        refine XS.iconst Xm1273.here hx rfl (hb hby at_123) ?_
        show Sp p e below m Tm1273 124 #[.val (.long qc), .second, .val (.int ps), .val (.int (3 : Int32)), .val (.ref b1215), .unset, .unset, .unset, .unset] [(.int (2 : Int32)), (.ref b1215)] _
        refine Xm1273.caload hx (j := (2 : Int32)) (v := (.int (nar .char x2))) (by rw [em1273]; exact Ar1280.1) (State.isArrayOf_alike hZ.alike Ar1280.2.1) Ar1280.2.2 hin1280 hat1280 (g := (mkF m 124 #[.val (.long qc), .second, .val (.int ps), .val (.int (3 : Int32)), .val (.ref b1215), .unset, .unset, .unset, .unset] [(.int (2 : Int32)), (.ref b1215)])) rfl rfl (hb hby at_124) _ ?_
        show Sp p e below m Tm1273 125 #[.val (.long qc), .second, .val (.int ps), .val (.int (3 : Int32)), .val (.ref b1215), .unset, .unset, .unset, .unset] [(.int (nar .char x2))] _
        refine XS.bipush Xm1273.here hx rfl (hb hby at_125) ?_
        exact k
      by_cases hc127_1282 : (nar .char x2) = (46 : Int32)
      · obtain ⟨cl1283, Ar1283, q1283, S1283, N1283, H1283, G1283⟩ := id f1277
        have hin1283 : ¬ ((2 : Int32) < 0 ∨ cl1283.slots.size ≤ ((2 : Int32)).toNatClampNeg) := inb_of S1283 ⟨by decide, by decide⟩
        obtain ⟨T1284, h1284, X1284, e1284, W1284, st1284⟩ := stC Xm1273 hx hZ em1273 Ar1283 (j := (2 : Int32)) hin1283 (g := (mkF m 135 #[.val (.long qc), .second, .val (.int ps), .val (.int (3 : Int32)), .val (.ref b1215), .unset, .unset, .unset, .unset] [(.int (47 : Int32)), (.int (2 : Int32)), (.ref b1215)])) rfl rfl (hb hby at_135)
        have V1284 : Arv Z h1284 b1215 k1215 .char (5 : Int32) [(.int y0), (.int y1), (.int (47 : Int32)), (.int (nar .char x3)), (.int (nar .char x4))] (.int (0 : Int32)) := Arv.set Ar1283 q1283 S1283 N1283 H1283 G1283 (fits_nar_char (47 : Int32)) W1284 2 rfl (Nat.le_of_ble_eq_true rfl)
        have N1284 := Fr.snoc X1284 Nm1273 g_b1215
        have Zs1284 : n0 ≤ h1284.size := Nat.le_trans Zm1273 (Keep.of_wr W1284).1
        have KK1284 : Keep h0 h1284 [] := Km1273.wr W1284 (Or.inr sz_b1215)
        have O1284 := f1274.wr W1284 g_b1215
        have f1285 := f1275.wr W1284
        have f1286 := f1276.wr W1284
        have pre1287 : ∀ t, Sp p e below m T1284 136 #[.val (.long qc), .second, .val (.int ps), .val (.int (3 : Int32)), .val (.ref b1215), .unset, .unset, .unset, .unset] [] t → Steps p.tables e below G0 t := by
          intro t k
          refine pre1281 t ?_
          show Sp p e below m Tm1273 127 #[.val (.long qc), .second, .val (.int ps), .val (.int (3 : Int32)), .val (.ref b1215), .unset, .unset, .unset, .unset] [(.int (46 : Int32)), (.int (nar .char x2))] _
          refine XS.icmpNo Xm1273.here hx rfl (hb hby at_127) rfl (teq hc127_1282).2 ?_
          show Sp p e below m Tm1273 130 #[.val (.long qc), .second, .val (.int ps), .val (.int (3 : Int32)), .val (.ref b1215), .unset, .unset, .unset, .unset] [] _
          refine XS.aload Xm1273.here hx rfl (hb hby at_130) rfl rfl ?_
          refine XS.iconst Xm1273.here hx rfl (hb hby at_132) ?_
          show Sp p e below m Tm1273 133 #[.val (.long qc), .second, .val (.int ps), .val (.int (3 : Int32)), .val (.ref b1215), .unset, .unset, .unset, .unset] [(.int (2 : Int32)), (.ref b1215)] _
          refine XS.bipush Xm1273.here hx rfl (hb hby at_133) ?_
          refine st1284 _ ?_
          exact k
        exact ⟨T1284, h1284, _, (47 : Int32), X1284, e1284, N1284, Zs1284, KK1284, O1284, f1285, f1286, V1284, (by exact ⟨by decide, by decide⟩), pre1287⟩
      · have pre1288 : ∀ t, Sp p e below m Tm1273 136 #[.val (.long qc), .second, .val (.int ps), .val (.int (3 : Int32)), .val (.ref b1215), .unset, .unset, .unset, .unset] [] t → Steps p.tables e below G0 t := by
          intro t k
          refine pre1281 t ?_
          show Sp p e below m Tm1273 127 #[.val (.long qc), .second, .val (.int ps), .val (.int (3 : Int32)), .val (.ref b1215), .unset, .unset, .unset, .unset] [(.int (46 : Int32)), (.int (nar .char x2))] _
          refine XS.icmpYes Xm1273.here hx rfl (pc0 := 127) (pc' := 136) rfl (hb hby at_127) rfl (feq hc127_1282).2 (by decide) (by decide) ?_
          exact k
        exact ⟨Tm1273, hm1273, _, (nar .char x2), Xm1273, em1273, Nm1273, Zm1273, Km1273, f1274, f1275, f1276, f1277, (by exact ⟨hc127_1282, hb2⟩), pre1288⟩
    obtain ⟨cl1296, Ar1296, q1296, S1296, N1296, H1296, G1296⟩ := id f1293
    have hin1296 : ¬ ((3 : Int32) < 0 ∨ cl1296.slots.size ≤ ((3 : Int32)).toNatClampNeg) := inb_of S1296 ⟨by decide, by decide⟩
    obtain ⟨T1297, h1297, X1297, e1297, W1297, st1297⟩ := stC Xm1289 hx hZ em1289 Ar1296 (j := (3 : Int32)) hin1296 (g := (mkF m 141 #[.val (.long qc), .second, .val (.int ps), .val (.int (3 : Int32)), .val (.ref b1215), .unset, .unset, .unset, .unset] [(.int (46 : Int32)), (.int (3 : Int32)), (.ref b1215)])) rfl rfl (hb hby at_141)
    have V1297 : Arv Z h1297 b1215 k1215 .char (5 : Int32) [(.int y0), (.int y1), (.int y2), (.int (46 : Int32)), (.int (nar .char x4))] (.int (0 : Int32)) := Arv.set Ar1296 q1296 S1296 N1296 H1296 G1296 (fits_nar_char (46 : Int32)) W1297 3 rfl (Nat.le_of_ble_eq_true rfl)
    have N1297 := Fr.snoc X1297 Nm1289 g_b1215
    have Zs1297 : n0 ≤ h1297.size := Nat.le_trans Zm1289 (Keep.of_wr W1297).1
    have KK1297 : Keep h0 h1297 [] := Km1289.wr W1297 (Or.inr sz_b1215)
    have O1297 := f1290.wr W1297 g_b1215
    have f1298 := f1291.wr W1297
    have f1299 := f1292.wr W1297
    obtain ⟨T1300, h1300, X1300, e1300, E1300, A1300, D1300, -, st1300⟩ := newO X1297 hx hZ hown (H 3 _ rfl) (H 4 _ rfl) (H 5 _ rfl) e1297 (g := (mkF m 142 #[.val (.long qc), .second, .val (.int ps), .val (.int (3 : Int32)), .val (.ref b1215), .unset, .unset, .unset, .unset] [])) rfl (hb hby at_142) (by decide) (by decide)
    obtain ⟨b1300, g1300⟩ : ∃ z, z = h1297.size := ⟨_, rfl⟩
    rw [← g1300] at A1300 D1300 st1300
    have g_b1300 : n0 ≤ b1300 := Nat.le_trans Zs1297 (Nat.le_of_eq g1300.symm)
    have sz_b1300 : h0.size ≤ b1300 := Nat.le_trans KK1297.1 (Nat.le_of_eq g1300.symm)
    have lt_b1215_b1300 : b1215 < b1300 := Nat.lt_of_lt_of_le V1297.lt (Nat.le_of_eq g1300.symm)
    have ne_b1215_b1300 : b1215 ≠ b1300 := Nat.ne_of_lt lt_b1215_b1300
    have Zs1300 : n0 ≤ h1300.size := Nat.le_trans Zs1297 E1300.1
    have KK1300 : Keep h0 h1300 [] := KK1297.ext E1300
    have O1300 := O1297.ext E1300
    have f1301 := f1298.ext E1300
    have f1302 := f1299.ext E1300
    have f1303 := V1297.ext E1300
    have f1304 : Fld Z h1300 b1300 "java/lang/String" "coder" "B" (.int (0 : Int32)) := D1300 (Or.inr (H 29 _ rfl)) (ty := .byte) (by decide)
    have f1305 : Fld Z h1300 b1300 "java/lang/String" "value" "[B" .null := D1300 (Or.inr (H 31 _ rfl)) (ty := (.array .byte)) (by decide)
    obtain ⟨_, _, ⟨T1306, L1306, k1306, n1306⟩, -, X1306, ⟨Lc1306, hQ1306, l1306, y1306, z1306⟩, st1306⟩ := X1300.specialBack hx (y := (⟨"java/lang/String", "<init>", "([C)V"⟩ : MethodName)) rfl hown (mvT hZ (H 6 _ rfl)) (mvT hZ (H 7 _ rfl)) (mvT hZ (H 8 _ rfl)) (by decide) (backOf (W := 1) (rm1n5 l Z a0 hw [] b1300 b1215 cs vf k1215 y0 y1 y2 (46 : Int32) (nar .char x4) h1300 n0 Zs1300 O1300 Scs hcs Ssf hvf A1300 f1305 f1304 g_b1300 f1303 (Ne.symm ne_b1215_b1300) hv1263.2 hv1279.2 hv1295.2 (by decide) hb4) hZ (H 8 _ rfl) (H 5 _ rfl) (by decide) (by decide)) (g := (mkF m 148 #[.val (.long qc), .second, .val (.int ps), .val (.int (3 : Int32)), .val (.ref b1215), .unset, .unset, .unset, .unset] [(.ref b1215), (.ref b1300), (.ref b1300)])) rfl (by rw [hml]; rfl) (Steps.refl _) (a := b1300) (argsL := [(.ref b1215)]) (rest := [(.ref b1300)]) (lenOf own_pd405 rfl) rfl (Nat.le_of_eq rfl) (hb hby at_148) (fun _ _ => ⟨rfl, e1300, (by decide : 2 + 1 ≤ _), (by decide : 9 + 5 ≤ _)⟩)
    dsimp only [Pt.U, Pt.locs, Pt.cells, Pt.slots] at X1306 l1306 y1306 z1306 st1306 hQ1306
    rw [l1306, y1306, z1306] at X1306
    clear l1306 y1306 z1306
    obtain ⟨rrb_1306, rrk_1306, rfl, Nq1306, K1306, p1306_0, p1306_1, p1306_2, p1306_3, p1306_4, p1306_5⟩ := hQ1306
    have N1306 := Fr.app N1297 Nq1306
    have Zs1306 : n0 ≤ T1306.heap.size := Nat.le_trans Zs1300 K1306.1
    have KK1306 : Keep h0 T1306.heap [] := KK1300.trans K1306 (allS (Or.inr sz_b1300) all0)
    have ne_b1215_rrb_1306 : b1215 ≠ rrb_1306 := Nat.ne_of_lt (Nat.lt_of_lt_of_le f1303.lt p1306_5)
    have ne_b1300_rrb_1306 : b1300 ≠ rrb_1306 := Nat.ne_of_lt (Nat.lt_of_lt_of_le A1300.lt p1306_5)
    have sz_rrb_1306 : h0.size ≤ rrb_1306 := Nat.le_trans KK1300.1 p1306_5
    have O1306 := O1300.keep K1306 (allS g_b1300 all0)
    have f1307 := Scs.ext O1306.2
    have f1308 := Ssf.ext O1306.2
    have f1309 := f1303.keep K1306 (ninS ne_b1215_b1300 nin0)
    have f1310 := A1300.keep K1306
    have g_rrb_1306 := p1306_4
    obtain ⟨_, _, ⟨T1311, L1311, k1311, n1311⟩, -, X1311, ⟨Lc1311, hQ1311, l1311, y1311, z1311⟩, st1311⟩ := Jvm.LawKit.callS X1306 hx (y := (⟨"com/example/tideline/tideline/model/TableName", "parse", "(Ljava/lang/String;)Lcom/example/tideline/tideline/model/TableName;"⟩ : MethodName)) hown (mvT hZ (H 32 _ rfl)) (mvT hZ (H 33 _ rfl)) (mvT hZ (H 34 _ rfl)) (mvT hZ (H 35 _ rfl)) (by decide) (backOf (W := 0) (rm7d3 l Z a0 hw [] b1300 cs vf rrb_1306 rrk_1306 (nar .byte (y0.toInt8.toInt32)) (nar .byte (y1.toInt8.toInt32)) (nar .byte (y2.toInt8.toInt32)) (nar .byte ((46 : Int32).toInt8.toInt32)) (nar .byte ((nar .char x4).toInt8.toInt32)) T1306.heap n0 Zs1306 O1306 Scs hcs Ssf hvf p1306_0 p1306_1 p1306_2 p1306_3 (by unfold own_find5; rw [if_neg (own_ne46 (hv1263.2) (hv1263.1)), if_neg (own_ne46 (hv1279.2) (hv1279.1)), if_neg (own_ne46 (hv1295.2) (hv1295.1)), if_pos (by decide)])) hZ (H 35 _ rfl) (H 34 _ rfl) (by decide) (by decide)) (g := (mkF m 151 #[.val (.long qc), .second, .val (.int ps), .val (.int (3 : Int32)), .val (.ref b1215), .unset, .unset, .unset, .unset] [(.ref b1300)])) rfl (by rw [hml]; rfl) (argsL := [(.ref b1300)]) (rest := []) (lenOf own_pd406 rfl) rfl (Nat.le_of_eq rfl) (hb hby at_151) (fun _ _ => ⟨rfl, rfl, (by decide : 3 + 5 ≤ _), (by decide : 14 + 14 ≤ _)⟩)
    dsimp only [Pt.U, Pt.locs, Pt.cells, Pt.slots] at X1311 l1311 y1311 z1311 st1311 hQ1311
    rw [l1311, y1311, z1311] at X1311
    clear l1311 y1311 z1311
    obtain ⟨rtn_1311, rs1_1311, rb1_1311, rk1_1311, rs2_1311, rb2_1311, rk2_1311, rfl, Nq1311, K1311, p1311_0, p1311_1, p1311_2, p1311_3, p1311_4, p1311_5, p1311_6, p1311_7, p1311_8, p1311_9, p1311_10⟩ := hQ1311
    have N1311 := Fr.app N1306 Nq1311
    have Zs1311 : n0 ≤ T1311.heap.size := Nat.le_trans Zs1306 K1311.1
    have KK1311 : Keep h0 T1311.heap [] := KK1306.trans K1311 all0
    have O1311 := O1306.keep K1311 (all0)
    have f1312 := Scs.ext O1311.2
    have f1313 := Ssf.ext O1311.2
    have f1314 := f1309.keep K1311 nin0
    have f1315 := p1306_0.keep K1311
    have f1316 := p1306_1.keep K1311 nin0
    have f1317 := p1306_2.keep K1311 nin0
    have f1318 := p1306_3.keep K1311 nin0
    obtain ⟨cq1319, kq1319, q1319a, q1319b, q1319c⟩ := isOf hZ rfl p1311_0
    obtain ⟨_, _, ⟨T1319, L1319, k1319, n1319⟩, -, X1319, ⟨Lc1319, hQ1319, l1319, y1319, z1319⟩, st1319⟩ := X1311.virtualBack hx (y := (⟨"com/example/tideline/tideline/model/TableName", "schema", "()Ljava/lang/String;"⟩ : MethodName)) (z := (⟨"com/example/tideline/tideline/model/TableName", "schema", "()Ljava/lang/String;"⟩ : MethodName)) hown (mvT hZ (H 135 _ rfl)) (mvT hZ (H 136 _ rfl)) (notFace_of_selects (args := #[]) (mvT hZ (H 138 _ rfl))) (mvT hZ (H 138 _ rfl)) (mvT hZ (H 137 _ rfl)) (by decide) (backOf (W := 0) (rm29 l Z a0 hw [] rtn_1311 rs1_1311 T1311.heap n0 Zs1311 p1311_1) hZ (H 139 _ rfl) (H 34 _ rfl) (by decide) (by decide)) q1319a q1319c (g := (mkF m 158 #[.val (.long qc), .second, .val (.int ps), .val (.int (3 : Int32)), .val (.ref b1215), .val (.ref rtn_1311), .unset, .unset, .unset] [(.ref rtn_1311)])) rfl (by rw [hml]; rfl) (Steps.refl _) (argsL := []) (rest := []) (lenOf own_pd407 rfl) rfl (Nat.le_of_eq rfl) (hb hby at_158) (fun _ _ => ⟨rfl, rfl, (by decide : 8 + 0 ≤ _), (by decide : 28 + 0 ≤ _)⟩)
    dsimp only [Pt.U, Pt.locs, Pt.cells, Pt.slots] at X1319 l1319 y1319 z1319 st1319 hQ1319
    rw [l1319, y1319, z1319] at X1319
    clear l1319 y1319 z1319
    obtain ⟨rfl, Nq1319, e1319⟩ := hQ1319
    have N1319 := Fr.app N1311 Nq1319
    obtain ⟨cq1320, kq1320, q1320a, q1320b, q1320c⟩ := isOf hZ e1319 p1311_0
    obtain ⟨_, _, ⟨T1320, L1320, k1320, n1320⟩, -, X1320, ⟨Lc1320, hQ1320, l1320, y1320, z1320⟩, st1320⟩ := X1319.virtualBack hx (y := (⟨"com/example/tideline/tideline/model/TableName", "table", "()Ljava/lang/String;"⟩ : MethodName)) (z := (⟨"com/example/tideline/tideline/model/TableName", "table", "()Ljava/lang/String;"⟩ : MethodName)) hown (mvT hZ (H 140 _ rfl)) (mvT hZ (H 141 _ rfl)) (notFace_of_selects (args := #[]) (mvT hZ (H 143 _ rfl))) (mvT hZ (H 143 _ rfl)) (mvT hZ (H 142 _ rfl)) (by decide) (backOf (W := 0) (rm30 l Z a0 hw [] rtn_1311 rs2_1311 T1311.heap n0 Zs1311 p1311_2) hZ (H 144 _ rfl) (H 34 _ rfl) (by decide) (by decide)) q1320a q1320c (g := (mkF m 165 #[.val (.long qc), .second, .val (.int ps), .val (.int (3 : Int32)), .val (.ref b1215), .val (.ref rtn_1311), .val (.ref rs1_1311), .unset, .unset] [(.ref rtn_1311)])) rfl (by rw [hml]; rfl) (Steps.refl _) (argsL := []) (rest := []) (lenOf own_pd407 rfl) rfl (Nat.le_of_eq rfl) (hb hby at_165) (fun _ _ => ⟨rfl, e1319, (by decide : 8 + 0 ≤ _), (by decide : 28 + 0 ≤ _)⟩)
    dsimp only [Pt.U, Pt.locs, Pt.cells, Pt.slots] at X1320 l1320 y1320 z1320 st1320 hQ1320
    rw [l1320, y1320, z1320] at X1320
    clear l1320 y1320 z1320
    obtain ⟨rfl, Nq1320, e1320⟩ := hQ1320
    have N1320 := Fr.app N1319 Nq1320
    obtain ⟨cq1321, kq1321, q1321a, q1321b, q1321c⟩ := isOf hZ e1320 p1311_3
    obtain ⟨_, _, ⟨T1321, L1321, k1321, n1321⟩, -, X1321, ⟨Lc1321, hQ1321, l1321, y1321, z1321⟩, st1321⟩ := X1320.virtualBack hx (y := (⟨"java/lang/String", "length", "()I"⟩ : MethodName)) (z := (⟨"java/lang/String", "length", "()I"⟩ : MethodName)) hown (mvT hZ (H 145 _ rfl)) (mvT hZ (H 52 _ rfl)) (notFace_of_selects (args := #[]) (mvT hZ (H 54 _ rfl))) (mvT hZ (H 54 _ rfl)) (mvT hZ (H 53 _ rfl)) (by decide) (backOf (W := 0) (rm11 l Z a0 hw [] rs1_1311 cs vf rb1_1311 rk1_1311 (3 : Int32) [(.int (nar .byte (y0.toInt8.toInt32))), (.int (nar .byte (y1.toInt8.toInt32))), (.int (nar .byte (y2.toInt8.toInt32)))] T1311.heap n0 Zs1311 O1311 Scs hcs Ssf hvf p1311_3 p1311_4 p1311_5 p1311_6) hZ (H 55 _ rfl) (H 5 _ rfl) (by decide) (by decide)) q1321a q1321c (g := (mkF m 177 #[.val (.long qc), .second, .val (.int ps), .val (.int (3 : Int32)), .val (.ref b1215), .val (.ref rtn_1311), .val (.ref rs1_1311), .val (.ref rs2_1311), .val (.int (1 : Int32))] [(.ref rs1_1311)])) rfl (by rw [hml]; rfl) (Steps.refl _) (argsL := []) (rest := []) (lenOf own_pd214 rfl) rfl (Nat.le_of_eq rfl) (hb hby at_177) (fun _ _ => ⟨rfl, e1320, (by decide : 8 + 0 ≤ _), (by decide : 28 + 0 ≤ _)⟩)
    dsimp only [Pt.U, Pt.locs, Pt.cells, Pt.slots] at X1321 l1321 y1321 z1321 st1321 hQ1321
    rw [l1321, y1321, z1321] at X1321
    clear l1321 y1321 z1321
    obtain ⟨rfl, Nq1321, e1321⟩ := hQ1321
    have N1321 := Fr.app N1320 Nq1321
    obtain ⟨cq1322, kq1322, q1322a, q1322b, q1322c⟩ := isOf hZ e1321 p1311_7
    obtain ⟨_, _, ⟨T1322, L1322, k1322, n1322⟩, -, X1322, ⟨Lc1322, hQ1322, l1322, y1322, z1322⟩, st1322⟩ := X1321.virtualBack hx (y := (⟨"java/lang/String", "length", "()I"⟩ : MethodName)) (z := (⟨"java/lang/String", "length", "()I"⟩ : MethodName)) hown (mvT hZ (H 145 _ rfl)) (mvT hZ (H 52 _ rfl)) (notFace_of_selects (args := #[]) (mvT hZ (H 54 _ rfl))) (mvT hZ (H 54 _ rfl)) (mvT hZ (H 53 _ rfl)) (by decide) (backOf (W := 0) (rm11 l Z a0 hw [] rs2_1311 cs vf rb2_1311 rk2_1311 (1 : Int32) [(.int (nar .byte ((nar .char x4).toInt8.toInt32)))] T1311.heap n0 Zs1311 O1311 Scs hcs Ssf hvf p1311_7 p1311_8 p1311_9 p1311_10) hZ (H 55 _ rfl) (H 5 _ rfl) (by decide) (by decide)) q1322a q1322c (g := (mkF m 186 #[.val (.long qc), .second, .val (.int ps), .val (.int (3 : Int32)), .val (.ref b1215), .val (.ref rtn_1311), .val (.ref rs1_1311), .val (.ref rs2_1311), .val (.int (1 : Int32))] [(.ref rs2_1311)])) rfl (by rw [hml]; rfl) (Steps.refl _) (argsL := []) (rest := []) (lenOf own_pd214 rfl) rfl (Nat.le_of_eq rfl) (hb hby at_186) (fun _ _ => ⟨rfl, e1321, (by decide : 8 + 0 ≤ _), (by decide : 28 + 0 ≤ _)⟩)
    dsimp only [Pt.U, Pt.locs, Pt.cells, Pt.slots] at X1322 l1322 y1322 z1322 st1322 hQ1322
    rw [l1322, y1322, z1322] at X1322
    clear l1322 y1322 z1322
    obtain ⟨rfl, Nq1322, e1322⟩ := hQ1322
    have N1322 := Fr.app N1321 Nq1322
    obtain ⟨_, _, ⟨T1323, L1323, k1323, n1323⟩, -, X1323, ⟨Lc1323, hQ1323, l1323, y1323, z1323⟩, st1323⟩ := Jvm.LawKit.callS X1322 hx (y := (⟨"com/example/tideline/tideline/model/TableNameParsePinLaw", "at", "(Ljava/lang/String;II[CI)Z"⟩ : MethodName)) hown (mvT hZ (H 146 _ rfl)) (mvT hZ (H 147 _ rfl)) (mvT hZ (H 148 _ rfl)) (mvT hZ (H 149 _ rfl)) (by decide) (backOf (W := 0) (rm31l l Z a0 hw [] rs1_1311 (0 : Int32) (3 : Int32) b1215 (0 : Int32) cs vf rb1_1311 rk1_1311 (3 : Int32) [(.int (nar .byte (y0.toInt8.toInt32))), (.int (nar .byte (y1.toInt8.toInt32))), (.int (nar .byte (y2.toInt8.toInt32)))] (nar .byte (y0.toInt8.toInt32)) k1215 (5 : Int32) [(.int y0), (.int y1), (.int y2), (.int (46 : Int32)), (.int (nar .char x4))] y0 T1311.heap n0 Zs1311 O1311 Scs hcs Ssf hvf p1311_3 p1311_4 p1311_5 p1311_6 (by decide) (by decide) (by decide) rfl f1314 (by decide) rfl (own_rt _ (hv1263.2))) hZ (H 149 _ rfl) (H 148 _ rfl) (by decide) (by decide)) (g := (mkF m 203 #[.val (.long qc), .second, .val (.int ps), .val (.int (3 : Int32)), .val (.ref b1215), .val (.ref rtn_1311), .val (.ref rs1_1311), .val (.ref rs2_1311), .val (.int (1 : Int32))] [(.int (0 : Int32)), (.ref b1215), (.int (3 : Int32)), (.int (0 : Int32)), (.ref rs1_1311)])) rfl (by rw [hml]; rfl) (argsL := [(.ref rs1_1311), (.int (0 : Int32)), (.int (3 : Int32)), (.ref b1215), (.int (0 : Int32))]) (rest := []) (lenOf own_pd408 rfl) rfl (Nat.le_of_eq rfl) (hb hby at_203) (fun _ _ => ⟨rfl, e1322, (by decide : 8 + 0 ≤ _), (by decide : 28 + 0 ≤ _)⟩)
    dsimp only [Pt.U, Pt.locs, Pt.cells, Pt.slots] at X1323 l1323 y1323 z1323 st1323 hQ1323
    rw [l1323, y1323, z1323] at X1323
    clear l1323 y1323 z1323
    obtain ⟨rfl, Nq1323, e1323⟩ := hQ1323
    have N1323 := Fr.app N1322 Nq1323
    obtain ⟨_, _, ⟨T1324, L1324, k1324, n1324⟩, -, X1324, ⟨Lc1324, hQ1324, l1324, y1324, z1324⟩, st1324⟩ := Jvm.LawKit.callS X1323 hx (y := (⟨"com/example/tideline/tideline/model/TableNameParsePinLaw", "at", "(Ljava/lang/String;II[CI)Z"⟩ : MethodName)) hown (mvT hZ (H 146 _ rfl)) (mvT hZ (H 147 _ rfl)) (mvT hZ (H 148 _ rfl)) (mvT hZ (H 149 _ rfl)) (by decide) (backOf (W := 0) (rm31l l Z a0 hw [] rs1_1311 (1 : Int32) (3 : Int32) b1215 (0 : Int32) cs vf rb1_1311 rk1_1311 (3 : Int32) [(.int (nar .byte (y0.toInt8.toInt32))), (.int (nar .byte (y1.toInt8.toInt32))), (.int (nar .byte (y2.toInt8.toInt32)))] (nar .byte (y1.toInt8.toInt32)) k1215 (5 : Int32) [(.int y0), (.int y1), (.int y2), (.int (46 : Int32)), (.int (nar .char x4))] y1 T1311.heap n0 Zs1311 O1311 Scs hcs Ssf hvf p1311_3 p1311_4 p1311_5 p1311_6 (by decide) (by decide) (by decide) rfl f1314 (by decide) rfl (own_rt _ (hv1279.2))) hZ (H 149 _ rfl) (H 148 _ rfl) (by decide) (by decide)) (g := (mkF m 216 #[.val (.long qc), .second, .val (.int ps), .val (.int (3 : Int32)), .val (.ref b1215), .val (.ref rtn_1311), .val (.ref rs1_1311), .val (.ref rs2_1311), .val (.int (1 : Int32))] [(.int (0 : Int32)), (.ref b1215), (.int (3 : Int32)), (.int (1 : Int32)), (.ref rs1_1311)])) rfl (by rw [hml]; rfl) (argsL := [(.ref rs1_1311), (.int (1 : Int32)), (.int (3 : Int32)), (.ref b1215), (.int (0 : Int32))]) (rest := []) (lenOf own_pd408 rfl) rfl (Nat.le_of_eq rfl) (hb hby at_216) (fun _ _ => ⟨rfl, e1323, (by decide : 8 + 0 ≤ _), (by decide : 28 + 0 ≤ _)⟩)
    dsimp only [Pt.U, Pt.locs, Pt.cells, Pt.slots] at X1324 l1324 y1324 z1324 st1324 hQ1324
    rw [l1324, y1324, z1324] at X1324
    clear l1324 y1324 z1324
    obtain ⟨rfl, Nq1324, e1324⟩ := hQ1324
    have N1324 := Fr.app N1323 Nq1324
    obtain ⟨_, _, ⟨T1325, L1325, k1325, n1325⟩, -, X1325, ⟨Lc1325, hQ1325, l1325, y1325, z1325⟩, st1325⟩ := Jvm.LawKit.callS X1324 hx (y := (⟨"com/example/tideline/tideline/model/TableNameParsePinLaw", "at", "(Ljava/lang/String;II[CI)Z"⟩ : MethodName)) hown (mvT hZ (H 146 _ rfl)) (mvT hZ (H 147 _ rfl)) (mvT hZ (H 148 _ rfl)) (mvT hZ (H 149 _ rfl)) (by decide) (backOf (W := 0) (rm31l l Z a0 hw [] rs1_1311 (2 : Int32) (3 : Int32) b1215 (0 : Int32) cs vf rb1_1311 rk1_1311 (3 : Int32) [(.int (nar .byte (y0.toInt8.toInt32))), (.int (nar .byte (y1.toInt8.toInt32))), (.int (nar .byte (y2.toInt8.toInt32)))] (nar .byte (y2.toInt8.toInt32)) k1215 (5 : Int32) [(.int y0), (.int y1), (.int y2), (.int (46 : Int32)), (.int (nar .char x4))] y2 T1311.heap n0 Zs1311 O1311 Scs hcs Ssf hvf p1311_3 p1311_4 p1311_5 p1311_6 (by decide) (by decide) (by decide) rfl f1314 (by decide) rfl (own_rt _ (hv1295.2))) hZ (H 149 _ rfl) (H 148 _ rfl) (by decide) (by decide)) (g := (mkF m 229 #[.val (.long qc), .second, .val (.int ps), .val (.int (3 : Int32)), .val (.ref b1215), .val (.ref rtn_1311), .val (.ref rs1_1311), .val (.ref rs2_1311), .val (.int (1 : Int32))] [(.int (0 : Int32)), (.ref b1215), (.int (3 : Int32)), (.int (2 : Int32)), (.ref rs1_1311)])) rfl (by rw [hml]; rfl) (argsL := [(.ref rs1_1311), (.int (2 : Int32)), (.int (3 : Int32)), (.ref b1215), (.int (0 : Int32))]) (rest := []) (lenOf own_pd408 rfl) rfl (Nat.le_of_eq rfl) (hb hby at_229) (fun _ _ => ⟨rfl, e1324, (by decide : 8 + 0 ≤ _), (by decide : 28 + 0 ≤ _)⟩)
    dsimp only [Pt.U, Pt.locs, Pt.cells, Pt.slots] at X1325 l1325 y1325 z1325 st1325 hQ1325
    rw [l1325, y1325, z1325] at X1325
    clear l1325 y1325 z1325
    obtain ⟨rfl, Nq1325, e1325⟩ := hQ1325
    have N1325 := Fr.app N1324 Nq1325
    obtain ⟨_, _, ⟨T1326, L1326, k1326, n1326⟩, -, X1326, ⟨Lc1326, hQ1326, l1326, y1326, z1326⟩, st1326⟩ := Jvm.LawKit.callS X1325 hx (y := (⟨"com/example/tideline/tideline/model/TableNameParsePinLaw", "at", "(Ljava/lang/String;II[CI)Z"⟩ : MethodName)) hown (mvT hZ (H 146 _ rfl)) (mvT hZ (H 147 _ rfl)) (mvT hZ (H 148 _ rfl)) (mvT hZ (H 149 _ rfl)) (by decide) (backOf (W := 0) (rm31l l Z a0 hw [] rs2_1311 (0 : Int32) (1 : Int32) b1215 (4 : Int32) cs vf rb2_1311 rk2_1311 (1 : Int32) [(.int (nar .byte ((nar .char x4).toInt8.toInt32)))] (nar .byte ((nar .char x4).toInt8.toInt32)) k1215 (5 : Int32) [(.int y0), (.int y1), (.int y2), (.int (46 : Int32)), (.int (nar .char x4))] (nar .char x4) T1311.heap n0 Zs1311 O1311 Scs hcs Ssf hvf p1311_7 p1311_8 p1311_9 p1311_10 (by decide) (by decide) (by decide) rfl f1314 (by decide) rfl (own_rt _ (hb4))) hZ (H 149 _ rfl) (H 148 _ rfl) (by decide) (by decide)) (g := (mkF m 245 #[.val (.long qc), .second, .val (.int ps), .val (.int (3 : Int32)), .val (.ref b1215), .val (.ref rtn_1311), .val (.ref rs1_1311), .val (.ref rs2_1311), .val (.int (1 : Int32))] [(.int (4 : Int32)), (.ref b1215), (.int (1 : Int32)), (.int (0 : Int32)), (.ref rs2_1311)])) rfl (by rw [hml]; rfl) (argsL := [(.ref rs2_1311), (.int (0 : Int32)), (.int (1 : Int32)), (.ref b1215), (.int (4 : Int32))]) (rest := []) (lenOf own_pd408 rfl) rfl (Nat.le_of_eq rfl) (hb hby at_245) (fun _ _ => ⟨rfl, e1325, (by decide : 8 + 0 ≤ _), (by decide : 28 + 0 ≤ _)⟩)
    dsimp only [Pt.U, Pt.locs, Pt.cells, Pt.slots] at X1326 l1326 y1326 z1326 st1326 hQ1326
    rw [l1326, y1326, z1326] at X1326
    clear l1326 y1326 z1326
    obtain ⟨rfl, Nq1326, e1326⟩ := hQ1326
    have N1326 := Fr.app N1325 Nq1326
    obtain ⟨_, _, ⟨T1327, L1327, k1327, n1327⟩, -, X1327, ⟨Lc1327, hQ1327, l1327, y1327, z1327⟩, st1327⟩ := Jvm.LawKit.callS X1326 hx (y := (⟨"com/example/tideline/tideline/model/TableNameParsePinLaw", "at", "(Ljava/lang/String;II[CI)Z"⟩ : MethodName)) hown (mvT hZ (H 146 _ rfl)) (mvT hZ (H 147 _ rfl)) (mvT hZ (H 148 _ rfl)) (mvT hZ (H 149 _ rfl)) (by decide) (backOf (W := 0) (rm31g l Z a0 hw [] rs2_1311 (1 : Int32) (1 : Int32) b1215 (4 : Int32)  T1311.heap n0 Zs1311 (by decide)) hZ (H 149 _ rfl) (H 148 _ rfl) (by decide) (by decide)) (g := (mkF m 261 #[.val (.long qc), .second, .val (.int ps), .val (.int (3 : Int32)), .val (.ref b1215), .val (.ref rtn_1311), .val (.ref rs1_1311), .val (.ref rs2_1311), .val (.int (1 : Int32))] [(.int (4 : Int32)), (.ref b1215), (.int (1 : Int32)), (.int (1 : Int32)), (.ref rs2_1311)])) rfl (by rw [hml]; rfl) (argsL := [(.ref rs2_1311), (.int (1 : Int32)), (.int (1 : Int32)), (.ref b1215), (.int (4 : Int32))]) (rest := []) (lenOf own_pd408 rfl) rfl (Nat.le_of_eq rfl) (hb hby at_261) (fun _ _ => ⟨rfl, e1326, (by decide : 8 + 0 ≤ _), (by decide : 28 + 0 ≤ _)⟩)
    dsimp only [Pt.U, Pt.locs, Pt.cells, Pt.slots] at X1327 l1327 y1327 z1327 st1327 hQ1327
    rw [l1327, y1327, z1327] at X1327
    clear l1327 y1327 z1327
    obtain ⟨rfl, Nq1327, e1327⟩ := hQ1327
    have N1327 := Fr.app N1326 Nq1327
    obtain ⟨_, _, ⟨T1328, L1328, k1328, n1328⟩, -, X1328, ⟨Lc1328, hQ1328, l1328, y1328, z1328⟩, st1328⟩ := Jvm.LawKit.callS X1327 hx (y := (⟨"com/example/tideline/tideline/model/TableNameParsePinLaw", "at", "(Ljava/lang/String;II[CI)Z"⟩ : MethodName)) hown (mvT hZ (H 146 _ rfl)) (mvT hZ (H 147 _ rfl)) (mvT hZ (H 148 _ rfl)) (mvT hZ (H 149 _ rfl)) (by decide) (backOf (W := 0) (rm31g l Z a0 hw [] rs2_1311 (2 : Int32) (1 : Int32) b1215 (4 : Int32)  T1311.heap n0 Zs1311 (by decide)) hZ (H 149 _ rfl) (H 148 _ rfl) (by decide) (by decide)) (g := (mkF m 277 #[.val (.long qc), .second, .val (.int ps), .val (.int (3 : Int32)), .val (.ref b1215), .val (.ref rtn_1311), .val (.ref rs1_1311), .val (.ref rs2_1311), .val (.int (1 : Int32))] [(.int (4 : Int32)), (.ref b1215), (.int (1 : Int32)), (.int (2 : Int32)), (.ref rs2_1311)])) rfl (by rw [hml]; rfl) (argsL := [(.ref rs2_1311), (.int (2 : Int32)), (.int (1 : Int32)), (.ref b1215), (.int (4 : Int32))]) (rest := []) (lenOf own_pd408 rfl) rfl (Nat.le_of_eq rfl) (hb hby at_277) (fun _ _ => ⟨rfl, e1327, (by decide : 8 + 0 ≤ _), (by decide : 28 + 0 ≤ _)⟩)
    dsimp only [Pt.U, Pt.locs, Pt.cells, Pt.slots] at X1328 l1328 y1328 z1328 st1328 hQ1328
    rw [l1328, y1328, z1328] at X1328
    clear l1328 y1328 z1328
    obtain ⟨rfl, Nq1328, e1328⟩ := hQ1328
    have N1328 := Fr.app N1327 Nq1328
    obtain ⟨fs, hr, hrun, hended, hW, hsame⟩ := X1328.leave (v := some (.int (1 : Int32))) (fun h => by rw [Bd.returns] at h; cases h)
    refine ⟨_, _, pre1294 _ ?_, hrun, hended, _, _, rfl, ?_, ⟨_, rfl⟩, hW, hsame.mono (by decide) (by decide)⟩
    · show Sp p e below m Tm1289 136 #[.val (.long qc), .second, .val (.int ps), .val (.int (3 : Int32)), .val (.ref b1215), .unset, .unset, .unset, .unset] [] _
      refine XS.aload Xm1289.here hx rfl (hb hby at_136) rfl rfl ?_
      refine XS.iloadN Xm1289.here hx rfl (hb hby at_138) rfl ?_
      show Sp p e below m Tm1289 139 #[.val (.long qc), .second, .val (.int ps), .val (.int (3 : Int32)), .val (.ref b1215), .unset, .unset, .unset, .unset] [(.int (3 : Int32)), (.ref b1215)] _
      refine XS.bipush Xm1289.here hx rfl (hb hby at_139) ?_
      refine st1297 _ ?_
      show Sp p e below m T1297 142 #[.val (.long qc), .second, .val (.int ps), .val (.int (3 : Int32)), .val (.ref b1215), .unset, .unset, .unset, .unset] [] _
      refine st1300 _ ?_
      show Sp p e below m T1300 145 #[.val (.long qc), .second, .val (.int ps), .val (.int (3 : Int32)), .val (.ref b1215), .unset, .unset, .unset, .unset] [(.ref b1300)] _
      refine XS.dup X1300.here hx rfl (hb hby at_145) rfl rfl ?_
      refine XS.aload X1300.here hx rfl (hb hby at_146) rfl rfl ?_
      show Sp p e below m T1300 148 #[.val (.long qc), .second, .val (.int ps), .val (.int (3 : Int32)), .val (.ref b1215), .unset, .unset, .unset, .unset] [(.ref b1215), (.ref b1300), (.ref b1300)] _
      refine st1306.trans ?_
      show Sp p e below m T1306 151 #[.val (.long qc), .second, .val (.int ps), .val (.int (3 : Int32)), .val (.ref b1215), .unset, .unset, .unset, .unset] [(.ref b1300)] _
      refine st1311 _ ?_
      show Sp p e below m T1311 154 #[.val (.long qc), .second, .val (.int ps), .val (.int (3 : Int32)), .val (.ref b1215), .unset, .unset, .unset, .unset] [(.ref rtn_1311)] _
      refine XS.astore X1311.here hx rfl (hb hby at_154) rfl rfl (l' := #[.val (.long qc), .second, .val (.int ps), .val (.int (3 : Int32)), .val (.ref b1215), .val (.ref rtn_1311), .unset, .unset, .unset]) rfl ?_
      show Sp p e below m T1311 156 #[.val (.long qc), .second, .val (.int ps), .val (.int (3 : Int32)), .val (.ref b1215), .val (.ref rtn_1311), .unset, .unset, .unset] [] _
      refine XS.aload X1311.here hx rfl (hb hby at_156) rfl rfl ?_
      refine st1319.trans ?_
      show Sp p e below m T1319 161 #[.val (.long qc), .second, .val (.int ps), .val (.int (3 : Int32)), .val (.ref b1215), .val (.ref rtn_1311), .unset, .unset, .unset] [(.ref rs1_1311)] _
      refine XS.astore X1319.here hx rfl (hb hby at_161) rfl rfl (l' := #[.val (.long qc), .second, .val (.int ps), .val (.int (3 : Int32)), .val (.ref b1215), .val (.ref rtn_1311), .val (.ref rs1_1311), .unset, .unset]) rfl ?_
      show Sp p e below m T1319 163 #[.val (.long qc), .second, .val (.int ps), .val (.int (3 : Int32)), .val (.ref b1215), .val (.ref rtn_1311), .val (.ref rs1_1311), .unset, .unset] [] _
      refine XS.aload X1319.here hx rfl (hb hby at_163) rfl rfl ?_
      refine st1320.trans ?_
      show Sp p e below m T1320 168 #[.val (.long qc), .second, .val (.int ps), .val (.int (3 : Int32)), .val (.ref b1215), .val (.ref rtn_1311), .val (.ref rs1_1311), .unset, .unset] [(.ref rs2_1311)] _
      refine XS.astore X1320.here hx rfl (hb hby at_168) rfl rfl (l' := #[.val (.long qc), .second, .val (.int ps), .val (.int (3 : Int32)), .val (.ref b1215), .val (.ref rtn_1311), .val (.ref rs1_1311), .val (.ref rs2_1311), .unset]) rfl ?_
      show Sp p e below m T1320 170 #[.val (.long qc), .second, .val (.int ps), .val (.int (3 : Int32)), .val (.ref b1215), .val (.ref rtn_1311), .val (.ref rs1_1311), .val (.ref rs2_1311), .unset] [] _
      refine XS.iconst X1320.here hx rfl (hb hby at_170) ?_
      refine XS.iloadN X1320.here hx rfl (hb hby at_171) rfl ?_
      show Sp p e below m T1320 172 #[.val (.long qc), .second, .val (.int ps), .val (.int (3 : Int32)), .val (.ref b1215), .val (.ref rtn_1311), .val (.ref rs1_1311), .val (.ref rs2_1311), .unset] [(.int (3 : Int32)), (.int (4 : Int32))] _
      refine XS.isub X1320.here hx rfl (hb hby at_172) rfl ?_
      show Sp p e below m T1320 173 #[.val (.long qc), .second, .val (.int ps), .val (.int (3 : Int32)), .val (.ref b1215), .val (.ref rtn_1311), .val (.ref rs1_1311), .val (.ref rs2_1311), .unset] [(.int (1 : Int32))] _
      refine XS.istore X1320.here hx rfl (hb hby at_173) rfl (l' := #[.val (.long qc), .second, .val (.int ps), .val (.int (3 : Int32)), .val (.ref b1215), .val (.ref rtn_1311), .val (.ref rs1_1311), .val (.ref rs2_1311), .val (.int (1 : Int32))]) rfl ?_
      show Sp p e below m T1320 175 #[.val (.long qc), .second, .val (.int ps), .val (.int (3 : Int32)), .val (.ref b1215), .val (.ref rtn_1311), .val (.ref rs1_1311), .val (.ref rs2_1311), .val (.int (1 : Int32))] [] _
      refine XS.aload X1320.here hx rfl (hb hby at_175) rfl rfl ?_
      refine st1321.trans ?_
      show Sp p e below m T1321 180 #[.val (.long qc), .second, .val (.int ps), .val (.int (3 : Int32)), .val (.ref b1215), .val (.ref rtn_1311), .val (.ref rs1_1311), .val (.ref rs2_1311), .val (.int (1 : Int32))] [(.int (3 : Int32))] _
      refine XS.iloadN X1321.here hx rfl (hb hby at_180) rfl ?_
      refine XS.icmpNo X1321.here hx rfl (hb hby at_181) rfl (teq (by decide : ((3 : Int32) = (3 : Int32)))).2 ?_
      show Sp p e below m T1321 184 #[.val (.long qc), .second, .val (.int ps), .val (.int (3 : Int32)), .val (.ref b1215), .val (.ref rtn_1311), .val (.ref rs1_1311), .val (.ref rs2_1311), .val (.int (1 : Int32))] [] _
      refine XS.aload X1321.here hx rfl (hb hby at_184) rfl rfl ?_
      refine st1322.trans ?_
      show Sp p e below m T1322 189 #[.val (.long qc), .second, .val (.int ps), .val (.int (3 : Int32)), .val (.ref b1215), .val (.ref rtn_1311), .val (.ref rs1_1311), .val (.ref rs2_1311), .val (.int (1 : Int32))] [(.int (1 : Int32))] _
      refine XS.iload X1322.here hx rfl (hb hby at_189) rfl ?_
      refine XS.icmpYes X1322.here hx rfl (pc0 := 191) (pc' := 196) rfl (hb hby at_191) rfl (teq (by decide : ((1 : Int32) = (1 : Int32)))).1 (by decide) (by decide) ?_
      show Sp p e below m T1322 196 #[.val (.long qc), .second, .val (.int ps), .val (.int (3 : Int32)), .val (.ref b1215), .val (.ref rtn_1311), .val (.ref rs1_1311), .val (.ref rs2_1311), .val (.int (1 : Int32))] [] _
      refine XS.aload X1322.here hx rfl (hb hby at_196) rfl rfl ?_
      refine XS.iconst X1322.here hx rfl (hb hby at_198) ?_
      show Sp p e below m T1322 199 #[.val (.long qc), .second, .val (.int ps), .val (.int (3 : Int32)), .val (.ref b1215), .val (.ref rtn_1311), .val (.ref rs1_1311), .val (.ref rs2_1311), .val (.int (1 : Int32))] [(.int (0 : Int32)), (.ref rs1_1311)] _
      refine XS.iloadN X1322.here hx rfl (hb hby at_199) rfl ?_
      refine XS.aload X1322.here hx rfl (hb hby at_200) rfl rfl ?_
      show Sp p e below m T1322 202 #[.val (.long qc), .second, .val (.int ps), .val (.int (3 : Int32)), .val (.ref b1215), .val (.ref rtn_1311), .val (.ref rs1_1311), .val (.ref rs2_1311), .val (.int (1 : Int32))] [(.ref b1215), (.int (3 : Int32)), (.int (0 : Int32)), (.ref rs1_1311)] _
      refine XS.iconst X1322.here hx rfl (hb hby at_202) ?_
      refine st1323 _ ?_
      show Sp p e below m T1323 206 #[.val (.long qc), .second, .val (.int ps), .val (.int (3 : Int32)), .val (.ref b1215), .val (.ref rtn_1311), .val (.ref rs1_1311), .val (.ref rs2_1311), .val (.int (1 : Int32))] [(.int (1 : Int32))] _
      refine XS.ifNo X1323.here hx rfl (hb hby at_206) rfl ((if0 _ _).trans (feq (by decide : ¬ ((1 : Int32) = (0 : Int32)))).1) ?_
      show Sp p e below m T1323 209 #[.val (.long qc), .second, .val (.int ps), .val (.int (3 : Int32)), .val (.ref b1215), .val (.ref rtn_1311), .val (.ref rs1_1311), .val (.ref rs2_1311), .val (.int (1 : Int32))] [] _
      refine XS.aload X1323.here hx rfl (hb hby at_209) rfl rfl ?_
      refine XS.iconst X1323.here hx rfl (hb hby at_211) ?_
      show Sp p e below m T1323 212 #[.val (.long qc), .second, .val (.int ps), .val (.int (3 : Int32)), .val (.ref b1215), .val (.ref rtn_1311), .val (.ref rs1_1311), .val (.ref rs2_1311), .val (.int (1 : Int32))] [(.int (1 : Int32)), (.ref rs1_1311)] _
      refine XS.iloadN X1323.here hx rfl (hb hby at_212) rfl ?_
      refine XS.aload X1323.here hx rfl (hb hby at_213) rfl rfl ?_
      show Sp p e below m T1323 215 #[.val (.long qc), .second, .val (.int ps), .val (.int (3 : Int32)), .val (.ref b1215), .val (.ref rtn_1311), .val (.ref rs1_1311), .val (.ref rs2_1311), .val (.int (1 : Int32))] [(.ref b1215), (.int (3 : Int32)), (.int (1 : Int32)), (.ref rs1_1311)] _
      refine XS.iconst X1323.here hx rfl (hb hby at_215) ?_
      refine st1324 _ ?_
      show Sp p e below m T1324 219 #[.val (.long qc), .second, .val (.int ps), .val (.int (3 : Int32)), .val (.ref b1215), .val (.ref rtn_1311), .val (.ref rs1_1311), .val (.ref rs2_1311), .val (.int (1 : Int32))] [(.int (1 : Int32))] _
      refine XS.ifNo X1324.here hx rfl (hb hby at_219) rfl ((if0 _ _).trans (feq (by decide : ¬ ((1 : Int32) = (0 : Int32)))).1) ?_
      show Sp p e below m T1324 222 #[.val (.long qc), .second, .val (.int ps), .val (.int (3 : Int32)), .val (.ref b1215), .val (.ref rtn_1311), .val (.ref rs1_1311), .val (.ref rs2_1311), .val (.int (1 : Int32))] [] _
      refine XS.aload X1324.here hx rfl (hb hby at_222) rfl rfl ?_
      refine XS.iconst X1324.here hx rfl (hb hby at_224) ?_
      show Sp p e below m T1324 225 #[.val (.long qc), .second, .val (.int ps), .val (.int (3 : Int32)), .val (.ref b1215), .val (.ref rtn_1311), .val (.ref rs1_1311), .val (.ref rs2_1311), .val (.int (1 : Int32))] [(.int (2 : Int32)), (.ref rs1_1311)] _
      refine XS.iloadN X1324.here hx rfl (hb hby at_225) rfl ?_
      refine XS.aload X1324.here hx rfl (hb hby at_226) rfl rfl ?_
      show Sp p e below m T1324 228 #[.val (.long qc), .second, .val (.int ps), .val (.int (3 : Int32)), .val (.ref b1215), .val (.ref rtn_1311), .val (.ref rs1_1311), .val (.ref rs2_1311), .val (.int (1 : Int32))] [(.ref b1215), (.int (3 : Int32)), (.int (2 : Int32)), (.ref rs1_1311)] _
      refine XS.iconst X1324.here hx rfl (hb hby at_228) ?_
      refine st1325 _ ?_
      show Sp p e below m T1325 232 #[.val (.long qc), .second, .val (.int ps), .val (.int (3 : Int32)), .val (.ref b1215), .val (.ref rtn_1311), .val (.ref rs1_1311), .val (.ref rs2_1311), .val (.int (1 : Int32))] [(.int (1 : Int32))] _
      refine XS.ifNo X1325.here hx rfl (hb hby at_232) rfl ((if0 _ _).trans (feq (by decide : ¬ ((1 : Int32) = (0 : Int32)))).1) ?_
      show Sp p e below m T1325 235 #[.val (.long qc), .second, .val (.int ps), .val (.int (3 : Int32)), .val (.ref b1215), .val (.ref rtn_1311), .val (.ref rs1_1311), .val (.ref rs2_1311), .val (.int (1 : Int32))] [] _
      refine XS.aload X1325.here hx rfl (hb hby at_235) rfl rfl ?_
      refine XS.iconst X1325.here hx rfl (hb hby at_237) ?_
      show Sp p e below m T1325 238 #[.val (.long qc), .second, .val (.int ps), .val (.int (3 : Int32)), .val (.ref b1215), .val (.ref rtn_1311), .val (.ref rs1_1311), .val (.ref rs2_1311), .val (.int (1 : Int32))] [(.int (0 : Int32)), (.ref rs2_1311)] _
      refine XS.iload X1325.here hx rfl (hb hby at_238) rfl ?_
      refine XS.aload X1325.here hx rfl (hb hby at_240) rfl rfl ?_
      show Sp p e below m T1325 242 #[.val (.long qc), .second, .val (.int ps), .val (.int (3 : Int32)), .val (.ref b1215), .val (.ref rtn_1311), .val (.ref rs1_1311), .val (.ref rs2_1311), .val (.int (1 : Int32))] [(.ref b1215), (.int (1 : Int32)), (.int (0 : Int32)), (.ref rs2_1311)] _
      refine XS.iloadN X1325.here hx rfl (hb hby at_242) rfl ?_
      refine XS.iconst X1325.here hx rfl (hb hby at_243) ?_
      show Sp p e below m T1325 244 #[.val (.long qc), .second, .val (.int ps), .val (.int (3 : Int32)), .val (.ref b1215), .val (.ref rtn_1311), .val (.ref rs1_1311), .val (.ref rs2_1311), .val (.int (1 : Int32))] [(.int (1 : Int32)), (.int (3 : Int32)), (.ref b1215), (.int (1 : Int32)), (.int (0 : Int32)), (.ref rs2_1311)] _
      refine XS.iadd X1325.here hx rfl (hb hby at_244) rfl ?_
      show Sp p e below m T1325 245 #[.val (.long qc), .second, .val (.int ps), .val (.int (3 : Int32)), .val (.ref b1215), .val (.ref rtn_1311), .val (.ref rs1_1311), .val (.ref rs2_1311), .val (.int (1 : Int32))] [(.int (4 : Int32)), (.ref b1215), (.int (1 : Int32)), (.int (0 : Int32)), (.ref rs2_1311)] _
      refine st1326 _ ?_
      show Sp p e below m T1326 248 #[.val (.long qc), .second, .val (.int ps), .val (.int (3 : Int32)), .val (.ref b1215), .val (.ref rtn_1311), .val (.ref rs1_1311), .val (.ref rs2_1311), .val (.int (1 : Int32))] [(.int (1 : Int32))] _
      refine XS.ifNo X1326.here hx rfl (hb hby at_248) rfl ((if0 _ _).trans (feq (by decide : ¬ ((1 : Int32) = (0 : Int32)))).1) ?_
      show Sp p e below m T1326 251 #[.val (.long qc), .second, .val (.int ps), .val (.int (3 : Int32)), .val (.ref b1215), .val (.ref rtn_1311), .val (.ref rs1_1311), .val (.ref rs2_1311), .val (.int (1 : Int32))] [] _
      refine XS.aload X1326.here hx rfl (hb hby at_251) rfl rfl ?_
      refine XS.iconst X1326.here hx rfl (hb hby at_253) ?_
      show Sp p e below m T1326 254 #[.val (.long qc), .second, .val (.int ps), .val (.int (3 : Int32)), .val (.ref b1215), .val (.ref rtn_1311), .val (.ref rs1_1311), .val (.ref rs2_1311), .val (.int (1 : Int32))] [(.int (1 : Int32)), (.ref rs2_1311)] _
      refine XS.iload X1326.here hx rfl (hb hby at_254) rfl ?_
      refine XS.aload X1326.here hx rfl (hb hby at_256) rfl rfl ?_
      show Sp p e below m T1326 258 #[.val (.long qc), .second, .val (.int ps), .val (.int (3 : Int32)), .val (.ref b1215), .val (.ref rtn_1311), .val (.ref rs1_1311), .val (.ref rs2_1311), .val (.int (1 : Int32))] [(.ref b1215), (.int (1 : Int32)), (.int (1 : Int32)), (.ref rs2_1311)] _
      refine XS.iloadN X1326.here hx rfl (hb hby at_258) rfl ?_
      refine XS.iconst X1326.here hx rfl (hb hby at_259) ?_
      show Sp p e below m T1326 260 #[.val (.long qc), .second, .val (.int ps), .val (.int (3 : Int32)), .val (.ref b1215), .val (.ref rtn_1311), .val (.ref rs1_1311), .val (.ref rs2_1311), .val (.int (1 : Int32))] [(.int (1 : Int32)), (.int (3 : Int32)), (.ref b1215), (.int (1 : Int32)), (.int (1 : Int32)), (.ref rs2_1311)] _
      refine XS.iadd X1326.here hx rfl (hb hby at_260) rfl ?_
      show Sp p e below m T1326 261 #[.val (.long qc), .second, .val (.int ps), .val (.int (3 : Int32)), .val (.ref b1215), .val (.ref rtn_1311), .val (.ref rs1_1311), .val (.ref rs2_1311), .val (.int (1 : Int32))] [(.int (4 : Int32)), (.ref b1215), (.int (1 : Int32)), (.int (1 : Int32)), (.ref rs2_1311)] _
      refine st1327 _ ?_
      show Sp p e below m T1327 264 #[.val (.long qc), .second, .val (.int ps), .val (.int (3 : Int32)), .val (.ref b1215), .val (.ref rtn_1311), .val (.ref rs1_1311), .val (.ref rs2_1311), .val (.int (1 : Int32))] [(.int (1 : Int32))] _
      refine XS.ifNo X1327.here hx rfl (hb hby at_264) rfl ((if0 _ _).trans (feq (by decide : ¬ ((1 : Int32) = (0 : Int32)))).1) ?_
      show Sp p e below m T1327 267 #[.val (.long qc), .second, .val (.int ps), .val (.int (3 : Int32)), .val (.ref b1215), .val (.ref rtn_1311), .val (.ref rs1_1311), .val (.ref rs2_1311), .val (.int (1 : Int32))] [] _
      refine XS.aload X1327.here hx rfl (hb hby at_267) rfl rfl ?_
      refine XS.iconst X1327.here hx rfl (hb hby at_269) ?_
      show Sp p e below m T1327 270 #[.val (.long qc), .second, .val (.int ps), .val (.int (3 : Int32)), .val (.ref b1215), .val (.ref rtn_1311), .val (.ref rs1_1311), .val (.ref rs2_1311), .val (.int (1 : Int32))] [(.int (2 : Int32)), (.ref rs2_1311)] _
      refine XS.iload X1327.here hx rfl (hb hby at_270) rfl ?_
      refine XS.aload X1327.here hx rfl (hb hby at_272) rfl rfl ?_
      show Sp p e below m T1327 274 #[.val (.long qc), .second, .val (.int ps), .val (.int (3 : Int32)), .val (.ref b1215), .val (.ref rtn_1311), .val (.ref rs1_1311), .val (.ref rs2_1311), .val (.int (1 : Int32))] [(.ref b1215), (.int (1 : Int32)), (.int (2 : Int32)), (.ref rs2_1311)] _
      refine XS.iloadN X1327.here hx rfl (hb hby at_274) rfl ?_
      refine XS.iconst X1327.here hx rfl (hb hby at_275) ?_
      show Sp p e below m T1327 276 #[.val (.long qc), .second, .val (.int ps), .val (.int (3 : Int32)), .val (.ref b1215), .val (.ref rtn_1311), .val (.ref rs1_1311), .val (.ref rs2_1311), .val (.int (1 : Int32))] [(.int (1 : Int32)), (.int (3 : Int32)), (.ref b1215), (.int (1 : Int32)), (.int (2 : Int32)), (.ref rs2_1311)] _
      refine XS.iadd X1327.here hx rfl (hb hby at_276) rfl ?_
      show Sp p e below m T1327 277 #[.val (.long qc), .second, .val (.int ps), .val (.int (3 : Int32)), .val (.ref b1215), .val (.ref rtn_1311), .val (.ref rs1_1311), .val (.ref rs2_1311), .val (.int (1 : Int32))] [(.int (4 : Int32)), (.ref b1215), (.int (1 : Int32)), (.int (2 : Int32)), (.ref rs2_1311)] _
      refine st1328 _ ?_
      show Sp p e below m T1328 280 #[.val (.long qc), .second, .val (.int ps), .val (.int (3 : Int32)), .val (.ref b1215), .val (.ref rtn_1311), .val (.ref rs1_1311), .val (.ref rs2_1311), .val (.int (1 : Int32))] [(.int (1 : Int32))] _
      refine XS.ifNo X1328.here hx rfl (hb hby at_280) rfl ((if0 _ _).trans (feq (by decide : ¬ ((1 : Int32) = (0 : Int32)))).1) ?_
      show Sp p e below m T1328 283 #[.val (.long qc), .second, .val (.int ps), .val (.int (3 : Int32)), .val (.ref b1215), .val (.ref rtn_1311), .val (.ref rs1_1311), .val (.ref rs2_1311), .val (.int (1 : Int32))] [] _
      refine XS.iconst X1328.here hx rfl (hb hby at_283) ?_
      refine XS.goto X1328.here hx rfl (pc0 := 284) (pc' := 288) rfl (hb hby at_284) (by decide) (by decide) ?_
      show Sp p e below m T1328 288 #[.val (.long qc), .second, .val (.int ps), .val (.int (3 : Int32)), .val (.ref b1215), .val (.ref rtn_1311), .val (.ref rs1_1311), .val (.ref rs2_1311), .val (.int (1 : Int32))] [(.int (1 : Int32))] _
      exact retN X1328 hx (t := .boolean) Bd.returns (by simp) (hb hby at_288) hr
    · show Q0 Z qc ps cs vf h0 n0 _ T1328.heap _
      rw [e1328]
      exact ⟨rfl, N1328⟩
set_option maxRecDepth 65536 in
set_option maxHeartbeats 40000000 in
theorem comes_1 {Post : Tables → Env → Array Value → State → Outcome → State → Prop} (hpost : ∀ tb e args s v u, (limb_1_1.after args s (.returned v) u = true ∧ limb_1_2.after args s (.returned v) u = true ∧ True) → FrameEnd s (.returned v) u (Jvm.fieldLocs frame_1_writes args s ++ Jvm.arrayLocs frame_1_arrays args s ++ Jvm.staticLocs frame_1_statics s) 24 128 → Post tb e args s (.returned v) u) :
    ArmFor flags0 classFile x code maxLocals ret World_1 tables_1 room_1 Calls_1 rest_1 Pre_1 Post := by
  intro l hfl _ _ p e ha hc hk s m args below hf hA hF happ hP
  obtain ⟨hcalls, hrest, hpre⟩ := hP
  obtain ⟨-, -, -, hnamed, -, -, -, hat⟩ := (Spec.applies_iff hf).mp happ
  obtain ⟨hg, hn⟩ := and_e (Cond.before_iff.mp (show (Jvm.Cond.and given_1 narrow_1).before args s = true from hpre))
  obtain ⟨hcount, ga0⟩ := and_e hg
  obtain ⟨gi0, ga1⟩ := and_e ga0
  have gi1 := ga1
  obtain ⟨w0, w1, rfl⟩ : ∃ w0 w1 : Value, args = #[w0, w1] := by
    have hs : args.size = 2 := by simpa [Cond.value, given_1] using hcount
    obtain ⟨L⟩ := args
    match L, hs with
    | [w0, w1], _ => exact ⟨w0, w1, rfl⟩
  have hw := fun d (hd : d ∈ tables_1) => atoms_spec (ws := Jvm.Cond.code x code maxLocals ret :: tables_1) hat d (List.mem_cons_of_mem _ hd)
  have hfit : Fit s := fun {y c} hc i hi => by
    obtain ⟨ha, rfl⟩ := Array.getElem?_eq_some_iff.mp hc
    have q := List.all_eq_true.mp ((Array.all_eq_true_iff_forall_mem.mp hF) _ (Array.getElem_mem ha)) i (List.mem_range.mpr hi)
    simpa [Array.getElem?_eq_getElem hi] using q
  obtain ⟨hsets, hown0⟩ := atoms_of _ (rest_1_c_eq ▸ (show rest_1_c.before _ s = true from hrest))
  have hr0 := Cond.before_iff.mp hown0
  obtain ⟨i0, ei0⟩ := isL_v gi0
  obtain rfl : w0 = (.long i0) := Option.some.inj ei0
  obtain ⟨i1, ei1⟩ := is_v gi1
  obtain rfl : w1 = (.int i1) := Option.some.inj ei1
  obtain ⟨cs, evcs⟩ := is_v (Cond.before_iff.mp (hsets _ (List.mem_of_getElem? (i := 1) rfl)))
  have Scs := Sta.start evcs (Or.inl (hsets _ (List.mem_of_getElem? (i := 0) rfl)))
  have hcs : ¬ cs = (0 : Int32) := gotF (Cond.eq_ints evcs (Term.int_eval 0)) (not_v (Cond.before_iff.mp (hsets _ (List.mem_of_getElem? (i := 2) rfl))))
  obtain ⟨vf, evf, hvf⟩ := isR_v (Cond.before_iff.mp (hsets _ (List.mem_of_getElem? (i := 8) rfl)))
  have Ssf := Sta.start evf (Or.inl (hsets _ (List.mem_of_getElem? (i := 7) rfl)))
  obtain ⟨n, o, h1, h2, h3, _, L, rfl, ⟨rfl, N⟩, hq⟩ := rm0 l s _ hw tables_1 i0 i1 cs vf s.heap s.heap.size (Nat.le_refl _) (Old.start s) Scs hcs Ssf hvf p e ha hc hk s m _ below hf ((Spec.applies_iff_loose hf).mp happ).1 ⟨rfl, State.Warmed39.refl s, rfl⟩ trivial
  refine ⟨n, _, h1, h2, h3, hpost _ _ _ _ _ _ ⟨Cond.after_iff.mpr rfl, Cond.after_iff.mpr (eq_i res_at (Term.int_eval (1)) rfl), trivial⟩ ⟨hq.1, hq.2.1, (hq.2.2.sift fun y hy => Or.inr (N y hy)).mono (by decide) (by decide)⟩⟩
theorem main_1_1 : Claimed_1_1 := comes_1 fun _ _ _ _ _ _ h hF => ⟨h.1, hF⟩
theorem main_1_2 : Claimed_1_2 := comes_1 fun _ _ _ _ _ _ h hF => ⟨h.2.1, hF⟩
end Jvm.Pilot.@@N@@
namespace Jvm.Pilot.@@N@@
open Jvm Jvm.ClassFile Sem Op Lib Jvm.Free Jvm.Stand Jvm.Pilot.@@N@@.Jvm.D
/-! MADE BY PROGRAM (witnessworld.py) out of the Statement's table words and the real class files: 24 classes; the members and pool entries that the words name. The judged class is class 1, her method 1. -/
namespace start1
open Jvm.ClassFile
def u (s : String) : CpInfo := .utf8 (stringToUtf16 s)
/-- a pool by its gaps: so many unusable entries, then the entry; so many at the end -/
def gap : Nat → List CpInfo → List CpInfo
  | 0, r => r
  | n + 1, r => .unusable :: gap n r
def poolList (es : List (Nat × CpInfo)) (last : Nat) : List CpInfo := es.foldr (fun e r => gap e.1 (e.2 :: r)) (gap last [])
def pool (es : List (Nat × CpInfo)) (last : Nat) : Array CpInfo := ⟨poolList es last⟩
def fileOf (pool : Array CpInfo) (this : Nat) (attrs : Array Attribute := #[]) (ms : Array MethodInfo := #[]) (fl : Nat := 33) (sup : Nat := 0) (ifs : Array Nat := #[]) (fds : Array FieldInfo := #[]) : ClassFile where
  minorVersion := 0
  majorVersion := 65
  constantPool := pool
  accessFlags := fl
  thisClass := this
  superClass := sup
  interfaces := ifs
  fields := fds
  methods := ms
  attributes := attrs
def plain (name : String) (sup : Option ClassId) : Class where
  name := name
  kind := .ordinary
  loader := none
  accessFlags := 33
  super := sup
  interfaces := #[]
  cf := none
  fields := #[]
  methods := #[]
  instanceTypes := #[]
  staticTypes := #[]
  resolved := #[]
  callSites := []
  init := .initialized
  statics := none
  mirror := none

def pool0 : Array CpInfo := pool [(5, u "<init>"), (0, u "()V"), (1, .class_ 10), (1, u "java/lang/Object")] 113

def k0c0 : Code := { maxStack := 0, maxLocals := 1, code := object_method_1_code, exceptionTable := #[], attributes := #[] }
def k0m0 : Method := { name := "<init>", desc := "()V", sig := { parameters := [], returnType := none }, accessFlags := 1, code := some k0c0 }
/-- java/lang/Object -/
def k0 : Class := { plain "java/lang/Object" none with
  accessFlags := 33
  interfaces := #[]
  cf := some (fileOf pool0 8 #[] #[{ accessFlags := 1, nameIndex := 5, descriptorIndex := 6, attributes := #[] }] 33 0 #[] #[])
  fields := #[]
  methods := #[k0m0]
  instanceTypes := #[]
  staticTypes := #[]
  resolved := Array.replicate 124 none
  statics := none }

def pool1 : Array CpInfo := pool [(2, .class_ 4), (1, u "java/lang/Object"), (0, u "<init>"), (0, u "()V"), (0, .integer 2147483647), (0, .long 255), (1, .class_ 11), (0, u "java/lang/String"), (0, .methodref 10 13), (0, .nameAndType 5 14), (0, u "([C)V"), (0, .methodref 16 17), (0, .class_ 18), (0, .nameAndType 19 20), (0, u "com/example/tideline/tideline/model/TableName"), (0, u "parse"), (0, u "(Ljava/lang/String;)Lcom/example/tideline/tideline/model/TableName;"), (0, .methodref 16 22), (0, .nameAndType 23 24), (0, u "schema"), (0, u "()Ljava/lang/String;"), (0, .methodref 16 26), (0, .nameAndType 27 24), (0, u "table"), (0, .methodref 10 29), (0, .nameAndType 30 31), (0, u "length"), (0, u "()I"), (0, .methodref 33 34), (0, .class_ 35), (0, .nameAndType 36 37), (0, u "com/example/tideline/tideline/model/TableNameParsePinLaw"), (0, u "at"), (0, u "(Ljava/lang/String;II[CI)Z"), (0, .methodref 10 39), (0, .nameAndType 40 41), (0, u "charAt"), (0, u "(I)C"), (2, u "law"), (0, u "(JI)Z")] 5

def k1m0 : Method := { name := "<init>", desc := "()V", sig := { parameters := [], returnType := none }, accessFlags := 1, code := none }
def k1c1 : Code := { maxStack := 6, maxLocals := 9, code := code, exceptionTable := #[], attributes := #[] }
def k1m1 : Method := { name := "law", desc := "(JI)Z", sig := { parameters := [.long, .int], returnType := some .boolean }, accessFlags := 9, code := some k1c1 }
def k1c2 : Code := { maxStack := 4, maxLocals := 5, code := method_3_code, exceptionTable := #[], attributes := #[] }
def k1m2 : Method := { name := "at", desc := "(Ljava/lang/String;II[CI)Z", sig := { parameters := [(.object "java/lang/String"), .int, .int, (.array .char), .int], returnType := some .boolean }, accessFlags := 10, code := some k1c2 }
/-- com/example/tideline/tideline/model/TableNameParsePinLaw -/
def k1 : Class := { plain "com/example/tideline/tideline/model/TableNameParsePinLaw" (some 0) with
  accessFlags := 49
  interfaces := #[]
  cf := some (fileOf pool1 33 #[] #[{ accessFlags := 1, nameIndex := 5, descriptorIndex := 6, attributes := #[] }, { accessFlags := 9, nameIndex := 44, descriptorIndex := 45, attributes := #[] }, { accessFlags := 10, nameIndex := 36, descriptorIndex := 37, attributes := #[] }] 49 2 #[] #[])
  fields := #[]
  methods := #[k1m0, k1m1, k1m2]
  instanceTypes := #[]
  staticTypes := #[]
  resolved := Array.replicate 51 none
  statics := none }

def pool2 : Array CpInfo := pool [(1, .class_ 2), (0, u "java/io/Serializable"), (0, .class_ 4), (0, u "java/lang/Object")] 2

/-- java/io/Serializable -/
def k2 : Class := { plain "java/io/Serializable" (some 0) with
  accessFlags := 1537
  interfaces := #[]
  cf := some (fileOf pool2 1 #[] #[] 1537 3 #[] #[])
  fields := #[]
  methods := #[]
  instanceTypes := #[]
  staticTypes := #[]
  resolved := Array.replicate 7 none
  statics := none }

def pool3 : Array CpInfo := pool [(1, .class_ 2), (0, u "java/lang/Comparable"), (0, .class_ 4), (0, u "java/lang/Object")] 7

/-- java/lang/Comparable -/
def k3 : Class := { plain "java/lang/Comparable" (some 0) with
  accessFlags := 1537
  interfaces := #[]
  cf := some (fileOf pool3 1 #[] #[] 1537 3 #[] #[])
  fields := #[]
  methods := #[]
  instanceTypes := #[]
  staticTypes := #[]
  resolved := Array.replicate 12 none
  statics := none }

def pool4 : Array CpInfo := pool [(2, .class_ 4), (1, u "java/lang/CharSequence"), (42, .class_ 48), (0, u "java/lang/CharSequence$1CodePointIterator"), (10, .class_ 60), (0, u "java/lang/CharSequence$1CharIterator"), (5, .class_ 67), (0, u "java/lang/Object")] 63

/-- java/lang/CharSequence -/
def k4 : Class := { plain "java/lang/CharSequence" (some 0) with
  accessFlags := 1537
  interfaces := #[]
  cf := some (fileOf pool4 2 #[.nestMembers #[47, 59]] #[] 1537 66 #[] #[])
  fields := #[]
  methods := #[]
  instanceTypes := #[]
  staticTypes := #[]
  resolved := Array.replicate 131 none
  statics := none }

def pool5 : Array CpInfo := pool [(1, .class_ 2), (0, u "java/lang/constant/Constable"), (0, .class_ 4), (0, u "java/lang/Object")] 6

/-- java/lang/constant/Constable -/
def k5 : Class := { plain "java/lang/constant/Constable" (some 0) with
  accessFlags := 1537
  interfaces := #[]
  cf := some (fileOf pool5 1 #[] #[] 1537 3 #[] #[])
  fields := #[]
  methods := #[]
  instanceTypes := #[]
  staticTypes := #[]
  resolved := Array.replicate 11 none
  statics := none }

def pool6 : Array CpInfo := pool [(1, .class_ 2), (0, u "java/lang/constant/ConstantDesc"), (0, .class_ 4), (0, u "java/lang/Object")] 32

/-- java/lang/constant/ConstantDesc -/
def k6 : Class := { plain "java/lang/constant/ConstantDesc" (some 0) with
  accessFlags := 1537
  interfaces := #[]
  cf := some (fileOf pool6 1 #[] #[] 1537 3 #[] #[])
  fields := #[]
  methods := #[]
  instanceTypes := #[]
  staticTypes := #[]
  resolved := Array.replicate 37 none
  statics := none }

def pool7 : Array CpInfo := pool [(1, .methodref 2 3), (0, .class_ 4), (0, .nameAndType 5 6), (0, u "java/lang/Object"), (0, u "<init>"), (0, u "()V"), (2, .fieldref 10 11), (0, .class_ 12), (0, .nameAndType 13 14), (0, u "java/lang/String"), (0, u "value"), (0, u "[B"), (0, .fieldref 10 16), (0, .nameAndType 17 18), (0, u "coder"), (0, u "B"), (2, u "hash"), (0, u "I"), (2, u "hashIsZero"), (0, u "Z"), (0, .methodref 10 28), (0, .nameAndType 5 29), (0, u "([CIILjava/lang/Void;)V"), (8, .fieldref 10 39), (0, .nameAndType 40 26), (0, u "COMPACT_STRINGS"), (1, .class_ 44), (1, u "java/lang/StringUTF16"), (0, u "compress"), (1, .methodref 42 48), (0, .nameAndType 49 50), (0, u "coderFromArrayLen"), (0, u "([BI)B"), (56, .class_ 109), (1, u "java/lang/StringLatin1"), (32, u "()Z"), (34, .methodref 42 178), (0, .nameAndType 45 179), (0, u "([CII)[B"), (31, u "([BB)V"), (122, u "()I"), (0, .methodref 10 336), (0, .nameAndType 17 337), (0, u "()B"), (25, u "([BI)C"), (27, u "(II)V"), (35, u "(I)C"), (64, .methodref 10 493), (0, .nameAndType 494 142), (0, u "isLatin1"), (0, .methodref 107 496), (0, .nameAndType 497 363), (0, u "charAt"), (3, u "checkIndex"), (3, .methodref 10 506), (0, .nameAndType 507 334), (0, u "length"), (5, u "checkFromToIndex"), (7, .methodref 10 522), (0, .nameAndType 523 524), (0, u "checkBoundsBeginEnd"), (0, u "(III)V"), (50, .class_ 576), (0, u "java/lang/CharSequence"), (22, u "CASE_INSENSITIVE_ORDER"), (0, u "Ljava/util/Comparator;"), (32, .methodref 10 634), (0, .nameAndType 635 636), (0, u "indexOf"), (0, u "(II)I"), (0, .methodref 107 638), (0, .nameAndType 635 639), (0, u "([BIII)I"), (41, .methodref 10 682), (0, .nameAndType 683 684), (0, u "substring"), (0, u "(II)Ljava/lang/String;"), (0, .methodref 107 686), (0, .nameAndType 687 688), (0, u "newString"), (0, u "([BII)Ljava/lang/String;"), (76, u "(I)I"), (126, u "(I)Ljava/lang/String;"), (117, u "([C)V"), (42, .fieldref 1054 1055), (0, .class_ 1056), (0, .nameAndType 1057 1058), (0, u "jdk/internal/util/Preconditions"), (0, u "SIOOBE_FORMATTER"), (0, u "Ljava/util/function/BiFunction;"), (0, .methodref 1054 1060), (0, .nameAndType 501 1061), (0, u "(IILjava/util/function/BiFunction;)I"), (0, .methodref 1054 1063), (0, .nameAndType 513 1064), (0, u "(IIILjava/util/function/BiFunction;)I"), (36, u "serialPersistentFields"), (0, u "[Ljava/io/ObjectStreamField;"), (0, .class_ 1104), (0, u "java/lang/String$CaseInsensitiveComparator"), (1, .class_ 1107), (0, u "java/io/Serializable"), (0, .class_ 1109), (0, u "java/lang/Comparable"), (0, .class_ 1111), (0, u "java/lang/constant/Constable"), (0, .class_ 1113), (0, u "java/lang/constant/ConstantDesc"), (2, u "serialVersionUID"), (0, u "J"), (3, u "REPL"), (0, u "C"), (2, u "LATIN1"), (1, u "UTF16")] 323

def k7m0 : Method := { name := "<init>", desc := "()V", sig := { parameters := [], returnType := none }, accessFlags := 1, code := none }
def k7c1 : Code := { maxStack := 5, maxLocals := 2, code := jdk_42_method_3_code, exceptionTable := #[], attributes := #[] }
def k7m1 : Method := { name := "<init>", desc := "([C)V", sig := { parameters := [(.array .char)], returnType := none }, accessFlags := 1, code := some k7c1 }
def k7c2 : Code := { maxStack := 2, maxLocals := 1, code := jdk_42_method_54_code, exceptionTable := #[], attributes := #[] }
def k7m2 : Method := { name := "length", desc := "()I", sig := { parameters := [], returnType := some .int }, accessFlags := 1, code := some k7c2 }
def k7c3 : Code := { maxStack := 2, maxLocals := 2, code := jdk_42_method_56_code, exceptionTable := #[], attributes := #[] }
def k7m3 : Method := { name := "charAt", desc := "(I)C", sig := { parameters := [.int], returnType := some .char }, accessFlags := 1, code := some k7c3 }
def k7c4 : Code := { maxStack := 3, maxLocals := 2, code := jdk_42_method_79_code, exceptionTable := #[], attributes := #[] }
def k7m4 : Method := { name := "indexOf", desc := "(I)I", sig := { parameters := [.int], returnType := some .int }, accessFlags := 1, code := some k7c4 }
def k7c5 : Code := { maxStack := 4, maxLocals := 3, code := jdk_42_method_80_code, exceptionTable := #[], attributes := #[] }
def k7m5 : Method := { name := "indexOf", desc := "(II)I", sig := { parameters := [.int, .int], returnType := some .int }, accessFlags := 1, code := some k7c5 }
def k7c6 : Code := { maxStack := 3, maxLocals := 2, code := jdk_42_method_91_code, exceptionTable := #[], attributes := #[] }
def k7m6 : Method := { name := "substring", desc := "(I)Ljava/lang/String;", sig := { parameters := [.int], returnType := some (.object "java/lang/String") }, accessFlags := 1, code := some k7c6 }
def k7c7 : Code := { maxStack := 3, maxLocals := 5, code := jdk_42_method_92_code, exceptionTable := #[], attributes := #[] }
def k7m7 : Method := { name := "substring", desc := "(II)Ljava/lang/String;", sig := { parameters := [.int, .int], returnType := some (.object "java/lang/String") }, accessFlags := 1, code := some k7c7 }
def k7c8 : Code := { maxStack := 4, maxLocals := 6, code := jdk_42_method_149_code, exceptionTable := #[], attributes := #[] }
def k7m8 : Method := { name := "<init>", desc := "([CIILjava/lang/Void;)V", sig := { parameters := [(.array .char), .int, .int, (.object "java/lang/Void")], returnType := none }, accessFlags := 2, code := some k7c8 }
def k7c9 : Code := { maxStack := 2, maxLocals := 3, code := jdk_42_method_151_code, exceptionTable := #[], attributes := #[] }
def k7m9 : Method := { name := "<init>", desc := "([BB)V", sig := { parameters := [(.array .byte), .byte], returnType := none }, accessFlags := 0, code := some k7c9 }
def k7c10 : Code := { maxStack := 1, maxLocals := 1, code := jdk_42_method_152_code, exceptionTable := #[], attributes := #[] }
def k7m10 : Method := { name := "coder", desc := "()B", sig := { parameters := [], returnType := some .byte }, accessFlags := 0, code := some k7c10 }
def k7c11 : Code := { maxStack := 1, maxLocals := 1, code := jdk_42_method_154_code, exceptionTable := #[], attributes := #[] }
def k7m11 : Method := { name := "isLatin1", desc := "()Z", sig := { parameters := [], returnType := some .boolean }, accessFlags := 0, code := some k7c11 }
def k7c12 : Code := { maxStack := 3, maxLocals := 2, code := jdk_42_method_155_code, exceptionTable := #[], attributes := #[] }
def k7m12 : Method := { name := "checkIndex", desc := "(II)V", sig := { parameters := [.int, .int], returnType := none }, accessFlags := 8, code := some k7c12 }
def k7c13 : Code := { maxStack := 4, maxLocals := 3, code := jdk_42_method_158_code, exceptionTable := #[], attributes := #[] }
def k7m13 : Method := { name := "checkBoundsBeginEnd", desc := "(III)V", sig := { parameters := [.int, .int, .int], returnType := none }, accessFlags := 8, code := some k7c13 }
/-- java/lang/String -/
def k7 : Class := { plain "java/lang/String" (some 0) with
  accessFlags := 49
  interfaces := #[2, 3, 4, 5, 6]
  cf := some (fileOf pool7 10 #[.nestMembers #[1103]] #[{ accessFlags := 1, nameIndex := 5, descriptorIndex := 6, attributes := #[] }, { accessFlags := 1, nameIndex := 5, descriptorIndex := 1010, attributes := #[] }, { accessFlags := 1, nameIndex := 507, descriptorIndex := 334, attributes := #[] }, { accessFlags := 1, nameIndex := 497, descriptorIndex := 427, attributes := #[] }, { accessFlags := 1, nameIndex := 635, descriptorIndex := 765, attributes := #[] }, { accessFlags := 1, nameIndex := 635, descriptorIndex := 636, attributes := #[] }, { accessFlags := 1, nameIndex := 683, descriptorIndex := 892, attributes := #[] }, { accessFlags := 1, nameIndex := 683, descriptorIndex := 684, attributes := #[] }, { accessFlags := 2, nameIndex := 5, descriptorIndex := 29, attributes := #[] }, { accessFlags := 0, nameIndex := 5, descriptorIndex := 211, attributes := #[] }, { accessFlags := 0, nameIndex := 17, descriptorIndex := 337, attributes := #[] }, { accessFlags := 0, nameIndex := 494, descriptorIndex := 142, attributes := #[] }, { accessFlags := 8, nameIndex := 501, descriptorIndex := 391, attributes := #[] }, { accessFlags := 8, nameIndex := 523, descriptorIndex := 524, attributes := #[] }] 49 2 #[1106, 1108, 575, 1110, 1112] #[{ accessFlags := 18, nameIndex := 13, descriptorIndex := 14, attributes := #[] }, { accessFlags := 18, nameIndex := 17, descriptorIndex := 18, attributes := #[] }, { accessFlags := 2, nameIndex := 21, descriptorIndex := 22, attributes := #[] }, { accessFlags := 2, nameIndex := 25, descriptorIndex := 26, attributes := #[] }, { accessFlags := 26, nameIndex := 1116, descriptorIndex := 1117, attributes := #[] }, { accessFlags := 24, nameIndex := 40, descriptorIndex := 26, attributes := #[] }, { accessFlags := 26, nameIndex := 1101, descriptorIndex := 1102, attributes := #[] }, { accessFlags := 26, nameIndex := 1121, descriptorIndex := 1122, attributes := #[] }, { accessFlags := 25, nameIndex := 599, descriptorIndex := 600, attributes := #[] }, { accessFlags := 24, nameIndex := 1125, descriptorIndex := 18, attributes := #[] }, { accessFlags := 24, nameIndex := 1127, descriptorIndex := 18, attributes := #[] }])
  fields := #[{ name := "value", type := (.array .byte), accessFlags := 18, slot := 0, constantValue := 0 }, { name := "coder", type := .byte, accessFlags := 18, slot := 1, constantValue := 0 }, { name := "hash", type := .int, accessFlags := 2, slot := 2, constantValue := 0 }, { name := "hashIsZero", type := .boolean, accessFlags := 2, slot := 3, constantValue := 0 }, { name := "serialVersionUID", type := .long, accessFlags := 26, slot := 0, constantValue := 0 }, { name := "COMPACT_STRINGS", type := .boolean, accessFlags := 24, slot := 1, constantValue := 0 }, { name := "serialPersistentFields", type := (.array (.object "java/io/ObjectStreamField")), accessFlags := 26, slot := 2, constantValue := 0 }, { name := "REPL", type := .char, accessFlags := 26, slot := 3, constantValue := 0 }, { name := "CASE_INSENSITIVE_ORDER", type := (.object "java/util/Comparator"), accessFlags := 25, slot := 4, constantValue := 0 }, { name := "LATIN1", type := .byte, accessFlags := 24, slot := 5, constantValue := 0 }, { name := "UTF16", type := .byte, accessFlags := 24, slot := 6, constantValue := 0 }]
  methods := #[k7m0, k7m1, k7m2, k7m3, k7m4, k7m5, k7m6, k7m7, k7m8, k7m9, k7m10, k7m11, k7m12, k7m13]
  instanceTypes := #[(.array .byte), .byte, .int, .boolean]
  staticTypes := #[.long, .boolean, (.array (.object "java/io/ObjectStreamField")), .char, (.object "java/util/Comparator"), .byte, .byte]
  resolved := Array.replicate 1451 none
  statics := some 0 }

def pool8 : Array CpInfo := pool [(6, .class_ 8), (1, u "java/lang/Object"), (0, u "<init>"), (0, u "()V"), (1, .class_ 14), (1, u "java/lang/StringUTF16"), (31, u "$assertionsDisabled"), (0, u "Z"), (13, u "HI_BYTE_SHIFT"), (0, u "I"), (2, u "LO_BYTE_SHIFT"), (49, .methodref 12 116), (0, .nameAndType 117 118), (0, u "compress"), (0, u "([CI[BII)I"), (3, u "([CII)[B"), (138, u "coderFromArrayLen"), (0, u "([BI)B"), (106, .class_ 371), (1, u "java/lang/StringUTF16$LinesSpliterator"), (58, u "MAX_LENGTH"), (196, .class_ 628), (0, u "java/lang/StringUTF16$CodePointsSpliterator"), (0, .class_ 630), (0, u "java/lang/StringUTF16$CharsSpliterator")] 4

def k8m0 : Method := { name := "<init>", desc := "()V", sig := { parameters := [], returnType := none }, accessFlags := 0, code := none }
def k8c1 : Code := { maxStack := 2, maxLocals := 2, code := jdk_52_method_15_code, exceptionTable := #[], attributes := #[] }
def k8m1 : Method := { name := "coderFromArrayLen", desc := "([BI)B", sig := { parameters := [(.array .byte), .int], returnType := some .byte }, accessFlags := 8, code := some k8c1 }
def k8c2 : Code := { maxStack := 5, maxLocals := 6, code := jdk_52_method_16_code, exceptionTable := #[], attributes := #[] }
def k8m2 : Method := { name := "compress", desc := "([CII)[B", sig := { parameters := [(.array .char), .int, .int], returnType := some (.array .byte) }, accessFlags := 9, code := some k8c2 }
def k8c3 : Code := { maxStack := 3, maxLocals := 7, code := jdk_52_method_21_code, exceptionTable := #[], attributes := #[] }
def k8m3 : Method := { name := "compress", desc := "([CI[BII)I", sig := { parameters := [(.array .char), .int, (.array .byte), .int, .int], returnType := some .int }, accessFlags := 9, code := some k8c3 }
/-- java/lang/StringUTF16 -/
def k8 : Class := { plain "java/lang/StringUTF16" (some 0) with
  accessFlags := 48
  interfaces := #[]
  cf := some (fileOf pool8 12 #[.nestMembers #[627, 629, 369]] #[{ accessFlags := 0, nameIndex := 9, descriptorIndex := 10, attributes := #[] }, { accessFlags := 8, nameIndex := 261, descriptorIndex := 262, attributes := #[] }, { accessFlags := 9, nameIndex := 117, descriptorIndex := 122, attributes := #[] }, { accessFlags := 9, nameIndex := 117, descriptorIndex := 118, attributes := #[] }] 48 6 #[] #[{ accessFlags := 26, nameIndex := 61, descriptorIndex := 62, attributes := #[] }, { accessFlags := 26, nameIndex := 65, descriptorIndex := 62, attributes := #[] }, { accessFlags := 24, nameIndex := 430, descriptorIndex := 62, attributes := #[] }, { accessFlags := 4120, nameIndex := 46, descriptorIndex := 47, attributes := #[] }])
  fields := #[{ name := "HI_BYTE_SHIFT", type := .int, accessFlags := 26, slot := 0, constantValue := 0 }, { name := "LO_BYTE_SHIFT", type := .int, accessFlags := 26, slot := 1, constantValue := 0 }, { name := "MAX_LENGTH", type := .int, accessFlags := 24, slot := 2, constantValue := 0 }, { name := "$assertionsDisabled", type := .boolean, accessFlags := 4120, slot := 3, constantValue := 0 }]
  methods := #[k8m0, k8m1, k8m2, k8m3]
  instanceTypes := #[]
  staticTypes := #[.int, .int, .int, .boolean]
  resolved := Array.replicate 635 none
  statics := none }

def pool9 : Array CpInfo := pool [(1, .methodref 2 3), (0, .class_ 4), (0, .nameAndType 5 6), (0, u "java/lang/Object"), (0, u "<init>"), (0, u "()V"), (0, .class_ 8), (0, u "java/lang/Record")] 13

def k9c0 : Code := { maxStack := 1, maxLocals := 1, code := jdk_30_method_1_code, exceptionTable := #[], attributes := #[] }
def k9m0 : Method := { name := "<init>", desc := "()V", sig := { parameters := [], returnType := none }, accessFlags := 4, code := some k9c0 }
/-- java/lang/Record -/
def k9 : Class := { plain "java/lang/Record" (some 0) with
  accessFlags := 1057
  interfaces := #[]
  cf := some (fileOf pool9 7 #[] #[{ accessFlags := 4, nameIndex := 5, descriptorIndex := 6, attributes := #[] }] 1057 2 #[] #[])
  fields := #[]
  methods := #[k9m0]
  instanceTypes := #[]
  staticTypes := #[]
  resolved := Array.replicate 22 none
  statics := none }

def pool10 : Array CpInfo := pool [(1, .methodref 2 3), (0, .class_ 4), (0, .nameAndType 5 6), (0, u "java/lang/Record"), (0, u "<init>"), (0, u "()V"), (0, .fieldref 8 9), (0, .class_ 10), (0, .nameAndType 11 12), (0, u "com/example/tideline/tideline/model/TableName"), (0, u "schema"), (0, u "Ljava/lang/String;"), (0, .fieldref 8 14), (0, .nameAndType 15 12), (0, u "table"), (0, .methodref 17 18), (0, .class_ 19), (0, .nameAndType 20 21), (0, u "java/lang/String"), (0, u "indexOf"), (0, u "(I)I"), (0, .methodref 17 23), (0, .nameAndType 24 25), (0, u "length"), (0, u "()I"), (9, .methodref 17 36), (0, .nameAndType 37 38), (0, u "substring"), (0, u "(II)Ljava/lang/String;"), (0, .methodref 17 40), (0, .nameAndType 37 41), (0, u "(I)Ljava/lang/String;"), (0, .methodref 8 43), (0, .nameAndType 5 44), (0, u "(Ljava/lang/String;Ljava/lang/String;)V"), (14, u "parse"), (0, u "(Ljava/lang/String;)Lcom/example/tideline/tideline/model/TableName;"), (2, u "()Ljava/lang/String;")] 32

def k10c0 : Code := { maxStack := 2, maxLocals := 3, code := prog_53_method_1_code, exceptionTable := #[], attributes := #[] }
def k10m0 : Method := { name := "<init>", desc := "(Ljava/lang/String;Ljava/lang/String;)V", sig := { parameters := [(.object "java/lang/String"), (.object "java/lang/String")], returnType := none }, accessFlags := 1, code := some k10c0 }
def k10c1 : Code := { maxStack := 6, maxLocals := 2, code := prog_53_method_2_code, exceptionTable := #[], attributes := #[] }
def k10m1 : Method := { name := "parse", desc := "(Ljava/lang/String;)Lcom/example/tideline/tideline/model/TableName;", sig := { parameters := [(.object "java/lang/String")], returnType := some (.object "com/example/tideline/tideline/model/TableName") }, accessFlags := 9, code := some k10c1 }
def k10c2 : Code := { maxStack := 1, maxLocals := 1, code := prog_53_method_6_code, exceptionTable := #[], attributes := #[] }
def k10m2 : Method := { name := "schema", desc := "()Ljava/lang/String;", sig := { parameters := [], returnType := some (.object "java/lang/String") }, accessFlags := 1, code := some k10c2 }
def k10c3 : Code := { maxStack := 1, maxLocals := 1, code := prog_53_method_7_code, exceptionTable := #[], attributes := #[] }
def k10m3 : Method := { name := "table", desc := "()Ljava/lang/String;", sig := { parameters := [], returnType := some (.object "java/lang/String") }, accessFlags := 1, code := some k10c3 }
/-- com/example/tideline/tideline/model/TableName -/
def k10 : Class := { plain "com/example/tideline/tideline/model/TableName" (some 9) with
  accessFlags := 49
  interfaces := #[]
  cf := some (fileOf pool10 8 #[] #[{ accessFlags := 1, nameIndex := 5, descriptorIndex := 44, attributes := #[] }, { accessFlags := 9, nameIndex := 59, descriptorIndex := 60, attributes := #[] }, { accessFlags := 1, nameIndex := 11, descriptorIndex := 63, attributes := #[] }, { accessFlags := 1, nameIndex := 15, descriptorIndex := 63, attributes := #[] }] 49 2 #[] #[{ accessFlags := 18, nameIndex := 11, descriptorIndex := 12, attributes := #[] }, { accessFlags := 18, nameIndex := 15, descriptorIndex := 12, attributes := #[] }])
  fields := #[{ name := "schema", type := (.object "java/lang/String"), accessFlags := 18, slot := 0, constantValue := 0 }, { name := "table", type := (.object "java/lang/String"), accessFlags := 18, slot := 1, constantValue := 0 }]
  methods := #[k10m0, k10m1, k10m2, k10m3]
  instanceTypes := #[(.object "java/lang/String"), (.object "java/lang/String")]
  staticTypes := #[]
  resolved := Array.replicate 96 none
  statics := none }

def pool11 : Array CpInfo := pool [(1, .class_ 2), (0, u "java/lang/String"), (1, .class_ 6), (1, u "java/lang/Object"), (0, u "<init>"), (0, u "()V"), (0, .methodref 1 10), (0, .nameAndType 11 12), (0, u "checkIndex"), (0, u "(II)V"), (1, .class_ 16), (1, u "java/lang/StringLatin1"), (21, .methodref 39 40), (0, .class_ 41), (0, .nameAndType 42 43), (0, u "java/lang/Math"), (0, u "min"), (0, u "(II)I"), (9, u "([BI)C"), (34, .methodref 14 89), (0, .nameAndType 90 91), (0, u "canEncode"), (0, u "(I)Z"), (0, .methodref 39 93), (0, .nameAndType 94 43), (0, u "max"), (0, .methodref 14 96), (0, .nameAndType 97 98), (0, u "indexOfChar"), (0, u "([BIII)I"), (2, u "indexOf"), (10, .methodref 1 113), (0, .nameAndType 7 114), (0, u "([BB)V"), (6, u "$assertionsDisabled"), (0, u "Z"), (8, .class_ 133), (1, u "java/util/Arrays"), (62, u "newString"), (0, u "([BII)Ljava/lang/String;"), (23, .class_ 223), (1, u "java/lang/StringLatin1$LinesSpliterator"), (8, .methodref 131 233), (0, .nameAndType 234 235), (0, u "copyOfRange"), (0, u "([BII)[B"), (16, u "charAt"), (137, .class_ 391), (0, u "java/lang/StringLatin1$CharsSpliterator")] 3

def k11m0 : Method := { name := "<init>", desc := "()V", sig := { parameters := [], returnType := none }, accessFlags := 0, code := none }
def k11c1 : Code := { maxStack := 2, maxLocals := 2, code := jdk_43_method_2_code, exceptionTable := #[], attributes := #[] }
def k11m1 : Method := { name := "charAt", desc := "([BI)C", sig := { parameters := [(.array .byte), .int], returnType := some .char }, accessFlags := 9, code := some k11c1 }
def k11c2 : Code := { maxStack := 2, maxLocals := 1, code := jdk_43_method_4_code, exceptionTable := #[], attributes := #[] }
def k11m2 : Method := { name := "canEncode", desc := "(I)Z", sig := { parameters := [.int], returnType := some .boolean }, accessFlags := 9, code := some k11c2 }
def k11c3 : Code := { maxStack := 4, maxLocals := 4, code := jdk_43_method_22_code, exceptionTable := #[], attributes := #[] }
def k11m3 : Method := { name := "indexOf", desc := "([BIII)I", sig := { parameters := [(.array .byte), .int, .int, .int], returnType := some .int }, accessFlags := 9, code := some k11c3 }
def k11c4 : Code := { maxStack := 2, maxLocals := 6, code := jdk_43_method_23_code, exceptionTable := #[], attributes := #[] }
def k11m4 : Method := { name := "indexOfChar", desc := "([BIII)I", sig := { parameters := [(.array .byte), .int, .int, .int], returnType := some .int }, accessFlags := 10, code := some k11c4 }
def k11c5 : Code := { maxStack := 6, maxLocals := 3, code := jdk_43_method_47_code, exceptionTable := #[], attributes := #[] }
def k11m5 : Method := { name := "newString", desc := "([BII)Ljava/lang/String;", sig := { parameters := [(.array .byte), .int, .int], returnType := some (.object "java/lang/String") }, accessFlags := 9, code := some k11c5 }
/-- java/lang/StringLatin1 -/
def k11 : Class := { plain "java/lang/StringLatin1" (some 0) with
  accessFlags := 48
  interfaces := #[]
  cf := some (fileOf pool11 14 #[.nestMembers #[390, 221]] #[{ accessFlags := 0, nameIndex := 7, descriptorIndex := 8, attributes := #[] }, { accessFlags := 9, nameIndex := 252, descriptorIndex := 53, attributes := #[] }, { accessFlags := 9, nameIndex := 90, descriptorIndex := 91, attributes := #[] }, { accessFlags := 9, nameIndex := 101, descriptorIndex := 98, attributes := #[] }, { accessFlags := 10, nameIndex := 97, descriptorIndex := 98, attributes := #[] }, { accessFlags := 9, nameIndex := 196, descriptorIndex := 197, attributes := #[] }] 48 4 #[] #[{ accessFlags := 4120, nameIndex := 121, descriptorIndex := 122, attributes := #[] }])
  fields := #[{ name := "$assertionsDisabled", type := .boolean, accessFlags := 4120, slot := 0, constantValue := 0 }]
  methods := #[k11m0, k11m1, k11m2, k11m3, k11m4, k11m5]
  instanceTypes := #[]
  staticTypes := #[.boolean]
  resolved := Array.replicate 395 none
  statics := none }

def pool12 : Array CpInfo := pool [(1, .class_ 2), (0, u "java/lang/Math"), (1, .class_ 6), (1, u "java/lang/Object"), (0, u "<init>"), (0, u "()V"), (89, .class_ 100), (1, u "java/lang/Math$RandomNumberGeneratorHolder"), (71, u "negativeZeroFloatBits"), (0, u "J"), (2, u "negativeZeroDoubleBits"), (21, u "max"), (2, u "min"), (43, u "$assertionsDisabled"), (0, u "Z"), (88, u "(II)I"), (2, u "twoToTheDoubleScaleDown"), (0, u "D"), (4, u "twoToTheDoubleScaleUp"), (9, u "E"), (3, u "PI"), (2, u "TAU"), (2, u "DEGREES_TO_RADIANS"), (0, u "RADIANS_TO_DEGREES")] 94

def k12m0 : Method := { name := "<init>", desc := "()V", sig := { parameters := [], returnType := none }, accessFlags := 2, code := none }
def k12c1 : Code := { maxStack := 2, maxLocals := 2, code := jdk_29_method_65_code, exceptionTable := #[], attributes := #[] }
def k12m1 : Method := { name := "max", desc := "(II)I", sig := { parameters := [.int, .int], returnType := some .int }, accessFlags := 9, code := some k12c1 }
def k12c2 : Code := { maxStack := 2, maxLocals := 2, code := jdk_29_method_69_code, exceptionTable := #[], attributes := #[] }
def k12m2 : Method := { name := "min", desc := "(II)I", sig := { parameters := [.int, .int], returnType := some .int }, accessFlags := 9, code := some k12c2 }
/-- java/lang/Math -/
def k12 : Class := { plain "java/lang/Math" (some 0) with
  accessFlags := 49
  interfaces := #[]
  cf := some (fileOf pool12 1 #[.nestMembers #[98]] #[{ accessFlags := 2, nameIndex := 7, descriptorIndex := 8, attributes := #[] }, { accessFlags := 9, nameIndex := 198, descriptorIndex := 335, attributes := #[] }, { accessFlags := 9, nameIndex := 201, descriptorIndex := 335, attributes := #[] }] 49 4 #[] #[{ accessFlags := 25, nameIndex := 354, descriptorIndex := 339, attributes := #[] }, { accessFlags := 25, nameIndex := 358, descriptorIndex := 339, attributes := #[] }, { accessFlags := 25, nameIndex := 361, descriptorIndex := 339, attributes := #[] }, { accessFlags := 26, nameIndex := 364, descriptorIndex := 339, attributes := #[] }, { accessFlags := 26, nameIndex := 365, descriptorIndex := 339, attributes := #[] }, { accessFlags := 26, nameIndex := 172, descriptorIndex := 173, attributes := #[] }, { accessFlags := 26, nameIndex := 176, descriptorIndex := 173, attributes := #[] }, { accessFlags := 8, nameIndex := 344, descriptorIndex := 339, attributes := #[] }, { accessFlags := 8, nameIndex := 338, descriptorIndex := 339, attributes := #[] }, { accessFlags := 4120, nameIndex := 245, descriptorIndex := 246, attributes := #[] }])
  fields := #[{ name := "E", type := .double, accessFlags := 25, slot := 0, constantValue := 0 }, { name := "PI", type := .double, accessFlags := 25, slot := 1, constantValue := 0 }, { name := "TAU", type := .double, accessFlags := 25, slot := 2, constantValue := 0 }, { name := "DEGREES_TO_RADIANS", type := .double, accessFlags := 26, slot := 3, constantValue := 0 }, { name := "RADIANS_TO_DEGREES", type := .double, accessFlags := 26, slot := 4, constantValue := 0 }, { name := "negativeZeroFloatBits", type := .long, accessFlags := 26, slot := 5, constantValue := 0 }, { name := "negativeZeroDoubleBits", type := .long, accessFlags := 26, slot := 6, constantValue := 0 }, { name := "twoToTheDoubleScaleUp", type := .double, accessFlags := 8, slot := 7, constantValue := 0 }, { name := "twoToTheDoubleScaleDown", type := .double, accessFlags := 8, slot := 8, constantValue := 0 }, { name := "$assertionsDisabled", type := .boolean, accessFlags := 4120, slot := 9, constantValue := 0 }]
  methods := #[k12m0, k12m1, k12m2]
  instanceTypes := #[]
  staticTypes := #[.double, .double, .double, .double, .double, .long, .long, .double, .double, .boolean]
  resolved := Array.replicate 460 none
  statics := none }

def pool13 : Array CpInfo := pool [(2, .class_ 4), (1, u "java/lang/Object"), (0, u "<init>"), (0, u "()V"), (17, .class_ 26), (1, u "jdk/internal/util/Preconditions"), (6, u "checkIndex"), (13, u "checkFromToIndex"), (7, .class_ 56), (0, u "jdk/internal/util/Preconditions$4"), (57, .class_ 115), (0, u "jdk/internal/util/Preconditions$1"), (7, u "SIOOBE_FORMATTER"), (0, u "Ljava/util/function/BiFunction;"), (0, .class_ 126), (0, u "jdk/internal/util/Preconditions$2"), (3, u "AIOOBE_FORMATTER"), (0, .class_ 132), (0, u "jdk/internal/util/Preconditions$3"), (3, u "IOOBE_FORMATTER"), (41, u "(IILjava/util/function/BiFunction;)I"), (4, u "(IIILjava/util/function/BiFunction;)I")] 10

def k13m0 : Method := { name := "<init>", desc := "()V", sig := { parameters := [], returnType := none }, accessFlags := 1, code := none }
def k13c1 : Code := { maxStack := 3, maxLocals := 3, code := jdk_41_method_11_code, exceptionTable := #[], attributes := #[] }
def k13m1 : Method := { name := "checkIndex", desc := "(IILjava/util/function/BiFunction;)I", sig := { parameters := [.int, .int, (.object "java/util/function/BiFunction")], returnType := some .int }, accessFlags := 9, code := some k13c1 }
def k13c2 : Code := { maxStack := 4, maxLocals := 4, code := jdk_41_method_12_code, exceptionTable := #[], attributes := #[] }
def k13m2 : Method := { name := "checkFromToIndex", desc := "(IIILjava/util/function/BiFunction;)I", sig := { parameters := [.int, .int, .int, (.object "java/util/function/BiFunction")], returnType := some .int }, accessFlags := 9, code := some k13c2 }
/-- jdk/internal/util/Preconditions -/
def k13 : Class := { plain "jdk/internal/util/Preconditions" (some 0) with
  accessFlags := 33
  interfaces := #[]
  cf := some (fileOf pool13 24 #[.nestMembers #[55, 131, 125, 114]] #[{ accessFlags := 1, nameIndex := 5, descriptorIndex := 6, attributes := #[] }, { accessFlags := 9, nameIndex := 33, descriptorIndex := 178, attributes := #[] }, { accessFlags := 9, nameIndex := 47, descriptorIndex := 183, attributes := #[] }] 33 2 #[] #[{ accessFlags := 25, nameIndex := 123, descriptorIndex := 124, attributes := #[] }, { accessFlags := 25, nameIndex := 130, descriptorIndex := 124, attributes := #[] }, { accessFlags := 25, nameIndex := 136, descriptorIndex := 124, attributes := #[] }])
  fields := #[{ name := "SIOOBE_FORMATTER", type := (.object "java/util/function/BiFunction"), accessFlags := 25, slot := 0, constantValue := 0 }, { name := "AIOOBE_FORMATTER", type := (.object "java/util/function/BiFunction"), accessFlags := 25, slot := 1, constantValue := 0 }, { name := "IOOBE_FORMATTER", type := (.object "java/util/function/BiFunction"), accessFlags := 25, slot := 2, constantValue := 0 }]
  methods := #[k13m0, k13m1, k13m2]
  instanceTypes := #[]
  staticTypes := #[(.object "java/util/function/BiFunction"), (.object "java/util/function/BiFunction"), (.object "java/util/function/BiFunction")]
  resolved := Array.replicate 194 none
  statics := some 1 }

def pool14 : Array CpInfo := pool [(2, .class_ 4), (1, u "java/lang/Object"), (0, u "<init>"), (0, u "()V"), (7, .class_ 16), (1, u "java/util/Arrays"), (57, .class_ 76), (1, u "java/util/Arrays$NaturalOrder"), (36, .class_ 115), (1, u "java/util/Arrays$LegacyMergeSort"), (1, u "Z"), (21, u "copyOfRange"), (10, .methodref 151 152), (0, .class_ 153), (0, .nameAndType 154 155), (0, u "java/lang/System"), (0, u "arraycopy"), (0, u "(Ljava/lang/Object;ILjava/lang/Object;II)V"), (148, .methodref 305 306), (0, .class_ 307), (0, .nameAndType 308 309), (0, u "java/lang/Math"), (0, u "min"), (0, u "(II)I"), (29, .methodref 14 340), (0, .nameAndType 341 342), (0, u "copyOfRangeByte"), (0, u "([BII)[B"), (0, .methodref 14 344), (0, .nameAndType 345 346), (0, u "checkLength"), (0, u "(II)V"), (28, .class_ 376), (0, u "java/util/Arrays$ArrayList"), (68, u "$assertionsDisabled"), (269, u "MIN_ARRAY_SORT_GRAN"), (0, u "I"), (2, u "INSERTIONSORT_THRESHOLD"), (255, .class_ 976), (0, u "java/util/Arrays$ArrayItr")] 52

def k14m0 : Method := { name := "<init>", desc := "()V", sig := { parameters := [], returnType := none }, accessFlags := 2, code := none }
def k14c1 : Code := { maxStack := 4, maxLocals := 2, code := jdk_65_method_131_code, exceptionTable := #[], attributes := #[] }
def k14m1 : Method := { name := "checkLength", desc := "(II)V", sig := { parameters := [.int, .int], returnType := none }, accessFlags := 10, code := some k14c1 }
def k14c2 : Code := { maxStack := 3, maxLocals := 3, code := jdk_65_method_132_code, exceptionTable := #[], attributes := #[] }
def k14m2 : Method := { name := "copyOfRange", desc := "([BII)[B", sig := { parameters := [(.array .byte), .int, .int], returnType := some (.array .byte) }, accessFlags := 9, code := some k14c2 }
def k14c3 : Code := { maxStack := 6, maxLocals := 5, code := jdk_65_method_133_code, exceptionTable := #[], attributes := #[] }
def k14m3 : Method := { name := "copyOfRangeByte", desc := "([BII)[B", sig := { parameters := [(.array .byte), .int, .int], returnType := some (.array .byte) }, accessFlags := 10, code := some k14c3 }
/-- java/util/Arrays -/
def k14 : Class := { plain "java/util/Arrays" (some 0) with
  accessFlags := 49
  interfaces := #[]
  cf := some (fileOf pool14 14 #[.nestMembers #[975, 375, 113, 74]] #[{ accessFlags := 2, nameIndex := 5, descriptorIndex := 6, attributes := #[] }, { accessFlags := 10, nameIndex := 345, descriptorIndex := 346, attributes := #[] }, { accessFlags := 9, nameIndex := 139, descriptorIndex := 342, attributes := #[] }, { accessFlags := 10, nameIndex := 341, descriptorIndex := 342, attributes := #[] }] 49 2 #[] #[{ accessFlags := 26, nameIndex := 715, descriptorIndex := 716, attributes := #[] }, { accessFlags := 26, nameIndex := 719, descriptorIndex := 716, attributes := #[] }, { accessFlags := 4120, nameIndex := 445, descriptorIndex := 117, attributes := #[] }])
  fields := #[{ name := "MIN_ARRAY_SORT_GRAN", type := .int, accessFlags := 26, slot := 0, constantValue := 0 }, { name := "INSERTIONSORT_THRESHOLD", type := .int, accessFlags := 26, slot := 1, constantValue := 0 }, { name := "$assertionsDisabled", type := .boolean, accessFlags := 4120, slot := 2, constantValue := 0 }]
  methods := #[k14m0, k14m1, k14m2, k14m3]
  instanceTypes := #[]
  staticTypes := #[.int, .int, .boolean]
  resolved := Array.replicate 1029 none
  statics := none }

def pool15 : Array CpInfo := pool [(2, .class_ 4), (1, u "java/lang/Object"), (0, u "<init>"), (0, u "()V"), (1, .class_ 10), (1, u "java/lang/System"), (0, u "allowSecurityManager"), (0, u "I"), (16, u "cons"), (0, u "Ljava/io/Console;"), (77, .class_ 110), (1, u "java/lang/System$CallersHolder"), (43, u "initialErrStream"), (0, u "Ljava/io/PrintStream;"), (19, u "security"), (0, u "Ljava/lang/SecurityManager;"), (31, .class_ 209), (0, u "java/lang/System$1"), (7, u "props"), (0, u "Ljava/util/Properties;"), (2, u "lineSeparator"), (0, u "Ljava/lang/String;"), (96, .class_ 321), (1, u "java/lang/System$LoggerFinder"), (5, .class_ 328), (0, u "java/lang/System$Logger"), (67, u "err"), (2, u "out"), (91, u "notSupportedJnuEncoding"), (15, u "in"), (17, u "initialIn"), (0, u "Ljava/io/InputStream;"), (35, u "bootLayer"), (0, u "Ljava/lang/ModuleLayer;"), (99, .class_ 664), (0, u "java/lang/System$2"), (9, u "NEVER"), (2, u "MAYBE"), (49, u "arraycopy"), (0, u "(Ljava/lang/Object;ILjava/lang/Object;II)V"), (72, .class_ 802), (0, u "java/lang/System$Logger$Level")] 31

def k15m0 : Method := { name := "<init>", desc := "()V", sig := { parameters := [], returnType := none }, accessFlags := 2, code := none }
def k15m1 : Method := { name := "arraycopy", desc := "(Ljava/lang/Object;ILjava/lang/Object;II)V", sig := { parameters := [(.object "java/lang/Object"), .int, (.object "java/lang/Object"), .int, .int], returnType := none }, accessFlags := 265, code := none }
/-- java/lang/System -/
def k15 : Class := { plain "java/lang/System" (some 0) with
  accessFlags := 49
  interfaces := #[]
  cf := some (fileOf pool15 8 #[.nestMembers #[319, 327, 801, 108, 663, 208]] #[{ accessFlags := 2, nameIndex := 5, descriptorIndex := 6, attributes := #[] }, { accessFlags := 265, nameIndex := 727, descriptorIndex := 728, attributes := #[] }] 49 2 #[] #[{ accessFlags := 25, nameIndex := 507, descriptorIndex := 526, attributes := #[] }, { accessFlags := 25, nameIndex := 399, descriptorIndex := 155, attributes := #[] }, { accessFlags := 25, nameIndex := 396, descriptorIndex := 155, attributes := #[] }, { accessFlags := 10, nameIndex := 525, descriptorIndex := 526, attributes := #[] }, { accessFlags := 26, nameIndex := 674, descriptorIndex := 12, attributes := #[] }, { accessFlags := 26, nameIndex := 677, descriptorIndex := 12, attributes := #[] }, { accessFlags := 10, nameIndex := 11, descriptorIndex := 12, attributes := #[] }, { accessFlags := 74, nameIndex := 175, descriptorIndex := 176, attributes := #[] }, { accessFlags := 10, nameIndex := 491, descriptorIndex := 222, attributes := #[] }, { accessFlags := 74, nameIndex := 29, descriptorIndex := 30, attributes := #[] }, { accessFlags := 74, nameIndex := 154, descriptorIndex := 155, attributes := #[] }, { accessFlags := 10, nameIndex := 217, descriptorIndex := 218, attributes := #[] }, { accessFlags := 10, nameIndex := 221, descriptorIndex := 222, attributes := #[] }, { accessFlags := 8, nameIndex := 562, descriptorIndex := 563, attributes := #[] }])
  fields := #[{ name := "in", type := (.object "java/io/InputStream"), accessFlags := 25, slot := 0, constantValue := 0 }, { name := "out", type := (.object "java/io/PrintStream"), accessFlags := 25, slot := 1, constantValue := 0 }, { name := "err", type := (.object "java/io/PrintStream"), accessFlags := 25, slot := 2, constantValue := 0 }, { name := "initialIn", type := (.object "java/io/InputStream"), accessFlags := 10, slot := 3, constantValue := 0 }, { name := "NEVER", type := .int, accessFlags := 26, slot := 4, constantValue := 0 }, { name := "MAYBE", type := .int, accessFlags := 26, slot := 5, constantValue := 0 }, { name := "allowSecurityManager", type := .int, accessFlags := 10, slot := 6, constantValue := 0 }, { name := "security", type := (.object "java/lang/SecurityManager"), accessFlags := 74, slot := 7, constantValue := 0 }, { name := "notSupportedJnuEncoding", type := (.object "java/lang/String"), accessFlags := 10, slot := 8, constantValue := 0 }, { name := "cons", type := (.object "java/io/Console"), accessFlags := 74, slot := 9, constantValue := 0 }, { name := "initialErrStream", type := (.object "java/io/PrintStream"), accessFlags := 74, slot := 10, constantValue := 0 }, { name := "props", type := (.object "java/util/Properties"), accessFlags := 10, slot := 11, constantValue := 0 }, { name := "lineSeparator", type := (.object "java/lang/String"), accessFlags := 10, slot := 12, constantValue := 0 }, { name := "bootLayer", type := (.object "java/lang/ModuleLayer"), accessFlags := 8, slot := 13, constantValue := 0 }]
  methods := #[k15m0, k15m1]
  instanceTypes := #[]
  staticTypes := #[(.object "java/io/InputStream"), (.object "java/io/PrintStream"), (.object "java/io/PrintStream"), (.object "java/io/InputStream"), .int, .int, .int, (.object "java/lang/SecurityManager"), (.object "java/lang/String"), (.object "java/io/Console"), (.object "java/io/PrintStream"), (.object "java/util/Properties"), (.object "java/lang/String"), (.object "java/lang/ModuleLayer")]
  resolved := Array.replicate 834 none
  statics := none }

def pool16 : Array CpInfo := pool [(9, u "<init>"), (6, .class_ 18), (1, u "java/lang/Object"), (0, u "()V"), (1, .class_ 23), (1, u "jdk/internal/util/ArraysSupport"), (0, u "LOG2_ARRAY_LONG_INDEX_SCALE"), (0, u "I"), (2, u "U"), (0, u "Ljdk/internal/misc/Unsafe;"), (8, u "BIG_ENDIAN"), (0, u "Z"), (8, u "LOG2_BYTE_BIT_SIZE"), (4, u "LOG2_ARRAY_INT_INDEX_SCALE"), (54, u "JLA"), (0, u "Ljdk/internal/access/JavaLangAccess;"), (11, u "LOG2_ARRAY_BOOLEAN_INDEX_SCALE"), (9, u "LOG2_ARRAY_BYTE_INDEX_SCALE"), (5, u "LOG2_ARRAY_CHAR_INDEX_SCALE"), (5, u "LOG2_ARRAY_SHORT_INDEX_SCALE"), (18, u "LOG2_ARRAY_FLOAT_INDEX_SCALE"), (24, u "LOG2_ARRAY_DOUBLE_INDEX_SCALE"), (89, u "T_BOOLEAN"), (2, u "T_CHAR"), (1, u "T_FLOAT"), (1, u "T_DOUBLE"), (1, u "T_BYTE"), (1, u "T_SHORT"), (1, u "T_INT"), (1, u "T_LONG"), (1, u "SOFT_MAX_ARRAY_LENGTH")] 83

def k16m0 : Method := { name := "<init>", desc := "()V", sig := { parameters := [], returnType := none }, accessFlags := 2, code := none }
/-- jdk/internal/util/ArraysSupport -/
def k16 : Class := { plain "jdk/internal/util/ArraysSupport" (some 0) with
  accessFlags := 33
  interfaces := #[]
  cf := some (fileOf pool16 21 #[] #[{ accessFlags := 2, nameIndex := 9, descriptorIndex := 19, attributes := #[] }] 33 16 #[] #[{ accessFlags := 24, nameIndex := 28, descriptorIndex := 29, attributes := #[] }, { accessFlags := 26, nameIndex := 38, descriptorIndex := 39, attributes := #[] }, { accessFlags := 25, nameIndex := 121, descriptorIndex := 25, attributes := #[] }, { accessFlags := 25, nameIndex := 131, descriptorIndex := 25, attributes := #[] }, { accessFlags := 25, nameIndex := 137, descriptorIndex := 25, attributes := #[] }, { accessFlags := 25, nameIndex := 143, descriptorIndex := 25, attributes := #[] }, { accessFlags := 25, nameIndex := 53, descriptorIndex := 25, attributes := #[] }, { accessFlags := 25, nameIndex := 24, descriptorIndex := 25, attributes := #[] }, { accessFlags := 25, nameIndex := 162, descriptorIndex := 25, attributes := #[] }, { accessFlags := 25, nameIndex := 187, descriptorIndex := 25, attributes := #[] }, { accessFlags := 26, nameIndex := 48, descriptorIndex := 25, attributes := #[] }, { accessFlags := 25, nameIndex := 277, descriptorIndex := 25, attributes := #[] }, { accessFlags := 25, nameIndex := 280, descriptorIndex := 25, attributes := #[] }, { accessFlags := 25, nameIndex := 282, descriptorIndex := 25, attributes := #[] }, { accessFlags := 25, nameIndex := 284, descriptorIndex := 25, attributes := #[] }, { accessFlags := 25, nameIndex := 286, descriptorIndex := 25, attributes := #[] }, { accessFlags := 25, nameIndex := 288, descriptorIndex := 25, attributes := #[] }, { accessFlags := 25, nameIndex := 290, descriptorIndex := 25, attributes := #[] }, { accessFlags := 25, nameIndex := 292, descriptorIndex := 25, attributes := #[] }, { accessFlags := 26, nameIndex := 108, descriptorIndex := 109, attributes := #[] }, { accessFlags := 25, nameIndex := 294, descriptorIndex := 25, attributes := #[] }])
  fields := #[{ name := "U", type := (.object "jdk/internal/misc/Unsafe"), accessFlags := 24, slot := 0, constantValue := 0 }, { name := "BIG_ENDIAN", type := .boolean, accessFlags := 26, slot := 1, constantValue := 0 }, { name := "LOG2_ARRAY_BOOLEAN_INDEX_SCALE", type := .int, accessFlags := 25, slot := 2, constantValue := 0 }, { name := "LOG2_ARRAY_BYTE_INDEX_SCALE", type := .int, accessFlags := 25, slot := 3, constantValue := 0 }, { name := "LOG2_ARRAY_CHAR_INDEX_SCALE", type := .int, accessFlags := 25, slot := 4, constantValue := 0 }, { name := "LOG2_ARRAY_SHORT_INDEX_SCALE", type := .int, accessFlags := 25, slot := 5, constantValue := 0 }, { name := "LOG2_ARRAY_INT_INDEX_SCALE", type := .int, accessFlags := 25, slot := 6, constantValue := 0 }, { name := "LOG2_ARRAY_LONG_INDEX_SCALE", type := .int, accessFlags := 25, slot := 7, constantValue := 0 }, { name := "LOG2_ARRAY_FLOAT_INDEX_SCALE", type := .int, accessFlags := 25, slot := 8, constantValue := 0 }, { name := "LOG2_ARRAY_DOUBLE_INDEX_SCALE", type := .int, accessFlags := 25, slot := 9, constantValue := 0 }, { name := "LOG2_BYTE_BIT_SIZE", type := .int, accessFlags := 26, slot := 10, constantValue := 0 }, { name := "T_BOOLEAN", type := .int, accessFlags := 25, slot := 11, constantValue := 0 }, { name := "T_CHAR", type := .int, accessFlags := 25, slot := 12, constantValue := 0 }, { name := "T_FLOAT", type := .int, accessFlags := 25, slot := 13, constantValue := 0 }, { name := "T_DOUBLE", type := .int, accessFlags := 25, slot := 14, constantValue := 0 }, { name := "T_BYTE", type := .int, accessFlags := 25, slot := 15, constantValue := 0 }, { name := "T_SHORT", type := .int, accessFlags := 25, slot := 16, constantValue := 0 }, { name := "T_INT", type := .int, accessFlags := 25, slot := 17, constantValue := 0 }, { name := "T_LONG", type := .int, accessFlags := 25, slot := 18, constantValue := 0 }, { name := "JLA", type := (.object "jdk/internal/access/JavaLangAccess"), accessFlags := 26, slot := 19, constantValue := 0 }, { name := "SOFT_MAX_ARRAY_LENGTH", type := .int, accessFlags := 25, slot := 20, constantValue := 0 }]
  methods := #[k16m0]
  instanceTypes := #[]
  staticTypes := #[(.object "jdk/internal/misc/Unsafe"), .boolean, .int, .int, .int, .int, .int, .int, .int, .int, .int, .int, .int, .int, .int, .int, .int, .int, .int, (.object "jdk/internal/access/JavaLangAccess"), .int]
  resolved := Array.replicate 378 none
  statics := none }

def pool17 : Array CpInfo := pool [(1, u "java/lang/Cloneable"), (0, .class_ 1), (0, u "java/lang/Object"), (0, .class_ 3)] 3

/-- java/lang/Cloneable -/
def k17 : Class := { plain "java/lang/Cloneable" (some 0) with
  accessFlags := 1537
  interfaces := #[]
  cf := some (fileOf pool17 2 #[] #[] 1537 4 #[] #[])
  fields := #[]
  methods := #[]
  instanceTypes := #[]
  staticTypes := #[]
  resolved := Array.replicate 8 none
  statics := none }

/-- the primitive byte -/
def k18 : Class := { plain "byte" none with kind := .primitive 'B', accessFlags := 0x411 }
/-- [B -/
def k19 : Class := { plain "[B" (some 0) with kind := .array 18 .byte, interfaces := #[17, 2], accessFlags := 1041 }

/-- the primitive char -/
def k20 : Class := { plain "char" none with kind := .primitive 'C', accessFlags := 0x411 }
/-- [C -/
def k21 : Class := { plain "[C" (some 0) with kind := .array 20 .char, interfaces := #[17, 2], accessFlags := 1041 }

/-- the primitive int -/
def k22 : Class := { plain "int" none with kind := .primitive 'I', accessFlags := 0x411 }
/-- [I -/
def k23 : Class := { plain "[I" (some 0) with kind := .array 22 .int, interfaces := #[17, 2], accessFlags := 1041 }

def heap : Heap := #[{ cls := 7, slots := #[.long 0, .int 1, .null, .int 0, .null, .int 0, .int 0], vm := .statics 7 },
  { cls := 13, slots := #[.null, .null, .null], vm := .statics 13 }]
def classes : Array Class := #[k0, k1, k2, k3, k4, k5, k6, k7, k8, k9, k10, k11, k12, k13, k14, k15, k16, k17, k18, k19, k20, k21, k22, k23]
def interned : List (Array UInt16 × Addr) := []
def slotsUsed : Nat := 10
def theMethod : MethodId := ⟨1, 1⟩
def args0 : Array Value := #[.long 5, .int 3]
def aboutOver (below : List Frame) : State where
  vm := { classes := classes, interned := interned.toArray }
  heap := heap
  slotsUsed := slotsUsed
  threads := #[{ frames := .invoking theMethod args0 :: below }]
def below0 : List Frame := [.native { method := ⟨0, 0⟩, args := #[] }]
def about1 : State := aboutOver below0
def p0 : Program := .bare "" "" ""
def e0 : Env := launch0.env 0 0 0
theorem w_frames : about1.frames = Frame.invoking theMethod args0 :: below0 := rfl
set_option maxRecDepth 65536 in
theorem w_args : argsFit about1.vm theMethod args0 = true := by decide +kernel
set_option maxRecDepth 65536 in
theorem w_heap : heapFits about1 = true := by decide +kernel
set_option maxRecDepth 65536 in
theorem w_runnable : about1.curStatus? = some .runnable := by decide +kernel
set_option maxRecDepth 65536 in
theorem w_alone : about1.alone = true := by decide +kernel
set_option maxRecDepth 65536 in
theorem w_named : about1.methodNamed? x = some theMethod := by decide +kernel
set_option maxRecDepth 65536 in
theorem w_hears : about1.hears theMethod below0 = true := by decide +kernel
set_option maxRecDepth 65536 in
theorem w_ripe : about1.ripe theMethod args0 below0 = true := by decide +kernel
theorem w_running : about1.status = .running := rfl
set_option maxRecDepth 65536 in
theorem w_room : about1.hasRoom e0.platform room_1 = true :=
  launch0.hasRoom_least _ room_1 (by decide +kernel) (by decide +kernel) (by decide +kernel) (by decide +kernel) (by decide +kernel) (by decide +kernel)
theorem allAtoms_all (ts : List Jvm.Cond) (a : Array Jvm.Value) (st : Jvm.State) : (allAtoms ts).before a st = ts.all (fun c => c.before a st) := by
  induction ts with
  | nil => rfl
  | cons c t ih =>
    show (Jvm.Cond.and c (allAtoms t)).before a st = _
    rw [Jvm.Cond.before_and, ih, List.all_cons]
def words1 : List Jvm.Cond := Jvm.Cond.code x code maxLocals ret :: tables_1
/-- a 'code' word, met by the world's own term for the bytes: nothing is compared byte by byte -/
theorem code_word {y : MethodName} {bytes : ByteArray} {mx : Nat} {rt : Option FieldType} {a : Array Value} {s : State} {m : MethodId} {meth : Method} {c : Code} (h1 : s.methodNamed? y = some m) (h2 : s.vm.method? m = some meth) (h3 : meth.code = some c) (h4 : c.code = bytes)
    (h5 : (c.maxLocals == mx && c.exceptionTable.isEmpty && decide (c.maxStack ≤ mostOperands) && decide (meth.sig.returnType = rt) && !meth.locks && decide (parseMethodDescriptor y.desc = some meth.sig)) = true) : (Jvm.Cond.code y bytes mx rt).before a s = true := by
  simp only [Bool.and_eq_true, beq_iff_eq, Bool.not_eq_true', decide_eq_true_eq] at h5
  obtain ⟨⟨⟨⟨⟨g1, g2⟩, g3⟩, g4⟩, g5⟩, g6⟩ := h5
  simp [Cond.before, Cond.holds, Cond.value, h1, h2, h3, h4, g1, g2, g3, g4, g5, g6]
def isCode : Jvm.Cond → Bool
  | .code _ _ _ _ => true
  | _ => false
theorem all_split {L : List Jvm.Cond} {P : Jvm.Cond → Bool} (h1 : L.all (fun c => isCode c || P c) = true) (h2 : ∀ c ∈ L.filter isCode, P c = true) : L.all P = true := by
  refine List.all_eq_true.mpr fun c hc => ?_
  have h := List.all_eq_true.mp h1 c hc
  rcases Bool.eq_false_or_eq_true (isCode c) with hi | hi
  · exact h2 c (List.mem_filter.mpr ⟨hc, hi⟩)
  · simpa [hi] using h
set_option maxRecDepth 65536 in
theorem w_c0 : (Jvm.Cond.code x code maxLocals ret).before args0 about1 = true := code_word (m := ⟨1, 1⟩) (meth := k1m1) (c := k1c1) (by decide +kernel) rfl rfl rfl (by decide +kernel)
set_option maxRecDepth 65536 in
theorem w_c1 : (Jvm.Cond.code ({ cls := "java/lang/String", name := "<init>", desc := "([C)V" } : Jvm.MethodName) jdk_42_method_3_code (2 : Nat) (Option.none : Option Jvm.ClassFile.FieldType)).before args0 about1 = true := code_word (m := ⟨7, 1⟩) (meth := k7m1) (c := k7c1) (by decide +kernel) rfl rfl rfl (by decide +kernel)
set_option maxRecDepth 65536 in
theorem w_c2 : (Jvm.Cond.code ({ cls := "java/lang/String", name := "<init>", desc := "([CIILjava/lang/Void;)V" } : Jvm.MethodName) jdk_42_method_149_code (6 : Nat) (Option.none : Option Jvm.ClassFile.FieldType)).before args0 about1 = true := code_word (m := ⟨7, 8⟩) (meth := k7m8) (c := k7c8) (by decide +kernel) rfl rfl rfl (by decide +kernel)
set_option maxRecDepth 65536 in
theorem w_c3 : (Jvm.Cond.code ({ cls := "java/lang/Object", name := "<init>", desc := "()V" } : Jvm.MethodName) object_method_1_code (1 : Nat) (Option.none : Option Jvm.ClassFile.FieldType)).before args0 about1 = true := code_word (m := ⟨0, 0⟩) (meth := k0m0) (c := k0c0) (by decide +kernel) rfl rfl rfl (by decide +kernel)
set_option maxRecDepth 65536 in
theorem w_c4 : (Jvm.Cond.code ({ cls := "java/lang/StringUTF16", name := "compress", desc := "([CII)[B" } : Jvm.MethodName) jdk_52_method_16_code (6 : Nat) (Option.some (Jvm.ClassFile.FieldType.array Jvm.ClassFile.FieldType.byte))).before args0 about1 = true := code_word (m := ⟨8, 2⟩) (meth := k8m2) (c := k8c2) (by decide +kernel) rfl rfl rfl (by decide +kernel)
set_option maxRecDepth 65536 in
theorem w_c5 : (Jvm.Cond.code ({ cls := "java/lang/StringUTF16", name := "compress", desc := "([CI[BII)I" } : Jvm.MethodName) jdk_52_method_21_code (7 : Nat) (Option.some Jvm.ClassFile.FieldType.int)).before args0 about1 = true := code_word (m := ⟨8, 3⟩) (meth := k8m3) (c := k8c3) (by decide +kernel) rfl rfl rfl (by decide +kernel)
set_option maxRecDepth 65536 in
theorem w_c6 : (Jvm.Cond.code ({ cls := "java/lang/StringUTF16", name := "coderFromArrayLen", desc := "([BI)B" } : Jvm.MethodName) jdk_52_method_15_code (2 : Nat) (Option.some Jvm.ClassFile.FieldType.byte)).before args0 about1 = true := code_word (m := ⟨8, 1⟩) (meth := k8m1) (c := k8c1) (by decide +kernel) rfl rfl rfl (by decide +kernel)
set_option maxRecDepth 65536 in
theorem w_c7 : (Jvm.Cond.code ({ cls := "com/example/tideline/tideline/model/TableName", name := "parse", desc := "(Ljava/lang/String;)Lcom/example/tideline/tideline/model/TableName;" } : Jvm.MethodName) prog_53_method_2_code (2 : Nat) (Option.some (Jvm.ClassFile.FieldType.object "com/example/tideline/tideline/model/TableName"))).before args0 about1 = true := code_word (m := ⟨10, 1⟩) (meth := k10m1) (c := k10c1) (by decide +kernel) rfl rfl rfl (by decide +kernel)
set_option maxRecDepth 65536 in
theorem w_c8 : (Jvm.Cond.code ({ cls := "java/lang/String", name := "indexOf", desc := "(I)I" } : Jvm.MethodName) jdk_42_method_79_code (2 : Nat) (Option.some Jvm.ClassFile.FieldType.int)).before args0 about1 = true := code_word (m := ⟨7, 4⟩) (meth := k7m4) (c := k7c4) (by decide +kernel) rfl rfl rfl (by decide +kernel)
set_option maxRecDepth 65536 in
theorem w_c9 : (Jvm.Cond.code ({ cls := "java/lang/String", name := "indexOf", desc := "(II)I" } : Jvm.MethodName) jdk_42_method_80_code (3 : Nat) (Option.some Jvm.ClassFile.FieldType.int)).before args0 about1 = true := code_word (m := ⟨7, 5⟩) (meth := k7m5) (c := k7c5) (by decide +kernel) rfl rfl rfl (by decide +kernel)
set_option maxRecDepth 65536 in
theorem w_c10 : (Jvm.Cond.code ({ cls := "java/lang/String", name := "isLatin1", desc := "()Z" } : Jvm.MethodName) jdk_42_method_154_code (1 : Nat) (Option.some Jvm.ClassFile.FieldType.boolean)).before args0 about1 = true := code_word (m := ⟨7, 11⟩) (meth := k7m11) (c := k7c11) (by decide +kernel) rfl rfl rfl (by decide +kernel)
set_option maxRecDepth 65536 in
theorem w_c11 : (Jvm.Cond.code ({ cls := "java/lang/String", name := "length", desc := "()I" } : Jvm.MethodName) jdk_42_method_54_code (1 : Nat) (Option.some Jvm.ClassFile.FieldType.int)).before args0 about1 = true := code_word (m := ⟨7, 2⟩) (meth := k7m2) (c := k7c2) (by decide +kernel) rfl rfl rfl (by decide +kernel)
set_option maxRecDepth 65536 in
theorem w_c12 : (Jvm.Cond.code ({ cls := "java/lang/String", name := "coder", desc := "()B" } : Jvm.MethodName) jdk_42_method_152_code (1 : Nat) (Option.some Jvm.ClassFile.FieldType.byte)).before args0 about1 = true := code_word (m := ⟨7, 10⟩) (meth := k7m10) (c := k7c10) (by decide +kernel) rfl rfl rfl (by decide +kernel)
set_option maxRecDepth 65536 in
theorem w_c13 : (Jvm.Cond.code ({ cls := "java/lang/StringLatin1", name := "indexOf", desc := "([BIII)I" } : Jvm.MethodName) jdk_43_method_22_code (4 : Nat) (Option.some Jvm.ClassFile.FieldType.int)).before args0 about1 = true := code_word (m := ⟨11, 3⟩) (meth := k11m3) (c := k11c3) (by decide +kernel) rfl rfl rfl (by decide +kernel)
set_option maxRecDepth 65536 in
theorem w_c14 : (Jvm.Cond.code ({ cls := "java/lang/StringLatin1", name := "canEncode", desc := "(I)Z" } : Jvm.MethodName) jdk_43_method_4_code (1 : Nat) (Option.some Jvm.ClassFile.FieldType.boolean)).before args0 about1 = true := code_word (m := ⟨11, 2⟩) (meth := k11m2) (c := k11c2) (by decide +kernel) rfl rfl rfl (by decide +kernel)
set_option maxRecDepth 65536 in
theorem w_c15 : (Jvm.Cond.code ({ cls := "java/lang/Math", name := "max", desc := "(II)I" } : Jvm.MethodName) jdk_29_method_65_code (2 : Nat) (Option.some Jvm.ClassFile.FieldType.int)).before args0 about1 = true := code_word (m := ⟨12, 1⟩) (meth := k12m1) (c := k12c1) (by decide +kernel) rfl rfl rfl (by decide +kernel)
set_option maxRecDepth 65536 in
theorem w_c16 : (Jvm.Cond.code ({ cls := "java/lang/Math", name := "min", desc := "(II)I" } : Jvm.MethodName) jdk_29_method_69_code (2 : Nat) (Option.some Jvm.ClassFile.FieldType.int)).before args0 about1 = true := code_word (m := ⟨12, 2⟩) (meth := k12m2) (c := k12c2) (by decide +kernel) rfl rfl rfl (by decide +kernel)
set_option maxRecDepth 65536 in
theorem w_c17 : (Jvm.Cond.code ({ cls := "java/lang/StringLatin1", name := "indexOfChar", desc := "([BIII)I" } : Jvm.MethodName) jdk_43_method_23_code (6 : Nat) (Option.some Jvm.ClassFile.FieldType.int)).before args0 about1 = true := code_word (m := ⟨11, 4⟩) (meth := k11m4) (c := k11c4) (by decide +kernel) rfl rfl rfl (by decide +kernel)
set_option maxRecDepth 65536 in
theorem w_c18 : (Jvm.Cond.code ({ cls := "java/lang/String", name := "substring", desc := "(II)Ljava/lang/String;" } : Jvm.MethodName) jdk_42_method_92_code (5 : Nat) (Option.some (Jvm.ClassFile.FieldType.object "java/lang/String"))).before args0 about1 = true := code_word (m := ⟨7, 7⟩) (meth := k7m7) (c := k7c7) (by decide +kernel) rfl rfl rfl (by decide +kernel)
set_option maxRecDepth 65536 in
theorem w_c19 : (Jvm.Cond.code ({ cls := "java/lang/String", name := "checkBoundsBeginEnd", desc := "(III)V" } : Jvm.MethodName) jdk_42_method_158_code (3 : Nat) (Option.none : Option Jvm.ClassFile.FieldType)).before args0 about1 = true := code_word (m := ⟨7, 13⟩) (meth := k7m13) (c := k7c13) (by decide +kernel) rfl rfl rfl (by decide +kernel)
set_option maxRecDepth 65536 in
theorem w_c20 : (Jvm.Cond.code ({ cls := "jdk/internal/util/Preconditions", name := "checkFromToIndex", desc := "(IIILjava/util/function/BiFunction;)I" } : Jvm.MethodName) jdk_41_method_12_code (4 : Nat) (Option.some Jvm.ClassFile.FieldType.int)).before args0 about1 = true := code_word (m := ⟨13, 2⟩) (meth := k13m2) (c := k13c2) (by decide +kernel) rfl rfl rfl (by decide +kernel)
set_option maxRecDepth 65536 in
theorem w_c21 : (Jvm.Cond.code ({ cls := "java/lang/StringLatin1", name := "newString", desc := "([BII)Ljava/lang/String;" } : Jvm.MethodName) jdk_43_method_47_code (3 : Nat) (Option.some (Jvm.ClassFile.FieldType.object "java/lang/String"))).before args0 about1 = true := code_word (m := ⟨11, 5⟩) (meth := k11m5) (c := k11c5) (by decide +kernel) rfl rfl rfl (by decide +kernel)
set_option maxRecDepth 65536 in
theorem w_c22 : (Jvm.Cond.code ({ cls := "java/util/Arrays", name := "copyOfRange", desc := "([BII)[B" } : Jvm.MethodName) jdk_65_method_132_code (3 : Nat) (Option.some (Jvm.ClassFile.FieldType.array Jvm.ClassFile.FieldType.byte))).before args0 about1 = true := code_word (m := ⟨14, 2⟩) (meth := k14m2) (c := k14c2) (by decide +kernel) rfl rfl rfl (by decide +kernel)
set_option maxRecDepth 65536 in
theorem w_c23 : (Jvm.Cond.code ({ cls := "java/util/Arrays", name := "copyOfRangeByte", desc := "([BII)[B" } : Jvm.MethodName) jdk_65_method_133_code (5 : Nat) (Option.some (Jvm.ClassFile.FieldType.array Jvm.ClassFile.FieldType.byte))).before args0 about1 = true := code_word (m := ⟨14, 3⟩) (meth := k14m3) (c := k14c3) (by decide +kernel) rfl rfl rfl (by decide +kernel)
set_option maxRecDepth 65536 in
theorem w_c24 : (Jvm.Cond.code ({ cls := "java/util/Arrays", name := "checkLength", desc := "(II)V" } : Jvm.MethodName) jdk_65_method_131_code (2 : Nat) (Option.none : Option Jvm.ClassFile.FieldType)).before args0 about1 = true := code_word (m := ⟨14, 1⟩) (meth := k14m1) (c := k14c1) (by decide +kernel) rfl rfl rfl (by decide +kernel)
set_option maxRecDepth 65536 in
theorem w_c25 : (Jvm.Cond.code ({ cls := "java/lang/String", name := "<init>", desc := "([BB)V" } : Jvm.MethodName) jdk_42_method_151_code (3 : Nat) (Option.none : Option Jvm.ClassFile.FieldType)).before args0 about1 = true := code_word (m := ⟨7, 9⟩) (meth := k7m9) (c := k7c9) (by decide +kernel) rfl rfl rfl (by decide +kernel)
set_option maxRecDepth 65536 in
theorem w_c26 : (Jvm.Cond.code ({ cls := "java/lang/String", name := "substring", desc := "(I)Ljava/lang/String;" } : Jvm.MethodName) jdk_42_method_91_code (2 : Nat) (Option.some (Jvm.ClassFile.FieldType.object "java/lang/String"))).before args0 about1 = true := code_word (m := ⟨7, 6⟩) (meth := k7m6) (c := k7c6) (by decide +kernel) rfl rfl rfl (by decide +kernel)
set_option maxRecDepth 65536 in
theorem w_c27 : (Jvm.Cond.code ({ cls := "com/example/tideline/tideline/model/TableName", name := "<init>", desc := "(Ljava/lang/String;Ljava/lang/String;)V" } : Jvm.MethodName) prog_53_method_1_code (3 : Nat) (Option.none : Option Jvm.ClassFile.FieldType)).before args0 about1 = true := code_word (m := ⟨10, 0⟩) (meth := k10m0) (c := k10c0) (by decide +kernel) rfl rfl rfl (by decide +kernel)
set_option maxRecDepth 65536 in
theorem w_c28 : (Jvm.Cond.code ({ cls := "java/lang/Record", name := "<init>", desc := "()V" } : Jvm.MethodName) jdk_30_method_1_code (1 : Nat) (Option.none : Option Jvm.ClassFile.FieldType)).before args0 about1 = true := code_word (m := ⟨9, 0⟩) (meth := k9m0) (c := k9c0) (by decide +kernel) rfl rfl rfl (by decide +kernel)
set_option maxRecDepth 65536 in
theorem w_c29 : (Jvm.Cond.code ({ cls := "com/example/tideline/tideline/model/TableName", name := "schema", desc := "()Ljava/lang/String;" } : Jvm.MethodName) prog_53_method_6_code (1 : Nat) (Option.some (Jvm.ClassFile.FieldType.object "java/lang/String"))).before args0 about1 = true := code_word (m := ⟨10, 2⟩) (meth := k10m2) (c := k10c2) (by decide +kernel) rfl rfl rfl (by decide +kernel)
set_option maxRecDepth 65536 in
theorem w_c30 : (Jvm.Cond.code ({ cls := "com/example/tideline/tideline/model/TableName", name := "table", desc := "()Ljava/lang/String;" } : Jvm.MethodName) prog_53_method_7_code (1 : Nat) (Option.some (Jvm.ClassFile.FieldType.object "java/lang/String"))).before args0 about1 = true := code_word (m := ⟨10, 3⟩) (meth := k10m3) (c := k10c3) (by decide +kernel) rfl rfl rfl (by decide +kernel)
set_option maxRecDepth 65536 in
theorem w_c31 : (Jvm.Cond.code ({ cls := "com/example/tideline/tideline/model/TableNameParsePinLaw", name := "at", desc := "(Ljava/lang/String;II[CI)Z" } : Jvm.MethodName) method_3_code (5 : Nat) (Option.some Jvm.ClassFile.FieldType.boolean)).before args0 about1 = true := code_word (m := ⟨1, 2⟩) (meth := k1m2) (c := k1c2) (by decide +kernel) rfl rfl rfl (by decide +kernel)
set_option maxRecDepth 65536 in
theorem w_c32 : (Jvm.Cond.code ({ cls := "java/lang/String", name := "charAt", desc := "(I)C" } : Jvm.MethodName) jdk_42_method_56_code (2 : Nat) (Option.some Jvm.ClassFile.FieldType.char)).before args0 about1 = true := code_word (m := ⟨7, 3⟩) (meth := k7m3) (c := k7c3) (by decide +kernel) rfl rfl rfl (by decide +kernel)
set_option maxRecDepth 65536 in
theorem w_c33 : (Jvm.Cond.code ({ cls := "java/lang/StringLatin1", name := "charAt", desc := "([BI)C" } : Jvm.MethodName) jdk_43_method_2_code (2 : Nat) (Option.some Jvm.ClassFile.FieldType.char)).before args0 about1 = true := code_word (m := ⟨11, 1⟩) (meth := k11m1) (c := k11c1) (by decide +kernel) rfl rfl rfl (by decide +kernel)
set_option maxRecDepth 65536 in
theorem w_c34 : (Jvm.Cond.code ({ cls := "java/lang/String", name := "checkIndex", desc := "(II)V" } : Jvm.MethodName) jdk_42_method_155_code (2 : Nat) (Option.none : Option Jvm.ClassFile.FieldType)).before args0 about1 = true := code_word (m := ⟨7, 12⟩) (meth := k7m12) (c := k7c12) (by decide +kernel) rfl rfl rfl (by decide +kernel)
set_option maxRecDepth 65536 in
theorem w_c35 : (Jvm.Cond.code ({ cls := "jdk/internal/util/Preconditions", name := "checkIndex", desc := "(IILjava/util/function/BiFunction;)I" } : Jvm.MethodName) jdk_41_method_11_code (3 : Nat) (Option.some Jvm.ClassFile.FieldType.int)).before args0 about1 = true := code_word (m := ⟨13, 1⟩) (meth := k13m1) (c := k13c1) (by decide +kernel) rfl rfl rfl (by decide +kernel)
def codes1 : List Jvm.Cond := [Jvm.Cond.code x code maxLocals ret, Jvm.Cond.code ({ cls := "java/lang/String", name := "<init>", desc := "([C)V" } : Jvm.MethodName) jdk_42_method_3_code (2 : Nat) (Option.none : Option Jvm.ClassFile.FieldType), Jvm.Cond.code ({ cls := "java/lang/String", name := "<init>", desc := "([CIILjava/lang/Void;)V" } : Jvm.MethodName) jdk_42_method_149_code (6 : Nat) (Option.none : Option Jvm.ClassFile.FieldType), Jvm.Cond.code ({ cls := "java/lang/Object", name := "<init>", desc := "()V" } : Jvm.MethodName) object_method_1_code (1 : Nat) (Option.none : Option Jvm.ClassFile.FieldType), Jvm.Cond.code ({ cls := "java/lang/StringUTF16", name := "compress", desc := "([CII)[B" } : Jvm.MethodName) jdk_52_method_16_code (6 : Nat) (Option.some (Jvm.ClassFile.FieldType.array Jvm.ClassFile.FieldType.byte)), Jvm.Cond.code ({ cls := "java/lang/StringUTF16", name := "compress", desc := "([CI[BII)I" } : Jvm.MethodName) jdk_52_method_21_code (7 : Nat) (Option.some Jvm.ClassFile.FieldType.int), Jvm.Cond.code ({ cls := "java/lang/StringUTF16", name := "coderFromArrayLen", desc := "([BI)B" } : Jvm.MethodName) jdk_52_method_15_code (2 : Nat) (Option.some Jvm.ClassFile.FieldType.byte), Jvm.Cond.code ({ cls := "com/example/tideline/tideline/model/TableName", name := "parse", desc := "(Ljava/lang/String;)Lcom/example/tideline/tideline/model/TableName;" } : Jvm.MethodName) prog_53_method_2_code (2 : Nat) (Option.some (Jvm.ClassFile.FieldType.object "com/example/tideline/tideline/model/TableName")), Jvm.Cond.code ({ cls := "java/lang/String", name := "indexOf", desc := "(I)I" } : Jvm.MethodName) jdk_42_method_79_code (2 : Nat) (Option.some Jvm.ClassFile.FieldType.int), Jvm.Cond.code ({ cls := "java/lang/String", name := "indexOf", desc := "(II)I" } : Jvm.MethodName) jdk_42_method_80_code (3 : Nat) (Option.some Jvm.ClassFile.FieldType.int), Jvm.Cond.code ({ cls := "java/lang/String", name := "isLatin1", desc := "()Z" } : Jvm.MethodName) jdk_42_method_154_code (1 : Nat) (Option.some Jvm.ClassFile.FieldType.boolean), Jvm.Cond.code ({ cls := "java/lang/String", name := "length", desc := "()I" } : Jvm.MethodName) jdk_42_method_54_code (1 : Nat) (Option.some Jvm.ClassFile.FieldType.int), Jvm.Cond.code ({ cls := "java/lang/String", name := "coder", desc := "()B" } : Jvm.MethodName) jdk_42_method_152_code (1 : Nat) (Option.some Jvm.ClassFile.FieldType.byte), Jvm.Cond.code ({ cls := "java/lang/StringLatin1", name := "indexOf", desc := "([BIII)I" } : Jvm.MethodName) jdk_43_method_22_code (4 : Nat) (Option.some Jvm.ClassFile.FieldType.int), Jvm.Cond.code ({ cls := "java/lang/StringLatin1", name := "canEncode", desc := "(I)Z" } : Jvm.MethodName) jdk_43_method_4_code (1 : Nat) (Option.some Jvm.ClassFile.FieldType.boolean), Jvm.Cond.code ({ cls := "java/lang/Math", name := "max", desc := "(II)I" } : Jvm.MethodName) jdk_29_method_65_code (2 : Nat) (Option.some Jvm.ClassFile.FieldType.int), Jvm.Cond.code ({ cls := "java/lang/Math", name := "min", desc := "(II)I" } : Jvm.MethodName) jdk_29_method_69_code (2 : Nat) (Option.some Jvm.ClassFile.FieldType.int), Jvm.Cond.code ({ cls := "java/lang/StringLatin1", name := "indexOfChar", desc := "([BIII)I" } : Jvm.MethodName) jdk_43_method_23_code (6 : Nat) (Option.some Jvm.ClassFile.FieldType.int), Jvm.Cond.code ({ cls := "java/lang/String", name := "substring", desc := "(II)Ljava/lang/String;" } : Jvm.MethodName) jdk_42_method_92_code (5 : Nat) (Option.some (Jvm.ClassFile.FieldType.object "java/lang/String")), Jvm.Cond.code ({ cls := "java/lang/String", name := "checkBoundsBeginEnd", desc := "(III)V" } : Jvm.MethodName) jdk_42_method_158_code (3 : Nat) (Option.none : Option Jvm.ClassFile.FieldType), Jvm.Cond.code ({ cls := "jdk/internal/util/Preconditions", name := "checkFromToIndex", desc := "(IIILjava/util/function/BiFunction;)I" } : Jvm.MethodName) jdk_41_method_12_code (4 : Nat) (Option.some Jvm.ClassFile.FieldType.int), Jvm.Cond.code ({ cls := "java/lang/StringLatin1", name := "newString", desc := "([BII)Ljava/lang/String;" } : Jvm.MethodName) jdk_43_method_47_code (3 : Nat) (Option.some (Jvm.ClassFile.FieldType.object "java/lang/String")), Jvm.Cond.code ({ cls := "java/util/Arrays", name := "copyOfRange", desc := "([BII)[B" } : Jvm.MethodName) jdk_65_method_132_code (3 : Nat) (Option.some (Jvm.ClassFile.FieldType.array Jvm.ClassFile.FieldType.byte)), Jvm.Cond.code ({ cls := "java/util/Arrays", name := "copyOfRangeByte", desc := "([BII)[B" } : Jvm.MethodName) jdk_65_method_133_code (5 : Nat) (Option.some (Jvm.ClassFile.FieldType.array Jvm.ClassFile.FieldType.byte)), Jvm.Cond.code ({ cls := "java/util/Arrays", name := "checkLength", desc := "(II)V" } : Jvm.MethodName) jdk_65_method_131_code (2 : Nat) (Option.none : Option Jvm.ClassFile.FieldType), Jvm.Cond.code ({ cls := "java/lang/String", name := "<init>", desc := "([BB)V" } : Jvm.MethodName) jdk_42_method_151_code (3 : Nat) (Option.none : Option Jvm.ClassFile.FieldType), Jvm.Cond.code ({ cls := "java/lang/String", name := "substring", desc := "(I)Ljava/lang/String;" } : Jvm.MethodName) jdk_42_method_91_code (2 : Nat) (Option.some (Jvm.ClassFile.FieldType.object "java/lang/String")), Jvm.Cond.code ({ cls := "com/example/tideline/tideline/model/TableName", name := "<init>", desc := "(Ljava/lang/String;Ljava/lang/String;)V" } : Jvm.MethodName) prog_53_method_1_code (3 : Nat) (Option.none : Option Jvm.ClassFile.FieldType), Jvm.Cond.code ({ cls := "java/lang/Record", name := "<init>", desc := "()V" } : Jvm.MethodName) jdk_30_method_1_code (1 : Nat) (Option.none : Option Jvm.ClassFile.FieldType), Jvm.Cond.code ({ cls := "com/example/tideline/tideline/model/TableName", name := "schema", desc := "()Ljava/lang/String;" } : Jvm.MethodName) prog_53_method_6_code (1 : Nat) (Option.some (Jvm.ClassFile.FieldType.object "java/lang/String")), Jvm.Cond.code ({ cls := "com/example/tideline/tideline/model/TableName", name := "table", desc := "()Ljava/lang/String;" } : Jvm.MethodName) prog_53_method_7_code (1 : Nat) (Option.some (Jvm.ClassFile.FieldType.object "java/lang/String")), Jvm.Cond.code ({ cls := "com/example/tideline/tideline/model/TableNameParsePinLaw", name := "at", desc := "(Ljava/lang/String;II[CI)Z" } : Jvm.MethodName) method_3_code (5 : Nat) (Option.some Jvm.ClassFile.FieldType.boolean), Jvm.Cond.code ({ cls := "java/lang/String", name := "charAt", desc := "(I)C" } : Jvm.MethodName) jdk_42_method_56_code (2 : Nat) (Option.some Jvm.ClassFile.FieldType.char), Jvm.Cond.code ({ cls := "java/lang/StringLatin1", name := "charAt", desc := "([BI)C" } : Jvm.MethodName) jdk_43_method_2_code (2 : Nat) (Option.some Jvm.ClassFile.FieldType.char), Jvm.Cond.code ({ cls := "java/lang/String", name := "checkIndex", desc := "(II)V" } : Jvm.MethodName) jdk_42_method_155_code (2 : Nat) (Option.none : Option Jvm.ClassFile.FieldType), Jvm.Cond.code ({ cls := "jdk/internal/util/Preconditions", name := "checkIndex", desc := "(IILjava/util/function/BiFunction;)I" } : Jvm.MethodName) jdk_41_method_11_code (3 : Nat) (Option.some Jvm.ClassFile.FieldType.int)]
set_option maxRecDepth 65536 in
theorem codes_eq : words1.filter isCode = codes1 := rfl
theorem w_codes : ∀ c ∈ words1.filter isCode, c.before args0 about1 = true := by
  rw [codes_eq]
  intro c hc
  simp only [codes1, List.mem_cons, List.not_mem_nil, or_false] at hc
  rcases hc with rfl | rfl | rfl | rfl | rfl | rfl | rfl | rfl | rfl | rfl | rfl | rfl | rfl | rfl | rfl | rfl | rfl | rfl | rfl | rfl | rfl | rfl | rfl | rfl | rfl | rfl | rfl | rfl | rfl | rfl | rfl | rfl | rfl | rfl | rfl | rfl
  · exact w_c0
  · exact w_c1
  · exact w_c2
  · exact w_c3
  · exact w_c4
  · exact w_c5
  · exact w_c6
  · exact w_c7
  · exact w_c8
  · exact w_c9
  · exact w_c10
  · exact w_c11
  · exact w_c12
  · exact w_c13
  · exact w_c14
  · exact w_c15
  · exact w_c16
  · exact w_c17
  · exact w_c18
  · exact w_c19
  · exact w_c20
  · exact w_c21
  · exact w_c22
  · exact w_c23
  · exact w_c24
  · exact w_c25
  · exact w_c26
  · exact w_c27
  · exact w_c28
  · exact w_c29
  · exact w_c30
  · exact w_c31
  · exact w_c32
  · exact w_c33
  · exact w_c34
  · exact w_c35
set_option maxRecDepth 65536 in
theorem w_t1 : (words1.take 24).all (fun c => isCode c || c.before args0 about1) = true := by decide +kernel
set_option maxRecDepth 65536 in
theorem w_t2 : ((words1.drop 24).take 24).all (fun c => isCode c || c.before args0 about1) = true := by decide +kernel
set_option maxRecDepth 65536 in
theorem w_t3 : (((words1.drop 24).drop 24).take 24).all (fun c => isCode c || c.before args0 about1) = true := by decide +kernel
set_option maxRecDepth 65536 in
theorem w_t4 : ((((words1.drop 24).drop 24).drop 24).take 24).all (fun c => isCode c || c.before args0 about1) = true := by decide +kernel
set_option maxRecDepth 65536 in
theorem w_t5 : (((((words1.drop 24).drop 24).drop 24).drop 24).take 24).all (fun c => isCode c || c.before args0 about1) = true := by decide +kernel
set_option maxRecDepth 65536 in
theorem w_t6 : ((((((words1.drop 24).drop 24).drop 24).drop 24).drop 24).take 24).all (fun c => isCode c || c.before args0 about1) = true := by decide +kernel
set_option maxRecDepth 65536 in
theorem w_t7 : ((((((words1.drop 24).drop 24).drop 24).drop 24).drop 24).drop 24).all (fun c => isCode c || c.before args0 about1) = true := by decide +kernel
theorem w_tables : (allAtoms (Jvm.Cond.code x code maxLocals ret :: tables_1)).before args0 about1 = true := by
  rw [allAtoms_all]
  show words1.all (fun c => c.before args0 about1) = true
  refine all_split ?_ w_codes
  rw [← List.take_append_drop 24 words1, List.all_append, w_t1, ← List.take_append_drop 24 (words1.drop 24), List.all_append, w_t2, ← List.take_append_drop 24 ((words1.drop 24).drop 24), List.all_append, w_t3, ← List.take_append_drop 24 (((words1.drop 24).drop 24).drop 24), List.all_append, w_t4, ← List.take_append_drop 24 ((((words1.drop 24).drop 24).drop 24).drop 24), List.all_append, w_t5, ← List.take_append_drop 24 (((((words1.drop 24).drop 24).drop 24).drop 24).drop 24), List.all_append, w_t6, w_t7]
  rfl
set_option maxRecDepth 65536 in
theorem w_rest : rest_1_c.before args0 about1 = true := by decide +kernel
set_option maxRecDepth 65536 in
theorem w_case : (Jvm.Cond.and given_1 narrow_1).before args0 about1 = true := by decide +kernel
theorem w_applies : (headSpec (Jvm.Cond.code x code maxLocals ret :: tables_1) room_1).applies x e0.platform about1 = true :=
  (Spec.applies_iff w_frames).mpr ⟨w_running, w_runnable, w_alone, w_named, w_hears, w_ripe, w_room, w_tables⟩
theorem atStart : AtStart classFile x code maxLocals ret World_1 tables_1 room_1 Calls_1 rest_1 Pre_1 launch0 p0 e0 about1 theMethod args0 below0 :=
  ⟨lists_1, trivial, launch0.admits_env _ _ _, launch0.least_env, fairChoices_fair.cas, fairChoices_fair.clock, w_frames, w_args, w_heap, w_applies, trivial, w_rest, w_case⟩
end start1
theorem witness_1 : WitnessClaimed_1 := ⟨start1.p0, start1.e0, start1.about1, start1.theMethod, start1.args0, start1.below0, start1.atStart⟩
end Jvm.Pilot.@@N@@
