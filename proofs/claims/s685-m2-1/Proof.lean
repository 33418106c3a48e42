import JvmDerived
import JvmDerived.Pilot.@@N@@Statement
import JvmDerived.Pilot.@@N@@Code
set_option linter.unusedVariables false
set_option linter.unusedSimpArgs false
namespace Jvm.RoadKit
open Sem ClassFile Op Lib Jvm.Stand Jvm.Free Jvm.LawKit
section New
variable {p : Program} {l : Launch} {e : Env} {R : Room} {s : State} {m : MethodId} {args : Array Value} {below : List Frame} {meth : Method} {c : Code} {T : State} {locs : List Loc} {cells slots : Nat}
theorem retI (X : Stand p l e R s m args below meth c T locs cells slots) (hx : p.tables.exec = Jvm.exec) {pc : Nat} {Ls : Array Slot} {z : Int32} {rest : List Value} (hret : meth.sig.returnType = some .int) (hd : decode c.code pc = .ok (.ireturn, 1)) {fs : List Frame}
    (hl : ∀ (f : JFrame) (acts : List Action), f.method = m → f.locked = none → f.entered = [] → (doReturn e (T.setTop f) acts (some (.int z))).1 = T.setFrames fs) : Steps p.tables e below (T.setTop (mkF m pc Ls (.int z :: rest))) (T.setFrames fs) := by
  have hm' : T.vm.method? m = some meth := X.method'
  have hn : narrow .int (.int z) = .int z := rfl
  show Steps p.tables e below (T.setTop { method := m, pc := pc, locals := Ls, stack := _ :: rest, locked := none }) _
  jvm_step X.here [X.here.top, hx, hd, hm', hret, hn]
  first | (intro acts; rw [hl _ acts rfl rfl rfl]) | rw [hl _ _ rfl rfl rfl]
  exact Steps.refl _
end New
section ColdI
variable {p : Program} {l : Launch} {e : Env} {R : Room} {s : State} {args : Array Value} {below : List Frame} {Z : State} {a0 : Array Value} {h : Heap}
theorem own_backSI {y : MethodName} {bytes : ByteArray} {maxL : Nat} {ret : Option FieldType} {rm : Room} {len W : Nat} {as' : Array Value} {Q : Option Value → Heap → List Loc → Prop}
    (hM : MetFree l y (head1 [Cond.code y bytes maxL ret] rm) (fun a U => a = as' ∧ Z.Warmed39 U.vm ∧ U.heap = h ∧ U.vm.interned = Z.vm.interned) (fun _ _ _ _ _ => True) (fun _ U o U' => ∃ v L, o = .returned v ∧ Q v U'.heap L ∧ ReturnedEndW U o U' L rm.cells rm.slots))
    (hZ : Z.Warmed39 s.vm) (hI : s.vm.interned = Z.vm.interned) (wc : (Cond.code y bytes maxL ret).before a0 Z = true) (wz : (Cond.initialized y.cls).before a0 Z = true) (hf : rm.frames + 1 ≤ R.frames) (hl : W + (maxL + 11) + rm.locals ≤ R.locals) :
    BackS l R p e below s args y len W (fun A a => a = as' ∧ A.U.heap = h ∧ A.cells + rm.cells ≤ R.cells ∧ A.slots + rm.slots ≤ R.slots)
      (fun A _ v B => ∃ L, Q v B.U.heap L ∧ B.locs = A.locs ++ L ∧ B.cells = A.cells + rm.cells ∧ B.slots = A.slots + rm.slots) := by
  refine BackS.of_freeW (bytes := bytes) (maxL := maxL) (ret := ret) (E := fun _ _ o t L k n => (k = rm.cells ∧ n = rm.slots) ∧ ∃ v, o = .returned v ∧ Q v t.heap L) hM hf hl ?_ ?_ ?_ ?_ ?_
  · intro m meth c A a Y hp
    have hU : Z.Warmed39 A.U.vm := wtrans hZ Y.warmed
    refine ⟨?_, mv hU wc, mv hU wz, hp.2.2.1, hp.2.2.2⟩
    show (Cond.and _ .tt).before a A.U = true
    rw [Cond.before_and, mv hU wc]; rfl
  · intro m meth c A a g mk Y hp
    exact ⟨hp.1, wtrans hZ Y.warmed, hp.2.1, Y.warmed.interned_eq.trans hI⟩
  · intro m meth c A a g mk Y hp; trivial
  · intro a first o t hq
    obtain ⟨v, L, h1, h2, h3⟩ := hq
    exact ⟨L, _, _, h3, ⟨rfl, rfl⟩, v, h1, h2⟩
  · intro m meth c A a g mk v t L k n Y hp _ _ hE
    obtain ⟨⟨e1, e2⟩, v', e3, e4⟩ := hE
    cases e3; subst e1 e2
    exact ⟨L, e4, rfl, rfl, rfl⟩
end ColdI
end Jvm.RoadKit
namespace Jvm.Pilot.@@N@@
open Jvm Jvm.ClassFile Sem Op Lib Jvm.Free Jvm.Stand Jvm.LawKit Jvm.RoadKit Bundle Jvm.Pilot.@@N@@.Jvm.D
set_option maxRecDepth 65536
set_option maxHeartbeats 40000000
abbrev vi (z : Int32) : Slot := .val (.int z)
abbrev vr (a : Addr) : Slot := .val (.ref a)
abbrev SG (p : Program) (e : Env) (below : List Frame) (g t : State) : Prop := Steps p.tables e below g t
abbrev Sp (p : Program) (e : Env) (below : List Frame) (m : MethodId) (T : State) (pc : Nat) (L : Array Slot) (S : List Value) (t : State) : Prop := Steps p.tables e below (T.setTop (mkF m pc L S)) t
theorem own_shr0 (z : Int32) : z >>> ((0 : Int32) &&& 31) = z := by
  apply Int32.toInt_inj.mp
  rw [c_ishr z 0 0 (by decide)]; omega
def own_lat (b : Int32) : Int32 := nar .char ((b &&& (255 : Int32)).toUInt32.toUInt16.toUInt32.toInt32)
theorem own_rt (c : Int32) (h : 0 ≤ c.toInt ∧ c.toInt ≤ 255) : own_lat (nar .byte (c.toInt8.toInt32)) = c := by
  apply Int32.toInt_inj.mp
  have h1 := c_i2b c
  have h2 := c_i2b (c.toInt8.toInt32)
  have h3 := c_mask (c.toInt8.toInt32.toInt8.toInt32) 255 8 (by decide) (by decide)
  have h4 := c_i2c (c.toInt8.toInt32.toInt8.toInt32 &&& 255)
  have h5 := c_i2c ((c.toInt8.toInt32.toInt8.toInt32 &&& 255).toUInt32.toUInt16.toUInt32.toInt32)
  show ((c.toInt8.toInt32.toInt8.toInt32 &&& 255).toUInt32.toUInt16.toUInt32.toInt32).toUInt32.toUInt16.toUInt32.toInt32.toInt = c.toInt
  omega
theorem own_eqi {a : Term} {k : Int32} {args : Array Value} {first s : State} {o : Option Outcome} {idx : List Nat} (h : (Jvm.Cond.eq a (.int k)).value args first o s idx = some true) : a.eval args first o idx s = some (.int k) := by
  obtain ⟨x, y, hx, hy, -, kin⟩ := cmp_v (Or.inl h)
  have e : y = .int k := Option.some.inj (hy.symm.trans (Term.int_eval k))
  subst e
  obtain ⟨z, rfl⟩ := kin
  have := gotT (Cond.eq_ints hx hy) h
  rw [hx, this]
theorem own_strw {Z : State} {a0 : Array Value} (hw : ∀ d ∈ tables_1, d.before a0 Z = true) : ∀ a ∈ Bundle.stringAtoms, a.before a0 Z = true := by
  intro a ha
  simp only [Bundle.stringAtoms, Bundle.sN, List.mem_cons, List.not_mem_nil, or_false] at ha
  rcases ha with rfl | rfl | rfl | rfl | rfl | rfl | rfl
  · exact (hw _ (List.mem_of_getElem? (i := 9) rfl))
  · exact (hw _ (List.mem_of_getElem? (i := 8) rfl))
  · exact (hw _ (List.mem_of_getElem? (i := 22) rfl))
  · exact (hw _ (List.mem_of_getElem? (i := 23) rfl))
  · exact (hw _ (List.mem_of_getElem? (i := 24) rfl))
  · exact (hw _ (List.mem_of_getElem? (i := 25) rfl))
  · exact (hw _ (List.mem_of_getElem? (i := 26) rfl))
theorem own_nf {s : State} {args : Array Value} {C : String} {y y' : MethodName} (hsel : (Cond.selects C y' y').before args s = true) (hc : y.cls = y'.cls) : NotFace s y := fun r0 h0 => by
  obtain ⟨c2, r2, m2, q1, q2, q3, q4, kP, hkP, hkPi⟩ := Cond.selects_spec hsel
  have e1 := findClass_of_methodNamed h0
  have e2 := findClass_of_methodNamed q3
  rw [hc] at e1
  have e3 := Option.some.inj (e1.symm.trans e2)
  exact ⟨kP, by rw [e3]; exact hkP, hkPi⟩
theorem own_selpriv {s : State} {args : Array Value} {C : String} {y y' : MethodName} (hy : y.cls ≠ "java/lang/invoke/MethodHandle" ∧ y.cls ≠ "java/lang/invoke/VarHandle") (hsel : (Cond.selects C y' y').before args s = true) (hpriv : (Cond.privateMethod y).before args s = true) (hinst : (Cond.instanceMethod y).before args s = true) (hc : y.cls = y'.cls) :
    (Cond.selects y.cls y y).before args s = true := by
  obtain ⟨mk, methM, hnamed, hmethM, -, -⟩ := Cond.instanceMethod_spec hinst
  obtain ⟨k, hk, hni⟩ := own_nf hsel hc mk hnamed
  have hf := findClass_of_methodNamed hnamed
  have hfound : s.methodFound? y.cls y.name y.desc = some mk := State.methodFound?_of_named hnamed hy
  have hs : selectMethod {} s.vm mk.cls mk = .method mk := selectMethod_private hmethM (Cond.privateMethod_at hpriv mk methM hnamed hmethM)
  simp only [Cond.before, Cond.holds, Cond.value, hf, hfound, hnamed, hs, hk]
  simp; exact hni
theorem own_ncb {c : Int32} (h : 0 ≤ c.toInt ∧ c.toInt ≤ 255) : 0 ≤ (nar .char c).toInt ∧ (nar .char c).toInt ≤ 255 := by
  have h1 := c_i2c c
  show 0 ≤ c.toUInt32.toUInt16.toUInt32.toInt32.toInt ∧ c.toUInt32.toUInt16.toUInt32.toInt32.toInt ≤ 255
  omega
theorem own_nce {c : Int32} (h : 0 ≤ c.toInt ∧ c.toInt ≤ 255) : nar .char c = c := by
  apply Int32.toInt_inj.mp
  have h1 := c_i2c c
  show c.toUInt32.toUInt16.toUInt32.toInt32.toInt = c.toInt
  omega
theorem own_at {c : Int32} (h : 0 ≤ c.toInt ∧ c.toInt ≤ 255) : own_lat (nar .byte ((nar .char c).toInt8.toInt32)) = c := (own_rt _ (own_ncb h)).trans (own_nce h)
abbrev own_b (c : Int32) : Int32 := nar .byte ((nar .char c).toInt8.toInt32)
theorem own_chA (x : Int32) : 0 ≤ (nar .char ((48 + (((x.toUInt32 >>> ((1 : Int32) &&& 31).toUInt32).toInt32) % 10)).toUInt32.toUInt16.toUInt32.toInt32)).toInt ∧ (nar .char ((48 + (((x.toUInt32 >>> ((1 : Int32) &&& 31).toUInt32).toInt32) % 10)).toUInt32.toUInt16.toUInt32.toInt32)).toInt ≤ 255 := by
  have h0 := c_iushr x 1 1 (by decide) (by decide)
  have r0 := rng32 x
  generalize ((x.toUInt32 >>> ((1 : Int32) &&& 31).toUInt32).toInt32) = y at *
  have h1 := (c_irem y 10 10 rfl).1 (by omega)
  have h2 := c_iadd 48 (y % 10)
  have h3 := rng32 (48 + (y % 10))
  rw [show (48 : Int32).toInt = 48 from by decide] at h2
  generalize (48 + (y % 10)) = z at *
  have h4 := c_i2c z
  have h5 := c_i2c (z.toUInt32.toUInt16.toUInt32.toInt32)
  show 0 ≤ (z.toUInt32.toUInt16.toUInt32.toInt32).toUInt32.toUInt16.toUInt32.toInt32.toInt ∧ (z.toUInt32.toUInt16.toUInt32.toInt32).toUInt32.toUInt16.toUInt32.toInt32.toInt ≤ 255
  omega
theorem own_chB (y : Int32) : 0 ≤ (nar .char ((y &&& 255).toUInt32.toUInt16.toUInt32.toInt32)).toInt ∧ (nar .char ((y &&& 255).toUInt32.toUInt16.toUInt32.toInt32)).toInt ≤ 255 := by
  have h0 := c_mask y 255 8 (by decide) (by decide)
  generalize (y &&& 255) = z at *
  have h4 := c_i2c z
  have h5 := c_i2c (z.toUInt32.toUInt16.toUInt32.toInt32)
  show 0 ≤ (z.toUInt32.toUInt16.toUInt32.toInt32).toUInt32.toUInt16.toUInt32.toInt32.toInt ∧ (z.toUInt32.toUInt16.toUInt32.toInt32).toUInt32.toUInt16.toUInt32.toInt32.toInt ≤ 255
  omega
theorem d4_0 : decode jdk_42_method_149_code 0 = .ok (.aload_n 0, 1) := by decide +kernel
theorem d4_1 : decode jdk_42_method_149_code 1 = .ok (.invokespecial 1, 3) := by decide +kernel
theorem d4_4 : decode jdk_42_method_149_code 4 = .ok (.iload_n 3, 1) := by decide +kernel
theorem d4_5 : decode jdk_42_method_149_code 5 = .ok (.ifCond .ne 22, 3) := by decide +kernel
theorem d4_8 : decode jdk_42_method_149_code 8 = .ok (.aload_n 0, 1) := by decide +kernel
theorem d4_9 : decode jdk_42_method_149_code 9 = .ok (.ldc 7, 2) := by decide +kernel
theorem d4_11 : decode jdk_42_method_149_code 11 = .ok (.getfield 9, 3) := by decide +kernel
theorem d4_14 : decode jdk_42_method_149_code 14 = .ok (.putfield 9, 3) := by decide +kernel
theorem d4_17 : decode jdk_42_method_149_code 17 = .ok (.aload_n 0, 1) := by decide +kernel
theorem d4_18 : decode jdk_42_method_149_code 18 = .ok (.ldc 7, 2) := by decide +kernel
theorem d4_20 : decode jdk_42_method_149_code 20 = .ok (.getfield 15, 3) := by decide +kernel
theorem d4_23 : decode jdk_42_method_149_code 23 = .ok (.putfield 15, 3) := by decide +kernel
theorem d4_26 : decode jdk_42_method_149_code 26 = .ok (.return_, 1) := by decide +kernel
theorem own_pn13 : plainName "java/lang/String" = true := by first | (simp [plainName, overriddenIn]; done) | decide +kernel
theorem ef_4e (m : MethodId) (x0 : Addr) (x1 : Addr) : entryFrame m #[(.ref x0), (.ref x1), (.int 0), (.int 0), .null] 6 = mkF m 0 #[.val (.ref x0), .val (.ref x1), .val (.int 0), .val (.int 0), .val .null, .unset] [] := by first | (simp [entryFrame, mkF, argsToLocals, Value.category]; done) | rfl
def Q4e (Z : State) (aa : Addr) (ac : Addr) (cs : Int32) (vf : Value) (h0 : Heap) (n0 : Nat) (v : Option Value) (h : Heap) (L : List Loc) : Prop := ∃ (rb : Addr) (rk : ClassId), v = none ∧ Fr n0 L ∧ Keep h0 h [aa] ∧ Exa Z h aa "java/lang/String" ∧ Fld Z h aa "java/lang/String" "value" "[B" (.ref rb) ∧ Fld Z h aa "java/lang/String" "coder" "B" (.int 0) ∧ Arv Z h rb rk .byte (0 : Int32) [] (.int 0)
theorem rm4e (l : Launch) (Z : State) (a0 : Array Value) (hw : ∀ d ∈ tables_1, d.before a0 Z = true) (ws : List Jvm.Cond) (aa : Addr) (ac : Addr) (cs : Int32) (vf : Value) (h0 : Heap) (n0 : Nat) (Z0 : n0 ≤ h0.size) (O0 : Old Z n0 h0) (Scs : Sta Z Z.heap "java/lang/String" "COMPACT_STRINGS" "Z" (.int cs)) (hcs : ¬ cs = (0 : Int32)) (Ssf : Sta Z Z.heap "jdk/internal/util/Preconditions" "SIOOBE_FORMATTER" "Ljava/util/function/BiFunction;" vf) (hvf : vf.isRef = true) (Ea : Exa Z h0 aa "java/lang/String") (Fv : Fld Z h0 aa "java/lang/String" "value" "[B" .null) (Fc : Fld Z h0 aa "java/lang/String" "coder" "B" (.int 0)) (g_aa : n0 ≤ aa) (Hc : Jvm.Lit.constHeld Z "java/lang/String" 7) (Hcw : Jvm.Lit.compactW.before a0 Z = true) :
    MetFree l (⟨"java/lang/String", "<init>", "([CIILjava/lang/Void;)V"⟩ : MethodName) (head1 (Jvm.Cond.code (⟨"java/lang/String", "<init>", "([CIILjava/lang/Void;)V"⟩ : MethodName) jdk_42_method_149_code 6 none :: ws) ({ frames := 1, cells := 2, slots := 4, locals := 12 } : Room)) (fun a U => a = #[(.ref aa), (.ref ac), (.int 0), (.int 0), .null] ∧ Z.Warmed39 U.vm ∧ U.heap = h0 ∧ U.vm.interned = Z.vm.interned) (fun _ _ _ _ _ => True) (fun _ U o U' => ∃ v L, o = .returned v ∧ Q4e Z aa ac cs vf h0 n0 v U'.heap L ∧ ReturnedEndW U o U' L ({ frames := 1, cells := 2, slots := 4, locals := 12 } : Room).cells ({ frames := 1, cells := 2, slots := 4, locals := 12 } : Room).slots) := by
  refine MetFree.of_bodySF (plainFor_of_name own_pn13) hisR ?_
  intro p e s m args below meth c s₁ Bd hml0 hP hK
  have H := fun i c (h : tables_1[i]? = some c) => hw c (List.mem_of_getElem? h)
  obtain ⟨rfl, hZ, hh, hI⟩ := hP
  have hx := Bd.exec
  have hby := Bd.bytes
  have hml : c.maxLocals = 6 := hml0
  have hown : s.vm.findClass "java/lang/String" = some m.cls := findClass_of_methodNamed Bd.named
  have hnm := (name_of_methodNamed Bd.named Bd.method).1
  have X0 : Stand p l e ({ frames := 1, cells := 2, slots := 4, locals := 12 } : Room) s m #[(.ref aa), (.ref ac), (.int 0), (.int 0), .null] below meth c s₁ [] 0 0 := Stand.of_body Bd
  have e0 : s₁.heap = h0 := by rw [← hh, Bd.state]; rfl
  have N0 := Fr.nil n0
  have pre0 : ∀ t, Sp p e below m s₁ 0 #[vr aa, vr ac, vi 0, vi 0, .val .null, .unset] [] t → Steps p.tables e below (s₁.setTop (entryFrame m #[(.ref aa), (.ref ac), (.int 0), (.int 0), .null] 6)) t := fun t k => castTop (ef_4e m aa ac) k
  generalize s₁.setTop (entryFrame m #[(.ref aa), (.ref ac), (.int 0), (.int 0), .null] 6) = G0 at pre0 ⊢
  have own_wS := own_strw hw
  obtain ⟨T33, X33, e33, st33⟩ := initO X0 hx hZ hown (H 18 _ rfl) (H 19 _ rfl) (H 20 _ rfl) e0 (g := (mkF m 1 #[vr aa, vr ac, vi 0, vi 0, .val .null, .unset] [(.ref aa)])) rfl (by rw [hml]; rfl) rfl (hb hby d4_1) (by decide) (W := 0) (Nat.le_of_eq rfl) (by decide)
  have pre34 : ∀ t, Sp p e below m T33 9 #[vr aa, vr ac, vi 0, vi 0, .val .null, .unset] [(.ref aa)] t → SG p e below G0 t := by
    intro t k
    refine pre0 t ?_
    show Sp p e below m s₁ 0 #[vr aa, vr ac, vi 0, vi 0, .val .null, .unset] [] _
    refine XS.aloadN X0.here hx rfl (hb hby d4_0) rfl rfl ?_
    refine st33 _ ?_
    show Sp p e below m T33 4 #[vr aa, vr ac, vi 0, vi 0, .val .null, .unset] [] _
    refine XS.iloadN X33.here hx rfl (hb hby d4_4) rfl ?_
    refine XS.ifNo X33.here hx rfl (hb hby d4_5) rfl ((if0 _ _).trans (teq (by decide : ((0 : Int32) = (0 : Int32)))).2) ?_
    refine XS.aloadN X33.here hx rfl (hb hby d4_8) rfl rfl ?_
    exact k
  obtain ⟨a35, T35, h35, k135, b35, kc35, X35, e35, E35, hS35, hk35, hZ35, hown35, Ea35, Fc35, Fv35, Va35, lta35, ltb35, IB35, Li35, st35⟩ := ldcSVL (s := s) (vm0 := s.vm) X33 hx hZ hown (H 21 _ rfl) own_wS e33 ((State.WarmedH.refl s).since 0) (Nat.zero_le _) (Fr.nil _) (fun b cl q => by rw [hh]; exact O0.2.2 b cl q) ⟨#[], by rw [hI, Array.append_empty], fun q hq => absurd hq (Array.not_mem_empty q)⟩ (List.not_mem_nil) Hc Hcw (vs := []) (z := 0) ⟨by decide, rfl⟩ (by decide) rfl (g := (mkF m 9 #[vr aa, vr ac, vi 0, vi 0, .val .null, .unset] [(.ref aa)])) rfl (hb hby d4_9) (n := 0) (by decide) (by decide) (by decide) (by decide)
  have hZ := hZ35
  have hown := hown35
  have Zs35 : n0 ≤ h35.size := Nat.le_trans Z0 E35.1
  have KK35 : Keep h0 h35 [aa] := (Keep.refl h0 _).ext E35
  have O35 := O0.ext E35
  have f36 := (Scs.ext O0.2).ext E35
  have f37 := (Ssf.ext O0.2).ext E35
  have f38 := Ea.ext E35
  have f39 := Fv.ext E35
  have f40 := Fc.ext E35
  have ne_lit : a35 ≠ aa := Fld.ne Fv35 f39 (by intro q; cases q)
  obtain ⟨clb, Arb, -⟩ := id Va35
  have ne_litb : aa ≠ b35 := ne_arr f38 (H 8 _ rfl) Arb
  obtain ⟨T41, X41, e41, st41⟩ := getF X35 hx hZ hown (host := "") (Or.inl (H 27 _ rfl)) Via.refl e35 Fv35 (g := (mkF m 11 #[vr aa, vr ac, vi 0, vi 0, .val .null, .unset] [(.ref a35), (.ref aa)])) rfl rfl (hb hby d4_11)
  obtain ⟨T42, h42, X42, e42, W42, st42⟩ := putF X41 hx hZ hown (host := "") (Or.inl (H 27 _ rfl)) Via.refl e41 f39 f38 (Or.inr ⟨(H 23 _ rfl), rfl, hnm⟩) (H 8 _ rfl) (ty := (.array .byte)) (by decide) rfl rfl (g := (mkF m 14 #[vr aa, vr ac, vi 0, vi 0, .val .null, .unset] [(.ref b35), (.ref aa)])) rfl rfl (hb hby d4_14)
  have hk43 := Nat.le_trans hk35 (Keep.of_wr W42).1
  have N42 := Fr.snoc X42 N0 g_aa
  have Zs42 : n0 ≤ h42.size := Nat.le_trans Zs35 (Keep.of_wr W42).1
  have KK42 : Keep h0 h42 [aa] := KK35.wr W42 (Or.inl (List.mem_of_getElem? (i := 0) rfl))
  have O42 := O35.wr W42 g_aa
  have f44 := f36.wr W42
  have f45 := f37.wr W42
  have f46 := f38.wr W42
  have f47 := f39.same W42
  have f48 := f40.other W42 (Or.inr (slot_ne (Or.inr (H 24 _ rfl)) (Or.inr (H 23 _ rfl)) (by decide) (t := .byte) (t' := (.array .byte)) (by decide) (by decide)))
  have f49 := Ea35.wr W42
  have f50 := Fc35.other W42 (Or.inl ne_lit)
  have f51 := Fv35.other W42 (Or.inl ne_lit)
  have f52 := Va35.other W42 (Ne.symm ne_litb)
  obtain ⟨T53, X53, e53, st53⟩ := getF X42 hx hZ hown (host := "") (Or.inl (H 28 _ rfl)) Via.refl e42 f50 (g := (mkF m 20 #[vr aa, vr ac, vi 0, vi 0, .val .null, .unset] [(.ref a35), (.ref aa)])) rfl rfl (hb hby d4_20)
  obtain ⟨T54, h54, X54, e54, W54, st54⟩ := putFN X53 hx hZ hown (H 28 _ rfl) Via.refl e53 f48 f46 (Or.inr ⟨(H 24 _ rfl), rfl, hnm⟩) (H 8 _ rfl) (ty := .byte) (v' := (.int 0)) (by decide) rfl (fits_nar_byte (0 : Int32)) (g := (mkF m 23 #[vr aa, vr ac, vi 0, vi 0, .val .null, .unset] [(.int 0), (.ref aa)])) rfl rfl (hb hby d4_23)
  have hk55 := Nat.le_trans hk43 (Keep.of_wr W54).1
  have N54 := Fr.snoc X54 N42 g_aa
  have Zs54 : n0 ≤ h54.size := Nat.le_trans Zs42 (Keep.of_wr W54).1
  have KK54 : Keep h0 h54 [aa] := KK42.wr W54 (Or.inl (List.mem_of_getElem? (i := 0) rfl))
  have O54 := O42.wr W54 g_aa
  have f56 := f44.wr W54
  have f57 := f45.wr W54
  have f58 := f46.wr W54
  have f59 := f47.other W54 (Or.inr (slot_ne (Or.inr (H 23 _ rfl)) (Or.inr (H 24 _ rfl)) (by decide) (t := (.array .byte)) (t' := .byte) (by decide) (by decide)))
  have f60 := f48.same W54
  have f61 := f49.wr W54
  have f62 := f50.other W54 (Or.inl ne_lit)
  have f63 := f51.other W54 (Or.inl ne_lit)
  have f64 := f52.other W54 (Ne.symm ne_litb)
  obtain ⟨fs, hr, hrun, hended, hRW⟩ := X54.leaveW hS35 (by rw [e54]; exact hk55) (v := none) (fun _ => rfl)
  refine ⟨_, _, pre34 _ ?_, hrun, hended, _, _, rfl, ?_, hRW.1, hRW.2.1, hRW.2.2.1, hRW.2.2.2.mono (by decide) (by decide)⟩
  · refine st35 _ ?_
    show Sp p e below m T35 11 #[vr aa, vr ac, vi 0, vi 0, .val .null, .unset] [(.ref a35), (.ref aa)] _
    refine st41 _ ?_
    show Sp p e below m T41 14 #[vr aa, vr ac, vi 0, vi 0, .val .null, .unset] [(.ref b35), (.ref aa)] _
    refine st42 _ ?_
    show Sp p e below m T42 17 #[vr aa, vr ac, vi 0, vi 0, .val .null, .unset] [] _
    refine XS.aloadN X42.here hx rfl (hb hby d4_17) rfl rfl ?_
    refine ldcAgain (s := s) (vm0 := T35.vm) X42 hx hZ hown (H 21 _ rfl) Li35 (g := (mkF m 18 #[vr aa, vr ac, vi 0, vi 0, .val .null, .unset] [(.ref aa)])) rfl (hb hby d4_18) _ ?_
    show Sp p e below m T42 20 #[vr aa, vr ac, vi 0, vi 0, .val .null, .unset] [(.ref a35), (.ref aa)] _
    refine st53 _ ?_
    show Sp p e below m T53 23 #[vr aa, vr ac, vi 0, vi 0, .val .null, .unset] [(.int 0), (.ref aa)] _
    refine st54 _ ?_
    show Sp p e below m T54 26 #[vr aa, vr ac, vi 0, vi 0, .val .null, .unset] [] _
    exact X54.returnOut hx Bd.returns (hb hby d4_26) hr
  · show Q4e Z aa ac cs vf h0 n0 _ T54.heap _
    rw [e54]
    exact ⟨b35, kc35, rfl, N54, KK54, f58, f59, f60, f64⟩
theorem d3_0 : decode jdk_42_method_3_code 0 = .ok (.aload_n 0, 1) := by decide +kernel
theorem d3_1 : decode jdk_42_method_3_code 1 = .ok (.aload_n 1, 1) := by decide +kernel
theorem d3_2 : decode jdk_42_method_3_code 2 = .ok (.iconst 0, 1) := by decide +kernel
theorem d3_3 : decode jdk_42_method_3_code 3 = .ok (.aload_n 1, 1) := by decide +kernel
theorem d3_4 : decode jdk_42_method_3_code 4 = .ok (.arraylength, 1) := by decide +kernel
theorem d3_5 : decode jdk_42_method_3_code 5 = .ok (.aconst_null, 1) := by decide +kernel
theorem d3_6 : decode jdk_42_method_3_code 6 = .ok (.invokespecial 27, 3) := by decide +kernel
theorem own_pd21 : parseMethodDescriptor "([CIILjava/lang/Void;)V" = some ⟨[(.array .char), .int, .int, (.object "java/lang/Void")], none⟩ := by decide +kernel
theorem d3_9 : decode jdk_42_method_3_code 9 = .ok (.return_, 1) := by decide +kernel
theorem ef_3e (m : MethodId) (x0 : Addr) (x1 : Addr) : entryFrame m #[(.ref x0), (.ref x1)] 2 = mkF m 0 #[.val (.ref x0), .val (.ref x1)] [] := by first | (simp [entryFrame, mkF, argsToLocals, Value.category]; done) | rfl
def Q3e (Z : State) (aa : Addr) (ac : Addr) (cs : Int32) (vf : Value) (kc : ClassId) (h0 : Heap) (n0 : Nat) (v : Option Value) (h : Heap) (L : List Loc) : Prop := ∃ (rb : Addr) (rk : ClassId), v = none ∧ Fr n0 L ∧ Keep h0 h [aa] ∧ Exa Z h aa "java/lang/String" ∧ Fld Z h aa "java/lang/String" "value" "[B" (.ref rb) ∧ Fld Z h aa "java/lang/String" "coder" "B" (.int 0) ∧ Arv Z h rb rk .byte (0 : Int32) [] (.int 0)
theorem rm3e (l : Launch) (Z : State) (a0 : Array Value) (hw : ∀ d ∈ tables_1, d.before a0 Z = true) (ws : List Jvm.Cond) (aa : Addr) (ac : Addr) (cs : Int32) (vf : Value) (kc : ClassId) (h0 : Heap) (n0 : Nat) (Z0 : n0 ≤ h0.size) (O0 : Old Z n0 h0) (Scs : Sta Z Z.heap "java/lang/String" "COMPACT_STRINGS" "Z" (.int cs)) (hcs : ¬ cs = (0 : Int32)) (Ssf : Sta Z Z.heap "jdk/internal/util/Preconditions" "SIOOBE_FORMATTER" "Ljava/util/function/BiFunction;" vf) (hvf : vf.isRef = true) (Ea : Exa Z h0 aa "java/lang/String") (Fv : Fld Z h0 aa "java/lang/String" "value" "[B" .null) (Fc : Fld Z h0 aa "java/lang/String" "coder" "B" (.int 0)) (g_aa : n0 ≤ aa) (Hc : Jvm.Lit.constHeld Z "java/lang/String" 7) (Hcw : Jvm.Lit.compactW.before a0 Z = true) (Vc : Arv Z h0 ac kc .char (0 : Int32) [] (.int 0)) (nac : aa ≠ ac) :
    MetFree l (⟨"java/lang/String", "<init>", "([C)V"⟩ : MethodName) (head1 (Jvm.Cond.code (⟨"java/lang/String", "<init>", "([C)V"⟩ : MethodName) jdk_42_method_3_code 2 none :: ws) ({ frames := 2, cells := 2, slots := 4, locals := 29 } : Room)) (fun a U => a = #[(.ref aa), (.ref ac)] ∧ Z.Warmed39 U.vm ∧ U.heap = h0 ∧ U.vm.interned = Z.vm.interned) (fun _ _ _ _ _ => True) (fun _ U o U' => ∃ v L, o = .returned v ∧ Q3e Z aa ac cs vf kc h0 n0 v U'.heap L ∧ ReturnedEndW U o U' L ({ frames := 2, cells := 2, slots := 4, locals := 29 } : Room).cells ({ frames := 2, cells := 2, slots := 4, locals := 29 } : Room).slots) := by
  refine MetFree.of_bodySF (plainFor_of_name own_pn13) hisR ?_
  intro p e s m args below meth c s₁ Bd hml0 hP hK
  have H := fun i c (h : tables_1[i]? = some c) => hw c (List.mem_of_getElem? h)
  obtain ⟨rfl, hZ, hh, hI⟩ := hP
  have hx := Bd.exec
  have hby := Bd.bytes
  have hml : c.maxLocals = 2 := hml0
  have hown : s.vm.findClass "java/lang/String" = some m.cls := findClass_of_methodNamed Bd.named
  have hnm := (name_of_methodNamed Bd.named Bd.method).1
  have X0 : Stand p l e ({ frames := 2, cells := 2, slots := 4, locals := 29 } : Room) s m #[(.ref aa), (.ref ac)] below meth c s₁ [] 0 0 := Stand.of_body Bd
  have e0 : s₁.heap = h0 := by rw [← hh, Bd.state]; rfl
  have N0 := Fr.nil n0
  have pre0 : ∀ t, Sp p e below m s₁ 0 #[vr aa, vr ac] [] t → Steps p.tables e below (s₁.setTop (entryFrame m #[(.ref aa), (.ref ac)] 2)) t := fun t k => castTop (ef_3e m aa ac) k
  generalize s₁.setTop (entryFrame m #[(.ref aa), (.ref ac)] 2) = G0 at pre0 ⊢
  obtain ⟨cl72, Ar72, -, S72, M72, -, -⟩ := id Vc
  have pre74 : ∀ t, Sp p e below m s₁ 6 #[vr aa, vr ac] [.null, (.int 0), (.int 0), (.ref ac), (.ref aa)] t → SG p e below G0 t := by
    intro t k
    refine pre0 t ?_
    show Sp p e below m s₁ 0 #[vr aa, vr ac] [] _
    refine XS.aloadN X0.here hx rfl (hb hby d3_0) rfl rfl ?_
    refine XS.aloadN X0.here hx rfl (hb hby d3_1) rfl rfl ?_
    refine XS.iconst X0.here hx rfl (hb hby d3_2) ?_
    refine XS.aloadN X0.here hx rfl (hb hby d3_3) rfl rfl ?_
    refine X0.arraylength hx (by rw [e0]; exact Ar72.1) (State.isArrayOf_alike hZ.alike Ar72.2.1) (g := (mkF m 4 #[vr aa, vr ac] [(.ref ac), (.int 0), (.ref ac), (.ref aa)])) rfl rfl (hb hby d3_4) _ ?_
    rw [len_of S72 M72]
    show Sp p e below m s₁ 5 #[vr aa, vr ac] [(.int 0), (.int 0), (.ref ac), (.ref aa)] _
    refine XS.aconstNull X0.here hx rfl (hb hby d3_5) ?_
    exact k
  obtain ⟨_, _, ⟨T73, L73, k73, n73⟩, -, X73, hS73, hg73, ⟨Lc73, hQ73, l73, y73, z73⟩, st73⟩ := X0.specialBackS hx (y := (⟨"java/lang/String", "<init>", "([CIILjava/lang/Void;)V"⟩ : MethodName)) rfl hown (mvT hZ (H 14 _ rfl)) (mvT hZ (H 15 _ rfl)) (mvT hZ (H 17 _ rfl)) (by decide) (own_backSI (W := 0) (rm4e l Z a0 hw [] aa ac cs vf h0 n0 Z0 O0 Scs hcs Ssf hvf Ea Fv Fc g_aa Hc Hcw) hZ hI (H 17 _ rfl) (H 9 _ rfl) (by decide) (by decide)) (g := (mkF m 6 #[vr aa, vr ac] [.null, (.int 0), (.int 0), (.ref ac), (.ref aa)])) rfl (by rw [hml]; rfl) (Steps.refl _) (a := aa) (argsL := [(.ref ac), (.int 0), (.int 0), .null]) (rest := []) (lenOf own_pd21 rfl) rfl (Nat.le_of_eq rfl) (hb hby d3_6) (fun _ _ => ⟨rfl, e0, (by decide : 0 + 2 ≤ _), (by decide : 0 + 4 ≤ _)⟩)
  dsimp only [Pt.U, Pt.locs, Pt.cells, Pt.slots] at X73 l73 y73 z73 st73 hQ73
  rw [l73, y73, z73] at X73
  have hZ' := State.Warmed39.trans hZ hS73.1
  have hown' : (s.setVm T73.vm).vm.findClass "java/lang/String" = some m.cls := (hS73.1.alike.findClass _ _).trans hown
  have hZ : Z.Warmed39 (s.setVm T73.vm).vm := hZ'
  have hown := hown'
  obtain ⟨rrb_73, rrk_73, rfl, Nq73, K73, p73_0, p73_1, p73_2, p73_3⟩ := hQ73
  have N73 := Fr.app N0 Nq73
  have Zs73 : n0 ≤ T73.heap.size := Nat.le_trans Z0 K73.1
  have KK73 : Keep h0 T73.heap [aa] := (Keep.refl h0 _).trans K73 (allS (Or.inl (List.mem_of_getElem? (i := 0) rfl)) all0)
  have O73 := O0.keep K73 (allS g_aa all0)
  have f75 := Scs.ext O73.2
  have f76 := Ssf.ext O73.2
  have f77 := Ea.keep K73
  have f78 := Vc.keep K73 (ninS (Ne.symm nac) nin0)
  obtain ⟨fs, hr, hrun, hended, hRW⟩ := X73.leaveW hS73 (Nat.le_refl _) (v := none) (fun _ => rfl)
  refine ⟨_, _, pre74 _ ?_, hrun, hended, _, _, rfl, ?_, hRW.1, hRW.2.1, hRW.2.2.1, hRW.2.2.2.mono (by decide) (by decide)⟩
  · refine st73.trans ?_
    show Sp p e below m T73 9 #[vr aa, vr ac] [] _
    exact X73.returnOut hx Bd.returns (hb hby d3_9) hr
  · show Q3e Z aa ac cs vf kc h0 n0 _ T73.heap _
    exact ⟨rrb_73, rrk_73, rfl, N73, KK73, p73_0, p73_1, p73_2, p73_3⟩
theorem d2_0 : decode method_6_code 0 = .ok (.iload_n 0, 1) := by decide +kernel
theorem d2_1 : decode method_6_code 1 = .ok (.ifCond .ne 14, 3) := by decide +kernel
theorem d2_4 : decode method_6_code 4 = .ok (.new 41, 3) := by decide +kernel
theorem d2_7 : decode method_6_code 7 = .ok (.dup, 1) := by decide +kernel
theorem d2_8 : decode method_6_code 8 = .ok (.iconst 0, 1) := by decide +kernel
theorem d2_9 : decode method_6_code 9 = .ok (.newarray .char, 2) := by decide +kernel
theorem d2_11 : decode method_6_code 11 = .ok (.invokespecial 43, 3) := by decide +kernel
theorem own_pd30 : parseMethodDescriptor "([C)V" = some ⟨[(.array .char)], none⟩ := by decide +kernel
theorem d2_14 : decode method_6_code 14 = .ok (.areturn, 1) := by decide +kernel
theorem own_pn32 : plainName "com/example/onus_on_beans/onusonbeans/validators/CheckDigitRangeWholeTextPinLaw" = true := by first | (simp [plainName, overriddenIn]; done) | decide +kernel
theorem ef_2n0 (m : MethodId) (x1 : Int32) (x2 : Int32) (x3 : Int32) (x4 : Int32) : entryFrame m #[(.int 0), (.int x1), (.int x2), (.int x3), (.int x4)] 5 = mkF m 0 #[.val (.int 0), .val (.int x1), .val (.int x2), .val (.int x3), .val (.int x4)] [] := by first | (simp [entryFrame, mkF, argsToLocals, Value.category]; done) | rfl
def Q2n0 (Z : State) (pa0 : Int32) (pa1 : Int32) (pa2 : Int32) (pa3 : Int32) (cs : Int32) (vf : Value) (h0 : Heap) (n0 : Nat) (v : Option Value) (h : Heap) (L : List Loc) : Prop := ∃ (so : Addr) (rb : Addr) (rk : ClassId), v = some (.ref so) ∧ Fr n0 L ∧ Keep h0 h [] ∧ Exa Z h so "java/lang/String" ∧ Fld Z h so "java/lang/String" "value" "[B" (.ref rb) ∧ Fld Z h so "java/lang/String" "coder" "B" (.int 0) ∧ Arv Z h rb rk .byte (0 : Int32) [] (.int 0)
theorem rm2n0 (l : Launch) (Z : State) (a0 : Array Value) (hw : ∀ d ∈ tables_1, d.before a0 Z = true) (ws : List Jvm.Cond) (pa0 : Int32) (pa1 : Int32) (pa2 : Int32) (pa3 : Int32) (cs : Int32) (vf : Value) (h0 : Heap) (n0 : Nat) (Z0 : n0 ≤ h0.size) (O0 : Old Z n0 h0) (Scs : Sta Z Z.heap "java/lang/String" "COMPACT_STRINGS" "Z" (.int cs)) (hcs : ¬ cs = (0 : Int32)) (Ssf : Sta Z Z.heap "jdk/internal/util/Preconditions" "SIOOBE_FORMATTER" "Ljava/util/function/BiFunction;" vf) (hvf : vf.isRef = true) (Hc : Jvm.Lit.constHeld Z "java/lang/String" 7) (Hcw : Jvm.Lit.compactW.before a0 Z = true) (hp0 : 0 ≤ pa0.toInt ∧ pa0.toInt ≤ 255) (hp1 : 0 ≤ pa1.toInt ∧ pa1.toInt ≤ 255) (hp2 : 0 ≤ pa2.toInt ∧ pa2.toInt ≤ 255) (hp3 : 0 ≤ pa3.toInt ∧ pa3.toInt ≤ 255) :
    MetFree l (⟨"com/example/onus_on_beans/onusonbeans/validators/CheckDigitRangeWholeTextPinLaw", "text", "(ICCCC)Ljava/lang/String;"⟩ : MethodName) (head1 (Jvm.Cond.code (⟨"com/example/onus_on_beans/onusonbeans/validators/CheckDigitRangeWholeTextPinLaw", "text", "(ICCCC)Ljava/lang/String;"⟩ : MethodName) method_6_code 5 (some (.object "java/lang/String")) :: ws) ({ frames := 3, cells := 4, slots := 8, locals := 43 } : Room)) (fun a U => a = #[(.int 0), (.int pa0), (.int pa1), (.int pa2), (.int pa3)] ∧ Z.Warmed39 U.vm ∧ U.heap = h0 ∧ U.vm.interned = Z.vm.interned) (fun _ _ _ _ _ => True) (fun _ U o U' => ∃ v L, o = .returned v ∧ Q2n0 Z pa0 pa1 pa2 pa3 cs vf h0 n0 v U'.heap L ∧ ReturnedEndW U o U' L ({ frames := 3, cells := 4, slots := 8, locals := 43 } : Room).cells ({ frames := 3, cells := 4, slots := 8, locals := 43 } : Room).slots) := by
  refine MetFree.of_bodySF (plainFor_of_name own_pn32) hisR ?_
  intro p e s m args below meth c s₁ Bd hml0 hP hK
  have H := fun i c (h : tables_1[i]? = some c) => hw c (List.mem_of_getElem? h)
  obtain ⟨rfl, hZ, hh, hI⟩ := hP
  have hx := Bd.exec
  have hby := Bd.bytes
  have hml : c.maxLocals = 5 := hml0
  have hown : s.vm.findClass "com/example/onus_on_beans/onusonbeans/validators/CheckDigitRangeWholeTextPinLaw" = some m.cls := findClass_of_methodNamed Bd.named
  have hnm := (name_of_methodNamed Bd.named Bd.method).1
  have X0 : Stand p l e ({ frames := 3, cells := 4, slots := 8, locals := 43 } : Room) s m #[(.int 0), (.int pa0), (.int pa1), (.int pa2), (.int pa3)] below meth c s₁ [] 0 0 := Stand.of_body Bd
  have e0 : s₁.heap = h0 := by rw [← hh, Bd.state]; rfl
  have N0 := Fr.nil n0
  have pre0 : ∀ t, Sp p e below m s₁ 0 #[vi 0, vi pa0, vi pa1, vi pa2, vi pa3] [] t → Steps p.tables e below (s₁.setTop (entryFrame m #[(.int 0), (.int pa0), (.int pa1), (.int pa2), (.int pa3)] 5)) t := fun t k => castTop (ef_2n0 m pa0 pa1 pa2 pa3) k
  generalize s₁.setTop (entryFrame m #[(.int 0), (.int pa0), (.int pa1), (.int pa2), (.int pa3)] 5) = G0 at pre0 ⊢
  obtain ⟨T96, h96, X96, e96, E96, A96, D96, -, st96⟩ := newO X0 hx hZ hown (H 7 _ rfl) (H 8 _ rfl) (H 9 _ rfl) e0 (g := (mkF m 4 #[vi 0, vi pa0, vi pa1, vi pa2, vi pa3] [])) rfl (hb hby d2_4) (by decide) (by decide)
  obtain ⟨b96, g96⟩ : ∃ z, z = h0.size := ⟨_, rfl⟩
  rw [← g96] at A96 D96 st96
  have g_b96 : n0 ≤ b96 := Nat.le_trans Z0 (Nat.le_of_eq g96.symm)
  have sz_b96 : h0.size ≤ b96 := Nat.le_of_eq g96.symm
  have Zs96 : n0 ≤ h96.size := Nat.le_trans Z0 E96.1
  have KK96 : Keep h0 h96 [] := (Keep.refl h0 _).ext E96
  have O96 := O0.ext E96
  have f97 := (Scs.ext O0.2).ext E96
  have f98 := (Ssf.ext O0.2).ext E96
  have f99 : Fld Z h96 b96 "java/lang/String" "value" "[B" .null := D96 (Or.inr (H 23 _ rfl)) (ty := (.array .byte)) (by decide)
  have f100 : Fld Z h96 b96 "java/lang/String" "coder" "B" (.int 0) := D96 (Or.inr (H 24 _ rfl)) (ty := .byte) (by decide)
  obtain ⟨T101, h101, k101, X101, e101, E101, A101, st101⟩ := newP X96 hx hZ (H 10 _ rfl) e96 (g := (mkF m 9 #[vi 0, vi pa0, vi pa1, vi pa2, vi pa3] [(.int 0), (.ref b96), (.ref b96)])) rfl (hb hby d2_9) rfl (by decide) (cap := 0) (by decide) (by decide) (by decide) (by decide)
  obtain ⟨b101, g101⟩ : ∃ z, z = h96.size := ⟨_, rfl⟩
  rw [← g101] at A101 st101
  have g_b101 : n0 ≤ b101 := Nat.le_trans Zs96 (Nat.le_of_eq g101.symm)
  have sz_b101 : h0.size ≤ b101 := Nat.le_trans KK96.1 (Nat.le_of_eq g101.symm)
  have lt_b96_b101 : b96 < b101 := Nat.lt_of_lt_of_le A96.lt (Nat.le_of_eq g101.symm)
  have ne_b96_b101 : b96 ≠ b101 := Nat.ne_of_lt lt_b96_b101
  have Zs101 : n0 ≤ h101.size := Nat.le_trans Zs96 E101.1
  have KK101 : Keep h0 h101 [] := KK96.ext E101
  have O101 := O96.ext E101
  have f102 := f97.ext E101
  have f103 := f98.ext E101
  have f104 := A96.ext E101
  have f105 := f99.ext E101
  have f106 := f100.ext E101
  have V101 : Arv Z h101 b101 k101 .char (0 : Int32) [] (.int 0) := (Arv.new A101 (by decide)).pad (pad_rep [] (.int 0) 0)
  have pre108 : ∀ t, Sp p e below m T101 11 #[vi 0, vi pa0, vi pa1, vi pa2, vi pa3] [(.ref b101), (.ref b96), (.ref b96)] t → SG p e below G0 t := by
    intro t k
    refine pre0 t ?_
    show Sp p e below m s₁ 0 #[vi 0, vi pa0, vi pa1, vi pa2, vi pa3] [] _
    refine XS.iloadN X0.here hx rfl (hb hby d2_0) rfl ?_
    refine XS.ifNo X0.here hx rfl (hb hby d2_1) rfl ((if0 _ _).trans (teq (by decide : ((0 : Int32) = (0 : Int32)))).2) ?_
    refine st96 _ ?_
    show Sp p e below m T96 7 #[vi 0, vi pa0, vi pa1, vi pa2, vi pa3] [(.ref b96)] _
    refine XS.dup X96.here hx rfl (hb hby d2_7) rfl rfl ?_
    refine XS.iconst X96.here hx rfl (hb hby d2_8) ?_
    refine st101 _ ?_
    show Sp p e below m T101 11 #[vi 0, vi pa0, vi pa1, vi pa2, vi pa3] [(.ref b101), (.ref b96), (.ref b96)] _
    exact k
  obtain ⟨_, _, ⟨T107, L107, k107, n107⟩, -, X107, hS107, hg107, ⟨Lc107, hQ107, l107, y107, z107⟩, st107⟩ := X101.specialBackS hx (y := (⟨"java/lang/String", "<init>", "([C)V"⟩ : MethodName)) rfl hown (mvT hZ (H 11 _ rfl)) (mvT hZ (H 12 _ rfl)) (mvT hZ (H 13 _ rfl)) (by decide) (own_backSI (W := 1) (rm3e l Z a0 hw [] b96 b101 cs vf k101 h101 n0 Zs101 O101 Scs hcs Ssf hvf f104 f105 f106 g_b96 Hc Hcw V101 ne_b96_b101) hZ hI (H 13 _ rfl) (H 9 _ rfl) (by decide) (by decide)) (g := (mkF m 11 #[vi 0, vi pa0, vi pa1, vi pa2, vi pa3] [(.ref b101), (.ref b96), (.ref b96)])) rfl (by rw [hml]; rfl) (Steps.refl _) (a := b96) (argsL := [(.ref b101)]) (rest := [(.ref b96)]) (lenOf own_pd30 rfl) rfl (Nat.le_of_eq rfl) (hb hby d2_11) (fun _ _ => ⟨rfl, e101, (by decide : 2 + 2 ≤ _), (by decide : 4 + 4 ≤ _)⟩)
  dsimp only [Pt.U, Pt.locs, Pt.cells, Pt.slots] at X107 l107 y107 z107 st107 hQ107
  rw [l107, y107, z107] at X107
  have hZ' := State.Warmed39.trans hZ hS107.1
  have hown' : (s.setVm T107.vm).vm.findClass "com/example/onus_on_beans/onusonbeans/validators/CheckDigitRangeWholeTextPinLaw" = some m.cls := (hS107.1.alike.findClass _ _).trans hown
  have hZ : Z.Warmed39 (s.setVm T107.vm).vm := hZ'
  have hown := hown'
  obtain ⟨rrb_107, rrk_107, rfl, Nq107, K107, p107_0, p107_1, p107_2, p107_3⟩ := hQ107
  have N107 := Fr.app N0 Nq107
  have Zs107 : n0 ≤ T107.heap.size := Nat.le_trans Zs101 K107.1
  have KK107 : Keep h0 T107.heap [] := KK101.trans K107 (allS (Or.inr sz_b96) all0)
  have O107 := O101.keep K107 (allS g_b96 all0)
  have f109 := Scs.ext O107.2
  have f110 := Ssf.ext O107.2
  have f111 := f104.keep K107
  have f112 := V101.keep K107 (ninS (Ne.symm ne_b96_b101) nin0)
  obtain ⟨fs, hr, hrun, hended, hRW⟩ := X107.leaveW hS107 (Nat.le_refl _) (v := some (.ref b96)) (fun h => by rw [Bd.returns] at h; cases h)
  refine ⟨_, _, pre108 _ ?_, hrun, hended, _, _, rfl, ?_, hRW.1, hRW.2.1, hRW.2.2.1, hRW.2.2.2.mono (by decide) (by decide)⟩
  · refine st107.trans ?_
    show Sp p e below m T107 14 #[vi 0, vi pa0, vi pa1, vi pa2, vi pa3] [(.ref b96)] _
    jvm_step X107.here [X107.here.top, hx, (hb hby d2_14), X107.method', Bd.returns, Value.isRef, FieldType.isReference]
    first | (intro acts; rw [hr _ acts rfl rfl rfl]) | rw [hr _ _ rfl rfl rfl]
    exact Steps.refl _
  · show Q2n0 Z pa0 pa1 pa2 pa3 cs vf h0 n0 _ T107.heap _
    exact ⟨b96, rrb_107, rrk_107, rfl, N107, KK107, p107_0, p107_1, p107_2, p107_3⟩
theorem own_le255 {c : Int32} (h : 0 ≤ c.toInt ∧ c.toInt ≤ 255) : ¬ (255 : Int32) < c := by
  rw [Int32.lt_iff_toInt_lt, show (255 : Int32).toInt = 255 from by decide]; omega
theorem d11_0 : decode jdk_52_method_21_code 0 = .ok (.iconst 0, 1) := by decide +kernel
theorem d11_1 : decode jdk_52_method_21_code 1 = .ok (.istore 5, 2) := by decide +kernel
theorem d11_3 : decode jdk_52_method_21_code 3 = .ok (.iload 5, 2) := by decide +kernel
theorem d11_5 : decode jdk_52_method_21_code 5 = .ok (.iload 4, 2) := by decide +kernel
theorem d11_7 : decode jdk_52_method_21_code 7 = .ok (.if_icmp .ge 37, 3) := by decide +kernel
theorem d11_10 : decode jdk_52_method_21_code 10 = .ok (.aload_n 0, 1) := by decide +kernel
theorem d11_11 : decode jdk_52_method_21_code 11 = .ok (.iload_n 1, 1) := by decide +kernel
theorem d11_12 : decode jdk_52_method_21_code 12 = .ok (.caload, 1) := by decide +kernel
theorem d11_13 : decode jdk_52_method_21_code 13 = .ok (.istore 6, 2) := by decide +kernel
theorem d11_15 : decode jdk_52_method_21_code 15 = .ok (.iload 6, 2) := by decide +kernel
theorem d11_17 : decode jdk_52_method_21_code 17 = .ok (.sipush 255, 3) := by decide +kernel
theorem d11_20 : decode jdk_52_method_21_code 20 = .ok (.if_icmp .le 6, 3) := by decide +kernel
theorem d11_26 : decode jdk_52_method_21_code 26 = .ok (.aload_n 2, 1) := by decide +kernel
theorem d11_27 : decode jdk_52_method_21_code 27 = .ok (.iload_n 3, 1) := by decide +kernel
theorem d11_28 : decode jdk_52_method_21_code 28 = .ok (.iload 6, 2) := by decide +kernel
theorem d11_30 : decode jdk_52_method_21_code 30 = .ok (.i2b, 1) := by decide +kernel
theorem d11_31 : decode jdk_52_method_21_code 31 = .ok (.bastore, 1) := by decide +kernel
theorem d11_32 : decode jdk_52_method_21_code 32 = .ok (.iinc 1 1, 3) := by decide +kernel
theorem d11_35 : decode jdk_52_method_21_code 35 = .ok (.iinc 3 1, 3) := by decide +kernel
theorem d11_38 : decode jdk_52_method_21_code 38 = .ok (.iinc 5 1, 3) := by decide +kernel
theorem d11_41 : decode jdk_52_method_21_code 41 = .ok (.goto (-38), 3) := by decide +kernel
theorem d11_44 : decode jdk_52_method_21_code 44 = .ok (.iload 4, 2) := by decide +kernel
theorem d11_46 : decode jdk_52_method_21_code 46 = .ok (.ireturn, 1) := by decide +kernel
theorem own_pn56 : plainName "java/lang/StringUTF16" = true := by first | (simp [plainName, overriddenIn]; done) | decide +kernel
theorem ef_11n1 (m : MethodId) (x0 : Addr) (x2 : Addr) : entryFrame m #[(.ref x0), (.int 0), (.ref x2), (.int 0), (.int 1)] 7 = mkF m 0 #[.val (.ref x0), .val (.int 0), .val (.ref x2), .val (.int 0), .val (.int 1), .unset, .unset] [] := by first | (simp [entryFrame, mkF, argsToLocals, Value.category]; done) | rfl
def Q11n1 (Z : State) (ac : Addr) (ab : Addr) (kc : ClassId) (cc0 : Int32) (kb : ClassId) (h0 : Heap) (n0 : Nat) (v : Option Value) (h : Heap) (L : List Loc) : Prop := v = some (.int 1) ∧ Fr n0 L ∧ Keep h0 h [ab] ∧ Arv Z h ab kb .byte (1 : Int32) [(.int (nar .byte (cc0.toInt8.toInt32)))] (.int 0)
theorem rm11n1 (l : Launch) (Z : State) (a0 : Array Value) (hw : ∀ d ∈ tables_1, d.before a0 Z = true) (ws : List Jvm.Cond) (ac : Addr) (ab : Addr) (kc : ClassId) (cc0 : Int32) (kb : ClassId) (h0 : Heap) (n0 : Nat) (Z0 : n0 ≤ h0.size) (Vc : Arv Z h0 ac kc .char (1 : Int32) [(.int cc0)] (.int 0)) (Vb : Arv Z h0 ab kb .byte (1 : Int32) [(.int 0)] (.int 0)) (g_ab : n0 ≤ ab) (nab : ac ≠ ab) (hp0 : 0 ≤ cc0.toInt ∧ cc0.toInt ≤ 255) :
    MetFree l (⟨"java/lang/StringUTF16", "compress", "([CI[BII)I"⟩ : MethodName) (head1 (Jvm.Cond.code (⟨"java/lang/StringUTF16", "compress", "([CI[BII)I"⟩ : MethodName) jdk_52_method_21_code 7 (some .int) :: ws) ({ frames := 0, cells := 0, slots := 0, locals := 0 } : Room)) (fun a U => a = #[(.ref ac), (.int 0), (.ref ab), (.int 0), (.int 1)] ∧ Z.Warmed39 U.vm ∧ U.heap = h0) (fun _ _ _ _ _ => True) (fun _ U o U' => ∃ v L, o = .returned v ∧ Q11n1 Z ac ab kc cc0 kb h0 n0 v U'.heap L ∧ FrameEnd U o U' L ({ frames := 0, cells := 0, slots := 0, locals := 0 } : Room).cells ({ frames := 0, cells := 0, slots := 0, locals := 0 } : Room).slots) := by
  refine MetFree.of_bodySF (plainFor_of_name own_pn56) hisR ?_
  intro p e s m args below meth c s₁ Bd hml0 hP hK
  have H := fun i c (h : tables_1[i]? = some c) => hw c (List.mem_of_getElem? h)
  obtain ⟨rfl, hZ, hh⟩ := hP
  have hx := Bd.exec
  have hby := Bd.bytes
  have hml : c.maxLocals = 7 := hml0
  have hown : s.vm.findClass "java/lang/StringUTF16" = some m.cls := findClass_of_methodNamed Bd.named
  have hnm := (name_of_methodNamed Bd.named Bd.method).1
  have X0 : Stand p l e ({ frames := 0, cells := 0, slots := 0, locals := 0 } : Room) s m #[(.ref ac), (.int 0), (.ref ab), (.int 0), (.int 1)] below meth c s₁ [] 0 0 := Stand.of_body Bd
  have e0 : s₁.heap = h0 := by rw [← hh, Bd.state]; rfl
  have N0 := Fr.nil n0
  have pre0 : ∀ t, Sp p e below m s₁ 0 #[vr ac, vi 0, vr ab, vi 0, vi 1, .unset, .unset] [] t → Steps p.tables e below (s₁.setTop (entryFrame m #[(.ref ac), (.int 0), (.ref ab), (.int 0), (.int 1)] 7)) t := fun t k => castTop (ef_11n1 m ac ab) k
  generalize s₁.setTop (entryFrame m #[(.ref ac), (.int 0), (.ref ab), (.int 0), (.int 1)] 7) = G0 at pre0 ⊢
  obtain ⟨cl117, Ar117, -, S117, -, H117, -⟩ := id Vc
  have hin117 : ¬ ((0 : Int32) < 0 ∨ cl117.slots.size ≤ ((0 : Int32)).toNatClampNeg) := inb_of S117 ⟨by decide, by decide⟩
  have hat117 : cl117.slots[((0 : Int32)).toNatClampNeg]? = some (.int cc0) := H117.at hin117 rfl
  obtain ⟨cl118, Ar118, q118, S118, N118, H118, G118⟩ := id Vb
  have hin118 : ¬ ((0 : Int32) < 0 ∨ cl118.slots.size ≤ ((0 : Int32)).toNatClampNeg) := inb_of S118 ⟨by decide, by decide⟩
  obtain ⟨T119, h119, X119, e119, W119, st119⟩ := stB X0 hx hZ e0 Ar118 (j := (0 : Int32)) hin118 (g := (mkF m 31 #[vr ac, vi 0, vr ab, vi 0, vi 1, vi 0, vi cc0] [(.int (cc0.toInt8.toInt32)), (.int 0), (.ref ab)])) rfl rfl (hb hby d11_31)
  have V119 : Arv Z h119 ab kb .byte (1 : Int32) [(.int (nar .byte (cc0.toInt8.toInt32)))] (.int 0) := Arv.set Ar118 q118 S118 N118 H118 G118 (fits_nar_byte (cc0.toInt8.toInt32)) W119 0 rfl (Nat.le_of_ble_eq_true rfl)
  have N119 := Fr.snoc X119 N0 g_ab
  have Zs119 : n0 ≤ h119.size := Nat.le_trans Z0 (Keep.of_wr W119).1
  have KK119 : Keep h0 h119 [ab] := (Keep.refl h0 _).wr W119 (Or.inl (List.mem_of_getElem? (i := 0) rfl))
  have f120 := Vc.other W119 nab
  obtain ⟨fs, hr, hrun, hended, hW, hsame⟩ := X119.leave (v := some (.int 1)) (fun h => by rw [Bd.returns] at h; cases h)
  refine ⟨_, _, pre0 _ ?_, hrun, hended, _, _, rfl, ?_, ⟨_, rfl⟩, hW, hsame.mono (by decide) (by decide)⟩
  · show Sp p e below m s₁ 0 #[vr ac, vi 0, vr ab, vi 0, vi 1, .unset, .unset] [] _
    refine XS.iconst X0.here hx rfl (hb hby d11_0) ?_
    refine XS.istore X0.here hx rfl (hb hby d11_1) rfl (l' := #[vr ac, vi 0, vr ab, vi 0, vi 1, vi 0, .unset]) rfl ?_
    refine XS.iload X0.here hx rfl (hb hby d11_3) rfl ?_
    refine XS.iload X0.here hx rfl (hb hby d11_5) rfl ?_
    refine XS.icmpNo X0.here hx rfl (hb hby d11_7) rfl (tlt (by decide : ((0 : Int32) < (1 : Int32)))).2.1 ?_
    refine XS.aloadN X0.here hx rfl (hb hby d11_10) rfl rfl ?_
    refine XS.iloadN X0.here hx rfl (hb hby d11_11) rfl ?_
    refine X0.caload hx (j := (0 : Int32)) (v := (.int cc0)) (by rw [e0]; exact Ar117.1) (State.isArrayOf_alike hZ.alike Ar117.2.1) Ar117.2.2 hin117 hat117 (g := (mkF m 12 #[vr ac, vi 0, vr ab, vi 0, vi 1, vi 0, .unset] [(.int 0), (.ref ac)])) rfl rfl (hb hby d11_12) _ ?_
    show Sp p e below m s₁ 13 #[vr ac, vi 0, vr ab, vi 0, vi 1, vi 0, .unset] [(.int cc0)] _
    refine XS.istore X0.here hx rfl (hb hby d11_13) rfl (l' := #[vr ac, vi 0, vr ab, vi 0, vi 1, vi 0, vi cc0]) rfl ?_
    refine XS.iload X0.here hx rfl (hb hby d11_15) rfl ?_
    refine XS.sipush X0.here hx rfl (hb hby d11_17) ?_
    refine XS.icmpYes X0.here hx rfl (pc0 := 20) (pc' := 26) rfl (hb hby d11_20) rfl (flt (own_le255 hp0 : ¬ ((255 : Int32) < cc0))).2.2.2 (by decide) (by decide) ?_
    refine XS.aloadN X0.here hx rfl (hb hby d11_26) rfl rfl ?_
    refine XS.iloadN X0.here hx rfl (hb hby d11_27) rfl ?_
    refine XS.iload X0.here hx rfl (hb hby d11_28) rfl ?_
    refine XS.i2b X0.here hx rfl (hb hby d11_30) rfl ?_
    show Sp p e below m s₁ 31 #[vr ac, vi 0, vr ab, vi 0, vi 1, vi 0, vi cc0] [(.int (cc0.toInt8.toInt32)), (.int 0), (.ref ab)] _
    refine st119 _ ?_
    show Sp p e below m T119 32 #[vr ac, vi 0, vr ab, vi 0, vi 1, vi 0, vi cc0] [] _
    refine XS.iinc X119.here hx rfl (hb hby d11_32) rfl (l' := #[vr ac, vi 1, vr ab, vi 0, vi 1, vi 0, vi cc0]) rfl ?_
    refine XS.iinc X119.here hx rfl (hb hby d11_35) rfl (l' := #[vr ac, vi 1, vr ab, vi 1, vi 1, vi 0, vi cc0]) rfl ?_
    refine XS.iinc X119.here hx rfl (hb hby d11_38) rfl (l' := #[vr ac, vi 1, vr ab, vi 1, vi 1, vi 1, vi cc0]) rfl ?_
    refine XS.goto X119.here hx rfl (pc0 := 41) (pc' := 3) rfl (hb hby d11_41) (by decide) (by decide) ?_
    refine XS.iload X119.here hx rfl (hb hby d11_3) rfl ?_
    refine XS.iload X119.here hx rfl (hb hby d11_5) rfl ?_
    refine XS.icmpYes X119.here hx rfl (pc0 := 7) (pc' := 44) rfl (hb hby d11_7) rfl (flt (by decide : ¬ ((1 : Int32) < (1 : Int32)))).2.1 (by decide) (by decide) ?_
    refine XS.iload X119.here hx rfl (hb hby d11_44) rfl ?_
    show Sp p e below m T119 46 #[vr ac, vi 1, vr ab, vi 1, vi 1, vi 1, vi cc0] [(.int 1)] _
    exact retI X119 hx Bd.returns (hb hby d11_46) hr
  · show Q11n1 Z ac ab kc cc0 kb h0 n0 _ T119.heap _
    rw [e119]
    exact ⟨rfl, N119, KK119, V119⟩
theorem d10_0 : decode jdk_52_method_16_code 0 = .ok (.iload_n 2, 1) := by decide +kernel
theorem d10_1 : decode jdk_52_method_16_code 1 = .ok (.newarray .byte, 2) := by decide +kernel
theorem d10_3 : decode jdk_52_method_16_code 3 = .ok (.astore_n 3, 1) := by decide +kernel
theorem d10_4 : decode jdk_52_method_16_code 4 = .ok (.aload_n 0, 1) := by decide +kernel
theorem d10_5 : decode jdk_52_method_16_code 5 = .ok (.iload_n 1, 1) := by decide +kernel
theorem d10_6 : decode jdk_52_method_16_code 6 = .ok (.aload_n 3, 1) := by decide +kernel
theorem d10_7 : decode jdk_52_method_16_code 7 = .ok (.iconst 0, 1) := by decide +kernel
theorem d10_8 : decode jdk_52_method_16_code 8 = .ok (.iload_n 2, 1) := by decide +kernel
theorem d10_9 : decode jdk_52_method_16_code 9 = .ok (.invokestatic 115, 3) := by decide +kernel
theorem own_pd66 : parseMethodDescriptor "([CI[BII)I" = some ⟨[(.array .char), .int, (.array .byte), .int, .int], some .int⟩ := by decide +kernel
theorem d10_12 : decode jdk_52_method_16_code 12 = .ok (.istore 4, 2) := by decide +kernel
theorem d10_14 : decode jdk_52_method_16_code 14 = .ok (.iload 4, 2) := by decide +kernel
theorem d10_16 : decode jdk_52_method_16_code 16 = .ok (.iload_n 2, 1) := by decide +kernel
theorem d10_17 : decode jdk_52_method_16_code 17 = .ok (.if_icmp .eq 40, 3) := by decide +kernel
theorem d10_57 : decode jdk_52_method_16_code 57 = .ok (.aload_n 3, 1) := by decide +kernel
theorem d10_58 : decode jdk_52_method_16_code 58 = .ok (.areturn, 1) := by decide +kernel
theorem ef_10n1 (m : MethodId) (x0 : Addr) : entryFrame m #[(.ref x0), (.int 0), (.int 1)] 6 = mkF m 0 #[.val (.ref x0), .val (.int 0), .val (.int 1), .unset, .unset, .unset] [] := by first | (simp [entryFrame, mkF, argsToLocals, Value.category]; done) | rfl
def Q10n1 (Z : State) (ac : Addr) (kc : ClassId) (cc0 : Int32) (h0 : Heap) (n0 : Nat) (v : Option Value) (h : Heap) (L : List Loc) : Prop := ∃ (rb : Addr) (rk : ClassId), v = some (.ref rb) ∧ Fr n0 L ∧ Keep h0 h [] ∧ Arv Z h rb rk .byte (1 : Int32) [(.int (nar .byte (cc0.toInt8.toInt32)))] (.int 0) ∧ n0 ≤ rb ∧ h0.size ≤ rb
theorem rm10n1 (l : Launch) (Z : State) (a0 : Array Value) (hw : ∀ d ∈ tables_1, d.before a0 Z = true) (ws : List Jvm.Cond) (ac : Addr) (kc : ClassId) (cc0 : Int32) (h0 : Heap) (n0 : Nat) (Z0 : n0 ≤ h0.size) (Vc : Arv Z h0 ac kc .char (1 : Int32) [(.int cc0)] (.int 0)) (hp0 : 0 ≤ cc0.toInt ∧ cc0.toInt ≤ 255) :
    MetFree l (⟨"java/lang/StringUTF16", "compress", "([CII)[B"⟩ : MethodName) (head1 (Jvm.Cond.code (⟨"java/lang/StringUTF16", "compress", "([CII)[B"⟩ : MethodName) jdk_52_method_16_code 6 (some (.array .byte)) :: ws) ({ frames := 1, cells := 1, slots := 1, locals := 18 } : Room)) (fun a U => a = #[(.ref ac), (.int 0), (.int 1)] ∧ Z.Warmed39 U.vm ∧ U.heap = h0) (fun _ _ _ _ _ => True) (fun _ U o U' => ∃ v L, o = .returned v ∧ Q10n1 Z ac kc cc0 h0 n0 v U'.heap L ∧ FrameEnd U o U' L ({ frames := 1, cells := 1, slots := 1, locals := 18 } : Room).cells ({ frames := 1, cells := 1, slots := 1, locals := 18 } : Room).slots) := by
  refine MetFree.of_bodySF (plainFor_of_name own_pn56) hisR ?_
  intro p e s m args below meth c s₁ Bd hml0 hP hK
  have H := fun i c (h : tables_1[i]? = some c) => hw c (List.mem_of_getElem? h)
  obtain ⟨rfl, hZ, hh⟩ := hP
  have hx := Bd.exec
  have hby := Bd.bytes
  have hml : c.maxLocals = 6 := hml0
  have hown : s.vm.findClass "java/lang/StringUTF16" = some m.cls := findClass_of_methodNamed Bd.named
  have hnm := (name_of_methodNamed Bd.named Bd.method).1
  have X0 : Stand p l e ({ frames := 1, cells := 1, slots := 1, locals := 18 } : Room) s m #[(.ref ac), (.int 0), (.int 1)] below meth c s₁ [] 0 0 := Stand.of_body Bd
  have e0 : s₁.heap = h0 := by rw [← hh, Bd.state]; rfl
  have N0 := Fr.nil n0
  have pre0 : ∀ t, Sp p e below m s₁ 0 #[vr ac, vi 0, vi 1, .unset, .unset, .unset] [] t → Steps p.tables e below (s₁.setTop (entryFrame m #[(.ref ac), (.int 0), (.int 1)] 6)) t := fun t k => castTop (ef_10n1 m ac) k
  generalize s₁.setTop (entryFrame m #[(.ref ac), (.int 0), (.int 1)] 6) = G0 at pre0 ⊢
  obtain ⟨T125, h125, k125, X125, e125, E125, A125, st125⟩ := newP X0 hx hZ (H 22 _ rfl) e0 (g := (mkF m 1 #[vr ac, vi 0, vi 1, .unset, .unset, .unset] [(.int 1)])) rfl (hb hby d10_1) rfl (by decide) (cap := 1) (by decide) (by decide) (by decide) (by decide)
  obtain ⟨b125, g125⟩ : ∃ z, z = h0.size := ⟨_, rfl⟩
  rw [← g125] at A125 st125
  have g_b125 : n0 ≤ b125 := Nat.le_trans Z0 (Nat.le_of_eq g125.symm)
  have sz_b125 : h0.size ≤ b125 := Nat.le_of_eq g125.symm
  have lt_ac_b125 : ac < b125 := Nat.lt_of_lt_of_le Vc.lt (Nat.le_of_eq g125.symm)
  have ne_ac_b125 : ac ≠ b125 := Nat.ne_of_lt lt_ac_b125
  have Zs125 : n0 ≤ h125.size := Nat.le_trans Z0 E125.1
  have KK125 : Keep h0 h125 [] := (Keep.refl h0 _).ext E125
  have f126 := Vc.ext E125
  have V125 : Arv Z h125 b125 k125 .byte (1 : Int32) [(.int 0)] (.int 0) := (Arv.new A125 (by decide)).pad (pad_rep [] (.int 0) 1)
  obtain ⟨_, _, ⟨T127, L127, k127, n127⟩, -, X127, ⟨Lc127, hQ127, l127, y127, z127⟩, st127⟩ := Jvm.LawKit.callS X125 hx hown (mvT hZ (H 67 _ rfl)) (mvT hZ (H 68 _ rfl)) (mvT hZ (H 65 _ rfl)) (mvT hZ (H 69 _ rfl)) (by decide) (backOf (W := 0) (rm11n1 l Z a0 hw [] ac b125 kc cc0 k125 h125 n0 Zs125 f126 V125 g_b125 ne_ac_b125 hp0) hZ (H 69 _ rfl) (H 65 _ rfl) (by decide) (by decide)) (g := (mkF m 9 #[vr ac, vi 0, vi 1, vr b125, .unset, .unset] [(.int 1), (.int 0), (.ref b125), (.int 0), (.ref ac)])) rfl (by rw [hml]; rfl) (argsL := [(.ref ac), (.int 0), (.ref b125), (.int 0), (.int 1)]) (rest := []) (lenOf own_pd66 rfl) rfl (Nat.le_of_eq rfl) (hb hby d10_9) (fun _ _ => ⟨rfl, e125, (by decide : 1 + 0 ≤ _), (by decide : 1 + 0 ≤ _)⟩)
  dsimp only [Pt.U, Pt.locs, Pt.cells, Pt.slots] at X127 l127 y127 z127 st127 hQ127
  rw [l127, y127, z127] at X127
  obtain ⟨rfl, Nq127, K127, p127_0⟩ := hQ127
  have N127 := Fr.app N0 Nq127
  have Zs127 : n0 ≤ T127.heap.size := Nat.le_trans Zs125 K127.1
  have KK127 : Keep h0 T127.heap [] := KK125.trans K127 (allS (Or.inr sz_b125) all0)
  have f128 := f126.keep K127 (ninS ne_ac_b125 nin0)
  obtain ⟨fs, hr, hrun, hended, hW, hsame⟩ := X127.leave (v := some (.ref b125)) (fun h => by rw [Bd.returns] at h; cases h)
  refine ⟨_, _, pre0 _ ?_, hrun, hended, _, _, rfl, ?_, ⟨_, rfl⟩, hW, hsame.mono (by decide) (by decide)⟩
  · show Sp p e below m s₁ 0 #[vr ac, vi 0, vi 1, .unset, .unset, .unset] [] _
    refine XS.iloadN X0.here hx rfl (hb hby d10_0) rfl ?_
    refine st125 _ ?_
    show Sp p e below m T125 3 #[vr ac, vi 0, vi 1, .unset, .unset, .unset] [(.ref b125)] _
    refine XS.astoreN X125.here hx rfl (hb hby d10_3) rfl rfl (l' := #[vr ac, vi 0, vi 1, vr b125, .unset, .unset]) rfl ?_
    refine XS.aloadN X125.here hx rfl (hb hby d10_4) rfl rfl ?_
    refine XS.iloadN X125.here hx rfl (hb hby d10_5) rfl ?_
    refine XS.aloadN X125.here hx rfl (hb hby d10_6) rfl rfl ?_
    refine XS.iconst X125.here hx rfl (hb hby d10_7) ?_
    refine XS.iloadN X125.here hx rfl (hb hby d10_8) rfl ?_
    refine st127 _ ?_
    show Sp p e below m T127 12 #[vr ac, vi 0, vi 1, vr b125, .unset, .unset] [(.int 1)] _
    refine XS.istore X127.here hx rfl (hb hby d10_12) rfl (l' := #[vr ac, vi 0, vi 1, vr b125, vi 1, .unset]) rfl ?_
    refine XS.iload X127.here hx rfl (hb hby d10_14) rfl ?_
    refine XS.iloadN X127.here hx rfl (hb hby d10_16) rfl ?_
    refine XS.icmpYes X127.here hx rfl (pc0 := 17) (pc' := 57) rfl (hb hby d10_17) rfl (teq (by decide : ((1 : Int32) = (1 : Int32)))).1 (by decide) (by decide) ?_
    refine XS.aloadN X127.here hx rfl (hb hby d10_57) rfl rfl ?_
    jvm_step X127.here [X127.here.top, hx, (hb hby d10_58), X127.method', Bd.returns, Value.isRef, FieldType.isReference]
    first | (intro acts; rw [hr _ acts rfl rfl rfl]) | rw [hr _ _ rfl rfl rfl]
    exact Steps.refl _
  · show Q10n1 Z ac kc cc0 h0 n0 _ T127.heap _
    exact ⟨b125, k125, rfl, N127, KK127, p127_0, g_b125, sz_b125⟩
theorem d12_0 : decode jdk_52_method_15_code 0 = .ok (.iload_n 1, 1) := by decide +kernel
theorem d12_1 : decode jdk_52_method_15_code 1 = .ok (.aload_n 0, 1) := by decide +kernel
theorem d12_2 : decode jdk_52_method_15_code 2 = .ok (.arraylength, 1) := by decide +kernel
theorem d12_3 : decode jdk_52_method_15_code 3 = .ok (.isub, 1) := by decide +kernel
theorem d12_4 : decode jdk_52_method_15_code 4 = .ok (.bipush 31, 2) := by decide +kernel
theorem d12_6 : decode jdk_52_method_15_code 6 = .ok (.iushr, 1) := by decide +kernel
theorem d12_7 : decode jdk_52_method_15_code 7 = .ok (.i2b, 1) := by decide +kernel
theorem d12_8 : decode jdk_52_method_15_code 8 = .ok (.ireturn, 1) := by decide +kernel
theorem ef_12n1 (m : MethodId) (x0 : Addr) : entryFrame m #[(.ref x0), (.int 1)] 2 = mkF m 0 #[.val (.ref x0), .val (.int 1)] [] := by first | (simp [entryFrame, mkF, argsToLocals, Value.category]; done) | rfl
def Q12n1 (Z : State) (ab : Addr) (kb : ClassId) (vs : List Value) (h0 : Heap) (n0 : Nat) (v : Option Value) (h : Heap) (L : List Loc) : Prop := v = some (.int 0) ∧ Fr n0 L ∧ h = h0
theorem rm12n1 (l : Launch) (Z : State) (a0 : Array Value) (hw : ∀ d ∈ tables_1, d.before a0 Z = true) (ws : List Jvm.Cond) (ab : Addr) (kb : ClassId) (vs : List Value) (h0 : Heap) (n0 : Nat) (Z0 : n0 ≤ h0.size) (Vb : Arv Z h0 ab kb .byte (1 : Int32) vs (.int 0)) :
    MetFree l (⟨"java/lang/StringUTF16", "coderFromArrayLen", "([BI)B"⟩ : MethodName) (head1 (Jvm.Cond.code (⟨"java/lang/StringUTF16", "coderFromArrayLen", "([BI)B"⟩ : MethodName) jdk_52_method_15_code 2 (some .byte) :: ws) ({ frames := 0, cells := 0, slots := 0, locals := 0 } : Room)) (fun a U => a = #[(.ref ab), (.int 1)] ∧ Z.Warmed39 U.vm ∧ U.heap = h0) (fun _ _ _ _ _ => True) (fun _ U o U' => ∃ v L, o = .returned v ∧ Q12n1 Z ab kb vs h0 n0 v U'.heap L ∧ FrameEnd U o U' L ({ frames := 0, cells := 0, slots := 0, locals := 0 } : Room).cells ({ frames := 0, cells := 0, slots := 0, locals := 0 } : Room).slots) := by
  refine MetFree.of_bodySF (plainFor_of_name own_pn56) hisR ?_
  intro p e s m args below meth c s₁ Bd hml0 hP hK
  have H := fun i c (h : tables_1[i]? = some c) => hw c (List.mem_of_getElem? h)
  obtain ⟨rfl, hZ, hh⟩ := hP
  have hx := Bd.exec
  have hby := Bd.bytes
  have hml : c.maxLocals = 2 := hml0
  have hown : s.vm.findClass "java/lang/StringUTF16" = some m.cls := findClass_of_methodNamed Bd.named
  have hnm := (name_of_methodNamed Bd.named Bd.method).1
  have X0 : Stand p l e ({ frames := 0, cells := 0, slots := 0, locals := 0 } : Room) s m #[(.ref ab), (.int 1)] below meth c s₁ [] 0 0 := Stand.of_body Bd
  have e0 : s₁.heap = h0 := by rw [← hh, Bd.state]; rfl
  have N0 := Fr.nil n0
  have pre0 : ∀ t, Sp p e below m s₁ 0 #[vr ab, vi 1] [] t → Steps p.tables e below (s₁.setTop (entryFrame m #[(.ref ab), (.int 1)] 2)) t := fun t k => castTop (ef_12n1 m ab) k
  generalize s₁.setTop (entryFrame m #[(.ref ab), (.int 1)] 2) = G0 at pre0 ⊢
  obtain ⟨cl130, Ar130, -, S130, M130, -, -⟩ := id Vb
  obtain ⟨fs, hr, hrun, hended, hW, hsame⟩ := X0.leave (v := some (.int (nar .byte (0 : Int32)))) (fun h => by rw [Bd.returns] at h; cases h)
  refine ⟨_, _, pre0 _ ?_, hrun, hended, _, _, rfl, ?_, ⟨_, rfl⟩, hW, hsame.mono (by decide) (by decide)⟩
  · show Sp p e below m s₁ 0 #[vr ab, vi 1] [] _
    refine XS.iloadN X0.here hx rfl (hb hby d12_0) rfl ?_
    refine XS.aloadN X0.here hx rfl (hb hby d12_1) rfl rfl ?_
    refine X0.arraylength hx (by rw [e0]; exact Ar130.1) (State.isArrayOf_alike hZ.alike Ar130.2.1) (g := (mkF m 2 #[vr ab, vi 1] [(.ref ab), (.int 1)])) rfl rfl (hb hby d12_2) _ ?_
    rw [len_of S130 M130]
    show Sp p e below m s₁ 3 #[vr ab, vi 1] [(.int 1), (.int 1)] _
    refine XS.isub X0.here hx rfl (hb hby d12_3) rfl ?_
    refine XS.bipush X0.here hx rfl (hb hby d12_4) ?_
    refine XS.iushr X0.here hx rfl (hb hby d12_6) rfl ?_
    refine XS.i2b X0.here hx rfl (hb hby d12_7) rfl ?_
    exact retN X0 hx (t := .byte) Bd.returns (by simp) (hb hby d12_8) hr
  · show Q12n1 Z ab kb vs h0 n0 _ s₁.heap _
    rw [e0]
    exact ⟨rfl, N0, rfl⟩
theorem d4_27 : decode jdk_42_method_149_code 27 = .ok (.getstatic 38, 3) := by decide +kernel
theorem d4_30 : decode jdk_42_method_149_code 30 = .ok (.ifCond .eq 28, 3) := by decide +kernel
theorem d4_33 : decode jdk_42_method_149_code 33 = .ok (.aload_n 1, 1) := by decide +kernel
theorem d4_34 : decode jdk_42_method_149_code 34 = .ok (.iload_n 2, 1) := by decide +kernel
theorem d4_35 : decode jdk_42_method_149_code 35 = .ok (.iload_n 3, 1) := by decide +kernel
theorem d4_36 : decode jdk_42_method_149_code 36 = .ok (.invokestatic 177, 3) := by decide +kernel
theorem own_pd87 : parseMethodDescriptor "([CII)[B" = some ⟨[(.array .char), .int, .int], some (.array .byte)⟩ := by decide +kernel
theorem d4_39 : decode jdk_42_method_149_code 39 = .ok (.astore 5, 2) := by decide +kernel
theorem d4_41 : decode jdk_42_method_149_code 41 = .ok (.aload_n 0, 1) := by decide +kernel
theorem d4_42 : decode jdk_42_method_149_code 42 = .ok (.aload 5, 2) := by decide +kernel
theorem d4_44 : decode jdk_42_method_149_code 44 = .ok (.iload_n 3, 1) := by decide +kernel
theorem d4_45 : decode jdk_42_method_149_code 45 = .ok (.invokestatic 47, 3) := by decide +kernel
theorem own_pd93 : parseMethodDescriptor "([BI)B" = some ⟨[(.array .byte), .int], some .byte⟩ := by decide +kernel
theorem d4_48 : decode jdk_42_method_149_code 48 = .ok (.putfield 15, 3) := by decide +kernel
theorem d4_51 : decode jdk_42_method_149_code 51 = .ok (.aload_n 0, 1) := by decide +kernel
theorem d4_52 : decode jdk_42_method_149_code 52 = .ok (.aload 5, 2) := by decide +kernel
theorem d4_54 : decode jdk_42_method_149_code 54 = .ok (.putfield 9, 3) := by decide +kernel
theorem d4_57 : decode jdk_42_method_149_code 57 = .ok (.return_, 1) := by decide +kernel
theorem ef_4n1 (m : MethodId) (x0 : Addr) (x1 : Addr) : entryFrame m #[(.ref x0), (.ref x1), (.int 0), (.int 1), .null] 6 = mkF m 0 #[.val (.ref x0), .val (.ref x1), .val (.int 0), .val (.int 1), .val .null, .unset] [] := by first | (simp [entryFrame, mkF, argsToLocals, Value.category]; done) | rfl
def Q4n1 (Z : State) (aa : Addr) (ac : Addr) (cs : Int32) (vf : Value) (kc : ClassId) (cc0 : Int32) (h0 : Heap) (n0 : Nat) (v : Option Value) (h : Heap) (L : List Loc) : Prop := ∃ (rb : Addr) (rk : ClassId), v = none ∧ Fr n0 L ∧ Keep h0 h [aa] ∧ Exa Z h aa "java/lang/String" ∧ Fld Z h aa "java/lang/String" "value" "[B" (.ref rb) ∧ Fld Z h aa "java/lang/String" "coder" "B" (.int 0) ∧ Arv Z h rb rk .byte (1 : Int32) [(.int (nar .byte (cc0.toInt8.toInt32)))] (.int 0) ∧ n0 ≤ rb ∧ h0.size ≤ rb
theorem rm4n1 (l : Launch) (Z : State) (a0 : Array Value) (hw : ∀ d ∈ tables_1, d.before a0 Z = true) (ws : List Jvm.Cond) (aa : Addr) (ac : Addr) (cs : Int32) (vf : Value) (kc : ClassId) (cc0 : Int32) (h0 : Heap) (n0 : Nat) (Z0 : n0 ≤ h0.size) (O0 : Old Z n0 h0) (Scs : Sta Z Z.heap "java/lang/String" "COMPACT_STRINGS" "Z" (.int cs)) (hcs : ¬ cs = (0 : Int32)) (Ssf : Sta Z Z.heap "jdk/internal/util/Preconditions" "SIOOBE_FORMATTER" "Ljava/util/function/BiFunction;" vf) (hvf : vf.isRef = true) (Ea : Exa Z h0 aa "java/lang/String") (Fv : Fld Z h0 aa "java/lang/String" "value" "[B" .null) (Fc : Fld Z h0 aa "java/lang/String" "coder" "B" (.int 0)) (g_aa : n0 ≤ aa) (Vc : Arv Z h0 ac kc .char (1 : Int32) [(.int cc0)] (.int 0)) (nac : aa ≠ ac) (hp0 : 0 ≤ cc0.toInt ∧ cc0.toInt ≤ 255) :
    MetFree l (⟨"java/lang/String", "<init>", "([CIILjava/lang/Void;)V"⟩ : MethodName) (head1 (Jvm.Cond.code (⟨"java/lang/String", "<init>", "([CIILjava/lang/Void;)V"⟩ : MethodName) jdk_42_method_149_code 6 none :: ws) ({ frames := 2, cells := 1, slots := 1, locals := 35 } : Room)) (fun a U => a = #[(.ref aa), (.ref ac), (.int 0), (.int 1), .null] ∧ Z.Warmed39 U.vm ∧ U.heap = h0) (fun _ _ _ _ _ => True) (fun _ U o U' => ∃ v L, o = .returned v ∧ Q4n1 Z aa ac cs vf kc cc0 h0 n0 v U'.heap L ∧ FrameEnd U o U' L ({ frames := 2, cells := 1, slots := 1, locals := 35 } : Room).cells ({ frames := 2, cells := 1, slots := 1, locals := 35 } : Room).slots) := by
  refine MetFree.of_bodySF (plainFor_of_name own_pn13) hisR ?_
  intro p e s m args below meth c s₁ Bd hml0 hP hK
  have H := fun i c (h : tables_1[i]? = some c) => hw c (List.mem_of_getElem? h)
  obtain ⟨rfl, hZ, hh⟩ := hP
  have hx := Bd.exec
  have hby := Bd.bytes
  have hml : c.maxLocals = 6 := hml0
  have hown : s.vm.findClass "java/lang/String" = some m.cls := findClass_of_methodNamed Bd.named
  have hnm := (name_of_methodNamed Bd.named Bd.method).1
  have X0 : Stand p l e ({ frames := 2, cells := 1, slots := 1, locals := 35 } : Room) s m #[(.ref aa), (.ref ac), (.int 0), (.int 1), .null] below meth c s₁ [] 0 0 := Stand.of_body Bd
  have e0 : s₁.heap = h0 := by rw [← hh, Bd.state]; rfl
  have N0 := Fr.nil n0
  have pre0 : ∀ t, Sp p e below m s₁ 0 #[vr aa, vr ac, vi 0, vi 1, .val .null, .unset] [] t → Steps p.tables e below (s₁.setTop (entryFrame m #[(.ref aa), (.ref ac), (.int 0), (.int 1), .null] 6)) t := fun t k => castTop (ef_4n1 m aa ac) k
  generalize s₁.setTop (entryFrame m #[(.ref aa), (.ref ac), (.int 0), (.int 1), .null] 6) = G0 at pre0 ⊢
  obtain ⟨T157, X157, e157, st157⟩ := initO X0 hx hZ hown (H 18 _ rfl) (H 19 _ rfl) (H 20 _ rfl) e0 (g := (mkF m 1 #[vr aa, vr ac, vi 0, vi 1, .val .null, .unset] [(.ref aa)])) rfl (by rw [hml]; rfl) rfl (hb hby d4_1) (by decide) (W := 0) (Nat.le_of_eq rfl) (by decide)
  obtain ⟨T158, X158, e158, st158⟩ := getS2 X157 hx hZ hown (host := "") (Or.inl (H 60 _ rfl)) Via.refl e157 (Scs.ext O0.2) (g := (mkF m 27 #[vr aa, vr ac, vi 0, vi 1, .val .null, .unset] [])) rfl (hb hby d4_27)
  obtain ⟨_, _, ⟨T159, L159, k159, n159⟩, -, X159, ⟨Lc159, hQ159, l159, y159, z159⟩, st159⟩ := Jvm.LawKit.callS X158 hx hown (mvT hZ (H 63 _ rfl)) (mvT hZ (H 64 _ rfl)) (mvT hZ (H 65 _ rfl)) (mvT hZ (H 66 _ rfl)) (by decide) (backOf (W := 0) (rm10n1 l Z a0 hw [] ac kc cc0 h0 n0 Z0 Vc hp0) hZ (H 66 _ rfl) (H 65 _ rfl) (by decide) (by decide)) (g := (mkF m 36 #[vr aa, vr ac, vi 0, vi 1, .val .null, .unset] [(.int 1), (.int 0), (.ref ac)])) rfl (by rw [hml]; rfl) (argsL := [(.ref ac), (.int 0), (.int 1)]) (rest := []) (lenOf own_pd87 rfl) rfl (Nat.le_of_eq rfl) (hb hby d4_36) (fun _ _ => ⟨rfl, e158, (by decide : 0 + 1 ≤ _), (by decide : 0 + 1 ≤ _)⟩)
  dsimp only [Pt.U, Pt.locs, Pt.cells, Pt.slots] at X159 l159 y159 z159 st159 hQ159
  rw [l159, y159, z159] at X159
  obtain ⟨rrb_159, rrk_159, rfl, Nq159, K159, p159_0, p159_1, p159_2⟩ := hQ159
  have N159 := Fr.app N0 Nq159
  have Zs159 : n0 ≤ T159.heap.size := Nat.le_trans Z0 K159.1
  have KK159 : Keep h0 T159.heap [aa] := (Keep.refl h0 _).trans K159 all0
  have ne_aa_rrb_159 : aa ≠ rrb_159 := Nat.ne_of_lt (Nat.lt_of_lt_of_le Ea.lt p159_2)
  have ne_ac_rrb_159 : ac ≠ rrb_159 := Nat.ne_of_lt (Nat.lt_of_lt_of_le Vc.lt p159_2)
  have sz_rrb_159 : h0.size ≤ rrb_159 := p159_2
  have O159 := O0.keep K159 (all0)
  have f160 := Scs.ext O159.2
  have f161 := Ssf.ext O159.2
  have f162 := Ea.keep K159
  have f163 := Fv.keep K159 nin0
  have f164 := Fc.keep K159 nin0
  have f165 := Vc.keep K159 nin0
  have g_rrb_159 := p159_1
  obtain ⟨_, _, ⟨T166, L166, k166, n166⟩, -, X166, ⟨Lc166, hQ166, l166, y166, z166⟩, st166⟩ := Jvm.LawKit.callS X159 hx hown (mvT hZ (H 70 _ rfl)) (mvT hZ (H 71 _ rfl)) (mvT hZ (H 65 _ rfl)) (mvT hZ (H 72 _ rfl)) (by decide) (backOf (W := 1) (rm12n1 l Z a0 hw [] rrb_159 rrk_159 [(.int (nar .byte (cc0.toInt8.toInt32)))] T159.heap n0 Zs159 p159_0) hZ (H 72 _ rfl) (H 65 _ rfl) (by decide) (by decide)) (g := (mkF m 45 #[vr aa, vr ac, vi 0, vi 1, .val .null, vr rrb_159] [(.int 1), (.ref rrb_159), (.ref aa)])) rfl (by rw [hml]; rfl) (argsL := [(.ref rrb_159), (.int 1)]) (rest := [(.ref aa)]) (lenOf own_pd93 rfl) rfl (Nat.le_of_eq rfl) (hb hby d4_45) (fun _ _ => ⟨rfl, rfl, (by decide : 1 + 0 ≤ _), (by decide : 1 + 0 ≤ _)⟩)
  dsimp only [Pt.U, Pt.locs, Pt.cells, Pt.slots] at X166 l166 y166 z166 st166 hQ166
  rw [l166, y166, z166] at X166
  obtain ⟨rfl, Nq166, e166⟩ := hQ166
  have N166 := Fr.app N159 Nq166
  obtain ⟨T167, h167, X167, e167, W167, st167⟩ := putFN X166 hx hZ hown (H 28 _ rfl) Via.refl e166 f164 f162 (Or.inr ⟨(H 24 _ rfl), rfl, hnm⟩) (H 8 _ rfl) (ty := .byte) (v' := (.int 0)) (by decide) rfl (fits_nar_byte (0 : Int32)) (g := (mkF m 48 #[vr aa, vr ac, vi 0, vi 1, .val .null, vr rrb_159] [(.int 0), (.ref aa)])) rfl rfl (hb hby d4_48)
  have N167 := Fr.snoc X167 N166 g_aa
  have Zs167 : n0 ≤ h167.size := Nat.le_trans Zs159 (Keep.of_wr W167).1
  have KK167 : Keep h0 h167 [aa] := KK159.wr W167 (Or.inl (List.mem_of_getElem? (i := 0) rfl))
  have O167 := O159.wr W167 g_aa
  have f168 := f160.wr W167
  have f169 := f161.wr W167
  have f170 := f162.wr W167
  have f171 := f163.other W167 (Or.inr (slot_ne (Or.inr (H 23 _ rfl)) (Or.inr (H 24 _ rfl)) (by decide) (t := (.array .byte)) (t' := .byte) (by decide) (by decide)))
  have f172 := f164.same W167
  have f173 := f165.other W167 (Ne.symm nac)
  have f174 := p159_0.other W167 (Ne.symm ne_aa_rrb_159)
  obtain ⟨T175, h175, X175, e175, W175, st175⟩ := putF X167 hx hZ hown (host := "") (Or.inl (H 27 _ rfl)) Via.refl e167 f171 f170 (Or.inr ⟨(H 23 _ rfl), rfl, hnm⟩) (H 8 _ rfl) (ty := (.array .byte)) (by decide) rfl rfl (g := (mkF m 54 #[vr aa, vr ac, vi 0, vi 1, .val .null, vr rrb_159] [(.ref rrb_159), (.ref aa)])) rfl rfl (hb hby d4_54)
  have N175 := Fr.snoc X175 N167 g_aa
  have Zs175 : n0 ≤ h175.size := Nat.le_trans Zs167 (Keep.of_wr W175).1
  have KK175 : Keep h0 h175 [aa] := KK167.wr W175 (Or.inl (List.mem_of_getElem? (i := 0) rfl))
  have O175 := O167.wr W175 g_aa
  have f176 := f168.wr W175
  have f177 := f169.wr W175
  have f178 := f170.wr W175
  have f179 := f171.same W175
  have f180 := f172.other W175 (Or.inr (slot_ne (Or.inr (H 24 _ rfl)) (Or.inr (H 23 _ rfl)) (by decide) (t := .byte) (t' := (.array .byte)) (by decide) (by decide)))
  have f181 := f173.other W175 (Ne.symm nac)
  have f182 := f174.other W175 (Ne.symm ne_aa_rrb_159)
  obtain ⟨fs, hr, hrun, hended, hW, hsame⟩ := X175.leave (v := none) (fun _ => rfl)
  refine ⟨_, _, pre0 _ ?_, hrun, hended, _, _, rfl, ?_, ⟨_, rfl⟩, hW, hsame.mono (by decide) (by decide)⟩
  · show Sp p e below m s₁ 0 #[vr aa, vr ac, vi 0, vi 1, .val .null, .unset] [] _
    refine XS.aloadN X0.here hx rfl (hb hby d4_0) rfl rfl ?_
    refine st157 _ ?_
    show Sp p e below m T157 4 #[vr aa, vr ac, vi 0, vi 1, .val .null, .unset] [] _
    refine XS.iloadN X157.here hx rfl (hb hby d4_4) rfl ?_
    refine XS.ifYes X157.here hx rfl (pc0 := 5) (pc' := 27) rfl (hb hby d4_5) rfl ((if0 _ _).trans (feq (by decide : ¬ ((1 : Int32) = (0 : Int32)))).2) (by decide) (by decide) ?_
    refine st158 _ ?_
    show Sp p e below m T158 30 #[vr aa, vr ac, vi 0, vi 1, .val .null, .unset] [(.int cs)] _
    refine XS.ifNo X158.here hx rfl (hb hby d4_30) rfl ((if0 _ _).trans (feq (hcs : ¬ (cs = (0 : Int32)))).1) ?_
    refine XS.aloadN X158.here hx rfl (hb hby d4_33) rfl rfl ?_
    refine XS.iloadN X158.here hx rfl (hb hby d4_34) rfl ?_
    refine XS.iloadN X158.here hx rfl (hb hby d4_35) rfl ?_
    refine st159 _ ?_
    show Sp p e below m T159 39 #[vr aa, vr ac, vi 0, vi 1, .val .null, .unset] [(.ref rrb_159)] _
    refine XS.astore X159.here hx rfl (hb hby d4_39) rfl rfl (l' := #[vr aa, vr ac, vi 0, vi 1, .val .null, vr rrb_159]) rfl ?_
    refine XS.aloadN X159.here hx rfl (hb hby d4_41) rfl rfl ?_
    refine XS.aload X159.here hx rfl (hb hby d4_42) rfl rfl ?_
    refine XS.iloadN X159.here hx rfl (hb hby d4_44) rfl ?_
    refine st166 _ ?_
    show Sp p e below m T166 48 #[vr aa, vr ac, vi 0, vi 1, .val .null, vr rrb_159] [(.int 0), (.ref aa)] _
    refine st167 _ ?_
    show Sp p e below m T167 51 #[vr aa, vr ac, vi 0, vi 1, .val .null, vr rrb_159] [] _
    refine XS.aloadN X167.here hx rfl (hb hby d4_51) rfl rfl ?_
    refine XS.aload X167.here hx rfl (hb hby d4_52) rfl rfl ?_
    refine st175 _ ?_
    show Sp p e below m T175 57 #[vr aa, vr ac, vi 0, vi 1, .val .null, vr rrb_159] [] _
    exact X175.returnOut hx Bd.returns (hb hby d4_57) hr
  · show Q4n1 Z aa ac cs vf kc cc0 h0 n0 _ T175.heap _
    rw [e175]
    exact ⟨rrb_159, rrk_159, rfl, N175, KK175, f178, f179, f180, f182, g_rrb_159, sz_rrb_159⟩
theorem ef_3n1 (m : MethodId) (x0 : Addr) (x1 : Addr) : entryFrame m #[(.ref x0), (.ref x1)] 2 = mkF m 0 #[.val (.ref x0), .val (.ref x1)] [] := by first | (simp [entryFrame, mkF, argsToLocals, Value.category]; done) | rfl
def Q3n1 (Z : State) (aa : Addr) (ac : Addr) (cs : Int32) (vf : Value) (kc : ClassId) (cc0 : Int32) (h0 : Heap) (n0 : Nat) (v : Option Value) (h : Heap) (L : List Loc) : Prop := ∃ (rb : Addr) (rk : ClassId), v = none ∧ Fr n0 L ∧ Keep h0 h [aa] ∧ Exa Z h aa "java/lang/String" ∧ Fld Z h aa "java/lang/String" "value" "[B" (.ref rb) ∧ Fld Z h aa "java/lang/String" "coder" "B" (.int 0) ∧ Arv Z h rb rk .byte (1 : Int32) [(.int (nar .byte (cc0.toInt8.toInt32)))] (.int 0) ∧ n0 ≤ rb ∧ h0.size ≤ rb
theorem rm3n1 (l : Launch) (Z : State) (a0 : Array Value) (hw : ∀ d ∈ tables_1, d.before a0 Z = true) (ws : List Jvm.Cond) (aa : Addr) (ac : Addr) (cs : Int32) (vf : Value) (kc : ClassId) (cc0 : Int32) (h0 : Heap) (n0 : Nat) (Z0 : n0 ≤ h0.size) (O0 : Old Z n0 h0) (Scs : Sta Z Z.heap "java/lang/String" "COMPACT_STRINGS" "Z" (.int cs)) (hcs : ¬ cs = (0 : Int32)) (Ssf : Sta Z Z.heap "jdk/internal/util/Preconditions" "SIOOBE_FORMATTER" "Ljava/util/function/BiFunction;" vf) (hvf : vf.isRef = true) (Ea : Exa Z h0 aa "java/lang/String") (Fv : Fld Z h0 aa "java/lang/String" "value" "[B" .null) (Fc : Fld Z h0 aa "java/lang/String" "coder" "B" (.int 0)) (g_aa : n0 ≤ aa) (Vc : Arv Z h0 ac kc .char (1 : Int32) [(.int cc0)] (.int 0)) (nac : aa ≠ ac) (hp0 : 0 ≤ cc0.toInt ∧ cc0.toInt ≤ 255) :
    MetFree l (⟨"java/lang/String", "<init>", "([C)V"⟩ : MethodName) (head1 (Jvm.Cond.code (⟨"java/lang/String", "<init>", "([C)V"⟩ : MethodName) jdk_42_method_3_code 2 none :: ws) ({ frames := 3, cells := 1, slots := 1, locals := 52 } : Room)) (fun a U => a = #[(.ref aa), (.ref ac)] ∧ Z.Warmed39 U.vm ∧ U.heap = h0) (fun _ _ _ _ _ => True) (fun _ U o U' => ∃ v L, o = .returned v ∧ Q3n1 Z aa ac cs vf kc cc0 h0 n0 v U'.heap L ∧ FrameEnd U o U' L ({ frames := 3, cells := 1, slots := 1, locals := 52 } : Room).cells ({ frames := 3, cells := 1, slots := 1, locals := 52 } : Room).slots) := by
  refine MetFree.of_bodySF (plainFor_of_name own_pn13) hisR ?_
  intro p e s m args below meth c s₁ Bd hml0 hP hK
  have H := fun i c (h : tables_1[i]? = some c) => hw c (List.mem_of_getElem? h)
  obtain ⟨rfl, hZ, hh⟩ := hP
  have hx := Bd.exec
  have hby := Bd.bytes
  have hml : c.maxLocals = 2 := hml0
  have hown : s.vm.findClass "java/lang/String" = some m.cls := findClass_of_methodNamed Bd.named
  have hnm := (name_of_methodNamed Bd.named Bd.method).1
  have X0 : Stand p l e ({ frames := 3, cells := 1, slots := 1, locals := 52 } : Room) s m #[(.ref aa), (.ref ac)] below meth c s₁ [] 0 0 := Stand.of_body Bd
  have e0 : s₁.heap = h0 := by rw [← hh, Bd.state]; rfl
  have N0 := Fr.nil n0
  have pre0 : ∀ t, Sp p e below m s₁ 0 #[vr aa, vr ac] [] t → Steps p.tables e below (s₁.setTop (entryFrame m #[(.ref aa), (.ref ac)] 2)) t := fun t k => castTop (ef_3n1 m aa ac) k
  generalize s₁.setTop (entryFrame m #[(.ref aa), (.ref ac)] 2) = G0 at pre0 ⊢
  obtain ⟨cl189, Ar189, -, S189, M189, -, -⟩ := id Vc
  obtain ⟨_, _, ⟨T190, L190, k190, n190⟩, -, X190, ⟨Lc190, hQ190, l190, y190, z190⟩, st190⟩ := X0.specialBack hx (y := (⟨"java/lang/String", "<init>", "([CIILjava/lang/Void;)V"⟩ : MethodName)) rfl hown (mvT hZ (H 14 _ rfl)) (mvT hZ (H 15 _ rfl)) (mvT hZ (H 17 _ rfl)) (by decide) (backOf (W := 0) (rm4n1 l Z a0 hw [] aa ac cs vf kc cc0 h0 n0 Z0 O0 Scs hcs Ssf hvf Ea Fv Fc g_aa Vc nac hp0) hZ (H 17 _ rfl) (H 9 _ rfl) (by decide) (by decide)) (g := (mkF m 6 #[vr aa, vr ac] [.null, (.int 1), (.int 0), (.ref ac), (.ref aa)])) rfl (by rw [hml]; rfl) (Steps.refl _) (a := aa) (argsL := [(.ref ac), (.int 0), (.int 1), .null]) (rest := []) (lenOf own_pd21 rfl) rfl (Nat.le_of_eq rfl) (hb hby d3_6) (fun _ _ => ⟨rfl, e0, (by decide : 0 + 1 ≤ _), (by decide : 0 + 1 ≤ _)⟩)
  dsimp only [Pt.U, Pt.locs, Pt.cells, Pt.slots] at X190 l190 y190 z190 st190 hQ190
  rw [l190, y190, z190] at X190
  obtain ⟨rrb_190, rrk_190, rfl, Nq190, K190, p190_0, p190_1, p190_2, p190_3, p190_4, p190_5⟩ := hQ190
  have N190 := Fr.app N0 Nq190
  have Zs190 : n0 ≤ T190.heap.size := Nat.le_trans Z0 K190.1
  have KK190 : Keep h0 T190.heap [aa] := (Keep.refl h0 _).trans K190 (allS (Or.inl (List.mem_of_getElem? (i := 0) rfl)) all0)
  have ne_aa_rrb_190 : aa ≠ rrb_190 := Nat.ne_of_lt (Nat.lt_of_lt_of_le Ea.lt p190_5)
  have ne_ac_rrb_190 : ac ≠ rrb_190 := Nat.ne_of_lt (Nat.lt_of_lt_of_le Vc.lt p190_5)
  have sz_rrb_190 : h0.size ≤ rrb_190 := p190_5
  have O190 := O0.keep K190 (allS g_aa all0)
  have f191 := Scs.ext O190.2
  have f192 := Ssf.ext O190.2
  have f193 := Ea.keep K190
  have f194 := Vc.keep K190 (ninS (Ne.symm nac) nin0)
  have g_rrb_190 := p190_4
  obtain ⟨fs, hr, hrun, hended, hW, hsame⟩ := X190.leave (v := none) (fun _ => rfl)
  refine ⟨_, _, pre0 _ ?_, hrun, hended, _, _, rfl, ?_, ⟨_, rfl⟩, hW, hsame.mono (by decide) (by decide)⟩
  · show Sp p e below m s₁ 0 #[vr aa, vr ac] [] _
    refine XS.aloadN X0.here hx rfl (hb hby d3_0) rfl rfl ?_
    refine XS.aloadN X0.here hx rfl (hb hby d3_1) rfl rfl ?_
    refine XS.iconst X0.here hx rfl (hb hby d3_2) ?_
    refine XS.aloadN X0.here hx rfl (hb hby d3_3) rfl rfl ?_
    refine X0.arraylength hx (by rw [e0]; exact Ar189.1) (State.isArrayOf_alike hZ.alike Ar189.2.1) (g := (mkF m 4 #[vr aa, vr ac] [(.ref ac), (.int 0), (.ref ac), (.ref aa)])) rfl rfl (hb hby d3_4) _ ?_
    rw [len_of S189 M189]
    show Sp p e below m s₁ 5 #[vr aa, vr ac] [(.int 1), (.int 0), (.ref ac), (.ref aa)] _
    refine XS.aconstNull X0.here hx rfl (hb hby d3_5) ?_
    refine st190.trans ?_
    show Sp p e below m T190 9 #[vr aa, vr ac] [] _
    exact X190.returnOut hx Bd.returns (hb hby d3_9) hr
  · show Q3n1 Z aa ac cs vf kc cc0 h0 n0 _ T190.heap _
    exact ⟨rrb_190, rrk_190, rfl, N190, KK190, p190_0, p190_1, p190_2, p190_3, g_rrb_190, sz_rrb_190⟩
theorem d2_15 : decode method_6_code 15 = .ok (.iload_n 0, 1) := by decide +kernel
theorem d2_16 : decode method_6_code 16 = .ok (.iconst 1, 1) := by decide +kernel
theorem d2_17 : decode method_6_code 17 = .ok (.if_icmp .ne 18, 3) := by decide +kernel
theorem d2_20 : decode method_6_code 20 = .ok (.new 41, 3) := by decide +kernel
theorem d2_23 : decode method_6_code 23 = .ok (.dup, 1) := by decide +kernel
theorem d2_24 : decode method_6_code 24 = .ok (.iconst 1, 1) := by decide +kernel
theorem d2_25 : decode method_6_code 25 = .ok (.newarray .char, 2) := by decide +kernel
theorem d2_27 : decode method_6_code 27 = .ok (.dup, 1) := by decide +kernel
theorem d2_28 : decode method_6_code 28 = .ok (.iconst 0, 1) := by decide +kernel
theorem d2_29 : decode method_6_code 29 = .ok (.iload_n 1, 1) := by decide +kernel
theorem d2_30 : decode method_6_code 30 = .ok (.castore, 1) := by decide +kernel
theorem d2_31 : decode method_6_code 31 = .ok (.invokespecial 43, 3) := by decide +kernel
theorem d2_34 : decode method_6_code 34 = .ok (.areturn, 1) := by decide +kernel
theorem ef_2n1 (m : MethodId) (x1 : Int32) (x2 : Int32) (x3 : Int32) (x4 : Int32) : entryFrame m #[(.int 1), (.int x1), (.int x2), (.int x3), (.int x4)] 5 = mkF m 0 #[.val (.int 1), .val (.int x1), .val (.int x2), .val (.int x3), .val (.int x4)] [] := by first | (simp [entryFrame, mkF, argsToLocals, Value.category]; done) | rfl
def Q2n1 (Z : State) (pa0 : Int32) (pa1 : Int32) (pa2 : Int32) (pa3 : Int32) (cs : Int32) (vf : Value) (h0 : Heap) (n0 : Nat) (v : Option Value) (h : Heap) (L : List Loc) : Prop := ∃ (so : Addr) (rb : Addr) (rk : ClassId), v = some (.ref so) ∧ Fr n0 L ∧ Keep h0 h [] ∧ Exa Z h so "java/lang/String" ∧ Fld Z h so "java/lang/String" "value" "[B" (.ref rb) ∧ Fld Z h so "java/lang/String" "coder" "B" (.int 0) ∧ Arv Z h rb rk .byte (1 : Int32) [(.int (own_b pa0))] (.int 0)
theorem rm2n1 (l : Launch) (Z : State) (a0 : Array Value) (hw : ∀ d ∈ tables_1, d.before a0 Z = true) (ws : List Jvm.Cond) (pa0 : Int32) (pa1 : Int32) (pa2 : Int32) (pa3 : Int32) (cs : Int32) (vf : Value) (h0 : Heap) (n0 : Nat) (Z0 : n0 ≤ h0.size) (O0 : Old Z n0 h0) (Scs : Sta Z Z.heap "java/lang/String" "COMPACT_STRINGS" "Z" (.int cs)) (hcs : ¬ cs = (0 : Int32)) (Ssf : Sta Z Z.heap "jdk/internal/util/Preconditions" "SIOOBE_FORMATTER" "Ljava/util/function/BiFunction;" vf) (hvf : vf.isRef = true) (Hc : Jvm.Lit.constHeld Z "java/lang/String" 7) (Hcw : Jvm.Lit.compactW.before a0 Z = true) (hp0 : 0 ≤ pa0.toInt ∧ pa0.toInt ≤ 255) (hp1 : 0 ≤ pa1.toInt ∧ pa1.toInt ≤ 255) (hp2 : 0 ≤ pa2.toInt ∧ pa2.toInt ≤ 255) (hp3 : 0 ≤ pa3.toInt ∧ pa3.toInt ≤ 255) :
    MetFree l (⟨"com/example/onus_on_beans/onusonbeans/validators/CheckDigitRangeWholeTextPinLaw", "text", "(ICCCC)Ljava/lang/String;"⟩ : MethodName) (head1 (Jvm.Cond.code (⟨"com/example/onus_on_beans/onusonbeans/validators/CheckDigitRangeWholeTextPinLaw", "text", "(ICCCC)Ljava/lang/String;"⟩ : MethodName) method_6_code 5 (some (.object "java/lang/String")) :: ws) ({ frames := 4, cells := 3, slots := 6, locals := 66 } : Room)) (fun a U => a = #[(.int 1), (.int pa0), (.int pa1), (.int pa2), (.int pa3)] ∧ Z.Warmed39 U.vm ∧ U.heap = h0) (fun _ _ _ _ _ => True) (fun _ U o U' => ∃ v L, o = .returned v ∧ Q2n1 Z pa0 pa1 pa2 pa3 cs vf h0 n0 v U'.heap L ∧ FrameEnd U o U' L ({ frames := 4, cells := 3, slots := 6, locals := 66 } : Room).cells ({ frames := 4, cells := 3, slots := 6, locals := 66 } : Room).slots) := by
  refine MetFree.of_bodySF (plainFor_of_name own_pn32) hisR ?_
  intro p e s m args below meth c s₁ Bd hml0 hP hK
  have H := fun i c (h : tables_1[i]? = some c) => hw c (List.mem_of_getElem? h)
  obtain ⟨rfl, hZ, hh⟩ := hP
  have hx := Bd.exec
  have hby := Bd.bytes
  have hml : c.maxLocals = 5 := hml0
  have hown : s.vm.findClass "com/example/onus_on_beans/onusonbeans/validators/CheckDigitRangeWholeTextPinLaw" = some m.cls := findClass_of_methodNamed Bd.named
  have hnm := (name_of_methodNamed Bd.named Bd.method).1
  have X0 : Stand p l e ({ frames := 4, cells := 3, slots := 6, locals := 66 } : Room) s m #[(.int 1), (.int pa0), (.int pa1), (.int pa2), (.int pa3)] below meth c s₁ [] 0 0 := Stand.of_body Bd
  have e0 : s₁.heap = h0 := by rw [← hh, Bd.state]; rfl
  have N0 := Fr.nil n0
  have pre0 : ∀ t, Sp p e below m s₁ 0 #[vi 1, vi pa0, vi pa1, vi pa2, vi pa3] [] t → Steps p.tables e below (s₁.setTop (entryFrame m #[(.int 1), (.int pa0), (.int pa1), (.int pa2), (.int pa3)] 5)) t := fun t k => castTop (ef_2n1 m pa0 pa1 pa2 pa3) k
  generalize s₁.setTop (entryFrame m #[(.int 1), (.int pa0), (.int pa1), (.int pa2), (.int pa3)] 5) = G0 at pre0 ⊢
  obtain ⟨T218, h218, X218, e218, E218, A218, D218, -, st218⟩ := newO X0 hx hZ hown (H 7 _ rfl) (H 8 _ rfl) (H 9 _ rfl) e0 (g := (mkF m 20 #[vi 1, vi pa0, vi pa1, vi pa2, vi pa3] [])) rfl (hb hby d2_20) (by decide) (by decide)
  obtain ⟨b218, g218⟩ : ∃ z, z = h0.size := ⟨_, rfl⟩
  rw [← g218] at A218 D218 st218
  have g_b218 : n0 ≤ b218 := Nat.le_trans Z0 (Nat.le_of_eq g218.symm)
  have sz_b218 : h0.size ≤ b218 := Nat.le_of_eq g218.symm
  have Zs218 : n0 ≤ h218.size := Nat.le_trans Z0 E218.1
  have KK218 : Keep h0 h218 [] := (Keep.refl h0 _).ext E218
  have O218 := O0.ext E218
  have f219 := (Scs.ext O0.2).ext E218
  have f220 := (Ssf.ext O0.2).ext E218
  have f221 : Fld Z h218 b218 "java/lang/String" "value" "[B" .null := D218 (Or.inr (H 23 _ rfl)) (ty := (.array .byte)) (by decide)
  have f222 : Fld Z h218 b218 "java/lang/String" "coder" "B" (.int 0) := D218 (Or.inr (H 24 _ rfl)) (ty := .byte) (by decide)
  obtain ⟨T223, h223, k223, X223, e223, E223, A223, st223⟩ := newP X218 hx hZ (H 10 _ rfl) e218 (g := (mkF m 25 #[vi 1, vi pa0, vi pa1, vi pa2, vi pa3] [(.int 1), (.ref b218), (.ref b218)])) rfl (hb hby d2_25) rfl (by decide) (cap := 1) (by decide) (by decide) (by decide) (by decide)
  obtain ⟨b223, g223⟩ : ∃ z, z = h218.size := ⟨_, rfl⟩
  rw [← g223] at A223 st223
  have g_b223 : n0 ≤ b223 := Nat.le_trans Zs218 (Nat.le_of_eq g223.symm)
  have sz_b223 : h0.size ≤ b223 := Nat.le_trans KK218.1 (Nat.le_of_eq g223.symm)
  have lt_b218_b223 : b218 < b223 := Nat.lt_of_lt_of_le A218.lt (Nat.le_of_eq g223.symm)
  have ne_b218_b223 : b218 ≠ b223 := Nat.ne_of_lt lt_b218_b223
  have Zs223 : n0 ≤ h223.size := Nat.le_trans Zs218 E223.1
  have KK223 : Keep h0 h223 [] := KK218.ext E223
  have O223 := O218.ext E223
  have f224 := f219.ext E223
  have f225 := f220.ext E223
  have f226 := A218.ext E223
  have f227 := f221.ext E223
  have f228 := f222.ext E223
  have V223 : Arv Z h223 b223 k223 .char (1 : Int32) [(.int 0)] (.int 0) := (Arv.new A223 (by decide)).pad (pad_rep [] (.int 0) 1)
  obtain ⟨cl229, Ar229, q229, S229, N229, H229, G229⟩ := id V223
  have hin229 : ¬ ((0 : Int32) < 0 ∨ cl229.slots.size ≤ ((0 : Int32)).toNatClampNeg) := inb_of S229 ⟨by decide, by decide⟩
  obtain ⟨T230, h230, X230, e230, W230, st230⟩ := stC X223 hx hZ e223 Ar229 (j := (0 : Int32)) hin229 (g := (mkF m 30 #[vi 1, vi pa0, vi pa1, vi pa2, vi pa3] [(.int pa0), (.int 0), (.ref b223), (.ref b223), (.ref b218), (.ref b218)])) rfl rfl (hb hby d2_30)
  have V230 : Arv Z h230 b223 k223 .char (1 : Int32) [(.int (nar .char pa0))] (.int 0) := Arv.set Ar229 q229 S229 N229 H229 G229 (fits_nar_char pa0) W230 0 rfl (Nat.le_of_ble_eq_true rfl)
  have N230 := Fr.snoc X230 N0 g_b223
  have Zs230 : n0 ≤ h230.size := Nat.le_trans Zs223 (Keep.of_wr W230).1
  have KK230 : Keep h0 h230 [] := KK223.wr W230 (Or.inr sz_b223)
  have O230 := O223.wr W230 g_b223
  have f231 := f224.wr W230
  have f232 := f225.wr W230
  have f233 := f226.wr W230
  have f234 := f227.other W230 (Or.inl ne_b218_b223)
  have f235 := f228.other W230 (Or.inl ne_b218_b223)
  obtain ⟨_, _, ⟨T236, L236, k236, n236⟩, -, X236, ⟨Lc236, hQ236, l236, y236, z236⟩, st236⟩ := X230.specialBack hx (y := (⟨"java/lang/String", "<init>", "([C)V"⟩ : MethodName)) rfl hown (mvT hZ (H 11 _ rfl)) (mvT hZ (H 12 _ rfl)) (mvT hZ (H 13 _ rfl)) (by decide) (backOf (W := 1) (rm3n1 l Z a0 hw [] b218 b223 cs vf k223 (nar .char pa0) h230 n0 Zs230 O230 Scs hcs Ssf hvf f233 f234 f235 g_b218 V230 ne_b218_b223 (own_ncb hp0)) hZ (H 13 _ rfl) (H 9 _ rfl) (by decide) (by decide)) (g := (mkF m 31 #[vi 1, vi pa0, vi pa1, vi pa2, vi pa3] [(.ref b223), (.ref b218), (.ref b218)])) rfl (by rw [hml]; rfl) (Steps.refl _) (a := b218) (argsL := [(.ref b223)]) (rest := [(.ref b218)]) (lenOf own_pd30 rfl) rfl (Nat.le_of_eq rfl) (hb hby d2_31) (fun _ _ => ⟨rfl, e230, (by decide : 2 + 1 ≤ _), (by decide : 5 + 1 ≤ _)⟩)
  dsimp only [Pt.U, Pt.locs, Pt.cells, Pt.slots] at X236 l236 y236 z236 st236 hQ236
  rw [l236, y236, z236] at X236
  obtain ⟨rrb_236, rrk_236, rfl, Nq236, K236, p236_0, p236_1, p236_2, p236_3, p236_4, p236_5⟩ := hQ236
  have N236 := Fr.app N230 Nq236
  have Zs236 : n0 ≤ T236.heap.size := Nat.le_trans Zs230 K236.1
  have KK236 : Keep h0 T236.heap [] := KK230.trans K236 (allS (Or.inr sz_b218) all0)
  have ne_b218_rrb_236 : b218 ≠ rrb_236 := Nat.ne_of_lt (Nat.lt_of_lt_of_le f233.lt p236_5)
  have ne_b223_rrb_236 : b223 ≠ rrb_236 := Nat.ne_of_lt (Nat.lt_of_lt_of_le V230.lt p236_5)
  have sz_rrb_236 : h0.size ≤ rrb_236 := Nat.le_trans KK230.1 p236_5
  have O236 := O230.keep K236 (allS g_b218 all0)
  have f237 := Scs.ext O236.2
  have f238 := Ssf.ext O236.2
  have f239 := f233.keep K236
  have f240 := V230.keep K236 (ninS (Ne.symm ne_b218_b223) nin0)
  have g_rrb_236 := p236_4
  obtain ⟨fs, hr, hrun, hended, hW, hsame⟩ := X236.leave (v := some (.ref b218)) (fun h => by rw [Bd.returns] at h; cases h)
  refine ⟨_, _, pre0 _ ?_, hrun, hended, _, _, rfl, ?_, ⟨_, rfl⟩, hW, hsame.mono (by decide) (by decide)⟩
  · show Sp p e below m s₁ 0 #[vi 1, vi pa0, vi pa1, vi pa2, vi pa3] [] _
    refine XS.iloadN X0.here hx rfl (hb hby d2_0) rfl ?_
    refine XS.ifYes X0.here hx rfl (pc0 := 1) (pc' := 15) rfl (hb hby d2_1) rfl ((if0 _ _).trans (feq (by decide : ¬ ((1 : Int32) = (0 : Int32)))).2) (by decide) (by decide) ?_
    refine XS.iloadN X0.here hx rfl (hb hby d2_15) rfl ?_
    refine XS.iconst X0.here hx rfl (hb hby d2_16) ?_
    refine XS.icmpNo X0.here hx rfl (hb hby d2_17) rfl (teq (by decide : ((1 : Int32) = (1 : Int32)))).2 ?_
    refine st218 _ ?_
    show Sp p e below m T218 23 #[vi 1, vi pa0, vi pa1, vi pa2, vi pa3] [(.ref b218)] _
    refine XS.dup X218.here hx rfl (hb hby d2_23) rfl rfl ?_
    refine XS.iconst X218.here hx rfl (hb hby d2_24) ?_
    refine st223 _ ?_
    show Sp p e below m T223 27 #[vi 1, vi pa0, vi pa1, vi pa2, vi pa3] [(.ref b223), (.ref b218), (.ref b218)] _
    refine XS.dup X223.here hx rfl (hb hby d2_27) rfl rfl ?_
    refine XS.iconst X223.here hx rfl (hb hby d2_28) ?_
    refine XS.iloadN X223.here hx rfl (hb hby d2_29) rfl ?_
    refine st230 _ ?_
    show Sp p e below m T230 31 #[vi 1, vi pa0, vi pa1, vi pa2, vi pa3] [(.ref b223), (.ref b218), (.ref b218)] _
    refine st236.trans ?_
    show Sp p e below m T236 34 #[vi 1, vi pa0, vi pa1, vi pa2, vi pa3] [(.ref b218)] _
    jvm_step X236.here [X236.here.top, hx, (hb hby d2_34), X236.method', Bd.returns, Value.isRef, FieldType.isReference]
    first | (intro acts; rw [hr _ acts rfl rfl rfl]) | rw [hr _ _ rfl rfl rfl]
    exact Steps.refl _
  · show Q2n1 Z pa0 pa1 pa2 pa3 cs vf h0 n0 _ T236.heap _
    exact ⟨b218, rrb_236, rrk_236, rfl, N236, KK236, p236_0, p236_1, p236_2, p236_3⟩
theorem ef_11n2 (m : MethodId) (x0 : Addr) (x2 : Addr) : entryFrame m #[(.ref x0), (.int 0), (.ref x2), (.int 0), (.int 2)] 7 = mkF m 0 #[.val (.ref x0), .val (.int 0), .val (.ref x2), .val (.int 0), .val (.int 2), .unset, .unset] [] := by first | (simp [entryFrame, mkF, argsToLocals, Value.category]; done) | rfl
def Q11n2 (Z : State) (ac : Addr) (ab : Addr) (kc : ClassId) (cc0 : Int32) (cc1 : Int32) (kb : ClassId) (h0 : Heap) (n0 : Nat) (v : Option Value) (h : Heap) (L : List Loc) : Prop := v = some (.int 2) ∧ Fr n0 L ∧ Keep h0 h [ab] ∧ Arv Z h ab kb .byte (2 : Int32) [(.int (nar .byte (cc0.toInt8.toInt32))), (.int (nar .byte (cc1.toInt8.toInt32)))] (.int 0)
theorem rm11n2 (l : Launch) (Z : State) (a0 : Array Value) (hw : ∀ d ∈ tables_1, d.before a0 Z = true) (ws : List Jvm.Cond) (ac : Addr) (ab : Addr) (kc : ClassId) (cc0 : Int32) (cc1 : Int32) (kb : ClassId) (h0 : Heap) (n0 : Nat) (Z0 : n0 ≤ h0.size) (Vc : Arv Z h0 ac kc .char (2 : Int32) [(.int cc0), (.int cc1)] (.int 0)) (Vb : Arv Z h0 ab kb .byte (2 : Int32) [(.int 0), (.int 0)] (.int 0)) (g_ab : n0 ≤ ab) (nab : ac ≠ ab) (hp0 : 0 ≤ cc0.toInt ∧ cc0.toInt ≤ 255) (hp1 : 0 ≤ cc1.toInt ∧ cc1.toInt ≤ 255) :
    MetFree l (⟨"java/lang/StringUTF16", "compress", "([CI[BII)I"⟩ : MethodName) (head1 (Jvm.Cond.code (⟨"java/lang/StringUTF16", "compress", "([CI[BII)I"⟩ : MethodName) jdk_52_method_21_code 7 (some .int) :: ws) ({ frames := 0, cells := 0, slots := 0, locals := 0 } : Room)) (fun a U => a = #[(.ref ac), (.int 0), (.ref ab), (.int 0), (.int 2)] ∧ Z.Warmed39 U.vm ∧ U.heap = h0) (fun _ _ _ _ _ => True) (fun _ U o U' => ∃ v L, o = .returned v ∧ Q11n2 Z ac ab kc cc0 cc1 kb h0 n0 v U'.heap L ∧ FrameEnd U o U' L ({ frames := 0, cells := 0, slots := 0, locals := 0 } : Room).cells ({ frames := 0, cells := 0, slots := 0, locals := 0 } : Room).slots) := by
  refine MetFree.of_bodySF (plainFor_of_name own_pn56) hisR ?_
  intro p e s m args below meth c s₁ Bd hml0 hP hK
  have H := fun i c (h : tables_1[i]? = some c) => hw c (List.mem_of_getElem? h)
  obtain ⟨rfl, hZ, hh⟩ := hP
  have hx := Bd.exec
  have hby := Bd.bytes
  have hml : c.maxLocals = 7 := hml0
  have hown : s.vm.findClass "java/lang/StringUTF16" = some m.cls := findClass_of_methodNamed Bd.named
  have hnm := (name_of_methodNamed Bd.named Bd.method).1
  have X0 : Stand p l e ({ frames := 0, cells := 0, slots := 0, locals := 0 } : Room) s m #[(.ref ac), (.int 0), (.ref ab), (.int 0), (.int 2)] below meth c s₁ [] 0 0 := Stand.of_body Bd
  have e0 : s₁.heap = h0 := by rw [← hh, Bd.state]; rfl
  have N0 := Fr.nil n0
  have pre0 : ∀ t, Sp p e below m s₁ 0 #[vr ac, vi 0, vr ab, vi 0, vi 2, .unset, .unset] [] t → Steps p.tables e below (s₁.setTop (entryFrame m #[(.ref ac), (.int 0), (.ref ab), (.int 0), (.int 2)] 7)) t := fun t k => castTop (ef_11n2 m ac ab) k
  generalize s₁.setTop (entryFrame m #[(.ref ac), (.int 0), (.ref ab), (.int 0), (.int 2)] 7) = G0 at pre0 ⊢
  obtain ⟨cl249, Ar249, -, S249, -, H249, -⟩ := id Vc
  have hin249 : ¬ ((0 : Int32) < 0 ∨ cl249.slots.size ≤ ((0 : Int32)).toNatClampNeg) := inb_of S249 ⟨by decide, by decide⟩
  have hat249 : cl249.slots[((0 : Int32)).toNatClampNeg]? = some (.int cc0) := H249.at hin249 rfl
  obtain ⟨cl250, Ar250, q250, S250, N250, H250, G250⟩ := id Vb
  have hin250 : ¬ ((0 : Int32) < 0 ∨ cl250.slots.size ≤ ((0 : Int32)).toNatClampNeg) := inb_of S250 ⟨by decide, by decide⟩
  obtain ⟨T251, h251, X251, e251, W251, st251⟩ := stB X0 hx hZ e0 Ar250 (j := (0 : Int32)) hin250 (g := (mkF m 31 #[vr ac, vi 0, vr ab, vi 0, vi 2, vi 0, vi cc0] [(.int (cc0.toInt8.toInt32)), (.int 0), (.ref ab)])) rfl rfl (hb hby d11_31)
  have V251 : Arv Z h251 ab kb .byte (2 : Int32) [(.int (nar .byte (cc0.toInt8.toInt32))), (.int 0)] (.int 0) := Arv.set Ar250 q250 S250 N250 H250 G250 (fits_nar_byte (cc0.toInt8.toInt32)) W251 0 rfl (Nat.le_of_ble_eq_true rfl)
  have N251 := Fr.snoc X251 N0 g_ab
  have Zs251 : n0 ≤ h251.size := Nat.le_trans Z0 (Keep.of_wr W251).1
  have KK251 : Keep h0 h251 [ab] := (Keep.refl h0 _).wr W251 (Or.inl (List.mem_of_getElem? (i := 0) rfl))
  have f252 := Vc.other W251 nab
  obtain ⟨cl253, Ar253, -, S253, -, H253, -⟩ := id f252
  have hin253 : ¬ ((1 : Int32) < 0 ∨ cl253.slots.size ≤ ((1 : Int32)).toNatClampNeg) := inb_of S253 ⟨by decide, by decide⟩
  have hat253 : cl253.slots[((1 : Int32)).toNatClampNeg]? = some (.int cc1) := H253.at hin253 rfl
  obtain ⟨cl254, Ar254, q254, S254, N254, H254, G254⟩ := id V251
  have hin254 : ¬ ((1 : Int32) < 0 ∨ cl254.slots.size ≤ ((1 : Int32)).toNatClampNeg) := inb_of S254 ⟨by decide, by decide⟩
  obtain ⟨T255, h255, X255, e255, W255, st255⟩ := stB X251 hx hZ e251 Ar254 (j := (1 : Int32)) hin254 (g := (mkF m 31 #[vr ac, vi 1, vr ab, vi 1, vi 2, vi 1, vi cc1] [(.int (cc1.toInt8.toInt32)), (.int 1), (.ref ab)])) rfl rfl (hb hby d11_31)
  have V255 : Arv Z h255 ab kb .byte (2 : Int32) [(.int (nar .byte (cc0.toInt8.toInt32))), (.int (nar .byte (cc1.toInt8.toInt32)))] (.int 0) := Arv.set Ar254 q254 S254 N254 H254 G254 (fits_nar_byte (cc1.toInt8.toInt32)) W255 1 rfl (Nat.le_of_ble_eq_true rfl)
  have N255 := Fr.snoc X255 N251 g_ab
  have Zs255 : n0 ≤ h255.size := Nat.le_trans Zs251 (Keep.of_wr W255).1
  have KK255 : Keep h0 h255 [ab] := KK251.wr W255 (Or.inl (List.mem_of_getElem? (i := 0) rfl))
  have f256 := f252.other W255 nab
  obtain ⟨fs, hr, hrun, hended, hW, hsame⟩ := X255.leave (v := some (.int 2)) (fun h => by rw [Bd.returns] at h; cases h)
  refine ⟨_, _, pre0 _ ?_, hrun, hended, _, _, rfl, ?_, ⟨_, rfl⟩, hW, hsame.mono (by decide) (by decide)⟩
  · show Sp p e below m s₁ 0 #[vr ac, vi 0, vr ab, vi 0, vi 2, .unset, .unset] [] _
    refine XS.iconst X0.here hx rfl (hb hby d11_0) ?_
    refine XS.istore X0.here hx rfl (hb hby d11_1) rfl (l' := #[vr ac, vi 0, vr ab, vi 0, vi 2, vi 0, .unset]) rfl ?_
    refine XS.iload X0.here hx rfl (hb hby d11_3) rfl ?_
    refine XS.iload X0.here hx rfl (hb hby d11_5) rfl ?_
    refine XS.icmpNo X0.here hx rfl (hb hby d11_7) rfl (tlt (by decide : ((0 : Int32) < (2 : Int32)))).2.1 ?_
    refine XS.aloadN X0.here hx rfl (hb hby d11_10) rfl rfl ?_
    refine XS.iloadN X0.here hx rfl (hb hby d11_11) rfl ?_
    refine X0.caload hx (j := (0 : Int32)) (v := (.int cc0)) (by rw [e0]; exact Ar249.1) (State.isArrayOf_alike hZ.alike Ar249.2.1) Ar249.2.2 hin249 hat249 (g := (mkF m 12 #[vr ac, vi 0, vr ab, vi 0, vi 2, vi 0, .unset] [(.int 0), (.ref ac)])) rfl rfl (hb hby d11_12) _ ?_
    show Sp p e below m s₁ 13 #[vr ac, vi 0, vr ab, vi 0, vi 2, vi 0, .unset] [(.int cc0)] _
    refine XS.istore X0.here hx rfl (hb hby d11_13) rfl (l' := #[vr ac, vi 0, vr ab, vi 0, vi 2, vi 0, vi cc0]) rfl ?_
    refine XS.iload X0.here hx rfl (hb hby d11_15) rfl ?_
    refine XS.sipush X0.here hx rfl (hb hby d11_17) ?_
    refine XS.icmpYes X0.here hx rfl (pc0 := 20) (pc' := 26) rfl (hb hby d11_20) rfl (flt (own_le255 hp0 : ¬ ((255 : Int32) < cc0))).2.2.2 (by decide) (by decide) ?_
    refine XS.aloadN X0.here hx rfl (hb hby d11_26) rfl rfl ?_
    refine XS.iloadN X0.here hx rfl (hb hby d11_27) rfl ?_
    refine XS.iload X0.here hx rfl (hb hby d11_28) rfl ?_
    refine XS.i2b X0.here hx rfl (hb hby d11_30) rfl ?_
    show Sp p e below m s₁ 31 #[vr ac, vi 0, vr ab, vi 0, vi 2, vi 0, vi cc0] [(.int (cc0.toInt8.toInt32)), (.int 0), (.ref ab)] _
    refine st251 _ ?_
    show Sp p e below m T251 32 #[vr ac, vi 0, vr ab, vi 0, vi 2, vi 0, vi cc0] [] _
    refine XS.iinc X251.here hx rfl (hb hby d11_32) rfl (l' := #[vr ac, vi 1, vr ab, vi 0, vi 2, vi 0, vi cc0]) rfl ?_
    refine XS.iinc X251.here hx rfl (hb hby d11_35) rfl (l' := #[vr ac, vi 1, vr ab, vi 1, vi 2, vi 0, vi cc0]) rfl ?_
    refine XS.iinc X251.here hx rfl (hb hby d11_38) rfl (l' := #[vr ac, vi 1, vr ab, vi 1, vi 2, vi 1, vi cc0]) rfl ?_
    refine XS.goto X251.here hx rfl (pc0 := 41) (pc' := 3) rfl (hb hby d11_41) (by decide) (by decide) ?_
    refine XS.iload X251.here hx rfl (hb hby d11_3) rfl ?_
    refine XS.iload X251.here hx rfl (hb hby d11_5) rfl ?_
    refine XS.icmpNo X251.here hx rfl (hb hby d11_7) rfl (tlt (by decide : ((1 : Int32) < (2 : Int32)))).2.1 ?_
    refine XS.aloadN X251.here hx rfl (hb hby d11_10) rfl rfl ?_
    show Sp p e below m T251 11 #[vr ac, vi 1, vr ab, vi 1, vi 2, vi 1, vi cc0] [(.ref ac)] _
    refine XS.iloadN X251.here hx rfl (hb hby d11_11) rfl ?_
    refine X251.caload hx (j := (1 : Int32)) (v := (.int cc1)) (by rw [e251]; exact Ar253.1) (State.isArrayOf_alike hZ.alike Ar253.2.1) Ar253.2.2 hin253 hat253 (g := (mkF m 12 #[vr ac, vi 1, vr ab, vi 1, vi 2, vi 1, vi cc0] [(.int 1), (.ref ac)])) rfl rfl (hb hby d11_12) _ ?_
    show Sp p e below m T251 13 #[vr ac, vi 1, vr ab, vi 1, vi 2, vi 1, vi cc0] [(.int cc1)] _
    refine XS.istore X251.here hx rfl (hb hby d11_13) rfl (l' := #[vr ac, vi 1, vr ab, vi 1, vi 2, vi 1, vi cc1]) rfl ?_
    refine XS.iload X251.here hx rfl (hb hby d11_15) rfl ?_
    refine XS.sipush X251.here hx rfl (hb hby d11_17) ?_
    refine XS.icmpYes X251.here hx rfl (pc0 := 20) (pc' := 26) rfl (hb hby d11_20) rfl (flt (own_le255 hp1 : ¬ ((255 : Int32) < cc1))).2.2.2 (by decide) (by decide) ?_
    refine XS.aloadN X251.here hx rfl (hb hby d11_26) rfl rfl ?_
    refine XS.iloadN X251.here hx rfl (hb hby d11_27) rfl ?_
    refine XS.iload X251.here hx rfl (hb hby d11_28) rfl ?_
    refine XS.i2b X251.here hx rfl (hb hby d11_30) rfl ?_
    show Sp p e below m T251 31 #[vr ac, vi 1, vr ab, vi 1, vi 2, vi 1, vi cc1] [(.int (cc1.toInt8.toInt32)), (.int 1), (.ref ab)] _
    refine st255 _ ?_
    show Sp p e below m T255 32 #[vr ac, vi 1, vr ab, vi 1, vi 2, vi 1, vi cc1] [] _
    refine XS.iinc X255.here hx rfl (hb hby d11_32) rfl (l' := #[vr ac, vi 2, vr ab, vi 1, vi 2, vi 1, vi cc1]) rfl ?_
    refine XS.iinc X255.here hx rfl (hb hby d11_35) rfl (l' := #[vr ac, vi 2, vr ab, vi 2, vi 2, vi 1, vi cc1]) rfl ?_
    refine XS.iinc X255.here hx rfl (hb hby d11_38) rfl (l' := #[vr ac, vi 2, vr ab, vi 2, vi 2, vi 2, vi cc1]) rfl ?_
    refine XS.goto X255.here hx rfl (pc0 := 41) (pc' := 3) rfl (hb hby d11_41) (by decide) (by decide) ?_
    refine XS.iload X255.here hx rfl (hb hby d11_3) rfl ?_
    refine XS.iload X255.here hx rfl (hb hby d11_5) rfl ?_
    refine XS.icmpYes X255.here hx rfl (pc0 := 7) (pc' := 44) rfl (hb hby d11_7) rfl (flt (by decide : ¬ ((2 : Int32) < (2 : Int32)))).2.1 (by decide) (by decide) ?_
    refine XS.iload X255.here hx rfl (hb hby d11_44) rfl ?_
    show Sp p e below m T255 46 #[vr ac, vi 2, vr ab, vi 2, vi 2, vi 2, vi cc1] [(.int 2)] _
    exact retI X255 hx Bd.returns (hb hby d11_46) hr
  · show Q11n2 Z ac ab kc cc0 cc1 kb h0 n0 _ T255.heap _
    rw [e255]
    exact ⟨rfl, N255, KK255, V255⟩
theorem ef_10n2 (m : MethodId) (x0 : Addr) : entryFrame m #[(.ref x0), (.int 0), (.int 2)] 6 = mkF m 0 #[.val (.ref x0), .val (.int 0), .val (.int 2), .unset, .unset, .unset] [] := by first | (simp [entryFrame, mkF, argsToLocals, Value.category]; done) | rfl
def Q10n2 (Z : State) (ac : Addr) (kc : ClassId) (cc0 : Int32) (cc1 : Int32) (h0 : Heap) (n0 : Nat) (v : Option Value) (h : Heap) (L : List Loc) : Prop := ∃ (rb : Addr) (rk : ClassId), v = some (.ref rb) ∧ Fr n0 L ∧ Keep h0 h [] ∧ Arv Z h rb rk .byte (2 : Int32) [(.int (nar .byte (cc0.toInt8.toInt32))), (.int (nar .byte (cc1.toInt8.toInt32)))] (.int 0) ∧ n0 ≤ rb ∧ h0.size ≤ rb
theorem rm10n2 (l : Launch) (Z : State) (a0 : Array Value) (hw : ∀ d ∈ tables_1, d.before a0 Z = true) (ws : List Jvm.Cond) (ac : Addr) (kc : ClassId) (cc0 : Int32) (cc1 : Int32) (h0 : Heap) (n0 : Nat) (Z0 : n0 ≤ h0.size) (Vc : Arv Z h0 ac kc .char (2 : Int32) [(.int cc0), (.int cc1)] (.int 0)) (hp0 : 0 ≤ cc0.toInt ∧ cc0.toInt ≤ 255) (hp1 : 0 ≤ cc1.toInt ∧ cc1.toInt ≤ 255) :
    MetFree l (⟨"java/lang/StringUTF16", "compress", "([CII)[B"⟩ : MethodName) (head1 (Jvm.Cond.code (⟨"java/lang/StringUTF16", "compress", "([CII)[B"⟩ : MethodName) jdk_52_method_16_code 6 (some (.array .byte)) :: ws) ({ frames := 1, cells := 1, slots := 2, locals := 18 } : Room)) (fun a U => a = #[(.ref ac), (.int 0), (.int 2)] ∧ Z.Warmed39 U.vm ∧ U.heap = h0) (fun _ _ _ _ _ => True) (fun _ U o U' => ∃ v L, o = .returned v ∧ Q10n2 Z ac kc cc0 cc1 h0 n0 v U'.heap L ∧ FrameEnd U o U' L ({ frames := 1, cells := 1, slots := 2, locals := 18 } : Room).cells ({ frames := 1, cells := 1, slots := 2, locals := 18 } : Room).slots) := by
  refine MetFree.of_bodySF (plainFor_of_name own_pn56) hisR ?_
  intro p e s m args below meth c s₁ Bd hml0 hP hK
  have H := fun i c (h : tables_1[i]? = some c) => hw c (List.mem_of_getElem? h)
  obtain ⟨rfl, hZ, hh⟩ := hP
  have hx := Bd.exec
  have hby := Bd.bytes
  have hml : c.maxLocals = 6 := hml0
  have hown : s.vm.findClass "java/lang/StringUTF16" = some m.cls := findClass_of_methodNamed Bd.named
  have hnm := (name_of_methodNamed Bd.named Bd.method).1
  have X0 : Stand p l e ({ frames := 1, cells := 1, slots := 2, locals := 18 } : Room) s m #[(.ref ac), (.int 0), (.int 2)] below meth c s₁ [] 0 0 := Stand.of_body Bd
  have e0 : s₁.heap = h0 := by rw [← hh, Bd.state]; rfl
  have N0 := Fr.nil n0
  have pre0 : ∀ t, Sp p e below m s₁ 0 #[vr ac, vi 0, vi 2, .unset, .unset, .unset] [] t → Steps p.tables e below (s₁.setTop (entryFrame m #[(.ref ac), (.int 0), (.int 2)] 6)) t := fun t k => castTop (ef_10n2 m ac) k
  generalize s₁.setTop (entryFrame m #[(.ref ac), (.int 0), (.int 2)] 6) = G0 at pre0 ⊢
  obtain ⟨T261, h261, k261, X261, e261, E261, A261, st261⟩ := newP X0 hx hZ (H 22 _ rfl) e0 (g := (mkF m 1 #[vr ac, vi 0, vi 2, .unset, .unset, .unset] [(.int 2)])) rfl (hb hby d10_1) rfl (by decide) (cap := 2) (by decide) (by decide) (by decide) (by decide)
  obtain ⟨b261, g261⟩ : ∃ z, z = h0.size := ⟨_, rfl⟩
  rw [← g261] at A261 st261
  have g_b261 : n0 ≤ b261 := Nat.le_trans Z0 (Nat.le_of_eq g261.symm)
  have sz_b261 : h0.size ≤ b261 := Nat.le_of_eq g261.symm
  have lt_ac_b261 : ac < b261 := Nat.lt_of_lt_of_le Vc.lt (Nat.le_of_eq g261.symm)
  have ne_ac_b261 : ac ≠ b261 := Nat.ne_of_lt lt_ac_b261
  have Zs261 : n0 ≤ h261.size := Nat.le_trans Z0 E261.1
  have KK261 : Keep h0 h261 [] := (Keep.refl h0 _).ext E261
  have f262 := Vc.ext E261
  have V261 : Arv Z h261 b261 k261 .byte (2 : Int32) [(.int 0), (.int 0)] (.int 0) := (Arv.new A261 (by decide)).pad (pad_rep [] (.int 0) 2)
  obtain ⟨_, _, ⟨T263, L263, k263, n263⟩, -, X263, ⟨Lc263, hQ263, l263, y263, z263⟩, st263⟩ := Jvm.LawKit.callS X261 hx hown (mvT hZ (H 67 _ rfl)) (mvT hZ (H 68 _ rfl)) (mvT hZ (H 65 _ rfl)) (mvT hZ (H 69 _ rfl)) (by decide) (backOf (W := 0) (rm11n2 l Z a0 hw [] ac b261 kc cc0 cc1 k261 h261 n0 Zs261 f262 V261 g_b261 ne_ac_b261 hp0 hp1) hZ (H 69 _ rfl) (H 65 _ rfl) (by decide) (by decide)) (g := (mkF m 9 #[vr ac, vi 0, vi 2, vr b261, .unset, .unset] [(.int 2), (.int 0), (.ref b261), (.int 0), (.ref ac)])) rfl (by rw [hml]; rfl) (argsL := [(.ref ac), (.int 0), (.ref b261), (.int 0), (.int 2)]) (rest := []) (lenOf own_pd66 rfl) rfl (Nat.le_of_eq rfl) (hb hby d10_9) (fun _ _ => ⟨rfl, e261, (by decide : 1 + 0 ≤ _), (by decide : 2 + 0 ≤ _)⟩)
  dsimp only [Pt.U, Pt.locs, Pt.cells, Pt.slots] at X263 l263 y263 z263 st263 hQ263
  rw [l263, y263, z263] at X263
  obtain ⟨rfl, Nq263, K263, p263_0⟩ := hQ263
  have N263 := Fr.app N0 Nq263
  have Zs263 : n0 ≤ T263.heap.size := Nat.le_trans Zs261 K263.1
  have KK263 : Keep h0 T263.heap [] := KK261.trans K263 (allS (Or.inr sz_b261) all0)
  have f264 := f262.keep K263 (ninS ne_ac_b261 nin0)
  obtain ⟨fs, hr, hrun, hended, hW, hsame⟩ := X263.leave (v := some (.ref b261)) (fun h => by rw [Bd.returns] at h; cases h)
  refine ⟨_, _, pre0 _ ?_, hrun, hended, _, _, rfl, ?_, ⟨_, rfl⟩, hW, hsame.mono (by decide) (by decide)⟩
  · show Sp p e below m s₁ 0 #[vr ac, vi 0, vi 2, .unset, .unset, .unset] [] _
    refine XS.iloadN X0.here hx rfl (hb hby d10_0) rfl ?_
    refine st261 _ ?_
    show Sp p e below m T261 3 #[vr ac, vi 0, vi 2, .unset, .unset, .unset] [(.ref b261)] _
    refine XS.astoreN X261.here hx rfl (hb hby d10_3) rfl rfl (l' := #[vr ac, vi 0, vi 2, vr b261, .unset, .unset]) rfl ?_
    refine XS.aloadN X261.here hx rfl (hb hby d10_4) rfl rfl ?_
    refine XS.iloadN X261.here hx rfl (hb hby d10_5) rfl ?_
    refine XS.aloadN X261.here hx rfl (hb hby d10_6) rfl rfl ?_
    refine XS.iconst X261.here hx rfl (hb hby d10_7) ?_
    refine XS.iloadN X261.here hx rfl (hb hby d10_8) rfl ?_
    refine st263 _ ?_
    show Sp p e below m T263 12 #[vr ac, vi 0, vi 2, vr b261, .unset, .unset] [(.int 2)] _
    refine XS.istore X263.here hx rfl (hb hby d10_12) rfl (l' := #[vr ac, vi 0, vi 2, vr b261, vi 2, .unset]) rfl ?_
    refine XS.iload X263.here hx rfl (hb hby d10_14) rfl ?_
    refine XS.iloadN X263.here hx rfl (hb hby d10_16) rfl ?_
    refine XS.icmpYes X263.here hx rfl (pc0 := 17) (pc' := 57) rfl (hb hby d10_17) rfl (teq (by decide : ((2 : Int32) = (2 : Int32)))).1 (by decide) (by decide) ?_
    refine XS.aloadN X263.here hx rfl (hb hby d10_57) rfl rfl ?_
    jvm_step X263.here [X263.here.top, hx, (hb hby d10_58), X263.method', Bd.returns, Value.isRef, FieldType.isReference]
    first | (intro acts; rw [hr _ acts rfl rfl rfl]) | rw [hr _ _ rfl rfl rfl]
    exact Steps.refl _
  · show Q10n2 Z ac kc cc0 cc1 h0 n0 _ T263.heap _
    exact ⟨b261, k261, rfl, N263, KK263, p263_0, g_b261, sz_b261⟩
theorem ef_12n2 (m : MethodId) (x0 : Addr) : entryFrame m #[(.ref x0), (.int 2)] 2 = mkF m 0 #[.val (.ref x0), .val (.int 2)] [] := by first | (simp [entryFrame, mkF, argsToLocals, Value.category]; done) | rfl
def Q12n2 (Z : State) (ab : Addr) (kb : ClassId) (vs : List Value) (h0 : Heap) (n0 : Nat) (v : Option Value) (h : Heap) (L : List Loc) : Prop := v = some (.int 0) ∧ Fr n0 L ∧ h = h0
theorem rm12n2 (l : Launch) (Z : State) (a0 : Array Value) (hw : ∀ d ∈ tables_1, d.before a0 Z = true) (ws : List Jvm.Cond) (ab : Addr) (kb : ClassId) (vs : List Value) (h0 : Heap) (n0 : Nat) (Z0 : n0 ≤ h0.size) (Vb : Arv Z h0 ab kb .byte (2 : Int32) vs (.int 0)) :
    MetFree l (⟨"java/lang/StringUTF16", "coderFromArrayLen", "([BI)B"⟩ : MethodName) (head1 (Jvm.Cond.code (⟨"java/lang/StringUTF16", "coderFromArrayLen", "([BI)B"⟩ : MethodName) jdk_52_method_15_code 2 (some .byte) :: ws) ({ frames := 0, cells := 0, slots := 0, locals := 0 } : Room)) (fun a U => a = #[(.ref ab), (.int 2)] ∧ Z.Warmed39 U.vm ∧ U.heap = h0) (fun _ _ _ _ _ => True) (fun _ U o U' => ∃ v L, o = .returned v ∧ Q12n2 Z ab kb vs h0 n0 v U'.heap L ∧ FrameEnd U o U' L ({ frames := 0, cells := 0, slots := 0, locals := 0 } : Room).cells ({ frames := 0, cells := 0, slots := 0, locals := 0 } : Room).slots) := by
  refine MetFree.of_bodySF (plainFor_of_name own_pn56) hisR ?_
  intro p e s m args below meth c s₁ Bd hml0 hP hK
  have H := fun i c (h : tables_1[i]? = some c) => hw c (List.mem_of_getElem? h)
  obtain ⟨rfl, hZ, hh⟩ := hP
  have hx := Bd.exec
  have hby := Bd.bytes
  have hml : c.maxLocals = 2 := hml0
  have hown : s.vm.findClass "java/lang/StringUTF16" = some m.cls := findClass_of_methodNamed Bd.named
  have hnm := (name_of_methodNamed Bd.named Bd.method).1
  have X0 : Stand p l e ({ frames := 0, cells := 0, slots := 0, locals := 0 } : Room) s m #[(.ref ab), (.int 2)] below meth c s₁ [] 0 0 := Stand.of_body Bd
  have e0 : s₁.heap = h0 := by rw [← hh, Bd.state]; rfl
  have N0 := Fr.nil n0
  have pre0 : ∀ t, Sp p e below m s₁ 0 #[vr ab, vi 2] [] t → Steps p.tables e below (s₁.setTop (entryFrame m #[(.ref ab), (.int 2)] 2)) t := fun t k => castTop (ef_12n2 m ab) k
  generalize s₁.setTop (entryFrame m #[(.ref ab), (.int 2)] 2) = G0 at pre0 ⊢
  obtain ⟨cl266, Ar266, -, S266, M266, -, -⟩ := id Vb
  obtain ⟨fs, hr, hrun, hended, hW, hsame⟩ := X0.leave (v := some (.int (nar .byte (0 : Int32)))) (fun h => by rw [Bd.returns] at h; cases h)
  refine ⟨_, _, pre0 _ ?_, hrun, hended, _, _, rfl, ?_, ⟨_, rfl⟩, hW, hsame.mono (by decide) (by decide)⟩
  · show Sp p e below m s₁ 0 #[vr ab, vi 2] [] _
    refine XS.iloadN X0.here hx rfl (hb hby d12_0) rfl ?_
    refine XS.aloadN X0.here hx rfl (hb hby d12_1) rfl rfl ?_
    refine X0.arraylength hx (by rw [e0]; exact Ar266.1) (State.isArrayOf_alike hZ.alike Ar266.2.1) (g := (mkF m 2 #[vr ab, vi 2] [(.ref ab), (.int 2)])) rfl rfl (hb hby d12_2) _ ?_
    rw [len_of S266 M266]
    show Sp p e below m s₁ 3 #[vr ab, vi 2] [(.int 2), (.int 2)] _
    refine XS.isub X0.here hx rfl (hb hby d12_3) rfl ?_
    refine XS.bipush X0.here hx rfl (hb hby d12_4) ?_
    refine XS.iushr X0.here hx rfl (hb hby d12_6) rfl ?_
    refine XS.i2b X0.here hx rfl (hb hby d12_7) rfl ?_
    exact retN X0 hx (t := .byte) Bd.returns (by simp) (hb hby d12_8) hr
  · show Q12n2 Z ab kb vs h0 n0 _ s₁.heap _
    rw [e0]
    exact ⟨rfl, N0, rfl⟩
theorem ef_4n2 (m : MethodId) (x0 : Addr) (x1 : Addr) : entryFrame m #[(.ref x0), (.ref x1), (.int 0), (.int 2), .null] 6 = mkF m 0 #[.val (.ref x0), .val (.ref x1), .val (.int 0), .val (.int 2), .val .null, .unset] [] := by first | (simp [entryFrame, mkF, argsToLocals, Value.category]; done) | rfl
def Q4n2 (Z : State) (aa : Addr) (ac : Addr) (cs : Int32) (vf : Value) (kc : ClassId) (cc0 : Int32) (cc1 : Int32) (h0 : Heap) (n0 : Nat) (v : Option Value) (h : Heap) (L : List Loc) : Prop := ∃ (rb : Addr) (rk : ClassId), v = none ∧ Fr n0 L ∧ Keep h0 h [aa] ∧ Exa Z h aa "java/lang/String" ∧ Fld Z h aa "java/lang/String" "value" "[B" (.ref rb) ∧ Fld Z h aa "java/lang/String" "coder" "B" (.int 0) ∧ Arv Z h rb rk .byte (2 : Int32) [(.int (nar .byte (cc0.toInt8.toInt32))), (.int (nar .byte (cc1.toInt8.toInt32)))] (.int 0) ∧ n0 ≤ rb ∧ h0.size ≤ rb
theorem rm4n2 (l : Launch) (Z : State) (a0 : Array Value) (hw : ∀ d ∈ tables_1, d.before a0 Z = true) (ws : List Jvm.Cond) (aa : Addr) (ac : Addr) (cs : Int32) (vf : Value) (kc : ClassId) (cc0 : Int32) (cc1 : Int32) (h0 : Heap) (n0 : Nat) (Z0 : n0 ≤ h0.size) (O0 : Old Z n0 h0) (Scs : Sta Z Z.heap "java/lang/String" "COMPACT_STRINGS" "Z" (.int cs)) (hcs : ¬ cs = (0 : Int32)) (Ssf : Sta Z Z.heap "jdk/internal/util/Preconditions" "SIOOBE_FORMATTER" "Ljava/util/function/BiFunction;" vf) (hvf : vf.isRef = true) (Ea : Exa Z h0 aa "java/lang/String") (Fv : Fld Z h0 aa "java/lang/String" "value" "[B" .null) (Fc : Fld Z h0 aa "java/lang/String" "coder" "B" (.int 0)) (g_aa : n0 ≤ aa) (Vc : Arv Z h0 ac kc .char (2 : Int32) [(.int cc0), (.int cc1)] (.int 0)) (nac : aa ≠ ac) (hp0 : 0 ≤ cc0.toInt ∧ cc0.toInt ≤ 255) (hp1 : 0 ≤ cc1.toInt ∧ cc1.toInt ≤ 255) :
    MetFree l (⟨"java/lang/String", "<init>", "([CIILjava/lang/Void;)V"⟩ : MethodName) (head1 (Jvm.Cond.code (⟨"java/lang/String", "<init>", "([CIILjava/lang/Void;)V"⟩ : MethodName) jdk_42_method_149_code 6 none :: ws) ({ frames := 2, cells := 1, slots := 2, locals := 35 } : Room)) (fun a U => a = #[(.ref aa), (.ref ac), (.int 0), (.int 2), .null] ∧ Z.Warmed39 U.vm ∧ U.heap = h0) (fun _ _ _ _ _ => True) (fun _ U o U' => ∃ v L, o = .returned v ∧ Q4n2 Z aa ac cs vf kc cc0 cc1 h0 n0 v U'.heap L ∧ FrameEnd U o U' L ({ frames := 2, cells := 1, slots := 2, locals := 35 } : Room).cells ({ frames := 2, cells := 1, slots := 2, locals := 35 } : Room).slots) := by
  refine MetFree.of_bodySF (plainFor_of_name own_pn13) hisR ?_
  intro p e s m args below meth c s₁ Bd hml0 hP hK
  have H := fun i c (h : tables_1[i]? = some c) => hw c (List.mem_of_getElem? h)
  obtain ⟨rfl, hZ, hh⟩ := hP
  have hx := Bd.exec
  have hby := Bd.bytes
  have hml : c.maxLocals = 6 := hml0
  have hown : s.vm.findClass "java/lang/String" = some m.cls := findClass_of_methodNamed Bd.named
  have hnm := (name_of_methodNamed Bd.named Bd.method).1
  have X0 : Stand p l e ({ frames := 2, cells := 1, slots := 2, locals := 35 } : Room) s m #[(.ref aa), (.ref ac), (.int 0), (.int 2), .null] below meth c s₁ [] 0 0 := Stand.of_body Bd
  have e0 : s₁.heap = h0 := by rw [← hh, Bd.state]; rfl
  have N0 := Fr.nil n0
  have pre0 : ∀ t, Sp p e below m s₁ 0 #[vr aa, vr ac, vi 0, vi 2, .val .null, .unset] [] t → Steps p.tables e below (s₁.setTop (entryFrame m #[(.ref aa), (.ref ac), (.int 0), (.int 2), .null] 6)) t := fun t k => castTop (ef_4n2 m aa ac) k
  generalize s₁.setTop (entryFrame m #[(.ref aa), (.ref ac), (.int 0), (.int 2), .null] 6) = G0 at pre0 ⊢
  obtain ⟨T293, X293, e293, st293⟩ := initO X0 hx hZ hown (H 18 _ rfl) (H 19 _ rfl) (H 20 _ rfl) e0 (g := (mkF m 1 #[vr aa, vr ac, vi 0, vi 2, .val .null, .unset] [(.ref aa)])) rfl (by rw [hml]; rfl) rfl (hb hby d4_1) (by decide) (W := 0) (Nat.le_of_eq rfl) (by decide)
  obtain ⟨T294, X294, e294, st294⟩ := getS2 X293 hx hZ hown (host := "") (Or.inl (H 60 _ rfl)) Via.refl e293 (Scs.ext O0.2) (g := (mkF m 27 #[vr aa, vr ac, vi 0, vi 2, .val .null, .unset] [])) rfl (hb hby d4_27)
  obtain ⟨_, _, ⟨T295, L295, k295, n295⟩, -, X295, ⟨Lc295, hQ295, l295, y295, z295⟩, st295⟩ := Jvm.LawKit.callS X294 hx hown (mvT hZ (H 63 _ rfl)) (mvT hZ (H 64 _ rfl)) (mvT hZ (H 65 _ rfl)) (mvT hZ (H 66 _ rfl)) (by decide) (backOf (W := 0) (rm10n2 l Z a0 hw [] ac kc cc0 cc1 h0 n0 Z0 Vc hp0 hp1) hZ (H 66 _ rfl) (H 65 _ rfl) (by decide) (by decide)) (g := (mkF m 36 #[vr aa, vr ac, vi 0, vi 2, .val .null, .unset] [(.int 2), (.int 0), (.ref ac)])) rfl (by rw [hml]; rfl) (argsL := [(.ref ac), (.int 0), (.int 2)]) (rest := []) (lenOf own_pd87 rfl) rfl (Nat.le_of_eq rfl) (hb hby d4_36) (fun _ _ => ⟨rfl, e294, (by decide : 0 + 1 ≤ _), (by decide : 0 + 2 ≤ _)⟩)
  dsimp only [Pt.U, Pt.locs, Pt.cells, Pt.slots] at X295 l295 y295 z295 st295 hQ295
  rw [l295, y295, z295] at X295
  obtain ⟨rrb_295, rrk_295, rfl, Nq295, K295, p295_0, p295_1, p295_2⟩ := hQ295
  have N295 := Fr.app N0 Nq295
  have Zs295 : n0 ≤ T295.heap.size := Nat.le_trans Z0 K295.1
  have KK295 : Keep h0 T295.heap [aa] := (Keep.refl h0 _).trans K295 all0
  have ne_aa_rrb_295 : aa ≠ rrb_295 := Nat.ne_of_lt (Nat.lt_of_lt_of_le Ea.lt p295_2)
  have ne_ac_rrb_295 : ac ≠ rrb_295 := Nat.ne_of_lt (Nat.lt_of_lt_of_le Vc.lt p295_2)
  have sz_rrb_295 : h0.size ≤ rrb_295 := p295_2
  have O295 := O0.keep K295 (all0)
  have f296 := Scs.ext O295.2
  have f297 := Ssf.ext O295.2
  have f298 := Ea.keep K295
  have f299 := Fv.keep K295 nin0
  have f300 := Fc.keep K295 nin0
  have f301 := Vc.keep K295 nin0
  have g_rrb_295 := p295_1
  obtain ⟨_, _, ⟨T302, L302, k302, n302⟩, -, X302, ⟨Lc302, hQ302, l302, y302, z302⟩, st302⟩ := Jvm.LawKit.callS X295 hx hown (mvT hZ (H 70 _ rfl)) (mvT hZ (H 71 _ rfl)) (mvT hZ (H 65 _ rfl)) (mvT hZ (H 72 _ rfl)) (by decide) (backOf (W := 1) (rm12n2 l Z a0 hw [] rrb_295 rrk_295 [(.int (nar .byte (cc0.toInt8.toInt32))), (.int (nar .byte (cc1.toInt8.toInt32)))] T295.heap n0 Zs295 p295_0) hZ (H 72 _ rfl) (H 65 _ rfl) (by decide) (by decide)) (g := (mkF m 45 #[vr aa, vr ac, vi 0, vi 2, .val .null, vr rrb_295] [(.int 2), (.ref rrb_295), (.ref aa)])) rfl (by rw [hml]; rfl) (argsL := [(.ref rrb_295), (.int 2)]) (rest := [(.ref aa)]) (lenOf own_pd93 rfl) rfl (Nat.le_of_eq rfl) (hb hby d4_45) (fun _ _ => ⟨rfl, rfl, (by decide : 1 + 0 ≤ _), (by decide : 2 + 0 ≤ _)⟩)
  dsimp only [Pt.U, Pt.locs, Pt.cells, Pt.slots] at X302 l302 y302 z302 st302 hQ302
  rw [l302, y302, z302] at X302
  obtain ⟨rfl, Nq302, e302⟩ := hQ302
  have N302 := Fr.app N295 Nq302
  obtain ⟨T303, h303, X303, e303, W303, st303⟩ := putFN X302 hx hZ hown (H 28 _ rfl) Via.refl e302 f300 f298 (Or.inr ⟨(H 24 _ rfl), rfl, hnm⟩) (H 8 _ rfl) (ty := .byte) (v' := (.int 0)) (by decide) rfl (fits_nar_byte (0 : Int32)) (g := (mkF m 48 #[vr aa, vr ac, vi 0, vi 2, .val .null, vr rrb_295] [(.int 0), (.ref aa)])) rfl rfl (hb hby d4_48)
  have N303 := Fr.snoc X303 N302 g_aa
  have Zs303 : n0 ≤ h303.size := Nat.le_trans Zs295 (Keep.of_wr W303).1
  have KK303 : Keep h0 h303 [aa] := KK295.wr W303 (Or.inl (List.mem_of_getElem? (i := 0) rfl))
  have O303 := O295.wr W303 g_aa
  have f304 := f296.wr W303
  have f305 := f297.wr W303
  have f306 := f298.wr W303
  have f307 := f299.other W303 (Or.inr (slot_ne (Or.inr (H 23 _ rfl)) (Or.inr (H 24 _ rfl)) (by decide) (t := (.array .byte)) (t' := .byte) (by decide) (by decide)))
  have f308 := f300.same W303
  have f309 := f301.other W303 (Ne.symm nac)
  have f310 := p295_0.other W303 (Ne.symm ne_aa_rrb_295)
  obtain ⟨T311, h311, X311, e311, W311, st311⟩ := putF X303 hx hZ hown (host := "") (Or.inl (H 27 _ rfl)) Via.refl e303 f307 f306 (Or.inr ⟨(H 23 _ rfl), rfl, hnm⟩) (H 8 _ rfl) (ty := (.array .byte)) (by decide) rfl rfl (g := (mkF m 54 #[vr aa, vr ac, vi 0, vi 2, .val .null, vr rrb_295] [(.ref rrb_295), (.ref aa)])) rfl rfl (hb hby d4_54)
  have N311 := Fr.snoc X311 N303 g_aa
  have Zs311 : n0 ≤ h311.size := Nat.le_trans Zs303 (Keep.of_wr W311).1
  have KK311 : Keep h0 h311 [aa] := KK303.wr W311 (Or.inl (List.mem_of_getElem? (i := 0) rfl))
  have O311 := O303.wr W311 g_aa
  have f312 := f304.wr W311
  have f313 := f305.wr W311
  have f314 := f306.wr W311
  have f315 := f307.same W311
  have f316 := f308.other W311 (Or.inr (slot_ne (Or.inr (H 24 _ rfl)) (Or.inr (H 23 _ rfl)) (by decide) (t := .byte) (t' := (.array .byte)) (by decide) (by decide)))
  have f317 := f309.other W311 (Ne.symm nac)
  have f318 := f310.other W311 (Ne.symm ne_aa_rrb_295)
  obtain ⟨fs, hr, hrun, hended, hW, hsame⟩ := X311.leave (v := none) (fun _ => rfl)
  refine ⟨_, _, pre0 _ ?_, hrun, hended, _, _, rfl, ?_, ⟨_, rfl⟩, hW, hsame.mono (by decide) (by decide)⟩
  · show Sp p e below m s₁ 0 #[vr aa, vr ac, vi 0, vi 2, .val .null, .unset] [] _
    refine XS.aloadN X0.here hx rfl (hb hby d4_0) rfl rfl ?_
    refine st293 _ ?_
    show Sp p e below m T293 4 #[vr aa, vr ac, vi 0, vi 2, .val .null, .unset] [] _
    refine XS.iloadN X293.here hx rfl (hb hby d4_4) rfl ?_
    refine XS.ifYes X293.here hx rfl (pc0 := 5) (pc' := 27) rfl (hb hby d4_5) rfl ((if0 _ _).trans (feq (by decide : ¬ ((2 : Int32) = (0 : Int32)))).2) (by decide) (by decide) ?_
    refine st294 _ ?_
    show Sp p e below m T294 30 #[vr aa, vr ac, vi 0, vi 2, .val .null, .unset] [(.int cs)] _
    refine XS.ifNo X294.here hx rfl (hb hby d4_30) rfl ((if0 _ _).trans (feq (hcs : ¬ (cs = (0 : Int32)))).1) ?_
    refine XS.aloadN X294.here hx rfl (hb hby d4_33) rfl rfl ?_
    refine XS.iloadN X294.here hx rfl (hb hby d4_34) rfl ?_
    refine XS.iloadN X294.here hx rfl (hb hby d4_35) rfl ?_
    refine st295 _ ?_
    show Sp p e below m T295 39 #[vr aa, vr ac, vi 0, vi 2, .val .null, .unset] [(.ref rrb_295)] _
    refine XS.astore X295.here hx rfl (hb hby d4_39) rfl rfl (l' := #[vr aa, vr ac, vi 0, vi 2, .val .null, vr rrb_295]) rfl ?_
    refine XS.aloadN X295.here hx rfl (hb hby d4_41) rfl rfl ?_
    refine XS.aload X295.here hx rfl (hb hby d4_42) rfl rfl ?_
    refine XS.iloadN X295.here hx rfl (hb hby d4_44) rfl ?_
    refine st302 _ ?_
    show Sp p e below m T302 48 #[vr aa, vr ac, vi 0, vi 2, .val .null, vr rrb_295] [(.int 0), (.ref aa)] _
    refine st303 _ ?_
    show Sp p e below m T303 51 #[vr aa, vr ac, vi 0, vi 2, .val .null, vr rrb_295] [] _
    refine XS.aloadN X303.here hx rfl (hb hby d4_51) rfl rfl ?_
    refine XS.aload X303.here hx rfl (hb hby d4_52) rfl rfl ?_
    refine st311 _ ?_
    show Sp p e below m T311 57 #[vr aa, vr ac, vi 0, vi 2, .val .null, vr rrb_295] [] _
    exact X311.returnOut hx Bd.returns (hb hby d4_57) hr
  · show Q4n2 Z aa ac cs vf kc cc0 cc1 h0 n0 _ T311.heap _
    rw [e311]
    exact ⟨rrb_295, rrk_295, rfl, N311, KK311, f314, f315, f316, f318, g_rrb_295, sz_rrb_295⟩
theorem ef_3n2 (m : MethodId) (x0 : Addr) (x1 : Addr) : entryFrame m #[(.ref x0), (.ref x1)] 2 = mkF m 0 #[.val (.ref x0), .val (.ref x1)] [] := by first | (simp [entryFrame, mkF, argsToLocals, Value.category]; done) | rfl
def Q3n2 (Z : State) (aa : Addr) (ac : Addr) (cs : Int32) (vf : Value) (kc : ClassId) (cc0 : Int32) (cc1 : Int32) (h0 : Heap) (n0 : Nat) (v : Option Value) (h : Heap) (L : List Loc) : Prop := ∃ (rb : Addr) (rk : ClassId), v = none ∧ Fr n0 L ∧ Keep h0 h [aa] ∧ Exa Z h aa "java/lang/String" ∧ Fld Z h aa "java/lang/String" "value" "[B" (.ref rb) ∧ Fld Z h aa "java/lang/String" "coder" "B" (.int 0) ∧ Arv Z h rb rk .byte (2 : Int32) [(.int (nar .byte (cc0.toInt8.toInt32))), (.int (nar .byte (cc1.toInt8.toInt32)))] (.int 0) ∧ n0 ≤ rb ∧ h0.size ≤ rb
theorem rm3n2 (l : Launch) (Z : State) (a0 : Array Value) (hw : ∀ d ∈ tables_1, d.before a0 Z = true) (ws : List Jvm.Cond) (aa : Addr) (ac : Addr) (cs : Int32) (vf : Value) (kc : ClassId) (cc0 : Int32) (cc1 : Int32) (h0 : Heap) (n0 : Nat) (Z0 : n0 ≤ h0.size) (O0 : Old Z n0 h0) (Scs : Sta Z Z.heap "java/lang/String" "COMPACT_STRINGS" "Z" (.int cs)) (hcs : ¬ cs = (0 : Int32)) (Ssf : Sta Z Z.heap "jdk/internal/util/Preconditions" "SIOOBE_FORMATTER" "Ljava/util/function/BiFunction;" vf) (hvf : vf.isRef = true) (Ea : Exa Z h0 aa "java/lang/String") (Fv : Fld Z h0 aa "java/lang/String" "value" "[B" .null) (Fc : Fld Z h0 aa "java/lang/String" "coder" "B" (.int 0)) (g_aa : n0 ≤ aa) (Vc : Arv Z h0 ac kc .char (2 : Int32) [(.int cc0), (.int cc1)] (.int 0)) (nac : aa ≠ ac) (hp0 : 0 ≤ cc0.toInt ∧ cc0.toInt ≤ 255) (hp1 : 0 ≤ cc1.toInt ∧ cc1.toInt ≤ 255) :
    MetFree l (⟨"java/lang/String", "<init>", "([C)V"⟩ : MethodName) (head1 (Jvm.Cond.code (⟨"java/lang/String", "<init>", "([C)V"⟩ : MethodName) jdk_42_method_3_code 2 none :: ws) ({ frames := 3, cells := 1, slots := 2, locals := 52 } : Room)) (fun a U => a = #[(.ref aa), (.ref ac)] ∧ Z.Warmed39 U.vm ∧ U.heap = h0) (fun _ _ _ _ _ => True) (fun _ U o U' => ∃ v L, o = .returned v ∧ Q3n2 Z aa ac cs vf kc cc0 cc1 h0 n0 v U'.heap L ∧ FrameEnd U o U' L ({ frames := 3, cells := 1, slots := 2, locals := 52 } : Room).cells ({ frames := 3, cells := 1, slots := 2, locals := 52 } : Room).slots) := by
  refine MetFree.of_bodySF (plainFor_of_name own_pn13) hisR ?_
  intro p e s m args below meth c s₁ Bd hml0 hP hK
  have H := fun i c (h : tables_1[i]? = some c) => hw c (List.mem_of_getElem? h)
  obtain ⟨rfl, hZ, hh⟩ := hP
  have hx := Bd.exec
  have hby := Bd.bytes
  have hml : c.maxLocals = 2 := hml0
  have hown : s.vm.findClass "java/lang/String" = some m.cls := findClass_of_methodNamed Bd.named
  have hnm := (name_of_methodNamed Bd.named Bd.method).1
  have X0 : Stand p l e ({ frames := 3, cells := 1, slots := 2, locals := 52 } : Room) s m #[(.ref aa), (.ref ac)] below meth c s₁ [] 0 0 := Stand.of_body Bd
  have e0 : s₁.heap = h0 := by rw [← hh, Bd.state]; rfl
  have N0 := Fr.nil n0
  have pre0 : ∀ t, Sp p e below m s₁ 0 #[vr aa, vr ac] [] t → Steps p.tables e below (s₁.setTop (entryFrame m #[(.ref aa), (.ref ac)] 2)) t := fun t k => castTop (ef_3n2 m aa ac) k
  generalize s₁.setTop (entryFrame m #[(.ref aa), (.ref ac)] 2) = G0 at pre0 ⊢
  obtain ⟨cl325, Ar325, -, S325, M325, -, -⟩ := id Vc
  obtain ⟨_, _, ⟨T326, L326, k326, n326⟩, -, X326, ⟨Lc326, hQ326, l326, y326, z326⟩, st326⟩ := X0.specialBack hx (y := (⟨"java/lang/String", "<init>", "([CIILjava/lang/Void;)V"⟩ : MethodName)) rfl hown (mvT hZ (H 14 _ rfl)) (mvT hZ (H 15 _ rfl)) (mvT hZ (H 17 _ rfl)) (by decide) (backOf (W := 0) (rm4n2 l Z a0 hw [] aa ac cs vf kc cc0 cc1 h0 n0 Z0 O0 Scs hcs Ssf hvf Ea Fv Fc g_aa Vc nac hp0 hp1) hZ (H 17 _ rfl) (H 9 _ rfl) (by decide) (by decide)) (g := (mkF m 6 #[vr aa, vr ac] [.null, (.int 2), (.int 0), (.ref ac), (.ref aa)])) rfl (by rw [hml]; rfl) (Steps.refl _) (a := aa) (argsL := [(.ref ac), (.int 0), (.int 2), .null]) (rest := []) (lenOf own_pd21 rfl) rfl (Nat.le_of_eq rfl) (hb hby d3_6) (fun _ _ => ⟨rfl, e0, (by decide : 0 + 1 ≤ _), (by decide : 0 + 2 ≤ _)⟩)
  dsimp only [Pt.U, Pt.locs, Pt.cells, Pt.slots] at X326 l326 y326 z326 st326 hQ326
  rw [l326, y326, z326] at X326
  obtain ⟨rrb_326, rrk_326, rfl, Nq326, K326, p326_0, p326_1, p326_2, p326_3, p326_4, p326_5⟩ := hQ326
  have N326 := Fr.app N0 Nq326
  have Zs326 : n0 ≤ T326.heap.size := Nat.le_trans Z0 K326.1
  have KK326 : Keep h0 T326.heap [aa] := (Keep.refl h0 _).trans K326 (allS (Or.inl (List.mem_of_getElem? (i := 0) rfl)) all0)
  have ne_aa_rrb_326 : aa ≠ rrb_326 := Nat.ne_of_lt (Nat.lt_of_lt_of_le Ea.lt p326_5)
  have ne_ac_rrb_326 : ac ≠ rrb_326 := Nat.ne_of_lt (Nat.lt_of_lt_of_le Vc.lt p326_5)
  have sz_rrb_326 : h0.size ≤ rrb_326 := p326_5
  have O326 := O0.keep K326 (allS g_aa all0)
  have f327 := Scs.ext O326.2
  have f328 := Ssf.ext O326.2
  have f329 := Ea.keep K326
  have f330 := Vc.keep K326 (ninS (Ne.symm nac) nin0)
  have g_rrb_326 := p326_4
  obtain ⟨fs, hr, hrun, hended, hW, hsame⟩ := X326.leave (v := none) (fun _ => rfl)
  refine ⟨_, _, pre0 _ ?_, hrun, hended, _, _, rfl, ?_, ⟨_, rfl⟩, hW, hsame.mono (by decide) (by decide)⟩
  · show Sp p e below m s₁ 0 #[vr aa, vr ac] [] _
    refine XS.aloadN X0.here hx rfl (hb hby d3_0) rfl rfl ?_
    refine XS.aloadN X0.here hx rfl (hb hby d3_1) rfl rfl ?_
    refine XS.iconst X0.here hx rfl (hb hby d3_2) ?_
    refine XS.aloadN X0.here hx rfl (hb hby d3_3) rfl rfl ?_
    refine X0.arraylength hx (by rw [e0]; exact Ar325.1) (State.isArrayOf_alike hZ.alike Ar325.2.1) (g := (mkF m 4 #[vr aa, vr ac] [(.ref ac), (.int 0), (.ref ac), (.ref aa)])) rfl rfl (hb hby d3_4) _ ?_
    rw [len_of S325 M325]
    show Sp p e below m s₁ 5 #[vr aa, vr ac] [(.int 2), (.int 0), (.ref ac), (.ref aa)] _
    refine XS.aconstNull X0.here hx rfl (hb hby d3_5) ?_
    refine st326.trans ?_
    show Sp p e below m T326 9 #[vr aa, vr ac] [] _
    exact X326.returnOut hx Bd.returns (hb hby d3_9) hr
  · show Q3n2 Z aa ac cs vf kc cc0 cc1 h0 n0 _ T326.heap _
    exact ⟨rrb_326, rrk_326, rfl, N326, KK326, p326_0, p326_1, p326_2, p326_3, g_rrb_326, sz_rrb_326⟩
theorem d2_35 : decode method_6_code 35 = .ok (.iload_n 0, 1) := by decide +kernel
theorem d2_36 : decode method_6_code 36 = .ok (.iconst 2, 1) := by decide +kernel
theorem d2_37 : decode method_6_code 37 = .ok (.if_icmp .ne 22, 3) := by decide +kernel
theorem d2_40 : decode method_6_code 40 = .ok (.new 41, 3) := by decide +kernel
theorem d2_43 : decode method_6_code 43 = .ok (.dup, 1) := by decide +kernel
theorem d2_44 : decode method_6_code 44 = .ok (.iconst 2, 1) := by decide +kernel
theorem d2_45 : decode method_6_code 45 = .ok (.newarray .char, 2) := by decide +kernel
theorem d2_47 : decode method_6_code 47 = .ok (.dup, 1) := by decide +kernel
theorem d2_48 : decode method_6_code 48 = .ok (.iconst 0, 1) := by decide +kernel
theorem d2_49 : decode method_6_code 49 = .ok (.iload_n 1, 1) := by decide +kernel
theorem d2_50 : decode method_6_code 50 = .ok (.castore, 1) := by decide +kernel
theorem d2_51 : decode method_6_code 51 = .ok (.dup, 1) := by decide +kernel
theorem d2_52 : decode method_6_code 52 = .ok (.iconst 1, 1) := by decide +kernel
theorem d2_53 : decode method_6_code 53 = .ok (.iload_n 2, 1) := by decide +kernel
theorem d2_54 : decode method_6_code 54 = .ok (.castore, 1) := by decide +kernel
theorem d2_55 : decode method_6_code 55 = .ok (.invokespecial 43, 3) := by decide +kernel
theorem d2_58 : decode method_6_code 58 = .ok (.areturn, 1) := by decide +kernel
theorem ef_2n2 (m : MethodId) (x1 : Int32) (x2 : Int32) (x3 : Int32) (x4 : Int32) : entryFrame m #[(.int 2), (.int x1), (.int x2), (.int x3), (.int x4)] 5 = mkF m 0 #[.val (.int 2), .val (.int x1), .val (.int x2), .val (.int x3), .val (.int x4)] [] := by first | (simp [entryFrame, mkF, argsToLocals, Value.category]; done) | rfl
def Q2n2 (Z : State) (pa0 : Int32) (pa1 : Int32) (pa2 : Int32) (pa3 : Int32) (cs : Int32) (vf : Value) (h0 : Heap) (n0 : Nat) (v : Option Value) (h : Heap) (L : List Loc) : Prop := ∃ (so : Addr) (rb : Addr) (rk : ClassId), v = some (.ref so) ∧ Fr n0 L ∧ Keep h0 h [] ∧ Exa Z h so "java/lang/String" ∧ Fld Z h so "java/lang/String" "value" "[B" (.ref rb) ∧ Fld Z h so "java/lang/String" "coder" "B" (.int 0) ∧ Arv Z h rb rk .byte (2 : Int32) [(.int (own_b pa0)), (.int (own_b pa1))] (.int 0)
theorem rm2n2 (l : Launch) (Z : State) (a0 : Array Value) (hw : ∀ d ∈ tables_1, d.before a0 Z = true) (ws : List Jvm.Cond) (pa0 : Int32) (pa1 : Int32) (pa2 : Int32) (pa3 : Int32) (cs : Int32) (vf : Value) (h0 : Heap) (n0 : Nat) (Z0 : n0 ≤ h0.size) (O0 : Old Z n0 h0) (Scs : Sta Z Z.heap "java/lang/String" "COMPACT_STRINGS" "Z" (.int cs)) (hcs : ¬ cs = (0 : Int32)) (Ssf : Sta Z Z.heap "jdk/internal/util/Preconditions" "SIOOBE_FORMATTER" "Ljava/util/function/BiFunction;" vf) (hvf : vf.isRef = true) (Hc : Jvm.Lit.constHeld Z "java/lang/String" 7) (Hcw : Jvm.Lit.compactW.before a0 Z = true) (hp0 : 0 ≤ pa0.toInt ∧ pa0.toInt ≤ 255) (hp1 : 0 ≤ pa1.toInt ∧ pa1.toInt ≤ 255) (hp2 : 0 ≤ pa2.toInt ∧ pa2.toInt ≤ 255) (hp3 : 0 ≤ pa3.toInt ∧ pa3.toInt ≤ 255) :
    MetFree l (⟨"com/example/onus_on_beans/onusonbeans/validators/CheckDigitRangeWholeTextPinLaw", "text", "(ICCCC)Ljava/lang/String;"⟩ : MethodName) (head1 (Jvm.Cond.code (⟨"com/example/onus_on_beans/onusonbeans/validators/CheckDigitRangeWholeTextPinLaw", "text", "(ICCCC)Ljava/lang/String;"⟩ : MethodName) method_6_code 5 (some (.object "java/lang/String")) :: ws) ({ frames := 4, cells := 3, slots := 8, locals := 66 } : Room)) (fun a U => a = #[(.int 2), (.int pa0), (.int pa1), (.int pa2), (.int pa3)] ∧ Z.Warmed39 U.vm ∧ U.heap = h0) (fun _ _ _ _ _ => True) (fun _ U o U' => ∃ v L, o = .returned v ∧ Q2n2 Z pa0 pa1 pa2 pa3 cs vf h0 n0 v U'.heap L ∧ FrameEnd U o U' L ({ frames := 4, cells := 3, slots := 8, locals := 66 } : Room).cells ({ frames := 4, cells := 3, slots := 8, locals := 66 } : Room).slots) := by
  refine MetFree.of_bodySF (plainFor_of_name own_pn32) hisR ?_
  intro p e s m args below meth c s₁ Bd hml0 hP hK
  have H := fun i c (h : tables_1[i]? = some c) => hw c (List.mem_of_getElem? h)
  obtain ⟨rfl, hZ, hh⟩ := hP
  have hx := Bd.exec
  have hby := Bd.bytes
  have hml : c.maxLocals = 5 := hml0
  have hown : s.vm.findClass "com/example/onus_on_beans/onusonbeans/validators/CheckDigitRangeWholeTextPinLaw" = some m.cls := findClass_of_methodNamed Bd.named
  have hnm := (name_of_methodNamed Bd.named Bd.method).1
  have X0 : Stand p l e ({ frames := 4, cells := 3, slots := 8, locals := 66 } : Room) s m #[(.int 2), (.int pa0), (.int pa1), (.int pa2), (.int pa3)] below meth c s₁ [] 0 0 := Stand.of_body Bd
  have e0 : s₁.heap = h0 := by rw [← hh, Bd.state]; rfl
  have N0 := Fr.nil n0
  have pre0 : ∀ t, Sp p e below m s₁ 0 #[vi 2, vi pa0, vi pa1, vi pa2, vi pa3] [] t → Steps p.tables e below (s₁.setTop (entryFrame m #[(.int 2), (.int pa0), (.int pa1), (.int pa2), (.int pa3)] 5)) t := fun t k => castTop (ef_2n2 m pa0 pa1 pa2 pa3) k
  generalize s₁.setTop (entryFrame m #[(.int 2), (.int pa0), (.int pa1), (.int pa2), (.int pa3)] 5) = G0 at pre0 ⊢
  obtain ⟨T361, h361, X361, e361, E361, A361, D361, -, st361⟩ := newO X0 hx hZ hown (H 7 _ rfl) (H 8 _ rfl) (H 9 _ rfl) e0 (g := (mkF m 40 #[vi 2, vi pa0, vi pa1, vi pa2, vi pa3] [])) rfl (hb hby d2_40) (by decide) (by decide)
  obtain ⟨b361, g361⟩ : ∃ z, z = h0.size := ⟨_, rfl⟩
  rw [← g361] at A361 D361 st361
  have g_b361 : n0 ≤ b361 := Nat.le_trans Z0 (Nat.le_of_eq g361.symm)
  have sz_b361 : h0.size ≤ b361 := Nat.le_of_eq g361.symm
  have Zs361 : n0 ≤ h361.size := Nat.le_trans Z0 E361.1
  have KK361 : Keep h0 h361 [] := (Keep.refl h0 _).ext E361
  have O361 := O0.ext E361
  have f362 := (Scs.ext O0.2).ext E361
  have f363 := (Ssf.ext O0.2).ext E361
  have f364 : Fld Z h361 b361 "java/lang/String" "value" "[B" .null := D361 (Or.inr (H 23 _ rfl)) (ty := (.array .byte)) (by decide)
  have f365 : Fld Z h361 b361 "java/lang/String" "coder" "B" (.int 0) := D361 (Or.inr (H 24 _ rfl)) (ty := .byte) (by decide)
  obtain ⟨T366, h366, k366, X366, e366, E366, A366, st366⟩ := newP X361 hx hZ (H 10 _ rfl) e361 (g := (mkF m 45 #[vi 2, vi pa0, vi pa1, vi pa2, vi pa3] [(.int 2), (.ref b361), (.ref b361)])) rfl (hb hby d2_45) rfl (by decide) (cap := 2) (by decide) (by decide) (by decide) (by decide)
  obtain ⟨b366, g366⟩ : ∃ z, z = h361.size := ⟨_, rfl⟩
  rw [← g366] at A366 st366
  have g_b366 : n0 ≤ b366 := Nat.le_trans Zs361 (Nat.le_of_eq g366.symm)
  have sz_b366 : h0.size ≤ b366 := Nat.le_trans KK361.1 (Nat.le_of_eq g366.symm)
  have lt_b361_b366 : b361 < b366 := Nat.lt_of_lt_of_le A361.lt (Nat.le_of_eq g366.symm)
  have ne_b361_b366 : b361 ≠ b366 := Nat.ne_of_lt lt_b361_b366
  have Zs366 : n0 ≤ h366.size := Nat.le_trans Zs361 E366.1
  have KK366 : Keep h0 h366 [] := KK361.ext E366
  have O366 := O361.ext E366
  have f367 := f362.ext E366
  have f368 := f363.ext E366
  have f369 := A361.ext E366
  have f370 := f364.ext E366
  have f371 := f365.ext E366
  have V366 : Arv Z h366 b366 k366 .char (2 : Int32) [(.int 0), (.int 0)] (.int 0) := (Arv.new A366 (by decide)).pad (pad_rep [] (.int 0) 2)
  obtain ⟨cl372, Ar372, q372, S372, N372, H372, G372⟩ := id V366
  have hin372 : ¬ ((0 : Int32) < 0 ∨ cl372.slots.size ≤ ((0 : Int32)).toNatClampNeg) := inb_of S372 ⟨by decide, by decide⟩
  obtain ⟨T373, h373, X373, e373, W373, st373⟩ := stC X366 hx hZ e366 Ar372 (j := (0 : Int32)) hin372 (g := (mkF m 50 #[vi 2, vi pa0, vi pa1, vi pa2, vi pa3] [(.int pa0), (.int 0), (.ref b366), (.ref b366), (.ref b361), (.ref b361)])) rfl rfl (hb hby d2_50)
  have V373 : Arv Z h373 b366 k366 .char (2 : Int32) [(.int (nar .char pa0)), (.int 0)] (.int 0) := Arv.set Ar372 q372 S372 N372 H372 G372 (fits_nar_char pa0) W373 0 rfl (Nat.le_of_ble_eq_true rfl)
  have N373 := Fr.snoc X373 N0 g_b366
  have Zs373 : n0 ≤ h373.size := Nat.le_trans Zs366 (Keep.of_wr W373).1
  have KK373 : Keep h0 h373 [] := KK366.wr W373 (Or.inr sz_b366)
  have O373 := O366.wr W373 g_b366
  have f374 := f367.wr W373
  have f375 := f368.wr W373
  have f376 := f369.wr W373
  have f377 := f370.other W373 (Or.inl ne_b361_b366)
  have f378 := f371.other W373 (Or.inl ne_b361_b366)
  obtain ⟨cl379, Ar379, q379, S379, N379, H379, G379⟩ := id V373
  have hin379 : ¬ ((1 : Int32) < 0 ∨ cl379.slots.size ≤ ((1 : Int32)).toNatClampNeg) := inb_of S379 ⟨by decide, by decide⟩
  obtain ⟨T380, h380, X380, e380, W380, st380⟩ := stC X373 hx hZ e373 Ar379 (j := (1 : Int32)) hin379 (g := (mkF m 54 #[vi 2, vi pa0, vi pa1, vi pa2, vi pa3] [(.int pa1), (.int 1), (.ref b366), (.ref b366), (.ref b361), (.ref b361)])) rfl rfl (hb hby d2_54)
  have V380 : Arv Z h380 b366 k366 .char (2 : Int32) [(.int (nar .char pa0)), (.int (nar .char pa1))] (.int 0) := Arv.set Ar379 q379 S379 N379 H379 G379 (fits_nar_char pa1) W380 1 rfl (Nat.le_of_ble_eq_true rfl)
  have N380 := Fr.snoc X380 N373 g_b366
  have Zs380 : n0 ≤ h380.size := Nat.le_trans Zs373 (Keep.of_wr W380).1
  have KK380 : Keep h0 h380 [] := KK373.wr W380 (Or.inr sz_b366)
  have O380 := O373.wr W380 g_b366
  have f381 := f374.wr W380
  have f382 := f375.wr W380
  have f383 := f376.wr W380
  have f384 := f377.other W380 (Or.inl ne_b361_b366)
  have f385 := f378.other W380 (Or.inl ne_b361_b366)
  obtain ⟨_, _, ⟨T386, L386, k386, n386⟩, -, X386, ⟨Lc386, hQ386, l386, y386, z386⟩, st386⟩ := X380.specialBack hx (y := (⟨"java/lang/String", "<init>", "([C)V"⟩ : MethodName)) rfl hown (mvT hZ (H 11 _ rfl)) (mvT hZ (H 12 _ rfl)) (mvT hZ (H 13 _ rfl)) (by decide) (backOf (W := 1) (rm3n2 l Z a0 hw [] b361 b366 cs vf k366 (nar .char pa0) (nar .char pa1) h380 n0 Zs380 O380 Scs hcs Ssf hvf f383 f384 f385 g_b361 V380 ne_b361_b366 (own_ncb hp0) (own_ncb hp1)) hZ (H 13 _ rfl) (H 9 _ rfl) (by decide) (by decide)) (g := (mkF m 55 #[vi 2, vi pa0, vi pa1, vi pa2, vi pa3] [(.ref b366), (.ref b361), (.ref b361)])) rfl (by rw [hml]; rfl) (Steps.refl _) (a := b361) (argsL := [(.ref b366)]) (rest := [(.ref b361)]) (lenOf own_pd30 rfl) rfl (Nat.le_of_eq rfl) (hb hby d2_55) (fun _ _ => ⟨rfl, e380, (by decide : 2 + 1 ≤ _), (by decide : 6 + 2 ≤ _)⟩)
  dsimp only [Pt.U, Pt.locs, Pt.cells, Pt.slots] at X386 l386 y386 z386 st386 hQ386
  rw [l386, y386, z386] at X386
  obtain ⟨rrb_386, rrk_386, rfl, Nq386, K386, p386_0, p386_1, p386_2, p386_3, p386_4, p386_5⟩ := hQ386
  have N386 := Fr.app N380 Nq386
  have Zs386 : n0 ≤ T386.heap.size := Nat.le_trans Zs380 K386.1
  have KK386 : Keep h0 T386.heap [] := KK380.trans K386 (allS (Or.inr sz_b361) all0)
  have ne_b361_rrb_386 : b361 ≠ rrb_386 := Nat.ne_of_lt (Nat.lt_of_lt_of_le f383.lt p386_5)
  have ne_b366_rrb_386 : b366 ≠ rrb_386 := Nat.ne_of_lt (Nat.lt_of_lt_of_le V380.lt p386_5)
  have sz_rrb_386 : h0.size ≤ rrb_386 := Nat.le_trans KK380.1 p386_5
  have O386 := O380.keep K386 (allS g_b361 all0)
  have f387 := Scs.ext O386.2
  have f388 := Ssf.ext O386.2
  have f389 := f383.keep K386
  have f390 := V380.keep K386 (ninS (Ne.symm ne_b361_b366) nin0)
  have g_rrb_386 := p386_4
  obtain ⟨fs, hr, hrun, hended, hW, hsame⟩ := X386.leave (v := some (.ref b361)) (fun h => by rw [Bd.returns] at h; cases h)
  refine ⟨_, _, pre0 _ ?_, hrun, hended, _, _, rfl, ?_, ⟨_, rfl⟩, hW, hsame.mono (by decide) (by decide)⟩
  · show Sp p e below m s₁ 0 #[vi 2, vi pa0, vi pa1, vi pa2, vi pa3] [] _
    refine XS.iloadN X0.here hx rfl (hb hby d2_0) rfl ?_
    refine XS.ifYes X0.here hx rfl (pc0 := 1) (pc' := 15) rfl (hb hby d2_1) rfl ((if0 _ _).trans (feq (by decide : ¬ ((2 : Int32) = (0 : Int32)))).2) (by decide) (by decide) ?_
    refine XS.iloadN X0.here hx rfl (hb hby d2_15) rfl ?_
    refine XS.iconst X0.here hx rfl (hb hby d2_16) ?_
    refine XS.icmpYes X0.here hx rfl (pc0 := 17) (pc' := 35) rfl (hb hby d2_17) rfl (feq (by decide : ¬ ((2 : Int32) = (1 : Int32)))).2 (by decide) (by decide) ?_
    refine XS.iloadN X0.here hx rfl (hb hby d2_35) rfl ?_
    refine XS.iconst X0.here hx rfl (hb hby d2_36) ?_
    refine XS.icmpNo X0.here hx rfl (hb hby d2_37) rfl (teq (by decide : ((2 : Int32) = (2 : Int32)))).2 ?_
    show Sp p e below m s₁ 40 #[vi 2, vi pa0, vi pa1, vi pa2, vi pa3] [] _
    refine st361 _ ?_
    show Sp p e below m T361 43 #[vi 2, vi pa0, vi pa1, vi pa2, vi pa3] [(.ref b361)] _
    refine XS.dup X361.here hx rfl (hb hby d2_43) rfl rfl ?_
    refine XS.iconst X361.here hx rfl (hb hby d2_44) ?_
    refine st366 _ ?_
    show Sp p e below m T366 47 #[vi 2, vi pa0, vi pa1, vi pa2, vi pa3] [(.ref b366), (.ref b361), (.ref b361)] _
    refine XS.dup X366.here hx rfl (hb hby d2_47) rfl rfl ?_
    refine XS.iconst X366.here hx rfl (hb hby d2_48) ?_
    refine XS.iloadN X366.here hx rfl (hb hby d2_49) rfl ?_
    refine st373 _ ?_
    show Sp p e below m T373 51 #[vi 2, vi pa0, vi pa1, vi pa2, vi pa3] [(.ref b366), (.ref b361), (.ref b361)] _
    refine XS.dup X373.here hx rfl (hb hby d2_51) rfl rfl ?_
    refine XS.iconst X373.here hx rfl (hb hby d2_52) ?_
    refine XS.iloadN X373.here hx rfl (hb hby d2_53) rfl ?_
    refine st380 _ ?_
    show Sp p e below m T380 55 #[vi 2, vi pa0, vi pa1, vi pa2, vi pa3] [(.ref b366), (.ref b361), (.ref b361)] _
    refine st386.trans ?_
    show Sp p e below m T386 58 #[vi 2, vi pa0, vi pa1, vi pa2, vi pa3] [(.ref b361)] _
    jvm_step X386.here [X386.here.top, hx, (hb hby d2_58), X386.method', Bd.returns, Value.isRef, FieldType.isReference]
    first | (intro acts; rw [hr _ acts rfl rfl rfl]) | rw [hr _ _ rfl rfl rfl]
    exact Steps.refl _
  · show Q2n2 Z pa0 pa1 pa2 pa3 cs vf h0 n0 _ T386.heap _
    exact ⟨b361, rrb_386, rrk_386, rfl, N386, KK386, p386_0, p386_1, p386_2, p386_3⟩
theorem ef_11n3 (m : MethodId) (x0 : Addr) (x2 : Addr) : entryFrame m #[(.ref x0), (.int 0), (.ref x2), (.int 0), (.int 3)] 7 = mkF m 0 #[.val (.ref x0), .val (.int 0), .val (.ref x2), .val (.int 0), .val (.int 3), .unset, .unset] [] := by first | (simp [entryFrame, mkF, argsToLocals, Value.category]; done) | rfl
def Q11n3 (Z : State) (ac : Addr) (ab : Addr) (kc : ClassId) (cc0 : Int32) (cc1 : Int32) (cc2 : Int32) (kb : ClassId) (h0 : Heap) (n0 : Nat) (v : Option Value) (h : Heap) (L : List Loc) : Prop := v = some (.int 3) ∧ Fr n0 L ∧ Keep h0 h [ab] ∧ Arv Z h ab kb .byte (3 : Int32) [(.int (nar .byte (cc0.toInt8.toInt32))), (.int (nar .byte (cc1.toInt8.toInt32))), (.int (nar .byte (cc2.toInt8.toInt32)))] (.int 0)
theorem rm11n3 (l : Launch) (Z : State) (a0 : Array Value) (hw : ∀ d ∈ tables_1, d.before a0 Z = true) (ws : List Jvm.Cond) (ac : Addr) (ab : Addr) (kc : ClassId) (cc0 : Int32) (cc1 : Int32) (cc2 : Int32) (kb : ClassId) (h0 : Heap) (n0 : Nat) (Z0 : n0 ≤ h0.size) (Vc : Arv Z h0 ac kc .char (3 : Int32) [(.int cc0), (.int cc1), (.int cc2)] (.int 0)) (Vb : Arv Z h0 ab kb .byte (3 : Int32) [(.int 0), (.int 0), (.int 0)] (.int 0)) (g_ab : n0 ≤ ab) (nab : ac ≠ ab) (hp0 : 0 ≤ cc0.toInt ∧ cc0.toInt ≤ 255) (hp1 : 0 ≤ cc1.toInt ∧ cc1.toInt ≤ 255) (hp2 : 0 ≤ cc2.toInt ∧ cc2.toInt ≤ 255) :
    MetFree l (⟨"java/lang/StringUTF16", "compress", "([CI[BII)I"⟩ : MethodName) (head1 (Jvm.Cond.code (⟨"java/lang/StringUTF16", "compress", "([CI[BII)I"⟩ : MethodName) jdk_52_method_21_code 7 (some .int) :: ws) ({ frames := 0, cells := 0, slots := 0, locals := 0 } : Room)) (fun a U => a = #[(.ref ac), (.int 0), (.ref ab), (.int 0), (.int 3)] ∧ Z.Warmed39 U.vm ∧ U.heap = h0) (fun _ _ _ _ _ => True) (fun _ U o U' => ∃ v L, o = .returned v ∧ Q11n3 Z ac ab kc cc0 cc1 cc2 kb h0 n0 v U'.heap L ∧ FrameEnd U o U' L ({ frames := 0, cells := 0, slots := 0, locals := 0 } : Room).cells ({ frames := 0, cells := 0, slots := 0, locals := 0 } : Room).slots) := by
  refine MetFree.of_bodySF (plainFor_of_name own_pn56) hisR ?_
  intro p e s m args below meth c s₁ Bd hml0 hP hK
  have H := fun i c (h : tables_1[i]? = some c) => hw c (List.mem_of_getElem? h)
  obtain ⟨rfl, hZ, hh⟩ := hP
  have hx := Bd.exec
  have hby := Bd.bytes
  have hml : c.maxLocals = 7 := hml0
  have hown : s.vm.findClass "java/lang/StringUTF16" = some m.cls := findClass_of_methodNamed Bd.named
  have hnm := (name_of_methodNamed Bd.named Bd.method).1
  have X0 : Stand p l e ({ frames := 0, cells := 0, slots := 0, locals := 0 } : Room) s m #[(.ref ac), (.int 0), (.ref ab), (.int 0), (.int 3)] below meth c s₁ [] 0 0 := Stand.of_body Bd
  have e0 : s₁.heap = h0 := by rw [← hh, Bd.state]; rfl
  have N0 := Fr.nil n0
  have pre0 : ∀ t, Sp p e below m s₁ 0 #[vr ac, vi 0, vr ab, vi 0, vi 3, .unset, .unset] [] t → Steps p.tables e below (s₁.setTop (entryFrame m #[(.ref ac), (.int 0), (.ref ab), (.int 0), (.int 3)] 7)) t := fun t k => castTop (ef_11n3 m ac ab) k
  generalize s₁.setTop (entryFrame m #[(.ref ac), (.int 0), (.ref ab), (.int 0), (.int 3)] 7) = G0 at pre0 ⊢
  obtain ⟨cl403, Ar403, -, S403, -, H403, -⟩ := id Vc
  have hin403 : ¬ ((0 : Int32) < 0 ∨ cl403.slots.size ≤ ((0 : Int32)).toNatClampNeg) := inb_of S403 ⟨by decide, by decide⟩
  have hat403 : cl403.slots[((0 : Int32)).toNatClampNeg]? = some (.int cc0) := H403.at hin403 rfl
  obtain ⟨cl404, Ar404, q404, S404, N404, H404, G404⟩ := id Vb
  have hin404 : ¬ ((0 : Int32) < 0 ∨ cl404.slots.size ≤ ((0 : Int32)).toNatClampNeg) := inb_of S404 ⟨by decide, by decide⟩
  obtain ⟨T405, h405, X405, e405, W405, st405⟩ := stB X0 hx hZ e0 Ar404 (j := (0 : Int32)) hin404 (g := (mkF m 31 #[vr ac, vi 0, vr ab, vi 0, vi 3, vi 0, vi cc0] [(.int (cc0.toInt8.toInt32)), (.int 0), (.ref ab)])) rfl rfl (hb hby d11_31)
  have V405 : Arv Z h405 ab kb .byte (3 : Int32) [(.int (nar .byte (cc0.toInt8.toInt32))), (.int 0), (.int 0)] (.int 0) := Arv.set Ar404 q404 S404 N404 H404 G404 (fits_nar_byte (cc0.toInt8.toInt32)) W405 0 rfl (Nat.le_of_ble_eq_true rfl)
  have N405 := Fr.snoc X405 N0 g_ab
  have Zs405 : n0 ≤ h405.size := Nat.le_trans Z0 (Keep.of_wr W405).1
  have KK405 : Keep h0 h405 [ab] := (Keep.refl h0 _).wr W405 (Or.inl (List.mem_of_getElem? (i := 0) rfl))
  have f406 := Vc.other W405 nab
  obtain ⟨cl407, Ar407, -, S407, -, H407, -⟩ := id f406
  have hin407 : ¬ ((1 : Int32) < 0 ∨ cl407.slots.size ≤ ((1 : Int32)).toNatClampNeg) := inb_of S407 ⟨by decide, by decide⟩
  have hat407 : cl407.slots[((1 : Int32)).toNatClampNeg]? = some (.int cc1) := H407.at hin407 rfl
  obtain ⟨cl408, Ar408, q408, S408, N408, H408, G408⟩ := id V405
  have hin408 : ¬ ((1 : Int32) < 0 ∨ cl408.slots.size ≤ ((1 : Int32)).toNatClampNeg) := inb_of S408 ⟨by decide, by decide⟩
  obtain ⟨T409, h409, X409, e409, W409, st409⟩ := stB X405 hx hZ e405 Ar408 (j := (1 : Int32)) hin408 (g := (mkF m 31 #[vr ac, vi 1, vr ab, vi 1, vi 3, vi 1, vi cc1] [(.int (cc1.toInt8.toInt32)), (.int 1), (.ref ab)])) rfl rfl (hb hby d11_31)
  have V409 : Arv Z h409 ab kb .byte (3 : Int32) [(.int (nar .byte (cc0.toInt8.toInt32))), (.int (nar .byte (cc1.toInt8.toInt32))), (.int 0)] (.int 0) := Arv.set Ar408 q408 S408 N408 H408 G408 (fits_nar_byte (cc1.toInt8.toInt32)) W409 1 rfl (Nat.le_of_ble_eq_true rfl)
  have N409 := Fr.snoc X409 N405 g_ab
  have Zs409 : n0 ≤ h409.size := Nat.le_trans Zs405 (Keep.of_wr W409).1
  have KK409 : Keep h0 h409 [ab] := KK405.wr W409 (Or.inl (List.mem_of_getElem? (i := 0) rfl))
  have f410 := f406.other W409 nab
  obtain ⟨cl411, Ar411, -, S411, -, H411, -⟩ := id f410
  have hin411 : ¬ ((2 : Int32) < 0 ∨ cl411.slots.size ≤ ((2 : Int32)).toNatClampNeg) := inb_of S411 ⟨by decide, by decide⟩
  have hat411 : cl411.slots[((2 : Int32)).toNatClampNeg]? = some (.int cc2) := H411.at hin411 rfl
  obtain ⟨cl412, Ar412, q412, S412, N412, H412, G412⟩ := id V409
  have hin412 : ¬ ((2 : Int32) < 0 ∨ cl412.slots.size ≤ ((2 : Int32)).toNatClampNeg) := inb_of S412 ⟨by decide, by decide⟩
  obtain ⟨T413, h413, X413, e413, W413, st413⟩ := stB X409 hx hZ e409 Ar412 (j := (2 : Int32)) hin412 (g := (mkF m 31 #[vr ac, vi 2, vr ab, vi 2, vi 3, vi 2, vi cc2] [(.int (cc2.toInt8.toInt32)), (.int 2), (.ref ab)])) rfl rfl (hb hby d11_31)
  have V413 : Arv Z h413 ab kb .byte (3 : Int32) [(.int (nar .byte (cc0.toInt8.toInt32))), (.int (nar .byte (cc1.toInt8.toInt32))), (.int (nar .byte (cc2.toInt8.toInt32)))] (.int 0) := Arv.set Ar412 q412 S412 N412 H412 G412 (fits_nar_byte (cc2.toInt8.toInt32)) W413 2 rfl (Nat.le_of_ble_eq_true rfl)
  have N413 := Fr.snoc X413 N409 g_ab
  have Zs413 : n0 ≤ h413.size := Nat.le_trans Zs409 (Keep.of_wr W413).1
  have KK413 : Keep h0 h413 [ab] := KK409.wr W413 (Or.inl (List.mem_of_getElem? (i := 0) rfl))
  have f414 := f410.other W413 nab
  obtain ⟨fs, hr, hrun, hended, hW, hsame⟩ := X413.leave (v := some (.int 3)) (fun h => by rw [Bd.returns] at h; cases h)
  refine ⟨_, _, pre0 _ ?_, hrun, hended, _, _, rfl, ?_, ⟨_, rfl⟩, hW, hsame.mono (by decide) (by decide)⟩
  · show Sp p e below m s₁ 0 #[vr ac, vi 0, vr ab, vi 0, vi 3, .unset, .unset] [] _
    refine XS.iconst X0.here hx rfl (hb hby d11_0) ?_
    refine XS.istore X0.here hx rfl (hb hby d11_1) rfl (l' := #[vr ac, vi 0, vr ab, vi 0, vi 3, vi 0, .unset]) rfl ?_
    refine XS.iload X0.here hx rfl (hb hby d11_3) rfl ?_
    refine XS.iload X0.here hx rfl (hb hby d11_5) rfl ?_
    refine XS.icmpNo X0.here hx rfl (hb hby d11_7) rfl (tlt (by decide : ((0 : Int32) < (3 : Int32)))).2.1 ?_
    refine XS.aloadN X0.here hx rfl (hb hby d11_10) rfl rfl ?_
    refine XS.iloadN X0.here hx rfl (hb hby d11_11) rfl ?_
    refine X0.caload hx (j := (0 : Int32)) (v := (.int cc0)) (by rw [e0]; exact Ar403.1) (State.isArrayOf_alike hZ.alike Ar403.2.1) Ar403.2.2 hin403 hat403 (g := (mkF m 12 #[vr ac, vi 0, vr ab, vi 0, vi 3, vi 0, .unset] [(.int 0), (.ref ac)])) rfl rfl (hb hby d11_12) _ ?_
    show Sp p e below m s₁ 13 #[vr ac, vi 0, vr ab, vi 0, vi 3, vi 0, .unset] [(.int cc0)] _
    refine XS.istore X0.here hx rfl (hb hby d11_13) rfl (l' := #[vr ac, vi 0, vr ab, vi 0, vi 3, vi 0, vi cc0]) rfl ?_
    refine XS.iload X0.here hx rfl (hb hby d11_15) rfl ?_
    refine XS.sipush X0.here hx rfl (hb hby d11_17) ?_
    refine XS.icmpYes X0.here hx rfl (pc0 := 20) (pc' := 26) rfl (hb hby d11_20) rfl (flt (own_le255 hp0 : ¬ ((255 : Int32) < cc0))).2.2.2 (by decide) (by decide) ?_
    refine XS.aloadN X0.here hx rfl (hb hby d11_26) rfl rfl ?_
    refine XS.iloadN X0.here hx rfl (hb hby d11_27) rfl ?_
    refine XS.iload X0.here hx rfl (hb hby d11_28) rfl ?_
    refine XS.i2b X0.here hx rfl (hb hby d11_30) rfl ?_
    show Sp p e below m s₁ 31 #[vr ac, vi 0, vr ab, vi 0, vi 3, vi 0, vi cc0] [(.int (cc0.toInt8.toInt32)), (.int 0), (.ref ab)] _
    refine st405 _ ?_
    show Sp p e below m T405 32 #[vr ac, vi 0, vr ab, vi 0, vi 3, vi 0, vi cc0] [] _
    refine XS.iinc X405.here hx rfl (hb hby d11_32) rfl (l' := #[vr ac, vi 1, vr ab, vi 0, vi 3, vi 0, vi cc0]) rfl ?_
    refine XS.iinc X405.here hx rfl (hb hby d11_35) rfl (l' := #[vr ac, vi 1, vr ab, vi 1, vi 3, vi 0, vi cc0]) rfl ?_
    refine XS.iinc X405.here hx rfl (hb hby d11_38) rfl (l' := #[vr ac, vi 1, vr ab, vi 1, vi 3, vi 1, vi cc0]) rfl ?_
    refine XS.goto X405.here hx rfl (pc0 := 41) (pc' := 3) rfl (hb hby d11_41) (by decide) (by decide) ?_
    refine XS.iload X405.here hx rfl (hb hby d11_3) rfl ?_
    refine XS.iload X405.here hx rfl (hb hby d11_5) rfl ?_
    refine XS.icmpNo X405.here hx rfl (hb hby d11_7) rfl (tlt (by decide : ((1 : Int32) < (3 : Int32)))).2.1 ?_
    refine XS.aloadN X405.here hx rfl (hb hby d11_10) rfl rfl ?_
    show Sp p e below m T405 11 #[vr ac, vi 1, vr ab, vi 1, vi 3, vi 1, vi cc0] [(.ref ac)] _
    refine XS.iloadN X405.here hx rfl (hb hby d11_11) rfl ?_
    refine X405.caload hx (j := (1 : Int32)) (v := (.int cc1)) (by rw [e405]; exact Ar407.1) (State.isArrayOf_alike hZ.alike Ar407.2.1) Ar407.2.2 hin407 hat407 (g := (mkF m 12 #[vr ac, vi 1, vr ab, vi 1, vi 3, vi 1, vi cc0] [(.int 1), (.ref ac)])) rfl rfl (hb hby d11_12) _ ?_
    show Sp p e below m T405 13 #[vr ac, vi 1, vr ab, vi 1, vi 3, vi 1, vi cc0] [(.int cc1)] _
    refine XS.istore X405.here hx rfl (hb hby d11_13) rfl (l' := #[vr ac, vi 1, vr ab, vi 1, vi 3, vi 1, vi cc1]) rfl ?_
    refine XS.iload X405.here hx rfl (hb hby d11_15) rfl ?_
    refine XS.sipush X405.here hx rfl (hb hby d11_17) ?_
    refine XS.icmpYes X405.here hx rfl (pc0 := 20) (pc' := 26) rfl (hb hby d11_20) rfl (flt (own_le255 hp1 : ¬ ((255 : Int32) < cc1))).2.2.2 (by decide) (by decide) ?_
    refine XS.aloadN X405.here hx rfl (hb hby d11_26) rfl rfl ?_
    refine XS.iloadN X405.here hx rfl (hb hby d11_27) rfl ?_
    refine XS.iload X405.here hx rfl (hb hby d11_28) rfl ?_
    refine XS.i2b X405.here hx rfl (hb hby d11_30) rfl ?_
    show Sp p e below m T405 31 #[vr ac, vi 1, vr ab, vi 1, vi 3, vi 1, vi cc1] [(.int (cc1.toInt8.toInt32)), (.int 1), (.ref ab)] _
    refine st409 _ ?_
    show Sp p e below m T409 32 #[vr ac, vi 1, vr ab, vi 1, vi 3, vi 1, vi cc1] [] _
    refine XS.iinc X409.here hx rfl (hb hby d11_32) rfl (l' := #[vr ac, vi 2, vr ab, vi 1, vi 3, vi 1, vi cc1]) rfl ?_
    refine XS.iinc X409.here hx rfl (hb hby d11_35) rfl (l' := #[vr ac, vi 2, vr ab, vi 2, vi 3, vi 1, vi cc1]) rfl ?_
    refine XS.iinc X409.here hx rfl (hb hby d11_38) rfl (l' := #[vr ac, vi 2, vr ab, vi 2, vi 3, vi 2, vi cc1]) rfl ?_
    refine XS.goto X409.here hx rfl (pc0 := 41) (pc' := 3) rfl (hb hby d11_41) (by decide) (by decide) ?_
    refine XS.iload X409.here hx rfl (hb hby d11_3) rfl ?_
    refine XS.iload X409.here hx rfl (hb hby d11_5) rfl ?_
    refine XS.icmpNo X409.here hx rfl (hb hby d11_7) rfl (tlt (by decide : ((2 : Int32) < (3 : Int32)))).2.1 ?_
    refine XS.aloadN X409.here hx rfl (hb hby d11_10) rfl rfl ?_
    show Sp p e below m T409 11 #[vr ac, vi 2, vr ab, vi 2, vi 3, vi 2, vi cc1] [(.ref ac)] _
    refine XS.iloadN X409.here hx rfl (hb hby d11_11) rfl ?_
    refine X409.caload hx (j := (2 : Int32)) (v := (.int cc2)) (by rw [e409]; exact Ar411.1) (State.isArrayOf_alike hZ.alike Ar411.2.1) Ar411.2.2 hin411 hat411 (g := (mkF m 12 #[vr ac, vi 2, vr ab, vi 2, vi 3, vi 2, vi cc1] [(.int 2), (.ref ac)])) rfl rfl (hb hby d11_12) _ ?_
    show Sp p e below m T409 13 #[vr ac, vi 2, vr ab, vi 2, vi 3, vi 2, vi cc1] [(.int cc2)] _
    refine XS.istore X409.here hx rfl (hb hby d11_13) rfl (l' := #[vr ac, vi 2, vr ab, vi 2, vi 3, vi 2, vi cc2]) rfl ?_
    refine XS.iload X409.here hx rfl (hb hby d11_15) rfl ?_
    refine XS.sipush X409.here hx rfl (hb hby d11_17) ?_
    refine XS.icmpYes X409.here hx rfl (pc0 := 20) (pc' := 26) rfl (hb hby d11_20) rfl (flt (own_le255 hp2 : ¬ ((255 : Int32) < cc2))).2.2.2 (by decide) (by decide) ?_
    refine XS.aloadN X409.here hx rfl (hb hby d11_26) rfl rfl ?_
    refine XS.iloadN X409.here hx rfl (hb hby d11_27) rfl ?_
    refine XS.iload X409.here hx rfl (hb hby d11_28) rfl ?_
    refine XS.i2b X409.here hx rfl (hb hby d11_30) rfl ?_
    show Sp p e below m T409 31 #[vr ac, vi 2, vr ab, vi 2, vi 3, vi 2, vi cc2] [(.int (cc2.toInt8.toInt32)), (.int 2), (.ref ab)] _
    refine st413 _ ?_
    show Sp p e below m T413 32 #[vr ac, vi 2, vr ab, vi 2, vi 3, vi 2, vi cc2] [] _
    refine XS.iinc X413.here hx rfl (hb hby d11_32) rfl (l' := #[vr ac, vi 3, vr ab, vi 2, vi 3, vi 2, vi cc2]) rfl ?_
    refine XS.iinc X413.here hx rfl (hb hby d11_35) rfl (l' := #[vr ac, vi 3, vr ab, vi 3, vi 3, vi 2, vi cc2]) rfl ?_
    refine XS.iinc X413.here hx rfl (hb hby d11_38) rfl (l' := #[vr ac, vi 3, vr ab, vi 3, vi 3, vi 3, vi cc2]) rfl ?_
    refine XS.goto X413.here hx rfl (pc0 := 41) (pc' := 3) rfl (hb hby d11_41) (by decide) (by decide) ?_
    refine XS.iload X413.here hx rfl (hb hby d11_3) rfl ?_
    refine XS.iload X413.here hx rfl (hb hby d11_5) rfl ?_
    refine XS.icmpYes X413.here hx rfl (pc0 := 7) (pc' := 44) rfl (hb hby d11_7) rfl (flt (by decide : ¬ ((3 : Int32) < (3 : Int32)))).2.1 (by decide) (by decide) ?_
    refine XS.iload X413.here hx rfl (hb hby d11_44) rfl ?_
    show Sp p e below m T413 46 #[vr ac, vi 3, vr ab, vi 3, vi 3, vi 3, vi cc2] [(.int 3)] _
    exact retI X413 hx Bd.returns (hb hby d11_46) hr
  · show Q11n3 Z ac ab kc cc0 cc1 cc2 kb h0 n0 _ T413.heap _
    rw [e413]
    exact ⟨rfl, N413, KK413, V413⟩
theorem ef_10n3 (m : MethodId) (x0 : Addr) : entryFrame m #[(.ref x0), (.int 0), (.int 3)] 6 = mkF m 0 #[.val (.ref x0), .val (.int 0), .val (.int 3), .unset, .unset, .unset] [] := by first | (simp [entryFrame, mkF, argsToLocals, Value.category]; done) | rfl
def Q10n3 (Z : State) (ac : Addr) (kc : ClassId) (cc0 : Int32) (cc1 : Int32) (cc2 : Int32) (h0 : Heap) (n0 : Nat) (v : Option Value) (h : Heap) (L : List Loc) : Prop := ∃ (rb : Addr) (rk : ClassId), v = some (.ref rb) ∧ Fr n0 L ∧ Keep h0 h [] ∧ Arv Z h rb rk .byte (3 : Int32) [(.int (nar .byte (cc0.toInt8.toInt32))), (.int (nar .byte (cc1.toInt8.toInt32))), (.int (nar .byte (cc2.toInt8.toInt32)))] (.int 0) ∧ n0 ≤ rb ∧ h0.size ≤ rb
theorem rm10n3 (l : Launch) (Z : State) (a0 : Array Value) (hw : ∀ d ∈ tables_1, d.before a0 Z = true) (ws : List Jvm.Cond) (ac : Addr) (kc : ClassId) (cc0 : Int32) (cc1 : Int32) (cc2 : Int32) (h0 : Heap) (n0 : Nat) (Z0 : n0 ≤ h0.size) (Vc : Arv Z h0 ac kc .char (3 : Int32) [(.int cc0), (.int cc1), (.int cc2)] (.int 0)) (hp0 : 0 ≤ cc0.toInt ∧ cc0.toInt ≤ 255) (hp1 : 0 ≤ cc1.toInt ∧ cc1.toInt ≤ 255) (hp2 : 0 ≤ cc2.toInt ∧ cc2.toInt ≤ 255) :
    MetFree l (⟨"java/lang/StringUTF16", "compress", "([CII)[B"⟩ : MethodName) (head1 (Jvm.Cond.code (⟨"java/lang/StringUTF16", "compress", "([CII)[B"⟩ : MethodName) jdk_52_method_16_code 6 (some (.array .byte)) :: ws) ({ frames := 1, cells := 1, slots := 3, locals := 18 } : Room)) (fun a U => a = #[(.ref ac), (.int 0), (.int 3)] ∧ Z.Warmed39 U.vm ∧ U.heap = h0) (fun _ _ _ _ _ => True) (fun _ U o U' => ∃ v L, o = .returned v ∧ Q10n3 Z ac kc cc0 cc1 cc2 h0 n0 v U'.heap L ∧ FrameEnd U o U' L ({ frames := 1, cells := 1, slots := 3, locals := 18 } : Room).cells ({ frames := 1, cells := 1, slots := 3, locals := 18 } : Room).slots) := by
  refine MetFree.of_bodySF (plainFor_of_name own_pn56) hisR ?_
  intro p e s m args below meth c s₁ Bd hml0 hP hK
  have H := fun i c (h : tables_1[i]? = some c) => hw c (List.mem_of_getElem? h)
  obtain ⟨rfl, hZ, hh⟩ := hP
  have hx := Bd.exec
  have hby := Bd.bytes
  have hml : c.maxLocals = 6 := hml0
  have hown : s.vm.findClass "java/lang/StringUTF16" = some m.cls := findClass_of_methodNamed Bd.named
  have hnm := (name_of_methodNamed Bd.named Bd.method).1
  have X0 : Stand p l e ({ frames := 1, cells := 1, slots := 3, locals := 18 } : Room) s m #[(.ref ac), (.int 0), (.int 3)] below meth c s₁ [] 0 0 := Stand.of_body Bd
  have e0 : s₁.heap = h0 := by rw [← hh, Bd.state]; rfl
  have N0 := Fr.nil n0
  have pre0 : ∀ t, Sp p e below m s₁ 0 #[vr ac, vi 0, vi 3, .unset, .unset, .unset] [] t → Steps p.tables e below (s₁.setTop (entryFrame m #[(.ref ac), (.int 0), (.int 3)] 6)) t := fun t k => castTop (ef_10n3 m ac) k
  generalize s₁.setTop (entryFrame m #[(.ref ac), (.int 0), (.int 3)] 6) = G0 at pre0 ⊢
  obtain ⟨T419, h419, k419, X419, e419, E419, A419, st419⟩ := newP X0 hx hZ (H 22 _ rfl) e0 (g := (mkF m 1 #[vr ac, vi 0, vi 3, .unset, .unset, .unset] [(.int 3)])) rfl (hb hby d10_1) rfl (by decide) (cap := 3) (by decide) (by decide) (by decide) (by decide)
  obtain ⟨b419, g419⟩ : ∃ z, z = h0.size := ⟨_, rfl⟩
  rw [← g419] at A419 st419
  have g_b419 : n0 ≤ b419 := Nat.le_trans Z0 (Nat.le_of_eq g419.symm)
  have sz_b419 : h0.size ≤ b419 := Nat.le_of_eq g419.symm
  have lt_ac_b419 : ac < b419 := Nat.lt_of_lt_of_le Vc.lt (Nat.le_of_eq g419.symm)
  have ne_ac_b419 : ac ≠ b419 := Nat.ne_of_lt lt_ac_b419
  have Zs419 : n0 ≤ h419.size := Nat.le_trans Z0 E419.1
  have KK419 : Keep h0 h419 [] := (Keep.refl h0 _).ext E419
  have f420 := Vc.ext E419
  have V419 : Arv Z h419 b419 k419 .byte (3 : Int32) [(.int 0), (.int 0), (.int 0)] (.int 0) := (Arv.new A419 (by decide)).pad (pad_rep [] (.int 0) 3)
  obtain ⟨_, _, ⟨T421, L421, k421, n421⟩, -, X421, ⟨Lc421, hQ421, l421, y421, z421⟩, st421⟩ := Jvm.LawKit.callS X419 hx hown (mvT hZ (H 67 _ rfl)) (mvT hZ (H 68 _ rfl)) (mvT hZ (H 65 _ rfl)) (mvT hZ (H 69 _ rfl)) (by decide) (backOf (W := 0) (rm11n3 l Z a0 hw [] ac b419 kc cc0 cc1 cc2 k419 h419 n0 Zs419 f420 V419 g_b419 ne_ac_b419 hp0 hp1 hp2) hZ (H 69 _ rfl) (H 65 _ rfl) (by decide) (by decide)) (g := (mkF m 9 #[vr ac, vi 0, vi 3, vr b419, .unset, .unset] [(.int 3), (.int 0), (.ref b419), (.int 0), (.ref ac)])) rfl (by rw [hml]; rfl) (argsL := [(.ref ac), (.int 0), (.ref b419), (.int 0), (.int 3)]) (rest := []) (lenOf own_pd66 rfl) rfl (Nat.le_of_eq rfl) (hb hby d10_9) (fun _ _ => ⟨rfl, e419, (by decide : 1 + 0 ≤ _), (by decide : 3 + 0 ≤ _)⟩)
  dsimp only [Pt.U, Pt.locs, Pt.cells, Pt.slots] at X421 l421 y421 z421 st421 hQ421
  rw [l421, y421, z421] at X421
  obtain ⟨rfl, Nq421, K421, p421_0⟩ := hQ421
  have N421 := Fr.app N0 Nq421
  have Zs421 : n0 ≤ T421.heap.size := Nat.le_trans Zs419 K421.1
  have KK421 : Keep h0 T421.heap [] := KK419.trans K421 (allS (Or.inr sz_b419) all0)
  have f422 := f420.keep K421 (ninS ne_ac_b419 nin0)
  obtain ⟨fs, hr, hrun, hended, hW, hsame⟩ := X421.leave (v := some (.ref b419)) (fun h => by rw [Bd.returns] at h; cases h)
  refine ⟨_, _, pre0 _ ?_, hrun, hended, _, _, rfl, ?_, ⟨_, rfl⟩, hW, hsame.mono (by decide) (by decide)⟩
  · show Sp p e below m s₁ 0 #[vr ac, vi 0, vi 3, .unset, .unset, .unset] [] _
    refine XS.iloadN X0.here hx rfl (hb hby d10_0) rfl ?_
    refine st419 _ ?_
    show Sp p e below m T419 3 #[vr ac, vi 0, vi 3, .unset, .unset, .unset] [(.ref b419)] _
    refine XS.astoreN X419.here hx rfl (hb hby d10_3) rfl rfl (l' := #[vr ac, vi 0, vi 3, vr b419, .unset, .unset]) rfl ?_
    refine XS.aloadN X419.here hx rfl (hb hby d10_4) rfl rfl ?_
    refine XS.iloadN X419.here hx rfl (hb hby d10_5) rfl ?_
    refine XS.aloadN X419.here hx rfl (hb hby d10_6) rfl rfl ?_
    refine XS.iconst X419.here hx rfl (hb hby d10_7) ?_
    refine XS.iloadN X419.here hx rfl (hb hby d10_8) rfl ?_
    refine st421 _ ?_
    show Sp p e below m T421 12 #[vr ac, vi 0, vi 3, vr b419, .unset, .unset] [(.int 3)] _
    refine XS.istore X421.here hx rfl (hb hby d10_12) rfl (l' := #[vr ac, vi 0, vi 3, vr b419, vi 3, .unset]) rfl ?_
    refine XS.iload X421.here hx rfl (hb hby d10_14) rfl ?_
    refine XS.iloadN X421.here hx rfl (hb hby d10_16) rfl ?_
    refine XS.icmpYes X421.here hx rfl (pc0 := 17) (pc' := 57) rfl (hb hby d10_17) rfl (teq (by decide : ((3 : Int32) = (3 : Int32)))).1 (by decide) (by decide) ?_
    refine XS.aloadN X421.here hx rfl (hb hby d10_57) rfl rfl ?_
    jvm_step X421.here [X421.here.top, hx, (hb hby d10_58), X421.method', Bd.returns, Value.isRef, FieldType.isReference]
    first | (intro acts; rw [hr _ acts rfl rfl rfl]) | rw [hr _ _ rfl rfl rfl]
    exact Steps.refl _
  · show Q10n3 Z ac kc cc0 cc1 cc2 h0 n0 _ T421.heap _
    exact ⟨b419, k419, rfl, N421, KK421, p421_0, g_b419, sz_b419⟩
theorem ef_12n3 (m : MethodId) (x0 : Addr) : entryFrame m #[(.ref x0), (.int 3)] 2 = mkF m 0 #[.val (.ref x0), .val (.int 3)] [] := by first | (simp [entryFrame, mkF, argsToLocals, Value.category]; done) | rfl
def Q12n3 (Z : State) (ab : Addr) (kb : ClassId) (vs : List Value) (h0 : Heap) (n0 : Nat) (v : Option Value) (h : Heap) (L : List Loc) : Prop := v = some (.int 0) ∧ Fr n0 L ∧ h = h0
theorem rm12n3 (l : Launch) (Z : State) (a0 : Array Value) (hw : ∀ d ∈ tables_1, d.before a0 Z = true) (ws : List Jvm.Cond) (ab : Addr) (kb : ClassId) (vs : List Value) (h0 : Heap) (n0 : Nat) (Z0 : n0 ≤ h0.size) (Vb : Arv Z h0 ab kb .byte (3 : Int32) vs (.int 0)) :
    MetFree l (⟨"java/lang/StringUTF16", "coderFromArrayLen", "([BI)B"⟩ : MethodName) (head1 (Jvm.Cond.code (⟨"java/lang/StringUTF16", "coderFromArrayLen", "([BI)B"⟩ : MethodName) jdk_52_method_15_code 2 (some .byte) :: ws) ({ frames := 0, cells := 0, slots := 0, locals := 0 } : Room)) (fun a U => a = #[(.ref ab), (.int 3)] ∧ Z.Warmed39 U.vm ∧ U.heap = h0) (fun _ _ _ _ _ => True) (fun _ U o U' => ∃ v L, o = .returned v ∧ Q12n3 Z ab kb vs h0 n0 v U'.heap L ∧ FrameEnd U o U' L ({ frames := 0, cells := 0, slots := 0, locals := 0 } : Room).cells ({ frames := 0, cells := 0, slots := 0, locals := 0 } : Room).slots) := by
  refine MetFree.of_bodySF (plainFor_of_name own_pn56) hisR ?_
  intro p e s m args below meth c s₁ Bd hml0 hP hK
  have H := fun i c (h : tables_1[i]? = some c) => hw c (List.mem_of_getElem? h)
  obtain ⟨rfl, hZ, hh⟩ := hP
  have hx := Bd.exec
  have hby := Bd.bytes
  have hml : c.maxLocals = 2 := hml0
  have hown : s.vm.findClass "java/lang/StringUTF16" = some m.cls := findClass_of_methodNamed Bd.named
  have hnm := (name_of_methodNamed Bd.named Bd.method).1
  have X0 : Stand p l e ({ frames := 0, cells := 0, slots := 0, locals := 0 } : Room) s m #[(.ref ab), (.int 3)] below meth c s₁ [] 0 0 := Stand.of_body Bd
  have e0 : s₁.heap = h0 := by rw [← hh, Bd.state]; rfl
  have N0 := Fr.nil n0
  have pre0 : ∀ t, Sp p e below m s₁ 0 #[vr ab, vi 3] [] t → Steps p.tables e below (s₁.setTop (entryFrame m #[(.ref ab), (.int 3)] 2)) t := fun t k => castTop (ef_12n3 m ab) k
  generalize s₁.setTop (entryFrame m #[(.ref ab), (.int 3)] 2) = G0 at pre0 ⊢
  obtain ⟨cl424, Ar424, -, S424, M424, -, -⟩ := id Vb
  obtain ⟨fs, hr, hrun, hended, hW, hsame⟩ := X0.leave (v := some (.int (nar .byte (0 : Int32)))) (fun h => by rw [Bd.returns] at h; cases h)
  refine ⟨_, _, pre0 _ ?_, hrun, hended, _, _, rfl, ?_, ⟨_, rfl⟩, hW, hsame.mono (by decide) (by decide)⟩
  · show Sp p e below m s₁ 0 #[vr ab, vi 3] [] _
    refine XS.iloadN X0.here hx rfl (hb hby d12_0) rfl ?_
    refine XS.aloadN X0.here hx rfl (hb hby d12_1) rfl rfl ?_
    refine X0.arraylength hx (by rw [e0]; exact Ar424.1) (State.isArrayOf_alike hZ.alike Ar424.2.1) (g := (mkF m 2 #[vr ab, vi 3] [(.ref ab), (.int 3)])) rfl rfl (hb hby d12_2) _ ?_
    rw [len_of S424 M424]
    show Sp p e below m s₁ 3 #[vr ab, vi 3] [(.int 3), (.int 3)] _
    refine XS.isub X0.here hx rfl (hb hby d12_3) rfl ?_
    refine XS.bipush X0.here hx rfl (hb hby d12_4) ?_
    refine XS.iushr X0.here hx rfl (hb hby d12_6) rfl ?_
    refine XS.i2b X0.here hx rfl (hb hby d12_7) rfl ?_
    exact retN X0 hx (t := .byte) Bd.returns (by simp) (hb hby d12_8) hr
  · show Q12n3 Z ab kb vs h0 n0 _ s₁.heap _
    rw [e0]
    exact ⟨rfl, N0, rfl⟩
theorem ef_4n3 (m : MethodId) (x0 : Addr) (x1 : Addr) : entryFrame m #[(.ref x0), (.ref x1), (.int 0), (.int 3), .null] 6 = mkF m 0 #[.val (.ref x0), .val (.ref x1), .val (.int 0), .val (.int 3), .val .null, .unset] [] := by first | (simp [entryFrame, mkF, argsToLocals, Value.category]; done) | rfl
def Q4n3 (Z : State) (aa : Addr) (ac : Addr) (cs : Int32) (vf : Value) (kc : ClassId) (cc0 : Int32) (cc1 : Int32) (cc2 : Int32) (h0 : Heap) (n0 : Nat) (v : Option Value) (h : Heap) (L : List Loc) : Prop := ∃ (rb : Addr) (rk : ClassId), v = none ∧ Fr n0 L ∧ Keep h0 h [aa] ∧ Exa Z h aa "java/lang/String" ∧ Fld Z h aa "java/lang/String" "value" "[B" (.ref rb) ∧ Fld Z h aa "java/lang/String" "coder" "B" (.int 0) ∧ Arv Z h rb rk .byte (3 : Int32) [(.int (nar .byte (cc0.toInt8.toInt32))), (.int (nar .byte (cc1.toInt8.toInt32))), (.int (nar .byte (cc2.toInt8.toInt32)))] (.int 0) ∧ n0 ≤ rb ∧ h0.size ≤ rb
theorem rm4n3 (l : Launch) (Z : State) (a0 : Array Value) (hw : ∀ d ∈ tables_1, d.before a0 Z = true) (ws : List Jvm.Cond) (aa : Addr) (ac : Addr) (cs : Int32) (vf : Value) (kc : ClassId) (cc0 : Int32) (cc1 : Int32) (cc2 : Int32) (h0 : Heap) (n0 : Nat) (Z0 : n0 ≤ h0.size) (O0 : Old Z n0 h0) (Scs : Sta Z Z.heap "java/lang/String" "COMPACT_STRINGS" "Z" (.int cs)) (hcs : ¬ cs = (0 : Int32)) (Ssf : Sta Z Z.heap "jdk/internal/util/Preconditions" "SIOOBE_FORMATTER" "Ljava/util/function/BiFunction;" vf) (hvf : vf.isRef = true) (Ea : Exa Z h0 aa "java/lang/String") (Fv : Fld Z h0 aa "java/lang/String" "value" "[B" .null) (Fc : Fld Z h0 aa "java/lang/String" "coder" "B" (.int 0)) (g_aa : n0 ≤ aa) (Vc : Arv Z h0 ac kc .char (3 : Int32) [(.int cc0), (.int cc1), (.int cc2)] (.int 0)) (nac : aa ≠ ac) (hp0 : 0 ≤ cc0.toInt ∧ cc0.toInt ≤ 255) (hp1 : 0 ≤ cc1.toInt ∧ cc1.toInt ≤ 255) (hp2 : 0 ≤ cc2.toInt ∧ cc2.toInt ≤ 255) :
    MetFree l (⟨"java/lang/String", "<init>", "([CIILjava/lang/Void;)V"⟩ : MethodName) (head1 (Jvm.Cond.code (⟨"java/lang/String", "<init>", "([CIILjava/lang/Void;)V"⟩ : MethodName) jdk_42_method_149_code 6 none :: ws) ({ frames := 2, cells := 1, slots := 3, locals := 35 } : Room)) (fun a U => a = #[(.ref aa), (.ref ac), (.int 0), (.int 3), .null] ∧ Z.Warmed39 U.vm ∧ U.heap = h0) (fun _ _ _ _ _ => True) (fun _ U o U' => ∃ v L, o = .returned v ∧ Q4n3 Z aa ac cs vf kc cc0 cc1 cc2 h0 n0 v U'.heap L ∧ FrameEnd U o U' L ({ frames := 2, cells := 1, slots := 3, locals := 35 } : Room).cells ({ frames := 2, cells := 1, slots := 3, locals := 35 } : Room).slots) := by
  refine MetFree.of_bodySF (plainFor_of_name own_pn13) hisR ?_
  intro p e s m args below meth c s₁ Bd hml0 hP hK
  have H := fun i c (h : tables_1[i]? = some c) => hw c (List.mem_of_getElem? h)
  obtain ⟨rfl, hZ, hh⟩ := hP
  have hx := Bd.exec
  have hby := Bd.bytes
  have hml : c.maxLocals = 6 := hml0
  have hown : s.vm.findClass "java/lang/String" = some m.cls := findClass_of_methodNamed Bd.named
  have hnm := (name_of_methodNamed Bd.named Bd.method).1
  have X0 : Stand p l e ({ frames := 2, cells := 1, slots := 3, locals := 35 } : Room) s m #[(.ref aa), (.ref ac), (.int 0), (.int 3), .null] below meth c s₁ [] 0 0 := Stand.of_body Bd
  have e0 : s₁.heap = h0 := by rw [← hh, Bd.state]; rfl
  have N0 := Fr.nil n0
  have pre0 : ∀ t, Sp p e below m s₁ 0 #[vr aa, vr ac, vi 0, vi 3, .val .null, .unset] [] t → Steps p.tables e below (s₁.setTop (entryFrame m #[(.ref aa), (.ref ac), (.int 0), (.int 3), .null] 6)) t := fun t k => castTop (ef_4n3 m aa ac) k
  generalize s₁.setTop (entryFrame m #[(.ref aa), (.ref ac), (.int 0), (.int 3), .null] 6) = G0 at pre0 ⊢
  obtain ⟨T451, X451, e451, st451⟩ := initO X0 hx hZ hown (H 18 _ rfl) (H 19 _ rfl) (H 20 _ rfl) e0 (g := (mkF m 1 #[vr aa, vr ac, vi 0, vi 3, .val .null, .unset] [(.ref aa)])) rfl (by rw [hml]; rfl) rfl (hb hby d4_1) (by decide) (W := 0) (Nat.le_of_eq rfl) (by decide)
  obtain ⟨T452, X452, e452, st452⟩ := getS2 X451 hx hZ hown (host := "") (Or.inl (H 60 _ rfl)) Via.refl e451 (Scs.ext O0.2) (g := (mkF m 27 #[vr aa, vr ac, vi 0, vi 3, .val .null, .unset] [])) rfl (hb hby d4_27)
  obtain ⟨_, _, ⟨T453, L453, k453, n453⟩, -, X453, ⟨Lc453, hQ453, l453, y453, z453⟩, st453⟩ := Jvm.LawKit.callS X452 hx hown (mvT hZ (H 63 _ rfl)) (mvT hZ (H 64 _ rfl)) (mvT hZ (H 65 _ rfl)) (mvT hZ (H 66 _ rfl)) (by decide) (backOf (W := 0) (rm10n3 l Z a0 hw [] ac kc cc0 cc1 cc2 h0 n0 Z0 Vc hp0 hp1 hp2) hZ (H 66 _ rfl) (H 65 _ rfl) (by decide) (by decide)) (g := (mkF m 36 #[vr aa, vr ac, vi 0, vi 3, .val .null, .unset] [(.int 3), (.int 0), (.ref ac)])) rfl (by rw [hml]; rfl) (argsL := [(.ref ac), (.int 0), (.int 3)]) (rest := []) (lenOf own_pd87 rfl) rfl (Nat.le_of_eq rfl) (hb hby d4_36) (fun _ _ => ⟨rfl, e452, (by decide : 0 + 1 ≤ _), (by decide : 0 + 3 ≤ _)⟩)
  dsimp only [Pt.U, Pt.locs, Pt.cells, Pt.slots] at X453 l453 y453 z453 st453 hQ453
  rw [l453, y453, z453] at X453
  obtain ⟨rrb_453, rrk_453, rfl, Nq453, K453, p453_0, p453_1, p453_2⟩ := hQ453
  have N453 := Fr.app N0 Nq453
  have Zs453 : n0 ≤ T453.heap.size := Nat.le_trans Z0 K453.1
  have KK453 : Keep h0 T453.heap [aa] := (Keep.refl h0 _).trans K453 all0
  have ne_aa_rrb_453 : aa ≠ rrb_453 := Nat.ne_of_lt (Nat.lt_of_lt_of_le Ea.lt p453_2)
  have ne_ac_rrb_453 : ac ≠ rrb_453 := Nat.ne_of_lt (Nat.lt_of_lt_of_le Vc.lt p453_2)
  have sz_rrb_453 : h0.size ≤ rrb_453 := p453_2
  have O453 := O0.keep K453 (all0)
  have f454 := Scs.ext O453.2
  have f455 := Ssf.ext O453.2
  have f456 := Ea.keep K453
  have f457 := Fv.keep K453 nin0
  have f458 := Fc.keep K453 nin0
  have f459 := Vc.keep K453 nin0
  have g_rrb_453 := p453_1
  obtain ⟨_, _, ⟨T460, L460, k460, n460⟩, -, X460, ⟨Lc460, hQ460, l460, y460, z460⟩, st460⟩ := Jvm.LawKit.callS X453 hx hown (mvT hZ (H 70 _ rfl)) (mvT hZ (H 71 _ rfl)) (mvT hZ (H 65 _ rfl)) (mvT hZ (H 72 _ rfl)) (by decide) (backOf (W := 1) (rm12n3 l Z a0 hw [] rrb_453 rrk_453 [(.int (nar .byte (cc0.toInt8.toInt32))), (.int (nar .byte (cc1.toInt8.toInt32))), (.int (nar .byte (cc2.toInt8.toInt32)))] T453.heap n0 Zs453 p453_0) hZ (H 72 _ rfl) (H 65 _ rfl) (by decide) (by decide)) (g := (mkF m 45 #[vr aa, vr ac, vi 0, vi 3, .val .null, vr rrb_453] [(.int 3), (.ref rrb_453), (.ref aa)])) rfl (by rw [hml]; rfl) (argsL := [(.ref rrb_453), (.int 3)]) (rest := [(.ref aa)]) (lenOf own_pd93 rfl) rfl (Nat.le_of_eq rfl) (hb hby d4_45) (fun _ _ => ⟨rfl, rfl, (by decide : 1 + 0 ≤ _), (by decide : 3 + 0 ≤ _)⟩)
  dsimp only [Pt.U, Pt.locs, Pt.cells, Pt.slots] at X460 l460 y460 z460 st460 hQ460
  rw [l460, y460, z460] at X460
  obtain ⟨rfl, Nq460, e460⟩ := hQ460
  have N460 := Fr.app N453 Nq460
  obtain ⟨T461, h461, X461, e461, W461, st461⟩ := putFN X460 hx hZ hown (H 28 _ rfl) Via.refl e460 f458 f456 (Or.inr ⟨(H 24 _ rfl), rfl, hnm⟩) (H 8 _ rfl) (ty := .byte) (v' := (.int 0)) (by decide) rfl (fits_nar_byte (0 : Int32)) (g := (mkF m 48 #[vr aa, vr ac, vi 0, vi 3, .val .null, vr rrb_453] [(.int 0), (.ref aa)])) rfl rfl (hb hby d4_48)
  have N461 := Fr.snoc X461 N460 g_aa
  have Zs461 : n0 ≤ h461.size := Nat.le_trans Zs453 (Keep.of_wr W461).1
  have KK461 : Keep h0 h461 [aa] := KK453.wr W461 (Or.inl (List.mem_of_getElem? (i := 0) rfl))
  have O461 := O453.wr W461 g_aa
  have f462 := f454.wr W461
  have f463 := f455.wr W461
  have f464 := f456.wr W461
  have f465 := f457.other W461 (Or.inr (slot_ne (Or.inr (H 23 _ rfl)) (Or.inr (H 24 _ rfl)) (by decide) (t := (.array .byte)) (t' := .byte) (by decide) (by decide)))
  have f466 := f458.same W461
  have f467 := f459.other W461 (Ne.symm nac)
  have f468 := p453_0.other W461 (Ne.symm ne_aa_rrb_453)
  obtain ⟨T469, h469, X469, e469, W469, st469⟩ := putF X461 hx hZ hown (host := "") (Or.inl (H 27 _ rfl)) Via.refl e461 f465 f464 (Or.inr ⟨(H 23 _ rfl), rfl, hnm⟩) (H 8 _ rfl) (ty := (.array .byte)) (by decide) rfl rfl (g := (mkF m 54 #[vr aa, vr ac, vi 0, vi 3, .val .null, vr rrb_453] [(.ref rrb_453), (.ref aa)])) rfl rfl (hb hby d4_54)
  have N469 := Fr.snoc X469 N461 g_aa
  have Zs469 : n0 ≤ h469.size := Nat.le_trans Zs461 (Keep.of_wr W469).1
  have KK469 : Keep h0 h469 [aa] := KK461.wr W469 (Or.inl (List.mem_of_getElem? (i := 0) rfl))
  have O469 := O461.wr W469 g_aa
  have f470 := f462.wr W469
  have f471 := f463.wr W469
  have f472 := f464.wr W469
  have f473 := f465.same W469
  have f474 := f466.other W469 (Or.inr (slot_ne (Or.inr (H 24 _ rfl)) (Or.inr (H 23 _ rfl)) (by decide) (t := .byte) (t' := (.array .byte)) (by decide) (by decide)))
  have f475 := f467.other W469 (Ne.symm nac)
  have f476 := f468.other W469 (Ne.symm ne_aa_rrb_453)
  obtain ⟨fs, hr, hrun, hended, hW, hsame⟩ := X469.leave (v := none) (fun _ => rfl)
  refine ⟨_, _, pre0 _ ?_, hrun, hended, _, _, rfl, ?_, ⟨_, rfl⟩, hW, hsame.mono (by decide) (by decide)⟩
  · show Sp p e below m s₁ 0 #[vr aa, vr ac, vi 0, vi 3, .val .null, .unset] [] _
    refine XS.aloadN X0.here hx rfl (hb hby d4_0) rfl rfl ?_
    refine st451 _ ?_
    show Sp p e below m T451 4 #[vr aa, vr ac, vi 0, vi 3, .val .null, .unset] [] _
    refine XS.iloadN X451.here hx rfl (hb hby d4_4) rfl ?_
    refine XS.ifYes X451.here hx rfl (pc0 := 5) (pc' := 27) rfl (hb hby d4_5) rfl ((if0 _ _).trans (feq (by decide : ¬ ((3 : Int32) = (0 : Int32)))).2) (by decide) (by decide) ?_
    refine st452 _ ?_
    show Sp p e below m T452 30 #[vr aa, vr ac, vi 0, vi 3, .val .null, .unset] [(.int cs)] _
    refine XS.ifNo X452.here hx rfl (hb hby d4_30) rfl ((if0 _ _).trans (feq (hcs : ¬ (cs = (0 : Int32)))).1) ?_
    refine XS.aloadN X452.here hx rfl (hb hby d4_33) rfl rfl ?_
    refine XS.iloadN X452.here hx rfl (hb hby d4_34) rfl ?_
    refine XS.iloadN X452.here hx rfl (hb hby d4_35) rfl ?_
    refine st453 _ ?_
    show Sp p e below m T453 39 #[vr aa, vr ac, vi 0, vi 3, .val .null, .unset] [(.ref rrb_453)] _
    refine XS.astore X453.here hx rfl (hb hby d4_39) rfl rfl (l' := #[vr aa, vr ac, vi 0, vi 3, .val .null, vr rrb_453]) rfl ?_
    refine XS.aloadN X453.here hx rfl (hb hby d4_41) rfl rfl ?_
    refine XS.aload X453.here hx rfl (hb hby d4_42) rfl rfl ?_
    refine XS.iloadN X453.here hx rfl (hb hby d4_44) rfl ?_
    refine st460 _ ?_
    show Sp p e below m T460 48 #[vr aa, vr ac, vi 0, vi 3, .val .null, vr rrb_453] [(.int 0), (.ref aa)] _
    refine st461 _ ?_
    show Sp p e below m T461 51 #[vr aa, vr ac, vi 0, vi 3, .val .null, vr rrb_453] [] _
    refine XS.aloadN X461.here hx rfl (hb hby d4_51) rfl rfl ?_
    refine XS.aload X461.here hx rfl (hb hby d4_52) rfl rfl ?_
    refine st469 _ ?_
    show Sp p e below m T469 57 #[vr aa, vr ac, vi 0, vi 3, .val .null, vr rrb_453] [] _
    exact X469.returnOut hx Bd.returns (hb hby d4_57) hr
  · show Q4n3 Z aa ac cs vf kc cc0 cc1 cc2 h0 n0 _ T469.heap _
    rw [e469]
    exact ⟨rrb_453, rrk_453, rfl, N469, KK469, f472, f473, f474, f476, g_rrb_453, sz_rrb_453⟩
theorem ef_3n3 (m : MethodId) (x0 : Addr) (x1 : Addr) : entryFrame m #[(.ref x0), (.ref x1)] 2 = mkF m 0 #[.val (.ref x0), .val (.ref x1)] [] := by first | (simp [entryFrame, mkF, argsToLocals, Value.category]; done) | rfl
def Q3n3 (Z : State) (aa : Addr) (ac : Addr) (cs : Int32) (vf : Value) (kc : ClassId) (cc0 : Int32) (cc1 : Int32) (cc2 : Int32) (h0 : Heap) (n0 : Nat) (v : Option Value) (h : Heap) (L : List Loc) : Prop := ∃ (rb : Addr) (rk : ClassId), v = none ∧ Fr n0 L ∧ Keep h0 h [aa] ∧ Exa Z h aa "java/lang/String" ∧ Fld Z h aa "java/lang/String" "value" "[B" (.ref rb) ∧ Fld Z h aa "java/lang/String" "coder" "B" (.int 0) ∧ Arv Z h rb rk .byte (3 : Int32) [(.int (nar .byte (cc0.toInt8.toInt32))), (.int (nar .byte (cc1.toInt8.toInt32))), (.int (nar .byte (cc2.toInt8.toInt32)))] (.int 0) ∧ n0 ≤ rb ∧ h0.size ≤ rb
theorem rm3n3 (l : Launch) (Z : State) (a0 : Array Value) (hw : ∀ d ∈ tables_1, d.before a0 Z = true) (ws : List Jvm.Cond) (aa : Addr) (ac : Addr) (cs : Int32) (vf : Value) (kc : ClassId) (cc0 : Int32) (cc1 : Int32) (cc2 : Int32) (h0 : Heap) (n0 : Nat) (Z0 : n0 ≤ h0.size) (O0 : Old Z n0 h0) (Scs : Sta Z Z.heap "java/lang/String" "COMPACT_STRINGS" "Z" (.int cs)) (hcs : ¬ cs = (0 : Int32)) (Ssf : Sta Z Z.heap "jdk/internal/util/Preconditions" "SIOOBE_FORMATTER" "Ljava/util/function/BiFunction;" vf) (hvf : vf.isRef = true) (Ea : Exa Z h0 aa "java/lang/String") (Fv : Fld Z h0 aa "java/lang/String" "value" "[B" .null) (Fc : Fld Z h0 aa "java/lang/String" "coder" "B" (.int 0)) (g_aa : n0 ≤ aa) (Vc : Arv Z h0 ac kc .char (3 : Int32) [(.int cc0), (.int cc1), (.int cc2)] (.int 0)) (nac : aa ≠ ac) (hp0 : 0 ≤ cc0.toInt ∧ cc0.toInt ≤ 255) (hp1 : 0 ≤ cc1.toInt ∧ cc1.toInt ≤ 255) (hp2 : 0 ≤ cc2.toInt ∧ cc2.toInt ≤ 255) :
    MetFree l (⟨"java/lang/String", "<init>", "([C)V"⟩ : MethodName) (head1 (Jvm.Cond.code (⟨"java/lang/String", "<init>", "([C)V"⟩ : MethodName) jdk_42_method_3_code 2 none :: ws) ({ frames := 3, cells := 1, slots := 3, locals := 52 } : Room)) (fun a U => a = #[(.ref aa), (.ref ac)] ∧ Z.Warmed39 U.vm ∧ U.heap = h0) (fun _ _ _ _ _ => True) (fun _ U o U' => ∃ v L, o = .returned v ∧ Q3n3 Z aa ac cs vf kc cc0 cc1 cc2 h0 n0 v U'.heap L ∧ FrameEnd U o U' L ({ frames := 3, cells := 1, slots := 3, locals := 52 } : Room).cells ({ frames := 3, cells := 1, slots := 3, locals := 52 } : Room).slots) := by
  refine MetFree.of_bodySF (plainFor_of_name own_pn13) hisR ?_
  intro p e s m args below meth c s₁ Bd hml0 hP hK
  have H := fun i c (h : tables_1[i]? = some c) => hw c (List.mem_of_getElem? h)
  obtain ⟨rfl, hZ, hh⟩ := hP
  have hx := Bd.exec
  have hby := Bd.bytes
  have hml : c.maxLocals = 2 := hml0
  have hown : s.vm.findClass "java/lang/String" = some m.cls := findClass_of_methodNamed Bd.named
  have hnm := (name_of_methodNamed Bd.named Bd.method).1
  have X0 : Stand p l e ({ frames := 3, cells := 1, slots := 3, locals := 52 } : Room) s m #[(.ref aa), (.ref ac)] below meth c s₁ [] 0 0 := Stand.of_body Bd
  have e0 : s₁.heap = h0 := by rw [← hh, Bd.state]; rfl
  have N0 := Fr.nil n0
  have pre0 : ∀ t, Sp p e below m s₁ 0 #[vr aa, vr ac] [] t → Steps p.tables e below (s₁.setTop (entryFrame m #[(.ref aa), (.ref ac)] 2)) t := fun t k => castTop (ef_3n3 m aa ac) k
  generalize s₁.setTop (entryFrame m #[(.ref aa), (.ref ac)] 2) = G0 at pre0 ⊢
  obtain ⟨cl483, Ar483, -, S483, M483, -, -⟩ := id Vc
  obtain ⟨_, _, ⟨T484, L484, k484, n484⟩, -, X484, ⟨Lc484, hQ484, l484, y484, z484⟩, st484⟩ := X0.specialBack hx (y := (⟨"java/lang/String", "<init>", "([CIILjava/lang/Void;)V"⟩ : MethodName)) rfl hown (mvT hZ (H 14 _ rfl)) (mvT hZ (H 15 _ rfl)) (mvT hZ (H 17 _ rfl)) (by decide) (backOf (W := 0) (rm4n3 l Z a0 hw [] aa ac cs vf kc cc0 cc1 cc2 h0 n0 Z0 O0 Scs hcs Ssf hvf Ea Fv Fc g_aa Vc nac hp0 hp1 hp2) hZ (H 17 _ rfl) (H 9 _ rfl) (by decide) (by decide)) (g := (mkF m 6 #[vr aa, vr ac] [.null, (.int 3), (.int 0), (.ref ac), (.ref aa)])) rfl (by rw [hml]; rfl) (Steps.refl _) (a := aa) (argsL := [(.ref ac), (.int 0), (.int 3), .null]) (rest := []) (lenOf own_pd21 rfl) rfl (Nat.le_of_eq rfl) (hb hby d3_6) (fun _ _ => ⟨rfl, e0, (by decide : 0 + 1 ≤ _), (by decide : 0 + 3 ≤ _)⟩)
  dsimp only [Pt.U, Pt.locs, Pt.cells, Pt.slots] at X484 l484 y484 z484 st484 hQ484
  rw [l484, y484, z484] at X484
  obtain ⟨rrb_484, rrk_484, rfl, Nq484, K484, p484_0, p484_1, p484_2, p484_3, p484_4, p484_5⟩ := hQ484
  have N484 := Fr.app N0 Nq484
  have Zs484 : n0 ≤ T484.heap.size := Nat.le_trans Z0 K484.1
  have KK484 : Keep h0 T484.heap [aa] := (Keep.refl h0 _).trans K484 (allS (Or.inl (List.mem_of_getElem? (i := 0) rfl)) all0)
  have ne_aa_rrb_484 : aa ≠ rrb_484 := Nat.ne_of_lt (Nat.lt_of_lt_of_le Ea.lt p484_5)
  have ne_ac_rrb_484 : ac ≠ rrb_484 := Nat.ne_of_lt (Nat.lt_of_lt_of_le Vc.lt p484_5)
  have sz_rrb_484 : h0.size ≤ rrb_484 := p484_5
  have O484 := O0.keep K484 (allS g_aa all0)
  have f485 := Scs.ext O484.2
  have f486 := Ssf.ext O484.2
  have f487 := Ea.keep K484
  have f488 := Vc.keep K484 (ninS (Ne.symm nac) nin0)
  have g_rrb_484 := p484_4
  obtain ⟨fs, hr, hrun, hended, hW, hsame⟩ := X484.leave (v := none) (fun _ => rfl)
  refine ⟨_, _, pre0 _ ?_, hrun, hended, _, _, rfl, ?_, ⟨_, rfl⟩, hW, hsame.mono (by decide) (by decide)⟩
  · show Sp p e below m s₁ 0 #[vr aa, vr ac] [] _
    refine XS.aloadN X0.here hx rfl (hb hby d3_0) rfl rfl ?_
    refine XS.aloadN X0.here hx rfl (hb hby d3_1) rfl rfl ?_
    refine XS.iconst X0.here hx rfl (hb hby d3_2) ?_
    refine XS.aloadN X0.here hx rfl (hb hby d3_3) rfl rfl ?_
    refine X0.arraylength hx (by rw [e0]; exact Ar483.1) (State.isArrayOf_alike hZ.alike Ar483.2.1) (g := (mkF m 4 #[vr aa, vr ac] [(.ref ac), (.int 0), (.ref ac), (.ref aa)])) rfl rfl (hb hby d3_4) _ ?_
    rw [len_of S483 M483]
    show Sp p e below m s₁ 5 #[vr aa, vr ac] [(.int 3), (.int 0), (.ref ac), (.ref aa)] _
    refine XS.aconstNull X0.here hx rfl (hb hby d3_5) ?_
    refine st484.trans ?_
    show Sp p e below m T484 9 #[vr aa, vr ac] [] _
    exact X484.returnOut hx Bd.returns (hb hby d3_9) hr
  · show Q3n3 Z aa ac cs vf kc cc0 cc1 cc2 h0 n0 _ T484.heap _
    exact ⟨rrb_484, rrk_484, rfl, N484, KK484, p484_0, p484_1, p484_2, p484_3, g_rrb_484, sz_rrb_484⟩
theorem d2_59 : decode method_6_code 59 = .ok (.iload_n 0, 1) := by decide +kernel
theorem d2_60 : decode method_6_code 60 = .ok (.iconst 3, 1) := by decide +kernel
theorem d2_61 : decode method_6_code 61 = .ok (.if_icmp .ne 26, 3) := by decide +kernel
theorem d2_64 : decode method_6_code 64 = .ok (.new 41, 3) := by decide +kernel
theorem d2_67 : decode method_6_code 67 = .ok (.dup, 1) := by decide +kernel
theorem d2_68 : decode method_6_code 68 = .ok (.iconst 3, 1) := by decide +kernel
theorem d2_69 : decode method_6_code 69 = .ok (.newarray .char, 2) := by decide +kernel
theorem d2_71 : decode method_6_code 71 = .ok (.dup, 1) := by decide +kernel
theorem d2_72 : decode method_6_code 72 = .ok (.iconst 0, 1) := by decide +kernel
theorem d2_73 : decode method_6_code 73 = .ok (.iload_n 1, 1) := by decide +kernel
theorem d2_74 : decode method_6_code 74 = .ok (.castore, 1) := by decide +kernel
theorem d2_75 : decode method_6_code 75 = .ok (.dup, 1) := by decide +kernel
theorem d2_76 : decode method_6_code 76 = .ok (.iconst 1, 1) := by decide +kernel
theorem d2_77 : decode method_6_code 77 = .ok (.iload_n 2, 1) := by decide +kernel
theorem d2_78 : decode method_6_code 78 = .ok (.castore, 1) := by decide +kernel
theorem d2_79 : decode method_6_code 79 = .ok (.dup, 1) := by decide +kernel
theorem d2_80 : decode method_6_code 80 = .ok (.iconst 2, 1) := by decide +kernel
theorem d2_81 : decode method_6_code 81 = .ok (.iload_n 3, 1) := by decide +kernel
theorem d2_82 : decode method_6_code 82 = .ok (.castore, 1) := by decide +kernel
theorem d2_83 : decode method_6_code 83 = .ok (.invokespecial 43, 3) := by decide +kernel
theorem d2_86 : decode method_6_code 86 = .ok (.areturn, 1) := by decide +kernel
theorem ef_2n3 (m : MethodId) (x1 : Int32) (x2 : Int32) (x3 : Int32) (x4 : Int32) : entryFrame m #[(.int 3), (.int x1), (.int x2), (.int x3), (.int x4)] 5 = mkF m 0 #[.val (.int 3), .val (.int x1), .val (.int x2), .val (.int x3), .val (.int x4)] [] := by first | (simp [entryFrame, mkF, argsToLocals, Value.category]; done) | rfl
def Q2n3 (Z : State) (pa0 : Int32) (pa1 : Int32) (pa2 : Int32) (pa3 : Int32) (cs : Int32) (vf : Value) (h0 : Heap) (n0 : Nat) (v : Option Value) (h : Heap) (L : List Loc) : Prop := ∃ (so : Addr) (rb : Addr) (rk : ClassId), v = some (.ref so) ∧ Fr n0 L ∧ Keep h0 h [] ∧ Exa Z h so "java/lang/String" ∧ Fld Z h so "java/lang/String" "value" "[B" (.ref rb) ∧ Fld Z h so "java/lang/String" "coder" "B" (.int 0) ∧ Arv Z h rb rk .byte (3 : Int32) [(.int (own_b pa0)), (.int (own_b pa1)), (.int (own_b pa2))] (.int 0)
theorem rm2n3 (l : Launch) (Z : State) (a0 : Array Value) (hw : ∀ d ∈ tables_1, d.before a0 Z = true) (ws : List Jvm.Cond) (pa0 : Int32) (pa1 : Int32) (pa2 : Int32) (pa3 : Int32) (cs : Int32) (vf : Value) (h0 : Heap) (n0 : Nat) (Z0 : n0 ≤ h0.size) (O0 : Old Z n0 h0) (Scs : Sta Z Z.heap "java/lang/String" "COMPACT_STRINGS" "Z" (.int cs)) (hcs : ¬ cs = (0 : Int32)) (Ssf : Sta Z Z.heap "jdk/internal/util/Preconditions" "SIOOBE_FORMATTER" "Ljava/util/function/BiFunction;" vf) (hvf : vf.isRef = true) (Hc : Jvm.Lit.constHeld Z "java/lang/String" 7) (Hcw : Jvm.Lit.compactW.before a0 Z = true) (hp0 : 0 ≤ pa0.toInt ∧ pa0.toInt ≤ 255) (hp1 : 0 ≤ pa1.toInt ∧ pa1.toInt ≤ 255) (hp2 : 0 ≤ pa2.toInt ∧ pa2.toInt ≤ 255) (hp3 : 0 ≤ pa3.toInt ∧ pa3.toInt ≤ 255) :
    MetFree l (⟨"com/example/onus_on_beans/onusonbeans/validators/CheckDigitRangeWholeTextPinLaw", "text", "(ICCCC)Ljava/lang/String;"⟩ : MethodName) (head1 (Jvm.Cond.code (⟨"com/example/onus_on_beans/onusonbeans/validators/CheckDigitRangeWholeTextPinLaw", "text", "(ICCCC)Ljava/lang/String;"⟩ : MethodName) method_6_code 5 (some (.object "java/lang/String")) :: ws) ({ frames := 4, cells := 3, slots := 10, locals := 66 } : Room)) (fun a U => a = #[(.int 3), (.int pa0), (.int pa1), (.int pa2), (.int pa3)] ∧ Z.Warmed39 U.vm ∧ U.heap = h0) (fun _ _ _ _ _ => True) (fun _ U o U' => ∃ v L, o = .returned v ∧ Q2n3 Z pa0 pa1 pa2 pa3 cs vf h0 n0 v U'.heap L ∧ FrameEnd U o U' L ({ frames := 4, cells := 3, slots := 10, locals := 66 } : Room).cells ({ frames := 4, cells := 3, slots := 10, locals := 66 } : Room).slots) := by
  refine MetFree.of_bodySF (plainFor_of_name own_pn32) hisR ?_
  intro p e s m args below meth c s₁ Bd hml0 hP hK
  have H := fun i c (h : tables_1[i]? = some c) => hw c (List.mem_of_getElem? h)
  obtain ⟨rfl, hZ, hh⟩ := hP
  have hx := Bd.exec
  have hby := Bd.bytes
  have hml : c.maxLocals = 5 := hml0
  have hown : s.vm.findClass "com/example/onus_on_beans/onusonbeans/validators/CheckDigitRangeWholeTextPinLaw" = some m.cls := findClass_of_methodNamed Bd.named
  have hnm := (name_of_methodNamed Bd.named Bd.method).1
  have X0 : Stand p l e ({ frames := 4, cells := 3, slots := 10, locals := 66 } : Room) s m #[(.int 3), (.int pa0), (.int pa1), (.int pa2), (.int pa3)] below meth c s₁ [] 0 0 := Stand.of_body Bd
  have e0 : s₁.heap = h0 := by rw [← hh, Bd.state]; rfl
  have N0 := Fr.nil n0
  have pre0 : ∀ t, Sp p e below m s₁ 0 #[vi 3, vi pa0, vi pa1, vi pa2, vi pa3] [] t → Steps p.tables e below (s₁.setTop (entryFrame m #[(.int 3), (.int pa0), (.int pa1), (.int pa2), (.int pa3)] 5)) t := fun t k => castTop (ef_2n3 m pa0 pa1 pa2 pa3) k
  generalize s₁.setTop (entryFrame m #[(.int 3), (.int pa0), (.int pa1), (.int pa2), (.int pa3)] 5) = G0 at pre0 ⊢
  obtain ⟨T526, h526, X526, e526, E526, A526, D526, -, st526⟩ := newO X0 hx hZ hown (H 7 _ rfl) (H 8 _ rfl) (H 9 _ rfl) e0 (g := (mkF m 64 #[vi 3, vi pa0, vi pa1, vi pa2, vi pa3] [])) rfl (hb hby d2_64) (by decide) (by decide)
  obtain ⟨b526, g526⟩ : ∃ z, z = h0.size := ⟨_, rfl⟩
  rw [← g526] at A526 D526 st526
  have g_b526 : n0 ≤ b526 := Nat.le_trans Z0 (Nat.le_of_eq g526.symm)
  have sz_b526 : h0.size ≤ b526 := Nat.le_of_eq g526.symm
  have Zs526 : n0 ≤ h526.size := Nat.le_trans Z0 E526.1
  have KK526 : Keep h0 h526 [] := (Keep.refl h0 _).ext E526
  have O526 := O0.ext E526
  have f527 := (Scs.ext O0.2).ext E526
  have f528 := (Ssf.ext O0.2).ext E526
  have f529 : Fld Z h526 b526 "java/lang/String" "value" "[B" .null := D526 (Or.inr (H 23 _ rfl)) (ty := (.array .byte)) (by decide)
  have f530 : Fld Z h526 b526 "java/lang/String" "coder" "B" (.int 0) := D526 (Or.inr (H 24 _ rfl)) (ty := .byte) (by decide)
  obtain ⟨T531, h531, k531, X531, e531, E531, A531, st531⟩ := newP X526 hx hZ (H 10 _ rfl) e526 (g := (mkF m 69 #[vi 3, vi pa0, vi pa1, vi pa2, vi pa3] [(.int 3), (.ref b526), (.ref b526)])) rfl (hb hby d2_69) rfl (by decide) (cap := 3) (by decide) (by decide) (by decide) (by decide)
  obtain ⟨b531, g531⟩ : ∃ z, z = h526.size := ⟨_, rfl⟩
  rw [← g531] at A531 st531
  have g_b531 : n0 ≤ b531 := Nat.le_trans Zs526 (Nat.le_of_eq g531.symm)
  have sz_b531 : h0.size ≤ b531 := Nat.le_trans KK526.1 (Nat.le_of_eq g531.symm)
  have lt_b526_b531 : b526 < b531 := Nat.lt_of_lt_of_le A526.lt (Nat.le_of_eq g531.symm)
  have ne_b526_b531 : b526 ≠ b531 := Nat.ne_of_lt lt_b526_b531
  have Zs531 : n0 ≤ h531.size := Nat.le_trans Zs526 E531.1
  have KK531 : Keep h0 h531 [] := KK526.ext E531
  have O531 := O526.ext E531
  have f532 := f527.ext E531
  have f533 := f528.ext E531
  have f534 := A526.ext E531
  have f535 := f529.ext E531
  have f536 := f530.ext E531
  have V531 : Arv Z h531 b531 k531 .char (3 : Int32) [(.int 0), (.int 0), (.int 0)] (.int 0) := (Arv.new A531 (by decide)).pad (pad_rep [] (.int 0) 3)
  obtain ⟨cl537, Ar537, q537, S537, N537, H537, G537⟩ := id V531
  have hin537 : ¬ ((0 : Int32) < 0 ∨ cl537.slots.size ≤ ((0 : Int32)).toNatClampNeg) := inb_of S537 ⟨by decide, by decide⟩
  obtain ⟨T538, h538, X538, e538, W538, st538⟩ := stC X531 hx hZ e531 Ar537 (j := (0 : Int32)) hin537 (g := (mkF m 74 #[vi 3, vi pa0, vi pa1, vi pa2, vi pa3] [(.int pa0), (.int 0), (.ref b531), (.ref b531), (.ref b526), (.ref b526)])) rfl rfl (hb hby d2_74)
  have V538 : Arv Z h538 b531 k531 .char (3 : Int32) [(.int (nar .char pa0)), (.int 0), (.int 0)] (.int 0) := Arv.set Ar537 q537 S537 N537 H537 G537 (fits_nar_char pa0) W538 0 rfl (Nat.le_of_ble_eq_true rfl)
  have N538 := Fr.snoc X538 N0 g_b531
  have Zs538 : n0 ≤ h538.size := Nat.le_trans Zs531 (Keep.of_wr W538).1
  have KK538 : Keep h0 h538 [] := KK531.wr W538 (Or.inr sz_b531)
  have O538 := O531.wr W538 g_b531
  have f539 := f532.wr W538
  have f540 := f533.wr W538
  have f541 := f534.wr W538
  have f542 := f535.other W538 (Or.inl ne_b526_b531)
  have f543 := f536.other W538 (Or.inl ne_b526_b531)
  obtain ⟨cl544, Ar544, q544, S544, N544, H544, G544⟩ := id V538
  have hin544 : ¬ ((1 : Int32) < 0 ∨ cl544.slots.size ≤ ((1 : Int32)).toNatClampNeg) := inb_of S544 ⟨by decide, by decide⟩
  obtain ⟨T545, h545, X545, e545, W545, st545⟩ := stC X538 hx hZ e538 Ar544 (j := (1 : Int32)) hin544 (g := (mkF m 78 #[vi 3, vi pa0, vi pa1, vi pa2, vi pa3] [(.int pa1), (.int 1), (.ref b531), (.ref b531), (.ref b526), (.ref b526)])) rfl rfl (hb hby d2_78)
  have V545 : Arv Z h545 b531 k531 .char (3 : Int32) [(.int (nar .char pa0)), (.int (nar .char pa1)), (.int 0)] (.int 0) := Arv.set Ar544 q544 S544 N544 H544 G544 (fits_nar_char pa1) W545 1 rfl (Nat.le_of_ble_eq_true rfl)
  have N545 := Fr.snoc X545 N538 g_b531
  have Zs545 : n0 ≤ h545.size := Nat.le_trans Zs538 (Keep.of_wr W545).1
  have KK545 : Keep h0 h545 [] := KK538.wr W545 (Or.inr sz_b531)
  have O545 := O538.wr W545 g_b531
  have f546 := f539.wr W545
  have f547 := f540.wr W545
  have f548 := f541.wr W545
  have f549 := f542.other W545 (Or.inl ne_b526_b531)
  have f550 := f543.other W545 (Or.inl ne_b526_b531)
  obtain ⟨cl551, Ar551, q551, S551, N551, H551, G551⟩ := id V545
  have hin551 : ¬ ((2 : Int32) < 0 ∨ cl551.slots.size ≤ ((2 : Int32)).toNatClampNeg) := inb_of S551 ⟨by decide, by decide⟩
  obtain ⟨T552, h552, X552, e552, W552, st552⟩ := stC X545 hx hZ e545 Ar551 (j := (2 : Int32)) hin551 (g := (mkF m 82 #[vi 3, vi pa0, vi pa1, vi pa2, vi pa3] [(.int pa2), (.int 2), (.ref b531), (.ref b531), (.ref b526), (.ref b526)])) rfl rfl (hb hby d2_82)
  have V552 : Arv Z h552 b531 k531 .char (3 : Int32) [(.int (nar .char pa0)), (.int (nar .char pa1)), (.int (nar .char pa2))] (.int 0) := Arv.set Ar551 q551 S551 N551 H551 G551 (fits_nar_char pa2) W552 2 rfl (Nat.le_of_ble_eq_true rfl)
  have N552 := Fr.snoc X552 N545 g_b531
  have Zs552 : n0 ≤ h552.size := Nat.le_trans Zs545 (Keep.of_wr W552).1
  have KK552 : Keep h0 h552 [] := KK545.wr W552 (Or.inr sz_b531)
  have O552 := O545.wr W552 g_b531
  have f553 := f546.wr W552
  have f554 := f547.wr W552
  have f555 := f548.wr W552
  have f556 := f549.other W552 (Or.inl ne_b526_b531)
  have f557 := f550.other W552 (Or.inl ne_b526_b531)
  obtain ⟨_, _, ⟨T558, L558, k558, n558⟩, -, X558, ⟨Lc558, hQ558, l558, y558, z558⟩, st558⟩ := X552.specialBack hx (y := (⟨"java/lang/String", "<init>", "([C)V"⟩ : MethodName)) rfl hown (mvT hZ (H 11 _ rfl)) (mvT hZ (H 12 _ rfl)) (mvT hZ (H 13 _ rfl)) (by decide) (backOf (W := 1) (rm3n3 l Z a0 hw [] b526 b531 cs vf k531 (nar .char pa0) (nar .char pa1) (nar .char pa2) h552 n0 Zs552 O552 Scs hcs Ssf hvf f555 f556 f557 g_b526 V552 ne_b526_b531 (own_ncb hp0) (own_ncb hp1) (own_ncb hp2)) hZ (H 13 _ rfl) (H 9 _ rfl) (by decide) (by decide)) (g := (mkF m 83 #[vi 3, vi pa0, vi pa1, vi pa2, vi pa3] [(.ref b531), (.ref b526), (.ref b526)])) rfl (by rw [hml]; rfl) (Steps.refl _) (a := b526) (argsL := [(.ref b531)]) (rest := [(.ref b526)]) (lenOf own_pd30 rfl) rfl (Nat.le_of_eq rfl) (hb hby d2_83) (fun _ _ => ⟨rfl, e552, (by decide : 2 + 1 ≤ _), (by decide : 7 + 3 ≤ _)⟩)
  dsimp only [Pt.U, Pt.locs, Pt.cells, Pt.slots] at X558 l558 y558 z558 st558 hQ558
  rw [l558, y558, z558] at X558
  obtain ⟨rrb_558, rrk_558, rfl, Nq558, K558, p558_0, p558_1, p558_2, p558_3, p558_4, p558_5⟩ := hQ558
  have N558 := Fr.app N552 Nq558
  have Zs558 : n0 ≤ T558.heap.size := Nat.le_trans Zs552 K558.1
  have KK558 : Keep h0 T558.heap [] := KK552.trans K558 (allS (Or.inr sz_b526) all0)
  have ne_b526_rrb_558 : b526 ≠ rrb_558 := Nat.ne_of_lt (Nat.lt_of_lt_of_le f555.lt p558_5)
  have ne_b531_rrb_558 : b531 ≠ rrb_558 := Nat.ne_of_lt (Nat.lt_of_lt_of_le V552.lt p558_5)
  have sz_rrb_558 : h0.size ≤ rrb_558 := Nat.le_trans KK552.1 p558_5
  have O558 := O552.keep K558 (allS g_b526 all0)
  have f559 := Scs.ext O558.2
  have f560 := Ssf.ext O558.2
  have f561 := f555.keep K558
  have f562 := V552.keep K558 (ninS (Ne.symm ne_b526_b531) nin0)
  have g_rrb_558 := p558_4
  obtain ⟨fs, hr, hrun, hended, hW, hsame⟩ := X558.leave (v := some (.ref b526)) (fun h => by rw [Bd.returns] at h; cases h)
  refine ⟨_, _, pre0 _ ?_, hrun, hended, _, _, rfl, ?_, ⟨_, rfl⟩, hW, hsame.mono (by decide) (by decide)⟩
  · show Sp p e below m s₁ 0 #[vi 3, vi pa0, vi pa1, vi pa2, vi pa3] [] _
    refine XS.iloadN X0.here hx rfl (hb hby d2_0) rfl ?_
    refine XS.ifYes X0.here hx rfl (pc0 := 1) (pc' := 15) rfl (hb hby d2_1) rfl ((if0 _ _).trans (feq (by decide : ¬ ((3 : Int32) = (0 : Int32)))).2) (by decide) (by decide) ?_
    refine XS.iloadN X0.here hx rfl (hb hby d2_15) rfl ?_
    refine XS.iconst X0.here hx rfl (hb hby d2_16) ?_
    refine XS.icmpYes X0.here hx rfl (pc0 := 17) (pc' := 35) rfl (hb hby d2_17) rfl (feq (by decide : ¬ ((3 : Int32) = (1 : Int32)))).2 (by decide) (by decide) ?_
    refine XS.iloadN X0.here hx rfl (hb hby d2_35) rfl ?_
    refine XS.iconst X0.here hx rfl (hb hby d2_36) ?_
    refine XS.icmpYes X0.here hx rfl (pc0 := 37) (pc' := 59) rfl (hb hby d2_37) rfl (feq (by decide : ¬ ((3 : Int32) = (2 : Int32)))).2 (by decide) (by decide) ?_
    show Sp p e below m s₁ 59 #[vi 3, vi pa0, vi pa1, vi pa2, vi pa3] [] _
    refine XS.iloadN X0.here hx rfl (hb hby d2_59) rfl ?_
    refine XS.iconst X0.here hx rfl (hb hby d2_60) ?_
    refine XS.icmpNo X0.here hx rfl (hb hby d2_61) rfl (teq (by decide : ((3 : Int32) = (3 : Int32)))).2 ?_
    refine st526 _ ?_
    show Sp p e below m T526 67 #[vi 3, vi pa0, vi pa1, vi pa2, vi pa3] [(.ref b526)] _
    refine XS.dup X526.here hx rfl (hb hby d2_67) rfl rfl ?_
    refine XS.iconst X526.here hx rfl (hb hby d2_68) ?_
    refine st531 _ ?_
    show Sp p e below m T531 71 #[vi 3, vi pa0, vi pa1, vi pa2, vi pa3] [(.ref b531), (.ref b526), (.ref b526)] _
    refine XS.dup X531.here hx rfl (hb hby d2_71) rfl rfl ?_
    refine XS.iconst X531.here hx rfl (hb hby d2_72) ?_
    refine XS.iloadN X531.here hx rfl (hb hby d2_73) rfl ?_
    refine st538 _ ?_
    show Sp p e below m T538 75 #[vi 3, vi pa0, vi pa1, vi pa2, vi pa3] [(.ref b531), (.ref b526), (.ref b526)] _
    refine XS.dup X538.here hx rfl (hb hby d2_75) rfl rfl ?_
    refine XS.iconst X538.here hx rfl (hb hby d2_76) ?_
    refine XS.iloadN X538.here hx rfl (hb hby d2_77) rfl ?_
    refine st545 _ ?_
    show Sp p e below m T545 79 #[vi 3, vi pa0, vi pa1, vi pa2, vi pa3] [(.ref b531), (.ref b526), (.ref b526)] _
    refine XS.dup X545.here hx rfl (hb hby d2_79) rfl rfl ?_
    refine XS.iconst X545.here hx rfl (hb hby d2_80) ?_
    refine XS.iloadN X545.here hx rfl (hb hby d2_81) rfl ?_
    refine st552 _ ?_
    show Sp p e below m T552 83 #[vi 3, vi pa0, vi pa1, vi pa2, vi pa3] [(.ref b531), (.ref b526), (.ref b526)] _
    refine st558.trans ?_
    show Sp p e below m T558 86 #[vi 3, vi pa0, vi pa1, vi pa2, vi pa3] [(.ref b526)] _
    jvm_step X558.here [X558.here.top, hx, (hb hby d2_86), X558.method', Bd.returns, Value.isRef, FieldType.isReference]
    first | (intro acts; rw [hr _ acts rfl rfl rfl]) | rw [hr _ _ rfl rfl rfl]
    exact Steps.refl _
  · show Q2n3 Z pa0 pa1 pa2 pa3 cs vf h0 n0 _ T558.heap _
    exact ⟨b526, rrb_558, rrk_558, rfl, N558, KK558, p558_0, p558_1, p558_2, p558_3⟩
theorem ef_11n4 (m : MethodId) (x0 : Addr) (x2 : Addr) : entryFrame m #[(.ref x0), (.int 0), (.ref x2), (.int 0), (.int 4)] 7 = mkF m 0 #[.val (.ref x0), .val (.int 0), .val (.ref x2), .val (.int 0), .val (.int 4), .unset, .unset] [] := by first | (simp [entryFrame, mkF, argsToLocals, Value.category]; done) | rfl
def Q11n4 (Z : State) (ac : Addr) (ab : Addr) (kc : ClassId) (cc0 : Int32) (cc1 : Int32) (cc2 : Int32) (cc3 : Int32) (kb : ClassId) (h0 : Heap) (n0 : Nat) (v : Option Value) (h : Heap) (L : List Loc) : Prop := v = some (.int 4) ∧ Fr n0 L ∧ Keep h0 h [ab] ∧ Arv Z h ab kb .byte (4 : Int32) [(.int (nar .byte (cc0.toInt8.toInt32))), (.int (nar .byte (cc1.toInt8.toInt32))), (.int (nar .byte (cc2.toInt8.toInt32))), (.int (nar .byte (cc3.toInt8.toInt32)))] (.int 0)
theorem rm11n4 (l : Launch) (Z : State) (a0 : Array Value) (hw : ∀ d ∈ tables_1, d.before a0 Z = true) (ws : List Jvm.Cond) (ac : Addr) (ab : Addr) (kc : ClassId) (cc0 : Int32) (cc1 : Int32) (cc2 : Int32) (cc3 : Int32) (kb : ClassId) (h0 : Heap) (n0 : Nat) (Z0 : n0 ≤ h0.size) (Vc : Arv Z h0 ac kc .char (4 : Int32) [(.int cc0), (.int cc1), (.int cc2), (.int cc3)] (.int 0)) (Vb : Arv Z h0 ab kb .byte (4 : Int32) [(.int 0), (.int 0), (.int 0), (.int 0)] (.int 0)) (g_ab : n0 ≤ ab) (nab : ac ≠ ab) (hp0 : 0 ≤ cc0.toInt ∧ cc0.toInt ≤ 255) (hp1 : 0 ≤ cc1.toInt ∧ cc1.toInt ≤ 255) (hp2 : 0 ≤ cc2.toInt ∧ cc2.toInt ≤ 255) (hp3 : 0 ≤ cc3.toInt ∧ cc3.toInt ≤ 255) :
    MetFree l (⟨"java/lang/StringUTF16", "compress", "([CI[BII)I"⟩ : MethodName) (head1 (Jvm.Cond.code (⟨"java/lang/StringUTF16", "compress", "([CI[BII)I"⟩ : MethodName) jdk_52_method_21_code 7 (some .int) :: ws) ({ frames := 0, cells := 0, slots := 0, locals := 0 } : Room)) (fun a U => a = #[(.ref ac), (.int 0), (.ref ab), (.int 0), (.int 4)] ∧ Z.Warmed39 U.vm ∧ U.heap = h0) (fun _ _ _ _ _ => True) (fun _ U o U' => ∃ v L, o = .returned v ∧ Q11n4 Z ac ab kc cc0 cc1 cc2 cc3 kb h0 n0 v U'.heap L ∧ FrameEnd U o U' L ({ frames := 0, cells := 0, slots := 0, locals := 0 } : Room).cells ({ frames := 0, cells := 0, slots := 0, locals := 0 } : Room).slots) := by
  refine MetFree.of_bodySF (plainFor_of_name own_pn56) hisR ?_
  intro p e s m args below meth c s₁ Bd hml0 hP hK
  have H := fun i c (h : tables_1[i]? = some c) => hw c (List.mem_of_getElem? h)
  obtain ⟨rfl, hZ, hh⟩ := hP
  have hx := Bd.exec
  have hby := Bd.bytes
  have hml : c.maxLocals = 7 := hml0
  have hown : s.vm.findClass "java/lang/StringUTF16" = some m.cls := findClass_of_methodNamed Bd.named
  have hnm := (name_of_methodNamed Bd.named Bd.method).1
  have X0 : Stand p l e ({ frames := 0, cells := 0, slots := 0, locals := 0 } : Room) s m #[(.ref ac), (.int 0), (.ref ab), (.int 0), (.int 4)] below meth c s₁ [] 0 0 := Stand.of_body Bd
  have e0 : s₁.heap = h0 := by rw [← hh, Bd.state]; rfl
  have N0 := Fr.nil n0
  have pre0 : ∀ t, Sp p e below m s₁ 0 #[vr ac, vi 0, vr ab, vi 0, vi 4, .unset, .unset] [] t → Steps p.tables e below (s₁.setTop (entryFrame m #[(.ref ac), (.int 0), (.ref ab), (.int 0), (.int 4)] 7)) t := fun t k => castTop (ef_11n4 m ac ab) k
  generalize s₁.setTop (entryFrame m #[(.ref ac), (.int 0), (.ref ab), (.int 0), (.int 4)] 7) = G0 at pre0 ⊢
  obtain ⟨cl579, Ar579, -, S579, -, H579, -⟩ := id Vc
  have hin579 : ¬ ((0 : Int32) < 0 ∨ cl579.slots.size ≤ ((0 : Int32)).toNatClampNeg) := inb_of S579 ⟨by decide, by decide⟩
  have hat579 : cl579.slots[((0 : Int32)).toNatClampNeg]? = some (.int cc0) := H579.at hin579 rfl
  obtain ⟨cl580, Ar580, q580, S580, N580, H580, G580⟩ := id Vb
  have hin580 : ¬ ((0 : Int32) < 0 ∨ cl580.slots.size ≤ ((0 : Int32)).toNatClampNeg) := inb_of S580 ⟨by decide, by decide⟩
  obtain ⟨T581, h581, X581, e581, W581, st581⟩ := stB X0 hx hZ e0 Ar580 (j := (0 : Int32)) hin580 (g := (mkF m 31 #[vr ac, vi 0, vr ab, vi 0, vi 4, vi 0, vi cc0] [(.int (cc0.toInt8.toInt32)), (.int 0), (.ref ab)])) rfl rfl (hb hby d11_31)
  have V581 : Arv Z h581 ab kb .byte (4 : Int32) [(.int (nar .byte (cc0.toInt8.toInt32))), (.int 0), (.int 0), (.int 0)] (.int 0) := Arv.set Ar580 q580 S580 N580 H580 G580 (fits_nar_byte (cc0.toInt8.toInt32)) W581 0 rfl (Nat.le_of_ble_eq_true rfl)
  have N581 := Fr.snoc X581 N0 g_ab
  have Zs581 : n0 ≤ h581.size := Nat.le_trans Z0 (Keep.of_wr W581).1
  have KK581 : Keep h0 h581 [ab] := (Keep.refl h0 _).wr W581 (Or.inl (List.mem_of_getElem? (i := 0) rfl))
  have f582 := Vc.other W581 nab
  obtain ⟨cl583, Ar583, -, S583, -, H583, -⟩ := id f582
  have hin583 : ¬ ((1 : Int32) < 0 ∨ cl583.slots.size ≤ ((1 : Int32)).toNatClampNeg) := inb_of S583 ⟨by decide, by decide⟩
  have hat583 : cl583.slots[((1 : Int32)).toNatClampNeg]? = some (.int cc1) := H583.at hin583 rfl
  obtain ⟨cl584, Ar584, q584, S584, N584, H584, G584⟩ := id V581
  have hin584 : ¬ ((1 : Int32) < 0 ∨ cl584.slots.size ≤ ((1 : Int32)).toNatClampNeg) := inb_of S584 ⟨by decide, by decide⟩
  obtain ⟨T585, h585, X585, e585, W585, st585⟩ := stB X581 hx hZ e581 Ar584 (j := (1 : Int32)) hin584 (g := (mkF m 31 #[vr ac, vi 1, vr ab, vi 1, vi 4, vi 1, vi cc1] [(.int (cc1.toInt8.toInt32)), (.int 1), (.ref ab)])) rfl rfl (hb hby d11_31)
  have V585 : Arv Z h585 ab kb .byte (4 : Int32) [(.int (nar .byte (cc0.toInt8.toInt32))), (.int (nar .byte (cc1.toInt8.toInt32))), (.int 0), (.int 0)] (.int 0) := Arv.set Ar584 q584 S584 N584 H584 G584 (fits_nar_byte (cc1.toInt8.toInt32)) W585 1 rfl (Nat.le_of_ble_eq_true rfl)
  have N585 := Fr.snoc X585 N581 g_ab
  have Zs585 : n0 ≤ h585.size := Nat.le_trans Zs581 (Keep.of_wr W585).1
  have KK585 : Keep h0 h585 [ab] := KK581.wr W585 (Or.inl (List.mem_of_getElem? (i := 0) rfl))
  have f586 := f582.other W585 nab
  obtain ⟨cl587, Ar587, -, S587, -, H587, -⟩ := id f586
  have hin587 : ¬ ((2 : Int32) < 0 ∨ cl587.slots.size ≤ ((2 : Int32)).toNatClampNeg) := inb_of S587 ⟨by decide, by decide⟩
  have hat587 : cl587.slots[((2 : Int32)).toNatClampNeg]? = some (.int cc2) := H587.at hin587 rfl
  obtain ⟨cl588, Ar588, q588, S588, N588, H588, G588⟩ := id V585
  have hin588 : ¬ ((2 : Int32) < 0 ∨ cl588.slots.size ≤ ((2 : Int32)).toNatClampNeg) := inb_of S588 ⟨by decide, by decide⟩
  obtain ⟨T589, h589, X589, e589, W589, st589⟩ := stB X585 hx hZ e585 Ar588 (j := (2 : Int32)) hin588 (g := (mkF m 31 #[vr ac, vi 2, vr ab, vi 2, vi 4, vi 2, vi cc2] [(.int (cc2.toInt8.toInt32)), (.int 2), (.ref ab)])) rfl rfl (hb hby d11_31)
  have V589 : Arv Z h589 ab kb .byte (4 : Int32) [(.int (nar .byte (cc0.toInt8.toInt32))), (.int (nar .byte (cc1.toInt8.toInt32))), (.int (nar .byte (cc2.toInt8.toInt32))), (.int 0)] (.int 0) := Arv.set Ar588 q588 S588 N588 H588 G588 (fits_nar_byte (cc2.toInt8.toInt32)) W589 2 rfl (Nat.le_of_ble_eq_true rfl)
  have N589 := Fr.snoc X589 N585 g_ab
  have Zs589 : n0 ≤ h589.size := Nat.le_trans Zs585 (Keep.of_wr W589).1
  have KK589 : Keep h0 h589 [ab] := KK585.wr W589 (Or.inl (List.mem_of_getElem? (i := 0) rfl))
  have f590 := f586.other W589 nab
  obtain ⟨cl591, Ar591, -, S591, -, H591, -⟩ := id f590
  have hin591 : ¬ ((3 : Int32) < 0 ∨ cl591.slots.size ≤ ((3 : Int32)).toNatClampNeg) := inb_of S591 ⟨by decide, by decide⟩
  have hat591 : cl591.slots[((3 : Int32)).toNatClampNeg]? = some (.int cc3) := H591.at hin591 rfl
  obtain ⟨cl592, Ar592, q592, S592, N592, H592, G592⟩ := id V589
  have hin592 : ¬ ((3 : Int32) < 0 ∨ cl592.slots.size ≤ ((3 : Int32)).toNatClampNeg) := inb_of S592 ⟨by decide, by decide⟩
  obtain ⟨T593, h593, X593, e593, W593, st593⟩ := stB X589 hx hZ e589 Ar592 (j := (3 : Int32)) hin592 (g := (mkF m 31 #[vr ac, vi 3, vr ab, vi 3, vi 4, vi 3, vi cc3] [(.int (cc3.toInt8.toInt32)), (.int 3), (.ref ab)])) rfl rfl (hb hby d11_31)
  have V593 : Arv Z h593 ab kb .byte (4 : Int32) [(.int (nar .byte (cc0.toInt8.toInt32))), (.int (nar .byte (cc1.toInt8.toInt32))), (.int (nar .byte (cc2.toInt8.toInt32))), (.int (nar .byte (cc3.toInt8.toInt32)))] (.int 0) := Arv.set Ar592 q592 S592 N592 H592 G592 (fits_nar_byte (cc3.toInt8.toInt32)) W593 3 rfl (Nat.le_of_ble_eq_true rfl)
  have N593 := Fr.snoc X593 N589 g_ab
  have Zs593 : n0 ≤ h593.size := Nat.le_trans Zs589 (Keep.of_wr W593).1
  have KK593 : Keep h0 h593 [ab] := KK589.wr W593 (Or.inl (List.mem_of_getElem? (i := 0) rfl))
  have f594 := f590.other W593 nab
  obtain ⟨fs, hr, hrun, hended, hW, hsame⟩ := X593.leave (v := some (.int 4)) (fun h => by rw [Bd.returns] at h; cases h)
  refine ⟨_, _, pre0 _ ?_, hrun, hended, _, _, rfl, ?_, ⟨_, rfl⟩, hW, hsame.mono (by decide) (by decide)⟩
  · show Sp p e below m s₁ 0 #[vr ac, vi 0, vr ab, vi 0, vi 4, .unset, .unset] [] _
    refine XS.iconst X0.here hx rfl (hb hby d11_0) ?_
    refine XS.istore X0.here hx rfl (hb hby d11_1) rfl (l' := #[vr ac, vi 0, vr ab, vi 0, vi 4, vi 0, .unset]) rfl ?_
    refine XS.iload X0.here hx rfl (hb hby d11_3) rfl ?_
    refine XS.iload X0.here hx rfl (hb hby d11_5) rfl ?_
    refine XS.icmpNo X0.here hx rfl (hb hby d11_7) rfl (tlt (by decide : ((0 : Int32) < (4 : Int32)))).2.1 ?_
    refine XS.aloadN X0.here hx rfl (hb hby d11_10) rfl rfl ?_
    refine XS.iloadN X0.here hx rfl (hb hby d11_11) rfl ?_
    refine X0.caload hx (j := (0 : Int32)) (v := (.int cc0)) (by rw [e0]; exact Ar579.1) (State.isArrayOf_alike hZ.alike Ar579.2.1) Ar579.2.2 hin579 hat579 (g := (mkF m 12 #[vr ac, vi 0, vr ab, vi 0, vi 4, vi 0, .unset] [(.int 0), (.ref ac)])) rfl rfl (hb hby d11_12) _ ?_
    show Sp p e below m s₁ 13 #[vr ac, vi 0, vr ab, vi 0, vi 4, vi 0, .unset] [(.int cc0)] _
    refine XS.istore X0.here hx rfl (hb hby d11_13) rfl (l' := #[vr ac, vi 0, vr ab, vi 0, vi 4, vi 0, vi cc0]) rfl ?_
    refine XS.iload X0.here hx rfl (hb hby d11_15) rfl ?_
    refine XS.sipush X0.here hx rfl (hb hby d11_17) ?_
    refine XS.icmpYes X0.here hx rfl (pc0 := 20) (pc' := 26) rfl (hb hby d11_20) rfl (flt (own_le255 hp0 : ¬ ((255 : Int32) < cc0))).2.2.2 (by decide) (by decide) ?_
    refine XS.aloadN X0.here hx rfl (hb hby d11_26) rfl rfl ?_
    refine XS.iloadN X0.here hx rfl (hb hby d11_27) rfl ?_
    refine XS.iload X0.here hx rfl (hb hby d11_28) rfl ?_
    refine XS.i2b X0.here hx rfl (hb hby d11_30) rfl ?_
    show Sp p e below m s₁ 31 #[vr ac, vi 0, vr ab, vi 0, vi 4, vi 0, vi cc0] [(.int (cc0.toInt8.toInt32)), (.int 0), (.ref ab)] _
    refine st581 _ ?_
    show Sp p e below m T581 32 #[vr ac, vi 0, vr ab, vi 0, vi 4, vi 0, vi cc0] [] _
    refine XS.iinc X581.here hx rfl (hb hby d11_32) rfl (l' := #[vr ac, vi 1, vr ab, vi 0, vi 4, vi 0, vi cc0]) rfl ?_
    refine XS.iinc X581.here hx rfl (hb hby d11_35) rfl (l' := #[vr ac, vi 1, vr ab, vi 1, vi 4, vi 0, vi cc0]) rfl ?_
    refine XS.iinc X581.here hx rfl (hb hby d11_38) rfl (l' := #[vr ac, vi 1, vr ab, vi 1, vi 4, vi 1, vi cc0]) rfl ?_
    refine XS.goto X581.here hx rfl (pc0 := 41) (pc' := 3) rfl (hb hby d11_41) (by decide) (by decide) ?_
    refine XS.iload X581.here hx rfl (hb hby d11_3) rfl ?_
    refine XS.iload X581.here hx rfl (hb hby d11_5) rfl ?_
    refine XS.icmpNo X581.here hx rfl (hb hby d11_7) rfl (tlt (by decide : ((1 : Int32) < (4 : Int32)))).2.1 ?_
    refine XS.aloadN X581.here hx rfl (hb hby d11_10) rfl rfl ?_
    show Sp p e below m T581 11 #[vr ac, vi 1, vr ab, vi 1, vi 4, vi 1, vi cc0] [(.ref ac)] _
    refine XS.iloadN X581.here hx rfl (hb hby d11_11) rfl ?_
    refine X581.caload hx (j := (1 : Int32)) (v := (.int cc1)) (by rw [e581]; exact Ar583.1) (State.isArrayOf_alike hZ.alike Ar583.2.1) Ar583.2.2 hin583 hat583 (g := (mkF m 12 #[vr ac, vi 1, vr ab, vi 1, vi 4, vi 1, vi cc0] [(.int 1), (.ref ac)])) rfl rfl (hb hby d11_12) _ ?_
    show Sp p e below m T581 13 #[vr ac, vi 1, vr ab, vi 1, vi 4, vi 1, vi cc0] [(.int cc1)] _
    refine XS.istore X581.here hx rfl (hb hby d11_13) rfl (l' := #[vr ac, vi 1, vr ab, vi 1, vi 4, vi 1, vi cc1]) rfl ?_
    refine XS.iload X581.here hx rfl (hb hby d11_15) rfl ?_
    refine XS.sipush X581.here hx rfl (hb hby d11_17) ?_
    refine XS.icmpYes X581.here hx rfl (pc0 := 20) (pc' := 26) rfl (hb hby d11_20) rfl (flt (own_le255 hp1 : ¬ ((255 : Int32) < cc1))).2.2.2 (by decide) (by decide) ?_
    refine XS.aloadN X581.here hx rfl (hb hby d11_26) rfl rfl ?_
    refine XS.iloadN X581.here hx rfl (hb hby d11_27) rfl ?_
    refine XS.iload X581.here hx rfl (hb hby d11_28) rfl ?_
    refine XS.i2b X581.here hx rfl (hb hby d11_30) rfl ?_
    show Sp p e below m T581 31 #[vr ac, vi 1, vr ab, vi 1, vi 4, vi 1, vi cc1] [(.int (cc1.toInt8.toInt32)), (.int 1), (.ref ab)] _
    refine st585 _ ?_
    show Sp p e below m T585 32 #[vr ac, vi 1, vr ab, vi 1, vi 4, vi 1, vi cc1] [] _
    refine XS.iinc X585.here hx rfl (hb hby d11_32) rfl (l' := #[vr ac, vi 2, vr ab, vi 1, vi 4, vi 1, vi cc1]) rfl ?_
    refine XS.iinc X585.here hx rfl (hb hby d11_35) rfl (l' := #[vr ac, vi 2, vr ab, vi 2, vi 4, vi 1, vi cc1]) rfl ?_
    refine XS.iinc X585.here hx rfl (hb hby d11_38) rfl (l' := #[vr ac, vi 2, vr ab, vi 2, vi 4, vi 2, vi cc1]) rfl ?_
    refine XS.goto X585.here hx rfl (pc0 := 41) (pc' := 3) rfl (hb hby d11_41) (by decide) (by decide) ?_
    refine XS.iload X585.here hx rfl (hb hby d11_3) rfl ?_
    refine XS.iload X585.here hx rfl (hb hby d11_5) rfl ?_
    refine XS.icmpNo X585.here hx rfl (hb hby d11_7) rfl (tlt (by decide : ((2 : Int32) < (4 : Int32)))).2.1 ?_
    refine XS.aloadN X585.here hx rfl (hb hby d11_10) rfl rfl ?_
    show Sp p e below m T585 11 #[vr ac, vi 2, vr ab, vi 2, vi 4, vi 2, vi cc1] [(.ref ac)] _
    refine XS.iloadN X585.here hx rfl (hb hby d11_11) rfl ?_
    refine X585.caload hx (j := (2 : Int32)) (v := (.int cc2)) (by rw [e585]; exact Ar587.1) (State.isArrayOf_alike hZ.alike Ar587.2.1) Ar587.2.2 hin587 hat587 (g := (mkF m 12 #[vr ac, vi 2, vr ab, vi 2, vi 4, vi 2, vi cc1] [(.int 2), (.ref ac)])) rfl rfl (hb hby d11_12) _ ?_
    show Sp p e below m T585 13 #[vr ac, vi 2, vr ab, vi 2, vi 4, vi 2, vi cc1] [(.int cc2)] _
    refine XS.istore X585.here hx rfl (hb hby d11_13) rfl (l' := #[vr ac, vi 2, vr ab, vi 2, vi 4, vi 2, vi cc2]) rfl ?_
    refine XS.iload X585.here hx rfl (hb hby d11_15) rfl ?_
    refine XS.sipush X585.here hx rfl (hb hby d11_17) ?_
    refine XS.icmpYes X585.here hx rfl (pc0 := 20) (pc' := 26) rfl (hb hby d11_20) rfl (flt (own_le255 hp2 : ¬ ((255 : Int32) < cc2))).2.2.2 (by decide) (by decide) ?_
    refine XS.aloadN X585.here hx rfl (hb hby d11_26) rfl rfl ?_
    refine XS.iloadN X585.here hx rfl (hb hby d11_27) rfl ?_
    refine XS.iload X585.here hx rfl (hb hby d11_28) rfl ?_
    refine XS.i2b X585.here hx rfl (hb hby d11_30) rfl ?_
    show Sp p e below m T585 31 #[vr ac, vi 2, vr ab, vi 2, vi 4, vi 2, vi cc2] [(.int (cc2.toInt8.toInt32)), (.int 2), (.ref ab)] _
    refine st589 _ ?_
    show Sp p e below m T589 32 #[vr ac, vi 2, vr ab, vi 2, vi 4, vi 2, vi cc2] [] _
    refine XS.iinc X589.here hx rfl (hb hby d11_32) rfl (l' := #[vr ac, vi 3, vr ab, vi 2, vi 4, vi 2, vi cc2]) rfl ?_
    refine XS.iinc X589.here hx rfl (hb hby d11_35) rfl (l' := #[vr ac, vi 3, vr ab, vi 3, vi 4, vi 2, vi cc2]) rfl ?_
    refine XS.iinc X589.here hx rfl (hb hby d11_38) rfl (l' := #[vr ac, vi 3, vr ab, vi 3, vi 4, vi 3, vi cc2]) rfl ?_
    refine XS.goto X589.here hx rfl (pc0 := 41) (pc' := 3) rfl (hb hby d11_41) (by decide) (by decide) ?_
    refine XS.iload X589.here hx rfl (hb hby d11_3) rfl ?_
    refine XS.iload X589.here hx rfl (hb hby d11_5) rfl ?_
    refine XS.icmpNo X589.here hx rfl (hb hby d11_7) rfl (tlt (by decide : ((3 : Int32) < (4 : Int32)))).2.1 ?_
    refine XS.aloadN X589.here hx rfl (hb hby d11_10) rfl rfl ?_
    show Sp p e below m T589 11 #[vr ac, vi 3, vr ab, vi 3, vi 4, vi 3, vi cc2] [(.ref ac)] _
    refine XS.iloadN X589.here hx rfl (hb hby d11_11) rfl ?_
    refine X589.caload hx (j := (3 : Int32)) (v := (.int cc3)) (by rw [e589]; exact Ar591.1) (State.isArrayOf_alike hZ.alike Ar591.2.1) Ar591.2.2 hin591 hat591 (g := (mkF m 12 #[vr ac, vi 3, vr ab, vi 3, vi 4, vi 3, vi cc2] [(.int 3), (.ref ac)])) rfl rfl (hb hby d11_12) _ ?_
    show Sp p e below m T589 13 #[vr ac, vi 3, vr ab, vi 3, vi 4, vi 3, vi cc2] [(.int cc3)] _
    refine XS.istore X589.here hx rfl (hb hby d11_13) rfl (l' := #[vr ac, vi 3, vr ab, vi 3, vi 4, vi 3, vi cc3]) rfl ?_
    refine XS.iload X589.here hx rfl (hb hby d11_15) rfl ?_
    refine XS.sipush X589.here hx rfl (hb hby d11_17) ?_
    refine XS.icmpYes X589.here hx rfl (pc0 := 20) (pc' := 26) rfl (hb hby d11_20) rfl (flt (own_le255 hp3 : ¬ ((255 : Int32) < cc3))).2.2.2 (by decide) (by decide) ?_
    refine XS.aloadN X589.here hx rfl (hb hby d11_26) rfl rfl ?_
    refine XS.iloadN X589.here hx rfl (hb hby d11_27) rfl ?_
    refine XS.iload X589.here hx rfl (hb hby d11_28) rfl ?_
    refine XS.i2b X589.here hx rfl (hb hby d11_30) rfl ?_
    show Sp p e below m T589 31 #[vr ac, vi 3, vr ab, vi 3, vi 4, vi 3, vi cc3] [(.int (cc3.toInt8.toInt32)), (.int 3), (.ref ab)] _
    refine st593 _ ?_
    show Sp p e below m T593 32 #[vr ac, vi 3, vr ab, vi 3, vi 4, vi 3, vi cc3] [] _
    refine XS.iinc X593.here hx rfl (hb hby d11_32) rfl (l' := #[vr ac, vi 4, vr ab, vi 3, vi 4, vi 3, vi cc3]) rfl ?_
    refine XS.iinc X593.here hx rfl (hb hby d11_35) rfl (l' := #[vr ac, vi 4, vr ab, vi 4, vi 4, vi 3, vi cc3]) rfl ?_
    refine XS.iinc X593.here hx rfl (hb hby d11_38) rfl (l' := #[vr ac, vi 4, vr ab, vi 4, vi 4, vi 4, vi cc3]) rfl ?_
    refine XS.goto X593.here hx rfl (pc0 := 41) (pc' := 3) rfl (hb hby d11_41) (by decide) (by decide) ?_
    refine XS.iload X593.here hx rfl (hb hby d11_3) rfl ?_
    refine XS.iload X593.here hx rfl (hb hby d11_5) rfl ?_
    refine XS.icmpYes X593.here hx rfl (pc0 := 7) (pc' := 44) rfl (hb hby d11_7) rfl (flt (by decide : ¬ ((4 : Int32) < (4 : Int32)))).2.1 (by decide) (by decide) ?_
    refine XS.iload X593.here hx rfl (hb hby d11_44) rfl ?_
    show Sp p e below m T593 46 #[vr ac, vi 4, vr ab, vi 4, vi 4, vi 4, vi cc3] [(.int 4)] _
    exact retI X593 hx Bd.returns (hb hby d11_46) hr
  · show Q11n4 Z ac ab kc cc0 cc1 cc2 cc3 kb h0 n0 _ T593.heap _
    rw [e593]
    exact ⟨rfl, N593, KK593, V593⟩
theorem ef_10n4 (m : MethodId) (x0 : Addr) : entryFrame m #[(.ref x0), (.int 0), (.int 4)] 6 = mkF m 0 #[.val (.ref x0), .val (.int 0), .val (.int 4), .unset, .unset, .unset] [] := by first | (simp [entryFrame, mkF, argsToLocals, Value.category]; done) | rfl
def Q10n4 (Z : State) (ac : Addr) (kc : ClassId) (cc0 : Int32) (cc1 : Int32) (cc2 : Int32) (cc3 : Int32) (h0 : Heap) (n0 : Nat) (v : Option Value) (h : Heap) (L : List Loc) : Prop := ∃ (rb : Addr) (rk : ClassId), v = some (.ref rb) ∧ Fr n0 L ∧ Keep h0 h [] ∧ Arv Z h rb rk .byte (4 : Int32) [(.int (nar .byte (cc0.toInt8.toInt32))), (.int (nar .byte (cc1.toInt8.toInt32))), (.int (nar .byte (cc2.toInt8.toInt32))), (.int (nar .byte (cc3.toInt8.toInt32)))] (.int 0) ∧ n0 ≤ rb ∧ h0.size ≤ rb
theorem rm10n4 (l : Launch) (Z : State) (a0 : Array Value) (hw : ∀ d ∈ tables_1, d.before a0 Z = true) (ws : List Jvm.Cond) (ac : Addr) (kc : ClassId) (cc0 : Int32) (cc1 : Int32) (cc2 : Int32) (cc3 : Int32) (h0 : Heap) (n0 : Nat) (Z0 : n0 ≤ h0.size) (Vc : Arv Z h0 ac kc .char (4 : Int32) [(.int cc0), (.int cc1), (.int cc2), (.int cc3)] (.int 0)) (hp0 : 0 ≤ cc0.toInt ∧ cc0.toInt ≤ 255) (hp1 : 0 ≤ cc1.toInt ∧ cc1.toInt ≤ 255) (hp2 : 0 ≤ cc2.toInt ∧ cc2.toInt ≤ 255) (hp3 : 0 ≤ cc3.toInt ∧ cc3.toInt ≤ 255) :
    MetFree l (⟨"java/lang/StringUTF16", "compress", "([CII)[B"⟩ : MethodName) (head1 (Jvm.Cond.code (⟨"java/lang/StringUTF16", "compress", "([CII)[B"⟩ : MethodName) jdk_52_method_16_code 6 (some (.array .byte)) :: ws) ({ frames := 1, cells := 1, slots := 4, locals := 18 } : Room)) (fun a U => a = #[(.ref ac), (.int 0), (.int 4)] ∧ Z.Warmed39 U.vm ∧ U.heap = h0) (fun _ _ _ _ _ => True) (fun _ U o U' => ∃ v L, o = .returned v ∧ Q10n4 Z ac kc cc0 cc1 cc2 cc3 h0 n0 v U'.heap L ∧ FrameEnd U o U' L ({ frames := 1, cells := 1, slots := 4, locals := 18 } : Room).cells ({ frames := 1, cells := 1, slots := 4, locals := 18 } : Room).slots) := by
  refine MetFree.of_bodySF (plainFor_of_name own_pn56) hisR ?_
  intro p e s m args below meth c s₁ Bd hml0 hP hK
  have H := fun i c (h : tables_1[i]? = some c) => hw c (List.mem_of_getElem? h)
  obtain ⟨rfl, hZ, hh⟩ := hP
  have hx := Bd.exec
  have hby := Bd.bytes
  have hml : c.maxLocals = 6 := hml0
  have hown : s.vm.findClass "java/lang/StringUTF16" = some m.cls := findClass_of_methodNamed Bd.named
  have hnm := (name_of_methodNamed Bd.named Bd.method).1
  have X0 : Stand p l e ({ frames := 1, cells := 1, slots := 4, locals := 18 } : Room) s m #[(.ref ac), (.int 0), (.int 4)] below meth c s₁ [] 0 0 := Stand.of_body Bd
  have e0 : s₁.heap = h0 := by rw [← hh, Bd.state]; rfl
  have N0 := Fr.nil n0
  have pre0 : ∀ t, Sp p e below m s₁ 0 #[vr ac, vi 0, vi 4, .unset, .unset, .unset] [] t → Steps p.tables e below (s₁.setTop (entryFrame m #[(.ref ac), (.int 0), (.int 4)] 6)) t := fun t k => castTop (ef_10n4 m ac) k
  generalize s₁.setTop (entryFrame m #[(.ref ac), (.int 0), (.int 4)] 6) = G0 at pre0 ⊢
  obtain ⟨T599, h599, k599, X599, e599, E599, A599, st599⟩ := newP X0 hx hZ (H 22 _ rfl) e0 (g := (mkF m 1 #[vr ac, vi 0, vi 4, .unset, .unset, .unset] [(.int 4)])) rfl (hb hby d10_1) rfl (by decide) (cap := 4) (by decide) (by decide) (by decide) (by decide)
  obtain ⟨b599, g599⟩ : ∃ z, z = h0.size := ⟨_, rfl⟩
  rw [← g599] at A599 st599
  have g_b599 : n0 ≤ b599 := Nat.le_trans Z0 (Nat.le_of_eq g599.symm)
  have sz_b599 : h0.size ≤ b599 := Nat.le_of_eq g599.symm
  have lt_ac_b599 : ac < b599 := Nat.lt_of_lt_of_le Vc.lt (Nat.le_of_eq g599.symm)
  have ne_ac_b599 : ac ≠ b599 := Nat.ne_of_lt lt_ac_b599
  have Zs599 : n0 ≤ h599.size := Nat.le_trans Z0 E599.1
  have KK599 : Keep h0 h599 [] := (Keep.refl h0 _).ext E599
  have f600 := Vc.ext E599
  have V599 : Arv Z h599 b599 k599 .byte (4 : Int32) [(.int 0), (.int 0), (.int 0), (.int 0)] (.int 0) := (Arv.new A599 (by decide)).pad (pad_rep [] (.int 0) 4)
  obtain ⟨_, _, ⟨T601, L601, k601, n601⟩, -, X601, ⟨Lc601, hQ601, l601, y601, z601⟩, st601⟩ := Jvm.LawKit.callS X599 hx hown (mvT hZ (H 67 _ rfl)) (mvT hZ (H 68 _ rfl)) (mvT hZ (H 65 _ rfl)) (mvT hZ (H 69 _ rfl)) (by decide) (backOf (W := 0) (rm11n4 l Z a0 hw [] ac b599 kc cc0 cc1 cc2 cc3 k599 h599 n0 Zs599 f600 V599 g_b599 ne_ac_b599 hp0 hp1 hp2 hp3) hZ (H 69 _ rfl) (H 65 _ rfl) (by decide) (by decide)) (g := (mkF m 9 #[vr ac, vi 0, vi 4, vr b599, .unset, .unset] [(.int 4), (.int 0), (.ref b599), (.int 0), (.ref ac)])) rfl (by rw [hml]; rfl) (argsL := [(.ref ac), (.int 0), (.ref b599), (.int 0), (.int 4)]) (rest := []) (lenOf own_pd66 rfl) rfl (Nat.le_of_eq rfl) (hb hby d10_9) (fun _ _ => ⟨rfl, e599, (by decide : 1 + 0 ≤ _), (by decide : 4 + 0 ≤ _)⟩)
  dsimp only [Pt.U, Pt.locs, Pt.cells, Pt.slots] at X601 l601 y601 z601 st601 hQ601
  rw [l601, y601, z601] at X601
  obtain ⟨rfl, Nq601, K601, p601_0⟩ := hQ601
  have N601 := Fr.app N0 Nq601
  have Zs601 : n0 ≤ T601.heap.size := Nat.le_trans Zs599 K601.1
  have KK601 : Keep h0 T601.heap [] := KK599.trans K601 (allS (Or.inr sz_b599) all0)
  have f602 := f600.keep K601 (ninS ne_ac_b599 nin0)
  obtain ⟨fs, hr, hrun, hended, hW, hsame⟩ := X601.leave (v := some (.ref b599)) (fun h => by rw [Bd.returns] at h; cases h)
  refine ⟨_, _, pre0 _ ?_, hrun, hended, _, _, rfl, ?_, ⟨_, rfl⟩, hW, hsame.mono (by decide) (by decide)⟩
  · show Sp p e below m s₁ 0 #[vr ac, vi 0, vi 4, .unset, .unset, .unset] [] _
    refine XS.iloadN X0.here hx rfl (hb hby d10_0) rfl ?_
    refine st599 _ ?_
    show Sp p e below m T599 3 #[vr ac, vi 0, vi 4, .unset, .unset, .unset] [(.ref b599)] _
    refine XS.astoreN X599.here hx rfl (hb hby d10_3) rfl rfl (l' := #[vr ac, vi 0, vi 4, vr b599, .unset, .unset]) rfl ?_
    refine XS.aloadN X599.here hx rfl (hb hby d10_4) rfl rfl ?_
    refine XS.iloadN X599.here hx rfl (hb hby d10_5) rfl ?_
    refine XS.aloadN X599.here hx rfl (hb hby d10_6) rfl rfl ?_
    refine XS.iconst X599.here hx rfl (hb hby d10_7) ?_
    refine XS.iloadN X599.here hx rfl (hb hby d10_8) rfl ?_
    refine st601 _ ?_
    show Sp p e below m T601 12 #[vr ac, vi 0, vi 4, vr b599, .unset, .unset] [(.int 4)] _
    refine XS.istore X601.here hx rfl (hb hby d10_12) rfl (l' := #[vr ac, vi 0, vi 4, vr b599, vi 4, .unset]) rfl ?_
    refine XS.iload X601.here hx rfl (hb hby d10_14) rfl ?_
    refine XS.iloadN X601.here hx rfl (hb hby d10_16) rfl ?_
    refine XS.icmpYes X601.here hx rfl (pc0 := 17) (pc' := 57) rfl (hb hby d10_17) rfl (teq (by decide : ((4 : Int32) = (4 : Int32)))).1 (by decide) (by decide) ?_
    refine XS.aloadN X601.here hx rfl (hb hby d10_57) rfl rfl ?_
    jvm_step X601.here [X601.here.top, hx, (hb hby d10_58), X601.method', Bd.returns, Value.isRef, FieldType.isReference]
    first | (intro acts; rw [hr _ acts rfl rfl rfl]) | rw [hr _ _ rfl rfl rfl]
    exact Steps.refl _
  · show Q10n4 Z ac kc cc0 cc1 cc2 cc3 h0 n0 _ T601.heap _
    exact ⟨b599, k599, rfl, N601, KK601, p601_0, g_b599, sz_b599⟩
theorem ef_12n4 (m : MethodId) (x0 : Addr) : entryFrame m #[(.ref x0), (.int 4)] 2 = mkF m 0 #[.val (.ref x0), .val (.int 4)] [] := by first | (simp [entryFrame, mkF, argsToLocals, Value.category]; done) | rfl
def Q12n4 (Z : State) (ab : Addr) (kb : ClassId) (vs : List Value) (h0 : Heap) (n0 : Nat) (v : Option Value) (h : Heap) (L : List Loc) : Prop := v = some (.int 0) ∧ Fr n0 L ∧ h = h0
theorem rm12n4 (l : Launch) (Z : State) (a0 : Array Value) (hw : ∀ d ∈ tables_1, d.before a0 Z = true) (ws : List Jvm.Cond) (ab : Addr) (kb : ClassId) (vs : List Value) (h0 : Heap) (n0 : Nat) (Z0 : n0 ≤ h0.size) (Vb : Arv Z h0 ab kb .byte (4 : Int32) vs (.int 0)) :
    MetFree l (⟨"java/lang/StringUTF16", "coderFromArrayLen", "([BI)B"⟩ : MethodName) (head1 (Jvm.Cond.code (⟨"java/lang/StringUTF16", "coderFromArrayLen", "([BI)B"⟩ : MethodName) jdk_52_method_15_code 2 (some .byte) :: ws) ({ frames := 0, cells := 0, slots := 0, locals := 0 } : Room)) (fun a U => a = #[(.ref ab), (.int 4)] ∧ Z.Warmed39 U.vm ∧ U.heap = h0) (fun _ _ _ _ _ => True) (fun _ U o U' => ∃ v L, o = .returned v ∧ Q12n4 Z ab kb vs h0 n0 v U'.heap L ∧ FrameEnd U o U' L ({ frames := 0, cells := 0, slots := 0, locals := 0 } : Room).cells ({ frames := 0, cells := 0, slots := 0, locals := 0 } : Room).slots) := by
  refine MetFree.of_bodySF (plainFor_of_name own_pn56) hisR ?_
  intro p e s m args below meth c s₁ Bd hml0 hP hK
  have H := fun i c (h : tables_1[i]? = some c) => hw c (List.mem_of_getElem? h)
  obtain ⟨rfl, hZ, hh⟩ := hP
  have hx := Bd.exec
  have hby := Bd.bytes
  have hml : c.maxLocals = 2 := hml0
  have hown : s.vm.findClass "java/lang/StringUTF16" = some m.cls := findClass_of_methodNamed Bd.named
  have hnm := (name_of_methodNamed Bd.named Bd.method).1
  have X0 : Stand p l e ({ frames := 0, cells := 0, slots := 0, locals := 0 } : Room) s m #[(.ref ab), (.int 4)] below meth c s₁ [] 0 0 := Stand.of_body Bd
  have e0 : s₁.heap = h0 := by rw [← hh, Bd.state]; rfl
  have N0 := Fr.nil n0
  have pre0 : ∀ t, Sp p e below m s₁ 0 #[vr ab, vi 4] [] t → Steps p.tables e below (s₁.setTop (entryFrame m #[(.ref ab), (.int 4)] 2)) t := fun t k => castTop (ef_12n4 m ab) k
  generalize s₁.setTop (entryFrame m #[(.ref ab), (.int 4)] 2) = G0 at pre0 ⊢
  obtain ⟨cl604, Ar604, -, S604, M604, -, -⟩ := id Vb
  obtain ⟨fs, hr, hrun, hended, hW, hsame⟩ := X0.leave (v := some (.int (nar .byte (0 : Int32)))) (fun h => by rw [Bd.returns] at h; cases h)
  refine ⟨_, _, pre0 _ ?_, hrun, hended, _, _, rfl, ?_, ⟨_, rfl⟩, hW, hsame.mono (by decide) (by decide)⟩
  · show Sp p e below m s₁ 0 #[vr ab, vi 4] [] _
    refine XS.iloadN X0.here hx rfl (hb hby d12_0) rfl ?_
    refine XS.aloadN X0.here hx rfl (hb hby d12_1) rfl rfl ?_
    refine X0.arraylength hx (by rw [e0]; exact Ar604.1) (State.isArrayOf_alike hZ.alike Ar604.2.1) (g := (mkF m 2 #[vr ab, vi 4] [(.ref ab), (.int 4)])) rfl rfl (hb hby d12_2) _ ?_
    rw [len_of S604 M604]
    show Sp p e below m s₁ 3 #[vr ab, vi 4] [(.int 4), (.int 4)] _
    refine XS.isub X0.here hx rfl (hb hby d12_3) rfl ?_
    refine XS.bipush X0.here hx rfl (hb hby d12_4) ?_
    refine XS.iushr X0.here hx rfl (hb hby d12_6) rfl ?_
    refine XS.i2b X0.here hx rfl (hb hby d12_7) rfl ?_
    exact retN X0 hx (t := .byte) Bd.returns (by simp) (hb hby d12_8) hr
  · show Q12n4 Z ab kb vs h0 n0 _ s₁.heap _
    rw [e0]
    exact ⟨rfl, N0, rfl⟩
theorem ef_4n4 (m : MethodId) (x0 : Addr) (x1 : Addr) : entryFrame m #[(.ref x0), (.ref x1), (.int 0), (.int 4), .null] 6 = mkF m 0 #[.val (.ref x0), .val (.ref x1), .val (.int 0), .val (.int 4), .val .null, .unset] [] := by first | (simp [entryFrame, mkF, argsToLocals, Value.category]; done) | rfl
def Q4n4 (Z : State) (aa : Addr) (ac : Addr) (cs : Int32) (vf : Value) (kc : ClassId) (cc0 : Int32) (cc1 : Int32) (cc2 : Int32) (cc3 : Int32) (h0 : Heap) (n0 : Nat) (v : Option Value) (h : Heap) (L : List Loc) : Prop := ∃ (rb : Addr) (rk : ClassId), v = none ∧ Fr n0 L ∧ Keep h0 h [aa] ∧ Exa Z h aa "java/lang/String" ∧ Fld Z h aa "java/lang/String" "value" "[B" (.ref rb) ∧ Fld Z h aa "java/lang/String" "coder" "B" (.int 0) ∧ Arv Z h rb rk .byte (4 : Int32) [(.int (nar .byte (cc0.toInt8.toInt32))), (.int (nar .byte (cc1.toInt8.toInt32))), (.int (nar .byte (cc2.toInt8.toInt32))), (.int (nar .byte (cc3.toInt8.toInt32)))] (.int 0) ∧ n0 ≤ rb ∧ h0.size ≤ rb
theorem rm4n4 (l : Launch) (Z : State) (a0 : Array Value) (hw : ∀ d ∈ tables_1, d.before a0 Z = true) (ws : List Jvm.Cond) (aa : Addr) (ac : Addr) (cs : Int32) (vf : Value) (kc : ClassId) (cc0 : Int32) (cc1 : Int32) (cc2 : Int32) (cc3 : Int32) (h0 : Heap) (n0 : Nat) (Z0 : n0 ≤ h0.size) (O0 : Old Z n0 h0) (Scs : Sta Z Z.heap "java/lang/String" "COMPACT_STRINGS" "Z" (.int cs)) (hcs : ¬ cs = (0 : Int32)) (Ssf : Sta Z Z.heap "jdk/internal/util/Preconditions" "SIOOBE_FORMATTER" "Ljava/util/function/BiFunction;" vf) (hvf : vf.isRef = true) (Ea : Exa Z h0 aa "java/lang/String") (Fv : Fld Z h0 aa "java/lang/String" "value" "[B" .null) (Fc : Fld Z h0 aa "java/lang/String" "coder" "B" (.int 0)) (g_aa : n0 ≤ aa) (Vc : Arv Z h0 ac kc .char (4 : Int32) [(.int cc0), (.int cc1), (.int cc2), (.int cc3)] (.int 0)) (nac : aa ≠ ac) (hp0 : 0 ≤ cc0.toInt ∧ cc0.toInt ≤ 255) (hp1 : 0 ≤ cc1.toInt ∧ cc1.toInt ≤ 255) (hp2 : 0 ≤ cc2.toInt ∧ cc2.toInt ≤ 255) (hp3 : 0 ≤ cc3.toInt ∧ cc3.toInt ≤ 255) :
    MetFree l (⟨"java/lang/String", "<init>", "([CIILjava/lang/Void;)V"⟩ : MethodName) (head1 (Jvm.Cond.code (⟨"java/lang/String", "<init>", "([CIILjava/lang/Void;)V"⟩ : MethodName) jdk_42_method_149_code 6 none :: ws) ({ frames := 2, cells := 1, slots := 4, locals := 35 } : Room)) (fun a U => a = #[(.ref aa), (.ref ac), (.int 0), (.int 4), .null] ∧ Z.Warmed39 U.vm ∧ U.heap = h0) (fun _ _ _ _ _ => True) (fun _ U o U' => ∃ v L, o = .returned v ∧ Q4n4 Z aa ac cs vf kc cc0 cc1 cc2 cc3 h0 n0 v U'.heap L ∧ FrameEnd U o U' L ({ frames := 2, cells := 1, slots := 4, locals := 35 } : Room).cells ({ frames := 2, cells := 1, slots := 4, locals := 35 } : Room).slots) := by
  refine MetFree.of_bodySF (plainFor_of_name own_pn13) hisR ?_
  intro p e s m args below meth c s₁ Bd hml0 hP hK
  have H := fun i c (h : tables_1[i]? = some c) => hw c (List.mem_of_getElem? h)
  obtain ⟨rfl, hZ, hh⟩ := hP
  have hx := Bd.exec
  have hby := Bd.bytes
  have hml : c.maxLocals = 6 := hml0
  have hown : s.vm.findClass "java/lang/String" = some m.cls := findClass_of_methodNamed Bd.named
  have hnm := (name_of_methodNamed Bd.named Bd.method).1
  have X0 : Stand p l e ({ frames := 2, cells := 1, slots := 4, locals := 35 } : Room) s m #[(.ref aa), (.ref ac), (.int 0), (.int 4), .null] below meth c s₁ [] 0 0 := Stand.of_body Bd
  have e0 : s₁.heap = h0 := by rw [← hh, Bd.state]; rfl
  have N0 := Fr.nil n0
  have pre0 : ∀ t, Sp p e below m s₁ 0 #[vr aa, vr ac, vi 0, vi 4, .val .null, .unset] [] t → Steps p.tables e below (s₁.setTop (entryFrame m #[(.ref aa), (.ref ac), (.int 0), (.int 4), .null] 6)) t := fun t k => castTop (ef_4n4 m aa ac) k
  generalize s₁.setTop (entryFrame m #[(.ref aa), (.ref ac), (.int 0), (.int 4), .null] 6) = G0 at pre0 ⊢
  obtain ⟨T631, X631, e631, st631⟩ := initO X0 hx hZ hown (H 18 _ rfl) (H 19 _ rfl) (H 20 _ rfl) e0 (g := (mkF m 1 #[vr aa, vr ac, vi 0, vi 4, .val .null, .unset] [(.ref aa)])) rfl (by rw [hml]; rfl) rfl (hb hby d4_1) (by decide) (W := 0) (Nat.le_of_eq rfl) (by decide)
  obtain ⟨T632, X632, e632, st632⟩ := getS2 X631 hx hZ hown (host := "") (Or.inl (H 60 _ rfl)) Via.refl e631 (Scs.ext O0.2) (g := (mkF m 27 #[vr aa, vr ac, vi 0, vi 4, .val .null, .unset] [])) rfl (hb hby d4_27)
  obtain ⟨_, _, ⟨T633, L633, k633, n633⟩, -, X633, ⟨Lc633, hQ633, l633, y633, z633⟩, st633⟩ := Jvm.LawKit.callS X632 hx hown (mvT hZ (H 63 _ rfl)) (mvT hZ (H 64 _ rfl)) (mvT hZ (H 65 _ rfl)) (mvT hZ (H 66 _ rfl)) (by decide) (backOf (W := 0) (rm10n4 l Z a0 hw [] ac kc cc0 cc1 cc2 cc3 h0 n0 Z0 Vc hp0 hp1 hp2 hp3) hZ (H 66 _ rfl) (H 65 _ rfl) (by decide) (by decide)) (g := (mkF m 36 #[vr aa, vr ac, vi 0, vi 4, .val .null, .unset] [(.int 4), (.int 0), (.ref ac)])) rfl (by rw [hml]; rfl) (argsL := [(.ref ac), (.int 0), (.int 4)]) (rest := []) (lenOf own_pd87 rfl) rfl (Nat.le_of_eq rfl) (hb hby d4_36) (fun _ _ => ⟨rfl, e632, (by decide : 0 + 1 ≤ _), (by decide : 0 + 4 ≤ _)⟩)
  dsimp only [Pt.U, Pt.locs, Pt.cells, Pt.slots] at X633 l633 y633 z633 st633 hQ633
  rw [l633, y633, z633] at X633
  obtain ⟨rrb_633, rrk_633, rfl, Nq633, K633, p633_0, p633_1, p633_2⟩ := hQ633
  have N633 := Fr.app N0 Nq633
  have Zs633 : n0 ≤ T633.heap.size := Nat.le_trans Z0 K633.1
  have KK633 : Keep h0 T633.heap [aa] := (Keep.refl h0 _).trans K633 all0
  have ne_aa_rrb_633 : aa ≠ rrb_633 := Nat.ne_of_lt (Nat.lt_of_lt_of_le Ea.lt p633_2)
  have ne_ac_rrb_633 : ac ≠ rrb_633 := Nat.ne_of_lt (Nat.lt_of_lt_of_le Vc.lt p633_2)
  have sz_rrb_633 : h0.size ≤ rrb_633 := p633_2
  have O633 := O0.keep K633 (all0)
  have f634 := Scs.ext O633.2
  have f635 := Ssf.ext O633.2
  have f636 := Ea.keep K633
  have f637 := Fv.keep K633 nin0
  have f638 := Fc.keep K633 nin0
  have f639 := Vc.keep K633 nin0
  have g_rrb_633 := p633_1
  obtain ⟨_, _, ⟨T640, L640, k640, n640⟩, -, X640, ⟨Lc640, hQ640, l640, y640, z640⟩, st640⟩ := Jvm.LawKit.callS X633 hx hown (mvT hZ (H 70 _ rfl)) (mvT hZ (H 71 _ rfl)) (mvT hZ (H 65 _ rfl)) (mvT hZ (H 72 _ rfl)) (by decide) (backOf (W := 1) (rm12n4 l Z a0 hw [] rrb_633 rrk_633 [(.int (nar .byte (cc0.toInt8.toInt32))), (.int (nar .byte (cc1.toInt8.toInt32))), (.int (nar .byte (cc2.toInt8.toInt32))), (.int (nar .byte (cc3.toInt8.toInt32)))] T633.heap n0 Zs633 p633_0) hZ (H 72 _ rfl) (H 65 _ rfl) (by decide) (by decide)) (g := (mkF m 45 #[vr aa, vr ac, vi 0, vi 4, .val .null, vr rrb_633] [(.int 4), (.ref rrb_633), (.ref aa)])) rfl (by rw [hml]; rfl) (argsL := [(.ref rrb_633), (.int 4)]) (rest := [(.ref aa)]) (lenOf own_pd93 rfl) rfl (Nat.le_of_eq rfl) (hb hby d4_45) (fun _ _ => ⟨rfl, rfl, (by decide : 1 + 0 ≤ _), (by decide : 4 + 0 ≤ _)⟩)
  dsimp only [Pt.U, Pt.locs, Pt.cells, Pt.slots] at X640 l640 y640 z640 st640 hQ640
  rw [l640, y640, z640] at X640
  obtain ⟨rfl, Nq640, e640⟩ := hQ640
  have N640 := Fr.app N633 Nq640
  obtain ⟨T641, h641, X641, e641, W641, st641⟩ := putFN X640 hx hZ hown (H 28 _ rfl) Via.refl e640 f638 f636 (Or.inr ⟨(H 24 _ rfl), rfl, hnm⟩) (H 8 _ rfl) (ty := .byte) (v' := (.int 0)) (by decide) rfl (fits_nar_byte (0 : Int32)) (g := (mkF m 48 #[vr aa, vr ac, vi 0, vi 4, .val .null, vr rrb_633] [(.int 0), (.ref aa)])) rfl rfl (hb hby d4_48)
  have N641 := Fr.snoc X641 N640 g_aa
  have Zs641 : n0 ≤ h641.size := Nat.le_trans Zs633 (Keep.of_wr W641).1
  have KK641 : Keep h0 h641 [aa] := KK633.wr W641 (Or.inl (List.mem_of_getElem? (i := 0) rfl))
  have O641 := O633.wr W641 g_aa
  have f642 := f634.wr W641
  have f643 := f635.wr W641
  have f644 := f636.wr W641
  have f645 := f637.other W641 (Or.inr (slot_ne (Or.inr (H 23 _ rfl)) (Or.inr (H 24 _ rfl)) (by decide) (t := (.array .byte)) (t' := .byte) (by decide) (by decide)))
  have f646 := f638.same W641
  have f647 := f639.other W641 (Ne.symm nac)
  have f648 := p633_0.other W641 (Ne.symm ne_aa_rrb_633)
  obtain ⟨T649, h649, X649, e649, W649, st649⟩ := putF X641 hx hZ hown (host := "") (Or.inl (H 27 _ rfl)) Via.refl e641 f645 f644 (Or.inr ⟨(H 23 _ rfl), rfl, hnm⟩) (H 8 _ rfl) (ty := (.array .byte)) (by decide) rfl rfl (g := (mkF m 54 #[vr aa, vr ac, vi 0, vi 4, .val .null, vr rrb_633] [(.ref rrb_633), (.ref aa)])) rfl rfl (hb hby d4_54)
  have N649 := Fr.snoc X649 N641 g_aa
  have Zs649 : n0 ≤ h649.size := Nat.le_trans Zs641 (Keep.of_wr W649).1
  have KK649 : Keep h0 h649 [aa] := KK641.wr W649 (Or.inl (List.mem_of_getElem? (i := 0) rfl))
  have O649 := O641.wr W649 g_aa
  have f650 := f642.wr W649
  have f651 := f643.wr W649
  have f652 := f644.wr W649
  have f653 := f645.same W649
  have f654 := f646.other W649 (Or.inr (slot_ne (Or.inr (H 24 _ rfl)) (Or.inr (H 23 _ rfl)) (by decide) (t := .byte) (t' := (.array .byte)) (by decide) (by decide)))
  have f655 := f647.other W649 (Ne.symm nac)
  have f656 := f648.other W649 (Ne.symm ne_aa_rrb_633)
  obtain ⟨fs, hr, hrun, hended, hW, hsame⟩ := X649.leave (v := none) (fun _ => rfl)
  refine ⟨_, _, pre0 _ ?_, hrun, hended, _, _, rfl, ?_, ⟨_, rfl⟩, hW, hsame.mono (by decide) (by decide)⟩
  · show Sp p e below m s₁ 0 #[vr aa, vr ac, vi 0, vi 4, .val .null, .unset] [] _
    refine XS.aloadN X0.here hx rfl (hb hby d4_0) rfl rfl ?_
    refine st631 _ ?_
    show Sp p e below m T631 4 #[vr aa, vr ac, vi 0, vi 4, .val .null, .unset] [] _
    refine XS.iloadN X631.here hx rfl (hb hby d4_4) rfl ?_
    refine XS.ifYes X631.here hx rfl (pc0 := 5) (pc' := 27) rfl (hb hby d4_5) rfl ((if0 _ _).trans (feq (by decide : ¬ ((4 : Int32) = (0 : Int32)))).2) (by decide) (by decide) ?_
    refine st632 _ ?_
    show Sp p e below m T632 30 #[vr aa, vr ac, vi 0, vi 4, .val .null, .unset] [(.int cs)] _
    refine XS.ifNo X632.here hx rfl (hb hby d4_30) rfl ((if0 _ _).trans (feq (hcs : ¬ (cs = (0 : Int32)))).1) ?_
    refine XS.aloadN X632.here hx rfl (hb hby d4_33) rfl rfl ?_
    refine XS.iloadN X632.here hx rfl (hb hby d4_34) rfl ?_
    refine XS.iloadN X632.here hx rfl (hb hby d4_35) rfl ?_
    refine st633 _ ?_
    show Sp p e below m T633 39 #[vr aa, vr ac, vi 0, vi 4, .val .null, .unset] [(.ref rrb_633)] _
    refine XS.astore X633.here hx rfl (hb hby d4_39) rfl rfl (l' := #[vr aa, vr ac, vi 0, vi 4, .val .null, vr rrb_633]) rfl ?_
    refine XS.aloadN X633.here hx rfl (hb hby d4_41) rfl rfl ?_
    refine XS.aload X633.here hx rfl (hb hby d4_42) rfl rfl ?_
    refine XS.iloadN X633.here hx rfl (hb hby d4_44) rfl ?_
    refine st640 _ ?_
    show Sp p e below m T640 48 #[vr aa, vr ac, vi 0, vi 4, .val .null, vr rrb_633] [(.int 0), (.ref aa)] _
    refine st641 _ ?_
    show Sp p e below m T641 51 #[vr aa, vr ac, vi 0, vi 4, .val .null, vr rrb_633] [] _
    refine XS.aloadN X641.here hx rfl (hb hby d4_51) rfl rfl ?_
    refine XS.aload X641.here hx rfl (hb hby d4_52) rfl rfl ?_
    refine st649 _ ?_
    show Sp p e below m T649 57 #[vr aa, vr ac, vi 0, vi 4, .val .null, vr rrb_633] [] _
    exact X649.returnOut hx Bd.returns (hb hby d4_57) hr
  · show Q4n4 Z aa ac cs vf kc cc0 cc1 cc2 cc3 h0 n0 _ T649.heap _
    rw [e649]
    exact ⟨rrb_633, rrk_633, rfl, N649, KK649, f652, f653, f654, f656, g_rrb_633, sz_rrb_633⟩
theorem ef_3n4 (m : MethodId) (x0 : Addr) (x1 : Addr) : entryFrame m #[(.ref x0), (.ref x1)] 2 = mkF m 0 #[.val (.ref x0), .val (.ref x1)] [] := by first | (simp [entryFrame, mkF, argsToLocals, Value.category]; done) | rfl
def Q3n4 (Z : State) (aa : Addr) (ac : Addr) (cs : Int32) (vf : Value) (kc : ClassId) (cc0 : Int32) (cc1 : Int32) (cc2 : Int32) (cc3 : Int32) (h0 : Heap) (n0 : Nat) (v : Option Value) (h : Heap) (L : List Loc) : Prop := ∃ (rb : Addr) (rk : ClassId), v = none ∧ Fr n0 L ∧ Keep h0 h [aa] ∧ Exa Z h aa "java/lang/String" ∧ Fld Z h aa "java/lang/String" "value" "[B" (.ref rb) ∧ Fld Z h aa "java/lang/String" "coder" "B" (.int 0) ∧ Arv Z h rb rk .byte (4 : Int32) [(.int (nar .byte (cc0.toInt8.toInt32))), (.int (nar .byte (cc1.toInt8.toInt32))), (.int (nar .byte (cc2.toInt8.toInt32))), (.int (nar .byte (cc3.toInt8.toInt32)))] (.int 0) ∧ n0 ≤ rb ∧ h0.size ≤ rb
theorem rm3n4 (l : Launch) (Z : State) (a0 : Array Value) (hw : ∀ d ∈ tables_1, d.before a0 Z = true) (ws : List Jvm.Cond) (aa : Addr) (ac : Addr) (cs : Int32) (vf : Value) (kc : ClassId) (cc0 : Int32) (cc1 : Int32) (cc2 : Int32) (cc3 : Int32) (h0 : Heap) (n0 : Nat) (Z0 : n0 ≤ h0.size) (O0 : Old Z n0 h0) (Scs : Sta Z Z.heap "java/lang/String" "COMPACT_STRINGS" "Z" (.int cs)) (hcs : ¬ cs = (0 : Int32)) (Ssf : Sta Z Z.heap "jdk/internal/util/Preconditions" "SIOOBE_FORMATTER" "Ljava/util/function/BiFunction;" vf) (hvf : vf.isRef = true) (Ea : Exa Z h0 aa "java/lang/String") (Fv : Fld Z h0 aa "java/lang/String" "value" "[B" .null) (Fc : Fld Z h0 aa "java/lang/String" "coder" "B" (.int 0)) (g_aa : n0 ≤ aa) (Vc : Arv Z h0 ac kc .char (4 : Int32) [(.int cc0), (.int cc1), (.int cc2), (.int cc3)] (.int 0)) (nac : aa ≠ ac) (hp0 : 0 ≤ cc0.toInt ∧ cc0.toInt ≤ 255) (hp1 : 0 ≤ cc1.toInt ∧ cc1.toInt ≤ 255) (hp2 : 0 ≤ cc2.toInt ∧ cc2.toInt ≤ 255) (hp3 : 0 ≤ cc3.toInt ∧ cc3.toInt ≤ 255) :
    MetFree l (⟨"java/lang/String", "<init>", "([C)V"⟩ : MethodName) (head1 (Jvm.Cond.code (⟨"java/lang/String", "<init>", "([C)V"⟩ : MethodName) jdk_42_method_3_code 2 none :: ws) ({ frames := 3, cells := 1, slots := 4, locals := 52 } : Room)) (fun a U => a = #[(.ref aa), (.ref ac)] ∧ Z.Warmed39 U.vm ∧ U.heap = h0) (fun _ _ _ _ _ => True) (fun _ U o U' => ∃ v L, o = .returned v ∧ Q3n4 Z aa ac cs vf kc cc0 cc1 cc2 cc3 h0 n0 v U'.heap L ∧ FrameEnd U o U' L ({ frames := 3, cells := 1, slots := 4, locals := 52 } : Room).cells ({ frames := 3, cells := 1, slots := 4, locals := 52 } : Room).slots) := by
  refine MetFree.of_bodySF (plainFor_of_name own_pn13) hisR ?_
  intro p e s m args below meth c s₁ Bd hml0 hP hK
  have H := fun i c (h : tables_1[i]? = some c) => hw c (List.mem_of_getElem? h)
  obtain ⟨rfl, hZ, hh⟩ := hP
  have hx := Bd.exec
  have hby := Bd.bytes
  have hml : c.maxLocals = 2 := hml0
  have hown : s.vm.findClass "java/lang/String" = some m.cls := findClass_of_methodNamed Bd.named
  have hnm := (name_of_methodNamed Bd.named Bd.method).1
  have X0 : Stand p l e ({ frames := 3, cells := 1, slots := 4, locals := 52 } : Room) s m #[(.ref aa), (.ref ac)] below meth c s₁ [] 0 0 := Stand.of_body Bd
  have e0 : s₁.heap = h0 := by rw [← hh, Bd.state]; rfl
  have N0 := Fr.nil n0
  have pre0 : ∀ t, Sp p e below m s₁ 0 #[vr aa, vr ac] [] t → Steps p.tables e below (s₁.setTop (entryFrame m #[(.ref aa), (.ref ac)] 2)) t := fun t k => castTop (ef_3n4 m aa ac) k
  generalize s₁.setTop (entryFrame m #[(.ref aa), (.ref ac)] 2) = G0 at pre0 ⊢
  obtain ⟨cl663, Ar663, -, S663, M663, -, -⟩ := id Vc
  obtain ⟨_, _, ⟨T664, L664, k664, n664⟩, -, X664, ⟨Lc664, hQ664, l664, y664, z664⟩, st664⟩ := X0.specialBack hx (y := (⟨"java/lang/String", "<init>", "([CIILjava/lang/Void;)V"⟩ : MethodName)) rfl hown (mvT hZ (H 14 _ rfl)) (mvT hZ (H 15 _ rfl)) (mvT hZ (H 17 _ rfl)) (by decide) (backOf (W := 0) (rm4n4 l Z a0 hw [] aa ac cs vf kc cc0 cc1 cc2 cc3 h0 n0 Z0 O0 Scs hcs Ssf hvf Ea Fv Fc g_aa Vc nac hp0 hp1 hp2 hp3) hZ (H 17 _ rfl) (H 9 _ rfl) (by decide) (by decide)) (g := (mkF m 6 #[vr aa, vr ac] [.null, (.int 4), (.int 0), (.ref ac), (.ref aa)])) rfl (by rw [hml]; rfl) (Steps.refl _) (a := aa) (argsL := [(.ref ac), (.int 0), (.int 4), .null]) (rest := []) (lenOf own_pd21 rfl) rfl (Nat.le_of_eq rfl) (hb hby d3_6) (fun _ _ => ⟨rfl, e0, (by decide : 0 + 1 ≤ _), (by decide : 0 + 4 ≤ _)⟩)
  dsimp only [Pt.U, Pt.locs, Pt.cells, Pt.slots] at X664 l664 y664 z664 st664 hQ664
  rw [l664, y664, z664] at X664
  obtain ⟨rrb_664, rrk_664, rfl, Nq664, K664, p664_0, p664_1, p664_2, p664_3, p664_4, p664_5⟩ := hQ664
  have N664 := Fr.app N0 Nq664
  have Zs664 : n0 ≤ T664.heap.size := Nat.le_trans Z0 K664.1
  have KK664 : Keep h0 T664.heap [aa] := (Keep.refl h0 _).trans K664 (allS (Or.inl (List.mem_of_getElem? (i := 0) rfl)) all0)
  have ne_aa_rrb_664 : aa ≠ rrb_664 := Nat.ne_of_lt (Nat.lt_of_lt_of_le Ea.lt p664_5)
  have ne_ac_rrb_664 : ac ≠ rrb_664 := Nat.ne_of_lt (Nat.lt_of_lt_of_le Vc.lt p664_5)
  have sz_rrb_664 : h0.size ≤ rrb_664 := p664_5
  have O664 := O0.keep K664 (allS g_aa all0)
  have f665 := Scs.ext O664.2
  have f666 := Ssf.ext O664.2
  have f667 := Ea.keep K664
  have f668 := Vc.keep K664 (ninS (Ne.symm nac) nin0)
  have g_rrb_664 := p664_4
  obtain ⟨fs, hr, hrun, hended, hW, hsame⟩ := X664.leave (v := none) (fun _ => rfl)
  refine ⟨_, _, pre0 _ ?_, hrun, hended, _, _, rfl, ?_, ⟨_, rfl⟩, hW, hsame.mono (by decide) (by decide)⟩
  · show Sp p e below m s₁ 0 #[vr aa, vr ac] [] _
    refine XS.aloadN X0.here hx rfl (hb hby d3_0) rfl rfl ?_
    refine XS.aloadN X0.here hx rfl (hb hby d3_1) rfl rfl ?_
    refine XS.iconst X0.here hx rfl (hb hby d3_2) ?_
    refine XS.aloadN X0.here hx rfl (hb hby d3_3) rfl rfl ?_
    refine X0.arraylength hx (by rw [e0]; exact Ar663.1) (State.isArrayOf_alike hZ.alike Ar663.2.1) (g := (mkF m 4 #[vr aa, vr ac] [(.ref ac), (.int 0), (.ref ac), (.ref aa)])) rfl rfl (hb hby d3_4) _ ?_
    rw [len_of S663 M663]
    show Sp p e below m s₁ 5 #[vr aa, vr ac] [(.int 4), (.int 0), (.ref ac), (.ref aa)] _
    refine XS.aconstNull X0.here hx rfl (hb hby d3_5) ?_
    refine st664.trans ?_
    show Sp p e below m T664 9 #[vr aa, vr ac] [] _
    exact X664.returnOut hx Bd.returns (hb hby d3_9) hr
  · show Q3n4 Z aa ac cs vf kc cc0 cc1 cc2 cc3 h0 n0 _ T664.heap _
    exact ⟨rrb_664, rrk_664, rfl, N664, KK664, p664_0, p664_1, p664_2, p664_3, g_rrb_664, sz_rrb_664⟩
theorem d2_87 : decode method_6_code 87 = .ok (.new 41, 3) := by decide +kernel
theorem d2_90 : decode method_6_code 90 = .ok (.dup, 1) := by decide +kernel
theorem d2_91 : decode method_6_code 91 = .ok (.iconst 4, 1) := by decide +kernel
theorem d2_92 : decode method_6_code 92 = .ok (.newarray .char, 2) := by decide +kernel
theorem d2_94 : decode method_6_code 94 = .ok (.dup, 1) := by decide +kernel
theorem d2_95 : decode method_6_code 95 = .ok (.iconst 0, 1) := by decide +kernel
theorem d2_96 : decode method_6_code 96 = .ok (.iload_n 1, 1) := by decide +kernel
theorem d2_97 : decode method_6_code 97 = .ok (.castore, 1) := by decide +kernel
theorem d2_98 : decode method_6_code 98 = .ok (.dup, 1) := by decide +kernel
theorem d2_99 : decode method_6_code 99 = .ok (.iconst 1, 1) := by decide +kernel
theorem d2_100 : decode method_6_code 100 = .ok (.iload_n 2, 1) := by decide +kernel
theorem d2_101 : decode method_6_code 101 = .ok (.castore, 1) := by decide +kernel
theorem d2_102 : decode method_6_code 102 = .ok (.dup, 1) := by decide +kernel
theorem d2_103 : decode method_6_code 103 = .ok (.iconst 2, 1) := by decide +kernel
theorem d2_104 : decode method_6_code 104 = .ok (.iload_n 3, 1) := by decide +kernel
theorem d2_105 : decode method_6_code 105 = .ok (.castore, 1) := by decide +kernel
theorem d2_106 : decode method_6_code 106 = .ok (.dup, 1) := by decide +kernel
theorem d2_107 : decode method_6_code 107 = .ok (.iconst 3, 1) := by decide +kernel
theorem d2_108 : decode method_6_code 108 = .ok (.iload 4, 2) := by decide +kernel
theorem d2_110 : decode method_6_code 110 = .ok (.castore, 1) := by decide +kernel
theorem d2_111 : decode method_6_code 111 = .ok (.invokespecial 43, 3) := by decide +kernel
theorem d2_114 : decode method_6_code 114 = .ok (.areturn, 1) := by decide +kernel
theorem ef_2n4 (m : MethodId) (x1 : Int32) (x2 : Int32) (x3 : Int32) (x4 : Int32) : entryFrame m #[(.int 4), (.int x1), (.int x2), (.int x3), (.int x4)] 5 = mkF m 0 #[.val (.int 4), .val (.int x1), .val (.int x2), .val (.int x3), .val (.int x4)] [] := by first | (simp [entryFrame, mkF, argsToLocals, Value.category]; done) | rfl
def Q2n4 (Z : State) (pa0 : Int32) (pa1 : Int32) (pa2 : Int32) (pa3 : Int32) (cs : Int32) (vf : Value) (h0 : Heap) (n0 : Nat) (v : Option Value) (h : Heap) (L : List Loc) : Prop := ∃ (so : Addr) (rb : Addr) (rk : ClassId), v = some (.ref so) ∧ Fr n0 L ∧ Keep h0 h [] ∧ Exa Z h so "java/lang/String" ∧ Fld Z h so "java/lang/String" "value" "[B" (.ref rb) ∧ Fld Z h so "java/lang/String" "coder" "B" (.int 0) ∧ Arv Z h rb rk .byte (4 : Int32) [(.int (own_b pa0)), (.int (own_b pa1)), (.int (own_b pa2)), (.int (own_b pa3))] (.int 0)
theorem rm2n4 (l : Launch) (Z : State) (a0 : Array Value) (hw : ∀ d ∈ tables_1, d.before a0 Z = true) (ws : List Jvm.Cond) (pa0 : Int32) (pa1 : Int32) (pa2 : Int32) (pa3 : Int32) (cs : Int32) (vf : Value) (h0 : Heap) (n0 : Nat) (Z0 : n0 ≤ h0.size) (O0 : Old Z n0 h0) (Scs : Sta Z Z.heap "java/lang/String" "COMPACT_STRINGS" "Z" (.int cs)) (hcs : ¬ cs = (0 : Int32)) (Ssf : Sta Z Z.heap "jdk/internal/util/Preconditions" "SIOOBE_FORMATTER" "Ljava/util/function/BiFunction;" vf) (hvf : vf.isRef = true) (Hc : Jvm.Lit.constHeld Z "java/lang/String" 7) (Hcw : Jvm.Lit.compactW.before a0 Z = true) (hp0 : 0 ≤ pa0.toInt ∧ pa0.toInt ≤ 255) (hp1 : 0 ≤ pa1.toInt ∧ pa1.toInt ≤ 255) (hp2 : 0 ≤ pa2.toInt ∧ pa2.toInt ≤ 255) (hp3 : 0 ≤ pa3.toInt ∧ pa3.toInt ≤ 255) :
    MetFree l (⟨"com/example/onus_on_beans/onusonbeans/validators/CheckDigitRangeWholeTextPinLaw", "text", "(ICCCC)Ljava/lang/String;"⟩ : MethodName) (head1 (Jvm.Cond.code (⟨"com/example/onus_on_beans/onusonbeans/validators/CheckDigitRangeWholeTextPinLaw", "text", "(ICCCC)Ljava/lang/String;"⟩ : MethodName) method_6_code 5 (some (.object "java/lang/String")) :: ws) ({ frames := 4, cells := 3, slots := 12, locals := 66 } : Room)) (fun a U => a = #[(.int 4), (.int pa0), (.int pa1), (.int pa2), (.int pa3)] ∧ Z.Warmed39 U.vm ∧ U.heap = h0) (fun _ _ _ _ _ => True) (fun _ U o U' => ∃ v L, o = .returned v ∧ Q2n4 Z pa0 pa1 pa2 pa3 cs vf h0 n0 v U'.heap L ∧ FrameEnd U o U' L ({ frames := 4, cells := 3, slots := 12, locals := 66 } : Room).cells ({ frames := 4, cells := 3, slots := 12, locals := 66 } : Room).slots) := by
  refine MetFree.of_bodySF (plainFor_of_name own_pn32) hisR ?_
  intro p e s m args below meth c s₁ Bd hml0 hP hK
  have H := fun i c (h : tables_1[i]? = some c) => hw c (List.mem_of_getElem? h)
  obtain ⟨rfl, hZ, hh⟩ := hP
  have hx := Bd.exec
  have hby := Bd.bytes
  have hml : c.maxLocals = 5 := hml0
  have hown : s.vm.findClass "com/example/onus_on_beans/onusonbeans/validators/CheckDigitRangeWholeTextPinLaw" = some m.cls := findClass_of_methodNamed Bd.named
  have hnm := (name_of_methodNamed Bd.named Bd.method).1
  have X0 : Stand p l e ({ frames := 4, cells := 3, slots := 12, locals := 66 } : Room) s m #[(.int 4), (.int pa0), (.int pa1), (.int pa2), (.int pa3)] below meth c s₁ [] 0 0 := Stand.of_body Bd
  have e0 : s₁.heap = h0 := by rw [← hh, Bd.state]; rfl
  have N0 := Fr.nil n0
  have pre0 : ∀ t, Sp p e below m s₁ 0 #[vi 4, vi pa0, vi pa1, vi pa2, vi pa3] [] t → Steps p.tables e below (s₁.setTop (entryFrame m #[(.int 4), (.int pa0), (.int pa1), (.int pa2), (.int pa3)] 5)) t := fun t k => castTop (ef_2n4 m pa0 pa1 pa2 pa3) k
  generalize s₁.setTop (entryFrame m #[(.int 4), (.int pa0), (.int pa1), (.int pa2), (.int pa3)] 5) = G0 at pre0 ⊢
  obtain ⟨T713, h713, X713, e713, E713, A713, D713, -, st713⟩ := newO X0 hx hZ hown (H 7 _ rfl) (H 8 _ rfl) (H 9 _ rfl) e0 (g := (mkF m 87 #[vi 4, vi pa0, vi pa1, vi pa2, vi pa3] [])) rfl (hb hby d2_87) (by decide) (by decide)
  obtain ⟨b713, g713⟩ : ∃ z, z = h0.size := ⟨_, rfl⟩
  rw [← g713] at A713 D713 st713
  have g_b713 : n0 ≤ b713 := Nat.le_trans Z0 (Nat.le_of_eq g713.symm)
  have sz_b713 : h0.size ≤ b713 := Nat.le_of_eq g713.symm
  have Zs713 : n0 ≤ h713.size := Nat.le_trans Z0 E713.1
  have KK713 : Keep h0 h713 [] := (Keep.refl h0 _).ext E713
  have O713 := O0.ext E713
  have f714 := (Scs.ext O0.2).ext E713
  have f715 := (Ssf.ext O0.2).ext E713
  have f716 : Fld Z h713 b713 "java/lang/String" "value" "[B" .null := D713 (Or.inr (H 23 _ rfl)) (ty := (.array .byte)) (by decide)
  have f717 : Fld Z h713 b713 "java/lang/String" "coder" "B" (.int 0) := D713 (Or.inr (H 24 _ rfl)) (ty := .byte) (by decide)
  obtain ⟨T718, h718, k718, X718, e718, E718, A718, st718⟩ := newP X713 hx hZ (H 10 _ rfl) e713 (g := (mkF m 92 #[vi 4, vi pa0, vi pa1, vi pa2, vi pa3] [(.int 4), (.ref b713), (.ref b713)])) rfl (hb hby d2_92) rfl (by decide) (cap := 4) (by decide) (by decide) (by decide) (by decide)
  obtain ⟨b718, g718⟩ : ∃ z, z = h713.size := ⟨_, rfl⟩
  rw [← g718] at A718 st718
  have g_b718 : n0 ≤ b718 := Nat.le_trans Zs713 (Nat.le_of_eq g718.symm)
  have sz_b718 : h0.size ≤ b718 := Nat.le_trans KK713.1 (Nat.le_of_eq g718.symm)
  have lt_b713_b718 : b713 < b718 := Nat.lt_of_lt_of_le A713.lt (Nat.le_of_eq g718.symm)
  have ne_b713_b718 : b713 ≠ b718 := Nat.ne_of_lt lt_b713_b718
  have Zs718 : n0 ≤ h718.size := Nat.le_trans Zs713 E718.1
  have KK718 : Keep h0 h718 [] := KK713.ext E718
  have O718 := O713.ext E718
  have f719 := f714.ext E718
  have f720 := f715.ext E718
  have f721 := A713.ext E718
  have f722 := f716.ext E718
  have f723 := f717.ext E718
  have V718 : Arv Z h718 b718 k718 .char (4 : Int32) [(.int 0), (.int 0), (.int 0), (.int 0)] (.int 0) := (Arv.new A718 (by decide)).pad (pad_rep [] (.int 0) 4)
  obtain ⟨cl724, Ar724, q724, S724, N724, H724, G724⟩ := id V718
  have hin724 : ¬ ((0 : Int32) < 0 ∨ cl724.slots.size ≤ ((0 : Int32)).toNatClampNeg) := inb_of S724 ⟨by decide, by decide⟩
  obtain ⟨T725, h725, X725, e725, W725, st725⟩ := stC X718 hx hZ e718 Ar724 (j := (0 : Int32)) hin724 (g := (mkF m 97 #[vi 4, vi pa0, vi pa1, vi pa2, vi pa3] [(.int pa0), (.int 0), (.ref b718), (.ref b718), (.ref b713), (.ref b713)])) rfl rfl (hb hby d2_97)
  have V725 : Arv Z h725 b718 k718 .char (4 : Int32) [(.int (nar .char pa0)), (.int 0), (.int 0), (.int 0)] (.int 0) := Arv.set Ar724 q724 S724 N724 H724 G724 (fits_nar_char pa0) W725 0 rfl (Nat.le_of_ble_eq_true rfl)
  have N725 := Fr.snoc X725 N0 g_b718
  have Zs725 : n0 ≤ h725.size := Nat.le_trans Zs718 (Keep.of_wr W725).1
  have KK725 : Keep h0 h725 [] := KK718.wr W725 (Or.inr sz_b718)
  have O725 := O718.wr W725 g_b718
  have f726 := f719.wr W725
  have f727 := f720.wr W725
  have f728 := f721.wr W725
  have f729 := f722.other W725 (Or.inl ne_b713_b718)
  have f730 := f723.other W725 (Or.inl ne_b713_b718)
  obtain ⟨cl731, Ar731, q731, S731, N731, H731, G731⟩ := id V725
  have hin731 : ¬ ((1 : Int32) < 0 ∨ cl731.slots.size ≤ ((1 : Int32)).toNatClampNeg) := inb_of S731 ⟨by decide, by decide⟩
  obtain ⟨T732, h732, X732, e732, W732, st732⟩ := stC X725 hx hZ e725 Ar731 (j := (1 : Int32)) hin731 (g := (mkF m 101 #[vi 4, vi pa0, vi pa1, vi pa2, vi pa3] [(.int pa1), (.int 1), (.ref b718), (.ref b718), (.ref b713), (.ref b713)])) rfl rfl (hb hby d2_101)
  have V732 : Arv Z h732 b718 k718 .char (4 : Int32) [(.int (nar .char pa0)), (.int (nar .char pa1)), (.int 0), (.int 0)] (.int 0) := Arv.set Ar731 q731 S731 N731 H731 G731 (fits_nar_char pa1) W732 1 rfl (Nat.le_of_ble_eq_true rfl)
  have N732 := Fr.snoc X732 N725 g_b718
  have Zs732 : n0 ≤ h732.size := Nat.le_trans Zs725 (Keep.of_wr W732).1
  have KK732 : Keep h0 h732 [] := KK725.wr W732 (Or.inr sz_b718)
  have O732 := O725.wr W732 g_b718
  have f733 := f726.wr W732
  have f734 := f727.wr W732
  have f735 := f728.wr W732
  have f736 := f729.other W732 (Or.inl ne_b713_b718)
  have f737 := f730.other W732 (Or.inl ne_b713_b718)
  obtain ⟨cl738, Ar738, q738, S738, N738, H738, G738⟩ := id V732
  have hin738 : ¬ ((2 : Int32) < 0 ∨ cl738.slots.size ≤ ((2 : Int32)).toNatClampNeg) := inb_of S738 ⟨by decide, by decide⟩
  obtain ⟨T739, h739, X739, e739, W739, st739⟩ := stC X732 hx hZ e732 Ar738 (j := (2 : Int32)) hin738 (g := (mkF m 105 #[vi 4, vi pa0, vi pa1, vi pa2, vi pa3] [(.int pa2), (.int 2), (.ref b718), (.ref b718), (.ref b713), (.ref b713)])) rfl rfl (hb hby d2_105)
  have V739 : Arv Z h739 b718 k718 .char (4 : Int32) [(.int (nar .char pa0)), (.int (nar .char pa1)), (.int (nar .char pa2)), (.int 0)] (.int 0) := Arv.set Ar738 q738 S738 N738 H738 G738 (fits_nar_char pa2) W739 2 rfl (Nat.le_of_ble_eq_true rfl)
  have N739 := Fr.snoc X739 N732 g_b718
  have Zs739 : n0 ≤ h739.size := Nat.le_trans Zs732 (Keep.of_wr W739).1
  have KK739 : Keep h0 h739 [] := KK732.wr W739 (Or.inr sz_b718)
  have O739 := O732.wr W739 g_b718
  have f740 := f733.wr W739
  have f741 := f734.wr W739
  have f742 := f735.wr W739
  have f743 := f736.other W739 (Or.inl ne_b713_b718)
  have f744 := f737.other W739 (Or.inl ne_b713_b718)
  obtain ⟨cl745, Ar745, q745, S745, N745, H745, G745⟩ := id V739
  have hin745 : ¬ ((3 : Int32) < 0 ∨ cl745.slots.size ≤ ((3 : Int32)).toNatClampNeg) := inb_of S745 ⟨by decide, by decide⟩
  obtain ⟨T746, h746, X746, e746, W746, st746⟩ := stC X739 hx hZ e739 Ar745 (j := (3 : Int32)) hin745 (g := (mkF m 110 #[vi 4, vi pa0, vi pa1, vi pa2, vi pa3] [(.int pa3), (.int 3), (.ref b718), (.ref b718), (.ref b713), (.ref b713)])) rfl rfl (hb hby d2_110)
  have V746 : Arv Z h746 b718 k718 .char (4 : Int32) [(.int (nar .char pa0)), (.int (nar .char pa1)), (.int (nar .char pa2)), (.int (nar .char pa3))] (.int 0) := Arv.set Ar745 q745 S745 N745 H745 G745 (fits_nar_char pa3) W746 3 rfl (Nat.le_of_ble_eq_true rfl)
  have N746 := Fr.snoc X746 N739 g_b718
  have Zs746 : n0 ≤ h746.size := Nat.le_trans Zs739 (Keep.of_wr W746).1
  have KK746 : Keep h0 h746 [] := KK739.wr W746 (Or.inr sz_b718)
  have O746 := O739.wr W746 g_b718
  have f747 := f740.wr W746
  have f748 := f741.wr W746
  have f749 := f742.wr W746
  have f750 := f743.other W746 (Or.inl ne_b713_b718)
  have f751 := f744.other W746 (Or.inl ne_b713_b718)
  obtain ⟨_, _, ⟨T752, L752, k752, n752⟩, -, X752, ⟨Lc752, hQ752, l752, y752, z752⟩, st752⟩ := X746.specialBack hx (y := (⟨"java/lang/String", "<init>", "([C)V"⟩ : MethodName)) rfl hown (mvT hZ (H 11 _ rfl)) (mvT hZ (H 12 _ rfl)) (mvT hZ (H 13 _ rfl)) (by decide) (backOf (W := 1) (rm3n4 l Z a0 hw [] b713 b718 cs vf k718 (nar .char pa0) (nar .char pa1) (nar .char pa2) (nar .char pa3) h746 n0 Zs746 O746 Scs hcs Ssf hvf f749 f750 f751 g_b713 V746 ne_b713_b718 (own_ncb hp0) (own_ncb hp1) (own_ncb hp2) (own_ncb hp3)) hZ (H 13 _ rfl) (H 9 _ rfl) (by decide) (by decide)) (g := (mkF m 111 #[vi 4, vi pa0, vi pa1, vi pa2, vi pa3] [(.ref b718), (.ref b713), (.ref b713)])) rfl (by rw [hml]; rfl) (Steps.refl _) (a := b713) (argsL := [(.ref b718)]) (rest := [(.ref b713)]) (lenOf own_pd30 rfl) rfl (Nat.le_of_eq rfl) (hb hby d2_111) (fun _ _ => ⟨rfl, e746, (by decide : 2 + 1 ≤ _), (by decide : 8 + 4 ≤ _)⟩)
  dsimp only [Pt.U, Pt.locs, Pt.cells, Pt.slots] at X752 l752 y752 z752 st752 hQ752
  rw [l752, y752, z752] at X752
  obtain ⟨rrb_752, rrk_752, rfl, Nq752, K752, p752_0, p752_1, p752_2, p752_3, p752_4, p752_5⟩ := hQ752
  have N752 := Fr.app N746 Nq752
  have Zs752 : n0 ≤ T752.heap.size := Nat.le_trans Zs746 K752.1
  have KK752 : Keep h0 T752.heap [] := KK746.trans K752 (allS (Or.inr sz_b713) all0)
  have ne_b713_rrb_752 : b713 ≠ rrb_752 := Nat.ne_of_lt (Nat.lt_of_lt_of_le f749.lt p752_5)
  have ne_b718_rrb_752 : b718 ≠ rrb_752 := Nat.ne_of_lt (Nat.lt_of_lt_of_le V746.lt p752_5)
  have sz_rrb_752 : h0.size ≤ rrb_752 := Nat.le_trans KK746.1 p752_5
  have O752 := O746.keep K752 (allS g_b713 all0)
  have f753 := Scs.ext O752.2
  have f754 := Ssf.ext O752.2
  have f755 := f749.keep K752
  have f756 := V746.keep K752 (ninS (Ne.symm ne_b713_b718) nin0)
  have g_rrb_752 := p752_4
  obtain ⟨fs, hr, hrun, hended, hW, hsame⟩ := X752.leave (v := some (.ref b713)) (fun h => by rw [Bd.returns] at h; cases h)
  refine ⟨_, _, pre0 _ ?_, hrun, hended, _, _, rfl, ?_, ⟨_, rfl⟩, hW, hsame.mono (by decide) (by decide)⟩
  · show Sp p e below m s₁ 0 #[vi 4, vi pa0, vi pa1, vi pa2, vi pa3] [] _
    refine XS.iloadN X0.here hx rfl (hb hby d2_0) rfl ?_
    refine XS.ifYes X0.here hx rfl (pc0 := 1) (pc' := 15) rfl (hb hby d2_1) rfl ((if0 _ _).trans (feq (by decide : ¬ ((4 : Int32) = (0 : Int32)))).2) (by decide) (by decide) ?_
    refine XS.iloadN X0.here hx rfl (hb hby d2_15) rfl ?_
    refine XS.iconst X0.here hx rfl (hb hby d2_16) ?_
    refine XS.icmpYes X0.here hx rfl (pc0 := 17) (pc' := 35) rfl (hb hby d2_17) rfl (feq (by decide : ¬ ((4 : Int32) = (1 : Int32)))).2 (by decide) (by decide) ?_
    refine XS.iloadN X0.here hx rfl (hb hby d2_35) rfl ?_
    refine XS.iconst X0.here hx rfl (hb hby d2_36) ?_
    refine XS.icmpYes X0.here hx rfl (pc0 := 37) (pc' := 59) rfl (hb hby d2_37) rfl (feq (by decide : ¬ ((4 : Int32) = (2 : Int32)))).2 (by decide) (by decide) ?_
    show Sp p e below m s₁ 59 #[vi 4, vi pa0, vi pa1, vi pa2, vi pa3] [] _
    refine XS.iloadN X0.here hx rfl (hb hby d2_59) rfl ?_
    refine XS.iconst X0.here hx rfl (hb hby d2_60) ?_
    refine XS.icmpYes X0.here hx rfl (pc0 := 61) (pc' := 87) rfl (hb hby d2_61) rfl (feq (by decide : ¬ ((4 : Int32) = (3 : Int32)))).2 (by decide) (by decide) ?_
    refine st713 _ ?_
    show Sp p e below m T713 90 #[vi 4, vi pa0, vi pa1, vi pa2, vi pa3] [(.ref b713)] _
    refine XS.dup X713.here hx rfl (hb hby d2_90) rfl rfl ?_
    refine XS.iconst X713.here hx rfl (hb hby d2_91) ?_
    refine st718 _ ?_
    show Sp p e below m T718 94 #[vi 4, vi pa0, vi pa1, vi pa2, vi pa3] [(.ref b718), (.ref b713), (.ref b713)] _
    refine XS.dup X718.here hx rfl (hb hby d2_94) rfl rfl ?_
    refine XS.iconst X718.here hx rfl (hb hby d2_95) ?_
    refine XS.iloadN X718.here hx rfl (hb hby d2_96) rfl ?_
    refine st725 _ ?_
    show Sp p e below m T725 98 #[vi 4, vi pa0, vi pa1, vi pa2, vi pa3] [(.ref b718), (.ref b713), (.ref b713)] _
    refine XS.dup X725.here hx rfl (hb hby d2_98) rfl rfl ?_
    refine XS.iconst X725.here hx rfl (hb hby d2_99) ?_
    refine XS.iloadN X725.here hx rfl (hb hby d2_100) rfl ?_
    refine st732 _ ?_
    show Sp p e below m T732 102 #[vi 4, vi pa0, vi pa1, vi pa2, vi pa3] [(.ref b718), (.ref b713), (.ref b713)] _
    refine XS.dup X732.here hx rfl (hb hby d2_102) rfl rfl ?_
    refine XS.iconst X732.here hx rfl (hb hby d2_103) ?_
    refine XS.iloadN X732.here hx rfl (hb hby d2_104) rfl ?_
    refine st739 _ ?_
    show Sp p e below m T739 106 #[vi 4, vi pa0, vi pa1, vi pa2, vi pa3] [(.ref b718), (.ref b713), (.ref b713)] _
    refine XS.dup X739.here hx rfl (hb hby d2_106) rfl rfl ?_
    refine XS.iconst X739.here hx rfl (hb hby d2_107) ?_
    refine XS.iload X739.here hx rfl (hb hby d2_108) rfl ?_
    refine st746 _ ?_
    show Sp p e below m T746 111 #[vi 4, vi pa0, vi pa1, vi pa2, vi pa3] [(.ref b718), (.ref b713), (.ref b713)] _
    refine st752.trans ?_
    show Sp p e below m T752 114 #[vi 4, vi pa0, vi pa1, vi pa2, vi pa3] [(.ref b713)] _
    jvm_step X752.here [X752.here.top, hx, (hb hby d2_114), X752.method', Bd.returns, Value.isRef, FieldType.isReference]
    first | (intro acts; rw [hr _ acts rfl rfl rfl]) | rw [hr _ _ rfl rfl rfl]
    exact Steps.refl _
  · show Q2n4 Z pa0 pa1 pa2 pa3 cs vf h0 n0 _ T752.heap _
    exact ⟨b713, rrb_752, rrk_752, rfl, N752, KK752, p752_0, p752_1, p752_2, p752_3⟩
theorem d1_0 : decode method_3_code 0 = .ok (.iload_n 0, 1) := by decide +kernel
theorem d1_1 : decode method_3_code 1 = .ok (.iconst 1, 1) := by decide +kernel
theorem d1_2 : decode method_3_code 2 = .ok (.iand, 1) := by decide +kernel
theorem d1_3 : decode method_3_code 3 = .ok (.ifCond .ne 14, 3) := by decide +kernel
theorem d1_6 : decode method_3_code 6 = .ok (.bipush 48, 2) := by decide +kernel
theorem d1_8 : decode method_3_code 8 = .ok (.iload_n 0, 1) := by decide +kernel
theorem d1_9 : decode method_3_code 9 = .ok (.iconst 1, 1) := by decide +kernel
theorem d1_10 : decode method_3_code 10 = .ok (.iushr, 1) := by decide +kernel
theorem d1_11 : decode method_3_code 11 = .ok (.bipush 10, 2) := by decide +kernel
theorem d1_13 : decode method_3_code 13 = .ok (.irem, 1) := by decide +kernel
theorem d1_14 : decode method_3_code 14 = .ok (.iadd, 1) := by decide +kernel
theorem d1_15 : decode method_3_code 15 = .ok (.i2c, 1) := by decide +kernel
theorem d1_16 : decode method_3_code 16 = .ok (.ireturn, 1) := by decide +kernel
theorem d1_17 : decode method_3_code 17 = .ok (.iload_n 0, 1) := by decide +kernel
theorem d1_18 : decode method_3_code 18 = .ok (.iconst 1, 1) := by decide +kernel
theorem d1_19 : decode method_3_code 19 = .ok (.iushr, 1) := by decide +kernel
theorem d1_20 : decode method_3_code 20 = .ok (.sipush 255, 3) := by decide +kernel
theorem d1_23 : decode method_3_code 23 = .ok (.iand, 1) := by decide +kernel
theorem d1_24 : decode method_3_code 24 = .ok (.i2c, 1) := by decide +kernel
theorem d1_25 : decode method_3_code 25 = .ok (.ireturn, 1) := by decide +kernel
theorem ef_1 (m : MethodId) (x0 : Int32) : entryFrame m #[(.int x0)] 1 = mkF m 0 #[.val (.int x0)] [] := by first | (simp [entryFrame, mkF, argsToLocals, Value.category]; done) | rfl
def Q1 (Z : State) (px : Int32) (h0 : Heap) (n0 : Nat) (v : Option Value) (h : Heap) (L : List Loc) : Prop := ∃ (rv : Int32), v = some (.int rv) ∧ Fr n0 L ∧ h = h0 ∧ (0 ≤ rv.toInt ∧ rv.toInt ≤ 255)
theorem rm1 (l : Launch) (Z : State) (a0 : Array Value) (hw : ∀ d ∈ tables_1, d.before a0 Z = true) (ws : List Jvm.Cond) (px : Int32) (h0 : Heap) (n0 : Nat) (Z0 : n0 ≤ h0.size) :
    MetFree l (⟨"com/example/onus_on_beans/onusonbeans/validators/CheckDigitRangeWholeTextPinLaw", "ch", "(I)C"⟩ : MethodName) (head1 (Jvm.Cond.code (⟨"com/example/onus_on_beans/onusonbeans/validators/CheckDigitRangeWholeTextPinLaw", "ch", "(I)C"⟩ : MethodName) method_3_code 1 (some .char) :: ws) ({ frames := 0, cells := 0, slots := 0, locals := 0 } : Room)) (fun a U => a = #[(.int px)] ∧ Z.Warmed39 U.vm ∧ U.heap = h0) (fun _ _ _ _ _ => True) (fun _ U o U' => ∃ v L, o = .returned v ∧ Q1 Z px h0 n0 v U'.heap L ∧ FrameEnd U o U' L ({ frames := 0, cells := 0, slots := 0, locals := 0 } : Room).cells ({ frames := 0, cells := 0, slots := 0, locals := 0 } : Room).slots) := by
  refine MetFree.of_bodySF (plainFor_of_name own_pn32) hisR ?_
  intro p e s m args below meth c s₁ Bd hml0 hP hK
  have H := fun i c (h : tables_1[i]? = some c) => hw c (List.mem_of_getElem? h)
  obtain ⟨rfl, hZ, hh⟩ := hP
  have hx := Bd.exec
  have hby := Bd.bytes
  have hml : c.maxLocals = 1 := hml0
  have hown : s.vm.findClass "com/example/onus_on_beans/onusonbeans/validators/CheckDigitRangeWholeTextPinLaw" = some m.cls := findClass_of_methodNamed Bd.named
  have hnm := (name_of_methodNamed Bd.named Bd.method).1
  have X0 : Stand p l e ({ frames := 0, cells := 0, slots := 0, locals := 0 } : Room) s m #[(.int px)] below meth c s₁ [] 0 0 := Stand.of_body Bd
  have e0 : s₁.heap = h0 := by rw [← hh, Bd.state]; rfl
  have N0 := Fr.nil n0
  have pre0 : ∀ t, Sp p e below m s₁ 0 #[vi px] [] t → Steps p.tables e below (s₁.setTop (entryFrame m #[(.int px)] 1)) t := fun t k => castTop (ef_1 m px) k
  generalize s₁.setTop (entryFrame m #[(.int px)] 1) = G0 at pre0 ⊢
  have pre759 : ∀ t, Sp p e below m s₁ 3 #[vi px] [(.int (px &&& (1 : Int32)))] t → SG p e below G0 t := by
    intro t k
    refine pre0 t ?_
    show Sp p e below m s₁ 0 #[vi px] [] _
    refine XS.iloadN X0.here hx rfl (hb hby d1_0) rfl ?_
    refine XS.iconst X0.here hx rfl (hb hby d1_1) ?_
    refine XS.iand X0.here hx rfl (hb hby d1_2) rfl ?_
    exact k
  by_cases hc3_760 : (px &&& (1 : Int32)) = (0 : Int32)
  · obtain ⟨fs, hr, hrun, hended, hW, hsame⟩ := X0.leave (v := some (.int (nar .char (((48 : Int32) + (((px.toUInt32 >>> ((1 : Int32) &&& 31).toUInt32).toInt32) % (10 : Int32))).toUInt32.toUInt16.toUInt32.toInt32)))) (fun h => by rw [Bd.returns] at h; cases h)
    refine ⟨_, _, pre759 _ ?_, hrun, hended, _, _, rfl, ?_, ⟨_, rfl⟩, hW, hsame.mono (by decide) (by decide)⟩
    · show Sp p e below m s₁ 3 #[vi px] [(.int (px &&& (1 : Int32)))] _
      refine XS.ifNo X0.here hx rfl (hb hby d1_3) rfl ((if0 _ _).trans (teq hc3_760).2) ?_
      refine XS.bipush X0.here hx rfl (hb hby d1_6) ?_
      refine XS.iloadN X0.here hx rfl (hb hby d1_8) rfl ?_
      refine XS.iconst X0.here hx rfl (hb hby d1_9) ?_
      refine XS.iushr X0.here hx rfl (hb hby d1_10) rfl ?_
      show Sp p e below m s₁ 11 #[vi px] [(.int ((px.toUInt32 >>> ((1 : Int32) &&& 31).toUInt32).toInt32)), (.int 48)] _
      refine XS.bipush X0.here hx rfl (hb hby d1_11) ?_
      refine iremM X0 hx rfl (hb hby d1_13) rfl (by decide) ?_
      show Sp p e below m s₁ 14 #[vi px] [(.int (((px.toUInt32 >>> ((1 : Int32) &&& 31).toUInt32).toInt32) % (10 : Int32))), (.int 48)] _
      refine XS.iadd X0.here hx rfl (hb hby d1_14) rfl ?_
      refine XS.i2c X0.here hx rfl (hb hby d1_15) rfl ?_
      exact retN X0 hx (t := .char) Bd.returns (by simp) (hb hby d1_16) hr
    · show Q1 Z px h0 n0 _ s₁.heap _
      rw [e0]
      exact ⟨(nar .char (((48 : Int32) + (((px.toUInt32 >>> ((1 : Int32) &&& 31).toUInt32).toInt32) % (10 : Int32))).toUInt32.toUInt16.toUInt32.toInt32)), rfl, N0, rfl, own_chA px⟩
  · obtain ⟨fs, hr, hrun, hended, hW, hsame⟩ := X0.leave (v := some (.int (nar .char ((((px.toUInt32 >>> ((1 : Int32) &&& 31).toUInt32).toInt32) &&& (255 : Int32)).toUInt32.toUInt16.toUInt32.toInt32)))) (fun h => by rw [Bd.returns] at h; cases h)
    refine ⟨_, _, pre759 _ ?_, hrun, hended, _, _, rfl, ?_, ⟨_, rfl⟩, hW, hsame.mono (by decide) (by decide)⟩
    · show Sp p e below m s₁ 3 #[vi px] [(.int (px &&& (1 : Int32)))] _
      refine XS.ifYes X0.here hx rfl (pc0 := 3) (pc' := 17) rfl (hb hby d1_3) rfl ((if0 _ _).trans (feq hc3_760).2) (by decide) (by decide) ?_
      refine XS.iloadN X0.here hx rfl (hb hby d1_17) rfl ?_
      refine XS.iconst X0.here hx rfl (hb hby d1_18) ?_
      refine XS.iushr X0.here hx rfl (hb hby d1_19) rfl ?_
      refine XS.sipush X0.here hx rfl (hb hby d1_20) ?_
      show Sp p e below m s₁ 23 #[vi px] [(.int 255), (.int ((px.toUInt32 >>> ((1 : Int32) &&& 31).toUInt32).toInt32))] _
      refine XS.iand X0.here hx rfl (hb hby d1_23) rfl ?_
      refine XS.i2c X0.here hx rfl (hb hby d1_24) rfl ?_
      exact retN X0 hx (t := .char) Bd.returns (by simp) (hb hby d1_25) hr
    · show Q1 Z px h0 n0 _ s₁.heap _
      rw [e0]
      exact ⟨(nar .char ((((px.toUInt32 >>> ((1 : Int32) &&& 31).toUInt32).toInt32) &&& (255 : Int32)).toUInt32.toUInt16.toUInt32.toInt32)), rfl, N0, rfl, own_chB _⟩
def own_dg (c : Int32) : Int32 := if c < 48 then 0 else if 57 < c then 0 else 1
def own_tO (p d : Int32) : Int32 := if 9 < (if p % 2 = 1 then d * 2 else d) then (if p % 2 = 1 then d * 2 else d) - 9 else (if p % 2 = 1 then d * 2 else d)
def own_tL (p d : Int32) : Int32 := if p &&& 1 = 0 then d else if 9 < d * 2 then d * 2 - 9 else d * 2
def own_cc (s : Int32) : Int32 := nar .char ((48 + ((10 - s) % 10)).toUInt32.toUInt16.toUInt32.toInt32)
def own_ps (c p : Int32) : Int32 := if own_dg c = 0 then p else p + 1
def own_sm (c p s : Int32) : Int32 := if own_dg c = 0 then s else (s + own_tO (p + 1) (c - 48)) % 10
def own_tt (c p s : Int32) : Int32 := if own_dg c = 0 then s else s + own_tL p (c - 48)
def own_fin (s c : Int32) : Int32 := if own_cc s = c then 1 else 0
def own_run : List Int32 → Int32 → Int32 → Int32
  | [], _, s => s
  | c :: r, p, s => own_run r (own_ps c p) (own_sm c p s)
def own_a1 : List Int32 → Int32
  | [] => 0
  | c :: r => if own_dg c = 0 then own_a1 r else own_fin (own_run r 0 0) c
def own_run0 : List Int32 → Int32 → Int32 → Int32 → Int32
  | [], _, s, k => own_fin s k
  | c :: r, p, s, k => if own_dg c = 0 then 0 else own_run0 r (p + 1) ((s + own_tO (p + 1) (c - 48)) % 10) k
def own_a0 : List Int32 → Int32
  | [] => 0
  | c :: r => own_run0 r 0 0 c
def own_ac (g : Int32) (l : List Int32) : Int32 := if g = 0 then own_a0 l else own_a1 l
def own_cn : List Int32 → Int32 → Int32
  | [], p => p
  | c :: r, p => own_cn r (own_ps c p)
def own_to : List Int32 → Int32 → Int32 → Int32
  | [], _, s => s
  | c :: r, p, s => own_to r (own_ps c p) (own_tt c p s)
theorem own_dg01 (c : Int32) : own_dg c = 0 ∨ own_dg c = 1 := by unfold own_dg; split <;> (try split) <;> simp
theorem own_nb (c : Int32) : nar .boolean (own_dg c) = own_dg c := by rcases own_dg01 c with h | h <;> rw [h] <;> rfl
theorem d20_0 : decode prog_16_method_8_code 0 = .ok (.iload_n 0, 1) := by decide +kernel
theorem d20_1 : decode prog_16_method_8_code 1 = .ok (.bipush 48, 2) := by decide +kernel
theorem d20_3 : decode prog_16_method_8_code 3 = .ok (.if_icmp .lt 13, 3) := by decide +kernel
theorem d20_16 : decode prog_16_method_8_code 16 = .ok (.iconst 0, 1) := by decide +kernel
theorem d20_17 : decode prog_16_method_8_code 17 = .ok (.ireturn, 1) := by decide +kernel
theorem d20_6 : decode prog_16_method_8_code 6 = .ok (.iload_n 0, 1) := by decide +kernel
theorem d20_7 : decode prog_16_method_8_code 7 = .ok (.bipush 57, 2) := by decide +kernel
theorem d20_9 : decode prog_16_method_8_code 9 = .ok (.if_icmp .gt 7, 3) := by decide +kernel
theorem d20_12 : decode prog_16_method_8_code 12 = .ok (.iconst 1, 1) := by decide +kernel
theorem d20_13 : decode prog_16_method_8_code 13 = .ok (.goto 4, 3) := by decide +kernel
theorem own_pn202 : plainName "com/example/onus_on_beans/onusonbeans/validators/CheckDigitScheme" = true := by first | (simp [plainName, overriddenIn]; done) | decide +kernel
theorem ef_20 (m : MethodId) (x0 : Int32) : entryFrame m #[(.int x0)] 1 = mkF m 0 #[.val (.int x0)] [] := by first | (simp [entryFrame, mkF, argsToLocals, Value.category]; done) | rfl
def Q20 (Z : State) (pa : Int32) (h0 : Heap) (n0 : Nat) (v : Option Value) (h : Heap) (L : List Loc) : Prop := v = some (.int (own_dg pa)) ∧ Fr n0 L ∧ h = h0
theorem rm20 (l : Launch) (Z : State) (a0 : Array Value) (hw : ∀ d ∈ tables_1, d.before a0 Z = true) (ws : List Jvm.Cond) (pa : Int32) (h0 : Heap) (n0 : Nat) (Z0 : n0 ≤ h0.size) :
    MetFree l (⟨"com/example/onus_on_beans/onusonbeans/validators/CheckDigitScheme", "isDigit", "(C)Z"⟩ : MethodName) (head1 (Jvm.Cond.code (⟨"com/example/onus_on_beans/onusonbeans/validators/CheckDigitScheme", "isDigit", "(C)Z"⟩ : MethodName) prog_16_method_8_code 1 (some .boolean) :: ws) ({ frames := 0, cells := 0, slots := 0, locals := 0 } : Room)) (fun a U => a = #[(.int pa)] ∧ Z.Warmed39 U.vm ∧ U.heap = h0) (fun _ _ _ _ _ => True) (fun _ U o U' => ∃ v L, o = .returned v ∧ Q20 Z pa h0 n0 v U'.heap L ∧ FrameEnd U o U' L ({ frames := 0, cells := 0, slots := 0, locals := 0 } : Room).cells ({ frames := 0, cells := 0, slots := 0, locals := 0 } : Room).slots) := by
  refine MetFree.of_bodySF (plainFor_of_name own_pn202) hisR ?_
  intro p e s m args below meth c s₁ Bd hml0 hP hK
  have H := fun i c (h : tables_1[i]? = some c) => hw c (List.mem_of_getElem? h)
  obtain ⟨rfl, hZ, hh⟩ := hP
  have hx := Bd.exec
  have hby := Bd.bytes
  have hml : c.maxLocals = 1 := hml0
  have hown : s.vm.findClass "com/example/onus_on_beans/onusonbeans/validators/CheckDigitScheme" = some m.cls := findClass_of_methodNamed Bd.named
  have hnm := (name_of_methodNamed Bd.named Bd.method).1
  have X0 : Stand p l e ({ frames := 0, cells := 0, slots := 0, locals := 0 } : Room) s m #[(.int pa)] below meth c s₁ [] 0 0 := Stand.of_body Bd
  have e0 : s₁.heap = h0 := by rw [← hh, Bd.state]; rfl
  have N0 := Fr.nil n0
  have pre0 : ∀ t, Sp p e below m s₁ 0 #[vi pa] [] t → Steps p.tables e below (s₁.setTop (entryFrame m #[(.int pa)] 1)) t := fun t k => castTop (ef_20 m pa) k
  generalize s₁.setTop (entryFrame m #[(.int pa)] 1) = G0 at pre0 ⊢
  have pre765 : ∀ t, Sp p e below m s₁ 3 #[vi pa] [(.int 48), (.int pa)] t → SG p e below G0 t := by
    intro t k
    refine pre0 t ?_
    show Sp p e below m s₁ 0 #[vi pa] [] _
    refine XS.iloadN X0.here hx rfl (hb hby d20_0) rfl ?_
    refine XS.bipush X0.here hx rfl (hb hby d20_1) ?_
    exact k
  by_cases hc3_766 : pa < (48 : Int32)
  · obtain ⟨fs, hr, hrun, hended, hW, hsame⟩ := X0.leave (v := some (.int 0)) (fun h => by rw [Bd.returns] at h; cases h)
    refine ⟨_, _, pre765 _ ?_, hrun, hended, _, _, rfl, ?_, ⟨_, rfl⟩, hW, hsame.mono (by decide) (by decide)⟩
    · show Sp p e below m s₁ 3 #[vi pa] [(.int 48), (.int pa)] _
      refine XS.icmpYes X0.here hx rfl (pc0 := 3) (pc' := 16) rfl (hb hby d20_3) rfl (tlt hc3_766).1 (by decide) (by decide) ?_
      refine XS.iconst X0.here hx rfl (hb hby d20_16) ?_
      exact retN X0 hx (t := .boolean) Bd.returns (by simp) (hb hby d20_17) hr
    · show Q20 Z pa h0 n0 _ s₁.heap _
      rw [e0]
      exact ⟨(by rw [own_dg, if_pos hc3_766]), N0, rfl⟩
  · have pre767 : ∀ t, Sp p e below m s₁ 9 #[vi pa] [(.int 57), (.int pa)] t → SG p e below G0 t := by
      intro t k
      refine pre765 t ?_
      show Sp p e below m s₁ 3 #[vi pa] [(.int 48), (.int pa)] _
      refine XS.icmpNo X0.here hx rfl (hb hby d20_3) rfl (flt hc3_766).1 ?_
      refine XS.iloadN X0.here hx rfl (hb hby d20_6) rfl ?_
      refine XS.bipush X0.here hx rfl (hb hby d20_7) ?_
      exact k
    by_cases hc9_768 : (57 : Int32) < pa
    · obtain ⟨fs, hr, hrun, hended, hW, hsame⟩ := X0.leave (v := some (.int 0)) (fun h => by rw [Bd.returns] at h; cases h)
      refine ⟨_, _, pre767 _ ?_, hrun, hended, _, _, rfl, ?_, ⟨_, rfl⟩, hW, hsame.mono (by decide) (by decide)⟩
      · show Sp p e below m s₁ 9 #[vi pa] [(.int 57), (.int pa)] _
        refine XS.icmpYes X0.here hx rfl (pc0 := 9) (pc' := 16) rfl (hb hby d20_9) rfl (tlt hc9_768).2.2.1 (by decide) (by decide) ?_
        refine XS.iconst X0.here hx rfl (hb hby d20_16) ?_
        exact retN X0 hx (t := .boolean) Bd.returns (by simp) (hb hby d20_17) hr
      · show Q20 Z pa h0 n0 _ s₁.heap _
        rw [e0]
        exact ⟨(by rw [own_dg, if_neg hc3_766, if_pos hc9_768]), N0, rfl⟩
    · obtain ⟨fs, hr, hrun, hended, hW, hsame⟩ := X0.leave (v := some (.int 1)) (fun h => by rw [Bd.returns] at h; cases h)
      refine ⟨_, _, pre767 _ ?_, hrun, hended, _, _, rfl, ?_, ⟨_, rfl⟩, hW, hsame.mono (by decide) (by decide)⟩
      · show Sp p e below m s₁ 9 #[vi pa] [(.int 57), (.int pa)] _
        refine XS.icmpNo X0.here hx rfl (hb hby d20_9) rfl (flt hc9_768).2.2.1 ?_
        refine XS.iconst X0.here hx rfl (hb hby d20_12) ?_
        refine XS.goto X0.here hx rfl (pc0 := 13) (pc' := 17) rfl (hb hby d20_13) (by decide) (by decide) ?_
        show Sp p e below m s₁ 17 #[vi pa] [(.int 1)] _
        exact retN X0 hx (t := .boolean) Bd.returns (by simp) (hb hby d20_17) hr
      · show Q20 Z pa h0 n0 _ s₁.heap _
        rw [e0]
        exact ⟨(by rw [own_dg, if_neg hc3_766, if_neg hc9_768]), N0, rfl⟩
theorem d22_0 : decode method_4_code 0 = .ok (.iload_n 0, 1) := by decide +kernel
theorem d22_1 : decode method_4_code 1 = .ok (.bipush 48, 2) := by decide +kernel
theorem d22_3 : decode method_4_code 3 = .ok (.if_icmp .lt 13, 3) := by decide +kernel
theorem d22_16 : decode method_4_code 16 = .ok (.iconst 0, 1) := by decide +kernel
theorem d22_17 : decode method_4_code 17 = .ok (.ireturn, 1) := by decide +kernel
theorem d22_6 : decode method_4_code 6 = .ok (.iload_n 0, 1) := by decide +kernel
theorem d22_7 : decode method_4_code 7 = .ok (.bipush 57, 2) := by decide +kernel
theorem d22_9 : decode method_4_code 9 = .ok (.if_icmp .gt 7, 3) := by decide +kernel
theorem d22_12 : decode method_4_code 12 = .ok (.iconst 1, 1) := by decide +kernel
theorem d22_13 : decode method_4_code 13 = .ok (.goto 4, 3) := by decide +kernel
theorem ef_22 (m : MethodId) (x0 : Int32) : entryFrame m #[(.int x0)] 1 = mkF m 0 #[.val (.int x0)] [] := by first | (simp [entryFrame, mkF, argsToLocals, Value.category]; done) | rfl
def Q22 (Z : State) (pa : Int32) (h0 : Heap) (n0 : Nat) (v : Option Value) (h : Heap) (L : List Loc) : Prop := v = some (.int (own_dg pa)) ∧ Fr n0 L ∧ h = h0
theorem rm22 (l : Launch) (Z : State) (a0 : Array Value) (hw : ∀ d ∈ tables_1, d.before a0 Z = true) (ws : List Jvm.Cond) (pa : Int32) (h0 : Heap) (n0 : Nat) (Z0 : n0 ≤ h0.size) :
    MetFree l (⟨"com/example/onus_on_beans/onusonbeans/validators/CheckDigitRangeWholeTextPinLaw", "isD", "(C)Z"⟩ : MethodName) (head1 (Jvm.Cond.code (⟨"com/example/onus_on_beans/onusonbeans/validators/CheckDigitRangeWholeTextPinLaw", "isD", "(C)Z"⟩ : MethodName) method_4_code 1 (some .boolean) :: ws) ({ frames := 0, cells := 0, slots := 0, locals := 0 } : Room)) (fun a U => a = #[(.int pa)] ∧ Z.Warmed39 U.vm ∧ U.heap = h0) (fun _ _ _ _ _ => True) (fun _ U o U' => ∃ v L, o = .returned v ∧ Q22 Z pa h0 n0 v U'.heap L ∧ FrameEnd U o U' L ({ frames := 0, cells := 0, slots := 0, locals := 0 } : Room).cells ({ frames := 0, cells := 0, slots := 0, locals := 0 } : Room).slots) := by
  refine MetFree.of_bodySF (plainFor_of_name own_pn32) hisR ?_
  intro p e s m args below meth c s₁ Bd hml0 hP hK
  have H := fun i c (h : tables_1[i]? = some c) => hw c (List.mem_of_getElem? h)
  obtain ⟨rfl, hZ, hh⟩ := hP
  have hx := Bd.exec
  have hby := Bd.bytes
  have hml : c.maxLocals = 1 := hml0
  have hown : s.vm.findClass "com/example/onus_on_beans/onusonbeans/validators/CheckDigitRangeWholeTextPinLaw" = some m.cls := findClass_of_methodNamed Bd.named
  have hnm := (name_of_methodNamed Bd.named Bd.method).1
  have X0 : Stand p l e ({ frames := 0, cells := 0, slots := 0, locals := 0 } : Room) s m #[(.int pa)] below meth c s₁ [] 0 0 := Stand.of_body Bd
  have e0 : s₁.heap = h0 := by rw [← hh, Bd.state]; rfl
  have N0 := Fr.nil n0
  have pre0 : ∀ t, Sp p e below m s₁ 0 #[vi pa] [] t → Steps p.tables e below (s₁.setTop (entryFrame m #[(.int pa)] 1)) t := fun t k => castTop (ef_22 m pa) k
  generalize s₁.setTop (entryFrame m #[(.int pa)] 1) = G0 at pre0 ⊢
  have pre773 : ∀ t, Sp p e below m s₁ 3 #[vi pa] [(.int 48), (.int pa)] t → SG p e below G0 t := by
    intro t k
    refine pre0 t ?_
    show Sp p e below m s₁ 0 #[vi pa] [] _
    refine XS.iloadN X0.here hx rfl (hb hby d22_0) rfl ?_
    refine XS.bipush X0.here hx rfl (hb hby d22_1) ?_
    exact k
  by_cases hc3_774 : pa < (48 : Int32)
  · obtain ⟨fs, hr, hrun, hended, hW, hsame⟩ := X0.leave (v := some (.int 0)) (fun h => by rw [Bd.returns] at h; cases h)
    refine ⟨_, _, pre773 _ ?_, hrun, hended, _, _, rfl, ?_, ⟨_, rfl⟩, hW, hsame.mono (by decide) (by decide)⟩
    · show Sp p e below m s₁ 3 #[vi pa] [(.int 48), (.int pa)] _
      refine XS.icmpYes X0.here hx rfl (pc0 := 3) (pc' := 16) rfl (hb hby d22_3) rfl (tlt hc3_774).1 (by decide) (by decide) ?_
      refine XS.iconst X0.here hx rfl (hb hby d22_16) ?_
      exact retN X0 hx (t := .boolean) Bd.returns (by simp) (hb hby d22_17) hr
    · show Q22 Z pa h0 n0 _ s₁.heap _
      rw [e0]
      exact ⟨(by rw [own_dg, if_pos hc3_774]), N0, rfl⟩
  · have pre775 : ∀ t, Sp p e below m s₁ 9 #[vi pa] [(.int 57), (.int pa)] t → SG p e below G0 t := by
      intro t k
      refine pre773 t ?_
      show Sp p e below m s₁ 3 #[vi pa] [(.int 48), (.int pa)] _
      refine XS.icmpNo X0.here hx rfl (hb hby d22_3) rfl (flt hc3_774).1 ?_
      refine XS.iloadN X0.here hx rfl (hb hby d22_6) rfl ?_
      refine XS.bipush X0.here hx rfl (hb hby d22_7) ?_
      exact k
    by_cases hc9_776 : (57 : Int32) < pa
    · obtain ⟨fs, hr, hrun, hended, hW, hsame⟩ := X0.leave (v := some (.int 0)) (fun h => by rw [Bd.returns] at h; cases h)
      refine ⟨_, _, pre775 _ ?_, hrun, hended, _, _, rfl, ?_, ⟨_, rfl⟩, hW, hsame.mono (by decide) (by decide)⟩
      · show Sp p e below m s₁ 9 #[vi pa] [(.int 57), (.int pa)] _
        refine XS.icmpYes X0.here hx rfl (pc0 := 9) (pc' := 16) rfl (hb hby d22_9) rfl (tlt hc9_776).2.2.1 (by decide) (by decide) ?_
        refine XS.iconst X0.here hx rfl (hb hby d22_16) ?_
        exact retN X0 hx (t := .boolean) Bd.returns (by simp) (hb hby d22_17) hr
      · show Q22 Z pa h0 n0 _ s₁.heap _
        rw [e0]
        exact ⟨(by rw [own_dg, if_neg hc3_774, if_pos hc9_776]), N0, rfl⟩
    · obtain ⟨fs, hr, hrun, hended, hW, hsame⟩ := X0.leave (v := some (.int 1)) (fun h => by rw [Bd.returns] at h; cases h)
      refine ⟨_, _, pre775 _ ?_, hrun, hended, _, _, rfl, ?_, ⟨_, rfl⟩, hW, hsame.mono (by decide) (by decide)⟩
      · show Sp p e below m s₁ 9 #[vi pa] [(.int 57), (.int pa)] _
        refine XS.icmpNo X0.here hx rfl (hb hby d22_9) rfl (flt hc9_776).2.2.1 ?_
        refine XS.iconst X0.here hx rfl (hb hby d22_12) ?_
        refine XS.goto X0.here hx rfl (pc0 := 13) (pc' := 17) rfl (hb hby d22_13) (by decide) (by decide) ?_
        show Sp p e below m s₁ 17 #[vi pa] [(.int 1)] _
        exact retN X0 hx (t := .boolean) Bd.returns (by simp) (hb hby d22_17) hr
      · show Q22 Z pa h0 n0 _ s₁.heap _
        rw [e0]
        exact ⟨(by rw [own_dg, if_neg hc3_774, if_neg hc9_776]), N0, rfl⟩
theorem d19_0 : decode prog_16_method_7_code 0 = .ok (.iload_n 1, 1) := by decide +kernel
theorem d19_1 : decode prog_16_method_7_code 1 = .ok (.invokestatic 25, 3) := by decide +kernel
theorem own_pd215 : parseMethodDescriptor "(C)Z" = some ⟨[.char], some .boolean⟩ := by decide +kernel
theorem d19_4 : decode prog_16_method_7_code 4 = .ok (.ireturn, 1) := by decide +kernel
theorem ef_19 (m : MethodId) (x0 : Addr) (x1 : Int32) : entryFrame m #[(.ref x0), (.int x1)] 2 = mkF m 0 #[.val (.ref x0), .val (.int x1)] [] := by first | (simp [entryFrame, mkF, argsToLocals, Value.category]; done) | rfl
def Q19 (Z : State) (aa : Addr) (pa : Int32) (h0 : Heap) (n0 : Nat) (v : Option Value) (h : Heap) (L : List Loc) : Prop := v = some (.int (own_dg pa)) ∧ Fr n0 L ∧ h = h0
theorem rm19 (l : Launch) (Z : State) (a0 : Array Value) (hw : ∀ d ∈ tables_1, d.before a0 Z = true) (ws : List Jvm.Cond) (aa : Addr) (pa : Int32) (h0 : Heap) (n0 : Nat) (Z0 : n0 ≤ h0.size) :
    MetFree l (⟨"com/example/onus_on_beans/onusonbeans/validators/CheckDigitScheme", "isCheckCharacter", "(C)Z"⟩ : MethodName) (head1 (Jvm.Cond.code (⟨"com/example/onus_on_beans/onusonbeans/validators/CheckDigitScheme", "isCheckCharacter", "(C)Z"⟩ : MethodName) prog_16_method_7_code 2 (some .boolean) :: ws) ({ frames := 1, cells := 0, slots := 0, locals := 12 } : Room)) (fun a U => a = #[(.ref aa), (.int pa)] ∧ Z.Warmed39 U.vm ∧ U.heap = h0) (fun _ _ _ _ _ => True) (fun _ U o U' => ∃ v L, o = .returned v ∧ Q19 Z aa pa h0 n0 v U'.heap L ∧ FrameEnd U o U' L ({ frames := 1, cells := 0, slots := 0, locals := 12 } : Room).cells ({ frames := 1, cells := 0, slots := 0, locals := 12 } : Room).slots) := by
  refine MetFree.of_bodySF (plainFor_of_name own_pn202) hisR ?_
  intro p e s m args below meth c s₁ Bd hml0 hP hK
  have H := fun i c (h : tables_1[i]? = some c) => hw c (List.mem_of_getElem? h)
  obtain ⟨rfl, hZ, hh⟩ := hP
  have hx := Bd.exec
  have hby := Bd.bytes
  have hml : c.maxLocals = 2 := hml0
  have hown : s.vm.findClass "com/example/onus_on_beans/onusonbeans/validators/CheckDigitScheme" = some m.cls := findClass_of_methodNamed Bd.named
  have hnm := (name_of_methodNamed Bd.named Bd.method).1
  have X0 : Stand p l e ({ frames := 1, cells := 0, slots := 0, locals := 12 } : Room) s m #[(.ref aa), (.int pa)] below meth c s₁ [] 0 0 := Stand.of_body Bd
  have e0 : s₁.heap = h0 := by rw [← hh, Bd.state]; rfl
  have N0 := Fr.nil n0
  have pre0 : ∀ t, Sp p e below m s₁ 0 #[vr aa, vi pa] [] t → Steps p.tables e below (s₁.setTop (entryFrame m #[(.ref aa), (.int pa)] 2)) t := fun t k => castTop (ef_19 m aa pa) k
  generalize s₁.setTop (entryFrame m #[(.ref aa), (.int pa)] 2) = G0 at pre0 ⊢
  obtain ⟨_, _, ⟨T778, L778, k778, n778⟩, -, X778, ⟨Lc778, hQ778, l778, y778, z778⟩, st778⟩ := Jvm.LawKit.callS X0 hx hown (mvT hZ (H 113 _ rfl)) (mvT hZ (H 114 _ rfl)) (mvT hZ (H 36 _ rfl)) (mvT hZ (H 115 _ rfl)) (by decide) (backOf (W := 0) (rm20 l Z a0 hw [] pa  h0 n0 Z0 ) hZ (H 115 _ rfl) (H 36 _ rfl) (by decide) (by decide)) (g := (mkF m 1 #[vr aa, vi pa] [(.int pa)])) rfl (by rw [hml]; rfl) (argsL := [(.int pa)]) (rest := []) (lenOf own_pd215 rfl) rfl (Nat.le_of_eq rfl) (hb hby d19_1) (fun _ _ => ⟨rfl, e0, Nat.zero_le _, Nat.zero_le _⟩)
  dsimp only [Pt.U, Pt.locs, Pt.cells, Pt.slots] at X778 l778 y778 z778 st778 hQ778
  rw [l778, y778, z778] at X778
  obtain ⟨rfl, Nq778, e778⟩ := hQ778
  have N778 := Fr.app N0 Nq778
  obtain ⟨fs, hr, hrun, hended, hW, hsame⟩ := X778.leave (v := some (.int (nar .boolean (own_dg pa)))) (fun h => by rw [Bd.returns] at h; cases h)
  refine ⟨_, _, pre0 _ ?_, hrun, hended, _, _, rfl, ?_, ⟨_, rfl⟩, hW, hsame.mono (by decide) (by decide)⟩
  · show Sp p e below m s₁ 0 #[vr aa, vi pa] [] _
    refine XS.iloadN X0.here hx rfl (hb hby d19_0) rfl ?_
    refine st778 _ ?_
    show Sp p e below m T778 4 #[vr aa, vi pa] [(.int (own_dg pa))] _
    exact retN X778 hx (t := .boolean) Bd.returns (by simp) (hb hby d19_4) hr
  · show Q19 Z aa pa h0 n0 _ T778.heap _
    rw [e778]
    exact ⟨(by rw [own_nb]), N778, rfl⟩
theorem d24_0 : decode prog_17_method_2_code 0 = .ok (.iload_n 1, 1) := by decide +kernel
theorem d24_1 : decode prog_17_method_2_code 1 = .ok (.iconst 2, 1) := by decide +kernel
theorem d24_2 : decode prog_17_method_2_code 2 = .ok (.irem, 1) := by decide +kernel
theorem d24_3 : decode prog_17_method_2_code 3 = .ok (.iconst 1, 1) := by decide +kernel
theorem d24_4 : decode prog_17_method_2_code 4 = .ok (.if_icmp .ne 9, 3) := by decide +kernel
theorem d24_7 : decode prog_17_method_2_code 7 = .ok (.iload_n 2, 1) := by decide +kernel
theorem d24_8 : decode prog_17_method_2_code 8 = .ok (.iconst 2, 1) := by decide +kernel
theorem d24_9 : decode prog_17_method_2_code 9 = .ok (.imul, 1) := by decide +kernel
theorem d24_10 : decode prog_17_method_2_code 10 = .ok (.goto 4, 3) := by decide +kernel
theorem d24_14 : decode prog_17_method_2_code 14 = .ok (.istore_n 3, 1) := by decide +kernel
theorem d24_15 : decode prog_17_method_2_code 15 = .ok (.iload_n 3, 1) := by decide +kernel
theorem d24_16 : decode prog_17_method_2_code 16 = .ok (.bipush 9, 2) := by decide +kernel
theorem d24_18 : decode prog_17_method_2_code 18 = .ok (.if_icmp .le 10, 3) := by decide +kernel
theorem d24_21 : decode prog_17_method_2_code 21 = .ok (.iload_n 3, 1) := by decide +kernel
theorem d24_22 : decode prog_17_method_2_code 22 = .ok (.bipush 9, 2) := by decide +kernel
theorem d24_24 : decode prog_17_method_2_code 24 = .ok (.isub, 1) := by decide +kernel
theorem d24_25 : decode prog_17_method_2_code 25 = .ok (.goto 4, 3) := by decide +kernel
theorem d24_29 : decode prog_17_method_2_code 29 = .ok (.ireturn, 1) := by decide +kernel
theorem d24_28 : decode prog_17_method_2_code 28 = .ok (.iload_n 3, 1) := by decide +kernel
theorem d24_13 : decode prog_17_method_2_code 13 = .ok (.iload_n 2, 1) := by decide +kernel
theorem own_pn237 : plainName "com/example/onus_on_beans/onusonbeans/validators/CheckDigitScheme$Luhn" = true := by first | (simp [plainName, overriddenIn]; done) | decide +kernel
theorem ef_24 (m : MethodId) (x0 : Addr) (x1 : Int32) (x2 : Int32) : entryFrame m #[(.ref x0), (.int x1), (.int x2)] 4 = mkF m 0 #[.val (.ref x0), .val (.int x1), .val (.int x2), .unset] [] := by first | (simp [entryFrame, mkF, argsToLocals, Value.category]; done) | rfl
def Q24 (Z : State) (aa : Addr) (pa : Int32) (pb : Int32) (h0 : Heap) (n0 : Nat) (v : Option Value) (h : Heap) (L : List Loc) : Prop := v = some (.int (own_tO pa pb)) ∧ Fr n0 L ∧ h = h0
theorem rm24 (l : Launch) (Z : State) (a0 : Array Value) (hw : ∀ d ∈ tables_1, d.before a0 Z = true) (ws : List Jvm.Cond) (aa : Addr) (pa : Int32) (pb : Int32) (h0 : Heap) (n0 : Nat) (Z0 : n0 ≤ h0.size) :
    MetFree l (⟨"com/example/onus_on_beans/onusonbeans/validators/CheckDigitScheme$Luhn", "termOf", "(II)I"⟩ : MethodName) (head1 (Jvm.Cond.code (⟨"com/example/onus_on_beans/onusonbeans/validators/CheckDigitScheme$Luhn", "termOf", "(II)I"⟩ : MethodName) prog_17_method_2_code 4 (some .int) :: ws) ({ frames := 0, cells := 0, slots := 0, locals := 0 } : Room)) (fun a U => a = #[(.ref aa), (.int pa), (.int pb)] ∧ Z.Warmed39 U.vm ∧ U.heap = h0) (fun _ _ _ _ _ => True) (fun _ U o U' => ∃ v L, o = .returned v ∧ Q24 Z aa pa pb h0 n0 v U'.heap L ∧ FrameEnd U o U' L ({ frames := 0, cells := 0, slots := 0, locals := 0 } : Room).cells ({ frames := 0, cells := 0, slots := 0, locals := 0 } : Room).slots) := by
  refine MetFree.of_bodySF (plainFor_of_name own_pn237) hisR ?_
  intro p e s m args below meth c s₁ Bd hml0 hP hK
  have H := fun i c (h : tables_1[i]? = some c) => hw c (List.mem_of_getElem? h)
  obtain ⟨rfl, hZ, hh⟩ := hP
  have hx := Bd.exec
  have hby := Bd.bytes
  have hml : c.maxLocals = 4 := hml0
  have hown : s.vm.findClass "com/example/onus_on_beans/onusonbeans/validators/CheckDigitScheme$Luhn" = some m.cls := findClass_of_methodNamed Bd.named
  have hnm := (name_of_methodNamed Bd.named Bd.method).1
  have X0 : Stand p l e ({ frames := 0, cells := 0, slots := 0, locals := 0 } : Room) s m #[(.ref aa), (.int pa), (.int pb)] below meth c s₁ [] 0 0 := Stand.of_body Bd
  have e0 : s₁.heap = h0 := by rw [← hh, Bd.state]; rfl
  have N0 := Fr.nil n0
  have pre0 : ∀ t, Sp p e below m s₁ 0 #[vr aa, vi pa, vi pb, .unset] [] t → Steps p.tables e below (s₁.setTop (entryFrame m #[(.ref aa), (.int pa), (.int pb)] 4)) t := fun t k => castTop (ef_24 m aa pa pb) k
  generalize s₁.setTop (entryFrame m #[(.ref aa), (.int pa), (.int pb)] 4) = G0 at pre0 ⊢
  have pre785 : ∀ t, Sp p e below m s₁ 4 #[vr aa, vi pa, vi pb, .unset] [(.int 1), (.int (pa % (2 : Int32)))] t → SG p e below G0 t := by
    intro t k
    refine pre0 t ?_
    show Sp p e below m s₁ 0 #[vr aa, vi pa, vi pb, .unset] [] _
    refine XS.iloadN X0.here hx rfl (hb hby d24_0) rfl ?_
    refine XS.iconst X0.here hx rfl (hb hby d24_1) ?_
    refine iremM X0 hx rfl (hb hby d24_2) rfl (by decide) ?_
    show Sp p e below m s₁ 3 #[vr aa, vi pa, vi pb, .unset] [(.int (pa % (2 : Int32)))] _
    refine XS.iconst X0.here hx rfl (hb hby d24_3) ?_
    exact k
  by_cases hc4_786 : (pa % (2 : Int32)) = (1 : Int32)
  · have pre787 : ∀ t, Sp p e below m s₁ 18 #[vr aa, vi pa, vi pb, vi (pb * (2 : Int32))] [(.int 9), (.int (pb * (2 : Int32)))] t → SG p e below G0 t := by
      intro t k
      refine pre785 t ?_
      show Sp p e below m s₁ 4 #[vr aa, vi pa, vi pb, .unset] [(.int 1), (.int (pa % (2 : Int32)))] _
      refine XS.icmpNo X0.here hx rfl (hb hby d24_4) rfl (teq hc4_786).2 ?_
      refine XS.iloadN X0.here hx rfl (hb hby d24_7) rfl ?_
      refine XS.iconst X0.here hx rfl (hb hby d24_8) ?_
      refine XS.imul X0.here hx rfl (hb hby d24_9) rfl ?_
      refine XS.goto X0.here hx rfl (pc0 := 10) (pc' := 14) rfl (hb hby d24_10) (by decide) (by decide) ?_
      refine XS.istoreN X0.here hx rfl (hb hby d24_14) rfl (l' := #[vr aa, vi pa, vi pb, vi (pb * (2 : Int32))]) rfl ?_
      refine XS.iloadN X0.here hx rfl (hb hby d24_15) rfl ?_
      show Sp p e below m s₁ 16 #[vr aa, vi pa, vi pb, vi (pb * (2 : Int32))] [(.int (pb * (2 : Int32)))] _
      refine XS.bipush X0.here hx rfl (hb hby d24_16) ?_
      exact k
    by_cases hc18_788 : (9 : Int32) < (pb * (2 : Int32))
    · obtain ⟨fs, hr, hrun, hended, hW, hsame⟩ := X0.leave (v := some (.int ((pb * (2 : Int32)) - (9 : Int32)))) (fun h => by rw [Bd.returns] at h; cases h)
      refine ⟨_, _, pre787 _ ?_, hrun, hended, _, _, rfl, ?_, ⟨_, rfl⟩, hW, hsame.mono (by decide) (by decide)⟩
      · show Sp p e below m s₁ 18 #[vr aa, vi pa, vi pb, vi (pb * (2 : Int32))] [(.int 9), (.int (pb * (2 : Int32)))] _
        refine XS.icmpNo X0.here hx rfl (hb hby d24_18) rfl (tlt hc18_788).2.2.2 ?_
        refine XS.iloadN X0.here hx rfl (hb hby d24_21) rfl ?_
        refine XS.bipush X0.here hx rfl (hb hby d24_22) ?_
        refine XS.isub X0.here hx rfl (hb hby d24_24) rfl ?_
        refine XS.goto X0.here hx rfl (pc0 := 25) (pc' := 29) rfl (hb hby d24_25) (by decide) (by decide) ?_
        exact retI X0 hx Bd.returns (hb hby d24_29) hr
      · show Q24 Z aa pa pb h0 n0 _ s₁.heap _
        rw [e0]
        exact ⟨(by simp only [own_tO, if_pos hc4_786, if_pos hc18_788]), N0, rfl⟩
    · obtain ⟨fs, hr, hrun, hended, hW, hsame⟩ := X0.leave (v := some (.int (pb * (2 : Int32)))) (fun h => by rw [Bd.returns] at h; cases h)
      refine ⟨_, _, pre787 _ ?_, hrun, hended, _, _, rfl, ?_, ⟨_, rfl⟩, hW, hsame.mono (by decide) (by decide)⟩
      · show Sp p e below m s₁ 18 #[vr aa, vi pa, vi pb, vi (pb * (2 : Int32))] [(.int 9), (.int (pb * (2 : Int32)))] _
        refine XS.icmpYes X0.here hx rfl (pc0 := 18) (pc' := 28) rfl (hb hby d24_18) rfl (flt hc18_788).2.2.2 (by decide) (by decide) ?_
        refine XS.iloadN X0.here hx rfl (hb hby d24_28) rfl ?_
        exact retI X0 hx Bd.returns (hb hby d24_29) hr
      · show Q24 Z aa pa pb h0 n0 _ s₁.heap _
        rw [e0]
        exact ⟨(by simp only [own_tO, if_pos hc4_786, if_neg hc18_788]), N0, rfl⟩
  · have pre789 : ∀ t, Sp p e below m s₁ 18 #[vr aa, vi pa, vi pb, vi pb] [(.int 9), (.int pb)] t → SG p e below G0 t := by
      intro t k
      refine pre785 t ?_
      show Sp p e below m s₁ 4 #[vr aa, vi pa, vi pb, .unset] [(.int 1), (.int (pa % (2 : Int32)))] _
      refine XS.icmpYes X0.here hx rfl (pc0 := 4) (pc' := 13) rfl (hb hby d24_4) rfl (feq hc4_786).2 (by decide) (by decide) ?_
      refine XS.iloadN X0.here hx rfl (hb hby d24_13) rfl ?_
      refine XS.istoreN X0.here hx rfl (hb hby d24_14) rfl (l' := #[vr aa, vi pa, vi pb, vi pb]) rfl ?_
      refine XS.iloadN X0.here hx rfl (hb hby d24_15) rfl ?_
      refine XS.bipush X0.here hx rfl (hb hby d24_16) ?_
      exact k
    by_cases hc18_790 : (9 : Int32) < pb
    · obtain ⟨fs, hr, hrun, hended, hW, hsame⟩ := X0.leave (v := some (.int (pb - (9 : Int32)))) (fun h => by rw [Bd.returns] at h; cases h)
      refine ⟨_, _, pre789 _ ?_, hrun, hended, _, _, rfl, ?_, ⟨_, rfl⟩, hW, hsame.mono (by decide) (by decide)⟩
      · show Sp p e below m s₁ 18 #[vr aa, vi pa, vi pb, vi pb] [(.int 9), (.int pb)] _
        refine XS.icmpNo X0.here hx rfl (hb hby d24_18) rfl (tlt hc18_790).2.2.2 ?_
        refine XS.iloadN X0.here hx rfl (hb hby d24_21) rfl ?_
        show Sp p e below m s₁ 22 #[vr aa, vi pa, vi pb, vi pb] [(.int pb)] _
        refine XS.bipush X0.here hx rfl (hb hby d24_22) ?_
        refine XS.isub X0.here hx rfl (hb hby d24_24) rfl ?_
        refine XS.goto X0.here hx rfl (pc0 := 25) (pc' := 29) rfl (hb hby d24_25) (by decide) (by decide) ?_
        exact retI X0 hx Bd.returns (hb hby d24_29) hr
      · show Q24 Z aa pa pb h0 n0 _ s₁.heap _
        rw [e0]
        exact ⟨(by simp only [own_tO, if_neg hc4_786, if_pos hc18_790]), N0, rfl⟩
    · obtain ⟨fs, hr, hrun, hended, hW, hsame⟩ := X0.leave (v := some (.int pb)) (fun h => by rw [Bd.returns] at h; cases h)
      refine ⟨_, _, pre789 _ ?_, hrun, hended, _, _, rfl, ?_, ⟨_, rfl⟩, hW, hsame.mono (by decide) (by decide)⟩
      · show Sp p e below m s₁ 18 #[vr aa, vi pa, vi pb, vi pb] [(.int 9), (.int pb)] _
        refine XS.icmpYes X0.here hx rfl (pc0 := 18) (pc' := 28) rfl (hb hby d24_18) rfl (flt hc18_790).2.2.2 (by decide) (by decide) ?_
        refine XS.iloadN X0.here hx rfl (hb hby d24_28) rfl ?_
        show Sp p e below m s₁ 29 #[vr aa, vi pa, vi pb, vi pb] [(.int pb)] _
        exact retI X0 hx Bd.returns (hb hby d24_29) hr
      · show Q24 Z aa pa pb h0 n0 _ s₁.heap _
        rw [e0]
        exact ⟨(by simp only [own_tO, if_neg hc4_786, if_neg hc18_790]), N0, rfl⟩
theorem d23_0 : decode method_5_code 0 = .ok (.iload_n 0, 1) := by decide +kernel
theorem d23_1 : decode method_5_code 1 = .ok (.iconst 1, 1) := by decide +kernel
theorem d23_2 : decode method_5_code 2 = .ok (.iand, 1) := by decide +kernel
theorem d23_3 : decode method_5_code 3 = .ok (.ifCond .ne 5, 3) := by decide +kernel
theorem d23_6 : decode method_5_code 6 = .ok (.iload_n 1, 1) := by decide +kernel
theorem d23_7 : decode method_5_code 7 = .ok (.ireturn, 1) := by decide +kernel
theorem d23_8 : decode method_5_code 8 = .ok (.iload_n 1, 1) := by decide +kernel
theorem d23_9 : decode method_5_code 9 = .ok (.iconst 2, 1) := by decide +kernel
theorem d23_10 : decode method_5_code 10 = .ok (.imul, 1) := by decide +kernel
theorem d23_11 : decode method_5_code 11 = .ok (.istore_n 2, 1) := by decide +kernel
theorem d23_12 : decode method_5_code 12 = .ok (.iload_n 2, 1) := by decide +kernel
theorem d23_13 : decode method_5_code 13 = .ok (.bipush 9, 2) := by decide +kernel
theorem d23_15 : decode method_5_code 15 = .ok (.if_icmp .le 10, 3) := by decide +kernel
theorem d23_18 : decode method_5_code 18 = .ok (.iload_n 2, 1) := by decide +kernel
theorem d23_19 : decode method_5_code 19 = .ok (.bipush 9, 2) := by decide +kernel
theorem d23_21 : decode method_5_code 21 = .ok (.isub, 1) := by decide +kernel
theorem d23_22 : decode method_5_code 22 = .ok (.goto 4, 3) := by decide +kernel
theorem d23_26 : decode method_5_code 26 = .ok (.ireturn, 1) := by decide +kernel
theorem d23_25 : decode method_5_code 25 = .ok (.iload_n 2, 1) := by decide +kernel
theorem ef_23 (m : MethodId) (x0 : Int32) (x1 : Int32) : entryFrame m #[(.int x0), (.int x1)] 3 = mkF m 0 #[.val (.int x0), .val (.int x1), .unset] [] := by first | (simp [entryFrame, mkF, argsToLocals, Value.category]; done) | rfl
def Q23 (Z : State) (pa : Int32) (pb : Int32) (h0 : Heap) (n0 : Nat) (v : Option Value) (h : Heap) (L : List Loc) : Prop := v = some (.int (own_tL pa pb)) ∧ Fr n0 L ∧ h = h0
theorem rm23 (l : Launch) (Z : State) (a0 : Array Value) (hw : ∀ d ∈ tables_1, d.before a0 Z = true) (ws : List Jvm.Cond) (pa : Int32) (pb : Int32) (h0 : Heap) (n0 : Nat) (Z0 : n0 ≤ h0.size) :
    MetFree l (⟨"com/example/onus_on_beans/onusonbeans/validators/CheckDigitRangeWholeTextPinLaw", "term", "(II)I"⟩ : MethodName) (head1 (Jvm.Cond.code (⟨"com/example/onus_on_beans/onusonbeans/validators/CheckDigitRangeWholeTextPinLaw", "term", "(II)I"⟩ : MethodName) method_5_code 3 (some .int) :: ws) ({ frames := 0, cells := 0, slots := 0, locals := 0 } : Room)) (fun a U => a = #[(.int pa), (.int pb)] ∧ Z.Warmed39 U.vm ∧ U.heap = h0) (fun _ _ _ _ _ => True) (fun _ U o U' => ∃ v L, o = .returned v ∧ Q23 Z pa pb h0 n0 v U'.heap L ∧ FrameEnd U o U' L ({ frames := 0, cells := 0, slots := 0, locals := 0 } : Room).cells ({ frames := 0, cells := 0, slots := 0, locals := 0 } : Room).slots) := by
  refine MetFree.of_bodySF (plainFor_of_name own_pn32) hisR ?_
  intro p e s m args below meth c s₁ Bd hml0 hP hK
  have H := fun i c (h : tables_1[i]? = some c) => hw c (List.mem_of_getElem? h)
  obtain ⟨rfl, hZ, hh⟩ := hP
  have hx := Bd.exec
  have hby := Bd.bytes
  have hml : c.maxLocals = 3 := hml0
  have hown : s.vm.findClass "com/example/onus_on_beans/onusonbeans/validators/CheckDigitRangeWholeTextPinLaw" = some m.cls := findClass_of_methodNamed Bd.named
  have hnm := (name_of_methodNamed Bd.named Bd.method).1
  have X0 : Stand p l e ({ frames := 0, cells := 0, slots := 0, locals := 0 } : Room) s m #[(.int pa), (.int pb)] below meth c s₁ [] 0 0 := Stand.of_body Bd
  have e0 : s₁.heap = h0 := by rw [← hh, Bd.state]; rfl
  have N0 := Fr.nil n0
  have pre0 : ∀ t, Sp p e below m s₁ 0 #[vi pa, vi pb, .unset] [] t → Steps p.tables e below (s₁.setTop (entryFrame m #[(.int pa), (.int pb)] 3)) t := fun t k => castTop (ef_23 m pa pb) k
  generalize s₁.setTop (entryFrame m #[(.int pa), (.int pb)] 3) = G0 at pre0 ⊢
  have pre795 : ∀ t, Sp p e below m s₁ 3 #[vi pa, vi pb, .unset] [(.int (pa &&& (1 : Int32)))] t → SG p e below G0 t := by
    intro t k
    refine pre0 t ?_
    show Sp p e below m s₁ 0 #[vi pa, vi pb, .unset] [] _
    refine XS.iloadN X0.here hx rfl (hb hby d23_0) rfl ?_
    refine XS.iconst X0.here hx rfl (hb hby d23_1) ?_
    refine XS.iand X0.here hx rfl (hb hby d23_2) rfl ?_
    exact k
  by_cases hc3_796 : (pa &&& (1 : Int32)) = (0 : Int32)
  · obtain ⟨fs, hr, hrun, hended, hW, hsame⟩ := X0.leave (v := some (.int pb)) (fun h => by rw [Bd.returns] at h; cases h)
    refine ⟨_, _, pre795 _ ?_, hrun, hended, _, _, rfl, ?_, ⟨_, rfl⟩, hW, hsame.mono (by decide) (by decide)⟩
    · show Sp p e below m s₁ 3 #[vi pa, vi pb, .unset] [(.int (pa &&& (1 : Int32)))] _
      refine XS.ifNo X0.here hx rfl (hb hby d23_3) rfl ((if0 _ _).trans (teq hc3_796).2) ?_
      refine XS.iloadN X0.here hx rfl (hb hby d23_6) rfl ?_
      exact retI X0 hx Bd.returns (hb hby d23_7) hr
    · show Q23 Z pa pb h0 n0 _ s₁.heap _
      rw [e0]
      exact ⟨(by simp only [own_tL, if_pos hc3_796]), N0, rfl⟩
  · have pre797 : ∀ t, Sp p e below m s₁ 15 #[vi pa, vi pb, vi (pb * (2 : Int32))] [(.int 9), (.int (pb * (2 : Int32)))] t → SG p e below G0 t := by
      intro t k
      refine pre795 t ?_
      show Sp p e below m s₁ 3 #[vi pa, vi pb, .unset] [(.int (pa &&& (1 : Int32)))] _
      refine XS.ifYes X0.here hx rfl (pc0 := 3) (pc' := 8) rfl (hb hby d23_3) rfl ((if0 _ _).trans (feq hc3_796).2) (by decide) (by decide) ?_
      refine XS.iloadN X0.here hx rfl (hb hby d23_8) rfl ?_
      refine XS.iconst X0.here hx rfl (hb hby d23_9) ?_
      refine XS.imul X0.here hx rfl (hb hby d23_10) rfl ?_
      refine XS.istoreN X0.here hx rfl (hb hby d23_11) rfl (l' := #[vi pa, vi pb, vi (pb * (2 : Int32))]) rfl ?_
      show Sp p e below m s₁ 12 #[vi pa, vi pb, vi (pb * (2 : Int32))] [] _
      refine XS.iloadN X0.here hx rfl (hb hby d23_12) rfl ?_
      refine XS.bipush X0.here hx rfl (hb hby d23_13) ?_
      exact k
    by_cases hc15_798 : (9 : Int32) < (pb * (2 : Int32))
    · obtain ⟨fs, hr, hrun, hended, hW, hsame⟩ := X0.leave (v := some (.int ((pb * (2 : Int32)) - (9 : Int32)))) (fun h => by rw [Bd.returns] at h; cases h)
      refine ⟨_, _, pre797 _ ?_, hrun, hended, _, _, rfl, ?_, ⟨_, rfl⟩, hW, hsame.mono (by decide) (by decide)⟩
      · show Sp p e below m s₁ 15 #[vi pa, vi pb, vi (pb * (2 : Int32))] [(.int 9), (.int (pb * (2 : Int32)))] _
        refine XS.icmpNo X0.here hx rfl (hb hby d23_15) rfl (tlt hc15_798).2.2.2 ?_
        refine XS.iloadN X0.here hx rfl (hb hby d23_18) rfl ?_
        refine XS.bipush X0.here hx rfl (hb hby d23_19) ?_
        refine XS.isub X0.here hx rfl (hb hby d23_21) rfl ?_
        refine XS.goto X0.here hx rfl (pc0 := 22) (pc' := 26) rfl (hb hby d23_22) (by decide) (by decide) ?_
        exact retI X0 hx Bd.returns (hb hby d23_26) hr
      · show Q23 Z pa pb h0 n0 _ s₁.heap _
        rw [e0]
        exact ⟨(by simp only [own_tL, if_neg hc3_796, if_pos hc15_798]), N0, rfl⟩
    · obtain ⟨fs, hr, hrun, hended, hW, hsame⟩ := X0.leave (v := some (.int (pb * (2 : Int32)))) (fun h => by rw [Bd.returns] at h; cases h)
      refine ⟨_, _, pre797 _ ?_, hrun, hended, _, _, rfl, ?_, ⟨_, rfl⟩, hW, hsame.mono (by decide) (by decide)⟩
      · show Sp p e below m s₁ 15 #[vi pa, vi pb, vi (pb * (2 : Int32))] [(.int 9), (.int (pb * (2 : Int32)))] _
        refine XS.icmpYes X0.here hx rfl (pc0 := 15) (pc' := 25) rfl (hb hby d23_15) rfl (flt hc15_798).2.2.2 (by decide) (by decide) ?_
        refine XS.iloadN X0.here hx rfl (hb hby d23_25) rfl ?_
        exact retI X0 hx Bd.returns (hb hby d23_26) hr
      · show Q23 Z pa pb h0 n0 _ s₁.heap _
        rw [e0]
        exact ⟨(by simp only [own_tL, if_neg hc3_796, if_neg hc15_798]), N0, rfl⟩
theorem d21_0 : decode prog_17_method_3_code 0 = .ok (.bipush 48, 2) := by decide +kernel
theorem d21_2 : decode prog_17_method_3_code 2 = .ok (.bipush 10, 2) := by decide +kernel
theorem d21_4 : decode prog_17_method_3_code 4 = .ok (.iload_n 1, 1) := by decide +kernel
theorem d21_5 : decode prog_17_method_3_code 5 = .ok (.isub, 1) := by decide +kernel
theorem d21_6 : decode prog_17_method_3_code 6 = .ok (.bipush 10, 2) := by decide +kernel
theorem d21_8 : decode prog_17_method_3_code 8 = .ok (.irem, 1) := by decide +kernel
theorem d21_9 : decode prog_17_method_3_code 9 = .ok (.iadd, 1) := by decide +kernel
theorem d21_10 : decode prog_17_method_3_code 10 = .ok (.i2c, 1) := by decide +kernel
theorem d21_11 : decode prog_17_method_3_code 11 = .ok (.ireturn, 1) := by decide +kernel
theorem ef_21 (m : MethodId) (x0 : Addr) (x1 : Int32) : entryFrame m #[(.ref x0), (.int x1)] 2 = mkF m 0 #[.val (.ref x0), .val (.int x1)] [] := by first | (simp [entryFrame, mkF, argsToLocals, Value.category]; done) | rfl
def Q21 (Z : State) (aa : Addr) (pa : Int32) (h0 : Heap) (n0 : Nat) (v : Option Value) (h : Heap) (L : List Loc) : Prop := v = some (.int (own_cc pa)) ∧ Fr n0 L ∧ h = h0
theorem rm21 (l : Launch) (Z : State) (a0 : Array Value) (hw : ∀ d ∈ tables_1, d.before a0 Z = true) (ws : List Jvm.Cond) (aa : Addr) (pa : Int32) (h0 : Heap) (n0 : Nat) (Z0 : n0 ≤ h0.size) :
    MetFree l (⟨"com/example/onus_on_beans/onusonbeans/validators/CheckDigitScheme$Luhn", "checkCharacterOf", "(I)C"⟩ : MethodName) (head1 (Jvm.Cond.code (⟨"com/example/onus_on_beans/onusonbeans/validators/CheckDigitScheme$Luhn", "checkCharacterOf", "(I)C"⟩ : MethodName) prog_17_method_3_code 2 (some .char) :: ws) ({ frames := 0, cells := 0, slots := 0, locals := 0 } : Room)) (fun a U => a = #[(.ref aa), (.int pa)] ∧ Z.Warmed39 U.vm ∧ U.heap = h0) (fun _ _ _ _ _ => True) (fun _ U o U' => ∃ v L, o = .returned v ∧ Q21 Z aa pa h0 n0 v U'.heap L ∧ FrameEnd U o U' L ({ frames := 0, cells := 0, slots := 0, locals := 0 } : Room).cells ({ frames := 0, cells := 0, slots := 0, locals := 0 } : Room).slots) := by
  refine MetFree.of_bodySF (plainFor_of_name own_pn237) hisR ?_
  intro p e s m args below meth c s₁ Bd hml0 hP hK
  have H := fun i c (h : tables_1[i]? = some c) => hw c (List.mem_of_getElem? h)
  obtain ⟨rfl, hZ, hh⟩ := hP
  have hx := Bd.exec
  have hby := Bd.bytes
  have hml : c.maxLocals = 2 := hml0
  have hown : s.vm.findClass "com/example/onus_on_beans/onusonbeans/validators/CheckDigitScheme$Luhn" = some m.cls := findClass_of_methodNamed Bd.named
  have hnm := (name_of_methodNamed Bd.named Bd.method).1
  have X0 : Stand p l e ({ frames := 0, cells := 0, slots := 0, locals := 0 } : Room) s m #[(.ref aa), (.int pa)] below meth c s₁ [] 0 0 := Stand.of_body Bd
  have e0 : s₁.heap = h0 := by rw [← hh, Bd.state]; rfl
  have N0 := Fr.nil n0
  have pre0 : ∀ t, Sp p e below m s₁ 0 #[vr aa, vi pa] [] t → Steps p.tables e below (s₁.setTop (entryFrame m #[(.ref aa), (.int pa)] 2)) t := fun t k => castTop (ef_21 m aa pa) k
  generalize s₁.setTop (entryFrame m #[(.ref aa), (.int pa)] 2) = G0 at pre0 ⊢
  obtain ⟨fs, hr, hrun, hended, hW, hsame⟩ := X0.leave (v := some (.int (nar .char (((48 : Int32) + (((10 : Int32) - pa) % (10 : Int32))).toUInt32.toUInt16.toUInt32.toInt32)))) (fun h => by rw [Bd.returns] at h; cases h)
  refine ⟨_, _, pre0 _ ?_, hrun, hended, _, _, rfl, ?_, ⟨_, rfl⟩, hW, hsame.mono (by decide) (by decide)⟩
  · show Sp p e below m s₁ 0 #[vr aa, vi pa] [] _
    refine XS.bipush X0.here hx rfl (hb hby d21_0) ?_
    refine XS.bipush X0.here hx rfl (hb hby d21_2) ?_
    refine XS.iloadN X0.here hx rfl (hb hby d21_4) rfl ?_
    refine XS.isub X0.here hx rfl (hb hby d21_5) rfl ?_
    refine XS.bipush X0.here hx rfl (hb hby d21_6) ?_
    refine iremM X0 hx rfl (hb hby d21_8) rfl (by decide) ?_
    show Sp p e below m s₁ 9 #[vr aa, vi pa] [(.int (((10 : Int32) - pa) % (10 : Int32))), (.int 48)] _
    refine XS.iadd X0.here hx rfl (hb hby d21_9) rfl ?_
    refine XS.i2c X0.here hx rfl (hb hby d21_10) rfl ?_
    exact retN X0 hx (t := .char) Bd.returns (by simp) (hb hby d21_11) hr
  · show Q21 Z aa pa h0 n0 _ s₁.heap _
    rw [e0]
    exact ⟨rfl, N0, rfl⟩
theorem d25_0 : decode prog_16_method_4_code 0 = .ok (.aload_n 0, 1) := by decide +kernel
theorem d25_1 : decode prog_16_method_4_code 1 = .ok (.getfield 9, 3) := by decide +kernel
theorem d25_4 : decode prog_16_method_4_code 4 = .ok (.ireturn, 1) := by decide +kernel
theorem ef_25 (m : MethodId) (x0 : Addr) : entryFrame m #[(.ref x0)] 1 = mkF m 0 #[.val (.ref x0)] [] := by first | (simp [entryFrame, mkF, argsToLocals, Value.category]; done) | rfl
def Q25 (Z : State) (aa : Addr) (h0 : Heap) (n0 : Nat) (v : Option Value) (h : Heap) (L : List Loc) : Prop := v = some (.int 10) ∧ Fr n0 L ∧ h = h0
theorem rm25 (l : Launch) (Z : State) (a0 : Array Value) (hw : ∀ d ∈ tables_1, d.before a0 Z = true) (ws : List Jvm.Cond) (aa : Addr) (h0 : Heap) (n0 : Nat) (Z0 : n0 ≤ h0.size) (Fm : Fld Z h0 aa "com/example/onus_on_beans/onusonbeans/validators/CheckDigitScheme" "modulus" "I" (.int 10)) :
    MetFree l (⟨"com/example/onus_on_beans/onusonbeans/validators/CheckDigitScheme", "modulus", "()I"⟩ : MethodName) (head1 (Jvm.Cond.code (⟨"com/example/onus_on_beans/onusonbeans/validators/CheckDigitScheme", "modulus", "()I"⟩ : MethodName) prog_16_method_4_code 1 (some .int) :: ws) ({ frames := 0, cells := 0, slots := 0, locals := 0 } : Room)) (fun a U => a = #[(.ref aa)] ∧ Z.Warmed39 U.vm ∧ U.heap = h0) (fun _ _ _ _ _ => True) (fun _ U o U' => ∃ v L, o = .returned v ∧ Q25 Z aa h0 n0 v U'.heap L ∧ FrameEnd U o U' L ({ frames := 0, cells := 0, slots := 0, locals := 0 } : Room).cells ({ frames := 0, cells := 0, slots := 0, locals := 0 } : Room).slots) := by
  refine MetFree.of_bodySF (plainFor_of_name own_pn202) hisR ?_
  intro p e s m args below meth c s₁ Bd hml0 hP hK
  have H := fun i c (h : tables_1[i]? = some c) => hw c (List.mem_of_getElem? h)
  obtain ⟨rfl, hZ, hh⟩ := hP
  have hx := Bd.exec
  have hby := Bd.bytes
  have hml : c.maxLocals = 1 := hml0
  have hown : s.vm.findClass "com/example/onus_on_beans/onusonbeans/validators/CheckDigitScheme" = some m.cls := findClass_of_methodNamed Bd.named
  have hnm := (name_of_methodNamed Bd.named Bd.method).1
  have X0 : Stand p l e ({ frames := 0, cells := 0, slots := 0, locals := 0 } : Room) s m #[(.ref aa)] below meth c s₁ [] 0 0 := Stand.of_body Bd
  have e0 : s₁.heap = h0 := by rw [← hh, Bd.state]; rfl
  have N0 := Fr.nil n0
  have pre0 : ∀ t, Sp p e below m s₁ 0 #[vr aa] [] t → Steps p.tables e below (s₁.setTop (entryFrame m #[(.ref aa)] 1)) t := fun t k => castTop (ef_25 m aa) k
  generalize s₁.setTop (entryFrame m #[(.ref aa)] 1) = G0 at pre0 ⊢
  obtain ⟨T800, X800, e800, st800⟩ := getF X0 hx hZ hown (host := "") (Or.inl (H 139 _ rfl)) Via.refl e0 Fm (g := (mkF m 1 #[vr aa] [(.ref aa)])) rfl rfl (hb hby d25_1)
  obtain ⟨fs, hr, hrun, hended, hW, hsame⟩ := X800.leave (v := some (.int 10)) (fun h => by rw [Bd.returns] at h; cases h)
  refine ⟨_, _, pre0 _ ?_, hrun, hended, _, _, rfl, ?_, ⟨_, rfl⟩, hW, hsame.mono (by decide) (by decide)⟩
  · show Sp p e below m s₁ 0 #[vr aa] [] _
    refine XS.aloadN X0.here hx rfl (hb hby d25_0) rfl rfl ?_
    refine st800 _ ?_
    show Sp p e below m T800 4 #[vr aa] [(.int 10)] _
    exact retI X800 hx Bd.returns (hb hby d25_4) hr
  · show Q25 Z aa h0 n0 _ T800.heap _
    rw [e800]
    exact ⟨rfl, N0, rfl⟩
theorem d6_0 : decode prog_14_method_3_code 0 = .ok (.iload_n 0, 1) := by decide +kernel
theorem d6_1 : decode prog_14_method_3_code 1 = .ok (.ifCond .eq 9, 3) := by decide +kernel
theorem d6_10 : decode prog_14_method_3_code 10 = .ok (.getstatic 71, 3) := by decide +kernel
theorem d6_13 : decode prog_14_method_3_code 13 = .ok (.areturn, 1) := by decide +kernel
theorem d6_4 : decode prog_14_method_3_code 4 = .ok (.getstatic 67, 3) := by decide +kernel
theorem d6_7 : decode prog_14_method_3_code 7 = .ok (.goto 6, 3) := by decide +kernel
theorem own_pn275 : plainName "com/example/onus_on_beans/onusonbeans/validators/CheckDigitRange" = true := by first | (simp [plainName, overriddenIn]; done) | decide +kernel
theorem ef_6 (m : MethodId) (x0 : Int32) : entryFrame m #[(.int x0)] 1 = mkF m 0 #[.val (.int x0)] [] := by first | (simp [entryFrame, mkF, argsToLocals, Value.category]; done) | rfl
def Q6 (Z : State) (pa : Int32) (aw0 : Addr) (aw1 : Addr) (h0 : Heap) (n0 : Nat) (v : Option Value) (h : Heap) (L : List Loc) : Prop := ∃ (aw : Addr), v = some (.ref aw) ∧ Fr n0 L ∧ h = h0 ∧ Exa Z h0 aw "com/example/onus_on_beans/onusonbeans/validators/CheckDigitRange" ∧ Fld Z h0 aw "com/example/onus_on_beans/onusonbeans/validators/CheckDigitRange" "end" "I" (.int 2147483647) ∧ Fld Z h0 aw "com/example/onus_on_beans/onusonbeans/validators/CheckDigitRange" "start" "I" (.int 0) ∧ Fld Z h0 aw "com/example/onus_on_beans/onusonbeans/validators/CheckDigitRange" "checkAt" "I" (.int (-1)) ∧ Fld Z h0 aw "com/example/onus_on_beans/onusonbeans/validators/CheckDigitRange" "ignoresOthers" "Z" (.int pa)
theorem rm6 (l : Launch) (Z : State) (a0 : Array Value) (hw : ∀ d ∈ tables_1, d.before a0 Z = true) (ws : List Jvm.Cond) (pa : Int32) (aw0 : Addr) (aw1 : Addr) (h0 : Heap) (n0 : Nat) (Z0 : n0 ≤ h0.size) (O0 : Old Z n0 h0) (Sw0 : Sta Z Z.heap "com/example/onus_on_beans/onusonbeans/validators/CheckDigitRange" "WHOLE_TEXT" "Lcom/example/onus_on_beans/onusonbeans/validators/CheckDigitRange;" (.ref aw0)) (Sw1 : Sta Z Z.heap "com/example/onus_on_beans/onusonbeans/validators/CheckDigitRange" "WHOLE_TEXT_OF_DIGITS" "Lcom/example/onus_on_beans/onusonbeans/validators/CheckDigitRange;" (.ref aw1)) (hpa : pa = 0 ∨ pa = 1) (Eu : Exa Z h0 aw0 "com/example/onus_on_beans/onusonbeans/validators/CheckDigitRange") (Fu_end : Fld Z h0 aw0 "com/example/onus_on_beans/onusonbeans/validators/CheckDigitRange" "end" "I" (.int 2147483647)) (Fu_start : Fld Z h0 aw0 "com/example/onus_on_beans/onusonbeans/validators/CheckDigitRange" "start" "I" (.int 0)) (Fu_checkAt : Fld Z h0 aw0 "com/example/onus_on_beans/onusonbeans/validators/CheckDigitRange" "checkAt" "I" (.int (-1))) (Fu_ignoresOthers : Fld Z h0 aw0 "com/example/onus_on_beans/onusonbeans/validators/CheckDigitRange" "ignoresOthers" "Z" (.int 0)) (Ev : Exa Z h0 aw1 "com/example/onus_on_beans/onusonbeans/validators/CheckDigitRange") (Fv_end : Fld Z h0 aw1 "com/example/onus_on_beans/onusonbeans/validators/CheckDigitRange" "end" "I" (.int 2147483647)) (Fv_start : Fld Z h0 aw1 "com/example/onus_on_beans/onusonbeans/validators/CheckDigitRange" "start" "I" (.int 0)) (Fv_checkAt : Fld Z h0 aw1 "com/example/onus_on_beans/onusonbeans/validators/CheckDigitRange" "checkAt" "I" (.int (-1))) (Fv_ignoresOthers : Fld Z h0 aw1 "com/example/onus_on_beans/onusonbeans/validators/CheckDigitRange" "ignoresOthers" "Z" (.int 1)) :
    MetFree l (⟨"com/example/onus_on_beans/onusonbeans/validators/CheckDigitRange", "wholeText", "(Z)Lcom/example/onus_on_beans/onusonbeans/validators/CheckDigitRange;"⟩ : MethodName) (head1 (Jvm.Cond.code (⟨"com/example/onus_on_beans/onusonbeans/validators/CheckDigitRange", "wholeText", "(Z)Lcom/example/onus_on_beans/onusonbeans/validators/CheckDigitRange;"⟩ : MethodName) prog_14_method_3_code 1 (some (.object "com/example/onus_on_beans/onusonbeans/validators/CheckDigitRange")) :: ws) ({ frames := 0, cells := 0, slots := 0, locals := 0 } : Room)) (fun a U => a = #[(.int pa)] ∧ Z.Warmed39 U.vm ∧ U.heap = h0) (fun _ _ _ _ _ => True) (fun _ U o U' => ∃ v L, o = .returned v ∧ Q6 Z pa aw0 aw1 h0 n0 v U'.heap L ∧ FrameEnd U o U' L ({ frames := 0, cells := 0, slots := 0, locals := 0 } : Room).cells ({ frames := 0, cells := 0, slots := 0, locals := 0 } : Room).slots) := by
  refine MetFree.of_bodySF (plainFor_of_name own_pn275) hisR ?_
  intro p e s m args below meth c s₁ Bd hml0 hP hK
  have H := fun i c (h : tables_1[i]? = some c) => hw c (List.mem_of_getElem? h)
  obtain ⟨rfl, hZ, hh⟩ := hP
  have hx := Bd.exec
  have hby := Bd.bytes
  have hml : c.maxLocals = 1 := hml0
  have hown : s.vm.findClass "com/example/onus_on_beans/onusonbeans/validators/CheckDigitRange" = some m.cls := findClass_of_methodNamed Bd.named
  have hnm := (name_of_methodNamed Bd.named Bd.method).1
  have X0 : Stand p l e ({ frames := 0, cells := 0, slots := 0, locals := 0 } : Room) s m #[(.int pa)] below meth c s₁ [] 0 0 := Stand.of_body Bd
  have e0 : s₁.heap = h0 := by rw [← hh, Bd.state]; rfl
  have N0 := Fr.nil n0
  have pre0 : ∀ t, Sp p e below m s₁ 0 #[vi pa] [] t → Steps p.tables e below (s₁.setTop (entryFrame m #[(.int pa)] 1)) t := fun t k => castTop (ef_6 m pa) k
  generalize s₁.setTop (entryFrame m #[(.int pa)] 1) = G0 at pre0 ⊢
  have pre805 : ∀ t, Sp p e below m s₁ 1 #[vi pa] [(.int pa)] t → SG p e below G0 t := by
    intro t k
    refine pre0 t ?_
    show Sp p e below m s₁ 0 #[vi pa] [] _
    refine XS.iloadN X0.here hx rfl (hb hby d6_0) rfl ?_
    exact k
  by_cases hc1_806 : pa = (0 : Int32)
  · obtain ⟨T807, X807, e807, st807⟩ := getS2 X0 hx hZ hown (host := "") (Or.inl (H 33 _ rfl)) Via.refl e0 (Sw0.ext O0.2) (g := (mkF m 10 #[vi pa] [])) rfl (hb hby d6_10)
    obtain ⟨fs, hr, hrun, hended, hW, hsame⟩ := X807.leave (v := some (.ref aw0)) (fun h => by rw [Bd.returns] at h; cases h)
    refine ⟨_, _, pre805 _ ?_, hrun, hended, _, _, rfl, ?_, ⟨_, rfl⟩, hW, hsame.mono (by decide) (by decide)⟩
    · show Sp p e below m s₁ 1 #[vi pa] [(.int pa)] _
      refine XS.ifYes X0.here hx rfl (pc0 := 1) (pc' := 10) rfl (hb hby d6_1) rfl ((if0 _ _).trans (teq hc1_806).1) (by decide) (by decide) ?_
      refine st807 _ ?_
      show Sp p e below m T807 13 #[vi pa] [(.ref aw0)] _
      jvm_step X807.here [X807.here.top, hx, (hb hby d6_13), X807.method', Bd.returns, Value.isRef, FieldType.isReference]
      first | (intro acts; rw [hr _ acts rfl rfl rfl]) | rw [hr _ _ rfl rfl rfl]
      exact Steps.refl _
    · show Q6 Z pa aw0 aw1 h0 n0 _ T807.heap _
      rw [e807]
      exact ⟨aw0, rfl, N0, rfl, Eu, Fu_end, Fu_start, Fu_checkAt, (by rw [show pa = 0 from hc1_806]; exact Fu_ignoresOthers)⟩
  · obtain ⟨T808, X808, e808, st808⟩ := getS2 X0 hx hZ hown (host := "") (Or.inl (H 73 _ rfl)) Via.refl e0 (Sw1.ext O0.2) (g := (mkF m 4 #[vi pa] [])) rfl (hb hby d6_4)
    obtain ⟨fs, hr, hrun, hended, hW, hsame⟩ := X808.leave (v := some (.ref aw1)) (fun h => by rw [Bd.returns] at h; cases h)
    refine ⟨_, _, pre805 _ ?_, hrun, hended, _, _, rfl, ?_, ⟨_, rfl⟩, hW, hsame.mono (by decide) (by decide)⟩
    · show Sp p e below m s₁ 1 #[vi pa] [(.int pa)] _
      refine XS.ifNo X0.here hx rfl (hb hby d6_1) rfl ((if0 _ _).trans (feq hc1_806).1) ?_
      refine st808 _ ?_
      show Sp p e below m T808 7 #[vi pa] [(.ref aw1)] _
      refine XS.goto X808.here hx rfl (pc0 := 7) (pc' := 13) rfl (hb hby d6_7) (by decide) (by decide) ?_
      jvm_step X808.here [X808.here.top, hx, (hb hby d6_13), X808.method', Bd.returns, Value.isRef, FieldType.isReference]
      first | (intro acts; rw [hr _ acts rfl rfl rfl]) | rw [hr _ _ rfl rfl rfl]
      exact Steps.refl _
    · show Q6 Z pa aw0 aw1 h0 n0 _ T808.heap _
      rw [e808]
      exact ⟨aw1, rfl, N0, rfl, Ev, Fv_end, Fv_start, Fv_checkAt, (by rw [show pa = 1 from hpa.resolve_left hc1_806]; exact Fv_ignoresOthers)⟩
theorem d18_0 : decode jdk_41_method_11_code 0 = .ok (.iload_n 0, 1) := by decide +kernel
theorem d18_1 : decode jdk_41_method_11_code 1 = .ok (.ifCond .lt 8, 3) := by decide +kernel
theorem d18_4 : decode jdk_41_method_11_code 4 = .ok (.iload_n 0, 1) := by decide +kernel
theorem d18_5 : decode jdk_41_method_11_code 5 = .ok (.iload_n 1, 1) := by decide +kernel
theorem d18_6 : decode jdk_41_method_11_code 6 = .ok (.if_icmp .lt 10, 3) := by decide +kernel
theorem d18_16 : decode jdk_41_method_11_code 16 = .ok (.iload_n 0, 1) := by decide +kernel
theorem d18_17 : decode jdk_41_method_11_code 17 = .ok (.ireturn, 1) := by decide +kernel
theorem own_pn283 : plainName "jdk/internal/util/Preconditions" = true := by first | (simp [plainName, overriddenIn]; done) | decide +kernel
theorem ef_18 (m : MethodId) (x0 : Int32) (x1 : Int32) (x2 : Value) (hx2 : x2.isRef = true) : entryFrame m #[(.int x0), (.int x1), x2] 3 = mkF m 0 #[.val (.int x0), .val (.int x1), .val x2] [] := by rcases ref_cases hx2 with rfl | ⟨y2, rfl⟩ <;> first | (simp [entryFrame, mkF, argsToLocals, Value.category]; done) | rfl
def Q18 (Z : State) (pi : Int32) (pn : Int32) (vf : Value) (h0 : Heap) (n0 : Nat) (v : Option Value) (h : Heap) (L : List Loc) : Prop := v = some (.int pi) ∧ Fr n0 L ∧ h = h0
theorem rm18 (l : Launch) (Z : State) (a0 : Array Value) (hw : ∀ d ∈ tables_1, d.before a0 Z = true) (ws : List Jvm.Cond) (pi : Int32) (pn : Int32) (vf : Value) (h0 : Heap) (n0 : Nat) (Z0 : n0 ≤ h0.size) (hvf : vf.isRef = true) (h0i : ¬ pi < (0 : Int32)) (hlt : pi < pn) :
    MetFree l (⟨"jdk/internal/util/Preconditions", "checkIndex", "(IILjava/util/function/BiFunction;)I"⟩ : MethodName) (head1 (Jvm.Cond.code (⟨"jdk/internal/util/Preconditions", "checkIndex", "(IILjava/util/function/BiFunction;)I"⟩ : MethodName) jdk_41_method_11_code 3 (some .int) :: ws) ({ frames := 0, cells := 0, slots := 0, locals := 0 } : Room)) (fun a U => a = #[(.int pi), (.int pn), vf] ∧ Z.Warmed39 U.vm ∧ U.heap = h0) (fun _ _ _ _ _ => True) (fun _ U o U' => ∃ v L, o = .returned v ∧ Q18 Z pi pn vf h0 n0 v U'.heap L ∧ FrameEnd U o U' L ({ frames := 0, cells := 0, slots := 0, locals := 0 } : Room).cells ({ frames := 0, cells := 0, slots := 0, locals := 0 } : Room).slots) := by
  refine MetFree.of_bodySF (plainFor_of_name own_pn283) hisR ?_
  intro p e s m args below meth c s₁ Bd hml0 hP hK
  have H := fun i c (h : tables_1[i]? = some c) => hw c (List.mem_of_getElem? h)
  obtain ⟨rfl, hZ, hh⟩ := hP
  have hx := Bd.exec
  have hby := Bd.bytes
  have hml : c.maxLocals = 3 := hml0
  have hown : s.vm.findClass "jdk/internal/util/Preconditions" = some m.cls := findClass_of_methodNamed Bd.named
  have hnm := (name_of_methodNamed Bd.named Bd.method).1
  have X0 : Stand p l e ({ frames := 0, cells := 0, slots := 0, locals := 0 } : Room) s m #[(.int pi), (.int pn), vf] below meth c s₁ [] 0 0 := Stand.of_body Bd
  have e0 : s₁.heap = h0 := by rw [← hh, Bd.state]; rfl
  have N0 := Fr.nil n0
  have pre0 : ∀ t, Sp p e below m s₁ 0 #[vi pi, vi pn, .val vf] [] t → Steps p.tables e below (s₁.setTop (entryFrame m #[(.int pi), (.int pn), vf] 3)) t := fun t k => castTop (ef_18 m pi pn vf hvf) k
  generalize s₁.setTop (entryFrame m #[(.int pi), (.int pn), vf] 3) = G0 at pre0 ⊢
  obtain ⟨fs, hr, hrun, hended, hW, hsame⟩ := X0.leave (v := some (.int pi)) (fun h => by rw [Bd.returns] at h; cases h)
  refine ⟨_, _, pre0 _ ?_, hrun, hended, _, _, rfl, ?_, ⟨_, rfl⟩, hW, hsame.mono (by decide) (by decide)⟩
  · show Sp p e below m s₁ 0 #[vi pi, vi pn, .val vf] [] _
    refine XS.iloadN X0.here hx rfl (hb hby d18_0) rfl ?_
    refine XS.ifNo X0.here hx rfl (hb hby d18_1) rfl ((if0 _ _).trans (flt (h0i : ¬ (pi < (0 : Int32)))).1) ?_
    refine XS.iloadN X0.here hx rfl (hb hby d18_4) rfl ?_
    refine XS.iloadN X0.here hx rfl (hb hby d18_5) rfl ?_
    refine XS.icmpYes X0.here hx rfl (pc0 := 6) (pc' := 16) rfl (hb hby d18_6) rfl (tlt (hlt : (pi < pn))).1 (by decide) (by decide) ?_
    refine XS.iloadN X0.here hx rfl (hb hby d18_16) rfl ?_
    exact retI X0 hx Bd.returns (hb hby d18_17) hr
  · show Q18 Z pi pn vf h0 n0 _ s₁.heap _
    rw [e0]
    exact ⟨rfl, N0, rfl⟩
theorem d17_0 : decode jdk_42_method_155_code 0 = .ok (.iload_n 0, 1) := by decide +kernel
theorem d17_1 : decode jdk_42_method_155_code 1 = .ok (.iload_n 1, 1) := by decide +kernel
theorem d17_2 : decode jdk_42_method_155_code 2 = .ok (.getstatic 1053, 3) := by decide +kernel
theorem d17_5 : decode jdk_42_method_155_code 5 = .ok (.invokestatic 1059, 3) := by decide +kernel
theorem own_pd288 : parseMethodDescriptor "(IILjava/util/function/BiFunction;)I" = some ⟨[.int, .int, (.object "java/util/function/BiFunction")], some .int⟩ := by decide +kernel
theorem d17_8 : decode jdk_42_method_155_code 8 = .ok (.pop, 1) := by decide +kernel
theorem d17_9 : decode jdk_42_method_155_code 9 = .ok (.return_, 1) := by decide +kernel
theorem ef_17 (m : MethodId) (x0 : Int32) (x1 : Int32) : entryFrame m #[(.int x0), (.int x1)] 2 = mkF m 0 #[.val (.int x0), .val (.int x1)] [] := by first | (simp [entryFrame, mkF, argsToLocals, Value.category]; done) | rfl
def Q17 (Z : State) (pi : Int32) (pn : Int32) (cs : Int32) (vf : Value) (h0 : Heap) (n0 : Nat) (v : Option Value) (h : Heap) (L : List Loc) : Prop := v = none ∧ Fr n0 L ∧ h = h0
theorem rm17 (l : Launch) (Z : State) (a0 : Array Value) (hw : ∀ d ∈ tables_1, d.before a0 Z = true) (ws : List Jvm.Cond) (pi : Int32) (pn : Int32) (cs : Int32) (vf : Value) (h0 : Heap) (n0 : Nat) (Z0 : n0 ≤ h0.size) (O0 : Old Z n0 h0) (Scs : Sta Z Z.heap "java/lang/String" "COMPACT_STRINGS" "Z" (.int cs)) (hcs : ¬ cs = (0 : Int32)) (Ssf : Sta Z Z.heap "jdk/internal/util/Preconditions" "SIOOBE_FORMATTER" "Ljava/util/function/BiFunction;" vf) (hvf : vf.isRef = true) (h0i : ¬ pi < (0 : Int32)) (hlt : pi < pn) :
    MetFree l (⟨"java/lang/String", "checkIndex", "(II)V"⟩ : MethodName) (head1 (Jvm.Cond.code (⟨"java/lang/String", "checkIndex", "(II)V"⟩ : MethodName) jdk_42_method_155_code 2 none :: ws) ({ frames := 1, cells := 0, slots := 0, locals := 14 } : Room)) (fun a U => a = #[(.int pi), (.int pn)] ∧ Z.Warmed39 U.vm ∧ U.heap = h0) (fun _ _ _ _ _ => True) (fun _ U o U' => ∃ v L, o = .returned v ∧ Q17 Z pi pn cs vf h0 n0 v U'.heap L ∧ FrameEnd U o U' L ({ frames := 1, cells := 0, slots := 0, locals := 14 } : Room).cells ({ frames := 1, cells := 0, slots := 0, locals := 14 } : Room).slots) := by
  refine MetFree.of_bodySF (plainFor_of_name own_pn13) hisR ?_
  intro p e s m args below meth c s₁ Bd hml0 hP hK
  have H := fun i c (h : tables_1[i]? = some c) => hw c (List.mem_of_getElem? h)
  obtain ⟨rfl, hZ, hh⟩ := hP
  have hx := Bd.exec
  have hby := Bd.bytes
  have hml : c.maxLocals = 2 := hml0
  have hown : s.vm.findClass "java/lang/String" = some m.cls := findClass_of_methodNamed Bd.named
  have hnm := (name_of_methodNamed Bd.named Bd.method).1
  have X0 : Stand p l e ({ frames := 1, cells := 0, slots := 0, locals := 14 } : Room) s m #[(.int pi), (.int pn)] below meth c s₁ [] 0 0 := Stand.of_body Bd
  have e0 : s₁.heap = h0 := by rw [← hh, Bd.state]; rfl
  have N0 := Fr.nil n0
  have pre0 : ∀ t, Sp p e below m s₁ 0 #[vi pi, vi pn] [] t → Steps p.tables e below (s₁.setTop (entryFrame m #[(.int pi), (.int pn)] 2)) t := fun t k => castTop (ef_17 m pi pn) k
  generalize s₁.setTop (entryFrame m #[(.int pi), (.int pn)] 2) = G0 at pre0 ⊢
  obtain ⟨T811, X811, e811, st811⟩ := getS2 X0 hx hZ hown (host := "") (Or.inl (H 103 _ rfl)) Via.refl e0 (Ssf.ext O0.2) (g := (mkF m 2 #[vi pi, vi pn] [(.int pn), (.int pi)])) rfl (hb hby d17_2)
  obtain ⟨_, _, ⟨T812, L812, k812, n812⟩, -, X812, ⟨Lc812, hQ812, l812, y812, z812⟩, st812⟩ := Jvm.LawKit.callS X811 hx hown (mvT hZ (H 105 _ rfl)) (mvT hZ (H 106 _ rfl)) (mvT hZ (H 104 _ rfl)) (mvT hZ (H 107 _ rfl)) (by decide) (backOf (W := 0) (rm18 l Z a0 hw [] pi pn vf  h0 n0 Z0 hvf h0i hlt) hZ (H 107 _ rfl) (H 104 _ rfl) (by decide) (by decide)) (g := (mkF m 5 #[vi pi, vi pn] [vf, (.int pn), (.int pi)])) rfl (by rw [hml]; rfl) (argsL := [(.int pi), (.int pn), vf]) (rest := []) (lenOf own_pd288 rfl) rfl (Nat.le_of_eq rfl) (hb hby d17_5) (fun _ _ => ⟨rfl, e811, Nat.zero_le _, Nat.zero_le _⟩)
  dsimp only [Pt.U, Pt.locs, Pt.cells, Pt.slots] at X812 l812 y812 z812 st812 hQ812
  rw [l812, y812, z812] at X812
  obtain ⟨rfl, Nq812, e812⟩ := hQ812
  have N812 := Fr.app N0 Nq812
  obtain ⟨fs, hr, hrun, hended, hW, hsame⟩ := X812.leave (v := none) (fun _ => rfl)
  refine ⟨_, _, pre0 _ ?_, hrun, hended, _, _, rfl, ?_, ⟨_, rfl⟩, hW, hsame.mono (by decide) (by decide)⟩
  · show Sp p e below m s₁ 0 #[vi pi, vi pn] [] _
    refine XS.iloadN X0.here hx rfl (hb hby d17_0) rfl ?_
    refine XS.iloadN X0.here hx rfl (hb hby d17_1) rfl ?_
    refine st811 _ ?_
    show Sp p e below m T811 5 #[vi pi, vi pn] [vf, (.int pn), (.int pi)] _
    refine st812 _ ?_
    show Sp p e below m T812 8 #[vi pi, vi pn] [(.int pi)] _
    refine XS.pop X812.here hx rfl (hb hby d17_8) rfl rfl ?_
    exact X812.returnOut hx Bd.returns (hb hby d17_9) hr
  · show Q17 Z pi pn cs vf h0 n0 _ T812.heap _
    rw [e812]
    exact ⟨rfl, N812, rfl⟩
theorem d16_0 : decode jdk_43_method_2_code 0 = .ok (.iload_n 1, 1) := by decide +kernel
theorem d16_1 : decode jdk_43_method_2_code 1 = .ok (.aload_n 0, 1) := by decide +kernel
theorem d16_2 : decode jdk_43_method_2_code 2 = .ok (.arraylength, 1) := by decide +kernel
theorem d16_3 : decode jdk_43_method_2_code 3 = .ok (.invokestatic 9, 3) := by decide +kernel
theorem own_pd295 : parseMethodDescriptor "(II)V" = some ⟨[.int, .int], none⟩ := by decide +kernel
theorem d16_6 : decode jdk_43_method_2_code 6 = .ok (.aload_n 0, 1) := by decide +kernel
theorem d16_7 : decode jdk_43_method_2_code 7 = .ok (.iload_n 1, 1) := by decide +kernel
theorem d16_8 : decode jdk_43_method_2_code 8 = .ok (.baload, 1) := by decide +kernel
theorem d16_9 : decode jdk_43_method_2_code 9 = .ok (.sipush 255, 3) := by decide +kernel
theorem d16_12 : decode jdk_43_method_2_code 12 = .ok (.iand, 1) := by decide +kernel
theorem d16_13 : decode jdk_43_method_2_code 13 = .ok (.i2c, 1) := by decide +kernel
theorem d16_14 : decode jdk_43_method_2_code 14 = .ok (.ireturn, 1) := by decide +kernel
theorem own_pn303 : plainName "java/lang/StringLatin1" = true := by first | (simp [plainName, overriddenIn]; done) | decide +kernel
theorem ef_16 (m : MethodId) (x0 : Addr) (x1 : Int32) : entryFrame m #[(.ref x0), (.int x1)] 2 = mkF m 0 #[.val (.ref x0), .val (.int x1)] [] := by first | (simp [entryFrame, mkF, argsToLocals, Value.category]; done) | rfl
def Q16 (Z : State) (ab : Addr) (pi : Int32) (cs : Int32) (vf : Value) (kb : ClassId) (zn : Int32) (vs : List Value) (bv : Int32) (h0 : Heap) (n0 : Nat) (v : Option Value) (h : Heap) (L : List Loc) : Prop := v = some (.int (own_lat bv)) ∧ Fr n0 L ∧ h = h0
theorem rm16 (l : Launch) (Z : State) (a0 : Array Value) (hw : ∀ d ∈ tables_1, d.before a0 Z = true) (ws : List Jvm.Cond) (ab : Addr) (pi : Int32) (cs : Int32) (vf : Value) (kb : ClassId) (zn : Int32) (vs : List Value) (bv : Int32) (h0 : Heap) (n0 : Nat) (Z0 : n0 ≤ h0.size) (O0 : Old Z n0 h0) (Scs : Sta Z Z.heap "java/lang/String" "COMPACT_STRINGS" "Z" (.int cs)) (hcs : ¬ cs = (0 : Int32)) (Ssf : Sta Z Z.heap "jdk/internal/util/Preconditions" "SIOOBE_FORMATTER" "Ljava/util/function/BiFunction;" vf) (hvf : vf.isRef = true) (Va : Arv Z h0 ab kb .byte zn vs (.int 0)) (h0i : ¬ pi < (0 : Int32)) (hlt : pi < zn) (hget : vs.getD pi.toNatClampNeg (.int 0) = .int bv) :
    MetFree l (⟨"java/lang/StringLatin1", "charAt", "([BI)C"⟩ : MethodName) (head1 (Jvm.Cond.code (⟨"java/lang/StringLatin1", "charAt", "([BI)C"⟩ : MethodName) jdk_43_method_2_code 2 (some .char) :: ws) ({ frames := 2, cells := 0, slots := 0, locals := 27 } : Room)) (fun a U => a = #[(.ref ab), (.int pi)] ∧ Z.Warmed39 U.vm ∧ U.heap = h0) (fun _ _ _ _ _ => True) (fun _ U o U' => ∃ v L, o = .returned v ∧ Q16 Z ab pi cs vf kb zn vs bv h0 n0 v U'.heap L ∧ FrameEnd U o U' L ({ frames := 2, cells := 0, slots := 0, locals := 27 } : Room).cells ({ frames := 2, cells := 0, slots := 0, locals := 27 } : Room).slots) := by
  refine MetFree.of_bodySF (plainFor_of_name own_pn303) hisR ?_
  intro p e s m args below meth c s₁ Bd hml0 hP hK
  have H := fun i c (h : tables_1[i]? = some c) => hw c (List.mem_of_getElem? h)
  obtain ⟨rfl, hZ, hh⟩ := hP
  have hx := Bd.exec
  have hby := Bd.bytes
  have hml : c.maxLocals = 2 := hml0
  have hown : s.vm.findClass "java/lang/StringLatin1" = some m.cls := findClass_of_methodNamed Bd.named
  have hnm := (name_of_methodNamed Bd.named Bd.method).1
  have X0 : Stand p l e ({ frames := 2, cells := 0, slots := 0, locals := 27 } : Room) s m #[(.ref ab), (.int pi)] below meth c s₁ [] 0 0 := Stand.of_body Bd
  have e0 : s₁.heap = h0 := by rw [← hh, Bd.state]; rfl
  have N0 := Fr.nil n0
  have pre0 : ∀ t, Sp p e below m s₁ 0 #[vr ab, vi pi] [] t → Steps p.tables e below (s₁.setTop (entryFrame m #[(.ref ab), (.int pi)] 2)) t := fun t k => castTop (ef_16 m ab pi) k
  generalize s₁.setTop (entryFrame m #[(.ref ab), (.int pi)] 2) = G0 at pre0 ⊢
  obtain ⟨cl816, Ar816, -, S816, M816, -, -⟩ := id Va
  obtain ⟨_, _, ⟨T817, L817, k817, n817⟩, -, X817, ⟨Lc817, hQ817, l817, y817, z817⟩, st817⟩ := Jvm.LawKit.callS X0 hx hown (mvT hZ (H 100 _ rfl)) (mvT hZ (H 101 _ rfl)) (mvT hZ (H 9 _ rfl)) (mvT hZ (H 102 _ rfl)) (by decide) (backOf (W := 0) (rm17 l Z a0 hw [] pi zn cs vf h0 n0 Z0 O0 Scs hcs Ssf hvf h0i hlt) hZ (H 102 _ rfl) (H 9 _ rfl) (by decide) (by decide)) (g := (mkF m 3 #[vr ab, vi pi] [(.int zn), (.int pi)])) rfl (by rw [hml]; rfl) (argsL := [(.int pi), (.int zn)]) (rest := []) (lenOf own_pd295 rfl) rfl (Nat.le_of_eq rfl) (hb hby d16_3) (fun _ _ => ⟨rfl, e0, Nat.zero_le _, Nat.zero_le _⟩)
  dsimp only [Pt.U, Pt.locs, Pt.cells, Pt.slots] at X817 l817 y817 z817 st817 hQ817
  rw [l817, y817, z817] at X817
  obtain ⟨rfl, Nq817, e817⟩ := hQ817
  have N817 := Fr.app N0 Nq817
  obtain ⟨cl818, Ar818, -, S818, -, H818, -⟩ := id Va
  have hin818 : ¬ (pi < 0 ∨ cl818.slots.size ≤ (pi).toNatClampNeg) := inb_of S818 ⟨h0i, hlt⟩
  have hat818 : cl818.slots[(pi).toNatClampNeg]? = some (.int bv) := H818.at hin818 hget
  obtain ⟨fs, hr, hrun, hended, hW, hsame⟩ := X817.leave (v := some (.int (nar .char ((bv &&& (255 : Int32)).toUInt32.toUInt16.toUInt32.toInt32)))) (fun h => by rw [Bd.returns] at h; cases h)
  refine ⟨_, _, pre0 _ ?_, hrun, hended, _, _, rfl, ?_, ⟨_, rfl⟩, hW, hsame.mono (by decide) (by decide)⟩
  · show Sp p e below m s₁ 0 #[vr ab, vi pi] [] _
    refine XS.iloadN X0.here hx rfl (hb hby d16_0) rfl ?_
    refine XS.aloadN X0.here hx rfl (hb hby d16_1) rfl rfl ?_
    refine X0.arraylength hx (by rw [e0]; exact Ar816.1) (State.isArrayOf_alike hZ.alike Ar816.2.1) (g := (mkF m 2 #[vr ab, vi pi] [(.ref ab), (.int pi)])) rfl rfl (hb hby d16_2) _ ?_
    rw [len_of S816 M816]
    show Sp p e below m s₁ 3 #[vr ab, vi pi] [(.int zn), (.int pi)] _
    refine st817 _ ?_
    show Sp p e below m T817 6 #[vr ab, vi pi] [] _
    refine XS.aloadN X817.here hx rfl (hb hby d16_6) rfl rfl ?_
    refine XS.iloadN X817.here hx rfl (hb hby d16_7) rfl ?_
    refine X817.baloadBytes hx (j := pi) (v := (.int bv)) (by rw [e817]; exact Ar818.1) (State.isArrayOf_alike hZ.alike Ar818.2.1) Ar818.2.2 hin818 hat818 (g := (mkF m 8 #[vr ab, vi pi] [(.int pi), (.ref ab)])) rfl rfl (hb hby d16_8) _ ?_
    show Sp p e below m T817 9 #[vr ab, vi pi] [(.int bv)] _
    refine XS.sipush X817.here hx rfl (hb hby d16_9) ?_
    refine XS.iand X817.here hx rfl (hb hby d16_12) rfl ?_
    refine XS.i2c X817.here hx rfl (hb hby d16_13) rfl ?_
    exact retN X817 hx (t := .char) Bd.returns (by simp) (hb hby d16_14) hr
  · show Q16 Z ab pi cs vf kb zn vs bv h0 n0 _ T817.heap _
    rw [e817]
    exact ⟨rfl, N817, rfl⟩
theorem d15_0 : decode jdk_42_method_154_code 0 = .ok (.getstatic 38, 3) := by decide +kernel
theorem d15_3 : decode jdk_42_method_154_code 3 = .ok (.ifCond .eq 14, 3) := by decide +kernel
theorem d15_6 : decode jdk_42_method_154_code 6 = .ok (.aload_n 0, 1) := by decide +kernel
theorem d15_7 : decode jdk_42_method_154_code 7 = .ok (.getfield 15, 3) := by decide +kernel
theorem d15_10 : decode jdk_42_method_154_code 10 = .ok (.ifCond .ne 7, 3) := by decide +kernel
theorem d15_13 : decode jdk_42_method_154_code 13 = .ok (.iconst 1, 1) := by decide +kernel
theorem d15_14 : decode jdk_42_method_154_code 14 = .ok (.goto 4, 3) := by decide +kernel
theorem d15_18 : decode jdk_42_method_154_code 18 = .ok (.ireturn, 1) := by decide +kernel
theorem ef_15 (m : MethodId) (x0 : Addr) : entryFrame m #[(.ref x0)] 1 = mkF m 0 #[.val (.ref x0)] [] := by first | (simp [entryFrame, mkF, argsToLocals, Value.category]; done) | rfl
def Q15 (Z : State) (aa : Addr) (cs : Int32) (vf : Value) (h0 : Heap) (n0 : Nat) (v : Option Value) (h : Heap) (L : List Loc) : Prop := v = some (.int 1) ∧ Fr n0 L ∧ h = h0
theorem rm15 (l : Launch) (Z : State) (a0 : Array Value) (hw : ∀ d ∈ tables_1, d.before a0 Z = true) (ws : List Jvm.Cond) (aa : Addr) (cs : Int32) (vf : Value) (h0 : Heap) (n0 : Nat) (Z0 : n0 ≤ h0.size) (O0 : Old Z n0 h0) (Scs : Sta Z Z.heap "java/lang/String" "COMPACT_STRINGS" "Z" (.int cs)) (hcs : ¬ cs = (0 : Int32)) (Ssf : Sta Z Z.heap "jdk/internal/util/Preconditions" "SIOOBE_FORMATTER" "Ljava/util/function/BiFunction;" vf) (hvf : vf.isRef = true) (Fc : Fld Z h0 aa "java/lang/String" "coder" "B" (.int 0)) :
    MetFree l (⟨"java/lang/String", "isLatin1", "()Z"⟩ : MethodName) (head1 (Jvm.Cond.code (⟨"java/lang/String", "isLatin1", "()Z"⟩ : MethodName) jdk_42_method_154_code 1 (some .boolean) :: ws) ({ frames := 0, cells := 0, slots := 0, locals := 0 } : Room)) (fun a U => a = #[(.ref aa)] ∧ Z.Warmed39 U.vm ∧ U.heap = h0) (fun _ _ _ _ _ => True) (fun _ U o U' => ∃ v L, o = .returned v ∧ Q15 Z aa cs vf h0 n0 v U'.heap L ∧ FrameEnd U o U' L ({ frames := 0, cells := 0, slots := 0, locals := 0 } : Room).cells ({ frames := 0, cells := 0, slots := 0, locals := 0 } : Room).slots) := by
  refine MetFree.of_bodySF (plainFor_of_name own_pn13) hisR ?_
  intro p e s m args below meth c s₁ Bd hml0 hP hK
  have H := fun i c (h : tables_1[i]? = some c) => hw c (List.mem_of_getElem? h)
  obtain ⟨rfl, hZ, hh⟩ := hP
  have hx := Bd.exec
  have hby := Bd.bytes
  have hml : c.maxLocals = 1 := hml0
  have hown : s.vm.findClass "java/lang/String" = some m.cls := findClass_of_methodNamed Bd.named
  have hnm := (name_of_methodNamed Bd.named Bd.method).1
  have X0 : Stand p l e ({ frames := 0, cells := 0, slots := 0, locals := 0 } : Room) s m #[(.ref aa)] below meth c s₁ [] 0 0 := Stand.of_body Bd
  have e0 : s₁.heap = h0 := by rw [← hh, Bd.state]; rfl
  have N0 := Fr.nil n0
  have pre0 : ∀ t, Sp p e below m s₁ 0 #[vr aa] [] t → Steps p.tables e below (s₁.setTop (entryFrame m #[(.ref aa)] 1)) t := fun t k => castTop (ef_15 m aa) k
  generalize s₁.setTop (entryFrame m #[(.ref aa)] 1) = G0 at pre0 ⊢
  obtain ⟨T821, X821, e821, st821⟩ := getS2 X0 hx hZ hown (host := "") (Or.inl (H 60 _ rfl)) Via.refl e0 (Scs.ext O0.2) (g := (mkF m 0 #[vr aa] [])) rfl (hb hby d15_0)
  obtain ⟨T822, X822, e822, st822⟩ := getF X821 hx hZ hown (host := "") (Or.inl (H 28 _ rfl)) Via.refl e821 Fc (g := (mkF m 7 #[vr aa] [(.ref aa)])) rfl rfl (hb hby d15_7)
  obtain ⟨fs, hr, hrun, hended, hW, hsame⟩ := X822.leave (v := some (.int 1)) (fun h => by rw [Bd.returns] at h; cases h)
  refine ⟨_, _, pre0 _ ?_, hrun, hended, _, _, rfl, ?_, ⟨_, rfl⟩, hW, hsame.mono (by decide) (by decide)⟩
  · show Sp p e below m s₁ 0 #[vr aa] [] _
    refine st821 _ ?_
    show Sp p e below m T821 3 #[vr aa] [(.int cs)] _
    refine XS.ifNo X821.here hx rfl (hb hby d15_3) rfl ((if0 _ _).trans (feq (hcs : ¬ (cs = (0 : Int32)))).1) ?_
    refine XS.aloadN X821.here hx rfl (hb hby d15_6) rfl rfl ?_
    refine st822 _ ?_
    show Sp p e below m T822 10 #[vr aa] [(.int 0)] _
    refine XS.ifNo X822.here hx rfl (hb hby d15_10) rfl ((if0 _ _).trans (teq (by decide : ((0 : Int32) = (0 : Int32)))).2) ?_
    refine XS.iconst X822.here hx rfl (hb hby d15_13) ?_
    refine XS.goto X822.here hx rfl (pc0 := 14) (pc' := 18) rfl (hb hby d15_14) (by decide) (by decide) ?_
    exact retN X822 hx (t := .boolean) Bd.returns (by simp) (hb hby d15_18) hr
  · show Q15 Z aa cs vf h0 n0 _ T822.heap _
    rw [e822]
    exact ⟨rfl, N0, rfl⟩
theorem own_latlat (b : Int32) : some (Value.int (nar .char (own_lat b))) = some (Value.int (own_lat b)) := by
  have h : nar .char (own_lat b) = own_lat b := by
    apply Int32.toInt_inj.mp
    have h1 := c_i2c ((b &&& (255 : Int32)).toUInt32.toUInt16.toUInt32.toInt32)
    have h2 := c_i2c (own_lat b)
    show (own_lat b).toUInt32.toUInt16.toUInt32.toInt32.toInt = (own_lat b).toInt
    have e : (own_lat b).toInt = ((b &&& (255 : Int32)).toUInt32.toUInt16.toUInt32.toInt32).toUInt32.toUInt16.toUInt32.toInt32.toInt := rfl
    omega
  rw [h]
theorem d14_0 : decode jdk_42_method_56_code 0 = .ok (.aload_n 0, 1) := by decide +kernel
theorem d14_1 : decode jdk_42_method_56_code 1 = .ok (.invokevirtual 492, 3) := by decide +kernel
theorem own_pd314 : parseMethodDescriptor "()Z" = some ⟨[], some .boolean⟩ := by decide +kernel
theorem d14_4 : decode jdk_42_method_56_code 4 = .ok (.ifCond .eq 12, 3) := by decide +kernel
theorem d14_7 : decode jdk_42_method_56_code 7 = .ok (.aload_n 0, 1) := by decide +kernel
theorem d14_8 : decode jdk_42_method_56_code 8 = .ok (.getfield 9, 3) := by decide +kernel
theorem d14_11 : decode jdk_42_method_56_code 11 = .ok (.iload_n 1, 1) := by decide +kernel
theorem d14_12 : decode jdk_42_method_56_code 12 = .ok (.invokestatic 495, 3) := by decide +kernel
theorem own_pd320 : parseMethodDescriptor "([BI)C" = some ⟨[(.array .byte), .int], some .char⟩ := by decide +kernel
theorem d14_15 : decode jdk_42_method_56_code 15 = .ok (.ireturn, 1) := by decide +kernel
theorem ef_14 (m : MethodId) (x0 : Addr) (x1 : Int32) : entryFrame m #[(.ref x0), (.int x1)] 2 = mkF m 0 #[.val (.ref x0), .val (.int x1)] [] := by first | (simp [entryFrame, mkF, argsToLocals, Value.category]; done) | rfl
def Q14 (Z : State) (aa : Addr) (pi : Int32) (cs : Int32) (vf : Value) (ab : Addr) (kb : ClassId) (zn : Int32) (vs : List Value) (bv : Int32) (h0 : Heap) (n0 : Nat) (v : Option Value) (h : Heap) (L : List Loc) : Prop := v = some (.int (own_lat bv)) ∧ Fr n0 L ∧ h = h0
theorem rm14 (l : Launch) (Z : State) (a0 : Array Value) (hw : ∀ d ∈ tables_1, d.before a0 Z = true) (ws : List Jvm.Cond) (aa : Addr) (pi : Int32) (cs : Int32) (vf : Value) (ab : Addr) (kb : ClassId) (zn : Int32) (vs : List Value) (bv : Int32) (h0 : Heap) (n0 : Nat) (Z0 : n0 ≤ h0.size) (O0 : Old Z n0 h0) (Scs : Sta Z Z.heap "java/lang/String" "COMPACT_STRINGS" "Z" (.int cs)) (hcs : ¬ cs = (0 : Int32)) (Ssf : Sta Z Z.heap "jdk/internal/util/Preconditions" "SIOOBE_FORMATTER" "Ljava/util/function/BiFunction;" vf) (hvf : vf.isRef = true) (Ea : Exa Z h0 aa "java/lang/String") (Fv : Fld Z h0 aa "java/lang/String" "value" "[B" (.ref ab)) (Fc : Fld Z h0 aa "java/lang/String" "coder" "B" (.int 0)) (Va : Arv Z h0 ab kb .byte zn vs (.int 0)) (h0i : ¬ pi < (0 : Int32)) (hlt : pi < zn) (hget : vs.getD pi.toNatClampNeg (.int 0) = .int bv) :
    MetFree l (⟨"java/lang/String", "charAt", "(I)C"⟩ : MethodName) (head1 (Jvm.Cond.code (⟨"java/lang/String", "charAt", "(I)C"⟩ : MethodName) jdk_42_method_56_code 2 (some .char) :: ws) ({ frames := 3, cells := 0, slots := 0, locals := 40 } : Room)) (fun a U => a = #[(.ref aa), (.int pi)] ∧ Z.Warmed39 U.vm ∧ U.heap = h0) (fun _ _ _ _ _ => True) (fun _ U o U' => ∃ v L, o = .returned v ∧ Q14 Z aa pi cs vf ab kb zn vs bv h0 n0 v U'.heap L ∧ FrameEnd U o U' L ({ frames := 3, cells := 0, slots := 0, locals := 40 } : Room).cells ({ frames := 3, cells := 0, slots := 0, locals := 40 } : Room).slots) := by
  refine MetFree.of_bodySF (plainFor_of_name own_pn13) hisR ?_
  intro p e s m args below meth c s₁ Bd hml0 hP hK
  have H := fun i c (h : tables_1[i]? = some c) => hw c (List.mem_of_getElem? h)
  obtain ⟨rfl, hZ, hh⟩ := hP
  have hx := Bd.exec
  have hby := Bd.bytes
  have hml : c.maxLocals = 2 := hml0
  have hown : s.vm.findClass "java/lang/String" = some m.cls := findClass_of_methodNamed Bd.named
  have hnm := (name_of_methodNamed Bd.named Bd.method).1
  have X0 : Stand p l e ({ frames := 3, cells := 0, slots := 0, locals := 40 } : Room) s m #[(.ref aa), (.int pi)] below meth c s₁ [] 0 0 := Stand.of_body Bd
  have e0 : s₁.heap = h0 := by rw [← hh, Bd.state]; rfl
  have N0 := Fr.nil n0
  have pre0 : ∀ t, Sp p e below m s₁ 0 #[vr aa, vi pi] [] t → Steps p.tables e below (s₁.setTop (entryFrame m #[(.ref aa), (.int pi)] 2)) t := fun t k => castTop (ef_14 m aa pi) k
  generalize s₁.setTop (entryFrame m #[(.ref aa), (.int pi)] 2) = G0 at pre0 ⊢
  obtain ⟨cq826, kq826, q826a, q826b, q826c⟩ := isOf hZ e0 Ea
  obtain ⟨_, _, ⟨T826, L826, k826, n826⟩, -, X826, ⟨Lc826, hQ826, l826, y826, z826⟩, st826⟩ := X0.virtualBack hx hown (mvT hZ (H 91 _ rfl)) (mvT hZ (H 92 _ rfl)) (notFace_of_selects (args := #[]) (mvT hZ (H 94 _ rfl))) (mvT hZ (H 94 _ rfl)) (mvT hZ (H 93 _ rfl)) (by decide) (backOf (W := 0) (rm15 l Z a0 hw [] aa cs vf h0 n0 Z0 O0 Scs hcs Ssf hvf Fc) hZ (H 95 _ rfl) (H 9 _ rfl) (by decide) (by decide)) q826a q826c (g := (mkF m 1 #[vr aa, vi pi] [(.ref aa)])) rfl (by rw [hml]; rfl) (Steps.refl _) (argsL := []) (rest := []) (lenOf own_pd314 rfl) rfl (Nat.le_of_eq rfl) (hb hby d14_1) (fun _ _ => ⟨rfl, e0, Nat.zero_le _, Nat.zero_le _⟩)
  dsimp only [Pt.U, Pt.locs, Pt.cells, Pt.slots] at X826 l826 y826 z826 st826 hQ826
  rw [l826, y826, z826] at X826
  obtain ⟨rfl, Nq826, e826⟩ := hQ826
  have N826 := Fr.app N0 Nq826
  obtain ⟨T827, X827, e827, st827⟩ := getF X826 hx hZ hown (host := "") (Or.inl (H 27 _ rfl)) Via.refl e826 Fv (g := (mkF m 8 #[vr aa, vi pi] [(.ref aa)])) rfl rfl (hb hby d14_8)
  obtain ⟨_, _, ⟨T828, L828, k828, n828⟩, -, X828, ⟨Lc828, hQ828, l828, y828, z828⟩, st828⟩ := Jvm.LawKit.callS X827 hx hown (mvT hZ (H 96 _ rfl)) (mvT hZ (H 97 _ rfl)) (mvT hZ (H 98 _ rfl)) (mvT hZ (H 99 _ rfl)) (by decide) (backOf (W := 0) (rm16 l Z a0 hw [] ab pi cs vf kb zn vs bv h0 n0 Z0 O0 Scs hcs Ssf hvf Va h0i hlt hget) hZ (H 99 _ rfl) (H 98 _ rfl) (by decide) (by decide)) (g := (mkF m 12 #[vr aa, vi pi] [(.int pi), (.ref ab)])) rfl (by rw [hml]; rfl) (argsL := [(.ref ab), (.int pi)]) (rest := []) (lenOf own_pd320 rfl) rfl (Nat.le_of_eq rfl) (hb hby d14_12) (fun _ _ => ⟨rfl, e827, Nat.zero_le _, Nat.zero_le _⟩)
  dsimp only [Pt.U, Pt.locs, Pt.cells, Pt.slots] at X828 l828 y828 z828 st828 hQ828
  rw [l828, y828, z828] at X828
  obtain ⟨rfl, Nq828, e828⟩ := hQ828
  have N828 := Fr.app N826 Nq828
  obtain ⟨fs, hr, hrun, hended, hW, hsame⟩ := X828.leave (v := some (.int (nar .char (own_lat bv)))) (fun h => by rw [Bd.returns] at h; cases h)
  refine ⟨_, _, pre0 _ ?_, hrun, hended, _, _, rfl, ?_, ⟨_, rfl⟩, hW, hsame.mono (by decide) (by decide)⟩
  · show Sp p e below m s₁ 0 #[vr aa, vi pi] [] _
    refine XS.aloadN X0.here hx rfl (hb hby d14_0) rfl rfl ?_
    refine st826.trans ?_
    show Sp p e below m T826 4 #[vr aa, vi pi] [(.int 1)] _
    refine XS.ifNo X826.here hx rfl (hb hby d14_4) rfl ((if0 _ _).trans (feq (by decide : ¬ ((1 : Int32) = (0 : Int32)))).1) ?_
    refine XS.aloadN X826.here hx rfl (hb hby d14_7) rfl rfl ?_
    refine st827 _ ?_
    show Sp p e below m T827 11 #[vr aa, vi pi] [(.ref ab)] _
    refine XS.iloadN X827.here hx rfl (hb hby d14_11) rfl ?_
    refine st828 _ ?_
    show Sp p e below m T828 15 #[vr aa, vi pi] [(.int (own_lat bv))] _
    exact retN X828 hx (t := .char) Bd.returns (by simp) (hb hby d14_15) hr
  · show Q14 Z aa pi cs vf ab kb zn vs bv h0 n0 _ T828.heap _
    rw [e828]
    exact ⟨own_latlat bv, N828, rfl⟩
theorem d9_0 : decode jdk_42_method_152_code 0 = .ok (.getstatic 38, 3) := by decide +kernel
theorem d9_3 : decode jdk_42_method_152_code 3 = .ok (.ifCond .eq 10, 3) := by decide +kernel
theorem d9_6 : decode jdk_42_method_152_code 6 = .ok (.aload_n 0, 1) := by decide +kernel
theorem d9_7 : decode jdk_42_method_152_code 7 = .ok (.getfield 15, 3) := by decide +kernel
theorem d9_10 : decode jdk_42_method_152_code 10 = .ok (.goto 4, 3) := by decide +kernel
theorem d9_14 : decode jdk_42_method_152_code 14 = .ok (.ireturn, 1) := by decide +kernel
theorem ef_9 (m : MethodId) (x0 : Addr) : entryFrame m #[(.ref x0)] 1 = mkF m 0 #[.val (.ref x0)] [] := by first | (simp [entryFrame, mkF, argsToLocals, Value.category]; done) | rfl
def Q9 (Z : State) (aa : Addr) (cs : Int32) (vf : Value) (h0 : Heap) (n0 : Nat) (v : Option Value) (h : Heap) (L : List Loc) : Prop := v = some (.int 0) ∧ Fr n0 L ∧ h = h0
theorem rm9 (l : Launch) (Z : State) (a0 : Array Value) (hw : ∀ d ∈ tables_1, d.before a0 Z = true) (ws : List Jvm.Cond) (aa : Addr) (cs : Int32) (vf : Value) (h0 : Heap) (n0 : Nat) (Z0 : n0 ≤ h0.size) (O0 : Old Z n0 h0) (Scs : Sta Z Z.heap "java/lang/String" "COMPACT_STRINGS" "Z" (.int cs)) (hcs : ¬ cs = (0 : Int32)) (Ssf : Sta Z Z.heap "jdk/internal/util/Preconditions" "SIOOBE_FORMATTER" "Ljava/util/function/BiFunction;" vf) (hvf : vf.isRef = true) (Fc : Fld Z h0 aa "java/lang/String" "coder" "B" (.int 0)) :
    MetFree l (⟨"java/lang/String", "coder", "()B"⟩ : MethodName) (head1 (Jvm.Cond.code (⟨"java/lang/String", "coder", "()B"⟩ : MethodName) jdk_42_method_152_code 1 (some .byte) :: ws) ({ frames := 0, cells := 0, slots := 0, locals := 0 } : Room)) (fun a U => a = #[(.ref aa)] ∧ Z.Warmed39 U.vm ∧ U.heap = h0) (fun _ _ _ _ _ => True) (fun _ U o U' => ∃ v L, o = .returned v ∧ Q9 Z aa cs vf h0 n0 v U'.heap L ∧ FrameEnd U o U' L ({ frames := 0, cells := 0, slots := 0, locals := 0 } : Room).cells ({ frames := 0, cells := 0, slots := 0, locals := 0 } : Room).slots) := by
  refine MetFree.of_bodySF (plainFor_of_name own_pn13) hisR ?_
  intro p e s m args below meth c s₁ Bd hml0 hP hK
  have H := fun i c (h : tables_1[i]? = some c) => hw c (List.mem_of_getElem? h)
  obtain ⟨rfl, hZ, hh⟩ := hP
  have hx := Bd.exec
  have hby := Bd.bytes
  have hml : c.maxLocals = 1 := hml0
  have hown : s.vm.findClass "java/lang/String" = some m.cls := findClass_of_methodNamed Bd.named
  have hnm := (name_of_methodNamed Bd.named Bd.method).1
  have X0 : Stand p l e ({ frames := 0, cells := 0, slots := 0, locals := 0 } : Room) s m #[(.ref aa)] below meth c s₁ [] 0 0 := Stand.of_body Bd
  have e0 : s₁.heap = h0 := by rw [← hh, Bd.state]; rfl
  have N0 := Fr.nil n0
  have pre0 : ∀ t, Sp p e below m s₁ 0 #[vr aa] [] t → Steps p.tables e below (s₁.setTop (entryFrame m #[(.ref aa)] 1)) t := fun t k => castTop (ef_9 m aa) k
  generalize s₁.setTop (entryFrame m #[(.ref aa)] 1) = G0 at pre0 ⊢
  obtain ⟨T831, X831, e831, st831⟩ := getS2 X0 hx hZ hown (host := "") (Or.inl (H 60 _ rfl)) Via.refl e0 (Scs.ext O0.2) (g := (mkF m 0 #[vr aa] [])) rfl (hb hby d9_0)
  obtain ⟨T832, X832, e832, st832⟩ := getF X831 hx hZ hown (host := "") (Or.inl (H 28 _ rfl)) Via.refl e831 Fc (g := (mkF m 7 #[vr aa] [(.ref aa)])) rfl rfl (hb hby d9_7)
  obtain ⟨fs, hr, hrun, hended, hW, hsame⟩ := X832.leave (v := some (.int (nar .byte (0 : Int32)))) (fun h => by rw [Bd.returns] at h; cases h)
  refine ⟨_, _, pre0 _ ?_, hrun, hended, _, _, rfl, ?_, ⟨_, rfl⟩, hW, hsame.mono (by decide) (by decide)⟩
  · show Sp p e below m s₁ 0 #[vr aa] [] _
    refine st831 _ ?_
    show Sp p e below m T831 3 #[vr aa] [(.int cs)] _
    refine XS.ifNo X831.here hx rfl (hb hby d9_3) rfl ((if0 _ _).trans (feq (hcs : ¬ (cs = (0 : Int32)))).1) ?_
    refine XS.aloadN X831.here hx rfl (hb hby d9_6) rfl rfl ?_
    refine st832 _ ?_
    show Sp p e below m T832 10 #[vr aa] [(.int 0)] _
    refine XS.goto X832.here hx rfl (pc0 := 10) (pc' := 14) rfl (hb hby d9_10) (by decide) (by decide) ?_
    exact retN X832 hx (t := .byte) Bd.returns (by simp) (hb hby d9_14) hr
  · show Q9 Z aa cs vf h0 n0 _ T832.heap _
    rw [e832]
    exact ⟨rfl, N0, rfl⟩
theorem d8_0 : decode jdk_42_method_54_code 0 = .ok (.aload_n 0, 1) := by decide +kernel
theorem d8_1 : decode jdk_42_method_54_code 1 = .ok (.getfield 9, 3) := by decide +kernel
theorem d8_4 : decode jdk_42_method_54_code 4 = .ok (.arraylength, 1) := by decide +kernel
theorem d8_5 : decode jdk_42_method_54_code 5 = .ok (.aload_n 0, 1) := by decide +kernel
theorem d8_6 : decode jdk_42_method_54_code 6 = .ok (.invokevirtual 335, 3) := by decide +kernel
theorem own_pd333 : parseMethodDescriptor "()B" = some ⟨[], some .byte⟩ := by decide +kernel
theorem d8_9 : decode jdk_42_method_54_code 9 = .ok (.ishr, 1) := by decide +kernel
theorem d8_10 : decode jdk_42_method_54_code 10 = .ok (.ireturn, 1) := by decide +kernel
theorem ef_8 (m : MethodId) (x0 : Addr) : entryFrame m #[(.ref x0)] 1 = mkF m 0 #[.val (.ref x0)] [] := by first | (simp [entryFrame, mkF, argsToLocals, Value.category]; done) | rfl
def Q8 (Z : State) (aa : Addr) (cs : Int32) (vf : Value) (ab : Addr) (kb : ClassId) (zn : Int32) (vs : List Value) (h0 : Heap) (n0 : Nat) (v : Option Value) (h : Heap) (L : List Loc) : Prop := v = some (.int zn) ∧ Fr n0 L ∧ h = h0
theorem rm8 (l : Launch) (Z : State) (a0 : Array Value) (hw : ∀ d ∈ tables_1, d.before a0 Z = true) (ws : List Jvm.Cond) (aa : Addr) (cs : Int32) (vf : Value) (ab : Addr) (kb : ClassId) (zn : Int32) (vs : List Value) (h0 : Heap) (n0 : Nat) (Z0 : n0 ≤ h0.size) (O0 : Old Z n0 h0) (Scs : Sta Z Z.heap "java/lang/String" "COMPACT_STRINGS" "Z" (.int cs)) (hcs : ¬ cs = (0 : Int32)) (Ssf : Sta Z Z.heap "jdk/internal/util/Preconditions" "SIOOBE_FORMATTER" "Ljava/util/function/BiFunction;" vf) (hvf : vf.isRef = true) (Ea : Exa Z h0 aa "java/lang/String") (Fv : Fld Z h0 aa "java/lang/String" "value" "[B" (.ref ab)) (Fc : Fld Z h0 aa "java/lang/String" "coder" "B" (.int 0)) (Va : Arv Z h0 ab kb .byte zn vs (.int 0)) :
    MetFree l (⟨"java/lang/String", "length", "()I"⟩ : MethodName) (head1 (Jvm.Cond.code (⟨"java/lang/String", "length", "()I"⟩ : MethodName) jdk_42_method_54_code 1 (some .int) :: ws) ({ frames := 1, cells := 0, slots := 0, locals := 13 } : Room)) (fun a U => a = #[(.ref aa)] ∧ Z.Warmed39 U.vm ∧ U.heap = h0) (fun _ _ _ _ _ => True) (fun _ U o U' => ∃ v L, o = .returned v ∧ Q8 Z aa cs vf ab kb zn vs h0 n0 v U'.heap L ∧ FrameEnd U o U' L ({ frames := 1, cells := 0, slots := 0, locals := 13 } : Room).cells ({ frames := 1, cells := 0, slots := 0, locals := 13 } : Room).slots) := by
  refine MetFree.of_bodySF (plainFor_of_name own_pn13) hisR ?_
  intro p e s m args below meth c s₁ Bd hml0 hP hK
  have H := fun i c (h : tables_1[i]? = some c) => hw c (List.mem_of_getElem? h)
  obtain ⟨rfl, hZ, hh⟩ := hP
  have hx := Bd.exec
  have hby := Bd.bytes
  have hml : c.maxLocals = 1 := hml0
  have hown : s.vm.findClass "java/lang/String" = some m.cls := findClass_of_methodNamed Bd.named
  have hnm := (name_of_methodNamed Bd.named Bd.method).1
  have X0 : Stand p l e ({ frames := 1, cells := 0, slots := 0, locals := 13 } : Room) s m #[(.ref aa)] below meth c s₁ [] 0 0 := Stand.of_body Bd
  have e0 : s₁.heap = h0 := by rw [← hh, Bd.state]; rfl
  have N0 := Fr.nil n0
  have pre0 : ∀ t, Sp p e below m s₁ 0 #[vr aa] [] t → Steps p.tables e below (s₁.setTop (entryFrame m #[(.ref aa)] 1)) t := fun t k => castTop (ef_8 m aa) k
  generalize s₁.setTop (entryFrame m #[(.ref aa)] 1) = G0 at pre0 ⊢
  obtain ⟨T836, X836, e836, st836⟩ := getF X0 hx hZ hown (host := "") (Or.inl (H 27 _ rfl)) Via.refl e0 Fv (g := (mkF m 1 #[vr aa] [(.ref aa)])) rfl rfl (hb hby d8_1)
  obtain ⟨cl837, Ar837, -, S837, M837, -, -⟩ := id Va
  obtain ⟨cq838, kq838, q838a, q838b, q838c⟩ := isOf hZ e836 Ea
  obtain ⟨_, _, ⟨T838, L838, k838, n838⟩, -, X838, ⟨Lc838, hQ838, l838, y838, z838⟩, st838⟩ := X836.virtualBack hx hown (mvT hZ (H 55 _ rfl)) (mvT hZ (H 56 _ rfl)) (notFace_of_selects (args := #[]) (mvT hZ (H 58 _ rfl))) (mvT hZ (H 58 _ rfl)) (mvT hZ (H 57 _ rfl)) (by decide) (backOf (W := 1) (rm9 l Z a0 hw [] aa cs vf h0 n0 Z0 O0 Scs hcs Ssf hvf Fc) hZ (H 59 _ rfl) (H 9 _ rfl) (by decide) (by decide)) q838a q838c (g := (mkF m 6 #[vr aa] [(.ref aa), (.int zn)])) rfl (by rw [hml]; rfl) (Steps.refl _) (argsL := []) (rest := [(.int zn)]) (lenOf own_pd333 rfl) rfl (Nat.le_of_eq rfl) (hb hby d8_6) (fun _ _ => ⟨rfl, e836, Nat.zero_le _, Nat.zero_le _⟩)
  dsimp only [Pt.U, Pt.locs, Pt.cells, Pt.slots] at X838 l838 y838 z838 st838 hQ838
  rw [l838, y838, z838] at X838
  obtain ⟨rfl, Nq838, e838⟩ := hQ838
  have N838 := Fr.app N0 Nq838
  obtain ⟨fs, hr, hrun, hended, hW, hsame⟩ := X838.leave (v := some (.int (zn >>> ((0 : Int32) &&& 31)))) (fun h => by rw [Bd.returns] at h; cases h)
  refine ⟨_, _, pre0 _ ?_, hrun, hended, _, _, rfl, ?_, ⟨_, rfl⟩, hW, hsame.mono (by decide) (by decide)⟩
  · show Sp p e below m s₁ 0 #[vr aa] [] _
    refine XS.aloadN X0.here hx rfl (hb hby d8_0) rfl rfl ?_
    refine st836 _ ?_
    show Sp p e below m T836 4 #[vr aa] [(.ref ab)] _
    refine X836.arraylength hx (by rw [e836]; exact Ar837.1) (State.isArrayOf_alike hZ.alike Ar837.2.1) (g := (mkF m 4 #[vr aa] [(.ref ab)])) rfl rfl (hb hby d8_4) _ ?_
    rw [len_of S837 M837]
    show Sp p e below m T836 5 #[vr aa] [(.int zn)] _
    refine XS.aloadN X836.here hx rfl (hb hby d8_5) rfl rfl ?_
    refine st838.trans ?_
    show Sp p e below m T838 9 #[vr aa] [(.int 0), (.int zn)] _
    refine XS.ishr X838.here hx rfl (hb hby d8_9) rfl ?_
    exact retI X838 hx Bd.returns (hb hby d8_10) hr
  · show Q8 Z aa cs vf ab kb zn vs h0 n0 _ T838.heap _
    rw [e838]
    exact ⟨(by rw [own_shr0]), N838, rfl⟩
theorem d13_0 : decode prog_14_method_5_code 0 = .ok (.iload_n 2, 1) := by decide +kernel
theorem d13_1 : decode prog_14_method_5_code 1 = .ok (.istore 4, 2) := by decide +kernel
theorem d13_3 : decode prog_14_method_5_code 3 = .ok (.aload_n 0, 1) := by decide +kernel
theorem d13_4 : decode prog_14_method_5_code 4 = .ok (.getfield 21, 3) := by decide +kernel
theorem d13_7 : decode prog_14_method_5_code 7 = .ok (.ifCond .eq 33, 3) := by decide +kernel
theorem d13_40 : decode prog_14_method_5_code 40 = .ok (.iload 4, 2) := by decide +kernel
theorem d13_42 : decode prog_14_method_5_code 42 = .ok (.aload_n 0, 1) := by decide +kernel
theorem d13_43 : decode prog_14_method_5_code 43 = .ok (.getfield 9, 3) := by decide +kernel
theorem d13_46 : decode prog_14_method_5_code 46 = .ok (.if_icmp .lt 8, 3) := by decide +kernel
theorem d13_49 : decode prog_14_method_5_code 49 = .ok (.iload 4, 2) := by decide +kernel
theorem d13_51 : decode prog_14_method_5_code 51 = .ok (.goto 4, 3) := by decide +kernel
theorem d13_55 : decode prog_14_method_5_code 55 = .ok (.ireturn, 1) := by decide +kernel
theorem d13_10 : decode prog_14_method_5_code 10 = .ok (.iload 4, 2) := by decide +kernel
theorem d13_12 : decode prog_14_method_5_code 12 = .ok (.aload_n 0, 1) := by decide +kernel
theorem d13_13 : decode prog_14_method_5_code 13 = .ok (.getfield 9, 3) := by decide +kernel
theorem d13_16 : decode prog_14_method_5_code 16 = .ok (.if_icmp .lt 24, 3) := by decide +kernel
theorem d13_19 : decode prog_14_method_5_code 19 = .ok (.aload_n 3, 1) := by decide +kernel
theorem d13_20 : decode prog_14_method_5_code 20 = .ok (.aload_n 1, 1) := by decide +kernel
theorem d13_21 : decode prog_14_method_5_code 21 = .ok (.iload 4, 2) := by decide +kernel
theorem d13_23 : decode prog_14_method_5_code 23 = .ok (.invokeinterface 84 2, 5) := by decide +kernel
theorem own_pd356 : parseMethodDescriptor "(I)C" = some ⟨[.int], some .char⟩ := by decide +kernel
theorem d13_28 : decode prog_14_method_5_code 28 = .ok (.invokevirtual 104, 3) := by decide +kernel
theorem d13_31 : decode prog_14_method_5_code 31 = .ok (.ifCond .ne 9, 3) := by decide +kernel
theorem d13_34 : decode prog_14_method_5_code 34 = .ok (.iinc 4 (-1), 3) := by decide +kernel
theorem d13_37 : decode prog_14_method_5_code 37 = .ok (.goto (-34), 3) := by decide +kernel
theorem d13_54 : decode prog_14_method_5_code 54 = .ok (.iconst (-1), 1) := by decide +kernel
theorem ef_13n1 (m : MethodId) (x0 : Addr) (x1 : Addr) (x3 : Addr) : entryFrame m #[(.ref x0), (.ref x1), (.int 0), (.ref x3)] 5 = mkF m 0 #[.val (.ref x0), .val (.ref x1), .val (.int 0), .val (.ref x3), .unset] [] := by first | (simp [entryFrame, mkF, argsToLocals, Value.category]; done) | rfl
def Q13n1 (Z : State) (aa : Addr) (at_ : Addr) (al : Addr) (cs : Int32) (vf : Value) (ab : Addr) (kb : ClassId) (gv : Int32) (pa0 : Int32) (h0 : Heap) (n0 : Nat) (v : Option Value) (h : Heap) (L : List Loc) : Prop := ∃ (rk : Int32), v = some (.int rk) ∧ Fr n0 L ∧ h = h0 ∧ ((rk = 0 ∧ gv = 0) ∨ (rk = 0 ∧ ¬ gv = 0 ∧ ¬ own_dg pa0 = 0) ∨ (rk = -1 ∧ ¬ gv = 0 ∧ own_dg pa0 = 0))
theorem rm13n1 (l : Launch) (Z : State) (a0 : Array Value) (hw : ∀ d ∈ tables_1, d.before a0 Z = true) (ws : List Jvm.Cond) (aa : Addr) (at_ : Addr) (al : Addr) (cs : Int32) (vf : Value) (ab : Addr) (kb : ClassId) (gv : Int32) (pa0 : Int32) (h0 : Heap) (n0 : Nat) (Z0 : n0 ≤ h0.size) (O0 : Old Z n0 h0) (Scs : Sta Z Z.heap "java/lang/String" "COMPACT_STRINGS" "Z" (.int cs)) (hcs : ¬ cs = (0 : Int32)) (Ssf : Sta Z Z.heap "jdk/internal/util/Preconditions" "SIOOBE_FORMATTER" "Ljava/util/function/BiFunction;" vf) (hvf : vf.isRef = true) (Er : Exa Z h0 aa "com/example/onus_on_beans/onusonbeans/validators/CheckDigitRange") (Fr_end : Fld Z h0 aa "com/example/onus_on_beans/onusonbeans/validators/CheckDigitRange" "end" "I" (.int 2147483647)) (Fr_start : Fld Z h0 aa "com/example/onus_on_beans/onusonbeans/validators/CheckDigitRange" "start" "I" (.int 0)) (Fr_checkAt : Fld Z h0 aa "com/example/onus_on_beans/onusonbeans/validators/CheckDigitRange" "checkAt" "I" (.int (-1))) (Fr_ignoresOthers : Fld Z h0 aa "com/example/onus_on_beans/onusonbeans/validators/CheckDigitRange" "ignoresOthers" "Z" (.int gv)) (El : Exa Z h0 al "com/example/onus_on_beans/onusonbeans/validators/CheckDigitScheme$Luhn") (Fm : Fld Z h0 al "com/example/onus_on_beans/onusonbeans/validators/CheckDigitScheme" "modulus" "I" (.int 10)) (Et : Exa Z h0 at_ "java/lang/String") (Fv : Fld Z h0 at_ "java/lang/String" "value" "[B" (.ref ab)) (Fc : Fld Z h0 at_ "java/lang/String" "coder" "B" (.int 0)) (Va : Arv Z h0 ab kb .byte (1 : Int32) [(.int (own_b pa0))] (.int 0)) (hp0 : 0 ≤ pa0.toInt ∧ pa0.toInt ≤ 255) :
    MetFree l (⟨"com/example/onus_on_beans/onusonbeans/validators/CheckDigitRange", "lastCheckCharacter", "(Ljava/lang/CharSequence;ILcom/example/onus_on_beans/onusonbeans/validators/CheckDigitScheme;)I"⟩ : MethodName) (head1 (Jvm.Cond.code (⟨"com/example/onus_on_beans/onusonbeans/validators/CheckDigitRange", "lastCheckCharacter", "(Ljava/lang/CharSequence;ILcom/example/onus_on_beans/onusonbeans/validators/CheckDigitScheme;)I"⟩ : MethodName) prog_14_method_5_code 5 (some .int) :: ws) ({ frames := 4, cells := 0, slots := 0, locals := 54 } : Room)) (fun a U => a = #[(.ref aa), (.ref at_), (.int 0), (.ref al)] ∧ Z.Warmed39 U.vm ∧ U.heap = h0) (fun _ _ _ _ _ => True) (fun _ U o U' => ∃ v L, o = .returned v ∧ Q13n1 Z aa at_ al cs vf ab kb gv pa0 h0 n0 v U'.heap L ∧ FrameEnd U o U' L ({ frames := 4, cells := 0, slots := 0, locals := 54 } : Room).cells ({ frames := 4, cells := 0, slots := 0, locals := 54 } : Room).slots) := by
  refine MetFree.of_bodySF (plainFor_of_name own_pn275) hisR ?_
  intro p e s m args below meth c s₁ Bd hml0 hP hK
  have H := fun i c (h : tables_1[i]? = some c) => hw c (List.mem_of_getElem? h)
  obtain ⟨rfl, hZ, hh⟩ := hP
  have hx := Bd.exec
  have hby := Bd.bytes
  have hml : c.maxLocals = 5 := hml0
  have hown : s.vm.findClass "com/example/onus_on_beans/onusonbeans/validators/CheckDigitRange" = some m.cls := findClass_of_methodNamed Bd.named
  have hnm := (name_of_methodNamed Bd.named Bd.method).1
  have X0 : Stand p l e ({ frames := 4, cells := 0, slots := 0, locals := 54 } : Room) s m #[(.ref aa), (.ref at_), (.int 0), (.ref al)] below meth c s₁ [] 0 0 := Stand.of_body Bd
  have e0 : s₁.heap = h0 := by rw [← hh, Bd.state]; rfl
  have N0 := Fr.nil n0
  have pre0 : ∀ t, Sp p e below m s₁ 0 #[vr aa, vr at_, vi 0, vr al, .unset] [] t → Steps p.tables e below (s₁.setTop (entryFrame m #[(.ref aa), (.ref at_), (.int 0), (.ref al)] 5)) t := fun t k => castTop (ef_13n1 m aa at_ al) k
  generalize s₁.setTop (entryFrame m #[(.ref aa), (.ref at_), (.int 0), (.ref al)] 5) = G0 at pre0 ⊢
  obtain ⟨T853, X853, e853, st853⟩ := getF X0 hx hZ hown (host := "") (Or.inl (H 81 _ rfl)) Via.refl e0 Fr_ignoresOthers (g := (mkF m 4 #[vr aa, vr at_, vi 0, vr al, vi 0] [(.ref aa)])) rfl rfl (hb hby d13_4)
  have pre854 : ∀ t, Sp p e below m T853 7 #[vr aa, vr at_, vi 0, vr al, vi 0] [(.int gv)] t → SG p e below G0 t := by
    intro t k
    refine pre0 t ?_
    show Sp p e below m s₁ 0 #[vr aa, vr at_, vi 0, vr al, .unset] [] _
    refine XS.iloadN X0.here hx rfl (hb hby d13_0) rfl ?_
    refine XS.istore X0.here hx rfl (hb hby d13_1) rfl (l' := #[vr aa, vr at_, vi 0, vr al, vi 0]) rfl ?_
    refine XS.aloadN X0.here hx rfl (hb hby d13_3) rfl rfl ?_
    refine st853 _ ?_
    exact k
  by_cases hc7_855 : gv = (0 : Int32)
  · obtain ⟨T856, X856, e856, st856⟩ := getF X853 hx hZ hown (host := "") (Or.inl (H 61 _ rfl)) Via.refl e853 Fr_start (g := (mkF m 43 #[vr aa, vr at_, vi 0, vr al, vi 0] [(.ref aa), (.int 0)])) rfl rfl (hb hby d13_43)
    obtain ⟨fs, hr, hrun, hended, hW, hsame⟩ := X856.leave (v := some (.int 0)) (fun h => by rw [Bd.returns] at h; cases h)
    refine ⟨_, _, pre854 _ ?_, hrun, hended, _, _, rfl, ?_, ⟨_, rfl⟩, hW, hsame.mono (by decide) (by decide)⟩
    · show Sp p e below m T853 7 #[vr aa, vr at_, vi 0, vr al, vi 0] [(.int gv)] _
      refine XS.ifYes X853.here hx rfl (pc0 := 7) (pc' := 40) rfl (hb hby d13_7) rfl ((if0 _ _).trans (teq hc7_855).1) (by decide) (by decide) ?_
      refine XS.iload X853.here hx rfl (hb hby d13_40) rfl ?_
      refine XS.aloadN X853.here hx rfl (hb hby d13_42) rfl rfl ?_
      refine st856 _ ?_
      show Sp p e below m T856 46 #[vr aa, vr at_, vi 0, vr al, vi 0] [(.int 0), (.int 0)] _
      refine XS.icmpNo X856.here hx rfl (hb hby d13_46) rfl (flt (by decide : ¬ ((0 : Int32) < (0 : Int32)))).1 ?_
      refine XS.iload X856.here hx rfl (hb hby d13_49) rfl ?_
      refine XS.goto X856.here hx rfl (pc0 := 51) (pc' := 55) rfl (hb hby d13_51) (by decide) (by decide) ?_
      exact retI X856 hx Bd.returns (hb hby d13_55) hr
    · show Q13n1 Z aa at_ al cs vf ab kb gv pa0 h0 n0 _ T856.heap _
      rw [e856]
      exact ⟨(0 : Int32), rfl, N0, rfl, (Or.inl ⟨rfl, hc7_855⟩)⟩
  · obtain ⟨T857, X857, e857, st857⟩ := getF X853 hx hZ hown (host := "") (Or.inl (H 61 _ rfl)) Via.refl e853 Fr_start (g := (mkF m 13 #[vr aa, vr at_, vi 0, vr al, vi 0] [(.ref aa), (.int 0)])) rfl rfl (hb hby d13_13)
    obtain ⟨cq858, kq858, q858a, q858b, q858c⟩ := isOf hZ e857 Et
    obtain ⟨_, _, ⟨T858, L858, k858, n858⟩, -, X858, ⟨Lc858, hQ858, l858, y858, z858⟩, st858⟩ := X857.interfaceBack hx hown (mvT hZ (H 83 _ rfl)) (mvT hZ (H 84 _ rfl)) (mvT hZ (H 85 _ rfl)) (mvT hZ (H 86 _ rfl)) (mvT hZ (H 87 _ rfl)) (mvT hZ (H 88 _ rfl)) (mvT hZ (H 89 _ rfl)) (mvT hZ (H 53 _ rfl)) (by decide) (backOf (W := 1) (rm14 l Z a0 hw [] at_ (0 : Int32) cs vf ab kb (1 : Int32) [(.int (own_b pa0))] (own_b pa0) h0 n0 Z0 O0 Scs hcs Ssf hvf Et Fv Fc Va (by decide) (by decide) rfl) hZ (H 90 _ rfl) (H 9 _ rfl) (by decide) (by decide)) q858a q858b q858c (g := (mkF m 23 #[vr aa, vr at_, vi 0, vr al, vi 0] [(.int 0), (.ref at_), (.ref al)])) rfl (by rw [hml]; rfl) (Steps.refl _) (argsL := [(.int 0)]) (rest := [(.ref al)]) (lenOf own_pd356 rfl) rfl (Nat.le_of_eq rfl) (hb hby d13_23) (fun _ _ => ⟨rfl, e857, Nat.zero_le _, Nat.zero_le _⟩)
    dsimp only [Pt.U, Pt.locs, Pt.cells, Pt.slots] at X858 l858 y858 z858 st858 hQ858
    rw [l858, y858, z858] at X858
    obtain ⟨rfl, Nq858, e858⟩ := hQ858
    have N858 := Fr.app N0 Nq858
    have pre859 : ∀ t, Sp p e below m T858 28 #[vr aa, vr at_, vi 0, vr al, vi 0] [(.int (own_lat (own_b pa0))), (.ref al)] t → SG p e below G0 t := by
      intro t k
      refine pre854 t ?_
      show Sp p e below m T853 7 #[vr aa, vr at_, vi 0, vr al, vi 0] [(.int gv)] _
      refine XS.ifNo X853.here hx rfl (hb hby d13_7) rfl ((if0 _ _).trans (feq hc7_855).1) ?_
      refine XS.iload X853.here hx rfl (hb hby d13_10) rfl ?_
      refine XS.aloadN X853.here hx rfl (hb hby d13_12) rfl rfl ?_
      refine st857 _ ?_
      show Sp p e below m T857 16 #[vr aa, vr at_, vi 0, vr al, vi 0] [(.int 0), (.int 0)] _
      refine XS.icmpNo X857.here hx rfl (hb hby d13_16) rfl (flt (by decide : ¬ ((0 : Int32) < (0 : Int32)))).1 ?_
      refine XS.aloadN X857.here hx rfl (hb hby d13_19) rfl rfl ?_
      refine XS.aloadN X857.here hx rfl (hb hby d13_20) rfl rfl ?_
      refine XS.iload X857.here hx rfl (hb hby d13_21) rfl ?_
      refine st858.trans ?_
      exact k
    rw [show (own_lat (own_b pa0)) = pa0 from own_at hp0] at pre859
    obtain ⟨cq860, kq860, q860a, q860b, q860c⟩ := isOf hZ e858 El
    obtain ⟨_, _, ⟨T860, L860, k860, n860⟩, -, X860, ⟨Lc860, hQ860, l860, y860, z860⟩, st860⟩ := X858.virtualBack hx hown (mvT hZ (H 108 _ rfl)) (mvT hZ (H 109 _ rfl)) (notFace_of_selects (args := #[]) (mvT hZ (H 111 _ rfl))) (mvT hZ (H 111 _ rfl)) (mvT hZ (H 110 _ rfl)) (by decide) (backOf (W := 0) (rm19 l Z a0 hw [] al pa0  h0 n0 Z0 ) hZ (H 112 _ rfl) (H 36 _ rfl) (by decide) (by decide)) q860a q860c (g := (mkF m 28 #[vr aa, vr at_, vi 0, vr al, vi 0] [(.int pa0), (.ref al)])) rfl (by rw [hml]; rfl) (Steps.refl _) (argsL := [(.int pa0)]) (rest := []) (lenOf own_pd215 rfl) rfl (Nat.le_of_eq rfl) (hb hby d13_28) (fun _ _ => ⟨rfl, e858, Nat.zero_le _, Nat.zero_le _⟩)
    dsimp only [Pt.U, Pt.locs, Pt.cells, Pt.slots] at X860 l860 y860 z860 st860 hQ860
    rw [l860, y860, z860] at X860
    obtain ⟨rfl, Nq860, e860⟩ := hQ860
    have N860 := Fr.app N858 Nq860
    have pre861 : ∀ t, Sp p e below m T860 31 #[vr aa, vr at_, vi 0, vr al, vi 0] [(.int (own_dg pa0))] t → SG p e below G0 t := by
      intro t k
      refine pre859 t ?_
      show Sp p e below m T858 28 #[vr aa, vr at_, vi 0, vr al, vi 0] [(.int pa0), (.ref al)] _
      refine st860.trans ?_
      exact k
    by_cases hc31_862 : (own_dg pa0) = (0 : Int32)
    · obtain ⟨T863, X863, e863, st863⟩ := getF X860 hx hZ hown (host := "") (Or.inl (H 81 _ rfl)) Via.refl e860 Fr_ignoresOthers (g := (mkF m 4 #[vr aa, vr at_, vi 0, vr al, vi (-1)] [(.ref aa)])) rfl rfl (hb hby d13_4)
      obtain ⟨T864, X864, e864, st864⟩ := getF X863 hx hZ hown (host := "") (Or.inl (H 61 _ rfl)) Via.refl e863 Fr_start (g := (mkF m 13 #[vr aa, vr at_, vi 0, vr al, vi (-1)] [(.ref aa), (.int (-1))])) rfl rfl (hb hby d13_13)
      obtain ⟨T865, X865, e865, st865⟩ := getF X864 hx hZ hown (host := "") (Or.inl (H 61 _ rfl)) Via.refl e864 Fr_start (g := (mkF m 43 #[vr aa, vr at_, vi 0, vr al, vi (-1)] [(.ref aa), (.int (-1))])) rfl rfl (hb hby d13_43)
      obtain ⟨fs, hr, hrun, hended, hW, hsame⟩ := X865.leave (v := some (.int (-1))) (fun h => by rw [Bd.returns] at h; cases h)
      refine ⟨_, _, pre861 _ ?_, hrun, hended, _, _, rfl, ?_, ⟨_, rfl⟩, hW, hsame.mono (by decide) (by decide)⟩
      · show Sp p e below m T860 31 #[vr aa, vr at_, vi 0, vr al, vi 0] [(.int (own_dg pa0))] _
        refine XS.ifNo X860.here hx rfl (hb hby d13_31) rfl ((if0 _ _).trans (teq hc31_862).2) ?_
        refine XS.iinc X860.here hx rfl (hb hby d13_34) rfl (l' := #[vr aa, vr at_, vi 0, vr al, vi (-1)]) rfl ?_
        refine XS.goto X860.here hx rfl (pc0 := 37) (pc' := 3) rfl (hb hby d13_37) (by decide) (by decide) ?_
        refine XS.aloadN X860.here hx rfl (hb hby d13_3) rfl rfl ?_
        refine st863 _ ?_
        show Sp p e below m T863 7 #[vr aa, vr at_, vi 0, vr al, vi (-1)] [(.int gv)] _
        refine XS.ifNo X863.here hx rfl (hb hby d13_7) rfl ((if0 _ _).trans (feq (hc7_855 : ¬ (gv = (0 : Int32)))).1) ?_
        refine XS.iload X863.here hx rfl (hb hby d13_10) rfl ?_
        refine XS.aloadN X863.here hx rfl (hb hby d13_12) rfl rfl ?_
        refine st864 _ ?_
        show Sp p e below m T864 16 #[vr aa, vr at_, vi 0, vr al, vi (-1)] [(.int 0), (.int (-1))] _
        refine XS.icmpYes X864.here hx rfl (pc0 := 16) (pc' := 40) rfl (hb hby d13_16) rfl (tlt (by decide : ((-1 : Int32) < (0 : Int32)))).1 (by decide) (by decide) ?_
        refine XS.iload X864.here hx rfl (hb hby d13_40) rfl ?_
        refine XS.aloadN X864.here hx rfl (hb hby d13_42) rfl rfl ?_
        refine st865 _ ?_
        show Sp p e below m T865 46 #[vr aa, vr at_, vi 0, vr al, vi (-1)] [(.int 0), (.int (-1))] _
        refine XS.icmpYes X865.here hx rfl (pc0 := 46) (pc' := 54) rfl (hb hby d13_46) rfl (tlt (by decide : ((-1 : Int32) < (0 : Int32)))).1 (by decide) (by decide) ?_
        refine XS.iconst X865.here hx rfl (hb hby d13_54) ?_
        exact retI X865 hx Bd.returns (hb hby d13_55) hr
      · show Q13n1 Z aa at_ al cs vf ab kb gv pa0 h0 n0 _ T865.heap _
        rw [e865]
        exact ⟨(-1 : Int32), rfl, N860, rfl, (Or.inr (Or.inr (⟨rfl, hc7_855, hc31_862⟩)))⟩
    · obtain ⟨T866, X866, e866, st866⟩ := getF X860 hx hZ hown (host := "") (Or.inl (H 61 _ rfl)) Via.refl e860 Fr_start (g := (mkF m 43 #[vr aa, vr at_, vi 0, vr al, vi 0] [(.ref aa), (.int 0)])) rfl rfl (hb hby d13_43)
      obtain ⟨fs, hr, hrun, hended, hW, hsame⟩ := X866.leave (v := some (.int 0)) (fun h => by rw [Bd.returns] at h; cases h)
      refine ⟨_, _, pre861 _ ?_, hrun, hended, _, _, rfl, ?_, ⟨_, rfl⟩, hW, hsame.mono (by decide) (by decide)⟩
      · show Sp p e below m T860 31 #[vr aa, vr at_, vi 0, vr al, vi 0] [(.int (own_dg pa0))] _
        refine XS.ifYes X860.here hx rfl (pc0 := 31) (pc' := 40) rfl (hb hby d13_31) rfl ((if0 _ _).trans (feq hc31_862).2) (by decide) (by decide) ?_
        refine XS.iload X860.here hx rfl (hb hby d13_40) rfl ?_
        refine XS.aloadN X860.here hx rfl (hb hby d13_42) rfl rfl ?_
        refine st866 _ ?_
        show Sp p e below m T866 46 #[vr aa, vr at_, vi 0, vr al, vi 0] [(.int 0), (.int 0)] _
        refine XS.icmpNo X866.here hx rfl (hb hby d13_46) rfl (flt (by decide : ¬ ((0 : Int32) < (0 : Int32)))).1 ?_
        refine XS.iload X866.here hx rfl (hb hby d13_49) rfl ?_
        refine XS.goto X866.here hx rfl (pc0 := 51) (pc' := 55) rfl (hb hby d13_51) (by decide) (by decide) ?_
        exact retI X866 hx Bd.returns (hb hby d13_55) hr
      · show Q13n1 Z aa at_ al cs vf ab kb gv pa0 h0 n0 _ T866.heap _
        rw [e866]
        exact ⟨(0 : Int32), rfl, N860, rfl, (Or.inr (Or.inl ⟨rfl, hc7_855, hc31_862⟩))⟩
theorem ef_13n2 (m : MethodId) (x0 : Addr) (x1 : Addr) (x3 : Addr) : entryFrame m #[(.ref x0), (.ref x1), (.int 1), (.ref x3)] 5 = mkF m 0 #[.val (.ref x0), .val (.ref x1), .val (.int 1), .val (.ref x3), .unset] [] := by first | (simp [entryFrame, mkF, argsToLocals, Value.category]; done) | rfl
def Q13n2 (Z : State) (aa : Addr) (at_ : Addr) (al : Addr) (cs : Int32) (vf : Value) (ab : Addr) (kb : ClassId) (gv : Int32) (pa0 : Int32) (pa1 : Int32) (h0 : Heap) (n0 : Nat) (v : Option Value) (h : Heap) (L : List Loc) : Prop := ∃ (rk : Int32), v = some (.int rk) ∧ Fr n0 L ∧ h = h0 ∧ ((rk = 1 ∧ gv = 0) ∨ (rk = 1 ∧ ¬ gv = 0 ∧ ¬ own_dg pa1 = 0) ∨ (rk = 0 ∧ ¬ gv = 0 ∧ own_dg pa1 = 0 ∧ ¬ own_dg pa0 = 0) ∨ (rk = -1 ∧ ¬ gv = 0 ∧ own_dg pa1 = 0 ∧ own_dg pa0 = 0))
theorem rm13n2 (l : Launch) (Z : State) (a0 : Array Value) (hw : ∀ d ∈ tables_1, d.before a0 Z = true) (ws : List Jvm.Cond) (aa : Addr) (at_ : Addr) (al : Addr) (cs : Int32) (vf : Value) (ab : Addr) (kb : ClassId) (gv : Int32) (pa0 : Int32) (pa1 : Int32) (h0 : Heap) (n0 : Nat) (Z0 : n0 ≤ h0.size) (O0 : Old Z n0 h0) (Scs : Sta Z Z.heap "java/lang/String" "COMPACT_STRINGS" "Z" (.int cs)) (hcs : ¬ cs = (0 : Int32)) (Ssf : Sta Z Z.heap "jdk/internal/util/Preconditions" "SIOOBE_FORMATTER" "Ljava/util/function/BiFunction;" vf) (hvf : vf.isRef = true) (Er : Exa Z h0 aa "com/example/onus_on_beans/onusonbeans/validators/CheckDigitRange") (Fr_end : Fld Z h0 aa "com/example/onus_on_beans/onusonbeans/validators/CheckDigitRange" "end" "I" (.int 2147483647)) (Fr_start : Fld Z h0 aa "com/example/onus_on_beans/onusonbeans/validators/CheckDigitRange" "start" "I" (.int 0)) (Fr_checkAt : Fld Z h0 aa "com/example/onus_on_beans/onusonbeans/validators/CheckDigitRange" "checkAt" "I" (.int (-1))) (Fr_ignoresOthers : Fld Z h0 aa "com/example/onus_on_beans/onusonbeans/validators/CheckDigitRange" "ignoresOthers" "Z" (.int gv)) (El : Exa Z h0 al "com/example/onus_on_beans/onusonbeans/validators/CheckDigitScheme$Luhn") (Fm : Fld Z h0 al "com/example/onus_on_beans/onusonbeans/validators/CheckDigitScheme" "modulus" "I" (.int 10)) (Et : Exa Z h0 at_ "java/lang/String") (Fv : Fld Z h0 at_ "java/lang/String" "value" "[B" (.ref ab)) (Fc : Fld Z h0 at_ "java/lang/String" "coder" "B" (.int 0)) (Va : Arv Z h0 ab kb .byte (2 : Int32) [(.int (own_b pa0)), (.int (own_b pa1))] (.int 0)) (hp0 : 0 ≤ pa0.toInt ∧ pa0.toInt ≤ 255) (hp1 : 0 ≤ pa1.toInt ∧ pa1.toInt ≤ 255) :
    MetFree l (⟨"com/example/onus_on_beans/onusonbeans/validators/CheckDigitRange", "lastCheckCharacter", "(Ljava/lang/CharSequence;ILcom/example/onus_on_beans/onusonbeans/validators/CheckDigitScheme;)I"⟩ : MethodName) (head1 (Jvm.Cond.code (⟨"com/example/onus_on_beans/onusonbeans/validators/CheckDigitRange", "lastCheckCharacter", "(Ljava/lang/CharSequence;ILcom/example/onus_on_beans/onusonbeans/validators/CheckDigitScheme;)I"⟩ : MethodName) prog_14_method_5_code 5 (some .int) :: ws) ({ frames := 4, cells := 0, slots := 0, locals := 54 } : Room)) (fun a U => a = #[(.ref aa), (.ref at_), (.int 1), (.ref al)] ∧ Z.Warmed39 U.vm ∧ U.heap = h0) (fun _ _ _ _ _ => True) (fun _ U o U' => ∃ v L, o = .returned v ∧ Q13n2 Z aa at_ al cs vf ab kb gv pa0 pa1 h0 n0 v U'.heap L ∧ FrameEnd U o U' L ({ frames := 4, cells := 0, slots := 0, locals := 54 } : Room).cells ({ frames := 4, cells := 0, slots := 0, locals := 54 } : Room).slots) := by
  refine MetFree.of_bodySF (plainFor_of_name own_pn275) hisR ?_
  intro p e s m args below meth c s₁ Bd hml0 hP hK
  have H := fun i c (h : tables_1[i]? = some c) => hw c (List.mem_of_getElem? h)
  obtain ⟨rfl, hZ, hh⟩ := hP
  have hx := Bd.exec
  have hby := Bd.bytes
  have hml : c.maxLocals = 5 := hml0
  have hown : s.vm.findClass "com/example/onus_on_beans/onusonbeans/validators/CheckDigitRange" = some m.cls := findClass_of_methodNamed Bd.named
  have hnm := (name_of_methodNamed Bd.named Bd.method).1
  have X0 : Stand p l e ({ frames := 4, cells := 0, slots := 0, locals := 54 } : Room) s m #[(.ref aa), (.ref at_), (.int 1), (.ref al)] below meth c s₁ [] 0 0 := Stand.of_body Bd
  have e0 : s₁.heap = h0 := by rw [← hh, Bd.state]; rfl
  have N0 := Fr.nil n0
  have pre0 : ∀ t, Sp p e below m s₁ 0 #[vr aa, vr at_, vi 1, vr al, .unset] [] t → Steps p.tables e below (s₁.setTop (entryFrame m #[(.ref aa), (.ref at_), (.int 1), (.ref al)] 5)) t := fun t k => castTop (ef_13n2 m aa at_ al) k
  generalize s₁.setTop (entryFrame m #[(.ref aa), (.ref at_), (.int 1), (.ref al)] 5) = G0 at pre0 ⊢
  obtain ⟨T889, X889, e889, st889⟩ := getF X0 hx hZ hown (host := "") (Or.inl (H 81 _ rfl)) Via.refl e0 Fr_ignoresOthers (g := (mkF m 4 #[vr aa, vr at_, vi 1, vr al, vi 1] [(.ref aa)])) rfl rfl (hb hby d13_4)
  have pre890 : ∀ t, Sp p e below m T889 7 #[vr aa, vr at_, vi 1, vr al, vi 1] [(.int gv)] t → SG p e below G0 t := by
    intro t k
    refine pre0 t ?_
    show Sp p e below m s₁ 0 #[vr aa, vr at_, vi 1, vr al, .unset] [] _
    refine XS.iloadN X0.here hx rfl (hb hby d13_0) rfl ?_
    refine XS.istore X0.here hx rfl (hb hby d13_1) rfl (l' := #[vr aa, vr at_, vi 1, vr al, vi 1]) rfl ?_
    refine XS.aloadN X0.here hx rfl (hb hby d13_3) rfl rfl ?_
    refine st889 _ ?_
    exact k
  by_cases hc7_891 : gv = (0 : Int32)
  · obtain ⟨T892, X892, e892, st892⟩ := getF X889 hx hZ hown (host := "") (Or.inl (H 61 _ rfl)) Via.refl e889 Fr_start (g := (mkF m 43 #[vr aa, vr at_, vi 1, vr al, vi 1] [(.ref aa), (.int 1)])) rfl rfl (hb hby d13_43)
    obtain ⟨fs, hr, hrun, hended, hW, hsame⟩ := X892.leave (v := some (.int 1)) (fun h => by rw [Bd.returns] at h; cases h)
    refine ⟨_, _, pre890 _ ?_, hrun, hended, _, _, rfl, ?_, ⟨_, rfl⟩, hW, hsame.mono (by decide) (by decide)⟩
    · show Sp p e below m T889 7 #[vr aa, vr at_, vi 1, vr al, vi 1] [(.int gv)] _
      refine XS.ifYes X889.here hx rfl (pc0 := 7) (pc' := 40) rfl (hb hby d13_7) rfl ((if0 _ _).trans (teq hc7_891).1) (by decide) (by decide) ?_
      refine XS.iload X889.here hx rfl (hb hby d13_40) rfl ?_
      refine XS.aloadN X889.here hx rfl (hb hby d13_42) rfl rfl ?_
      refine st892 _ ?_
      show Sp p e below m T892 46 #[vr aa, vr at_, vi 1, vr al, vi 1] [(.int 0), (.int 1)] _
      refine XS.icmpNo X892.here hx rfl (hb hby d13_46) rfl (flt (by decide : ¬ ((1 : Int32) < (0 : Int32)))).1 ?_
      refine XS.iload X892.here hx rfl (hb hby d13_49) rfl ?_
      refine XS.goto X892.here hx rfl (pc0 := 51) (pc' := 55) rfl (hb hby d13_51) (by decide) (by decide) ?_
      exact retI X892 hx Bd.returns (hb hby d13_55) hr
    · show Q13n2 Z aa at_ al cs vf ab kb gv pa0 pa1 h0 n0 _ T892.heap _
      rw [e892]
      exact ⟨(1 : Int32), rfl, N0, rfl, (Or.inl ⟨rfl, hc7_891⟩)⟩
  · obtain ⟨T893, X893, e893, st893⟩ := getF X889 hx hZ hown (host := "") (Or.inl (H 61 _ rfl)) Via.refl e889 Fr_start (g := (mkF m 13 #[vr aa, vr at_, vi 1, vr al, vi 1] [(.ref aa), (.int 1)])) rfl rfl (hb hby d13_13)
    obtain ⟨cq894, kq894, q894a, q894b, q894c⟩ := isOf hZ e893 Et
    obtain ⟨_, _, ⟨T894, L894, k894, n894⟩, -, X894, ⟨Lc894, hQ894, l894, y894, z894⟩, st894⟩ := X893.interfaceBack hx hown (mvT hZ (H 83 _ rfl)) (mvT hZ (H 84 _ rfl)) (mvT hZ (H 85 _ rfl)) (mvT hZ (H 86 _ rfl)) (mvT hZ (H 87 _ rfl)) (mvT hZ (H 88 _ rfl)) (mvT hZ (H 89 _ rfl)) (mvT hZ (H 53 _ rfl)) (by decide) (backOf (W := 1) (rm14 l Z a0 hw [] at_ (1 : Int32) cs vf ab kb (2 : Int32) [(.int (own_b pa0)), (.int (own_b pa1))] (own_b pa1) h0 n0 Z0 O0 Scs hcs Ssf hvf Et Fv Fc Va (by decide) (by decide) rfl) hZ (H 90 _ rfl) (H 9 _ rfl) (by decide) (by decide)) q894a q894b q894c (g := (mkF m 23 #[vr aa, vr at_, vi 1, vr al, vi 1] [(.int 1), (.ref at_), (.ref al)])) rfl (by rw [hml]; rfl) (Steps.refl _) (argsL := [(.int 1)]) (rest := [(.ref al)]) (lenOf own_pd356 rfl) rfl (Nat.le_of_eq rfl) (hb hby d13_23) (fun _ _ => ⟨rfl, e893, Nat.zero_le _, Nat.zero_le _⟩)
    dsimp only [Pt.U, Pt.locs, Pt.cells, Pt.slots] at X894 l894 y894 z894 st894 hQ894
    rw [l894, y894, z894] at X894
    obtain ⟨rfl, Nq894, e894⟩ := hQ894
    have N894 := Fr.app N0 Nq894
    have pre895 : ∀ t, Sp p e below m T894 28 #[vr aa, vr at_, vi 1, vr al, vi 1] [(.int (own_lat (own_b pa1))), (.ref al)] t → SG p e below G0 t := by
      intro t k
      refine pre890 t ?_
      show Sp p e below m T889 7 #[vr aa, vr at_, vi 1, vr al, vi 1] [(.int gv)] _
      refine XS.ifNo X889.here hx rfl (hb hby d13_7) rfl ((if0 _ _).trans (feq hc7_891).1) ?_
      refine XS.iload X889.here hx rfl (hb hby d13_10) rfl ?_
      refine XS.aloadN X889.here hx rfl (hb hby d13_12) rfl rfl ?_
      refine st893 _ ?_
      show Sp p e below m T893 16 #[vr aa, vr at_, vi 1, vr al, vi 1] [(.int 0), (.int 1)] _
      refine XS.icmpNo X893.here hx rfl (hb hby d13_16) rfl (flt (by decide : ¬ ((1 : Int32) < (0 : Int32)))).1 ?_
      refine XS.aloadN X893.here hx rfl (hb hby d13_19) rfl rfl ?_
      refine XS.aloadN X893.here hx rfl (hb hby d13_20) rfl rfl ?_
      refine XS.iload X893.here hx rfl (hb hby d13_21) rfl ?_
      refine st894.trans ?_
      exact k
    rw [show (own_lat (own_b pa1)) = pa1 from own_at hp1] at pre895
    obtain ⟨cq896, kq896, q896a, q896b, q896c⟩ := isOf hZ e894 El
    obtain ⟨_, _, ⟨T896, L896, k896, n896⟩, -, X896, ⟨Lc896, hQ896, l896, y896, z896⟩, st896⟩ := X894.virtualBack hx hown (mvT hZ (H 108 _ rfl)) (mvT hZ (H 109 _ rfl)) (notFace_of_selects (args := #[]) (mvT hZ (H 111 _ rfl))) (mvT hZ (H 111 _ rfl)) (mvT hZ (H 110 _ rfl)) (by decide) (backOf (W := 0) (rm19 l Z a0 hw [] al pa1  h0 n0 Z0 ) hZ (H 112 _ rfl) (H 36 _ rfl) (by decide) (by decide)) q896a q896c (g := (mkF m 28 #[vr aa, vr at_, vi 1, vr al, vi 1] [(.int pa1), (.ref al)])) rfl (by rw [hml]; rfl) (Steps.refl _) (argsL := [(.int pa1)]) (rest := []) (lenOf own_pd215 rfl) rfl (Nat.le_of_eq rfl) (hb hby d13_28) (fun _ _ => ⟨rfl, e894, Nat.zero_le _, Nat.zero_le _⟩)
    dsimp only [Pt.U, Pt.locs, Pt.cells, Pt.slots] at X896 l896 y896 z896 st896 hQ896
    rw [l896, y896, z896] at X896
    obtain ⟨rfl, Nq896, e896⟩ := hQ896
    have N896 := Fr.app N894 Nq896
    have pre897 : ∀ t, Sp p e below m T896 31 #[vr aa, vr at_, vi 1, vr al, vi 1] [(.int (own_dg pa1))] t → SG p e below G0 t := by
      intro t k
      refine pre895 t ?_
      show Sp p e below m T894 28 #[vr aa, vr at_, vi 1, vr al, vi 1] [(.int pa1), (.ref al)] _
      refine st896.trans ?_
      exact k
    by_cases hc31_898 : (own_dg pa1) = (0 : Int32)
    · obtain ⟨T899, X899, e899, st899⟩ := getF X896 hx hZ hown (host := "") (Or.inl (H 81 _ rfl)) Via.refl e896 Fr_ignoresOthers (g := (mkF m 4 #[vr aa, vr at_, vi 1, vr al, vi 0] [(.ref aa)])) rfl rfl (hb hby d13_4)
      obtain ⟨T900, X900, e900, st900⟩ := getF X899 hx hZ hown (host := "") (Or.inl (H 61 _ rfl)) Via.refl e899 Fr_start (g := (mkF m 13 #[vr aa, vr at_, vi 1, vr al, vi 0] [(.ref aa), (.int 0)])) rfl rfl (hb hby d13_13)
      obtain ⟨cq901, kq901, q901a, q901b, q901c⟩ := isOf hZ e900 Et
      obtain ⟨_, _, ⟨T901, L901, k901, n901⟩, -, X901, ⟨Lc901, hQ901, l901, y901, z901⟩, st901⟩ := X900.interfaceBack hx hown (mvT hZ (H 83 _ rfl)) (mvT hZ (H 84 _ rfl)) (mvT hZ (H 85 _ rfl)) (mvT hZ (H 86 _ rfl)) (mvT hZ (H 87 _ rfl)) (mvT hZ (H 88 _ rfl)) (mvT hZ (H 89 _ rfl)) (mvT hZ (H 53 _ rfl)) (by decide) (backOf (W := 1) (rm14 l Z a0 hw [] at_ (0 : Int32) cs vf ab kb (2 : Int32) [(.int (own_b pa0)), (.int (own_b pa1))] (own_b pa0) h0 n0 Z0 O0 Scs hcs Ssf hvf Et Fv Fc Va (by decide) (by decide) rfl) hZ (H 90 _ rfl) (H 9 _ rfl) (by decide) (by decide)) q901a q901b q901c (g := (mkF m 23 #[vr aa, vr at_, vi 1, vr al, vi 0] [(.int 0), (.ref at_), (.ref al)])) rfl (by rw [hml]; rfl) (Steps.refl _) (argsL := [(.int 0)]) (rest := [(.ref al)]) (lenOf own_pd356 rfl) rfl (Nat.le_of_eq rfl) (hb hby d13_23) (fun _ _ => ⟨rfl, e900, Nat.zero_le _, Nat.zero_le _⟩)
      dsimp only [Pt.U, Pt.locs, Pt.cells, Pt.slots] at X901 l901 y901 z901 st901 hQ901
      rw [l901, y901, z901] at X901
      obtain ⟨rfl, Nq901, e901⟩ := hQ901
      have N901 := Fr.app N896 Nq901
      have pre902 : ∀ t, Sp p e below m T901 28 #[vr aa, vr at_, vi 1, vr al, vi 0] [(.int (own_lat (own_b pa0))), (.ref al)] t → SG p e below G0 t := by
        intro t k
        refine pre897 t ?_
        show Sp p e below m T896 31 #[vr aa, vr at_, vi 1, vr al, vi 1] [(.int (own_dg pa1))] _
        refine XS.ifNo X896.here hx rfl (hb hby d13_31) rfl ((if0 _ _).trans (teq hc31_898).2) ?_
        refine XS.iinc X896.here hx rfl (hb hby d13_34) rfl (l' := #[vr aa, vr at_, vi 1, vr al, vi 0]) rfl ?_
        refine XS.goto X896.here hx rfl (pc0 := 37) (pc' := 3) rfl (hb hby d13_37) (by decide) (by decide) ?_
        refine XS.aloadN X896.here hx rfl (hb hby d13_3) rfl rfl ?_
        refine st899 _ ?_
        show Sp p e below m T899 7 #[vr aa, vr at_, vi 1, vr al, vi 0] [(.int gv)] _
        refine XS.ifNo X899.here hx rfl (hb hby d13_7) rfl ((if0 _ _).trans (feq (hc7_891 : ¬ (gv = (0 : Int32)))).1) ?_
        refine XS.iload X899.here hx rfl (hb hby d13_10) rfl ?_
        refine XS.aloadN X899.here hx rfl (hb hby d13_12) rfl rfl ?_
        refine st900 _ ?_
        show Sp p e below m T900 16 #[vr aa, vr at_, vi 1, vr al, vi 0] [(.int 0), (.int 0)] _
        refine XS.icmpNo X900.here hx rfl (hb hby d13_16) rfl (flt (by decide : ¬ ((0 : Int32) < (0 : Int32)))).1 ?_
        refine XS.aloadN X900.here hx rfl (hb hby d13_19) rfl rfl ?_
        refine XS.aloadN X900.here hx rfl (hb hby d13_20) rfl rfl ?_
        refine XS.iload X900.here hx rfl (hb hby d13_21) rfl ?_
        refine st901.trans ?_
        exact k
      rw [show (own_lat (own_b pa0)) = pa0 from own_at hp0] at pre902
      obtain ⟨cq903, kq903, q903a, q903b, q903c⟩ := isOf hZ e901 El
      obtain ⟨_, _, ⟨T903, L903, k903, n903⟩, -, X903, ⟨Lc903, hQ903, l903, y903, z903⟩, st903⟩ := X901.virtualBack hx hown (mvT hZ (H 108 _ rfl)) (mvT hZ (H 109 _ rfl)) (notFace_of_selects (args := #[]) (mvT hZ (H 111 _ rfl))) (mvT hZ (H 111 _ rfl)) (mvT hZ (H 110 _ rfl)) (by decide) (backOf (W := 0) (rm19 l Z a0 hw [] al pa0  h0 n0 Z0 ) hZ (H 112 _ rfl) (H 36 _ rfl) (by decide) (by decide)) q903a q903c (g := (mkF m 28 #[vr aa, vr at_, vi 1, vr al, vi 0] [(.int pa0), (.ref al)])) rfl (by rw [hml]; rfl) (Steps.refl _) (argsL := [(.int pa0)]) (rest := []) (lenOf own_pd215 rfl) rfl (Nat.le_of_eq rfl) (hb hby d13_28) (fun _ _ => ⟨rfl, e901, Nat.zero_le _, Nat.zero_le _⟩)
      dsimp only [Pt.U, Pt.locs, Pt.cells, Pt.slots] at X903 l903 y903 z903 st903 hQ903
      rw [l903, y903, z903] at X903
      obtain ⟨rfl, Nq903, e903⟩ := hQ903
      have N903 := Fr.app N901 Nq903
      have pre904 : ∀ t, Sp p e below m T903 31 #[vr aa, vr at_, vi 1, vr al, vi 0] [(.int (own_dg pa0))] t → SG p e below G0 t := by
        intro t k
        refine pre902 t ?_
        show Sp p e below m T901 28 #[vr aa, vr at_, vi 1, vr al, vi 0] [(.int pa0), (.ref al)] _
        refine st903.trans ?_
        exact k
      by_cases hc31_905 : (own_dg pa0) = (0 : Int32)
      · obtain ⟨T906, X906, e906, st906⟩ := getF X903 hx hZ hown (host := "") (Or.inl (H 81 _ rfl)) Via.refl e903 Fr_ignoresOthers (g := (mkF m 4 #[vr aa, vr at_, vi 1, vr al, vi (-1)] [(.ref aa)])) rfl rfl (hb hby d13_4)
        obtain ⟨T907, X907, e907, st907⟩ := getF X906 hx hZ hown (host := "") (Or.inl (H 61 _ rfl)) Via.refl e906 Fr_start (g := (mkF m 13 #[vr aa, vr at_, vi 1, vr al, vi (-1)] [(.ref aa), (.int (-1))])) rfl rfl (hb hby d13_13)
        obtain ⟨T908, X908, e908, st908⟩ := getF X907 hx hZ hown (host := "") (Or.inl (H 61 _ rfl)) Via.refl e907 Fr_start (g := (mkF m 43 #[vr aa, vr at_, vi 1, vr al, vi (-1)] [(.ref aa), (.int (-1))])) rfl rfl (hb hby d13_43)
        obtain ⟨fs, hr, hrun, hended, hW, hsame⟩ := X908.leave (v := some (.int (-1))) (fun h => by rw [Bd.returns] at h; cases h)
        refine ⟨_, _, pre904 _ ?_, hrun, hended, _, _, rfl, ?_, ⟨_, rfl⟩, hW, hsame.mono (by decide) (by decide)⟩
        · show Sp p e below m T903 31 #[vr aa, vr at_, vi 1, vr al, vi 0] [(.int (own_dg pa0))] _
          refine XS.ifNo X903.here hx rfl (hb hby d13_31) rfl ((if0 _ _).trans (teq hc31_905).2) ?_
          refine XS.iinc X903.here hx rfl (hb hby d13_34) rfl (l' := #[vr aa, vr at_, vi 1, vr al, vi (-1)]) rfl ?_
          refine XS.goto X903.here hx rfl (pc0 := 37) (pc' := 3) rfl (hb hby d13_37) (by decide) (by decide) ?_
          refine XS.aloadN X903.here hx rfl (hb hby d13_3) rfl rfl ?_
          refine st906 _ ?_
          show Sp p e below m T906 7 #[vr aa, vr at_, vi 1, vr al, vi (-1)] [(.int gv)] _
          refine XS.ifNo X906.here hx rfl (hb hby d13_7) rfl ((if0 _ _).trans (feq (hc7_891 : ¬ (gv = (0 : Int32)))).1) ?_
          refine XS.iload X906.here hx rfl (hb hby d13_10) rfl ?_
          refine XS.aloadN X906.here hx rfl (hb hby d13_12) rfl rfl ?_
          refine st907 _ ?_
          show Sp p e below m T907 16 #[vr aa, vr at_, vi 1, vr al, vi (-1)] [(.int 0), (.int (-1))] _
          refine XS.icmpYes X907.here hx rfl (pc0 := 16) (pc' := 40) rfl (hb hby d13_16) rfl (tlt (by decide : ((-1 : Int32) < (0 : Int32)))).1 (by decide) (by decide) ?_
          refine XS.iload X907.here hx rfl (hb hby d13_40) rfl ?_
          refine XS.aloadN X907.here hx rfl (hb hby d13_42) rfl rfl ?_
          refine st908 _ ?_
          show Sp p e below m T908 46 #[vr aa, vr at_, vi 1, vr al, vi (-1)] [(.int 0), (.int (-1))] _
          refine XS.icmpYes X908.here hx rfl (pc0 := 46) (pc' := 54) rfl (hb hby d13_46) rfl (tlt (by decide : ((-1 : Int32) < (0 : Int32)))).1 (by decide) (by decide) ?_
          refine XS.iconst X908.here hx rfl (hb hby d13_54) ?_
          exact retI X908 hx Bd.returns (hb hby d13_55) hr
        · show Q13n2 Z aa at_ al cs vf ab kb gv pa0 pa1 h0 n0 _ T908.heap _
          rw [e908]
          exact ⟨(-1 : Int32), rfl, N903, rfl, (Or.inr (Or.inr (Or.inr (⟨rfl, hc7_891, hc31_898, hc31_905⟩))))⟩
      · obtain ⟨T909, X909, e909, st909⟩ := getF X903 hx hZ hown (host := "") (Or.inl (H 61 _ rfl)) Via.refl e903 Fr_start (g := (mkF m 43 #[vr aa, vr at_, vi 1, vr al, vi 0] [(.ref aa), (.int 0)])) rfl rfl (hb hby d13_43)
        obtain ⟨fs, hr, hrun, hended, hW, hsame⟩ := X909.leave (v := some (.int 0)) (fun h => by rw [Bd.returns] at h; cases h)
        refine ⟨_, _, pre904 _ ?_, hrun, hended, _, _, rfl, ?_, ⟨_, rfl⟩, hW, hsame.mono (by decide) (by decide)⟩
        · show Sp p e below m T903 31 #[vr aa, vr at_, vi 1, vr al, vi 0] [(.int (own_dg pa0))] _
          refine XS.ifYes X903.here hx rfl (pc0 := 31) (pc' := 40) rfl (hb hby d13_31) rfl ((if0 _ _).trans (feq hc31_905).2) (by decide) (by decide) ?_
          refine XS.iload X903.here hx rfl (hb hby d13_40) rfl ?_
          refine XS.aloadN X903.here hx rfl (hb hby d13_42) rfl rfl ?_
          refine st909 _ ?_
          show Sp p e below m T909 46 #[vr aa, vr at_, vi 1, vr al, vi 0] [(.int 0), (.int 0)] _
          refine XS.icmpNo X909.here hx rfl (hb hby d13_46) rfl (flt (by decide : ¬ ((0 : Int32) < (0 : Int32)))).1 ?_
          refine XS.iload X909.here hx rfl (hb hby d13_49) rfl ?_
          refine XS.goto X909.here hx rfl (pc0 := 51) (pc' := 55) rfl (hb hby d13_51) (by decide) (by decide) ?_
          exact retI X909 hx Bd.returns (hb hby d13_55) hr
        · show Q13n2 Z aa at_ al cs vf ab kb gv pa0 pa1 h0 n0 _ T909.heap _
          rw [e909]
          exact ⟨(0 : Int32), rfl, N903, rfl, (Or.inr (Or.inr (Or.inl ⟨rfl, hc7_891, hc31_898, hc31_905⟩)))⟩
    · obtain ⟨T910, X910, e910, st910⟩ := getF X896 hx hZ hown (host := "") (Or.inl (H 61 _ rfl)) Via.refl e896 Fr_start (g := (mkF m 43 #[vr aa, vr at_, vi 1, vr al, vi 1] [(.ref aa), (.int 1)])) rfl rfl (hb hby d13_43)
      obtain ⟨fs, hr, hrun, hended, hW, hsame⟩ := X910.leave (v := some (.int 1)) (fun h => by rw [Bd.returns] at h; cases h)
      refine ⟨_, _, pre897 _ ?_, hrun, hended, _, _, rfl, ?_, ⟨_, rfl⟩, hW, hsame.mono (by decide) (by decide)⟩
      · show Sp p e below m T896 31 #[vr aa, vr at_, vi 1, vr al, vi 1] [(.int (own_dg pa1))] _
        refine XS.ifYes X896.here hx rfl (pc0 := 31) (pc' := 40) rfl (hb hby d13_31) rfl ((if0 _ _).trans (feq hc31_898).2) (by decide) (by decide) ?_
        refine XS.iload X896.here hx rfl (hb hby d13_40) rfl ?_
        refine XS.aloadN X896.here hx rfl (hb hby d13_42) rfl rfl ?_
        refine st910 _ ?_
        show Sp p e below m T910 46 #[vr aa, vr at_, vi 1, vr al, vi 1] [(.int 0), (.int 1)] _
        refine XS.icmpNo X910.here hx rfl (hb hby d13_46) rfl (flt (by decide : ¬ ((1 : Int32) < (0 : Int32)))).1 ?_
        refine XS.iload X910.here hx rfl (hb hby d13_49) rfl ?_
        refine XS.goto X910.here hx rfl (pc0 := 51) (pc' := 55) rfl (hb hby d13_51) (by decide) (by decide) ?_
        exact retI X910 hx Bd.returns (hb hby d13_55) hr
      · show Q13n2 Z aa at_ al cs vf ab kb gv pa0 pa1 h0 n0 _ T910.heap _
        rw [e910]
        exact ⟨(1 : Int32), rfl, N896, rfl, (Or.inr (Or.inl ⟨rfl, hc7_891, hc31_898⟩))⟩
theorem ef_13n3 (m : MethodId) (x0 : Addr) (x1 : Addr) (x3 : Addr) : entryFrame m #[(.ref x0), (.ref x1), (.int 2), (.ref x3)] 5 = mkF m 0 #[.val (.ref x0), .val (.ref x1), .val (.int 2), .val (.ref x3), .unset] [] := by first | (simp [entryFrame, mkF, argsToLocals, Value.category]; done) | rfl
def Q13n3 (Z : State) (aa : Addr) (at_ : Addr) (al : Addr) (cs : Int32) (vf : Value) (ab : Addr) (kb : ClassId) (gv : Int32) (pa0 : Int32) (pa1 : Int32) (pa2 : Int32) (h0 : Heap) (n0 : Nat) (v : Option Value) (h : Heap) (L : List Loc) : Prop := ∃ (rk : Int32), v = some (.int rk) ∧ Fr n0 L ∧ h = h0 ∧ ((rk = 2 ∧ gv = 0) ∨ (rk = 2 ∧ ¬ gv = 0 ∧ ¬ own_dg pa2 = 0) ∨ (rk = 1 ∧ ¬ gv = 0 ∧ own_dg pa2 = 0 ∧ ¬ own_dg pa1 = 0) ∨ (rk = 0 ∧ ¬ gv = 0 ∧ own_dg pa2 = 0 ∧ own_dg pa1 = 0 ∧ ¬ own_dg pa0 = 0) ∨ (rk = -1 ∧ ¬ gv = 0 ∧ own_dg pa2 = 0 ∧ own_dg pa1 = 0 ∧ own_dg pa0 = 0))
theorem rm13n3 (l : Launch) (Z : State) (a0 : Array Value) (hw : ∀ d ∈ tables_1, d.before a0 Z = true) (ws : List Jvm.Cond) (aa : Addr) (at_ : Addr) (al : Addr) (cs : Int32) (vf : Value) (ab : Addr) (kb : ClassId) (gv : Int32) (pa0 : Int32) (pa1 : Int32) (pa2 : Int32) (h0 : Heap) (n0 : Nat) (Z0 : n0 ≤ h0.size) (O0 : Old Z n0 h0) (Scs : Sta Z Z.heap "java/lang/String" "COMPACT_STRINGS" "Z" (.int cs)) (hcs : ¬ cs = (0 : Int32)) (Ssf : Sta Z Z.heap "jdk/internal/util/Preconditions" "SIOOBE_FORMATTER" "Ljava/util/function/BiFunction;" vf) (hvf : vf.isRef = true) (Er : Exa Z h0 aa "com/example/onus_on_beans/onusonbeans/validators/CheckDigitRange") (Fr_end : Fld Z h0 aa "com/example/onus_on_beans/onusonbeans/validators/CheckDigitRange" "end" "I" (.int 2147483647)) (Fr_start : Fld Z h0 aa "com/example/onus_on_beans/onusonbeans/validators/CheckDigitRange" "start" "I" (.int 0)) (Fr_checkAt : Fld Z h0 aa "com/example/onus_on_beans/onusonbeans/validators/CheckDigitRange" "checkAt" "I" (.int (-1))) (Fr_ignoresOthers : Fld Z h0 aa "com/example/onus_on_beans/onusonbeans/validators/CheckDigitRange" "ignoresOthers" "Z" (.int gv)) (El : Exa Z h0 al "com/example/onus_on_beans/onusonbeans/validators/CheckDigitScheme$Luhn") (Fm : Fld Z h0 al "com/example/onus_on_beans/onusonbeans/validators/CheckDigitScheme" "modulus" "I" (.int 10)) (Et : Exa Z h0 at_ "java/lang/String") (Fv : Fld Z h0 at_ "java/lang/String" "value" "[B" (.ref ab)) (Fc : Fld Z h0 at_ "java/lang/String" "coder" "B" (.int 0)) (Va : Arv Z h0 ab kb .byte (3 : Int32) [(.int (own_b pa0)), (.int (own_b pa1)), (.int (own_b pa2))] (.int 0)) (hp0 : 0 ≤ pa0.toInt ∧ pa0.toInt ≤ 255) (hp1 : 0 ≤ pa1.toInt ∧ pa1.toInt ≤ 255) (hp2 : 0 ≤ pa2.toInt ∧ pa2.toInt ≤ 255) :
    MetFree l (⟨"com/example/onus_on_beans/onusonbeans/validators/CheckDigitRange", "lastCheckCharacter", "(Ljava/lang/CharSequence;ILcom/example/onus_on_beans/onusonbeans/validators/CheckDigitScheme;)I"⟩ : MethodName) (head1 (Jvm.Cond.code (⟨"com/example/onus_on_beans/onusonbeans/validators/CheckDigitRange", "lastCheckCharacter", "(Ljava/lang/CharSequence;ILcom/example/onus_on_beans/onusonbeans/validators/CheckDigitScheme;)I"⟩ : MethodName) prog_14_method_5_code 5 (some .int) :: ws) ({ frames := 4, cells := 0, slots := 0, locals := 54 } : Room)) (fun a U => a = #[(.ref aa), (.ref at_), (.int 2), (.ref al)] ∧ Z.Warmed39 U.vm ∧ U.heap = h0) (fun _ _ _ _ _ => True) (fun _ U o U' => ∃ v L, o = .returned v ∧ Q13n3 Z aa at_ al cs vf ab kb gv pa0 pa1 pa2 h0 n0 v U'.heap L ∧ FrameEnd U o U' L ({ frames := 4, cells := 0, slots := 0, locals := 54 } : Room).cells ({ frames := 4, cells := 0, slots := 0, locals := 54 } : Room).slots) := by
  refine MetFree.of_bodySF (plainFor_of_name own_pn275) hisR ?_
  intro p e s m args below meth c s₁ Bd hml0 hP hK
  have H := fun i c (h : tables_1[i]? = some c) => hw c (List.mem_of_getElem? h)
  obtain ⟨rfl, hZ, hh⟩ := hP
  have hx := Bd.exec
  have hby := Bd.bytes
  have hml : c.maxLocals = 5 := hml0
  have hown : s.vm.findClass "com/example/onus_on_beans/onusonbeans/validators/CheckDigitRange" = some m.cls := findClass_of_methodNamed Bd.named
  have hnm := (name_of_methodNamed Bd.named Bd.method).1
  have X0 : Stand p l e ({ frames := 4, cells := 0, slots := 0, locals := 54 } : Room) s m #[(.ref aa), (.ref at_), (.int 2), (.ref al)] below meth c s₁ [] 0 0 := Stand.of_body Bd
  have e0 : s₁.heap = h0 := by rw [← hh, Bd.state]; rfl
  have N0 := Fr.nil n0
  have pre0 : ∀ t, Sp p e below m s₁ 0 #[vr aa, vr at_, vi 2, vr al, .unset] [] t → Steps p.tables e below (s₁.setTop (entryFrame m #[(.ref aa), (.ref at_), (.int 2), (.ref al)] 5)) t := fun t k => castTop (ef_13n3 m aa at_ al) k
  generalize s₁.setTop (entryFrame m #[(.ref aa), (.ref at_), (.int 2), (.ref al)] 5) = G0 at pre0 ⊢
  obtain ⟨T941, X941, e941, st941⟩ := getF X0 hx hZ hown (host := "") (Or.inl (H 81 _ rfl)) Via.refl e0 Fr_ignoresOthers (g := (mkF m 4 #[vr aa, vr at_, vi 2, vr al, vi 2] [(.ref aa)])) rfl rfl (hb hby d13_4)
  have pre942 : ∀ t, Sp p e below m T941 7 #[vr aa, vr at_, vi 2, vr al, vi 2] [(.int gv)] t → SG p e below G0 t := by
    intro t k
    refine pre0 t ?_
    show Sp p e below m s₁ 0 #[vr aa, vr at_, vi 2, vr al, .unset] [] _
    refine XS.iloadN X0.here hx rfl (hb hby d13_0) rfl ?_
    refine XS.istore X0.here hx rfl (hb hby d13_1) rfl (l' := #[vr aa, vr at_, vi 2, vr al, vi 2]) rfl ?_
    refine XS.aloadN X0.here hx rfl (hb hby d13_3) rfl rfl ?_
    refine st941 _ ?_
    exact k
  by_cases hc7_943 : gv = (0 : Int32)
  · obtain ⟨T944, X944, e944, st944⟩ := getF X941 hx hZ hown (host := "") (Or.inl (H 61 _ rfl)) Via.refl e941 Fr_start (g := (mkF m 43 #[vr aa, vr at_, vi 2, vr al, vi 2] [(.ref aa), (.int 2)])) rfl rfl (hb hby d13_43)
    obtain ⟨fs, hr, hrun, hended, hW, hsame⟩ := X944.leave (v := some (.int 2)) (fun h => by rw [Bd.returns] at h; cases h)
    refine ⟨_, _, pre942 _ ?_, hrun, hended, _, _, rfl, ?_, ⟨_, rfl⟩, hW, hsame.mono (by decide) (by decide)⟩
    · show Sp p e below m T941 7 #[vr aa, vr at_, vi 2, vr al, vi 2] [(.int gv)] _
      refine XS.ifYes X941.here hx rfl (pc0 := 7) (pc' := 40) rfl (hb hby d13_7) rfl ((if0 _ _).trans (teq hc7_943).1) (by decide) (by decide) ?_
      refine XS.iload X941.here hx rfl (hb hby d13_40) rfl ?_
      refine XS.aloadN X941.here hx rfl (hb hby d13_42) rfl rfl ?_
      refine st944 _ ?_
      show Sp p e below m T944 46 #[vr aa, vr at_, vi 2, vr al, vi 2] [(.int 0), (.int 2)] _
      refine XS.icmpNo X944.here hx rfl (hb hby d13_46) rfl (flt (by decide : ¬ ((2 : Int32) < (0 : Int32)))).1 ?_
      refine XS.iload X944.here hx rfl (hb hby d13_49) rfl ?_
      refine XS.goto X944.here hx rfl (pc0 := 51) (pc' := 55) rfl (hb hby d13_51) (by decide) (by decide) ?_
      exact retI X944 hx Bd.returns (hb hby d13_55) hr
    · show Q13n3 Z aa at_ al cs vf ab kb gv pa0 pa1 pa2 h0 n0 _ T944.heap _
      rw [e944]
      exact ⟨(2 : Int32), rfl, N0, rfl, (Or.inl ⟨rfl, hc7_943⟩)⟩
  · obtain ⟨T945, X945, e945, st945⟩ := getF X941 hx hZ hown (host := "") (Or.inl (H 61 _ rfl)) Via.refl e941 Fr_start (g := (mkF m 13 #[vr aa, vr at_, vi 2, vr al, vi 2] [(.ref aa), (.int 2)])) rfl rfl (hb hby d13_13)
    obtain ⟨cq946, kq946, q946a, q946b, q946c⟩ := isOf hZ e945 Et
    obtain ⟨_, _, ⟨T946, L946, k946, n946⟩, -, X946, ⟨Lc946, hQ946, l946, y946, z946⟩, st946⟩ := X945.interfaceBack hx hown (mvT hZ (H 83 _ rfl)) (mvT hZ (H 84 _ rfl)) (mvT hZ (H 85 _ rfl)) (mvT hZ (H 86 _ rfl)) (mvT hZ (H 87 _ rfl)) (mvT hZ (H 88 _ rfl)) (mvT hZ (H 89 _ rfl)) (mvT hZ (H 53 _ rfl)) (by decide) (backOf (W := 1) (rm14 l Z a0 hw [] at_ (2 : Int32) cs vf ab kb (3 : Int32) [(.int (own_b pa0)), (.int (own_b pa1)), (.int (own_b pa2))] (own_b pa2) h0 n0 Z0 O0 Scs hcs Ssf hvf Et Fv Fc Va (by decide) (by decide) rfl) hZ (H 90 _ rfl) (H 9 _ rfl) (by decide) (by decide)) q946a q946b q946c (g := (mkF m 23 #[vr aa, vr at_, vi 2, vr al, vi 2] [(.int 2), (.ref at_), (.ref al)])) rfl (by rw [hml]; rfl) (Steps.refl _) (argsL := [(.int 2)]) (rest := [(.ref al)]) (lenOf own_pd356 rfl) rfl (Nat.le_of_eq rfl) (hb hby d13_23) (fun _ _ => ⟨rfl, e945, Nat.zero_le _, Nat.zero_le _⟩)
    dsimp only [Pt.U, Pt.locs, Pt.cells, Pt.slots] at X946 l946 y946 z946 st946 hQ946
    rw [l946, y946, z946] at X946
    obtain ⟨rfl, Nq946, e946⟩ := hQ946
    have N946 := Fr.app N0 Nq946
    have pre947 : ∀ t, Sp p e below m T946 28 #[vr aa, vr at_, vi 2, vr al, vi 2] [(.int (own_lat (own_b pa2))), (.ref al)] t → SG p e below G0 t := by
      intro t k
      refine pre942 t ?_
      show Sp p e below m T941 7 #[vr aa, vr at_, vi 2, vr al, vi 2] [(.int gv)] _
      refine XS.ifNo X941.here hx rfl (hb hby d13_7) rfl ((if0 _ _).trans (feq hc7_943).1) ?_
      refine XS.iload X941.here hx rfl (hb hby d13_10) rfl ?_
      refine XS.aloadN X941.here hx rfl (hb hby d13_12) rfl rfl ?_
      refine st945 _ ?_
      show Sp p e below m T945 16 #[vr aa, vr at_, vi 2, vr al, vi 2] [(.int 0), (.int 2)] _
      refine XS.icmpNo X945.here hx rfl (hb hby d13_16) rfl (flt (by decide : ¬ ((2 : Int32) < (0 : Int32)))).1 ?_
      refine XS.aloadN X945.here hx rfl (hb hby d13_19) rfl rfl ?_
      refine XS.aloadN X945.here hx rfl (hb hby d13_20) rfl rfl ?_
      refine XS.iload X945.here hx rfl (hb hby d13_21) rfl ?_
      refine st946.trans ?_
      exact k
    rw [show (own_lat (own_b pa2)) = pa2 from own_at hp2] at pre947
    obtain ⟨cq948, kq948, q948a, q948b, q948c⟩ := isOf hZ e946 El
    obtain ⟨_, _, ⟨T948, L948, k948, n948⟩, -, X948, ⟨Lc948, hQ948, l948, y948, z948⟩, st948⟩ := X946.virtualBack hx hown (mvT hZ (H 108 _ rfl)) (mvT hZ (H 109 _ rfl)) (notFace_of_selects (args := #[]) (mvT hZ (H 111 _ rfl))) (mvT hZ (H 111 _ rfl)) (mvT hZ (H 110 _ rfl)) (by decide) (backOf (W := 0) (rm19 l Z a0 hw [] al pa2  h0 n0 Z0 ) hZ (H 112 _ rfl) (H 36 _ rfl) (by decide) (by decide)) q948a q948c (g := (mkF m 28 #[vr aa, vr at_, vi 2, vr al, vi 2] [(.int pa2), (.ref al)])) rfl (by rw [hml]; rfl) (Steps.refl _) (argsL := [(.int pa2)]) (rest := []) (lenOf own_pd215 rfl) rfl (Nat.le_of_eq rfl) (hb hby d13_28) (fun _ _ => ⟨rfl, e946, Nat.zero_le _, Nat.zero_le _⟩)
    dsimp only [Pt.U, Pt.locs, Pt.cells, Pt.slots] at X948 l948 y948 z948 st948 hQ948
    rw [l948, y948, z948] at X948
    obtain ⟨rfl, Nq948, e948⟩ := hQ948
    have N948 := Fr.app N946 Nq948
    have pre949 : ∀ t, Sp p e below m T948 31 #[vr aa, vr at_, vi 2, vr al, vi 2] [(.int (own_dg pa2))] t → SG p e below G0 t := by
      intro t k
      refine pre947 t ?_
      show Sp p e below m T946 28 #[vr aa, vr at_, vi 2, vr al, vi 2] [(.int pa2), (.ref al)] _
      refine st948.trans ?_
      exact k
    by_cases hc31_950 : (own_dg pa2) = (0 : Int32)
    · obtain ⟨T951, X951, e951, st951⟩ := getF X948 hx hZ hown (host := "") (Or.inl (H 81 _ rfl)) Via.refl e948 Fr_ignoresOthers (g := (mkF m 4 #[vr aa, vr at_, vi 2, vr al, vi 1] [(.ref aa)])) rfl rfl (hb hby d13_4)
      obtain ⟨T952, X952, e952, st952⟩ := getF X951 hx hZ hown (host := "") (Or.inl (H 61 _ rfl)) Via.refl e951 Fr_start (g := (mkF m 13 #[vr aa, vr at_, vi 2, vr al, vi 1] [(.ref aa), (.int 1)])) rfl rfl (hb hby d13_13)
      obtain ⟨cq953, kq953, q953a, q953b, q953c⟩ := isOf hZ e952 Et
      obtain ⟨_, _, ⟨T953, L953, k953, n953⟩, -, X953, ⟨Lc953, hQ953, l953, y953, z953⟩, st953⟩ := X952.interfaceBack hx hown (mvT hZ (H 83 _ rfl)) (mvT hZ (H 84 _ rfl)) (mvT hZ (H 85 _ rfl)) (mvT hZ (H 86 _ rfl)) (mvT hZ (H 87 _ rfl)) (mvT hZ (H 88 _ rfl)) (mvT hZ (H 89 _ rfl)) (mvT hZ (H 53 _ rfl)) (by decide) (backOf (W := 1) (rm14 l Z a0 hw [] at_ (1 : Int32) cs vf ab kb (3 : Int32) [(.int (own_b pa0)), (.int (own_b pa1)), (.int (own_b pa2))] (own_b pa1) h0 n0 Z0 O0 Scs hcs Ssf hvf Et Fv Fc Va (by decide) (by decide) rfl) hZ (H 90 _ rfl) (H 9 _ rfl) (by decide) (by decide)) q953a q953b q953c (g := (mkF m 23 #[vr aa, vr at_, vi 2, vr al, vi 1] [(.int 1), (.ref at_), (.ref al)])) rfl (by rw [hml]; rfl) (Steps.refl _) (argsL := [(.int 1)]) (rest := [(.ref al)]) (lenOf own_pd356 rfl) rfl (Nat.le_of_eq rfl) (hb hby d13_23) (fun _ _ => ⟨rfl, e952, Nat.zero_le _, Nat.zero_le _⟩)
      dsimp only [Pt.U, Pt.locs, Pt.cells, Pt.slots] at X953 l953 y953 z953 st953 hQ953
      rw [l953, y953, z953] at X953
      obtain ⟨rfl, Nq953, e953⟩ := hQ953
      have N953 := Fr.app N948 Nq953
      have pre954 : ∀ t, Sp p e below m T953 28 #[vr aa, vr at_, vi 2, vr al, vi 1] [(.int (own_lat (own_b pa1))), (.ref al)] t → SG p e below G0 t := by
        intro t k
        refine pre949 t ?_
        show Sp p e below m T948 31 #[vr aa, vr at_, vi 2, vr al, vi 2] [(.int (own_dg pa2))] _
        refine XS.ifNo X948.here hx rfl (hb hby d13_31) rfl ((if0 _ _).trans (teq hc31_950).2) ?_
        refine XS.iinc X948.here hx rfl (hb hby d13_34) rfl (l' := #[vr aa, vr at_, vi 2, vr al, vi 1]) rfl ?_
        refine XS.goto X948.here hx rfl (pc0 := 37) (pc' := 3) rfl (hb hby d13_37) (by decide) (by decide) ?_
        refine XS.aloadN X948.here hx rfl (hb hby d13_3) rfl rfl ?_
        refine st951 _ ?_
        show Sp p e below m T951 7 #[vr aa, vr at_, vi 2, vr al, vi 1] [(.int gv)] _
        refine XS.ifNo X951.here hx rfl (hb hby d13_7) rfl ((if0 _ _).trans (feq (hc7_943 : ¬ (gv = (0 : Int32)))).1) ?_
        refine XS.iload X951.here hx rfl (hb hby d13_10) rfl ?_
        refine XS.aloadN X951.here hx rfl (hb hby d13_12) rfl rfl ?_
        refine st952 _ ?_
        show Sp p e below m T952 16 #[vr aa, vr at_, vi 2, vr al, vi 1] [(.int 0), (.int 1)] _
        refine XS.icmpNo X952.here hx rfl (hb hby d13_16) rfl (flt (by decide : ¬ ((1 : Int32) < (0 : Int32)))).1 ?_
        refine XS.aloadN X952.here hx rfl (hb hby d13_19) rfl rfl ?_
        refine XS.aloadN X952.here hx rfl (hb hby d13_20) rfl rfl ?_
        refine XS.iload X952.here hx rfl (hb hby d13_21) rfl ?_
        refine st953.trans ?_
        exact k
      rw [show (own_lat (own_b pa1)) = pa1 from own_at hp1] at pre954
      obtain ⟨cq955, kq955, q955a, q955b, q955c⟩ := isOf hZ e953 El
      obtain ⟨_, _, ⟨T955, L955, k955, n955⟩, -, X955, ⟨Lc955, hQ955, l955, y955, z955⟩, st955⟩ := X953.virtualBack hx hown (mvT hZ (H 108 _ rfl)) (mvT hZ (H 109 _ rfl)) (notFace_of_selects (args := #[]) (mvT hZ (H 111 _ rfl))) (mvT hZ (H 111 _ rfl)) (mvT hZ (H 110 _ rfl)) (by decide) (backOf (W := 0) (rm19 l Z a0 hw [] al pa1  h0 n0 Z0 ) hZ (H 112 _ rfl) (H 36 _ rfl) (by decide) (by decide)) q955a q955c (g := (mkF m 28 #[vr aa, vr at_, vi 2, vr al, vi 1] [(.int pa1), (.ref al)])) rfl (by rw [hml]; rfl) (Steps.refl _) (argsL := [(.int pa1)]) (rest := []) (lenOf own_pd215 rfl) rfl (Nat.le_of_eq rfl) (hb hby d13_28) (fun _ _ => ⟨rfl, e953, Nat.zero_le _, Nat.zero_le _⟩)
      dsimp only [Pt.U, Pt.locs, Pt.cells, Pt.slots] at X955 l955 y955 z955 st955 hQ955
      rw [l955, y955, z955] at X955
      obtain ⟨rfl, Nq955, e955⟩ := hQ955
      have N955 := Fr.app N953 Nq955
      have pre956 : ∀ t, Sp p e below m T955 31 #[vr aa, vr at_, vi 2, vr al, vi 1] [(.int (own_dg pa1))] t → SG p e below G0 t := by
        intro t k
        refine pre954 t ?_
        show Sp p e below m T953 28 #[vr aa, vr at_, vi 2, vr al, vi 1] [(.int pa1), (.ref al)] _
        refine st955.trans ?_
        exact k
      by_cases hc31_957 : (own_dg pa1) = (0 : Int32)
      · obtain ⟨T958, X958, e958, st958⟩ := getF X955 hx hZ hown (host := "") (Or.inl (H 81 _ rfl)) Via.refl e955 Fr_ignoresOthers (g := (mkF m 4 #[vr aa, vr at_, vi 2, vr al, vi 0] [(.ref aa)])) rfl rfl (hb hby d13_4)
        obtain ⟨T959, X959, e959, st959⟩ := getF X958 hx hZ hown (host := "") (Or.inl (H 61 _ rfl)) Via.refl e958 Fr_start (g := (mkF m 13 #[vr aa, vr at_, vi 2, vr al, vi 0] [(.ref aa), (.int 0)])) rfl rfl (hb hby d13_13)
        obtain ⟨cq960, kq960, q960a, q960b, q960c⟩ := isOf hZ e959 Et
        obtain ⟨_, _, ⟨T960, L960, k960, n960⟩, -, X960, ⟨Lc960, hQ960, l960, y960, z960⟩, st960⟩ := X959.interfaceBack hx hown (mvT hZ (H 83 _ rfl)) (mvT hZ (H 84 _ rfl)) (mvT hZ (H 85 _ rfl)) (mvT hZ (H 86 _ rfl)) (mvT hZ (H 87 _ rfl)) (mvT hZ (H 88 _ rfl)) (mvT hZ (H 89 _ rfl)) (mvT hZ (H 53 _ rfl)) (by decide) (backOf (W := 1) (rm14 l Z a0 hw [] at_ (0 : Int32) cs vf ab kb (3 : Int32) [(.int (own_b pa0)), (.int (own_b pa1)), (.int (own_b pa2))] (own_b pa0) h0 n0 Z0 O0 Scs hcs Ssf hvf Et Fv Fc Va (by decide) (by decide) rfl) hZ (H 90 _ rfl) (H 9 _ rfl) (by decide) (by decide)) q960a q960b q960c (g := (mkF m 23 #[vr aa, vr at_, vi 2, vr al, vi 0] [(.int 0), (.ref at_), (.ref al)])) rfl (by rw [hml]; rfl) (Steps.refl _) (argsL := [(.int 0)]) (rest := [(.ref al)]) (lenOf own_pd356 rfl) rfl (Nat.le_of_eq rfl) (hb hby d13_23) (fun _ _ => ⟨rfl, e959, Nat.zero_le _, Nat.zero_le _⟩)
        dsimp only [Pt.U, Pt.locs, Pt.cells, Pt.slots] at X960 l960 y960 z960 st960 hQ960
        rw [l960, y960, z960] at X960
        obtain ⟨rfl, Nq960, e960⟩ := hQ960
        have N960 := Fr.app N955 Nq960
        have pre961 : ∀ t, Sp p e below m T960 28 #[vr aa, vr at_, vi 2, vr al, vi 0] [(.int (own_lat (own_b pa0))), (.ref al)] t → SG p e below G0 t := by
          intro t k
          refine pre956 t ?_
          show Sp p e below m T955 31 #[vr aa, vr at_, vi 2, vr al, vi 1] [(.int (own_dg pa1))] _
          refine XS.ifNo X955.here hx rfl (hb hby d13_31) rfl ((if0 _ _).trans (teq hc31_957).2) ?_
          refine XS.iinc X955.here hx rfl (hb hby d13_34) rfl (l' := #[vr aa, vr at_, vi 2, vr al, vi 0]) rfl ?_
          refine XS.goto X955.here hx rfl (pc0 := 37) (pc' := 3) rfl (hb hby d13_37) (by decide) (by decide) ?_
          refine XS.aloadN X955.here hx rfl (hb hby d13_3) rfl rfl ?_
          refine st958 _ ?_
          show Sp p e below m T958 7 #[vr aa, vr at_, vi 2, vr al, vi 0] [(.int gv)] _
          refine XS.ifNo X958.here hx rfl (hb hby d13_7) rfl ((if0 _ _).trans (feq (hc7_943 : ¬ (gv = (0 : Int32)))).1) ?_
          refine XS.iload X958.here hx rfl (hb hby d13_10) rfl ?_
          refine XS.aloadN X958.here hx rfl (hb hby d13_12) rfl rfl ?_
          refine st959 _ ?_
          show Sp p e below m T959 16 #[vr aa, vr at_, vi 2, vr al, vi 0] [(.int 0), (.int 0)] _
          refine XS.icmpNo X959.here hx rfl (hb hby d13_16) rfl (flt (by decide : ¬ ((0 : Int32) < (0 : Int32)))).1 ?_
          refine XS.aloadN X959.here hx rfl (hb hby d13_19) rfl rfl ?_
          refine XS.aloadN X959.here hx rfl (hb hby d13_20) rfl rfl ?_
          refine XS.iload X959.here hx rfl (hb hby d13_21) rfl ?_
          refine st960.trans ?_
          exact k
        rw [show (own_lat (own_b pa0)) = pa0 from own_at hp0] at pre961
        obtain ⟨cq962, kq962, q962a, q962b, q962c⟩ := isOf hZ e960 El
        obtain ⟨_, _, ⟨T962, L962, k962, n962⟩, -, X962, ⟨Lc962, hQ962, l962, y962, z962⟩, st962⟩ := X960.virtualBack hx hown (mvT hZ (H 108 _ rfl)) (mvT hZ (H 109 _ rfl)) (notFace_of_selects (args := #[]) (mvT hZ (H 111 _ rfl))) (mvT hZ (H 111 _ rfl)) (mvT hZ (H 110 _ rfl)) (by decide) (backOf (W := 0) (rm19 l Z a0 hw [] al pa0  h0 n0 Z0 ) hZ (H 112 _ rfl) (H 36 _ rfl) (by decide) (by decide)) q962a q962c (g := (mkF m 28 #[vr aa, vr at_, vi 2, vr al, vi 0] [(.int pa0), (.ref al)])) rfl (by rw [hml]; rfl) (Steps.refl _) (argsL := [(.int pa0)]) (rest := []) (lenOf own_pd215 rfl) rfl (Nat.le_of_eq rfl) (hb hby d13_28) (fun _ _ => ⟨rfl, e960, Nat.zero_le _, Nat.zero_le _⟩)
        dsimp only [Pt.U, Pt.locs, Pt.cells, Pt.slots] at X962 l962 y962 z962 st962 hQ962
        rw [l962, y962, z962] at X962
        obtain ⟨rfl, Nq962, e962⟩ := hQ962
        have N962 := Fr.app N960 Nq962
        have pre963 : ∀ t, Sp p e below m T962 31 #[vr aa, vr at_, vi 2, vr al, vi 0] [(.int (own_dg pa0))] t → SG p e below G0 t := by
          intro t k
          refine pre961 t ?_
          show Sp p e below m T960 28 #[vr aa, vr at_, vi 2, vr al, vi 0] [(.int pa0), (.ref al)] _
          refine st962.trans ?_
          exact k
        by_cases hc31_964 : (own_dg pa0) = (0 : Int32)
        · obtain ⟨T965, X965, e965, st965⟩ := getF X962 hx hZ hown (host := "") (Or.inl (H 81 _ rfl)) Via.refl e962 Fr_ignoresOthers (g := (mkF m 4 #[vr aa, vr at_, vi 2, vr al, vi (-1)] [(.ref aa)])) rfl rfl (hb hby d13_4)
          obtain ⟨T966, X966, e966, st966⟩ := getF X965 hx hZ hown (host := "") (Or.inl (H 61 _ rfl)) Via.refl e965 Fr_start (g := (mkF m 13 #[vr aa, vr at_, vi 2, vr al, vi (-1)] [(.ref aa), (.int (-1))])) rfl rfl (hb hby d13_13)
          obtain ⟨T967, X967, e967, st967⟩ := getF X966 hx hZ hown (host := "") (Or.inl (H 61 _ rfl)) Via.refl e966 Fr_start (g := (mkF m 43 #[vr aa, vr at_, vi 2, vr al, vi (-1)] [(.ref aa), (.int (-1))])) rfl rfl (hb hby d13_43)
          obtain ⟨fs, hr, hrun, hended, hW, hsame⟩ := X967.leave (v := some (.int (-1))) (fun h => by rw [Bd.returns] at h; cases h)
          refine ⟨_, _, pre963 _ ?_, hrun, hended, _, _, rfl, ?_, ⟨_, rfl⟩, hW, hsame.mono (by decide) (by decide)⟩
          · show Sp p e below m T962 31 #[vr aa, vr at_, vi 2, vr al, vi 0] [(.int (own_dg pa0))] _
            refine XS.ifNo X962.here hx rfl (hb hby d13_31) rfl ((if0 _ _).trans (teq hc31_964).2) ?_
            refine XS.iinc X962.here hx rfl (hb hby d13_34) rfl (l' := #[vr aa, vr at_, vi 2, vr al, vi (-1)]) rfl ?_
            refine XS.goto X962.here hx rfl (pc0 := 37) (pc' := 3) rfl (hb hby d13_37) (by decide) (by decide) ?_
            refine XS.aloadN X962.here hx rfl (hb hby d13_3) rfl rfl ?_
            refine st965 _ ?_
            show Sp p e below m T965 7 #[vr aa, vr at_, vi 2, vr al, vi (-1)] [(.int gv)] _
            refine XS.ifNo X965.here hx rfl (hb hby d13_7) rfl ((if0 _ _).trans (feq (hc7_943 : ¬ (gv = (0 : Int32)))).1) ?_
            refine XS.iload X965.here hx rfl (hb hby d13_10) rfl ?_
            refine XS.aloadN X965.here hx rfl (hb hby d13_12) rfl rfl ?_
            refine st966 _ ?_
            show Sp p e below m T966 16 #[vr aa, vr at_, vi 2, vr al, vi (-1)] [(.int 0), (.int (-1))] _
            refine XS.icmpYes X966.here hx rfl (pc0 := 16) (pc' := 40) rfl (hb hby d13_16) rfl (tlt (by decide : ((-1 : Int32) < (0 : Int32)))).1 (by decide) (by decide) ?_
            refine XS.iload X966.here hx rfl (hb hby d13_40) rfl ?_
            refine XS.aloadN X966.here hx rfl (hb hby d13_42) rfl rfl ?_
            refine st967 _ ?_
            show Sp p e below m T967 46 #[vr aa, vr at_, vi 2, vr al, vi (-1)] [(.int 0), (.int (-1))] _
            refine XS.icmpYes X967.here hx rfl (pc0 := 46) (pc' := 54) rfl (hb hby d13_46) rfl (tlt (by decide : ((-1 : Int32) < (0 : Int32)))).1 (by decide) (by decide) ?_
            refine XS.iconst X967.here hx rfl (hb hby d13_54) ?_
            exact retI X967 hx Bd.returns (hb hby d13_55) hr
          · show Q13n3 Z aa at_ al cs vf ab kb gv pa0 pa1 pa2 h0 n0 _ T967.heap _
            rw [e967]
            exact ⟨(-1 : Int32), rfl, N962, rfl, (Or.inr (Or.inr (Or.inr (Or.inr (⟨rfl, hc7_943, hc31_950, hc31_957, hc31_964⟩)))))⟩
        · obtain ⟨T968, X968, e968, st968⟩ := getF X962 hx hZ hown (host := "") (Or.inl (H 61 _ rfl)) Via.refl e962 Fr_start (g := (mkF m 43 #[vr aa, vr at_, vi 2, vr al, vi 0] [(.ref aa), (.int 0)])) rfl rfl (hb hby d13_43)
          obtain ⟨fs, hr, hrun, hended, hW, hsame⟩ := X968.leave (v := some (.int 0)) (fun h => by rw [Bd.returns] at h; cases h)
          refine ⟨_, _, pre963 _ ?_, hrun, hended, _, _, rfl, ?_, ⟨_, rfl⟩, hW, hsame.mono (by decide) (by decide)⟩
          · show Sp p e below m T962 31 #[vr aa, vr at_, vi 2, vr al, vi 0] [(.int (own_dg pa0))] _
            refine XS.ifYes X962.here hx rfl (pc0 := 31) (pc' := 40) rfl (hb hby d13_31) rfl ((if0 _ _).trans (feq hc31_964).2) (by decide) (by decide) ?_
            refine XS.iload X962.here hx rfl (hb hby d13_40) rfl ?_
            refine XS.aloadN X962.here hx rfl (hb hby d13_42) rfl rfl ?_
            refine st968 _ ?_
            show Sp p e below m T968 46 #[vr aa, vr at_, vi 2, vr al, vi 0] [(.int 0), (.int 0)] _
            refine XS.icmpNo X968.here hx rfl (hb hby d13_46) rfl (flt (by decide : ¬ ((0 : Int32) < (0 : Int32)))).1 ?_
            refine XS.iload X968.here hx rfl (hb hby d13_49) rfl ?_
            refine XS.goto X968.here hx rfl (pc0 := 51) (pc' := 55) rfl (hb hby d13_51) (by decide) (by decide) ?_
            exact retI X968 hx Bd.returns (hb hby d13_55) hr
          · show Q13n3 Z aa at_ al cs vf ab kb gv pa0 pa1 pa2 h0 n0 _ T968.heap _
            rw [e968]
            exact ⟨(0 : Int32), rfl, N962, rfl, (Or.inr (Or.inr (Or.inr (Or.inl ⟨rfl, hc7_943, hc31_950, hc31_957, hc31_964⟩))))⟩
      · obtain ⟨T969, X969, e969, st969⟩ := getF X955 hx hZ hown (host := "") (Or.inl (H 61 _ rfl)) Via.refl e955 Fr_start (g := (mkF m 43 #[vr aa, vr at_, vi 2, vr al, vi 1] [(.ref aa), (.int 1)])) rfl rfl (hb hby d13_43)
        obtain ⟨fs, hr, hrun, hended, hW, hsame⟩ := X969.leave (v := some (.int 1)) (fun h => by rw [Bd.returns] at h; cases h)
        refine ⟨_, _, pre956 _ ?_, hrun, hended, _, _, rfl, ?_, ⟨_, rfl⟩, hW, hsame.mono (by decide) (by decide)⟩
        · show Sp p e below m T955 31 #[vr aa, vr at_, vi 2, vr al, vi 1] [(.int (own_dg pa1))] _
          refine XS.ifYes X955.here hx rfl (pc0 := 31) (pc' := 40) rfl (hb hby d13_31) rfl ((if0 _ _).trans (feq hc31_957).2) (by decide) (by decide) ?_
          refine XS.iload X955.here hx rfl (hb hby d13_40) rfl ?_
          refine XS.aloadN X955.here hx rfl (hb hby d13_42) rfl rfl ?_
          refine st969 _ ?_
          show Sp p e below m T969 46 #[vr aa, vr at_, vi 2, vr al, vi 1] [(.int 0), (.int 1)] _
          refine XS.icmpNo X969.here hx rfl (hb hby d13_46) rfl (flt (by decide : ¬ ((1 : Int32) < (0 : Int32)))).1 ?_
          refine XS.iload X969.here hx rfl (hb hby d13_49) rfl ?_
          refine XS.goto X969.here hx rfl (pc0 := 51) (pc' := 55) rfl (hb hby d13_51) (by decide) (by decide) ?_
          exact retI X969 hx Bd.returns (hb hby d13_55) hr
        · show Q13n3 Z aa at_ al cs vf ab kb gv pa0 pa1 pa2 h0 n0 _ T969.heap _
          rw [e969]
          exact ⟨(1 : Int32), rfl, N955, rfl, (Or.inr (Or.inr (Or.inl ⟨rfl, hc7_943, hc31_950, hc31_957⟩)))⟩
    · obtain ⟨T970, X970, e970, st970⟩ := getF X948 hx hZ hown (host := "") (Or.inl (H 61 _ rfl)) Via.refl e948 Fr_start (g := (mkF m 43 #[vr aa, vr at_, vi 2, vr al, vi 2] [(.ref aa), (.int 2)])) rfl rfl (hb hby d13_43)
      obtain ⟨fs, hr, hrun, hended, hW, hsame⟩ := X970.leave (v := some (.int 2)) (fun h => by rw [Bd.returns] at h; cases h)
      refine ⟨_, _, pre949 _ ?_, hrun, hended, _, _, rfl, ?_, ⟨_, rfl⟩, hW, hsame.mono (by decide) (by decide)⟩
      · show Sp p e below m T948 31 #[vr aa, vr at_, vi 2, vr al, vi 2] [(.int (own_dg pa2))] _
        refine XS.ifYes X948.here hx rfl (pc0 := 31) (pc' := 40) rfl (hb hby d13_31) rfl ((if0 _ _).trans (feq hc31_950).2) (by decide) (by decide) ?_
        refine XS.iload X948.here hx rfl (hb hby d13_40) rfl ?_
        refine XS.aloadN X948.here hx rfl (hb hby d13_42) rfl rfl ?_
        refine st970 _ ?_
        show Sp p e below m T970 46 #[vr aa, vr at_, vi 2, vr al, vi 2] [(.int 0), (.int 2)] _
        refine XS.icmpNo X970.here hx rfl (hb hby d13_46) rfl (flt (by decide : ¬ ((2 : Int32) < (0 : Int32)))).1 ?_
        refine XS.iload X970.here hx rfl (hb hby d13_49) rfl ?_
        refine XS.goto X970.here hx rfl (pc0 := 51) (pc' := 55) rfl (hb hby d13_51) (by decide) (by decide) ?_
        exact retI X970 hx Bd.returns (hb hby d13_55) hr
      · show Q13n3 Z aa at_ al cs vf ab kb gv pa0 pa1 pa2 h0 n0 _ T970.heap _
        rw [e970]
        exact ⟨(2 : Int32), rfl, N948, rfl, (Or.inr (Or.inl ⟨rfl, hc7_943, hc31_950⟩))⟩
theorem ef_13n4 (m : MethodId) (x0 : Addr) (x1 : Addr) (x3 : Addr) : entryFrame m #[(.ref x0), (.ref x1), (.int 3), (.ref x3)] 5 = mkF m 0 #[.val (.ref x0), .val (.ref x1), .val (.int 3), .val (.ref x3), .unset] [] := by first | (simp [entryFrame, mkF, argsToLocals, Value.category]; done) | rfl
def Q13n4 (Z : State) (aa : Addr) (at_ : Addr) (al : Addr) (cs : Int32) (vf : Value) (ab : Addr) (kb : ClassId) (gv : Int32) (pa0 : Int32) (pa1 : Int32) (pa2 : Int32) (pa3 : Int32) (h0 : Heap) (n0 : Nat) (v : Option Value) (h : Heap) (L : List Loc) : Prop := ∃ (rk : Int32), v = some (.int rk) ∧ Fr n0 L ∧ h = h0 ∧ ((rk = 3 ∧ gv = 0) ∨ (rk = 3 ∧ ¬ gv = 0 ∧ ¬ own_dg pa3 = 0) ∨ (rk = 2 ∧ ¬ gv = 0 ∧ own_dg pa3 = 0 ∧ ¬ own_dg pa2 = 0) ∨ (rk = 1 ∧ ¬ gv = 0 ∧ own_dg pa3 = 0 ∧ own_dg pa2 = 0 ∧ ¬ own_dg pa1 = 0) ∨ (rk = 0 ∧ ¬ gv = 0 ∧ own_dg pa3 = 0 ∧ own_dg pa2 = 0 ∧ own_dg pa1 = 0 ∧ ¬ own_dg pa0 = 0) ∨ (rk = -1 ∧ ¬ gv = 0 ∧ own_dg pa3 = 0 ∧ own_dg pa2 = 0 ∧ own_dg pa1 = 0 ∧ own_dg pa0 = 0))
theorem rm13n4 (l : Launch) (Z : State) (a0 : Array Value) (hw : ∀ d ∈ tables_1, d.before a0 Z = true) (ws : List Jvm.Cond) (aa : Addr) (at_ : Addr) (al : Addr) (cs : Int32) (vf : Value) (ab : Addr) (kb : ClassId) (gv : Int32) (pa0 : Int32) (pa1 : Int32) (pa2 : Int32) (pa3 : Int32) (h0 : Heap) (n0 : Nat) (Z0 : n0 ≤ h0.size) (O0 : Old Z n0 h0) (Scs : Sta Z Z.heap "java/lang/String" "COMPACT_STRINGS" "Z" (.int cs)) (hcs : ¬ cs = (0 : Int32)) (Ssf : Sta Z Z.heap "jdk/internal/util/Preconditions" "SIOOBE_FORMATTER" "Ljava/util/function/BiFunction;" vf) (hvf : vf.isRef = true) (Er : Exa Z h0 aa "com/example/onus_on_beans/onusonbeans/validators/CheckDigitRange") (Fr_end : Fld Z h0 aa "com/example/onus_on_beans/onusonbeans/validators/CheckDigitRange" "end" "I" (.int 2147483647)) (Fr_start : Fld Z h0 aa "com/example/onus_on_beans/onusonbeans/validators/CheckDigitRange" "start" "I" (.int 0)) (Fr_checkAt : Fld Z h0 aa "com/example/onus_on_beans/onusonbeans/validators/CheckDigitRange" "checkAt" "I" (.int (-1))) (Fr_ignoresOthers : Fld Z h0 aa "com/example/onus_on_beans/onusonbeans/validators/CheckDigitRange" "ignoresOthers" "Z" (.int gv)) (El : Exa Z h0 al "com/example/onus_on_beans/onusonbeans/validators/CheckDigitScheme$Luhn") (Fm : Fld Z h0 al "com/example/onus_on_beans/onusonbeans/validators/CheckDigitScheme" "modulus" "I" (.int 10)) (Et : Exa Z h0 at_ "java/lang/String") (Fv : Fld Z h0 at_ "java/lang/String" "value" "[B" (.ref ab)) (Fc : Fld Z h0 at_ "java/lang/String" "coder" "B" (.int 0)) (Va : Arv Z h0 ab kb .byte (4 : Int32) [(.int (own_b pa0)), (.int (own_b pa1)), (.int (own_b pa2)), (.int (own_b pa3))] (.int 0)) (hp0 : 0 ≤ pa0.toInt ∧ pa0.toInt ≤ 255) (hp1 : 0 ≤ pa1.toInt ∧ pa1.toInt ≤ 255) (hp2 : 0 ≤ pa2.toInt ∧ pa2.toInt ≤ 255) (hp3 : 0 ≤ pa3.toInt ∧ pa3.toInt ≤ 255) :
    MetFree l (⟨"com/example/onus_on_beans/onusonbeans/validators/CheckDigitRange", "lastCheckCharacter", "(Ljava/lang/CharSequence;ILcom/example/onus_on_beans/onusonbeans/validators/CheckDigitScheme;)I"⟩ : MethodName) (head1 (Jvm.Cond.code (⟨"com/example/onus_on_beans/onusonbeans/validators/CheckDigitRange", "lastCheckCharacter", "(Ljava/lang/CharSequence;ILcom/example/onus_on_beans/onusonbeans/validators/CheckDigitScheme;)I"⟩ : MethodName) prog_14_method_5_code 5 (some .int) :: ws) ({ frames := 4, cells := 0, slots := 0, locals := 54 } : Room)) (fun a U => a = #[(.ref aa), (.ref at_), (.int 3), (.ref al)] ∧ Z.Warmed39 U.vm ∧ U.heap = h0) (fun _ _ _ _ _ => True) (fun _ U o U' => ∃ v L, o = .returned v ∧ Q13n4 Z aa at_ al cs vf ab kb gv pa0 pa1 pa2 pa3 h0 n0 v U'.heap L ∧ FrameEnd U o U' L ({ frames := 4, cells := 0, slots := 0, locals := 54 } : Room).cells ({ frames := 4, cells := 0, slots := 0, locals := 54 } : Room).slots) := by
  refine MetFree.of_bodySF (plainFor_of_name own_pn275) hisR ?_
  intro p e s m args below meth c s₁ Bd hml0 hP hK
  have H := fun i c (h : tables_1[i]? = some c) => hw c (List.mem_of_getElem? h)
  obtain ⟨rfl, hZ, hh⟩ := hP
  have hx := Bd.exec
  have hby := Bd.bytes
  have hml : c.maxLocals = 5 := hml0
  have hown : s.vm.findClass "com/example/onus_on_beans/onusonbeans/validators/CheckDigitRange" = some m.cls := findClass_of_methodNamed Bd.named
  have hnm := (name_of_methodNamed Bd.named Bd.method).1
  have X0 : Stand p l e ({ frames := 4, cells := 0, slots := 0, locals := 54 } : Room) s m #[(.ref aa), (.ref at_), (.int 3), (.ref al)] below meth c s₁ [] 0 0 := Stand.of_body Bd
  have e0 : s₁.heap = h0 := by rw [← hh, Bd.state]; rfl
  have N0 := Fr.nil n0
  have pre0 : ∀ t, Sp p e below m s₁ 0 #[vr aa, vr at_, vi 3, vr al, .unset] [] t → Steps p.tables e below (s₁.setTop (entryFrame m #[(.ref aa), (.ref at_), (.int 3), (.ref al)] 5)) t := fun t k => castTop (ef_13n4 m aa at_ al) k
  generalize s₁.setTop (entryFrame m #[(.ref aa), (.ref at_), (.int 3), (.ref al)] 5) = G0 at pre0 ⊢
  obtain ⟨T1009, X1009, e1009, st1009⟩ := getF X0 hx hZ hown (host := "") (Or.inl (H 81 _ rfl)) Via.refl e0 Fr_ignoresOthers (g := (mkF m 4 #[vr aa, vr at_, vi 3, vr al, vi 3] [(.ref aa)])) rfl rfl (hb hby d13_4)
  have pre1010 : ∀ t, Sp p e below m T1009 7 #[vr aa, vr at_, vi 3, vr al, vi 3] [(.int gv)] t → SG p e below G0 t := by
    intro t k
    refine pre0 t ?_
    show Sp p e below m s₁ 0 #[vr aa, vr at_, vi 3, vr al, .unset] [] _
    refine XS.iloadN X0.here hx rfl (hb hby d13_0) rfl ?_
    refine XS.istore X0.here hx rfl (hb hby d13_1) rfl (l' := #[vr aa, vr at_, vi 3, vr al, vi 3]) rfl ?_
    refine XS.aloadN X0.here hx rfl (hb hby d13_3) rfl rfl ?_
    refine st1009 _ ?_
    exact k
  by_cases hc7_1011 : gv = (0 : Int32)
  · obtain ⟨T1012, X1012, e1012, st1012⟩ := getF X1009 hx hZ hown (host := "") (Or.inl (H 61 _ rfl)) Via.refl e1009 Fr_start (g := (mkF m 43 #[vr aa, vr at_, vi 3, vr al, vi 3] [(.ref aa), (.int 3)])) rfl rfl (hb hby d13_43)
    obtain ⟨fs, hr, hrun, hended, hW, hsame⟩ := X1012.leave (v := some (.int 3)) (fun h => by rw [Bd.returns] at h; cases h)
    refine ⟨_, _, pre1010 _ ?_, hrun, hended, _, _, rfl, ?_, ⟨_, rfl⟩, hW, hsame.mono (by decide) (by decide)⟩
    · show Sp p e below m T1009 7 #[vr aa, vr at_, vi 3, vr al, vi 3] [(.int gv)] _
      refine XS.ifYes X1009.here hx rfl (pc0 := 7) (pc' := 40) rfl (hb hby d13_7) rfl ((if0 _ _).trans (teq hc7_1011).1) (by decide) (by decide) ?_
      refine XS.iload X1009.here hx rfl (hb hby d13_40) rfl ?_
      refine XS.aloadN X1009.here hx rfl (hb hby d13_42) rfl rfl ?_
      refine st1012 _ ?_
      show Sp p e below m T1012 46 #[vr aa, vr at_, vi 3, vr al, vi 3] [(.int 0), (.int 3)] _
      refine XS.icmpNo X1012.here hx rfl (hb hby d13_46) rfl (flt (by decide : ¬ ((3 : Int32) < (0 : Int32)))).1 ?_
      refine XS.iload X1012.here hx rfl (hb hby d13_49) rfl ?_
      refine XS.goto X1012.here hx rfl (pc0 := 51) (pc' := 55) rfl (hb hby d13_51) (by decide) (by decide) ?_
      exact retI X1012 hx Bd.returns (hb hby d13_55) hr
    · show Q13n4 Z aa at_ al cs vf ab kb gv pa0 pa1 pa2 pa3 h0 n0 _ T1012.heap _
      rw [e1012]
      exact ⟨(3 : Int32), rfl, N0, rfl, (Or.inl ⟨rfl, hc7_1011⟩)⟩
  · obtain ⟨T1013, X1013, e1013, st1013⟩ := getF X1009 hx hZ hown (host := "") (Or.inl (H 61 _ rfl)) Via.refl e1009 Fr_start (g := (mkF m 13 #[vr aa, vr at_, vi 3, vr al, vi 3] [(.ref aa), (.int 3)])) rfl rfl (hb hby d13_13)
    obtain ⟨cq1014, kq1014, q1014a, q1014b, q1014c⟩ := isOf hZ e1013 Et
    obtain ⟨_, _, ⟨T1014, L1014, k1014, n1014⟩, -, X1014, ⟨Lc1014, hQ1014, l1014, y1014, z1014⟩, st1014⟩ := X1013.interfaceBack hx hown (mvT hZ (H 83 _ rfl)) (mvT hZ (H 84 _ rfl)) (mvT hZ (H 85 _ rfl)) (mvT hZ (H 86 _ rfl)) (mvT hZ (H 87 _ rfl)) (mvT hZ (H 88 _ rfl)) (mvT hZ (H 89 _ rfl)) (mvT hZ (H 53 _ rfl)) (by decide) (backOf (W := 1) (rm14 l Z a0 hw [] at_ (3 : Int32) cs vf ab kb (4 : Int32) [(.int (own_b pa0)), (.int (own_b pa1)), (.int (own_b pa2)), (.int (own_b pa3))] (own_b pa3) h0 n0 Z0 O0 Scs hcs Ssf hvf Et Fv Fc Va (by decide) (by decide) rfl) hZ (H 90 _ rfl) (H 9 _ rfl) (by decide) (by decide)) q1014a q1014b q1014c (g := (mkF m 23 #[vr aa, vr at_, vi 3, vr al, vi 3] [(.int 3), (.ref at_), (.ref al)])) rfl (by rw [hml]; rfl) (Steps.refl _) (argsL := [(.int 3)]) (rest := [(.ref al)]) (lenOf own_pd356 rfl) rfl (Nat.le_of_eq rfl) (hb hby d13_23) (fun _ _ => ⟨rfl, e1013, Nat.zero_le _, Nat.zero_le _⟩)
    dsimp only [Pt.U, Pt.locs, Pt.cells, Pt.slots] at X1014 l1014 y1014 z1014 st1014 hQ1014
    rw [l1014, y1014, z1014] at X1014
    obtain ⟨rfl, Nq1014, e1014⟩ := hQ1014
    have N1014 := Fr.app N0 Nq1014
    have pre1015 : ∀ t, Sp p e below m T1014 28 #[vr aa, vr at_, vi 3, vr al, vi 3] [(.int (own_lat (own_b pa3))), (.ref al)] t → SG p e below G0 t := by
      intro t k
      refine pre1010 t ?_
      show Sp p e below m T1009 7 #[vr aa, vr at_, vi 3, vr al, vi 3] [(.int gv)] _
      refine XS.ifNo X1009.here hx rfl (hb hby d13_7) rfl ((if0 _ _).trans (feq hc7_1011).1) ?_
      refine XS.iload X1009.here hx rfl (hb hby d13_10) rfl ?_
      refine XS.aloadN X1009.here hx rfl (hb hby d13_12) rfl rfl ?_
      refine st1013 _ ?_
      show Sp p e below m T1013 16 #[vr aa, vr at_, vi 3, vr al, vi 3] [(.int 0), (.int 3)] _
      refine XS.icmpNo X1013.here hx rfl (hb hby d13_16) rfl (flt (by decide : ¬ ((3 : Int32) < (0 : Int32)))).1 ?_
      refine XS.aloadN X1013.here hx rfl (hb hby d13_19) rfl rfl ?_
      refine XS.aloadN X1013.here hx rfl (hb hby d13_20) rfl rfl ?_
      refine XS.iload X1013.here hx rfl (hb hby d13_21) rfl ?_
      refine st1014.trans ?_
      exact k
    rw [show (own_lat (own_b pa3)) = pa3 from own_at hp3] at pre1015
    obtain ⟨cq1016, kq1016, q1016a, q1016b, q1016c⟩ := isOf hZ e1014 El
    obtain ⟨_, _, ⟨T1016, L1016, k1016, n1016⟩, -, X1016, ⟨Lc1016, hQ1016, l1016, y1016, z1016⟩, st1016⟩ := X1014.virtualBack hx hown (mvT hZ (H 108 _ rfl)) (mvT hZ (H 109 _ rfl)) (notFace_of_selects (args := #[]) (mvT hZ (H 111 _ rfl))) (mvT hZ (H 111 _ rfl)) (mvT hZ (H 110 _ rfl)) (by decide) (backOf (W := 0) (rm19 l Z a0 hw [] al pa3  h0 n0 Z0 ) hZ (H 112 _ rfl) (H 36 _ rfl) (by decide) (by decide)) q1016a q1016c (g := (mkF m 28 #[vr aa, vr at_, vi 3, vr al, vi 3] [(.int pa3), (.ref al)])) rfl (by rw [hml]; rfl) (Steps.refl _) (argsL := [(.int pa3)]) (rest := []) (lenOf own_pd215 rfl) rfl (Nat.le_of_eq rfl) (hb hby d13_28) (fun _ _ => ⟨rfl, e1014, Nat.zero_le _, Nat.zero_le _⟩)
    dsimp only [Pt.U, Pt.locs, Pt.cells, Pt.slots] at X1016 l1016 y1016 z1016 st1016 hQ1016
    rw [l1016, y1016, z1016] at X1016
    obtain ⟨rfl, Nq1016, e1016⟩ := hQ1016
    have N1016 := Fr.app N1014 Nq1016
    have pre1017 : ∀ t, Sp p e below m T1016 31 #[vr aa, vr at_, vi 3, vr al, vi 3] [(.int (own_dg pa3))] t → SG p e below G0 t := by
      intro t k
      refine pre1015 t ?_
      show Sp p e below m T1014 28 #[vr aa, vr at_, vi 3, vr al, vi 3] [(.int pa3), (.ref al)] _
      refine st1016.trans ?_
      exact k
    by_cases hc31_1018 : (own_dg pa3) = (0 : Int32)
    · obtain ⟨T1019, X1019, e1019, st1019⟩ := getF X1016 hx hZ hown (host := "") (Or.inl (H 81 _ rfl)) Via.refl e1016 Fr_ignoresOthers (g := (mkF m 4 #[vr aa, vr at_, vi 3, vr al, vi 2] [(.ref aa)])) rfl rfl (hb hby d13_4)
      obtain ⟨T1020, X1020, e1020, st1020⟩ := getF X1019 hx hZ hown (host := "") (Or.inl (H 61 _ rfl)) Via.refl e1019 Fr_start (g := (mkF m 13 #[vr aa, vr at_, vi 3, vr al, vi 2] [(.ref aa), (.int 2)])) rfl rfl (hb hby d13_13)
      obtain ⟨cq1021, kq1021, q1021a, q1021b, q1021c⟩ := isOf hZ e1020 Et
      obtain ⟨_, _, ⟨T1021, L1021, k1021, n1021⟩, -, X1021, ⟨Lc1021, hQ1021, l1021, y1021, z1021⟩, st1021⟩ := X1020.interfaceBack hx hown (mvT hZ (H 83 _ rfl)) (mvT hZ (H 84 _ rfl)) (mvT hZ (H 85 _ rfl)) (mvT hZ (H 86 _ rfl)) (mvT hZ (H 87 _ rfl)) (mvT hZ (H 88 _ rfl)) (mvT hZ (H 89 _ rfl)) (mvT hZ (H 53 _ rfl)) (by decide) (backOf (W := 1) (rm14 l Z a0 hw [] at_ (2 : Int32) cs vf ab kb (4 : Int32) [(.int (own_b pa0)), (.int (own_b pa1)), (.int (own_b pa2)), (.int (own_b pa3))] (own_b pa2) h0 n0 Z0 O0 Scs hcs Ssf hvf Et Fv Fc Va (by decide) (by decide) rfl) hZ (H 90 _ rfl) (H 9 _ rfl) (by decide) (by decide)) q1021a q1021b q1021c (g := (mkF m 23 #[vr aa, vr at_, vi 3, vr al, vi 2] [(.int 2), (.ref at_), (.ref al)])) rfl (by rw [hml]; rfl) (Steps.refl _) (argsL := [(.int 2)]) (rest := [(.ref al)]) (lenOf own_pd356 rfl) rfl (Nat.le_of_eq rfl) (hb hby d13_23) (fun _ _ => ⟨rfl, e1020, Nat.zero_le _, Nat.zero_le _⟩)
      dsimp only [Pt.U, Pt.locs, Pt.cells, Pt.slots] at X1021 l1021 y1021 z1021 st1021 hQ1021
      rw [l1021, y1021, z1021] at X1021
      obtain ⟨rfl, Nq1021, e1021⟩ := hQ1021
      have N1021 := Fr.app N1016 Nq1021
      have pre1022 : ∀ t, Sp p e below m T1021 28 #[vr aa, vr at_, vi 3, vr al, vi 2] [(.int (own_lat (own_b pa2))), (.ref al)] t → SG p e below G0 t := by
        intro t k
        refine pre1017 t ?_
        show Sp p e below m T1016 31 #[vr aa, vr at_, vi 3, vr al, vi 3] [(.int (own_dg pa3))] _
        refine XS.ifNo X1016.here hx rfl (hb hby d13_31) rfl ((if0 _ _).trans (teq hc31_1018).2) ?_
        refine XS.iinc X1016.here hx rfl (hb hby d13_34) rfl (l' := #[vr aa, vr at_, vi 3, vr al, vi 2]) rfl ?_
        refine XS.goto X1016.here hx rfl (pc0 := 37) (pc' := 3) rfl (hb hby d13_37) (by decide) (by decide) ?_
        refine XS.aloadN X1016.here hx rfl (hb hby d13_3) rfl rfl ?_
        refine st1019 _ ?_
        show Sp p e below m T1019 7 #[vr aa, vr at_, vi 3, vr al, vi 2] [(.int gv)] _
        refine XS.ifNo X1019.here hx rfl (hb hby d13_7) rfl ((if0 _ _).trans (feq (hc7_1011 : ¬ (gv = (0 : Int32)))).1) ?_
        refine XS.iload X1019.here hx rfl (hb hby d13_10) rfl ?_
        refine XS.aloadN X1019.here hx rfl (hb hby d13_12) rfl rfl ?_
        refine st1020 _ ?_
        show Sp p e below m T1020 16 #[vr aa, vr at_, vi 3, vr al, vi 2] [(.int 0), (.int 2)] _
        refine XS.icmpNo X1020.here hx rfl (hb hby d13_16) rfl (flt (by decide : ¬ ((2 : Int32) < (0 : Int32)))).1 ?_
        refine XS.aloadN X1020.here hx rfl (hb hby d13_19) rfl rfl ?_
        refine XS.aloadN X1020.here hx rfl (hb hby d13_20) rfl rfl ?_
        refine XS.iload X1020.here hx rfl (hb hby d13_21) rfl ?_
        refine st1021.trans ?_
        exact k
      rw [show (own_lat (own_b pa2)) = pa2 from own_at hp2] at pre1022
      obtain ⟨cq1023, kq1023, q1023a, q1023b, q1023c⟩ := isOf hZ e1021 El
      obtain ⟨_, _, ⟨T1023, L1023, k1023, n1023⟩, -, X1023, ⟨Lc1023, hQ1023, l1023, y1023, z1023⟩, st1023⟩ := X1021.virtualBack hx hown (mvT hZ (H 108 _ rfl)) (mvT hZ (H 109 _ rfl)) (notFace_of_selects (args := #[]) (mvT hZ (H 111 _ rfl))) (mvT hZ (H 111 _ rfl)) (mvT hZ (H 110 _ rfl)) (by decide) (backOf (W := 0) (rm19 l Z a0 hw [] al pa2  h0 n0 Z0 ) hZ (H 112 _ rfl) (H 36 _ rfl) (by decide) (by decide)) q1023a q1023c (g := (mkF m 28 #[vr aa, vr at_, vi 3, vr al, vi 2] [(.int pa2), (.ref al)])) rfl (by rw [hml]; rfl) (Steps.refl _) (argsL := [(.int pa2)]) (rest := []) (lenOf own_pd215 rfl) rfl (Nat.le_of_eq rfl) (hb hby d13_28) (fun _ _ => ⟨rfl, e1021, Nat.zero_le _, Nat.zero_le _⟩)
      dsimp only [Pt.U, Pt.locs, Pt.cells, Pt.slots] at X1023 l1023 y1023 z1023 st1023 hQ1023
      rw [l1023, y1023, z1023] at X1023
      obtain ⟨rfl, Nq1023, e1023⟩ := hQ1023
      have N1023 := Fr.app N1021 Nq1023
      have pre1024 : ∀ t, Sp p e below m T1023 31 #[vr aa, vr at_, vi 3, vr al, vi 2] [(.int (own_dg pa2))] t → SG p e below G0 t := by
        intro t k
        refine pre1022 t ?_
        show Sp p e below m T1021 28 #[vr aa, vr at_, vi 3, vr al, vi 2] [(.int pa2), (.ref al)] _
        refine st1023.trans ?_
        exact k
      by_cases hc31_1025 : (own_dg pa2) = (0 : Int32)
      · obtain ⟨T1026, X1026, e1026, st1026⟩ := getF X1023 hx hZ hown (host := "") (Or.inl (H 81 _ rfl)) Via.refl e1023 Fr_ignoresOthers (g := (mkF m 4 #[vr aa, vr at_, vi 3, vr al, vi 1] [(.ref aa)])) rfl rfl (hb hby d13_4)
        obtain ⟨T1027, X1027, e1027, st1027⟩ := getF X1026 hx hZ hown (host := "") (Or.inl (H 61 _ rfl)) Via.refl e1026 Fr_start (g := (mkF m 13 #[vr aa, vr at_, vi 3, vr al, vi 1] [(.ref aa), (.int 1)])) rfl rfl (hb hby d13_13)
        obtain ⟨cq1028, kq1028, q1028a, q1028b, q1028c⟩ := isOf hZ e1027 Et
        obtain ⟨_, _, ⟨T1028, L1028, k1028, n1028⟩, -, X1028, ⟨Lc1028, hQ1028, l1028, y1028, z1028⟩, st1028⟩ := X1027.interfaceBack hx hown (mvT hZ (H 83 _ rfl)) (mvT hZ (H 84 _ rfl)) (mvT hZ (H 85 _ rfl)) (mvT hZ (H 86 _ rfl)) (mvT hZ (H 87 _ rfl)) (mvT hZ (H 88 _ rfl)) (mvT hZ (H 89 _ rfl)) (mvT hZ (H 53 _ rfl)) (by decide) (backOf (W := 1) (rm14 l Z a0 hw [] at_ (1 : Int32) cs vf ab kb (4 : Int32) [(.int (own_b pa0)), (.int (own_b pa1)), (.int (own_b pa2)), (.int (own_b pa3))] (own_b pa1) h0 n0 Z0 O0 Scs hcs Ssf hvf Et Fv Fc Va (by decide) (by decide) rfl) hZ (H 90 _ rfl) (H 9 _ rfl) (by decide) (by decide)) q1028a q1028b q1028c (g := (mkF m 23 #[vr aa, vr at_, vi 3, vr al, vi 1] [(.int 1), (.ref at_), (.ref al)])) rfl (by rw [hml]; rfl) (Steps.refl _) (argsL := [(.int 1)]) (rest := [(.ref al)]) (lenOf own_pd356 rfl) rfl (Nat.le_of_eq rfl) (hb hby d13_23) (fun _ _ => ⟨rfl, e1027, Nat.zero_le _, Nat.zero_le _⟩)
        dsimp only [Pt.U, Pt.locs, Pt.cells, Pt.slots] at X1028 l1028 y1028 z1028 st1028 hQ1028
        rw [l1028, y1028, z1028] at X1028
        obtain ⟨rfl, Nq1028, e1028⟩ := hQ1028
        have N1028 := Fr.app N1023 Nq1028
        have pre1029 : ∀ t, Sp p e below m T1028 28 #[vr aa, vr at_, vi 3, vr al, vi 1] [(.int (own_lat (own_b pa1))), (.ref al)] t → SG p e below G0 t := by
          intro t k
          refine pre1024 t ?_
          show Sp p e below m T1023 31 #[vr aa, vr at_, vi 3, vr al, vi 2] [(.int (own_dg pa2))] _
          refine XS.ifNo X1023.here hx rfl (hb hby d13_31) rfl ((if0 _ _).trans (teq hc31_1025).2) ?_
          refine XS.iinc X1023.here hx rfl (hb hby d13_34) rfl (l' := #[vr aa, vr at_, vi 3, vr al, vi 1]) rfl ?_
          refine XS.goto X1023.here hx rfl (pc0 := 37) (pc' := 3) rfl (hb hby d13_37) (by decide) (by decide) ?_
          refine XS.aloadN X1023.here hx rfl (hb hby d13_3) rfl rfl ?_
          refine st1026 _ ?_
          show Sp p e below m T1026 7 #[vr aa, vr at_, vi 3, vr al, vi 1] [(.int gv)] _
          refine XS.ifNo X1026.here hx rfl (hb hby d13_7) rfl ((if0 _ _).trans (feq (hc7_1011 : ¬ (gv = (0 : Int32)))).1) ?_
          refine XS.iload X1026.here hx rfl (hb hby d13_10) rfl ?_
          refine XS.aloadN X1026.here hx rfl (hb hby d13_12) rfl rfl ?_
          refine st1027 _ ?_
          show Sp p e below m T1027 16 #[vr aa, vr at_, vi 3, vr al, vi 1] [(.int 0), (.int 1)] _
          refine XS.icmpNo X1027.here hx rfl (hb hby d13_16) rfl (flt (by decide : ¬ ((1 : Int32) < (0 : Int32)))).1 ?_
          refine XS.aloadN X1027.here hx rfl (hb hby d13_19) rfl rfl ?_
          refine XS.aloadN X1027.here hx rfl (hb hby d13_20) rfl rfl ?_
          refine XS.iload X1027.here hx rfl (hb hby d13_21) rfl ?_
          refine st1028.trans ?_
          exact k
        rw [show (own_lat (own_b pa1)) = pa1 from own_at hp1] at pre1029
        obtain ⟨cq1030, kq1030, q1030a, q1030b, q1030c⟩ := isOf hZ e1028 El
        obtain ⟨_, _, ⟨T1030, L1030, k1030, n1030⟩, -, X1030, ⟨Lc1030, hQ1030, l1030, y1030, z1030⟩, st1030⟩ := X1028.virtualBack hx hown (mvT hZ (H 108 _ rfl)) (mvT hZ (H 109 _ rfl)) (notFace_of_selects (args := #[]) (mvT hZ (H 111 _ rfl))) (mvT hZ (H 111 _ rfl)) (mvT hZ (H 110 _ rfl)) (by decide) (backOf (W := 0) (rm19 l Z a0 hw [] al pa1  h0 n0 Z0 ) hZ (H 112 _ rfl) (H 36 _ rfl) (by decide) (by decide)) q1030a q1030c (g := (mkF m 28 #[vr aa, vr at_, vi 3, vr al, vi 1] [(.int pa1), (.ref al)])) rfl (by rw [hml]; rfl) (Steps.refl _) (argsL := [(.int pa1)]) (rest := []) (lenOf own_pd215 rfl) rfl (Nat.le_of_eq rfl) (hb hby d13_28) (fun _ _ => ⟨rfl, e1028, Nat.zero_le _, Nat.zero_le _⟩)
        dsimp only [Pt.U, Pt.locs, Pt.cells, Pt.slots] at X1030 l1030 y1030 z1030 st1030 hQ1030
        rw [l1030, y1030, z1030] at X1030
        obtain ⟨rfl, Nq1030, e1030⟩ := hQ1030
        have N1030 := Fr.app N1028 Nq1030
        have pre1031 : ∀ t, Sp p e below m T1030 31 #[vr aa, vr at_, vi 3, vr al, vi 1] [(.int (own_dg pa1))] t → SG p e below G0 t := by
          intro t k
          refine pre1029 t ?_
          show Sp p e below m T1028 28 #[vr aa, vr at_, vi 3, vr al, vi 1] [(.int pa1), (.ref al)] _
          refine st1030.trans ?_
          exact k
        by_cases hc31_1032 : (own_dg pa1) = (0 : Int32)
        · obtain ⟨T1033, X1033, e1033, st1033⟩ := getF X1030 hx hZ hown (host := "") (Or.inl (H 81 _ rfl)) Via.refl e1030 Fr_ignoresOthers (g := (mkF m 4 #[vr aa, vr at_, vi 3, vr al, vi 0] [(.ref aa)])) rfl rfl (hb hby d13_4)
          obtain ⟨T1034, X1034, e1034, st1034⟩ := getF X1033 hx hZ hown (host := "") (Or.inl (H 61 _ rfl)) Via.refl e1033 Fr_start (g := (mkF m 13 #[vr aa, vr at_, vi 3, vr al, vi 0] [(.ref aa), (.int 0)])) rfl rfl (hb hby d13_13)
          obtain ⟨cq1035, kq1035, q1035a, q1035b, q1035c⟩ := isOf hZ e1034 Et
          obtain ⟨_, _, ⟨T1035, L1035, k1035, n1035⟩, -, X1035, ⟨Lc1035, hQ1035, l1035, y1035, z1035⟩, st1035⟩ := X1034.interfaceBack hx hown (mvT hZ (H 83 _ rfl)) (mvT hZ (H 84 _ rfl)) (mvT hZ (H 85 _ rfl)) (mvT hZ (H 86 _ rfl)) (mvT hZ (H 87 _ rfl)) (mvT hZ (H 88 _ rfl)) (mvT hZ (H 89 _ rfl)) (mvT hZ (H 53 _ rfl)) (by decide) (backOf (W := 1) (rm14 l Z a0 hw [] at_ (0 : Int32) cs vf ab kb (4 : Int32) [(.int (own_b pa0)), (.int (own_b pa1)), (.int (own_b pa2)), (.int (own_b pa3))] (own_b pa0) h0 n0 Z0 O0 Scs hcs Ssf hvf Et Fv Fc Va (by decide) (by decide) rfl) hZ (H 90 _ rfl) (H 9 _ rfl) (by decide) (by decide)) q1035a q1035b q1035c (g := (mkF m 23 #[vr aa, vr at_, vi 3, vr al, vi 0] [(.int 0), (.ref at_), (.ref al)])) rfl (by rw [hml]; rfl) (Steps.refl _) (argsL := [(.int 0)]) (rest := [(.ref al)]) (lenOf own_pd356 rfl) rfl (Nat.le_of_eq rfl) (hb hby d13_23) (fun _ _ => ⟨rfl, e1034, Nat.zero_le _, Nat.zero_le _⟩)
          dsimp only [Pt.U, Pt.locs, Pt.cells, Pt.slots] at X1035 l1035 y1035 z1035 st1035 hQ1035
          rw [l1035, y1035, z1035] at X1035
          obtain ⟨rfl, Nq1035, e1035⟩ := hQ1035
          have N1035 := Fr.app N1030 Nq1035
          have pre1036 : ∀ t, Sp p e below m T1035 28 #[vr aa, vr at_, vi 3, vr al, vi 0] [(.int (own_lat (own_b pa0))), (.ref al)] t → SG p e below G0 t := by
            intro t k
            refine pre1031 t ?_
            show Sp p e below m T1030 31 #[vr aa, vr at_, vi 3, vr al, vi 1] [(.int (own_dg pa1))] _
            refine XS.ifNo X1030.here hx rfl (hb hby d13_31) rfl ((if0 _ _).trans (teq hc31_1032).2) ?_
            refine XS.iinc X1030.here hx rfl (hb hby d13_34) rfl (l' := #[vr aa, vr at_, vi 3, vr al, vi 0]) rfl ?_
            refine XS.goto X1030.here hx rfl (pc0 := 37) (pc' := 3) rfl (hb hby d13_37) (by decide) (by decide) ?_
            refine XS.aloadN X1030.here hx rfl (hb hby d13_3) rfl rfl ?_
            refine st1033 _ ?_
            show Sp p e below m T1033 7 #[vr aa, vr at_, vi 3, vr al, vi 0] [(.int gv)] _
            refine XS.ifNo X1033.here hx rfl (hb hby d13_7) rfl ((if0 _ _).trans (feq (hc7_1011 : ¬ (gv = (0 : Int32)))).1) ?_
            refine XS.iload X1033.here hx rfl (hb hby d13_10) rfl ?_
            refine XS.aloadN X1033.here hx rfl (hb hby d13_12) rfl rfl ?_
            refine st1034 _ ?_
            show Sp p e below m T1034 16 #[vr aa, vr at_, vi 3, vr al, vi 0] [(.int 0), (.int 0)] _
            refine XS.icmpNo X1034.here hx rfl (hb hby d13_16) rfl (flt (by decide : ¬ ((0 : Int32) < (0 : Int32)))).1 ?_
            refine XS.aloadN X1034.here hx rfl (hb hby d13_19) rfl rfl ?_
            refine XS.aloadN X1034.here hx rfl (hb hby d13_20) rfl rfl ?_
            refine XS.iload X1034.here hx rfl (hb hby d13_21) rfl ?_
            refine st1035.trans ?_
            exact k
          rw [show (own_lat (own_b pa0)) = pa0 from own_at hp0] at pre1036
          obtain ⟨cq1037, kq1037, q1037a, q1037b, q1037c⟩ := isOf hZ e1035 El
          obtain ⟨_, _, ⟨T1037, L1037, k1037, n1037⟩, -, X1037, ⟨Lc1037, hQ1037, l1037, y1037, z1037⟩, st1037⟩ := X1035.virtualBack hx hown (mvT hZ (H 108 _ rfl)) (mvT hZ (H 109 _ rfl)) (notFace_of_selects (args := #[]) (mvT hZ (H 111 _ rfl))) (mvT hZ (H 111 _ rfl)) (mvT hZ (H 110 _ rfl)) (by decide) (backOf (W := 0) (rm19 l Z a0 hw [] al pa0  h0 n0 Z0 ) hZ (H 112 _ rfl) (H 36 _ rfl) (by decide) (by decide)) q1037a q1037c (g := (mkF m 28 #[vr aa, vr at_, vi 3, vr al, vi 0] [(.int pa0), (.ref al)])) rfl (by rw [hml]; rfl) (Steps.refl _) (argsL := [(.int pa0)]) (rest := []) (lenOf own_pd215 rfl) rfl (Nat.le_of_eq rfl) (hb hby d13_28) (fun _ _ => ⟨rfl, e1035, Nat.zero_le _, Nat.zero_le _⟩)
          dsimp only [Pt.U, Pt.locs, Pt.cells, Pt.slots] at X1037 l1037 y1037 z1037 st1037 hQ1037
          rw [l1037, y1037, z1037] at X1037
          obtain ⟨rfl, Nq1037, e1037⟩ := hQ1037
          have N1037 := Fr.app N1035 Nq1037
          have pre1038 : ∀ t, Sp p e below m T1037 31 #[vr aa, vr at_, vi 3, vr al, vi 0] [(.int (own_dg pa0))] t → SG p e below G0 t := by
            intro t k
            refine pre1036 t ?_
            show Sp p e below m T1035 28 #[vr aa, vr at_, vi 3, vr al, vi 0] [(.int pa0), (.ref al)] _
            refine st1037.trans ?_
            exact k
          by_cases hc31_1039 : (own_dg pa0) = (0 : Int32)
          · obtain ⟨T1040, X1040, e1040, st1040⟩ := getF X1037 hx hZ hown (host := "") (Or.inl (H 81 _ rfl)) Via.refl e1037 Fr_ignoresOthers (g := (mkF m 4 #[vr aa, vr at_, vi 3, vr al, vi (-1)] [(.ref aa)])) rfl rfl (hb hby d13_4)
            obtain ⟨T1041, X1041, e1041, st1041⟩ := getF X1040 hx hZ hown (host := "") (Or.inl (H 61 _ rfl)) Via.refl e1040 Fr_start (g := (mkF m 13 #[vr aa, vr at_, vi 3, vr al, vi (-1)] [(.ref aa), (.int (-1))])) rfl rfl (hb hby d13_13)
            obtain ⟨T1042, X1042, e1042, st1042⟩ := getF X1041 hx hZ hown (host := "") (Or.inl (H 61 _ rfl)) Via.refl e1041 Fr_start (g := (mkF m 43 #[vr aa, vr at_, vi 3, vr al, vi (-1)] [(.ref aa), (.int (-1))])) rfl rfl (hb hby d13_43)
            obtain ⟨fs, hr, hrun, hended, hW, hsame⟩ := X1042.leave (v := some (.int (-1))) (fun h => by rw [Bd.returns] at h; cases h)
            refine ⟨_, _, pre1038 _ ?_, hrun, hended, _, _, rfl, ?_, ⟨_, rfl⟩, hW, hsame.mono (by decide) (by decide)⟩
            · show Sp p e below m T1037 31 #[vr aa, vr at_, vi 3, vr al, vi 0] [(.int (own_dg pa0))] _
              refine XS.ifNo X1037.here hx rfl (hb hby d13_31) rfl ((if0 _ _).trans (teq hc31_1039).2) ?_
              refine XS.iinc X1037.here hx rfl (hb hby d13_34) rfl (l' := #[vr aa, vr at_, vi 3, vr al, vi (-1)]) rfl ?_
              refine XS.goto X1037.here hx rfl (pc0 := 37) (pc' := 3) rfl (hb hby d13_37) (by decide) (by decide) ?_
              refine XS.aloadN X1037.here hx rfl (hb hby d13_3) rfl rfl ?_
              refine st1040 _ ?_
              show Sp p e below m T1040 7 #[vr aa, vr at_, vi 3, vr al, vi (-1)] [(.int gv)] _
              refine XS.ifNo X1040.here hx rfl (hb hby d13_7) rfl ((if0 _ _).trans (feq (hc7_1011 : ¬ (gv = (0 : Int32)))).1) ?_
              refine XS.iload X1040.here hx rfl (hb hby d13_10) rfl ?_
              refine XS.aloadN X1040.here hx rfl (hb hby d13_12) rfl rfl ?_
              refine st1041 _ ?_
              show Sp p e below m T1041 16 #[vr aa, vr at_, vi 3, vr al, vi (-1)] [(.int 0), (.int (-1))] _
              refine XS.icmpYes X1041.here hx rfl (pc0 := 16) (pc' := 40) rfl (hb hby d13_16) rfl (tlt (by decide : ((-1 : Int32) < (0 : Int32)))).1 (by decide) (by decide) ?_
              refine XS.iload X1041.here hx rfl (hb hby d13_40) rfl ?_
              refine XS.aloadN X1041.here hx rfl (hb hby d13_42) rfl rfl ?_
              refine st1042 _ ?_
              show Sp p e below m T1042 46 #[vr aa, vr at_, vi 3, vr al, vi (-1)] [(.int 0), (.int (-1))] _
              refine XS.icmpYes X1042.here hx rfl (pc0 := 46) (pc' := 54) rfl (hb hby d13_46) rfl (tlt (by decide : ((-1 : Int32) < (0 : Int32)))).1 (by decide) (by decide) ?_
              refine XS.iconst X1042.here hx rfl (hb hby d13_54) ?_
              exact retI X1042 hx Bd.returns (hb hby d13_55) hr
            · show Q13n4 Z aa at_ al cs vf ab kb gv pa0 pa1 pa2 pa3 h0 n0 _ T1042.heap _
              rw [e1042]
              exact ⟨(-1 : Int32), rfl, N1037, rfl, (Or.inr (Or.inr (Or.inr (Or.inr (Or.inr (⟨rfl, hc7_1011, hc31_1018, hc31_1025, hc31_1032, hc31_1039⟩))))))⟩
          · obtain ⟨T1043, X1043, e1043, st1043⟩ := getF X1037 hx hZ hown (host := "") (Or.inl (H 61 _ rfl)) Via.refl e1037 Fr_start (g := (mkF m 43 #[vr aa, vr at_, vi 3, vr al, vi 0] [(.ref aa), (.int 0)])) rfl rfl (hb hby d13_43)
            obtain ⟨fs, hr, hrun, hended, hW, hsame⟩ := X1043.leave (v := some (.int 0)) (fun h => by rw [Bd.returns] at h; cases h)
            refine ⟨_, _, pre1038 _ ?_, hrun, hended, _, _, rfl, ?_, ⟨_, rfl⟩, hW, hsame.mono (by decide) (by decide)⟩
            · show Sp p e below m T1037 31 #[vr aa, vr at_, vi 3, vr al, vi 0] [(.int (own_dg pa0))] _
              refine XS.ifYes X1037.here hx rfl (pc0 := 31) (pc' := 40) rfl (hb hby d13_31) rfl ((if0 _ _).trans (feq hc31_1039).2) (by decide) (by decide) ?_
              refine XS.iload X1037.here hx rfl (hb hby d13_40) rfl ?_
              refine XS.aloadN X1037.here hx rfl (hb hby d13_42) rfl rfl ?_
              refine st1043 _ ?_
              show Sp p e below m T1043 46 #[vr aa, vr at_, vi 3, vr al, vi 0] [(.int 0), (.int 0)] _
              refine XS.icmpNo X1043.here hx rfl (hb hby d13_46) rfl (flt (by decide : ¬ ((0 : Int32) < (0 : Int32)))).1 ?_
              refine XS.iload X1043.here hx rfl (hb hby d13_49) rfl ?_
              refine XS.goto X1043.here hx rfl (pc0 := 51) (pc' := 55) rfl (hb hby d13_51) (by decide) (by decide) ?_
              exact retI X1043 hx Bd.returns (hb hby d13_55) hr
            · show Q13n4 Z aa at_ al cs vf ab kb gv pa0 pa1 pa2 pa3 h0 n0 _ T1043.heap _
              rw [e1043]
              exact ⟨(0 : Int32), rfl, N1037, rfl, (Or.inr (Or.inr (Or.inr (Or.inr (Or.inl ⟨rfl, hc7_1011, hc31_1018, hc31_1025, hc31_1032, hc31_1039⟩)))))⟩
        · obtain ⟨T1044, X1044, e1044, st1044⟩ := getF X1030 hx hZ hown (host := "") (Or.inl (H 61 _ rfl)) Via.refl e1030 Fr_start (g := (mkF m 43 #[vr aa, vr at_, vi 3, vr al, vi 1] [(.ref aa), (.int 1)])) rfl rfl (hb hby d13_43)
          obtain ⟨fs, hr, hrun, hended, hW, hsame⟩ := X1044.leave (v := some (.int 1)) (fun h => by rw [Bd.returns] at h; cases h)
          refine ⟨_, _, pre1031 _ ?_, hrun, hended, _, _, rfl, ?_, ⟨_, rfl⟩, hW, hsame.mono (by decide) (by decide)⟩
          · show Sp p e below m T1030 31 #[vr aa, vr at_, vi 3, vr al, vi 1] [(.int (own_dg pa1))] _
            refine XS.ifYes X1030.here hx rfl (pc0 := 31) (pc' := 40) rfl (hb hby d13_31) rfl ((if0 _ _).trans (feq hc31_1032).2) (by decide) (by decide) ?_
            refine XS.iload X1030.here hx rfl (hb hby d13_40) rfl ?_
            refine XS.aloadN X1030.here hx rfl (hb hby d13_42) rfl rfl ?_
            refine st1044 _ ?_
            show Sp p e below m T1044 46 #[vr aa, vr at_, vi 3, vr al, vi 1] [(.int 0), (.int 1)] _
            refine XS.icmpNo X1044.here hx rfl (hb hby d13_46) rfl (flt (by decide : ¬ ((1 : Int32) < (0 : Int32)))).1 ?_
            refine XS.iload X1044.here hx rfl (hb hby d13_49) rfl ?_
            refine XS.goto X1044.here hx rfl (pc0 := 51) (pc' := 55) rfl (hb hby d13_51) (by decide) (by decide) ?_
            exact retI X1044 hx Bd.returns (hb hby d13_55) hr
          · show Q13n4 Z aa at_ al cs vf ab kb gv pa0 pa1 pa2 pa3 h0 n0 _ T1044.heap _
            rw [e1044]
            exact ⟨(1 : Int32), rfl, N1030, rfl, (Or.inr (Or.inr (Or.inr (Or.inl ⟨rfl, hc7_1011, hc31_1018, hc31_1025, hc31_1032⟩))))⟩
      · obtain ⟨T1045, X1045, e1045, st1045⟩ := getF X1023 hx hZ hown (host := "") (Or.inl (H 61 _ rfl)) Via.refl e1023 Fr_start (g := (mkF m 43 #[vr aa, vr at_, vi 3, vr al, vi 2] [(.ref aa), (.int 2)])) rfl rfl (hb hby d13_43)
        obtain ⟨fs, hr, hrun, hended, hW, hsame⟩ := X1045.leave (v := some (.int 2)) (fun h => by rw [Bd.returns] at h; cases h)
        refine ⟨_, _, pre1024 _ ?_, hrun, hended, _, _, rfl, ?_, ⟨_, rfl⟩, hW, hsame.mono (by decide) (by decide)⟩
        · show Sp p e below m T1023 31 #[vr aa, vr at_, vi 3, vr al, vi 2] [(.int (own_dg pa2))] _
          refine XS.ifYes X1023.here hx rfl (pc0 := 31) (pc' := 40) rfl (hb hby d13_31) rfl ((if0 _ _).trans (feq hc31_1025).2) (by decide) (by decide) ?_
          refine XS.iload X1023.here hx rfl (hb hby d13_40) rfl ?_
          refine XS.aloadN X1023.here hx rfl (hb hby d13_42) rfl rfl ?_
          refine st1045 _ ?_
          show Sp p e below m T1045 46 #[vr aa, vr at_, vi 3, vr al, vi 2] [(.int 0), (.int 2)] _
          refine XS.icmpNo X1045.here hx rfl (hb hby d13_46) rfl (flt (by decide : ¬ ((2 : Int32) < (0 : Int32)))).1 ?_
          refine XS.iload X1045.here hx rfl (hb hby d13_49) rfl ?_
          refine XS.goto X1045.here hx rfl (pc0 := 51) (pc' := 55) rfl (hb hby d13_51) (by decide) (by decide) ?_
          exact retI X1045 hx Bd.returns (hb hby d13_55) hr
        · show Q13n4 Z aa at_ al cs vf ab kb gv pa0 pa1 pa2 pa3 h0 n0 _ T1045.heap _
          rw [e1045]
          exact ⟨(2 : Int32), rfl, N1023, rfl, (Or.inr (Or.inr (Or.inl ⟨rfl, hc7_1011, hc31_1018, hc31_1025⟩)))⟩
    · obtain ⟨T1046, X1046, e1046, st1046⟩ := getF X1016 hx hZ hown (host := "") (Or.inl (H 61 _ rfl)) Via.refl e1016 Fr_start (g := (mkF m 43 #[vr aa, vr at_, vi 3, vr al, vi 3] [(.ref aa), (.int 3)])) rfl rfl (hb hby d13_43)
      obtain ⟨fs, hr, hrun, hended, hW, hsame⟩ := X1046.leave (v := some (.int 3)) (fun h => by rw [Bd.returns] at h; cases h)
      refine ⟨_, _, pre1017 _ ?_, hrun, hended, _, _, rfl, ?_, ⟨_, rfl⟩, hW, hsame.mono (by decide) (by decide)⟩
      · show Sp p e below m T1016 31 #[vr aa, vr at_, vi 3, vr al, vi 3] [(.int (own_dg pa3))] _
        refine XS.ifYes X1016.here hx rfl (pc0 := 31) (pc' := 40) rfl (hb hby d13_31) rfl ((if0 _ _).trans (feq hc31_1018).2) (by decide) (by decide) ?_
        refine XS.iload X1016.here hx rfl (hb hby d13_40) rfl ?_
        refine XS.aloadN X1016.here hx rfl (hb hby d13_42) rfl rfl ?_
        refine st1046 _ ?_
        show Sp p e below m T1046 46 #[vr aa, vr at_, vi 3, vr al, vi 3] [(.int 0), (.int 3)] _
        refine XS.icmpNo X1046.here hx rfl (hb hby d13_46) rfl (flt (by decide : ¬ ((3 : Int32) < (0 : Int32)))).1 ?_
        refine XS.iload X1046.here hx rfl (hb hby d13_49) rfl ?_
        refine XS.goto X1046.here hx rfl (pc0 := 51) (pc' := 55) rfl (hb hby d13_51) (by decide) (by decide) ?_
        exact retI X1046 hx Bd.returns (hb hby d13_55) hr
      · show Q13n4 Z aa at_ al cs vf ab kb gv pa0 pa1 pa2 pa3 h0 n0 _ T1046.heap _
        rw [e1046]
        exact ⟨(3 : Int32), rfl, N1016, rfl, (Or.inr (Or.inl ⟨rfl, hc7_1011, hc31_1018⟩))⟩
theorem d7_0 : decode prog_14_method_4_code 0 = .ok (.aload_n 0, 1) := by decide +kernel
theorem d7_1 : decode prog_14_method_4_code 1 = .ok (.getfield 15, 3) := by decide +kernel
theorem d7_4 : decode prog_14_method_4_code 4 = .ok (.ldc 74, 2) := by decide +kernel
theorem d7_6 : decode prog_14_method_4_code 6 = .ok (.if_icmp .ne 14, 3) := by decide +kernel
theorem d7_9 : decode prog_14_method_4_code 9 = .ok (.aload_n 1, 1) := by decide +kernel
theorem d7_10 : decode prog_14_method_4_code 10 = .ok (.invokeinterface 75 1, 5) := by decide +kernel
theorem own_pd368 : parseMethodDescriptor "()I" = some ⟨[], some .int⟩ := by decide +kernel
theorem d7_15 : decode prog_14_method_4_code 15 = .ok (.iconst 1, 1) := by decide +kernel
theorem d7_16 : decode prog_14_method_4_code 16 = .ok (.isub, 1) := by decide +kernel
theorem d7_17 : decode prog_14_method_4_code 17 = .ok (.goto 7, 3) := by decide +kernel
theorem d7_24 : decode prog_14_method_4_code 24 = .ok (.istore_n 3, 1) := by decide +kernel
theorem d7_25 : decode prog_14_method_4_code 25 = .ok (.iload_n 3, 1) := by decide +kernel
theorem d7_26 : decode prog_14_method_4_code 26 = .ok (.aload_n 0, 1) := by decide +kernel
theorem d7_27 : decode prog_14_method_4_code 27 = .ok (.getfield 9, 3) := by decide +kernel
theorem d7_30 : decode prog_14_method_4_code 30 = .ok (.if_icmp .lt 26, 3) := by decide +kernel
theorem d7_56 : decode prog_14_method_4_code 56 = .ok (.iconst 0, 1) := by decide +kernel
theorem d7_57 : decode prog_14_method_4_code 57 = .ok (.ireturn, 1) := by decide +kernel
theorem ef_7n0 (m : MethodId) (x0 : Addr) (x1 : Addr) (x2 : Addr) : entryFrame m #[(.ref x0), (.ref x1), (.ref x2)] 9 = mkF m 0 #[.val (.ref x0), .val (.ref x1), .val (.ref x2), .unset, .unset, .unset, .unset, .unset, .unset] [] := by first | (simp [entryFrame, mkF, argsToLocals, Value.category]; done) | rfl
def Q7n0 (Z : State) (aa : Addr) (at_ : Addr) (al : Addr) (cs : Int32) (vf : Value) (ab : Addr) (kb : ClassId) (gv : Int32) (h0 : Heap) (n0 : Nat) (v : Option Value) (h : Heap) (L : List Loc) : Prop := v = some (.int (own_ac gv [])) ∧ Fr n0 L ∧ h = h0
theorem rm7n0 (l : Launch) (Z : State) (a0 : Array Value) (hw : ∀ d ∈ tables_1, d.before a0 Z = true) (ws : List Jvm.Cond) (aa : Addr) (at_ : Addr) (al : Addr) (cs : Int32) (vf : Value) (ab : Addr) (kb : ClassId) (gv : Int32) (h0 : Heap) (n0 : Nat) (Z0 : n0 ≤ h0.size) (O0 : Old Z n0 h0) (Scs : Sta Z Z.heap "java/lang/String" "COMPACT_STRINGS" "Z" (.int cs)) (hcs : ¬ cs = (0 : Int32)) (Ssf : Sta Z Z.heap "jdk/internal/util/Preconditions" "SIOOBE_FORMATTER" "Ljava/util/function/BiFunction;" vf) (hvf : vf.isRef = true) (Er : Exa Z h0 aa "com/example/onus_on_beans/onusonbeans/validators/CheckDigitRange") (Fr_end : Fld Z h0 aa "com/example/onus_on_beans/onusonbeans/validators/CheckDigitRange" "end" "I" (.int 2147483647)) (Fr_start : Fld Z h0 aa "com/example/onus_on_beans/onusonbeans/validators/CheckDigitRange" "start" "I" (.int 0)) (Fr_checkAt : Fld Z h0 aa "com/example/onus_on_beans/onusonbeans/validators/CheckDigitRange" "checkAt" "I" (.int (-1))) (Fr_ignoresOthers : Fld Z h0 aa "com/example/onus_on_beans/onusonbeans/validators/CheckDigitRange" "ignoresOthers" "Z" (.int gv)) (El : Exa Z h0 al "com/example/onus_on_beans/onusonbeans/validators/CheckDigitScheme$Luhn") (Fm : Fld Z h0 al "com/example/onus_on_beans/onusonbeans/validators/CheckDigitScheme" "modulus" "I" (.int 10)) (Et : Exa Z h0 at_ "java/lang/String") (Fv : Fld Z h0 at_ "java/lang/String" "value" "[B" (.ref ab)) (Fc : Fld Z h0 at_ "java/lang/String" "coder" "B" (.int 0)) (Va : Arv Z h0 ab kb .byte (0 : Int32) [] (.int 0)) :
    MetFree l (⟨"com/example/onus_on_beans/onusonbeans/validators/CheckDigitRange", "holds", "(Ljava/lang/CharSequence;Lcom/example/onus_on_beans/onusonbeans/validators/CheckDigitScheme;)Z"⟩ : MethodName) (head1 (Jvm.Cond.code (⟨"com/example/onus_on_beans/onusonbeans/validators/CheckDigitRange", "holds", "(Ljava/lang/CharSequence;Lcom/example/onus_on_beans/onusonbeans/validators/CheckDigitScheme;)Z"⟩ : MethodName) prog_14_method_4_code 9 (some .boolean) :: ws) ({ frames := 2, cells := 0, slots := 0, locals := 25 } : Room)) (fun a U => a = #[(.ref aa), (.ref at_), (.ref al)] ∧ Z.Warmed39 U.vm ∧ U.heap = h0) (fun _ _ _ _ _ => True) (fun _ U o U' => ∃ v L, o = .returned v ∧ Q7n0 Z aa at_ al cs vf ab kb gv h0 n0 v U'.heap L ∧ FrameEnd U o U' L ({ frames := 2, cells := 0, slots := 0, locals := 25 } : Room).cells ({ frames := 2, cells := 0, slots := 0, locals := 25 } : Room).slots) := by
  refine MetFree.of_bodySF (plainFor_of_name own_pn275) hisR ?_
  intro p e s m args below meth c s₁ Bd hml0 hP hK
  have H := fun i c (h : tables_1[i]? = some c) => hw c (List.mem_of_getElem? h)
  obtain ⟨rfl, hZ, hh⟩ := hP
  have hx := Bd.exec
  have hby := Bd.bytes
  have hml : c.maxLocals = 9 := hml0
  have hown : s.vm.findClass "com/example/onus_on_beans/onusonbeans/validators/CheckDigitRange" = some m.cls := findClass_of_methodNamed Bd.named
  have hnm := (name_of_methodNamed Bd.named Bd.method).1
  have X0 : Stand p l e ({ frames := 2, cells := 0, slots := 0, locals := 25 } : Room) s m #[(.ref aa), (.ref at_), (.ref al)] below meth c s₁ [] 0 0 := Stand.of_body Bd
  have e0 : s₁.heap = h0 := by rw [← hh, Bd.state]; rfl
  have N0 := Fr.nil n0
  have pre0 : ∀ t, Sp p e below m s₁ 0 #[vr aa, vr at_, vr al, .unset, .unset, .unset, .unset, .unset, .unset] [] t → Steps p.tables e below (s₁.setTop (entryFrame m #[(.ref aa), (.ref at_), (.ref al)] 9)) t := fun t k => castTop (ef_7n0 m aa at_ al) k
  generalize s₁.setTop (entryFrame m #[(.ref aa), (.ref at_), (.ref al)] 9) = G0 at pre0 ⊢
  obtain ⟨T1050, X1050, e1050, st1050⟩ := getF X0 hx hZ hown (host := "") (Or.inl (H 43 _ rfl)) Via.refl e0 Fr_end (g := (mkF m 1 #[vr aa, vr at_, vr al, .unset, .unset, .unset, .unset, .unset, .unset] [(.ref aa)])) rfl rfl (hb hby d7_1)
  obtain ⟨cq1051, kq1051, q1051a, q1051b, q1051c⟩ := isOf hZ e1050 Et
  obtain ⟨_, _, ⟨T1051, L1051, k1051, n1051⟩, -, X1051, ⟨Lc1051, hQ1051, l1051, y1051, z1051⟩, st1051⟩ := X1050.interfaceBack hx hown (mvT hZ (H 46 _ rfl)) (mvT hZ (H 47 _ rfl)) (mvT hZ (H 48 _ rfl)) (mvT hZ (H 49 _ rfl)) (mvT hZ (H 50 _ rfl)) (mvT hZ (H 51 _ rfl)) (mvT hZ (H 52 _ rfl)) (mvT hZ (H 53 _ rfl)) (by decide) (backOf (W := 0) (rm8 l Z a0 hw [] at_ cs vf ab kb (0 : Int32) [] h0 n0 Z0 O0 Scs hcs Ssf hvf Et Fv Fc Va) hZ (H 54 _ rfl) (H 9 _ rfl) (by decide) (by decide)) q1051a q1051b q1051c (g := (mkF m 10 #[vr aa, vr at_, vr al, .unset, .unset, .unset, .unset, .unset, .unset] [(.ref at_)])) rfl (by rw [hml]; rfl) (Steps.refl _) (argsL := []) (rest := []) (lenOf own_pd368 rfl) rfl (Nat.le_of_eq rfl) (hb hby d7_10) (fun _ _ => ⟨rfl, e1050, Nat.zero_le _, Nat.zero_le _⟩)
  dsimp only [Pt.U, Pt.locs, Pt.cells, Pt.slots] at X1051 l1051 y1051 z1051 st1051 hQ1051
  rw [l1051, y1051, z1051] at X1051
  obtain ⟨rfl, Nq1051, e1051⟩ := hQ1051
  have N1051 := Fr.app N0 Nq1051
  obtain ⟨T1052, X1052, e1052, st1052⟩ := getF X1051 hx hZ hown (host := "") (Or.inl (H 61 _ rfl)) Via.refl e1051 Fr_start (g := (mkF m 27 #[vr aa, vr at_, vr al, vi (-1), .unset, .unset, .unset, .unset, .unset] [(.ref aa), (.int (-1))])) rfl rfl (hb hby d7_27)
  obtain ⟨fs, hr, hrun, hended, hW, hsame⟩ := X1052.leave (v := some (.int 0)) (fun h => by rw [Bd.returns] at h; cases h)
  refine ⟨_, _, pre0 _ ?_, hrun, hended, _, _, rfl, ?_, ⟨_, rfl⟩, hW, hsame.mono (by decide) (by decide)⟩
  · show Sp p e below m s₁ 0 #[vr aa, vr at_, vr al, .unset, .unset, .unset, .unset, .unset, .unset] [] _
    refine XS.aloadN X0.here hx rfl (hb hby d7_0) rfl rfl ?_
    refine st1050 _ ?_
    show Sp p e below m T1050 4 #[vr aa, vr at_, vr al, .unset, .unset, .unset, .unset, .unset, .unset] [(.int 2147483647)] _
    refine X1050.ldcInt hx hown (mvT hZ (H 45 _ rfl)) (g := (mkF m 4 #[vr aa, vr at_, vr al, .unset, .unset, .unset, .unset, .unset, .unset] [(.int 2147483647)])) rfl (hb hby d7_4) _ ?_
    show Sp p e below m T1050 6 #[vr aa, vr at_, vr al, .unset, .unset, .unset, .unset, .unset, .unset] [(.int 2147483647), (.int 2147483647)] _
    refine XS.icmpNo X1050.here hx rfl (hb hby d7_6) rfl (teq (by decide : ((2147483647 : Int32) = (2147483647 : Int32)))).2 ?_
    refine XS.aloadN X1050.here hx rfl (hb hby d7_9) rfl rfl ?_
    refine st1051.trans ?_
    show Sp p e below m T1051 15 #[vr aa, vr at_, vr al, .unset, .unset, .unset, .unset, .unset, .unset] [(.int 0)] _
    refine XS.iconst X1051.here hx rfl (hb hby d7_15) ?_
    refine XS.isub X1051.here hx rfl (hb hby d7_16) rfl ?_
    refine XS.goto X1051.here hx rfl (pc0 := 17) (pc' := 24) rfl (hb hby d7_17) (by decide) (by decide) ?_
    refine XS.istoreN X1051.here hx rfl (hb hby d7_24) rfl (l' := #[vr aa, vr at_, vr al, vi (-1), .unset, .unset, .unset, .unset, .unset]) rfl ?_
    refine XS.iloadN X1051.here hx rfl (hb hby d7_25) rfl ?_
    refine XS.aloadN X1051.here hx rfl (hb hby d7_26) rfl rfl ?_
    refine st1052 _ ?_
    show Sp p e below m T1052 30 #[vr aa, vr at_, vr al, vi (-1), .unset, .unset, .unset, .unset, .unset] [(.int 0), (.int (-1))] _
    refine XS.icmpYes X1052.here hx rfl (pc0 := 30) (pc' := 56) rfl (hb hby d7_30) rfl (tlt (by decide : ((-1 : Int32) < (0 : Int32)))).1 (by decide) (by decide) ?_
    refine XS.iconst X1052.here hx rfl (hb hby d7_56) ?_
    exact retN X1052 hx (t := .boolean) Bd.returns (by simp) (hb hby d7_57) hr
  · show Q7n0 Z aa at_ al cs vf ab kb gv h0 n0 _ T1052.heap _
    rw [e1052]
    exact ⟨(by simp only [own_ac, own_a0, own_a1, ite_self]), N1051, rfl⟩
theorem d7_33 : decode prog_14_method_4_code 33 = .ok (.iload_n 3, 1) := by decide +kernel
theorem d7_34 : decode prog_14_method_4_code 34 = .ok (.aload_n 1, 1) := by decide +kernel
theorem d7_35 : decode prog_14_method_4_code 35 = .ok (.invokeinterface 75 1, 5) := by decide +kernel
theorem d7_40 : decode prog_14_method_4_code 40 = .ok (.if_icmp .ge 16, 3) := by decide +kernel
theorem d7_43 : decode prog_14_method_4_code 43 = .ok (.aload_n 0, 1) := by decide +kernel
theorem d7_44 : decode prog_14_method_4_code 44 = .ok (.getfield 18, 3) := by decide +kernel
theorem d7_47 : decode prog_14_method_4_code 47 = .ok (.aload_n 1, 1) := by decide +kernel
theorem d7_48 : decode prog_14_method_4_code 48 = .ok (.invokeinterface 75 1, 5) := by decide +kernel
theorem d7_53 : decode prog_14_method_4_code 53 = .ok (.if_icmp .lt 5, 3) := by decide +kernel
theorem d7_58 : decode prog_14_method_4_code 58 = .ok (.aload_n 0, 1) := by decide +kernel
theorem d7_59 : decode prog_14_method_4_code 59 = .ok (.getfield 18, 3) := by decide +kernel
theorem d7_62 : decode prog_14_method_4_code 62 = .ok (.iconst (-1), 1) := by decide +kernel
theorem d7_63 : decode prog_14_method_4_code 63 = .ok (.if_icmp .ne 13, 3) := by decide +kernel
theorem d7_66 : decode prog_14_method_4_code 66 = .ok (.aload_n 0, 1) := by decide +kernel
theorem d7_67 : decode prog_14_method_4_code 67 = .ok (.aload_n 1, 1) := by decide +kernel
theorem d7_68 : decode prog_14_method_4_code 68 = .ok (.iload_n 3, 1) := by decide +kernel
theorem d7_69 : decode prog_14_method_4_code 69 = .ok (.aload_n 2, 1) := by decide +kernel
theorem d7_70 : decode prog_14_method_4_code 70 = .ok (.invokevirtual 80, 3) := by decide +kernel
theorem own_pd397 : parseMethodDescriptor "(Ljava/lang/CharSequence;ILcom/example/onus_on_beans/onusonbeans/validators/CheckDigitScheme;)I" = some ⟨[(.object "java/lang/CharSequence"), .int, (.object "com/example/onus_on_beans/onusonbeans/validators/CheckDigitScheme")], some .int⟩ := by decide +kernel
theorem d7_73 : decode prog_14_method_4_code 73 = .ok (.goto 7, 3) := by decide +kernel
theorem d7_80 : decode prog_14_method_4_code 80 = .ok (.istore 4, 2) := by decide +kernel
theorem d7_82 : decode prog_14_method_4_code 82 = .ok (.iload 4, 2) := by decide +kernel
theorem d7_84 : decode prog_14_method_4_code 84 = .ok (.ifCond .ge 5, 3) := by decide +kernel
theorem d7_89 : decode prog_14_method_4_code 89 = .ok (.iconst 0, 1) := by decide +kernel
theorem d7_90 : decode prog_14_method_4_code 90 = .ok (.istore 5, 2) := by decide +kernel
theorem d7_92 : decode prog_14_method_4_code 92 = .ok (.iconst 0, 1) := by decide +kernel
theorem d7_93 : decode prog_14_method_4_code 93 = .ok (.istore 6, 2) := by decide +kernel
theorem d7_95 : decode prog_14_method_4_code 95 = .ok (.aload_n 0, 1) := by decide +kernel
theorem d7_96 : decode prog_14_method_4_code 96 = .ok (.getfield 18, 3) := by decide +kernel
theorem d7_99 : decode prog_14_method_4_code 99 = .ok (.iconst (-1), 1) := by decide +kernel
theorem d7_100 : decode prog_14_method_4_code 100 = .ok (.if_icmp .ne 10, 3) := by decide +kernel
theorem d7_103 : decode prog_14_method_4_code 103 = .ok (.iload 4, 2) := by decide +kernel
theorem d7_105 : decode prog_14_method_4_code 105 = .ok (.iconst 1, 1) := by decide +kernel
theorem d7_106 : decode prog_14_method_4_code 106 = .ok (.isub, 1) := by decide +kernel
theorem d7_107 : decode prog_14_method_4_code 107 = .ok (.goto 4, 3) := by decide +kernel
theorem d7_111 : decode prog_14_method_4_code 111 = .ok (.istore 7, 2) := by decide +kernel
theorem d7_113 : decode prog_14_method_4_code 113 = .ok (.iload 7, 2) := by decide +kernel
theorem d7_115 : decode prog_14_method_4_code 115 = .ok (.aload_n 0, 1) := by decide +kernel
theorem d7_116 : decode prog_14_method_4_code 116 = .ok (.getfield 9, 3) := by decide +kernel
theorem d7_119 : decode prog_14_method_4_code 119 = .ok (.if_icmp .lt 63, 3) := by decide +kernel
theorem d7_182 : decode prog_14_method_4_code 182 = .ok (.aload_n 2, 1) := by decide +kernel
theorem d7_183 : decode prog_14_method_4_code 183 = .ok (.iload 5, 2) := by decide +kernel
theorem d7_185 : decode prog_14_method_4_code 185 = .ok (.invokevirtual 101, 3) := by decide +kernel
theorem d7_188 : decode prog_14_method_4_code 188 = .ok (.aload_n 1, 1) := by decide +kernel
theorem d7_189 : decode prog_14_method_4_code 189 = .ok (.iload 4, 2) := by decide +kernel
theorem d7_191 : decode prog_14_method_4_code 191 = .ok (.invokeinterface 84 2, 5) := by decide +kernel
theorem d7_196 : decode prog_14_method_4_code 196 = .ok (.if_icmp .ne 7, 3) := by decide +kernel
theorem d7_199 : decode prog_14_method_4_code 199 = .ok (.iconst 1, 1) := by decide +kernel
theorem d7_200 : decode prog_14_method_4_code 200 = .ok (.goto 4, 3) := by decide +kernel
theorem d7_204 : decode prog_14_method_4_code 204 = .ok (.ireturn, 1) := by decide +kernel
theorem d7_203 : decode prog_14_method_4_code 203 = .ok (.iconst 0, 1) := by decide +kernel
theorem d7_87 : decode prog_14_method_4_code 87 = .ok (.iconst 0, 1) := by decide +kernel
theorem d7_88 : decode prog_14_method_4_code 88 = .ok (.ireturn, 1) := by decide +kernel
theorem ef_7n1 (m : MethodId) (x0 : Addr) (x1 : Addr) (x2 : Addr) : entryFrame m #[(.ref x0), (.ref x1), (.ref x2)] 9 = mkF m 0 #[.val (.ref x0), .val (.ref x1), .val (.ref x2), .unset, .unset, .unset, .unset, .unset, .unset] [] := by first | (simp [entryFrame, mkF, argsToLocals, Value.category]; done) | rfl
def Q7n1 (Z : State) (aa : Addr) (at_ : Addr) (al : Addr) (cs : Int32) (vf : Value) (ab : Addr) (kb : ClassId) (gv : Int32) (pa0 : Int32) (h0 : Heap) (n0 : Nat) (v : Option Value) (h : Heap) (L : List Loc) : Prop := v = some (.int (own_ac gv [pa0])) ∧ Fr n0 L ∧ h = h0
theorem rm7n1 (l : Launch) (Z : State) (a0 : Array Value) (hw : ∀ d ∈ tables_1, d.before a0 Z = true) (ws : List Jvm.Cond) (aa : Addr) (at_ : Addr) (al : Addr) (cs : Int32) (vf : Value) (ab : Addr) (kb : ClassId) (gv : Int32) (pa0 : Int32) (h0 : Heap) (n0 : Nat) (Z0 : n0 ≤ h0.size) (O0 : Old Z n0 h0) (Scs : Sta Z Z.heap "java/lang/String" "COMPACT_STRINGS" "Z" (.int cs)) (hcs : ¬ cs = (0 : Int32)) (Ssf : Sta Z Z.heap "jdk/internal/util/Preconditions" "SIOOBE_FORMATTER" "Ljava/util/function/BiFunction;" vf) (hvf : vf.isRef = true) (Er : Exa Z h0 aa "com/example/onus_on_beans/onusonbeans/validators/CheckDigitRange") (Fr_end : Fld Z h0 aa "com/example/onus_on_beans/onusonbeans/validators/CheckDigitRange" "end" "I" (.int 2147483647)) (Fr_start : Fld Z h0 aa "com/example/onus_on_beans/onusonbeans/validators/CheckDigitRange" "start" "I" (.int 0)) (Fr_checkAt : Fld Z h0 aa "com/example/onus_on_beans/onusonbeans/validators/CheckDigitRange" "checkAt" "I" (.int (-1))) (Fr_ignoresOthers : Fld Z h0 aa "com/example/onus_on_beans/onusonbeans/validators/CheckDigitRange" "ignoresOthers" "Z" (.int gv)) (El : Exa Z h0 al "com/example/onus_on_beans/onusonbeans/validators/CheckDigitScheme$Luhn") (Fm : Fld Z h0 al "com/example/onus_on_beans/onusonbeans/validators/CheckDigitScheme" "modulus" "I" (.int 10)) (Et : Exa Z h0 at_ "java/lang/String") (Fv : Fld Z h0 at_ "java/lang/String" "value" "[B" (.ref ab)) (Fc : Fld Z h0 at_ "java/lang/String" "coder" "B" (.int 0)) (Va : Arv Z h0 ab kb .byte (1 : Int32) [(.int (own_b pa0))] (.int 0)) (hp0 : 0 ≤ pa0.toInt ∧ pa0.toInt ≤ 255) :
    MetFree l (⟨"com/example/onus_on_beans/onusonbeans/validators/CheckDigitRange", "holds", "(Ljava/lang/CharSequence;Lcom/example/onus_on_beans/onusonbeans/validators/CheckDigitScheme;)Z"⟩ : MethodName) (head1 (Jvm.Cond.code (⟨"com/example/onus_on_beans/onusonbeans/validators/CheckDigitRange", "holds", "(Ljava/lang/CharSequence;Lcom/example/onus_on_beans/onusonbeans/validators/CheckDigitScheme;)Z"⟩ : MethodName) prog_14_method_4_code 9 (some .boolean) :: ws) ({ frames := 5, cells := 0, slots := 0, locals := 70 } : Room)) (fun a U => a = #[(.ref aa), (.ref at_), (.ref al)] ∧ Z.Warmed39 U.vm ∧ U.heap = h0) (fun _ _ _ _ _ => True) (fun _ U o U' => ∃ v L, o = .returned v ∧ Q7n1 Z aa at_ al cs vf ab kb gv pa0 h0 n0 v U'.heap L ∧ FrameEnd U o U' L ({ frames := 5, cells := 0, slots := 0, locals := 70 } : Room).cells ({ frames := 5, cells := 0, slots := 0, locals := 70 } : Room).slots) := by
  refine MetFree.of_bodySF (plainFor_of_name own_pn275) hisR ?_
  intro p e s m args below meth c s₁ Bd hml0 hP hK
  have H := fun i c (h : tables_1[i]? = some c) => hw c (List.mem_of_getElem? h)
  obtain ⟨rfl, hZ, hh⟩ := hP
  have hx := Bd.exec
  have hby := Bd.bytes
  have hml : c.maxLocals = 9 := hml0
  have hown : s.vm.findClass "com/example/onus_on_beans/onusonbeans/validators/CheckDigitRange" = some m.cls := findClass_of_methodNamed Bd.named
  have hnm := (name_of_methodNamed Bd.named Bd.method).1
  have X0 : Stand p l e ({ frames := 5, cells := 0, slots := 0, locals := 70 } : Room) s m #[(.ref aa), (.ref at_), (.ref al)] below meth c s₁ [] 0 0 := Stand.of_body Bd
  have e0 : s₁.heap = h0 := by rw [← hh, Bd.state]; rfl
  have N0 := Fr.nil n0
  have pre0 : ∀ t, Sp p e below m s₁ 0 #[vr aa, vr at_, vr al, .unset, .unset, .unset, .unset, .unset, .unset] [] t → Steps p.tables e below (s₁.setTop (entryFrame m #[(.ref aa), (.ref at_), (.ref al)] 9)) t := fun t k => castTop (ef_7n1 m aa at_ al) k
  generalize s₁.setTop (entryFrame m #[(.ref aa), (.ref at_), (.ref al)] 9) = G0 at pre0 ⊢
  obtain ⟨T1077, X1077, e1077, st1077⟩ := getF X0 hx hZ hown (host := "") (Or.inl (H 43 _ rfl)) Via.refl e0 Fr_end (g := (mkF m 1 #[vr aa, vr at_, vr al, .unset, .unset, .unset, .unset, .unset, .unset] [(.ref aa)])) rfl rfl (hb hby d7_1)
  obtain ⟨cq1078, kq1078, q1078a, q1078b, q1078c⟩ := isOf hZ e1077 Et
  obtain ⟨_, _, ⟨T1078, L1078, k1078, n1078⟩, -, X1078, ⟨Lc1078, hQ1078, l1078, y1078, z1078⟩, st1078⟩ := X1077.interfaceBack hx hown (mvT hZ (H 46 _ rfl)) (mvT hZ (H 47 _ rfl)) (mvT hZ (H 48 _ rfl)) (mvT hZ (H 49 _ rfl)) (mvT hZ (H 50 _ rfl)) (mvT hZ (H 51 _ rfl)) (mvT hZ (H 52 _ rfl)) (mvT hZ (H 53 _ rfl)) (by decide) (backOf (W := 0) (rm8 l Z a0 hw [] at_ cs vf ab kb (1 : Int32) [(.int (own_b pa0))] h0 n0 Z0 O0 Scs hcs Ssf hvf Et Fv Fc Va) hZ (H 54 _ rfl) (H 9 _ rfl) (by decide) (by decide)) q1078a q1078b q1078c (g := (mkF m 10 #[vr aa, vr at_, vr al, .unset, .unset, .unset, .unset, .unset, .unset] [(.ref at_)])) rfl (by rw [hml]; rfl) (Steps.refl _) (argsL := []) (rest := []) (lenOf own_pd368 rfl) rfl (Nat.le_of_eq rfl) (hb hby d7_10) (fun _ _ => ⟨rfl, e1077, Nat.zero_le _, Nat.zero_le _⟩)
  dsimp only [Pt.U, Pt.locs, Pt.cells, Pt.slots] at X1078 l1078 y1078 z1078 st1078 hQ1078
  rw [l1078, y1078, z1078] at X1078
  obtain ⟨rfl, Nq1078, e1078⟩ := hQ1078
  have N1078 := Fr.app N0 Nq1078
  obtain ⟨T1079, X1079, e1079, st1079⟩ := getF X1078 hx hZ hown (host := "") (Or.inl (H 61 _ rfl)) Via.refl e1078 Fr_start (g := (mkF m 27 #[vr aa, vr at_, vr al, vi 0, .unset, .unset, .unset, .unset, .unset] [(.ref aa), (.int 0)])) rfl rfl (hb hby d7_27)
  obtain ⟨cq1080, kq1080, q1080a, q1080b, q1080c⟩ := isOf hZ e1079 Et
  obtain ⟨_, _, ⟨T1080, L1080, k1080, n1080⟩, -, X1080, ⟨Lc1080, hQ1080, l1080, y1080, z1080⟩, st1080⟩ := X1079.interfaceBack hx hown (mvT hZ (H 46 _ rfl)) (mvT hZ (H 47 _ rfl)) (mvT hZ (H 48 _ rfl)) (mvT hZ (H 49 _ rfl)) (mvT hZ (H 50 _ rfl)) (mvT hZ (H 51 _ rfl)) (mvT hZ (H 52 _ rfl)) (mvT hZ (H 53 _ rfl)) (by decide) (backOf (W := 1) (rm8 l Z a0 hw [] at_ cs vf ab kb (1 : Int32) [(.int (own_b pa0))] h0 n0 Z0 O0 Scs hcs Ssf hvf Et Fv Fc Va) hZ (H 54 _ rfl) (H 9 _ rfl) (by decide) (by decide)) q1080a q1080b q1080c (g := (mkF m 35 #[vr aa, vr at_, vr al, vi 0, .unset, .unset, .unset, .unset, .unset] [(.ref at_), (.int 0)])) rfl (by rw [hml]; rfl) (Steps.refl _) (argsL := []) (rest := [(.int 0)]) (lenOf own_pd368 rfl) rfl (Nat.le_of_eq rfl) (hb hby d7_35) (fun _ _ => ⟨rfl, e1079, Nat.zero_le _, Nat.zero_le _⟩)
  dsimp only [Pt.U, Pt.locs, Pt.cells, Pt.slots] at X1080 l1080 y1080 z1080 st1080 hQ1080
  rw [l1080, y1080, z1080] at X1080
  obtain ⟨rfl, Nq1080, e1080⟩ := hQ1080
  have N1080 := Fr.app N1078 Nq1080
  obtain ⟨T1081, X1081, e1081, st1081⟩ := getF X1080 hx hZ hown (host := "") (Or.inl (H 75 _ rfl)) Via.refl e1080 Fr_checkAt (g := (mkF m 44 #[vr aa, vr at_, vr al, vi 0, .unset, .unset, .unset, .unset, .unset] [(.ref aa)])) rfl rfl (hb hby d7_44)
  obtain ⟨cq1082, kq1082, q1082a, q1082b, q1082c⟩ := isOf hZ e1081 Et
  obtain ⟨_, _, ⟨T1082, L1082, k1082, n1082⟩, -, X1082, ⟨Lc1082, hQ1082, l1082, y1082, z1082⟩, st1082⟩ := X1081.interfaceBack hx hown (mvT hZ (H 46 _ rfl)) (mvT hZ (H 47 _ rfl)) (mvT hZ (H 48 _ rfl)) (mvT hZ (H 49 _ rfl)) (mvT hZ (H 50 _ rfl)) (mvT hZ (H 51 _ rfl)) (mvT hZ (H 52 _ rfl)) (mvT hZ (H 53 _ rfl)) (by decide) (backOf (W := 1) (rm8 l Z a0 hw [] at_ cs vf ab kb (1 : Int32) [(.int (own_b pa0))] h0 n0 Z0 O0 Scs hcs Ssf hvf Et Fv Fc Va) hZ (H 54 _ rfl) (H 9 _ rfl) (by decide) (by decide)) q1082a q1082b q1082c (g := (mkF m 48 #[vr aa, vr at_, vr al, vi 0, .unset, .unset, .unset, .unset, .unset] [(.ref at_), (.int (-1))])) rfl (by rw [hml]; rfl) (Steps.refl _) (argsL := []) (rest := [(.int (-1))]) (lenOf own_pd368 rfl) rfl (Nat.le_of_eq rfl) (hb hby d7_48) (fun _ _ => ⟨rfl, e1081, Nat.zero_le _, Nat.zero_le _⟩)
  dsimp only [Pt.U, Pt.locs, Pt.cells, Pt.slots] at X1082 l1082 y1082 z1082 st1082 hQ1082
  rw [l1082, y1082, z1082] at X1082
  obtain ⟨rfl, Nq1082, e1082⟩ := hQ1082
  have N1082 := Fr.app N1080 Nq1082
  obtain ⟨T1083, X1083, e1083, st1083⟩ := getF X1082 hx hZ hown (host := "") (Or.inl (H 75 _ rfl)) Via.refl e1082 Fr_checkAt (g := (mkF m 59 #[vr aa, vr at_, vr al, vi 0, .unset, .unset, .unset, .unset, .unset] [(.ref aa)])) rfl rfl (hb hby d7_59)
  obtain ⟨cq1084, q1084, q1084'⟩ := Er.cell
  obtain ⟨_, _, ⟨T1084, L1084, k1084, n1084⟩, -, X1084, ⟨Lc1084, hQ1084, l1084, y1084, z1084⟩, st1084⟩ := X1083.privateBack hx hown (mvT hZ (H 77 _ rfl)) (mvT hZ (H 78 _ rfl)) (own_selpriv (by decide) (mvT hZ (H 41 _ rfl)) (mvP hZ (H 79 _ rfl)) (mvT hZ (H 78 _ rfl)) rfl) (Cond.privateMethod_at (mvP hZ (H 79 _ rfl) (args := #[]))) (mvT hZ (H 80 _ rfl)) (by decide) (backOf (W := 0) (rm13n1 l Z a0 hw [] aa at_ al cs vf ab kb gv pa0 h0 n0 Z0 O0 Scs hcs Ssf hvf Er Fr_end Fr_start Fr_checkAt Fr_ignoresOthers El Fm Et Fv Fc Va hp0) hZ (H 80 _ rfl) (H 31 _ rfl) (by decide) (by decide)) (g := (mkF m 70 #[vr aa, vr at_, vr al, vi 0, .unset, .unset, .unset, .unset, .unset] [(.ref al), (.int 0), (.ref at_), (.ref aa)])) rfl (by rw [hml]; rfl) (Steps.refl _) (a := aa) (by rw [e1083]; exact q1084) q1084' (argsL := [(.ref at_), (.int 0), (.ref al)]) (rest := []) (lenOf own_pd397 rfl) rfl (Nat.le_of_eq rfl) (hb hby d7_70) (fun _ _ => ⟨rfl, e1083, Nat.zero_le _, Nat.zero_le _⟩)
  dsimp only [Pt.U, Pt.locs, Pt.cells, Pt.slots] at X1084 l1084 y1084 z1084 st1084 hQ1084
  rw [l1084, y1084, z1084] at X1084
  obtain ⟨rrk_1084, rfl, Nq1084, e1084, p1084_0⟩ := hQ1084
  have N1084 := Fr.app N1082 Nq1084
  have pre1085 : ∀ t, Sp p e below m T1084 73 #[vr aa, vr at_, vr al, vi 0, .unset, .unset, .unset, .unset, .unset] [(.int rrk_1084)] t → SG p e below G0 t := by
    intro t k
    refine pre0 t ?_
    show Sp p e below m s₁ 0 #[vr aa, vr at_, vr al, .unset, .unset, .unset, .unset, .unset, .unset] [] _
    refine XS.aloadN X0.here hx rfl (hb hby d7_0) rfl rfl ?_
    refine st1077 _ ?_
    show Sp p e below m T1077 4 #[vr aa, vr at_, vr al, .unset, .unset, .unset, .unset, .unset, .unset] [(.int 2147483647)] _
    refine X1077.ldcInt hx hown (mvT hZ (H 45 _ rfl)) (g := (mkF m 4 #[vr aa, vr at_, vr al, .unset, .unset, .unset, .unset, .unset, .unset] [(.int 2147483647)])) rfl (hb hby d7_4) _ ?_
    show Sp p e below m T1077 6 #[vr aa, vr at_, vr al, .unset, .unset, .unset, .unset, .unset, .unset] [(.int 2147483647), (.int 2147483647)] _
    refine XS.icmpNo X1077.here hx rfl (hb hby d7_6) rfl (teq (by decide : ((2147483647 : Int32) = (2147483647 : Int32)))).2 ?_
    refine XS.aloadN X1077.here hx rfl (hb hby d7_9) rfl rfl ?_
    refine st1078.trans ?_
    show Sp p e below m T1078 15 #[vr aa, vr at_, vr al, .unset, .unset, .unset, .unset, .unset, .unset] [(.int 1)] _
    refine XS.iconst X1078.here hx rfl (hb hby d7_15) ?_
    refine XS.isub X1078.here hx rfl (hb hby d7_16) rfl ?_
    refine XS.goto X1078.here hx rfl (pc0 := 17) (pc' := 24) rfl (hb hby d7_17) (by decide) (by decide) ?_
    refine XS.istoreN X1078.here hx rfl (hb hby d7_24) rfl (l' := #[vr aa, vr at_, vr al, vi 0, .unset, .unset, .unset, .unset, .unset]) rfl ?_
    refine XS.iloadN X1078.here hx rfl (hb hby d7_25) rfl ?_
    refine XS.aloadN X1078.here hx rfl (hb hby d7_26) rfl rfl ?_
    refine st1079 _ ?_
    show Sp p e below m T1079 30 #[vr aa, vr at_, vr al, vi 0, .unset, .unset, .unset, .unset, .unset] [(.int 0), (.int 0)] _
    refine XS.icmpNo X1079.here hx rfl (hb hby d7_30) rfl (flt (by decide : ¬ ((0 : Int32) < (0 : Int32)))).1 ?_
    refine XS.iloadN X1079.here hx rfl (hb hby d7_33) rfl ?_
    refine XS.aloadN X1079.here hx rfl (hb hby d7_34) rfl rfl ?_
    refine st1080.trans ?_
    show Sp p e below m T1080 40 #[vr aa, vr at_, vr al, vi 0, .unset, .unset, .unset, .unset, .unset] [(.int 1), (.int 0)] _
    refine XS.icmpNo X1080.here hx rfl (hb hby d7_40) rfl (tlt (by decide : ((0 : Int32) < (1 : Int32)))).2.1 ?_
    refine XS.aloadN X1080.here hx rfl (hb hby d7_43) rfl rfl ?_
    refine st1081 _ ?_
    show Sp p e below m T1081 47 #[vr aa, vr at_, vr al, vi 0, .unset, .unset, .unset, .unset, .unset] [(.int (-1))] _
    refine XS.aloadN X1081.here hx rfl (hb hby d7_47) rfl rfl ?_
    refine st1082.trans ?_
    show Sp p e below m T1082 53 #[vr aa, vr at_, vr al, vi 0, .unset, .unset, .unset, .unset, .unset] [(.int 1), (.int (-1))] _
    refine XS.icmpYes X1082.here hx rfl (pc0 := 53) (pc' := 58) rfl (hb hby d7_53) rfl (tlt (by decide : ((-1 : Int32) < (1 : Int32)))).1 (by decide) (by decide) ?_
    refine XS.aloadN X1082.here hx rfl (hb hby d7_58) rfl rfl ?_
    refine st1083 _ ?_
    show Sp p e below m T1083 62 #[vr aa, vr at_, vr al, vi 0, .unset, .unset, .unset, .unset, .unset] [(.int (-1))] _
    refine XS.iconst X1083.here hx rfl (hb hby d7_62) ?_
    refine XS.icmpNo X1083.here hx rfl (hb hby d7_63) rfl (teq (by decide : ((-1 : Int32) = (-1 : Int32)))).2 ?_
    refine XS.aloadN X1083.here hx rfl (hb hby d7_66) rfl rfl ?_
    refine XS.aloadN X1083.here hx rfl (hb hby d7_67) rfl rfl ?_
    refine XS.iloadN X1083.here hx rfl (hb hby d7_68) rfl ?_
    refine XS.aloadN X1083.here hx rfl (hb hby d7_69) rfl rfl ?_
    refine st1084.trans ?_
    exact k
  rcases p1084_0 with hq1086 | hq1087 | hq1088
  · rw [hq1086.1] at pre1085
    obtain ⟨T1089, X1089, e1089, st1089⟩ := getF X1084 hx hZ hown (host := "") (Or.inl (H 75 _ rfl)) Via.refl e1084 Fr_checkAt (g := (mkF m 96 #[vr aa, vr at_, vr al, vi 0, vi 0, vi 0, vi 0, .unset, .unset] [(.ref aa)])) rfl rfl (hb hby d7_96)
    obtain ⟨T1090, X1090, e1090, st1090⟩ := getF X1089 hx hZ hown (host := "") (Or.inl (H 61 _ rfl)) Via.refl e1089 Fr_start (g := (mkF m 116 #[vr aa, vr at_, vr al, vi 0, vi 0, vi 0, vi 0, vi (-1), .unset] [(.ref aa), (.int (-1))])) rfl rfl (hb hby d7_116)
    obtain ⟨cq1091, kq1091, q1091a, q1091b, q1091c⟩ := isOf hZ e1090 El
    obtain ⟨_, _, ⟨T1091, L1091, k1091, n1091⟩, -, X1091, ⟨Lc1091, hQ1091, l1091, y1091, z1091⟩, st1091⟩ := X1090.virtualBack hx hown (mvT hZ (H 116 _ rfl)) (mvT hZ (H 117 _ rfl)) (own_nf (args := #[]) (mvT hZ (H 111 _ rfl)) rfl) (mvT hZ (H 118 _ rfl)) (mvT hZ (H 119 _ rfl)) (by decide) (backOf (W := 0) (rm21 l Z a0 hw [] al (0 : Int32)  h0 n0 Z0 ) hZ (H 121 _ rfl) (H 120 _ rfl) (by decide) (by decide)) q1091a q1091c (g := (mkF m 185 #[vr aa, vr at_, vr al, vi 0, vi 0, vi 0, vi 0, vi (-1), .unset] [(.int 0), (.ref al)])) rfl (by rw [hml]; rfl) (Steps.refl _) (argsL := [(.int 0)]) (rest := []) (lenOf own_pd356 rfl) rfl (Nat.le_of_eq rfl) (hb hby d7_185) (fun _ _ => ⟨rfl, e1090, Nat.zero_le _, Nat.zero_le _⟩)
    dsimp only [Pt.U, Pt.locs, Pt.cells, Pt.slots] at X1091 l1091 y1091 z1091 st1091 hQ1091
    rw [l1091, y1091, z1091] at X1091
    obtain ⟨rfl, Nq1091, e1091⟩ := hQ1091
    have N1091 := Fr.app N1084 Nq1091
    obtain ⟨cq1092, kq1092, q1092a, q1092b, q1092c⟩ := isOf hZ e1091 Et
    obtain ⟨_, _, ⟨T1092, L1092, k1092, n1092⟩, -, X1092, ⟨Lc1092, hQ1092, l1092, y1092, z1092⟩, st1092⟩ := X1091.interfaceBack hx hown (mvT hZ (H 83 _ rfl)) (mvT hZ (H 84 _ rfl)) (mvT hZ (H 85 _ rfl)) (mvT hZ (H 86 _ rfl)) (mvT hZ (H 87 _ rfl)) (mvT hZ (H 88 _ rfl)) (mvT hZ (H 89 _ rfl)) (mvT hZ (H 53 _ rfl)) (by decide) (backOf (W := 1) (rm14 l Z a0 hw [] at_ (0 : Int32) cs vf ab kb (1 : Int32) [(.int (own_b pa0))] (own_b pa0) h0 n0 Z0 O0 Scs hcs Ssf hvf Et Fv Fc Va (by decide) (by decide) rfl) hZ (H 90 _ rfl) (H 9 _ rfl) (by decide) (by decide)) q1092a q1092b q1092c (g := (mkF m 191 #[vr aa, vr at_, vr al, vi 0, vi 0, vi 0, vi 0, vi (-1), .unset] [(.int 0), (.ref at_), (.int (own_cc (0 : Int32)))])) rfl (by rw [hml]; rfl) (Steps.refl _) (argsL := [(.int 0)]) (rest := [(.int (own_cc (0 : Int32)))]) (lenOf own_pd356 rfl) rfl (Nat.le_of_eq rfl) (hb hby d7_191) (fun _ _ => ⟨rfl, e1091, Nat.zero_le _, Nat.zero_le _⟩)
    dsimp only [Pt.U, Pt.locs, Pt.cells, Pt.slots] at X1092 l1092 y1092 z1092 st1092 hQ1092
    rw [l1092, y1092, z1092] at X1092
    obtain ⟨rfl, Nq1092, e1092⟩ := hQ1092
    have N1092 := Fr.app N1091 Nq1092
    have pre1093 : ∀ t, Sp p e below m T1092 196 #[vr aa, vr at_, vr al, vi 0, vi 0, vi 0, vi 0, vi (-1), .unset] [(.int (own_lat (own_b pa0))), (.int (own_cc (0 : Int32)))] t → SG p e below G0 t := by
      intro t k
      refine pre1085 t ?_
      show Sp p e below m T1084 73 #[vr aa, vr at_, vr al, vi 0, .unset, .unset, .unset, .unset, .unset] [(.int 0)] _
      refine XS.goto X1084.here hx rfl (pc0 := 73) (pc' := 80) rfl (hb hby d7_73) (by decide) (by decide) ?_
      refine XS.istore X1084.here hx rfl (hb hby d7_80) rfl (l' := #[vr aa, vr at_, vr al, vi 0, vi 0, .unset, .unset, .unset, .unset]) rfl ?_
      refine XS.iload X1084.here hx rfl (hb hby d7_82) rfl ?_
      refine XS.ifYes X1084.here hx rfl (pc0 := 84) (pc' := 89) rfl (hb hby d7_84) rfl ((if0 _ _).trans (flt (by decide : ¬ ((0 : Int32) < (0 : Int32)))).2.1) (by decide) (by decide) ?_
      refine XS.iconst X1084.here hx rfl (hb hby d7_89) ?_
      refine XS.istore X1084.here hx rfl (hb hby d7_90) rfl (l' := #[vr aa, vr at_, vr al, vi 0, vi 0, vi 0, .unset, .unset, .unset]) rfl ?_
      refine XS.iconst X1084.here hx rfl (hb hby d7_92) ?_
      refine XS.istore X1084.here hx rfl (hb hby d7_93) rfl (l' := #[vr aa, vr at_, vr al, vi 0, vi 0, vi 0, vi 0, .unset, .unset]) rfl ?_
      show Sp p e below m T1084 95 #[vr aa, vr at_, vr al, vi 0, vi 0, vi 0, vi 0, .unset, .unset] [] _
      refine XS.aloadN X1084.here hx rfl (hb hby d7_95) rfl rfl ?_
      refine st1089 _ ?_
      show Sp p e below m T1089 99 #[vr aa, vr at_, vr al, vi 0, vi 0, vi 0, vi 0, .unset, .unset] [(.int (-1))] _
      refine XS.iconst X1089.here hx rfl (hb hby d7_99) ?_
      refine XS.icmpNo X1089.here hx rfl (hb hby d7_100) rfl (teq (by decide : ((-1 : Int32) = (-1 : Int32)))).2 ?_
      refine XS.iload X1089.here hx rfl (hb hby d7_103) rfl ?_
      refine XS.iconst X1089.here hx rfl (hb hby d7_105) ?_
      refine XS.isub X1089.here hx rfl (hb hby d7_106) rfl ?_
      refine XS.goto X1089.here hx rfl (pc0 := 107) (pc' := 111) rfl (hb hby d7_107) (by decide) (by decide) ?_
      refine XS.istore X1089.here hx rfl (hb hby d7_111) rfl (l' := #[vr aa, vr at_, vr al, vi 0, vi 0, vi 0, vi 0, vi (-1), .unset]) rfl ?_
      refine XS.iload X1089.here hx rfl (hb hby d7_113) rfl ?_
      show Sp p e below m T1089 115 #[vr aa, vr at_, vr al, vi 0, vi 0, vi 0, vi 0, vi (-1), .unset] [(.int (-1))] _
      refine XS.aloadN X1089.here hx rfl (hb hby d7_115) rfl rfl ?_
      refine st1090 _ ?_
      show Sp p e below m T1090 119 #[vr aa, vr at_, vr al, vi 0, vi 0, vi 0, vi 0, vi (-1), .unset] [(.int 0), (.int (-1))] _
      refine XS.icmpYes X1090.here hx rfl (pc0 := 119) (pc' := 182) rfl (hb hby d7_119) rfl (tlt (by decide : ((-1 : Int32) < (0 : Int32)))).1 (by decide) (by decide) ?_
      refine XS.aloadN X1090.here hx rfl (hb hby d7_182) rfl rfl ?_
      refine XS.iload X1090.here hx rfl (hb hby d7_183) rfl ?_
      refine st1091.trans ?_
      show Sp p e below m T1091 188 #[vr aa, vr at_, vr al, vi 0, vi 0, vi 0, vi 0, vi (-1), .unset] [(.int (own_cc (0 : Int32)))] _
      refine XS.aloadN X1091.here hx rfl (hb hby d7_188) rfl rfl ?_
      refine XS.iload X1091.here hx rfl (hb hby d7_189) rfl ?_
      refine st1092.trans ?_
      exact k
    rw [show (own_lat (own_b pa0)) = pa0 from own_at hp0] at pre1093
    by_cases hc196_1094 : (own_cc (0 : Int32)) = pa0
    · obtain ⟨fs, hr, hrun, hended, hW, hsame⟩ := X1092.leave (v := some (.int 1)) (fun h => by rw [Bd.returns] at h; cases h)
      refine ⟨_, _, pre1093 _ ?_, hrun, hended, _, _, rfl, ?_, ⟨_, rfl⟩, hW, hsame.mono (by decide) (by decide)⟩
      · show Sp p e below m T1092 196 #[vr aa, vr at_, vr al, vi 0, vi 0, vi 0, vi 0, vi (-1), .unset] [(.int pa0), (.int (own_cc (0 : Int32)))] _
        refine XS.icmpNo X1092.here hx rfl (hb hby d7_196) rfl (teq hc196_1094).2 ?_
        refine XS.iconst X1092.here hx rfl (hb hby d7_199) ?_
        refine XS.goto X1092.here hx rfl (pc0 := 200) (pc' := 204) rfl (hb hby d7_200) (by decide) (by decide) ?_
        exact retN X1092 hx (t := .boolean) Bd.returns (by simp) (hb hby d7_204) hr
      · show Q7n1 Z aa at_ al cs vf ab kb gv pa0 h0 n0 _ T1092.heap _
        rw [e1092]
        exact ⟨(by simp only [own_ac, if_pos (hq1086.2), own_a0, own_run0, -Int32.reduceAdd]; rw [own_fin, if_pos hc196_1094]), N1092, rfl⟩
    · obtain ⟨fs, hr, hrun, hended, hW, hsame⟩ := X1092.leave (v := some (.int 0)) (fun h => by rw [Bd.returns] at h; cases h)
      refine ⟨_, _, pre1093 _ ?_, hrun, hended, _, _, rfl, ?_, ⟨_, rfl⟩, hW, hsame.mono (by decide) (by decide)⟩
      · show Sp p e below m T1092 196 #[vr aa, vr at_, vr al, vi 0, vi 0, vi 0, vi 0, vi (-1), .unset] [(.int pa0), (.int (own_cc (0 : Int32)))] _
        refine XS.icmpYes X1092.here hx rfl (pc0 := 196) (pc' := 203) rfl (hb hby d7_196) rfl (feq hc196_1094).2 (by decide) (by decide) ?_
        refine XS.iconst X1092.here hx rfl (hb hby d7_203) ?_
        exact retN X1092 hx (t := .boolean) Bd.returns (by simp) (hb hby d7_204) hr
      · show Q7n1 Z aa at_ al cs vf ab kb gv pa0 h0 n0 _ T1092.heap _
        rw [e1092]
        exact ⟨(by simp only [own_ac, if_pos (hq1086.2), own_a0, own_run0, -Int32.reduceAdd]; rw [own_fin, if_neg hc196_1094]), N1092, rfl⟩
  · rw [hq1087.1] at pre1085
    obtain ⟨T1095, X1095, e1095, st1095⟩ := getF X1084 hx hZ hown (host := "") (Or.inl (H 75 _ rfl)) Via.refl e1084 Fr_checkAt (g := (mkF m 96 #[vr aa, vr at_, vr al, vi 0, vi 0, vi 0, vi 0, .unset, .unset] [(.ref aa)])) rfl rfl (hb hby d7_96)
    obtain ⟨T1096, X1096, e1096, st1096⟩ := getF X1095 hx hZ hown (host := "") (Or.inl (H 61 _ rfl)) Via.refl e1095 Fr_start (g := (mkF m 116 #[vr aa, vr at_, vr al, vi 0, vi 0, vi 0, vi 0, vi (-1), .unset] [(.ref aa), (.int (-1))])) rfl rfl (hb hby d7_116)
    obtain ⟨cq1097, kq1097, q1097a, q1097b, q1097c⟩ := isOf hZ e1096 El
    obtain ⟨_, _, ⟨T1097, L1097, k1097, n1097⟩, -, X1097, ⟨Lc1097, hQ1097, l1097, y1097, z1097⟩, st1097⟩ := X1096.virtualBack hx hown (mvT hZ (H 116 _ rfl)) (mvT hZ (H 117 _ rfl)) (own_nf (args := #[]) (mvT hZ (H 111 _ rfl)) rfl) (mvT hZ (H 118 _ rfl)) (mvT hZ (H 119 _ rfl)) (by decide) (backOf (W := 0) (rm21 l Z a0 hw [] al (0 : Int32)  h0 n0 Z0 ) hZ (H 121 _ rfl) (H 120 _ rfl) (by decide) (by decide)) q1097a q1097c (g := (mkF m 185 #[vr aa, vr at_, vr al, vi 0, vi 0, vi 0, vi 0, vi (-1), .unset] [(.int 0), (.ref al)])) rfl (by rw [hml]; rfl) (Steps.refl _) (argsL := [(.int 0)]) (rest := []) (lenOf own_pd356 rfl) rfl (Nat.le_of_eq rfl) (hb hby d7_185) (fun _ _ => ⟨rfl, e1096, Nat.zero_le _, Nat.zero_le _⟩)
    dsimp only [Pt.U, Pt.locs, Pt.cells, Pt.slots] at X1097 l1097 y1097 z1097 st1097 hQ1097
    rw [l1097, y1097, z1097] at X1097
    obtain ⟨rfl, Nq1097, e1097⟩ := hQ1097
    have N1097 := Fr.app N1084 Nq1097
    obtain ⟨cq1098, kq1098, q1098a, q1098b, q1098c⟩ := isOf hZ e1097 Et
    obtain ⟨_, _, ⟨T1098, L1098, k1098, n1098⟩, -, X1098, ⟨Lc1098, hQ1098, l1098, y1098, z1098⟩, st1098⟩ := X1097.interfaceBack hx hown (mvT hZ (H 83 _ rfl)) (mvT hZ (H 84 _ rfl)) (mvT hZ (H 85 _ rfl)) (mvT hZ (H 86 _ rfl)) (mvT hZ (H 87 _ rfl)) (mvT hZ (H 88 _ rfl)) (mvT hZ (H 89 _ rfl)) (mvT hZ (H 53 _ rfl)) (by decide) (backOf (W := 1) (rm14 l Z a0 hw [] at_ (0 : Int32) cs vf ab kb (1 : Int32) [(.int (own_b pa0))] (own_b pa0) h0 n0 Z0 O0 Scs hcs Ssf hvf Et Fv Fc Va (by decide) (by decide) rfl) hZ (H 90 _ rfl) (H 9 _ rfl) (by decide) (by decide)) q1098a q1098b q1098c (g := (mkF m 191 #[vr aa, vr at_, vr al, vi 0, vi 0, vi 0, vi 0, vi (-1), .unset] [(.int 0), (.ref at_), (.int (own_cc (0 : Int32)))])) rfl (by rw [hml]; rfl) (Steps.refl _) (argsL := [(.int 0)]) (rest := [(.int (own_cc (0 : Int32)))]) (lenOf own_pd356 rfl) rfl (Nat.le_of_eq rfl) (hb hby d7_191) (fun _ _ => ⟨rfl, e1097, Nat.zero_le _, Nat.zero_le _⟩)
    dsimp only [Pt.U, Pt.locs, Pt.cells, Pt.slots] at X1098 l1098 y1098 z1098 st1098 hQ1098
    rw [l1098, y1098, z1098] at X1098
    obtain ⟨rfl, Nq1098, e1098⟩ := hQ1098
    have N1098 := Fr.app N1097 Nq1098
    have pre1099 : ∀ t, Sp p e below m T1098 196 #[vr aa, vr at_, vr al, vi 0, vi 0, vi 0, vi 0, vi (-1), .unset] [(.int (own_lat (own_b pa0))), (.int (own_cc (0 : Int32)))] t → SG p e below G0 t := by
      intro t k
      refine pre1085 t ?_
      show Sp p e below m T1084 73 #[vr aa, vr at_, vr al, vi 0, .unset, .unset, .unset, .unset, .unset] [(.int 0)] _
      refine XS.goto X1084.here hx rfl (pc0 := 73) (pc' := 80) rfl (hb hby d7_73) (by decide) (by decide) ?_
      refine XS.istore X1084.here hx rfl (hb hby d7_80) rfl (l' := #[vr aa, vr at_, vr al, vi 0, vi 0, .unset, .unset, .unset, .unset]) rfl ?_
      refine XS.iload X1084.here hx rfl (hb hby d7_82) rfl ?_
      refine XS.ifYes X1084.here hx rfl (pc0 := 84) (pc' := 89) rfl (hb hby d7_84) rfl ((if0 _ _).trans (flt (by decide : ¬ ((0 : Int32) < (0 : Int32)))).2.1) (by decide) (by decide) ?_
      refine XS.iconst X1084.here hx rfl (hb hby d7_89) ?_
      refine XS.istore X1084.here hx rfl (hb hby d7_90) rfl (l' := #[vr aa, vr at_, vr al, vi 0, vi 0, vi 0, .unset, .unset, .unset]) rfl ?_
      refine XS.iconst X1084.here hx rfl (hb hby d7_92) ?_
      refine XS.istore X1084.here hx rfl (hb hby d7_93) rfl (l' := #[vr aa, vr at_, vr al, vi 0, vi 0, vi 0, vi 0, .unset, .unset]) rfl ?_
      show Sp p e below m T1084 95 #[vr aa, vr at_, vr al, vi 0, vi 0, vi 0, vi 0, .unset, .unset] [] _
      refine XS.aloadN X1084.here hx rfl (hb hby d7_95) rfl rfl ?_
      refine st1095 _ ?_
      show Sp p e below m T1095 99 #[vr aa, vr at_, vr al, vi 0, vi 0, vi 0, vi 0, .unset, .unset] [(.int (-1))] _
      refine XS.iconst X1095.here hx rfl (hb hby d7_99) ?_
      refine XS.icmpNo X1095.here hx rfl (hb hby d7_100) rfl (teq (by decide : ((-1 : Int32) = (-1 : Int32)))).2 ?_
      refine XS.iload X1095.here hx rfl (hb hby d7_103) rfl ?_
      refine XS.iconst X1095.here hx rfl (hb hby d7_105) ?_
      refine XS.isub X1095.here hx rfl (hb hby d7_106) rfl ?_
      refine XS.goto X1095.here hx rfl (pc0 := 107) (pc' := 111) rfl (hb hby d7_107) (by decide) (by decide) ?_
      refine XS.istore X1095.here hx rfl (hb hby d7_111) rfl (l' := #[vr aa, vr at_, vr al, vi 0, vi 0, vi 0, vi 0, vi (-1), .unset]) rfl ?_
      refine XS.iload X1095.here hx rfl (hb hby d7_113) rfl ?_
      show Sp p e below m T1095 115 #[vr aa, vr at_, vr al, vi 0, vi 0, vi 0, vi 0, vi (-1), .unset] [(.int (-1))] _
      refine XS.aloadN X1095.here hx rfl (hb hby d7_115) rfl rfl ?_
      refine st1096 _ ?_
      show Sp p e below m T1096 119 #[vr aa, vr at_, vr al, vi 0, vi 0, vi 0, vi 0, vi (-1), .unset] [(.int 0), (.int (-1))] _
      refine XS.icmpYes X1096.here hx rfl (pc0 := 119) (pc' := 182) rfl (hb hby d7_119) rfl (tlt (by decide : ((-1 : Int32) < (0 : Int32)))).1 (by decide) (by decide) ?_
      refine XS.aloadN X1096.here hx rfl (hb hby d7_182) rfl rfl ?_
      refine XS.iload X1096.here hx rfl (hb hby d7_183) rfl ?_
      refine st1097.trans ?_
      show Sp p e below m T1097 188 #[vr aa, vr at_, vr al, vi 0, vi 0, vi 0, vi 0, vi (-1), .unset] [(.int (own_cc (0 : Int32)))] _
      refine XS.aloadN X1097.here hx rfl (hb hby d7_188) rfl rfl ?_
      refine XS.iload X1097.here hx rfl (hb hby d7_189) rfl ?_
      refine st1098.trans ?_
      exact k
    rw [show (own_lat (own_b pa0)) = pa0 from own_at hp0] at pre1099
    by_cases hc196_1100 : (own_cc (0 : Int32)) = pa0
    · obtain ⟨fs, hr, hrun, hended, hW, hsame⟩ := X1098.leave (v := some (.int 1)) (fun h => by rw [Bd.returns] at h; cases h)
      refine ⟨_, _, pre1099 _ ?_, hrun, hended, _, _, rfl, ?_, ⟨_, rfl⟩, hW, hsame.mono (by decide) (by decide)⟩
      · show Sp p e below m T1098 196 #[vr aa, vr at_, vr al, vi 0, vi 0, vi 0, vi 0, vi (-1), .unset] [(.int pa0), (.int (own_cc (0 : Int32)))] _
        refine XS.icmpNo X1098.here hx rfl (hb hby d7_196) rfl (teq hc196_1100).2 ?_
        refine XS.iconst X1098.here hx rfl (hb hby d7_199) ?_
        refine XS.goto X1098.here hx rfl (pc0 := 200) (pc' := 204) rfl (hb hby d7_200) (by decide) (by decide) ?_
        exact retN X1098 hx (t := .boolean) Bd.returns (by simp) (hb hby d7_204) hr
      · show Q7n1 Z aa at_ al cs vf ab kb gv pa0 h0 n0 _ T1098.heap _
        rw [e1098]
        exact ⟨(by simp only [own_ac, if_neg (hq1087.2.1), own_a1, own_run, if_neg (hq1087.2.2)]; rw [own_fin, if_pos hc196_1100]), N1098, rfl⟩
    · obtain ⟨fs, hr, hrun, hended, hW, hsame⟩ := X1098.leave (v := some (.int 0)) (fun h => by rw [Bd.returns] at h; cases h)
      refine ⟨_, _, pre1099 _ ?_, hrun, hended, _, _, rfl, ?_, ⟨_, rfl⟩, hW, hsame.mono (by decide) (by decide)⟩
      · show Sp p e below m T1098 196 #[vr aa, vr at_, vr al, vi 0, vi 0, vi 0, vi 0, vi (-1), .unset] [(.int pa0), (.int (own_cc (0 : Int32)))] _
        refine XS.icmpYes X1098.here hx rfl (pc0 := 196) (pc' := 203) rfl (hb hby d7_196) rfl (feq hc196_1100).2 (by decide) (by decide) ?_
        refine XS.iconst X1098.here hx rfl (hb hby d7_203) ?_
        exact retN X1098 hx (t := .boolean) Bd.returns (by simp) (hb hby d7_204) hr
      · show Q7n1 Z aa at_ al cs vf ab kb gv pa0 h0 n0 _ T1098.heap _
        rw [e1098]
        exact ⟨(by simp only [own_ac, if_neg (hq1087.2.1), own_a1, own_run, if_neg (hq1087.2.2)]; rw [own_fin, if_neg hc196_1100]), N1098, rfl⟩
  · rw [hq1088.1] at pre1085
    obtain ⟨fs, hr, hrun, hended, hW, hsame⟩ := X1084.leave (v := some (.int 0)) (fun h => by rw [Bd.returns] at h; cases h)
    refine ⟨_, _, pre1085 _ ?_, hrun, hended, _, _, rfl, ?_, ⟨_, rfl⟩, hW, hsame.mono (by decide) (by decide)⟩
    · show Sp p e below m T1084 73 #[vr aa, vr at_, vr al, vi 0, .unset, .unset, .unset, .unset, .unset] [(.int (-1))] _
      refine XS.goto X1084.here hx rfl (pc0 := 73) (pc' := 80) rfl (hb hby d7_73) (by decide) (by decide) ?_
      refine XS.istore X1084.here hx rfl (hb hby d7_80) rfl (l' := #[vr aa, vr at_, vr al, vi 0, vi (-1), .unset, .unset, .unset, .unset]) rfl ?_
      refine XS.iload X1084.here hx rfl (hb hby d7_82) rfl ?_
      refine XS.ifNo X1084.here hx rfl (hb hby d7_84) rfl ((if0 _ _).trans (tlt (by decide : ((-1 : Int32) < (0 : Int32)))).2.1) ?_
      refine XS.iconst X1084.here hx rfl (hb hby d7_87) ?_
      exact retN X1084 hx (t := .boolean) Bd.returns (by simp) (hb hby d7_88) hr
    · show Q7n1 Z aa at_ al cs vf ab kb gv pa0 h0 n0 _ T1084.heap _
      rw [e1084]
      exact ⟨(by simp only [own_ac, if_neg (hq1088.2.1), own_a1, if_pos (hq1088.2.2)]), N1084, rfl⟩
theorem d7_122 : decode prog_14_method_4_code 122 = .ok (.aload_n 1, 1) := by decide +kernel
theorem d7_123 : decode prog_14_method_4_code 123 = .ok (.iload 7, 2) := by decide +kernel
theorem d7_125 : decode prog_14_method_4_code 125 = .ok (.invokeinterface 84 2, 5) := by decide +kernel
theorem d7_130 : decode prog_14_method_4_code 130 = .ok (.istore 8, 2) := by decide +kernel
theorem d7_132 : decode prog_14_method_4_code 132 = .ok (.iload 8, 2) := by decide +kernel
theorem d7_134 : decode prog_14_method_4_code 134 = .ok (.invokestatic 88, 3) := by decide +kernel
theorem d7_137 : decode prog_14_method_4_code 137 = .ok (.ifCond .eq 30, 3) := by decide +kernel
theorem d7_167 : decode prog_14_method_4_code 167 = .ok (.aload_n 0, 1) := by decide +kernel
theorem d7_168 : decode prog_14_method_4_code 168 = .ok (.getfield 21, 3) := by decide +kernel
theorem d7_171 : decode prog_14_method_4_code 171 = .ok (.ifCond .ne 5, 3) := by decide +kernel
theorem d7_176 : decode prog_14_method_4_code 176 = .ok (.iinc 7 (-1), 3) := by decide +kernel
theorem d7_179 : decode prog_14_method_4_code 179 = .ok (.goto (-66), 3) := by decide +kernel
theorem d7_140 : decode prog_14_method_4_code 140 = .ok (.iinc 6 1, 3) := by decide +kernel
theorem d7_143 : decode prog_14_method_4_code 143 = .ok (.iload 5, 2) := by decide +kernel
theorem d7_145 : decode prog_14_method_4_code 145 = .ok (.aload_n 2, 1) := by decide +kernel
theorem d7_146 : decode prog_14_method_4_code 146 = .ok (.iload 6, 2) := by decide +kernel
theorem d7_148 : decode prog_14_method_4_code 148 = .ok (.iload 8, 2) := by decide +kernel
theorem d7_150 : decode prog_14_method_4_code 150 = .ok (.bipush 48, 2) := by decide +kernel
theorem d7_152 : decode prog_14_method_4_code 152 = .ok (.isub, 1) := by decide +kernel
theorem d7_153 : decode prog_14_method_4_code 153 = .ok (.invokevirtual 94, 3) := by decide +kernel
theorem own_pd452 : parseMethodDescriptor "(II)I" = some ⟨[.int, .int], some .int⟩ := by decide +kernel
theorem d7_156 : decode prog_14_method_4_code 156 = .ok (.iadd, 1) := by decide +kernel
theorem d7_157 : decode prog_14_method_4_code 157 = .ok (.aload_n 2, 1) := by decide +kernel
theorem d7_158 : decode prog_14_method_4_code 158 = .ok (.invokevirtual 98, 3) := by decide +kernel
theorem d7_161 : decode prog_14_method_4_code 161 = .ok (.irem, 1) := by decide +kernel
theorem d7_162 : decode prog_14_method_4_code 162 = .ok (.istore 5, 2) := by decide +kernel
theorem d7_164 : decode prog_14_method_4_code 164 = .ok (.goto 12, 3) := by decide +kernel
theorem d7_174 : decode prog_14_method_4_code 174 = .ok (.iconst 0, 1) := by decide +kernel
theorem d7_175 : decode prog_14_method_4_code 175 = .ok (.ireturn, 1) := by decide +kernel
theorem ef_7n2 (m : MethodId) (x0 : Addr) (x1 : Addr) (x2 : Addr) : entryFrame m #[(.ref x0), (.ref x1), (.ref x2)] 9 = mkF m 0 #[.val (.ref x0), .val (.ref x1), .val (.ref x2), .unset, .unset, .unset, .unset, .unset, .unset] [] := by first | (simp [entryFrame, mkF, argsToLocals, Value.category]; done) | rfl
def Q7n2 (Z : State) (aa : Addr) (at_ : Addr) (al : Addr) (cs : Int32) (vf : Value) (ab : Addr) (kb : ClassId) (gv : Int32) (pa0 : Int32) (pa1 : Int32) (h0 : Heap) (n0 : Nat) (v : Option Value) (h : Heap) (L : List Loc) : Prop := v = some (.int (own_ac gv [pa1, pa0])) ∧ Fr n0 L ∧ h = h0
theorem rm7n2 (l : Launch) (Z : State) (a0 : Array Value) (hw : ∀ d ∈ tables_1, d.before a0 Z = true) (ws : List Jvm.Cond) (aa : Addr) (at_ : Addr) (al : Addr) (cs : Int32) (vf : Value) (ab : Addr) (kb : ClassId) (gv : Int32) (pa0 : Int32) (pa1 : Int32) (h0 : Heap) (n0 : Nat) (Z0 : n0 ≤ h0.size) (O0 : Old Z n0 h0) (Scs : Sta Z Z.heap "java/lang/String" "COMPACT_STRINGS" "Z" (.int cs)) (hcs : ¬ cs = (0 : Int32)) (Ssf : Sta Z Z.heap "jdk/internal/util/Preconditions" "SIOOBE_FORMATTER" "Ljava/util/function/BiFunction;" vf) (hvf : vf.isRef = true) (Er : Exa Z h0 aa "com/example/onus_on_beans/onusonbeans/validators/CheckDigitRange") (Fr_end : Fld Z h0 aa "com/example/onus_on_beans/onusonbeans/validators/CheckDigitRange" "end" "I" (.int 2147483647)) (Fr_start : Fld Z h0 aa "com/example/onus_on_beans/onusonbeans/validators/CheckDigitRange" "start" "I" (.int 0)) (Fr_checkAt : Fld Z h0 aa "com/example/onus_on_beans/onusonbeans/validators/CheckDigitRange" "checkAt" "I" (.int (-1))) (Fr_ignoresOthers : Fld Z h0 aa "com/example/onus_on_beans/onusonbeans/validators/CheckDigitRange" "ignoresOthers" "Z" (.int gv)) (El : Exa Z h0 al "com/example/onus_on_beans/onusonbeans/validators/CheckDigitScheme$Luhn") (Fm : Fld Z h0 al "com/example/onus_on_beans/onusonbeans/validators/CheckDigitScheme" "modulus" "I" (.int 10)) (Et : Exa Z h0 at_ "java/lang/String") (Fv : Fld Z h0 at_ "java/lang/String" "value" "[B" (.ref ab)) (Fc : Fld Z h0 at_ "java/lang/String" "coder" "B" (.int 0)) (Va : Arv Z h0 ab kb .byte (2 : Int32) [(.int (own_b pa0)), (.int (own_b pa1))] (.int 0)) (hp0 : 0 ≤ pa0.toInt ∧ pa0.toInt ≤ 255) (hp1 : 0 ≤ pa1.toInt ∧ pa1.toInt ≤ 255) :
    MetFree l (⟨"com/example/onus_on_beans/onusonbeans/validators/CheckDigitRange", "holds", "(Ljava/lang/CharSequence;Lcom/example/onus_on_beans/onusonbeans/validators/CheckDigitScheme;)Z"⟩ : MethodName) (head1 (Jvm.Cond.code (⟨"com/example/onus_on_beans/onusonbeans/validators/CheckDigitRange", "holds", "(Ljava/lang/CharSequence;Lcom/example/onus_on_beans/onusonbeans/validators/CheckDigitScheme;)Z"⟩ : MethodName) prog_14_method_4_code 9 (some .boolean) :: ws) ({ frames := 5, cells := 0, slots := 0, locals := 70 } : Room)) (fun a U => a = #[(.ref aa), (.ref at_), (.ref al)] ∧ Z.Warmed39 U.vm ∧ U.heap = h0) (fun _ _ _ _ _ => True) (fun _ U o U' => ∃ v L, o = .returned v ∧ Q7n2 Z aa at_ al cs vf ab kb gv pa0 pa1 h0 n0 v U'.heap L ∧ FrameEnd U o U' L ({ frames := 5, cells := 0, slots := 0, locals := 70 } : Room).cells ({ frames := 5, cells := 0, slots := 0, locals := 70 } : Room).slots) := by
  refine MetFree.of_bodySF (plainFor_of_name own_pn275) hisR ?_
  intro p e s m args below meth c s₁ Bd hml0 hP hK
  have H := fun i c (h : tables_1[i]? = some c) => hw c (List.mem_of_getElem? h)
  obtain ⟨rfl, hZ, hh⟩ := hP
  have hx := Bd.exec
  have hby := Bd.bytes
  have hml : c.maxLocals = 9 := hml0
  have hown : s.vm.findClass "com/example/onus_on_beans/onusonbeans/validators/CheckDigitRange" = some m.cls := findClass_of_methodNamed Bd.named
  have hnm := (name_of_methodNamed Bd.named Bd.method).1
  have X0 : Stand p l e ({ frames := 5, cells := 0, slots := 0, locals := 70 } : Room) s m #[(.ref aa), (.ref at_), (.ref al)] below meth c s₁ [] 0 0 := Stand.of_body Bd
  have e0 : s₁.heap = h0 := by rw [← hh, Bd.state]; rfl
  have N0 := Fr.nil n0
  have pre0 : ∀ t, Sp p e below m s₁ 0 #[vr aa, vr at_, vr al, .unset, .unset, .unset, .unset, .unset, .unset] [] t → Steps p.tables e below (s₁.setTop (entryFrame m #[(.ref aa), (.ref at_), (.ref al)] 9)) t := fun t k => castTop (ef_7n2 m aa at_ al) k
  generalize s₁.setTop (entryFrame m #[(.ref aa), (.ref at_), (.ref al)] 9) = G0 at pre0 ⊢
  have it : ∀ (G0 Tq : State) (lq : List Loc) (kc : Int32) (iv : Int32) (sv : Int32) (pv : Int32) (cj : Int32) (sl : Slot), Stand p l e ({ frames := 5, cells := 0, slots := 0, locals := 70 } : Room) s m #[(.ref aa), (.ref at_), (.ref al)] below meth c Tq lq 0 0 → Tq.heap = h0 → Fr n0 lq → (¬ iv < (0 : Int32)) → (iv < (2 : Int32)) → (([(.int (own_b pa0)), (.int (own_b pa1))] : List Value).getD iv.toNatClampNeg (.int 0) = .int (own_b cj)) → (0 ≤ cj.toInt ∧ cj.toInt ≤ 255) → (sl = .unset ∨ ∃ z : Int32, sl = vi z) → (¬ (gv = 0 ∧ own_dg cj = 0)) → (∀ t, Sp p e below m Tq 113 #[vr aa, vr at_, vr al, vi 1, vi kc, vi sv, vi pv, vi iv, sl] [] t → SG p e below G0 t) → ∃ (Tm1177 : State) (lm1177 : List Loc) (s_ : Int32) (p_ : Int32), Stand p l e ({ frames := 5, cells := 0, slots := 0, locals := 70 } : Room) s m #[(.ref aa), (.ref at_), (.ref al)] below meth c Tm1177 lm1177 0 0 ∧ Tm1177.heap = h0 ∧ Fr n0 lm1177 ∧ (s_ = own_sm cj pv sv ∧ p_ = own_ps cj pv) ∧ ∀ t, Sp p e below m Tm1177 113 #[vr aa, vr at_, vr al, vi 1, vi kc, vi s_, vi p_, vi (iv + (-1 : Int32)), vi cj] [] t → SG p e below G0 t := by
    intro G0 Tq lq kc iv sv pv cj sl Xq eq_ Nq h0i hlt hget hpj hsl hbd preq
    obtain ⟨Tm1177, lm1177, s_, p_, Xm1177, em1177, Nm1177, hv1179, pre1178⟩ : ∃ (Tm1177 : State) (lm1177 : List Loc) (s_ : Int32) (p_ : Int32), Stand p l e ({ frames := 5, cells := 0, slots := 0, locals := 70 } : Room) s m #[(.ref aa), (.ref at_), (.ref al)] below meth c Tm1177 lm1177 0 0 ∧ Tm1177.heap = h0 ∧ Fr n0 lm1177 ∧ (s_ = own_sm cj pv sv ∧ p_ = own_ps cj pv) ∧ ∀ t, Sp p e below m Tm1177 113 #[vr aa, vr at_, vr al, vi 1, vi kc, vi s_, vi p_, vi (iv + (-1 : Int32)), vi cj] [] t → SG p e below G0 t := by
      obtain ⟨T1166, X1166, e1166, st1166⟩ := getF Xq hx hZ hown (host := "") (Or.inl (H 61 _ rfl)) Via.refl eq_ Fr_start (g := (mkF m 116 #[vr aa, vr at_, vr al, vi 1, vi kc, vi sv, vi pv, vi iv, sl] [(.ref aa), (.int iv)])) rfl rfl (hb hby d7_116)
      obtain ⟨cq1167, kq1167, q1167a, q1167b, q1167c⟩ := isOf hZ e1166 Et
      obtain ⟨_, _, ⟨T1167, L1167, k1167, n1167⟩, -, X1167, ⟨Lc1167, hQ1167, l1167, y1167, z1167⟩, st1167⟩ := X1166.interfaceBack hx hown (mvT hZ (H 83 _ rfl)) (mvT hZ (H 84 _ rfl)) (mvT hZ (H 85 _ rfl)) (mvT hZ (H 86 _ rfl)) (mvT hZ (H 87 _ rfl)) (mvT hZ (H 88 _ rfl)) (mvT hZ (H 89 _ rfl)) (mvT hZ (H 53 _ rfl)) (by decide) (backOf (W := 0) (rm14 l Z a0 hw [] at_ iv cs vf ab kb (2 : Int32) [(.int (own_b pa0)), (.int (own_b pa1))] (own_b cj) h0 n0 Z0 O0 Scs hcs Ssf hvf Et Fv Fc Va h0i hlt hget) hZ (H 90 _ rfl) (H 9 _ rfl) (by decide) (by decide)) q1167a q1167b q1167c (g := (mkF m 125 #[vr aa, vr at_, vr al, vi 1, vi kc, vi sv, vi pv, vi iv, sl] [(.int iv), (.ref at_)])) rfl (by rw [hml]; rfl) (Steps.refl _) (argsL := [(.int iv)]) (rest := []) (lenOf own_pd356 rfl) rfl (Nat.le_of_eq rfl) (hb hby d7_125) (fun _ _ => ⟨rfl, e1166, Nat.zero_le _, Nat.zero_le _⟩)
      dsimp only [Pt.U, Pt.locs, Pt.cells, Pt.slots] at X1167 l1167 y1167 z1167 st1167 hQ1167
      rw [l1167, y1167, z1167] at X1167
      obtain ⟨rfl, Nq1167, e1167⟩ := hQ1167
      have N1167 := Fr.app Nq Nq1167
      have pre1168 : ∀ t, Sp p e below m T1167 130 #[vr aa, vr at_, vr al, vi 1, vi kc, vi sv, vi pv, vi iv, sl] [(.int (own_lat (own_b cj)))] t → SG p e below G0 t := by
        intro t k
        refine preq t ?_
        show Sp p e below m Tq 113 #[vr aa, vr at_, vr al, vi 1, vi kc, vi sv, vi pv, vi iv, sl] [] _
        refine XS.iload Xq.here hx rfl (hb hby d7_113) rfl ?_
        refine XS.aloadN Xq.here hx rfl (hb hby d7_115) rfl rfl ?_
        refine st1166 _ ?_
        show Sp p e below m T1166 119 #[vr aa, vr at_, vr al, vi 1, vi kc, vi sv, vi pv, vi iv, sl] [(.int 0), (.int iv)] _
        refine XS.icmpNo X1166.here hx rfl (hb hby d7_119) rfl (flt (h0i : ¬ (iv < (0 : Int32)))).1 ?_
        refine XS.aloadN X1166.here hx rfl (hb hby d7_122) rfl rfl ?_
        refine XS.iload X1166.here hx rfl (hb hby d7_123) rfl ?_
        refine st1167.trans ?_
        exact k
      rw [show (own_lat (own_b cj)) = cj from own_at hpj] at pre1168
      obtain ⟨_, _, ⟨T1169, L1169, k1169, n1169⟩, -, X1169, ⟨Lc1169, hQ1169, l1169, y1169, z1169⟩, st1169⟩ := Jvm.LawKit.callS X1167 hx hown (mvT hZ (H 128 _ rfl)) (mvT hZ (H 114 _ rfl)) (mvT hZ (H 36 _ rfl)) (mvT hZ (H 115 _ rfl)) (by decide) (backOf (W := 0) (rm20 l Z a0 hw [] cj  h0 n0 Z0 ) hZ (H 115 _ rfl) (H 36 _ rfl) (by decide) (by decide)) (g := (mkF m 134 #[vr aa, vr at_, vr al, vi 1, vi kc, vi sv, vi pv, vi iv, vi cj] [(.int cj)])) rfl (by rw [hml]; rfl) (argsL := [(.int cj)]) (rest := []) (lenOf own_pd215 rfl) rfl (Nat.le_of_eq rfl) (hb hby d7_134) (fun _ _ => ⟨rfl, e1167, Nat.zero_le _, Nat.zero_le _⟩)
      dsimp only [Pt.U, Pt.locs, Pt.cells, Pt.slots] at X1169 l1169 y1169 z1169 st1169 hQ1169
      rw [l1169, y1169, z1169] at X1169
      obtain ⟨rfl, Nq1169, e1169⟩ := hQ1169
      have N1169 := Fr.app N1167 Nq1169
      have pre1170 : ∀ t, Sp p e below m T1169 137 #[vr aa, vr at_, vr al, vi 1, vi kc, vi sv, vi pv, vi iv, vi cj] [(.int (own_dg cj))] t → SG p e below G0 t := by
        intro t k
        refine pre1168 t ?_
        show Sp p e below m T1167 130 #[vr aa, vr at_, vr al, vi 1, vi kc, vi sv, vi pv, vi iv, sl] [(.int cj)] _
        refine XS.istore X1167.here hx rfl (hb hby d7_130) rfl (l' := #[vr aa, vr at_, vr al, vi 1, vi kc, vi sv, vi pv, vi iv, vi cj]) (by rcases hsl with rfl | ⟨z, rfl⟩ <;> rfl) ?_
        refine XS.iload X1167.here hx rfl (hb hby d7_132) rfl ?_
        refine st1169 _ ?_
        exact k
      by_cases hc137_1171 : (own_dg cj) = (0 : Int32)
      · obtain ⟨T1172, X1172, e1172, st1172⟩ := getF X1169 hx hZ hown (host := "") (Or.inl (H 81 _ rfl)) Via.refl e1169 Fr_ignoresOthers (g := (mkF m 168 #[vr aa, vr at_, vr al, vi 1, vi kc, vi sv, vi pv, vi iv, vi cj] [(.ref aa)])) rfl rfl (hb hby d7_168)
        have pre1173 : ∀ t, Sp p e below m T1172 113 #[vr aa, vr at_, vr al, vi 1, vi kc, vi sv, vi pv, vi (iv + (-1 : Int32)), vi cj] [] t → SG p e below G0 t := by
          intro t k
          refine pre1170 t ?_
          show Sp p e below m T1169 137 #[vr aa, vr at_, vr al, vi 1, vi kc, vi sv, vi pv, vi iv, vi cj] [(.int (own_dg cj))] _
          refine XS.ifYes X1169.here hx rfl (pc0 := 137) (pc' := 167) rfl (hb hby d7_137) rfl ((if0 _ _).trans (teq hc137_1171).1) (by decide) (by decide) ?_
          refine XS.aloadN X1169.here hx rfl (hb hby d7_167) rfl rfl ?_
          refine st1172 _ ?_
          show Sp p e below m T1172 171 #[vr aa, vr at_, vr al, vi 1, vi kc, vi sv, vi pv, vi iv, vi cj] [(.int gv)] _
          refine XS.ifYes X1172.here hx rfl (pc0 := 171) (pc' := 176) rfl (hb hby d7_171) rfl ((if0 _ _).trans (feq (fun q => hbd ⟨q, hc137_1171⟩ : ¬ (gv = (0 : Int32)))).2) (by decide) (by decide) ?_
          refine XS.iinc X1172.here hx rfl (hb hby d7_176) rfl (l' := #[vr aa, vr at_, vr al, vi 1, vi kc, vi sv, vi pv, vi (iv + (-1 : Int32)), vi cj]) rfl ?_
          refine XS.goto X1172.here hx rfl (pc0 := 179) (pc' := 113) rfl (hb hby d7_179) (by decide) (by decide) ?_
          exact k
        exact ⟨T1172, _, sv, pv, X1172, e1172, N1169, (by exact ⟨by rw [own_sm, if_pos hc137_1171], by rw [own_ps, if_pos hc137_1171]⟩), pre1173⟩
      · obtain ⟨cq1174, kq1174, q1174a, q1174b, q1174c⟩ := isOf hZ e1169 El
        obtain ⟨_, _, ⟨T1174, L1174, k1174, n1174⟩, -, X1174, ⟨Lc1174, hQ1174, l1174, y1174, z1174⟩, st1174⟩ := X1169.virtualBack hx hown (mvT hZ (H 129 _ rfl)) (mvT hZ (H 130 _ rfl)) (own_nf (args := #[]) (mvT hZ (H 111 _ rfl)) rfl) (mvT hZ (H 131 _ rfl)) (mvT hZ (H 132 _ rfl)) (by decide) (backOf (W := 1) (rm24 l Z a0 hw [] al (pv + (1 : Int32)) (cj - (48 : Int32))  h0 n0 Z0 ) hZ (H 133 _ rfl) (H 120 _ rfl) (by decide) (by decide)) q1174a q1174c (g := (mkF m 153 #[vr aa, vr at_, vr al, vi 1, vi kc, vi sv, vi (pv + (1 : Int32)), vi iv, vi cj] [(.int (cj - (48 : Int32))), (.int (pv + (1 : Int32))), (.ref al), (.int sv)])) rfl (by rw [hml]; rfl) (Steps.refl _) (argsL := [(.int (pv + (1 : Int32))), (.int (cj - (48 : Int32)))]) (rest := [(.int sv)]) (lenOf own_pd452 rfl) rfl (Nat.le_of_eq rfl) (hb hby d7_153) (fun _ _ => ⟨rfl, e1169, Nat.zero_le _, Nat.zero_le _⟩)
        dsimp only [Pt.U, Pt.locs, Pt.cells, Pt.slots] at X1174 l1174 y1174 z1174 st1174 hQ1174
        rw [l1174, y1174, z1174] at X1174
        obtain ⟨rfl, Nq1174, e1174⟩ := hQ1174
        have N1174 := Fr.app N1169 Nq1174
        obtain ⟨cq1175, kq1175, q1175a, q1175b, q1175c⟩ := isOf hZ e1174 El
        obtain ⟨_, _, ⟨T1175, L1175, k1175, n1175⟩, -, X1175, ⟨Lc1175, hQ1175, l1175, y1175, z1175⟩, st1175⟩ := X1174.virtualBack hx hown (mvT hZ (H 134 _ rfl)) (mvT hZ (H 135 _ rfl)) (notFace_of_selects (args := #[]) (mvT hZ (H 137 _ rfl))) (mvT hZ (H 137 _ rfl)) (mvT hZ (H 136 _ rfl)) (by decide) (backOf (W := 1) (rm25 l Z a0 hw [] al  h0 n0 Z0 Fm) hZ (H 138 _ rfl) (H 36 _ rfl) (by decide) (by decide)) q1175a q1175c (g := (mkF m 158 #[vr aa, vr at_, vr al, vi 1, vi kc, vi sv, vi (pv + (1 : Int32)), vi iv, vi cj] [(.ref al), (.int (sv + (own_tO (pv + (1 : Int32)) (cj - (48 : Int32)))))])) rfl (by rw [hml]; rfl) (Steps.refl _) (argsL := []) (rest := [(.int (sv + (own_tO (pv + (1 : Int32)) (cj - (48 : Int32)))))]) (lenOf own_pd368 rfl) rfl (Nat.le_of_eq rfl) (hb hby d7_158) (fun _ _ => ⟨rfl, e1174, Nat.zero_le _, Nat.zero_le _⟩)
        dsimp only [Pt.U, Pt.locs, Pt.cells, Pt.slots] at X1175 l1175 y1175 z1175 st1175 hQ1175
        rw [l1175, y1175, z1175] at X1175
        obtain ⟨rfl, Nq1175, e1175⟩ := hQ1175
        have N1175 := Fr.app N1174 Nq1175
        have pre1176 : ∀ t, Sp p e below m T1175 113 #[vr aa, vr at_, vr al, vi 1, vi kc, vi ((sv + (own_tO (pv + (1 : Int32)) (cj - (48 : Int32)))) % (10 : Int32)), vi (pv + (1 : Int32)), vi (iv + (-1 : Int32)), vi cj] [] t → SG p e below G0 t := by
          intro t k
          refine pre1170 t ?_
          show Sp p e below m T1169 137 #[vr aa, vr at_, vr al, vi 1, vi kc, vi sv, vi pv, vi iv, vi cj] [(.int (own_dg cj))] _
          refine XS.ifNo X1169.here hx rfl (hb hby d7_137) rfl ((if0 _ _).trans (feq hc137_1171).1) ?_
          refine XS.iinc X1169.here hx rfl (hb hby d7_140) rfl (l' := #[vr aa, vr at_, vr al, vi 1, vi kc, vi sv, vi (pv + (1 : Int32)), vi iv, vi cj]) rfl ?_
          refine XS.iload X1169.here hx rfl (hb hby d7_143) rfl ?_
          refine XS.aloadN X1169.here hx rfl (hb hby d7_145) rfl rfl ?_
          refine XS.iload X1169.here hx rfl (hb hby d7_146) rfl ?_
          refine XS.iload X1169.here hx rfl (hb hby d7_148) rfl ?_
          refine XS.bipush X1169.here hx rfl (hb hby d7_150) ?_
          refine XS.isub X1169.here hx rfl (hb hby d7_152) rfl ?_
          show Sp p e below m T1169 153 #[vr aa, vr at_, vr al, vi 1, vi kc, vi sv, vi (pv + (1 : Int32)), vi iv, vi cj] [(.int (cj - (48 : Int32))), (.int (pv + (1 : Int32))), (.ref al), (.int sv)] _
          refine st1174.trans ?_
          show Sp p e below m T1174 156 #[vr aa, vr at_, vr al, vi 1, vi kc, vi sv, vi (pv + (1 : Int32)), vi iv, vi cj] [(.int (own_tO (pv + (1 : Int32)) (cj - (48 : Int32)))), (.int sv)] _
          refine XS.iadd X1174.here hx rfl (hb hby d7_156) rfl ?_
          refine XS.aloadN X1174.here hx rfl (hb hby d7_157) rfl rfl ?_
          refine st1175.trans ?_
          show Sp p e below m T1175 161 #[vr aa, vr at_, vr al, vi 1, vi kc, vi sv, vi (pv + (1 : Int32)), vi iv, vi cj] [(.int 10), (.int (sv + (own_tO (pv + (1 : Int32)) (cj - (48 : Int32)))))] _
          refine iremM X1175 hx rfl (hb hby d7_161) rfl (by decide) ?_
          show Sp p e below m T1175 162 #[vr aa, vr at_, vr al, vi 1, vi kc, vi sv, vi (pv + (1 : Int32)), vi iv, vi cj] [(.int ((sv + (own_tO (pv + (1 : Int32)) (cj - (48 : Int32)))) % (10 : Int32)))] _
          refine XS.istore X1175.here hx rfl (hb hby d7_162) rfl (l' := #[vr aa, vr at_, vr al, vi 1, vi kc, vi ((sv + (own_tO (pv + (1 : Int32)) (cj - (48 : Int32)))) % (10 : Int32)), vi (pv + (1 : Int32)), vi iv, vi cj]) rfl ?_
          refine XS.goto X1175.here hx rfl (pc0 := 164) (pc' := 176) rfl (hb hby d7_164) (by decide) (by decide) ?_
          refine XS.iinc X1175.here hx rfl (hb hby d7_176) rfl (l' := #[vr aa, vr at_, vr al, vi 1, vi kc, vi ((sv + (own_tO (pv + (1 : Int32)) (cj - (48 : Int32)))) % (10 : Int32)), vi (pv + (1 : Int32)), vi (iv + (-1 : Int32)), vi cj]) rfl ?_
          refine XS.goto X1175.here hx rfl (pc0 := 179) (pc' := 113) rfl (hb hby d7_179) (by decide) (by decide) ?_
          exact k
        exact ⟨T1175, _, ((sv + (own_tO (pv + (1 : Int32)) (cj - (48 : Int32)))) % (10 : Int32)), (pv + (1 : Int32)), X1175, e1175, N1175, (by exact ⟨by rw [own_sm, if_neg hc137_1171], by rw [own_ps, if_neg hc137_1171]⟩), pre1176⟩
    exact ⟨Tm1177, lm1177, s_, p_, Xm1177, em1177, Nm1177, hv1179, pre1178⟩
  have bd : ∀ (G0 Tq : State) (lq : List Loc) (kc : Int32) (iv : Int32) (sv : Int32) (pv : Int32) (cj : Int32) (sl : Slot), Stand p l e ({ frames := 5, cells := 0, slots := 0, locals := 70 } : Room) s m #[(.ref aa), (.ref at_), (.ref al)] below meth c Tq lq 0 0 → Tq.heap = h0 → Fr n0 lq → (¬ iv < (0 : Int32)) → (iv < (2 : Int32)) → (([(.int (own_b pa0)), (.int (own_b pa1))] : List Value).getD iv.toNatClampNeg (.int 0) = .int (own_b cj)) → (0 ≤ cj.toInt ∧ cj.toInt ≤ 255) → (sl = .unset ∨ ∃ z : Int32, sl = vi z) → (gv = 0 ∧ own_dg cj = 0) → (∀ t, Sp p e below m Tq 113 #[vr aa, vr at_, vr al, vi 1, vi kc, vi sv, vi pv, vi iv, sl] [] t → SG p e below G0 t) → ∃ (Tm1187 : State) (lm1187 : List Loc), Stand p l e ({ frames := 5, cells := 0, slots := 0, locals := 70 } : Room) s m #[(.ref aa), (.ref at_), (.ref al)] below meth c Tm1187 lm1187 0 0 ∧ Tm1187.heap = h0 ∧ Fr n0 lm1187 ∧ (True) ∧ ∀ t, Sp p e below m Tm1187 174 #[vr aa, vr at_, vr al, vi 1, vi kc, vi sv, vi pv, vi iv, vi cj] [] t → SG p e below G0 t := by
    intro G0 Tq lq kc iv sv pv cj sl Xq eq_ Nq h0i hlt hget hpj hsl hbd preq
    obtain ⟨Tm1187, lm1187, Xm1187, em1187, Nm1187, hv1189, pre1188⟩ : ∃ (Tm1187 : State) (lm1187 : List Loc), Stand p l e ({ frames := 5, cells := 0, slots := 0, locals := 70 } : Room) s m #[(.ref aa), (.ref at_), (.ref al)] below meth c Tm1187 lm1187 0 0 ∧ Tm1187.heap = h0 ∧ Fr n0 lm1187 ∧ (True) ∧ ∀ t, Sp p e below m Tm1187 174 #[vr aa, vr at_, vr al, vi 1, vi kc, vi sv, vi pv, vi iv, vi cj] [] t → SG p e below G0 t := by
      obtain ⟨T1181, X1181, e1181, st1181⟩ := getF Xq hx hZ hown (host := "") (Or.inl (H 61 _ rfl)) Via.refl eq_ Fr_start (g := (mkF m 116 #[vr aa, vr at_, vr al, vi 1, vi kc, vi sv, vi pv, vi iv, sl] [(.ref aa), (.int iv)])) rfl rfl (hb hby d7_116)
      obtain ⟨cq1182, kq1182, q1182a, q1182b, q1182c⟩ := isOf hZ e1181 Et
      obtain ⟨_, _, ⟨T1182, L1182, k1182, n1182⟩, -, X1182, ⟨Lc1182, hQ1182, l1182, y1182, z1182⟩, st1182⟩ := X1181.interfaceBack hx hown (mvT hZ (H 83 _ rfl)) (mvT hZ (H 84 _ rfl)) (mvT hZ (H 85 _ rfl)) (mvT hZ (H 86 _ rfl)) (mvT hZ (H 87 _ rfl)) (mvT hZ (H 88 _ rfl)) (mvT hZ (H 89 _ rfl)) (mvT hZ (H 53 _ rfl)) (by decide) (backOf (W := 0) (rm14 l Z a0 hw [] at_ iv cs vf ab kb (2 : Int32) [(.int (own_b pa0)), (.int (own_b pa1))] (own_b cj) h0 n0 Z0 O0 Scs hcs Ssf hvf Et Fv Fc Va h0i hlt hget) hZ (H 90 _ rfl) (H 9 _ rfl) (by decide) (by decide)) q1182a q1182b q1182c (g := (mkF m 125 #[vr aa, vr at_, vr al, vi 1, vi kc, vi sv, vi pv, vi iv, sl] [(.int iv), (.ref at_)])) rfl (by rw [hml]; rfl) (Steps.refl _) (argsL := [(.int iv)]) (rest := []) (lenOf own_pd356 rfl) rfl (Nat.le_of_eq rfl) (hb hby d7_125) (fun _ _ => ⟨rfl, e1181, Nat.zero_le _, Nat.zero_le _⟩)
      dsimp only [Pt.U, Pt.locs, Pt.cells, Pt.slots] at X1182 l1182 y1182 z1182 st1182 hQ1182
      rw [l1182, y1182, z1182] at X1182
      obtain ⟨rfl, Nq1182, e1182⟩ := hQ1182
      have N1182 := Fr.app Nq Nq1182
      have pre1183 : ∀ t, Sp p e below m T1182 130 #[vr aa, vr at_, vr al, vi 1, vi kc, vi sv, vi pv, vi iv, sl] [(.int (own_lat (own_b cj)))] t → SG p e below G0 t := by
        intro t k
        refine preq t ?_
        show Sp p e below m Tq 113 #[vr aa, vr at_, vr al, vi 1, vi kc, vi sv, vi pv, vi iv, sl] [] _
        refine XS.iload Xq.here hx rfl (hb hby d7_113) rfl ?_
        refine XS.aloadN Xq.here hx rfl (hb hby d7_115) rfl rfl ?_
        refine st1181 _ ?_
        show Sp p e below m T1181 119 #[vr aa, vr at_, vr al, vi 1, vi kc, vi sv, vi pv, vi iv, sl] [(.int 0), (.int iv)] _
        refine XS.icmpNo X1181.here hx rfl (hb hby d7_119) rfl (flt (h0i : ¬ (iv < (0 : Int32)))).1 ?_
        refine XS.aloadN X1181.here hx rfl (hb hby d7_122) rfl rfl ?_
        refine XS.iload X1181.here hx rfl (hb hby d7_123) rfl ?_
        refine st1182.trans ?_
        exact k
      rw [show (own_lat (own_b cj)) = cj from own_at hpj] at pre1183
      obtain ⟨_, _, ⟨T1184, L1184, k1184, n1184⟩, -, X1184, ⟨Lc1184, hQ1184, l1184, y1184, z1184⟩, st1184⟩ := Jvm.LawKit.callS X1182 hx hown (mvT hZ (H 128 _ rfl)) (mvT hZ (H 114 _ rfl)) (mvT hZ (H 36 _ rfl)) (mvT hZ (H 115 _ rfl)) (by decide) (backOf (W := 0) (rm20 l Z a0 hw [] cj  h0 n0 Z0 ) hZ (H 115 _ rfl) (H 36 _ rfl) (by decide) (by decide)) (g := (mkF m 134 #[vr aa, vr at_, vr al, vi 1, vi kc, vi sv, vi pv, vi iv, vi cj] [(.int cj)])) rfl (by rw [hml]; rfl) (argsL := [(.int cj)]) (rest := []) (lenOf own_pd215 rfl) rfl (Nat.le_of_eq rfl) (hb hby d7_134) (fun _ _ => ⟨rfl, e1182, Nat.zero_le _, Nat.zero_le _⟩)
      dsimp only [Pt.U, Pt.locs, Pt.cells, Pt.slots] at X1184 l1184 y1184 z1184 st1184 hQ1184
      rw [l1184, y1184, z1184] at X1184
      obtain ⟨rfl, Nq1184, e1184⟩ := hQ1184
      have N1184 := Fr.app N1182 Nq1184
      obtain ⟨T1185, X1185, e1185, st1185⟩ := getF X1184 hx hZ hown (host := "") (Or.inl (H 81 _ rfl)) Via.refl e1184 Fr_ignoresOthers (g := (mkF m 168 #[vr aa, vr at_, vr al, vi 1, vi kc, vi sv, vi pv, vi iv, vi cj] [(.ref aa)])) rfl rfl (hb hby d7_168)
      have pre1186 : ∀ t, Sp p e below m T1185 174 #[vr aa, vr at_, vr al, vi 1, vi kc, vi sv, vi pv, vi iv, vi cj] [] t → SG p e below G0 t := by
        intro t k
        refine pre1183 t ?_
        show Sp p e below m T1182 130 #[vr aa, vr at_, vr al, vi 1, vi kc, vi sv, vi pv, vi iv, sl] [(.int cj)] _
        refine XS.istore X1182.here hx rfl (hb hby d7_130) rfl (l' := #[vr aa, vr at_, vr al, vi 1, vi kc, vi sv, vi pv, vi iv, vi cj]) (by rcases hsl with rfl | ⟨z, rfl⟩ <;> rfl) ?_
        refine XS.iload X1182.here hx rfl (hb hby d7_132) rfl ?_
        refine st1184 _ ?_
        show Sp p e below m T1184 137 #[vr aa, vr at_, vr al, vi 1, vi kc, vi sv, vi pv, vi iv, vi cj] [(.int (own_dg cj))] _
        refine XS.ifYes X1184.here hx rfl (pc0 := 137) (pc' := 167) rfl (hb hby d7_137) rfl ((if0 _ _).trans (teq (hbd.2 : ((own_dg cj) = (0 : Int32)))).1) (by decide) (by decide) ?_
        refine XS.aloadN X1184.here hx rfl (hb hby d7_167) rfl rfl ?_
        refine st1185 _ ?_
        show Sp p e below m T1185 171 #[vr aa, vr at_, vr al, vi 1, vi kc, vi sv, vi pv, vi iv, vi cj] [(.int gv)] _
        refine XS.ifNo X1185.here hx rfl (hb hby d7_171) rfl ((if0 _ _).trans (teq (hbd.1 : (gv = (0 : Int32)))).2) ?_
        exact k
      exact ⟨T1185, _, X1185, e1185, N1184, (by trivial), pre1186⟩
    exact ⟨Tm1187, lm1187, Xm1187, em1187, Nm1187, hv1189, pre1188⟩
  obtain ⟨T1190, X1190, e1190, st1190⟩ := getF X0 hx hZ hown (host := "") (Or.inl (H 43 _ rfl)) Via.refl e0 Fr_end (g := (mkF m 1 #[vr aa, vr at_, vr al, .unset, .unset, .unset, .unset, .unset, .unset] [(.ref aa)])) rfl rfl (hb hby d7_1)
  obtain ⟨cq1191, kq1191, q1191a, q1191b, q1191c⟩ := isOf hZ e1190 Et
  obtain ⟨_, _, ⟨T1191, L1191, k1191, n1191⟩, -, X1191, ⟨Lc1191, hQ1191, l1191, y1191, z1191⟩, st1191⟩ := X1190.interfaceBack hx hown (mvT hZ (H 46 _ rfl)) (mvT hZ (H 47 _ rfl)) (mvT hZ (H 48 _ rfl)) (mvT hZ (H 49 _ rfl)) (mvT hZ (H 50 _ rfl)) (mvT hZ (H 51 _ rfl)) (mvT hZ (H 52 _ rfl)) (mvT hZ (H 53 _ rfl)) (by decide) (backOf (W := 0) (rm8 l Z a0 hw [] at_ cs vf ab kb (2 : Int32) [(.int (own_b pa0)), (.int (own_b pa1))] h0 n0 Z0 O0 Scs hcs Ssf hvf Et Fv Fc Va) hZ (H 54 _ rfl) (H 9 _ rfl) (by decide) (by decide)) q1191a q1191b q1191c (g := (mkF m 10 #[vr aa, vr at_, vr al, .unset, .unset, .unset, .unset, .unset, .unset] [(.ref at_)])) rfl (by rw [hml]; rfl) (Steps.refl _) (argsL := []) (rest := []) (lenOf own_pd368 rfl) rfl (Nat.le_of_eq rfl) (hb hby d7_10) (fun _ _ => ⟨rfl, e1190, Nat.zero_le _, Nat.zero_le _⟩)
  dsimp only [Pt.U, Pt.locs, Pt.cells, Pt.slots] at X1191 l1191 y1191 z1191 st1191 hQ1191
  rw [l1191, y1191, z1191] at X1191
  obtain ⟨rfl, Nq1191, e1191⟩ := hQ1191
  have N1191 := Fr.app N0 Nq1191
  obtain ⟨T1192, X1192, e1192, st1192⟩ := getF X1191 hx hZ hown (host := "") (Or.inl (H 61 _ rfl)) Via.refl e1191 Fr_start (g := (mkF m 27 #[vr aa, vr at_, vr al, vi 1, .unset, .unset, .unset, .unset, .unset] [(.ref aa), (.int 1)])) rfl rfl (hb hby d7_27)
  obtain ⟨cq1193, kq1193, q1193a, q1193b, q1193c⟩ := isOf hZ e1192 Et
  obtain ⟨_, _, ⟨T1193, L1193, k1193, n1193⟩, -, X1193, ⟨Lc1193, hQ1193, l1193, y1193, z1193⟩, st1193⟩ := X1192.interfaceBack hx hown (mvT hZ (H 46 _ rfl)) (mvT hZ (H 47 _ rfl)) (mvT hZ (H 48 _ rfl)) (mvT hZ (H 49 _ rfl)) (mvT hZ (H 50 _ rfl)) (mvT hZ (H 51 _ rfl)) (mvT hZ (H 52 _ rfl)) (mvT hZ (H 53 _ rfl)) (by decide) (backOf (W := 1) (rm8 l Z a0 hw [] at_ cs vf ab kb (2 : Int32) [(.int (own_b pa0)), (.int (own_b pa1))] h0 n0 Z0 O0 Scs hcs Ssf hvf Et Fv Fc Va) hZ (H 54 _ rfl) (H 9 _ rfl) (by decide) (by decide)) q1193a q1193b q1193c (g := (mkF m 35 #[vr aa, vr at_, vr al, vi 1, .unset, .unset, .unset, .unset, .unset] [(.ref at_), (.int 1)])) rfl (by rw [hml]; rfl) (Steps.refl _) (argsL := []) (rest := [(.int 1)]) (lenOf own_pd368 rfl) rfl (Nat.le_of_eq rfl) (hb hby d7_35) (fun _ _ => ⟨rfl, e1192, Nat.zero_le _, Nat.zero_le _⟩)
  dsimp only [Pt.U, Pt.locs, Pt.cells, Pt.slots] at X1193 l1193 y1193 z1193 st1193 hQ1193
  rw [l1193, y1193, z1193] at X1193
  obtain ⟨rfl, Nq1193, e1193⟩ := hQ1193
  have N1193 := Fr.app N1191 Nq1193
  obtain ⟨T1194, X1194, e1194, st1194⟩ := getF X1193 hx hZ hown (host := "") (Or.inl (H 75 _ rfl)) Via.refl e1193 Fr_checkAt (g := (mkF m 44 #[vr aa, vr at_, vr al, vi 1, .unset, .unset, .unset, .unset, .unset] [(.ref aa)])) rfl rfl (hb hby d7_44)
  obtain ⟨cq1195, kq1195, q1195a, q1195b, q1195c⟩ := isOf hZ e1194 Et
  obtain ⟨_, _, ⟨T1195, L1195, k1195, n1195⟩, -, X1195, ⟨Lc1195, hQ1195, l1195, y1195, z1195⟩, st1195⟩ := X1194.interfaceBack hx hown (mvT hZ (H 46 _ rfl)) (mvT hZ (H 47 _ rfl)) (mvT hZ (H 48 _ rfl)) (mvT hZ (H 49 _ rfl)) (mvT hZ (H 50 _ rfl)) (mvT hZ (H 51 _ rfl)) (mvT hZ (H 52 _ rfl)) (mvT hZ (H 53 _ rfl)) (by decide) (backOf (W := 1) (rm8 l Z a0 hw [] at_ cs vf ab kb (2 : Int32) [(.int (own_b pa0)), (.int (own_b pa1))] h0 n0 Z0 O0 Scs hcs Ssf hvf Et Fv Fc Va) hZ (H 54 _ rfl) (H 9 _ rfl) (by decide) (by decide)) q1195a q1195b q1195c (g := (mkF m 48 #[vr aa, vr at_, vr al, vi 1, .unset, .unset, .unset, .unset, .unset] [(.ref at_), (.int (-1))])) rfl (by rw [hml]; rfl) (Steps.refl _) (argsL := []) (rest := [(.int (-1))]) (lenOf own_pd368 rfl) rfl (Nat.le_of_eq rfl) (hb hby d7_48) (fun _ _ => ⟨rfl, e1194, Nat.zero_le _, Nat.zero_le _⟩)
  dsimp only [Pt.U, Pt.locs, Pt.cells, Pt.slots] at X1195 l1195 y1195 z1195 st1195 hQ1195
  rw [l1195, y1195, z1195] at X1195
  obtain ⟨rfl, Nq1195, e1195⟩ := hQ1195
  have N1195 := Fr.app N1193 Nq1195
  obtain ⟨T1196, X1196, e1196, st1196⟩ := getF X1195 hx hZ hown (host := "") (Or.inl (H 75 _ rfl)) Via.refl e1195 Fr_checkAt (g := (mkF m 59 #[vr aa, vr at_, vr al, vi 1, .unset, .unset, .unset, .unset, .unset] [(.ref aa)])) rfl rfl (hb hby d7_59)
  obtain ⟨cq1197, q1197, q1197'⟩ := Er.cell
  obtain ⟨_, _, ⟨T1197, L1197, k1197, n1197⟩, -, X1197, ⟨Lc1197, hQ1197, l1197, y1197, z1197⟩, st1197⟩ := X1196.privateBack hx hown (mvT hZ (H 77 _ rfl)) (mvT hZ (H 78 _ rfl)) (own_selpriv (by decide) (mvT hZ (H 41 _ rfl)) (mvP hZ (H 79 _ rfl)) (mvT hZ (H 78 _ rfl)) rfl) (Cond.privateMethod_at (mvP hZ (H 79 _ rfl) (args := #[]))) (mvT hZ (H 80 _ rfl)) (by decide) (backOf (W := 0) (rm13n2 l Z a0 hw [] aa at_ al cs vf ab kb gv pa0 pa1 h0 n0 Z0 O0 Scs hcs Ssf hvf Er Fr_end Fr_start Fr_checkAt Fr_ignoresOthers El Fm Et Fv Fc Va hp0 hp1) hZ (H 80 _ rfl) (H 31 _ rfl) (by decide) (by decide)) (g := (mkF m 70 #[vr aa, vr at_, vr al, vi 1, .unset, .unset, .unset, .unset, .unset] [(.ref al), (.int 1), (.ref at_), (.ref aa)])) rfl (by rw [hml]; rfl) (Steps.refl _) (a := aa) (by rw [e1196]; exact q1197) q1197' (argsL := [(.ref at_), (.int 1), (.ref al)]) (rest := []) (lenOf own_pd397 rfl) rfl (Nat.le_of_eq rfl) (hb hby d7_70) (fun _ _ => ⟨rfl, e1196, Nat.zero_le _, Nat.zero_le _⟩)
  dsimp only [Pt.U, Pt.locs, Pt.cells, Pt.slots] at X1197 l1197 y1197 z1197 st1197 hQ1197
  rw [l1197, y1197, z1197] at X1197
  obtain ⟨rrk_1197, rfl, Nq1197, e1197, p1197_0⟩ := hQ1197
  have N1197 := Fr.app N1195 Nq1197
  have pre1198 : ∀ t, Sp p e below m T1197 73 #[vr aa, vr at_, vr al, vi 1, .unset, .unset, .unset, .unset, .unset] [(.int rrk_1197)] t → SG p e below G0 t := by
    intro t k
    refine pre0 t ?_
    show Sp p e below m s₁ 0 #[vr aa, vr at_, vr al, .unset, .unset, .unset, .unset, .unset, .unset] [] _
    refine XS.aloadN X0.here hx rfl (hb hby d7_0) rfl rfl ?_
    refine st1190 _ ?_
    show Sp p e below m T1190 4 #[vr aa, vr at_, vr al, .unset, .unset, .unset, .unset, .unset, .unset] [(.int 2147483647)] _
    refine X1190.ldcInt hx hown (mvT hZ (H 45 _ rfl)) (g := (mkF m 4 #[vr aa, vr at_, vr al, .unset, .unset, .unset, .unset, .unset, .unset] [(.int 2147483647)])) rfl (hb hby d7_4) _ ?_
    show Sp p e below m T1190 6 #[vr aa, vr at_, vr al, .unset, .unset, .unset, .unset, .unset, .unset] [(.int 2147483647), (.int 2147483647)] _
    refine XS.icmpNo X1190.here hx rfl (hb hby d7_6) rfl (teq (by decide : ((2147483647 : Int32) = (2147483647 : Int32)))).2 ?_
    refine XS.aloadN X1190.here hx rfl (hb hby d7_9) rfl rfl ?_
    refine st1191.trans ?_
    show Sp p e below m T1191 15 #[vr aa, vr at_, vr al, .unset, .unset, .unset, .unset, .unset, .unset] [(.int 2)] _
    refine XS.iconst X1191.here hx rfl (hb hby d7_15) ?_
    refine XS.isub X1191.here hx rfl (hb hby d7_16) rfl ?_
    refine XS.goto X1191.here hx rfl (pc0 := 17) (pc' := 24) rfl (hb hby d7_17) (by decide) (by decide) ?_
    refine XS.istoreN X1191.here hx rfl (hb hby d7_24) rfl (l' := #[vr aa, vr at_, vr al, vi 1, .unset, .unset, .unset, .unset, .unset]) rfl ?_
    refine XS.iloadN X1191.here hx rfl (hb hby d7_25) rfl ?_
    refine XS.aloadN X1191.here hx rfl (hb hby d7_26) rfl rfl ?_
    refine st1192 _ ?_
    show Sp p e below m T1192 30 #[vr aa, vr at_, vr al, vi 1, .unset, .unset, .unset, .unset, .unset] [(.int 0), (.int 1)] _
    refine XS.icmpNo X1192.here hx rfl (hb hby d7_30) rfl (flt (by decide : ¬ ((1 : Int32) < (0 : Int32)))).1 ?_
    refine XS.iloadN X1192.here hx rfl (hb hby d7_33) rfl ?_
    refine XS.aloadN X1192.here hx rfl (hb hby d7_34) rfl rfl ?_
    refine st1193.trans ?_
    show Sp p e below m T1193 40 #[vr aa, vr at_, vr al, vi 1, .unset, .unset, .unset, .unset, .unset] [(.int 2), (.int 1)] _
    refine XS.icmpNo X1193.here hx rfl (hb hby d7_40) rfl (tlt (by decide : ((1 : Int32) < (2 : Int32)))).2.1 ?_
    refine XS.aloadN X1193.here hx rfl (hb hby d7_43) rfl rfl ?_
    refine st1194 _ ?_
    show Sp p e below m T1194 47 #[vr aa, vr at_, vr al, vi 1, .unset, .unset, .unset, .unset, .unset] [(.int (-1))] _
    refine XS.aloadN X1194.here hx rfl (hb hby d7_47) rfl rfl ?_
    refine st1195.trans ?_
    show Sp p e below m T1195 53 #[vr aa, vr at_, vr al, vi 1, .unset, .unset, .unset, .unset, .unset] [(.int 2), (.int (-1))] _
    refine XS.icmpYes X1195.here hx rfl (pc0 := 53) (pc' := 58) rfl (hb hby d7_53) rfl (tlt (by decide : ((-1 : Int32) < (2 : Int32)))).1 (by decide) (by decide) ?_
    refine XS.aloadN X1195.here hx rfl (hb hby d7_58) rfl rfl ?_
    refine st1196 _ ?_
    show Sp p e below m T1196 62 #[vr aa, vr at_, vr al, vi 1, .unset, .unset, .unset, .unset, .unset] [(.int (-1))] _
    refine XS.iconst X1196.here hx rfl (hb hby d7_62) ?_
    refine XS.icmpNo X1196.here hx rfl (hb hby d7_63) rfl (teq (by decide : ((-1 : Int32) = (-1 : Int32)))).2 ?_
    refine XS.aloadN X1196.here hx rfl (hb hby d7_66) rfl rfl ?_
    refine XS.aloadN X1196.here hx rfl (hb hby d7_67) rfl rfl ?_
    refine XS.iloadN X1196.here hx rfl (hb hby d7_68) rfl ?_
    refine XS.aloadN X1196.here hx rfl (hb hby d7_69) rfl rfl ?_
    refine st1197.trans ?_
    exact k
  rcases p1197_0 with hq1199 | hq1200 | hq1201 | hq1202
  · rw [hq1199.1] at pre1198
    obtain ⟨T1203, X1203, e1203, st1203⟩ := getF X1197 hx hZ hown (host := "") (Or.inl (H 75 _ rfl)) Via.refl e1197 Fr_checkAt (g := (mkF m 96 #[vr aa, vr at_, vr al, vi 1, vi 1, vi 0, vi 0, .unset, .unset] [(.ref aa)])) rfl rfl (hb hby d7_96)
    have pre1204 : ∀ t, Sp p e below m T1203 113 #[vr aa, vr at_, vr al, vi 1, vi 1, vi 0, vi 0, vi 0, .unset] [] t → SG p e below G0 t := by
      intro t k
      refine pre1198 t ?_
      show Sp p e below m T1197 73 #[vr aa, vr at_, vr al, vi 1, .unset, .unset, .unset, .unset, .unset] [(.int 1)] _
      refine XS.goto X1197.here hx rfl (pc0 := 73) (pc' := 80) rfl (hb hby d7_73) (by decide) (by decide) ?_
      refine XS.istore X1197.here hx rfl (hb hby d7_80) rfl (l' := #[vr aa, vr at_, vr al, vi 1, vi 1, .unset, .unset, .unset, .unset]) rfl ?_
      refine XS.iload X1197.here hx rfl (hb hby d7_82) rfl ?_
      refine XS.ifYes X1197.here hx rfl (pc0 := 84) (pc' := 89) rfl (hb hby d7_84) rfl ((if0 _ _).trans (flt (by decide : ¬ ((1 : Int32) < (0 : Int32)))).2.1) (by decide) (by decide) ?_
      refine XS.iconst X1197.here hx rfl (hb hby d7_89) ?_
      refine XS.istore X1197.here hx rfl (hb hby d7_90) rfl (l' := #[vr aa, vr at_, vr al, vi 1, vi 1, vi 0, .unset, .unset, .unset]) rfl ?_
      refine XS.iconst X1197.here hx rfl (hb hby d7_92) ?_
      refine XS.istore X1197.here hx rfl (hb hby d7_93) rfl (l' := #[vr aa, vr at_, vr al, vi 1, vi 1, vi 0, vi 0, .unset, .unset]) rfl ?_
      show Sp p e below m T1197 95 #[vr aa, vr at_, vr al, vi 1, vi 1, vi 0, vi 0, .unset, .unset] [] _
      refine XS.aloadN X1197.here hx rfl (hb hby d7_95) rfl rfl ?_
      refine st1203 _ ?_
      show Sp p e below m T1203 99 #[vr aa, vr at_, vr al, vi 1, vi 1, vi 0, vi 0, .unset, .unset] [(.int (-1))] _
      refine XS.iconst X1203.here hx rfl (hb hby d7_99) ?_
      refine XS.icmpNo X1203.here hx rfl (hb hby d7_100) rfl (teq (by decide : ((-1 : Int32) = (-1 : Int32)))).2 ?_
      refine XS.iload X1203.here hx rfl (hb hby d7_103) rfl ?_
      refine XS.iconst X1203.here hx rfl (hb hby d7_105) ?_
      refine XS.isub X1203.here hx rfl (hb hby d7_106) rfl ?_
      refine XS.goto X1203.here hx rfl (pc0 := 107) (pc' := 111) rfl (hb hby d7_107) (by decide) (by decide) ?_
      refine XS.istore X1203.here hx rfl (hb hby d7_111) rfl (l' := #[vr aa, vr at_, vr al, vi 1, vi 1, vi 0, vi 0, vi 0, .unset]) rfl ?_
      exact k
    rcases Classical.em (own_dg pa0 = 0) with hq1205 | hq1206
    · obtain ⟨Tm1207, lm1207, Xm1207, em1207, Nm1207, hv1207, pre1207⟩ := bd G0 T1203 _ (1 : Int32) (0 : Int32) (0 : Int32) (0 : Int32) pa0 (.unset) X1203 e1203 N1197 (by decide) (by decide) rfl hp0 (Or.inl rfl) ⟨(hq1199.2), hq1205⟩ pre1204
      obtain ⟨fs, hr, hrun, hended, hW, hsame⟩ := Xm1207.leave (v := some (.int 0)) (fun h => by rw [Bd.returns] at h; cases h)
      refine ⟨_, _, pre1207 _ ?_, hrun, hended, _, _, rfl, ?_, ⟨_, rfl⟩, hW, hsame.mono (by decide) (by decide)⟩
      · show Sp p e below m Tm1207 174 #[vr aa, vr at_, vr al, vi 1, vi 1, vi 0, vi 0, vi 0, vi pa0] [] _
        refine XS.iconst Xm1207.here hx rfl (hb hby d7_174) ?_
        exact retN Xm1207 hx (t := .boolean) Bd.returns (by simp) (hb hby d7_175) hr
      · show Q7n2 Z aa at_ al cs vf ab kb gv pa0 pa1 h0 n0 _ Tm1207.heap _
        rw [em1207]
        exact ⟨(by simp only [own_ac, if_pos (hq1199.2), own_a0, own_run0, -Int32.reduceAdd, if_pos hq1205]), Nm1207, rfl⟩
    · obtain ⟨Tm1208, lm1208, s0, p0, Xm1208, em1208, Nm1208, hv1208, pre1208⟩ := it G0 T1203 _ (1 : Int32) (0 : Int32) (0 : Int32) (0 : Int32) pa0 (.unset) X1203 e1203 N1197 (by decide) (by decide) rfl hp0 (Or.inl rfl) (fun q => hq1206 q.2) pre1204
      rw [show ((0 : Int32) + (-1 : Int32)) = (-1 : Int32) from by decide] at pre1208
      have hw1209 : s0 = ((0 : Int32) + own_tO p0 (pa0 - 48)) % 10 ∧ p0 = (0 : Int32) + 1 := ⟨by rw [hv1208.1, hv1208.2, own_sm, own_ps, if_neg hq1206, if_neg hq1206], hv1208.2.trans (if_neg hq1206)⟩
      obtain ⟨T1210, X1210, e1210, st1210⟩ := getF Xm1208 hx hZ hown (host := "") (Or.inl (H 61 _ rfl)) Via.refl em1208 Fr_start (g := (mkF m 116 #[vr aa, vr at_, vr al, vi 1, vi 1, vi s0, vi p0, vi (-1), vi pa0] [(.ref aa), (.int (-1))])) rfl rfl (hb hby d7_116)
      obtain ⟨cq1211, kq1211, q1211a, q1211b, q1211c⟩ := isOf hZ e1210 El
      obtain ⟨_, _, ⟨T1211, L1211, k1211, n1211⟩, -, X1211, ⟨Lc1211, hQ1211, l1211, y1211, z1211⟩, st1211⟩ := X1210.virtualBack hx hown (mvT hZ (H 116 _ rfl)) (mvT hZ (H 117 _ rfl)) (own_nf (args := #[]) (mvT hZ (H 111 _ rfl)) rfl) (mvT hZ (H 118 _ rfl)) (mvT hZ (H 119 _ rfl)) (by decide) (backOf (W := 0) (rm21 l Z a0 hw [] al s0  h0 n0 Z0 ) hZ (H 121 _ rfl) (H 120 _ rfl) (by decide) (by decide)) q1211a q1211c (g := (mkF m 185 #[vr aa, vr at_, vr al, vi 1, vi 1, vi s0, vi p0, vi (-1), vi pa0] [(.int s0), (.ref al)])) rfl (by rw [hml]; rfl) (Steps.refl _) (argsL := [(.int s0)]) (rest := []) (lenOf own_pd356 rfl) rfl (Nat.le_of_eq rfl) (hb hby d7_185) (fun _ _ => ⟨rfl, e1210, Nat.zero_le _, Nat.zero_le _⟩)
      dsimp only [Pt.U, Pt.locs, Pt.cells, Pt.slots] at X1211 l1211 y1211 z1211 st1211 hQ1211
      rw [l1211, y1211, z1211] at X1211
      obtain ⟨rfl, Nq1211, e1211⟩ := hQ1211
      have N1211 := Fr.app Nm1208 Nq1211
      obtain ⟨cq1212, kq1212, q1212a, q1212b, q1212c⟩ := isOf hZ e1211 Et
      obtain ⟨_, _, ⟨T1212, L1212, k1212, n1212⟩, -, X1212, ⟨Lc1212, hQ1212, l1212, y1212, z1212⟩, st1212⟩ := X1211.interfaceBack hx hown (mvT hZ (H 83 _ rfl)) (mvT hZ (H 84 _ rfl)) (mvT hZ (H 85 _ rfl)) (mvT hZ (H 86 _ rfl)) (mvT hZ (H 87 _ rfl)) (mvT hZ (H 88 _ rfl)) (mvT hZ (H 89 _ rfl)) (mvT hZ (H 53 _ rfl)) (by decide) (backOf (W := 1) (rm14 l Z a0 hw [] at_ (1 : Int32) cs vf ab kb (2 : Int32) [(.int (own_b pa0)), (.int (own_b pa1))] (own_b pa1) h0 n0 Z0 O0 Scs hcs Ssf hvf Et Fv Fc Va (by decide) (by decide) rfl) hZ (H 90 _ rfl) (H 9 _ rfl) (by decide) (by decide)) q1212a q1212b q1212c (g := (mkF m 191 #[vr aa, vr at_, vr al, vi 1, vi 1, vi s0, vi p0, vi (-1), vi pa0] [(.int 1), (.ref at_), (.int (own_cc s0))])) rfl (by rw [hml]; rfl) (Steps.refl _) (argsL := [(.int 1)]) (rest := [(.int (own_cc s0))]) (lenOf own_pd356 rfl) rfl (Nat.le_of_eq rfl) (hb hby d7_191) (fun _ _ => ⟨rfl, e1211, Nat.zero_le _, Nat.zero_le _⟩)
      dsimp only [Pt.U, Pt.locs, Pt.cells, Pt.slots] at X1212 l1212 y1212 z1212 st1212 hQ1212
      rw [l1212, y1212, z1212] at X1212
      obtain ⟨rfl, Nq1212, e1212⟩ := hQ1212
      have N1212 := Fr.app N1211 Nq1212
      have pre1213 : ∀ t, Sp p e below m T1212 196 #[vr aa, vr at_, vr al, vi 1, vi 1, vi s0, vi p0, vi (-1), vi pa0] [(.int (own_lat (own_b pa1))), (.int (own_cc s0))] t → SG p e below G0 t := by
        intro t k
        refine pre1208 t ?_
        show Sp p e below m Tm1208 113 #[vr aa, vr at_, vr al, vi 1, vi 1, vi s0, vi p0, vi (-1), vi pa0] [] _
        refine XS.iload Xm1208.here hx rfl (hb hby d7_113) rfl ?_
        refine XS.aloadN Xm1208.here hx rfl (hb hby d7_115) rfl rfl ?_
        refine st1210 _ ?_
        show Sp p e below m T1210 119 #[vr aa, vr at_, vr al, vi 1, vi 1, vi s0, vi p0, vi (-1), vi pa0] [(.int 0), (.int (-1))] _
        refine XS.icmpYes X1210.here hx rfl (pc0 := 119) (pc' := 182) rfl (hb hby d7_119) rfl (tlt (by decide : ((-1 : Int32) < (0 : Int32)))).1 (by decide) (by decide) ?_
        refine XS.aloadN X1210.here hx rfl (hb hby d7_182) rfl rfl ?_
        refine XS.iload X1210.here hx rfl (hb hby d7_183) rfl ?_
        refine st1211.trans ?_
        show Sp p e below m T1211 188 #[vr aa, vr at_, vr al, vi 1, vi 1, vi s0, vi p0, vi (-1), vi pa0] [(.int (own_cc s0))] _
        refine XS.aloadN X1211.here hx rfl (hb hby d7_188) rfl rfl ?_
        refine XS.iload X1211.here hx rfl (hb hby d7_189) rfl ?_
        refine st1212.trans ?_
        exact k
      rw [show (own_lat (own_b pa1)) = pa1 from own_at hp1] at pre1213
      by_cases hc196_1214 : (own_cc s0) = pa1
      · obtain ⟨fs, hr, hrun, hended, hW, hsame⟩ := X1212.leave (v := some (.int 1)) (fun h => by rw [Bd.returns] at h; cases h)
        refine ⟨_, _, pre1213 _ ?_, hrun, hended, _, _, rfl, ?_, ⟨_, rfl⟩, hW, hsame.mono (by decide) (by decide)⟩
        · show Sp p e below m T1212 196 #[vr aa, vr at_, vr al, vi 1, vi 1, vi s0, vi p0, vi (-1), vi pa0] [(.int pa1), (.int (own_cc s0))] _
          refine XS.icmpNo X1212.here hx rfl (hb hby d7_196) rfl (teq hc196_1214).2 ?_
          refine XS.iconst X1212.here hx rfl (hb hby d7_199) ?_
          refine XS.goto X1212.here hx rfl (pc0 := 200) (pc' := 204) rfl (hb hby d7_200) (by decide) (by decide) ?_
          exact retN X1212 hx (t := .boolean) Bd.returns (by simp) (hb hby d7_204) hr
        · show Q7n2 Z aa at_ al cs vf ab kb gv pa0 pa1 h0 n0 _ T1212.heap _
          rw [e1212]
          exact ⟨(by simp only [own_ac, if_pos (hq1199.2), own_a0, own_run0, -Int32.reduceAdd, if_neg hq1206, ← hw1209.1, ← hw1209.2]; rw [own_fin, if_pos hc196_1214]), N1212, rfl⟩
      · obtain ⟨fs, hr, hrun, hended, hW, hsame⟩ := X1212.leave (v := some (.int 0)) (fun h => by rw [Bd.returns] at h; cases h)
        refine ⟨_, _, pre1213 _ ?_, hrun, hended, _, _, rfl, ?_, ⟨_, rfl⟩, hW, hsame.mono (by decide) (by decide)⟩
        · show Sp p e below m T1212 196 #[vr aa, vr at_, vr al, vi 1, vi 1, vi s0, vi p0, vi (-1), vi pa0] [(.int pa1), (.int (own_cc s0))] _
          refine XS.icmpYes X1212.here hx rfl (pc0 := 196) (pc' := 203) rfl (hb hby d7_196) rfl (feq hc196_1214).2 (by decide) (by decide) ?_
          refine XS.iconst X1212.here hx rfl (hb hby d7_203) ?_
          exact retN X1212 hx (t := .boolean) Bd.returns (by simp) (hb hby d7_204) hr
        · show Q7n2 Z aa at_ al cs vf ab kb gv pa0 pa1 h0 n0 _ T1212.heap _
          rw [e1212]
          exact ⟨(by simp only [own_ac, if_pos (hq1199.2), own_a0, own_run0, -Int32.reduceAdd, if_neg hq1206, ← hw1209.1, ← hw1209.2]; rw [own_fin, if_neg hc196_1214]), N1212, rfl⟩
  · rw [hq1200.1] at pre1198
    obtain ⟨T1215, X1215, e1215, st1215⟩ := getF X1197 hx hZ hown (host := "") (Or.inl (H 75 _ rfl)) Via.refl e1197 Fr_checkAt (g := (mkF m 96 #[vr aa, vr at_, vr al, vi 1, vi 1, vi 0, vi 0, .unset, .unset] [(.ref aa)])) rfl rfl (hb hby d7_96)
    have pre1216 : ∀ t, Sp p e below m T1215 113 #[vr aa, vr at_, vr al, vi 1, vi 1, vi 0, vi 0, vi 0, .unset] [] t → SG p e below G0 t := by
      intro t k
      refine pre1198 t ?_
      show Sp p e below m T1197 73 #[vr aa, vr at_, vr al, vi 1, .unset, .unset, .unset, .unset, .unset] [(.int 1)] _
      refine XS.goto X1197.here hx rfl (pc0 := 73) (pc' := 80) rfl (hb hby d7_73) (by decide) (by decide) ?_
      refine XS.istore X1197.here hx rfl (hb hby d7_80) rfl (l' := #[vr aa, vr at_, vr al, vi 1, vi 1, .unset, .unset, .unset, .unset]) rfl ?_
      refine XS.iload X1197.here hx rfl (hb hby d7_82) rfl ?_
      refine XS.ifYes X1197.here hx rfl (pc0 := 84) (pc' := 89) rfl (hb hby d7_84) rfl ((if0 _ _).trans (flt (by decide : ¬ ((1 : Int32) < (0 : Int32)))).2.1) (by decide) (by decide) ?_
      refine XS.iconst X1197.here hx rfl (hb hby d7_89) ?_
      refine XS.istore X1197.here hx rfl (hb hby d7_90) rfl (l' := #[vr aa, vr at_, vr al, vi 1, vi 1, vi 0, .unset, .unset, .unset]) rfl ?_
      refine XS.iconst X1197.here hx rfl (hb hby d7_92) ?_
      refine XS.istore X1197.here hx rfl (hb hby d7_93) rfl (l' := #[vr aa, vr at_, vr al, vi 1, vi 1, vi 0, vi 0, .unset, .unset]) rfl ?_
      show Sp p e below m T1197 95 #[vr aa, vr at_, vr al, vi 1, vi 1, vi 0, vi 0, .unset, .unset] [] _
      refine XS.aloadN X1197.here hx rfl (hb hby d7_95) rfl rfl ?_
      refine st1215 _ ?_
      show Sp p e below m T1215 99 #[vr aa, vr at_, vr al, vi 1, vi 1, vi 0, vi 0, .unset, .unset] [(.int (-1))] _
      refine XS.iconst X1215.here hx rfl (hb hby d7_99) ?_
      refine XS.icmpNo X1215.here hx rfl (hb hby d7_100) rfl (teq (by decide : ((-1 : Int32) = (-1 : Int32)))).2 ?_
      refine XS.iload X1215.here hx rfl (hb hby d7_103) rfl ?_
      refine XS.iconst X1215.here hx rfl (hb hby d7_105) ?_
      refine XS.isub X1215.here hx rfl (hb hby d7_106) rfl ?_
      refine XS.goto X1215.here hx rfl (pc0 := 107) (pc' := 111) rfl (hb hby d7_107) (by decide) (by decide) ?_
      refine XS.istore X1215.here hx rfl (hb hby d7_111) rfl (l' := #[vr aa, vr at_, vr al, vi 1, vi 1, vi 0, vi 0, vi 0, .unset]) rfl ?_
      exact k
    obtain ⟨Tm1217, lm1217, s0, p0, Xm1217, em1217, Nm1217, hv1217, pre1217⟩ := it G0 T1215 _ (1 : Int32) (0 : Int32) (0 : Int32) (0 : Int32) pa0 (.unset) X1215 e1215 N1197 (by decide) (by decide) rfl hp0 (Or.inl rfl) (fun q => (hq1200.2.1) q.1) pre1216
    rw [show ((0 : Int32) + (-1 : Int32)) = (-1 : Int32) from by decide] at pre1217
    obtain ⟨T1218, X1218, e1218, st1218⟩ := getF Xm1217 hx hZ hown (host := "") (Or.inl (H 61 _ rfl)) Via.refl em1217 Fr_start (g := (mkF m 116 #[vr aa, vr at_, vr al, vi 1, vi 1, vi s0, vi p0, vi (-1), vi pa0] [(.ref aa), (.int (-1))])) rfl rfl (hb hby d7_116)
    obtain ⟨cq1219, kq1219, q1219a, q1219b, q1219c⟩ := isOf hZ e1218 El
    obtain ⟨_, _, ⟨T1219, L1219, k1219, n1219⟩, -, X1219, ⟨Lc1219, hQ1219, l1219, y1219, z1219⟩, st1219⟩ := X1218.virtualBack hx hown (mvT hZ (H 116 _ rfl)) (mvT hZ (H 117 _ rfl)) (own_nf (args := #[]) (mvT hZ (H 111 _ rfl)) rfl) (mvT hZ (H 118 _ rfl)) (mvT hZ (H 119 _ rfl)) (by decide) (backOf (W := 0) (rm21 l Z a0 hw [] al s0  h0 n0 Z0 ) hZ (H 121 _ rfl) (H 120 _ rfl) (by decide) (by decide)) q1219a q1219c (g := (mkF m 185 #[vr aa, vr at_, vr al, vi 1, vi 1, vi s0, vi p0, vi (-1), vi pa0] [(.int s0), (.ref al)])) rfl (by rw [hml]; rfl) (Steps.refl _) (argsL := [(.int s0)]) (rest := []) (lenOf own_pd356 rfl) rfl (Nat.le_of_eq rfl) (hb hby d7_185) (fun _ _ => ⟨rfl, e1218, Nat.zero_le _, Nat.zero_le _⟩)
    dsimp only [Pt.U, Pt.locs, Pt.cells, Pt.slots] at X1219 l1219 y1219 z1219 st1219 hQ1219
    rw [l1219, y1219, z1219] at X1219
    obtain ⟨rfl, Nq1219, e1219⟩ := hQ1219
    have N1219 := Fr.app Nm1217 Nq1219
    obtain ⟨cq1220, kq1220, q1220a, q1220b, q1220c⟩ := isOf hZ e1219 Et
    obtain ⟨_, _, ⟨T1220, L1220, k1220, n1220⟩, -, X1220, ⟨Lc1220, hQ1220, l1220, y1220, z1220⟩, st1220⟩ := X1219.interfaceBack hx hown (mvT hZ (H 83 _ rfl)) (mvT hZ (H 84 _ rfl)) (mvT hZ (H 85 _ rfl)) (mvT hZ (H 86 _ rfl)) (mvT hZ (H 87 _ rfl)) (mvT hZ (H 88 _ rfl)) (mvT hZ (H 89 _ rfl)) (mvT hZ (H 53 _ rfl)) (by decide) (backOf (W := 1) (rm14 l Z a0 hw [] at_ (1 : Int32) cs vf ab kb (2 : Int32) [(.int (own_b pa0)), (.int (own_b pa1))] (own_b pa1) h0 n0 Z0 O0 Scs hcs Ssf hvf Et Fv Fc Va (by decide) (by decide) rfl) hZ (H 90 _ rfl) (H 9 _ rfl) (by decide) (by decide)) q1220a q1220b q1220c (g := (mkF m 191 #[vr aa, vr at_, vr al, vi 1, vi 1, vi s0, vi p0, vi (-1), vi pa0] [(.int 1), (.ref at_), (.int (own_cc s0))])) rfl (by rw [hml]; rfl) (Steps.refl _) (argsL := [(.int 1)]) (rest := [(.int (own_cc s0))]) (lenOf own_pd356 rfl) rfl (Nat.le_of_eq rfl) (hb hby d7_191) (fun _ _ => ⟨rfl, e1219, Nat.zero_le _, Nat.zero_le _⟩)
    dsimp only [Pt.U, Pt.locs, Pt.cells, Pt.slots] at X1220 l1220 y1220 z1220 st1220 hQ1220
    rw [l1220, y1220, z1220] at X1220
    obtain ⟨rfl, Nq1220, e1220⟩ := hQ1220
    have N1220 := Fr.app N1219 Nq1220
    have pre1221 : ∀ t, Sp p e below m T1220 196 #[vr aa, vr at_, vr al, vi 1, vi 1, vi s0, vi p0, vi (-1), vi pa0] [(.int (own_lat (own_b pa1))), (.int (own_cc s0))] t → SG p e below G0 t := by
      intro t k
      refine pre1217 t ?_
      show Sp p e below m Tm1217 113 #[vr aa, vr at_, vr al, vi 1, vi 1, vi s0, vi p0, vi (-1), vi pa0] [] _
      refine XS.iload Xm1217.here hx rfl (hb hby d7_113) rfl ?_
      refine XS.aloadN Xm1217.here hx rfl (hb hby d7_115) rfl rfl ?_
      refine st1218 _ ?_
      show Sp p e below m T1218 119 #[vr aa, vr at_, vr al, vi 1, vi 1, vi s0, vi p0, vi (-1), vi pa0] [(.int 0), (.int (-1))] _
      refine XS.icmpYes X1218.here hx rfl (pc0 := 119) (pc' := 182) rfl (hb hby d7_119) rfl (tlt (by decide : ((-1 : Int32) < (0 : Int32)))).1 (by decide) (by decide) ?_
      refine XS.aloadN X1218.here hx rfl (hb hby d7_182) rfl rfl ?_
      refine XS.iload X1218.here hx rfl (hb hby d7_183) rfl ?_
      refine st1219.trans ?_
      show Sp p e below m T1219 188 #[vr aa, vr at_, vr al, vi 1, vi 1, vi s0, vi p0, vi (-1), vi pa0] [(.int (own_cc s0))] _
      refine XS.aloadN X1219.here hx rfl (hb hby d7_188) rfl rfl ?_
      refine XS.iload X1219.here hx rfl (hb hby d7_189) rfl ?_
      refine st1220.trans ?_
      exact k
    rw [show (own_lat (own_b pa1)) = pa1 from own_at hp1] at pre1221
    by_cases hc196_1222 : (own_cc s0) = pa1
    · obtain ⟨fs, hr, hrun, hended, hW, hsame⟩ := X1220.leave (v := some (.int 1)) (fun h => by rw [Bd.returns] at h; cases h)
      refine ⟨_, _, pre1221 _ ?_, hrun, hended, _, _, rfl, ?_, ⟨_, rfl⟩, hW, hsame.mono (by decide) (by decide)⟩
      · show Sp p e below m T1220 196 #[vr aa, vr at_, vr al, vi 1, vi 1, vi s0, vi p0, vi (-1), vi pa0] [(.int pa1), (.int (own_cc s0))] _
        refine XS.icmpNo X1220.here hx rfl (hb hby d7_196) rfl (teq hc196_1222).2 ?_
        refine XS.iconst X1220.here hx rfl (hb hby d7_199) ?_
        refine XS.goto X1220.here hx rfl (pc0 := 200) (pc' := 204) rfl (hb hby d7_200) (by decide) (by decide) ?_
        exact retN X1220 hx (t := .boolean) Bd.returns (by simp) (hb hby d7_204) hr
      · show Q7n2 Z aa at_ al cs vf ab kb gv pa0 pa1 h0 n0 _ T1220.heap _
        rw [e1220]
        exact ⟨(by simp only [own_ac, if_neg (hq1200.2.1), own_a1, own_run, if_neg (hq1200.2.2), ← hv1217.1, ← hv1217.2]; rw [own_fin, if_pos hc196_1222]), N1220, rfl⟩
    · obtain ⟨fs, hr, hrun, hended, hW, hsame⟩ := X1220.leave (v := some (.int 0)) (fun h => by rw [Bd.returns] at h; cases h)
      refine ⟨_, _, pre1221 _ ?_, hrun, hended, _, _, rfl, ?_, ⟨_, rfl⟩, hW, hsame.mono (by decide) (by decide)⟩
      · show Sp p e below m T1220 196 #[vr aa, vr at_, vr al, vi 1, vi 1, vi s0, vi p0, vi (-1), vi pa0] [(.int pa1), (.int (own_cc s0))] _
        refine XS.icmpYes X1220.here hx rfl (pc0 := 196) (pc' := 203) rfl (hb hby d7_196) rfl (feq hc196_1222).2 (by decide) (by decide) ?_
        refine XS.iconst X1220.here hx rfl (hb hby d7_203) ?_
        exact retN X1220 hx (t := .boolean) Bd.returns (by simp) (hb hby d7_204) hr
      · show Q7n2 Z aa at_ al cs vf ab kb gv pa0 pa1 h0 n0 _ T1220.heap _
        rw [e1220]
        exact ⟨(by simp only [own_ac, if_neg (hq1200.2.1), own_a1, own_run, if_neg (hq1200.2.2), ← hv1217.1, ← hv1217.2]; rw [own_fin, if_neg hc196_1222]), N1220, rfl⟩
  · rw [hq1201.1] at pre1198
    obtain ⟨T1223, X1223, e1223, st1223⟩ := getF X1197 hx hZ hown (host := "") (Or.inl (H 75 _ rfl)) Via.refl e1197 Fr_checkAt (g := (mkF m 96 #[vr aa, vr at_, vr al, vi 1, vi 0, vi 0, vi 0, .unset, .unset] [(.ref aa)])) rfl rfl (hb hby d7_96)
    obtain ⟨T1224, X1224, e1224, st1224⟩ := getF X1223 hx hZ hown (host := "") (Or.inl (H 61 _ rfl)) Via.refl e1223 Fr_start (g := (mkF m 116 #[vr aa, vr at_, vr al, vi 1, vi 0, vi 0, vi 0, vi (-1), .unset] [(.ref aa), (.int (-1))])) rfl rfl (hb hby d7_116)
    obtain ⟨cq1225, kq1225, q1225a, q1225b, q1225c⟩ := isOf hZ e1224 El
    obtain ⟨_, _, ⟨T1225, L1225, k1225, n1225⟩, -, X1225, ⟨Lc1225, hQ1225, l1225, y1225, z1225⟩, st1225⟩ := X1224.virtualBack hx hown (mvT hZ (H 116 _ rfl)) (mvT hZ (H 117 _ rfl)) (own_nf (args := #[]) (mvT hZ (H 111 _ rfl)) rfl) (mvT hZ (H 118 _ rfl)) (mvT hZ (H 119 _ rfl)) (by decide) (backOf (W := 0) (rm21 l Z a0 hw [] al (0 : Int32)  h0 n0 Z0 ) hZ (H 121 _ rfl) (H 120 _ rfl) (by decide) (by decide)) q1225a q1225c (g := (mkF m 185 #[vr aa, vr at_, vr al, vi 1, vi 0, vi 0, vi 0, vi (-1), .unset] [(.int 0), (.ref al)])) rfl (by rw [hml]; rfl) (Steps.refl _) (argsL := [(.int 0)]) (rest := []) (lenOf own_pd356 rfl) rfl (Nat.le_of_eq rfl) (hb hby d7_185) (fun _ _ => ⟨rfl, e1224, Nat.zero_le _, Nat.zero_le _⟩)
    dsimp only [Pt.U, Pt.locs, Pt.cells, Pt.slots] at X1225 l1225 y1225 z1225 st1225 hQ1225
    rw [l1225, y1225, z1225] at X1225
    obtain ⟨rfl, Nq1225, e1225⟩ := hQ1225
    have N1225 := Fr.app N1197 Nq1225
    obtain ⟨cq1226, kq1226, q1226a, q1226b, q1226c⟩ := isOf hZ e1225 Et
    obtain ⟨_, _, ⟨T1226, L1226, k1226, n1226⟩, -, X1226, ⟨Lc1226, hQ1226, l1226, y1226, z1226⟩, st1226⟩ := X1225.interfaceBack hx hown (mvT hZ (H 83 _ rfl)) (mvT hZ (H 84 _ rfl)) (mvT hZ (H 85 _ rfl)) (mvT hZ (H 86 _ rfl)) (mvT hZ (H 87 _ rfl)) (mvT hZ (H 88 _ rfl)) (mvT hZ (H 89 _ rfl)) (mvT hZ (H 53 _ rfl)) (by decide) (backOf (W := 1) (rm14 l Z a0 hw [] at_ (0 : Int32) cs vf ab kb (2 : Int32) [(.int (own_b pa0)), (.int (own_b pa1))] (own_b pa0) h0 n0 Z0 O0 Scs hcs Ssf hvf Et Fv Fc Va (by decide) (by decide) rfl) hZ (H 90 _ rfl) (H 9 _ rfl) (by decide) (by decide)) q1226a q1226b q1226c (g := (mkF m 191 #[vr aa, vr at_, vr al, vi 1, vi 0, vi 0, vi 0, vi (-1), .unset] [(.int 0), (.ref at_), (.int (own_cc (0 : Int32)))])) rfl (by rw [hml]; rfl) (Steps.refl _) (argsL := [(.int 0)]) (rest := [(.int (own_cc (0 : Int32)))]) (lenOf own_pd356 rfl) rfl (Nat.le_of_eq rfl) (hb hby d7_191) (fun _ _ => ⟨rfl, e1225, Nat.zero_le _, Nat.zero_le _⟩)
    dsimp only [Pt.U, Pt.locs, Pt.cells, Pt.slots] at X1226 l1226 y1226 z1226 st1226 hQ1226
    rw [l1226, y1226, z1226] at X1226
    obtain ⟨rfl, Nq1226, e1226⟩ := hQ1226
    have N1226 := Fr.app N1225 Nq1226
    have pre1227 : ∀ t, Sp p e below m T1226 196 #[vr aa, vr at_, vr al, vi 1, vi 0, vi 0, vi 0, vi (-1), .unset] [(.int (own_lat (own_b pa0))), (.int (own_cc (0 : Int32)))] t → SG p e below G0 t := by
      intro t k
      refine pre1198 t ?_
      show Sp p e below m T1197 73 #[vr aa, vr at_, vr al, vi 1, .unset, .unset, .unset, .unset, .unset] [(.int 0)] _
      refine XS.goto X1197.here hx rfl (pc0 := 73) (pc' := 80) rfl (hb hby d7_73) (by decide) (by decide) ?_
      refine XS.istore X1197.here hx rfl (hb hby d7_80) rfl (l' := #[vr aa, vr at_, vr al, vi 1, vi 0, .unset, .unset, .unset, .unset]) rfl ?_
      refine XS.iload X1197.here hx rfl (hb hby d7_82) rfl ?_
      refine XS.ifYes X1197.here hx rfl (pc0 := 84) (pc' := 89) rfl (hb hby d7_84) rfl ((if0 _ _).trans (flt (by decide : ¬ ((0 : Int32) < (0 : Int32)))).2.1) (by decide) (by decide) ?_
      refine XS.iconst X1197.here hx rfl (hb hby d7_89) ?_
      refine XS.istore X1197.here hx rfl (hb hby d7_90) rfl (l' := #[vr aa, vr at_, vr al, vi 1, vi 0, vi 0, .unset, .unset, .unset]) rfl ?_
      refine XS.iconst X1197.here hx rfl (hb hby d7_92) ?_
      refine XS.istore X1197.here hx rfl (hb hby d7_93) rfl (l' := #[vr aa, vr at_, vr al, vi 1, vi 0, vi 0, vi 0, .unset, .unset]) rfl ?_
      show Sp p e below m T1197 95 #[vr aa, vr at_, vr al, vi 1, vi 0, vi 0, vi 0, .unset, .unset] [] _
      refine XS.aloadN X1197.here hx rfl (hb hby d7_95) rfl rfl ?_
      refine st1223 _ ?_
      show Sp p e below m T1223 99 #[vr aa, vr at_, vr al, vi 1, vi 0, vi 0, vi 0, .unset, .unset] [(.int (-1))] _
      refine XS.iconst X1223.here hx rfl (hb hby d7_99) ?_
      refine XS.icmpNo X1223.here hx rfl (hb hby d7_100) rfl (teq (by decide : ((-1 : Int32) = (-1 : Int32)))).2 ?_
      refine XS.iload X1223.here hx rfl (hb hby d7_103) rfl ?_
      refine XS.iconst X1223.here hx rfl (hb hby d7_105) ?_
      refine XS.isub X1223.here hx rfl (hb hby d7_106) rfl ?_
      refine XS.goto X1223.here hx rfl (pc0 := 107) (pc' := 111) rfl (hb hby d7_107) (by decide) (by decide) ?_
      refine XS.istore X1223.here hx rfl (hb hby d7_111) rfl (l' := #[vr aa, vr at_, vr al, vi 1, vi 0, vi 0, vi 0, vi (-1), .unset]) rfl ?_
      refine XS.iload X1223.here hx rfl (hb hby d7_113) rfl ?_
      show Sp p e below m T1223 115 #[vr aa, vr at_, vr al, vi 1, vi 0, vi 0, vi 0, vi (-1), .unset] [(.int (-1))] _
      refine XS.aloadN X1223.here hx rfl (hb hby d7_115) rfl rfl ?_
      refine st1224 _ ?_
      show Sp p e below m T1224 119 #[vr aa, vr at_, vr al, vi 1, vi 0, vi 0, vi 0, vi (-1), .unset] [(.int 0), (.int (-1))] _
      refine XS.icmpYes X1224.here hx rfl (pc0 := 119) (pc' := 182) rfl (hb hby d7_119) rfl (tlt (by decide : ((-1 : Int32) < (0 : Int32)))).1 (by decide) (by decide) ?_
      refine XS.aloadN X1224.here hx rfl (hb hby d7_182) rfl rfl ?_
      refine XS.iload X1224.here hx rfl (hb hby d7_183) rfl ?_
      refine st1225.trans ?_
      show Sp p e below m T1225 188 #[vr aa, vr at_, vr al, vi 1, vi 0, vi 0, vi 0, vi (-1), .unset] [(.int (own_cc (0 : Int32)))] _
      refine XS.aloadN X1225.here hx rfl (hb hby d7_188) rfl rfl ?_
      refine XS.iload X1225.here hx rfl (hb hby d7_189) rfl ?_
      refine st1226.trans ?_
      exact k
    rw [show (own_lat (own_b pa0)) = pa0 from own_at hp0] at pre1227
    by_cases hc196_1228 : (own_cc (0 : Int32)) = pa0
    · obtain ⟨fs, hr, hrun, hended, hW, hsame⟩ := X1226.leave (v := some (.int 1)) (fun h => by rw [Bd.returns] at h; cases h)
      refine ⟨_, _, pre1227 _ ?_, hrun, hended, _, _, rfl, ?_, ⟨_, rfl⟩, hW, hsame.mono (by decide) (by decide)⟩
      · show Sp p e below m T1226 196 #[vr aa, vr at_, vr al, vi 1, vi 0, vi 0, vi 0, vi (-1), .unset] [(.int pa0), (.int (own_cc (0 : Int32)))] _
        refine XS.icmpNo X1226.here hx rfl (hb hby d7_196) rfl (teq hc196_1228).2 ?_
        refine XS.iconst X1226.here hx rfl (hb hby d7_199) ?_
        refine XS.goto X1226.here hx rfl (pc0 := 200) (pc' := 204) rfl (hb hby d7_200) (by decide) (by decide) ?_
        exact retN X1226 hx (t := .boolean) Bd.returns (by simp) (hb hby d7_204) hr
      · show Q7n2 Z aa at_ al cs vf ab kb gv pa0 pa1 h0 n0 _ T1226.heap _
        rw [e1226]
        exact ⟨(by simp only [own_ac, if_neg (hq1201.2.1), own_a1, own_run, if_pos (hq1201.2.2.1), if_neg (hq1201.2.2.2)]; rw [own_fin, if_pos hc196_1228]), N1226, rfl⟩
    · obtain ⟨fs, hr, hrun, hended, hW, hsame⟩ := X1226.leave (v := some (.int 0)) (fun h => by rw [Bd.returns] at h; cases h)
      refine ⟨_, _, pre1227 _ ?_, hrun, hended, _, _, rfl, ?_, ⟨_, rfl⟩, hW, hsame.mono (by decide) (by decide)⟩
      · show Sp p e below m T1226 196 #[vr aa, vr at_, vr al, vi 1, vi 0, vi 0, vi 0, vi (-1), .unset] [(.int pa0), (.int (own_cc (0 : Int32)))] _
        refine XS.icmpYes X1226.here hx rfl (pc0 := 196) (pc' := 203) rfl (hb hby d7_196) rfl (feq hc196_1228).2 (by decide) (by decide) ?_
        refine XS.iconst X1226.here hx rfl (hb hby d7_203) ?_
        exact retN X1226 hx (t := .boolean) Bd.returns (by simp) (hb hby d7_204) hr
      · show Q7n2 Z aa at_ al cs vf ab kb gv pa0 pa1 h0 n0 _ T1226.heap _
        rw [e1226]
        exact ⟨(by simp only [own_ac, if_neg (hq1201.2.1), own_a1, own_run, if_pos (hq1201.2.2.1), if_neg (hq1201.2.2.2)]; rw [own_fin, if_neg hc196_1228]), N1226, rfl⟩
  · rw [hq1202.1] at pre1198
    obtain ⟨fs, hr, hrun, hended, hW, hsame⟩ := X1197.leave (v := some (.int 0)) (fun h => by rw [Bd.returns] at h; cases h)
    refine ⟨_, _, pre1198 _ ?_, hrun, hended, _, _, rfl, ?_, ⟨_, rfl⟩, hW, hsame.mono (by decide) (by decide)⟩
    · show Sp p e below m T1197 73 #[vr aa, vr at_, vr al, vi 1, .unset, .unset, .unset, .unset, .unset] [(.int (-1))] _
      refine XS.goto X1197.here hx rfl (pc0 := 73) (pc' := 80) rfl (hb hby d7_73) (by decide) (by decide) ?_
      refine XS.istore X1197.here hx rfl (hb hby d7_80) rfl (l' := #[vr aa, vr at_, vr al, vi 1, vi (-1), .unset, .unset, .unset, .unset]) rfl ?_
      refine XS.iload X1197.here hx rfl (hb hby d7_82) rfl ?_
      refine XS.ifNo X1197.here hx rfl (hb hby d7_84) rfl ((if0 _ _).trans (tlt (by decide : ((-1 : Int32) < (0 : Int32)))).2.1) ?_
      refine XS.iconst X1197.here hx rfl (hb hby d7_87) ?_
      exact retN X1197 hx (t := .boolean) Bd.returns (by simp) (hb hby d7_88) hr
    · show Q7n2 Z aa at_ al cs vf ab kb gv pa0 pa1 h0 n0 _ T1197.heap _
      rw [e1197]
      exact ⟨(by simp only [own_ac, if_neg (hq1202.2.1), own_a1, if_pos (hq1202.2.2.1), if_pos (hq1202.2.2.2)]), N1197, rfl⟩
theorem ef_7n3 (m : MethodId) (x0 : Addr) (x1 : Addr) (x2 : Addr) : entryFrame m #[(.ref x0), (.ref x1), (.ref x2)] 9 = mkF m 0 #[.val (.ref x0), .val (.ref x1), .val (.ref x2), .unset, .unset, .unset, .unset, .unset, .unset] [] := by first | (simp [entryFrame, mkF, argsToLocals, Value.category]; done) | rfl
def Q7n3 (Z : State) (aa : Addr) (at_ : Addr) (al : Addr) (cs : Int32) (vf : Value) (ab : Addr) (kb : ClassId) (gv : Int32) (pa0 : Int32) (pa1 : Int32) (pa2 : Int32) (h0 : Heap) (n0 : Nat) (v : Option Value) (h : Heap) (L : List Loc) : Prop := v = some (.int (own_ac gv [pa2, pa1, pa0])) ∧ Fr n0 L ∧ h = h0
theorem rm7n3 (l : Launch) (Z : State) (a0 : Array Value) (hw : ∀ d ∈ tables_1, d.before a0 Z = true) (ws : List Jvm.Cond) (aa : Addr) (at_ : Addr) (al : Addr) (cs : Int32) (vf : Value) (ab : Addr) (kb : ClassId) (gv : Int32) (pa0 : Int32) (pa1 : Int32) (pa2 : Int32) (h0 : Heap) (n0 : Nat) (Z0 : n0 ≤ h0.size) (O0 : Old Z n0 h0) (Scs : Sta Z Z.heap "java/lang/String" "COMPACT_STRINGS" "Z" (.int cs)) (hcs : ¬ cs = (0 : Int32)) (Ssf : Sta Z Z.heap "jdk/internal/util/Preconditions" "SIOOBE_FORMATTER" "Ljava/util/function/BiFunction;" vf) (hvf : vf.isRef = true) (Er : Exa Z h0 aa "com/example/onus_on_beans/onusonbeans/validators/CheckDigitRange") (Fr_end : Fld Z h0 aa "com/example/onus_on_beans/onusonbeans/validators/CheckDigitRange" "end" "I" (.int 2147483647)) (Fr_start : Fld Z h0 aa "com/example/onus_on_beans/onusonbeans/validators/CheckDigitRange" "start" "I" (.int 0)) (Fr_checkAt : Fld Z h0 aa "com/example/onus_on_beans/onusonbeans/validators/CheckDigitRange" "checkAt" "I" (.int (-1))) (Fr_ignoresOthers : Fld Z h0 aa "com/example/onus_on_beans/onusonbeans/validators/CheckDigitRange" "ignoresOthers" "Z" (.int gv)) (El : Exa Z h0 al "com/example/onus_on_beans/onusonbeans/validators/CheckDigitScheme$Luhn") (Fm : Fld Z h0 al "com/example/onus_on_beans/onusonbeans/validators/CheckDigitScheme" "modulus" "I" (.int 10)) (Et : Exa Z h0 at_ "java/lang/String") (Fv : Fld Z h0 at_ "java/lang/String" "value" "[B" (.ref ab)) (Fc : Fld Z h0 at_ "java/lang/String" "coder" "B" (.int 0)) (Va : Arv Z h0 ab kb .byte (3 : Int32) [(.int (own_b pa0)), (.int (own_b pa1)), (.int (own_b pa2))] (.int 0)) (hp0 : 0 ≤ pa0.toInt ∧ pa0.toInt ≤ 255) (hp1 : 0 ≤ pa1.toInt ∧ pa1.toInt ≤ 255) (hp2 : 0 ≤ pa2.toInt ∧ pa2.toInt ≤ 255) :
    MetFree l (⟨"com/example/onus_on_beans/onusonbeans/validators/CheckDigitRange", "holds", "(Ljava/lang/CharSequence;Lcom/example/onus_on_beans/onusonbeans/validators/CheckDigitScheme;)Z"⟩ : MethodName) (head1 (Jvm.Cond.code (⟨"com/example/onus_on_beans/onusonbeans/validators/CheckDigitRange", "holds", "(Ljava/lang/CharSequence;Lcom/example/onus_on_beans/onusonbeans/validators/CheckDigitScheme;)Z"⟩ : MethodName) prog_14_method_4_code 9 (some .boolean) :: ws) ({ frames := 5, cells := 0, slots := 0, locals := 70 } : Room)) (fun a U => a = #[(.ref aa), (.ref at_), (.ref al)] ∧ Z.Warmed39 U.vm ∧ U.heap = h0) (fun _ _ _ _ _ => True) (fun _ U o U' => ∃ v L, o = .returned v ∧ Q7n3 Z aa at_ al cs vf ab kb gv pa0 pa1 pa2 h0 n0 v U'.heap L ∧ FrameEnd U o U' L ({ frames := 5, cells := 0, slots := 0, locals := 70 } : Room).cells ({ frames := 5, cells := 0, slots := 0, locals := 70 } : Room).slots) := by
  refine MetFree.of_bodySF (plainFor_of_name own_pn275) hisR ?_
  intro p e s m args below meth c s₁ Bd hml0 hP hK
  have H := fun i c (h : tables_1[i]? = some c) => hw c (List.mem_of_getElem? h)
  obtain ⟨rfl, hZ, hh⟩ := hP
  have hx := Bd.exec
  have hby := Bd.bytes
  have hml : c.maxLocals = 9 := hml0
  have hown : s.vm.findClass "com/example/onus_on_beans/onusonbeans/validators/CheckDigitRange" = some m.cls := findClass_of_methodNamed Bd.named
  have hnm := (name_of_methodNamed Bd.named Bd.method).1
  have X0 : Stand p l e ({ frames := 5, cells := 0, slots := 0, locals := 70 } : Room) s m #[(.ref aa), (.ref at_), (.ref al)] below meth c s₁ [] 0 0 := Stand.of_body Bd
  have e0 : s₁.heap = h0 := by rw [← hh, Bd.state]; rfl
  have N0 := Fr.nil n0
  have pre0 : ∀ t, Sp p e below m s₁ 0 #[vr aa, vr at_, vr al, .unset, .unset, .unset, .unset, .unset, .unset] [] t → Steps p.tables e below (s₁.setTop (entryFrame m #[(.ref aa), (.ref at_), (.ref al)] 9)) t := fun t k => castTop (ef_7n3 m aa at_ al) k
  generalize s₁.setTop (entryFrame m #[(.ref aa), (.ref at_), (.ref al)] 9) = G0 at pre0 ⊢
  have it : ∀ (G0 Tq : State) (lq : List Loc) (kc : Int32) (iv : Int32) (sv : Int32) (pv : Int32) (cj : Int32) (sl : Slot), Stand p l e ({ frames := 5, cells := 0, slots := 0, locals := 70 } : Room) s m #[(.ref aa), (.ref at_), (.ref al)] below meth c Tq lq 0 0 → Tq.heap = h0 → Fr n0 lq → (¬ iv < (0 : Int32)) → (iv < (3 : Int32)) → (([(.int (own_b pa0)), (.int (own_b pa1)), (.int (own_b pa2))] : List Value).getD iv.toNatClampNeg (.int 0) = .int (own_b cj)) → (0 ≤ cj.toInt ∧ cj.toInt ≤ 255) → (sl = .unset ∨ ∃ z : Int32, sl = vi z) → (¬ (gv = 0 ∧ own_dg cj = 0)) → (∀ t, Sp p e below m Tq 113 #[vr aa, vr at_, vr al, vi 2, vi kc, vi sv, vi pv, vi iv, sl] [] t → SG p e below G0 t) → ∃ (Tm1320 : State) (lm1320 : List Loc) (s_ : Int32) (p_ : Int32), Stand p l e ({ frames := 5, cells := 0, slots := 0, locals := 70 } : Room) s m #[(.ref aa), (.ref at_), (.ref al)] below meth c Tm1320 lm1320 0 0 ∧ Tm1320.heap = h0 ∧ Fr n0 lm1320 ∧ (s_ = own_sm cj pv sv ∧ p_ = own_ps cj pv) ∧ ∀ t, Sp p e below m Tm1320 113 #[vr aa, vr at_, vr al, vi 2, vi kc, vi s_, vi p_, vi (iv + (-1 : Int32)), vi cj] [] t → SG p e below G0 t := by
    intro G0 Tq lq kc iv sv pv cj sl Xq eq_ Nq h0i hlt hget hpj hsl hbd preq
    obtain ⟨Tm1320, lm1320, s_, p_, Xm1320, em1320, Nm1320, hv1322, pre1321⟩ : ∃ (Tm1320 : State) (lm1320 : List Loc) (s_ : Int32) (p_ : Int32), Stand p l e ({ frames := 5, cells := 0, slots := 0, locals := 70 } : Room) s m #[(.ref aa), (.ref at_), (.ref al)] below meth c Tm1320 lm1320 0 0 ∧ Tm1320.heap = h0 ∧ Fr n0 lm1320 ∧ (s_ = own_sm cj pv sv ∧ p_ = own_ps cj pv) ∧ ∀ t, Sp p e below m Tm1320 113 #[vr aa, vr at_, vr al, vi 2, vi kc, vi s_, vi p_, vi (iv + (-1 : Int32)), vi cj] [] t → SG p e below G0 t := by
      obtain ⟨T1309, X1309, e1309, st1309⟩ := getF Xq hx hZ hown (host := "") (Or.inl (H 61 _ rfl)) Via.refl eq_ Fr_start (g := (mkF m 116 #[vr aa, vr at_, vr al, vi 2, vi kc, vi sv, vi pv, vi iv, sl] [(.ref aa), (.int iv)])) rfl rfl (hb hby d7_116)
      obtain ⟨cq1310, kq1310, q1310a, q1310b, q1310c⟩ := isOf hZ e1309 Et
      obtain ⟨_, _, ⟨T1310, L1310, k1310, n1310⟩, -, X1310, ⟨Lc1310, hQ1310, l1310, y1310, z1310⟩, st1310⟩ := X1309.interfaceBack hx hown (mvT hZ (H 83 _ rfl)) (mvT hZ (H 84 _ rfl)) (mvT hZ (H 85 _ rfl)) (mvT hZ (H 86 _ rfl)) (mvT hZ (H 87 _ rfl)) (mvT hZ (H 88 _ rfl)) (mvT hZ (H 89 _ rfl)) (mvT hZ (H 53 _ rfl)) (by decide) (backOf (W := 0) (rm14 l Z a0 hw [] at_ iv cs vf ab kb (3 : Int32) [(.int (own_b pa0)), (.int (own_b pa1)), (.int (own_b pa2))] (own_b cj) h0 n0 Z0 O0 Scs hcs Ssf hvf Et Fv Fc Va h0i hlt hget) hZ (H 90 _ rfl) (H 9 _ rfl) (by decide) (by decide)) q1310a q1310b q1310c (g := (mkF m 125 #[vr aa, vr at_, vr al, vi 2, vi kc, vi sv, vi pv, vi iv, sl] [(.int iv), (.ref at_)])) rfl (by rw [hml]; rfl) (Steps.refl _) (argsL := [(.int iv)]) (rest := []) (lenOf own_pd356 rfl) rfl (Nat.le_of_eq rfl) (hb hby d7_125) (fun _ _ => ⟨rfl, e1309, Nat.zero_le _, Nat.zero_le _⟩)
      dsimp only [Pt.U, Pt.locs, Pt.cells, Pt.slots] at X1310 l1310 y1310 z1310 st1310 hQ1310
      rw [l1310, y1310, z1310] at X1310
      obtain ⟨rfl, Nq1310, e1310⟩ := hQ1310
      have N1310 := Fr.app Nq Nq1310
      have pre1311 : ∀ t, Sp p e below m T1310 130 #[vr aa, vr at_, vr al, vi 2, vi kc, vi sv, vi pv, vi iv, sl] [(.int (own_lat (own_b cj)))] t → SG p e below G0 t := by
        intro t k
        refine preq t ?_
        show Sp p e below m Tq 113 #[vr aa, vr at_, vr al, vi 2, vi kc, vi sv, vi pv, vi iv, sl] [] _
        refine XS.iload Xq.here hx rfl (hb hby d7_113) rfl ?_
        refine XS.aloadN Xq.here hx rfl (hb hby d7_115) rfl rfl ?_
        refine st1309 _ ?_
        show Sp p e below m T1309 119 #[vr aa, vr at_, vr al, vi 2, vi kc, vi sv, vi pv, vi iv, sl] [(.int 0), (.int iv)] _
        refine XS.icmpNo X1309.here hx rfl (hb hby d7_119) rfl (flt (h0i : ¬ (iv < (0 : Int32)))).1 ?_
        refine XS.aloadN X1309.here hx rfl (hb hby d7_122) rfl rfl ?_
        refine XS.iload X1309.here hx rfl (hb hby d7_123) rfl ?_
        refine st1310.trans ?_
        exact k
      rw [show (own_lat (own_b cj)) = cj from own_at hpj] at pre1311
      obtain ⟨_, _, ⟨T1312, L1312, k1312, n1312⟩, -, X1312, ⟨Lc1312, hQ1312, l1312, y1312, z1312⟩, st1312⟩ := Jvm.LawKit.callS X1310 hx hown (mvT hZ (H 128 _ rfl)) (mvT hZ (H 114 _ rfl)) (mvT hZ (H 36 _ rfl)) (mvT hZ (H 115 _ rfl)) (by decide) (backOf (W := 0) (rm20 l Z a0 hw [] cj  h0 n0 Z0 ) hZ (H 115 _ rfl) (H 36 _ rfl) (by decide) (by decide)) (g := (mkF m 134 #[vr aa, vr at_, vr al, vi 2, vi kc, vi sv, vi pv, vi iv, vi cj] [(.int cj)])) rfl (by rw [hml]; rfl) (argsL := [(.int cj)]) (rest := []) (lenOf own_pd215 rfl) rfl (Nat.le_of_eq rfl) (hb hby d7_134) (fun _ _ => ⟨rfl, e1310, Nat.zero_le _, Nat.zero_le _⟩)
      dsimp only [Pt.U, Pt.locs, Pt.cells, Pt.slots] at X1312 l1312 y1312 z1312 st1312 hQ1312
      rw [l1312, y1312, z1312] at X1312
      obtain ⟨rfl, Nq1312, e1312⟩ := hQ1312
      have N1312 := Fr.app N1310 Nq1312
      have pre1313 : ∀ t, Sp p e below m T1312 137 #[vr aa, vr at_, vr al, vi 2, vi kc, vi sv, vi pv, vi iv, vi cj] [(.int (own_dg cj))] t → SG p e below G0 t := by
        intro t k
        refine pre1311 t ?_
        show Sp p e below m T1310 130 #[vr aa, vr at_, vr al, vi 2, vi kc, vi sv, vi pv, vi iv, sl] [(.int cj)] _
        refine XS.istore X1310.here hx rfl (hb hby d7_130) rfl (l' := #[vr aa, vr at_, vr al, vi 2, vi kc, vi sv, vi pv, vi iv, vi cj]) (by rcases hsl with rfl | ⟨z, rfl⟩ <;> rfl) ?_
        refine XS.iload X1310.here hx rfl (hb hby d7_132) rfl ?_
        refine st1312 _ ?_
        exact k
      by_cases hc137_1314 : (own_dg cj) = (0 : Int32)
      · obtain ⟨T1315, X1315, e1315, st1315⟩ := getF X1312 hx hZ hown (host := "") (Or.inl (H 81 _ rfl)) Via.refl e1312 Fr_ignoresOthers (g := (mkF m 168 #[vr aa, vr at_, vr al, vi 2, vi kc, vi sv, vi pv, vi iv, vi cj] [(.ref aa)])) rfl rfl (hb hby d7_168)
        have pre1316 : ∀ t, Sp p e below m T1315 113 #[vr aa, vr at_, vr al, vi 2, vi kc, vi sv, vi pv, vi (iv + (-1 : Int32)), vi cj] [] t → SG p e below G0 t := by
          intro t k
          refine pre1313 t ?_
          show Sp p e below m T1312 137 #[vr aa, vr at_, vr al, vi 2, vi kc, vi sv, vi pv, vi iv, vi cj] [(.int (own_dg cj))] _
          refine XS.ifYes X1312.here hx rfl (pc0 := 137) (pc' := 167) rfl (hb hby d7_137) rfl ((if0 _ _).trans (teq hc137_1314).1) (by decide) (by decide) ?_
          refine XS.aloadN X1312.here hx rfl (hb hby d7_167) rfl rfl ?_
          refine st1315 _ ?_
          show Sp p e below m T1315 171 #[vr aa, vr at_, vr al, vi 2, vi kc, vi sv, vi pv, vi iv, vi cj] [(.int gv)] _
          refine XS.ifYes X1315.here hx rfl (pc0 := 171) (pc' := 176) rfl (hb hby d7_171) rfl ((if0 _ _).trans (feq (fun q => hbd ⟨q, hc137_1314⟩ : ¬ (gv = (0 : Int32)))).2) (by decide) (by decide) ?_
          refine XS.iinc X1315.here hx rfl (hb hby d7_176) rfl (l' := #[vr aa, vr at_, vr al, vi 2, vi kc, vi sv, vi pv, vi (iv + (-1 : Int32)), vi cj]) rfl ?_
          refine XS.goto X1315.here hx rfl (pc0 := 179) (pc' := 113) rfl (hb hby d7_179) (by decide) (by decide) ?_
          exact k
        exact ⟨T1315, _, sv, pv, X1315, e1315, N1312, (by exact ⟨by rw [own_sm, if_pos hc137_1314], by rw [own_ps, if_pos hc137_1314]⟩), pre1316⟩
      · obtain ⟨cq1317, kq1317, q1317a, q1317b, q1317c⟩ := isOf hZ e1312 El
        obtain ⟨_, _, ⟨T1317, L1317, k1317, n1317⟩, -, X1317, ⟨Lc1317, hQ1317, l1317, y1317, z1317⟩, st1317⟩ := X1312.virtualBack hx hown (mvT hZ (H 129 _ rfl)) (mvT hZ (H 130 _ rfl)) (own_nf (args := #[]) (mvT hZ (H 111 _ rfl)) rfl) (mvT hZ (H 131 _ rfl)) (mvT hZ (H 132 _ rfl)) (by decide) (backOf (W := 1) (rm24 l Z a0 hw [] al (pv + (1 : Int32)) (cj - (48 : Int32))  h0 n0 Z0 ) hZ (H 133 _ rfl) (H 120 _ rfl) (by decide) (by decide)) q1317a q1317c (g := (mkF m 153 #[vr aa, vr at_, vr al, vi 2, vi kc, vi sv, vi (pv + (1 : Int32)), vi iv, vi cj] [(.int (cj - (48 : Int32))), (.int (pv + (1 : Int32))), (.ref al), (.int sv)])) rfl (by rw [hml]; rfl) (Steps.refl _) (argsL := [(.int (pv + (1 : Int32))), (.int (cj - (48 : Int32)))]) (rest := [(.int sv)]) (lenOf own_pd452 rfl) rfl (Nat.le_of_eq rfl) (hb hby d7_153) (fun _ _ => ⟨rfl, e1312, Nat.zero_le _, Nat.zero_le _⟩)
        dsimp only [Pt.U, Pt.locs, Pt.cells, Pt.slots] at X1317 l1317 y1317 z1317 st1317 hQ1317
        rw [l1317, y1317, z1317] at X1317
        obtain ⟨rfl, Nq1317, e1317⟩ := hQ1317
        have N1317 := Fr.app N1312 Nq1317
        obtain ⟨cq1318, kq1318, q1318a, q1318b, q1318c⟩ := isOf hZ e1317 El
        obtain ⟨_, _, ⟨T1318, L1318, k1318, n1318⟩, -, X1318, ⟨Lc1318, hQ1318, l1318, y1318, z1318⟩, st1318⟩ := X1317.virtualBack hx hown (mvT hZ (H 134 _ rfl)) (mvT hZ (H 135 _ rfl)) (notFace_of_selects (args := #[]) (mvT hZ (H 137 _ rfl))) (mvT hZ (H 137 _ rfl)) (mvT hZ (H 136 _ rfl)) (by decide) (backOf (W := 1) (rm25 l Z a0 hw [] al  h0 n0 Z0 Fm) hZ (H 138 _ rfl) (H 36 _ rfl) (by decide) (by decide)) q1318a q1318c (g := (mkF m 158 #[vr aa, vr at_, vr al, vi 2, vi kc, vi sv, vi (pv + (1 : Int32)), vi iv, vi cj] [(.ref al), (.int (sv + (own_tO (pv + (1 : Int32)) (cj - (48 : Int32)))))])) rfl (by rw [hml]; rfl) (Steps.refl _) (argsL := []) (rest := [(.int (sv + (own_tO (pv + (1 : Int32)) (cj - (48 : Int32)))))]) (lenOf own_pd368 rfl) rfl (Nat.le_of_eq rfl) (hb hby d7_158) (fun _ _ => ⟨rfl, e1317, Nat.zero_le _, Nat.zero_le _⟩)
        dsimp only [Pt.U, Pt.locs, Pt.cells, Pt.slots] at X1318 l1318 y1318 z1318 st1318 hQ1318
        rw [l1318, y1318, z1318] at X1318
        obtain ⟨rfl, Nq1318, e1318⟩ := hQ1318
        have N1318 := Fr.app N1317 Nq1318
        have pre1319 : ∀ t, Sp p e below m T1318 113 #[vr aa, vr at_, vr al, vi 2, vi kc, vi ((sv + (own_tO (pv + (1 : Int32)) (cj - (48 : Int32)))) % (10 : Int32)), vi (pv + (1 : Int32)), vi (iv + (-1 : Int32)), vi cj] [] t → SG p e below G0 t := by
          intro t k
          refine pre1313 t ?_
          show Sp p e below m T1312 137 #[vr aa, vr at_, vr al, vi 2, vi kc, vi sv, vi pv, vi iv, vi cj] [(.int (own_dg cj))] _
          refine XS.ifNo X1312.here hx rfl (hb hby d7_137) rfl ((if0 _ _).trans (feq hc137_1314).1) ?_
          refine XS.iinc X1312.here hx rfl (hb hby d7_140) rfl (l' := #[vr aa, vr at_, vr al, vi 2, vi kc, vi sv, vi (pv + (1 : Int32)), vi iv, vi cj]) rfl ?_
          refine XS.iload X1312.here hx rfl (hb hby d7_143) rfl ?_
          refine XS.aloadN X1312.here hx rfl (hb hby d7_145) rfl rfl ?_
          refine XS.iload X1312.here hx rfl (hb hby d7_146) rfl ?_
          refine XS.iload X1312.here hx rfl (hb hby d7_148) rfl ?_
          refine XS.bipush X1312.here hx rfl (hb hby d7_150) ?_
          refine XS.isub X1312.here hx rfl (hb hby d7_152) rfl ?_
          show Sp p e below m T1312 153 #[vr aa, vr at_, vr al, vi 2, vi kc, vi sv, vi (pv + (1 : Int32)), vi iv, vi cj] [(.int (cj - (48 : Int32))), (.int (pv + (1 : Int32))), (.ref al), (.int sv)] _
          refine st1317.trans ?_
          show Sp p e below m T1317 156 #[vr aa, vr at_, vr al, vi 2, vi kc, vi sv, vi (pv + (1 : Int32)), vi iv, vi cj] [(.int (own_tO (pv + (1 : Int32)) (cj - (48 : Int32)))), (.int sv)] _
          refine XS.iadd X1317.here hx rfl (hb hby d7_156) rfl ?_
          refine XS.aloadN X1317.here hx rfl (hb hby d7_157) rfl rfl ?_
          refine st1318.trans ?_
          show Sp p e below m T1318 161 #[vr aa, vr at_, vr al, vi 2, vi kc, vi sv, vi (pv + (1 : Int32)), vi iv, vi cj] [(.int 10), (.int (sv + (own_tO (pv + (1 : Int32)) (cj - (48 : Int32)))))] _
          refine iremM X1318 hx rfl (hb hby d7_161) rfl (by decide) ?_
          show Sp p e below m T1318 162 #[vr aa, vr at_, vr al, vi 2, vi kc, vi sv, vi (pv + (1 : Int32)), vi iv, vi cj] [(.int ((sv + (own_tO (pv + (1 : Int32)) (cj - (48 : Int32)))) % (10 : Int32)))] _
          refine XS.istore X1318.here hx rfl (hb hby d7_162) rfl (l' := #[vr aa, vr at_, vr al, vi 2, vi kc, vi ((sv + (own_tO (pv + (1 : Int32)) (cj - (48 : Int32)))) % (10 : Int32)), vi (pv + (1 : Int32)), vi iv, vi cj]) rfl ?_
          refine XS.goto X1318.here hx rfl (pc0 := 164) (pc' := 176) rfl (hb hby d7_164) (by decide) (by decide) ?_
          refine XS.iinc X1318.here hx rfl (hb hby d7_176) rfl (l' := #[vr aa, vr at_, vr al, vi 2, vi kc, vi ((sv + (own_tO (pv + (1 : Int32)) (cj - (48 : Int32)))) % (10 : Int32)), vi (pv + (1 : Int32)), vi (iv + (-1 : Int32)), vi cj]) rfl ?_
          refine XS.goto X1318.here hx rfl (pc0 := 179) (pc' := 113) rfl (hb hby d7_179) (by decide) (by decide) ?_
          exact k
        exact ⟨T1318, _, ((sv + (own_tO (pv + (1 : Int32)) (cj - (48 : Int32)))) % (10 : Int32)), (pv + (1 : Int32)), X1318, e1318, N1318, (by exact ⟨by rw [own_sm, if_neg hc137_1314], by rw [own_ps, if_neg hc137_1314]⟩), pre1319⟩
    exact ⟨Tm1320, lm1320, s_, p_, Xm1320, em1320, Nm1320, hv1322, pre1321⟩
  have bd : ∀ (G0 Tq : State) (lq : List Loc) (kc : Int32) (iv : Int32) (sv : Int32) (pv : Int32) (cj : Int32) (sl : Slot), Stand p l e ({ frames := 5, cells := 0, slots := 0, locals := 70 } : Room) s m #[(.ref aa), (.ref at_), (.ref al)] below meth c Tq lq 0 0 → Tq.heap = h0 → Fr n0 lq → (¬ iv < (0 : Int32)) → (iv < (3 : Int32)) → (([(.int (own_b pa0)), (.int (own_b pa1)), (.int (own_b pa2))] : List Value).getD iv.toNatClampNeg (.int 0) = .int (own_b cj)) → (0 ≤ cj.toInt ∧ cj.toInt ≤ 255) → (sl = .unset ∨ ∃ z : Int32, sl = vi z) → (gv = 0 ∧ own_dg cj = 0) → (∀ t, Sp p e below m Tq 113 #[vr aa, vr at_, vr al, vi 2, vi kc, vi sv, vi pv, vi iv, sl] [] t → SG p e below G0 t) → ∃ (Tm1330 : State) (lm1330 : List Loc), Stand p l e ({ frames := 5, cells := 0, slots := 0, locals := 70 } : Room) s m #[(.ref aa), (.ref at_), (.ref al)] below meth c Tm1330 lm1330 0 0 ∧ Tm1330.heap = h0 ∧ Fr n0 lm1330 ∧ (True) ∧ ∀ t, Sp p e below m Tm1330 174 #[vr aa, vr at_, vr al, vi 2, vi kc, vi sv, vi pv, vi iv, vi cj] [] t → SG p e below G0 t := by
    intro G0 Tq lq kc iv sv pv cj sl Xq eq_ Nq h0i hlt hget hpj hsl hbd preq
    obtain ⟨Tm1330, lm1330, Xm1330, em1330, Nm1330, hv1332, pre1331⟩ : ∃ (Tm1330 : State) (lm1330 : List Loc), Stand p l e ({ frames := 5, cells := 0, slots := 0, locals := 70 } : Room) s m #[(.ref aa), (.ref at_), (.ref al)] below meth c Tm1330 lm1330 0 0 ∧ Tm1330.heap = h0 ∧ Fr n0 lm1330 ∧ (True) ∧ ∀ t, Sp p e below m Tm1330 174 #[vr aa, vr at_, vr al, vi 2, vi kc, vi sv, vi pv, vi iv, vi cj] [] t → SG p e below G0 t := by
      obtain ⟨T1324, X1324, e1324, st1324⟩ := getF Xq hx hZ hown (host := "") (Or.inl (H 61 _ rfl)) Via.refl eq_ Fr_start (g := (mkF m 116 #[vr aa, vr at_, vr al, vi 2, vi kc, vi sv, vi pv, vi iv, sl] [(.ref aa), (.int iv)])) rfl rfl (hb hby d7_116)
      obtain ⟨cq1325, kq1325, q1325a, q1325b, q1325c⟩ := isOf hZ e1324 Et
      obtain ⟨_, _, ⟨T1325, L1325, k1325, n1325⟩, -, X1325, ⟨Lc1325, hQ1325, l1325, y1325, z1325⟩, st1325⟩ := X1324.interfaceBack hx hown (mvT hZ (H 83 _ rfl)) (mvT hZ (H 84 _ rfl)) (mvT hZ (H 85 _ rfl)) (mvT hZ (H 86 _ rfl)) (mvT hZ (H 87 _ rfl)) (mvT hZ (H 88 _ rfl)) (mvT hZ (H 89 _ rfl)) (mvT hZ (H 53 _ rfl)) (by decide) (backOf (W := 0) (rm14 l Z a0 hw [] at_ iv cs vf ab kb (3 : Int32) [(.int (own_b pa0)), (.int (own_b pa1)), (.int (own_b pa2))] (own_b cj) h0 n0 Z0 O0 Scs hcs Ssf hvf Et Fv Fc Va h0i hlt hget) hZ (H 90 _ rfl) (H 9 _ rfl) (by decide) (by decide)) q1325a q1325b q1325c (g := (mkF m 125 #[vr aa, vr at_, vr al, vi 2, vi kc, vi sv, vi pv, vi iv, sl] [(.int iv), (.ref at_)])) rfl (by rw [hml]; rfl) (Steps.refl _) (argsL := [(.int iv)]) (rest := []) (lenOf own_pd356 rfl) rfl (Nat.le_of_eq rfl) (hb hby d7_125) (fun _ _ => ⟨rfl, e1324, Nat.zero_le _, Nat.zero_le _⟩)
      dsimp only [Pt.U, Pt.locs, Pt.cells, Pt.slots] at X1325 l1325 y1325 z1325 st1325 hQ1325
      rw [l1325, y1325, z1325] at X1325
      obtain ⟨rfl, Nq1325, e1325⟩ := hQ1325
      have N1325 := Fr.app Nq Nq1325
      have pre1326 : ∀ t, Sp p e below m T1325 130 #[vr aa, vr at_, vr al, vi 2, vi kc, vi sv, vi pv, vi iv, sl] [(.int (own_lat (own_b cj)))] t → SG p e below G0 t := by
        intro t k
        refine preq t ?_
        show Sp p e below m Tq 113 #[vr aa, vr at_, vr al, vi 2, vi kc, vi sv, vi pv, vi iv, sl] [] _
        refine XS.iload Xq.here hx rfl (hb hby d7_113) rfl ?_
        refine XS.aloadN Xq.here hx rfl (hb hby d7_115) rfl rfl ?_
        refine st1324 _ ?_
        show Sp p e below m T1324 119 #[vr aa, vr at_, vr al, vi 2, vi kc, vi sv, vi pv, vi iv, sl] [(.int 0), (.int iv)] _
        refine XS.icmpNo X1324.here hx rfl (hb hby d7_119) rfl (flt (h0i : ¬ (iv < (0 : Int32)))).1 ?_
        refine XS.aloadN X1324.here hx rfl (hb hby d7_122) rfl rfl ?_
        refine XS.iload X1324.here hx rfl (hb hby d7_123) rfl ?_
        refine st1325.trans ?_
        exact k
      rw [show (own_lat (own_b cj)) = cj from own_at hpj] at pre1326
      obtain ⟨_, _, ⟨T1327, L1327, k1327, n1327⟩, -, X1327, ⟨Lc1327, hQ1327, l1327, y1327, z1327⟩, st1327⟩ := Jvm.LawKit.callS X1325 hx hown (mvT hZ (H 128 _ rfl)) (mvT hZ (H 114 _ rfl)) (mvT hZ (H 36 _ rfl)) (mvT hZ (H 115 _ rfl)) (by decide) (backOf (W := 0) (rm20 l Z a0 hw [] cj  h0 n0 Z0 ) hZ (H 115 _ rfl) (H 36 _ rfl) (by decide) (by decide)) (g := (mkF m 134 #[vr aa, vr at_, vr al, vi 2, vi kc, vi sv, vi pv, vi iv, vi cj] [(.int cj)])) rfl (by rw [hml]; rfl) (argsL := [(.int cj)]) (rest := []) (lenOf own_pd215 rfl) rfl (Nat.le_of_eq rfl) (hb hby d7_134) (fun _ _ => ⟨rfl, e1325, Nat.zero_le _, Nat.zero_le _⟩)
      dsimp only [Pt.U, Pt.locs, Pt.cells, Pt.slots] at X1327 l1327 y1327 z1327 st1327 hQ1327
      rw [l1327, y1327, z1327] at X1327
      obtain ⟨rfl, Nq1327, e1327⟩ := hQ1327
      have N1327 := Fr.app N1325 Nq1327
      obtain ⟨T1328, X1328, e1328, st1328⟩ := getF X1327 hx hZ hown (host := "") (Or.inl (H 81 _ rfl)) Via.refl e1327 Fr_ignoresOthers (g := (mkF m 168 #[vr aa, vr at_, vr al, vi 2, vi kc, vi sv, vi pv, vi iv, vi cj] [(.ref aa)])) rfl rfl (hb hby d7_168)
      have pre1329 : ∀ t, Sp p e below m T1328 174 #[vr aa, vr at_, vr al, vi 2, vi kc, vi sv, vi pv, vi iv, vi cj] [] t → SG p e below G0 t := by
        intro t k
        refine pre1326 t ?_
        show Sp p e below m T1325 130 #[vr aa, vr at_, vr al, vi 2, vi kc, vi sv, vi pv, vi iv, sl] [(.int cj)] _
        refine XS.istore X1325.here hx rfl (hb hby d7_130) rfl (l' := #[vr aa, vr at_, vr al, vi 2, vi kc, vi sv, vi pv, vi iv, vi cj]) (by rcases hsl with rfl | ⟨z, rfl⟩ <;> rfl) ?_
        refine XS.iload X1325.here hx rfl (hb hby d7_132) rfl ?_
        refine st1327 _ ?_
        show Sp p e below m T1327 137 #[vr aa, vr at_, vr al, vi 2, vi kc, vi sv, vi pv, vi iv, vi cj] [(.int (own_dg cj))] _
        refine XS.ifYes X1327.here hx rfl (pc0 := 137) (pc' := 167) rfl (hb hby d7_137) rfl ((if0 _ _).trans (teq (hbd.2 : ((own_dg cj) = (0 : Int32)))).1) (by decide) (by decide) ?_
        refine XS.aloadN X1327.here hx rfl (hb hby d7_167) rfl rfl ?_
        refine st1328 _ ?_
        show Sp p e below m T1328 171 #[vr aa, vr at_, vr al, vi 2, vi kc, vi sv, vi pv, vi iv, vi cj] [(.int gv)] _
        refine XS.ifNo X1328.here hx rfl (hb hby d7_171) rfl ((if0 _ _).trans (teq (hbd.1 : (gv = (0 : Int32)))).2) ?_
        exact k
      exact ⟨T1328, _, X1328, e1328, N1327, (by trivial), pre1329⟩
    exact ⟨Tm1330, lm1330, Xm1330, em1330, Nm1330, hv1332, pre1331⟩
  obtain ⟨T1333, X1333, e1333, st1333⟩ := getF X0 hx hZ hown (host := "") (Or.inl (H 43 _ rfl)) Via.refl e0 Fr_end (g := (mkF m 1 #[vr aa, vr at_, vr al, .unset, .unset, .unset, .unset, .unset, .unset] [(.ref aa)])) rfl rfl (hb hby d7_1)
  obtain ⟨cq1334, kq1334, q1334a, q1334b, q1334c⟩ := isOf hZ e1333 Et
  obtain ⟨_, _, ⟨T1334, L1334, k1334, n1334⟩, -, X1334, ⟨Lc1334, hQ1334, l1334, y1334, z1334⟩, st1334⟩ := X1333.interfaceBack hx hown (mvT hZ (H 46 _ rfl)) (mvT hZ (H 47 _ rfl)) (mvT hZ (H 48 _ rfl)) (mvT hZ (H 49 _ rfl)) (mvT hZ (H 50 _ rfl)) (mvT hZ (H 51 _ rfl)) (mvT hZ (H 52 _ rfl)) (mvT hZ (H 53 _ rfl)) (by decide) (backOf (W := 0) (rm8 l Z a0 hw [] at_ cs vf ab kb (3 : Int32) [(.int (own_b pa0)), (.int (own_b pa1)), (.int (own_b pa2))] h0 n0 Z0 O0 Scs hcs Ssf hvf Et Fv Fc Va) hZ (H 54 _ rfl) (H 9 _ rfl) (by decide) (by decide)) q1334a q1334b q1334c (g := (mkF m 10 #[vr aa, vr at_, vr al, .unset, .unset, .unset, .unset, .unset, .unset] [(.ref at_)])) rfl (by rw [hml]; rfl) (Steps.refl _) (argsL := []) (rest := []) (lenOf own_pd368 rfl) rfl (Nat.le_of_eq rfl) (hb hby d7_10) (fun _ _ => ⟨rfl, e1333, Nat.zero_le _, Nat.zero_le _⟩)
  dsimp only [Pt.U, Pt.locs, Pt.cells, Pt.slots] at X1334 l1334 y1334 z1334 st1334 hQ1334
  rw [l1334, y1334, z1334] at X1334
  obtain ⟨rfl, Nq1334, e1334⟩ := hQ1334
  have N1334 := Fr.app N0 Nq1334
  obtain ⟨T1335, X1335, e1335, st1335⟩ := getF X1334 hx hZ hown (host := "") (Or.inl (H 61 _ rfl)) Via.refl e1334 Fr_start (g := (mkF m 27 #[vr aa, vr at_, vr al, vi 2, .unset, .unset, .unset, .unset, .unset] [(.ref aa), (.int 2)])) rfl rfl (hb hby d7_27)
  obtain ⟨cq1336, kq1336, q1336a, q1336b, q1336c⟩ := isOf hZ e1335 Et
  obtain ⟨_, _, ⟨T1336, L1336, k1336, n1336⟩, -, X1336, ⟨Lc1336, hQ1336, l1336, y1336, z1336⟩, st1336⟩ := X1335.interfaceBack hx hown (mvT hZ (H 46 _ rfl)) (mvT hZ (H 47 _ rfl)) (mvT hZ (H 48 _ rfl)) (mvT hZ (H 49 _ rfl)) (mvT hZ (H 50 _ rfl)) (mvT hZ (H 51 _ rfl)) (mvT hZ (H 52 _ rfl)) (mvT hZ (H 53 _ rfl)) (by decide) (backOf (W := 1) (rm8 l Z a0 hw [] at_ cs vf ab kb (3 : Int32) [(.int (own_b pa0)), (.int (own_b pa1)), (.int (own_b pa2))] h0 n0 Z0 O0 Scs hcs Ssf hvf Et Fv Fc Va) hZ (H 54 _ rfl) (H 9 _ rfl) (by decide) (by decide)) q1336a q1336b q1336c (g := (mkF m 35 #[vr aa, vr at_, vr al, vi 2, .unset, .unset, .unset, .unset, .unset] [(.ref at_), (.int 2)])) rfl (by rw [hml]; rfl) (Steps.refl _) (argsL := []) (rest := [(.int 2)]) (lenOf own_pd368 rfl) rfl (Nat.le_of_eq rfl) (hb hby d7_35) (fun _ _ => ⟨rfl, e1335, Nat.zero_le _, Nat.zero_le _⟩)
  dsimp only [Pt.U, Pt.locs, Pt.cells, Pt.slots] at X1336 l1336 y1336 z1336 st1336 hQ1336
  rw [l1336, y1336, z1336] at X1336
  obtain ⟨rfl, Nq1336, e1336⟩ := hQ1336
  have N1336 := Fr.app N1334 Nq1336
  obtain ⟨T1337, X1337, e1337, st1337⟩ := getF X1336 hx hZ hown (host := "") (Or.inl (H 75 _ rfl)) Via.refl e1336 Fr_checkAt (g := (mkF m 44 #[vr aa, vr at_, vr al, vi 2, .unset, .unset, .unset, .unset, .unset] [(.ref aa)])) rfl rfl (hb hby d7_44)
  obtain ⟨cq1338, kq1338, q1338a, q1338b, q1338c⟩ := isOf hZ e1337 Et
  obtain ⟨_, _, ⟨T1338, L1338, k1338, n1338⟩, -, X1338, ⟨Lc1338, hQ1338, l1338, y1338, z1338⟩, st1338⟩ := X1337.interfaceBack hx hown (mvT hZ (H 46 _ rfl)) (mvT hZ (H 47 _ rfl)) (mvT hZ (H 48 _ rfl)) (mvT hZ (H 49 _ rfl)) (mvT hZ (H 50 _ rfl)) (mvT hZ (H 51 _ rfl)) (mvT hZ (H 52 _ rfl)) (mvT hZ (H 53 _ rfl)) (by decide) (backOf (W := 1) (rm8 l Z a0 hw [] at_ cs vf ab kb (3 : Int32) [(.int (own_b pa0)), (.int (own_b pa1)), (.int (own_b pa2))] h0 n0 Z0 O0 Scs hcs Ssf hvf Et Fv Fc Va) hZ (H 54 _ rfl) (H 9 _ rfl) (by decide) (by decide)) q1338a q1338b q1338c (g := (mkF m 48 #[vr aa, vr at_, vr al, vi 2, .unset, .unset, .unset, .unset, .unset] [(.ref at_), (.int (-1))])) rfl (by rw [hml]; rfl) (Steps.refl _) (argsL := []) (rest := [(.int (-1))]) (lenOf own_pd368 rfl) rfl (Nat.le_of_eq rfl) (hb hby d7_48) (fun _ _ => ⟨rfl, e1337, Nat.zero_le _, Nat.zero_le _⟩)
  dsimp only [Pt.U, Pt.locs, Pt.cells, Pt.slots] at X1338 l1338 y1338 z1338 st1338 hQ1338
  rw [l1338, y1338, z1338] at X1338
  obtain ⟨rfl, Nq1338, e1338⟩ := hQ1338
  have N1338 := Fr.app N1336 Nq1338
  obtain ⟨T1339, X1339, e1339, st1339⟩ := getF X1338 hx hZ hown (host := "") (Or.inl (H 75 _ rfl)) Via.refl e1338 Fr_checkAt (g := (mkF m 59 #[vr aa, vr at_, vr al, vi 2, .unset, .unset, .unset, .unset, .unset] [(.ref aa)])) rfl rfl (hb hby d7_59)
  obtain ⟨cq1340, q1340, q1340'⟩ := Er.cell
  obtain ⟨_, _, ⟨T1340, L1340, k1340, n1340⟩, -, X1340, ⟨Lc1340, hQ1340, l1340, y1340, z1340⟩, st1340⟩ := X1339.privateBack hx hown (mvT hZ (H 77 _ rfl)) (mvT hZ (H 78 _ rfl)) (own_selpriv (by decide) (mvT hZ (H 41 _ rfl)) (mvP hZ (H 79 _ rfl)) (mvT hZ (H 78 _ rfl)) rfl) (Cond.privateMethod_at (mvP hZ (H 79 _ rfl) (args := #[]))) (mvT hZ (H 80 _ rfl)) (by decide) (backOf (W := 0) (rm13n3 l Z a0 hw [] aa at_ al cs vf ab kb gv pa0 pa1 pa2 h0 n0 Z0 O0 Scs hcs Ssf hvf Er Fr_end Fr_start Fr_checkAt Fr_ignoresOthers El Fm Et Fv Fc Va hp0 hp1 hp2) hZ (H 80 _ rfl) (H 31 _ rfl) (by decide) (by decide)) (g := (mkF m 70 #[vr aa, vr at_, vr al, vi 2, .unset, .unset, .unset, .unset, .unset] [(.ref al), (.int 2), (.ref at_), (.ref aa)])) rfl (by rw [hml]; rfl) (Steps.refl _) (a := aa) (by rw [e1339]; exact q1340) q1340' (argsL := [(.ref at_), (.int 2), (.ref al)]) (rest := []) (lenOf own_pd397 rfl) rfl (Nat.le_of_eq rfl) (hb hby d7_70) (fun _ _ => ⟨rfl, e1339, Nat.zero_le _, Nat.zero_le _⟩)
  dsimp only [Pt.U, Pt.locs, Pt.cells, Pt.slots] at X1340 l1340 y1340 z1340 st1340 hQ1340
  rw [l1340, y1340, z1340] at X1340
  obtain ⟨rrk_1340, rfl, Nq1340, e1340, p1340_0⟩ := hQ1340
  have N1340 := Fr.app N1338 Nq1340
  have pre1341 : ∀ t, Sp p e below m T1340 73 #[vr aa, vr at_, vr al, vi 2, .unset, .unset, .unset, .unset, .unset] [(.int rrk_1340)] t → SG p e below G0 t := by
    intro t k
    refine pre0 t ?_
    show Sp p e below m s₁ 0 #[vr aa, vr at_, vr al, .unset, .unset, .unset, .unset, .unset, .unset] [] _
    refine XS.aloadN X0.here hx rfl (hb hby d7_0) rfl rfl ?_
    refine st1333 _ ?_
    show Sp p e below m T1333 4 #[vr aa, vr at_, vr al, .unset, .unset, .unset, .unset, .unset, .unset] [(.int 2147483647)] _
    refine X1333.ldcInt hx hown (mvT hZ (H 45 _ rfl)) (g := (mkF m 4 #[vr aa, vr at_, vr al, .unset, .unset, .unset, .unset, .unset, .unset] [(.int 2147483647)])) rfl (hb hby d7_4) _ ?_
    show Sp p e below m T1333 6 #[vr aa, vr at_, vr al, .unset, .unset, .unset, .unset, .unset, .unset] [(.int 2147483647), (.int 2147483647)] _
    refine XS.icmpNo X1333.here hx rfl (hb hby d7_6) rfl (teq (by decide : ((2147483647 : Int32) = (2147483647 : Int32)))).2 ?_
    refine XS.aloadN X1333.here hx rfl (hb hby d7_9) rfl rfl ?_
    refine st1334.trans ?_
    show Sp p e below m T1334 15 #[vr aa, vr at_, vr al, .unset, .unset, .unset, .unset, .unset, .unset] [(.int 3)] _
    refine XS.iconst X1334.here hx rfl (hb hby d7_15) ?_
    refine XS.isub X1334.here hx rfl (hb hby d7_16) rfl ?_
    refine XS.goto X1334.here hx rfl (pc0 := 17) (pc' := 24) rfl (hb hby d7_17) (by decide) (by decide) ?_
    refine XS.istoreN X1334.here hx rfl (hb hby d7_24) rfl (l' := #[vr aa, vr at_, vr al, vi 2, .unset, .unset, .unset, .unset, .unset]) rfl ?_
    refine XS.iloadN X1334.here hx rfl (hb hby d7_25) rfl ?_
    refine XS.aloadN X1334.here hx rfl (hb hby d7_26) rfl rfl ?_
    refine st1335 _ ?_
    show Sp p e below m T1335 30 #[vr aa, vr at_, vr al, vi 2, .unset, .unset, .unset, .unset, .unset] [(.int 0), (.int 2)] _
    refine XS.icmpNo X1335.here hx rfl (hb hby d7_30) rfl (flt (by decide : ¬ ((2 : Int32) < (0 : Int32)))).1 ?_
    refine XS.iloadN X1335.here hx rfl (hb hby d7_33) rfl ?_
    refine XS.aloadN X1335.here hx rfl (hb hby d7_34) rfl rfl ?_
    refine st1336.trans ?_
    show Sp p e below m T1336 40 #[vr aa, vr at_, vr al, vi 2, .unset, .unset, .unset, .unset, .unset] [(.int 3), (.int 2)] _
    refine XS.icmpNo X1336.here hx rfl (hb hby d7_40) rfl (tlt (by decide : ((2 : Int32) < (3 : Int32)))).2.1 ?_
    refine XS.aloadN X1336.here hx rfl (hb hby d7_43) rfl rfl ?_
    refine st1337 _ ?_
    show Sp p e below m T1337 47 #[vr aa, vr at_, vr al, vi 2, .unset, .unset, .unset, .unset, .unset] [(.int (-1))] _
    refine XS.aloadN X1337.here hx rfl (hb hby d7_47) rfl rfl ?_
    refine st1338.trans ?_
    show Sp p e below m T1338 53 #[vr aa, vr at_, vr al, vi 2, .unset, .unset, .unset, .unset, .unset] [(.int 3), (.int (-1))] _
    refine XS.icmpYes X1338.here hx rfl (pc0 := 53) (pc' := 58) rfl (hb hby d7_53) rfl (tlt (by decide : ((-1 : Int32) < (3 : Int32)))).1 (by decide) (by decide) ?_
    refine XS.aloadN X1338.here hx rfl (hb hby d7_58) rfl rfl ?_
    refine st1339 _ ?_
    show Sp p e below m T1339 62 #[vr aa, vr at_, vr al, vi 2, .unset, .unset, .unset, .unset, .unset] [(.int (-1))] _
    refine XS.iconst X1339.here hx rfl (hb hby d7_62) ?_
    refine XS.icmpNo X1339.here hx rfl (hb hby d7_63) rfl (teq (by decide : ((-1 : Int32) = (-1 : Int32)))).2 ?_
    refine XS.aloadN X1339.here hx rfl (hb hby d7_66) rfl rfl ?_
    refine XS.aloadN X1339.here hx rfl (hb hby d7_67) rfl rfl ?_
    refine XS.iloadN X1339.here hx rfl (hb hby d7_68) rfl ?_
    refine XS.aloadN X1339.here hx rfl (hb hby d7_69) rfl rfl ?_
    refine st1340.trans ?_
    exact k
  rcases p1340_0 with hq1342 | hq1343 | hq1344 | hq1345 | hq1346
  · rw [hq1342.1] at pre1341
    obtain ⟨T1347, X1347, e1347, st1347⟩ := getF X1340 hx hZ hown (host := "") (Or.inl (H 75 _ rfl)) Via.refl e1340 Fr_checkAt (g := (mkF m 96 #[vr aa, vr at_, vr al, vi 2, vi 2, vi 0, vi 0, .unset, .unset] [(.ref aa)])) rfl rfl (hb hby d7_96)
    have pre1348 : ∀ t, Sp p e below m T1347 113 #[vr aa, vr at_, vr al, vi 2, vi 2, vi 0, vi 0, vi 1, .unset] [] t → SG p e below G0 t := by
      intro t k
      refine pre1341 t ?_
      show Sp p e below m T1340 73 #[vr aa, vr at_, vr al, vi 2, .unset, .unset, .unset, .unset, .unset] [(.int 2)] _
      refine XS.goto X1340.here hx rfl (pc0 := 73) (pc' := 80) rfl (hb hby d7_73) (by decide) (by decide) ?_
      refine XS.istore X1340.here hx rfl (hb hby d7_80) rfl (l' := #[vr aa, vr at_, vr al, vi 2, vi 2, .unset, .unset, .unset, .unset]) rfl ?_
      refine XS.iload X1340.here hx rfl (hb hby d7_82) rfl ?_
      refine XS.ifYes X1340.here hx rfl (pc0 := 84) (pc' := 89) rfl (hb hby d7_84) rfl ((if0 _ _).trans (flt (by decide : ¬ ((2 : Int32) < (0 : Int32)))).2.1) (by decide) (by decide) ?_
      refine XS.iconst X1340.here hx rfl (hb hby d7_89) ?_
      refine XS.istore X1340.here hx rfl (hb hby d7_90) rfl (l' := #[vr aa, vr at_, vr al, vi 2, vi 2, vi 0, .unset, .unset, .unset]) rfl ?_
      refine XS.iconst X1340.here hx rfl (hb hby d7_92) ?_
      refine XS.istore X1340.here hx rfl (hb hby d7_93) rfl (l' := #[vr aa, vr at_, vr al, vi 2, vi 2, vi 0, vi 0, .unset, .unset]) rfl ?_
      show Sp p e below m T1340 95 #[vr aa, vr at_, vr al, vi 2, vi 2, vi 0, vi 0, .unset, .unset] [] _
      refine XS.aloadN X1340.here hx rfl (hb hby d7_95) rfl rfl ?_
      refine st1347 _ ?_
      show Sp p e below m T1347 99 #[vr aa, vr at_, vr al, vi 2, vi 2, vi 0, vi 0, .unset, .unset] [(.int (-1))] _
      refine XS.iconst X1347.here hx rfl (hb hby d7_99) ?_
      refine XS.icmpNo X1347.here hx rfl (hb hby d7_100) rfl (teq (by decide : ((-1 : Int32) = (-1 : Int32)))).2 ?_
      refine XS.iload X1347.here hx rfl (hb hby d7_103) rfl ?_
      refine XS.iconst X1347.here hx rfl (hb hby d7_105) ?_
      refine XS.isub X1347.here hx rfl (hb hby d7_106) rfl ?_
      refine XS.goto X1347.here hx rfl (pc0 := 107) (pc' := 111) rfl (hb hby d7_107) (by decide) (by decide) ?_
      refine XS.istore X1347.here hx rfl (hb hby d7_111) rfl (l' := #[vr aa, vr at_, vr al, vi 2, vi 2, vi 0, vi 0, vi 1, .unset]) rfl ?_
      exact k
    rcases Classical.em (own_dg pa1 = 0) with hq1349 | hq1350
    · obtain ⟨Tm1351, lm1351, Xm1351, em1351, Nm1351, hv1351, pre1351⟩ := bd G0 T1347 _ (2 : Int32) (1 : Int32) (0 : Int32) (0 : Int32) pa1 (.unset) X1347 e1347 N1340 (by decide) (by decide) rfl hp1 (Or.inl rfl) ⟨(hq1342.2), hq1349⟩ pre1348
      obtain ⟨fs, hr, hrun, hended, hW, hsame⟩ := Xm1351.leave (v := some (.int 0)) (fun h => by rw [Bd.returns] at h; cases h)
      refine ⟨_, _, pre1351 _ ?_, hrun, hended, _, _, rfl, ?_, ⟨_, rfl⟩, hW, hsame.mono (by decide) (by decide)⟩
      · show Sp p e below m Tm1351 174 #[vr aa, vr at_, vr al, vi 2, vi 2, vi 0, vi 0, vi 1, vi pa1] [] _
        refine XS.iconst Xm1351.here hx rfl (hb hby d7_174) ?_
        exact retN Xm1351 hx (t := .boolean) Bd.returns (by simp) (hb hby d7_175) hr
      · show Q7n3 Z aa at_ al cs vf ab kb gv pa0 pa1 pa2 h0 n0 _ Tm1351.heap _
        rw [em1351]
        exact ⟨(by simp only [own_ac, if_pos (hq1342.2), own_a0, own_run0, -Int32.reduceAdd, if_pos hq1349]), Nm1351, rfl⟩
    · obtain ⟨Tm1352, lm1352, s1, p1, Xm1352, em1352, Nm1352, hv1352, pre1352⟩ := it G0 T1347 _ (2 : Int32) (1 : Int32) (0 : Int32) (0 : Int32) pa1 (.unset) X1347 e1347 N1340 (by decide) (by decide) rfl hp1 (Or.inl rfl) (fun q => hq1350 q.2) pre1348
      rw [show ((1 : Int32) + (-1 : Int32)) = (0 : Int32) from by decide] at pre1352
      have hw1353 : s1 = ((0 : Int32) + own_tO p1 (pa1 - 48)) % 10 ∧ p1 = (0 : Int32) + 1 := ⟨by rw [hv1352.1, hv1352.2, own_sm, own_ps, if_neg hq1350, if_neg hq1350], hv1352.2.trans (if_neg hq1350)⟩
      rcases Classical.em (own_dg pa0 = 0) with hq1354 | hq1355
      · obtain ⟨Tm1356, lm1356, Xm1356, em1356, Nm1356, hv1356, pre1356⟩ := bd G0 Tm1352 _ (2 : Int32) (0 : Int32) s1 p1 pa0 (.val (.int pa1)) Xm1352 em1352 Nm1352 (by decide) (by decide) rfl hp0 (Or.inr ⟨_, rfl⟩) ⟨(hq1342.2), hq1354⟩ pre1352
        obtain ⟨fs, hr, hrun, hended, hW, hsame⟩ := Xm1356.leave (v := some (.int 0)) (fun h => by rw [Bd.returns] at h; cases h)
        refine ⟨_, _, pre1356 _ ?_, hrun, hended, _, _, rfl, ?_, ⟨_, rfl⟩, hW, hsame.mono (by decide) (by decide)⟩
        · show Sp p e below m Tm1356 174 #[vr aa, vr at_, vr al, vi 2, vi 2, vi s1, vi p1, vi 0, vi pa0] [] _
          refine XS.iconst Xm1356.here hx rfl (hb hby d7_174) ?_
          exact retN Xm1356 hx (t := .boolean) Bd.returns (by simp) (hb hby d7_175) hr
        · show Q7n3 Z aa at_ al cs vf ab kb gv pa0 pa1 pa2 h0 n0 _ Tm1356.heap _
          rw [em1356]
          exact ⟨(by simp only [own_ac, if_pos (hq1342.2), own_a0, own_run0, -Int32.reduceAdd, if_neg hq1350, ← hw1353.1, ← hw1353.2, if_pos hq1354]), Nm1356, rfl⟩
      · obtain ⟨Tm1357, lm1357, s0, p0, Xm1357, em1357, Nm1357, hv1357, pre1357⟩ := it G0 Tm1352 _ (2 : Int32) (0 : Int32) s1 p1 pa0 (.val (.int pa1)) Xm1352 em1352 Nm1352 (by decide) (by decide) rfl hp0 (Or.inr ⟨_, rfl⟩) (fun q => hq1355 q.2) pre1352
        rw [show ((0 : Int32) + (-1 : Int32)) = (-1 : Int32) from by decide] at pre1357
        have hw1358 : s0 = (s1 + own_tO p0 (pa0 - 48)) % 10 ∧ p0 = p1 + 1 := ⟨by rw [hv1357.1, hv1357.2, own_sm, own_ps, if_neg hq1355, if_neg hq1355], hv1357.2.trans (if_neg hq1355)⟩
        obtain ⟨T1359, X1359, e1359, st1359⟩ := getF Xm1357 hx hZ hown (host := "") (Or.inl (H 61 _ rfl)) Via.refl em1357 Fr_start (g := (mkF m 116 #[vr aa, vr at_, vr al, vi 2, vi 2, vi s0, vi p0, vi (-1), vi pa0] [(.ref aa), (.int (-1))])) rfl rfl (hb hby d7_116)
        obtain ⟨cq1360, kq1360, q1360a, q1360b, q1360c⟩ := isOf hZ e1359 El
        obtain ⟨_, _, ⟨T1360, L1360, k1360, n1360⟩, -, X1360, ⟨Lc1360, hQ1360, l1360, y1360, z1360⟩, st1360⟩ := X1359.virtualBack hx hown (mvT hZ (H 116 _ rfl)) (mvT hZ (H 117 _ rfl)) (own_nf (args := #[]) (mvT hZ (H 111 _ rfl)) rfl) (mvT hZ (H 118 _ rfl)) (mvT hZ (H 119 _ rfl)) (by decide) (backOf (W := 0) (rm21 l Z a0 hw [] al s0  h0 n0 Z0 ) hZ (H 121 _ rfl) (H 120 _ rfl) (by decide) (by decide)) q1360a q1360c (g := (mkF m 185 #[vr aa, vr at_, vr al, vi 2, vi 2, vi s0, vi p0, vi (-1), vi pa0] [(.int s0), (.ref al)])) rfl (by rw [hml]; rfl) (Steps.refl _) (argsL := [(.int s0)]) (rest := []) (lenOf own_pd356 rfl) rfl (Nat.le_of_eq rfl) (hb hby d7_185) (fun _ _ => ⟨rfl, e1359, Nat.zero_le _, Nat.zero_le _⟩)
        dsimp only [Pt.U, Pt.locs, Pt.cells, Pt.slots] at X1360 l1360 y1360 z1360 st1360 hQ1360
        rw [l1360, y1360, z1360] at X1360
        obtain ⟨rfl, Nq1360, e1360⟩ := hQ1360
        have N1360 := Fr.app Nm1357 Nq1360
        obtain ⟨cq1361, kq1361, q1361a, q1361b, q1361c⟩ := isOf hZ e1360 Et
        obtain ⟨_, _, ⟨T1361, L1361, k1361, n1361⟩, -, X1361, ⟨Lc1361, hQ1361, l1361, y1361, z1361⟩, st1361⟩ := X1360.interfaceBack hx hown (mvT hZ (H 83 _ rfl)) (mvT hZ (H 84 _ rfl)) (mvT hZ (H 85 _ rfl)) (mvT hZ (H 86 _ rfl)) (mvT hZ (H 87 _ rfl)) (mvT hZ (H 88 _ rfl)) (mvT hZ (H 89 _ rfl)) (mvT hZ (H 53 _ rfl)) (by decide) (backOf (W := 1) (rm14 l Z a0 hw [] at_ (2 : Int32) cs vf ab kb (3 : Int32) [(.int (own_b pa0)), (.int (own_b pa1)), (.int (own_b pa2))] (own_b pa2) h0 n0 Z0 O0 Scs hcs Ssf hvf Et Fv Fc Va (by decide) (by decide) rfl) hZ (H 90 _ rfl) (H 9 _ rfl) (by decide) (by decide)) q1361a q1361b q1361c (g := (mkF m 191 #[vr aa, vr at_, vr al, vi 2, vi 2, vi s0, vi p0, vi (-1), vi pa0] [(.int 2), (.ref at_), (.int (own_cc s0))])) rfl (by rw [hml]; rfl) (Steps.refl _) (argsL := [(.int 2)]) (rest := [(.int (own_cc s0))]) (lenOf own_pd356 rfl) rfl (Nat.le_of_eq rfl) (hb hby d7_191) (fun _ _ => ⟨rfl, e1360, Nat.zero_le _, Nat.zero_le _⟩)
        dsimp only [Pt.U, Pt.locs, Pt.cells, Pt.slots] at X1361 l1361 y1361 z1361 st1361 hQ1361
        rw [l1361, y1361, z1361] at X1361
        obtain ⟨rfl, Nq1361, e1361⟩ := hQ1361
        have N1361 := Fr.app N1360 Nq1361
        have pre1362 : ∀ t, Sp p e below m T1361 196 #[vr aa, vr at_, vr al, vi 2, vi 2, vi s0, vi p0, vi (-1), vi pa0] [(.int (own_lat (own_b pa2))), (.int (own_cc s0))] t → SG p e below G0 t := by
          intro t k
          refine pre1357 t ?_
          show Sp p e below m Tm1357 113 #[vr aa, vr at_, vr al, vi 2, vi 2, vi s0, vi p0, vi (-1), vi pa0] [] _
          refine XS.iload Xm1357.here hx rfl (hb hby d7_113) rfl ?_
          refine XS.aloadN Xm1357.here hx rfl (hb hby d7_115) rfl rfl ?_
          refine st1359 _ ?_
          show Sp p e below m T1359 119 #[vr aa, vr at_, vr al, vi 2, vi 2, vi s0, vi p0, vi (-1), vi pa0] [(.int 0), (.int (-1))] _
          refine XS.icmpYes X1359.here hx rfl (pc0 := 119) (pc' := 182) rfl (hb hby d7_119) rfl (tlt (by decide : ((-1 : Int32) < (0 : Int32)))).1 (by decide) (by decide) ?_
          refine XS.aloadN X1359.here hx rfl (hb hby d7_182) rfl rfl ?_
          refine XS.iload X1359.here hx rfl (hb hby d7_183) rfl ?_
          refine st1360.trans ?_
          show Sp p e below m T1360 188 #[vr aa, vr at_, vr al, vi 2, vi 2, vi s0, vi p0, vi (-1), vi pa0] [(.int (own_cc s0))] _
          refine XS.aloadN X1360.here hx rfl (hb hby d7_188) rfl rfl ?_
          refine XS.iload X1360.here hx rfl (hb hby d7_189) rfl ?_
          refine st1361.trans ?_
          exact k
        rw [show (own_lat (own_b pa2)) = pa2 from own_at hp2] at pre1362
        by_cases hc196_1363 : (own_cc s0) = pa2
        · obtain ⟨fs, hr, hrun, hended, hW, hsame⟩ := X1361.leave (v := some (.int 1)) (fun h => by rw [Bd.returns] at h; cases h)
          refine ⟨_, _, pre1362 _ ?_, hrun, hended, _, _, rfl, ?_, ⟨_, rfl⟩, hW, hsame.mono (by decide) (by decide)⟩
          · show Sp p e below m T1361 196 #[vr aa, vr at_, vr al, vi 2, vi 2, vi s0, vi p0, vi (-1), vi pa0] [(.int pa2), (.int (own_cc s0))] _
            refine XS.icmpNo X1361.here hx rfl (hb hby d7_196) rfl (teq hc196_1363).2 ?_
            refine XS.iconst X1361.here hx rfl (hb hby d7_199) ?_
            refine XS.goto X1361.here hx rfl (pc0 := 200) (pc' := 204) rfl (hb hby d7_200) (by decide) (by decide) ?_
            exact retN X1361 hx (t := .boolean) Bd.returns (by simp) (hb hby d7_204) hr
          · show Q7n3 Z aa at_ al cs vf ab kb gv pa0 pa1 pa2 h0 n0 _ T1361.heap _
            rw [e1361]
            exact ⟨(by simp only [own_ac, if_pos (hq1342.2), own_a0, own_run0, -Int32.reduceAdd, if_neg hq1350, if_neg hq1355, ← hw1353.1, ← hw1353.2, ← hw1358.1, ← hw1358.2]; rw [own_fin, if_pos hc196_1363]), N1361, rfl⟩
        · obtain ⟨fs, hr, hrun, hended, hW, hsame⟩ := X1361.leave (v := some (.int 0)) (fun h => by rw [Bd.returns] at h; cases h)
          refine ⟨_, _, pre1362 _ ?_, hrun, hended, _, _, rfl, ?_, ⟨_, rfl⟩, hW, hsame.mono (by decide) (by decide)⟩
          · show Sp p e below m T1361 196 #[vr aa, vr at_, vr al, vi 2, vi 2, vi s0, vi p0, vi (-1), vi pa0] [(.int pa2), (.int (own_cc s0))] _
            refine XS.icmpYes X1361.here hx rfl (pc0 := 196) (pc' := 203) rfl (hb hby d7_196) rfl (feq hc196_1363).2 (by decide) (by decide) ?_
            refine XS.iconst X1361.here hx rfl (hb hby d7_203) ?_
            exact retN X1361 hx (t := .boolean) Bd.returns (by simp) (hb hby d7_204) hr
          · show Q7n3 Z aa at_ al cs vf ab kb gv pa0 pa1 pa2 h0 n0 _ T1361.heap _
            rw [e1361]
            exact ⟨(by simp only [own_ac, if_pos (hq1342.2), own_a0, own_run0, -Int32.reduceAdd, if_neg hq1350, if_neg hq1355, ← hw1353.1, ← hw1353.2, ← hw1358.1, ← hw1358.2]; rw [own_fin, if_neg hc196_1363]), N1361, rfl⟩
  · rw [hq1343.1] at pre1341
    obtain ⟨T1364, X1364, e1364, st1364⟩ := getF X1340 hx hZ hown (host := "") (Or.inl (H 75 _ rfl)) Via.refl e1340 Fr_checkAt (g := (mkF m 96 #[vr aa, vr at_, vr al, vi 2, vi 2, vi 0, vi 0, .unset, .unset] [(.ref aa)])) rfl rfl (hb hby d7_96)
    have pre1365 : ∀ t, Sp p e below m T1364 113 #[vr aa, vr at_, vr al, vi 2, vi 2, vi 0, vi 0, vi 1, .unset] [] t → SG p e below G0 t := by
      intro t k
      refine pre1341 t ?_
      show Sp p e below m T1340 73 #[vr aa, vr at_, vr al, vi 2, .unset, .unset, .unset, .unset, .unset] [(.int 2)] _
      refine XS.goto X1340.here hx rfl (pc0 := 73) (pc' := 80) rfl (hb hby d7_73) (by decide) (by decide) ?_
      refine XS.istore X1340.here hx rfl (hb hby d7_80) rfl (l' := #[vr aa, vr at_, vr al, vi 2, vi 2, .unset, .unset, .unset, .unset]) rfl ?_
      refine XS.iload X1340.here hx rfl (hb hby d7_82) rfl ?_
      refine XS.ifYes X1340.here hx rfl (pc0 := 84) (pc' := 89) rfl (hb hby d7_84) rfl ((if0 _ _).trans (flt (by decide : ¬ ((2 : Int32) < (0 : Int32)))).2.1) (by decide) (by decide) ?_
      refine XS.iconst X1340.here hx rfl (hb hby d7_89) ?_
      refine XS.istore X1340.here hx rfl (hb hby d7_90) rfl (l' := #[vr aa, vr at_, vr al, vi 2, vi 2, vi 0, .unset, .unset, .unset]) rfl ?_
      refine XS.iconst X1340.here hx rfl (hb hby d7_92) ?_
      refine XS.istore X1340.here hx rfl (hb hby d7_93) rfl (l' := #[vr aa, vr at_, vr al, vi 2, vi 2, vi 0, vi 0, .unset, .unset]) rfl ?_
      show Sp p e below m T1340 95 #[vr aa, vr at_, vr al, vi 2, vi 2, vi 0, vi 0, .unset, .unset] [] _
      refine XS.aloadN X1340.here hx rfl (hb hby d7_95) rfl rfl ?_
      refine st1364 _ ?_
      show Sp p e below m T1364 99 #[vr aa, vr at_, vr al, vi 2, vi 2, vi 0, vi 0, .unset, .unset] [(.int (-1))] _
      refine XS.iconst X1364.here hx rfl (hb hby d7_99) ?_
      refine XS.icmpNo X1364.here hx rfl (hb hby d7_100) rfl (teq (by decide : ((-1 : Int32) = (-1 : Int32)))).2 ?_
      refine XS.iload X1364.here hx rfl (hb hby d7_103) rfl ?_
      refine XS.iconst X1364.here hx rfl (hb hby d7_105) ?_
      refine XS.isub X1364.here hx rfl (hb hby d7_106) rfl ?_
      refine XS.goto X1364.here hx rfl (pc0 := 107) (pc' := 111) rfl (hb hby d7_107) (by decide) (by decide) ?_
      refine XS.istore X1364.here hx rfl (hb hby d7_111) rfl (l' := #[vr aa, vr at_, vr al, vi 2, vi 2, vi 0, vi 0, vi 1, .unset]) rfl ?_
      exact k
    obtain ⟨Tm1366, lm1366, s1, p1, Xm1366, em1366, Nm1366, hv1366, pre1366⟩ := it G0 T1364 _ (2 : Int32) (1 : Int32) (0 : Int32) (0 : Int32) pa1 (.unset) X1364 e1364 N1340 (by decide) (by decide) rfl hp1 (Or.inl rfl) (fun q => (hq1343.2.1) q.1) pre1365
    rw [show ((1 : Int32) + (-1 : Int32)) = (0 : Int32) from by decide] at pre1366
    obtain ⟨Tm1367, lm1367, s0, p0, Xm1367, em1367, Nm1367, hv1367, pre1367⟩ := it G0 Tm1366 _ (2 : Int32) (0 : Int32) s1 p1 pa0 (.val (.int pa1)) Xm1366 em1366 Nm1366 (by decide) (by decide) rfl hp0 (Or.inr ⟨_, rfl⟩) (fun q => (hq1343.2.1) q.1) pre1366
    rw [show ((0 : Int32) + (-1 : Int32)) = (-1 : Int32) from by decide] at pre1367
    obtain ⟨T1368, X1368, e1368, st1368⟩ := getF Xm1367 hx hZ hown (host := "") (Or.inl (H 61 _ rfl)) Via.refl em1367 Fr_start (g := (mkF m 116 #[vr aa, vr at_, vr al, vi 2, vi 2, vi s0, vi p0, vi (-1), vi pa0] [(.ref aa), (.int (-1))])) rfl rfl (hb hby d7_116)
    obtain ⟨cq1369, kq1369, q1369a, q1369b, q1369c⟩ := isOf hZ e1368 El
    obtain ⟨_, _, ⟨T1369, L1369, k1369, n1369⟩, -, X1369, ⟨Lc1369, hQ1369, l1369, y1369, z1369⟩, st1369⟩ := X1368.virtualBack hx hown (mvT hZ (H 116 _ rfl)) (mvT hZ (H 117 _ rfl)) (own_nf (args := #[]) (mvT hZ (H 111 _ rfl)) rfl) (mvT hZ (H 118 _ rfl)) (mvT hZ (H 119 _ rfl)) (by decide) (backOf (W := 0) (rm21 l Z a0 hw [] al s0  h0 n0 Z0 ) hZ (H 121 _ rfl) (H 120 _ rfl) (by decide) (by decide)) q1369a q1369c (g := (mkF m 185 #[vr aa, vr at_, vr al, vi 2, vi 2, vi s0, vi p0, vi (-1), vi pa0] [(.int s0), (.ref al)])) rfl (by rw [hml]; rfl) (Steps.refl _) (argsL := [(.int s0)]) (rest := []) (lenOf own_pd356 rfl) rfl (Nat.le_of_eq rfl) (hb hby d7_185) (fun _ _ => ⟨rfl, e1368, Nat.zero_le _, Nat.zero_le _⟩)
    dsimp only [Pt.U, Pt.locs, Pt.cells, Pt.slots] at X1369 l1369 y1369 z1369 st1369 hQ1369
    rw [l1369, y1369, z1369] at X1369
    obtain ⟨rfl, Nq1369, e1369⟩ := hQ1369
    have N1369 := Fr.app Nm1367 Nq1369
    obtain ⟨cq1370, kq1370, q1370a, q1370b, q1370c⟩ := isOf hZ e1369 Et
    obtain ⟨_, _, ⟨T1370, L1370, k1370, n1370⟩, -, X1370, ⟨Lc1370, hQ1370, l1370, y1370, z1370⟩, st1370⟩ := X1369.interfaceBack hx hown (mvT hZ (H 83 _ rfl)) (mvT hZ (H 84 _ rfl)) (mvT hZ (H 85 _ rfl)) (mvT hZ (H 86 _ rfl)) (mvT hZ (H 87 _ rfl)) (mvT hZ (H 88 _ rfl)) (mvT hZ (H 89 _ rfl)) (mvT hZ (H 53 _ rfl)) (by decide) (backOf (W := 1) (rm14 l Z a0 hw [] at_ (2 : Int32) cs vf ab kb (3 : Int32) [(.int (own_b pa0)), (.int (own_b pa1)), (.int (own_b pa2))] (own_b pa2) h0 n0 Z0 O0 Scs hcs Ssf hvf Et Fv Fc Va (by decide) (by decide) rfl) hZ (H 90 _ rfl) (H 9 _ rfl) (by decide) (by decide)) q1370a q1370b q1370c (g := (mkF m 191 #[vr aa, vr at_, vr al, vi 2, vi 2, vi s0, vi p0, vi (-1), vi pa0] [(.int 2), (.ref at_), (.int (own_cc s0))])) rfl (by rw [hml]; rfl) (Steps.refl _) (argsL := [(.int 2)]) (rest := [(.int (own_cc s0))]) (lenOf own_pd356 rfl) rfl (Nat.le_of_eq rfl) (hb hby d7_191) (fun _ _ => ⟨rfl, e1369, Nat.zero_le _, Nat.zero_le _⟩)
    dsimp only [Pt.U, Pt.locs, Pt.cells, Pt.slots] at X1370 l1370 y1370 z1370 st1370 hQ1370
    rw [l1370, y1370, z1370] at X1370
    obtain ⟨rfl, Nq1370, e1370⟩ := hQ1370
    have N1370 := Fr.app N1369 Nq1370
    have pre1371 : ∀ t, Sp p e below m T1370 196 #[vr aa, vr at_, vr al, vi 2, vi 2, vi s0, vi p0, vi (-1), vi pa0] [(.int (own_lat (own_b pa2))), (.int (own_cc s0))] t → SG p e below G0 t := by
      intro t k
      refine pre1367 t ?_
      show Sp p e below m Tm1367 113 #[vr aa, vr at_, vr al, vi 2, vi 2, vi s0, vi p0, vi (-1), vi pa0] [] _
      refine XS.iload Xm1367.here hx rfl (hb hby d7_113) rfl ?_
      refine XS.aloadN Xm1367.here hx rfl (hb hby d7_115) rfl rfl ?_
      refine st1368 _ ?_
      show Sp p e below m T1368 119 #[vr aa, vr at_, vr al, vi 2, vi 2, vi s0, vi p0, vi (-1), vi pa0] [(.int 0), (.int (-1))] _
      refine XS.icmpYes X1368.here hx rfl (pc0 := 119) (pc' := 182) rfl (hb hby d7_119) rfl (tlt (by decide : ((-1 : Int32) < (0 : Int32)))).1 (by decide) (by decide) ?_
      refine XS.aloadN X1368.here hx rfl (hb hby d7_182) rfl rfl ?_
      refine XS.iload X1368.here hx rfl (hb hby d7_183) rfl ?_
      refine st1369.trans ?_
      show Sp p e below m T1369 188 #[vr aa, vr at_, vr al, vi 2, vi 2, vi s0, vi p0, vi (-1), vi pa0] [(.int (own_cc s0))] _
      refine XS.aloadN X1369.here hx rfl (hb hby d7_188) rfl rfl ?_
      refine XS.iload X1369.here hx rfl (hb hby d7_189) rfl ?_
      refine st1370.trans ?_
      exact k
    rw [show (own_lat (own_b pa2)) = pa2 from own_at hp2] at pre1371
    by_cases hc196_1372 : (own_cc s0) = pa2
    · obtain ⟨fs, hr, hrun, hended, hW, hsame⟩ := X1370.leave (v := some (.int 1)) (fun h => by rw [Bd.returns] at h; cases h)
      refine ⟨_, _, pre1371 _ ?_, hrun, hended, _, _, rfl, ?_, ⟨_, rfl⟩, hW, hsame.mono (by decide) (by decide)⟩
      · show Sp p e below m T1370 196 #[vr aa, vr at_, vr al, vi 2, vi 2, vi s0, vi p0, vi (-1), vi pa0] [(.int pa2), (.int (own_cc s0))] _
        refine XS.icmpNo X1370.here hx rfl (hb hby d7_196) rfl (teq hc196_1372).2 ?_
        refine XS.iconst X1370.here hx rfl (hb hby d7_199) ?_
        refine XS.goto X1370.here hx rfl (pc0 := 200) (pc' := 204) rfl (hb hby d7_200) (by decide) (by decide) ?_
        exact retN X1370 hx (t := .boolean) Bd.returns (by simp) (hb hby d7_204) hr
      · show Q7n3 Z aa at_ al cs vf ab kb gv pa0 pa1 pa2 h0 n0 _ T1370.heap _
        rw [e1370]
        exact ⟨(by simp only [own_ac, if_neg (hq1343.2.1), own_a1, own_run, if_neg (hq1343.2.2), ← hv1366.1, ← hv1366.2, ← hv1367.1, ← hv1367.2]; rw [own_fin, if_pos hc196_1372]), N1370, rfl⟩
    · obtain ⟨fs, hr, hrun, hended, hW, hsame⟩ := X1370.leave (v := some (.int 0)) (fun h => by rw [Bd.returns] at h; cases h)
      refine ⟨_, _, pre1371 _ ?_, hrun, hended, _, _, rfl, ?_, ⟨_, rfl⟩, hW, hsame.mono (by decide) (by decide)⟩
      · show Sp p e below m T1370 196 #[vr aa, vr at_, vr al, vi 2, vi 2, vi s0, vi p0, vi (-1), vi pa0] [(.int pa2), (.int (own_cc s0))] _
        refine XS.icmpYes X1370.here hx rfl (pc0 := 196) (pc' := 203) rfl (hb hby d7_196) rfl (feq hc196_1372).2 (by decide) (by decide) ?_
        refine XS.iconst X1370.here hx rfl (hb hby d7_203) ?_
        exact retN X1370 hx (t := .boolean) Bd.returns (by simp) (hb hby d7_204) hr
      · show Q7n3 Z aa at_ al cs vf ab kb gv pa0 pa1 pa2 h0 n0 _ T1370.heap _
        rw [e1370]
        exact ⟨(by simp only [own_ac, if_neg (hq1343.2.1), own_a1, own_run, if_neg (hq1343.2.2), ← hv1366.1, ← hv1366.2, ← hv1367.1, ← hv1367.2]; rw [own_fin, if_neg hc196_1372]), N1370, rfl⟩
  · rw [hq1344.1] at pre1341
    obtain ⟨T1373, X1373, e1373, st1373⟩ := getF X1340 hx hZ hown (host := "") (Or.inl (H 75 _ rfl)) Via.refl e1340 Fr_checkAt (g := (mkF m 96 #[vr aa, vr at_, vr al, vi 2, vi 1, vi 0, vi 0, .unset, .unset] [(.ref aa)])) rfl rfl (hb hby d7_96)
    have pre1374 : ∀ t, Sp p e below m T1373 113 #[vr aa, vr at_, vr al, vi 2, vi 1, vi 0, vi 0, vi 0, .unset] [] t → SG p e below G0 t := by
      intro t k
      refine pre1341 t ?_
      show Sp p e below m T1340 73 #[vr aa, vr at_, vr al, vi 2, .unset, .unset, .unset, .unset, .unset] [(.int 1)] _
      refine XS.goto X1340.here hx rfl (pc0 := 73) (pc' := 80) rfl (hb hby d7_73) (by decide) (by decide) ?_
      refine XS.istore X1340.here hx rfl (hb hby d7_80) rfl (l' := #[vr aa, vr at_, vr al, vi 2, vi 1, .unset, .unset, .unset, .unset]) rfl ?_
      refine XS.iload X1340.here hx rfl (hb hby d7_82) rfl ?_
      refine XS.ifYes X1340.here hx rfl (pc0 := 84) (pc' := 89) rfl (hb hby d7_84) rfl ((if0 _ _).trans (flt (by decide : ¬ ((1 : Int32) < (0 : Int32)))).2.1) (by decide) (by decide) ?_
      refine XS.iconst X1340.here hx rfl (hb hby d7_89) ?_
      refine XS.istore X1340.here hx rfl (hb hby d7_90) rfl (l' := #[vr aa, vr at_, vr al, vi 2, vi 1, vi 0, .unset, .unset, .unset]) rfl ?_
      refine XS.iconst X1340.here hx rfl (hb hby d7_92) ?_
      refine XS.istore X1340.here hx rfl (hb hby d7_93) rfl (l' := #[vr aa, vr at_, vr al, vi 2, vi 1, vi 0, vi 0, .unset, .unset]) rfl ?_
      show Sp p e below m T1340 95 #[vr aa, vr at_, vr al, vi 2, vi 1, vi 0, vi 0, .unset, .unset] [] _
      refine XS.aloadN X1340.here hx rfl (hb hby d7_95) rfl rfl ?_
      refine st1373 _ ?_
      show Sp p e below m T1373 99 #[vr aa, vr at_, vr al, vi 2, vi 1, vi 0, vi 0, .unset, .unset] [(.int (-1))] _
      refine XS.iconst X1373.here hx rfl (hb hby d7_99) ?_
      refine XS.icmpNo X1373.here hx rfl (hb hby d7_100) rfl (teq (by decide : ((-1 : Int32) = (-1 : Int32)))).2 ?_
      refine XS.iload X1373.here hx rfl (hb hby d7_103) rfl ?_
      refine XS.iconst X1373.here hx rfl (hb hby d7_105) ?_
      refine XS.isub X1373.here hx rfl (hb hby d7_106) rfl ?_
      refine XS.goto X1373.here hx rfl (pc0 := 107) (pc' := 111) rfl (hb hby d7_107) (by decide) (by decide) ?_
      refine XS.istore X1373.here hx rfl (hb hby d7_111) rfl (l' := #[vr aa, vr at_, vr al, vi 2, vi 1, vi 0, vi 0, vi 0, .unset]) rfl ?_
      exact k
    obtain ⟨Tm1375, lm1375, s0, p0, Xm1375, em1375, Nm1375, hv1375, pre1375⟩ := it G0 T1373 _ (1 : Int32) (0 : Int32) (0 : Int32) (0 : Int32) pa0 (.unset) X1373 e1373 N1340 (by decide) (by decide) rfl hp0 (Or.inl rfl) (fun q => (hq1344.2.1) q.1) pre1374
    rw [show ((0 : Int32) + (-1 : Int32)) = (-1 : Int32) from by decide] at pre1375
    obtain ⟨T1376, X1376, e1376, st1376⟩ := getF Xm1375 hx hZ hown (host := "") (Or.inl (H 61 _ rfl)) Via.refl em1375 Fr_start (g := (mkF m 116 #[vr aa, vr at_, vr al, vi 2, vi 1, vi s0, vi p0, vi (-1), vi pa0] [(.ref aa), (.int (-1))])) rfl rfl (hb hby d7_116)
    obtain ⟨cq1377, kq1377, q1377a, q1377b, q1377c⟩ := isOf hZ e1376 El
    obtain ⟨_, _, ⟨T1377, L1377, k1377, n1377⟩, -, X1377, ⟨Lc1377, hQ1377, l1377, y1377, z1377⟩, st1377⟩ := X1376.virtualBack hx hown (mvT hZ (H 116 _ rfl)) (mvT hZ (H 117 _ rfl)) (own_nf (args := #[]) (mvT hZ (H 111 _ rfl)) rfl) (mvT hZ (H 118 _ rfl)) (mvT hZ (H 119 _ rfl)) (by decide) (backOf (W := 0) (rm21 l Z a0 hw [] al s0  h0 n0 Z0 ) hZ (H 121 _ rfl) (H 120 _ rfl) (by decide) (by decide)) q1377a q1377c (g := (mkF m 185 #[vr aa, vr at_, vr al, vi 2, vi 1, vi s0, vi p0, vi (-1), vi pa0] [(.int s0), (.ref al)])) rfl (by rw [hml]; rfl) (Steps.refl _) (argsL := [(.int s0)]) (rest := []) (lenOf own_pd356 rfl) rfl (Nat.le_of_eq rfl) (hb hby d7_185) (fun _ _ => ⟨rfl, e1376, Nat.zero_le _, Nat.zero_le _⟩)
    dsimp only [Pt.U, Pt.locs, Pt.cells, Pt.slots] at X1377 l1377 y1377 z1377 st1377 hQ1377
    rw [l1377, y1377, z1377] at X1377
    obtain ⟨rfl, Nq1377, e1377⟩ := hQ1377
    have N1377 := Fr.app Nm1375 Nq1377
    obtain ⟨cq1378, kq1378, q1378a, q1378b, q1378c⟩ := isOf hZ e1377 Et
    obtain ⟨_, _, ⟨T1378, L1378, k1378, n1378⟩, -, X1378, ⟨Lc1378, hQ1378, l1378, y1378, z1378⟩, st1378⟩ := X1377.interfaceBack hx hown (mvT hZ (H 83 _ rfl)) (mvT hZ (H 84 _ rfl)) (mvT hZ (H 85 _ rfl)) (mvT hZ (H 86 _ rfl)) (mvT hZ (H 87 _ rfl)) (mvT hZ (H 88 _ rfl)) (mvT hZ (H 89 _ rfl)) (mvT hZ (H 53 _ rfl)) (by decide) (backOf (W := 1) (rm14 l Z a0 hw [] at_ (1 : Int32) cs vf ab kb (3 : Int32) [(.int (own_b pa0)), (.int (own_b pa1)), (.int (own_b pa2))] (own_b pa1) h0 n0 Z0 O0 Scs hcs Ssf hvf Et Fv Fc Va (by decide) (by decide) rfl) hZ (H 90 _ rfl) (H 9 _ rfl) (by decide) (by decide)) q1378a q1378b q1378c (g := (mkF m 191 #[vr aa, vr at_, vr al, vi 2, vi 1, vi s0, vi p0, vi (-1), vi pa0] [(.int 1), (.ref at_), (.int (own_cc s0))])) rfl (by rw [hml]; rfl) (Steps.refl _) (argsL := [(.int 1)]) (rest := [(.int (own_cc s0))]) (lenOf own_pd356 rfl) rfl (Nat.le_of_eq rfl) (hb hby d7_191) (fun _ _ => ⟨rfl, e1377, Nat.zero_le _, Nat.zero_le _⟩)
    dsimp only [Pt.U, Pt.locs, Pt.cells, Pt.slots] at X1378 l1378 y1378 z1378 st1378 hQ1378
    rw [l1378, y1378, z1378] at X1378
    obtain ⟨rfl, Nq1378, e1378⟩ := hQ1378
    have N1378 := Fr.app N1377 Nq1378
    have pre1379 : ∀ t, Sp p e below m T1378 196 #[vr aa, vr at_, vr al, vi 2, vi 1, vi s0, vi p0, vi (-1), vi pa0] [(.int (own_lat (own_b pa1))), (.int (own_cc s0))] t → SG p e below G0 t := by
      intro t k
      refine pre1375 t ?_
      show Sp p e below m Tm1375 113 #[vr aa, vr at_, vr al, vi 2, vi 1, vi s0, vi p0, vi (-1), vi pa0] [] _
      refine XS.iload Xm1375.here hx rfl (hb hby d7_113) rfl ?_
      refine XS.aloadN Xm1375.here hx rfl (hb hby d7_115) rfl rfl ?_
      refine st1376 _ ?_
      show Sp p e below m T1376 119 #[vr aa, vr at_, vr al, vi 2, vi 1, vi s0, vi p0, vi (-1), vi pa0] [(.int 0), (.int (-1))] _
      refine XS.icmpYes X1376.here hx rfl (pc0 := 119) (pc' := 182) rfl (hb hby d7_119) rfl (tlt (by decide : ((-1 : Int32) < (0 : Int32)))).1 (by decide) (by decide) ?_
      refine XS.aloadN X1376.here hx rfl (hb hby d7_182) rfl rfl ?_
      refine XS.iload X1376.here hx rfl (hb hby d7_183) rfl ?_
      refine st1377.trans ?_
      show Sp p e below m T1377 188 #[vr aa, vr at_, vr al, vi 2, vi 1, vi s0, vi p0, vi (-1), vi pa0] [(.int (own_cc s0))] _
      refine XS.aloadN X1377.here hx rfl (hb hby d7_188) rfl rfl ?_
      refine XS.iload X1377.here hx rfl (hb hby d7_189) rfl ?_
      refine st1378.trans ?_
      exact k
    rw [show (own_lat (own_b pa1)) = pa1 from own_at hp1] at pre1379
    by_cases hc196_1380 : (own_cc s0) = pa1
    · obtain ⟨fs, hr, hrun, hended, hW, hsame⟩ := X1378.leave (v := some (.int 1)) (fun h => by rw [Bd.returns] at h; cases h)
      refine ⟨_, _, pre1379 _ ?_, hrun, hended, _, _, rfl, ?_, ⟨_, rfl⟩, hW, hsame.mono (by decide) (by decide)⟩
      · show Sp p e below m T1378 196 #[vr aa, vr at_, vr al, vi 2, vi 1, vi s0, vi p0, vi (-1), vi pa0] [(.int pa1), (.int (own_cc s0))] _
        refine XS.icmpNo X1378.here hx rfl (hb hby d7_196) rfl (teq hc196_1380).2 ?_
        refine XS.iconst X1378.here hx rfl (hb hby d7_199) ?_
        refine XS.goto X1378.here hx rfl (pc0 := 200) (pc' := 204) rfl (hb hby d7_200) (by decide) (by decide) ?_
        exact retN X1378 hx (t := .boolean) Bd.returns (by simp) (hb hby d7_204) hr
      · show Q7n3 Z aa at_ al cs vf ab kb gv pa0 pa1 pa2 h0 n0 _ T1378.heap _
        rw [e1378]
        exact ⟨(by simp only [own_ac, if_neg (hq1344.2.1), own_a1, own_run, if_pos (hq1344.2.2.1), if_neg (hq1344.2.2.2), ← hv1375.1, ← hv1375.2]; rw [own_fin, if_pos hc196_1380]), N1378, rfl⟩
    · obtain ⟨fs, hr, hrun, hended, hW, hsame⟩ := X1378.leave (v := some (.int 0)) (fun h => by rw [Bd.returns] at h; cases h)
      refine ⟨_, _, pre1379 _ ?_, hrun, hended, _, _, rfl, ?_, ⟨_, rfl⟩, hW, hsame.mono (by decide) (by decide)⟩
      · show Sp p e below m T1378 196 #[vr aa, vr at_, vr al, vi 2, vi 1, vi s0, vi p0, vi (-1), vi pa0] [(.int pa1), (.int (own_cc s0))] _
        refine XS.icmpYes X1378.here hx rfl (pc0 := 196) (pc' := 203) rfl (hb hby d7_196) rfl (feq hc196_1380).2 (by decide) (by decide) ?_
        refine XS.iconst X1378.here hx rfl (hb hby d7_203) ?_
        exact retN X1378 hx (t := .boolean) Bd.returns (by simp) (hb hby d7_204) hr
      · show Q7n3 Z aa at_ al cs vf ab kb gv pa0 pa1 pa2 h0 n0 _ T1378.heap _
        rw [e1378]
        exact ⟨(by simp only [own_ac, if_neg (hq1344.2.1), own_a1, own_run, if_pos (hq1344.2.2.1), if_neg (hq1344.2.2.2), ← hv1375.1, ← hv1375.2]; rw [own_fin, if_neg hc196_1380]), N1378, rfl⟩
  · rw [hq1345.1] at pre1341
    obtain ⟨T1381, X1381, e1381, st1381⟩ := getF X1340 hx hZ hown (host := "") (Or.inl (H 75 _ rfl)) Via.refl e1340 Fr_checkAt (g := (mkF m 96 #[vr aa, vr at_, vr al, vi 2, vi 0, vi 0, vi 0, .unset, .unset] [(.ref aa)])) rfl rfl (hb hby d7_96)
    obtain ⟨T1382, X1382, e1382, st1382⟩ := getF X1381 hx hZ hown (host := "") (Or.inl (H 61 _ rfl)) Via.refl e1381 Fr_start (g := (mkF m 116 #[vr aa, vr at_, vr al, vi 2, vi 0, vi 0, vi 0, vi (-1), .unset] [(.ref aa), (.int (-1))])) rfl rfl (hb hby d7_116)
    obtain ⟨cq1383, kq1383, q1383a, q1383b, q1383c⟩ := isOf hZ e1382 El
    obtain ⟨_, _, ⟨T1383, L1383, k1383, n1383⟩, -, X1383, ⟨Lc1383, hQ1383, l1383, y1383, z1383⟩, st1383⟩ := X1382.virtualBack hx hown (mvT hZ (H 116 _ rfl)) (mvT hZ (H 117 _ rfl)) (own_nf (args := #[]) (mvT hZ (H 111 _ rfl)) rfl) (mvT hZ (H 118 _ rfl)) (mvT hZ (H 119 _ rfl)) (by decide) (backOf (W := 0) (rm21 l Z a0 hw [] al (0 : Int32)  h0 n0 Z0 ) hZ (H 121 _ rfl) (H 120 _ rfl) (by decide) (by decide)) q1383a q1383c (g := (mkF m 185 #[vr aa, vr at_, vr al, vi 2, vi 0, vi 0, vi 0, vi (-1), .unset] [(.int 0), (.ref al)])) rfl (by rw [hml]; rfl) (Steps.refl _) (argsL := [(.int 0)]) (rest := []) (lenOf own_pd356 rfl) rfl (Nat.le_of_eq rfl) (hb hby d7_185) (fun _ _ => ⟨rfl, e1382, Nat.zero_le _, Nat.zero_le _⟩)
    dsimp only [Pt.U, Pt.locs, Pt.cells, Pt.slots] at X1383 l1383 y1383 z1383 st1383 hQ1383
    rw [l1383, y1383, z1383] at X1383
    obtain ⟨rfl, Nq1383, e1383⟩ := hQ1383
    have N1383 := Fr.app N1340 Nq1383
    obtain ⟨cq1384, kq1384, q1384a, q1384b, q1384c⟩ := isOf hZ e1383 Et
    obtain ⟨_, _, ⟨T1384, L1384, k1384, n1384⟩, -, X1384, ⟨Lc1384, hQ1384, l1384, y1384, z1384⟩, st1384⟩ := X1383.interfaceBack hx hown (mvT hZ (H 83 _ rfl)) (mvT hZ (H 84 _ rfl)) (mvT hZ (H 85 _ rfl)) (mvT hZ (H 86 _ rfl)) (mvT hZ (H 87 _ rfl)) (mvT hZ (H 88 _ rfl)) (mvT hZ (H 89 _ rfl)) (mvT hZ (H 53 _ rfl)) (by decide) (backOf (W := 1) (rm14 l Z a0 hw [] at_ (0 : Int32) cs vf ab kb (3 : Int32) [(.int (own_b pa0)), (.int (own_b pa1)), (.int (own_b pa2))] (own_b pa0) h0 n0 Z0 O0 Scs hcs Ssf hvf Et Fv Fc Va (by decide) (by decide) rfl) hZ (H 90 _ rfl) (H 9 _ rfl) (by decide) (by decide)) q1384a q1384b q1384c (g := (mkF m 191 #[vr aa, vr at_, vr al, vi 2, vi 0, vi 0, vi 0, vi (-1), .unset] [(.int 0), (.ref at_), (.int (own_cc (0 : Int32)))])) rfl (by rw [hml]; rfl) (Steps.refl _) (argsL := [(.int 0)]) (rest := [(.int (own_cc (0 : Int32)))]) (lenOf own_pd356 rfl) rfl (Nat.le_of_eq rfl) (hb hby d7_191) (fun _ _ => ⟨rfl, e1383, Nat.zero_le _, Nat.zero_le _⟩)
    dsimp only [Pt.U, Pt.locs, Pt.cells, Pt.slots] at X1384 l1384 y1384 z1384 st1384 hQ1384
    rw [l1384, y1384, z1384] at X1384
    obtain ⟨rfl, Nq1384, e1384⟩ := hQ1384
    have N1384 := Fr.app N1383 Nq1384
    have pre1385 : ∀ t, Sp p e below m T1384 196 #[vr aa, vr at_, vr al, vi 2, vi 0, vi 0, vi 0, vi (-1), .unset] [(.int (own_lat (own_b pa0))), (.int (own_cc (0 : Int32)))] t → SG p e below G0 t := by
      intro t k
      refine pre1341 t ?_
      show Sp p e below m T1340 73 #[vr aa, vr at_, vr al, vi 2, .unset, .unset, .unset, .unset, .unset] [(.int 0)] _
      refine XS.goto X1340.here hx rfl (pc0 := 73) (pc' := 80) rfl (hb hby d7_73) (by decide) (by decide) ?_
      refine XS.istore X1340.here hx rfl (hb hby d7_80) rfl (l' := #[vr aa, vr at_, vr al, vi 2, vi 0, .unset, .unset, .unset, .unset]) rfl ?_
      refine XS.iload X1340.here hx rfl (hb hby d7_82) rfl ?_
      refine XS.ifYes X1340.here hx rfl (pc0 := 84) (pc' := 89) rfl (hb hby d7_84) rfl ((if0 _ _).trans (flt (by decide : ¬ ((0 : Int32) < (0 : Int32)))).2.1) (by decide) (by decide) ?_
      refine XS.iconst X1340.here hx rfl (hb hby d7_89) ?_
      refine XS.istore X1340.here hx rfl (hb hby d7_90) rfl (l' := #[vr aa, vr at_, vr al, vi 2, vi 0, vi 0, .unset, .unset, .unset]) rfl ?_
      refine XS.iconst X1340.here hx rfl (hb hby d7_92) ?_
      refine XS.istore X1340.here hx rfl (hb hby d7_93) rfl (l' := #[vr aa, vr at_, vr al, vi 2, vi 0, vi 0, vi 0, .unset, .unset]) rfl ?_
      show Sp p e below m T1340 95 #[vr aa, vr at_, vr al, vi 2, vi 0, vi 0, vi 0, .unset, .unset] [] _
      refine XS.aloadN X1340.here hx rfl (hb hby d7_95) rfl rfl ?_
      refine st1381 _ ?_
      show Sp p e below m T1381 99 #[vr aa, vr at_, vr al, vi 2, vi 0, vi 0, vi 0, .unset, .unset] [(.int (-1))] _
      refine XS.iconst X1381.here hx rfl (hb hby d7_99) ?_
      refine XS.icmpNo X1381.here hx rfl (hb hby d7_100) rfl (teq (by decide : ((-1 : Int32) = (-1 : Int32)))).2 ?_
      refine XS.iload X1381.here hx rfl (hb hby d7_103) rfl ?_
      refine XS.iconst X1381.here hx rfl (hb hby d7_105) ?_
      refine XS.isub X1381.here hx rfl (hb hby d7_106) rfl ?_
      refine XS.goto X1381.here hx rfl (pc0 := 107) (pc' := 111) rfl (hb hby d7_107) (by decide) (by decide) ?_
      refine XS.istore X1381.here hx rfl (hb hby d7_111) rfl (l' := #[vr aa, vr at_, vr al, vi 2, vi 0, vi 0, vi 0, vi (-1), .unset]) rfl ?_
      refine XS.iload X1381.here hx rfl (hb hby d7_113) rfl ?_
      show Sp p e below m T1381 115 #[vr aa, vr at_, vr al, vi 2, vi 0, vi 0, vi 0, vi (-1), .unset] [(.int (-1))] _
      refine XS.aloadN X1381.here hx rfl (hb hby d7_115) rfl rfl ?_
      refine st1382 _ ?_
      show Sp p e below m T1382 119 #[vr aa, vr at_, vr al, vi 2, vi 0, vi 0, vi 0, vi (-1), .unset] [(.int 0), (.int (-1))] _
      refine XS.icmpYes X1382.here hx rfl (pc0 := 119) (pc' := 182) rfl (hb hby d7_119) rfl (tlt (by decide : ((-1 : Int32) < (0 : Int32)))).1 (by decide) (by decide) ?_
      refine XS.aloadN X1382.here hx rfl (hb hby d7_182) rfl rfl ?_
      refine XS.iload X1382.here hx rfl (hb hby d7_183) rfl ?_
      refine st1383.trans ?_
      show Sp p e below m T1383 188 #[vr aa, vr at_, vr al, vi 2, vi 0, vi 0, vi 0, vi (-1), .unset] [(.int (own_cc (0 : Int32)))] _
      refine XS.aloadN X1383.here hx rfl (hb hby d7_188) rfl rfl ?_
      refine XS.iload X1383.here hx rfl (hb hby d7_189) rfl ?_
      refine st1384.trans ?_
      exact k
    rw [show (own_lat (own_b pa0)) = pa0 from own_at hp0] at pre1385
    by_cases hc196_1386 : (own_cc (0 : Int32)) = pa0
    · obtain ⟨fs, hr, hrun, hended, hW, hsame⟩ := X1384.leave (v := some (.int 1)) (fun h => by rw [Bd.returns] at h; cases h)
      refine ⟨_, _, pre1385 _ ?_, hrun, hended, _, _, rfl, ?_, ⟨_, rfl⟩, hW, hsame.mono (by decide) (by decide)⟩
      · show Sp p e below m T1384 196 #[vr aa, vr at_, vr al, vi 2, vi 0, vi 0, vi 0, vi (-1), .unset] [(.int pa0), (.int (own_cc (0 : Int32)))] _
        refine XS.icmpNo X1384.here hx rfl (hb hby d7_196) rfl (teq hc196_1386).2 ?_
        refine XS.iconst X1384.here hx rfl (hb hby d7_199) ?_
        refine XS.goto X1384.here hx rfl (pc0 := 200) (pc' := 204) rfl (hb hby d7_200) (by decide) (by decide) ?_
        exact retN X1384 hx (t := .boolean) Bd.returns (by simp) (hb hby d7_204) hr
      · show Q7n3 Z aa at_ al cs vf ab kb gv pa0 pa1 pa2 h0 n0 _ T1384.heap _
        rw [e1384]
        exact ⟨(by simp only [own_ac, if_neg (hq1345.2.1), own_a1, own_run, if_pos (hq1345.2.2.1), if_pos (hq1345.2.2.2.1), if_neg (hq1345.2.2.2.2)]; rw [own_fin, if_pos hc196_1386]), N1384, rfl⟩
    · obtain ⟨fs, hr, hrun, hended, hW, hsame⟩ := X1384.leave (v := some (.int 0)) (fun h => by rw [Bd.returns] at h; cases h)
      refine ⟨_, _, pre1385 _ ?_, hrun, hended, _, _, rfl, ?_, ⟨_, rfl⟩, hW, hsame.mono (by decide) (by decide)⟩
      · show Sp p e below m T1384 196 #[vr aa, vr at_, vr al, vi 2, vi 0, vi 0, vi 0, vi (-1), .unset] [(.int pa0), (.int (own_cc (0 : Int32)))] _
        refine XS.icmpYes X1384.here hx rfl (pc0 := 196) (pc' := 203) rfl (hb hby d7_196) rfl (feq hc196_1386).2 (by decide) (by decide) ?_
        refine XS.iconst X1384.here hx rfl (hb hby d7_203) ?_
        exact retN X1384 hx (t := .boolean) Bd.returns (by simp) (hb hby d7_204) hr
      · show Q7n3 Z aa at_ al cs vf ab kb gv pa0 pa1 pa2 h0 n0 _ T1384.heap _
        rw [e1384]
        exact ⟨(by simp only [own_ac, if_neg (hq1345.2.1), own_a1, own_run, if_pos (hq1345.2.2.1), if_pos (hq1345.2.2.2.1), if_neg (hq1345.2.2.2.2)]; rw [own_fin, if_neg hc196_1386]), N1384, rfl⟩
  · rw [hq1346.1] at pre1341
    obtain ⟨fs, hr, hrun, hended, hW, hsame⟩ := X1340.leave (v := some (.int 0)) (fun h => by rw [Bd.returns] at h; cases h)
    refine ⟨_, _, pre1341 _ ?_, hrun, hended, _, _, rfl, ?_, ⟨_, rfl⟩, hW, hsame.mono (by decide) (by decide)⟩
    · show Sp p e below m T1340 73 #[vr aa, vr at_, vr al, vi 2, .unset, .unset, .unset, .unset, .unset] [(.int (-1))] _
      refine XS.goto X1340.here hx rfl (pc0 := 73) (pc' := 80) rfl (hb hby d7_73) (by decide) (by decide) ?_
      refine XS.istore X1340.here hx rfl (hb hby d7_80) rfl (l' := #[vr aa, vr at_, vr al, vi 2, vi (-1), .unset, .unset, .unset, .unset]) rfl ?_
      refine XS.iload X1340.here hx rfl (hb hby d7_82) rfl ?_
      refine XS.ifNo X1340.here hx rfl (hb hby d7_84) rfl ((if0 _ _).trans (tlt (by decide : ((-1 : Int32) < (0 : Int32)))).2.1) ?_
      refine XS.iconst X1340.here hx rfl (hb hby d7_87) ?_
      exact retN X1340 hx (t := .boolean) Bd.returns (by simp) (hb hby d7_88) hr
    · show Q7n3 Z aa at_ al cs vf ab kb gv pa0 pa1 pa2 h0 n0 _ T1340.heap _
      rw [e1340]
      exact ⟨(by simp only [own_ac, if_neg (hq1346.2.1), own_a1, if_pos (hq1346.2.2.1), if_pos (hq1346.2.2.2.1), if_pos (hq1346.2.2.2.2)]), N1340, rfl⟩
theorem ef_7n4 (m : MethodId) (x0 : Addr) (x1 : Addr) (x2 : Addr) : entryFrame m #[(.ref x0), (.ref x1), (.ref x2)] 9 = mkF m 0 #[.val (.ref x0), .val (.ref x1), .val (.ref x2), .unset, .unset, .unset, .unset, .unset, .unset] [] := by first | (simp [entryFrame, mkF, argsToLocals, Value.category]; done) | rfl
def Q7n4 (Z : State) (aa : Addr) (at_ : Addr) (al : Addr) (cs : Int32) (vf : Value) (ab : Addr) (kb : ClassId) (gv : Int32) (pa0 : Int32) (pa1 : Int32) (pa2 : Int32) (pa3 : Int32) (h0 : Heap) (n0 : Nat) (v : Option Value) (h : Heap) (L : List Loc) : Prop := v = some (.int (own_ac gv [pa3, pa2, pa1, pa0])) ∧ Fr n0 L ∧ h = h0
theorem rm7n4 (l : Launch) (Z : State) (a0 : Array Value) (hw : ∀ d ∈ tables_1, d.before a0 Z = true) (ws : List Jvm.Cond) (aa : Addr) (at_ : Addr) (al : Addr) (cs : Int32) (vf : Value) (ab : Addr) (kb : ClassId) (gv : Int32) (pa0 : Int32) (pa1 : Int32) (pa2 : Int32) (pa3 : Int32) (h0 : Heap) (n0 : Nat) (Z0 : n0 ≤ h0.size) (O0 : Old Z n0 h0) (Scs : Sta Z Z.heap "java/lang/String" "COMPACT_STRINGS" "Z" (.int cs)) (hcs : ¬ cs = (0 : Int32)) (Ssf : Sta Z Z.heap "jdk/internal/util/Preconditions" "SIOOBE_FORMATTER" "Ljava/util/function/BiFunction;" vf) (hvf : vf.isRef = true) (Er : Exa Z h0 aa "com/example/onus_on_beans/onusonbeans/validators/CheckDigitRange") (Fr_end : Fld Z h0 aa "com/example/onus_on_beans/onusonbeans/validators/CheckDigitRange" "end" "I" (.int 2147483647)) (Fr_start : Fld Z h0 aa "com/example/onus_on_beans/onusonbeans/validators/CheckDigitRange" "start" "I" (.int 0)) (Fr_checkAt : Fld Z h0 aa "com/example/onus_on_beans/onusonbeans/validators/CheckDigitRange" "checkAt" "I" (.int (-1))) (Fr_ignoresOthers : Fld Z h0 aa "com/example/onus_on_beans/onusonbeans/validators/CheckDigitRange" "ignoresOthers" "Z" (.int gv)) (El : Exa Z h0 al "com/example/onus_on_beans/onusonbeans/validators/CheckDigitScheme$Luhn") (Fm : Fld Z h0 al "com/example/onus_on_beans/onusonbeans/validators/CheckDigitScheme" "modulus" "I" (.int 10)) (Et : Exa Z h0 at_ "java/lang/String") (Fv : Fld Z h0 at_ "java/lang/String" "value" "[B" (.ref ab)) (Fc : Fld Z h0 at_ "java/lang/String" "coder" "B" (.int 0)) (Va : Arv Z h0 ab kb .byte (4 : Int32) [(.int (own_b pa0)), (.int (own_b pa1)), (.int (own_b pa2)), (.int (own_b pa3))] (.int 0)) (hp0 : 0 ≤ pa0.toInt ∧ pa0.toInt ≤ 255) (hp1 : 0 ≤ pa1.toInt ∧ pa1.toInt ≤ 255) (hp2 : 0 ≤ pa2.toInt ∧ pa2.toInt ≤ 255) (hp3 : 0 ≤ pa3.toInt ∧ pa3.toInt ≤ 255) :
    MetFree l (⟨"com/example/onus_on_beans/onusonbeans/validators/CheckDigitRange", "holds", "(Ljava/lang/CharSequence;Lcom/example/onus_on_beans/onusonbeans/validators/CheckDigitScheme;)Z"⟩ : MethodName) (head1 (Jvm.Cond.code (⟨"com/example/onus_on_beans/onusonbeans/validators/CheckDigitRange", "holds", "(Ljava/lang/CharSequence;Lcom/example/onus_on_beans/onusonbeans/validators/CheckDigitScheme;)Z"⟩ : MethodName) prog_14_method_4_code 9 (some .boolean) :: ws) ({ frames := 5, cells := 0, slots := 0, locals := 70 } : Room)) (fun a U => a = #[(.ref aa), (.ref at_), (.ref al)] ∧ Z.Warmed39 U.vm ∧ U.heap = h0) (fun _ _ _ _ _ => True) (fun _ U o U' => ∃ v L, o = .returned v ∧ Q7n4 Z aa at_ al cs vf ab kb gv pa0 pa1 pa2 pa3 h0 n0 v U'.heap L ∧ FrameEnd U o U' L ({ frames := 5, cells := 0, slots := 0, locals := 70 } : Room).cells ({ frames := 5, cells := 0, slots := 0, locals := 70 } : Room).slots) := by
  refine MetFree.of_bodySF (plainFor_of_name own_pn275) hisR ?_
  intro p e s m args below meth c s₁ Bd hml0 hP hK
  have H := fun i c (h : tables_1[i]? = some c) => hw c (List.mem_of_getElem? h)
  obtain ⟨rfl, hZ, hh⟩ := hP
  have hx := Bd.exec
  have hby := Bd.bytes
  have hml : c.maxLocals = 9 := hml0
  have hown : s.vm.findClass "com/example/onus_on_beans/onusonbeans/validators/CheckDigitRange" = some m.cls := findClass_of_methodNamed Bd.named
  have hnm := (name_of_methodNamed Bd.named Bd.method).1
  have X0 : Stand p l e ({ frames := 5, cells := 0, slots := 0, locals := 70 } : Room) s m #[(.ref aa), (.ref at_), (.ref al)] below meth c s₁ [] 0 0 := Stand.of_body Bd
  have e0 : s₁.heap = h0 := by rw [← hh, Bd.state]; rfl
  have N0 := Fr.nil n0
  have pre0 : ∀ t, Sp p e below m s₁ 0 #[vr aa, vr at_, vr al, .unset, .unset, .unset, .unset, .unset, .unset] [] t → Steps p.tables e below (s₁.setTop (entryFrame m #[(.ref aa), (.ref at_), (.ref al)] 9)) t := fun t k => castTop (ef_7n4 m aa at_ al) k
  generalize s₁.setTop (entryFrame m #[(.ref aa), (.ref at_), (.ref al)] 9) = G0 at pre0 ⊢
  have it : ∀ (G0 Tq : State) (lq : List Loc) (kc : Int32) (iv : Int32) (sv : Int32) (pv : Int32) (cj : Int32) (sl : Slot), Stand p l e ({ frames := 5, cells := 0, slots := 0, locals := 70 } : Room) s m #[(.ref aa), (.ref at_), (.ref al)] below meth c Tq lq 0 0 → Tq.heap = h0 → Fr n0 lq → (¬ iv < (0 : Int32)) → (iv < (4 : Int32)) → (([(.int (own_b pa0)), (.int (own_b pa1)), (.int (own_b pa2)), (.int (own_b pa3))] : List Value).getD iv.toNatClampNeg (.int 0) = .int (own_b cj)) → (0 ≤ cj.toInt ∧ cj.toInt ≤ 255) → (sl = .unset ∨ ∃ z : Int32, sl = vi z) → (¬ (gv = 0 ∧ own_dg cj = 0)) → (∀ t, Sp p e below m Tq 113 #[vr aa, vr at_, vr al, vi 3, vi kc, vi sv, vi pv, vi iv, sl] [] t → SG p e below G0 t) → ∃ (Tm1494 : State) (lm1494 : List Loc) (s_ : Int32) (p_ : Int32), Stand p l e ({ frames := 5, cells := 0, slots := 0, locals := 70 } : Room) s m #[(.ref aa), (.ref at_), (.ref al)] below meth c Tm1494 lm1494 0 0 ∧ Tm1494.heap = h0 ∧ Fr n0 lm1494 ∧ (s_ = own_sm cj pv sv ∧ p_ = own_ps cj pv) ∧ ∀ t, Sp p e below m Tm1494 113 #[vr aa, vr at_, vr al, vi 3, vi kc, vi s_, vi p_, vi (iv + (-1 : Int32)), vi cj] [] t → SG p e below G0 t := by
    intro G0 Tq lq kc iv sv pv cj sl Xq eq_ Nq h0i hlt hget hpj hsl hbd preq
    obtain ⟨Tm1494, lm1494, s_, p_, Xm1494, em1494, Nm1494, hv1496, pre1495⟩ : ∃ (Tm1494 : State) (lm1494 : List Loc) (s_ : Int32) (p_ : Int32), Stand p l e ({ frames := 5, cells := 0, slots := 0, locals := 70 } : Room) s m #[(.ref aa), (.ref at_), (.ref al)] below meth c Tm1494 lm1494 0 0 ∧ Tm1494.heap = h0 ∧ Fr n0 lm1494 ∧ (s_ = own_sm cj pv sv ∧ p_ = own_ps cj pv) ∧ ∀ t, Sp p e below m Tm1494 113 #[vr aa, vr at_, vr al, vi 3, vi kc, vi s_, vi p_, vi (iv + (-1 : Int32)), vi cj] [] t → SG p e below G0 t := by
      obtain ⟨T1483, X1483, e1483, st1483⟩ := getF Xq hx hZ hown (host := "") (Or.inl (H 61 _ rfl)) Via.refl eq_ Fr_start (g := (mkF m 116 #[vr aa, vr at_, vr al, vi 3, vi kc, vi sv, vi pv, vi iv, sl] [(.ref aa), (.int iv)])) rfl rfl (hb hby d7_116)
      obtain ⟨cq1484, kq1484, q1484a, q1484b, q1484c⟩ := isOf hZ e1483 Et
      obtain ⟨_, _, ⟨T1484, L1484, k1484, n1484⟩, -, X1484, ⟨Lc1484, hQ1484, l1484, y1484, z1484⟩, st1484⟩ := X1483.interfaceBack hx hown (mvT hZ (H 83 _ rfl)) (mvT hZ (H 84 _ rfl)) (mvT hZ (H 85 _ rfl)) (mvT hZ (H 86 _ rfl)) (mvT hZ (H 87 _ rfl)) (mvT hZ (H 88 _ rfl)) (mvT hZ (H 89 _ rfl)) (mvT hZ (H 53 _ rfl)) (by decide) (backOf (W := 0) (rm14 l Z a0 hw [] at_ iv cs vf ab kb (4 : Int32) [(.int (own_b pa0)), (.int (own_b pa1)), (.int (own_b pa2)), (.int (own_b pa3))] (own_b cj) h0 n0 Z0 O0 Scs hcs Ssf hvf Et Fv Fc Va h0i hlt hget) hZ (H 90 _ rfl) (H 9 _ rfl) (by decide) (by decide)) q1484a q1484b q1484c (g := (mkF m 125 #[vr aa, vr at_, vr al, vi 3, vi kc, vi sv, vi pv, vi iv, sl] [(.int iv), (.ref at_)])) rfl (by rw [hml]; rfl) (Steps.refl _) (argsL := [(.int iv)]) (rest := []) (lenOf own_pd356 rfl) rfl (Nat.le_of_eq rfl) (hb hby d7_125) (fun _ _ => ⟨rfl, e1483, Nat.zero_le _, Nat.zero_le _⟩)
      dsimp only [Pt.U, Pt.locs, Pt.cells, Pt.slots] at X1484 l1484 y1484 z1484 st1484 hQ1484
      rw [l1484, y1484, z1484] at X1484
      obtain ⟨rfl, Nq1484, e1484⟩ := hQ1484
      have N1484 := Fr.app Nq Nq1484
      have pre1485 : ∀ t, Sp p e below m T1484 130 #[vr aa, vr at_, vr al, vi 3, vi kc, vi sv, vi pv, vi iv, sl] [(.int (own_lat (own_b cj)))] t → SG p e below G0 t := by
        intro t k
        refine preq t ?_
        show Sp p e below m Tq 113 #[vr aa, vr at_, vr al, vi 3, vi kc, vi sv, vi pv, vi iv, sl] [] _
        refine XS.iload Xq.here hx rfl (hb hby d7_113) rfl ?_
        refine XS.aloadN Xq.here hx rfl (hb hby d7_115) rfl rfl ?_
        refine st1483 _ ?_
        show Sp p e below m T1483 119 #[vr aa, vr at_, vr al, vi 3, vi kc, vi sv, vi pv, vi iv, sl] [(.int 0), (.int iv)] _
        refine XS.icmpNo X1483.here hx rfl (hb hby d7_119) rfl (flt (h0i : ¬ (iv < (0 : Int32)))).1 ?_
        refine XS.aloadN X1483.here hx rfl (hb hby d7_122) rfl rfl ?_
        refine XS.iload X1483.here hx rfl (hb hby d7_123) rfl ?_
        refine st1484.trans ?_
        exact k
      rw [show (own_lat (own_b cj)) = cj from own_at hpj] at pre1485
      obtain ⟨_, _, ⟨T1486, L1486, k1486, n1486⟩, -, X1486, ⟨Lc1486, hQ1486, l1486, y1486, z1486⟩, st1486⟩ := Jvm.LawKit.callS X1484 hx hown (mvT hZ (H 128 _ rfl)) (mvT hZ (H 114 _ rfl)) (mvT hZ (H 36 _ rfl)) (mvT hZ (H 115 _ rfl)) (by decide) (backOf (W := 0) (rm20 l Z a0 hw [] cj  h0 n0 Z0 ) hZ (H 115 _ rfl) (H 36 _ rfl) (by decide) (by decide)) (g := (mkF m 134 #[vr aa, vr at_, vr al, vi 3, vi kc, vi sv, vi pv, vi iv, vi cj] [(.int cj)])) rfl (by rw [hml]; rfl) (argsL := [(.int cj)]) (rest := []) (lenOf own_pd215 rfl) rfl (Nat.le_of_eq rfl) (hb hby d7_134) (fun _ _ => ⟨rfl, e1484, Nat.zero_le _, Nat.zero_le _⟩)
      dsimp only [Pt.U, Pt.locs, Pt.cells, Pt.slots] at X1486 l1486 y1486 z1486 st1486 hQ1486
      rw [l1486, y1486, z1486] at X1486
      obtain ⟨rfl, Nq1486, e1486⟩ := hQ1486
      have N1486 := Fr.app N1484 Nq1486
      have pre1487 : ∀ t, Sp p e below m T1486 137 #[vr aa, vr at_, vr al, vi 3, vi kc, vi sv, vi pv, vi iv, vi cj] [(.int (own_dg cj))] t → SG p e below G0 t := by
        intro t k
        refine pre1485 t ?_
        show Sp p e below m T1484 130 #[vr aa, vr at_, vr al, vi 3, vi kc, vi sv, vi pv, vi iv, sl] [(.int cj)] _
        refine XS.istore X1484.here hx rfl (hb hby d7_130) rfl (l' := #[vr aa, vr at_, vr al, vi 3, vi kc, vi sv, vi pv, vi iv, vi cj]) (by rcases hsl with rfl | ⟨z, rfl⟩ <;> rfl) ?_
        refine XS.iload X1484.here hx rfl (hb hby d7_132) rfl ?_
        refine st1486 _ ?_
        exact k
      by_cases hc137_1488 : (own_dg cj) = (0 : Int32)
      · obtain ⟨T1489, X1489, e1489, st1489⟩ := getF X1486 hx hZ hown (host := "") (Or.inl (H 81 _ rfl)) Via.refl e1486 Fr_ignoresOthers (g := (mkF m 168 #[vr aa, vr at_, vr al, vi 3, vi kc, vi sv, vi pv, vi iv, vi cj] [(.ref aa)])) rfl rfl (hb hby d7_168)
        have pre1490 : ∀ t, Sp p e below m T1489 113 #[vr aa, vr at_, vr al, vi 3, vi kc, vi sv, vi pv, vi (iv + (-1 : Int32)), vi cj] [] t → SG p e below G0 t := by
          intro t k
          refine pre1487 t ?_
          show Sp p e below m T1486 137 #[vr aa, vr at_, vr al, vi 3, vi kc, vi sv, vi pv, vi iv, vi cj] [(.int (own_dg cj))] _
          refine XS.ifYes X1486.here hx rfl (pc0 := 137) (pc' := 167) rfl (hb hby d7_137) rfl ((if0 _ _).trans (teq hc137_1488).1) (by decide) (by decide) ?_
          refine XS.aloadN X1486.here hx rfl (hb hby d7_167) rfl rfl ?_
          refine st1489 _ ?_
          show Sp p e below m T1489 171 #[vr aa, vr at_, vr al, vi 3, vi kc, vi sv, vi pv, vi iv, vi cj] [(.int gv)] _
          refine XS.ifYes X1489.here hx rfl (pc0 := 171) (pc' := 176) rfl (hb hby d7_171) rfl ((if0 _ _).trans (feq (fun q => hbd ⟨q, hc137_1488⟩ : ¬ (gv = (0 : Int32)))).2) (by decide) (by decide) ?_
          refine XS.iinc X1489.here hx rfl (hb hby d7_176) rfl (l' := #[vr aa, vr at_, vr al, vi 3, vi kc, vi sv, vi pv, vi (iv + (-1 : Int32)), vi cj]) rfl ?_
          refine XS.goto X1489.here hx rfl (pc0 := 179) (pc' := 113) rfl (hb hby d7_179) (by decide) (by decide) ?_
          exact k
        exact ⟨T1489, _, sv, pv, X1489, e1489, N1486, (by exact ⟨by rw [own_sm, if_pos hc137_1488], by rw [own_ps, if_pos hc137_1488]⟩), pre1490⟩
      · obtain ⟨cq1491, kq1491, q1491a, q1491b, q1491c⟩ := isOf hZ e1486 El
        obtain ⟨_, _, ⟨T1491, L1491, k1491, n1491⟩, -, X1491, ⟨Lc1491, hQ1491, l1491, y1491, z1491⟩, st1491⟩ := X1486.virtualBack hx hown (mvT hZ (H 129 _ rfl)) (mvT hZ (H 130 _ rfl)) (own_nf (args := #[]) (mvT hZ (H 111 _ rfl)) rfl) (mvT hZ (H 131 _ rfl)) (mvT hZ (H 132 _ rfl)) (by decide) (backOf (W := 1) (rm24 l Z a0 hw [] al (pv + (1 : Int32)) (cj - (48 : Int32))  h0 n0 Z0 ) hZ (H 133 _ rfl) (H 120 _ rfl) (by decide) (by decide)) q1491a q1491c (g := (mkF m 153 #[vr aa, vr at_, vr al, vi 3, vi kc, vi sv, vi (pv + (1 : Int32)), vi iv, vi cj] [(.int (cj - (48 : Int32))), (.int (pv + (1 : Int32))), (.ref al), (.int sv)])) rfl (by rw [hml]; rfl) (Steps.refl _) (argsL := [(.int (pv + (1 : Int32))), (.int (cj - (48 : Int32)))]) (rest := [(.int sv)]) (lenOf own_pd452 rfl) rfl (Nat.le_of_eq rfl) (hb hby d7_153) (fun _ _ => ⟨rfl, e1486, Nat.zero_le _, Nat.zero_le _⟩)
        dsimp only [Pt.U, Pt.locs, Pt.cells, Pt.slots] at X1491 l1491 y1491 z1491 st1491 hQ1491
        rw [l1491, y1491, z1491] at X1491
        obtain ⟨rfl, Nq1491, e1491⟩ := hQ1491
        have N1491 := Fr.app N1486 Nq1491
        obtain ⟨cq1492, kq1492, q1492a, q1492b, q1492c⟩ := isOf hZ e1491 El
        obtain ⟨_, _, ⟨T1492, L1492, k1492, n1492⟩, -, X1492, ⟨Lc1492, hQ1492, l1492, y1492, z1492⟩, st1492⟩ := X1491.virtualBack hx hown (mvT hZ (H 134 _ rfl)) (mvT hZ (H 135 _ rfl)) (notFace_of_selects (args := #[]) (mvT hZ (H 137 _ rfl))) (mvT hZ (H 137 _ rfl)) (mvT hZ (H 136 _ rfl)) (by decide) (backOf (W := 1) (rm25 l Z a0 hw [] al  h0 n0 Z0 Fm) hZ (H 138 _ rfl) (H 36 _ rfl) (by decide) (by decide)) q1492a q1492c (g := (mkF m 158 #[vr aa, vr at_, vr al, vi 3, vi kc, vi sv, vi (pv + (1 : Int32)), vi iv, vi cj] [(.ref al), (.int (sv + (own_tO (pv + (1 : Int32)) (cj - (48 : Int32)))))])) rfl (by rw [hml]; rfl) (Steps.refl _) (argsL := []) (rest := [(.int (sv + (own_tO (pv + (1 : Int32)) (cj - (48 : Int32)))))]) (lenOf own_pd368 rfl) rfl (Nat.le_of_eq rfl) (hb hby d7_158) (fun _ _ => ⟨rfl, e1491, Nat.zero_le _, Nat.zero_le _⟩)
        dsimp only [Pt.U, Pt.locs, Pt.cells, Pt.slots] at X1492 l1492 y1492 z1492 st1492 hQ1492
        rw [l1492, y1492, z1492] at X1492
        obtain ⟨rfl, Nq1492, e1492⟩ := hQ1492
        have N1492 := Fr.app N1491 Nq1492
        have pre1493 : ∀ t, Sp p e below m T1492 113 #[vr aa, vr at_, vr al, vi 3, vi kc, vi ((sv + (own_tO (pv + (1 : Int32)) (cj - (48 : Int32)))) % (10 : Int32)), vi (pv + (1 : Int32)), vi (iv + (-1 : Int32)), vi cj] [] t → SG p e below G0 t := by
          intro t k
          refine pre1487 t ?_
          show Sp p e below m T1486 137 #[vr aa, vr at_, vr al, vi 3, vi kc, vi sv, vi pv, vi iv, vi cj] [(.int (own_dg cj))] _
          refine XS.ifNo X1486.here hx rfl (hb hby d7_137) rfl ((if0 _ _).trans (feq hc137_1488).1) ?_
          refine XS.iinc X1486.here hx rfl (hb hby d7_140) rfl (l' := #[vr aa, vr at_, vr al, vi 3, vi kc, vi sv, vi (pv + (1 : Int32)), vi iv, vi cj]) rfl ?_
          refine XS.iload X1486.here hx rfl (hb hby d7_143) rfl ?_
          refine XS.aloadN X1486.here hx rfl (hb hby d7_145) rfl rfl ?_
          refine XS.iload X1486.here hx rfl (hb hby d7_146) rfl ?_
          refine XS.iload X1486.here hx rfl (hb hby d7_148) rfl ?_
          refine XS.bipush X1486.here hx rfl (hb hby d7_150) ?_
          refine XS.isub X1486.here hx rfl (hb hby d7_152) rfl ?_
          show Sp p e below m T1486 153 #[vr aa, vr at_, vr al, vi 3, vi kc, vi sv, vi (pv + (1 : Int32)), vi iv, vi cj] [(.int (cj - (48 : Int32))), (.int (pv + (1 : Int32))), (.ref al), (.int sv)] _
          refine st1491.trans ?_
          show Sp p e below m T1491 156 #[vr aa, vr at_, vr al, vi 3, vi kc, vi sv, vi (pv + (1 : Int32)), vi iv, vi cj] [(.int (own_tO (pv + (1 : Int32)) (cj - (48 : Int32)))), (.int sv)] _
          refine XS.iadd X1491.here hx rfl (hb hby d7_156) rfl ?_
          refine XS.aloadN X1491.here hx rfl (hb hby d7_157) rfl rfl ?_
          refine st1492.trans ?_
          show Sp p e below m T1492 161 #[vr aa, vr at_, vr al, vi 3, vi kc, vi sv, vi (pv + (1 : Int32)), vi iv, vi cj] [(.int 10), (.int (sv + (own_tO (pv + (1 : Int32)) (cj - (48 : Int32)))))] _
          refine iremM X1492 hx rfl (hb hby d7_161) rfl (by decide) ?_
          show Sp p e below m T1492 162 #[vr aa, vr at_, vr al, vi 3, vi kc, vi sv, vi (pv + (1 : Int32)), vi iv, vi cj] [(.int ((sv + (own_tO (pv + (1 : Int32)) (cj - (48 : Int32)))) % (10 : Int32)))] _
          refine XS.istore X1492.here hx rfl (hb hby d7_162) rfl (l' := #[vr aa, vr at_, vr al, vi 3, vi kc, vi ((sv + (own_tO (pv + (1 : Int32)) (cj - (48 : Int32)))) % (10 : Int32)), vi (pv + (1 : Int32)), vi iv, vi cj]) rfl ?_
          refine XS.goto X1492.here hx rfl (pc0 := 164) (pc' := 176) rfl (hb hby d7_164) (by decide) (by decide) ?_
          refine XS.iinc X1492.here hx rfl (hb hby d7_176) rfl (l' := #[vr aa, vr at_, vr al, vi 3, vi kc, vi ((sv + (own_tO (pv + (1 : Int32)) (cj - (48 : Int32)))) % (10 : Int32)), vi (pv + (1 : Int32)), vi (iv + (-1 : Int32)), vi cj]) rfl ?_
          refine XS.goto X1492.here hx rfl (pc0 := 179) (pc' := 113) rfl (hb hby d7_179) (by decide) (by decide) ?_
          exact k
        exact ⟨T1492, _, ((sv + (own_tO (pv + (1 : Int32)) (cj - (48 : Int32)))) % (10 : Int32)), (pv + (1 : Int32)), X1492, e1492, N1492, (by exact ⟨by rw [own_sm, if_neg hc137_1488], by rw [own_ps, if_neg hc137_1488]⟩), pre1493⟩
    exact ⟨Tm1494, lm1494, s_, p_, Xm1494, em1494, Nm1494, hv1496, pre1495⟩
  have bd : ∀ (G0 Tq : State) (lq : List Loc) (kc : Int32) (iv : Int32) (sv : Int32) (pv : Int32) (cj : Int32) (sl : Slot), Stand p l e ({ frames := 5, cells := 0, slots := 0, locals := 70 } : Room) s m #[(.ref aa), (.ref at_), (.ref al)] below meth c Tq lq 0 0 → Tq.heap = h0 → Fr n0 lq → (¬ iv < (0 : Int32)) → (iv < (4 : Int32)) → (([(.int (own_b pa0)), (.int (own_b pa1)), (.int (own_b pa2)), (.int (own_b pa3))] : List Value).getD iv.toNatClampNeg (.int 0) = .int (own_b cj)) → (0 ≤ cj.toInt ∧ cj.toInt ≤ 255) → (sl = .unset ∨ ∃ z : Int32, sl = vi z) → (gv = 0 ∧ own_dg cj = 0) → (∀ t, Sp p e below m Tq 113 #[vr aa, vr at_, vr al, vi 3, vi kc, vi sv, vi pv, vi iv, sl] [] t → SG p e below G0 t) → ∃ (Tm1504 : State) (lm1504 : List Loc), Stand p l e ({ frames := 5, cells := 0, slots := 0, locals := 70 } : Room) s m #[(.ref aa), (.ref at_), (.ref al)] below meth c Tm1504 lm1504 0 0 ∧ Tm1504.heap = h0 ∧ Fr n0 lm1504 ∧ (True) ∧ ∀ t, Sp p e below m Tm1504 174 #[vr aa, vr at_, vr al, vi 3, vi kc, vi sv, vi pv, vi iv, vi cj] [] t → SG p e below G0 t := by
    intro G0 Tq lq kc iv sv pv cj sl Xq eq_ Nq h0i hlt hget hpj hsl hbd preq
    obtain ⟨Tm1504, lm1504, Xm1504, em1504, Nm1504, hv1506, pre1505⟩ : ∃ (Tm1504 : State) (lm1504 : List Loc), Stand p l e ({ frames := 5, cells := 0, slots := 0, locals := 70 } : Room) s m #[(.ref aa), (.ref at_), (.ref al)] below meth c Tm1504 lm1504 0 0 ∧ Tm1504.heap = h0 ∧ Fr n0 lm1504 ∧ (True) ∧ ∀ t, Sp p e below m Tm1504 174 #[vr aa, vr at_, vr al, vi 3, vi kc, vi sv, vi pv, vi iv, vi cj] [] t → SG p e below G0 t := by
      obtain ⟨T1498, X1498, e1498, st1498⟩ := getF Xq hx hZ hown (host := "") (Or.inl (H 61 _ rfl)) Via.refl eq_ Fr_start (g := (mkF m 116 #[vr aa, vr at_, vr al, vi 3, vi kc, vi sv, vi pv, vi iv, sl] [(.ref aa), (.int iv)])) rfl rfl (hb hby d7_116)
      obtain ⟨cq1499, kq1499, q1499a, q1499b, q1499c⟩ := isOf hZ e1498 Et
      obtain ⟨_, _, ⟨T1499, L1499, k1499, n1499⟩, -, X1499, ⟨Lc1499, hQ1499, l1499, y1499, z1499⟩, st1499⟩ := X1498.interfaceBack hx hown (mvT hZ (H 83 _ rfl)) (mvT hZ (H 84 _ rfl)) (mvT hZ (H 85 _ rfl)) (mvT hZ (H 86 _ rfl)) (mvT hZ (H 87 _ rfl)) (mvT hZ (H 88 _ rfl)) (mvT hZ (H 89 _ rfl)) (mvT hZ (H 53 _ rfl)) (by decide) (backOf (W := 0) (rm14 l Z a0 hw [] at_ iv cs vf ab kb (4 : Int32) [(.int (own_b pa0)), (.int (own_b pa1)), (.int (own_b pa2)), (.int (own_b pa3))] (own_b cj) h0 n0 Z0 O0 Scs hcs Ssf hvf Et Fv Fc Va h0i hlt hget) hZ (H 90 _ rfl) (H 9 _ rfl) (by decide) (by decide)) q1499a q1499b q1499c (g := (mkF m 125 #[vr aa, vr at_, vr al, vi 3, vi kc, vi sv, vi pv, vi iv, sl] [(.int iv), (.ref at_)])) rfl (by rw [hml]; rfl) (Steps.refl _) (argsL := [(.int iv)]) (rest := []) (lenOf own_pd356 rfl) rfl (Nat.le_of_eq rfl) (hb hby d7_125) (fun _ _ => ⟨rfl, e1498, Nat.zero_le _, Nat.zero_le _⟩)
      dsimp only [Pt.U, Pt.locs, Pt.cells, Pt.slots] at X1499 l1499 y1499 z1499 st1499 hQ1499
      rw [l1499, y1499, z1499] at X1499
      obtain ⟨rfl, Nq1499, e1499⟩ := hQ1499
      have N1499 := Fr.app Nq Nq1499
      have pre1500 : ∀ t, Sp p e below m T1499 130 #[vr aa, vr at_, vr al, vi 3, vi kc, vi sv, vi pv, vi iv, sl] [(.int (own_lat (own_b cj)))] t → SG p e below G0 t := by
        intro t k
        refine preq t ?_
        show Sp p e below m Tq 113 #[vr aa, vr at_, vr al, vi 3, vi kc, vi sv, vi pv, vi iv, sl] [] _
        refine XS.iload Xq.here hx rfl (hb hby d7_113) rfl ?_
        refine XS.aloadN Xq.here hx rfl (hb hby d7_115) rfl rfl ?_
        refine st1498 _ ?_
        show Sp p e below m T1498 119 #[vr aa, vr at_, vr al, vi 3, vi kc, vi sv, vi pv, vi iv, sl] [(.int 0), (.int iv)] _
        refine XS.icmpNo X1498.here hx rfl (hb hby d7_119) rfl (flt (h0i : ¬ (iv < (0 : Int32)))).1 ?_
        refine XS.aloadN X1498.here hx rfl (hb hby d7_122) rfl rfl ?_
        refine XS.iload X1498.here hx rfl (hb hby d7_123) rfl ?_
        refine st1499.trans ?_
        exact k
      rw [show (own_lat (own_b cj)) = cj from own_at hpj] at pre1500
      obtain ⟨_, _, ⟨T1501, L1501, k1501, n1501⟩, -, X1501, ⟨Lc1501, hQ1501, l1501, y1501, z1501⟩, st1501⟩ := Jvm.LawKit.callS X1499 hx hown (mvT hZ (H 128 _ rfl)) (mvT hZ (H 114 _ rfl)) (mvT hZ (H 36 _ rfl)) (mvT hZ (H 115 _ rfl)) (by decide) (backOf (W := 0) (rm20 l Z a0 hw [] cj  h0 n0 Z0 ) hZ (H 115 _ rfl) (H 36 _ rfl) (by decide) (by decide)) (g := (mkF m 134 #[vr aa, vr at_, vr al, vi 3, vi kc, vi sv, vi pv, vi iv, vi cj] [(.int cj)])) rfl (by rw [hml]; rfl) (argsL := [(.int cj)]) (rest := []) (lenOf own_pd215 rfl) rfl (Nat.le_of_eq rfl) (hb hby d7_134) (fun _ _ => ⟨rfl, e1499, Nat.zero_le _, Nat.zero_le _⟩)
      dsimp only [Pt.U, Pt.locs, Pt.cells, Pt.slots] at X1501 l1501 y1501 z1501 st1501 hQ1501
      rw [l1501, y1501, z1501] at X1501
      obtain ⟨rfl, Nq1501, e1501⟩ := hQ1501
      have N1501 := Fr.app N1499 Nq1501
      obtain ⟨T1502, X1502, e1502, st1502⟩ := getF X1501 hx hZ hown (host := "") (Or.inl (H 81 _ rfl)) Via.refl e1501 Fr_ignoresOthers (g := (mkF m 168 #[vr aa, vr at_, vr al, vi 3, vi kc, vi sv, vi pv, vi iv, vi cj] [(.ref aa)])) rfl rfl (hb hby d7_168)
      have pre1503 : ∀ t, Sp p e below m T1502 174 #[vr aa, vr at_, vr al, vi 3, vi kc, vi sv, vi pv, vi iv, vi cj] [] t → SG p e below G0 t := by
        intro t k
        refine pre1500 t ?_
        show Sp p e below m T1499 130 #[vr aa, vr at_, vr al, vi 3, vi kc, vi sv, vi pv, vi iv, sl] [(.int cj)] _
        refine XS.istore X1499.here hx rfl (hb hby d7_130) rfl (l' := #[vr aa, vr at_, vr al, vi 3, vi kc, vi sv, vi pv, vi iv, vi cj]) (by rcases hsl with rfl | ⟨z, rfl⟩ <;> rfl) ?_
        refine XS.iload X1499.here hx rfl (hb hby d7_132) rfl ?_
        refine st1501 _ ?_
        show Sp p e below m T1501 137 #[vr aa, vr at_, vr al, vi 3, vi kc, vi sv, vi pv, vi iv, vi cj] [(.int (own_dg cj))] _
        refine XS.ifYes X1501.here hx rfl (pc0 := 137) (pc' := 167) rfl (hb hby d7_137) rfl ((if0 _ _).trans (teq (hbd.2 : ((own_dg cj) = (0 : Int32)))).1) (by decide) (by decide) ?_
        refine XS.aloadN X1501.here hx rfl (hb hby d7_167) rfl rfl ?_
        refine st1502 _ ?_
        show Sp p e below m T1502 171 #[vr aa, vr at_, vr al, vi 3, vi kc, vi sv, vi pv, vi iv, vi cj] [(.int gv)] _
        refine XS.ifNo X1502.here hx rfl (hb hby d7_171) rfl ((if0 _ _).trans (teq (hbd.1 : (gv = (0 : Int32)))).2) ?_
        exact k
      exact ⟨T1502, _, X1502, e1502, N1501, (by trivial), pre1503⟩
    exact ⟨Tm1504, lm1504, Xm1504, em1504, Nm1504, hv1506, pre1505⟩
  obtain ⟨T1507, X1507, e1507, st1507⟩ := getF X0 hx hZ hown (host := "") (Or.inl (H 43 _ rfl)) Via.refl e0 Fr_end (g := (mkF m 1 #[vr aa, vr at_, vr al, .unset, .unset, .unset, .unset, .unset, .unset] [(.ref aa)])) rfl rfl (hb hby d7_1)
  obtain ⟨cq1508, kq1508, q1508a, q1508b, q1508c⟩ := isOf hZ e1507 Et
  obtain ⟨_, _, ⟨T1508, L1508, k1508, n1508⟩, -, X1508, ⟨Lc1508, hQ1508, l1508, y1508, z1508⟩, st1508⟩ := X1507.interfaceBack hx hown (mvT hZ (H 46 _ rfl)) (mvT hZ (H 47 _ rfl)) (mvT hZ (H 48 _ rfl)) (mvT hZ (H 49 _ rfl)) (mvT hZ (H 50 _ rfl)) (mvT hZ (H 51 _ rfl)) (mvT hZ (H 52 _ rfl)) (mvT hZ (H 53 _ rfl)) (by decide) (backOf (W := 0) (rm8 l Z a0 hw [] at_ cs vf ab kb (4 : Int32) [(.int (own_b pa0)), (.int (own_b pa1)), (.int (own_b pa2)), (.int (own_b pa3))] h0 n0 Z0 O0 Scs hcs Ssf hvf Et Fv Fc Va) hZ (H 54 _ rfl) (H 9 _ rfl) (by decide) (by decide)) q1508a q1508b q1508c (g := (mkF m 10 #[vr aa, vr at_, vr al, .unset, .unset, .unset, .unset, .unset, .unset] [(.ref at_)])) rfl (by rw [hml]; rfl) (Steps.refl _) (argsL := []) (rest := []) (lenOf own_pd368 rfl) rfl (Nat.le_of_eq rfl) (hb hby d7_10) (fun _ _ => ⟨rfl, e1507, Nat.zero_le _, Nat.zero_le _⟩)
  dsimp only [Pt.U, Pt.locs, Pt.cells, Pt.slots] at X1508 l1508 y1508 z1508 st1508 hQ1508
  rw [l1508, y1508, z1508] at X1508
  obtain ⟨rfl, Nq1508, e1508⟩ := hQ1508
  have N1508 := Fr.app N0 Nq1508
  obtain ⟨T1509, X1509, e1509, st1509⟩ := getF X1508 hx hZ hown (host := "") (Or.inl (H 61 _ rfl)) Via.refl e1508 Fr_start (g := (mkF m 27 #[vr aa, vr at_, vr al, vi 3, .unset, .unset, .unset, .unset, .unset] [(.ref aa), (.int 3)])) rfl rfl (hb hby d7_27)
  obtain ⟨cq1510, kq1510, q1510a, q1510b, q1510c⟩ := isOf hZ e1509 Et
  obtain ⟨_, _, ⟨T1510, L1510, k1510, n1510⟩, -, X1510, ⟨Lc1510, hQ1510, l1510, y1510, z1510⟩, st1510⟩ := X1509.interfaceBack hx hown (mvT hZ (H 46 _ rfl)) (mvT hZ (H 47 _ rfl)) (mvT hZ (H 48 _ rfl)) (mvT hZ (H 49 _ rfl)) (mvT hZ (H 50 _ rfl)) (mvT hZ (H 51 _ rfl)) (mvT hZ (H 52 _ rfl)) (mvT hZ (H 53 _ rfl)) (by decide) (backOf (W := 1) (rm8 l Z a0 hw [] at_ cs vf ab kb (4 : Int32) [(.int (own_b pa0)), (.int (own_b pa1)), (.int (own_b pa2)), (.int (own_b pa3))] h0 n0 Z0 O0 Scs hcs Ssf hvf Et Fv Fc Va) hZ (H 54 _ rfl) (H 9 _ rfl) (by decide) (by decide)) q1510a q1510b q1510c (g := (mkF m 35 #[vr aa, vr at_, vr al, vi 3, .unset, .unset, .unset, .unset, .unset] [(.ref at_), (.int 3)])) rfl (by rw [hml]; rfl) (Steps.refl _) (argsL := []) (rest := [(.int 3)]) (lenOf own_pd368 rfl) rfl (Nat.le_of_eq rfl) (hb hby d7_35) (fun _ _ => ⟨rfl, e1509, Nat.zero_le _, Nat.zero_le _⟩)
  dsimp only [Pt.U, Pt.locs, Pt.cells, Pt.slots] at X1510 l1510 y1510 z1510 st1510 hQ1510
  rw [l1510, y1510, z1510] at X1510
  obtain ⟨rfl, Nq1510, e1510⟩ := hQ1510
  have N1510 := Fr.app N1508 Nq1510
  obtain ⟨T1511, X1511, e1511, st1511⟩ := getF X1510 hx hZ hown (host := "") (Or.inl (H 75 _ rfl)) Via.refl e1510 Fr_checkAt (g := (mkF m 44 #[vr aa, vr at_, vr al, vi 3, .unset, .unset, .unset, .unset, .unset] [(.ref aa)])) rfl rfl (hb hby d7_44)
  obtain ⟨cq1512, kq1512, q1512a, q1512b, q1512c⟩ := isOf hZ e1511 Et
  obtain ⟨_, _, ⟨T1512, L1512, k1512, n1512⟩, -, X1512, ⟨Lc1512, hQ1512, l1512, y1512, z1512⟩, st1512⟩ := X1511.interfaceBack hx hown (mvT hZ (H 46 _ rfl)) (mvT hZ (H 47 _ rfl)) (mvT hZ (H 48 _ rfl)) (mvT hZ (H 49 _ rfl)) (mvT hZ (H 50 _ rfl)) (mvT hZ (H 51 _ rfl)) (mvT hZ (H 52 _ rfl)) (mvT hZ (H 53 _ rfl)) (by decide) (backOf (W := 1) (rm8 l Z a0 hw [] at_ cs vf ab kb (4 : Int32) [(.int (own_b pa0)), (.int (own_b pa1)), (.int (own_b pa2)), (.int (own_b pa3))] h0 n0 Z0 O0 Scs hcs Ssf hvf Et Fv Fc Va) hZ (H 54 _ rfl) (H 9 _ rfl) (by decide) (by decide)) q1512a q1512b q1512c (g := (mkF m 48 #[vr aa, vr at_, vr al, vi 3, .unset, .unset, .unset, .unset, .unset] [(.ref at_), (.int (-1))])) rfl (by rw [hml]; rfl) (Steps.refl _) (argsL := []) (rest := [(.int (-1))]) (lenOf own_pd368 rfl) rfl (Nat.le_of_eq rfl) (hb hby d7_48) (fun _ _ => ⟨rfl, e1511, Nat.zero_le _, Nat.zero_le _⟩)
  dsimp only [Pt.U, Pt.locs, Pt.cells, Pt.slots] at X1512 l1512 y1512 z1512 st1512 hQ1512
  rw [l1512, y1512, z1512] at X1512
  obtain ⟨rfl, Nq1512, e1512⟩ := hQ1512
  have N1512 := Fr.app N1510 Nq1512
  obtain ⟨T1513, X1513, e1513, st1513⟩ := getF X1512 hx hZ hown (host := "") (Or.inl (H 75 _ rfl)) Via.refl e1512 Fr_checkAt (g := (mkF m 59 #[vr aa, vr at_, vr al, vi 3, .unset, .unset, .unset, .unset, .unset] [(.ref aa)])) rfl rfl (hb hby d7_59)
  obtain ⟨cq1514, q1514, q1514'⟩ := Er.cell
  obtain ⟨_, _, ⟨T1514, L1514, k1514, n1514⟩, -, X1514, ⟨Lc1514, hQ1514, l1514, y1514, z1514⟩, st1514⟩ := X1513.privateBack hx hown (mvT hZ (H 77 _ rfl)) (mvT hZ (H 78 _ rfl)) (own_selpriv (by decide) (mvT hZ (H 41 _ rfl)) (mvP hZ (H 79 _ rfl)) (mvT hZ (H 78 _ rfl)) rfl) (Cond.privateMethod_at (mvP hZ (H 79 _ rfl) (args := #[]))) (mvT hZ (H 80 _ rfl)) (by decide) (backOf (W := 0) (rm13n4 l Z a0 hw [] aa at_ al cs vf ab kb gv pa0 pa1 pa2 pa3 h0 n0 Z0 O0 Scs hcs Ssf hvf Er Fr_end Fr_start Fr_checkAt Fr_ignoresOthers El Fm Et Fv Fc Va hp0 hp1 hp2 hp3) hZ (H 80 _ rfl) (H 31 _ rfl) (by decide) (by decide)) (g := (mkF m 70 #[vr aa, vr at_, vr al, vi 3, .unset, .unset, .unset, .unset, .unset] [(.ref al), (.int 3), (.ref at_), (.ref aa)])) rfl (by rw [hml]; rfl) (Steps.refl _) (a := aa) (by rw [e1513]; exact q1514) q1514' (argsL := [(.ref at_), (.int 3), (.ref al)]) (rest := []) (lenOf own_pd397 rfl) rfl (Nat.le_of_eq rfl) (hb hby d7_70) (fun _ _ => ⟨rfl, e1513, Nat.zero_le _, Nat.zero_le _⟩)
  dsimp only [Pt.U, Pt.locs, Pt.cells, Pt.slots] at X1514 l1514 y1514 z1514 st1514 hQ1514
  rw [l1514, y1514, z1514] at X1514
  obtain ⟨rrk_1514, rfl, Nq1514, e1514, p1514_0⟩ := hQ1514
  have N1514 := Fr.app N1512 Nq1514
  have pre1515 : ∀ t, Sp p e below m T1514 73 #[vr aa, vr at_, vr al, vi 3, .unset, .unset, .unset, .unset, .unset] [(.int rrk_1514)] t → SG p e below G0 t := by
    intro t k
    refine pre0 t ?_
    show Sp p e below m s₁ 0 #[vr aa, vr at_, vr al, .unset, .unset, .unset, .unset, .unset, .unset] [] _
    refine XS.aloadN X0.here hx rfl (hb hby d7_0) rfl rfl ?_
    refine st1507 _ ?_
    show Sp p e below m T1507 4 #[vr aa, vr at_, vr al, .unset, .unset, .unset, .unset, .unset, .unset] [(.int 2147483647)] _
    refine X1507.ldcInt hx hown (mvT hZ (H 45 _ rfl)) (g := (mkF m 4 #[vr aa, vr at_, vr al, .unset, .unset, .unset, .unset, .unset, .unset] [(.int 2147483647)])) rfl (hb hby d7_4) _ ?_
    show Sp p e below m T1507 6 #[vr aa, vr at_, vr al, .unset, .unset, .unset, .unset, .unset, .unset] [(.int 2147483647), (.int 2147483647)] _
    refine XS.icmpNo X1507.here hx rfl (hb hby d7_6) rfl (teq (by decide : ((2147483647 : Int32) = (2147483647 : Int32)))).2 ?_
    refine XS.aloadN X1507.here hx rfl (hb hby d7_9) rfl rfl ?_
    refine st1508.trans ?_
    show Sp p e below m T1508 15 #[vr aa, vr at_, vr al, .unset, .unset, .unset, .unset, .unset, .unset] [(.int 4)] _
    refine XS.iconst X1508.here hx rfl (hb hby d7_15) ?_
    refine XS.isub X1508.here hx rfl (hb hby d7_16) rfl ?_
    refine XS.goto X1508.here hx rfl (pc0 := 17) (pc' := 24) rfl (hb hby d7_17) (by decide) (by decide) ?_
    refine XS.istoreN X1508.here hx rfl (hb hby d7_24) rfl (l' := #[vr aa, vr at_, vr al, vi 3, .unset, .unset, .unset, .unset, .unset]) rfl ?_
    refine XS.iloadN X1508.here hx rfl (hb hby d7_25) rfl ?_
    refine XS.aloadN X1508.here hx rfl (hb hby d7_26) rfl rfl ?_
    refine st1509 _ ?_
    show Sp p e below m T1509 30 #[vr aa, vr at_, vr al, vi 3, .unset, .unset, .unset, .unset, .unset] [(.int 0), (.int 3)] _
    refine XS.icmpNo X1509.here hx rfl (hb hby d7_30) rfl (flt (by decide : ¬ ((3 : Int32) < (0 : Int32)))).1 ?_
    refine XS.iloadN X1509.here hx rfl (hb hby d7_33) rfl ?_
    refine XS.aloadN X1509.here hx rfl (hb hby d7_34) rfl rfl ?_
    refine st1510.trans ?_
    show Sp p e below m T1510 40 #[vr aa, vr at_, vr al, vi 3, .unset, .unset, .unset, .unset, .unset] [(.int 4), (.int 3)] _
    refine XS.icmpNo X1510.here hx rfl (hb hby d7_40) rfl (tlt (by decide : ((3 : Int32) < (4 : Int32)))).2.1 ?_
    refine XS.aloadN X1510.here hx rfl (hb hby d7_43) rfl rfl ?_
    refine st1511 _ ?_
    show Sp p e below m T1511 47 #[vr aa, vr at_, vr al, vi 3, .unset, .unset, .unset, .unset, .unset] [(.int (-1))] _
    refine XS.aloadN X1511.here hx rfl (hb hby d7_47) rfl rfl ?_
    refine st1512.trans ?_
    show Sp p e below m T1512 53 #[vr aa, vr at_, vr al, vi 3, .unset, .unset, .unset, .unset, .unset] [(.int 4), (.int (-1))] _
    refine XS.icmpYes X1512.here hx rfl (pc0 := 53) (pc' := 58) rfl (hb hby d7_53) rfl (tlt (by decide : ((-1 : Int32) < (4 : Int32)))).1 (by decide) (by decide) ?_
    refine XS.aloadN X1512.here hx rfl (hb hby d7_58) rfl rfl ?_
    refine st1513 _ ?_
    show Sp p e below m T1513 62 #[vr aa, vr at_, vr al, vi 3, .unset, .unset, .unset, .unset, .unset] [(.int (-1))] _
    refine XS.iconst X1513.here hx rfl (hb hby d7_62) ?_
    refine XS.icmpNo X1513.here hx rfl (hb hby d7_63) rfl (teq (by decide : ((-1 : Int32) = (-1 : Int32)))).2 ?_
    refine XS.aloadN X1513.here hx rfl (hb hby d7_66) rfl rfl ?_
    refine XS.aloadN X1513.here hx rfl (hb hby d7_67) rfl rfl ?_
    refine XS.iloadN X1513.here hx rfl (hb hby d7_68) rfl ?_
    refine XS.aloadN X1513.here hx rfl (hb hby d7_69) rfl rfl ?_
    refine st1514.trans ?_
    exact k
  rcases p1514_0 with hq1516 | hq1517 | hq1518 | hq1519 | hq1520 | hq1521
  · rw [hq1516.1] at pre1515
    obtain ⟨T1522, X1522, e1522, st1522⟩ := getF X1514 hx hZ hown (host := "") (Or.inl (H 75 _ rfl)) Via.refl e1514 Fr_checkAt (g := (mkF m 96 #[vr aa, vr at_, vr al, vi 3, vi 3, vi 0, vi 0, .unset, .unset] [(.ref aa)])) rfl rfl (hb hby d7_96)
    have pre1523 : ∀ t, Sp p e below m T1522 113 #[vr aa, vr at_, vr al, vi 3, vi 3, vi 0, vi 0, vi 2, .unset] [] t → SG p e below G0 t := by
      intro t k
      refine pre1515 t ?_
      show Sp p e below m T1514 73 #[vr aa, vr at_, vr al, vi 3, .unset, .unset, .unset, .unset, .unset] [(.int 3)] _
      refine XS.goto X1514.here hx rfl (pc0 := 73) (pc' := 80) rfl (hb hby d7_73) (by decide) (by decide) ?_
      refine XS.istore X1514.here hx rfl (hb hby d7_80) rfl (l' := #[vr aa, vr at_, vr al, vi 3, vi 3, .unset, .unset, .unset, .unset]) rfl ?_
      refine XS.iload X1514.here hx rfl (hb hby d7_82) rfl ?_
      refine XS.ifYes X1514.here hx rfl (pc0 := 84) (pc' := 89) rfl (hb hby d7_84) rfl ((if0 _ _).trans (flt (by decide : ¬ ((3 : Int32) < (0 : Int32)))).2.1) (by decide) (by decide) ?_
      refine XS.iconst X1514.here hx rfl (hb hby d7_89) ?_
      refine XS.istore X1514.here hx rfl (hb hby d7_90) rfl (l' := #[vr aa, vr at_, vr al, vi 3, vi 3, vi 0, .unset, .unset, .unset]) rfl ?_
      refine XS.iconst X1514.here hx rfl (hb hby d7_92) ?_
      refine XS.istore X1514.here hx rfl (hb hby d7_93) rfl (l' := #[vr aa, vr at_, vr al, vi 3, vi 3, vi 0, vi 0, .unset, .unset]) rfl ?_
      show Sp p e below m T1514 95 #[vr aa, vr at_, vr al, vi 3, vi 3, vi 0, vi 0, .unset, .unset] [] _
      refine XS.aloadN X1514.here hx rfl (hb hby d7_95) rfl rfl ?_
      refine st1522 _ ?_
      show Sp p e below m T1522 99 #[vr aa, vr at_, vr al, vi 3, vi 3, vi 0, vi 0, .unset, .unset] [(.int (-1))] _
      refine XS.iconst X1522.here hx rfl (hb hby d7_99) ?_
      refine XS.icmpNo X1522.here hx rfl (hb hby d7_100) rfl (teq (by decide : ((-1 : Int32) = (-1 : Int32)))).2 ?_
      refine XS.iload X1522.here hx rfl (hb hby d7_103) rfl ?_
      refine XS.iconst X1522.here hx rfl (hb hby d7_105) ?_
      refine XS.isub X1522.here hx rfl (hb hby d7_106) rfl ?_
      refine XS.goto X1522.here hx rfl (pc0 := 107) (pc' := 111) rfl (hb hby d7_107) (by decide) (by decide) ?_
      refine XS.istore X1522.here hx rfl (hb hby d7_111) rfl (l' := #[vr aa, vr at_, vr al, vi 3, vi 3, vi 0, vi 0, vi 2, .unset]) rfl ?_
      exact k
    rcases Classical.em (own_dg pa2 = 0) with hq1524 | hq1525
    · obtain ⟨Tm1526, lm1526, Xm1526, em1526, Nm1526, hv1526, pre1526⟩ := bd G0 T1522 _ (3 : Int32) (2 : Int32) (0 : Int32) (0 : Int32) pa2 (.unset) X1522 e1522 N1514 (by decide) (by decide) rfl hp2 (Or.inl rfl) ⟨(hq1516.2), hq1524⟩ pre1523
      obtain ⟨fs, hr, hrun, hended, hW, hsame⟩ := Xm1526.leave (v := some (.int 0)) (fun h => by rw [Bd.returns] at h; cases h)
      refine ⟨_, _, pre1526 _ ?_, hrun, hended, _, _, rfl, ?_, ⟨_, rfl⟩, hW, hsame.mono (by decide) (by decide)⟩
      · show Sp p e below m Tm1526 174 #[vr aa, vr at_, vr al, vi 3, vi 3, vi 0, vi 0, vi 2, vi pa2] [] _
        refine XS.iconst Xm1526.here hx rfl (hb hby d7_174) ?_
        exact retN Xm1526 hx (t := .boolean) Bd.returns (by simp) (hb hby d7_175) hr
      · show Q7n4 Z aa at_ al cs vf ab kb gv pa0 pa1 pa2 pa3 h0 n0 _ Tm1526.heap _
        rw [em1526]
        exact ⟨(by simp only [own_ac, if_pos (hq1516.2), own_a0, own_run0, -Int32.reduceAdd, if_pos hq1524]), Nm1526, rfl⟩
    · obtain ⟨Tm1527, lm1527, s2, p2, Xm1527, em1527, Nm1527, hv1527, pre1527⟩ := it G0 T1522 _ (3 : Int32) (2 : Int32) (0 : Int32) (0 : Int32) pa2 (.unset) X1522 e1522 N1514 (by decide) (by decide) rfl hp2 (Or.inl rfl) (fun q => hq1525 q.2) pre1523
      rw [show ((2 : Int32) + (-1 : Int32)) = (1 : Int32) from by decide] at pre1527
      have hw1528 : s2 = ((0 : Int32) + own_tO p2 (pa2 - 48)) % 10 ∧ p2 = (0 : Int32) + 1 := ⟨by rw [hv1527.1, hv1527.2, own_sm, own_ps, if_neg hq1525, if_neg hq1525], hv1527.2.trans (if_neg hq1525)⟩
      rcases Classical.em (own_dg pa1 = 0) with hq1529 | hq1530
      · obtain ⟨Tm1531, lm1531, Xm1531, em1531, Nm1531, hv1531, pre1531⟩ := bd G0 Tm1527 _ (3 : Int32) (1 : Int32) s2 p2 pa1 (.val (.int pa2)) Xm1527 em1527 Nm1527 (by decide) (by decide) rfl hp1 (Or.inr ⟨_, rfl⟩) ⟨(hq1516.2), hq1529⟩ pre1527
        obtain ⟨fs, hr, hrun, hended, hW, hsame⟩ := Xm1531.leave (v := some (.int 0)) (fun h => by rw [Bd.returns] at h; cases h)
        refine ⟨_, _, pre1531 _ ?_, hrun, hended, _, _, rfl, ?_, ⟨_, rfl⟩, hW, hsame.mono (by decide) (by decide)⟩
        · show Sp p e below m Tm1531 174 #[vr aa, vr at_, vr al, vi 3, vi 3, vi s2, vi p2, vi 1, vi pa1] [] _
          refine XS.iconst Xm1531.here hx rfl (hb hby d7_174) ?_
          exact retN Xm1531 hx (t := .boolean) Bd.returns (by simp) (hb hby d7_175) hr
        · show Q7n4 Z aa at_ al cs vf ab kb gv pa0 pa1 pa2 pa3 h0 n0 _ Tm1531.heap _
          rw [em1531]
          exact ⟨(by simp only [own_ac, if_pos (hq1516.2), own_a0, own_run0, -Int32.reduceAdd, if_neg hq1525, ← hw1528.1, ← hw1528.2, if_pos hq1529]), Nm1531, rfl⟩
      · obtain ⟨Tm1532, lm1532, s1, p1, Xm1532, em1532, Nm1532, hv1532, pre1532⟩ := it G0 Tm1527 _ (3 : Int32) (1 : Int32) s2 p2 pa1 (.val (.int pa2)) Xm1527 em1527 Nm1527 (by decide) (by decide) rfl hp1 (Or.inr ⟨_, rfl⟩) (fun q => hq1530 q.2) pre1527
        rw [show ((1 : Int32) + (-1 : Int32)) = (0 : Int32) from by decide] at pre1532
        have hw1533 : s1 = (s2 + own_tO p1 (pa1 - 48)) % 10 ∧ p1 = p2 + 1 := ⟨by rw [hv1532.1, hv1532.2, own_sm, own_ps, if_neg hq1530, if_neg hq1530], hv1532.2.trans (if_neg hq1530)⟩
        rcases Classical.em (own_dg pa0 = 0) with hq1534 | hq1535
        · obtain ⟨Tm1536, lm1536, Xm1536, em1536, Nm1536, hv1536, pre1536⟩ := bd G0 Tm1532 _ (3 : Int32) (0 : Int32) s1 p1 pa0 (.val (.int pa1)) Xm1532 em1532 Nm1532 (by decide) (by decide) rfl hp0 (Or.inr ⟨_, rfl⟩) ⟨(hq1516.2), hq1534⟩ pre1532
          obtain ⟨fs, hr, hrun, hended, hW, hsame⟩ := Xm1536.leave (v := some (.int 0)) (fun h => by rw [Bd.returns] at h; cases h)
          refine ⟨_, _, pre1536 _ ?_, hrun, hended, _, _, rfl, ?_, ⟨_, rfl⟩, hW, hsame.mono (by decide) (by decide)⟩
          · show Sp p e below m Tm1536 174 #[vr aa, vr at_, vr al, vi 3, vi 3, vi s1, vi p1, vi 0, vi pa0] [] _
            refine XS.iconst Xm1536.here hx rfl (hb hby d7_174) ?_
            exact retN Xm1536 hx (t := .boolean) Bd.returns (by simp) (hb hby d7_175) hr
          · show Q7n4 Z aa at_ al cs vf ab kb gv pa0 pa1 pa2 pa3 h0 n0 _ Tm1536.heap _
            rw [em1536]
            exact ⟨(by simp only [own_ac, if_pos (hq1516.2), own_a0, own_run0, -Int32.reduceAdd, if_neg hq1525, if_neg hq1530, ← hw1528.1, ← hw1528.2, ← hw1533.1, ← hw1533.2, if_pos hq1534]), Nm1536, rfl⟩
        · obtain ⟨Tm1537, lm1537, s0, p0, Xm1537, em1537, Nm1537, hv1537, pre1537⟩ := it G0 Tm1532 _ (3 : Int32) (0 : Int32) s1 p1 pa0 (.val (.int pa1)) Xm1532 em1532 Nm1532 (by decide) (by decide) rfl hp0 (Or.inr ⟨_, rfl⟩) (fun q => hq1535 q.2) pre1532
          rw [show ((0 : Int32) + (-1 : Int32)) = (-1 : Int32) from by decide] at pre1537
          have hw1538 : s0 = (s1 + own_tO p0 (pa0 - 48)) % 10 ∧ p0 = p1 + 1 := ⟨by rw [hv1537.1, hv1537.2, own_sm, own_ps, if_neg hq1535, if_neg hq1535], hv1537.2.trans (if_neg hq1535)⟩
          obtain ⟨T1539, X1539, e1539, st1539⟩ := getF Xm1537 hx hZ hown (host := "") (Or.inl (H 61 _ rfl)) Via.refl em1537 Fr_start (g := (mkF m 116 #[vr aa, vr at_, vr al, vi 3, vi 3, vi s0, vi p0, vi (-1), vi pa0] [(.ref aa), (.int (-1))])) rfl rfl (hb hby d7_116)
          obtain ⟨cq1540, kq1540, q1540a, q1540b, q1540c⟩ := isOf hZ e1539 El
          obtain ⟨_, _, ⟨T1540, L1540, k1540, n1540⟩, -, X1540, ⟨Lc1540, hQ1540, l1540, y1540, z1540⟩, st1540⟩ := X1539.virtualBack hx hown (mvT hZ (H 116 _ rfl)) (mvT hZ (H 117 _ rfl)) (own_nf (args := #[]) (mvT hZ (H 111 _ rfl)) rfl) (mvT hZ (H 118 _ rfl)) (mvT hZ (H 119 _ rfl)) (by decide) (backOf (W := 0) (rm21 l Z a0 hw [] al s0  h0 n0 Z0 ) hZ (H 121 _ rfl) (H 120 _ rfl) (by decide) (by decide)) q1540a q1540c (g := (mkF m 185 #[vr aa, vr at_, vr al, vi 3, vi 3, vi s0, vi p0, vi (-1), vi pa0] [(.int s0), (.ref al)])) rfl (by rw [hml]; rfl) (Steps.refl _) (argsL := [(.int s0)]) (rest := []) (lenOf own_pd356 rfl) rfl (Nat.le_of_eq rfl) (hb hby d7_185) (fun _ _ => ⟨rfl, e1539, Nat.zero_le _, Nat.zero_le _⟩)
          dsimp only [Pt.U, Pt.locs, Pt.cells, Pt.slots] at X1540 l1540 y1540 z1540 st1540 hQ1540
          rw [l1540, y1540, z1540] at X1540
          obtain ⟨rfl, Nq1540, e1540⟩ := hQ1540
          have N1540 := Fr.app Nm1537 Nq1540
          obtain ⟨cq1541, kq1541, q1541a, q1541b, q1541c⟩ := isOf hZ e1540 Et
          obtain ⟨_, _, ⟨T1541, L1541, k1541, n1541⟩, -, X1541, ⟨Lc1541, hQ1541, l1541, y1541, z1541⟩, st1541⟩ := X1540.interfaceBack hx hown (mvT hZ (H 83 _ rfl)) (mvT hZ (H 84 _ rfl)) (mvT hZ (H 85 _ rfl)) (mvT hZ (H 86 _ rfl)) (mvT hZ (H 87 _ rfl)) (mvT hZ (H 88 _ rfl)) (mvT hZ (H 89 _ rfl)) (mvT hZ (H 53 _ rfl)) (by decide) (backOf (W := 1) (rm14 l Z a0 hw [] at_ (3 : Int32) cs vf ab kb (4 : Int32) [(.int (own_b pa0)), (.int (own_b pa1)), (.int (own_b pa2)), (.int (own_b pa3))] (own_b pa3) h0 n0 Z0 O0 Scs hcs Ssf hvf Et Fv Fc Va (by decide) (by decide) rfl) hZ (H 90 _ rfl) (H 9 _ rfl) (by decide) (by decide)) q1541a q1541b q1541c (g := (mkF m 191 #[vr aa, vr at_, vr al, vi 3, vi 3, vi s0, vi p0, vi (-1), vi pa0] [(.int 3), (.ref at_), (.int (own_cc s0))])) rfl (by rw [hml]; rfl) (Steps.refl _) (argsL := [(.int 3)]) (rest := [(.int (own_cc s0))]) (lenOf own_pd356 rfl) rfl (Nat.le_of_eq rfl) (hb hby d7_191) (fun _ _ => ⟨rfl, e1540, Nat.zero_le _, Nat.zero_le _⟩)
          dsimp only [Pt.U, Pt.locs, Pt.cells, Pt.slots] at X1541 l1541 y1541 z1541 st1541 hQ1541
          rw [l1541, y1541, z1541] at X1541
          obtain ⟨rfl, Nq1541, e1541⟩ := hQ1541
          have N1541 := Fr.app N1540 Nq1541
          have pre1542 : ∀ t, Sp p e below m T1541 196 #[vr aa, vr at_, vr al, vi 3, vi 3, vi s0, vi p0, vi (-1), vi pa0] [(.int (own_lat (own_b pa3))), (.int (own_cc s0))] t → SG p e below G0 t := by
            intro t k
            refine pre1537 t ?_
            show Sp p e below m Tm1537 113 #[vr aa, vr at_, vr al, vi 3, vi 3, vi s0, vi p0, vi (-1), vi pa0] [] _
            refine XS.iload Xm1537.here hx rfl (hb hby d7_113) rfl ?_
            refine XS.aloadN Xm1537.here hx rfl (hb hby d7_115) rfl rfl ?_
            refine st1539 _ ?_
            show Sp p e below m T1539 119 #[vr aa, vr at_, vr al, vi 3, vi 3, vi s0, vi p0, vi (-1), vi pa0] [(.int 0), (.int (-1))] _
            refine XS.icmpYes X1539.here hx rfl (pc0 := 119) (pc' := 182) rfl (hb hby d7_119) rfl (tlt (by decide : ((-1 : Int32) < (0 : Int32)))).1 (by decide) (by decide) ?_
            refine XS.aloadN X1539.here hx rfl (hb hby d7_182) rfl rfl ?_
            refine XS.iload X1539.here hx rfl (hb hby d7_183) rfl ?_
            refine st1540.trans ?_
            show Sp p e below m T1540 188 #[vr aa, vr at_, vr al, vi 3, vi 3, vi s0, vi p0, vi (-1), vi pa0] [(.int (own_cc s0))] _
            refine XS.aloadN X1540.here hx rfl (hb hby d7_188) rfl rfl ?_
            refine XS.iload X1540.here hx rfl (hb hby d7_189) rfl ?_
            refine st1541.trans ?_
            exact k
          rw [show (own_lat (own_b pa3)) = pa3 from own_at hp3] at pre1542
          by_cases hc196_1543 : (own_cc s0) = pa3
          · obtain ⟨fs, hr, hrun, hended, hW, hsame⟩ := X1541.leave (v := some (.int 1)) (fun h => by rw [Bd.returns] at h; cases h)
            refine ⟨_, _, pre1542 _ ?_, hrun, hended, _, _, rfl, ?_, ⟨_, rfl⟩, hW, hsame.mono (by decide) (by decide)⟩
            · show Sp p e below m T1541 196 #[vr aa, vr at_, vr al, vi 3, vi 3, vi s0, vi p0, vi (-1), vi pa0] [(.int pa3), (.int (own_cc s0))] _
              refine XS.icmpNo X1541.here hx rfl (hb hby d7_196) rfl (teq hc196_1543).2 ?_
              refine XS.iconst X1541.here hx rfl (hb hby d7_199) ?_
              refine XS.goto X1541.here hx rfl (pc0 := 200) (pc' := 204) rfl (hb hby d7_200) (by decide) (by decide) ?_
              exact retN X1541 hx (t := .boolean) Bd.returns (by simp) (hb hby d7_204) hr
            · show Q7n4 Z aa at_ al cs vf ab kb gv pa0 pa1 pa2 pa3 h0 n0 _ T1541.heap _
              rw [e1541]
              exact ⟨(by simp only [own_ac, if_pos (hq1516.2), own_a0, own_run0, -Int32.reduceAdd, if_neg hq1525, if_neg hq1530, if_neg hq1535, ← hw1528.1, ← hw1528.2, ← hw1533.1, ← hw1533.2, ← hw1538.1, ← hw1538.2]; rw [own_fin, if_pos hc196_1543]), N1541, rfl⟩
          · obtain ⟨fs, hr, hrun, hended, hW, hsame⟩ := X1541.leave (v := some (.int 0)) (fun h => by rw [Bd.returns] at h; cases h)
            refine ⟨_, _, pre1542 _ ?_, hrun, hended, _, _, rfl, ?_, ⟨_, rfl⟩, hW, hsame.mono (by decide) (by decide)⟩
            · show Sp p e below m T1541 196 #[vr aa, vr at_, vr al, vi 3, vi 3, vi s0, vi p0, vi (-1), vi pa0] [(.int pa3), (.int (own_cc s0))] _
              refine XS.icmpYes X1541.here hx rfl (pc0 := 196) (pc' := 203) rfl (hb hby d7_196) rfl (feq hc196_1543).2 (by decide) (by decide) ?_
              refine XS.iconst X1541.here hx rfl (hb hby d7_203) ?_
              exact retN X1541 hx (t := .boolean) Bd.returns (by simp) (hb hby d7_204) hr
            · show Q7n4 Z aa at_ al cs vf ab kb gv pa0 pa1 pa2 pa3 h0 n0 _ T1541.heap _
              rw [e1541]
              exact ⟨(by simp only [own_ac, if_pos (hq1516.2), own_a0, own_run0, -Int32.reduceAdd, if_neg hq1525, if_neg hq1530, if_neg hq1535, ← hw1528.1, ← hw1528.2, ← hw1533.1, ← hw1533.2, ← hw1538.1, ← hw1538.2]; rw [own_fin, if_neg hc196_1543]), N1541, rfl⟩
  · rw [hq1517.1] at pre1515
    obtain ⟨T1544, X1544, e1544, st1544⟩ := getF X1514 hx hZ hown (host := "") (Or.inl (H 75 _ rfl)) Via.refl e1514 Fr_checkAt (g := (mkF m 96 #[vr aa, vr at_, vr al, vi 3, vi 3, vi 0, vi 0, .unset, .unset] [(.ref aa)])) rfl rfl (hb hby d7_96)
    have pre1545 : ∀ t, Sp p e below m T1544 113 #[vr aa, vr at_, vr al, vi 3, vi 3, vi 0, vi 0, vi 2, .unset] [] t → SG p e below G0 t := by
      intro t k
      refine pre1515 t ?_
      show Sp p e below m T1514 73 #[vr aa, vr at_, vr al, vi 3, .unset, .unset, .unset, .unset, .unset] [(.int 3)] _
      refine XS.goto X1514.here hx rfl (pc0 := 73) (pc' := 80) rfl (hb hby d7_73) (by decide) (by decide) ?_
      refine XS.istore X1514.here hx rfl (hb hby d7_80) rfl (l' := #[vr aa, vr at_, vr al, vi 3, vi 3, .unset, .unset, .unset, .unset]) rfl ?_
      refine XS.iload X1514.here hx rfl (hb hby d7_82) rfl ?_
      refine XS.ifYes X1514.here hx rfl (pc0 := 84) (pc' := 89) rfl (hb hby d7_84) rfl ((if0 _ _).trans (flt (by decide : ¬ ((3 : Int32) < (0 : Int32)))).2.1) (by decide) (by decide) ?_
      refine XS.iconst X1514.here hx rfl (hb hby d7_89) ?_
      refine XS.istore X1514.here hx rfl (hb hby d7_90) rfl (l' := #[vr aa, vr at_, vr al, vi 3, vi 3, vi 0, .unset, .unset, .unset]) rfl ?_
      refine XS.iconst X1514.here hx rfl (hb hby d7_92) ?_
      refine XS.istore X1514.here hx rfl (hb hby d7_93) rfl (l' := #[vr aa, vr at_, vr al, vi 3, vi 3, vi 0, vi 0, .unset, .unset]) rfl ?_
      show Sp p e below m T1514 95 #[vr aa, vr at_, vr al, vi 3, vi 3, vi 0, vi 0, .unset, .unset] [] _
      refine XS.aloadN X1514.here hx rfl (hb hby d7_95) rfl rfl ?_
      refine st1544 _ ?_
      show Sp p e below m T1544 99 #[vr aa, vr at_, vr al, vi 3, vi 3, vi 0, vi 0, .unset, .unset] [(.int (-1))] _
      refine XS.iconst X1544.here hx rfl (hb hby d7_99) ?_
      refine XS.icmpNo X1544.here hx rfl (hb hby d7_100) rfl (teq (by decide : ((-1 : Int32) = (-1 : Int32)))).2 ?_
      refine XS.iload X1544.here hx rfl (hb hby d7_103) rfl ?_
      refine XS.iconst X1544.here hx rfl (hb hby d7_105) ?_
      refine XS.isub X1544.here hx rfl (hb hby d7_106) rfl ?_
      refine XS.goto X1544.here hx rfl (pc0 := 107) (pc' := 111) rfl (hb hby d7_107) (by decide) (by decide) ?_
      refine XS.istore X1544.here hx rfl (hb hby d7_111) rfl (l' := #[vr aa, vr at_, vr al, vi 3, vi 3, vi 0, vi 0, vi 2, .unset]) rfl ?_
      exact k
    obtain ⟨Tm1546, lm1546, s2, p2, Xm1546, em1546, Nm1546, hv1546, pre1546⟩ := it G0 T1544 _ (3 : Int32) (2 : Int32) (0 : Int32) (0 : Int32) pa2 (.unset) X1544 e1544 N1514 (by decide) (by decide) rfl hp2 (Or.inl rfl) (fun q => (hq1517.2.1) q.1) pre1545
    rw [show ((2 : Int32) + (-1 : Int32)) = (1 : Int32) from by decide] at pre1546
    obtain ⟨Tm1547, lm1547, s1, p1, Xm1547, em1547, Nm1547, hv1547, pre1547⟩ := it G0 Tm1546 _ (3 : Int32) (1 : Int32) s2 p2 pa1 (.val (.int pa2)) Xm1546 em1546 Nm1546 (by decide) (by decide) rfl hp1 (Or.inr ⟨_, rfl⟩) (fun q => (hq1517.2.1) q.1) pre1546
    rw [show ((1 : Int32) + (-1 : Int32)) = (0 : Int32) from by decide] at pre1547
    obtain ⟨Tm1548, lm1548, s0, p0, Xm1548, em1548, Nm1548, hv1548, pre1548⟩ := it G0 Tm1547 _ (3 : Int32) (0 : Int32) s1 p1 pa0 (.val (.int pa1)) Xm1547 em1547 Nm1547 (by decide) (by decide) rfl hp0 (Or.inr ⟨_, rfl⟩) (fun q => (hq1517.2.1) q.1) pre1547
    rw [show ((0 : Int32) + (-1 : Int32)) = (-1 : Int32) from by decide] at pre1548
    obtain ⟨T1549, X1549, e1549, st1549⟩ := getF Xm1548 hx hZ hown (host := "") (Or.inl (H 61 _ rfl)) Via.refl em1548 Fr_start (g := (mkF m 116 #[vr aa, vr at_, vr al, vi 3, vi 3, vi s0, vi p0, vi (-1), vi pa0] [(.ref aa), (.int (-1))])) rfl rfl (hb hby d7_116)
    obtain ⟨cq1550, kq1550, q1550a, q1550b, q1550c⟩ := isOf hZ e1549 El
    obtain ⟨_, _, ⟨T1550, L1550, k1550, n1550⟩, -, X1550, ⟨Lc1550, hQ1550, l1550, y1550, z1550⟩, st1550⟩ := X1549.virtualBack hx hown (mvT hZ (H 116 _ rfl)) (mvT hZ (H 117 _ rfl)) (own_nf (args := #[]) (mvT hZ (H 111 _ rfl)) rfl) (mvT hZ (H 118 _ rfl)) (mvT hZ (H 119 _ rfl)) (by decide) (backOf (W := 0) (rm21 l Z a0 hw [] al s0  h0 n0 Z0 ) hZ (H 121 _ rfl) (H 120 _ rfl) (by decide) (by decide)) q1550a q1550c (g := (mkF m 185 #[vr aa, vr at_, vr al, vi 3, vi 3, vi s0, vi p0, vi (-1), vi pa0] [(.int s0), (.ref al)])) rfl (by rw [hml]; rfl) (Steps.refl _) (argsL := [(.int s0)]) (rest := []) (lenOf own_pd356 rfl) rfl (Nat.le_of_eq rfl) (hb hby d7_185) (fun _ _ => ⟨rfl, e1549, Nat.zero_le _, Nat.zero_le _⟩)
    dsimp only [Pt.U, Pt.locs, Pt.cells, Pt.slots] at X1550 l1550 y1550 z1550 st1550 hQ1550
    rw [l1550, y1550, z1550] at X1550
    obtain ⟨rfl, Nq1550, e1550⟩ := hQ1550
    have N1550 := Fr.app Nm1548 Nq1550
    obtain ⟨cq1551, kq1551, q1551a, q1551b, q1551c⟩ := isOf hZ e1550 Et
    obtain ⟨_, _, ⟨T1551, L1551, k1551, n1551⟩, -, X1551, ⟨Lc1551, hQ1551, l1551, y1551, z1551⟩, st1551⟩ := X1550.interfaceBack hx hown (mvT hZ (H 83 _ rfl)) (mvT hZ (H 84 _ rfl)) (mvT hZ (H 85 _ rfl)) (mvT hZ (H 86 _ rfl)) (mvT hZ (H 87 _ rfl)) (mvT hZ (H 88 _ rfl)) (mvT hZ (H 89 _ rfl)) (mvT hZ (H 53 _ rfl)) (by decide) (backOf (W := 1) (rm14 l Z a0 hw [] at_ (3 : Int32) cs vf ab kb (4 : Int32) [(.int (own_b pa0)), (.int (own_b pa1)), (.int (own_b pa2)), (.int (own_b pa3))] (own_b pa3) h0 n0 Z0 O0 Scs hcs Ssf hvf Et Fv Fc Va (by decide) (by decide) rfl) hZ (H 90 _ rfl) (H 9 _ rfl) (by decide) (by decide)) q1551a q1551b q1551c (g := (mkF m 191 #[vr aa, vr at_, vr al, vi 3, vi 3, vi s0, vi p0, vi (-1), vi pa0] [(.int 3), (.ref at_), (.int (own_cc s0))])) rfl (by rw [hml]; rfl) (Steps.refl _) (argsL := [(.int 3)]) (rest := [(.int (own_cc s0))]) (lenOf own_pd356 rfl) rfl (Nat.le_of_eq rfl) (hb hby d7_191) (fun _ _ => ⟨rfl, e1550, Nat.zero_le _, Nat.zero_le _⟩)
    dsimp only [Pt.U, Pt.locs, Pt.cells, Pt.slots] at X1551 l1551 y1551 z1551 st1551 hQ1551
    rw [l1551, y1551, z1551] at X1551
    obtain ⟨rfl, Nq1551, e1551⟩ := hQ1551
    have N1551 := Fr.app N1550 Nq1551
    have pre1552 : ∀ t, Sp p e below m T1551 196 #[vr aa, vr at_, vr al, vi 3, vi 3, vi s0, vi p0, vi (-1), vi pa0] [(.int (own_lat (own_b pa3))), (.int (own_cc s0))] t → SG p e below G0 t := by
      intro t k
      refine pre1548 t ?_
      show Sp p e below m Tm1548 113 #[vr aa, vr at_, vr al, vi 3, vi 3, vi s0, vi p0, vi (-1), vi pa0] [] _
      refine XS.iload Xm1548.here hx rfl (hb hby d7_113) rfl ?_
      refine XS.aloadN Xm1548.here hx rfl (hb hby d7_115) rfl rfl ?_
      refine st1549 _ ?_
      show Sp p e below m T1549 119 #[vr aa, vr at_, vr al, vi 3, vi 3, vi s0, vi p0, vi (-1), vi pa0] [(.int 0), (.int (-1))] _
      refine XS.icmpYes X1549.here hx rfl (pc0 := 119) (pc' := 182) rfl (hb hby d7_119) rfl (tlt (by decide : ((-1 : Int32) < (0 : Int32)))).1 (by decide) (by decide) ?_
      refine XS.aloadN X1549.here hx rfl (hb hby d7_182) rfl rfl ?_
      refine XS.iload X1549.here hx rfl (hb hby d7_183) rfl ?_
      refine st1550.trans ?_
      show Sp p e below m T1550 188 #[vr aa, vr at_, vr al, vi 3, vi 3, vi s0, vi p0, vi (-1), vi pa0] [(.int (own_cc s0))] _
      refine XS.aloadN X1550.here hx rfl (hb hby d7_188) rfl rfl ?_
      refine XS.iload X1550.here hx rfl (hb hby d7_189) rfl ?_
      refine st1551.trans ?_
      exact k
    rw [show (own_lat (own_b pa3)) = pa3 from own_at hp3] at pre1552
    by_cases hc196_1553 : (own_cc s0) = pa3
    · obtain ⟨fs, hr, hrun, hended, hW, hsame⟩ := X1551.leave (v := some (.int 1)) (fun h => by rw [Bd.returns] at h; cases h)
      refine ⟨_, _, pre1552 _ ?_, hrun, hended, _, _, rfl, ?_, ⟨_, rfl⟩, hW, hsame.mono (by decide) (by decide)⟩
      · show Sp p e below m T1551 196 #[vr aa, vr at_, vr al, vi 3, vi 3, vi s0, vi p0, vi (-1), vi pa0] [(.int pa3), (.int (own_cc s0))] _
        refine XS.icmpNo X1551.here hx rfl (hb hby d7_196) rfl (teq hc196_1553).2 ?_
        refine XS.iconst X1551.here hx rfl (hb hby d7_199) ?_
        refine XS.goto X1551.here hx rfl (pc0 := 200) (pc' := 204) rfl (hb hby d7_200) (by decide) (by decide) ?_
        exact retN X1551 hx (t := .boolean) Bd.returns (by simp) (hb hby d7_204) hr
      · show Q7n4 Z aa at_ al cs vf ab kb gv pa0 pa1 pa2 pa3 h0 n0 _ T1551.heap _
        rw [e1551]
        exact ⟨(by simp only [own_ac, if_neg (hq1517.2.1), own_a1, own_run, if_neg (hq1517.2.2), ← hv1546.1, ← hv1546.2, ← hv1547.1, ← hv1547.2, ← hv1548.1, ← hv1548.2]; rw [own_fin, if_pos hc196_1553]), N1551, rfl⟩
    · obtain ⟨fs, hr, hrun, hended, hW, hsame⟩ := X1551.leave (v := some (.int 0)) (fun h => by rw [Bd.returns] at h; cases h)
      refine ⟨_, _, pre1552 _ ?_, hrun, hended, _, _, rfl, ?_, ⟨_, rfl⟩, hW, hsame.mono (by decide) (by decide)⟩
      · show Sp p e below m T1551 196 #[vr aa, vr at_, vr al, vi 3, vi 3, vi s0, vi p0, vi (-1), vi pa0] [(.int pa3), (.int (own_cc s0))] _
        refine XS.icmpYes X1551.here hx rfl (pc0 := 196) (pc' := 203) rfl (hb hby d7_196) rfl (feq hc196_1553).2 (by decide) (by decide) ?_
        refine XS.iconst X1551.here hx rfl (hb hby d7_203) ?_
        exact retN X1551 hx (t := .boolean) Bd.returns (by simp) (hb hby d7_204) hr
      · show Q7n4 Z aa at_ al cs vf ab kb gv pa0 pa1 pa2 pa3 h0 n0 _ T1551.heap _
        rw [e1551]
        exact ⟨(by simp only [own_ac, if_neg (hq1517.2.1), own_a1, own_run, if_neg (hq1517.2.2), ← hv1546.1, ← hv1546.2, ← hv1547.1, ← hv1547.2, ← hv1548.1, ← hv1548.2]; rw [own_fin, if_neg hc196_1553]), N1551, rfl⟩
  · rw [hq1518.1] at pre1515
    obtain ⟨T1554, X1554, e1554, st1554⟩ := getF X1514 hx hZ hown (host := "") (Or.inl (H 75 _ rfl)) Via.refl e1514 Fr_checkAt (g := (mkF m 96 #[vr aa, vr at_, vr al, vi 3, vi 2, vi 0, vi 0, .unset, .unset] [(.ref aa)])) rfl rfl (hb hby d7_96)
    have pre1555 : ∀ t, Sp p e below m T1554 113 #[vr aa, vr at_, vr al, vi 3, vi 2, vi 0, vi 0, vi 1, .unset] [] t → SG p e below G0 t := by
      intro t k
      refine pre1515 t ?_
      show Sp p e below m T1514 73 #[vr aa, vr at_, vr al, vi 3, .unset, .unset, .unset, .unset, .unset] [(.int 2)] _
      refine XS.goto X1514.here hx rfl (pc0 := 73) (pc' := 80) rfl (hb hby d7_73) (by decide) (by decide) ?_
      refine XS.istore X1514.here hx rfl (hb hby d7_80) rfl (l' := #[vr aa, vr at_, vr al, vi 3, vi 2, .unset, .unset, .unset, .unset]) rfl ?_
      refine XS.iload X1514.here hx rfl (hb hby d7_82) rfl ?_
      refine XS.ifYes X1514.here hx rfl (pc0 := 84) (pc' := 89) rfl (hb hby d7_84) rfl ((if0 _ _).trans (flt (by decide : ¬ ((2 : Int32) < (0 : Int32)))).2.1) (by decide) (by decide) ?_
      refine XS.iconst X1514.here hx rfl (hb hby d7_89) ?_
      refine XS.istore X1514.here hx rfl (hb hby d7_90) rfl (l' := #[vr aa, vr at_, vr al, vi 3, vi 2, vi 0, .unset, .unset, .unset]) rfl ?_
      refine XS.iconst X1514.here hx rfl (hb hby d7_92) ?_
      refine XS.istore X1514.here hx rfl (hb hby d7_93) rfl (l' := #[vr aa, vr at_, vr al, vi 3, vi 2, vi 0, vi 0, .unset, .unset]) rfl ?_
      show Sp p e below m T1514 95 #[vr aa, vr at_, vr al, vi 3, vi 2, vi 0, vi 0, .unset, .unset] [] _
      refine XS.aloadN X1514.here hx rfl (hb hby d7_95) rfl rfl ?_
      refine st1554 _ ?_
      show Sp p e below m T1554 99 #[vr aa, vr at_, vr al, vi 3, vi 2, vi 0, vi 0, .unset, .unset] [(.int (-1))] _
      refine XS.iconst X1554.here hx rfl (hb hby d7_99) ?_
      refine XS.icmpNo X1554.here hx rfl (hb hby d7_100) rfl (teq (by decide : ((-1 : Int32) = (-1 : Int32)))).2 ?_
      refine XS.iload X1554.here hx rfl (hb hby d7_103) rfl ?_
      refine XS.iconst X1554.here hx rfl (hb hby d7_105) ?_
      refine XS.isub X1554.here hx rfl (hb hby d7_106) rfl ?_
      refine XS.goto X1554.here hx rfl (pc0 := 107) (pc' := 111) rfl (hb hby d7_107) (by decide) (by decide) ?_
      refine XS.istore X1554.here hx rfl (hb hby d7_111) rfl (l' := #[vr aa, vr at_, vr al, vi 3, vi 2, vi 0, vi 0, vi 1, .unset]) rfl ?_
      exact k
    obtain ⟨Tm1556, lm1556, s1, p1, Xm1556, em1556, Nm1556, hv1556, pre1556⟩ := it G0 T1554 _ (2 : Int32) (1 : Int32) (0 : Int32) (0 : Int32) pa1 (.unset) X1554 e1554 N1514 (by decide) (by decide) rfl hp1 (Or.inl rfl) (fun q => (hq1518.2.1) q.1) pre1555
    rw [show ((1 : Int32) + (-1 : Int32)) = (0 : Int32) from by decide] at pre1556
    obtain ⟨Tm1557, lm1557, s0, p0, Xm1557, em1557, Nm1557, hv1557, pre1557⟩ := it G0 Tm1556 _ (2 : Int32) (0 : Int32) s1 p1 pa0 (.val (.int pa1)) Xm1556 em1556 Nm1556 (by decide) (by decide) rfl hp0 (Or.inr ⟨_, rfl⟩) (fun q => (hq1518.2.1) q.1) pre1556
    rw [show ((0 : Int32) + (-1 : Int32)) = (-1 : Int32) from by decide] at pre1557
    obtain ⟨T1558, X1558, e1558, st1558⟩ := getF Xm1557 hx hZ hown (host := "") (Or.inl (H 61 _ rfl)) Via.refl em1557 Fr_start (g := (mkF m 116 #[vr aa, vr at_, vr al, vi 3, vi 2, vi s0, vi p0, vi (-1), vi pa0] [(.ref aa), (.int (-1))])) rfl rfl (hb hby d7_116)
    obtain ⟨cq1559, kq1559, q1559a, q1559b, q1559c⟩ := isOf hZ e1558 El
    obtain ⟨_, _, ⟨T1559, L1559, k1559, n1559⟩, -, X1559, ⟨Lc1559, hQ1559, l1559, y1559, z1559⟩, st1559⟩ := X1558.virtualBack hx hown (mvT hZ (H 116 _ rfl)) (mvT hZ (H 117 _ rfl)) (own_nf (args := #[]) (mvT hZ (H 111 _ rfl)) rfl) (mvT hZ (H 118 _ rfl)) (mvT hZ (H 119 _ rfl)) (by decide) (backOf (W := 0) (rm21 l Z a0 hw [] al s0  h0 n0 Z0 ) hZ (H 121 _ rfl) (H 120 _ rfl) (by decide) (by decide)) q1559a q1559c (g := (mkF m 185 #[vr aa, vr at_, vr al, vi 3, vi 2, vi s0, vi p0, vi (-1), vi pa0] [(.int s0), (.ref al)])) rfl (by rw [hml]; rfl) (Steps.refl _) (argsL := [(.int s0)]) (rest := []) (lenOf own_pd356 rfl) rfl (Nat.le_of_eq rfl) (hb hby d7_185) (fun _ _ => ⟨rfl, e1558, Nat.zero_le _, Nat.zero_le _⟩)
    dsimp only [Pt.U, Pt.locs, Pt.cells, Pt.slots] at X1559 l1559 y1559 z1559 st1559 hQ1559
    rw [l1559, y1559, z1559] at X1559
    obtain ⟨rfl, Nq1559, e1559⟩ := hQ1559
    have N1559 := Fr.app Nm1557 Nq1559
    obtain ⟨cq1560, kq1560, q1560a, q1560b, q1560c⟩ := isOf hZ e1559 Et
    obtain ⟨_, _, ⟨T1560, L1560, k1560, n1560⟩, -, X1560, ⟨Lc1560, hQ1560, l1560, y1560, z1560⟩, st1560⟩ := X1559.interfaceBack hx hown (mvT hZ (H 83 _ rfl)) (mvT hZ (H 84 _ rfl)) (mvT hZ (H 85 _ rfl)) (mvT hZ (H 86 _ rfl)) (mvT hZ (H 87 _ rfl)) (mvT hZ (H 88 _ rfl)) (mvT hZ (H 89 _ rfl)) (mvT hZ (H 53 _ rfl)) (by decide) (backOf (W := 1) (rm14 l Z a0 hw [] at_ (2 : Int32) cs vf ab kb (4 : Int32) [(.int (own_b pa0)), (.int (own_b pa1)), (.int (own_b pa2)), (.int (own_b pa3))] (own_b pa2) h0 n0 Z0 O0 Scs hcs Ssf hvf Et Fv Fc Va (by decide) (by decide) rfl) hZ (H 90 _ rfl) (H 9 _ rfl) (by decide) (by decide)) q1560a q1560b q1560c (g := (mkF m 191 #[vr aa, vr at_, vr al, vi 3, vi 2, vi s0, vi p0, vi (-1), vi pa0] [(.int 2), (.ref at_), (.int (own_cc s0))])) rfl (by rw [hml]; rfl) (Steps.refl _) (argsL := [(.int 2)]) (rest := [(.int (own_cc s0))]) (lenOf own_pd356 rfl) rfl (Nat.le_of_eq rfl) (hb hby d7_191) (fun _ _ => ⟨rfl, e1559, Nat.zero_le _, Nat.zero_le _⟩)
    dsimp only [Pt.U, Pt.locs, Pt.cells, Pt.slots] at X1560 l1560 y1560 z1560 st1560 hQ1560
    rw [l1560, y1560, z1560] at X1560
    obtain ⟨rfl, Nq1560, e1560⟩ := hQ1560
    have N1560 := Fr.app N1559 Nq1560
    have pre1561 : ∀ t, Sp p e below m T1560 196 #[vr aa, vr at_, vr al, vi 3, vi 2, vi s0, vi p0, vi (-1), vi pa0] [(.int (own_lat (own_b pa2))), (.int (own_cc s0))] t → SG p e below G0 t := by
      intro t k
      refine pre1557 t ?_
      show Sp p e below m Tm1557 113 #[vr aa, vr at_, vr al, vi 3, vi 2, vi s0, vi p0, vi (-1), vi pa0] [] _
      refine XS.iload Xm1557.here hx rfl (hb hby d7_113) rfl ?_
      refine XS.aloadN Xm1557.here hx rfl (hb hby d7_115) rfl rfl ?_
      refine st1558 _ ?_
      show Sp p e below m T1558 119 #[vr aa, vr at_, vr al, vi 3, vi 2, vi s0, vi p0, vi (-1), vi pa0] [(.int 0), (.int (-1))] _
      refine XS.icmpYes X1558.here hx rfl (pc0 := 119) (pc' := 182) rfl (hb hby d7_119) rfl (tlt (by decide : ((-1 : Int32) < (0 : Int32)))).1 (by decide) (by decide) ?_
      refine XS.aloadN X1558.here hx rfl (hb hby d7_182) rfl rfl ?_
      refine XS.iload X1558.here hx rfl (hb hby d7_183) rfl ?_
      refine st1559.trans ?_
      show Sp p e below m T1559 188 #[vr aa, vr at_, vr al, vi 3, vi 2, vi s0, vi p0, vi (-1), vi pa0] [(.int (own_cc s0))] _
      refine XS.aloadN X1559.here hx rfl (hb hby d7_188) rfl rfl ?_
      refine XS.iload X1559.here hx rfl (hb hby d7_189) rfl ?_
      refine st1560.trans ?_
      exact k
    rw [show (own_lat (own_b pa2)) = pa2 from own_at hp2] at pre1561
    by_cases hc196_1562 : (own_cc s0) = pa2
    · obtain ⟨fs, hr, hrun, hended, hW, hsame⟩ := X1560.leave (v := some (.int 1)) (fun h => by rw [Bd.returns] at h; cases h)
      refine ⟨_, _, pre1561 _ ?_, hrun, hended, _, _, rfl, ?_, ⟨_, rfl⟩, hW, hsame.mono (by decide) (by decide)⟩
      · show Sp p e below m T1560 196 #[vr aa, vr at_, vr al, vi 3, vi 2, vi s0, vi p0, vi (-1), vi pa0] [(.int pa2), (.int (own_cc s0))] _
        refine XS.icmpNo X1560.here hx rfl (hb hby d7_196) rfl (teq hc196_1562).2 ?_
        refine XS.iconst X1560.here hx rfl (hb hby d7_199) ?_
        refine XS.goto X1560.here hx rfl (pc0 := 200) (pc' := 204) rfl (hb hby d7_200) (by decide) (by decide) ?_
        exact retN X1560 hx (t := .boolean) Bd.returns (by simp) (hb hby d7_204) hr
      · show Q7n4 Z aa at_ al cs vf ab kb gv pa0 pa1 pa2 pa3 h0 n0 _ T1560.heap _
        rw [e1560]
        exact ⟨(by simp only [own_ac, if_neg (hq1518.2.1), own_a1, own_run, if_pos (hq1518.2.2.1), if_neg (hq1518.2.2.2), ← hv1556.1, ← hv1556.2, ← hv1557.1, ← hv1557.2]; rw [own_fin, if_pos hc196_1562]), N1560, rfl⟩
    · obtain ⟨fs, hr, hrun, hended, hW, hsame⟩ := X1560.leave (v := some (.int 0)) (fun h => by rw [Bd.returns] at h; cases h)
      refine ⟨_, _, pre1561 _ ?_, hrun, hended, _, _, rfl, ?_, ⟨_, rfl⟩, hW, hsame.mono (by decide) (by decide)⟩
      · show Sp p e below m T1560 196 #[vr aa, vr at_, vr al, vi 3, vi 2, vi s0, vi p0, vi (-1), vi pa0] [(.int pa2), (.int (own_cc s0))] _
        refine XS.icmpYes X1560.here hx rfl (pc0 := 196) (pc' := 203) rfl (hb hby d7_196) rfl (feq hc196_1562).2 (by decide) (by decide) ?_
        refine XS.iconst X1560.here hx rfl (hb hby d7_203) ?_
        exact retN X1560 hx (t := .boolean) Bd.returns (by simp) (hb hby d7_204) hr
      · show Q7n4 Z aa at_ al cs vf ab kb gv pa0 pa1 pa2 pa3 h0 n0 _ T1560.heap _
        rw [e1560]
        exact ⟨(by simp only [own_ac, if_neg (hq1518.2.1), own_a1, own_run, if_pos (hq1518.2.2.1), if_neg (hq1518.2.2.2), ← hv1556.1, ← hv1556.2, ← hv1557.1, ← hv1557.2]; rw [own_fin, if_neg hc196_1562]), N1560, rfl⟩
  · rw [hq1519.1] at pre1515
    obtain ⟨T1563, X1563, e1563, st1563⟩ := getF X1514 hx hZ hown (host := "") (Or.inl (H 75 _ rfl)) Via.refl e1514 Fr_checkAt (g := (mkF m 96 #[vr aa, vr at_, vr al, vi 3, vi 1, vi 0, vi 0, .unset, .unset] [(.ref aa)])) rfl rfl (hb hby d7_96)
    have pre1564 : ∀ t, Sp p e below m T1563 113 #[vr aa, vr at_, vr al, vi 3, vi 1, vi 0, vi 0, vi 0, .unset] [] t → SG p e below G0 t := by
      intro t k
      refine pre1515 t ?_
      show Sp p e below m T1514 73 #[vr aa, vr at_, vr al, vi 3, .unset, .unset, .unset, .unset, .unset] [(.int 1)] _
      refine XS.goto X1514.here hx rfl (pc0 := 73) (pc' := 80) rfl (hb hby d7_73) (by decide) (by decide) ?_
      refine XS.istore X1514.here hx rfl (hb hby d7_80) rfl (l' := #[vr aa, vr at_, vr al, vi 3, vi 1, .unset, .unset, .unset, .unset]) rfl ?_
      refine XS.iload X1514.here hx rfl (hb hby d7_82) rfl ?_
      refine XS.ifYes X1514.here hx rfl (pc0 := 84) (pc' := 89) rfl (hb hby d7_84) rfl ((if0 _ _).trans (flt (by decide : ¬ ((1 : Int32) < (0 : Int32)))).2.1) (by decide) (by decide) ?_
      refine XS.iconst X1514.here hx rfl (hb hby d7_89) ?_
      refine XS.istore X1514.here hx rfl (hb hby d7_90) rfl (l' := #[vr aa, vr at_, vr al, vi 3, vi 1, vi 0, .unset, .unset, .unset]) rfl ?_
      refine XS.iconst X1514.here hx rfl (hb hby d7_92) ?_
      refine XS.istore X1514.here hx rfl (hb hby d7_93) rfl (l' := #[vr aa, vr at_, vr al, vi 3, vi 1, vi 0, vi 0, .unset, .unset]) rfl ?_
      show Sp p e below m T1514 95 #[vr aa, vr at_, vr al, vi 3, vi 1, vi 0, vi 0, .unset, .unset] [] _
      refine XS.aloadN X1514.here hx rfl (hb hby d7_95) rfl rfl ?_
      refine st1563 _ ?_
      show Sp p e below m T1563 99 #[vr aa, vr at_, vr al, vi 3, vi 1, vi 0, vi 0, .unset, .unset] [(.int (-1))] _
      refine XS.iconst X1563.here hx rfl (hb hby d7_99) ?_
      refine XS.icmpNo X1563.here hx rfl (hb hby d7_100) rfl (teq (by decide : ((-1 : Int32) = (-1 : Int32)))).2 ?_
      refine XS.iload X1563.here hx rfl (hb hby d7_103) rfl ?_
      refine XS.iconst X1563.here hx rfl (hb hby d7_105) ?_
      refine XS.isub X1563.here hx rfl (hb hby d7_106) rfl ?_
      refine XS.goto X1563.here hx rfl (pc0 := 107) (pc' := 111) rfl (hb hby d7_107) (by decide) (by decide) ?_
      refine XS.istore X1563.here hx rfl (hb hby d7_111) rfl (l' := #[vr aa, vr at_, vr al, vi 3, vi 1, vi 0, vi 0, vi 0, .unset]) rfl ?_
      exact k
    obtain ⟨Tm1565, lm1565, s0, p0, Xm1565, em1565, Nm1565, hv1565, pre1565⟩ := it G0 T1563 _ (1 : Int32) (0 : Int32) (0 : Int32) (0 : Int32) pa0 (.unset) X1563 e1563 N1514 (by decide) (by decide) rfl hp0 (Or.inl rfl) (fun q => (hq1519.2.1) q.1) pre1564
    rw [show ((0 : Int32) + (-1 : Int32)) = (-1 : Int32) from by decide] at pre1565
    obtain ⟨T1566, X1566, e1566, st1566⟩ := getF Xm1565 hx hZ hown (host := "") (Or.inl (H 61 _ rfl)) Via.refl em1565 Fr_start (g := (mkF m 116 #[vr aa, vr at_, vr al, vi 3, vi 1, vi s0, vi p0, vi (-1), vi pa0] [(.ref aa), (.int (-1))])) rfl rfl (hb hby d7_116)
    obtain ⟨cq1567, kq1567, q1567a, q1567b, q1567c⟩ := isOf hZ e1566 El
    obtain ⟨_, _, ⟨T1567, L1567, k1567, n1567⟩, -, X1567, ⟨Lc1567, hQ1567, l1567, y1567, z1567⟩, st1567⟩ := X1566.virtualBack hx hown (mvT hZ (H 116 _ rfl)) (mvT hZ (H 117 _ rfl)) (own_nf (args := #[]) (mvT hZ (H 111 _ rfl)) rfl) (mvT hZ (H 118 _ rfl)) (mvT hZ (H 119 _ rfl)) (by decide) (backOf (W := 0) (rm21 l Z a0 hw [] al s0  h0 n0 Z0 ) hZ (H 121 _ rfl) (H 120 _ rfl) (by decide) (by decide)) q1567a q1567c (g := (mkF m 185 #[vr aa, vr at_, vr al, vi 3, vi 1, vi s0, vi p0, vi (-1), vi pa0] [(.int s0), (.ref al)])) rfl (by rw [hml]; rfl) (Steps.refl _) (argsL := [(.int s0)]) (rest := []) (lenOf own_pd356 rfl) rfl (Nat.le_of_eq rfl) (hb hby d7_185) (fun _ _ => ⟨rfl, e1566, Nat.zero_le _, Nat.zero_le _⟩)
    dsimp only [Pt.U, Pt.locs, Pt.cells, Pt.slots] at X1567 l1567 y1567 z1567 st1567 hQ1567
    rw [l1567, y1567, z1567] at X1567
    obtain ⟨rfl, Nq1567, e1567⟩ := hQ1567
    have N1567 := Fr.app Nm1565 Nq1567
    obtain ⟨cq1568, kq1568, q1568a, q1568b, q1568c⟩ := isOf hZ e1567 Et
    obtain ⟨_, _, ⟨T1568, L1568, k1568, n1568⟩, -, X1568, ⟨Lc1568, hQ1568, l1568, y1568, z1568⟩, st1568⟩ := X1567.interfaceBack hx hown (mvT hZ (H 83 _ rfl)) (mvT hZ (H 84 _ rfl)) (mvT hZ (H 85 _ rfl)) (mvT hZ (H 86 _ rfl)) (mvT hZ (H 87 _ rfl)) (mvT hZ (H 88 _ rfl)) (mvT hZ (H 89 _ rfl)) (mvT hZ (H 53 _ rfl)) (by decide) (backOf (W := 1) (rm14 l Z a0 hw [] at_ (1 : Int32) cs vf ab kb (4 : Int32) [(.int (own_b pa0)), (.int (own_b pa1)), (.int (own_b pa2)), (.int (own_b pa3))] (own_b pa1) h0 n0 Z0 O0 Scs hcs Ssf hvf Et Fv Fc Va (by decide) (by decide) rfl) hZ (H 90 _ rfl) (H 9 _ rfl) (by decide) (by decide)) q1568a q1568b q1568c (g := (mkF m 191 #[vr aa, vr at_, vr al, vi 3, vi 1, vi s0, vi p0, vi (-1), vi pa0] [(.int 1), (.ref at_), (.int (own_cc s0))])) rfl (by rw [hml]; rfl) (Steps.refl _) (argsL := [(.int 1)]) (rest := [(.int (own_cc s0))]) (lenOf own_pd356 rfl) rfl (Nat.le_of_eq rfl) (hb hby d7_191) (fun _ _ => ⟨rfl, e1567, Nat.zero_le _, Nat.zero_le _⟩)
    dsimp only [Pt.U, Pt.locs, Pt.cells, Pt.slots] at X1568 l1568 y1568 z1568 st1568 hQ1568
    rw [l1568, y1568, z1568] at X1568
    obtain ⟨rfl, Nq1568, e1568⟩ := hQ1568
    have N1568 := Fr.app N1567 Nq1568
    have pre1569 : ∀ t, Sp p e below m T1568 196 #[vr aa, vr at_, vr al, vi 3, vi 1, vi s0, vi p0, vi (-1), vi pa0] [(.int (own_lat (own_b pa1))), (.int (own_cc s0))] t → SG p e below G0 t := by
      intro t k
      refine pre1565 t ?_
      show Sp p e below m Tm1565 113 #[vr aa, vr at_, vr al, vi 3, vi 1, vi s0, vi p0, vi (-1), vi pa0] [] _
      refine XS.iload Xm1565.here hx rfl (hb hby d7_113) rfl ?_
      refine XS.aloadN Xm1565.here hx rfl (hb hby d7_115) rfl rfl ?_
      refine st1566 _ ?_
      show Sp p e below m T1566 119 #[vr aa, vr at_, vr al, vi 3, vi 1, vi s0, vi p0, vi (-1), vi pa0] [(.int 0), (.int (-1))] _
      refine XS.icmpYes X1566.here hx rfl (pc0 := 119) (pc' := 182) rfl (hb hby d7_119) rfl (tlt (by decide : ((-1 : Int32) < (0 : Int32)))).1 (by decide) (by decide) ?_
      refine XS.aloadN X1566.here hx rfl (hb hby d7_182) rfl rfl ?_
      refine XS.iload X1566.here hx rfl (hb hby d7_183) rfl ?_
      refine st1567.trans ?_
      show Sp p e below m T1567 188 #[vr aa, vr at_, vr al, vi 3, vi 1, vi s0, vi p0, vi (-1), vi pa0] [(.int (own_cc s0))] _
      refine XS.aloadN X1567.here hx rfl (hb hby d7_188) rfl rfl ?_
      refine XS.iload X1567.here hx rfl (hb hby d7_189) rfl ?_
      refine st1568.trans ?_
      exact k
    rw [show (own_lat (own_b pa1)) = pa1 from own_at hp1] at pre1569
    by_cases hc196_1570 : (own_cc s0) = pa1
    · obtain ⟨fs, hr, hrun, hended, hW, hsame⟩ := X1568.leave (v := some (.int 1)) (fun h => by rw [Bd.returns] at h; cases h)
      refine ⟨_, _, pre1569 _ ?_, hrun, hended, _, _, rfl, ?_, ⟨_, rfl⟩, hW, hsame.mono (by decide) (by decide)⟩
      · show Sp p e below m T1568 196 #[vr aa, vr at_, vr al, vi 3, vi 1, vi s0, vi p0, vi (-1), vi pa0] [(.int pa1), (.int (own_cc s0))] _
        refine XS.icmpNo X1568.here hx rfl (hb hby d7_196) rfl (teq hc196_1570).2 ?_
        refine XS.iconst X1568.here hx rfl (hb hby d7_199) ?_
        refine XS.goto X1568.here hx rfl (pc0 := 200) (pc' := 204) rfl (hb hby d7_200) (by decide) (by decide) ?_
        exact retN X1568 hx (t := .boolean) Bd.returns (by simp) (hb hby d7_204) hr
      · show Q7n4 Z aa at_ al cs vf ab kb gv pa0 pa1 pa2 pa3 h0 n0 _ T1568.heap _
        rw [e1568]
        exact ⟨(by simp only [own_ac, if_neg (hq1519.2.1), own_a1, own_run, if_pos (hq1519.2.2.1), if_pos (hq1519.2.2.2.1), if_neg (hq1519.2.2.2.2), ← hv1565.1, ← hv1565.2]; rw [own_fin, if_pos hc196_1570]), N1568, rfl⟩
    · obtain ⟨fs, hr, hrun, hended, hW, hsame⟩ := X1568.leave (v := some (.int 0)) (fun h => by rw [Bd.returns] at h; cases h)
      refine ⟨_, _, pre1569 _ ?_, hrun, hended, _, _, rfl, ?_, ⟨_, rfl⟩, hW, hsame.mono (by decide) (by decide)⟩
      · show Sp p e below m T1568 196 #[vr aa, vr at_, vr al, vi 3, vi 1, vi s0, vi p0, vi (-1), vi pa0] [(.int pa1), (.int (own_cc s0))] _
        refine XS.icmpYes X1568.here hx rfl (pc0 := 196) (pc' := 203) rfl (hb hby d7_196) rfl (feq hc196_1570).2 (by decide) (by decide) ?_
        refine XS.iconst X1568.here hx rfl (hb hby d7_203) ?_
        exact retN X1568 hx (t := .boolean) Bd.returns (by simp) (hb hby d7_204) hr
      · show Q7n4 Z aa at_ al cs vf ab kb gv pa0 pa1 pa2 pa3 h0 n0 _ T1568.heap _
        rw [e1568]
        exact ⟨(by simp only [own_ac, if_neg (hq1519.2.1), own_a1, own_run, if_pos (hq1519.2.2.1), if_pos (hq1519.2.2.2.1), if_neg (hq1519.2.2.2.2), ← hv1565.1, ← hv1565.2]; rw [own_fin, if_neg hc196_1570]), N1568, rfl⟩
  · rw [hq1520.1] at pre1515
    obtain ⟨T1571, X1571, e1571, st1571⟩ := getF X1514 hx hZ hown (host := "") (Or.inl (H 75 _ rfl)) Via.refl e1514 Fr_checkAt (g := (mkF m 96 #[vr aa, vr at_, vr al, vi 3, vi 0, vi 0, vi 0, .unset, .unset] [(.ref aa)])) rfl rfl (hb hby d7_96)
    obtain ⟨T1572, X1572, e1572, st1572⟩ := getF X1571 hx hZ hown (host := "") (Or.inl (H 61 _ rfl)) Via.refl e1571 Fr_start (g := (mkF m 116 #[vr aa, vr at_, vr al, vi 3, vi 0, vi 0, vi 0, vi (-1), .unset] [(.ref aa), (.int (-1))])) rfl rfl (hb hby d7_116)
    obtain ⟨cq1573, kq1573, q1573a, q1573b, q1573c⟩ := isOf hZ e1572 El
    obtain ⟨_, _, ⟨T1573, L1573, k1573, n1573⟩, -, X1573, ⟨Lc1573, hQ1573, l1573, y1573, z1573⟩, st1573⟩ := X1572.virtualBack hx hown (mvT hZ (H 116 _ rfl)) (mvT hZ (H 117 _ rfl)) (own_nf (args := #[]) (mvT hZ (H 111 _ rfl)) rfl) (mvT hZ (H 118 _ rfl)) (mvT hZ (H 119 _ rfl)) (by decide) (backOf (W := 0) (rm21 l Z a0 hw [] al (0 : Int32)  h0 n0 Z0 ) hZ (H 121 _ rfl) (H 120 _ rfl) (by decide) (by decide)) q1573a q1573c (g := (mkF m 185 #[vr aa, vr at_, vr al, vi 3, vi 0, vi 0, vi 0, vi (-1), .unset] [(.int 0), (.ref al)])) rfl (by rw [hml]; rfl) (Steps.refl _) (argsL := [(.int 0)]) (rest := []) (lenOf own_pd356 rfl) rfl (Nat.le_of_eq rfl) (hb hby d7_185) (fun _ _ => ⟨rfl, e1572, Nat.zero_le _, Nat.zero_le _⟩)
    dsimp only [Pt.U, Pt.locs, Pt.cells, Pt.slots] at X1573 l1573 y1573 z1573 st1573 hQ1573
    rw [l1573, y1573, z1573] at X1573
    obtain ⟨rfl, Nq1573, e1573⟩ := hQ1573
    have N1573 := Fr.app N1514 Nq1573
    obtain ⟨cq1574, kq1574, q1574a, q1574b, q1574c⟩ := isOf hZ e1573 Et
    obtain ⟨_, _, ⟨T1574, L1574, k1574, n1574⟩, -, X1574, ⟨Lc1574, hQ1574, l1574, y1574, z1574⟩, st1574⟩ := X1573.interfaceBack hx hown (mvT hZ (H 83 _ rfl)) (mvT hZ (H 84 _ rfl)) (mvT hZ (H 85 _ rfl)) (mvT hZ (H 86 _ rfl)) (mvT hZ (H 87 _ rfl)) (mvT hZ (H 88 _ rfl)) (mvT hZ (H 89 _ rfl)) (mvT hZ (H 53 _ rfl)) (by decide) (backOf (W := 1) (rm14 l Z a0 hw [] at_ (0 : Int32) cs vf ab kb (4 : Int32) [(.int (own_b pa0)), (.int (own_b pa1)), (.int (own_b pa2)), (.int (own_b pa3))] (own_b pa0) h0 n0 Z0 O0 Scs hcs Ssf hvf Et Fv Fc Va (by decide) (by decide) rfl) hZ (H 90 _ rfl) (H 9 _ rfl) (by decide) (by decide)) q1574a q1574b q1574c (g := (mkF m 191 #[vr aa, vr at_, vr al, vi 3, vi 0, vi 0, vi 0, vi (-1), .unset] [(.int 0), (.ref at_), (.int (own_cc (0 : Int32)))])) rfl (by rw [hml]; rfl) (Steps.refl _) (argsL := [(.int 0)]) (rest := [(.int (own_cc (0 : Int32)))]) (lenOf own_pd356 rfl) rfl (Nat.le_of_eq rfl) (hb hby d7_191) (fun _ _ => ⟨rfl, e1573, Nat.zero_le _, Nat.zero_le _⟩)
    dsimp only [Pt.U, Pt.locs, Pt.cells, Pt.slots] at X1574 l1574 y1574 z1574 st1574 hQ1574
    rw [l1574, y1574, z1574] at X1574
    obtain ⟨rfl, Nq1574, e1574⟩ := hQ1574
    have N1574 := Fr.app N1573 Nq1574
    have pre1575 : ∀ t, Sp p e below m T1574 196 #[vr aa, vr at_, vr al, vi 3, vi 0, vi 0, vi 0, vi (-1), .unset] [(.int (own_lat (own_b pa0))), (.int (own_cc (0 : Int32)))] t → SG p e below G0 t := by
      intro t k
      refine pre1515 t ?_
      show Sp p e below m T1514 73 #[vr aa, vr at_, vr al, vi 3, .unset, .unset, .unset, .unset, .unset] [(.int 0)] _
      refine XS.goto X1514.here hx rfl (pc0 := 73) (pc' := 80) rfl (hb hby d7_73) (by decide) (by decide) ?_
      refine XS.istore X1514.here hx rfl (hb hby d7_80) rfl (l' := #[vr aa, vr at_, vr al, vi 3, vi 0, .unset, .unset, .unset, .unset]) rfl ?_
      refine XS.iload X1514.here hx rfl (hb hby d7_82) rfl ?_
      refine XS.ifYes X1514.here hx rfl (pc0 := 84) (pc' := 89) rfl (hb hby d7_84) rfl ((if0 _ _).trans (flt (by decide : ¬ ((0 : Int32) < (0 : Int32)))).2.1) (by decide) (by decide) ?_
      refine XS.iconst X1514.here hx rfl (hb hby d7_89) ?_
      refine XS.istore X1514.here hx rfl (hb hby d7_90) rfl (l' := #[vr aa, vr at_, vr al, vi 3, vi 0, vi 0, .unset, .unset, .unset]) rfl ?_
      refine XS.iconst X1514.here hx rfl (hb hby d7_92) ?_
      refine XS.istore X1514.here hx rfl (hb hby d7_93) rfl (l' := #[vr aa, vr at_, vr al, vi 3, vi 0, vi 0, vi 0, .unset, .unset]) rfl ?_
      show Sp p e below m T1514 95 #[vr aa, vr at_, vr al, vi 3, vi 0, vi 0, vi 0, .unset, .unset] [] _
      refine XS.aloadN X1514.here hx rfl (hb hby d7_95) rfl rfl ?_
      refine st1571 _ ?_
      show Sp p e below m T1571 99 #[vr aa, vr at_, vr al, vi 3, vi 0, vi 0, vi 0, .unset, .unset] [(.int (-1))] _
      refine XS.iconst X1571.here hx rfl (hb hby d7_99) ?_
      refine XS.icmpNo X1571.here hx rfl (hb hby d7_100) rfl (teq (by decide : ((-1 : Int32) = (-1 : Int32)))).2 ?_
      refine XS.iload X1571.here hx rfl (hb hby d7_103) rfl ?_
      refine XS.iconst X1571.here hx rfl (hb hby d7_105) ?_
      refine XS.isub X1571.here hx rfl (hb hby d7_106) rfl ?_
      refine XS.goto X1571.here hx rfl (pc0 := 107) (pc' := 111) rfl (hb hby d7_107) (by decide) (by decide) ?_
      refine XS.istore X1571.here hx rfl (hb hby d7_111) rfl (l' := #[vr aa, vr at_, vr al, vi 3, vi 0, vi 0, vi 0, vi (-1), .unset]) rfl ?_
      refine XS.iload X1571.here hx rfl (hb hby d7_113) rfl ?_
      show Sp p e below m T1571 115 #[vr aa, vr at_, vr al, vi 3, vi 0, vi 0, vi 0, vi (-1), .unset] [(.int (-1))] _
      refine XS.aloadN X1571.here hx rfl (hb hby d7_115) rfl rfl ?_
      refine st1572 _ ?_
      show Sp p e below m T1572 119 #[vr aa, vr at_, vr al, vi 3, vi 0, vi 0, vi 0, vi (-1), .unset] [(.int 0), (.int (-1))] _
      refine XS.icmpYes X1572.here hx rfl (pc0 := 119) (pc' := 182) rfl (hb hby d7_119) rfl (tlt (by decide : ((-1 : Int32) < (0 : Int32)))).1 (by decide) (by decide) ?_
      refine XS.aloadN X1572.here hx rfl (hb hby d7_182) rfl rfl ?_
      refine XS.iload X1572.here hx rfl (hb hby d7_183) rfl ?_
      refine st1573.trans ?_
      show Sp p e below m T1573 188 #[vr aa, vr at_, vr al, vi 3, vi 0, vi 0, vi 0, vi (-1), .unset] [(.int (own_cc (0 : Int32)))] _
      refine XS.aloadN X1573.here hx rfl (hb hby d7_188) rfl rfl ?_
      refine XS.iload X1573.here hx rfl (hb hby d7_189) rfl ?_
      refine st1574.trans ?_
      exact k
    rw [show (own_lat (own_b pa0)) = pa0 from own_at hp0] at pre1575
    by_cases hc196_1576 : (own_cc (0 : Int32)) = pa0
    · obtain ⟨fs, hr, hrun, hended, hW, hsame⟩ := X1574.leave (v := some (.int 1)) (fun h => by rw [Bd.returns] at h; cases h)
      refine ⟨_, _, pre1575 _ ?_, hrun, hended, _, _, rfl, ?_, ⟨_, rfl⟩, hW, hsame.mono (by decide) (by decide)⟩
      · show Sp p e below m T1574 196 #[vr aa, vr at_, vr al, vi 3, vi 0, vi 0, vi 0, vi (-1), .unset] [(.int pa0), (.int (own_cc (0 : Int32)))] _
        refine XS.icmpNo X1574.here hx rfl (hb hby d7_196) rfl (teq hc196_1576).2 ?_
        refine XS.iconst X1574.here hx rfl (hb hby d7_199) ?_
        refine XS.goto X1574.here hx rfl (pc0 := 200) (pc' := 204) rfl (hb hby d7_200) (by decide) (by decide) ?_
        exact retN X1574 hx (t := .boolean) Bd.returns (by simp) (hb hby d7_204) hr
      · show Q7n4 Z aa at_ al cs vf ab kb gv pa0 pa1 pa2 pa3 h0 n0 _ T1574.heap _
        rw [e1574]
        exact ⟨(by simp only [own_ac, if_neg (hq1520.2.1), own_a1, own_run, if_pos (hq1520.2.2.1), if_pos (hq1520.2.2.2.1), if_pos (hq1520.2.2.2.2.1), if_neg (hq1520.2.2.2.2.2)]; rw [own_fin, if_pos hc196_1576]), N1574, rfl⟩
    · obtain ⟨fs, hr, hrun, hended, hW, hsame⟩ := X1574.leave (v := some (.int 0)) (fun h => by rw [Bd.returns] at h; cases h)
      refine ⟨_, _, pre1575 _ ?_, hrun, hended, _, _, rfl, ?_, ⟨_, rfl⟩, hW, hsame.mono (by decide) (by decide)⟩
      · show Sp p e below m T1574 196 #[vr aa, vr at_, vr al, vi 3, vi 0, vi 0, vi 0, vi (-1), .unset] [(.int pa0), (.int (own_cc (0 : Int32)))] _
        refine XS.icmpYes X1574.here hx rfl (pc0 := 196) (pc' := 203) rfl (hb hby d7_196) rfl (feq hc196_1576).2 (by decide) (by decide) ?_
        refine XS.iconst X1574.here hx rfl (hb hby d7_203) ?_
        exact retN X1574 hx (t := .boolean) Bd.returns (by simp) (hb hby d7_204) hr
      · show Q7n4 Z aa at_ al cs vf ab kb gv pa0 pa1 pa2 pa3 h0 n0 _ T1574.heap _
        rw [e1574]
        exact ⟨(by simp only [own_ac, if_neg (hq1520.2.1), own_a1, own_run, if_pos (hq1520.2.2.1), if_pos (hq1520.2.2.2.1), if_pos (hq1520.2.2.2.2.1), if_neg (hq1520.2.2.2.2.2)]; rw [own_fin, if_neg hc196_1576]), N1574, rfl⟩
  · rw [hq1521.1] at pre1515
    obtain ⟨fs, hr, hrun, hended, hW, hsame⟩ := X1514.leave (v := some (.int 0)) (fun h => by rw [Bd.returns] at h; cases h)
    refine ⟨_, _, pre1515 _ ?_, hrun, hended, _, _, rfl, ?_, ⟨_, rfl⟩, hW, hsame.mono (by decide) (by decide)⟩
    · show Sp p e below m T1514 73 #[vr aa, vr at_, vr al, vi 3, .unset, .unset, .unset, .unset, .unset] [(.int (-1))] _
      refine XS.goto X1514.here hx rfl (pc0 := 73) (pc' := 80) rfl (hb hby d7_73) (by decide) (by decide) ?_
      refine XS.istore X1514.here hx rfl (hb hby d7_80) rfl (l' := #[vr aa, vr at_, vr al, vi 3, vi (-1), .unset, .unset, .unset, .unset]) rfl ?_
      refine XS.iload X1514.here hx rfl (hb hby d7_82) rfl ?_
      refine XS.ifNo X1514.here hx rfl (hb hby d7_84) rfl ((if0 _ _).trans (tlt (by decide : ((-1 : Int32) < (0 : Int32)))).2.1) ?_
      refine XS.iconst X1514.here hx rfl (hb hby d7_87) ?_
      exact retN X1514 hx (t := .boolean) Bd.returns (by simp) (hb hby d7_88) hr
    · show Q7n4 Z aa at_ al cs vf ab kb gv pa0 pa1 pa2 pa3 h0 n0 _ T1514.heap _
      rw [e1514]
      exact ⟨(by simp only [own_ac, if_neg (hq1521.2.1), own_a1, if_pos (hq1521.2.2.1), if_pos (hq1521.2.2.2.1), if_pos (hq1521.2.2.2.2.1), if_pos (hq1521.2.2.2.2.2)]), N1514, rfl⟩
theorem own_l {k : Int32} {n : Int} (h : k.toInt = n) (x : Int32) : (x < k ↔ x.toInt < n) ∧ (k < x ↔ n < x.toInt) ∧ (x = k ↔ x.toInt = n) := by
  refine ⟨?_, ?_, ?_⟩
  · rw [Int32.lt_iff_toInt_lt, h]
  · rw [Int32.lt_iff_toInt_lt, h]
  · rw [← Int32.toInt_inj, h]
theorem own_dgI {c : Int32} (h : ¬ own_dg c = 0) : 0 ≤ (c - 48).toInt ∧ (c - 48).toInt ≤ 9 ∧ c.toInt = (c - 48).toInt + 48 := by
  have h1 := c_isub c 48
  have h2 := rng32 (c - 48); have h3 := rng32 c
  rw [show (48 : Int32).toInt = 48 from by decide] at h1
  unfold own_dg at h
  simp only [(own_l (k := 48) (n := 48) (by decide) c).1, (own_l (k := 57) (n := 57) (by decide) c).2.1] at h
  split at h
  · exact absurd rfl h
  · split at h
    · exact absurd rfl h
    · omega
theorem own_dgN {c : Int32} (h : own_dg c = 0) : ¬ (48 ≤ c.toInt ∧ c.toInt ≤ 57) := by
  unfold own_dg at h
  simp only [(own_l (k := 48) (n := 48) (by decide) c).1, (own_l (k := 57) (n := 57) (by decide) c).2.1] at h
  split at h
  · omega
  · split at h
    · omega
    · exact absurd h (by decide)
theorem own_tm {p d : Int32} (hp : 0 ≤ p.toInt) (hd : 0 ≤ d.toInt ∧ d.toInt ≤ 9) : own_tO p d = own_tL p d ∧ 0 ≤ (own_tL p d).toInt ∧ (own_tL p d).toInt ≤ 9 := by
  have a1 := (c_irem p 2 2 (by decide)).1 hp
  have a2 := c_mask p 1 1 (by decide) (by decide)
  have a3 := c_imul d 2
  have a4 := rng32 (d * 2)
  have a5 := c_isub (d * 2) 9
  have a6 := rng32 (d * 2 - 9)
  rw [show (2 : Int32).toInt = 2 from by decide] at a3
  rw [show (9 : Int32).toInt = 9 from by decide] at a5
  have b1 := (own_l (k := 1) (n := 1) (by decide) (p % 2)).2.2
  have b2 := (own_l (k := 0) (n := 0) (by decide) (p &&& 1)).2.2
  have b3 := (own_l (k := 9) (n := 9) (by decide) (d * 2)).2.1
  have b4 := (own_l (k := 9) (n := 9) (by decide) d).2.1
  unfold own_tO own_tL
  simp only [b1, b2]
  by_cases q : (p % 2).toInt = 1
  · have q2 : ¬ (p &&& 1).toInt = 0 := by omega
    simp only [if_pos q, if_neg q2, b3]
    refine ⟨trivial, ?_⟩
    split <;> omega
  · have q2 : (p &&& 1).toInt = 0 := by omega
    simp only [if_neg q, if_pos q2, b4]
    refine ⟨?_, by omega, by omega⟩
    rw [if_neg (by omega)]
theorem own_ad {s t : Int32} (hs : 0 ≤ s.toInt ∧ s.toInt ≤ 1000) (ht : 0 ≤ t.toInt ∧ t.toInt ≤ 1000) : (s + t).toInt = s.toInt + t.toInt := by
  have h1 := c_iadd s t; have h2 := rng32 (s + t); omega
theorem own_st {s t : Int32} (hs : 0 ≤ s.toInt ∧ s.toInt ≤ 1000) (ht : 0 ≤ t.toInt ∧ t.toInt ≤ 1000) : ((s + t) % 10).toInt = (s.toInt + t.toInt) % 10 := by
  have h1 := own_ad hs ht
  rw [(c_irem (s + t) 10 10 (by decide)).1 (by omega), h1]
theorem own_ccI {s : Int32} (hs : 0 ≤ s.toInt ∧ s.toInt ≤ 9) : (own_cc s).toInt = 48 + (10 - s.toInt) % 10 := by
  have h1 := c_isub 10 s; have h2 := rng32 (10 - s)
  rw [show (10 : Int32).toInt = 10 from by decide] at h1
  have h3 : (10 - s).toInt = 10 - s.toInt := by omega
  have h4 := (c_irem (10 - s) 10 10 (by decide)).1 (by omega)
  have h5 := c_iadd 48 ((10 - s) % 10); have h6 := rng32 (48 + ((10 - s) % 10))
  rw [show (48 : Int32).toInt = 48 from by decide, h4, h3] at h5
  have h7 : (48 + ((10 - s) % 10)).toInt = 48 + (10 - s.toInt) % 10 := by omega
  unfold own_cc
  generalize (48 + ((10 - s) % 10)) = z at *
  have h8 := c_i2c z
  have h9 := c_i2c (z.toUInt32.toUInt16.toUInt32.toInt32)
  show (z.toUInt32.toUInt16.toUInt32.toInt32).toUInt32.toUInt16.toUInt32.toInt32.toInt = 48 + (10 - s.toInt) % 10
  omega
-- the answers: ign, and not
theorem own_ind (k : Int) : ∀ (r : List Int32) (p s t : Int32), 0 ≤ p.toInt → p.toInt + r.length ≤ 8 → 0 ≤ s.toInt → s.toInt ≤ 9 → 0 ≤ t.toInt → t.toInt ≤ 9 * (p.toInt + 1) → (t.toInt - k - s.toInt) % 10 = 0 →
    0 ≤ (own_run r p s).toInt ∧ (own_run r p s).toInt ≤ 9 ∧ 0 ≤ (own_to r (p + 1) t).toInt ∧ ((own_to r (p + 1) t).toInt - k - (own_run r p s).toInt) % 10 = 0 ∧ p.toInt + 1 ≤ (own_cn r (p + 1)).toInt := by
  intro r
  induction r with
  | nil =>
    intro p s t hp hl hs hs9 ht ht9 hk
    have h1 := c_iadd p 1; have h2 := rng32 (p + 1)
    rw [show (1 : Int32).toInt = 1 from by decide] at h1
    simp only [List.length_nil] at hl
    refine ⟨hs, hs9, ht, hk, ?_⟩
    show p.toInt + 1 ≤ (p + 1).toInt
    omega
  | cons c r ih =>
    intro p s t hp hl hs hs9 ht ht9 hk
    have h1 := c_iadd p 1; have h2 := rng32 (p + 1)
    rw [show (1 : Int32).toInt = 1 from by decide] at h1
    simp only [List.length_cons] at hl
    have hp1 : (p + 1).toInt = p.toInt + 1 := by omega
    by_cases hd : own_dg c = 0
    · have := ih p s t hp (by omega) hs hs9 ht ht9 hk
      simp only [own_run, own_to, own_cn, own_ps, own_sm, own_tt, if_pos hd]
      exact this
    · have hD := own_dgI hd
      have hT := own_tm (p := p + 1) (d := c - 48) (by omega) ⟨hD.1, hD.2.1⟩
      have hS := own_st (s := s) (t := own_tL (p + 1) (c - 48)) (by omega) (by omega)
      have hA := own_ad (s := t) (t := own_tL (p + 1) (c - 48)) (by omega) (by omega)
      have := ih (p + 1) ((s + own_tL (p + 1) (c - 48)) % 10) (t + own_tL (p + 1) (c - 48)) (by omega) (by omega) (by omega) (by omega) (by omega) (by omega) (by omega)
      simp only [own_run, own_to, own_cn, own_ps, own_sm, own_tt, if_neg hd, hT.1]
      refine ⟨this.1, this.2.1, this.2.2.1, this.2.2.2.1, by omega⟩
def own_ex (g n cn t : Int32) : Int32 := if cn < 1 then 0 else if g = 0 then (if cn = n then (if t % 10 = 0 then 1 else 0) else 0) else (if t % 10 = 0 then 1 else 0)
theorem own_fx {s c t : Int32} (hc : 0 ≤ c.toInt - 48 ∧ c.toInt - 48 ≤ 9) (hs : 0 ≤ s.toInt ∧ s.toInt ≤ 9) (ht : 0 ≤ t.toInt) (h : (t.toInt - (c.toInt - 48) - s.toInt) % 10 = 0) : own_fin s c = if t % 10 = 0 then 1 else 0 := by
  have h1 := own_ccI hs
  have h2 := (c_irem t 10 10 (by decide)).1 ht
  have h3 := (own_l (k := 0) (n := 0) (by decide) (t % 10)).2.2
  unfold own_fin
  have q : (own_cc s = c) ↔ t % 10 = 0 := by rw [h3, ← Int32.toInt_inj, h1, h2]; omega
  simp only [q]
theorem own_A1 : ∀ (l : List Int32) (g n : Int32), l.length ≤ 8 → ¬ g = 0 → own_a1 l = own_ex g n (own_cn l 0) (own_to l 0 0) := by
  intro l
  induction l with
  | nil => intro g n _ hg; show (0 : Int32) = own_ex g n 0 0; unfold own_ex; rw [if_pos (by decide)]
  | cons c r ih =>
    intro g n hl hg
    simp only [List.length_cons] at hl
    by_cases hd : own_dg c = 0
    · simp only [own_a1, own_cn, own_to, own_ps, own_tt, if_pos hd]; exact ih g n (by omega) hg
    · have hD := own_dgI hd
      have h0 : own_tL 0 (c - 48) = c - 48 := if_pos (by decide)
      have hz : (0 : Int32) + (c - 48) = c - 48 := by rw [Int32.zero_add]
      have hi := own_ind (c.toInt - 48) r 0 0 (c - 48) (by decide) (by rw [show (0 : Int32).toInt = 0 from rfl]; omega) (by decide) (by decide) hD.1 (by rw [show (0 : Int32).toInt = 0 from rfl]; omega) (by rw [show (0 : Int32).toInt = 0 from rfl]; omega)
      rw [show (0 : Int32).toInt = 0 from rfl] at hi
      simp only [own_a1, own_cn, own_to, own_ps, own_tt, if_neg hd, h0, hz]
      have e1 := (own_l (k := 1) (n := 1) (by decide) (own_cn r (0 + 1))).1
      unfold own_ex
      rw [if_neg (by rw [e1]; omega), if_neg hg]
      exact own_fx (by omega) ⟨hi.1, hi.2.1⟩ hi.2.2.1 hi.2.2.2.1
theorem own_cnle : ∀ (r : List Int32) (p : Int32), 0 ≤ p.toInt → p.toInt + r.length ≤ 8 → (own_cn r p).toInt ≤ p.toInt + r.length := by
  intro r
  induction r with
  | nil => intro p hp hl; show p.toInt ≤ p.toInt + ((0 : Nat) : Int); omega
  | cons c r ih =>
    intro p hp hl
    simp only [List.length_cons] at hl ⊢
    have h1 := c_iadd p 1; have h2 := rng32 (p + 1)
    rw [show (1 : Int32).toInt = 1 from by decide] at h1
    simp only [own_cn, own_ps]
    split
    · have := ih p hp (by omega); omega
    · have := ih (p + 1) (by omega) (by omega); omega
/-- not ign: a digit at every place, or none of it -/
theorem own_R0 : ∀ (r : List Int32) (p s k : Int32), 0 ≤ p.toInt → p.toInt + r.length ≤ 8 → own_run0 r p s k = if (own_cn r (p + 1)).toInt = p.toInt + 1 + r.length then own_fin (own_run r p s) k else 0 := by
  intro r
  induction r with
  | nil =>
    intro p s k hp hl
    have h1 := c_iadd p 1; have h2 := rng32 (p + 1)
    rw [show (1 : Int32).toInt = 1 from by decide] at h1
    simp only [List.length_nil] at hl ⊢
    exact (if_pos (show (p + 1).toInt = p.toInt + 1 + ((0 : Nat) : Int) by omega)).symm
  | cons c r ih =>
    intro p s k hp hl
    simp only [List.length_cons] at hl ⊢
    have h1 := c_iadd p 1; have h2 := rng32 (p + 1)
    rw [show (1 : Int32).toInt = 1 from by decide] at h1
    by_cases hd : own_dg c = 0
    · have := own_cnle r (p + 1) (by omega) (by omega)
      simp only [own_run0, own_cn, own_ps, if_pos hd]
      rw [if_neg (by omega)]
    · simp only [own_run0, own_cn, own_ps, own_run, own_sm, if_neg hd]
      rw [ih (p + 1) _ k (by omega) (by omega)]
      have e : (own_cn r (p + 1 + 1)).toInt = (p + 1).toInt + 1 + r.length ↔ (own_cn r (p + 1 + 1)).toInt = p.toInt + 1 + ((r.length + 1 : Nat) : Int) := by omega
      simp only [e]
theorem own_runb : ∀ (r : List Int32) (p s : Int32), 0 ≤ p.toInt → p.toInt + r.length ≤ 8 → 0 ≤ s.toInt → s.toInt ≤ 9 → 0 ≤ (own_run r p s).toInt ∧ (own_run r p s).toInt ≤ 9 := fun r p s hp hl hs h9 =>
  have h := own_ind (-s.toInt) r p s 0 hp hl hs h9 (by decide) (by rw [show (0 : Int32).toInt = 0 from rfl]; omega) (by rw [show (0 : Int32).toInt = 0 from rfl]; omega)
  ⟨h.1, h.2.1⟩
theorem own_A0 (l : List Int32) (n : Int32) (hl : l.length ≤ 7) (hn : n.toInt = l.length) : own_a0 l = own_ex 0 n (own_cn l 0) (own_to l 0 0) := by
  cases l with
  | nil => show (0 : Int32) = own_ex 0 n 0 0; unfold own_ex; rw [if_pos (by decide)]
  | cons c r =>
    simp only [List.length_cons] at hl hn
    have e0 := own_R0 r 0 0 c (by decide) (by rw [show (0 : Int32).toInt = 0 from rfl]; omega)
    have hb := own_runb r 0 0 (by decide) (by rw [show (0 : Int32).toInt = 0 from rfl]; omega) (by decide) (by decide)
    rw [show (0 : Int32).toInt = 0 from rfl] at e0
    show own_run0 r 0 0 c = _
    rw [e0]
    by_cases hd : own_dg c = 0
    · have hcn := own_cnle r 0 (by decide) (by rw [show (0 : Int32).toInt = 0 from rfl]; omega)
      rw [show (0 : Int32).toInt = 0 from rfl] at hcn
      have hf : own_fin (own_run r 0 0) c = 0 := by
        have h1 := own_ccI hb; have h2 := own_dgN hd
        unfold own_fin
        rw [if_neg (fun q => h2 (by rw [← q, h1]; omega))]
      simp only [hf, ite_self]
      simp only [own_cn, own_to, own_ps, own_tt, if_pos hd]
      have e1 : ¬ own_cn r 0 = n := fun q => by rw [q] at hcn; omega
      unfold own_ex
      simp only [if_neg e1, if_true, ite_self]
    · have hD := own_dgI hd
      have h0 : own_tL 0 (c - 48) = c - 48 := if_pos (by decide)
      have hz : (0 : Int32) + (c - 48) = c - 48 := by rw [Int32.zero_add]
      have hi := own_ind (c.toInt - 48) r 0 0 (c - 48) (by decide) (by rw [show (0 : Int32).toInt = 0 from rfl]; omega) (by decide) (by decide) hD.1 (by rw [show (0 : Int32).toInt = 0 from rfl]; omega) (by rw [show (0 : Int32).toInt = 0 from rfl]; omega)
      rw [show (0 : Int32).toInt = 0 from rfl] at hi
      simp only [own_cn, own_to, own_ps, own_tt, if_neg hd, h0, hz]
      have e1 := (own_l (k := 1) (n := 1) (by decide) (own_cn r (0 + 1))).1
      have e2 : (own_cn r (0 + 1) = n) ↔ (own_cn r (0 + 1)).toInt = 0 + 1 + (r.length : Int) := by rw [← Int32.toInt_inj, hn]; omega
      have e3 : ¬ own_cn r (0 + 1) < 1 := by rw [e1]; omega
      unfold own_ex
      rw [if_neg e3, if_pos rfl, own_fx (t := own_to r (0 + 1) (c - 48)) (by omega) ⟨hi.1, hi.2.1⟩ hi.2.2.1 hi.2.2.2.1]
      simp only [e2]
theorem own_AC (l : List Int32) (g n : Int32) (hl : l.length ≤ 7) (hn : n.toInt = l.length) : own_ac g l = own_ex g n (own_cn l 0) (own_to l 0 0) := by
  unfold own_ac
  by_cases hg : g = 0
  · rw [if_pos hg, hg]; exact own_A0 l n hl hn
  · rw [if_neg hg]; exact own_A1 l g n (by omega) hg
theorem own_n5 (x : Int32) : ((x &&& 7) % 5) = 0 ∨ ((x &&& 7) % 5) = 1 ∨ ((x &&& 7) % 5) = 2 ∨ ((x &&& 7) % 5) = 3 ∨ ((x &&& 7) % 5) = 4 := by
  have h1 := c_mask x 7 3 (by decide) (by decide)
  have h2 := (c_irem (x &&& 7) 5 5 (by decide)).1 (by omega)
  simp only [(own_l (k := 0) (n := 0) (by decide) ((x &&& 7) % 5)).2.2, (own_l (k := 1) (n := 1) (by decide) ((x &&& 7) % 5)).2.2, (own_l (k := 2) (n := 2) (by decide) ((x &&& 7) % 5)).2.2, (own_l (k := 3) (n := 3) (by decide) ((x &&& 7) % 5)).2.2, (own_l (k := 4) (n := 4) (by decide) ((x &&& 7) % 5)).2.2]
  omega
theorem own_pd461 : parseMethodDescriptor "(ICCCC)Ljava/lang/String;" = some ⟨[.int, .char, .char, .char, .char], some (.object "java/lang/String")⟩ := by decide +kernel
theorem own_pd462 : parseMethodDescriptor "(Z)Lcom/example/onus_on_beans/onusonbeans/validators/CheckDigitRange;" = some ⟨[.boolean], some (.object "com/example/onus_on_beans/onusonbeans/validators/CheckDigitRange")⟩ := by decide +kernel
theorem own_pd463 : parseMethodDescriptor "(Ljava/lang/CharSequence;Lcom/example/onus_on_beans/onusonbeans/validators/CheckDigitScheme;)Z" = some ⟨[(.object "java/lang/CharSequence"), (.object "com/example/onus_on_beans/onusonbeans/validators/CheckDigitScheme")], some .boolean⟩ := by decide +kernel
theorem ef_0 (m : MethodId) (x0 : Int32) (x1 : Int32) (x2 : Int32) (x3 : Int32) (x4 : Int32) : entryFrame m #[(.int x0), (.int x1), (.int x2), (.int x3), (.int x4)] maxLocals = mkF m 0 #[.val (.int x0), .val (.int x1), .val (.int x2), .val (.int x3), .val (.int x4), .unset, .unset, .unset, .unset, .unset, .unset, .unset, .unset, .unset, .unset, .unset, .unset] [] := by first | (simp [entryFrame, mkF, argsToLocals, Value.category, maxLocals]; done) | rfl
def Q0 (Z : State) (q0 : Int32) (q1 : Int32) (q2 : Int32) (q3 : Int32) (q4 : Int32) (cs : Int32) (vf : Value) (aw0 : Addr) (aw1 : Addr) (al : Addr) (h0 : Heap) (n0 : Nat) (v : Option Value) (h : Heap) (L : List Loc) : Prop := v = some (.int 1) ∧ Fr n0 L
theorem rm0 (l : Launch) (Z : State) (a0 : Array Value) (hw : ∀ d ∈ tables_1, d.before a0 Z = true) (ws : List Jvm.Cond) (q0 : Int32) (q1 : Int32) (q2 : Int32) (q3 : Int32) (q4 : Int32) (cs : Int32) (vf : Value) (aw0 : Addr) (aw1 : Addr) (al : Addr) (h0 : Heap) (n0 : Nat) (Z0 : n0 ≤ h0.size) (O0 : Old Z n0 h0) (Scs : Sta Z Z.heap "java/lang/String" "COMPACT_STRINGS" "Z" (.int cs)) (hcs : ¬ cs = (0 : Int32)) (Ssf : Sta Z Z.heap "jdk/internal/util/Preconditions" "SIOOBE_FORMATTER" "Ljava/util/function/BiFunction;" vf) (hvf : vf.isRef = true) (Hc : Jvm.Lit.constHeld Z "java/lang/String" 7) (Hcw : Jvm.Lit.compactW.before a0 Z = true) (Sw0 : Sta Z Z.heap "com/example/onus_on_beans/onusonbeans/validators/CheckDigitRange" "WHOLE_TEXT" "Lcom/example/onus_on_beans/onusonbeans/validators/CheckDigitRange;" (.ref aw0)) (Sw1 : Sta Z Z.heap "com/example/onus_on_beans/onusonbeans/validators/CheckDigitRange" "WHOLE_TEXT_OF_DIGITS" "Lcom/example/onus_on_beans/onusonbeans/validators/CheckDigitRange;" (.ref aw1)) (Sl : Sta Z Z.heap "com/example/onus_on_beans/onusonbeans/validators/CheckDigitScheme" "LUHN" "Lcom/example/onus_on_beans/onusonbeans/validators/CheckDigitScheme;" (.ref al)) (Eu : Exa Z h0 aw0 "com/example/onus_on_beans/onusonbeans/validators/CheckDigitRange") (Fu_end : Fld Z h0 aw0 "com/example/onus_on_beans/onusonbeans/validators/CheckDigitRange" "end" "I" (.int 2147483647)) (Fu_start : Fld Z h0 aw0 "com/example/onus_on_beans/onusonbeans/validators/CheckDigitRange" "start" "I" (.int 0)) (Fu_checkAt : Fld Z h0 aw0 "com/example/onus_on_beans/onusonbeans/validators/CheckDigitRange" "checkAt" "I" (.int (-1))) (Fu_ignoresOthers : Fld Z h0 aw0 "com/example/onus_on_beans/onusonbeans/validators/CheckDigitRange" "ignoresOthers" "Z" (.int 0)) (Ev : Exa Z h0 aw1 "com/example/onus_on_beans/onusonbeans/validators/CheckDigitRange") (Fv_end : Fld Z h0 aw1 "com/example/onus_on_beans/onusonbeans/validators/CheckDigitRange" "end" "I" (.int 2147483647)) (Fv_start : Fld Z h0 aw1 "com/example/onus_on_beans/onusonbeans/validators/CheckDigitRange" "start" "I" (.int 0)) (Fv_checkAt : Fld Z h0 aw1 "com/example/onus_on_beans/onusonbeans/validators/CheckDigitRange" "checkAt" "I" (.int (-1))) (Fv_ignoresOthers : Fld Z h0 aw1 "com/example/onus_on_beans/onusonbeans/validators/CheckDigitRange" "ignoresOthers" "Z" (.int 1)) (El : Exa Z h0 al "com/example/onus_on_beans/onusonbeans/validators/CheckDigitScheme$Luhn") (Fm : Fld Z h0 al "com/example/onus_on_beans/onusonbeans/validators/CheckDigitScheme" "modulus" "I" (.int 10)) :
    MetFree l x (head1 (Jvm.Cond.code x code maxLocals ret :: ws) room_1) (fun a U => a = #[(.int q0), (.int q1), (.int q2), (.int q3), (.int q4)] ∧ Z.Warmed39 U.vm ∧ U.heap = h0 ∧ U.vm.interned = Z.vm.interned) (fun _ _ _ _ _ => True) (fun _ U o U' => ∃ v L, o = .returned v ∧ Q0 Z q0 q1 q2 q3 q4 cs vf aw0 aw1 al h0 n0 v U'.heap L ∧ ReturnedEndW U o U' L room_1.cells room_1.slots) := by
  refine MetFree.of_bodySF (plainFor_of_name own_pn32) hisR ?_
  intro p e s m args below meth c s₁ Bd hml0 hP hK
  have H := fun i c (h : tables_1[i]? = some c) => hw c (List.mem_of_getElem? h)
  obtain ⟨rfl, hZ, hh, hI⟩ := hP
  have hx := Bd.exec
  have hby := Bd.bytes
  have hml : c.maxLocals = 17 := hml0
  have hown : s.vm.findClass "com/example/onus_on_beans/onusonbeans/validators/CheckDigitRangeWholeTextPinLaw" = some m.cls := findClass_of_methodNamed Bd.named
  have hnm := (name_of_methodNamed Bd.named Bd.method).1
  have X0 : Stand p l e room_1 s m #[(.int q0), (.int q1), (.int q2), (.int q3), (.int q4)] below meth c s₁ [] 0 0 := Stand.of_body Bd
  have e0 : s₁.heap = h0 := by rw [← hh, Bd.state]; rfl
  have N0 := Fr.nil n0
  have pre0 : ∀ t, Sp p e below m s₁ 0 #[vi q0, vi q1, vi q2, vi q3, vi q4, .unset, .unset, .unset, .unset, .unset, .unset, .unset, .unset, .unset, .unset, .unset, .unset] [] t → Steps p.tables e below (s₁.setTop (entryFrame m #[(.int q0), (.int q1), (.int q2), (.int q3), (.int q4)] maxLocals)) t := fun t k => castTop (ef_0 m q0 q1 q2 q3 q4) k
  generalize s₁.setTop (entryFrame m #[(.int q0), (.int q1), (.int q2), (.int q3), (.int q4)] maxLocals) = G0 at pre0 ⊢
  obtain ⟨ig, hv1583, pre1582⟩ : ∃ (ig : Int32), (ig = 0 ∨ ig = 1) ∧ ∀ t, Sp p e below m s₁ 11 #[vi q0, vi q1, vi q2, vi q3, vi q4, .unset, .unset, .unset, .unset, .unset, .unset, .unset, .unset, .unset, .unset, .unset, .unset] [(.int ig)] t → SG p e below G0 t := by
    have pre1577 : ∀ t, Sp p e below m s₁ 3 #[vi q0, vi q1, vi q2, vi q3, vi q4, .unset, .unset, .unset, .unset, .unset, .unset, .unset, .unset, .unset, .unset, .unset, .unset] [(.int (q0 &&& (1 : Int32)))] t → SG p e below G0 t := by
      intro t k
      refine pre0 t ?_
      show Sp p e below m s₁ 0 #[vi q0, vi q1, vi q2, vi q3, vi q4, .unset, .unset, .unset, .unset, .unset, .unset, .unset, .unset, .unset, .unset, .unset, .unset] [] _
      refine XS.iloadN X0.here hx rfl (hb hby at_0) rfl ?_
      refine XS.iconst X0.here hx rfl (hb hby at_1) ?_
      refine XS.iand X0.here hx rfl (hb hby at_2) rfl ?_
      exact k
    by_cases hc3_1578 : (q0 &&& (1 : Int32)) = (0 : Int32)
    · have pre1579 : ∀ t, Sp p e below m s₁ 11 #[vi q0, vi q1, vi q2, vi q3, vi q4, .unset, .unset, .unset, .unset, .unset, .unset, .unset, .unset, .unset, .unset, .unset, .unset] [(.int 0)] t → SG p e below G0 t := by
        intro t k
        refine pre1577 t ?_
        show Sp p e below m s₁ 3 #[vi q0, vi q1, vi q2, vi q3, vi q4, .unset, .unset, .unset, .unset, .unset, .unset, .unset, .unset, .unset, .unset, .unset, .unset] [(.int (q0 &&& (1 : Int32)))] _
        refine XS.ifYes X0.here hx rfl (pc0 := 3) (pc' := 10) rfl (hb hby at_3) rfl ((if0 _ _).trans (teq hc3_1578).1) (by decide) (by decide) ?_
        refine XS.iconst X0.here hx rfl (hb hby at_10) ?_
        exact k
      exact ⟨(0 : Int32), (by exact Or.inl rfl), pre1579⟩
    · have pre1580 : ∀ t, Sp p e below m s₁ 11 #[vi q0, vi q1, vi q2, vi q3, vi q4, .unset, .unset, .unset, .unset, .unset, .unset, .unset, .unset, .unset, .unset, .unset, .unset] [(.int 1)] t → SG p e below G0 t := by
        intro t k
        refine pre1577 t ?_
        show Sp p e below m s₁ 3 #[vi q0, vi q1, vi q2, vi q3, vi q4, .unset, .unset, .unset, .unset, .unset, .unset, .unset, .unset, .unset, .unset, .unset, .unset] [(.int (q0 &&& (1 : Int32)))] _
        refine XS.ifNo X0.here hx rfl (hb hby at_3) rfl ((if0 _ _).trans (feq hc3_1578).1) ?_
        refine XS.iconst X0.here hx rfl (hb hby at_6) ?_
        refine XS.goto X0.here hx rfl (pc0 := 7) (pc' := 11) rfl (hb hby at_7) (by decide) (by decide) ?_
        exact k
      exact ⟨(1 : Int32), (by exact Or.inr rfl), pre1580⟩
  have pre1584 : ∀ t, Sp p e below m s₁ 21 #[vi q0, vi q1, vi q2, vi q3, vi q4, vi ig, .unset, .unset, .unset, .unset, .unset, .unset, .unset, .unset, .unset, .unset, .unset] [(.int ((((q0.toUInt32 >>> ((1 : Int32) &&& 31).toUInt32).toInt32) &&& (7 : Int32)) % (5 : Int32)))] t → SG p e below G0 t := by
    intro t k
    refine pre1582 t ?_
    show Sp p e below m s₁ 11 #[vi q0, vi q1, vi q2, vi q3, vi q4, .unset, .unset, .unset, .unset, .unset, .unset, .unset, .unset, .unset, .unset, .unset, .unset] [(.int ig)] _
    refine XS.istore X0.here hx rfl (hb hby at_11) rfl (l' := #[vi q0, vi q1, vi q2, vi q3, vi q4, vi ig, .unset, .unset, .unset, .unset, .unset, .unset, .unset, .unset, .unset, .unset, .unset]) rfl ?_
    refine XS.iloadN X0.here hx rfl (hb hby at_13) rfl ?_
    refine XS.iconst X0.here hx rfl (hb hby at_14) ?_
    refine XS.iushr X0.here hx rfl (hb hby at_15) rfl ?_
    refine XS.bipush X0.here hx rfl (hb hby at_16) ?_
    refine XS.iand X0.here hx rfl (hb hby at_18) rfl ?_
    refine XS.iconst X0.here hx rfl (hb hby at_19) ?_
    refine iremM X0 hx rfl (hb hby at_20) rfl (by decide) ?_
    exact k
  obtain ⟨nn, he1585⟩ : ∃ z : Int32, z = ((((q0.toUInt32 >>> ((1 : Int32) &&& 31).toUInt32).toInt32) &&& (7 : Int32)) % (5 : Int32)) := ⟨_, rfl⟩
  rw [← he1585] at pre1584
  have hn5 : nn = 0 ∨ nn = 1 ∨ nn = 2 ∨ nn = 3 ∨ nn = 4 := by rw [he1585]; exact own_n5 _
  obtain ⟨_, _, ⟨T1586, L1586, k1586, n1586⟩, -, X1586, ⟨Lc1586, hQ1586, l1586, y1586, z1586⟩, st1586⟩ := Jvm.LawKit.callS X0 hx hown (mvT hZ (H 0 _ rfl)) (mvT hZ (H 1 _ rfl)) (mvT hZ (H 2 _ rfl)) (mvT hZ (H 3 _ rfl)) (by decide) (backOf (W := 0) (rm1 l Z a0 hw [] q1  h0 n0 Z0 ) hZ (H 3 _ rfl) (H 2 _ rfl) (by decide) (by decide)) (g := (mkF m 24 #[vi q0, vi q1, vi q2, vi q3, vi q4, vi ig, vi nn, .unset, .unset, .unset, .unset, .unset, .unset, .unset, .unset, .unset, .unset] [(.int q1)])) rfl (by rw [hml]; rfl) (argsL := [(.int q1)]) (rest := []) (lenOf own_pd356 rfl) rfl (Nat.le_of_eq rfl) (hb hby at_24) (fun _ _ => ⟨rfl, e0, Nat.zero_le _, Nat.zero_le _⟩)
  dsimp only [Pt.U, Pt.locs, Pt.cells, Pt.slots] at X1586 l1586 y1586 z1586 st1586 hQ1586
  rw [l1586, y1586, z1586] at X1586
  obtain ⟨rrv_1586, rfl, Nq1586, e1586, p1586_0⟩ := hQ1586
  have N1586 := Fr.app N0 Nq1586
  obtain ⟨_, _, ⟨T1587, L1587, k1587, n1587⟩, -, X1587, ⟨Lc1587, hQ1587, l1587, y1587, z1587⟩, st1587⟩ := Jvm.LawKit.callS X1586 hx hown (mvT hZ (H 0 _ rfl)) (mvT hZ (H 1 _ rfl)) (mvT hZ (H 2 _ rfl)) (mvT hZ (H 3 _ rfl)) (by decide) (backOf (W := 0) (rm1 l Z a0 hw [] q2  h0 n0 Z0 ) hZ (H 3 _ rfl) (H 2 _ rfl) (by decide) (by decide)) (g := (mkF m 30 #[vi q0, vi q1, vi q2, vi q3, vi q4, vi ig, vi nn, vi rrv_1586, .unset, .unset, .unset, .unset, .unset, .unset, .unset, .unset, .unset] [(.int q2)])) rfl (by rw [hml]; rfl) (argsL := [(.int q2)]) (rest := []) (lenOf own_pd356 rfl) rfl (Nat.le_of_eq rfl) (hb hby at_30) (fun _ _ => ⟨rfl, e1586, Nat.zero_le _, Nat.zero_le _⟩)
  dsimp only [Pt.U, Pt.locs, Pt.cells, Pt.slots] at X1587 l1587 y1587 z1587 st1587 hQ1587
  rw [l1587, y1587, z1587] at X1587
  obtain ⟨rrv_1587, rfl, Nq1587, e1587, p1587_0⟩ := hQ1587
  have N1587 := Fr.app N1586 Nq1587
  obtain ⟨_, _, ⟨T1588, L1588, k1588, n1588⟩, -, X1588, ⟨Lc1588, hQ1588, l1588, y1588, z1588⟩, st1588⟩ := Jvm.LawKit.callS X1587 hx hown (mvT hZ (H 0 _ rfl)) (mvT hZ (H 1 _ rfl)) (mvT hZ (H 2 _ rfl)) (mvT hZ (H 3 _ rfl)) (by decide) (backOf (W := 0) (rm1 l Z a0 hw [] q3  h0 n0 Z0 ) hZ (H 3 _ rfl) (H 2 _ rfl) (by decide) (by decide)) (g := (mkF m 36 #[vi q0, vi q1, vi q2, vi q3, vi q4, vi ig, vi nn, vi rrv_1586, vi rrv_1587, .unset, .unset, .unset, .unset, .unset, .unset, .unset, .unset] [(.int q3)])) rfl (by rw [hml]; rfl) (argsL := [(.int q3)]) (rest := []) (lenOf own_pd356 rfl) rfl (Nat.le_of_eq rfl) (hb hby at_36) (fun _ _ => ⟨rfl, e1587, Nat.zero_le _, Nat.zero_le _⟩)
  dsimp only [Pt.U, Pt.locs, Pt.cells, Pt.slots] at X1588 l1588 y1588 z1588 st1588 hQ1588
  rw [l1588, y1588, z1588] at X1588
  obtain ⟨rrv_1588, rfl, Nq1588, e1588, p1588_0⟩ := hQ1588
  have N1588 := Fr.app N1587 Nq1588
  obtain ⟨_, _, ⟨T1589, L1589, k1589, n1589⟩, -, X1589, ⟨Lc1589, hQ1589, l1589, y1589, z1589⟩, st1589⟩ := Jvm.LawKit.callS X1588 hx hown (mvT hZ (H 0 _ rfl)) (mvT hZ (H 1 _ rfl)) (mvT hZ (H 2 _ rfl)) (mvT hZ (H 3 _ rfl)) (by decide) (backOf (W := 0) (rm1 l Z a0 hw [] q4  h0 n0 Z0 ) hZ (H 3 _ rfl) (H 2 _ rfl) (by decide) (by decide)) (g := (mkF m 43 #[vi q0, vi q1, vi q2, vi q3, vi q4, vi ig, vi nn, vi rrv_1586, vi rrv_1587, vi rrv_1588, .unset, .unset, .unset, .unset, .unset, .unset, .unset] [(.int q4)])) rfl (by rw [hml]; rfl) (argsL := [(.int q4)]) (rest := []) (lenOf own_pd356 rfl) rfl (Nat.le_of_eq rfl) (hb hby at_43) (fun _ _ => ⟨rfl, e1588, Nat.zero_le _, Nat.zero_le _⟩)
  dsimp only [Pt.U, Pt.locs, Pt.cells, Pt.slots] at X1589 l1589 y1589 z1589 st1589 hQ1589
  rw [l1589, y1589, z1589] at X1589
  obtain ⟨rrv_1589, rfl, Nq1589, e1589, p1589_0⟩ := hQ1589
  have N1589 := Fr.app N1588 Nq1589
  have pre1590 : ∀ t, Sp p e below m T1589 48 #[vi q0, vi q1, vi q2, vi q3, vi q4, vi ig, vi nn, vi rrv_1586, vi rrv_1587, vi rrv_1588, vi rrv_1589, .unset, .unset, .unset, .unset, .unset, .unset] [] t → SG p e below G0 t := by
    intro t k
    refine pre1584 t ?_
    show Sp p e below m s₁ 21 #[vi q0, vi q1, vi q2, vi q3, vi q4, vi ig, .unset, .unset, .unset, .unset, .unset, .unset, .unset, .unset, .unset, .unset, .unset] [(.int nn)] _
    refine XS.istore X0.here hx rfl (hb hby at_21) rfl (l' := #[vi q0, vi q1, vi q2, vi q3, vi q4, vi ig, vi nn, .unset, .unset, .unset, .unset, .unset, .unset, .unset, .unset, .unset, .unset]) rfl ?_
    refine XS.iloadN X0.here hx rfl (hb hby at_23) rfl ?_
    refine st1586 _ ?_
    show Sp p e below m T1586 27 #[vi q0, vi q1, vi q2, vi q3, vi q4, vi ig, vi nn, .unset, .unset, .unset, .unset, .unset, .unset, .unset, .unset, .unset, .unset] [(.int rrv_1586)] _
    refine XS.istore X1586.here hx rfl (hb hby at_27) rfl (l' := #[vi q0, vi q1, vi q2, vi q3, vi q4, vi ig, vi nn, vi rrv_1586, .unset, .unset, .unset, .unset, .unset, .unset, .unset, .unset, .unset]) rfl ?_
    refine XS.iloadN X1586.here hx rfl (hb hby at_29) rfl ?_
    refine st1587 _ ?_
    show Sp p e below m T1587 33 #[vi q0, vi q1, vi q2, vi q3, vi q4, vi ig, vi nn, vi rrv_1586, .unset, .unset, .unset, .unset, .unset, .unset, .unset, .unset, .unset] [(.int rrv_1587)] _
    refine XS.istore X1587.here hx rfl (hb hby at_33) rfl (l' := #[vi q0, vi q1, vi q2, vi q3, vi q4, vi ig, vi nn, vi rrv_1586, vi rrv_1587, .unset, .unset, .unset, .unset, .unset, .unset, .unset, .unset]) rfl ?_
    refine XS.iloadN X1587.here hx rfl (hb hby at_35) rfl ?_
    refine st1588 _ ?_
    show Sp p e below m T1588 39 #[vi q0, vi q1, vi q2, vi q3, vi q4, vi ig, vi nn, vi rrv_1586, vi rrv_1587, .unset, .unset, .unset, .unset, .unset, .unset, .unset, .unset] [(.int rrv_1588)] _
    refine XS.istore X1588.here hx rfl (hb hby at_39) rfl (l' := #[vi q0, vi q1, vi q2, vi q3, vi q4, vi ig, vi nn, vi rrv_1586, vi rrv_1587, vi rrv_1588, .unset, .unset, .unset, .unset, .unset, .unset, .unset]) rfl ?_
    refine XS.iload X1588.here hx rfl (hb hby at_41) rfl ?_
    refine st1589 _ ?_
    show Sp p e below m T1589 46 #[vi q0, vi q1, vi q2, vi q3, vi q4, vi ig, vi nn, vi rrv_1586, vi rrv_1587, vi rrv_1588, .unset, .unset, .unset, .unset, .unset, .unset, .unset] [(.int rrv_1589)] _
    refine XS.istore X1589.here hx rfl (hb hby at_46) rfl (l' := #[vi q0, vi q1, vi q2, vi q3, vi q4, vi ig, vi nn, vi rrv_1586, vi rrv_1587, vi rrv_1588, vi rrv_1589, .unset, .unset, .unset, .unset, .unset, .unset]) rfl ?_
    exact k
  rcases hn5 with hq1591 | hq1592 | hq1593 | hq1594 | hq1595
  · rw [hq1591] at pre1590
    have pre1597 : ∀ t, Sp p e below m T1589 58 #[vi q0, vi q1, vi q2, vi q3, vi q4, vi ig, vi 0, vi rrv_1586, vi rrv_1587, vi rrv_1588, vi rrv_1589, .unset, .unset, .unset, .unset, .unset, .unset] [(.int rrv_1589), (.int rrv_1588), (.int rrv_1587), (.int rrv_1586), (.int 0)] t → SG p e below G0 t := by
      intro t k
      refine pre1590 t ?_
      show Sp p e below m T1589 48 #[vi q0, vi q1, vi q2, vi q3, vi q4, vi ig, vi 0, vi rrv_1586, vi rrv_1587, vi rrv_1588, vi rrv_1589, .unset, .unset, .unset, .unset, .unset, .unset] [] _
      refine XS.iload X1589.here hx rfl (hb hby at_48) rfl ?_
      refine XS.iload X1589.here hx rfl (hb hby at_50) rfl ?_
      refine XS.iload X1589.here hx rfl (hb hby at_52) rfl ?_
      refine XS.iload X1589.here hx rfl (hb hby at_54) rfl ?_
      refine XS.iload X1589.here hx rfl (hb hby at_56) rfl ?_
      exact k
    obtain ⟨_, _, ⟨T1596, L1596, k1596, n1596⟩, -, X1596, hS1596, hg1596, ⟨Lc1596, hQ1596, l1596, y1596, z1596⟩, st1596⟩ := callSS X1589 hx (y := (⟨"com/example/onus_on_beans/onusonbeans/validators/CheckDigitRangeWholeTextPinLaw", "text", "(ICCCC)Ljava/lang/String;"⟩ : MethodName)) hown (mvT hZ (H 4 _ rfl)) (mvT hZ (H 5 _ rfl)) (mvT hZ (H 2 _ rfl)) (mvT hZ (H 6 _ rfl)) (by decide) (own_backSI (W := 0) (rm2n0 l Z a0 hw [] rrv_1586 rrv_1587 rrv_1588 rrv_1589 cs vf h0 n0 Z0 O0 Scs hcs Ssf hvf Hc Hcw p1586_0 p1587_0 p1588_0 p1589_0) hZ hI (H 6 _ rfl) (H 2 _ rfl) (by decide) (by decide)) (g := (mkF m 58 #[vi q0, vi q1, vi q2, vi q3, vi q4, vi ig, vi 0, vi rrv_1586, vi rrv_1587, vi rrv_1588, vi rrv_1589, .unset, .unset, .unset, .unset, .unset, .unset] [(.int rrv_1589), (.int rrv_1588), (.int rrv_1587), (.int rrv_1586), (.int 0)])) rfl (by rw [hml]; rfl) (argsL := [(.int 0), (.int rrv_1586), (.int rrv_1587), (.int rrv_1588), (.int rrv_1589)]) (rest := []) (lenOf own_pd461 rfl) rfl (Nat.le_of_eq rfl) (hb hby at_58) (fun _ _ => ⟨rfl, e1589, (by decide : 0 + 4 ≤ _), (by decide : 0 + 8 ≤ _)⟩)
    dsimp only [Pt.U, Pt.locs, Pt.cells, Pt.slots] at X1596 l1596 y1596 z1596 st1596 hQ1596
    rw [l1596, y1596, z1596] at X1596
    have hZ' := State.Warmed39.trans hZ hS1596.1
    have hown' : (s.setVm T1596.vm).vm.findClass "com/example/onus_on_beans/onusonbeans/validators/CheckDigitRangeWholeTextPinLaw" = some m.cls := (hS1596.1.alike.findClass _ _).trans hown
    have hZ : Z.Warmed39 (s.setVm T1596.vm).vm := hZ'
    have hown := hown'
    obtain ⟨rso_1596, rrb_1596, rrk_1596, rfl, Nq1596, K1596, p1596_0, p1596_1, p1596_2, p1596_3⟩ := hQ1596
    have N1596 := Fr.app N1589 Nq1596
    have Zs1596 : n0 ≤ T1596.heap.size := Nat.le_trans Z0 K1596.1
    have KK1596 : Keep h0 T1596.heap [] := (Keep.refl h0 _).trans K1596 all0
    have O1596 := O0.keep K1596 (all0)
    have f1598 := Scs.ext O1596.2
    have f1599 := Ssf.ext O1596.2
    have f1600 := El.keep K1596
    have f1601 := Fm.keep K1596 nin0
    have f1602 := Sw0.ext O1596.2
    have f1603 := Eu.keep K1596
    have f1604 := Fu_end.keep K1596 nin0
    have f1605 := Fu_start.keep K1596 nin0
    have f1606 := Fu_checkAt.keep K1596 nin0
    have f1607 := Fu_ignoresOthers.keep K1596 nin0
    have f1608 := Sw1.ext O1596.2
    have f1609 := Ev.keep K1596
    have f1610 := Fv_end.keep K1596 nin0
    have f1611 := Fv_start.keep K1596 nin0
    have f1612 := Fv_checkAt.keep K1596 nin0
    have f1613 := Fv_ignoresOthers.keep K1596 nin0
    have f1614 := Sl.ext O1596.2
    obtain ⟨_, _, ⟨T1615, L1615, k1615, n1615⟩, -, X1615, ⟨Lc1615, hQ1615, l1615, y1615, z1615⟩, st1615⟩ := Jvm.LawKit.callS X1596 hx hown (mvT hZ (H 29 _ rfl)) (mvT hZ (H 30 _ rfl)) (mvT hZ (H 31 _ rfl)) (mvT hZ (H 32 _ rfl)) (by decide) (backOf (W := 0) (rm6 l Z a0 hw [] ig aw0 aw1 T1596.heap n0 Zs1596 O1596 Sw0 Sw1 hv1583 f1603 f1604 f1605 f1606 f1607 f1609 f1610 f1611 f1612 f1613) hZ (H 32 _ rfl) (H 31 _ rfl) (by decide) (by decide)) (g := (mkF m 65 #[vi q0, vi q1, vi q2, vi q3, vi q4, vi ig, vi 0, vi rrv_1586, vi rrv_1587, vi rrv_1588, vi rrv_1589, vr rso_1596, .unset, .unset, .unset, .unset, .unset] [(.int ig)])) rfl (by rw [hml]; rfl) (argsL := [(.int ig)]) (rest := []) (lenOf own_pd462 rfl) rfl (Nat.le_of_eq rfl) (hb hby at_65) (fun _ _ => ⟨rfl, rfl, (by decide : 4 + 0 ≤ _), (by decide : 8 + 0 ≤ _)⟩)
    dsimp only [Pt.U, Pt.locs, Pt.cells, Pt.slots] at X1615 l1615 y1615 z1615 st1615 hQ1615
    rw [l1615, y1615, z1615] at X1615
    obtain ⟨raw_1615, rfl, Nq1615, e1615, p1615_0, p1615_1, p1615_2, p1615_3, p1615_4⟩ := hQ1615
    have N1615 := Fr.app N1596 Nq1615
    obtain ⟨T1616, X1616, e1616, st1616⟩ := getS2 X1615 hx hZ hown (host := "") (Or.inl (H 35 _ rfl)) Via.refl e1615 f1614 (g := (mkF m 81 #[vi q0, vi q1, vi q2, vi q3, vi q4, vi ig, vi 0, vi rrv_1586, vi rrv_1587, vi rrv_1588, vi rrv_1589, vr rso_1596, vr raw_1615, .unset, .unset, .unset, .unset] [(.ref rso_1596), (.ref raw_1615)])) rfl (hb hby at_81)
    obtain ⟨cq1617, kq1617, q1617a, q1617b, q1617c⟩ := isOf hZ e1616 p1615_0
    obtain ⟨_, _, ⟨T1617, L1617, k1617, n1617⟩, -, X1617, ⟨Lc1617, hQ1617, l1617, y1617, z1617⟩, st1617⟩ := X1616.virtualBack hx hown (mvT hZ (H 38 _ rfl)) (mvT hZ (H 39 _ rfl)) (notFace_of_selects (args := #[]) (mvT hZ (H 41 _ rfl))) (mvT hZ (H 41 _ rfl)) (mvT hZ (H 40 _ rfl)) (by decide) (backOf (W := 0) (rm7n0 l Z a0 hw [] raw_1615 rso_1596 al cs vf rrb_1596 rrk_1596 ig T1596.heap n0 Zs1596 O1596 Scs hcs Ssf hvf p1615_0 p1615_1 p1615_2 p1615_3 p1615_4 f1600 f1601 p1596_0 p1596_1 p1596_2 p1596_3) hZ (H 42 _ rfl) (H 31 _ rfl) (by decide) (by decide)) q1617a q1617c (g := (mkF m 84 #[vi q0, vi q1, vi q2, vi q3, vi q4, vi ig, vi 0, vi rrv_1586, vi rrv_1587, vi rrv_1588, vi rrv_1589, vr rso_1596, vr raw_1615, .unset, .unset, .unset, .unset] [(.ref al), (.ref rso_1596), (.ref raw_1615)])) rfl (by rw [hml]; rfl) (Steps.refl _) (argsL := [(.ref rso_1596), (.ref al)]) (rest := []) (lenOf own_pd463 rfl) rfl (Nat.le_of_eq rfl) (hb hby at_84) (fun _ _ => ⟨rfl, e1616, (by decide : 4 + 0 ≤ _), (by decide : 8 + 0 ≤ _)⟩)
    dsimp only [Pt.U, Pt.locs, Pt.cells, Pt.slots] at X1617 l1617 y1617 z1617 st1617 hQ1617
    rw [l1617, y1617, z1617] at X1617
    obtain ⟨rfl, Nq1617, e1617⟩ := hQ1617
    have N1617 := Fr.app N1615 Nq1617
    have pre1618 : ∀ t, Steps p.tables e below (T1617.setTop (mkF m 87 #[vi q0, vi q1, vi q2, vi q3, vi q4, vi ig, vi 0, vi rrv_1586, vi rrv_1587, vi rrv_1588, vi rrv_1589, vr rso_1596, vr raw_1615, .unset, .unset, .unset, .unset] [(.int (own_ac ig []))])) t → SG p e below G0 t := by
      intro t k
      refine pre1597 t ?_
      refine st1596.trans ?_
      show Sp p e below m T1596 61 #[vi q0, vi q1, vi q2, vi q3, vi q4, vi ig, vi 0, vi rrv_1586, vi rrv_1587, vi rrv_1588, vi rrv_1589, .unset, .unset, .unset, .unset, .unset, .unset] [(.ref rso_1596)] _
      refine XS.astore X1596.here hx rfl (hb hby at_61) rfl rfl (l' := #[vi q0, vi q1, vi q2, vi q3, vi q4, vi ig, vi 0, vi rrv_1586, vi rrv_1587, vi rrv_1588, vi rrv_1589, vr rso_1596, .unset, .unset, .unset, .unset, .unset]) rfl ?_
      refine XS.iload X1596.here hx rfl (hb hby at_63) rfl ?_
      refine st1615 _ ?_
      show Sp p e below m T1615 68 #[vi q0, vi q1, vi q2, vi q3, vi q4, vi ig, vi 0, vi rrv_1586, vi rrv_1587, vi rrv_1588, vi rrv_1589, vr rso_1596, .unset, .unset, .unset, .unset, .unset] [(.ref raw_1615)] _
      refine XS.astore X1615.here hx rfl (hb hby at_68) rfl rfl (l' := #[vi q0, vi q1, vi q2, vi q3, vi q4, vi ig, vi 0, vi rrv_1586, vi rrv_1587, vi rrv_1588, vi rrv_1589, vr rso_1596, vr raw_1615, .unset, .unset, .unset, .unset]) rfl ?_
      refine XS.aload X1615.here hx rfl (hb hby at_70) rfl rfl ?_
      refine XS.ifnonnullYes X1615.here hx rfl (pc0 := 72) (pc' := 77) rfl (hb hby at_72) rfl (by decide) (by decide) ?_
      refine XS.aload X1615.here hx rfl (hb hby at_77) rfl rfl ?_
      refine XS.aload X1615.here hx rfl (hb hby at_79) rfl rfl ?_
      refine st1616 _ ?_
      show Sp p e below m T1616 84 #[vi q0, vi q1, vi q2, vi q3, vi q4, vi ig, vi 0, vi rrv_1586, vi rrv_1587, vi rrv_1588, vi rrv_1589, vr rso_1596, vr raw_1615, .unset, .unset, .unset, .unset] [(.ref al), (.ref rso_1596), (.ref raw_1615)] _
      refine st1617.trans ?_
      exact k
    obtain ⟨act, he1619⟩ : ∃ z : Int32, z = (own_ac ig []) := ⟨_, rfl⟩
    rw [← he1619] at pre1618
    obtain ⟨fs, hr, hrun, hended, hRW⟩ := X1617.leaveW hS1596 (by rw [e1617]; exact (Nat.le_refl _)) (v := some (.int 1)) (fun h => by rw [Bd.returns] at h; cases h)
    refine ⟨_, _, pre1618 _ ?_, hrun, hended, _, _, rfl, ?_, hRW.1, hRW.2.1, hRW.2.2.1, hRW.2.2.2.mono (by decide) (by decide)⟩
    · show Sp p e below m T1617 87 #[vi q0, vi q1, vi q2, vi q3, vi q4, vi ig, vi 0, vi rrv_1586, vi rrv_1587, vi rrv_1588, vi rrv_1589, vr rso_1596, vr raw_1615, .unset, .unset, .unset, .unset] [(.int act)] _
      refine XS.istore X1617.here hx rfl (hb hby at_87) rfl (l' := #[vi q0, vi q1, vi q2, vi q3, vi q4, vi ig, vi 0, vi rrv_1586, vi rrv_1587, vi rrv_1588, vi rrv_1589, vr rso_1596, vr raw_1615, vi act, .unset, .unset, .unset]) rfl ?_
      refine XS.iconst X1617.here hx rfl (hb hby at_89) ?_
      refine XS.istore X1617.here hx rfl (hb hby at_90) rfl (l' := #[vi q0, vi q1, vi q2, vi q3, vi q4, vi ig, vi 0, vi rrv_1586, vi rrv_1587, vi rrv_1588, vi rrv_1589, vr rso_1596, vr raw_1615, vi act, vi 0, .unset, .unset]) rfl ?_
      refine XS.iconst X1617.here hx rfl (hb hby at_92) ?_
      refine XS.istore X1617.here hx rfl (hb hby at_93) rfl (l' := #[vi q0, vi q1, vi q2, vi q3, vi q4, vi ig, vi 0, vi rrv_1586, vi rrv_1587, vi rrv_1588, vi rrv_1589, vr rso_1596, vr raw_1615, vi act, vi 0, vi 0, .unset]) rfl ?_
      refine XS.iload X1617.here hx rfl (hb hby at_95) rfl ?_
      refine XS.iconst X1617.here hx rfl (hb hby at_97) ?_
      refine XS.icmpYes X1617.here hx rfl (pc0 := 98) (pc' := 127) rfl (hb hby at_98) rfl (flt (by decide : ¬ ((3 : Int32) < (0 : Int32)))).2.2.2 (by decide) (by decide) ?_
      show Sp p e below m T1617 127 #[vi q0, vi q1, vi q2, vi q3, vi q4, vi ig, vi 0, vi rrv_1586, vi rrv_1587, vi rrv_1588, vi rrv_1589, vr rso_1596, vr raw_1615, vi act, vi 0, vi 0, .unset] [] _
      refine XS.iload X1617.here hx rfl (hb hby at_127) rfl ?_
      refine XS.iconst X1617.here hx rfl (hb hby at_129) ?_
      refine XS.icmpYes X1617.here hx rfl (pc0 := 130) (pc' := 159) rfl (hb hby at_130) rfl (flt (by decide : ¬ ((2 : Int32) < (0 : Int32)))).2.2.2 (by decide) (by decide) ?_
      refine XS.iload X1617.here hx rfl (hb hby at_159) rfl ?_
      refine XS.iconst X1617.here hx rfl (hb hby at_161) ?_
      refine XS.icmpYes X1617.here hx rfl (pc0 := 162) (pc' := 191) rfl (hb hby at_162) rfl (flt (by decide : ¬ ((1 : Int32) < (0 : Int32)))).2.2.2 (by decide) (by decide) ?_
      refine XS.iload X1617.here hx rfl (hb hby at_191) rfl ?_
      refine XS.ifYes X1617.here hx rfl (pc0 := 193) (pc' := 222) rfl (hb hby at_193) rfl ((if0 _ _).trans (flt (by decide : ¬ ((0 : Int32) < (0 : Int32)))).2.2.2) (by decide) (by decide) ?_
      show Sp p e below m T1617 222 #[vi q0, vi q1, vi q2, vi q3, vi q4, vi ig, vi 0, vi rrv_1586, vi rrv_1587, vi rrv_1588, vi rrv_1589, vr rso_1596, vr raw_1615, vi act, vi 0, vi 0, .unset] [] _
      refine XS.iload X1617.here hx rfl (hb hby at_222) rfl ?_
      refine XS.iconst X1617.here hx rfl (hb hby at_224) ?_
      refine XS.icmpYes X1617.here hx rfl (pc0 := 225) (pc' := 252) rfl (hb hby at_225) rfl (tlt (by decide : ((0 : Int32) < (1 : Int32)))).1 (by decide) (by decide) ?_
      refine XS.iconst X1617.here hx rfl (hb hby at_252) ?_
      refine XS.istore X1617.here hx rfl (hb hby at_253) rfl (l' := #[vi q0, vi q1, vi q2, vi q3, vi q4, vi ig, vi 0, vi rrv_1586, vi rrv_1587, vi rrv_1588, vi rrv_1589, vr rso_1596, vr raw_1615, vi act, vi 0, vi 0, vi 0]) rfl ?_
      refine XS.iload X1617.here hx rfl (hb hby at_255) rfl ?_
      refine XS.iload X1617.here hx rfl (hb hby at_257) rfl ?_
      refine XS.icmpNo X1617.here hx rfl (hb hby at_259) rfl (teq (by rw [he1619]; simp only [own_ac, own_a0, own_a1, ite_self] : (act = (0 : Int32)))).2 ?_
      show Sp p e below m T1617 262 #[vi q0, vi q1, vi q2, vi q3, vi q4, vi ig, vi 0, vi rrv_1586, vi rrv_1587, vi rrv_1588, vi rrv_1589, vr rso_1596, vr raw_1615, vi act, vi 0, vi 0, vi 0] [] _
      refine XS.iconst X1617.here hx rfl (hb hby at_262) ?_
      refine XS.goto X1617.here hx rfl (pc0 := 263) (pc' := 267) rfl (hb hby at_263) (by decide) (by decide) ?_
      exact retN X1617 hx (t := .boolean) Bd.returns (by simp) (hb hby at_267) hr
    · show Q0 Z q0 q1 q2 q3 q4 cs vf aw0 aw1 al h0 n0 _ T1617.heap _
      rw [e1617]
      exact ⟨rfl, N1617⟩
  · rw [hq1592] at pre1590
    obtain ⟨_, _, ⟨T1620, L1620, k1620, n1620⟩, -, X1620, ⟨Lc1620, hQ1620, l1620, y1620, z1620⟩, st1620⟩ := Jvm.LawKit.callS X1589 hx hown (mvT hZ (H 4 _ rfl)) (mvT hZ (H 5 _ rfl)) (mvT hZ (H 2 _ rfl)) (mvT hZ (H 6 _ rfl)) (by decide) (backOf (W := 0) (rm2n1 l Z a0 hw [] rrv_1586 rrv_1587 rrv_1588 rrv_1589 cs vf h0 n0 Z0 O0 Scs hcs Ssf hvf Hc Hcw p1586_0 p1587_0 p1588_0 p1589_0) hZ (H 6 _ rfl) (H 2 _ rfl) (by decide) (by decide)) (g := (mkF m 58 #[vi q0, vi q1, vi q2, vi q3, vi q4, vi ig, vi 1, vi rrv_1586, vi rrv_1587, vi rrv_1588, vi rrv_1589, .unset, .unset, .unset, .unset, .unset, .unset] [(.int rrv_1589), (.int rrv_1588), (.int rrv_1587), (.int rrv_1586), (.int 1)])) rfl (by rw [hml]; rfl) (argsL := [(.int 1), (.int rrv_1586), (.int rrv_1587), (.int rrv_1588), (.int rrv_1589)]) (rest := []) (lenOf own_pd461 rfl) rfl (Nat.le_of_eq rfl) (hb hby at_58) (fun _ _ => ⟨rfl, e1589, (by decide : 0 + 3 ≤ _), (by decide : 0 + 6 ≤ _)⟩)
    dsimp only [Pt.U, Pt.locs, Pt.cells, Pt.slots] at X1620 l1620 y1620 z1620 st1620 hQ1620
    rw [l1620, y1620, z1620] at X1620
    obtain ⟨rso_1620, rrb_1620, rrk_1620, rfl, Nq1620, K1620, p1620_0, p1620_1, p1620_2, p1620_3⟩ := hQ1620
    have N1620 := Fr.app N1589 Nq1620
    have Zs1620 : n0 ≤ T1620.heap.size := Nat.le_trans Z0 K1620.1
    have KK1620 : Keep h0 T1620.heap [] := (Keep.refl h0 _).trans K1620 all0
    have O1620 := O0.keep K1620 (all0)
    have f1621 := Scs.ext O1620.2
    have f1622 := Ssf.ext O1620.2
    have f1623 := El.keep K1620
    have f1624 := Fm.keep K1620 nin0
    have f1625 := Sw0.ext O1620.2
    have f1626 := Eu.keep K1620
    have f1627 := Fu_end.keep K1620 nin0
    have f1628 := Fu_start.keep K1620 nin0
    have f1629 := Fu_checkAt.keep K1620 nin0
    have f1630 := Fu_ignoresOthers.keep K1620 nin0
    have f1631 := Sw1.ext O1620.2
    have f1632 := Ev.keep K1620
    have f1633 := Fv_end.keep K1620 nin0
    have f1634 := Fv_start.keep K1620 nin0
    have f1635 := Fv_checkAt.keep K1620 nin0
    have f1636 := Fv_ignoresOthers.keep K1620 nin0
    have f1637 := Sl.ext O1620.2
    obtain ⟨_, _, ⟨T1638, L1638, k1638, n1638⟩, -, X1638, ⟨Lc1638, hQ1638, l1638, y1638, z1638⟩, st1638⟩ := Jvm.LawKit.callS X1620 hx hown (mvT hZ (H 29 _ rfl)) (mvT hZ (H 30 _ rfl)) (mvT hZ (H 31 _ rfl)) (mvT hZ (H 32 _ rfl)) (by decide) (backOf (W := 0) (rm6 l Z a0 hw [] ig aw0 aw1 T1620.heap n0 Zs1620 O1620 Sw0 Sw1 hv1583 f1626 f1627 f1628 f1629 f1630 f1632 f1633 f1634 f1635 f1636) hZ (H 32 _ rfl) (H 31 _ rfl) (by decide) (by decide)) (g := (mkF m 65 #[vi q0, vi q1, vi q2, vi q3, vi q4, vi ig, vi 1, vi rrv_1586, vi rrv_1587, vi rrv_1588, vi rrv_1589, vr rso_1620, .unset, .unset, .unset, .unset, .unset] [(.int ig)])) rfl (by rw [hml]; rfl) (argsL := [(.int ig)]) (rest := []) (lenOf own_pd462 rfl) rfl (Nat.le_of_eq rfl) (hb hby at_65) (fun _ _ => ⟨rfl, rfl, (by decide : 3 + 0 ≤ _), (by decide : 6 + 0 ≤ _)⟩)
    dsimp only [Pt.U, Pt.locs, Pt.cells, Pt.slots] at X1638 l1638 y1638 z1638 st1638 hQ1638
    rw [l1638, y1638, z1638] at X1638
    obtain ⟨raw_1638, rfl, Nq1638, e1638, p1638_0, p1638_1, p1638_2, p1638_3, p1638_4⟩ := hQ1638
    have N1638 := Fr.app N1620 Nq1638
    obtain ⟨T1639, X1639, e1639, st1639⟩ := getS2 X1638 hx hZ hown (host := "") (Or.inl (H 35 _ rfl)) Via.refl e1638 f1637 (g := (mkF m 81 #[vi q0, vi q1, vi q2, vi q3, vi q4, vi ig, vi 1, vi rrv_1586, vi rrv_1587, vi rrv_1588, vi rrv_1589, vr rso_1620, vr raw_1638, .unset, .unset, .unset, .unset] [(.ref rso_1620), (.ref raw_1638)])) rfl (hb hby at_81)
    obtain ⟨cq1640, kq1640, q1640a, q1640b, q1640c⟩ := isOf hZ e1639 p1638_0
    obtain ⟨_, _, ⟨T1640, L1640, k1640, n1640⟩, -, X1640, ⟨Lc1640, hQ1640, l1640, y1640, z1640⟩, st1640⟩ := X1639.virtualBack hx hown (mvT hZ (H 38 _ rfl)) (mvT hZ (H 39 _ rfl)) (notFace_of_selects (args := #[]) (mvT hZ (H 41 _ rfl))) (mvT hZ (H 41 _ rfl)) (mvT hZ (H 40 _ rfl)) (by decide) (backOf (W := 0) (rm7n1 l Z a0 hw [] raw_1638 rso_1620 al cs vf rrb_1620 rrk_1620 ig rrv_1586 T1620.heap n0 Zs1620 O1620 Scs hcs Ssf hvf p1638_0 p1638_1 p1638_2 p1638_3 p1638_4 f1623 f1624 p1620_0 p1620_1 p1620_2 p1620_3 p1586_0) hZ (H 42 _ rfl) (H 31 _ rfl) (by decide) (by decide)) q1640a q1640c (g := (mkF m 84 #[vi q0, vi q1, vi q2, vi q3, vi q4, vi ig, vi 1, vi rrv_1586, vi rrv_1587, vi rrv_1588, vi rrv_1589, vr rso_1620, vr raw_1638, .unset, .unset, .unset, .unset] [(.ref al), (.ref rso_1620), (.ref raw_1638)])) rfl (by rw [hml]; rfl) (Steps.refl _) (argsL := [(.ref rso_1620), (.ref al)]) (rest := []) (lenOf own_pd463 rfl) rfl (Nat.le_of_eq rfl) (hb hby at_84) (fun _ _ => ⟨rfl, e1639, (by decide : 3 + 0 ≤ _), (by decide : 6 + 0 ≤ _)⟩)
    dsimp only [Pt.U, Pt.locs, Pt.cells, Pt.slots] at X1640 l1640 y1640 z1640 st1640 hQ1640
    rw [l1640, y1640, z1640] at X1640
    obtain ⟨rfl, Nq1640, e1640⟩ := hQ1640
    have N1640 := Fr.app N1638 Nq1640
    have pre1641 : ∀ t, Steps p.tables e below (T1640.setTop (mkF m 87 #[vi q0, vi q1, vi q2, vi q3, vi q4, vi ig, vi 1, vi rrv_1586, vi rrv_1587, vi rrv_1588, vi rrv_1589, vr rso_1620, vr raw_1638, .unset, .unset, .unset, .unset] [(.int (own_ac ig [rrv_1586]))])) t → SG p e below G0 t := by
      intro t k
      refine pre1590 t ?_
      show Sp p e below m T1589 48 #[vi q0, vi q1, vi q2, vi q3, vi q4, vi ig, vi 1, vi rrv_1586, vi rrv_1587, vi rrv_1588, vi rrv_1589, .unset, .unset, .unset, .unset, .unset, .unset] [] _
      refine XS.iload X1589.here hx rfl (hb hby at_48) rfl ?_
      refine XS.iload X1589.here hx rfl (hb hby at_50) rfl ?_
      refine XS.iload X1589.here hx rfl (hb hby at_52) rfl ?_
      refine XS.iload X1589.here hx rfl (hb hby at_54) rfl ?_
      refine XS.iload X1589.here hx rfl (hb hby at_56) rfl ?_
      refine st1620 _ ?_
      show Sp p e below m T1620 61 #[vi q0, vi q1, vi q2, vi q3, vi q4, vi ig, vi 1, vi rrv_1586, vi rrv_1587, vi rrv_1588, vi rrv_1589, .unset, .unset, .unset, .unset, .unset, .unset] [(.ref rso_1620)] _
      refine XS.astore X1620.here hx rfl (hb hby at_61) rfl rfl (l' := #[vi q0, vi q1, vi q2, vi q3, vi q4, vi ig, vi 1, vi rrv_1586, vi rrv_1587, vi rrv_1588, vi rrv_1589, vr rso_1620, .unset, .unset, .unset, .unset, .unset]) rfl ?_
      refine XS.iload X1620.here hx rfl (hb hby at_63) rfl ?_
      refine st1638 _ ?_
      show Sp p e below m T1638 68 #[vi q0, vi q1, vi q2, vi q3, vi q4, vi ig, vi 1, vi rrv_1586, vi rrv_1587, vi rrv_1588, vi rrv_1589, vr rso_1620, .unset, .unset, .unset, .unset, .unset] [(.ref raw_1638)] _
      refine XS.astore X1638.here hx rfl (hb hby at_68) rfl rfl (l' := #[vi q0, vi q1, vi q2, vi q3, vi q4, vi ig, vi 1, vi rrv_1586, vi rrv_1587, vi rrv_1588, vi rrv_1589, vr rso_1620, vr raw_1638, .unset, .unset, .unset, .unset]) rfl ?_
      refine XS.aload X1638.here hx rfl (hb hby at_70) rfl rfl ?_
      refine XS.ifnonnullYes X1638.here hx rfl (pc0 := 72) (pc' := 77) rfl (hb hby at_72) rfl (by decide) (by decide) ?_
      refine XS.aload X1638.here hx rfl (hb hby at_77) rfl rfl ?_
      refine XS.aload X1638.here hx rfl (hb hby at_79) rfl rfl ?_
      refine st1639 _ ?_
      show Sp p e below m T1639 84 #[vi q0, vi q1, vi q2, vi q3, vi q4, vi ig, vi 1, vi rrv_1586, vi rrv_1587, vi rrv_1588, vi rrv_1589, vr rso_1620, vr raw_1638, .unset, .unset, .unset, .unset] [(.ref al), (.ref rso_1620), (.ref raw_1638)] _
      refine st1640.trans ?_
      exact k
    obtain ⟨act, he1642⟩ : ∃ z : Int32, z = (own_ac ig [rrv_1586]) := ⟨_, rfl⟩
    rw [← he1642] at pre1641
    have pre1643 : ∀ t, Sp p e below m T1640 95 #[vi q0, vi q1, vi q2, vi q3, vi q4, vi ig, vi 1, vi rrv_1586, vi rrv_1587, vi rrv_1588, vi rrv_1589, vr rso_1620, vr raw_1638, vi act, vi 0, vi 0, .unset] [] t → SG p e below G0 t := by
      intro t k
      refine pre1641 t ?_
      show Sp p e below m T1640 87 #[vi q0, vi q1, vi q2, vi q3, vi q4, vi ig, vi 1, vi rrv_1586, vi rrv_1587, vi rrv_1588, vi rrv_1589, vr rso_1620, vr raw_1638, .unset, .unset, .unset, .unset] [(.int act)] _
      refine XS.istore X1640.here hx rfl (hb hby at_87) rfl (l' := #[vi q0, vi q1, vi q2, vi q3, vi q4, vi ig, vi 1, vi rrv_1586, vi rrv_1587, vi rrv_1588, vi rrv_1589, vr rso_1620, vr raw_1638, vi act, .unset, .unset, .unset]) rfl ?_
      refine XS.iconst X1640.here hx rfl (hb hby at_89) ?_
      refine XS.istore X1640.here hx rfl (hb hby at_90) rfl (l' := #[vi q0, vi q1, vi q2, vi q3, vi q4, vi ig, vi 1, vi rrv_1586, vi rrv_1587, vi rrv_1588, vi rrv_1589, vr rso_1620, vr raw_1638, vi act, vi 0, .unset, .unset]) rfl ?_
      refine XS.iconst X1640.here hx rfl (hb hby at_92) ?_
      refine XS.istore X1640.here hx rfl (hb hby at_93) rfl (l' := #[vi q0, vi q1, vi q2, vi q3, vi q4, vi ig, vi 1, vi rrv_1586, vi rrv_1587, vi rrv_1588, vi rrv_1589, vr rso_1620, vr raw_1638, vi act, vi 0, vi 0, .unset]) rfl ?_
      exact k
    obtain ⟨Tm1650, lm1650, n_0, t_0, Xm1650, em1650, Nm1650, hv1652, pre1651⟩ : ∃ (Tm1650 : State) (lm1650 : List Loc) (n_0 : Int32) (t_0 : Int32), Stand p l e room_1 s m #[(.int q0), (.int q1), (.int q2), (.int q3), (.int q4)] below meth c Tm1650 lm1650 3 6 ∧ Tm1650.heap = T1620.heap ∧ Fr n0 lm1650 ∧ (n_0 = own_ps rrv_1586 (0 : Int32) ∧ t_0 = own_tt rrv_1586 (0 : Int32) (0 : Int32)) ∧ ∀ t, Sp p e below m Tm1650 222 #[vi q0, vi q1, vi q2, vi q3, vi q4, vi ig, vi 1, vi rrv_1586, vi rrv_1587, vi rrv_1588, vi rrv_1589, vr rso_1620, vr raw_1638, vi act, vi n_0, vi t_0, .unset] [] t → SG p e below G0 t := by
      obtain ⟨_, _, ⟨T1644, L1644, k1644, n1644⟩, -, X1644, ⟨Lc1644, hQ1644, l1644, y1644, z1644⟩, st1644⟩ := Jvm.LawKit.callS X1640 hx hown (mvT hZ (H 122 _ rfl)) (mvT hZ (H 123 _ rfl)) (mvT hZ (H 2 _ rfl)) (mvT hZ (H 124 _ rfl)) (by decide) (backOf (W := 0) (rm22 l Z a0 hw [] rrv_1586  T1620.heap n0 Zs1620 ) hZ (H 124 _ rfl) (H 2 _ rfl) (by decide) (by decide)) (g := (mkF m 198 #[vi q0, vi q1, vi q2, vi q3, vi q4, vi ig, vi 1, vi rrv_1586, vi rrv_1587, vi rrv_1588, vi rrv_1589, vr rso_1620, vr raw_1638, vi act, vi 0, vi 0, .unset] [(.int rrv_1586)])) rfl (by rw [hml]; rfl) (argsL := [(.int rrv_1586)]) (rest := []) (lenOf own_pd215 rfl) rfl (Nat.le_of_eq rfl) (hb hby at_198) (fun _ _ => ⟨rfl, e1640, (by decide : 3 + 0 ≤ _), (by decide : 6 + 0 ≤ _)⟩)
      dsimp only [Pt.U, Pt.locs, Pt.cells, Pt.slots] at X1644 l1644 y1644 z1644 st1644 hQ1644
      rw [l1644, y1644, z1644] at X1644
      obtain ⟨rfl, Nq1644, e1644⟩ := hQ1644
      have N1644 := Fr.app N1640 Nq1644
      have pre1645 : ∀ t, Sp p e below m T1644 201 #[vi q0, vi q1, vi q2, vi q3, vi q4, vi ig, vi 1, vi rrv_1586, vi rrv_1587, vi rrv_1588, vi rrv_1589, vr rso_1620, vr raw_1638, vi act, vi 0, vi 0, .unset] [(.int (own_dg rrv_1586))] t → SG p e below G0 t := by
        intro t k
        refine pre1643 t ?_
        show Sp p e below m T1640 95 #[vi q0, vi q1, vi q2, vi q3, vi q4, vi ig, vi 1, vi rrv_1586, vi rrv_1587, vi rrv_1588, vi rrv_1589, vr rso_1620, vr raw_1638, vi act, vi 0, vi 0, .unset] [] _
        refine XS.iload X1640.here hx rfl (hb hby at_95) rfl ?_
        refine XS.iconst X1640.here hx rfl (hb hby at_97) ?_
        refine XS.icmpYes X1640.here hx rfl (pc0 := 98) (pc' := 127) rfl (hb hby at_98) rfl (flt (by decide : ¬ ((3 : Int32) < (1 : Int32)))).2.2.2 (by decide) (by decide) ?_
        refine XS.iload X1640.here hx rfl (hb hby at_127) rfl ?_
        refine XS.iconst X1640.here hx rfl (hb hby at_129) ?_
        refine XS.icmpYes X1640.here hx rfl (pc0 := 130) (pc' := 159) rfl (hb hby at_130) rfl (flt (by decide : ¬ ((2 : Int32) < (1 : Int32)))).2.2.2 (by decide) (by decide) ?_
        refine XS.iload X1640.here hx rfl (hb hby at_159) rfl ?_
        refine XS.iconst X1640.here hx rfl (hb hby at_161) ?_
        show Sp p e below m T1640 162 #[vi q0, vi q1, vi q2, vi q3, vi q4, vi ig, vi 1, vi rrv_1586, vi rrv_1587, vi rrv_1588, vi rrv_1589, vr rso_1620, vr raw_1638, vi act, vi 0, vi 0, .unset] [(.int 1), (.int 1)] _
        refine XS.icmpYes X1640.here hx rfl (pc0 := 162) (pc' := 191) rfl (hb hby at_162) rfl (flt (by decide : ¬ ((1 : Int32) < (1 : Int32)))).2.2.2 (by decide) (by decide) ?_
        refine XS.iload X1640.here hx rfl (hb hby at_191) rfl ?_
        refine XS.ifNo X1640.here hx rfl (hb hby at_193) rfl ((if0 _ _).trans (tlt (by decide : ((0 : Int32) < (1 : Int32)))).2.2.2) ?_
        refine XS.iload X1640.here hx rfl (hb hby at_196) rfl ?_
        refine st1644 _ ?_
        exact k
      by_cases hc201_1646 : (own_dg rrv_1586) = (0 : Int32)
      · have pre1647 : ∀ t, Sp p e below m T1644 222 #[vi q0, vi q1, vi q2, vi q3, vi q4, vi ig, vi 1, vi rrv_1586, vi rrv_1587, vi rrv_1588, vi rrv_1589, vr rso_1620, vr raw_1638, vi act, vi 0, vi 0, .unset] [] t → SG p e below G0 t := by
          intro t k
          refine pre1645 t ?_
          show Sp p e below m T1644 201 #[vi q0, vi q1, vi q2, vi q3, vi q4, vi ig, vi 1, vi rrv_1586, vi rrv_1587, vi rrv_1588, vi rrv_1589, vr rso_1620, vr raw_1638, vi act, vi 0, vi 0, .unset] [(.int (own_dg rrv_1586))] _
          refine XS.ifYes X1644.here hx rfl (pc0 := 201) (pc' := 222) rfl (hb hby at_201) rfl ((if0 _ _).trans (teq hc201_1646).1) (by decide) (by decide) ?_
          exact k
        exact ⟨T1644, _, (0 : Int32), (0 : Int32), X1644, e1644, N1644, (by exact ⟨by rw [own_ps, if_pos hc201_1646] <;> decide, by rw [own_tt, if_pos hc201_1646]⟩), pre1647⟩
      · obtain ⟨_, _, ⟨T1648, L1648, k1648, n1648⟩, -, X1648, ⟨Lc1648, hQ1648, l1648, y1648, z1648⟩, st1648⟩ := Jvm.LawKit.callS X1644 hx hown (mvT hZ (H 125 _ rfl)) (mvT hZ (H 126 _ rfl)) (mvT hZ (H 2 _ rfl)) (mvT hZ (H 127 _ rfl)) (by decide) (backOf (W := 1) (rm23 l Z a0 hw [] (0 : Int32) (rrv_1586 - (48 : Int32))  T1620.heap n0 Zs1620 ) hZ (H 127 _ rfl) (H 2 _ rfl) (by decide) (by decide)) (g := (mkF m 213 #[vi q0, vi q1, vi q2, vi q3, vi q4, vi ig, vi 1, vi rrv_1586, vi rrv_1587, vi rrv_1588, vi rrv_1589, vr rso_1620, vr raw_1638, vi act, vi 0, vi 0, .unset] [(.int (rrv_1586 - (48 : Int32))), (.int 0), (.int 0)])) rfl (by rw [hml]; rfl) (argsL := [(.int 0), (.int (rrv_1586 - (48 : Int32)))]) (rest := [(.int 0)]) (lenOf own_pd452 rfl) rfl (Nat.le_of_eq rfl) (hb hby at_213) (fun _ _ => ⟨rfl, e1644, (by decide : 3 + 0 ≤ _), (by decide : 6 + 0 ≤ _)⟩)
        dsimp only [Pt.U, Pt.locs, Pt.cells, Pt.slots] at X1648 l1648 y1648 z1648 st1648 hQ1648
        rw [l1648, y1648, z1648] at X1648
        obtain ⟨rfl, Nq1648, e1648⟩ := hQ1648
        have N1648 := Fr.app N1644 Nq1648
        have pre1649 : ∀ t, Sp p e below m T1648 222 #[vi q0, vi q1, vi q2, vi q3, vi q4, vi ig, vi 1, vi rrv_1586, vi rrv_1587, vi rrv_1588, vi rrv_1589, vr rso_1620, vr raw_1638, vi act, vi 1, vi ((0 : Int32) + (own_tL (0 : Int32) (rrv_1586 - (48 : Int32)))), .unset] [] t → SG p e below G0 t := by
          intro t k
          refine pre1645 t ?_
          show Sp p e below m T1644 201 #[vi q0, vi q1, vi q2, vi q3, vi q4, vi ig, vi 1, vi rrv_1586, vi rrv_1587, vi rrv_1588, vi rrv_1589, vr rso_1620, vr raw_1638, vi act, vi 0, vi 0, .unset] [(.int (own_dg rrv_1586))] _
          refine XS.ifNo X1644.here hx rfl (hb hby at_201) rfl ((if0 _ _).trans (feq hc201_1646).1) ?_
          refine XS.iload X1644.here hx rfl (hb hby at_204) rfl ?_
          refine XS.iload X1644.here hx rfl (hb hby at_206) rfl ?_
          refine XS.iload X1644.here hx rfl (hb hby at_208) rfl ?_
          refine XS.bipush X1644.here hx rfl (hb hby at_210) ?_
          refine XS.isub X1644.here hx rfl (hb hby at_212) rfl ?_
          refine st1648 _ ?_
          show Sp p e below m T1648 216 #[vi q0, vi q1, vi q2, vi q3, vi q4, vi ig, vi 1, vi rrv_1586, vi rrv_1587, vi rrv_1588, vi rrv_1589, vr rso_1620, vr raw_1638, vi act, vi 0, vi 0, .unset] [(.int (own_tL (0 : Int32) (rrv_1586 - (48 : Int32)))), (.int 0)] _
          refine XS.iadd X1648.here hx rfl (hb hby at_216) rfl ?_
          refine XS.istore X1648.here hx rfl (hb hby at_217) rfl (l' := #[vi q0, vi q1, vi q2, vi q3, vi q4, vi ig, vi 1, vi rrv_1586, vi rrv_1587, vi rrv_1588, vi rrv_1589, vr rso_1620, vr raw_1638, vi act, vi 0, vi ((0 : Int32) + (own_tL (0 : Int32) (rrv_1586 - (48 : Int32)))), .unset]) rfl ?_
          refine XS.iinc X1648.here hx rfl (hb hby at_219) rfl (l' := #[vi q0, vi q1, vi q2, vi q3, vi q4, vi ig, vi 1, vi rrv_1586, vi rrv_1587, vi rrv_1588, vi rrv_1589, vr rso_1620, vr raw_1638, vi act, vi 1, vi ((0 : Int32) + (own_tL (0 : Int32) (rrv_1586 - (48 : Int32)))), .unset]) rfl ?_
          exact k
        exact ⟨T1648, _, (1 : Int32), ((0 : Int32) + (own_tL (0 : Int32) (rrv_1586 - (48 : Int32)))), X1648, e1648, N1648, (by exact ⟨by rw [own_ps, if_neg hc201_1646] <;> decide, by rw [own_tt, if_neg hc201_1646]⟩), pre1649⟩
    obtain ⟨ex_, hv1671, pre1670⟩ : ∃ (ex_ : Int32), (ex_ = own_ex ig (1 : Int32) n_0 t_0) ∧ ∀ t, Sp p e below m Tm1650 253 #[vi q0, vi q1, vi q2, vi q3, vi q4, vi ig, vi 1, vi rrv_1586, vi rrv_1587, vi rrv_1588, vi rrv_1589, vr rso_1620, vr raw_1638, vi act, vi n_0, vi t_0, .unset] [(.int ex_)] t → SG p e below G0 t := by
      have pre1653 : ∀ t, Sp p e below m Tm1650 225 #[vi q0, vi q1, vi q2, vi q3, vi q4, vi ig, vi 1, vi rrv_1586, vi rrv_1587, vi rrv_1588, vi rrv_1589, vr rso_1620, vr raw_1638, vi act, vi n_0, vi t_0, .unset] [(.int 1), (.int n_0)] t → SG p e below G0 t := by
        intro t k
        refine pre1651 t ?_
        show Sp p e below m Tm1650 222 #[vi q0, vi q1, vi q2, vi q3, vi q4, vi ig, vi 1, vi rrv_1586, vi rrv_1587, vi rrv_1588, vi rrv_1589, vr rso_1620, vr raw_1638, vi act, vi n_0, vi t_0, .unset] [] _
        refine XS.iload Xm1650.here hx rfl (hb hby at_222) rfl ?_
        refine XS.iconst Xm1650.here hx rfl (hb hby at_224) ?_
        exact k
      by_cases hc225_1654 : n_0 < (1 : Int32)
      · have pre1655 : ∀ t, Sp p e below m Tm1650 253 #[vi q0, vi q1, vi q2, vi q3, vi q4, vi ig, vi 1, vi rrv_1586, vi rrv_1587, vi rrv_1588, vi rrv_1589, vr rso_1620, vr raw_1638, vi act, vi n_0, vi t_0, .unset] [(.int 0)] t → SG p e below G0 t := by
          intro t k
          refine pre1653 t ?_
          show Sp p e below m Tm1650 225 #[vi q0, vi q1, vi q2, vi q3, vi q4, vi ig, vi 1, vi rrv_1586, vi rrv_1587, vi rrv_1588, vi rrv_1589, vr rso_1620, vr raw_1638, vi act, vi n_0, vi t_0, .unset] [(.int 1), (.int n_0)] _
          refine XS.icmpYes Xm1650.here hx rfl (pc0 := 225) (pc' := 252) rfl (hb hby at_225) rfl (tlt hc225_1654).1 (by decide) (by decide) ?_
          refine XS.iconst Xm1650.here hx rfl (hb hby at_252) ?_
          exact k
        exact ⟨(0 : Int32), (by simp only [own_ex, if_pos hc225_1654]), pre1655⟩
      · have pre1656 : ∀ t, Sp p e below m Tm1650 230 #[vi q0, vi q1, vi q2, vi q3, vi q4, vi ig, vi 1, vi rrv_1586, vi rrv_1587, vi rrv_1588, vi rrv_1589, vr rso_1620, vr raw_1638, vi act, vi n_0, vi t_0, .unset] [(.int ig)] t → SG p e below G0 t := by
          intro t k
          refine pre1653 t ?_
          show Sp p e below m Tm1650 225 #[vi q0, vi q1, vi q2, vi q3, vi q4, vi ig, vi 1, vi rrv_1586, vi rrv_1587, vi rrv_1588, vi rrv_1589, vr rso_1620, vr raw_1638, vi act, vi n_0, vi t_0, .unset] [(.int 1), (.int n_0)] _
          refine XS.icmpNo Xm1650.here hx rfl (hb hby at_225) rfl (flt hc225_1654).1 ?_
          refine XS.iload Xm1650.here hx rfl (hb hby at_228) rfl ?_
          exact k
        by_cases hc230_1657 : ig = (0 : Int32)
        · have pre1658 : ∀ t, Sp p e below m Tm1650 237 #[vi q0, vi q1, vi q2, vi q3, vi q4, vi ig, vi 1, vi rrv_1586, vi rrv_1587, vi rrv_1588, vi rrv_1589, vr rso_1620, vr raw_1638, vi act, vi n_0, vi t_0, .unset] [(.int 1), (.int n_0)] t → SG p e below G0 t := by
            intro t k
            refine pre1656 t ?_
            show Sp p e below m Tm1650 230 #[vi q0, vi q1, vi q2, vi q3, vi q4, vi ig, vi 1, vi rrv_1586, vi rrv_1587, vi rrv_1588, vi rrv_1589, vr rso_1620, vr raw_1638, vi act, vi n_0, vi t_0, .unset] [(.int ig)] _
            refine XS.ifNo Xm1650.here hx rfl (hb hby at_230) rfl ((if0 _ _).trans (teq hc230_1657).2) ?_
            refine XS.iload Xm1650.here hx rfl (hb hby at_233) rfl ?_
            refine XS.iload Xm1650.here hx rfl (hb hby at_235) rfl ?_
            exact k
          by_cases hc237_1659 : n_0 = (1 : Int32)
          · have pre1660 : ∀ t, Sp p e below m Tm1650 245 #[vi q0, vi q1, vi q2, vi q3, vi q4, vi ig, vi 1, vi rrv_1586, vi rrv_1587, vi rrv_1588, vi rrv_1589, vr rso_1620, vr raw_1638, vi act, vi n_0, vi t_0, .unset] [(.int (t_0 % (10 : Int32)))] t → SG p e below G0 t := by
              intro t k
              refine pre1658 t ?_
              show Sp p e below m Tm1650 237 #[vi q0, vi q1, vi q2, vi q3, vi q4, vi ig, vi 1, vi rrv_1586, vi rrv_1587, vi rrv_1588, vi rrv_1589, vr rso_1620, vr raw_1638, vi act, vi n_0, vi t_0, .unset] [(.int 1), (.int n_0)] _
              refine XS.icmpNo Xm1650.here hx rfl (hb hby at_237) rfl (teq hc237_1659).2 ?_
              show Sp p e below m Tm1650 240 #[vi q0, vi q1, vi q2, vi q3, vi q4, vi ig, vi 1, vi rrv_1586, vi rrv_1587, vi rrv_1588, vi rrv_1589, vr rso_1620, vr raw_1638, vi act, vi n_0, vi t_0, .unset] [] _
              refine XS.iload Xm1650.here hx rfl (hb hby at_240) rfl ?_
              refine XS.bipush Xm1650.here hx rfl (hb hby at_242) ?_
              refine iremM Xm1650 hx rfl (hb hby at_244) rfl (by decide) ?_
              exact k
            by_cases hc245_1661 : (t_0 % (10 : Int32)) = (0 : Int32)
            · have pre1662 : ∀ t, Sp p e below m Tm1650 253 #[vi q0, vi q1, vi q2, vi q3, vi q4, vi ig, vi 1, vi rrv_1586, vi rrv_1587, vi rrv_1588, vi rrv_1589, vr rso_1620, vr raw_1638, vi act, vi n_0, vi t_0, .unset] [(.int 1)] t → SG p e below G0 t := by
                intro t k
                refine pre1660 t ?_
                show Sp p e below m Tm1650 245 #[vi q0, vi q1, vi q2, vi q3, vi q4, vi ig, vi 1, vi rrv_1586, vi rrv_1587, vi rrv_1588, vi rrv_1589, vr rso_1620, vr raw_1638, vi act, vi n_0, vi t_0, .unset] [(.int (t_0 % (10 : Int32)))] _
                refine XS.ifNo Xm1650.here hx rfl (hb hby at_245) rfl ((if0 _ _).trans (teq hc245_1661).2) ?_
                refine XS.iconst Xm1650.here hx rfl (hb hby at_248) ?_
                refine XS.goto Xm1650.here hx rfl (pc0 := 249) (pc' := 253) rfl (hb hby at_249) (by decide) (by decide) ?_
                exact k
              exact ⟨(1 : Int32), (by simp only [own_ex, if_neg hc225_1654, if_pos hc230_1657, if_pos hc237_1659, if_pos hc245_1661]), pre1662⟩
            · have pre1663 : ∀ t, Sp p e below m Tm1650 253 #[vi q0, vi q1, vi q2, vi q3, vi q4, vi ig, vi 1, vi rrv_1586, vi rrv_1587, vi rrv_1588, vi rrv_1589, vr rso_1620, vr raw_1638, vi act, vi n_0, vi t_0, .unset] [(.int 0)] t → SG p e below G0 t := by
                intro t k
                refine pre1660 t ?_
                show Sp p e below m Tm1650 245 #[vi q0, vi q1, vi q2, vi q3, vi q4, vi ig, vi 1, vi rrv_1586, vi rrv_1587, vi rrv_1588, vi rrv_1589, vr rso_1620, vr raw_1638, vi act, vi n_0, vi t_0, .unset] [(.int (t_0 % (10 : Int32)))] _
                refine XS.ifYes Xm1650.here hx rfl (pc0 := 245) (pc' := 252) rfl (hb hby at_245) rfl ((if0 _ _).trans (feq hc245_1661).2) (by decide) (by decide) ?_
                refine XS.iconst Xm1650.here hx rfl (hb hby at_252) ?_
                exact k
              exact ⟨(0 : Int32), (by simp only [own_ex, if_neg hc225_1654, if_pos hc230_1657, if_pos hc237_1659, if_neg hc245_1661]), pre1663⟩
          · have pre1664 : ∀ t, Sp p e below m Tm1650 253 #[vi q0, vi q1, vi q2, vi q3, vi q4, vi ig, vi 1, vi rrv_1586, vi rrv_1587, vi rrv_1588, vi rrv_1589, vr rso_1620, vr raw_1638, vi act, vi n_0, vi t_0, .unset] [(.int 0)] t → SG p e below G0 t := by
              intro t k
              refine pre1658 t ?_
              show Sp p e below m Tm1650 237 #[vi q0, vi q1, vi q2, vi q3, vi q4, vi ig, vi 1, vi rrv_1586, vi rrv_1587, vi rrv_1588, vi rrv_1589, vr rso_1620, vr raw_1638, vi act, vi n_0, vi t_0, .unset] [(.int 1), (.int n_0)] _
              refine XS.icmpYes Xm1650.here hx rfl (pc0 := 237) (pc' := 252) rfl (hb hby at_237) rfl (feq hc237_1659).2 (by decide) (by decide) ?_
              show Sp p e below m Tm1650 252 #[vi q0, vi q1, vi q2, vi q3, vi q4, vi ig, vi 1, vi rrv_1586, vi rrv_1587, vi rrv_1588, vi rrv_1589, vr rso_1620, vr raw_1638, vi act, vi n_0, vi t_0, .unset] [] _
              refine XS.iconst Xm1650.here hx rfl (hb hby at_252) ?_
              exact k
            exact ⟨(0 : Int32), (by simp only [own_ex, if_neg hc225_1654, if_pos hc230_1657, if_neg hc237_1659]), pre1664⟩
        · have pre1665 : ∀ t, Sp p e below m Tm1650 245 #[vi q0, vi q1, vi q2, vi q3, vi q4, vi ig, vi 1, vi rrv_1586, vi rrv_1587, vi rrv_1588, vi rrv_1589, vr rso_1620, vr raw_1638, vi act, vi n_0, vi t_0, .unset] [(.int (t_0 % (10 : Int32)))] t → SG p e below G0 t := by
            intro t k
            refine pre1656 t ?_
            show Sp p e below m Tm1650 230 #[vi q0, vi q1, vi q2, vi q3, vi q4, vi ig, vi 1, vi rrv_1586, vi rrv_1587, vi rrv_1588, vi rrv_1589, vr rso_1620, vr raw_1638, vi act, vi n_0, vi t_0, .unset] [(.int ig)] _
            refine XS.ifYes Xm1650.here hx rfl (pc0 := 230) (pc' := 240) rfl (hb hby at_230) rfl ((if0 _ _).trans (feq hc230_1657).2) (by decide) (by decide) ?_
            refine XS.iload Xm1650.here hx rfl (hb hby at_240) rfl ?_
            refine XS.bipush Xm1650.here hx rfl (hb hby at_242) ?_
            refine iremM Xm1650 hx rfl (hb hby at_244) rfl (by decide) ?_
            exact k
          by_cases hc245_1666 : (t_0 % (10 : Int32)) = (0 : Int32)
          · have pre1667 : ∀ t, Sp p e below m Tm1650 253 #[vi q0, vi q1, vi q2, vi q3, vi q4, vi ig, vi 1, vi rrv_1586, vi rrv_1587, vi rrv_1588, vi rrv_1589, vr rso_1620, vr raw_1638, vi act, vi n_0, vi t_0, .unset] [(.int 1)] t → SG p e below G0 t := by
              intro t k
              refine pre1665 t ?_
              show Sp p e below m Tm1650 245 #[vi q0, vi q1, vi q2, vi q3, vi q4, vi ig, vi 1, vi rrv_1586, vi rrv_1587, vi rrv_1588, vi rrv_1589, vr rso_1620, vr raw_1638, vi act, vi n_0, vi t_0, .unset] [(.int (t_0 % (10 : Int32)))] _
              refine XS.ifNo Xm1650.here hx rfl (hb hby at_245) rfl ((if0 _ _).trans (teq hc245_1666).2) ?_
              refine XS.iconst Xm1650.here hx rfl (hb hby at_248) ?_
              refine XS.goto Xm1650.here hx rfl (pc0 := 249) (pc' := 253) rfl (hb hby at_249) (by decide) (by decide) ?_
              exact k
            exact ⟨(1 : Int32), (by simp only [own_ex, if_neg hc225_1654, if_neg hc230_1657, if_pos hc245_1666]), pre1667⟩
          · have pre1668 : ∀ t, Sp p e below m Tm1650 253 #[vi q0, vi q1, vi q2, vi q3, vi q4, vi ig, vi 1, vi rrv_1586, vi rrv_1587, vi rrv_1588, vi rrv_1589, vr rso_1620, vr raw_1638, vi act, vi n_0, vi t_0, .unset] [(.int 0)] t → SG p e below G0 t := by
              intro t k
              refine pre1665 t ?_
              show Sp p e below m Tm1650 245 #[vi q0, vi q1, vi q2, vi q3, vi q4, vi ig, vi 1, vi rrv_1586, vi rrv_1587, vi rrv_1588, vi rrv_1589, vr rso_1620, vr raw_1638, vi act, vi n_0, vi t_0, .unset] [(.int (t_0 % (10 : Int32)))] _
              refine XS.ifYes Xm1650.here hx rfl (pc0 := 245) (pc' := 252) rfl (hb hby at_245) rfl ((if0 _ _).trans (feq hc245_1666).2) (by decide) (by decide) ?_
              refine XS.iconst Xm1650.here hx rfl (hb hby at_252) ?_
              exact k
            exact ⟨(0 : Int32), (by simp only [own_ex, if_neg hc225_1654, if_neg hc230_1657, if_neg hc245_1666]), pre1668⟩
    obtain ⟨fs, hr, hrun, hended, hW, hsame⟩ := Xm1650.leave (v := some (.int 1)) (fun h => by rw [Bd.returns] at h; cases h)
    refine ⟨_, _, pre1670 _ ?_, hrun, hended, _, _, rfl, ?_, ReturnedEndW.of_narrow ⟨_, rfl⟩ hW (hsame.mono (by decide) (by decide))⟩
    · show Sp p e below m Tm1650 253 #[vi q0, vi q1, vi q2, vi q3, vi q4, vi ig, vi 1, vi rrv_1586, vi rrv_1587, vi rrv_1588, vi rrv_1589, vr rso_1620, vr raw_1638, vi act, vi n_0, vi t_0, .unset] [(.int ex_)] _
      refine XS.istore Xm1650.here hx rfl (hb hby at_253) rfl (l' := #[vi q0, vi q1, vi q2, vi q3, vi q4, vi ig, vi 1, vi rrv_1586, vi rrv_1587, vi rrv_1588, vi rrv_1589, vr rso_1620, vr raw_1638, vi act, vi n_0, vi t_0, vi ex_]) rfl ?_
      refine XS.iload Xm1650.here hx rfl (hb hby at_255) rfl ?_
      refine XS.iload Xm1650.here hx rfl (hb hby at_257) rfl ?_
      refine XS.icmpNo Xm1650.here hx rfl (hb hby at_259) rfl (teq (by rw [he1642, hv1671, own_AC [rrv_1586] ig (1 : Int32) (Nat.le_of_ble_eq_true rfl) (by decide : (1 : Int32).toInt = ((1 : Nat) : Int))]; simp only [own_cn, own_to, ← hv1652.1, ← hv1652.2] : (act = ex_))).2 ?_
      refine XS.iconst Xm1650.here hx rfl (hb hby at_262) ?_
      refine XS.goto Xm1650.here hx rfl (pc0 := 263) (pc' := 267) rfl (hb hby at_263) (by decide) (by decide) ?_
      exact retN Xm1650 hx (t := .boolean) Bd.returns (by simp) (hb hby at_267) hr
    · show Q0 Z q0 q1 q2 q3 q4 cs vf aw0 aw1 al h0 n0 _ Tm1650.heap _
      rw [em1650]
      exact ⟨rfl, Nm1650⟩
  · rw [hq1593] at pre1590
    obtain ⟨_, _, ⟨T1672, L1672, k1672, n1672⟩, -, X1672, ⟨Lc1672, hQ1672, l1672, y1672, z1672⟩, st1672⟩ := Jvm.LawKit.callS X1589 hx hown (mvT hZ (H 4 _ rfl)) (mvT hZ (H 5 _ rfl)) (mvT hZ (H 2 _ rfl)) (mvT hZ (H 6 _ rfl)) (by decide) (backOf (W := 0) (rm2n2 l Z a0 hw [] rrv_1586 rrv_1587 rrv_1588 rrv_1589 cs vf h0 n0 Z0 O0 Scs hcs Ssf hvf Hc Hcw p1586_0 p1587_0 p1588_0 p1589_0) hZ (H 6 _ rfl) (H 2 _ rfl) (by decide) (by decide)) (g := (mkF m 58 #[vi q0, vi q1, vi q2, vi q3, vi q4, vi ig, vi 2, vi rrv_1586, vi rrv_1587, vi rrv_1588, vi rrv_1589, .unset, .unset, .unset, .unset, .unset, .unset] [(.int rrv_1589), (.int rrv_1588), (.int rrv_1587), (.int rrv_1586), (.int 2)])) rfl (by rw [hml]; rfl) (argsL := [(.int 2), (.int rrv_1586), (.int rrv_1587), (.int rrv_1588), (.int rrv_1589)]) (rest := []) (lenOf own_pd461 rfl) rfl (Nat.le_of_eq rfl) (hb hby at_58) (fun _ _ => ⟨rfl, e1589, (by decide : 0 + 3 ≤ _), (by decide : 0 + 8 ≤ _)⟩)
    dsimp only [Pt.U, Pt.locs, Pt.cells, Pt.slots] at X1672 l1672 y1672 z1672 st1672 hQ1672
    rw [l1672, y1672, z1672] at X1672
    obtain ⟨rso_1672, rrb_1672, rrk_1672, rfl, Nq1672, K1672, p1672_0, p1672_1, p1672_2, p1672_3⟩ := hQ1672
    have N1672 := Fr.app N1589 Nq1672
    have Zs1672 : n0 ≤ T1672.heap.size := Nat.le_trans Z0 K1672.1
    have KK1672 : Keep h0 T1672.heap [] := (Keep.refl h0 _).trans K1672 all0
    have O1672 := O0.keep K1672 (all0)
    have f1673 := Scs.ext O1672.2
    have f1674 := Ssf.ext O1672.2
    have f1675 := El.keep K1672
    have f1676 := Fm.keep K1672 nin0
    have f1677 := Sw0.ext O1672.2
    have f1678 := Eu.keep K1672
    have f1679 := Fu_end.keep K1672 nin0
    have f1680 := Fu_start.keep K1672 nin0
    have f1681 := Fu_checkAt.keep K1672 nin0
    have f1682 := Fu_ignoresOthers.keep K1672 nin0
    have f1683 := Sw1.ext O1672.2
    have f1684 := Ev.keep K1672
    have f1685 := Fv_end.keep K1672 nin0
    have f1686 := Fv_start.keep K1672 nin0
    have f1687 := Fv_checkAt.keep K1672 nin0
    have f1688 := Fv_ignoresOthers.keep K1672 nin0
    have f1689 := Sl.ext O1672.2
    obtain ⟨_, _, ⟨T1690, L1690, k1690, n1690⟩, -, X1690, ⟨Lc1690, hQ1690, l1690, y1690, z1690⟩, st1690⟩ := Jvm.LawKit.callS X1672 hx hown (mvT hZ (H 29 _ rfl)) (mvT hZ (H 30 _ rfl)) (mvT hZ (H 31 _ rfl)) (mvT hZ (H 32 _ rfl)) (by decide) (backOf (W := 0) (rm6 l Z a0 hw [] ig aw0 aw1 T1672.heap n0 Zs1672 O1672 Sw0 Sw1 hv1583 f1678 f1679 f1680 f1681 f1682 f1684 f1685 f1686 f1687 f1688) hZ (H 32 _ rfl) (H 31 _ rfl) (by decide) (by decide)) (g := (mkF m 65 #[vi q0, vi q1, vi q2, vi q3, vi q4, vi ig, vi 2, vi rrv_1586, vi rrv_1587, vi rrv_1588, vi rrv_1589, vr rso_1672, .unset, .unset, .unset, .unset, .unset] [(.int ig)])) rfl (by rw [hml]; rfl) (argsL := [(.int ig)]) (rest := []) (lenOf own_pd462 rfl) rfl (Nat.le_of_eq rfl) (hb hby at_65) (fun _ _ => ⟨rfl, rfl, (by decide : 3 + 0 ≤ _), (by decide : 8 + 0 ≤ _)⟩)
    dsimp only [Pt.U, Pt.locs, Pt.cells, Pt.slots] at X1690 l1690 y1690 z1690 st1690 hQ1690
    rw [l1690, y1690, z1690] at X1690
    obtain ⟨raw_1690, rfl, Nq1690, e1690, p1690_0, p1690_1, p1690_2, p1690_3, p1690_4⟩ := hQ1690
    have N1690 := Fr.app N1672 Nq1690
    obtain ⟨T1691, X1691, e1691, st1691⟩ := getS2 X1690 hx hZ hown (host := "") (Or.inl (H 35 _ rfl)) Via.refl e1690 f1689 (g := (mkF m 81 #[vi q0, vi q1, vi q2, vi q3, vi q4, vi ig, vi 2, vi rrv_1586, vi rrv_1587, vi rrv_1588, vi rrv_1589, vr rso_1672, vr raw_1690, .unset, .unset, .unset, .unset] [(.ref rso_1672), (.ref raw_1690)])) rfl (hb hby at_81)
    obtain ⟨cq1692, kq1692, q1692a, q1692b, q1692c⟩ := isOf hZ e1691 p1690_0
    obtain ⟨_, _, ⟨T1692, L1692, k1692, n1692⟩, -, X1692, ⟨Lc1692, hQ1692, l1692, y1692, z1692⟩, st1692⟩ := X1691.virtualBack hx hown (mvT hZ (H 38 _ rfl)) (mvT hZ (H 39 _ rfl)) (notFace_of_selects (args := #[]) (mvT hZ (H 41 _ rfl))) (mvT hZ (H 41 _ rfl)) (mvT hZ (H 40 _ rfl)) (by decide) (backOf (W := 0) (rm7n2 l Z a0 hw [] raw_1690 rso_1672 al cs vf rrb_1672 rrk_1672 ig rrv_1586 rrv_1587 T1672.heap n0 Zs1672 O1672 Scs hcs Ssf hvf p1690_0 p1690_1 p1690_2 p1690_3 p1690_4 f1675 f1676 p1672_0 p1672_1 p1672_2 p1672_3 p1586_0 p1587_0) hZ (H 42 _ rfl) (H 31 _ rfl) (by decide) (by decide)) q1692a q1692c (g := (mkF m 84 #[vi q0, vi q1, vi q2, vi q3, vi q4, vi ig, vi 2, vi rrv_1586, vi rrv_1587, vi rrv_1588, vi rrv_1589, vr rso_1672, vr raw_1690, .unset, .unset, .unset, .unset] [(.ref al), (.ref rso_1672), (.ref raw_1690)])) rfl (by rw [hml]; rfl) (Steps.refl _) (argsL := [(.ref rso_1672), (.ref al)]) (rest := []) (lenOf own_pd463 rfl) rfl (Nat.le_of_eq rfl) (hb hby at_84) (fun _ _ => ⟨rfl, e1691, (by decide : 3 + 0 ≤ _), (by decide : 8 + 0 ≤ _)⟩)
    dsimp only [Pt.U, Pt.locs, Pt.cells, Pt.slots] at X1692 l1692 y1692 z1692 st1692 hQ1692
    rw [l1692, y1692, z1692] at X1692
    obtain ⟨rfl, Nq1692, e1692⟩ := hQ1692
    have N1692 := Fr.app N1690 Nq1692
    have pre1693 : ∀ t, Steps p.tables e below (T1692.setTop (mkF m 87 #[vi q0, vi q1, vi q2, vi q3, vi q4, vi ig, vi 2, vi rrv_1586, vi rrv_1587, vi rrv_1588, vi rrv_1589, vr rso_1672, vr raw_1690, .unset, .unset, .unset, .unset] [(.int (own_ac ig [rrv_1587, rrv_1586]))])) t → SG p e below G0 t := by
      intro t k
      refine pre1590 t ?_
      show Sp p e below m T1589 48 #[vi q0, vi q1, vi q2, vi q3, vi q4, vi ig, vi 2, vi rrv_1586, vi rrv_1587, vi rrv_1588, vi rrv_1589, .unset, .unset, .unset, .unset, .unset, .unset] [] _
      refine XS.iload X1589.here hx rfl (hb hby at_48) rfl ?_
      refine XS.iload X1589.here hx rfl (hb hby at_50) rfl ?_
      refine XS.iload X1589.here hx rfl (hb hby at_52) rfl ?_
      refine XS.iload X1589.here hx rfl (hb hby at_54) rfl ?_
      refine XS.iload X1589.here hx rfl (hb hby at_56) rfl ?_
      refine st1672 _ ?_
      show Sp p e below m T1672 61 #[vi q0, vi q1, vi q2, vi q3, vi q4, vi ig, vi 2, vi rrv_1586, vi rrv_1587, vi rrv_1588, vi rrv_1589, .unset, .unset, .unset, .unset, .unset, .unset] [(.ref rso_1672)] _
      refine XS.astore X1672.here hx rfl (hb hby at_61) rfl rfl (l' := #[vi q0, vi q1, vi q2, vi q3, vi q4, vi ig, vi 2, vi rrv_1586, vi rrv_1587, vi rrv_1588, vi rrv_1589, vr rso_1672, .unset, .unset, .unset, .unset, .unset]) rfl ?_
      refine XS.iload X1672.here hx rfl (hb hby at_63) rfl ?_
      refine st1690 _ ?_
      show Sp p e below m T1690 68 #[vi q0, vi q1, vi q2, vi q3, vi q4, vi ig, vi 2, vi rrv_1586, vi rrv_1587, vi rrv_1588, vi rrv_1589, vr rso_1672, .unset, .unset, .unset, .unset, .unset] [(.ref raw_1690)] _
      refine XS.astore X1690.here hx rfl (hb hby at_68) rfl rfl (l' := #[vi q0, vi q1, vi q2, vi q3, vi q4, vi ig, vi 2, vi rrv_1586, vi rrv_1587, vi rrv_1588, vi rrv_1589, vr rso_1672, vr raw_1690, .unset, .unset, .unset, .unset]) rfl ?_
      refine XS.aload X1690.here hx rfl (hb hby at_70) rfl rfl ?_
      refine XS.ifnonnullYes X1690.here hx rfl (pc0 := 72) (pc' := 77) rfl (hb hby at_72) rfl (by decide) (by decide) ?_
      refine XS.aload X1690.here hx rfl (hb hby at_77) rfl rfl ?_
      refine XS.aload X1690.here hx rfl (hb hby at_79) rfl rfl ?_
      refine st1691 _ ?_
      show Sp p e below m T1691 84 #[vi q0, vi q1, vi q2, vi q3, vi q4, vi ig, vi 2, vi rrv_1586, vi rrv_1587, vi rrv_1588, vi rrv_1589, vr rso_1672, vr raw_1690, .unset, .unset, .unset, .unset] [(.ref al), (.ref rso_1672), (.ref raw_1690)] _
      refine st1692.trans ?_
      exact k
    obtain ⟨act, he1694⟩ : ∃ z : Int32, z = (own_ac ig [rrv_1587, rrv_1586]) := ⟨_, rfl⟩
    rw [← he1694] at pre1693
    have pre1695 : ∀ t, Sp p e below m T1692 95 #[vi q0, vi q1, vi q2, vi q3, vi q4, vi ig, vi 2, vi rrv_1586, vi rrv_1587, vi rrv_1588, vi rrv_1589, vr rso_1672, vr raw_1690, vi act, vi 0, vi 0, .unset] [] t → SG p e below G0 t := by
      intro t k
      refine pre1693 t ?_
      show Sp p e below m T1692 87 #[vi q0, vi q1, vi q2, vi q3, vi q4, vi ig, vi 2, vi rrv_1586, vi rrv_1587, vi rrv_1588, vi rrv_1589, vr rso_1672, vr raw_1690, .unset, .unset, .unset, .unset] [(.int act)] _
      refine XS.istore X1692.here hx rfl (hb hby at_87) rfl (l' := #[vi q0, vi q1, vi q2, vi q3, vi q4, vi ig, vi 2, vi rrv_1586, vi rrv_1587, vi rrv_1588, vi rrv_1589, vr rso_1672, vr raw_1690, vi act, .unset, .unset, .unset]) rfl ?_
      refine XS.iconst X1692.here hx rfl (hb hby at_89) ?_
      refine XS.istore X1692.here hx rfl (hb hby at_90) rfl (l' := #[vi q0, vi q1, vi q2, vi q3, vi q4, vi ig, vi 2, vi rrv_1586, vi rrv_1587, vi rrv_1588, vi rrv_1589, vr rso_1672, vr raw_1690, vi act, vi 0, .unset, .unset]) rfl ?_
      refine XS.iconst X1692.here hx rfl (hb hby at_92) ?_
      refine XS.istore X1692.here hx rfl (hb hby at_93) rfl (l' := #[vi q0, vi q1, vi q2, vi q3, vi q4, vi ig, vi 2, vi rrv_1586, vi rrv_1587, vi rrv_1588, vi rrv_1589, vr rso_1672, vr raw_1690, vi act, vi 0, vi 0, .unset]) rfl ?_
      exact k
    obtain ⟨Tm1702, lm1702, n_1, t_1, Xm1702, em1702, Nm1702, hv1704, pre1703⟩ : ∃ (Tm1702 : State) (lm1702 : List Loc) (n_1 : Int32) (t_1 : Int32), Stand p l e room_1 s m #[(.int q0), (.int q1), (.int q2), (.int q3), (.int q4)] below meth c Tm1702 lm1702 3 8 ∧ Tm1702.heap = T1672.heap ∧ Fr n0 lm1702 ∧ (n_1 = own_ps rrv_1587 (0 : Int32) ∧ t_1 = own_tt rrv_1587 (0 : Int32) (0 : Int32)) ∧ ∀ t, Sp p e below m Tm1702 191 #[vi q0, vi q1, vi q2, vi q3, vi q4, vi ig, vi 2, vi rrv_1586, vi rrv_1587, vi rrv_1588, vi rrv_1589, vr rso_1672, vr raw_1690, vi act, vi n_1, vi t_1, .unset] [] t → SG p e below G0 t := by
      obtain ⟨_, _, ⟨T1696, L1696, k1696, n1696⟩, -, X1696, ⟨Lc1696, hQ1696, l1696, y1696, z1696⟩, st1696⟩ := Jvm.LawKit.callS X1692 hx hown (mvT hZ (H 122 _ rfl)) (mvT hZ (H 123 _ rfl)) (mvT hZ (H 2 _ rfl)) (mvT hZ (H 124 _ rfl)) (by decide) (backOf (W := 0) (rm22 l Z a0 hw [] rrv_1587  T1672.heap n0 Zs1672 ) hZ (H 124 _ rfl) (H 2 _ rfl) (by decide) (by decide)) (g := (mkF m 167 #[vi q0, vi q1, vi q2, vi q3, vi q4, vi ig, vi 2, vi rrv_1586, vi rrv_1587, vi rrv_1588, vi rrv_1589, vr rso_1672, vr raw_1690, vi act, vi 0, vi 0, .unset] [(.int rrv_1587)])) rfl (by rw [hml]; rfl) (argsL := [(.int rrv_1587)]) (rest := []) (lenOf own_pd215 rfl) rfl (Nat.le_of_eq rfl) (hb hby at_167) (fun _ _ => ⟨rfl, e1692, (by decide : 3 + 0 ≤ _), (by decide : 8 + 0 ≤ _)⟩)
      dsimp only [Pt.U, Pt.locs, Pt.cells, Pt.slots] at X1696 l1696 y1696 z1696 st1696 hQ1696
      rw [l1696, y1696, z1696] at X1696
      obtain ⟨rfl, Nq1696, e1696⟩ := hQ1696
      have N1696 := Fr.app N1692 Nq1696
      have pre1697 : ∀ t, Sp p e below m T1696 170 #[vi q0, vi q1, vi q2, vi q3, vi q4, vi ig, vi 2, vi rrv_1586, vi rrv_1587, vi rrv_1588, vi rrv_1589, vr rso_1672, vr raw_1690, vi act, vi 0, vi 0, .unset] [(.int (own_dg rrv_1587))] t → SG p e below G0 t := by
        intro t k
        refine pre1695 t ?_
        show Sp p e below m T1692 95 #[vi q0, vi q1, vi q2, vi q3, vi q4, vi ig, vi 2, vi rrv_1586, vi rrv_1587, vi rrv_1588, vi rrv_1589, vr rso_1672, vr raw_1690, vi act, vi 0, vi 0, .unset] [] _
        refine XS.iload X1692.here hx rfl (hb hby at_95) rfl ?_
        refine XS.iconst X1692.here hx rfl (hb hby at_97) ?_
        refine XS.icmpYes X1692.here hx rfl (pc0 := 98) (pc' := 127) rfl (hb hby at_98) rfl (flt (by decide : ¬ ((3 : Int32) < (2 : Int32)))).2.2.2 (by decide) (by decide) ?_
        refine XS.iload X1692.here hx rfl (hb hby at_127) rfl ?_
        refine XS.iconst X1692.here hx rfl (hb hby at_129) ?_
        refine XS.icmpYes X1692.here hx rfl (pc0 := 130) (pc' := 159) rfl (hb hby at_130) rfl (flt (by decide : ¬ ((2 : Int32) < (2 : Int32)))).2.2.2 (by decide) (by decide) ?_
        refine XS.iload X1692.here hx rfl (hb hby at_159) rfl ?_
        refine XS.iconst X1692.here hx rfl (hb hby at_161) ?_
        show Sp p e below m T1692 162 #[vi q0, vi q1, vi q2, vi q3, vi q4, vi ig, vi 2, vi rrv_1586, vi rrv_1587, vi rrv_1588, vi rrv_1589, vr rso_1672, vr raw_1690, vi act, vi 0, vi 0, .unset] [(.int 1), (.int 2)] _
        refine XS.icmpNo X1692.here hx rfl (hb hby at_162) rfl (tlt (by decide : ((1 : Int32) < (2 : Int32)))).2.2.2 ?_
        refine XS.iload X1692.here hx rfl (hb hby at_165) rfl ?_
        refine st1696 _ ?_
        exact k
      by_cases hc170_1698 : (own_dg rrv_1587) = (0 : Int32)
      · have pre1699 : ∀ t, Sp p e below m T1696 191 #[vi q0, vi q1, vi q2, vi q3, vi q4, vi ig, vi 2, vi rrv_1586, vi rrv_1587, vi rrv_1588, vi rrv_1589, vr rso_1672, vr raw_1690, vi act, vi 0, vi 0, .unset] [] t → SG p e below G0 t := by
          intro t k
          refine pre1697 t ?_
          show Sp p e below m T1696 170 #[vi q0, vi q1, vi q2, vi q3, vi q4, vi ig, vi 2, vi rrv_1586, vi rrv_1587, vi rrv_1588, vi rrv_1589, vr rso_1672, vr raw_1690, vi act, vi 0, vi 0, .unset] [(.int (own_dg rrv_1587))] _
          refine XS.ifYes X1696.here hx rfl (pc0 := 170) (pc' := 191) rfl (hb hby at_170) rfl ((if0 _ _).trans (teq hc170_1698).1) (by decide) (by decide) ?_
          exact k
        exact ⟨T1696, _, (0 : Int32), (0 : Int32), X1696, e1696, N1696, (by exact ⟨by rw [own_ps, if_pos hc170_1698] <;> decide, by rw [own_tt, if_pos hc170_1698]⟩), pre1699⟩
      · obtain ⟨_, _, ⟨T1700, L1700, k1700, n1700⟩, -, X1700, ⟨Lc1700, hQ1700, l1700, y1700, z1700⟩, st1700⟩ := Jvm.LawKit.callS X1696 hx hown (mvT hZ (H 125 _ rfl)) (mvT hZ (H 126 _ rfl)) (mvT hZ (H 2 _ rfl)) (mvT hZ (H 127 _ rfl)) (by decide) (backOf (W := 1) (rm23 l Z a0 hw [] (0 : Int32) (rrv_1587 - (48 : Int32))  T1672.heap n0 Zs1672 ) hZ (H 127 _ rfl) (H 2 _ rfl) (by decide) (by decide)) (g := (mkF m 182 #[vi q0, vi q1, vi q2, vi q3, vi q4, vi ig, vi 2, vi rrv_1586, vi rrv_1587, vi rrv_1588, vi rrv_1589, vr rso_1672, vr raw_1690, vi act, vi 0, vi 0, .unset] [(.int (rrv_1587 - (48 : Int32))), (.int 0), (.int 0)])) rfl (by rw [hml]; rfl) (argsL := [(.int 0), (.int (rrv_1587 - (48 : Int32)))]) (rest := [(.int 0)]) (lenOf own_pd452 rfl) rfl (Nat.le_of_eq rfl) (hb hby at_182) (fun _ _ => ⟨rfl, e1696, (by decide : 3 + 0 ≤ _), (by decide : 8 + 0 ≤ _)⟩)
        dsimp only [Pt.U, Pt.locs, Pt.cells, Pt.slots] at X1700 l1700 y1700 z1700 st1700 hQ1700
        rw [l1700, y1700, z1700] at X1700
        obtain ⟨rfl, Nq1700, e1700⟩ := hQ1700
        have N1700 := Fr.app N1696 Nq1700
        have pre1701 : ∀ t, Sp p e below m T1700 191 #[vi q0, vi q1, vi q2, vi q3, vi q4, vi ig, vi 2, vi rrv_1586, vi rrv_1587, vi rrv_1588, vi rrv_1589, vr rso_1672, vr raw_1690, vi act, vi 1, vi ((0 : Int32) + (own_tL (0 : Int32) (rrv_1587 - (48 : Int32)))), .unset] [] t → SG p e below G0 t := by
          intro t k
          refine pre1697 t ?_
          show Sp p e below m T1696 170 #[vi q0, vi q1, vi q2, vi q3, vi q4, vi ig, vi 2, vi rrv_1586, vi rrv_1587, vi rrv_1588, vi rrv_1589, vr rso_1672, vr raw_1690, vi act, vi 0, vi 0, .unset] [(.int (own_dg rrv_1587))] _
          refine XS.ifNo X1696.here hx rfl (hb hby at_170) rfl ((if0 _ _).trans (feq hc170_1698).1) ?_
          refine XS.iload X1696.here hx rfl (hb hby at_173) rfl ?_
          refine XS.iload X1696.here hx rfl (hb hby at_175) rfl ?_
          refine XS.iload X1696.here hx rfl (hb hby at_177) rfl ?_
          refine XS.bipush X1696.here hx rfl (hb hby at_179) ?_
          refine XS.isub X1696.here hx rfl (hb hby at_181) rfl ?_
          refine st1700 _ ?_
          show Sp p e below m T1700 185 #[vi q0, vi q1, vi q2, vi q3, vi q4, vi ig, vi 2, vi rrv_1586, vi rrv_1587, vi rrv_1588, vi rrv_1589, vr rso_1672, vr raw_1690, vi act, vi 0, vi 0, .unset] [(.int (own_tL (0 : Int32) (rrv_1587 - (48 : Int32)))), (.int 0)] _
          refine XS.iadd X1700.here hx rfl (hb hby at_185) rfl ?_
          refine XS.istore X1700.here hx rfl (hb hby at_186) rfl (l' := #[vi q0, vi q1, vi q2, vi q3, vi q4, vi ig, vi 2, vi rrv_1586, vi rrv_1587, vi rrv_1588, vi rrv_1589, vr rso_1672, vr raw_1690, vi act, vi 0, vi ((0 : Int32) + (own_tL (0 : Int32) (rrv_1587 - (48 : Int32)))), .unset]) rfl ?_
          refine XS.iinc X1700.here hx rfl (hb hby at_188) rfl (l' := #[vi q0, vi q1, vi q2, vi q3, vi q4, vi ig, vi 2, vi rrv_1586, vi rrv_1587, vi rrv_1588, vi rrv_1589, vr rso_1672, vr raw_1690, vi act, vi 1, vi ((0 : Int32) + (own_tL (0 : Int32) (rrv_1587 - (48 : Int32)))), .unset]) rfl ?_
          exact k
        exact ⟨T1700, _, (1 : Int32), ((0 : Int32) + (own_tL (0 : Int32) (rrv_1587 - (48 : Int32)))), X1700, e1700, N1700, (by exact ⟨by rw [own_ps, if_neg hc170_1698] <;> decide, by rw [own_tt, if_neg hc170_1698]⟩), pre1701⟩
    obtain ⟨Tm1711, lm1711, n_0, t_0, Xm1711, em1711, Nm1711, hv1713, pre1712⟩ : ∃ (Tm1711 : State) (lm1711 : List Loc) (n_0 : Int32) (t_0 : Int32), Stand p l e room_1 s m #[(.int q0), (.int q1), (.int q2), (.int q3), (.int q4)] below meth c Tm1711 lm1711 3 8 ∧ Tm1711.heap = T1672.heap ∧ Fr n0 lm1711 ∧ (n_0 = own_ps rrv_1586 n_1 ∧ t_0 = own_tt rrv_1586 n_1 t_1) ∧ ∀ t, Sp p e below m Tm1711 222 #[vi q0, vi q1, vi q2, vi q3, vi q4, vi ig, vi 2, vi rrv_1586, vi rrv_1587, vi rrv_1588, vi rrv_1589, vr rso_1672, vr raw_1690, vi act, vi n_0, vi t_0, .unset] [] t → SG p e below G0 t := by
      obtain ⟨_, _, ⟨T1705, L1705, k1705, n1705⟩, -, X1705, ⟨Lc1705, hQ1705, l1705, y1705, z1705⟩, st1705⟩ := Jvm.LawKit.callS Xm1702 hx hown (mvT hZ (H 122 _ rfl)) (mvT hZ (H 123 _ rfl)) (mvT hZ (H 2 _ rfl)) (mvT hZ (H 124 _ rfl)) (by decide) (backOf (W := 0) (rm22 l Z a0 hw [] rrv_1586  T1672.heap n0 Zs1672 ) hZ (H 124 _ rfl) (H 2 _ rfl) (by decide) (by decide)) (g := (mkF m 198 #[vi q0, vi q1, vi q2, vi q3, vi q4, vi ig, vi 2, vi rrv_1586, vi rrv_1587, vi rrv_1588, vi rrv_1589, vr rso_1672, vr raw_1690, vi act, vi n_1, vi t_1, .unset] [(.int rrv_1586)])) rfl (by rw [hml]; rfl) (argsL := [(.int rrv_1586)]) (rest := []) (lenOf own_pd215 rfl) rfl (Nat.le_of_eq rfl) (hb hby at_198) (fun _ _ => ⟨rfl, em1702, (by decide : 3 + 0 ≤ _), (by decide : 8 + 0 ≤ _)⟩)
      dsimp only [Pt.U, Pt.locs, Pt.cells, Pt.slots] at X1705 l1705 y1705 z1705 st1705 hQ1705
      rw [l1705, y1705, z1705] at X1705
      obtain ⟨rfl, Nq1705, e1705⟩ := hQ1705
      have N1705 := Fr.app Nm1702 Nq1705
      have pre1706 : ∀ t, Sp p e below m T1705 201 #[vi q0, vi q1, vi q2, vi q3, vi q4, vi ig, vi 2, vi rrv_1586, vi rrv_1587, vi rrv_1588, vi rrv_1589, vr rso_1672, vr raw_1690, vi act, vi n_1, vi t_1, .unset] [(.int (own_dg rrv_1586))] t → SG p e below G0 t := by
        intro t k
        refine pre1703 t ?_
        show Sp p e below m Tm1702 191 #[vi q0, vi q1, vi q2, vi q3, vi q4, vi ig, vi 2, vi rrv_1586, vi rrv_1587, vi rrv_1588, vi rrv_1589, vr rso_1672, vr raw_1690, vi act, vi n_1, vi t_1, .unset] [] _
        refine XS.iload Xm1702.here hx rfl (hb hby at_191) rfl ?_
        refine XS.ifNo Xm1702.here hx rfl (hb hby at_193) rfl ((if0 _ _).trans (tlt (by decide : ((0 : Int32) < (2 : Int32)))).2.2.2) ?_
        refine XS.iload Xm1702.here hx rfl (hb hby at_196) rfl ?_
        refine st1705 _ ?_
        exact k
      by_cases hc201_1707 : (own_dg rrv_1586) = (0 : Int32)
      · have pre1708 : ∀ t, Sp p e below m T1705 222 #[vi q0, vi q1, vi q2, vi q3, vi q4, vi ig, vi 2, vi rrv_1586, vi rrv_1587, vi rrv_1588, vi rrv_1589, vr rso_1672, vr raw_1690, vi act, vi n_1, vi t_1, .unset] [] t → SG p e below G0 t := by
          intro t k
          refine pre1706 t ?_
          show Sp p e below m T1705 201 #[vi q0, vi q1, vi q2, vi q3, vi q4, vi ig, vi 2, vi rrv_1586, vi rrv_1587, vi rrv_1588, vi rrv_1589, vr rso_1672, vr raw_1690, vi act, vi n_1, vi t_1, .unset] [(.int (own_dg rrv_1586))] _
          refine XS.ifYes X1705.here hx rfl (pc0 := 201) (pc' := 222) rfl (hb hby at_201) rfl ((if0 _ _).trans (teq hc201_1707).1) (by decide) (by decide) ?_
          exact k
        exact ⟨T1705, _, n_1, t_1, X1705, e1705, N1705, (by exact ⟨by rw [own_ps, if_pos hc201_1707] <;> decide, by rw [own_tt, if_pos hc201_1707]⟩), pre1708⟩
      · obtain ⟨_, _, ⟨T1709, L1709, k1709, n1709⟩, -, X1709, ⟨Lc1709, hQ1709, l1709, y1709, z1709⟩, st1709⟩ := Jvm.LawKit.callS X1705 hx hown (mvT hZ (H 125 _ rfl)) (mvT hZ (H 126 _ rfl)) (mvT hZ (H 2 _ rfl)) (mvT hZ (H 127 _ rfl)) (by decide) (backOf (W := 1) (rm23 l Z a0 hw [] n_1 (rrv_1586 - (48 : Int32))  T1672.heap n0 Zs1672 ) hZ (H 127 _ rfl) (H 2 _ rfl) (by decide) (by decide)) (g := (mkF m 213 #[vi q0, vi q1, vi q2, vi q3, vi q4, vi ig, vi 2, vi rrv_1586, vi rrv_1587, vi rrv_1588, vi rrv_1589, vr rso_1672, vr raw_1690, vi act, vi n_1, vi t_1, .unset] [(.int (rrv_1586 - (48 : Int32))), (.int n_1), (.int t_1)])) rfl (by rw [hml]; rfl) (argsL := [(.int n_1), (.int (rrv_1586 - (48 : Int32)))]) (rest := [(.int t_1)]) (lenOf own_pd452 rfl) rfl (Nat.le_of_eq rfl) (hb hby at_213) (fun _ _ => ⟨rfl, e1705, (by decide : 3 + 0 ≤ _), (by decide : 8 + 0 ≤ _)⟩)
        dsimp only [Pt.U, Pt.locs, Pt.cells, Pt.slots] at X1709 l1709 y1709 z1709 st1709 hQ1709
        rw [l1709, y1709, z1709] at X1709
        obtain ⟨rfl, Nq1709, e1709⟩ := hQ1709
        have N1709 := Fr.app N1705 Nq1709
        have pre1710 : ∀ t, Sp p e below m T1709 222 #[vi q0, vi q1, vi q2, vi q3, vi q4, vi ig, vi 2, vi rrv_1586, vi rrv_1587, vi rrv_1588, vi rrv_1589, vr rso_1672, vr raw_1690, vi act, vi (n_1 + (1 : Int32)), vi (t_1 + (own_tL n_1 (rrv_1586 - (48 : Int32)))), .unset] [] t → SG p e below G0 t := by
          intro t k
          refine pre1706 t ?_
          show Sp p e below m T1705 201 #[vi q0, vi q1, vi q2, vi q3, vi q4, vi ig, vi 2, vi rrv_1586, vi rrv_1587, vi rrv_1588, vi rrv_1589, vr rso_1672, vr raw_1690, vi act, vi n_1, vi t_1, .unset] [(.int (own_dg rrv_1586))] _
          refine XS.ifNo X1705.here hx rfl (hb hby at_201) rfl ((if0 _ _).trans (feq hc201_1707).1) ?_
          refine XS.iload X1705.here hx rfl (hb hby at_204) rfl ?_
          refine XS.iload X1705.here hx rfl (hb hby at_206) rfl ?_
          refine XS.iload X1705.here hx rfl (hb hby at_208) rfl ?_
          refine XS.bipush X1705.here hx rfl (hb hby at_210) ?_
          refine XS.isub X1705.here hx rfl (hb hby at_212) rfl ?_
          refine st1709 _ ?_
          show Sp p e below m T1709 216 #[vi q0, vi q1, vi q2, vi q3, vi q4, vi ig, vi 2, vi rrv_1586, vi rrv_1587, vi rrv_1588, vi rrv_1589, vr rso_1672, vr raw_1690, vi act, vi n_1, vi t_1, .unset] [(.int (own_tL n_1 (rrv_1586 - (48 : Int32)))), (.int t_1)] _
          refine XS.iadd X1709.here hx rfl (hb hby at_216) rfl ?_
          refine XS.istore X1709.here hx rfl (hb hby at_217) rfl (l' := #[vi q0, vi q1, vi q2, vi q3, vi q4, vi ig, vi 2, vi rrv_1586, vi rrv_1587, vi rrv_1588, vi rrv_1589, vr rso_1672, vr raw_1690, vi act, vi n_1, vi (t_1 + (own_tL n_1 (rrv_1586 - (48 : Int32)))), .unset]) rfl ?_
          refine XS.iinc X1709.here hx rfl (hb hby at_219) rfl (l' := #[vi q0, vi q1, vi q2, vi q3, vi q4, vi ig, vi 2, vi rrv_1586, vi rrv_1587, vi rrv_1588, vi rrv_1589, vr rso_1672, vr raw_1690, vi act, vi (n_1 + (1 : Int32)), vi (t_1 + (own_tL n_1 (rrv_1586 - (48 : Int32)))), .unset]) rfl ?_
          exact k
        exact ⟨T1709, _, (n_1 + (1 : Int32)), (t_1 + (own_tL n_1 (rrv_1586 - (48 : Int32)))), X1709, e1709, N1709, (by exact ⟨by rw [own_ps, if_neg hc201_1707] <;> decide, by rw [own_tt, if_neg hc201_1707]⟩), pre1710⟩
    obtain ⟨ex_, hv1732, pre1731⟩ : ∃ (ex_ : Int32), (ex_ = own_ex ig (2 : Int32) n_0 t_0) ∧ ∀ t, Sp p e below m Tm1711 253 #[vi q0, vi q1, vi q2, vi q3, vi q4, vi ig, vi 2, vi rrv_1586, vi rrv_1587, vi rrv_1588, vi rrv_1589, vr rso_1672, vr raw_1690, vi act, vi n_0, vi t_0, .unset] [(.int ex_)] t → SG p e below G0 t := by
      have pre1714 : ∀ t, Sp p e below m Tm1711 225 #[vi q0, vi q1, vi q2, vi q3, vi q4, vi ig, vi 2, vi rrv_1586, vi rrv_1587, vi rrv_1588, vi rrv_1589, vr rso_1672, vr raw_1690, vi act, vi n_0, vi t_0, .unset] [(.int 1), (.int n_0)] t → SG p e below G0 t := by
        intro t k
        refine pre1712 t ?_
        show Sp p e below m Tm1711 222 #[vi q0, vi q1, vi q2, vi q3, vi q4, vi ig, vi 2, vi rrv_1586, vi rrv_1587, vi rrv_1588, vi rrv_1589, vr rso_1672, vr raw_1690, vi act, vi n_0, vi t_0, .unset] [] _
        refine XS.iload Xm1711.here hx rfl (hb hby at_222) rfl ?_
        refine XS.iconst Xm1711.here hx rfl (hb hby at_224) ?_
        exact k
      by_cases hc225_1715 : n_0 < (1 : Int32)
      · have pre1716 : ∀ t, Sp p e below m Tm1711 253 #[vi q0, vi q1, vi q2, vi q3, vi q4, vi ig, vi 2, vi rrv_1586, vi rrv_1587, vi rrv_1588, vi rrv_1589, vr rso_1672, vr raw_1690, vi act, vi n_0, vi t_0, .unset] [(.int 0)] t → SG p e below G0 t := by
          intro t k
          refine pre1714 t ?_
          show Sp p e below m Tm1711 225 #[vi q0, vi q1, vi q2, vi q3, vi q4, vi ig, vi 2, vi rrv_1586, vi rrv_1587, vi rrv_1588, vi rrv_1589, vr rso_1672, vr raw_1690, vi act, vi n_0, vi t_0, .unset] [(.int 1), (.int n_0)] _
          refine XS.icmpYes Xm1711.here hx rfl (pc0 := 225) (pc' := 252) rfl (hb hby at_225) rfl (tlt hc225_1715).1 (by decide) (by decide) ?_
          refine XS.iconst Xm1711.here hx rfl (hb hby at_252) ?_
          exact k
        exact ⟨(0 : Int32), (by simp only [own_ex, if_pos hc225_1715]), pre1716⟩
      · have pre1717 : ∀ t, Sp p e below m Tm1711 230 #[vi q0, vi q1, vi q2, vi q3, vi q4, vi ig, vi 2, vi rrv_1586, vi rrv_1587, vi rrv_1588, vi rrv_1589, vr rso_1672, vr raw_1690, vi act, vi n_0, vi t_0, .unset] [(.int ig)] t → SG p e below G0 t := by
          intro t k
          refine pre1714 t ?_
          show Sp p e below m Tm1711 225 #[vi q0, vi q1, vi q2, vi q3, vi q4, vi ig, vi 2, vi rrv_1586, vi rrv_1587, vi rrv_1588, vi rrv_1589, vr rso_1672, vr raw_1690, vi act, vi n_0, vi t_0, .unset] [(.int 1), (.int n_0)] _
          refine XS.icmpNo Xm1711.here hx rfl (hb hby at_225) rfl (flt hc225_1715).1 ?_
          refine XS.iload Xm1711.here hx rfl (hb hby at_228) rfl ?_
          exact k
        by_cases hc230_1718 : ig = (0 : Int32)
        · have pre1719 : ∀ t, Sp p e below m Tm1711 237 #[vi q0, vi q1, vi q2, vi q3, vi q4, vi ig, vi 2, vi rrv_1586, vi rrv_1587, vi rrv_1588, vi rrv_1589, vr rso_1672, vr raw_1690, vi act, vi n_0, vi t_0, .unset] [(.int 2), (.int n_0)] t → SG p e below G0 t := by
            intro t k
            refine pre1717 t ?_
            show Sp p e below m Tm1711 230 #[vi q0, vi q1, vi q2, vi q3, vi q4, vi ig, vi 2, vi rrv_1586, vi rrv_1587, vi rrv_1588, vi rrv_1589, vr rso_1672, vr raw_1690, vi act, vi n_0, vi t_0, .unset] [(.int ig)] _
            refine XS.ifNo Xm1711.here hx rfl (hb hby at_230) rfl ((if0 _ _).trans (teq hc230_1718).2) ?_
            refine XS.iload Xm1711.here hx rfl (hb hby at_233) rfl ?_
            refine XS.iload Xm1711.here hx rfl (hb hby at_235) rfl ?_
            exact k
          by_cases hc237_1720 : n_0 = (2 : Int32)
          · have pre1721 : ∀ t, Sp p e below m Tm1711 245 #[vi q0, vi q1, vi q2, vi q3, vi q4, vi ig, vi 2, vi rrv_1586, vi rrv_1587, vi rrv_1588, vi rrv_1589, vr rso_1672, vr raw_1690, vi act, vi n_0, vi t_0, .unset] [(.int (t_0 % (10 : Int32)))] t → SG p e below G0 t := by
              intro t k
              refine pre1719 t ?_
              show Sp p e below m Tm1711 237 #[vi q0, vi q1, vi q2, vi q3, vi q4, vi ig, vi 2, vi rrv_1586, vi rrv_1587, vi rrv_1588, vi rrv_1589, vr rso_1672, vr raw_1690, vi act, vi n_0, vi t_0, .unset] [(.int 2), (.int n_0)] _
              refine XS.icmpNo Xm1711.here hx rfl (hb hby at_237) rfl (teq hc237_1720).2 ?_
              show Sp p e below m Tm1711 240 #[vi q0, vi q1, vi q2, vi q3, vi q4, vi ig, vi 2, vi rrv_1586, vi rrv_1587, vi rrv_1588, vi rrv_1589, vr rso_1672, vr raw_1690, vi act, vi n_0, vi t_0, .unset] [] _
              refine XS.iload Xm1711.here hx rfl (hb hby at_240) rfl ?_
              refine XS.bipush Xm1711.here hx rfl (hb hby at_242) ?_
              refine iremM Xm1711 hx rfl (hb hby at_244) rfl (by decide) ?_
              exact k
            by_cases hc245_1722 : (t_0 % (10 : Int32)) = (0 : Int32)
            · have pre1723 : ∀ t, Sp p e below m Tm1711 253 #[vi q0, vi q1, vi q2, vi q3, vi q4, vi ig, vi 2, vi rrv_1586, vi rrv_1587, vi rrv_1588, vi rrv_1589, vr rso_1672, vr raw_1690, vi act, vi n_0, vi t_0, .unset] [(.int 1)] t → SG p e below G0 t := by
                intro t k
                refine pre1721 t ?_
                show Sp p e below m Tm1711 245 #[vi q0, vi q1, vi q2, vi q3, vi q4, vi ig, vi 2, vi rrv_1586, vi rrv_1587, vi rrv_1588, vi rrv_1589, vr rso_1672, vr raw_1690, vi act, vi n_0, vi t_0, .unset] [(.int (t_0 % (10 : Int32)))] _
                refine XS.ifNo Xm1711.here hx rfl (hb hby at_245) rfl ((if0 _ _).trans (teq hc245_1722).2) ?_
                refine XS.iconst Xm1711.here hx rfl (hb hby at_248) ?_
                refine XS.goto Xm1711.here hx rfl (pc0 := 249) (pc' := 253) rfl (hb hby at_249) (by decide) (by decide) ?_
                exact k
              exact ⟨(1 : Int32), (by simp only [own_ex, if_neg hc225_1715, if_pos hc230_1718, if_pos hc237_1720, if_pos hc245_1722]), pre1723⟩
            · have pre1724 : ∀ t, Sp p e below m Tm1711 253 #[vi q0, vi q1, vi q2, vi q3, vi q4, vi ig, vi 2, vi rrv_1586, vi rrv_1587, vi rrv_1588, vi rrv_1589, vr rso_1672, vr raw_1690, vi act, vi n_0, vi t_0, .unset] [(.int 0)] t → SG p e below G0 t := by
                intro t k
                refine pre1721 t ?_
                show Sp p e below m Tm1711 245 #[vi q0, vi q1, vi q2, vi q3, vi q4, vi ig, vi 2, vi rrv_1586, vi rrv_1587, vi rrv_1588, vi rrv_1589, vr rso_1672, vr raw_1690, vi act, vi n_0, vi t_0, .unset] [(.int (t_0 % (10 : Int32)))] _
                refine XS.ifYes Xm1711.here hx rfl (pc0 := 245) (pc' := 252) rfl (hb hby at_245) rfl ((if0 _ _).trans (feq hc245_1722).2) (by decide) (by decide) ?_
                refine XS.iconst Xm1711.here hx rfl (hb hby at_252) ?_
                exact k
              exact ⟨(0 : Int32), (by simp only [own_ex, if_neg hc225_1715, if_pos hc230_1718, if_pos hc237_1720, if_neg hc245_1722]), pre1724⟩
          · have pre1725 : ∀ t, Sp p e below m Tm1711 253 #[vi q0, vi q1, vi q2, vi q3, vi q4, vi ig, vi 2, vi rrv_1586, vi rrv_1587, vi rrv_1588, vi rrv_1589, vr rso_1672, vr raw_1690, vi act, vi n_0, vi t_0, .unset] [(.int 0)] t → SG p e below G0 t := by
              intro t k
              refine pre1719 t ?_
              show Sp p e below m Tm1711 237 #[vi q0, vi q1, vi q2, vi q3, vi q4, vi ig, vi 2, vi rrv_1586, vi rrv_1587, vi rrv_1588, vi rrv_1589, vr rso_1672, vr raw_1690, vi act, vi n_0, vi t_0, .unset] [(.int 2), (.int n_0)] _
              refine XS.icmpYes Xm1711.here hx rfl (pc0 := 237) (pc' := 252) rfl (hb hby at_237) rfl (feq hc237_1720).2 (by decide) (by decide) ?_
              show Sp p e below m Tm1711 252 #[vi q0, vi q1, vi q2, vi q3, vi q4, vi ig, vi 2, vi rrv_1586, vi rrv_1587, vi rrv_1588, vi rrv_1589, vr rso_1672, vr raw_1690, vi act, vi n_0, vi t_0, .unset] [] _
              refine XS.iconst Xm1711.here hx rfl (hb hby at_252) ?_
              exact k
            exact ⟨(0 : Int32), (by simp only [own_ex, if_neg hc225_1715, if_pos hc230_1718, if_neg hc237_1720]), pre1725⟩
        · have pre1726 : ∀ t, Sp p e below m Tm1711 245 #[vi q0, vi q1, vi q2, vi q3, vi q4, vi ig, vi 2, vi rrv_1586, vi rrv_1587, vi rrv_1588, vi rrv_1589, vr rso_1672, vr raw_1690, vi act, vi n_0, vi t_0, .unset] [(.int (t_0 % (10 : Int32)))] t → SG p e below G0 t := by
            intro t k
            refine pre1717 t ?_
            show Sp p e below m Tm1711 230 #[vi q0, vi q1, vi q2, vi q3, vi q4, vi ig, vi 2, vi rrv_1586, vi rrv_1587, vi rrv_1588, vi rrv_1589, vr rso_1672, vr raw_1690, vi act, vi n_0, vi t_0, .unset] [(.int ig)] _
            refine XS.ifYes Xm1711.here hx rfl (pc0 := 230) (pc' := 240) rfl (hb hby at_230) rfl ((if0 _ _).trans (feq hc230_1718).2) (by decide) (by decide) ?_
            refine XS.iload Xm1711.here hx rfl (hb hby at_240) rfl ?_
            refine XS.bipush Xm1711.here hx rfl (hb hby at_242) ?_
            refine iremM Xm1711 hx rfl (hb hby at_244) rfl (by decide) ?_
            exact k
          by_cases hc245_1727 : (t_0 % (10 : Int32)) = (0 : Int32)
          · have pre1728 : ∀ t, Sp p e below m Tm1711 253 #[vi q0, vi q1, vi q2, vi q3, vi q4, vi ig, vi 2, vi rrv_1586, vi rrv_1587, vi rrv_1588, vi rrv_1589, vr rso_1672, vr raw_1690, vi act, vi n_0, vi t_0, .unset] [(.int 1)] t → SG p e below G0 t := by
              intro t k
              refine pre1726 t ?_
              show Sp p e below m Tm1711 245 #[vi q0, vi q1, vi q2, vi q3, vi q4, vi ig, vi 2, vi rrv_1586, vi rrv_1587, vi rrv_1588, vi rrv_1589, vr rso_1672, vr raw_1690, vi act, vi n_0, vi t_0, .unset] [(.int (t_0 % (10 : Int32)))] _
              refine XS.ifNo Xm1711.here hx rfl (hb hby at_245) rfl ((if0 _ _).trans (teq hc245_1727).2) ?_
              refine XS.iconst Xm1711.here hx rfl (hb hby at_248) ?_
              refine XS.goto Xm1711.here hx rfl (pc0 := 249) (pc' := 253) rfl (hb hby at_249) (by decide) (by decide) ?_
              exact k
            exact ⟨(1 : Int32), (by simp only [own_ex, if_neg hc225_1715, if_neg hc230_1718, if_pos hc245_1727]), pre1728⟩
          · have pre1729 : ∀ t, Sp p e below m Tm1711 253 #[vi q0, vi q1, vi q2, vi q3, vi q4, vi ig, vi 2, vi rrv_1586, vi rrv_1587, vi rrv_1588, vi rrv_1589, vr rso_1672, vr raw_1690, vi act, vi n_0, vi t_0, .unset] [(.int 0)] t → SG p e below G0 t := by
              intro t k
              refine pre1726 t ?_
              show Sp p e below m Tm1711 245 #[vi q0, vi q1, vi q2, vi q3, vi q4, vi ig, vi 2, vi rrv_1586, vi rrv_1587, vi rrv_1588, vi rrv_1589, vr rso_1672, vr raw_1690, vi act, vi n_0, vi t_0, .unset] [(.int (t_0 % (10 : Int32)))] _
              refine XS.ifYes Xm1711.here hx rfl (pc0 := 245) (pc' := 252) rfl (hb hby at_245) rfl ((if0 _ _).trans (feq hc245_1727).2) (by decide) (by decide) ?_
              refine XS.iconst Xm1711.here hx rfl (hb hby at_252) ?_
              exact k
            exact ⟨(0 : Int32), (by simp only [own_ex, if_neg hc225_1715, if_neg hc230_1718, if_neg hc245_1727]), pre1729⟩
    obtain ⟨fs, hr, hrun, hended, hW, hsame⟩ := Xm1711.leave (v := some (.int 1)) (fun h => by rw [Bd.returns] at h; cases h)
    refine ⟨_, _, pre1731 _ ?_, hrun, hended, _, _, rfl, ?_, ReturnedEndW.of_narrow ⟨_, rfl⟩ hW (hsame.mono (by decide) (by decide))⟩
    · show Sp p e below m Tm1711 253 #[vi q0, vi q1, vi q2, vi q3, vi q4, vi ig, vi 2, vi rrv_1586, vi rrv_1587, vi rrv_1588, vi rrv_1589, vr rso_1672, vr raw_1690, vi act, vi n_0, vi t_0, .unset] [(.int ex_)] _
      refine XS.istore Xm1711.here hx rfl (hb hby at_253) rfl (l' := #[vi q0, vi q1, vi q2, vi q3, vi q4, vi ig, vi 2, vi rrv_1586, vi rrv_1587, vi rrv_1588, vi rrv_1589, vr rso_1672, vr raw_1690, vi act, vi n_0, vi t_0, vi ex_]) rfl ?_
      refine XS.iload Xm1711.here hx rfl (hb hby at_255) rfl ?_
      refine XS.iload Xm1711.here hx rfl (hb hby at_257) rfl ?_
      refine XS.icmpNo Xm1711.here hx rfl (hb hby at_259) rfl (teq (by rw [he1694, hv1732, own_AC [rrv_1587, rrv_1586] ig (2 : Int32) (Nat.le_of_ble_eq_true rfl) (by decide : (2 : Int32).toInt = ((2 : Nat) : Int))]; simp only [own_cn, own_to, ← hv1704.1, ← hv1704.2, ← hv1713.1, ← hv1713.2] : (act = ex_))).2 ?_
      refine XS.iconst Xm1711.here hx rfl (hb hby at_262) ?_
      refine XS.goto Xm1711.here hx rfl (pc0 := 263) (pc' := 267) rfl (hb hby at_263) (by decide) (by decide) ?_
      exact retN Xm1711 hx (t := .boolean) Bd.returns (by simp) (hb hby at_267) hr
    · show Q0 Z q0 q1 q2 q3 q4 cs vf aw0 aw1 al h0 n0 _ Tm1711.heap _
      rw [em1711]
      exact ⟨rfl, Nm1711⟩
  · rw [hq1594] at pre1590
    obtain ⟨_, _, ⟨T1733, L1733, k1733, n1733⟩, -, X1733, ⟨Lc1733, hQ1733, l1733, y1733, z1733⟩, st1733⟩ := Jvm.LawKit.callS X1589 hx hown (mvT hZ (H 4 _ rfl)) (mvT hZ (H 5 _ rfl)) (mvT hZ (H 2 _ rfl)) (mvT hZ (H 6 _ rfl)) (by decide) (backOf (W := 0) (rm2n3 l Z a0 hw [] rrv_1586 rrv_1587 rrv_1588 rrv_1589 cs vf h0 n0 Z0 O0 Scs hcs Ssf hvf Hc Hcw p1586_0 p1587_0 p1588_0 p1589_0) hZ (H 6 _ rfl) (H 2 _ rfl) (by decide) (by decide)) (g := (mkF m 58 #[vi q0, vi q1, vi q2, vi q3, vi q4, vi ig, vi 3, vi rrv_1586, vi rrv_1587, vi rrv_1588, vi rrv_1589, .unset, .unset, .unset, .unset, .unset, .unset] [(.int rrv_1589), (.int rrv_1588), (.int rrv_1587), (.int rrv_1586), (.int 3)])) rfl (by rw [hml]; rfl) (argsL := [(.int 3), (.int rrv_1586), (.int rrv_1587), (.int rrv_1588), (.int rrv_1589)]) (rest := []) (lenOf own_pd461 rfl) rfl (Nat.le_of_eq rfl) (hb hby at_58) (fun _ _ => ⟨rfl, e1589, (by decide : 0 + 3 ≤ _), (by decide : 0 + 10 ≤ _)⟩)
    dsimp only [Pt.U, Pt.locs, Pt.cells, Pt.slots] at X1733 l1733 y1733 z1733 st1733 hQ1733
    rw [l1733, y1733, z1733] at X1733
    obtain ⟨rso_1733, rrb_1733, rrk_1733, rfl, Nq1733, K1733, p1733_0, p1733_1, p1733_2, p1733_3⟩ := hQ1733
    have N1733 := Fr.app N1589 Nq1733
    have Zs1733 : n0 ≤ T1733.heap.size := Nat.le_trans Z0 K1733.1
    have KK1733 : Keep h0 T1733.heap [] := (Keep.refl h0 _).trans K1733 all0
    have O1733 := O0.keep K1733 (all0)
    have f1734 := Scs.ext O1733.2
    have f1735 := Ssf.ext O1733.2
    have f1736 := El.keep K1733
    have f1737 := Fm.keep K1733 nin0
    have f1738 := Sw0.ext O1733.2
    have f1739 := Eu.keep K1733
    have f1740 := Fu_end.keep K1733 nin0
    have f1741 := Fu_start.keep K1733 nin0
    have f1742 := Fu_checkAt.keep K1733 nin0
    have f1743 := Fu_ignoresOthers.keep K1733 nin0
    have f1744 := Sw1.ext O1733.2
    have f1745 := Ev.keep K1733
    have f1746 := Fv_end.keep K1733 nin0
    have f1747 := Fv_start.keep K1733 nin0
    have f1748 := Fv_checkAt.keep K1733 nin0
    have f1749 := Fv_ignoresOthers.keep K1733 nin0
    have f1750 := Sl.ext O1733.2
    obtain ⟨_, _, ⟨T1751, L1751, k1751, n1751⟩, -, X1751, ⟨Lc1751, hQ1751, l1751, y1751, z1751⟩, st1751⟩ := Jvm.LawKit.callS X1733 hx hown (mvT hZ (H 29 _ rfl)) (mvT hZ (H 30 _ rfl)) (mvT hZ (H 31 _ rfl)) (mvT hZ (H 32 _ rfl)) (by decide) (backOf (W := 0) (rm6 l Z a0 hw [] ig aw0 aw1 T1733.heap n0 Zs1733 O1733 Sw0 Sw1 hv1583 f1739 f1740 f1741 f1742 f1743 f1745 f1746 f1747 f1748 f1749) hZ (H 32 _ rfl) (H 31 _ rfl) (by decide) (by decide)) (g := (mkF m 65 #[vi q0, vi q1, vi q2, vi q3, vi q4, vi ig, vi 3, vi rrv_1586, vi rrv_1587, vi rrv_1588, vi rrv_1589, vr rso_1733, .unset, .unset, .unset, .unset, .unset] [(.int ig)])) rfl (by rw [hml]; rfl) (argsL := [(.int ig)]) (rest := []) (lenOf own_pd462 rfl) rfl (Nat.le_of_eq rfl) (hb hby at_65) (fun _ _ => ⟨rfl, rfl, (by decide : 3 + 0 ≤ _), (by decide : 10 + 0 ≤ _)⟩)
    dsimp only [Pt.U, Pt.locs, Pt.cells, Pt.slots] at X1751 l1751 y1751 z1751 st1751 hQ1751
    rw [l1751, y1751, z1751] at X1751
    obtain ⟨raw_1751, rfl, Nq1751, e1751, p1751_0, p1751_1, p1751_2, p1751_3, p1751_4⟩ := hQ1751
    have N1751 := Fr.app N1733 Nq1751
    obtain ⟨T1752, X1752, e1752, st1752⟩ := getS2 X1751 hx hZ hown (host := "") (Or.inl (H 35 _ rfl)) Via.refl e1751 f1750 (g := (mkF m 81 #[vi q0, vi q1, vi q2, vi q3, vi q4, vi ig, vi 3, vi rrv_1586, vi rrv_1587, vi rrv_1588, vi rrv_1589, vr rso_1733, vr raw_1751, .unset, .unset, .unset, .unset] [(.ref rso_1733), (.ref raw_1751)])) rfl (hb hby at_81)
    obtain ⟨cq1753, kq1753, q1753a, q1753b, q1753c⟩ := isOf hZ e1752 p1751_0
    obtain ⟨_, _, ⟨T1753, L1753, k1753, n1753⟩, -, X1753, ⟨Lc1753, hQ1753, l1753, y1753, z1753⟩, st1753⟩ := X1752.virtualBack hx hown (mvT hZ (H 38 _ rfl)) (mvT hZ (H 39 _ rfl)) (notFace_of_selects (args := #[]) (mvT hZ (H 41 _ rfl))) (mvT hZ (H 41 _ rfl)) (mvT hZ (H 40 _ rfl)) (by decide) (backOf (W := 0) (rm7n3 l Z a0 hw [] raw_1751 rso_1733 al cs vf rrb_1733 rrk_1733 ig rrv_1586 rrv_1587 rrv_1588 T1733.heap n0 Zs1733 O1733 Scs hcs Ssf hvf p1751_0 p1751_1 p1751_2 p1751_3 p1751_4 f1736 f1737 p1733_0 p1733_1 p1733_2 p1733_3 p1586_0 p1587_0 p1588_0) hZ (H 42 _ rfl) (H 31 _ rfl) (by decide) (by decide)) q1753a q1753c (g := (mkF m 84 #[vi q0, vi q1, vi q2, vi q3, vi q4, vi ig, vi 3, vi rrv_1586, vi rrv_1587, vi rrv_1588, vi rrv_1589, vr rso_1733, vr raw_1751, .unset, .unset, .unset, .unset] [(.ref al), (.ref rso_1733), (.ref raw_1751)])) rfl (by rw [hml]; rfl) (Steps.refl _) (argsL := [(.ref rso_1733), (.ref al)]) (rest := []) (lenOf own_pd463 rfl) rfl (Nat.le_of_eq rfl) (hb hby at_84) (fun _ _ => ⟨rfl, e1752, (by decide : 3 + 0 ≤ _), (by decide : 10 + 0 ≤ _)⟩)
    dsimp only [Pt.U, Pt.locs, Pt.cells, Pt.slots] at X1753 l1753 y1753 z1753 st1753 hQ1753
    rw [l1753, y1753, z1753] at X1753
    obtain ⟨rfl, Nq1753, e1753⟩ := hQ1753
    have N1753 := Fr.app N1751 Nq1753
    have pre1754 : ∀ t, Steps p.tables e below (T1753.setTop (mkF m 87 #[vi q0, vi q1, vi q2, vi q3, vi q4, vi ig, vi 3, vi rrv_1586, vi rrv_1587, vi rrv_1588, vi rrv_1589, vr rso_1733, vr raw_1751, .unset, .unset, .unset, .unset] [(.int (own_ac ig [rrv_1588, rrv_1587, rrv_1586]))])) t → SG p e below G0 t := by
      intro t k
      refine pre1590 t ?_
      show Sp p e below m T1589 48 #[vi q0, vi q1, vi q2, vi q3, vi q4, vi ig, vi 3, vi rrv_1586, vi rrv_1587, vi rrv_1588, vi rrv_1589, .unset, .unset, .unset, .unset, .unset, .unset] [] _
      refine XS.iload X1589.here hx rfl (hb hby at_48) rfl ?_
      refine XS.iload X1589.here hx rfl (hb hby at_50) rfl ?_
      refine XS.iload X1589.here hx rfl (hb hby at_52) rfl ?_
      refine XS.iload X1589.here hx rfl (hb hby at_54) rfl ?_
      refine XS.iload X1589.here hx rfl (hb hby at_56) rfl ?_
      refine st1733 _ ?_
      show Sp p e below m T1733 61 #[vi q0, vi q1, vi q2, vi q3, vi q4, vi ig, vi 3, vi rrv_1586, vi rrv_1587, vi rrv_1588, vi rrv_1589, .unset, .unset, .unset, .unset, .unset, .unset] [(.ref rso_1733)] _
      refine XS.astore X1733.here hx rfl (hb hby at_61) rfl rfl (l' := #[vi q0, vi q1, vi q2, vi q3, vi q4, vi ig, vi 3, vi rrv_1586, vi rrv_1587, vi rrv_1588, vi rrv_1589, vr rso_1733, .unset, .unset, .unset, .unset, .unset]) rfl ?_
      refine XS.iload X1733.here hx rfl (hb hby at_63) rfl ?_
      refine st1751 _ ?_
      show Sp p e below m T1751 68 #[vi q0, vi q1, vi q2, vi q3, vi q4, vi ig, vi 3, vi rrv_1586, vi rrv_1587, vi rrv_1588, vi rrv_1589, vr rso_1733, .unset, .unset, .unset, .unset, .unset] [(.ref raw_1751)] _
      refine XS.astore X1751.here hx rfl (hb hby at_68) rfl rfl (l' := #[vi q0, vi q1, vi q2, vi q3, vi q4, vi ig, vi 3, vi rrv_1586, vi rrv_1587, vi rrv_1588, vi rrv_1589, vr rso_1733, vr raw_1751, .unset, .unset, .unset, .unset]) rfl ?_
      refine XS.aload X1751.here hx rfl (hb hby at_70) rfl rfl ?_
      refine XS.ifnonnullYes X1751.here hx rfl (pc0 := 72) (pc' := 77) rfl (hb hby at_72) rfl (by decide) (by decide) ?_
      refine XS.aload X1751.here hx rfl (hb hby at_77) rfl rfl ?_
      refine XS.aload X1751.here hx rfl (hb hby at_79) rfl rfl ?_
      refine st1752 _ ?_
      show Sp p e below m T1752 84 #[vi q0, vi q1, vi q2, vi q3, vi q4, vi ig, vi 3, vi rrv_1586, vi rrv_1587, vi rrv_1588, vi rrv_1589, vr rso_1733, vr raw_1751, .unset, .unset, .unset, .unset] [(.ref al), (.ref rso_1733), (.ref raw_1751)] _
      refine st1753.trans ?_
      exact k
    obtain ⟨act, he1755⟩ : ∃ z : Int32, z = (own_ac ig [rrv_1588, rrv_1587, rrv_1586]) := ⟨_, rfl⟩
    rw [← he1755] at pre1754
    have pre1756 : ∀ t, Sp p e below m T1753 95 #[vi q0, vi q1, vi q2, vi q3, vi q4, vi ig, vi 3, vi rrv_1586, vi rrv_1587, vi rrv_1588, vi rrv_1589, vr rso_1733, vr raw_1751, vi act, vi 0, vi 0, .unset] [] t → SG p e below G0 t := by
      intro t k
      refine pre1754 t ?_
      show Sp p e below m T1753 87 #[vi q0, vi q1, vi q2, vi q3, vi q4, vi ig, vi 3, vi rrv_1586, vi rrv_1587, vi rrv_1588, vi rrv_1589, vr rso_1733, vr raw_1751, .unset, .unset, .unset, .unset] [(.int act)] _
      refine XS.istore X1753.here hx rfl (hb hby at_87) rfl (l' := #[vi q0, vi q1, vi q2, vi q3, vi q4, vi ig, vi 3, vi rrv_1586, vi rrv_1587, vi rrv_1588, vi rrv_1589, vr rso_1733, vr raw_1751, vi act, .unset, .unset, .unset]) rfl ?_
      refine XS.iconst X1753.here hx rfl (hb hby at_89) ?_
      refine XS.istore X1753.here hx rfl (hb hby at_90) rfl (l' := #[vi q0, vi q1, vi q2, vi q3, vi q4, vi ig, vi 3, vi rrv_1586, vi rrv_1587, vi rrv_1588, vi rrv_1589, vr rso_1733, vr raw_1751, vi act, vi 0, .unset, .unset]) rfl ?_
      refine XS.iconst X1753.here hx rfl (hb hby at_92) ?_
      refine XS.istore X1753.here hx rfl (hb hby at_93) rfl (l' := #[vi q0, vi q1, vi q2, vi q3, vi q4, vi ig, vi 3, vi rrv_1586, vi rrv_1587, vi rrv_1588, vi rrv_1589, vr rso_1733, vr raw_1751, vi act, vi 0, vi 0, .unset]) rfl ?_
      exact k
    obtain ⟨Tm1763, lm1763, n_2, t_2, Xm1763, em1763, Nm1763, hv1765, pre1764⟩ : ∃ (Tm1763 : State) (lm1763 : List Loc) (n_2 : Int32) (t_2 : Int32), Stand p l e room_1 s m #[(.int q0), (.int q1), (.int q2), (.int q3), (.int q4)] below meth c Tm1763 lm1763 3 10 ∧ Tm1763.heap = T1733.heap ∧ Fr n0 lm1763 ∧ (n_2 = own_ps rrv_1588 (0 : Int32) ∧ t_2 = own_tt rrv_1588 (0 : Int32) (0 : Int32)) ∧ ∀ t, Sp p e below m Tm1763 159 #[vi q0, vi q1, vi q2, vi q3, vi q4, vi ig, vi 3, vi rrv_1586, vi rrv_1587, vi rrv_1588, vi rrv_1589, vr rso_1733, vr raw_1751, vi act, vi n_2, vi t_2, .unset] [] t → SG p e below G0 t := by
      obtain ⟨_, _, ⟨T1757, L1757, k1757, n1757⟩, -, X1757, ⟨Lc1757, hQ1757, l1757, y1757, z1757⟩, st1757⟩ := Jvm.LawKit.callS X1753 hx hown (mvT hZ (H 122 _ rfl)) (mvT hZ (H 123 _ rfl)) (mvT hZ (H 2 _ rfl)) (mvT hZ (H 124 _ rfl)) (by decide) (backOf (W := 0) (rm22 l Z a0 hw [] rrv_1588  T1733.heap n0 Zs1733 ) hZ (H 124 _ rfl) (H 2 _ rfl) (by decide) (by decide)) (g := (mkF m 135 #[vi q0, vi q1, vi q2, vi q3, vi q4, vi ig, vi 3, vi rrv_1586, vi rrv_1587, vi rrv_1588, vi rrv_1589, vr rso_1733, vr raw_1751, vi act, vi 0, vi 0, .unset] [(.int rrv_1588)])) rfl (by rw [hml]; rfl) (argsL := [(.int rrv_1588)]) (rest := []) (lenOf own_pd215 rfl) rfl (Nat.le_of_eq rfl) (hb hby at_135) (fun _ _ => ⟨rfl, e1753, (by decide : 3 + 0 ≤ _), (by decide : 10 + 0 ≤ _)⟩)
      dsimp only [Pt.U, Pt.locs, Pt.cells, Pt.slots] at X1757 l1757 y1757 z1757 st1757 hQ1757
      rw [l1757, y1757, z1757] at X1757
      obtain ⟨rfl, Nq1757, e1757⟩ := hQ1757
      have N1757 := Fr.app N1753 Nq1757
      have pre1758 : ∀ t, Sp p e below m T1757 138 #[vi q0, vi q1, vi q2, vi q3, vi q4, vi ig, vi 3, vi rrv_1586, vi rrv_1587, vi rrv_1588, vi rrv_1589, vr rso_1733, vr raw_1751, vi act, vi 0, vi 0, .unset] [(.int (own_dg rrv_1588))] t → SG p e below G0 t := by
        intro t k
        refine pre1756 t ?_
        show Sp p e below m T1753 95 #[vi q0, vi q1, vi q2, vi q3, vi q4, vi ig, vi 3, vi rrv_1586, vi rrv_1587, vi rrv_1588, vi rrv_1589, vr rso_1733, vr raw_1751, vi act, vi 0, vi 0, .unset] [] _
        refine XS.iload X1753.here hx rfl (hb hby at_95) rfl ?_
        refine XS.iconst X1753.here hx rfl (hb hby at_97) ?_
        refine XS.icmpYes X1753.here hx rfl (pc0 := 98) (pc' := 127) rfl (hb hby at_98) rfl (flt (by decide : ¬ ((3 : Int32) < (3 : Int32)))).2.2.2 (by decide) (by decide) ?_
        refine XS.iload X1753.here hx rfl (hb hby at_127) rfl ?_
        refine XS.iconst X1753.here hx rfl (hb hby at_129) ?_
        refine XS.icmpNo X1753.here hx rfl (hb hby at_130) rfl (tlt (by decide : ((2 : Int32) < (3 : Int32)))).2.2.2 ?_
        refine XS.iload X1753.here hx rfl (hb hby at_133) rfl ?_
        refine st1757 _ ?_
        exact k
      by_cases hc138_1759 : (own_dg rrv_1588) = (0 : Int32)
      · have pre1760 : ∀ t, Sp p e below m T1757 159 #[vi q0, vi q1, vi q2, vi q3, vi q4, vi ig, vi 3, vi rrv_1586, vi rrv_1587, vi rrv_1588, vi rrv_1589, vr rso_1733, vr raw_1751, vi act, vi 0, vi 0, .unset] [] t → SG p e below G0 t := by
          intro t k
          refine pre1758 t ?_
          show Sp p e below m T1757 138 #[vi q0, vi q1, vi q2, vi q3, vi q4, vi ig, vi 3, vi rrv_1586, vi rrv_1587, vi rrv_1588, vi rrv_1589, vr rso_1733, vr raw_1751, vi act, vi 0, vi 0, .unset] [(.int (own_dg rrv_1588))] _
          refine XS.ifYes X1757.here hx rfl (pc0 := 138) (pc' := 159) rfl (hb hby at_138) rfl ((if0 _ _).trans (teq hc138_1759).1) (by decide) (by decide) ?_
          exact k
        exact ⟨T1757, _, (0 : Int32), (0 : Int32), X1757, e1757, N1757, (by exact ⟨by rw [own_ps, if_pos hc138_1759] <;> decide, by rw [own_tt, if_pos hc138_1759]⟩), pre1760⟩
      · obtain ⟨_, _, ⟨T1761, L1761, k1761, n1761⟩, -, X1761, ⟨Lc1761, hQ1761, l1761, y1761, z1761⟩, st1761⟩ := Jvm.LawKit.callS X1757 hx hown (mvT hZ (H 125 _ rfl)) (mvT hZ (H 126 _ rfl)) (mvT hZ (H 2 _ rfl)) (mvT hZ (H 127 _ rfl)) (by decide) (backOf (W := 1) (rm23 l Z a0 hw [] (0 : Int32) (rrv_1588 - (48 : Int32))  T1733.heap n0 Zs1733 ) hZ (H 127 _ rfl) (H 2 _ rfl) (by decide) (by decide)) (g := (mkF m 150 #[vi q0, vi q1, vi q2, vi q3, vi q4, vi ig, vi 3, vi rrv_1586, vi rrv_1587, vi rrv_1588, vi rrv_1589, vr rso_1733, vr raw_1751, vi act, vi 0, vi 0, .unset] [(.int (rrv_1588 - (48 : Int32))), (.int 0), (.int 0)])) rfl (by rw [hml]; rfl) (argsL := [(.int 0), (.int (rrv_1588 - (48 : Int32)))]) (rest := [(.int 0)]) (lenOf own_pd452 rfl) rfl (Nat.le_of_eq rfl) (hb hby at_150) (fun _ _ => ⟨rfl, e1757, (by decide : 3 + 0 ≤ _), (by decide : 10 + 0 ≤ _)⟩)
        dsimp only [Pt.U, Pt.locs, Pt.cells, Pt.slots] at X1761 l1761 y1761 z1761 st1761 hQ1761
        rw [l1761, y1761, z1761] at X1761
        obtain ⟨rfl, Nq1761, e1761⟩ := hQ1761
        have N1761 := Fr.app N1757 Nq1761
        have pre1762 : ∀ t, Sp p e below m T1761 159 #[vi q0, vi q1, vi q2, vi q3, vi q4, vi ig, vi 3, vi rrv_1586, vi rrv_1587, vi rrv_1588, vi rrv_1589, vr rso_1733, vr raw_1751, vi act, vi 1, vi ((0 : Int32) + (own_tL (0 : Int32) (rrv_1588 - (48 : Int32)))), .unset] [] t → SG p e below G0 t := by
          intro t k
          refine pre1758 t ?_
          show Sp p e below m T1757 138 #[vi q0, vi q1, vi q2, vi q3, vi q4, vi ig, vi 3, vi rrv_1586, vi rrv_1587, vi rrv_1588, vi rrv_1589, vr rso_1733, vr raw_1751, vi act, vi 0, vi 0, .unset] [(.int (own_dg rrv_1588))] _
          refine XS.ifNo X1757.here hx rfl (hb hby at_138) rfl ((if0 _ _).trans (feq hc138_1759).1) ?_
          refine XS.iload X1757.here hx rfl (hb hby at_141) rfl ?_
          refine XS.iload X1757.here hx rfl (hb hby at_143) rfl ?_
          refine XS.iload X1757.here hx rfl (hb hby at_145) rfl ?_
          refine XS.bipush X1757.here hx rfl (hb hby at_147) ?_
          refine XS.isub X1757.here hx rfl (hb hby at_149) rfl ?_
          refine st1761 _ ?_
          show Sp p e below m T1761 153 #[vi q0, vi q1, vi q2, vi q3, vi q4, vi ig, vi 3, vi rrv_1586, vi rrv_1587, vi rrv_1588, vi rrv_1589, vr rso_1733, vr raw_1751, vi act, vi 0, vi 0, .unset] [(.int (own_tL (0 : Int32) (rrv_1588 - (48 : Int32)))), (.int 0)] _
          refine XS.iadd X1761.here hx rfl (hb hby at_153) rfl ?_
          refine XS.istore X1761.here hx rfl (hb hby at_154) rfl (l' := #[vi q0, vi q1, vi q2, vi q3, vi q4, vi ig, vi 3, vi rrv_1586, vi rrv_1587, vi rrv_1588, vi rrv_1589, vr rso_1733, vr raw_1751, vi act, vi 0, vi ((0 : Int32) + (own_tL (0 : Int32) (rrv_1588 - (48 : Int32)))), .unset]) rfl ?_
          refine XS.iinc X1761.here hx rfl (hb hby at_156) rfl (l' := #[vi q0, vi q1, vi q2, vi q3, vi q4, vi ig, vi 3, vi rrv_1586, vi rrv_1587, vi rrv_1588, vi rrv_1589, vr rso_1733, vr raw_1751, vi act, vi 1, vi ((0 : Int32) + (own_tL (0 : Int32) (rrv_1588 - (48 : Int32)))), .unset]) rfl ?_
          exact k
        exact ⟨T1761, _, (1 : Int32), ((0 : Int32) + (own_tL (0 : Int32) (rrv_1588 - (48 : Int32)))), X1761, e1761, N1761, (by exact ⟨by rw [own_ps, if_neg hc138_1759] <;> decide, by rw [own_tt, if_neg hc138_1759]⟩), pre1762⟩
    obtain ⟨Tm1772, lm1772, n_1, t_1, Xm1772, em1772, Nm1772, hv1774, pre1773⟩ : ∃ (Tm1772 : State) (lm1772 : List Loc) (n_1 : Int32) (t_1 : Int32), Stand p l e room_1 s m #[(.int q0), (.int q1), (.int q2), (.int q3), (.int q4)] below meth c Tm1772 lm1772 3 10 ∧ Tm1772.heap = T1733.heap ∧ Fr n0 lm1772 ∧ (n_1 = own_ps rrv_1587 n_2 ∧ t_1 = own_tt rrv_1587 n_2 t_2) ∧ ∀ t, Sp p e below m Tm1772 191 #[vi q0, vi q1, vi q2, vi q3, vi q4, vi ig, vi 3, vi rrv_1586, vi rrv_1587, vi rrv_1588, vi rrv_1589, vr rso_1733, vr raw_1751, vi act, vi n_1, vi t_1, .unset] [] t → SG p e below G0 t := by
      obtain ⟨_, _, ⟨T1766, L1766, k1766, n1766⟩, -, X1766, ⟨Lc1766, hQ1766, l1766, y1766, z1766⟩, st1766⟩ := Jvm.LawKit.callS Xm1763 hx hown (mvT hZ (H 122 _ rfl)) (mvT hZ (H 123 _ rfl)) (mvT hZ (H 2 _ rfl)) (mvT hZ (H 124 _ rfl)) (by decide) (backOf (W := 0) (rm22 l Z a0 hw [] rrv_1587  T1733.heap n0 Zs1733 ) hZ (H 124 _ rfl) (H 2 _ rfl) (by decide) (by decide)) (g := (mkF m 167 #[vi q0, vi q1, vi q2, vi q3, vi q4, vi ig, vi 3, vi rrv_1586, vi rrv_1587, vi rrv_1588, vi rrv_1589, vr rso_1733, vr raw_1751, vi act, vi n_2, vi t_2, .unset] [(.int rrv_1587)])) rfl (by rw [hml]; rfl) (argsL := [(.int rrv_1587)]) (rest := []) (lenOf own_pd215 rfl) rfl (Nat.le_of_eq rfl) (hb hby at_167) (fun _ _ => ⟨rfl, em1763, (by decide : 3 + 0 ≤ _), (by decide : 10 + 0 ≤ _)⟩)
      dsimp only [Pt.U, Pt.locs, Pt.cells, Pt.slots] at X1766 l1766 y1766 z1766 st1766 hQ1766
      rw [l1766, y1766, z1766] at X1766
      obtain ⟨rfl, Nq1766, e1766⟩ := hQ1766
      have N1766 := Fr.app Nm1763 Nq1766
      have pre1767 : ∀ t, Sp p e below m T1766 170 #[vi q0, vi q1, vi q2, vi q3, vi q4, vi ig, vi 3, vi rrv_1586, vi rrv_1587, vi rrv_1588, vi rrv_1589, vr rso_1733, vr raw_1751, vi act, vi n_2, vi t_2, .unset] [(.int (own_dg rrv_1587))] t → SG p e below G0 t := by
        intro t k
        refine pre1764 t ?_
        show Sp p e below m Tm1763 159 #[vi q0, vi q1, vi q2, vi q3, vi q4, vi ig, vi 3, vi rrv_1586, vi rrv_1587, vi rrv_1588, vi rrv_1589, vr rso_1733, vr raw_1751, vi act, vi n_2, vi t_2, .unset] [] _
        refine XS.iload Xm1763.here hx rfl (hb hby at_159) rfl ?_
        refine XS.iconst Xm1763.here hx rfl (hb hby at_161) ?_
        refine XS.icmpNo Xm1763.here hx rfl (hb hby at_162) rfl (tlt (by decide : ((1 : Int32) < (3 : Int32)))).2.2.2 ?_
        refine XS.iload Xm1763.here hx rfl (hb hby at_165) rfl ?_
        refine st1766 _ ?_
        exact k
      by_cases hc170_1768 : (own_dg rrv_1587) = (0 : Int32)
      · have pre1769 : ∀ t, Sp p e below m T1766 191 #[vi q0, vi q1, vi q2, vi q3, vi q4, vi ig, vi 3, vi rrv_1586, vi rrv_1587, vi rrv_1588, vi rrv_1589, vr rso_1733, vr raw_1751, vi act, vi n_2, vi t_2, .unset] [] t → SG p e below G0 t := by
          intro t k
          refine pre1767 t ?_
          show Sp p e below m T1766 170 #[vi q0, vi q1, vi q2, vi q3, vi q4, vi ig, vi 3, vi rrv_1586, vi rrv_1587, vi rrv_1588, vi rrv_1589, vr rso_1733, vr raw_1751, vi act, vi n_2, vi t_2, .unset] [(.int (own_dg rrv_1587))] _
          refine XS.ifYes X1766.here hx rfl (pc0 := 170) (pc' := 191) rfl (hb hby at_170) rfl ((if0 _ _).trans (teq hc170_1768).1) (by decide) (by decide) ?_
          exact k
        exact ⟨T1766, _, n_2, t_2, X1766, e1766, N1766, (by exact ⟨by rw [own_ps, if_pos hc170_1768] <;> decide, by rw [own_tt, if_pos hc170_1768]⟩), pre1769⟩
      · obtain ⟨_, _, ⟨T1770, L1770, k1770, n1770⟩, -, X1770, ⟨Lc1770, hQ1770, l1770, y1770, z1770⟩, st1770⟩ := Jvm.LawKit.callS X1766 hx hown (mvT hZ (H 125 _ rfl)) (mvT hZ (H 126 _ rfl)) (mvT hZ (H 2 _ rfl)) (mvT hZ (H 127 _ rfl)) (by decide) (backOf (W := 1) (rm23 l Z a0 hw [] n_2 (rrv_1587 - (48 : Int32))  T1733.heap n0 Zs1733 ) hZ (H 127 _ rfl) (H 2 _ rfl) (by decide) (by decide)) (g := (mkF m 182 #[vi q0, vi q1, vi q2, vi q3, vi q4, vi ig, vi 3, vi rrv_1586, vi rrv_1587, vi rrv_1588, vi rrv_1589, vr rso_1733, vr raw_1751, vi act, vi n_2, vi t_2, .unset] [(.int (rrv_1587 - (48 : Int32))), (.int n_2), (.int t_2)])) rfl (by rw [hml]; rfl) (argsL := [(.int n_2), (.int (rrv_1587 - (48 : Int32)))]) (rest := [(.int t_2)]) (lenOf own_pd452 rfl) rfl (Nat.le_of_eq rfl) (hb hby at_182) (fun _ _ => ⟨rfl, e1766, (by decide : 3 + 0 ≤ _), (by decide : 10 + 0 ≤ _)⟩)
        dsimp only [Pt.U, Pt.locs, Pt.cells, Pt.slots] at X1770 l1770 y1770 z1770 st1770 hQ1770
        rw [l1770, y1770, z1770] at X1770
        obtain ⟨rfl, Nq1770, e1770⟩ := hQ1770
        have N1770 := Fr.app N1766 Nq1770
        have pre1771 : ∀ t, Sp p e below m T1770 191 #[vi q0, vi q1, vi q2, vi q3, vi q4, vi ig, vi 3, vi rrv_1586, vi rrv_1587, vi rrv_1588, vi rrv_1589, vr rso_1733, vr raw_1751, vi act, vi (n_2 + (1 : Int32)), vi (t_2 + (own_tL n_2 (rrv_1587 - (48 : Int32)))), .unset] [] t → SG p e below G0 t := by
          intro t k
          refine pre1767 t ?_
          show Sp p e below m T1766 170 #[vi q0, vi q1, vi q2, vi q3, vi q4, vi ig, vi 3, vi rrv_1586, vi rrv_1587, vi rrv_1588, vi rrv_1589, vr rso_1733, vr raw_1751, vi act, vi n_2, vi t_2, .unset] [(.int (own_dg rrv_1587))] _
          refine XS.ifNo X1766.here hx rfl (hb hby at_170) rfl ((if0 _ _).trans (feq hc170_1768).1) ?_
          refine XS.iload X1766.here hx rfl (hb hby at_173) rfl ?_
          refine XS.iload X1766.here hx rfl (hb hby at_175) rfl ?_
          refine XS.iload X1766.here hx rfl (hb hby at_177) rfl ?_
          refine XS.bipush X1766.here hx rfl (hb hby at_179) ?_
          refine XS.isub X1766.here hx rfl (hb hby at_181) rfl ?_
          refine st1770 _ ?_
          show Sp p e below m T1770 185 #[vi q0, vi q1, vi q2, vi q3, vi q4, vi ig, vi 3, vi rrv_1586, vi rrv_1587, vi rrv_1588, vi rrv_1589, vr rso_1733, vr raw_1751, vi act, vi n_2, vi t_2, .unset] [(.int (own_tL n_2 (rrv_1587 - (48 : Int32)))), (.int t_2)] _
          refine XS.iadd X1770.here hx rfl (hb hby at_185) rfl ?_
          refine XS.istore X1770.here hx rfl (hb hby at_186) rfl (l' := #[vi q0, vi q1, vi q2, vi q3, vi q4, vi ig, vi 3, vi rrv_1586, vi rrv_1587, vi rrv_1588, vi rrv_1589, vr rso_1733, vr raw_1751, vi act, vi n_2, vi (t_2 + (own_tL n_2 (rrv_1587 - (48 : Int32)))), .unset]) rfl ?_
          refine XS.iinc X1770.here hx rfl (hb hby at_188) rfl (l' := #[vi q0, vi q1, vi q2, vi q3, vi q4, vi ig, vi 3, vi rrv_1586, vi rrv_1587, vi rrv_1588, vi rrv_1589, vr rso_1733, vr raw_1751, vi act, vi (n_2 + (1 : Int32)), vi (t_2 + (own_tL n_2 (rrv_1587 - (48 : Int32)))), .unset]) rfl ?_
          exact k
        exact ⟨T1770, _, (n_2 + (1 : Int32)), (t_2 + (own_tL n_2 (rrv_1587 - (48 : Int32)))), X1770, e1770, N1770, (by exact ⟨by rw [own_ps, if_neg hc170_1768] <;> decide, by rw [own_tt, if_neg hc170_1768]⟩), pre1771⟩
    obtain ⟨Tm1781, lm1781, n_0, t_0, Xm1781, em1781, Nm1781, hv1783, pre1782⟩ : ∃ (Tm1781 : State) (lm1781 : List Loc) (n_0 : Int32) (t_0 : Int32), Stand p l e room_1 s m #[(.int q0), (.int q1), (.int q2), (.int q3), (.int q4)] below meth c Tm1781 lm1781 3 10 ∧ Tm1781.heap = T1733.heap ∧ Fr n0 lm1781 ∧ (n_0 = own_ps rrv_1586 n_1 ∧ t_0 = own_tt rrv_1586 n_1 t_1) ∧ ∀ t, Sp p e below m Tm1781 222 #[vi q0, vi q1, vi q2, vi q3, vi q4, vi ig, vi 3, vi rrv_1586, vi rrv_1587, vi rrv_1588, vi rrv_1589, vr rso_1733, vr raw_1751, vi act, vi n_0, vi t_0, .unset] [] t → SG p e below G0 t := by
      obtain ⟨_, _, ⟨T1775, L1775, k1775, n1775⟩, -, X1775, ⟨Lc1775, hQ1775, l1775, y1775, z1775⟩, st1775⟩ := Jvm.LawKit.callS Xm1772 hx hown (mvT hZ (H 122 _ rfl)) (mvT hZ (H 123 _ rfl)) (mvT hZ (H 2 _ rfl)) (mvT hZ (H 124 _ rfl)) (by decide) (backOf (W := 0) (rm22 l Z a0 hw [] rrv_1586  T1733.heap n0 Zs1733 ) hZ (H 124 _ rfl) (H 2 _ rfl) (by decide) (by decide)) (g := (mkF m 198 #[vi q0, vi q1, vi q2, vi q3, vi q4, vi ig, vi 3, vi rrv_1586, vi rrv_1587, vi rrv_1588, vi rrv_1589, vr rso_1733, vr raw_1751, vi act, vi n_1, vi t_1, .unset] [(.int rrv_1586)])) rfl (by rw [hml]; rfl) (argsL := [(.int rrv_1586)]) (rest := []) (lenOf own_pd215 rfl) rfl (Nat.le_of_eq rfl) (hb hby at_198) (fun _ _ => ⟨rfl, em1772, (by decide : 3 + 0 ≤ _), (by decide : 10 + 0 ≤ _)⟩)
      dsimp only [Pt.U, Pt.locs, Pt.cells, Pt.slots] at X1775 l1775 y1775 z1775 st1775 hQ1775
      rw [l1775, y1775, z1775] at X1775
      obtain ⟨rfl, Nq1775, e1775⟩ := hQ1775
      have N1775 := Fr.app Nm1772 Nq1775
      have pre1776 : ∀ t, Sp p e below m T1775 201 #[vi q0, vi q1, vi q2, vi q3, vi q4, vi ig, vi 3, vi rrv_1586, vi rrv_1587, vi rrv_1588, vi rrv_1589, vr rso_1733, vr raw_1751, vi act, vi n_1, vi t_1, .unset] [(.int (own_dg rrv_1586))] t → SG p e below G0 t := by
        intro t k
        refine pre1773 t ?_
        show Sp p e below m Tm1772 191 #[vi q0, vi q1, vi q2, vi q3, vi q4, vi ig, vi 3, vi rrv_1586, vi rrv_1587, vi rrv_1588, vi rrv_1589, vr rso_1733, vr raw_1751, vi act, vi n_1, vi t_1, .unset] [] _
        refine XS.iload Xm1772.here hx rfl (hb hby at_191) rfl ?_
        refine XS.ifNo Xm1772.here hx rfl (hb hby at_193) rfl ((if0 _ _).trans (tlt (by decide : ((0 : Int32) < (3 : Int32)))).2.2.2) ?_
        refine XS.iload Xm1772.here hx rfl (hb hby at_196) rfl ?_
        refine st1775 _ ?_
        exact k
      by_cases hc201_1777 : (own_dg rrv_1586) = (0 : Int32)
      · have pre1778 : ∀ t, Sp p e below m T1775 222 #[vi q0, vi q1, vi q2, vi q3, vi q4, vi ig, vi 3, vi rrv_1586, vi rrv_1587, vi rrv_1588, vi rrv_1589, vr rso_1733, vr raw_1751, vi act, vi n_1, vi t_1, .unset] [] t → SG p e below G0 t := by
          intro t k
          refine pre1776 t ?_
          show Sp p e below m T1775 201 #[vi q0, vi q1, vi q2, vi q3, vi q4, vi ig, vi 3, vi rrv_1586, vi rrv_1587, vi rrv_1588, vi rrv_1589, vr rso_1733, vr raw_1751, vi act, vi n_1, vi t_1, .unset] [(.int (own_dg rrv_1586))] _
          refine XS.ifYes X1775.here hx rfl (pc0 := 201) (pc' := 222) rfl (hb hby at_201) rfl ((if0 _ _).trans (teq hc201_1777).1) (by decide) (by decide) ?_
          exact k
        exact ⟨T1775, _, n_1, t_1, X1775, e1775, N1775, (by exact ⟨by rw [own_ps, if_pos hc201_1777] <;> decide, by rw [own_tt, if_pos hc201_1777]⟩), pre1778⟩
      · obtain ⟨_, _, ⟨T1779, L1779, k1779, n1779⟩, -, X1779, ⟨Lc1779, hQ1779, l1779, y1779, z1779⟩, st1779⟩ := Jvm.LawKit.callS X1775 hx hown (mvT hZ (H 125 _ rfl)) (mvT hZ (H 126 _ rfl)) (mvT hZ (H 2 _ rfl)) (mvT hZ (H 127 _ rfl)) (by decide) (backOf (W := 1) (rm23 l Z a0 hw [] n_1 (rrv_1586 - (48 : Int32))  T1733.heap n0 Zs1733 ) hZ (H 127 _ rfl) (H 2 _ rfl) (by decide) (by decide)) (g := (mkF m 213 #[vi q0, vi q1, vi q2, vi q3, vi q4, vi ig, vi 3, vi rrv_1586, vi rrv_1587, vi rrv_1588, vi rrv_1589, vr rso_1733, vr raw_1751, vi act, vi n_1, vi t_1, .unset] [(.int (rrv_1586 - (48 : Int32))), (.int n_1), (.int t_1)])) rfl (by rw [hml]; rfl) (argsL := [(.int n_1), (.int (rrv_1586 - (48 : Int32)))]) (rest := [(.int t_1)]) (lenOf own_pd452 rfl) rfl (Nat.le_of_eq rfl) (hb hby at_213) (fun _ _ => ⟨rfl, e1775, (by decide : 3 + 0 ≤ _), (by decide : 10 + 0 ≤ _)⟩)
        dsimp only [Pt.U, Pt.locs, Pt.cells, Pt.slots] at X1779 l1779 y1779 z1779 st1779 hQ1779
        rw [l1779, y1779, z1779] at X1779
        obtain ⟨rfl, Nq1779, e1779⟩ := hQ1779
        have N1779 := Fr.app N1775 Nq1779
        have pre1780 : ∀ t, Sp p e below m T1779 222 #[vi q0, vi q1, vi q2, vi q3, vi q4, vi ig, vi 3, vi rrv_1586, vi rrv_1587, vi rrv_1588, vi rrv_1589, vr rso_1733, vr raw_1751, vi act, vi (n_1 + (1 : Int32)), vi (t_1 + (own_tL n_1 (rrv_1586 - (48 : Int32)))), .unset] [] t → SG p e below G0 t := by
          intro t k
          refine pre1776 t ?_
          show Sp p e below m T1775 201 #[vi q0, vi q1, vi q2, vi q3, vi q4, vi ig, vi 3, vi rrv_1586, vi rrv_1587, vi rrv_1588, vi rrv_1589, vr rso_1733, vr raw_1751, vi act, vi n_1, vi t_1, .unset] [(.int (own_dg rrv_1586))] _
          refine XS.ifNo X1775.here hx rfl (hb hby at_201) rfl ((if0 _ _).trans (feq hc201_1777).1) ?_
          refine XS.iload X1775.here hx rfl (hb hby at_204) rfl ?_
          refine XS.iload X1775.here hx rfl (hb hby at_206) rfl ?_
          refine XS.iload X1775.here hx rfl (hb hby at_208) rfl ?_
          refine XS.bipush X1775.here hx rfl (hb hby at_210) ?_
          refine XS.isub X1775.here hx rfl (hb hby at_212) rfl ?_
          refine st1779 _ ?_
          show Sp p e below m T1779 216 #[vi q0, vi q1, vi q2, vi q3, vi q4, vi ig, vi 3, vi rrv_1586, vi rrv_1587, vi rrv_1588, vi rrv_1589, vr rso_1733, vr raw_1751, vi act, vi n_1, vi t_1, .unset] [(.int (own_tL n_1 (rrv_1586 - (48 : Int32)))), (.int t_1)] _
          refine XS.iadd X1779.here hx rfl (hb hby at_216) rfl ?_
          refine XS.istore X1779.here hx rfl (hb hby at_217) rfl (l' := #[vi q0, vi q1, vi q2, vi q3, vi q4, vi ig, vi 3, vi rrv_1586, vi rrv_1587, vi rrv_1588, vi rrv_1589, vr rso_1733, vr raw_1751, vi act, vi n_1, vi (t_1 + (own_tL n_1 (rrv_1586 - (48 : Int32)))), .unset]) rfl ?_
          refine XS.iinc X1779.here hx rfl (hb hby at_219) rfl (l' := #[vi q0, vi q1, vi q2, vi q3, vi q4, vi ig, vi 3, vi rrv_1586, vi rrv_1587, vi rrv_1588, vi rrv_1589, vr rso_1733, vr raw_1751, vi act, vi (n_1 + (1 : Int32)), vi (t_1 + (own_tL n_1 (rrv_1586 - (48 : Int32)))), .unset]) rfl ?_
          exact k
        exact ⟨T1779, _, (n_1 + (1 : Int32)), (t_1 + (own_tL n_1 (rrv_1586 - (48 : Int32)))), X1779, e1779, N1779, (by exact ⟨by rw [own_ps, if_neg hc201_1777] <;> decide, by rw [own_tt, if_neg hc201_1777]⟩), pre1780⟩
    obtain ⟨ex_, hv1802, pre1801⟩ : ∃ (ex_ : Int32), (ex_ = own_ex ig (3 : Int32) n_0 t_0) ∧ ∀ t, Sp p e below m Tm1781 253 #[vi q0, vi q1, vi q2, vi q3, vi q4, vi ig, vi 3, vi rrv_1586, vi rrv_1587, vi rrv_1588, vi rrv_1589, vr rso_1733, vr raw_1751, vi act, vi n_0, vi t_0, .unset] [(.int ex_)] t → SG p e below G0 t := by
      have pre1784 : ∀ t, Sp p e below m Tm1781 225 #[vi q0, vi q1, vi q2, vi q3, vi q4, vi ig, vi 3, vi rrv_1586, vi rrv_1587, vi rrv_1588, vi rrv_1589, vr rso_1733, vr raw_1751, vi act, vi n_0, vi t_0, .unset] [(.int 1), (.int n_0)] t → SG p e below G0 t := by
        intro t k
        refine pre1782 t ?_
        show Sp p e below m Tm1781 222 #[vi q0, vi q1, vi q2, vi q3, vi q4, vi ig, vi 3, vi rrv_1586, vi rrv_1587, vi rrv_1588, vi rrv_1589, vr rso_1733, vr raw_1751, vi act, vi n_0, vi t_0, .unset] [] _
        refine XS.iload Xm1781.here hx rfl (hb hby at_222) rfl ?_
        refine XS.iconst Xm1781.here hx rfl (hb hby at_224) ?_
        exact k
      by_cases hc225_1785 : n_0 < (1 : Int32)
      · have pre1786 : ∀ t, Sp p e below m Tm1781 253 #[vi q0, vi q1, vi q2, vi q3, vi q4, vi ig, vi 3, vi rrv_1586, vi rrv_1587, vi rrv_1588, vi rrv_1589, vr rso_1733, vr raw_1751, vi act, vi n_0, vi t_0, .unset] [(.int 0)] t → SG p e below G0 t := by
          intro t k
          refine pre1784 t ?_
          show Sp p e below m Tm1781 225 #[vi q0, vi q1, vi q2, vi q3, vi q4, vi ig, vi 3, vi rrv_1586, vi rrv_1587, vi rrv_1588, vi rrv_1589, vr rso_1733, vr raw_1751, vi act, vi n_0, vi t_0, .unset] [(.int 1), (.int n_0)] _
          refine XS.icmpYes Xm1781.here hx rfl (pc0 := 225) (pc' := 252) rfl (hb hby at_225) rfl (tlt hc225_1785).1 (by decide) (by decide) ?_
          refine XS.iconst Xm1781.here hx rfl (hb hby at_252) ?_
          exact k
        exact ⟨(0 : Int32), (by simp only [own_ex, if_pos hc225_1785]), pre1786⟩
      · have pre1787 : ∀ t, Sp p e below m Tm1781 230 #[vi q0, vi q1, vi q2, vi q3, vi q4, vi ig, vi 3, vi rrv_1586, vi rrv_1587, vi rrv_1588, vi rrv_1589, vr rso_1733, vr raw_1751, vi act, vi n_0, vi t_0, .unset] [(.int ig)] t → SG p e below G0 t := by
          intro t k
          refine pre1784 t ?_
          show Sp p e below m Tm1781 225 #[vi q0, vi q1, vi q2, vi q3, vi q4, vi ig, vi 3, vi rrv_1586, vi rrv_1587, vi rrv_1588, vi rrv_1589, vr rso_1733, vr raw_1751, vi act, vi n_0, vi t_0, .unset] [(.int 1), (.int n_0)] _
          refine XS.icmpNo Xm1781.here hx rfl (hb hby at_225) rfl (flt hc225_1785).1 ?_
          refine XS.iload Xm1781.here hx rfl (hb hby at_228) rfl ?_
          exact k
        by_cases hc230_1788 : ig = (0 : Int32)
        · have pre1789 : ∀ t, Sp p e below m Tm1781 237 #[vi q0, vi q1, vi q2, vi q3, vi q4, vi ig, vi 3, vi rrv_1586, vi rrv_1587, vi rrv_1588, vi rrv_1589, vr rso_1733, vr raw_1751, vi act, vi n_0, vi t_0, .unset] [(.int 3), (.int n_0)] t → SG p e below G0 t := by
            intro t k
            refine pre1787 t ?_
            show Sp p e below m Tm1781 230 #[vi q0, vi q1, vi q2, vi q3, vi q4, vi ig, vi 3, vi rrv_1586, vi rrv_1587, vi rrv_1588, vi rrv_1589, vr rso_1733, vr raw_1751, vi act, vi n_0, vi t_0, .unset] [(.int ig)] _
            refine XS.ifNo Xm1781.here hx rfl (hb hby at_230) rfl ((if0 _ _).trans (teq hc230_1788).2) ?_
            refine XS.iload Xm1781.here hx rfl (hb hby at_233) rfl ?_
            refine XS.iload Xm1781.here hx rfl (hb hby at_235) rfl ?_
            exact k
          by_cases hc237_1790 : n_0 = (3 : Int32)
          · have pre1791 : ∀ t, Sp p e below m Tm1781 245 #[vi q0, vi q1, vi q2, vi q3, vi q4, vi ig, vi 3, vi rrv_1586, vi rrv_1587, vi rrv_1588, vi rrv_1589, vr rso_1733, vr raw_1751, vi act, vi n_0, vi t_0, .unset] [(.int (t_0 % (10 : Int32)))] t → SG p e below G0 t := by
              intro t k
              refine pre1789 t ?_
              show Sp p e below m Tm1781 237 #[vi q0, vi q1, vi q2, vi q3, vi q4, vi ig, vi 3, vi rrv_1586, vi rrv_1587, vi rrv_1588, vi rrv_1589, vr rso_1733, vr raw_1751, vi act, vi n_0, vi t_0, .unset] [(.int 3), (.int n_0)] _
              refine XS.icmpNo Xm1781.here hx rfl (hb hby at_237) rfl (teq hc237_1790).2 ?_
              show Sp p e below m Tm1781 240 #[vi q0, vi q1, vi q2, vi q3, vi q4, vi ig, vi 3, vi rrv_1586, vi rrv_1587, vi rrv_1588, vi rrv_1589, vr rso_1733, vr raw_1751, vi act, vi n_0, vi t_0, .unset] [] _
              refine XS.iload Xm1781.here hx rfl (hb hby at_240) rfl ?_
              refine XS.bipush Xm1781.here hx rfl (hb hby at_242) ?_
              refine iremM Xm1781 hx rfl (hb hby at_244) rfl (by decide) ?_
              exact k
            by_cases hc245_1792 : (t_0 % (10 : Int32)) = (0 : Int32)
            · have pre1793 : ∀ t, Sp p e below m Tm1781 253 #[vi q0, vi q1, vi q2, vi q3, vi q4, vi ig, vi 3, vi rrv_1586, vi rrv_1587, vi rrv_1588, vi rrv_1589, vr rso_1733, vr raw_1751, vi act, vi n_0, vi t_0, .unset] [(.int 1)] t → SG p e below G0 t := by
                intro t k
                refine pre1791 t ?_
                show Sp p e below m Tm1781 245 #[vi q0, vi q1, vi q2, vi q3, vi q4, vi ig, vi 3, vi rrv_1586, vi rrv_1587, vi rrv_1588, vi rrv_1589, vr rso_1733, vr raw_1751, vi act, vi n_0, vi t_0, .unset] [(.int (t_0 % (10 : Int32)))] _
                refine XS.ifNo Xm1781.here hx rfl (hb hby at_245) rfl ((if0 _ _).trans (teq hc245_1792).2) ?_
                refine XS.iconst Xm1781.here hx rfl (hb hby at_248) ?_
                refine XS.goto Xm1781.here hx rfl (pc0 := 249) (pc' := 253) rfl (hb hby at_249) (by decide) (by decide) ?_
                exact k
              exact ⟨(1 : Int32), (by simp only [own_ex, if_neg hc225_1785, if_pos hc230_1788, if_pos hc237_1790, if_pos hc245_1792]), pre1793⟩
            · have pre1794 : ∀ t, Sp p e below m Tm1781 253 #[vi q0, vi q1, vi q2, vi q3, vi q4, vi ig, vi 3, vi rrv_1586, vi rrv_1587, vi rrv_1588, vi rrv_1589, vr rso_1733, vr raw_1751, vi act, vi n_0, vi t_0, .unset] [(.int 0)] t → SG p e below G0 t := by
                intro t k
                refine pre1791 t ?_
                show Sp p e below m Tm1781 245 #[vi q0, vi q1, vi q2, vi q3, vi q4, vi ig, vi 3, vi rrv_1586, vi rrv_1587, vi rrv_1588, vi rrv_1589, vr rso_1733, vr raw_1751, vi act, vi n_0, vi t_0, .unset] [(.int (t_0 % (10 : Int32)))] _
                refine XS.ifYes Xm1781.here hx rfl (pc0 := 245) (pc' := 252) rfl (hb hby at_245) rfl ((if0 _ _).trans (feq hc245_1792).2) (by decide) (by decide) ?_
                refine XS.iconst Xm1781.here hx rfl (hb hby at_252) ?_
                exact k
              exact ⟨(0 : Int32), (by simp only [own_ex, if_neg hc225_1785, if_pos hc230_1788, if_pos hc237_1790, if_neg hc245_1792]), pre1794⟩
          · have pre1795 : ∀ t, Sp p e below m Tm1781 253 #[vi q0, vi q1, vi q2, vi q3, vi q4, vi ig, vi 3, vi rrv_1586, vi rrv_1587, vi rrv_1588, vi rrv_1589, vr rso_1733, vr raw_1751, vi act, vi n_0, vi t_0, .unset] [(.int 0)] t → SG p e below G0 t := by
              intro t k
              refine pre1789 t ?_
              show Sp p e below m Tm1781 237 #[vi q0, vi q1, vi q2, vi q3, vi q4, vi ig, vi 3, vi rrv_1586, vi rrv_1587, vi rrv_1588, vi rrv_1589, vr rso_1733, vr raw_1751, vi act, vi n_0, vi t_0, .unset] [(.int 3), (.int n_0)] _
              refine XS.icmpYes Xm1781.here hx rfl (pc0 := 237) (pc' := 252) rfl (hb hby at_237) rfl (feq hc237_1790).2 (by decide) (by decide) ?_
              show Sp p e below m Tm1781 252 #[vi q0, vi q1, vi q2, vi q3, vi q4, vi ig, vi 3, vi rrv_1586, vi rrv_1587, vi rrv_1588, vi rrv_1589, vr rso_1733, vr raw_1751, vi act, vi n_0, vi t_0, .unset] [] _
              refine XS.iconst Xm1781.here hx rfl (hb hby at_252) ?_
              exact k
            exact ⟨(0 : Int32), (by simp only [own_ex, if_neg hc225_1785, if_pos hc230_1788, if_neg hc237_1790]), pre1795⟩
        · have pre1796 : ∀ t, Sp p e below m Tm1781 245 #[vi q0, vi q1, vi q2, vi q3, vi q4, vi ig, vi 3, vi rrv_1586, vi rrv_1587, vi rrv_1588, vi rrv_1589, vr rso_1733, vr raw_1751, vi act, vi n_0, vi t_0, .unset] [(.int (t_0 % (10 : Int32)))] t → SG p e below G0 t := by
            intro t k
            refine pre1787 t ?_
            show Sp p e below m Tm1781 230 #[vi q0, vi q1, vi q2, vi q3, vi q4, vi ig, vi 3, vi rrv_1586, vi rrv_1587, vi rrv_1588, vi rrv_1589, vr rso_1733, vr raw_1751, vi act, vi n_0, vi t_0, .unset] [(.int ig)] _
            refine XS.ifYes Xm1781.here hx rfl (pc0 := 230) (pc' := 240) rfl (hb hby at_230) rfl ((if0 _ _).trans (feq hc230_1788).2) (by decide) (by decide) ?_
            refine XS.iload Xm1781.here hx rfl (hb hby at_240) rfl ?_
            refine XS.bipush Xm1781.here hx rfl (hb hby at_242) ?_
            refine iremM Xm1781 hx rfl (hb hby at_244) rfl (by decide) ?_
            exact k
          by_cases hc245_1797 : (t_0 % (10 : Int32)) = (0 : Int32)
          · have pre1798 : ∀ t, Sp p e below m Tm1781 253 #[vi q0, vi q1, vi q2, vi q3, vi q4, vi ig, vi 3, vi rrv_1586, vi rrv_1587, vi rrv_1588, vi rrv_1589, vr rso_1733, vr raw_1751, vi act, vi n_0, vi t_0, .unset] [(.int 1)] t → SG p e below G0 t := by
              intro t k
              refine pre1796 t ?_
              show Sp p e below m Tm1781 245 #[vi q0, vi q1, vi q2, vi q3, vi q4, vi ig, vi 3, vi rrv_1586, vi rrv_1587, vi rrv_1588, vi rrv_1589, vr rso_1733, vr raw_1751, vi act, vi n_0, vi t_0, .unset] [(.int (t_0 % (10 : Int32)))] _
              refine XS.ifNo Xm1781.here hx rfl (hb hby at_245) rfl ((if0 _ _).trans (teq hc245_1797).2) ?_
              refine XS.iconst Xm1781.here hx rfl (hb hby at_248) ?_
              refine XS.goto Xm1781.here hx rfl (pc0 := 249) (pc' := 253) rfl (hb hby at_249) (by decide) (by decide) ?_
              exact k
            exact ⟨(1 : Int32), (by simp only [own_ex, if_neg hc225_1785, if_neg hc230_1788, if_pos hc245_1797]), pre1798⟩
          · have pre1799 : ∀ t, Sp p e below m Tm1781 253 #[vi q0, vi q1, vi q2, vi q3, vi q4, vi ig, vi 3, vi rrv_1586, vi rrv_1587, vi rrv_1588, vi rrv_1589, vr rso_1733, vr raw_1751, vi act, vi n_0, vi t_0, .unset] [(.int 0)] t → SG p e below G0 t := by
              intro t k
              refine pre1796 t ?_
              show Sp p e below m Tm1781 245 #[vi q0, vi q1, vi q2, vi q3, vi q4, vi ig, vi 3, vi rrv_1586, vi rrv_1587, vi rrv_1588, vi rrv_1589, vr rso_1733, vr raw_1751, vi act, vi n_0, vi t_0, .unset] [(.int (t_0 % (10 : Int32)))] _
              refine XS.ifYes Xm1781.here hx rfl (pc0 := 245) (pc' := 252) rfl (hb hby at_245) rfl ((if0 _ _).trans (feq hc245_1797).2) (by decide) (by decide) ?_
              refine XS.iconst Xm1781.here hx rfl (hb hby at_252) ?_
              exact k
            exact ⟨(0 : Int32), (by simp only [own_ex, if_neg hc225_1785, if_neg hc230_1788, if_neg hc245_1797]), pre1799⟩
    obtain ⟨fs, hr, hrun, hended, hW, hsame⟩ := Xm1781.leave (v := some (.int 1)) (fun h => by rw [Bd.returns] at h; cases h)
    refine ⟨_, _, pre1801 _ ?_, hrun, hended, _, _, rfl, ?_, ReturnedEndW.of_narrow ⟨_, rfl⟩ hW (hsame.mono (by decide) (by decide))⟩
    · show Sp p e below m Tm1781 253 #[vi q0, vi q1, vi q2, vi q3, vi q4, vi ig, vi 3, vi rrv_1586, vi rrv_1587, vi rrv_1588, vi rrv_1589, vr rso_1733, vr raw_1751, vi act, vi n_0, vi t_0, .unset] [(.int ex_)] _
      refine XS.istore Xm1781.here hx rfl (hb hby at_253) rfl (l' := #[vi q0, vi q1, vi q2, vi q3, vi q4, vi ig, vi 3, vi rrv_1586, vi rrv_1587, vi rrv_1588, vi rrv_1589, vr rso_1733, vr raw_1751, vi act, vi n_0, vi t_0, vi ex_]) rfl ?_
      refine XS.iload Xm1781.here hx rfl (hb hby at_255) rfl ?_
      refine XS.iload Xm1781.here hx rfl (hb hby at_257) rfl ?_
      refine XS.icmpNo Xm1781.here hx rfl (hb hby at_259) rfl (teq (by rw [he1755, hv1802, own_AC [rrv_1588, rrv_1587, rrv_1586] ig (3 : Int32) (Nat.le_of_ble_eq_true rfl) (by decide : (3 : Int32).toInt = ((3 : Nat) : Int))]; simp only [own_cn, own_to, ← hv1765.1, ← hv1765.2, ← hv1774.1, ← hv1774.2, ← hv1783.1, ← hv1783.2] : (act = ex_))).2 ?_
      refine XS.iconst Xm1781.here hx rfl (hb hby at_262) ?_
      refine XS.goto Xm1781.here hx rfl (pc0 := 263) (pc' := 267) rfl (hb hby at_263) (by decide) (by decide) ?_
      exact retN Xm1781 hx (t := .boolean) Bd.returns (by simp) (hb hby at_267) hr
    · show Q0 Z q0 q1 q2 q3 q4 cs vf aw0 aw1 al h0 n0 _ Tm1781.heap _
      rw [em1781]
      exact ⟨rfl, Nm1781⟩
  · rw [hq1595] at pre1590
    obtain ⟨_, _, ⟨T1803, L1803, k1803, n1803⟩, -, X1803, ⟨Lc1803, hQ1803, l1803, y1803, z1803⟩, st1803⟩ := Jvm.LawKit.callS X1589 hx hown (mvT hZ (H 4 _ rfl)) (mvT hZ (H 5 _ rfl)) (mvT hZ (H 2 _ rfl)) (mvT hZ (H 6 _ rfl)) (by decide) (backOf (W := 0) (rm2n4 l Z a0 hw [] rrv_1586 rrv_1587 rrv_1588 rrv_1589 cs vf h0 n0 Z0 O0 Scs hcs Ssf hvf Hc Hcw p1586_0 p1587_0 p1588_0 p1589_0) hZ (H 6 _ rfl) (H 2 _ rfl) (by decide) (by decide)) (g := (mkF m 58 #[vi q0, vi q1, vi q2, vi q3, vi q4, vi ig, vi 4, vi rrv_1586, vi rrv_1587, vi rrv_1588, vi rrv_1589, .unset, .unset, .unset, .unset, .unset, .unset] [(.int rrv_1589), (.int rrv_1588), (.int rrv_1587), (.int rrv_1586), (.int 4)])) rfl (by rw [hml]; rfl) (argsL := [(.int 4), (.int rrv_1586), (.int rrv_1587), (.int rrv_1588), (.int rrv_1589)]) (rest := []) (lenOf own_pd461 rfl) rfl (Nat.le_of_eq rfl) (hb hby at_58) (fun _ _ => ⟨rfl, e1589, (by decide : 0 + 3 ≤ _), (by decide : 0 + 12 ≤ _)⟩)
    dsimp only [Pt.U, Pt.locs, Pt.cells, Pt.slots] at X1803 l1803 y1803 z1803 st1803 hQ1803
    rw [l1803, y1803, z1803] at X1803
    obtain ⟨rso_1803, rrb_1803, rrk_1803, rfl, Nq1803, K1803, p1803_0, p1803_1, p1803_2, p1803_3⟩ := hQ1803
    have N1803 := Fr.app N1589 Nq1803
    have Zs1803 : n0 ≤ T1803.heap.size := Nat.le_trans Z0 K1803.1
    have KK1803 : Keep h0 T1803.heap [] := (Keep.refl h0 _).trans K1803 all0
    have O1803 := O0.keep K1803 (all0)
    have f1804 := Scs.ext O1803.2
    have f1805 := Ssf.ext O1803.2
    have f1806 := El.keep K1803
    have f1807 := Fm.keep K1803 nin0
    have f1808 := Sw0.ext O1803.2
    have f1809 := Eu.keep K1803
    have f1810 := Fu_end.keep K1803 nin0
    have f1811 := Fu_start.keep K1803 nin0
    have f1812 := Fu_checkAt.keep K1803 nin0
    have f1813 := Fu_ignoresOthers.keep K1803 nin0
    have f1814 := Sw1.ext O1803.2
    have f1815 := Ev.keep K1803
    have f1816 := Fv_end.keep K1803 nin0
    have f1817 := Fv_start.keep K1803 nin0
    have f1818 := Fv_checkAt.keep K1803 nin0
    have f1819 := Fv_ignoresOthers.keep K1803 nin0
    have f1820 := Sl.ext O1803.2
    obtain ⟨_, _, ⟨T1821, L1821, k1821, n1821⟩, -, X1821, ⟨Lc1821, hQ1821, l1821, y1821, z1821⟩, st1821⟩ := Jvm.LawKit.callS X1803 hx hown (mvT hZ (H 29 _ rfl)) (mvT hZ (H 30 _ rfl)) (mvT hZ (H 31 _ rfl)) (mvT hZ (H 32 _ rfl)) (by decide) (backOf (W := 0) (rm6 l Z a0 hw [] ig aw0 aw1 T1803.heap n0 Zs1803 O1803 Sw0 Sw1 hv1583 f1809 f1810 f1811 f1812 f1813 f1815 f1816 f1817 f1818 f1819) hZ (H 32 _ rfl) (H 31 _ rfl) (by decide) (by decide)) (g := (mkF m 65 #[vi q0, vi q1, vi q2, vi q3, vi q4, vi ig, vi 4, vi rrv_1586, vi rrv_1587, vi rrv_1588, vi rrv_1589, vr rso_1803, .unset, .unset, .unset, .unset, .unset] [(.int ig)])) rfl (by rw [hml]; rfl) (argsL := [(.int ig)]) (rest := []) (lenOf own_pd462 rfl) rfl (Nat.le_of_eq rfl) (hb hby at_65) (fun _ _ => ⟨rfl, rfl, (by decide : 3 + 0 ≤ _), (by decide : 12 + 0 ≤ _)⟩)
    dsimp only [Pt.U, Pt.locs, Pt.cells, Pt.slots] at X1821 l1821 y1821 z1821 st1821 hQ1821
    rw [l1821, y1821, z1821] at X1821
    obtain ⟨raw_1821, rfl, Nq1821, e1821, p1821_0, p1821_1, p1821_2, p1821_3, p1821_4⟩ := hQ1821
    have N1821 := Fr.app N1803 Nq1821
    obtain ⟨T1822, X1822, e1822, st1822⟩ := getS2 X1821 hx hZ hown (host := "") (Or.inl (H 35 _ rfl)) Via.refl e1821 f1820 (g := (mkF m 81 #[vi q0, vi q1, vi q2, vi q3, vi q4, vi ig, vi 4, vi rrv_1586, vi rrv_1587, vi rrv_1588, vi rrv_1589, vr rso_1803, vr raw_1821, .unset, .unset, .unset, .unset] [(.ref rso_1803), (.ref raw_1821)])) rfl (hb hby at_81)
    obtain ⟨cq1823, kq1823, q1823a, q1823b, q1823c⟩ := isOf hZ e1822 p1821_0
    obtain ⟨_, _, ⟨T1823, L1823, k1823, n1823⟩, -, X1823, ⟨Lc1823, hQ1823, l1823, y1823, z1823⟩, st1823⟩ := X1822.virtualBack hx hown (mvT hZ (H 38 _ rfl)) (mvT hZ (H 39 _ rfl)) (notFace_of_selects (args := #[]) (mvT hZ (H 41 _ rfl))) (mvT hZ (H 41 _ rfl)) (mvT hZ (H 40 _ rfl)) (by decide) (backOf (W := 0) (rm7n4 l Z a0 hw [] raw_1821 rso_1803 al cs vf rrb_1803 rrk_1803 ig rrv_1586 rrv_1587 rrv_1588 rrv_1589 T1803.heap n0 Zs1803 O1803 Scs hcs Ssf hvf p1821_0 p1821_1 p1821_2 p1821_3 p1821_4 f1806 f1807 p1803_0 p1803_1 p1803_2 p1803_3 p1586_0 p1587_0 p1588_0 p1589_0) hZ (H 42 _ rfl) (H 31 _ rfl) (by decide) (by decide)) q1823a q1823c (g := (mkF m 84 #[vi q0, vi q1, vi q2, vi q3, vi q4, vi ig, vi 4, vi rrv_1586, vi rrv_1587, vi rrv_1588, vi rrv_1589, vr rso_1803, vr raw_1821, .unset, .unset, .unset, .unset] [(.ref al), (.ref rso_1803), (.ref raw_1821)])) rfl (by rw [hml]; rfl) (Steps.refl _) (argsL := [(.ref rso_1803), (.ref al)]) (rest := []) (lenOf own_pd463 rfl) rfl (Nat.le_of_eq rfl) (hb hby at_84) (fun _ _ => ⟨rfl, e1822, (by decide : 3 + 0 ≤ _), (by decide : 12 + 0 ≤ _)⟩)
    dsimp only [Pt.U, Pt.locs, Pt.cells, Pt.slots] at X1823 l1823 y1823 z1823 st1823 hQ1823
    rw [l1823, y1823, z1823] at X1823
    obtain ⟨rfl, Nq1823, e1823⟩ := hQ1823
    have N1823 := Fr.app N1821 Nq1823
    have pre1824 : ∀ t, Steps p.tables e below (T1823.setTop (mkF m 87 #[vi q0, vi q1, vi q2, vi q3, vi q4, vi ig, vi 4, vi rrv_1586, vi rrv_1587, vi rrv_1588, vi rrv_1589, vr rso_1803, vr raw_1821, .unset, .unset, .unset, .unset] [(.int (own_ac ig [rrv_1589, rrv_1588, rrv_1587, rrv_1586]))])) t → SG p e below G0 t := by
      intro t k
      refine pre1590 t ?_
      show Sp p e below m T1589 48 #[vi q0, vi q1, vi q2, vi q3, vi q4, vi ig, vi 4, vi rrv_1586, vi rrv_1587, vi rrv_1588, vi rrv_1589, .unset, .unset, .unset, .unset, .unset, .unset] [] _
      refine XS.iload X1589.here hx rfl (hb hby at_48) rfl ?_
      refine XS.iload X1589.here hx rfl (hb hby at_50) rfl ?_
      refine XS.iload X1589.here hx rfl (hb hby at_52) rfl ?_
      refine XS.iload X1589.here hx rfl (hb hby at_54) rfl ?_
      refine XS.iload X1589.here hx rfl (hb hby at_56) rfl ?_
      refine st1803 _ ?_
      show Sp p e below m T1803 61 #[vi q0, vi q1, vi q2, vi q3, vi q4, vi ig, vi 4, vi rrv_1586, vi rrv_1587, vi rrv_1588, vi rrv_1589, .unset, .unset, .unset, .unset, .unset, .unset] [(.ref rso_1803)] _
      refine XS.astore X1803.here hx rfl (hb hby at_61) rfl rfl (l' := #[vi q0, vi q1, vi q2, vi q3, vi q4, vi ig, vi 4, vi rrv_1586, vi rrv_1587, vi rrv_1588, vi rrv_1589, vr rso_1803, .unset, .unset, .unset, .unset, .unset]) rfl ?_
      refine XS.iload X1803.here hx rfl (hb hby at_63) rfl ?_
      refine st1821 _ ?_
      show Sp p e below m T1821 68 #[vi q0, vi q1, vi q2, vi q3, vi q4, vi ig, vi 4, vi rrv_1586, vi rrv_1587, vi rrv_1588, vi rrv_1589, vr rso_1803, .unset, .unset, .unset, .unset, .unset] [(.ref raw_1821)] _
      refine XS.astore X1821.here hx rfl (hb hby at_68) rfl rfl (l' := #[vi q0, vi q1, vi q2, vi q3, vi q4, vi ig, vi 4, vi rrv_1586, vi rrv_1587, vi rrv_1588, vi rrv_1589, vr rso_1803, vr raw_1821, .unset, .unset, .unset, .unset]) rfl ?_
      refine XS.aload X1821.here hx rfl (hb hby at_70) rfl rfl ?_
      refine XS.ifnonnullYes X1821.here hx rfl (pc0 := 72) (pc' := 77) rfl (hb hby at_72) rfl (by decide) (by decide) ?_
      refine XS.aload X1821.here hx rfl (hb hby at_77) rfl rfl ?_
      refine XS.aload X1821.here hx rfl (hb hby at_79) rfl rfl ?_
      refine st1822 _ ?_
      show Sp p e below m T1822 84 #[vi q0, vi q1, vi q2, vi q3, vi q4, vi ig, vi 4, vi rrv_1586, vi rrv_1587, vi rrv_1588, vi rrv_1589, vr rso_1803, vr raw_1821, .unset, .unset, .unset, .unset] [(.ref al), (.ref rso_1803), (.ref raw_1821)] _
      refine st1823.trans ?_
      exact k
    obtain ⟨act, he1825⟩ : ∃ z : Int32, z = (own_ac ig [rrv_1589, rrv_1588, rrv_1587, rrv_1586]) := ⟨_, rfl⟩
    rw [← he1825] at pre1824
    have pre1826 : ∀ t, Sp p e below m T1823 95 #[vi q0, vi q1, vi q2, vi q3, vi q4, vi ig, vi 4, vi rrv_1586, vi rrv_1587, vi rrv_1588, vi rrv_1589, vr rso_1803, vr raw_1821, vi act, vi 0, vi 0, .unset] [] t → SG p e below G0 t := by
      intro t k
      refine pre1824 t ?_
      show Sp p e below m T1823 87 #[vi q0, vi q1, vi q2, vi q3, vi q4, vi ig, vi 4, vi rrv_1586, vi rrv_1587, vi rrv_1588, vi rrv_1589, vr rso_1803, vr raw_1821, .unset, .unset, .unset, .unset] [(.int act)] _
      refine XS.istore X1823.here hx rfl (hb hby at_87) rfl (l' := #[vi q0, vi q1, vi q2, vi q3, vi q4, vi ig, vi 4, vi rrv_1586, vi rrv_1587, vi rrv_1588, vi rrv_1589, vr rso_1803, vr raw_1821, vi act, .unset, .unset, .unset]) rfl ?_
      refine XS.iconst X1823.here hx rfl (hb hby at_89) ?_
      refine XS.istore X1823.here hx rfl (hb hby at_90) rfl (l' := #[vi q0, vi q1, vi q2, vi q3, vi q4, vi ig, vi 4, vi rrv_1586, vi rrv_1587, vi rrv_1588, vi rrv_1589, vr rso_1803, vr raw_1821, vi act, vi 0, .unset, .unset]) rfl ?_
      refine XS.iconst X1823.here hx rfl (hb hby at_92) ?_
      refine XS.istore X1823.here hx rfl (hb hby at_93) rfl (l' := #[vi q0, vi q1, vi q2, vi q3, vi q4, vi ig, vi 4, vi rrv_1586, vi rrv_1587, vi rrv_1588, vi rrv_1589, vr rso_1803, vr raw_1821, vi act, vi 0, vi 0, .unset]) rfl ?_
      exact k
    obtain ⟨Tm1833, lm1833, n_3, t_3, Xm1833, em1833, Nm1833, hv1835, pre1834⟩ : ∃ (Tm1833 : State) (lm1833 : List Loc) (n_3 : Int32) (t_3 : Int32), Stand p l e room_1 s m #[(.int q0), (.int q1), (.int q2), (.int q3), (.int q4)] below meth c Tm1833 lm1833 3 12 ∧ Tm1833.heap = T1803.heap ∧ Fr n0 lm1833 ∧ (n_3 = own_ps rrv_1589 (0 : Int32) ∧ t_3 = own_tt rrv_1589 (0 : Int32) (0 : Int32)) ∧ ∀ t, Sp p e below m Tm1833 127 #[vi q0, vi q1, vi q2, vi q3, vi q4, vi ig, vi 4, vi rrv_1586, vi rrv_1587, vi rrv_1588, vi rrv_1589, vr rso_1803, vr raw_1821, vi act, vi n_3, vi t_3, .unset] [] t → SG p e below G0 t := by
      obtain ⟨_, _, ⟨T1827, L1827, k1827, n1827⟩, -, X1827, ⟨Lc1827, hQ1827, l1827, y1827, z1827⟩, st1827⟩ := Jvm.LawKit.callS X1823 hx hown (mvT hZ (H 122 _ rfl)) (mvT hZ (H 123 _ rfl)) (mvT hZ (H 2 _ rfl)) (mvT hZ (H 124 _ rfl)) (by decide) (backOf (W := 0) (rm22 l Z a0 hw [] rrv_1589  T1803.heap n0 Zs1803 ) hZ (H 124 _ rfl) (H 2 _ rfl) (by decide) (by decide)) (g := (mkF m 103 #[vi q0, vi q1, vi q2, vi q3, vi q4, vi ig, vi 4, vi rrv_1586, vi rrv_1587, vi rrv_1588, vi rrv_1589, vr rso_1803, vr raw_1821, vi act, vi 0, vi 0, .unset] [(.int rrv_1589)])) rfl (by rw [hml]; rfl) (argsL := [(.int rrv_1589)]) (rest := []) (lenOf own_pd215 rfl) rfl (Nat.le_of_eq rfl) (hb hby at_103) (fun _ _ => ⟨rfl, e1823, (by decide : 3 + 0 ≤ _), (by decide : 12 + 0 ≤ _)⟩)
      dsimp only [Pt.U, Pt.locs, Pt.cells, Pt.slots] at X1827 l1827 y1827 z1827 st1827 hQ1827
      rw [l1827, y1827, z1827] at X1827
      obtain ⟨rfl, Nq1827, e1827⟩ := hQ1827
      have N1827 := Fr.app N1823 Nq1827
      have pre1828 : ∀ t, Sp p e below m T1827 106 #[vi q0, vi q1, vi q2, vi q3, vi q4, vi ig, vi 4, vi rrv_1586, vi rrv_1587, vi rrv_1588, vi rrv_1589, vr rso_1803, vr raw_1821, vi act, vi 0, vi 0, .unset] [(.int (own_dg rrv_1589))] t → SG p e below G0 t := by
        intro t k
        refine pre1826 t ?_
        show Sp p e below m T1823 95 #[vi q0, vi q1, vi q2, vi q3, vi q4, vi ig, vi 4, vi rrv_1586, vi rrv_1587, vi rrv_1588, vi rrv_1589, vr rso_1803, vr raw_1821, vi act, vi 0, vi 0, .unset] [] _
        refine XS.iload X1823.here hx rfl (hb hby at_95) rfl ?_
        refine XS.iconst X1823.here hx rfl (hb hby at_97) ?_
        refine XS.icmpNo X1823.here hx rfl (hb hby at_98) rfl (tlt (by decide : ((3 : Int32) < (4 : Int32)))).2.2.2 ?_
        refine XS.iload X1823.here hx rfl (hb hby at_101) rfl ?_
        refine st1827 _ ?_
        exact k
      by_cases hc106_1829 : (own_dg rrv_1589) = (0 : Int32)
      · have pre1830 : ∀ t, Sp p e below m T1827 127 #[vi q0, vi q1, vi q2, vi q3, vi q4, vi ig, vi 4, vi rrv_1586, vi rrv_1587, vi rrv_1588, vi rrv_1589, vr rso_1803, vr raw_1821, vi act, vi 0, vi 0, .unset] [] t → SG p e below G0 t := by
          intro t k
          refine pre1828 t ?_
          show Sp p e below m T1827 106 #[vi q0, vi q1, vi q2, vi q3, vi q4, vi ig, vi 4, vi rrv_1586, vi rrv_1587, vi rrv_1588, vi rrv_1589, vr rso_1803, vr raw_1821, vi act, vi 0, vi 0, .unset] [(.int (own_dg rrv_1589))] _
          refine XS.ifYes X1827.here hx rfl (pc0 := 106) (pc' := 127) rfl (hb hby at_106) rfl ((if0 _ _).trans (teq hc106_1829).1) (by decide) (by decide) ?_
          exact k
        exact ⟨T1827, _, (0 : Int32), (0 : Int32), X1827, e1827, N1827, (by exact ⟨by rw [own_ps, if_pos hc106_1829] <;> decide, by rw [own_tt, if_pos hc106_1829]⟩), pre1830⟩
      · obtain ⟨_, _, ⟨T1831, L1831, k1831, n1831⟩, -, X1831, ⟨Lc1831, hQ1831, l1831, y1831, z1831⟩, st1831⟩ := Jvm.LawKit.callS X1827 hx hown (mvT hZ (H 125 _ rfl)) (mvT hZ (H 126 _ rfl)) (mvT hZ (H 2 _ rfl)) (mvT hZ (H 127 _ rfl)) (by decide) (backOf (W := 1) (rm23 l Z a0 hw [] (0 : Int32) (rrv_1589 - (48 : Int32))  T1803.heap n0 Zs1803 ) hZ (H 127 _ rfl) (H 2 _ rfl) (by decide) (by decide)) (g := (mkF m 118 #[vi q0, vi q1, vi q2, vi q3, vi q4, vi ig, vi 4, vi rrv_1586, vi rrv_1587, vi rrv_1588, vi rrv_1589, vr rso_1803, vr raw_1821, vi act, vi 0, vi 0, .unset] [(.int (rrv_1589 - (48 : Int32))), (.int 0), (.int 0)])) rfl (by rw [hml]; rfl) (argsL := [(.int 0), (.int (rrv_1589 - (48 : Int32)))]) (rest := [(.int 0)]) (lenOf own_pd452 rfl) rfl (Nat.le_of_eq rfl) (hb hby at_118) (fun _ _ => ⟨rfl, e1827, (by decide : 3 + 0 ≤ _), (by decide : 12 + 0 ≤ _)⟩)
        dsimp only [Pt.U, Pt.locs, Pt.cells, Pt.slots] at X1831 l1831 y1831 z1831 st1831 hQ1831
        rw [l1831, y1831, z1831] at X1831
        obtain ⟨rfl, Nq1831, e1831⟩ := hQ1831
        have N1831 := Fr.app N1827 Nq1831
        have pre1832 : ∀ t, Sp p e below m T1831 127 #[vi q0, vi q1, vi q2, vi q3, vi q4, vi ig, vi 4, vi rrv_1586, vi rrv_1587, vi rrv_1588, vi rrv_1589, vr rso_1803, vr raw_1821, vi act, vi 1, vi ((0 : Int32) + (own_tL (0 : Int32) (rrv_1589 - (48 : Int32)))), .unset] [] t → SG p e below G0 t := by
          intro t k
          refine pre1828 t ?_
          show Sp p e below m T1827 106 #[vi q0, vi q1, vi q2, vi q3, vi q4, vi ig, vi 4, vi rrv_1586, vi rrv_1587, vi rrv_1588, vi rrv_1589, vr rso_1803, vr raw_1821, vi act, vi 0, vi 0, .unset] [(.int (own_dg rrv_1589))] _
          refine XS.ifNo X1827.here hx rfl (hb hby at_106) rfl ((if0 _ _).trans (feq hc106_1829).1) ?_
          refine XS.iload X1827.here hx rfl (hb hby at_109) rfl ?_
          refine XS.iload X1827.here hx rfl (hb hby at_111) rfl ?_
          refine XS.iload X1827.here hx rfl (hb hby at_113) rfl ?_
          refine XS.bipush X1827.here hx rfl (hb hby at_115) ?_
          refine XS.isub X1827.here hx rfl (hb hby at_117) rfl ?_
          refine st1831 _ ?_
          show Sp p e below m T1831 121 #[vi q0, vi q1, vi q2, vi q3, vi q4, vi ig, vi 4, vi rrv_1586, vi rrv_1587, vi rrv_1588, vi rrv_1589, vr rso_1803, vr raw_1821, vi act, vi 0, vi 0, .unset] [(.int (own_tL (0 : Int32) (rrv_1589 - (48 : Int32)))), (.int 0)] _
          refine XS.iadd X1831.here hx rfl (hb hby at_121) rfl ?_
          refine XS.istore X1831.here hx rfl (hb hby at_122) rfl (l' := #[vi q0, vi q1, vi q2, vi q3, vi q4, vi ig, vi 4, vi rrv_1586, vi rrv_1587, vi rrv_1588, vi rrv_1589, vr rso_1803, vr raw_1821, vi act, vi 0, vi ((0 : Int32) + (own_tL (0 : Int32) (rrv_1589 - (48 : Int32)))), .unset]) rfl ?_
          refine XS.iinc X1831.here hx rfl (hb hby at_124) rfl (l' := #[vi q0, vi q1, vi q2, vi q3, vi q4, vi ig, vi 4, vi rrv_1586, vi rrv_1587, vi rrv_1588, vi rrv_1589, vr rso_1803, vr raw_1821, vi act, vi 1, vi ((0 : Int32) + (own_tL (0 : Int32) (rrv_1589 - (48 : Int32)))), .unset]) rfl ?_
          exact k
        exact ⟨T1831, _, (1 : Int32), ((0 : Int32) + (own_tL (0 : Int32) (rrv_1589 - (48 : Int32)))), X1831, e1831, N1831, (by exact ⟨by rw [own_ps, if_neg hc106_1829] <;> decide, by rw [own_tt, if_neg hc106_1829]⟩), pre1832⟩
    obtain ⟨Tm1842, lm1842, n_2, t_2, Xm1842, em1842, Nm1842, hv1844, pre1843⟩ : ∃ (Tm1842 : State) (lm1842 : List Loc) (n_2 : Int32) (t_2 : Int32), Stand p l e room_1 s m #[(.int q0), (.int q1), (.int q2), (.int q3), (.int q4)] below meth c Tm1842 lm1842 3 12 ∧ Tm1842.heap = T1803.heap ∧ Fr n0 lm1842 ∧ (n_2 = own_ps rrv_1588 n_3 ∧ t_2 = own_tt rrv_1588 n_3 t_3) ∧ ∀ t, Sp p e below m Tm1842 159 #[vi q0, vi q1, vi q2, vi q3, vi q4, vi ig, vi 4, vi rrv_1586, vi rrv_1587, vi rrv_1588, vi rrv_1589, vr rso_1803, vr raw_1821, vi act, vi n_2, vi t_2, .unset] [] t → SG p e below G0 t := by
      obtain ⟨_, _, ⟨T1836, L1836, k1836, n1836⟩, -, X1836, ⟨Lc1836, hQ1836, l1836, y1836, z1836⟩, st1836⟩ := Jvm.LawKit.callS Xm1833 hx hown (mvT hZ (H 122 _ rfl)) (mvT hZ (H 123 _ rfl)) (mvT hZ (H 2 _ rfl)) (mvT hZ (H 124 _ rfl)) (by decide) (backOf (W := 0) (rm22 l Z a0 hw [] rrv_1588  T1803.heap n0 Zs1803 ) hZ (H 124 _ rfl) (H 2 _ rfl) (by decide) (by decide)) (g := (mkF m 135 #[vi q0, vi q1, vi q2, vi q3, vi q4, vi ig, vi 4, vi rrv_1586, vi rrv_1587, vi rrv_1588, vi rrv_1589, vr rso_1803, vr raw_1821, vi act, vi n_3, vi t_3, .unset] [(.int rrv_1588)])) rfl (by rw [hml]; rfl) (argsL := [(.int rrv_1588)]) (rest := []) (lenOf own_pd215 rfl) rfl (Nat.le_of_eq rfl) (hb hby at_135) (fun _ _ => ⟨rfl, em1833, (by decide : 3 + 0 ≤ _), (by decide : 12 + 0 ≤ _)⟩)
      dsimp only [Pt.U, Pt.locs, Pt.cells, Pt.slots] at X1836 l1836 y1836 z1836 st1836 hQ1836
      rw [l1836, y1836, z1836] at X1836
      obtain ⟨rfl, Nq1836, e1836⟩ := hQ1836
      have N1836 := Fr.app Nm1833 Nq1836
      have pre1837 : ∀ t, Sp p e below m T1836 138 #[vi q0, vi q1, vi q2, vi q3, vi q4, vi ig, vi 4, vi rrv_1586, vi rrv_1587, vi rrv_1588, vi rrv_1589, vr rso_1803, vr raw_1821, vi act, vi n_3, vi t_3, .unset] [(.int (own_dg rrv_1588))] t → SG p e below G0 t := by
        intro t k
        refine pre1834 t ?_
        show Sp p e below m Tm1833 127 #[vi q0, vi q1, vi q2, vi q3, vi q4, vi ig, vi 4, vi rrv_1586, vi rrv_1587, vi rrv_1588, vi rrv_1589, vr rso_1803, vr raw_1821, vi act, vi n_3, vi t_3, .unset] [] _
        refine XS.iload Xm1833.here hx rfl (hb hby at_127) rfl ?_
        refine XS.iconst Xm1833.here hx rfl (hb hby at_129) ?_
        refine XS.icmpNo Xm1833.here hx rfl (hb hby at_130) rfl (tlt (by decide : ((2 : Int32) < (4 : Int32)))).2.2.2 ?_
        refine XS.iload Xm1833.here hx rfl (hb hby at_133) rfl ?_
        refine st1836 _ ?_
        exact k
      by_cases hc138_1838 : (own_dg rrv_1588) = (0 : Int32)
      · have pre1839 : ∀ t, Sp p e below m T1836 159 #[vi q0, vi q1, vi q2, vi q3, vi q4, vi ig, vi 4, vi rrv_1586, vi rrv_1587, vi rrv_1588, vi rrv_1589, vr rso_1803, vr raw_1821, vi act, vi n_3, vi t_3, .unset] [] t → SG p e below G0 t := by
          intro t k
          refine pre1837 t ?_
          show Sp p e below m T1836 138 #[vi q0, vi q1, vi q2, vi q3, vi q4, vi ig, vi 4, vi rrv_1586, vi rrv_1587, vi rrv_1588, vi rrv_1589, vr rso_1803, vr raw_1821, vi act, vi n_3, vi t_3, .unset] [(.int (own_dg rrv_1588))] _
          refine XS.ifYes X1836.here hx rfl (pc0 := 138) (pc' := 159) rfl (hb hby at_138) rfl ((if0 _ _).trans (teq hc138_1838).1) (by decide) (by decide) ?_
          exact k
        exact ⟨T1836, _, n_3, t_3, X1836, e1836, N1836, (by exact ⟨by rw [own_ps, if_pos hc138_1838] <;> decide, by rw [own_tt, if_pos hc138_1838]⟩), pre1839⟩
      · obtain ⟨_, _, ⟨T1840, L1840, k1840, n1840⟩, -, X1840, ⟨Lc1840, hQ1840, l1840, y1840, z1840⟩, st1840⟩ := Jvm.LawKit.callS X1836 hx hown (mvT hZ (H 125 _ rfl)) (mvT hZ (H 126 _ rfl)) (mvT hZ (H 2 _ rfl)) (mvT hZ (H 127 _ rfl)) (by decide) (backOf (W := 1) (rm23 l Z a0 hw [] n_3 (rrv_1588 - (48 : Int32))  T1803.heap n0 Zs1803 ) hZ (H 127 _ rfl) (H 2 _ rfl) (by decide) (by decide)) (g := (mkF m 150 #[vi q0, vi q1, vi q2, vi q3, vi q4, vi ig, vi 4, vi rrv_1586, vi rrv_1587, vi rrv_1588, vi rrv_1589, vr rso_1803, vr raw_1821, vi act, vi n_3, vi t_3, .unset] [(.int (rrv_1588 - (48 : Int32))), (.int n_3), (.int t_3)])) rfl (by rw [hml]; rfl) (argsL := [(.int n_3), (.int (rrv_1588 - (48 : Int32)))]) (rest := [(.int t_3)]) (lenOf own_pd452 rfl) rfl (Nat.le_of_eq rfl) (hb hby at_150) (fun _ _ => ⟨rfl, e1836, (by decide : 3 + 0 ≤ _), (by decide : 12 + 0 ≤ _)⟩)
        dsimp only [Pt.U, Pt.locs, Pt.cells, Pt.slots] at X1840 l1840 y1840 z1840 st1840 hQ1840
        rw [l1840, y1840, z1840] at X1840
        obtain ⟨rfl, Nq1840, e1840⟩ := hQ1840
        have N1840 := Fr.app N1836 Nq1840
        have pre1841 : ∀ t, Sp p e below m T1840 159 #[vi q0, vi q1, vi q2, vi q3, vi q4, vi ig, vi 4, vi rrv_1586, vi rrv_1587, vi rrv_1588, vi rrv_1589, vr rso_1803, vr raw_1821, vi act, vi (n_3 + (1 : Int32)), vi (t_3 + (own_tL n_3 (rrv_1588 - (48 : Int32)))), .unset] [] t → SG p e below G0 t := by
          intro t k
          refine pre1837 t ?_
          show Sp p e below m T1836 138 #[vi q0, vi q1, vi q2, vi q3, vi q4, vi ig, vi 4, vi rrv_1586, vi rrv_1587, vi rrv_1588, vi rrv_1589, vr rso_1803, vr raw_1821, vi act, vi n_3, vi t_3, .unset] [(.int (own_dg rrv_1588))] _
          refine XS.ifNo X1836.here hx rfl (hb hby at_138) rfl ((if0 _ _).trans (feq hc138_1838).1) ?_
          refine XS.iload X1836.here hx rfl (hb hby at_141) rfl ?_
          refine XS.iload X1836.here hx rfl (hb hby at_143) rfl ?_
          refine XS.iload X1836.here hx rfl (hb hby at_145) rfl ?_
          refine XS.bipush X1836.here hx rfl (hb hby at_147) ?_
          refine XS.isub X1836.here hx rfl (hb hby at_149) rfl ?_
          refine st1840 _ ?_
          show Sp p e below m T1840 153 #[vi q0, vi q1, vi q2, vi q3, vi q4, vi ig, vi 4, vi rrv_1586, vi rrv_1587, vi rrv_1588, vi rrv_1589, vr rso_1803, vr raw_1821, vi act, vi n_3, vi t_3, .unset] [(.int (own_tL n_3 (rrv_1588 - (48 : Int32)))), (.int t_3)] _
          refine XS.iadd X1840.here hx rfl (hb hby at_153) rfl ?_
          refine XS.istore X1840.here hx rfl (hb hby at_154) rfl (l' := #[vi q0, vi q1, vi q2, vi q3, vi q4, vi ig, vi 4, vi rrv_1586, vi rrv_1587, vi rrv_1588, vi rrv_1589, vr rso_1803, vr raw_1821, vi act, vi n_3, vi (t_3 + (own_tL n_3 (rrv_1588 - (48 : Int32)))), .unset]) rfl ?_
          refine XS.iinc X1840.here hx rfl (hb hby at_156) rfl (l' := #[vi q0, vi q1, vi q2, vi q3, vi q4, vi ig, vi 4, vi rrv_1586, vi rrv_1587, vi rrv_1588, vi rrv_1589, vr rso_1803, vr raw_1821, vi act, vi (n_3 + (1 : Int32)), vi (t_3 + (own_tL n_3 (rrv_1588 - (48 : Int32)))), .unset]) rfl ?_
          exact k
        exact ⟨T1840, _, (n_3 + (1 : Int32)), (t_3 + (own_tL n_3 (rrv_1588 - (48 : Int32)))), X1840, e1840, N1840, (by exact ⟨by rw [own_ps, if_neg hc138_1838] <;> decide, by rw [own_tt, if_neg hc138_1838]⟩), pre1841⟩
    obtain ⟨Tm1851, lm1851, n_1, t_1, Xm1851, em1851, Nm1851, hv1853, pre1852⟩ : ∃ (Tm1851 : State) (lm1851 : List Loc) (n_1 : Int32) (t_1 : Int32), Stand p l e room_1 s m #[(.int q0), (.int q1), (.int q2), (.int q3), (.int q4)] below meth c Tm1851 lm1851 3 12 ∧ Tm1851.heap = T1803.heap ∧ Fr n0 lm1851 ∧ (n_1 = own_ps rrv_1587 n_2 ∧ t_1 = own_tt rrv_1587 n_2 t_2) ∧ ∀ t, Sp p e below m Tm1851 191 #[vi q0, vi q1, vi q2, vi q3, vi q4, vi ig, vi 4, vi rrv_1586, vi rrv_1587, vi rrv_1588, vi rrv_1589, vr rso_1803, vr raw_1821, vi act, vi n_1, vi t_1, .unset] [] t → SG p e below G0 t := by
      obtain ⟨_, _, ⟨T1845, L1845, k1845, n1845⟩, -, X1845, ⟨Lc1845, hQ1845, l1845, y1845, z1845⟩, st1845⟩ := Jvm.LawKit.callS Xm1842 hx hown (mvT hZ (H 122 _ rfl)) (mvT hZ (H 123 _ rfl)) (mvT hZ (H 2 _ rfl)) (mvT hZ (H 124 _ rfl)) (by decide) (backOf (W := 0) (rm22 l Z a0 hw [] rrv_1587  T1803.heap n0 Zs1803 ) hZ (H 124 _ rfl) (H 2 _ rfl) (by decide) (by decide)) (g := (mkF m 167 #[vi q0, vi q1, vi q2, vi q3, vi q4, vi ig, vi 4, vi rrv_1586, vi rrv_1587, vi rrv_1588, vi rrv_1589, vr rso_1803, vr raw_1821, vi act, vi n_2, vi t_2, .unset] [(.int rrv_1587)])) rfl (by rw [hml]; rfl) (argsL := [(.int rrv_1587)]) (rest := []) (lenOf own_pd215 rfl) rfl (Nat.le_of_eq rfl) (hb hby at_167) (fun _ _ => ⟨rfl, em1842, (by decide : 3 + 0 ≤ _), (by decide : 12 + 0 ≤ _)⟩)
      dsimp only [Pt.U, Pt.locs, Pt.cells, Pt.slots] at X1845 l1845 y1845 z1845 st1845 hQ1845
      rw [l1845, y1845, z1845] at X1845
      obtain ⟨rfl, Nq1845, e1845⟩ := hQ1845
      have N1845 := Fr.app Nm1842 Nq1845
      have pre1846 : ∀ t, Sp p e below m T1845 170 #[vi q0, vi q1, vi q2, vi q3, vi q4, vi ig, vi 4, vi rrv_1586, vi rrv_1587, vi rrv_1588, vi rrv_1589, vr rso_1803, vr raw_1821, vi act, vi n_2, vi t_2, .unset] [(.int (own_dg rrv_1587))] t → SG p e below G0 t := by
        intro t k
        refine pre1843 t ?_
        show Sp p e below m Tm1842 159 #[vi q0, vi q1, vi q2, vi q3, vi q4, vi ig, vi 4, vi rrv_1586, vi rrv_1587, vi rrv_1588, vi rrv_1589, vr rso_1803, vr raw_1821, vi act, vi n_2, vi t_2, .unset] [] _
        refine XS.iload Xm1842.here hx rfl (hb hby at_159) rfl ?_
        refine XS.iconst Xm1842.here hx rfl (hb hby at_161) ?_
        refine XS.icmpNo Xm1842.here hx rfl (hb hby at_162) rfl (tlt (by decide : ((1 : Int32) < (4 : Int32)))).2.2.2 ?_
        refine XS.iload Xm1842.here hx rfl (hb hby at_165) rfl ?_
        refine st1845 _ ?_
        exact k
      by_cases hc170_1847 : (own_dg rrv_1587) = (0 : Int32)
      · have pre1848 : ∀ t, Sp p e below m T1845 191 #[vi q0, vi q1, vi q2, vi q3, vi q4, vi ig, vi 4, vi rrv_1586, vi rrv_1587, vi rrv_1588, vi rrv_1589, vr rso_1803, vr raw_1821, vi act, vi n_2, vi t_2, .unset] [] t → SG p e below G0 t := by
          intro t k
          refine pre1846 t ?_
          show Sp p e below m T1845 170 #[vi q0, vi q1, vi q2, vi q3, vi q4, vi ig, vi 4, vi rrv_1586, vi rrv_1587, vi rrv_1588, vi rrv_1589, vr rso_1803, vr raw_1821, vi act, vi n_2, vi t_2, .unset] [(.int (own_dg rrv_1587))] _
          refine XS.ifYes X1845.here hx rfl (pc0 := 170) (pc' := 191) rfl (hb hby at_170) rfl ((if0 _ _).trans (teq hc170_1847).1) (by decide) (by decide) ?_
          exact k
        exact ⟨T1845, _, n_2, t_2, X1845, e1845, N1845, (by exact ⟨by rw [own_ps, if_pos hc170_1847] <;> decide, by rw [own_tt, if_pos hc170_1847]⟩), pre1848⟩
      · obtain ⟨_, _, ⟨T1849, L1849, k1849, n1849⟩, -, X1849, ⟨Lc1849, hQ1849, l1849, y1849, z1849⟩, st1849⟩ := Jvm.LawKit.callS X1845 hx hown (mvT hZ (H 125 _ rfl)) (mvT hZ (H 126 _ rfl)) (mvT hZ (H 2 _ rfl)) (mvT hZ (H 127 _ rfl)) (by decide) (backOf (W := 1) (rm23 l Z a0 hw [] n_2 (rrv_1587 - (48 : Int32))  T1803.heap n0 Zs1803 ) hZ (H 127 _ rfl) (H 2 _ rfl) (by decide) (by decide)) (g := (mkF m 182 #[vi q0, vi q1, vi q2, vi q3, vi q4, vi ig, vi 4, vi rrv_1586, vi rrv_1587, vi rrv_1588, vi rrv_1589, vr rso_1803, vr raw_1821, vi act, vi n_2, vi t_2, .unset] [(.int (rrv_1587 - (48 : Int32))), (.int n_2), (.int t_2)])) rfl (by rw [hml]; rfl) (argsL := [(.int n_2), (.int (rrv_1587 - (48 : Int32)))]) (rest := [(.int t_2)]) (lenOf own_pd452 rfl) rfl (Nat.le_of_eq rfl) (hb hby at_182) (fun _ _ => ⟨rfl, e1845, (by decide : 3 + 0 ≤ _), (by decide : 12 + 0 ≤ _)⟩)
        dsimp only [Pt.U, Pt.locs, Pt.cells, Pt.slots] at X1849 l1849 y1849 z1849 st1849 hQ1849
        rw [l1849, y1849, z1849] at X1849
        obtain ⟨rfl, Nq1849, e1849⟩ := hQ1849
        have N1849 := Fr.app N1845 Nq1849
        have pre1850 : ∀ t, Sp p e below m T1849 191 #[vi q0, vi q1, vi q2, vi q3, vi q4, vi ig, vi 4, vi rrv_1586, vi rrv_1587, vi rrv_1588, vi rrv_1589, vr rso_1803, vr raw_1821, vi act, vi (n_2 + (1 : Int32)), vi (t_2 + (own_tL n_2 (rrv_1587 - (48 : Int32)))), .unset] [] t → SG p e below G0 t := by
          intro t k
          refine pre1846 t ?_
          show Sp p e below m T1845 170 #[vi q0, vi q1, vi q2, vi q3, vi q4, vi ig, vi 4, vi rrv_1586, vi rrv_1587, vi rrv_1588, vi rrv_1589, vr rso_1803, vr raw_1821, vi act, vi n_2, vi t_2, .unset] [(.int (own_dg rrv_1587))] _
          refine XS.ifNo X1845.here hx rfl (hb hby at_170) rfl ((if0 _ _).trans (feq hc170_1847).1) ?_
          refine XS.iload X1845.here hx rfl (hb hby at_173) rfl ?_
          refine XS.iload X1845.here hx rfl (hb hby at_175) rfl ?_
          refine XS.iload X1845.here hx rfl (hb hby at_177) rfl ?_
          refine XS.bipush X1845.here hx rfl (hb hby at_179) ?_
          refine XS.isub X1845.here hx rfl (hb hby at_181) rfl ?_
          refine st1849 _ ?_
          show Sp p e below m T1849 185 #[vi q0, vi q1, vi q2, vi q3, vi q4, vi ig, vi 4, vi rrv_1586, vi rrv_1587, vi rrv_1588, vi rrv_1589, vr rso_1803, vr raw_1821, vi act, vi n_2, vi t_2, .unset] [(.int (own_tL n_2 (rrv_1587 - (48 : Int32)))), (.int t_2)] _
          refine XS.iadd X1849.here hx rfl (hb hby at_185) rfl ?_
          refine XS.istore X1849.here hx rfl (hb hby at_186) rfl (l' := #[vi q0, vi q1, vi q2, vi q3, vi q4, vi ig, vi 4, vi rrv_1586, vi rrv_1587, vi rrv_1588, vi rrv_1589, vr rso_1803, vr raw_1821, vi act, vi n_2, vi (t_2 + (own_tL n_2 (rrv_1587 - (48 : Int32)))), .unset]) rfl ?_
          refine XS.iinc X1849.here hx rfl (hb hby at_188) rfl (l' := #[vi q0, vi q1, vi q2, vi q3, vi q4, vi ig, vi 4, vi rrv_1586, vi rrv_1587, vi rrv_1588, vi rrv_1589, vr rso_1803, vr raw_1821, vi act, vi (n_2 + (1 : Int32)), vi (t_2 + (own_tL n_2 (rrv_1587 - (48 : Int32)))), .unset]) rfl ?_
          exact k
        exact ⟨T1849, _, (n_2 + (1 : Int32)), (t_2 + (own_tL n_2 (rrv_1587 - (48 : Int32)))), X1849, e1849, N1849, (by exact ⟨by rw [own_ps, if_neg hc170_1847] <;> decide, by rw [own_tt, if_neg hc170_1847]⟩), pre1850⟩
    obtain ⟨Tm1860, lm1860, n_0, t_0, Xm1860, em1860, Nm1860, hv1862, pre1861⟩ : ∃ (Tm1860 : State) (lm1860 : List Loc) (n_0 : Int32) (t_0 : Int32), Stand p l e room_1 s m #[(.int q0), (.int q1), (.int q2), (.int q3), (.int q4)] below meth c Tm1860 lm1860 3 12 ∧ Tm1860.heap = T1803.heap ∧ Fr n0 lm1860 ∧ (n_0 = own_ps rrv_1586 n_1 ∧ t_0 = own_tt rrv_1586 n_1 t_1) ∧ ∀ t, Sp p e below m Tm1860 222 #[vi q0, vi q1, vi q2, vi q3, vi q4, vi ig, vi 4, vi rrv_1586, vi rrv_1587, vi rrv_1588, vi rrv_1589, vr rso_1803, vr raw_1821, vi act, vi n_0, vi t_0, .unset] [] t → SG p e below G0 t := by
      obtain ⟨_, _, ⟨T1854, L1854, k1854, n1854⟩, -, X1854, ⟨Lc1854, hQ1854, l1854, y1854, z1854⟩, st1854⟩ := Jvm.LawKit.callS Xm1851 hx hown (mvT hZ (H 122 _ rfl)) (mvT hZ (H 123 _ rfl)) (mvT hZ (H 2 _ rfl)) (mvT hZ (H 124 _ rfl)) (by decide) (backOf (W := 0) (rm22 l Z a0 hw [] rrv_1586  T1803.heap n0 Zs1803 ) hZ (H 124 _ rfl) (H 2 _ rfl) (by decide) (by decide)) (g := (mkF m 198 #[vi q0, vi q1, vi q2, vi q3, vi q4, vi ig, vi 4, vi rrv_1586, vi rrv_1587, vi rrv_1588, vi rrv_1589, vr rso_1803, vr raw_1821, vi act, vi n_1, vi t_1, .unset] [(.int rrv_1586)])) rfl (by rw [hml]; rfl) (argsL := [(.int rrv_1586)]) (rest := []) (lenOf own_pd215 rfl) rfl (Nat.le_of_eq rfl) (hb hby at_198) (fun _ _ => ⟨rfl, em1851, (by decide : 3 + 0 ≤ _), (by decide : 12 + 0 ≤ _)⟩)
      dsimp only [Pt.U, Pt.locs, Pt.cells, Pt.slots] at X1854 l1854 y1854 z1854 st1854 hQ1854
      rw [l1854, y1854, z1854] at X1854
      obtain ⟨rfl, Nq1854, e1854⟩ := hQ1854
      have N1854 := Fr.app Nm1851 Nq1854
      have pre1855 : ∀ t, Sp p e below m T1854 201 #[vi q0, vi q1, vi q2, vi q3, vi q4, vi ig, vi 4, vi rrv_1586, vi rrv_1587, vi rrv_1588, vi rrv_1589, vr rso_1803, vr raw_1821, vi act, vi n_1, vi t_1, .unset] [(.int (own_dg rrv_1586))] t → SG p e below G0 t := by
        intro t k
        refine pre1852 t ?_
        show Sp p e below m Tm1851 191 #[vi q0, vi q1, vi q2, vi q3, vi q4, vi ig, vi 4, vi rrv_1586, vi rrv_1587, vi rrv_1588, vi rrv_1589, vr rso_1803, vr raw_1821, vi act, vi n_1, vi t_1, .unset] [] _
        refine XS.iload Xm1851.here hx rfl (hb hby at_191) rfl ?_
        refine XS.ifNo Xm1851.here hx rfl (hb hby at_193) rfl ((if0 _ _).trans (tlt (by decide : ((0 : Int32) < (4 : Int32)))).2.2.2) ?_
        refine XS.iload Xm1851.here hx rfl (hb hby at_196) rfl ?_
        refine st1854 _ ?_
        exact k
      by_cases hc201_1856 : (own_dg rrv_1586) = (0 : Int32)
      · have pre1857 : ∀ t, Sp p e below m T1854 222 #[vi q0, vi q1, vi q2, vi q3, vi q4, vi ig, vi 4, vi rrv_1586, vi rrv_1587, vi rrv_1588, vi rrv_1589, vr rso_1803, vr raw_1821, vi act, vi n_1, vi t_1, .unset] [] t → SG p e below G0 t := by
          intro t k
          refine pre1855 t ?_
          show Sp p e below m T1854 201 #[vi q0, vi q1, vi q2, vi q3, vi q4, vi ig, vi 4, vi rrv_1586, vi rrv_1587, vi rrv_1588, vi rrv_1589, vr rso_1803, vr raw_1821, vi act, vi n_1, vi t_1, .unset] [(.int (own_dg rrv_1586))] _
          refine XS.ifYes X1854.here hx rfl (pc0 := 201) (pc' := 222) rfl (hb hby at_201) rfl ((if0 _ _).trans (teq hc201_1856).1) (by decide) (by decide) ?_
          exact k
        exact ⟨T1854, _, n_1, t_1, X1854, e1854, N1854, (by exact ⟨by rw [own_ps, if_pos hc201_1856] <;> decide, by rw [own_tt, if_pos hc201_1856]⟩), pre1857⟩
      · obtain ⟨_, _, ⟨T1858, L1858, k1858, n1858⟩, -, X1858, ⟨Lc1858, hQ1858, l1858, y1858, z1858⟩, st1858⟩ := Jvm.LawKit.callS X1854 hx hown (mvT hZ (H 125 _ rfl)) (mvT hZ (H 126 _ rfl)) (mvT hZ (H 2 _ rfl)) (mvT hZ (H 127 _ rfl)) (by decide) (backOf (W := 1) (rm23 l Z a0 hw [] n_1 (rrv_1586 - (48 : Int32))  T1803.heap n0 Zs1803 ) hZ (H 127 _ rfl) (H 2 _ rfl) (by decide) (by decide)) (g := (mkF m 213 #[vi q0, vi q1, vi q2, vi q3, vi q4, vi ig, vi 4, vi rrv_1586, vi rrv_1587, vi rrv_1588, vi rrv_1589, vr rso_1803, vr raw_1821, vi act, vi n_1, vi t_1, .unset] [(.int (rrv_1586 - (48 : Int32))), (.int n_1), (.int t_1)])) rfl (by rw [hml]; rfl) (argsL := [(.int n_1), (.int (rrv_1586 - (48 : Int32)))]) (rest := [(.int t_1)]) (lenOf own_pd452 rfl) rfl (Nat.le_of_eq rfl) (hb hby at_213) (fun _ _ => ⟨rfl, e1854, (by decide : 3 + 0 ≤ _), (by decide : 12 + 0 ≤ _)⟩)
        dsimp only [Pt.U, Pt.locs, Pt.cells, Pt.slots] at X1858 l1858 y1858 z1858 st1858 hQ1858
        rw [l1858, y1858, z1858] at X1858
        obtain ⟨rfl, Nq1858, e1858⟩ := hQ1858
        have N1858 := Fr.app N1854 Nq1858
        have pre1859 : ∀ t, Sp p e below m T1858 222 #[vi q0, vi q1, vi q2, vi q3, vi q4, vi ig, vi 4, vi rrv_1586, vi rrv_1587, vi rrv_1588, vi rrv_1589, vr rso_1803, vr raw_1821, vi act, vi (n_1 + (1 : Int32)), vi (t_1 + (own_tL n_1 (rrv_1586 - (48 : Int32)))), .unset] [] t → SG p e below G0 t := by
          intro t k
          refine pre1855 t ?_
          show Sp p e below m T1854 201 #[vi q0, vi q1, vi q2, vi q3, vi q4, vi ig, vi 4, vi rrv_1586, vi rrv_1587, vi rrv_1588, vi rrv_1589, vr rso_1803, vr raw_1821, vi act, vi n_1, vi t_1, .unset] [(.int (own_dg rrv_1586))] _
          refine XS.ifNo X1854.here hx rfl (hb hby at_201) rfl ((if0 _ _).trans (feq hc201_1856).1) ?_
          refine XS.iload X1854.here hx rfl (hb hby at_204) rfl ?_
          refine XS.iload X1854.here hx rfl (hb hby at_206) rfl ?_
          refine XS.iload X1854.here hx rfl (hb hby at_208) rfl ?_
          refine XS.bipush X1854.here hx rfl (hb hby at_210) ?_
          refine XS.isub X1854.here hx rfl (hb hby at_212) rfl ?_
          refine st1858 _ ?_
          show Sp p e below m T1858 216 #[vi q0, vi q1, vi q2, vi q3, vi q4, vi ig, vi 4, vi rrv_1586, vi rrv_1587, vi rrv_1588, vi rrv_1589, vr rso_1803, vr raw_1821, vi act, vi n_1, vi t_1, .unset] [(.int (own_tL n_1 (rrv_1586 - (48 : Int32)))), (.int t_1)] _
          refine XS.iadd X1858.here hx rfl (hb hby at_216) rfl ?_
          refine XS.istore X1858.here hx rfl (hb hby at_217) rfl (l' := #[vi q0, vi q1, vi q2, vi q3, vi q4, vi ig, vi 4, vi rrv_1586, vi rrv_1587, vi rrv_1588, vi rrv_1589, vr rso_1803, vr raw_1821, vi act, vi n_1, vi (t_1 + (own_tL n_1 (rrv_1586 - (48 : Int32)))), .unset]) rfl ?_
          refine XS.iinc X1858.here hx rfl (hb hby at_219) rfl (l' := #[vi q0, vi q1, vi q2, vi q3, vi q4, vi ig, vi 4, vi rrv_1586, vi rrv_1587, vi rrv_1588, vi rrv_1589, vr rso_1803, vr raw_1821, vi act, vi (n_1 + (1 : Int32)), vi (t_1 + (own_tL n_1 (rrv_1586 - (48 : Int32)))), .unset]) rfl ?_
          exact k
        exact ⟨T1858, _, (n_1 + (1 : Int32)), (t_1 + (own_tL n_1 (rrv_1586 - (48 : Int32)))), X1858, e1858, N1858, (by exact ⟨by rw [own_ps, if_neg hc201_1856] <;> decide, by rw [own_tt, if_neg hc201_1856]⟩), pre1859⟩
    obtain ⟨ex_, hv1881, pre1880⟩ : ∃ (ex_ : Int32), (ex_ = own_ex ig (4 : Int32) n_0 t_0) ∧ ∀ t, Sp p e below m Tm1860 253 #[vi q0, vi q1, vi q2, vi q3, vi q4, vi ig, vi 4, vi rrv_1586, vi rrv_1587, vi rrv_1588, vi rrv_1589, vr rso_1803, vr raw_1821, vi act, vi n_0, vi t_0, .unset] [(.int ex_)] t → SG p e below G0 t := by
      have pre1863 : ∀ t, Sp p e below m Tm1860 225 #[vi q0, vi q1, vi q2, vi q3, vi q4, vi ig, vi 4, vi rrv_1586, vi rrv_1587, vi rrv_1588, vi rrv_1589, vr rso_1803, vr raw_1821, vi act, vi n_0, vi t_0, .unset] [(.int 1), (.int n_0)] t → SG p e below G0 t := by
        intro t k
        refine pre1861 t ?_
        show Sp p e below m Tm1860 222 #[vi q0, vi q1, vi q2, vi q3, vi q4, vi ig, vi 4, vi rrv_1586, vi rrv_1587, vi rrv_1588, vi rrv_1589, vr rso_1803, vr raw_1821, vi act, vi n_0, vi t_0, .unset] [] _
        refine XS.iload Xm1860.here hx rfl (hb hby at_222) rfl ?_
        refine XS.iconst Xm1860.here hx rfl (hb hby at_224) ?_
        exact k
      by_cases hc225_1864 : n_0 < (1 : Int32)
      · have pre1865 : ∀ t, Sp p e below m Tm1860 253 #[vi q0, vi q1, vi q2, vi q3, vi q4, vi ig, vi 4, vi rrv_1586, vi rrv_1587, vi rrv_1588, vi rrv_1589, vr rso_1803, vr raw_1821, vi act, vi n_0, vi t_0, .unset] [(.int 0)] t → SG p e below G0 t := by
          intro t k
          refine pre1863 t ?_
          show Sp p e below m Tm1860 225 #[vi q0, vi q1, vi q2, vi q3, vi q4, vi ig, vi 4, vi rrv_1586, vi rrv_1587, vi rrv_1588, vi rrv_1589, vr rso_1803, vr raw_1821, vi act, vi n_0, vi t_0, .unset] [(.int 1), (.int n_0)] _
          refine XS.icmpYes Xm1860.here hx rfl (pc0 := 225) (pc' := 252) rfl (hb hby at_225) rfl (tlt hc225_1864).1 (by decide) (by decide) ?_
          refine XS.iconst Xm1860.here hx rfl (hb hby at_252) ?_
          exact k
        exact ⟨(0 : Int32), (by simp only [own_ex, if_pos hc225_1864]), pre1865⟩
      · have pre1866 : ∀ t, Sp p e below m Tm1860 230 #[vi q0, vi q1, vi q2, vi q3, vi q4, vi ig, vi 4, vi rrv_1586, vi rrv_1587, vi rrv_1588, vi rrv_1589, vr rso_1803, vr raw_1821, vi act, vi n_0, vi t_0, .unset] [(.int ig)] t → SG p e below G0 t := by
          intro t k
          refine pre1863 t ?_
          show Sp p e below m Tm1860 225 #[vi q0, vi q1, vi q2, vi q3, vi q4, vi ig, vi 4, vi rrv_1586, vi rrv_1587, vi rrv_1588, vi rrv_1589, vr rso_1803, vr raw_1821, vi act, vi n_0, vi t_0, .unset] [(.int 1), (.int n_0)] _
          refine XS.icmpNo Xm1860.here hx rfl (hb hby at_225) rfl (flt hc225_1864).1 ?_
          refine XS.iload Xm1860.here hx rfl (hb hby at_228) rfl ?_
          exact k
        by_cases hc230_1867 : ig = (0 : Int32)
        · have pre1868 : ∀ t, Sp p e below m Tm1860 237 #[vi q0, vi q1, vi q2, vi q3, vi q4, vi ig, vi 4, vi rrv_1586, vi rrv_1587, vi rrv_1588, vi rrv_1589, vr rso_1803, vr raw_1821, vi act, vi n_0, vi t_0, .unset] [(.int 4), (.int n_0)] t → SG p e below G0 t := by
            intro t k
            refine pre1866 t ?_
            show Sp p e below m Tm1860 230 #[vi q0, vi q1, vi q2, vi q3, vi q4, vi ig, vi 4, vi rrv_1586, vi rrv_1587, vi rrv_1588, vi rrv_1589, vr rso_1803, vr raw_1821, vi act, vi n_0, vi t_0, .unset] [(.int ig)] _
            refine XS.ifNo Xm1860.here hx rfl (hb hby at_230) rfl ((if0 _ _).trans (teq hc230_1867).2) ?_
            refine XS.iload Xm1860.here hx rfl (hb hby at_233) rfl ?_
            refine XS.iload Xm1860.here hx rfl (hb hby at_235) rfl ?_
            exact k
          by_cases hc237_1869 : n_0 = (4 : Int32)
          · have pre1870 : ∀ t, Sp p e below m Tm1860 245 #[vi q0, vi q1, vi q2, vi q3, vi q4, vi ig, vi 4, vi rrv_1586, vi rrv_1587, vi rrv_1588, vi rrv_1589, vr rso_1803, vr raw_1821, vi act, vi n_0, vi t_0, .unset] [(.int (t_0 % (10 : Int32)))] t → SG p e below G0 t := by
              intro t k
              refine pre1868 t ?_
              show Sp p e below m Tm1860 237 #[vi q0, vi q1, vi q2, vi q3, vi q4, vi ig, vi 4, vi rrv_1586, vi rrv_1587, vi rrv_1588, vi rrv_1589, vr rso_1803, vr raw_1821, vi act, vi n_0, vi t_0, .unset] [(.int 4), (.int n_0)] _
              refine XS.icmpNo Xm1860.here hx rfl (hb hby at_237) rfl (teq hc237_1869).2 ?_
              show Sp p e below m Tm1860 240 #[vi q0, vi q1, vi q2, vi q3, vi q4, vi ig, vi 4, vi rrv_1586, vi rrv_1587, vi rrv_1588, vi rrv_1589, vr rso_1803, vr raw_1821, vi act, vi n_0, vi t_0, .unset] [] _
              refine XS.iload Xm1860.here hx rfl (hb hby at_240) rfl ?_
              refine XS.bipush Xm1860.here hx rfl (hb hby at_242) ?_
              refine iremM Xm1860 hx rfl (hb hby at_244) rfl (by decide) ?_
              exact k
            by_cases hc245_1871 : (t_0 % (10 : Int32)) = (0 : Int32)
            · have pre1872 : ∀ t, Sp p e below m Tm1860 253 #[vi q0, vi q1, vi q2, vi q3, vi q4, vi ig, vi 4, vi rrv_1586, vi rrv_1587, vi rrv_1588, vi rrv_1589, vr rso_1803, vr raw_1821, vi act, vi n_0, vi t_0, .unset] [(.int 1)] t → SG p e below G0 t := by
                intro t k
                refine pre1870 t ?_
                show Sp p e below m Tm1860 245 #[vi q0, vi q1, vi q2, vi q3, vi q4, vi ig, vi 4, vi rrv_1586, vi rrv_1587, vi rrv_1588, vi rrv_1589, vr rso_1803, vr raw_1821, vi act, vi n_0, vi t_0, .unset] [(.int (t_0 % (10 : Int32)))] _
                refine XS.ifNo Xm1860.here hx rfl (hb hby at_245) rfl ((if0 _ _).trans (teq hc245_1871).2) ?_
                refine XS.iconst Xm1860.here hx rfl (hb hby at_248) ?_
                refine XS.goto Xm1860.here hx rfl (pc0 := 249) (pc' := 253) rfl (hb hby at_249) (by decide) (by decide) ?_
                exact k
              exact ⟨(1 : Int32), (by simp only [own_ex, if_neg hc225_1864, if_pos hc230_1867, if_pos hc237_1869, if_pos hc245_1871]), pre1872⟩
            · have pre1873 : ∀ t, Sp p e below m Tm1860 253 #[vi q0, vi q1, vi q2, vi q3, vi q4, vi ig, vi 4, vi rrv_1586, vi rrv_1587, vi rrv_1588, vi rrv_1589, vr rso_1803, vr raw_1821, vi act, vi n_0, vi t_0, .unset] [(.int 0)] t → SG p e below G0 t := by
                intro t k
                refine pre1870 t ?_
                show Sp p e below m Tm1860 245 #[vi q0, vi q1, vi q2, vi q3, vi q4, vi ig, vi 4, vi rrv_1586, vi rrv_1587, vi rrv_1588, vi rrv_1589, vr rso_1803, vr raw_1821, vi act, vi n_0, vi t_0, .unset] [(.int (t_0 % (10 : Int32)))] _
                refine XS.ifYes Xm1860.here hx rfl (pc0 := 245) (pc' := 252) rfl (hb hby at_245) rfl ((if0 _ _).trans (feq hc245_1871).2) (by decide) (by decide) ?_
                refine XS.iconst Xm1860.here hx rfl (hb hby at_252) ?_
                exact k
              exact ⟨(0 : Int32), (by simp only [own_ex, if_neg hc225_1864, if_pos hc230_1867, if_pos hc237_1869, if_neg hc245_1871]), pre1873⟩
          · have pre1874 : ∀ t, Sp p e below m Tm1860 253 #[vi q0, vi q1, vi q2, vi q3, vi q4, vi ig, vi 4, vi rrv_1586, vi rrv_1587, vi rrv_1588, vi rrv_1589, vr rso_1803, vr raw_1821, vi act, vi n_0, vi t_0, .unset] [(.int 0)] t → SG p e below G0 t := by
              intro t k
              refine pre1868 t ?_
              show Sp p e below m Tm1860 237 #[vi q0, vi q1, vi q2, vi q3, vi q4, vi ig, vi 4, vi rrv_1586, vi rrv_1587, vi rrv_1588, vi rrv_1589, vr rso_1803, vr raw_1821, vi act, vi n_0, vi t_0, .unset] [(.int 4), (.int n_0)] _
              refine XS.icmpYes Xm1860.here hx rfl (pc0 := 237) (pc' := 252) rfl (hb hby at_237) rfl (feq hc237_1869).2 (by decide) (by decide) ?_
              show Sp p e below m Tm1860 252 #[vi q0, vi q1, vi q2, vi q3, vi q4, vi ig, vi 4, vi rrv_1586, vi rrv_1587, vi rrv_1588, vi rrv_1589, vr rso_1803, vr raw_1821, vi act, vi n_0, vi t_0, .unset] [] _
              refine XS.iconst Xm1860.here hx rfl (hb hby at_252) ?_
              exact k
            exact ⟨(0 : Int32), (by simp only [own_ex, if_neg hc225_1864, if_pos hc230_1867, if_neg hc237_1869]), pre1874⟩
        · have pre1875 : ∀ t, Sp p e below m Tm1860 245 #[vi q0, vi q1, vi q2, vi q3, vi q4, vi ig, vi 4, vi rrv_1586, vi rrv_1587, vi rrv_1588, vi rrv_1589, vr rso_1803, vr raw_1821, vi act, vi n_0, vi t_0, .unset] [(.int (t_0 % (10 : Int32)))] t → SG p e below G0 t := by
            intro t k
            refine pre1866 t ?_
            show Sp p e below m Tm1860 230 #[vi q0, vi q1, vi q2, vi q3, vi q4, vi ig, vi 4, vi rrv_1586, vi rrv_1587, vi rrv_1588, vi rrv_1589, vr rso_1803, vr raw_1821, vi act, vi n_0, vi t_0, .unset] [(.int ig)] _
            refine XS.ifYes Xm1860.here hx rfl (pc0 := 230) (pc' := 240) rfl (hb hby at_230) rfl ((if0 _ _).trans (feq hc230_1867).2) (by decide) (by decide) ?_
            refine XS.iload Xm1860.here hx rfl (hb hby at_240) rfl ?_
            refine XS.bipush Xm1860.here hx rfl (hb hby at_242) ?_
            refine iremM Xm1860 hx rfl (hb hby at_244) rfl (by decide) ?_
            exact k
          by_cases hc245_1876 : (t_0 % (10 : Int32)) = (0 : Int32)
          · have pre1877 : ∀ t, Sp p e below m Tm1860 253 #[vi q0, vi q1, vi q2, vi q3, vi q4, vi ig, vi 4, vi rrv_1586, vi rrv_1587, vi rrv_1588, vi rrv_1589, vr rso_1803, vr raw_1821, vi act, vi n_0, vi t_0, .unset] [(.int 1)] t → SG p e below G0 t := by
              intro t k
              refine pre1875 t ?_
              show Sp p e below m Tm1860 245 #[vi q0, vi q1, vi q2, vi q3, vi q4, vi ig, vi 4, vi rrv_1586, vi rrv_1587, vi rrv_1588, vi rrv_1589, vr rso_1803, vr raw_1821, vi act, vi n_0, vi t_0, .unset] [(.int (t_0 % (10 : Int32)))] _
              refine XS.ifNo Xm1860.here hx rfl (hb hby at_245) rfl ((if0 _ _).trans (teq hc245_1876).2) ?_
              refine XS.iconst Xm1860.here hx rfl (hb hby at_248) ?_
              refine XS.goto Xm1860.here hx rfl (pc0 := 249) (pc' := 253) rfl (hb hby at_249) (by decide) (by decide) ?_
              exact k
            exact ⟨(1 : Int32), (by simp only [own_ex, if_neg hc225_1864, if_neg hc230_1867, if_pos hc245_1876]), pre1877⟩
          · have pre1878 : ∀ t, Sp p e below m Tm1860 253 #[vi q0, vi q1, vi q2, vi q3, vi q4, vi ig, vi 4, vi rrv_1586, vi rrv_1587, vi rrv_1588, vi rrv_1589, vr rso_1803, vr raw_1821, vi act, vi n_0, vi t_0, .unset] [(.int 0)] t → SG p e below G0 t := by
              intro t k
              refine pre1875 t ?_
              show Sp p e below m Tm1860 245 #[vi q0, vi q1, vi q2, vi q3, vi q4, vi ig, vi 4, vi rrv_1586, vi rrv_1587, vi rrv_1588, vi rrv_1589, vr rso_1803, vr raw_1821, vi act, vi n_0, vi t_0, .unset] [(.int (t_0 % (10 : Int32)))] _
              refine XS.ifYes Xm1860.here hx rfl (pc0 := 245) (pc' := 252) rfl (hb hby at_245) rfl ((if0 _ _).trans (feq hc245_1876).2) (by decide) (by decide) ?_
              refine XS.iconst Xm1860.here hx rfl (hb hby at_252) ?_
              exact k
            exact ⟨(0 : Int32), (by simp only [own_ex, if_neg hc225_1864, if_neg hc230_1867, if_neg hc245_1876]), pre1878⟩
    obtain ⟨fs, hr, hrun, hended, hW, hsame⟩ := Xm1860.leave (v := some (.int 1)) (fun h => by rw [Bd.returns] at h; cases h)
    refine ⟨_, _, pre1880 _ ?_, hrun, hended, _, _, rfl, ?_, ReturnedEndW.of_narrow ⟨_, rfl⟩ hW (hsame.mono (by decide) (by decide))⟩
    · show Sp p e below m Tm1860 253 #[vi q0, vi q1, vi q2, vi q3, vi q4, vi ig, vi 4, vi rrv_1586, vi rrv_1587, vi rrv_1588, vi rrv_1589, vr rso_1803, vr raw_1821, vi act, vi n_0, vi t_0, .unset] [(.int ex_)] _
      refine XS.istore Xm1860.here hx rfl (hb hby at_253) rfl (l' := #[vi q0, vi q1, vi q2, vi q3, vi q4, vi ig, vi 4, vi rrv_1586, vi rrv_1587, vi rrv_1588, vi rrv_1589, vr rso_1803, vr raw_1821, vi act, vi n_0, vi t_0, vi ex_]) rfl ?_
      refine XS.iload Xm1860.here hx rfl (hb hby at_255) rfl ?_
      refine XS.iload Xm1860.here hx rfl (hb hby at_257) rfl ?_
      refine XS.icmpNo Xm1860.here hx rfl (hb hby at_259) rfl (teq (by rw [he1825, hv1881, own_AC [rrv_1589, rrv_1588, rrv_1587, rrv_1586] ig (4 : Int32) (Nat.le_of_ble_eq_true rfl) (by decide : (4 : Int32).toInt = ((4 : Nat) : Int))]; simp only [own_cn, own_to, ← hv1835.1, ← hv1835.2, ← hv1844.1, ← hv1844.2, ← hv1853.1, ← hv1853.2, ← hv1862.1, ← hv1862.2] : (act = ex_))).2 ?_
      refine XS.iconst Xm1860.here hx rfl (hb hby at_262) ?_
      refine XS.goto Xm1860.here hx rfl (pc0 := 263) (pc' := 267) rfl (hb hby at_263) (by decide) (by decide) ?_
      exact retN Xm1860 hx (t := .boolean) Bd.returns (by simp) (hb hby at_267) hr
    · show Q0 Z q0 q1 q2 q3 q4 cs vf aw0 aw1 al h0 n0 _ Tm1860.heap _
      rw [em1860]
      exact ⟨rfl, Nm1860⟩
theorem comes_1 {Post : Tables → Env → Array Value → State → Outcome → State → Prop} (hpost : ∀ tb e args s v u, (limb_1_1.after args s (.returned v) u = true ∧ limb_1_2.after args s (.returned v) u = true ∧ True) → ReturnedEndW s (.returned v) u (Jvm.fieldLocs frame_1_writes args s ++ Jvm.arrayLocs frame_1_arrays args s ++ Jvm.staticLocs frame_1_statics s) 16 1152 → Post tb e args s (.returned v) u) :
    ArmFor flags0 classFile x code maxLocals ret World_1 tables_1 room_1 Calls_1 rest_1 Pre_1 Post := by
  intro l hfl _ _ p e ha hc hk s m args below hf hA hF happ hP
  obtain ⟨hcalls, hrest, hpre⟩ := hP
  obtain ⟨-, -, -, hnamed, -, -, -, hat⟩ := (Spec.applies_iff hf).mp happ
  obtain ⟨hg, hn⟩ := and_e (Cond.before_iff.mp (show (Jvm.Cond.and given_1 narrow_1).before args s = true from hpre))
  obtain ⟨hcount, ga0⟩ := and_e hg
  obtain ⟨gi0, ga1⟩ := and_e ga0
  obtain ⟨gi1, ga2⟩ := and_e ga1
  obtain ⟨gi2, ga3⟩ := and_e ga2
  obtain ⟨gi3, ga4⟩ := and_e ga3
  have gi4 := ga4
  obtain ⟨w0, w1, w2, w3, w4, rfl⟩ : ∃ w0 w1 w2 w3 w4 : Value, args = #[w0, w1, w2, w3, w4] := by
    have hs : args.size = 5 := by simpa [Cond.value, given_1] using hcount
    obtain ⟨L⟩ := args
    match L, hs with
    | [w0, w1, w2, w3, w4], _ => exact ⟨w0, w1, w2, w3, w4, rfl⟩
  have hw := fun d (hd : d ∈ tables_1) => atoms_spec (ws := Jvm.Cond.code x code maxLocals ret :: tables_1) hat d (List.mem_cons_of_mem _ hd)
  have hfit : Fit s := fun {y c} hc i hi => by
    obtain ⟨ha, rfl⟩ := Array.getElem?_eq_some_iff.mp hc
    have q := List.all_eq_true.mp ((Array.all_eq_true_iff_forall_mem.mp hF) _ (Array.getElem_mem ha)) i (List.mem_range.mpr hi)
    simpa [Array.getElem?_eq_getElem hi] using q
  obtain ⟨hsets, hown0⟩ := atoms_of _ (rest_1_c_eq ▸ (show rest_1_c.before _ s = true from hrest))
  have hr0 := Cond.before_iff.mp hown0
  obtain ⟨i0, ei0⟩ := is_v gi0
  obtain rfl : w0 = (.int i0) := Option.some.inj ei0
  obtain ⟨i1, ei1⟩ := is_v gi1
  obtain rfl : w1 = (.int i1) := Option.some.inj ei1
  obtain ⟨i2, ei2⟩ := is_v gi2
  obtain rfl : w2 = (.int i2) := Option.some.inj ei2
  obtain ⟨i3, ei3⟩ := is_v gi3
  obtain rfl : w3 = (.int i3) := Option.some.inj ei3
  obtain ⟨i4, ei4⟩ := is_v gi4
  obtain rfl : w4 = (.int i4) := Option.some.inj ei4
  obtain ⟨cs, evcs⟩ := is_v (Cond.before_iff.mp (hsets _ (List.mem_of_getElem? (i := 1) rfl)))
  have Scs := Sta.start evcs (Or.inl (hsets _ (List.mem_of_getElem? (i := 0) rfl)))
  have hcs : ¬ cs = (0 : Int32) := gotF (Cond.eq_ints evcs (Term.int_eval 0)) (not_v (Cond.before_iff.mp (hsets _ (List.mem_of_getElem? (i := 2) rfl))))
  obtain ⟨vf, evf, hvf⟩ := isR_v (Cond.before_iff.mp (hsets _ (List.mem_of_getElem? (i := 8) rfl)))
  have Ssf := Sta.start evf (Or.inl (hsets _ (List.mem_of_getElem? (i := 7) rfl)))
  obtain ⟨nn0, hn0⟩ := and_e hn
  obtain ⟨nn1, hn1⟩ := and_e hn0
  obtain ⟨nn2, hn2⟩ := and_e hn1
  obtain ⟨nn3, hn3⟩ := and_e hn2
  obtain ⟨nn4, hn4⟩ := and_e hn3
  obtain ⟨nn5, hn5⟩ := and_e hn4
  obtain ⟨nn6, hn6⟩ := and_e hn5
  obtain ⟨nn7, hn7⟩ := and_e hn6
  obtain ⟨nn8, hn8⟩ := and_e hn7
  obtain ⟨nn9, hn9⟩ := and_e hn8
  obtain ⟨nn10, hn10⟩ := and_e hn9
  have nn11 := hn10
  obtain ⟨a_WHOLE_TEXT, ev_WHOLE_TEXT⟩ := exa_v nn0
  have E_WHOLE_TEXT := Exa.start ev_WHOLE_TEXT nn0
  have S_WHOLE_TEXT := Sta.start ev_WHOLE_TEXT (Or.inr ⟨(hw _ (List.mem_of_getElem? (i := 31) rfl)), (hw _ (List.mem_of_getElem? (i := 34) rfl))⟩)
  obtain ⟨a_LUHN, ev_LUHN⟩ := exa_v nn1
  have E_LUHN := Exa.start ev_LUHN nn1
  have S_LUHN := Sta.start ev_LUHN (Or.inr ⟨(hw _ (List.mem_of_getElem? (i := 36) rfl)), (hw _ (List.mem_of_getElem? (i := 37) rfl))⟩)
  obtain ⟨a_WHOLE_TEXT_OF_DIGITS, ev_WHOLE_TEXT_OF_DIGITS⟩ := exa_v nn4
  have E_WHOLE_TEXT_OF_DIGITS := Exa.start ev_WHOLE_TEXT_OF_DIGITS nn4
  have S_WHOLE_TEXT_OF_DIGITS := Sta.start ev_WHOLE_TEXT_OF_DIGITS (Or.inr ⟨(hw _ (List.mem_of_getElem? (i := 31) rfl)), (hw _ (List.mem_of_getElem? (i := 74) rfl))⟩)
  have F_WHOLE_TEXT_end := Fld.start ((fld_at ev_WHOLE_TEXT).symm.trans (own_eqi nn2))
  have F_WHOLE_TEXT_start := Fld.start ((fld_at ev_WHOLE_TEXT).symm.trans (own_eqi nn3))
  have F_WHOLE_TEXT_OF_DIGITS_end := Fld.start ((fld_at ev_WHOLE_TEXT_OF_DIGITS).symm.trans (own_eqi nn5))
  have F_WHOLE_TEXT_OF_DIGITS_start := Fld.start ((fld_at ev_WHOLE_TEXT_OF_DIGITS).symm.trans (own_eqi nn6))
  have F_WHOLE_TEXT_OF_DIGITS_checkAt := Fld.start ((fld_at ev_WHOLE_TEXT_OF_DIGITS).symm.trans (own_eqi nn7))
  have F_WHOLE_TEXT_OF_DIGITS_ignoresOthers := Fld.start ((fld_at ev_WHOLE_TEXT_OF_DIGITS).symm.trans (own_eqi nn8))
  have F_WHOLE_TEXT_checkAt := Fld.start ((fld_at ev_WHOLE_TEXT).symm.trans (own_eqi nn9))
  have F_WHOLE_TEXT_ignoresOthers := Fld.start ((fld_at ev_WHOLE_TEXT).symm.trans (own_eqi nn10))
  have F_LUHN_modulus := Fld.start ((fld_at ev_LUHN).symm.trans (own_eqi nn11))
  obtain ⟨n, o, h1, h2, h3, _, L, rfl, ⟨rfl, N⟩, hq⟩ := rm0 l s _ hw tables_1 i0 i1 i2 i3 i4 cs vf a_WHOLE_TEXT a_WHOLE_TEXT_OF_DIGITS a_LUHN s.heap s.heap.size (Nat.le_refl _) (Old.start s) Scs hcs Ssf hvf (hcalls.1 _ (List.mem_of_getElem? (i := 0) rfl)) (hsets _ (List.mem_of_getElem? (i := 2) rfl)) S_WHOLE_TEXT S_WHOLE_TEXT_OF_DIGITS S_LUHN E_WHOLE_TEXT F_WHOLE_TEXT_end F_WHOLE_TEXT_start F_WHOLE_TEXT_checkAt F_WHOLE_TEXT_ignoresOthers E_WHOLE_TEXT_OF_DIGITS F_WHOLE_TEXT_OF_DIGITS_end F_WHOLE_TEXT_OF_DIGITS_start F_WHOLE_TEXT_OF_DIGITS_checkAt F_WHOLE_TEXT_OF_DIGITS_ignoresOthers E_LUHN F_LUHN_modulus p e ha hc hk s m _ below hf ((Spec.applies_iff_loose hf).mp happ).1 ⟨rfl, State.Warmed39.refl s, rfl, rfl⟩ trivial
  refine ⟨n, _, h1, h2, h3, hpost _ _ _ _ _ _ ⟨Cond.after_iff.mpr rfl, Cond.after_iff.mpr (eq_i res_at (Term.int_eval (1)) rfl), trivial⟩ ⟨hq.1, hq.2.1, hq.2.2.1, (hq.2.2.2.sift fun y hy => Or.inr (N y hy)).mono (by decide) (by decide)⟩⟩
theorem main_1_1 : Claimed_1_1 := comes_1 fun _ _ _ _ _ _ h hF => ⟨h.1, hF⟩
theorem main_1_2 : Claimed_1_2 := comes_1 fun _ _ _ _ _ _ h hF => ⟨h.2.1, hF⟩
end Jvm.Pilot.@@N@@
namespace Jvm.Pilot.@@N@@
open Jvm Jvm.ClassFile Sem Op Lib Jvm.Free Jvm.Stand Jvm.Pilot.@@N@@.Jvm.D
/-! MADE BY PROGRAM (witnessworld.py) out of the Statement's table words and the real class files: 22 classes; the members and pool entries that the words name. The judged class is class 1, her method 1. -/
namespace start1
open Jvm.ClassFile
def u (s : String) : CpInfo := .utf8 (stringToUtf16 s)
/-- a pool by its gaps: so many unusable entries, then the entry; so many at the end -/
def gap : Nat → List CpInfo → List CpInfo
  | 0, r => r
  | n + 1, r => .unusable :: gap n r
def poolList (es : List (Nat × CpInfo)) (last : Nat) : List CpInfo := es.foldr (fun e r => gap e.1 (e.2 :: r)) (gap last [])
def pool (es : List (Nat × CpInfo)) (last : Nat) : Array CpInfo := ⟨poolList es last⟩
def fileOf (pool : Array CpInfo) (this : Nat) (attrs : Array Attribute := #[]) (ms : Array MethodInfo := #[]) (fl : Nat := 33) (sup : Nat := 0) (ifs : Array Nat := #[]) (fds : Array FieldInfo := #[]) : ClassFile where
  minorVersion := 0
  majorVersion := 65
  constantPool := pool
  accessFlags := fl
  thisClass := this
  superClass := sup
  interfaces := ifs
  fields := fds
  methods := ms
  attributes := attrs
def plain (name : String) (sup : Option ClassId) : Class where
  name := name
  kind := .ordinary
  loader := none
  accessFlags := 33
  super := sup
  interfaces := #[]
  cf := none
  fields := #[]
  methods := #[]
  instanceTypes := #[]
  staticTypes := #[]
  resolved := #[]
  callSites := []
  init := .initialized
  statics := none
  mirror := none

def pool0 : Array CpInfo := pool [(5, u "<init>"), (0, u "()V"), (1, .class_ 10), (1, u "java/lang/Object")] 113

def k0c0 : Code := { maxStack := 0, maxLocals := 1, code := object_method_1_code, exceptionTable := #[], attributes := #[] }
def k0m0 : Method := { name := "<init>", desc := "()V", sig := { parameters := [], returnType := none }, accessFlags := 1, code := some k0c0 }
/-- java/lang/Object -/
def k0 : Class := { plain "java/lang/Object" none with
  accessFlags := 33
  interfaces := #[]
  cf := some (fileOf pool0 8 #[] #[{ accessFlags := 1, nameIndex := 5, descriptorIndex := 6, attributes := #[] }] 33 0 #[] #[])
  fields := #[]
  methods := #[k0m0]
  instanceTypes := #[]
  staticTypes := #[]
  resolved := Array.replicate 124 none
  statics := none }

def pool1 : Array CpInfo := pool [(2, .class_ 4), (1, u "java/lang/Object"), (0, u "<init>"), (0, u "()V"), (0, .methodref 8 9), (0, .class_ 10), (0, .nameAndType 11 12), (0, u "com/example/onus_on_beans/onusonbeans/validators/CheckDigitRangeWholeTextPinLaw"), (0, u "ch"), (0, u "(I)C"), (0, .methodref 8 14), (0, .nameAndType 15 16), (0, u "text"), (0, u "(ICCCC)Ljava/lang/String;"), (0, .methodref 18 19), (0, .class_ 20), (0, .nameAndType 21 22), (0, u "com/example/onus_on_beans/onusonbeans/validators/CheckDigitRange"), (0, u "wholeText"), (0, u "(Z)Lcom/example/onus_on_beans/onusonbeans/validators/CheckDigitRange;"), (0, .fieldref 24 25), (0, .class_ 26), (0, .nameAndType 27 28), (0, u "com/example/onus_on_beans/onusonbeans/validators/CheckDigitScheme"), (0, u "LUHN"), (0, u "Lcom/example/onus_on_beans/onusonbeans/validators/CheckDigitScheme;"), (0, .methodref 18 30), (0, .nameAndType 31 32), (0, u "holds"), (0, u "(Ljava/lang/CharSequence;Lcom/example/onus_on_beans/onusonbeans/validators/CheckDigitScheme;)Z"), (0, .methodref 8 34), (0, .nameAndType 35 36), (0, u "isD"), (0, u "(C)Z"), (0, .methodref 8 38), (0, .nameAndType 39 40), (0, u "term"), (0, u "(II)I"), (0, .class_ 42), (0, u "java/lang/String"), (0, .methodref 41 44), (0, .nameAndType 5 45), (0, u "([C)V"), (2, u "law"), (0, u "(IIIII)Z")] 3

def k1m0 : Method := { name := "<init>", desc := "()V", sig := { parameters := [], returnType := none }, accessFlags := 1, code := none }
def k1c1 : Code := { maxStack := 5, maxLocals := 17, code := code, exceptionTable := #[], attributes := #[] }
def k1m1 : Method := { name := "law", desc := "(IIIII)Z", sig := { parameters := [.int, .int, .int, .int, .int], returnType := some .boolean }, accessFlags := 9, code := some k1c1 }
def k1c2 : Code := { maxStack := 3, maxLocals := 1, code := method_3_code, exceptionTable := #[], attributes := #[] }
def k1m2 : Method := { name := "ch", desc := "(I)C", sig := { parameters := [.int], returnType := some .char }, accessFlags := 10, code := some k1c2 }
def k1c3 : Code := { maxStack := 2, maxLocals := 1, code := method_4_code, exceptionTable := #[], attributes := #[] }
def k1m3 : Method := { name := "isD", desc := "(C)Z", sig := { parameters := [.char], returnType := some .boolean }, accessFlags := 10, code := some k1c3 }
def k1c4 : Code := { maxStack := 2, maxLocals := 3, code := method_5_code, exceptionTable := #[], attributes := #[] }
def k1m4 : Method := { name := "term", desc := "(II)I", sig := { parameters := [.int, .int], returnType := some .int }, accessFlags := 10, code := some k1c4 }
def k1c5 : Code := { maxStack := 6, maxLocals := 5, code := method_6_code, exceptionTable := #[], attributes := #[] }
def k1m5 : Method := { name := "text", desc := "(ICCCC)Ljava/lang/String;", sig := { parameters := [.int, .char, .char, .char, .char], returnType := some (.object "java/lang/String") }, accessFlags := 10, code := some k1c5 }
/-- com/example/onus_on_beans/onusonbeans/validators/CheckDigitRangeWholeTextPinLaw -/
def k1 : Class := { plain "com/example/onus_on_beans/onusonbeans/validators/CheckDigitRangeWholeTextPinLaw" (some 0) with
  accessFlags := 49
  interfaces := #[]
  cf := some (fileOf pool1 8 #[] #[{ accessFlags := 1, nameIndex := 5, descriptorIndex := 6, attributes := #[] }, { accessFlags := 9, nameIndex := 48, descriptorIndex := 49, attributes := #[] }, { accessFlags := 10, nameIndex := 11, descriptorIndex := 12, attributes := #[] }, { accessFlags := 10, nameIndex := 35, descriptorIndex := 36, attributes := #[] }, { accessFlags := 10, nameIndex := 39, descriptorIndex := 40, attributes := #[] }, { accessFlags := 10, nameIndex := 15, descriptorIndex := 16, attributes := #[] }] 49 2 #[] #[])
  fields := #[]
  methods := #[k1m0, k1m1, k1m2, k1m3, k1m4, k1m5]
  instanceTypes := #[]
  staticTypes := #[]
  resolved := Array.replicate 53 none
  statics := none }

def pool2 : Array CpInfo := pool [(1, .class_ 2), (0, u "java/io/Serializable"), (0, .class_ 4), (0, u "java/lang/Object")] 2

/-- java/io/Serializable -/
def k2 : Class := { plain "java/io/Serializable" (some 0) with
  accessFlags := 1537
  interfaces := #[]
  cf := some (fileOf pool2 1 #[] #[] 1537 3 #[] #[])
  fields := #[]
  methods := #[]
  instanceTypes := #[]
  staticTypes := #[]
  resolved := Array.replicate 7 none
  statics := none }

def pool3 : Array CpInfo := pool [(1, .class_ 2), (0, u "java/lang/Comparable"), (0, .class_ 4), (0, u "java/lang/Object")] 7

/-- java/lang/Comparable -/
def k3 : Class := { plain "java/lang/Comparable" (some 0) with
  accessFlags := 1537
  interfaces := #[]
  cf := some (fileOf pool3 1 #[] #[] 1537 3 #[] #[])
  fields := #[]
  methods := #[]
  instanceTypes := #[]
  staticTypes := #[]
  resolved := Array.replicate 12 none
  statics := none }

def pool4 : Array CpInfo := pool [(2, .class_ 4), (1, u "java/lang/CharSequence"), (0, u "length"), (0, u "()I"), (38, u "charAt"), (0, u "(I)C"), (0, .class_ 48), (0, u "java/lang/CharSequence$1CodePointIterator"), (10, .class_ 60), (0, u "java/lang/CharSequence$1CharIterator"), (5, .class_ 67), (0, u "java/lang/Object")] 63

def k4m0 : Method := { name := "length", desc := "()I", sig := { parameters := [], returnType := some .int }, accessFlags := 1025, code := none }
def k4m1 : Method := { name := "charAt", desc := "(I)C", sig := { parameters := [.int], returnType := some .char }, accessFlags := 1025, code := none }
/-- java/lang/CharSequence -/
def k4 : Class := { plain "java/lang/CharSequence" (some 0) with
  accessFlags := 1537
  interfaces := #[]
  cf := some (fileOf pool4 2 #[.nestMembers #[47, 59]] #[{ accessFlags := 1025, nameIndex := 5, descriptorIndex := 6, attributes := #[] }, { accessFlags := 1025, nameIndex := 45, descriptorIndex := 46, attributes := #[] }] 1537 66 #[] #[])
  fields := #[]
  methods := #[k4m0, k4m1]
  instanceTypes := #[]
  staticTypes := #[]
  resolved := Array.replicate 131 none
  statics := none }

def pool5 : Array CpInfo := pool [(1, .class_ 2), (0, u "java/lang/constant/Constable"), (0, .class_ 4), (0, u "java/lang/Object")] 6

/-- java/lang/constant/Constable -/
def k5 : Class := { plain "java/lang/constant/Constable" (some 0) with
  accessFlags := 1537
  interfaces := #[]
  cf := some (fileOf pool5 1 #[] #[] 1537 3 #[] #[])
  fields := #[]
  methods := #[]
  instanceTypes := #[]
  staticTypes := #[]
  resolved := Array.replicate 11 none
  statics := none }

def pool6 : Array CpInfo := pool [(1, .class_ 2), (0, u "java/lang/constant/ConstantDesc"), (0, .class_ 4), (0, u "java/lang/Object")] 32

/-- java/lang/constant/ConstantDesc -/
def k6 : Class := { plain "java/lang/constant/ConstantDesc" (some 0) with
  accessFlags := 1537
  interfaces := #[]
  cf := some (fileOf pool6 1 #[] #[] 1537 3 #[] #[])
  fields := #[]
  methods := #[]
  instanceTypes := #[]
  staticTypes := #[]
  resolved := Array.replicate 37 none
  statics := none }

def pool7 : Array CpInfo := pool [(1, .methodref 2 3), (0, .class_ 4), (0, .nameAndType 5 6), (0, u "java/lang/Object"), (0, u "<init>"), (0, u "()V"), (0, .string 8), (0, u ""), (0, .fieldref 10 11), (0, .class_ 12), (0, .nameAndType 13 14), (0, u "java/lang/String"), (0, u "value"), (0, u "[B"), (0, .fieldref 10 16), (0, .nameAndType 17 18), (0, u "coder"), (0, u "B"), (2, u "hash"), (0, u "I"), (2, u "hashIsZero"), (0, u "Z"), (0, .methodref 10 28), (0, .nameAndType 5 29), (0, u "([CIILjava/lang/Void;)V"), (8, .fieldref 10 39), (0, .nameAndType 40 26), (0, u "COMPACT_STRINGS"), (1, .class_ 44), (1, u "java/lang/StringUTF16"), (0, u "compress"), (1, .methodref 42 48), (0, .nameAndType 49 50), (0, u "coderFromArrayLen"), (0, u "([BI)B"), (56, .class_ 109), (1, u "java/lang/StringLatin1"), (32, u "()Z"), (34, .methodref 42 178), (0, .nameAndType 45 179), (0, u "([CII)[B"), (154, u "()I"), (0, .methodref 10 336), (0, .nameAndType 17 337), (0, u "()B"), (25, u "([BI)C"), (27, u "(II)V"), (35, u "(I)C"), (64, .methodref 10 493), (0, .nameAndType 494 142), (0, u "isLatin1"), (0, .methodref 107 496), (0, .nameAndType 497 363), (0, u "charAt"), (3, u "checkIndex"), (5, u "length"), (67, .class_ 576), (0, u "java/lang/CharSequence"), (22, u "CASE_INSENSITIVE_ORDER"), (0, u "Ljava/util/Comparator;"), (409, u "([C)V"), (42, .fieldref 1054 1055), (0, .class_ 1056), (0, .nameAndType 1057 1058), (0, u "jdk/internal/util/Preconditions"), (0, u "SIOOBE_FORMATTER"), (0, u "Ljava/util/function/BiFunction;"), (0, .methodref 1054 1060), (0, .nameAndType 501 1061), (0, u "(IILjava/util/function/BiFunction;)I"), (39, u "serialPersistentFields"), (0, u "[Ljava/io/ObjectStreamField;"), (0, .class_ 1104), (0, u "java/lang/String$CaseInsensitiveComparator"), (1, .class_ 1107), (0, u "java/io/Serializable"), (0, .class_ 1109), (0, u "java/lang/Comparable"), (0, .class_ 1111), (0, u "java/lang/constant/Constable"), (0, .class_ 1113), (0, u "java/lang/constant/ConstantDesc"), (2, u "serialVersionUID"), (0, u "J"), (3, u "REPL"), (0, u "C"), (2, u "LATIN1"), (1, u "UTF16")] 323

def k7m0 : Method := { name := "<init>", desc := "()V", sig := { parameters := [], returnType := none }, accessFlags := 1, code := none }
def k7c1 : Code := { maxStack := 5, maxLocals := 2, code := jdk_42_method_3_code, exceptionTable := #[], attributes := #[] }
def k7m1 : Method := { name := "<init>", desc := "([C)V", sig := { parameters := [(.array .char)], returnType := none }, accessFlags := 1, code := some k7c1 }
def k7c2 : Code := { maxStack := 2, maxLocals := 1, code := jdk_42_method_54_code, exceptionTable := #[], attributes := #[] }
def k7m2 : Method := { name := "length", desc := "()I", sig := { parameters := [], returnType := some .int }, accessFlags := 1, code := some k7c2 }
def k7c3 : Code := { maxStack := 2, maxLocals := 2, code := jdk_42_method_56_code, exceptionTable := #[], attributes := #[] }
def k7m3 : Method := { name := "charAt", desc := "(I)C", sig := { parameters := [.int], returnType := some .char }, accessFlags := 1, code := some k7c3 }
def k7c4 : Code := { maxStack := 4, maxLocals := 6, code := jdk_42_method_149_code, exceptionTable := #[], attributes := #[] }
def k7m4 : Method := { name := "<init>", desc := "([CIILjava/lang/Void;)V", sig := { parameters := [(.array .char), .int, .int, (.object "java/lang/Void")], returnType := none }, accessFlags := 2, code := some k7c4 }
def k7c5 : Code := { maxStack := 1, maxLocals := 1, code := jdk_42_method_152_code, exceptionTable := #[], attributes := #[] }
def k7m5 : Method := { name := "coder", desc := "()B", sig := { parameters := [], returnType := some .byte }, accessFlags := 0, code := some k7c5 }
def k7c6 : Code := { maxStack := 1, maxLocals := 1, code := jdk_42_method_154_code, exceptionTable := #[], attributes := #[] }
def k7m6 : Method := { name := "isLatin1", desc := "()Z", sig := { parameters := [], returnType := some .boolean }, accessFlags := 0, code := some k7c6 }
def k7c7 : Code := { maxStack := 3, maxLocals := 2, code := jdk_42_method_155_code, exceptionTable := #[], attributes := #[] }
def k7m7 : Method := { name := "checkIndex", desc := "(II)V", sig := { parameters := [.int, .int], returnType := none }, accessFlags := 8, code := some k7c7 }
/-- java/lang/String -/
def k7 : Class := { plain "java/lang/String" (some 0) with
  accessFlags := 49
  interfaces := #[2, 3, 4, 5, 6]
  cf := some (fileOf pool7 10 #[.nestMembers #[1103]] #[{ accessFlags := 1, nameIndex := 5, descriptorIndex := 6, attributes := #[] }, { accessFlags := 1, nameIndex := 5, descriptorIndex := 1010, attributes := #[] }, { accessFlags := 1, nameIndex := 507, descriptorIndex := 334, attributes := #[] }, { accessFlags := 1, nameIndex := 497, descriptorIndex := 427, attributes := #[] }, { accessFlags := 2, nameIndex := 5, descriptorIndex := 29, attributes := #[] }, { accessFlags := 0, nameIndex := 17, descriptorIndex := 337, attributes := #[] }, { accessFlags := 0, nameIndex := 494, descriptorIndex := 142, attributes := #[] }, { accessFlags := 8, nameIndex := 501, descriptorIndex := 391, attributes := #[] }] 49 2 #[1106, 1108, 575, 1110, 1112] #[{ accessFlags := 18, nameIndex := 13, descriptorIndex := 14, attributes := #[] }, { accessFlags := 18, nameIndex := 17, descriptorIndex := 18, attributes := #[] }, { accessFlags := 2, nameIndex := 21, descriptorIndex := 22, attributes := #[] }, { accessFlags := 2, nameIndex := 25, descriptorIndex := 26, attributes := #[] }, { accessFlags := 26, nameIndex := 1116, descriptorIndex := 1117, attributes := #[] }, { accessFlags := 24, nameIndex := 40, descriptorIndex := 26, attributes := #[] }, { accessFlags := 26, nameIndex := 1101, descriptorIndex := 1102, attributes := #[] }, { accessFlags := 26, nameIndex := 1121, descriptorIndex := 1122, attributes := #[] }, { accessFlags := 25, nameIndex := 599, descriptorIndex := 600, attributes := #[] }, { accessFlags := 24, nameIndex := 1125, descriptorIndex := 18, attributes := #[] }, { accessFlags := 24, nameIndex := 1127, descriptorIndex := 18, attributes := #[] }])
  fields := #[{ name := "value", type := (.array .byte), accessFlags := 18, slot := 0, constantValue := 0 }, { name := "coder", type := .byte, accessFlags := 18, slot := 1, constantValue := 0 }, { name := "hash", type := .int, accessFlags := 2, slot := 2, constantValue := 0 }, { name := "hashIsZero", type := .boolean, accessFlags := 2, slot := 3, constantValue := 0 }, { name := "serialVersionUID", type := .long, accessFlags := 26, slot := 0, constantValue := 0 }, { name := "COMPACT_STRINGS", type := .boolean, accessFlags := 24, slot := 1, constantValue := 0 }, { name := "serialPersistentFields", type := (.array (.object "java/io/ObjectStreamField")), accessFlags := 26, slot := 2, constantValue := 0 }, { name := "REPL", type := .char, accessFlags := 26, slot := 3, constantValue := 0 }, { name := "CASE_INSENSITIVE_ORDER", type := (.object "java/util/Comparator"), accessFlags := 25, slot := 4, constantValue := 0 }, { name := "LATIN1", type := .byte, accessFlags := 24, slot := 5, constantValue := 0 }, { name := "UTF16", type := .byte, accessFlags := 24, slot := 6, constantValue := 0 }]
  methods := #[k7m0, k7m1, k7m2, k7m3, k7m4, k7m5, k7m6, k7m7]
  instanceTypes := #[(.array .byte), .byte, .int, .boolean]
  staticTypes := #[.long, .boolean, (.array (.object "java/io/ObjectStreamField")), .char, (.object "java/util/Comparator"), .byte, .byte]
  resolved := Array.replicate 1451 none
  statics := some 0 }

def pool8 : Array CpInfo := pool [(4, .class_ 6), (1, u "java/lang/Object"), (2, .fieldref 10 11), (0, .class_ 12), (0, .nameAndType 13 14), (0, u "com/example/onus_on_beans/onusonbeans/validators/CheckDigitRange"), (0, u "start"), (0, u "I"), (0, .fieldref 10 16), (0, .nameAndType 17 14), (0, u "end"), (0, .fieldref 10 19), (0, .nameAndType 20 14), (0, u "checkAt"), (0, .fieldref 10 22), (0, .nameAndType 23 24), (0, u "ignoresOthers"), (0, u "Z"), (11, u "()I"), (30, .fieldref 10 68), (0, .nameAndType 69 70), (0, u "WHOLE_TEXT_OF_DIGITS"), (0, u "Lcom/example/onus_on_beans/onusonbeans/validators/CheckDigitRange;"), (0, .fieldref 10 72), (0, .nameAndType 73 70), (0, u "WHOLE_TEXT"), (0, .integer 2147483647), (0, .interfaceMethodref 76 77), (0, .class_ 78), (0, .nameAndType 79 36), (0, u "java/lang/CharSequence"), (0, u "length"), (0, .methodref 10 81), (0, .nameAndType 82 83), (0, u "lastCheckCharacter"), (0, u "(Ljava/lang/CharSequence;ILcom/example/onus_on_beans/onusonbeans/validators/CheckDigitScheme;)I"), (0, .interfaceMethodref 76 85), (0, .nameAndType 86 87), (0, u "charAt"), (0, u "(I)C"), (0, .methodref 89 90), (0, .class_ 91), (0, .nameAndType 92 93), (0, u "com/example/onus_on_beans/onusonbeans/validators/CheckDigitScheme"), (0, u "isDigit"), (0, u "(C)Z"), (0, .methodref 89 95), (0, .nameAndType 96 97), (0, u "termOf"), (0, u "(II)I"), (0, .methodref 89 99), (0, .nameAndType 100 36), (0, u "modulus"), (0, .methodref 89 102), (0, .nameAndType 103 87), (0, u "checkCharacterOf"), (0, .methodref 89 105), (0, .nameAndType 106 93), (0, u "isCheckCharacter"), (0, u "TO_THE_END"), (1, u "AFTER_THE_DIGITS"), (10, u "wholeText"), (0, u "(Z)Lcom/example/onus_on_beans/onusonbeans/validators/CheckDigitRange;"), (0, u "holds"), (0, u "(Ljava/lang/CharSequence;Lcom/example/onus_on_beans/onusonbeans/validators/CheckDigitScheme;)Z")] 18

def k8c0 : Code := { maxStack := 1, maxLocals := 1, code := prog_14_method_3_code, exceptionTable := #[], attributes := #[] }
def k8m0 : Method := { name := "wholeText", desc := "(Z)Lcom/example/onus_on_beans/onusonbeans/validators/CheckDigitRange;", sig := { parameters := [.boolean], returnType := some (.object "com/example/onus_on_beans/onusonbeans/validators/CheckDigitRange") }, accessFlags := 8, code := some k8c0 }
def k8c1 : Code := { maxStack := 5, maxLocals := 9, code := prog_14_method_4_code, exceptionTable := #[], attributes := #[] }
def k8m1 : Method := { name := "holds", desc := "(Ljava/lang/CharSequence;Lcom/example/onus_on_beans/onusonbeans/validators/CheckDigitScheme;)Z", sig := { parameters := [(.object "java/lang/CharSequence"), (.object "com/example/onus_on_beans/onusonbeans/validators/CheckDigitScheme")], returnType := some .boolean }, accessFlags := 0, code := some k8c1 }
def k8c2 : Code := { maxStack := 3, maxLocals := 5, code := prog_14_method_5_code, exceptionTable := #[], attributes := #[] }
def k8m2 : Method := { name := "lastCheckCharacter", desc := "(Ljava/lang/CharSequence;ILcom/example/onus_on_beans/onusonbeans/validators/CheckDigitScheme;)I", sig := { parameters := [(.object "java/lang/CharSequence"), .int, (.object "com/example/onus_on_beans/onusonbeans/validators/CheckDigitScheme")], returnType := some .int }, accessFlags := 2, code := some k8c2 }
/-- com/example/onus_on_beans/onusonbeans/validators/CheckDigitRange -/
def k8 : Class := { plain "com/example/onus_on_beans/onusonbeans/validators/CheckDigitRange" (some 0) with
  accessFlags := 48
  interfaces := #[]
  cf := some (fileOf pool8 10 #[] #[{ accessFlags := 8, nameIndex := 120, descriptorIndex := 121, attributes := #[] }, { accessFlags := 0, nameIndex := 122, descriptorIndex := 123, attributes := #[] }, { accessFlags := 2, nameIndex := 82, descriptorIndex := 83, attributes := #[] }] 48 4 #[] #[{ accessFlags := 26, nameIndex := 107, descriptorIndex := 14, attributes := #[] }, { accessFlags := 26, nameIndex := 109, descriptorIndex := 14, attributes := #[] }, { accessFlags := 26, nameIndex := 73, descriptorIndex := 70, attributes := #[] }, { accessFlags := 26, nameIndex := 69, descriptorIndex := 70, attributes := #[] }, { accessFlags := 18, nameIndex := 13, descriptorIndex := 14, attributes := #[] }, { accessFlags := 18, nameIndex := 17, descriptorIndex := 14, attributes := #[] }, { accessFlags := 18, nameIndex := 20, descriptorIndex := 14, attributes := #[] }, { accessFlags := 18, nameIndex := 23, descriptorIndex := 24, attributes := #[] }])
  fields := #[{ name := "TO_THE_END", type := .int, accessFlags := 26, slot := 0, constantValue := 0 }, { name := "AFTER_THE_DIGITS", type := .int, accessFlags := 26, slot := 1, constantValue := 0 }, { name := "WHOLE_TEXT", type := (.object "com/example/onus_on_beans/onusonbeans/validators/CheckDigitRange"), accessFlags := 26, slot := 2, constantValue := 0 }, { name := "WHOLE_TEXT_OF_DIGITS", type := (.object "com/example/onus_on_beans/onusonbeans/validators/CheckDigitRange"), accessFlags := 26, slot := 3, constantValue := 0 }, { name := "start", type := .int, accessFlags := 18, slot := 0, constantValue := 0 }, { name := "end", type := .int, accessFlags := 18, slot := 1, constantValue := 0 }, { name := "checkAt", type := .int, accessFlags := 18, slot := 2, constantValue := 0 }, { name := "ignoresOthers", type := .boolean, accessFlags := 18, slot := 3, constantValue := 0 }]
  methods := #[k8m0, k8m1, k8m2]
  instanceTypes := #[.int, .int, .int, .boolean]
  staticTypes := #[.int, .int, (.object "com/example/onus_on_beans/onusonbeans/validators/CheckDigitRange"), (.object "com/example/onus_on_beans/onusonbeans/validators/CheckDigitRange")]
  resolved := Array.replicate 142 none
  statics := some 1 }

def pool9 : Array CpInfo := pool [(4, .class_ 6), (1, u "java/lang/Object"), (2, .fieldref 10 11), (0, .class_ 12), (0, .nameAndType 13 14), (0, u "com/example/onus_on_beans/onusonbeans/validators/CheckDigitScheme"), (0, u "modulus"), (0, u "I"), (0, .class_ 16), (0, u "com/example/onus_on_beans/onusonbeans/validators/CheckDigitScheme$Mod10"), (3, .class_ 21), (0, u "com/example/onus_on_beans/onusonbeans/validators/CheckDigitScheme$Mod11"), (3, .methodref 10 26), (0, .nameAndType 27 28), (0, u "isDigit"), (0, u "(C)Z"), (0, .class_ 30), (0, u "com/example/onus_on_beans/onusonbeans/validators/CheckDigitScheme$Luhn"), (3, u "LUHN"), (0, u "Lcom/example/onus_on_beans/onusonbeans/validators/CheckDigitScheme;"), (2, u "GS1"), (3, u "ISBN_10"), (0, u "NO_THRESHOLD"), (8, u "()I"), (0, u "termOf"), (0, u "(II)I"), (0, u "checkCharacterOf"), (0, u "(I)C"), (0, u "isCheckCharacter")] 9

def k9c0 : Code := { maxStack := 1, maxLocals := 1, code := prog_16_method_4_code, exceptionTable := #[], attributes := #[] }
def k9m0 : Method := { name := "modulus", desc := "()I", sig := { parameters := [], returnType := some .int }, accessFlags := 16, code := some k9c0 }
def k9m1 : Method := { name := "termOf", desc := "(II)I", sig := { parameters := [.int, .int], returnType := some .int }, accessFlags := 1024, code := none }
def k9m2 : Method := { name := "checkCharacterOf", desc := "(I)C", sig := { parameters := [.int], returnType := some .char }, accessFlags := 1024, code := none }
def k9c3 : Code := { maxStack := 1, maxLocals := 2, code := prog_16_method_7_code, exceptionTable := #[], attributes := #[] }
def k9m3 : Method := { name := "isCheckCharacter", desc := "(C)Z", sig := { parameters := [.char], returnType := some .boolean }, accessFlags := 0, code := some k9c3 }
def k9c4 : Code := { maxStack := 2, maxLocals := 1, code := prog_16_method_8_code, exceptionTable := #[], attributes := #[] }
def k9m4 : Method := { name := "isDigit", desc := "(C)Z", sig := { parameters := [.char], returnType := some .boolean }, accessFlags := 8, code := some k9c4 }
/-- com/example/onus_on_beans/onusonbeans/validators/CheckDigitScheme -/
def k9 : Class := { plain "com/example/onus_on_beans/onusonbeans/validators/CheckDigitScheme" (some 0) with
  accessFlags := 1056
  interfaces := #[]
  cf := some (fileOf pool9 10 #[.nestMembers #[20, 15, 29]] #[{ accessFlags := 16, nameIndex := 13, descriptorIndex := 52, attributes := #[] }, { accessFlags := 1024, nameIndex := 53, descriptorIndex := 54, attributes := #[] }, { accessFlags := 1024, nameIndex := 55, descriptorIndex := 56, attributes := #[] }, { accessFlags := 0, nameIndex := 57, descriptorIndex := 28, attributes := #[] }, { accessFlags := 8, nameIndex := 27, descriptorIndex := 28, attributes := #[] }] 1056 4 #[] #[{ accessFlags := 24, nameIndex := 43, descriptorIndex := 14, attributes := #[] }, { accessFlags := 24, nameIndex := 34, descriptorIndex := 35, attributes := #[] }, { accessFlags := 24, nameIndex := 38, descriptorIndex := 35, attributes := #[] }, { accessFlags := 24, nameIndex := 42, descriptorIndex := 35, attributes := #[] }, { accessFlags := 18, nameIndex := 13, descriptorIndex := 14, attributes := #[] }])
  fields := #[{ name := "NO_THRESHOLD", type := .int, accessFlags := 24, slot := 0, constantValue := 0 }, { name := "LUHN", type := (.object "com/example/onus_on_beans/onusonbeans/validators/CheckDigitScheme"), accessFlags := 24, slot := 1, constantValue := 0 }, { name := "GS1", type := (.object "com/example/onus_on_beans/onusonbeans/validators/CheckDigitScheme"), accessFlags := 24, slot := 2, constantValue := 0 }, { name := "ISBN_10", type := (.object "com/example/onus_on_beans/onusonbeans/validators/CheckDigitScheme"), accessFlags := 24, slot := 3, constantValue := 0 }, { name := "modulus", type := .int, accessFlags := 18, slot := 0, constantValue := 0 }]
  methods := #[k9m0, k9m1, k9m2, k9m3, k9m4]
  instanceTypes := #[.int]
  staticTypes := #[.int, (.object "com/example/onus_on_beans/onusonbeans/validators/CheckDigitScheme"), (.object "com/example/onus_on_beans/onusonbeans/validators/CheckDigitScheme"), (.object "com/example/onus_on_beans/onusonbeans/validators/CheckDigitScheme")]
  resolved := Array.replicate 67 none
  statics := some 2 }

def pool10 : Array CpInfo := pool [(6, .class_ 8), (1, u "java/lang/Object"), (0, u "<init>"), (0, u "()V"), (1, .class_ 14), (1, u "java/lang/StringUTF16"), (31, u "$assertionsDisabled"), (0, u "Z"), (13, u "HI_BYTE_SHIFT"), (0, u "I"), (2, u "LO_BYTE_SHIFT"), (49, .methodref 12 116), (0, .nameAndType 117 118), (0, u "compress"), (0, u "([CI[BII)I"), (3, u "([CII)[B"), (138, u "coderFromArrayLen"), (0, u "([BI)B"), (106, .class_ 371), (1, u "java/lang/StringUTF16$LinesSpliterator"), (58, u "MAX_LENGTH"), (196, .class_ 628), (0, u "java/lang/StringUTF16$CodePointsSpliterator"), (0, .class_ 630), (0, u "java/lang/StringUTF16$CharsSpliterator")] 4

def k10m0 : Method := { name := "<init>", desc := "()V", sig := { parameters := [], returnType := none }, accessFlags := 0, code := none }
def k10c1 : Code := { maxStack := 2, maxLocals := 2, code := jdk_52_method_15_code, exceptionTable := #[], attributes := #[] }
def k10m1 : Method := { name := "coderFromArrayLen", desc := "([BI)B", sig := { parameters := [(.array .byte), .int], returnType := some .byte }, accessFlags := 8, code := some k10c1 }
def k10c2 : Code := { maxStack := 5, maxLocals := 6, code := jdk_52_method_16_code, exceptionTable := #[], attributes := #[] }
def k10m2 : Method := { name := "compress", desc := "([CII)[B", sig := { parameters := [(.array .char), .int, .int], returnType := some (.array .byte) }, accessFlags := 9, code := some k10c2 }
def k10c3 : Code := { maxStack := 3, maxLocals := 7, code := jdk_52_method_21_code, exceptionTable := #[], attributes := #[] }
def k10m3 : Method := { name := "compress", desc := "([CI[BII)I", sig := { parameters := [(.array .char), .int, (.array .byte), .int, .int], returnType := some .int }, accessFlags := 9, code := some k10c3 }
/-- java/lang/StringUTF16 -/
def k10 : Class := { plain "java/lang/StringUTF16" (some 0) with
  accessFlags := 48
  interfaces := #[]
  cf := some (fileOf pool10 12 #[.nestMembers #[627, 629, 369]] #[{ accessFlags := 0, nameIndex := 9, descriptorIndex := 10, attributes := #[] }, { accessFlags := 8, nameIndex := 261, descriptorIndex := 262, attributes := #[] }, { accessFlags := 9, nameIndex := 117, descriptorIndex := 122, attributes := #[] }, { accessFlags := 9, nameIndex := 117, descriptorIndex := 118, attributes := #[] }] 48 6 #[] #[{ accessFlags := 26, nameIndex := 61, descriptorIndex := 62, attributes := #[] }, { accessFlags := 26, nameIndex := 65, descriptorIndex := 62, attributes := #[] }, { accessFlags := 24, nameIndex := 430, descriptorIndex := 62, attributes := #[] }, { accessFlags := 4120, nameIndex := 46, descriptorIndex := 47, attributes := #[] }])
  fields := #[{ name := "HI_BYTE_SHIFT", type := .int, accessFlags := 26, slot := 0, constantValue := 0 }, { name := "LO_BYTE_SHIFT", type := .int, accessFlags := 26, slot := 1, constantValue := 0 }, { name := "MAX_LENGTH", type := .int, accessFlags := 24, slot := 2, constantValue := 0 }, { name := "$assertionsDisabled", type := .boolean, accessFlags := 4120, slot := 3, constantValue := 0 }]
  methods := #[k10m0, k10m1, k10m2, k10m3]
  instanceTypes := #[]
  staticTypes := #[.int, .int, .int, .boolean]
  resolved := Array.replicate 635 none
  statics := none }

def pool11 : Array CpInfo := pool [(1, .class_ 2), (0, u "java/lang/String"), (1, .class_ 6), (1, u "java/lang/Object"), (0, u "<init>"), (0, u "()V"), (0, .methodref 1 10), (0, .nameAndType 11 12), (0, u "checkIndex"), (0, u "(II)V"), (1, .class_ 16), (1, u "java/lang/StringLatin1"), (36, u "([BI)C"), (67, u "$assertionsDisabled"), (0, u "Z"), (98, .class_ 223), (1, u "java/lang/StringLatin1$LinesSpliterator"), (28, u "charAt"), (137, .class_ 391), (0, u "java/lang/StringLatin1$CharsSpliterator")] 3

def k11m0 : Method := { name := "<init>", desc := "()V", sig := { parameters := [], returnType := none }, accessFlags := 0, code := none }
def k11c1 : Code := { maxStack := 2, maxLocals := 2, code := jdk_43_method_2_code, exceptionTable := #[], attributes := #[] }
def k11m1 : Method := { name := "charAt", desc := "([BI)C", sig := { parameters := [(.array .byte), .int], returnType := some .char }, accessFlags := 9, code := some k11c1 }
/-- java/lang/StringLatin1 -/
def k11 : Class := { plain "java/lang/StringLatin1" (some 0) with
  accessFlags := 48
  interfaces := #[]
  cf := some (fileOf pool11 14 #[.nestMembers #[390, 221]] #[{ accessFlags := 0, nameIndex := 7, descriptorIndex := 8, attributes := #[] }, { accessFlags := 9, nameIndex := 252, descriptorIndex := 53, attributes := #[] }] 48 4 #[] #[{ accessFlags := 4120, nameIndex := 121, descriptorIndex := 122, attributes := #[] }])
  fields := #[{ name := "$assertionsDisabled", type := .boolean, accessFlags := 4120, slot := 0, constantValue := 0 }]
  methods := #[k11m0, k11m1]
  instanceTypes := #[]
  staticTypes := #[.boolean]
  resolved := Array.replicate 395 none
  statics := none }

def pool12 : Array CpInfo := pool [(2, .class_ 4), (1, u "java/lang/Object"), (0, u "<init>"), (0, u "()V"), (17, .class_ 26), (1, u "jdk/internal/util/Preconditions"), (6, u "checkIndex"), (21, .class_ 56), (0, u "jdk/internal/util/Preconditions$4"), (57, .class_ 115), (0, u "jdk/internal/util/Preconditions$1"), (7, u "SIOOBE_FORMATTER"), (0, u "Ljava/util/function/BiFunction;"), (0, .class_ 126), (0, u "jdk/internal/util/Preconditions$2"), (3, u "AIOOBE_FORMATTER"), (0, .class_ 132), (0, u "jdk/internal/util/Preconditions$3"), (3, u "IOOBE_FORMATTER"), (41, u "(IILjava/util/function/BiFunction;)I")] 15

def k12m0 : Method := { name := "<init>", desc := "()V", sig := { parameters := [], returnType := none }, accessFlags := 1, code := none }
def k12c1 : Code := { maxStack := 3, maxLocals := 3, code := jdk_41_method_11_code, exceptionTable := #[], attributes := #[] }
def k12m1 : Method := { name := "checkIndex", desc := "(IILjava/util/function/BiFunction;)I", sig := { parameters := [.int, .int, (.object "java/util/function/BiFunction")], returnType := some .int }, accessFlags := 9, code := some k12c1 }
/-- jdk/internal/util/Preconditions -/
def k12 : Class := { plain "jdk/internal/util/Preconditions" (some 0) with
  accessFlags := 33
  interfaces := #[]
  cf := some (fileOf pool12 24 #[.nestMembers #[55, 131, 125, 114]] #[{ accessFlags := 1, nameIndex := 5, descriptorIndex := 6, attributes := #[] }, { accessFlags := 9, nameIndex := 33, descriptorIndex := 178, attributes := #[] }] 33 2 #[] #[{ accessFlags := 25, nameIndex := 123, descriptorIndex := 124, attributes := #[] }, { accessFlags := 25, nameIndex := 130, descriptorIndex := 124, attributes := #[] }, { accessFlags := 25, nameIndex := 136, descriptorIndex := 124, attributes := #[] }])
  fields := #[{ name := "SIOOBE_FORMATTER", type := (.object "java/util/function/BiFunction"), accessFlags := 25, slot := 0, constantValue := 0 }, { name := "AIOOBE_FORMATTER", type := (.object "java/util/function/BiFunction"), accessFlags := 25, slot := 1, constantValue := 0 }, { name := "IOOBE_FORMATTER", type := (.object "java/util/function/BiFunction"), accessFlags := 25, slot := 2, constantValue := 0 }]
  methods := #[k12m0, k12m1]
  instanceTypes := #[]
  staticTypes := #[(.object "java/util/function/BiFunction"), (.object "java/util/function/BiFunction"), (.object "java/util/function/BiFunction")]
  resolved := Array.replicate 194 none
  statics := some 3 }

def pool13 : Array CpInfo := pool [(2, .class_ 4), (1, u "com/example/onus_on_beans/onusonbeans/validators/CheckDigitScheme"), (0, u "<init>"), (1, .class_ 8), (0, u "com/example/onus_on_beans/onusonbeans/validators/CheckDigitScheme$Luhn"), (0, u "()V"), (2, u "termOf"), (0, u "(II)I"), (1, u "checkCharacterOf"), (0, u "(I)C")] 5

def k13m0 : Method := { name := "<init>", desc := "()V", sig := { parameters := [], returnType := none }, accessFlags := 0, code := none }
def k13c1 : Code := { maxStack := 2, maxLocals := 4, code := prog_17_method_2_code, exceptionTable := #[], attributes := #[] }
def k13m1 : Method := { name := "termOf", desc := "(II)I", sig := { parameters := [.int, .int], returnType := some .int }, accessFlags := 0, code := some k13c1 }
def k13c2 : Code := { maxStack := 3, maxLocals := 2, code := prog_17_method_3_code, exceptionTable := #[], attributes := #[] }
def k13m2 : Method := { name := "checkCharacterOf", desc := "(I)C", sig := { parameters := [.int], returnType := some .char }, accessFlags := 0, code := some k13c2 }
/-- com/example/onus_on_beans/onusonbeans/validators/CheckDigitScheme$Luhn -/
def k13 : Class := { plain "com/example/onus_on_beans/onusonbeans/validators/CheckDigitScheme$Luhn" (some 9) with
  accessFlags := 48
  interfaces := #[]
  cf := some (fileOf pool13 7 #[.nestHost 2] #[{ accessFlags := 0, nameIndex := 5, descriptorIndex := 9, attributes := #[] }, { accessFlags := 0, nameIndex := 12, descriptorIndex := 13, attributes := #[] }, { accessFlags := 0, nameIndex := 15, descriptorIndex := 16, attributes := #[] }] 48 2 #[] #[])
  fields := #[]
  methods := #[k13m0, k13m1, k13m2]
  instanceTypes := #[.int]
  staticTypes := #[]
  resolved := Array.replicate 22 none
  statics := none }

def pool14 : Array CpInfo := pool [(9, u "<init>"), (6, .class_ 18), (1, u "java/lang/Object"), (0, u "()V"), (1, .class_ 23), (1, u "jdk/internal/util/ArraysSupport"), (0, u "LOG2_ARRAY_LONG_INDEX_SCALE"), (0, u "I"), (2, u "U"), (0, u "Ljdk/internal/misc/Unsafe;"), (8, u "BIG_ENDIAN"), (0, u "Z"), (8, u "LOG2_BYTE_BIT_SIZE"), (4, u "LOG2_ARRAY_INT_INDEX_SCALE"), (54, u "JLA"), (0, u "Ljdk/internal/access/JavaLangAccess;"), (11, u "LOG2_ARRAY_BOOLEAN_INDEX_SCALE"), (9, u "LOG2_ARRAY_BYTE_INDEX_SCALE"), (5, u "LOG2_ARRAY_CHAR_INDEX_SCALE"), (5, u "LOG2_ARRAY_SHORT_INDEX_SCALE"), (18, u "LOG2_ARRAY_FLOAT_INDEX_SCALE"), (24, u "LOG2_ARRAY_DOUBLE_INDEX_SCALE"), (89, u "T_BOOLEAN"), (2, u "T_CHAR"), (1, u "T_FLOAT"), (1, u "T_DOUBLE"), (1, u "T_BYTE"), (1, u "T_SHORT"), (1, u "T_INT"), (1, u "T_LONG"), (1, u "SOFT_MAX_ARRAY_LENGTH")] 83

def k14m0 : Method := { name := "<init>", desc := "()V", sig := { parameters := [], returnType := none }, accessFlags := 2, code := none }
/-- jdk/internal/util/ArraysSupport -/
def k14 : Class := { plain "jdk/internal/util/ArraysSupport" (some 0) with
  accessFlags := 33
  interfaces := #[]
  cf := some (fileOf pool14 21 #[] #[{ accessFlags := 2, nameIndex := 9, descriptorIndex := 19, attributes := #[] }] 33 16 #[] #[{ accessFlags := 24, nameIndex := 28, descriptorIndex := 29, attributes := #[] }, { accessFlags := 26, nameIndex := 38, descriptorIndex := 39, attributes := #[] }, { accessFlags := 25, nameIndex := 121, descriptorIndex := 25, attributes := #[] }, { accessFlags := 25, nameIndex := 131, descriptorIndex := 25, attributes := #[] }, { accessFlags := 25, nameIndex := 137, descriptorIndex := 25, attributes := #[] }, { accessFlags := 25, nameIndex := 143, descriptorIndex := 25, attributes := #[] }, { accessFlags := 25, nameIndex := 53, descriptorIndex := 25, attributes := #[] }, { accessFlags := 25, nameIndex := 24, descriptorIndex := 25, attributes := #[] }, { accessFlags := 25, nameIndex := 162, descriptorIndex := 25, attributes := #[] }, { accessFlags := 25, nameIndex := 187, descriptorIndex := 25, attributes := #[] }, { accessFlags := 26, nameIndex := 48, descriptorIndex := 25, attributes := #[] }, { accessFlags := 25, nameIndex := 277, descriptorIndex := 25, attributes := #[] }, { accessFlags := 25, nameIndex := 280, descriptorIndex := 25, attributes := #[] }, { accessFlags := 25, nameIndex := 282, descriptorIndex := 25, attributes := #[] }, { accessFlags := 25, nameIndex := 284, descriptorIndex := 25, attributes := #[] }, { accessFlags := 25, nameIndex := 286, descriptorIndex := 25, attributes := #[] }, { accessFlags := 25, nameIndex := 288, descriptorIndex := 25, attributes := #[] }, { accessFlags := 25, nameIndex := 290, descriptorIndex := 25, attributes := #[] }, { accessFlags := 25, nameIndex := 292, descriptorIndex := 25, attributes := #[] }, { accessFlags := 26, nameIndex := 108, descriptorIndex := 109, attributes := #[] }, { accessFlags := 25, nameIndex := 294, descriptorIndex := 25, attributes := #[] }])
  fields := #[{ name := "U", type := (.object "jdk/internal/misc/Unsafe"), accessFlags := 24, slot := 0, constantValue := 0 }, { name := "BIG_ENDIAN", type := .boolean, accessFlags := 26, slot := 1, constantValue := 0 }, { name := "LOG2_ARRAY_BOOLEAN_INDEX_SCALE", type := .int, accessFlags := 25, slot := 2, constantValue := 0 }, { name := "LOG2_ARRAY_BYTE_INDEX_SCALE", type := .int, accessFlags := 25, slot := 3, constantValue := 0 }, { name := "LOG2_ARRAY_CHAR_INDEX_SCALE", type := .int, accessFlags := 25, slot := 4, constantValue := 0 }, { name := "LOG2_ARRAY_SHORT_INDEX_SCALE", type := .int, accessFlags := 25, slot := 5, constantValue := 0 }, { name := "LOG2_ARRAY_INT_INDEX_SCALE", type := .int, accessFlags := 25, slot := 6, constantValue := 0 }, { name := "LOG2_ARRAY_LONG_INDEX_SCALE", type := .int, accessFlags := 25, slot := 7, constantValue := 0 }, { name := "LOG2_ARRAY_FLOAT_INDEX_SCALE", type := .int, accessFlags := 25, slot := 8, constantValue := 0 }, { name := "LOG2_ARRAY_DOUBLE_INDEX_SCALE", type := .int, accessFlags := 25, slot := 9, constantValue := 0 }, { name := "LOG2_BYTE_BIT_SIZE", type := .int, accessFlags := 26, slot := 10, constantValue := 0 }, { name := "T_BOOLEAN", type := .int, accessFlags := 25, slot := 11, constantValue := 0 }, { name := "T_CHAR", type := .int, accessFlags := 25, slot := 12, constantValue := 0 }, { name := "T_FLOAT", type := .int, accessFlags := 25, slot := 13, constantValue := 0 }, { name := "T_DOUBLE", type := .int, accessFlags := 25, slot := 14, constantValue := 0 }, { name := "T_BYTE", type := .int, accessFlags := 25, slot := 15, constantValue := 0 }, { name := "T_SHORT", type := .int, accessFlags := 25, slot := 16, constantValue := 0 }, { name := "T_INT", type := .int, accessFlags := 25, slot := 17, constantValue := 0 }, { name := "T_LONG", type := .int, accessFlags := 25, slot := 18, constantValue := 0 }, { name := "JLA", type := (.object "jdk/internal/access/JavaLangAccess"), accessFlags := 26, slot := 19, constantValue := 0 }, { name := "SOFT_MAX_ARRAY_LENGTH", type := .int, accessFlags := 25, slot := 20, constantValue := 0 }]
  methods := #[k14m0]
  instanceTypes := #[]
  staticTypes := #[(.object "jdk/internal/misc/Unsafe"), .boolean, .int, .int, .int, .int, .int, .int, .int, .int, .int, .int, .int, .int, .int, .int, .int, .int, .int, (.object "jdk/internal/access/JavaLangAccess"), .int]
  resolved := Array.replicate 378 none
  statics := none }

def pool15 : Array CpInfo := pool [(1, u "java/lang/Cloneable"), (0, .class_ 1), (0, u "java/lang/Object"), (0, .class_ 3)] 3

/-- java/lang/Cloneable -/
def k15 : Class := { plain "java/lang/Cloneable" (some 0) with
  accessFlags := 1537
  interfaces := #[]
  cf := some (fileOf pool15 2 #[] #[] 1537 4 #[] #[])
  fields := #[]
  methods := #[]
  instanceTypes := #[]
  staticTypes := #[]
  resolved := Array.replicate 8 none
  statics := none }

/-- the primitive byte -/
def k16 : Class := { plain "byte" none with kind := .primitive 'B', accessFlags := 0x411 }
/-- [B -/
def k17 : Class := { plain "[B" (some 0) with kind := .array 16 .byte, interfaces := #[15, 2], accessFlags := 1041 }

/-- the primitive char -/
def k18 : Class := { plain "char" none with kind := .primitive 'C', accessFlags := 0x411 }
/-- [C -/
def k19 : Class := { plain "[C" (some 0) with kind := .array 18 .char, interfaces := #[15, 2], accessFlags := 1041 }

/-- the primitive int -/
def k20 : Class := { plain "int" none with kind := .primitive 'I', accessFlags := 0x411 }
/-- [I -/
def k21 : Class := { plain "[I" (some 0) with kind := .array 20 .int, interfaces := #[15, 2], accessFlags := 1041 }

def heap : Heap := #[{ cls := 7, slots := #[.long 0, .int 1, .null, .int 0, .null, .int 0, .int 0], vm := .statics 7 },
  { cls := 8, slots := #[.int 0, .int 0, .ref 5, .ref 4], vm := .statics 8 },
  { cls := 9, slots := #[.int 0, .ref 6, .null, .null], vm := .statics 9 },
  { cls := 12, slots := #[.null, .null, .null], vm := .statics 12 },
  { cls := 8, slots := #[.int 0, .int 2147483647, .int (-1), .int 1], vm := .none },
  { cls := 8, slots := #[.int 0, .int 2147483647, .int (-1), .int 0], vm := .none },
  { cls := 13, slots := #[.int 10], vm := .none }]
def classes : Array Class := #[k0, k1, k2, k3, k4, k5, k6, k7, k8, k9, k10, k11, k12, k13, k14, k15, k16, k17, k18, k19, k20, k21]
def interned : List (Array UInt16 × Addr) := []
def slotsUsed : Nat := 27
def theMethod : MethodId := ⟨1, 1⟩
def args0 : Array Value := #[.int 5, .int 3, .int 2, .int 1, .int 4]
def aboutOver (below : List Frame) : State where
  vm := { classes := classes, interned := interned.toArray }
  heap := heap
  slotsUsed := slotsUsed
  threads := #[{ frames := .invoking theMethod args0 :: below }]
def below0 : List Frame := [.native { method := ⟨0, 0⟩, args := #[] }]
def about1 : State := aboutOver below0
def p0 : Program := .bare "" "" ""
def e0 : Env := launch0.env 0 0 0
theorem w_frames : about1.frames = Frame.invoking theMethod args0 :: below0 := rfl
set_option maxRecDepth 65536 in
theorem w_args : argsFit about1.vm theMethod args0 = true := by decide +kernel
set_option maxRecDepth 65536 in
theorem w_heap : heapFits about1 = true := by decide +kernel
set_option maxRecDepth 65536 in
theorem w_runnable : about1.curStatus? = some .runnable := by decide +kernel
set_option maxRecDepth 65536 in
theorem w_alone : about1.alone = true := by decide +kernel
set_option maxRecDepth 65536 in
theorem w_named : about1.methodNamed? x = some theMethod := by decide +kernel
set_option maxRecDepth 65536 in
theorem w_hears : about1.hears theMethod below0 = true := by decide +kernel
set_option maxRecDepth 65536 in
theorem w_ripe : about1.ripe theMethod args0 below0 = true := by decide +kernel
theorem w_running : about1.status = .running := rfl
set_option maxRecDepth 65536 in
theorem w_room : about1.hasRoom e0.platform room_1 = true :=
  launch0.hasRoom_least _ room_1 (by decide +kernel) (by decide +kernel) (by decide +kernel) (by decide +kernel) (by decide +kernel) (by decide +kernel)
theorem allAtoms_all (ts : List Jvm.Cond) (a : Array Jvm.Value) (st : Jvm.State) : (allAtoms ts).before a st = ts.all (fun c => c.before a st) := by
  induction ts with
  | nil => rfl
  | cons c t ih =>
    show (Jvm.Cond.and c (allAtoms t)).before a st = _
    rw [Jvm.Cond.before_and, ih, List.all_cons]
def words1 : List Jvm.Cond := Jvm.Cond.code x code maxLocals ret :: tables_1
/-- a 'code' word, met by the world's own term for the bytes: nothing is compared byte by byte -/
theorem code_word {y : MethodName} {bytes : ByteArray} {mx : Nat} {rt : Option FieldType} {a : Array Value} {s : State} {m : MethodId} {meth : Method} {c : Code} (h1 : s.methodNamed? y = some m) (h2 : s.vm.method? m = some meth) (h3 : meth.code = some c) (h4 : c.code = bytes)
    (h5 : (c.maxLocals == mx && c.exceptionTable.isEmpty && decide (c.maxStack ≤ mostOperands) && decide (meth.sig.returnType = rt) && !meth.locks && decide (parseMethodDescriptor y.desc = some meth.sig)) = true) : (Jvm.Cond.code y bytes mx rt).before a s = true := by
  simp only [Bool.and_eq_true, beq_iff_eq, Bool.not_eq_true', decide_eq_true_eq] at h5
  obtain ⟨⟨⟨⟨⟨g1, g2⟩, g3⟩, g4⟩, g5⟩, g6⟩ := h5
  simp [Cond.before, Cond.holds, Cond.value, h1, h2, h3, h4, g1, g2, g3, g4, g5, g6]
def isCode : Jvm.Cond → Bool
  | .code _ _ _ _ => true
  | _ => false
theorem all_split {L : List Jvm.Cond} {P : Jvm.Cond → Bool} (h1 : L.all (fun c => isCode c || P c) = true) (h2 : ∀ c ∈ L.filter isCode, P c = true) : L.all P = true := by
  refine List.all_eq_true.mpr fun c hc => ?_
  have h := List.all_eq_true.mp h1 c hc
  rcases Bool.eq_false_or_eq_true (isCode c) with hi | hi
  · exact h2 c (List.mem_filter.mpr ⟨hc, hi⟩)
  · simpa [hi] using h
set_option maxRecDepth 65536 in
theorem w_c0 : (Jvm.Cond.code x code maxLocals ret).before args0 about1 = true := code_word (m := ⟨1, 1⟩) (meth := k1m1) (c := k1c1) (by decide +kernel) rfl rfl rfl (by decide +kernel)
set_option maxRecDepth 65536 in
theorem w_c1 : (Jvm.Cond.code ({ cls := "com/example/onus_on_beans/onusonbeans/validators/CheckDigitRangeWholeTextPinLaw", name := "ch", desc := "(I)C" } : Jvm.MethodName) method_3_code (1 : Nat) (Option.some Jvm.ClassFile.FieldType.char)).before args0 about1 = true := code_word (m := ⟨1, 2⟩) (meth := k1m2) (c := k1c2) (by decide +kernel) rfl rfl rfl (by decide +kernel)
set_option maxRecDepth 65536 in
theorem w_c2 : (Jvm.Cond.code ({ cls := "com/example/onus_on_beans/onusonbeans/validators/CheckDigitRangeWholeTextPinLaw", name := "text", desc := "(ICCCC)Ljava/lang/String;" } : Jvm.MethodName) method_6_code (5 : Nat) (Option.some (Jvm.ClassFile.FieldType.object "java/lang/String"))).before args0 about1 = true := code_word (m := ⟨1, 5⟩) (meth := k1m5) (c := k1c5) (by decide +kernel) rfl rfl rfl (by decide +kernel)
set_option maxRecDepth 65536 in
theorem w_c3 : (Jvm.Cond.code ({ cls := "java/lang/String", name := "<init>", desc := "([C)V" } : Jvm.MethodName) jdk_42_method_3_code (2 : Nat) (Option.none : Option Jvm.ClassFile.FieldType)).before args0 about1 = true := code_word (m := ⟨7, 1⟩) (meth := k7m1) (c := k7c1) (by decide +kernel) rfl rfl rfl (by decide +kernel)
set_option maxRecDepth 65536 in
theorem w_c4 : (Jvm.Cond.code ({ cls := "java/lang/String", name := "<init>", desc := "([CIILjava/lang/Void;)V" } : Jvm.MethodName) jdk_42_method_149_code (6 : Nat) (Option.none : Option Jvm.ClassFile.FieldType)).before args0 about1 = true := code_word (m := ⟨7, 4⟩) (meth := k7m4) (c := k7c4) (by decide +kernel) rfl rfl rfl (by decide +kernel)
set_option maxRecDepth 65536 in
theorem w_c5 : (Jvm.Cond.code ({ cls := "java/lang/Object", name := "<init>", desc := "()V" } : Jvm.MethodName) object_method_1_code (1 : Nat) (Option.none : Option Jvm.ClassFile.FieldType)).before args0 about1 = true := code_word (m := ⟨0, 0⟩) (meth := k0m0) (c := k0c0) (by decide +kernel) rfl rfl rfl (by decide +kernel)
set_option maxRecDepth 65536 in
theorem w_c6 : (Jvm.Cond.code ({ cls := "com/example/onus_on_beans/onusonbeans/validators/CheckDigitRange", name := "wholeText", desc := "(Z)Lcom/example/onus_on_beans/onusonbeans/validators/CheckDigitRange;" } : Jvm.MethodName) prog_14_method_3_code (1 : Nat) (Option.some (Jvm.ClassFile.FieldType.object "com/example/onus_on_beans/onusonbeans/validators/CheckDigitRange"))).before args0 about1 = true := code_word (m := ⟨8, 0⟩) (meth := k8m0) (c := k8c0) (by decide +kernel) rfl rfl rfl (by decide +kernel)
set_option maxRecDepth 65536 in
theorem w_c7 : (Jvm.Cond.code ({ cls := "com/example/onus_on_beans/onusonbeans/validators/CheckDigitRange", name := "holds", desc := "(Ljava/lang/CharSequence;Lcom/example/onus_on_beans/onusonbeans/validators/CheckDigitScheme;)Z" } : Jvm.MethodName) prog_14_method_4_code (9 : Nat) (Option.some Jvm.ClassFile.FieldType.boolean)).before args0 about1 = true := code_word (m := ⟨8, 1⟩) (meth := k8m1) (c := k8c1) (by decide +kernel) rfl rfl rfl (by decide +kernel)
set_option maxRecDepth 65536 in
theorem w_c8 : (Jvm.Cond.code ({ cls := "java/lang/String", name := "length", desc := "()I" } : Jvm.MethodName) jdk_42_method_54_code (1 : Nat) (Option.some Jvm.ClassFile.FieldType.int)).before args0 about1 = true := code_word (m := ⟨7, 2⟩) (meth := k7m2) (c := k7c2) (by decide +kernel) rfl rfl rfl (by decide +kernel)
set_option maxRecDepth 65536 in
theorem w_c9 : (Jvm.Cond.code ({ cls := "java/lang/String", name := "coder", desc := "()B" } : Jvm.MethodName) jdk_42_method_152_code (1 : Nat) (Option.some Jvm.ClassFile.FieldType.byte)).before args0 about1 = true := code_word (m := ⟨7, 5⟩) (meth := k7m5) (c := k7c5) (by decide +kernel) rfl rfl rfl (by decide +kernel)
set_option maxRecDepth 65536 in
theorem w_c10 : (Jvm.Cond.code ({ cls := "java/lang/StringUTF16", name := "compress", desc := "([CII)[B" } : Jvm.MethodName) jdk_52_method_16_code (6 : Nat) (Option.some (Jvm.ClassFile.FieldType.array Jvm.ClassFile.FieldType.byte))).before args0 about1 = true := code_word (m := ⟨10, 2⟩) (meth := k10m2) (c := k10c2) (by decide +kernel) rfl rfl rfl (by decide +kernel)
set_option maxRecDepth 65536 in
theorem w_c11 : (Jvm.Cond.code ({ cls := "java/lang/StringUTF16", name := "compress", desc := "([CI[BII)I" } : Jvm.MethodName) jdk_52_method_21_code (7 : Nat) (Option.some Jvm.ClassFile.FieldType.int)).before args0 about1 = true := code_word (m := ⟨10, 3⟩) (meth := k10m3) (c := k10c3) (by decide +kernel) rfl rfl rfl (by decide +kernel)
set_option maxRecDepth 65536 in
theorem w_c12 : (Jvm.Cond.code ({ cls := "java/lang/StringUTF16", name := "coderFromArrayLen", desc := "([BI)B" } : Jvm.MethodName) jdk_52_method_15_code (2 : Nat) (Option.some Jvm.ClassFile.FieldType.byte)).before args0 about1 = true := code_word (m := ⟨10, 1⟩) (meth := k10m1) (c := k10c1) (by decide +kernel) rfl rfl rfl (by decide +kernel)
set_option maxRecDepth 65536 in
theorem w_c13 : (Jvm.Cond.code ({ cls := "com/example/onus_on_beans/onusonbeans/validators/CheckDigitRange", name := "lastCheckCharacter", desc := "(Ljava/lang/CharSequence;ILcom/example/onus_on_beans/onusonbeans/validators/CheckDigitScheme;)I" } : Jvm.MethodName) prog_14_method_5_code (5 : Nat) (Option.some Jvm.ClassFile.FieldType.int)).before args0 about1 = true := code_word (m := ⟨8, 2⟩) (meth := k8m2) (c := k8c2) (by decide +kernel) rfl rfl rfl (by decide +kernel)
set_option maxRecDepth 65536 in
theorem w_c14 : (Jvm.Cond.code ({ cls := "java/lang/String", name := "charAt", desc := "(I)C" } : Jvm.MethodName) jdk_42_method_56_code (2 : Nat) (Option.some Jvm.ClassFile.FieldType.char)).before args0 about1 = true := code_word (m := ⟨7, 3⟩) (meth := k7m3) (c := k7c3) (by decide +kernel) rfl rfl rfl (by decide +kernel)
set_option maxRecDepth 65536 in
theorem w_c15 : (Jvm.Cond.code ({ cls := "java/lang/String", name := "isLatin1", desc := "()Z" } : Jvm.MethodName) jdk_42_method_154_code (1 : Nat) (Option.some Jvm.ClassFile.FieldType.boolean)).before args0 about1 = true := code_word (m := ⟨7, 6⟩) (meth := k7m6) (c := k7c6) (by decide +kernel) rfl rfl rfl (by decide +kernel)
set_option maxRecDepth 65536 in
theorem w_c16 : (Jvm.Cond.code ({ cls := "java/lang/StringLatin1", name := "charAt", desc := "([BI)C" } : Jvm.MethodName) jdk_43_method_2_code (2 : Nat) (Option.some Jvm.ClassFile.FieldType.char)).before args0 about1 = true := code_word (m := ⟨11, 1⟩) (meth := k11m1) (c := k11c1) (by decide +kernel) rfl rfl rfl (by decide +kernel)
set_option maxRecDepth 65536 in
theorem w_c17 : (Jvm.Cond.code ({ cls := "java/lang/String", name := "checkIndex", desc := "(II)V" } : Jvm.MethodName) jdk_42_method_155_code (2 : Nat) (Option.none : Option Jvm.ClassFile.FieldType)).before args0 about1 = true := code_word (m := ⟨7, 7⟩) (meth := k7m7) (c := k7c7) (by decide +kernel) rfl rfl rfl (by decide +kernel)
set_option maxRecDepth 65536 in
theorem w_c18 : (Jvm.Cond.code ({ cls := "jdk/internal/util/Preconditions", name := "checkIndex", desc := "(IILjava/util/function/BiFunction;)I" } : Jvm.MethodName) jdk_41_method_11_code (3 : Nat) (Option.some Jvm.ClassFile.FieldType.int)).before args0 about1 = true := code_word (m := ⟨12, 1⟩) (meth := k12m1) (c := k12c1) (by decide +kernel) rfl rfl rfl (by decide +kernel)
set_option maxRecDepth 65536 in
theorem w_c19 : (Jvm.Cond.code ({ cls := "com/example/onus_on_beans/onusonbeans/validators/CheckDigitScheme", name := "isCheckCharacter", desc := "(C)Z" } : Jvm.MethodName) prog_16_method_7_code (2 : Nat) (Option.some Jvm.ClassFile.FieldType.boolean)).before args0 about1 = true := code_word (m := ⟨9, 3⟩) (meth := k9m3) (c := k9c3) (by decide +kernel) rfl rfl rfl (by decide +kernel)
set_option maxRecDepth 65536 in
theorem w_c20 : (Jvm.Cond.code ({ cls := "com/example/onus_on_beans/onusonbeans/validators/CheckDigitScheme", name := "isDigit", desc := "(C)Z" } : Jvm.MethodName) prog_16_method_8_code (1 : Nat) (Option.some Jvm.ClassFile.FieldType.boolean)).before args0 about1 = true := code_word (m := ⟨9, 4⟩) (meth := k9m4) (c := k9c4) (by decide +kernel) rfl rfl rfl (by decide +kernel)
set_option maxRecDepth 65536 in
theorem w_c21 : (Jvm.Cond.code ({ cls := "com/example/onus_on_beans/onusonbeans/validators/CheckDigitScheme$Luhn", name := "checkCharacterOf", desc := "(I)C" } : Jvm.MethodName) prog_17_method_3_code (2 : Nat) (Option.some Jvm.ClassFile.FieldType.char)).before args0 about1 = true := code_word (m := ⟨13, 2⟩) (meth := k13m2) (c := k13c2) (by decide +kernel) rfl rfl rfl (by decide +kernel)
set_option maxRecDepth 65536 in
theorem w_c22 : (Jvm.Cond.code ({ cls := "com/example/onus_on_beans/onusonbeans/validators/CheckDigitRangeWholeTextPinLaw", name := "isD", desc := "(C)Z" } : Jvm.MethodName) method_4_code (1 : Nat) (Option.some Jvm.ClassFile.FieldType.boolean)).before args0 about1 = true := code_word (m := ⟨1, 3⟩) (meth := k1m3) (c := k1c3) (by decide +kernel) rfl rfl rfl (by decide +kernel)
set_option maxRecDepth 65536 in
theorem w_c23 : (Jvm.Cond.code ({ cls := "com/example/onus_on_beans/onusonbeans/validators/CheckDigitRangeWholeTextPinLaw", name := "term", desc := "(II)I" } : Jvm.MethodName) method_5_code (3 : Nat) (Option.some Jvm.ClassFile.FieldType.int)).before args0 about1 = true := code_word (m := ⟨1, 4⟩) (meth := k1m4) (c := k1c4) (by decide +kernel) rfl rfl rfl (by decide +kernel)
set_option maxRecDepth 65536 in
theorem w_c24 : (Jvm.Cond.code ({ cls := "com/example/onus_on_beans/onusonbeans/validators/CheckDigitScheme$Luhn", name := "termOf", desc := "(II)I" } : Jvm.MethodName) prog_17_method_2_code (4 : Nat) (Option.some Jvm.ClassFile.FieldType.int)).before args0 about1 = true := code_word (m := ⟨13, 1⟩) (meth := k13m1) (c := k13c1) (by decide +kernel) rfl rfl rfl (by decide +kernel)
set_option maxRecDepth 65536 in
theorem w_c25 : (Jvm.Cond.code ({ cls := "com/example/onus_on_beans/onusonbeans/validators/CheckDigitScheme", name := "modulus", desc := "()I" } : Jvm.MethodName) prog_16_method_4_code (1 : Nat) (Option.some Jvm.ClassFile.FieldType.int)).before args0 about1 = true := code_word (m := ⟨9, 0⟩) (meth := k9m0) (c := k9c0) (by decide +kernel) rfl rfl rfl (by decide +kernel)
def codes1 : List Jvm.Cond := [Jvm.Cond.code x code maxLocals ret, Jvm.Cond.code ({ cls := "com/example/onus_on_beans/onusonbeans/validators/CheckDigitRangeWholeTextPinLaw", name := "ch", desc := "(I)C" } : Jvm.MethodName) method_3_code (1 : Nat) (Option.some Jvm.ClassFile.FieldType.char), Jvm.Cond.code ({ cls := "com/example/onus_on_beans/onusonbeans/validators/CheckDigitRangeWholeTextPinLaw", name := "text", desc := "(ICCCC)Ljava/lang/String;" } : Jvm.MethodName) method_6_code (5 : Nat) (Option.some (Jvm.ClassFile.FieldType.object "java/lang/String")), Jvm.Cond.code ({ cls := "java/lang/String", name := "<init>", desc := "([C)V" } : Jvm.MethodName) jdk_42_method_3_code (2 : Nat) (Option.none : Option Jvm.ClassFile.FieldType), Jvm.Cond.code ({ cls := "java/lang/String", name := "<init>", desc := "([CIILjava/lang/Void;)V" } : Jvm.MethodName) jdk_42_method_149_code (6 : Nat) (Option.none : Option Jvm.ClassFile.FieldType), Jvm.Cond.code ({ cls := "java/lang/Object", name := "<init>", desc := "()V" } : Jvm.MethodName) object_method_1_code (1 : Nat) (Option.none : Option Jvm.ClassFile.FieldType), Jvm.Cond.code ({ cls := "com/example/onus_on_beans/onusonbeans/validators/CheckDigitRange", name := "wholeText", desc := "(Z)Lcom/example/onus_on_beans/onusonbeans/validators/CheckDigitRange;" } : Jvm.MethodName) prog_14_method_3_code (1 : Nat) (Option.some (Jvm.ClassFile.FieldType.object "com/example/onus_on_beans/onusonbeans/validators/CheckDigitRange")), Jvm.Cond.code ({ cls := "com/example/onus_on_beans/onusonbeans/validators/CheckDigitRange", name := "holds", desc := "(Ljava/lang/CharSequence;Lcom/example/onus_on_beans/onusonbeans/validators/CheckDigitScheme;)Z" } : Jvm.MethodName) prog_14_method_4_code (9 : Nat) (Option.some Jvm.ClassFile.FieldType.boolean), Jvm.Cond.code ({ cls := "java/lang/String", name := "length", desc := "()I" } : Jvm.MethodName) jdk_42_method_54_code (1 : Nat) (Option.some Jvm.ClassFile.FieldType.int), Jvm.Cond.code ({ cls := "java/lang/String", name := "coder", desc := "()B" } : Jvm.MethodName) jdk_42_method_152_code (1 : Nat) (Option.some Jvm.ClassFile.FieldType.byte), Jvm.Cond.code ({ cls := "java/lang/StringUTF16", name := "compress", desc := "([CII)[B" } : Jvm.MethodName) jdk_52_method_16_code (6 : Nat) (Option.some (Jvm.ClassFile.FieldType.array Jvm.ClassFile.FieldType.byte)), Jvm.Cond.code ({ cls := "java/lang/StringUTF16", name := "compress", desc := "([CI[BII)I" } : Jvm.MethodName) jdk_52_method_21_code (7 : Nat) (Option.some Jvm.ClassFile.FieldType.int), Jvm.Cond.code ({ cls := "java/lang/StringUTF16", name := "coderFromArrayLen", desc := "([BI)B" } : Jvm.MethodName) jdk_52_method_15_code (2 : Nat) (Option.some Jvm.ClassFile.FieldType.byte), Jvm.Cond.code ({ cls := "com/example/onus_on_beans/onusonbeans/validators/CheckDigitRange", name := "lastCheckCharacter", desc := "(Ljava/lang/CharSequence;ILcom/example/onus_on_beans/onusonbeans/validators/CheckDigitScheme;)I" } : Jvm.MethodName) prog_14_method_5_code (5 : Nat) (Option.some Jvm.ClassFile.FieldType.int), Jvm.Cond.code ({ cls := "java/lang/String", name := "charAt", desc := "(I)C" } : Jvm.MethodName) jdk_42_method_56_code (2 : Nat) (Option.some Jvm.ClassFile.FieldType.char), Jvm.Cond.code ({ cls := "java/lang/String", name := "isLatin1", desc := "()Z" } : Jvm.MethodName) jdk_42_method_154_code (1 : Nat) (Option.some Jvm.ClassFile.FieldType.boolean), Jvm.Cond.code ({ cls := "java/lang/StringLatin1", name := "charAt", desc := "([BI)C" } : Jvm.MethodName) jdk_43_method_2_code (2 : Nat) (Option.some Jvm.ClassFile.FieldType.char), Jvm.Cond.code ({ cls := "java/lang/String", name := "checkIndex", desc := "(II)V" } : Jvm.MethodName) jdk_42_method_155_code (2 : Nat) (Option.none : Option Jvm.ClassFile.FieldType), Jvm.Cond.code ({ cls := "jdk/internal/util/Preconditions", name := "checkIndex", desc := "(IILjava/util/function/BiFunction;)I" } : Jvm.MethodName) jdk_41_method_11_code (3 : Nat) (Option.some Jvm.ClassFile.FieldType.int), Jvm.Cond.code ({ cls := "com/example/onus_on_beans/onusonbeans/validators/CheckDigitScheme", name := "isCheckCharacter", desc := "(C)Z" } : Jvm.MethodName) prog_16_method_7_code (2 : Nat) (Option.some Jvm.ClassFile.FieldType.boolean), Jvm.Cond.code ({ cls := "com/example/onus_on_beans/onusonbeans/validators/CheckDigitScheme", name := "isDigit", desc := "(C)Z" } : Jvm.MethodName) prog_16_method_8_code (1 : Nat) (Option.some Jvm.ClassFile.FieldType.boolean), Jvm.Cond.code ({ cls := "com/example/onus_on_beans/onusonbeans/validators/CheckDigitScheme$Luhn", name := "checkCharacterOf", desc := "(I)C" } : Jvm.MethodName) prog_17_method_3_code (2 : Nat) (Option.some Jvm.ClassFile.FieldType.char), Jvm.Cond.code ({ cls := "com/example/onus_on_beans/onusonbeans/validators/CheckDigitRangeWholeTextPinLaw", name := "isD", desc := "(C)Z" } : Jvm.MethodName) method_4_code (1 : Nat) (Option.some Jvm.ClassFile.FieldType.boolean), Jvm.Cond.code ({ cls := "com/example/onus_on_beans/onusonbeans/validators/CheckDigitRangeWholeTextPinLaw", name := "term", desc := "(II)I" } : Jvm.MethodName) method_5_code (3 : Nat) (Option.some Jvm.ClassFile.FieldType.int), Jvm.Cond.code ({ cls := "com/example/onus_on_beans/onusonbeans/validators/CheckDigitScheme$Luhn", name := "termOf", desc := "(II)I" } : Jvm.MethodName) prog_17_method_2_code (4 : Nat) (Option.some Jvm.ClassFile.FieldType.int), Jvm.Cond.code ({ cls := "com/example/onus_on_beans/onusonbeans/validators/CheckDigitScheme", name := "modulus", desc := "()I" } : Jvm.MethodName) prog_16_method_4_code (1 : Nat) (Option.some Jvm.ClassFile.FieldType.int)]
set_option maxRecDepth 65536 in
theorem codes_eq : words1.filter isCode = codes1 := rfl
theorem w_codes : ∀ c ∈ words1.filter isCode, c.before args0 about1 = true := by
  rw [codes_eq]
  intro c hc
  simp only [codes1, List.mem_cons, List.not_mem_nil, or_false] at hc
  rcases hc with rfl | rfl | rfl | rfl | rfl | rfl | rfl | rfl | rfl | rfl | rfl | rfl | rfl | rfl | rfl | rfl | rfl | rfl | rfl | rfl | rfl | rfl | rfl | rfl | rfl | rfl
  · exact w_c0
  · exact w_c1
  · exact w_c2
  · exact w_c3
  · exact w_c4
  · exact w_c5
  · exact w_c6
  · exact w_c7
  · exact w_c8
  · exact w_c9
  · exact w_c10
  · exact w_c11
  · exact w_c12
  · exact w_c13
  · exact w_c14
  · exact w_c15
  · exact w_c16
  · exact w_c17
  · exact w_c18
  · exact w_c19
  · exact w_c20
  · exact w_c21
  · exact w_c22
  · exact w_c23
  · exact w_c24
  · exact w_c25
set_option maxRecDepth 65536 in
theorem w_t1 : (words1.take 24).all (fun c => isCode c || c.before args0 about1) = true := by decide +kernel
set_option maxRecDepth 65536 in
theorem w_t2 : ((words1.drop 24).take 24).all (fun c => isCode c || c.before args0 about1) = true := by decide +kernel
set_option maxRecDepth 65536 in
theorem w_t3 : (((words1.drop 24).drop 24).take 24).all (fun c => isCode c || c.before args0 about1) = true := by decide +kernel
set_option maxRecDepth 65536 in
theorem w_t4 : ((((words1.drop 24).drop 24).drop 24).take 24).all (fun c => isCode c || c.before args0 about1) = true := by decide +kernel
set_option maxRecDepth 65536 in
theorem w_t5 : (((((words1.drop 24).drop 24).drop 24).drop 24).take 24).all (fun c => isCode c || c.before args0 about1) = true := by decide +kernel
set_option maxRecDepth 65536 in
theorem w_t6 : (((((words1.drop 24).drop 24).drop 24).drop 24).drop 24).all (fun c => isCode c || c.before args0 about1) = true := by decide +kernel
theorem w_tables : (allAtoms (Jvm.Cond.code x code maxLocals ret :: tables_1)).before args0 about1 = true := by
  rw [allAtoms_all]
  show words1.all (fun c => c.before args0 about1) = true
  refine all_split ?_ w_codes
  rw [← List.take_append_drop 24 words1, List.all_append, w_t1, ← List.take_append_drop 24 (words1.drop 24), List.all_append, w_t2, ← List.take_append_drop 24 ((words1.drop 24).drop 24), List.all_append, w_t3, ← List.take_append_drop 24 (((words1.drop 24).drop 24).drop 24), List.all_append, w_t4, ← List.take_append_drop 24 ((((words1.drop 24).drop 24).drop 24).drop 24), List.all_append, w_t5, w_t6]
  rfl
set_option maxRecDepth 65536 in
theorem w_rest : rest_1_c.before args0 about1 = true := by decide +kernel
set_option maxRecDepth 65536 in
theorem w_case : (Jvm.Cond.and given_1 narrow_1).before args0 about1 = true := by decide +kernel
set_option maxRecDepth 65536 in
theorem w_consts : constsHeld consts_1 about1 := Jvm.Lit.constsHeldB_iff.mp (by decide +kernel)
theorem w_applies : (headSpec (Jvm.Cond.code x code maxLocals ret :: tables_1) room_1).applies x e0.platform about1 = true :=
  (Spec.applies_iff w_frames).mpr ⟨w_running, w_runnable, w_alone, w_named, w_hears, w_ripe, w_room, w_tables⟩
theorem atStart : AtStart classFile x code maxLocals ret World_1 tables_1 room_1 Calls_1 rest_1 Pre_1 launch0 p0 e0 about1 theMethod args0 below0 :=
  ⟨lists_1, trivial, launch0.admits_env _ _ _, launch0.least_env, fairChoices_fair.cas, fairChoices_fair.clock, w_frames, w_args, w_heap, w_applies, ⟨w_consts, trivial⟩, w_rest, w_case⟩
end start1
theorem witness_1 : WitnessClaimed_1 := ⟨start1.p0, start1.e0, start1.about1, start1.theMethod, start1.args0, start1.below0, start1.atStart⟩
end Jvm.Pilot.@@N@@
