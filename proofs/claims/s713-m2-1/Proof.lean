import JvmDerived
import JvmDerived.Pilot.@@N@@Statement
import JvmDerived.Pilot.@@N@@Code
set_option linter.unusedVariables false
set_option linter.unusedSimpArgs false
namespace Jvm.RoadKit
open Sem ClassFile Op Lib Jvm.Stand Jvm.Free Jvm.LawKit
section New
variable {p : Program} {l : Launch} {e : Env} {R : Room} {s : State} {m : MethodId} {args : Array Value} {below : List Frame} {meth : Method} {c : Code} {T : State} {locs : List Loc} {cells slots : Nat}
theorem retI (X : Stand p l e R s m args below meth c T locs cells slots) (hx : p.tables.exec = Jvm.exec) {pc : Nat} {Ls : Array Slot} {z : Int32} {rest : List Value} (hret : meth.sig.returnType = some .int) (hd : decode c.code pc = .ok (.ireturn, 1)) {fs : List Frame}
    (hl : ∀ (f : JFrame) (acts : List Action), f.method = m → f.locked = none → f.entered = [] → (doReturn e (T.setTop f) acts (some (.int z))).1 = T.setFrames fs) : Steps p.tables e below (T.setTop (mkF m pc Ls (.int z :: rest))) (T.setFrames fs) := by
  have hm' : T.vm.method? m = some meth := X.method'
  have hn : narrow .int (.int z) = .int z := rfl
  show Steps p.tables e below (T.setTop { method := m, pc := pc, locals := Ls, stack := _ :: rest, locked := none }) _
  jvm_step X.here [X.here.top, hx, hd, hm', hret, hn]
  first | (intro acts; rw [hl _ acts rfl rfl rfl]) | rw [hl _ _ rfl rfl rfl]
  exact Steps.refl _
end New
end Jvm.RoadKit
namespace Jvm.Pilot.@@N@@
open Jvm Jvm.ClassFile Sem Op Lib Jvm.Free Jvm.Stand Jvm.LawKit Jvm.RoadKit Bundle Jvm.Pilot.@@N@@.Jvm.D
theorem own_eqi {a : Term} {k : Int32} {args : Array Value} {first s : State} {o : Option Outcome} {idx : List Nat} (h : (Jvm.Cond.eq a (.int k)).value args first o s idx = some true) : a.eval args first o idx s = some (.int k) := by
  obtain ⟨x, y, hx, hy, -, kin⟩ := cmp_v (Or.inl h)
  have e : y = .int k := Option.some.inj (hy.symm.trans (Term.int_eval k))
  subst e
  obtain ⟨z, rfl⟩ := kin
  have := gotT (Cond.eq_ints hx hy) h
  rw [hx, this]
theorem own_rng (a : Int32) : (a &&& 2147483647) % 3 = 0 ∨ (a &&& 2147483647) % 3 = 1 ∨ (a &&& 2147483647) % 3 = 2 := by
  have h1 := c_and a 2147483647 (by decide)
  have h2 := (c_iremV (a &&& 2147483647) 3).1 h1.1 (by decide)
  have h3 := h2.1; have h4 := h2.2.1
  rw [show (3 : Int32).toInt = 3 from rfl] at h4
  simp only [← Int32.toInt_inj, show (0 : Int32).toInt = 0 from rfl, show (1 : Int32).toInt = 1 from rfl, show (2 : Int32).toInt = 2 from rfl]
  omega
def own_spec (k : Int32) (r aN : Addr) : Prop := ((k = 0 ∨ k = 1) ∧ ¬ r = aN) ∨ (¬ k = 0 ∧ ¬ k = 1 ∧ r = aN)
theorem own_x {k v : Int32} {r aN : Addr} (hr : k = 0 ∨ k = 1 ∨ k = 2) (hs : own_spec k r aN) (hv : v = if k = 2 then 1 else 0) : (if r = aN then (1 : Int32) else 0) = v := by
  subst hv
  rcases hs with ⟨a, b⟩ | ⟨a, b, c⟩
  · rw [if_neg b]; rcases a with rfl | rfl <;> rfl
  · rw [if_pos c]; rcases hr with h | h | rfl
    · exact absurd h a
    · exact absurd h b
    · rfl
theorem own_no {k j : Int32} {r q aN : Addr} (hk : k = 0 ∨ k = 1 ∨ k = 2) (hj : j = 0 ∨ j = 1 ∨ j = 2) (hs : own_spec k r aN) (ht : own_spec j q aN) (h1 : ¬ j < k) (h2 : ¬ (if r = aN then (1 : Int32) else 0) = 0) : ¬ (if q = aN then (1 : Int32) else 0) = 0 := by
  rcases hs with ⟨a, b⟩ | ⟨a, b, c⟩
  · exact absurd (if_neg b) h2
  · rcases ht with ⟨d, e⟩ | ⟨d, e, f⟩
    · exfalso; rcases hk with h | h | rfl
      · exact a h
      · exact b h
      · rcases d with rfl | rfl
        · exact h1 (by decide)
        · exact h1 (by decide)
    · rw [if_pos f]; decide
theorem d1_0 : decode method_2_code 0 = .ok (.iload_n 0, 1) := by decide +kernel
theorem d1_1 : decode method_2_code 1 = .ok (.ldc 7, 2) := by decide +kernel
theorem d1_3 : decode method_2_code 3 = .ok (.iand, 1) := by decide +kernel
theorem d1_4 : decode method_2_code 4 = .ok (.iconst 3, 1) := by decide +kernel
theorem d1_5 : decode method_2_code 5 = .ok (.irem, 1) := by decide +kernel
theorem d1_6 : decode method_2_code 6 = .ok (.ireturn, 1) := by decide +kernel
theorem own_pn6 : plainName "com/example/narrow_queue/narrowqueue/worker/FrontFormNamesPinLaw" = true := by first | (simp [plainName, overriddenIn]; done) | decide +kernel
theorem ef_1 (m : MethodId) (x0 : Int32) : entryFrame m #[(.int x0)] 1 = mkF m 0 #[.val (.int x0)] [] := by first | (simp [entryFrame, mkF, argsToLocals, Value.category]; done) | rfl
def Q1 (Z : State) (pk : Int32) (h0 : Heap) (n0 : Nat) (v : Option Value) (h : Heap) (L : List Loc) : Prop := v = some (.int ((pk &&& (2147483647 : Int32)) % (3 : Int32))) ∧ Fr n0 L ∧ h = h0
set_option maxRecDepth 65536 in
set_option maxHeartbeats 40000000 in
theorem rm1 (l : Launch) (Z : State) (a0 : Array Value) (hw : ∀ d ∈ tables_1, d.before a0 Z = true) (ws : List Jvm.Cond) (pk : Int32) (h0 : Heap) (n0 : Nat) (Z0 : n0 ≤ h0.size) :
    MetFree l (⟨"com/example/narrow_queue/narrowqueue/worker/FrontFormNamesPinLaw", "rank", "(I)I"⟩ : MethodName) (head1 (Jvm.Cond.code (⟨"com/example/narrow_queue/narrowqueue/worker/FrontFormNamesPinLaw", "rank", "(I)I"⟩ : MethodName) method_2_code 1 (some .int) :: ws) ({ frames := 0, cells := 0, slots := 0, locals := 0 } : Room)) (fun a U => a = #[(.int pk)] ∧ Z.Warmed39 U.vm ∧ U.heap = h0) (fun _ _ _ _ _ => True) (fun _ U o U' => ∃ v L, o = .returned v ∧ Q1 Z pk h0 n0 v U'.heap L ∧ FrameEnd U o U' L ({ frames := 0, cells := 0, slots := 0, locals := 0 } : Room).cells ({ frames := 0, cells := 0, slots := 0, locals := 0 } : Room).slots) := by
  refine MetFree.of_bodySF (plainFor_of_name own_pn6) hisR ?_
  intro p e s m args below meth c s₁ Bd hml0 hP hK
  obtain ⟨rfl, hZ, hh⟩ := hP
  have hx := Bd.exec
  have hby := Bd.bytes
  have hml : c.maxLocals = 1 := hml0
  have hown : s.vm.findClass "com/example/narrow_queue/narrowqueue/worker/FrontFormNamesPinLaw" = some m.cls := findClass_of_methodNamed Bd.named
  have hnm := (name_of_methodNamed Bd.named Bd.method).1
  have X0 : Stand p l e ({ frames := 0, cells := 0, slots := 0, locals := 0 } : Room) s m #[(.int pk)] below meth c s₁ [] 0 0 := Stand.of_body Bd
  have e0 : s₁.heap = h0 := by rw [← hh, Bd.state]; rfl
  have N0 := Fr.nil n0
  have pre0 : ∀ t, Steps p.tables e below (s₁.setTop (mkF m 0 #[.val (.int pk)] [])) t → Steps p.tables e below (s₁.setTop (entryFrame m #[(.int pk)] 1)) t := fun t k => castTop (ef_1 m pk) k
  generalize s₁.setTop (entryFrame m #[(.int pk)] 1) = G0 at pre0 ⊢
  obtain ⟨fs, hr, hrun, hended, hW, hsame⟩ := X0.leave (v := some (.int ((pk &&& (2147483647 : Int32)) % (3 : Int32)))) (fun h => by rw [Bd.returns] at h; cases h)
  refine ⟨_, _, pre0 _ ?_, hrun, hended, _, _, rfl, ?_, ⟨_, rfl⟩, hW, hsame.mono (by decide) (by decide)⟩
  · show Steps p.tables e below (s₁.setTop (mkF m 0 #[.val (.int pk)] [])) _
    refine XS.iloadN X0.here hx rfl (hb hby d1_0) rfl ?_
    show Steps p.tables e below (s₁.setTop (mkF m 1 #[.val (.int pk)] [(.int pk)])) _
    refine X0.ldcInt hx hown (mvT hZ (hw _ (List.mem_of_getElem? (i := 4) rfl))) (g := (mkF m 1 #[.val (.int pk)] [(.int pk)])) rfl (hb hby d1_1) _ ?_
    show Steps p.tables e below (s₁.setTop (mkF m 3 #[.val (.int pk)] [(.int (2147483647 : Int32)), (.int pk)])) _
    refine XS.iand X0.here hx rfl (hb hby d1_3) rfl ?_
    show Steps p.tables e below (s₁.setTop (mkF m 4 #[.val (.int pk)] [(.int (pk &&& (2147483647 : Int32)))])) _
    refine XS.iconst X0.here hx rfl (hb hby d1_4) ?_
    show Steps p.tables e below (s₁.setTop (mkF m 5 #[.val (.int pk)] [(.int (3 : Int32)), (.int (pk &&& (2147483647 : Int32)))])) _
    refine iremM X0 hx rfl (hb hby d1_5) rfl (by decide) ?_
    show Steps p.tables e below (s₁.setTop (mkF m 6 #[.val (.int pk)] [(.int ((pk &&& (2147483647 : Int32)) % (3 : Int32)))])) _
    exact retI X0 hx Bd.returns (hb hby d1_6) hr
  · show Q1 Z pk h0 n0 _ s₁.heap _
    rw [e0]
    exact ⟨rfl, N0, rfl⟩
theorem d2_0 : decode method_3_code 0 = .ok (.iload_n 0, 1) := by decide +kernel
theorem d2_1 : decode method_3_code 1 = .ok (.ifCond .ne 7, 3) := by decide +kernel
theorem d2_4 : decode method_3_code 4 = .ok (.getstatic 8, 3) := by decide +kernel
theorem d2_7 : decode method_3_code 7 = .ok (.areturn, 1) := by decide +kernel
theorem d2_8 : decode method_3_code 8 = .ok (.iload_n 0, 1) := by decide +kernel
theorem d2_9 : decode method_3_code 9 = .ok (.iconst 1, 1) := by decide +kernel
theorem d2_10 : decode method_3_code 10 = .ok (.if_icmp .ne 7, 3) := by decide +kernel
theorem d2_13 : decode method_3_code 13 = .ok (.getstatic 14, 3) := by decide +kernel
theorem d2_16 : decode method_3_code 16 = .ok (.areturn, 1) := by decide +kernel
theorem d2_17 : decode method_3_code 17 = .ok (.getstatic 17, 3) := by decide +kernel
theorem d2_20 : decode method_3_code 20 = .ok (.areturn, 1) := by decide +kernel
theorem ef_2 (m : MethodId) (x0 : Int32) : entryFrame m #[(.int x0)] 1 = mkF m 0 #[.val (.int x0)] [] := by first | (simp [entryFrame, mkF, argsToLocals, Value.category]; done) | rfl
def Q2 (Z : State) (pk : Int32) (aB : Addr) (aW : Addr) (aN : Addr) (h0 : Heap) (n0 : Nat) (v : Option Value) (h : Heap) (L : List Loc) : Prop := ∃ (ro : Addr), v = some (.ref ro) ∧ Fr n0 L ∧ h = h0 ∧ Exa Z h0 ro "com/example/narrow_queue/narrowqueue/worker/FrontForm" ∧ own_spec pk ro aN
set_option maxRecDepth 65536 in
set_option maxHeartbeats 40000000 in
theorem rm2 (l : Launch) (Z : State) (a0 : Array Value) (hw : ∀ d ∈ tables_1, d.before a0 Z = true) (ws : List Jvm.Cond) (pk : Int32) (aB : Addr) (aW : Addr) (aN : Addr) (h0 : Heap) (n0 : Nat) (Z0 : n0 ≤ h0.size) (S_BRIEF : Sta Z h0 "com/example/narrow_queue/narrowqueue/worker/FrontForm" "BRIEF" "Lcom/example/narrow_queue/narrowqueue/worker/FrontForm;" (.ref aB)) (S_WHOLE : Sta Z h0 "com/example/narrow_queue/narrowqueue/worker/FrontForm" "WHOLE" "Lcom/example/narrow_queue/narrowqueue/worker/FrontForm;" (.ref aW)) (S_NAMING : Sta Z h0 "com/example/narrow_queue/narrowqueue/worker/FrontForm" "NAMING" "Lcom/example/narrow_queue/narrowqueue/worker/FrontForm;" (.ref aN)) (E_BRIEF : Exa Z h0 aB "com/example/narrow_queue/narrowqueue/worker/FrontForm") (E_WHOLE : Exa Z h0 aW "com/example/narrow_queue/narrowqueue/worker/FrontForm") (E_NAMING : Exa Z h0 aN "com/example/narrow_queue/narrowqueue/worker/FrontForm") (nB : ¬ aB = aN) (nW : ¬ aW = aN) :
    MetFree l (⟨"com/example/narrow_queue/narrowqueue/worker/FrontFormNamesPinLaw", "pick", "(I)Lcom/example/narrow_queue/narrowqueue/worker/FrontForm;"⟩ : MethodName) (head1 (Jvm.Cond.code (⟨"com/example/narrow_queue/narrowqueue/worker/FrontFormNamesPinLaw", "pick", "(I)Lcom/example/narrow_queue/narrowqueue/worker/FrontForm;"⟩ : MethodName) method_3_code 1 (some (.object "com/example/narrow_queue/narrowqueue/worker/FrontForm")) :: ws) ({ frames := 0, cells := 0, slots := 0, locals := 0 } : Room)) (fun a U => a = #[(.int pk)] ∧ Z.Warmed39 U.vm ∧ U.heap = h0) (fun _ _ _ _ _ => True) (fun _ U o U' => ∃ v L, o = .returned v ∧ Q2 Z pk aB aW aN h0 n0 v U'.heap L ∧ FrameEnd U o U' L ({ frames := 0, cells := 0, slots := 0, locals := 0 } : Room).cells ({ frames := 0, cells := 0, slots := 0, locals := 0 } : Room).slots) := by
  refine MetFree.of_bodySF (plainFor_of_name own_pn6) hisR ?_
  intro p e s m args below meth c s₁ Bd hml0 hP hK
  obtain ⟨rfl, hZ, hh⟩ := hP
  have hx := Bd.exec
  have hby := Bd.bytes
  have hml : c.maxLocals = 1 := hml0
  have hown : s.vm.findClass "com/example/narrow_queue/narrowqueue/worker/FrontFormNamesPinLaw" = some m.cls := findClass_of_methodNamed Bd.named
  have hnm := (name_of_methodNamed Bd.named Bd.method).1
  have X0 : Stand p l e ({ frames := 0, cells := 0, slots := 0, locals := 0 } : Room) s m #[(.int pk)] below meth c s₁ [] 0 0 := Stand.of_body Bd
  have e0 : s₁.heap = h0 := by rw [← hh, Bd.state]; rfl
  have N0 := Fr.nil n0
  have pre0 : ∀ t, Steps p.tables e below (s₁.setTop (mkF m 0 #[.val (.int pk)] [])) t → Steps p.tables e below (s₁.setTop (entryFrame m #[(.int pk)] 1)) t := fun t k => castTop (ef_2 m pk) k
  generalize s₁.setTop (entryFrame m #[(.int pk)] 1) = G0 at pre0 ⊢
  have pre1 : ∀ t, Steps p.tables e below (s₁.setTop (mkF m 1 #[.val (.int pk)] [(.int pk)])) t → Steps p.tables e below G0 t := by
    intro t k
    refine pre0 t ?_
    show Steps p.tables e below (s₁.setTop (mkF m 0 #[.val (.int pk)] [])) _
    refine XS.iloadN X0.here hx rfl (hb hby d2_0) rfl ?_
    exact k
  by_cases hc1_2 : pk = (0 : Int32)
  · obtain ⟨T3, X3, e3, st3⟩ := getS2 X0 hx hZ hown (host := "") (Or.inl (hw _ (List.mem_of_getElem? (i := 8) rfl))) Via.refl e0 S_BRIEF (g := (mkF m 4 #[.val (.int pk)] [])) rfl (hb hby d2_4)
    obtain ⟨fs, hr, hrun, hended, hW, hsame⟩ := X3.leave (v := some (.ref aB)) (fun h => by rw [Bd.returns] at h; cases h)
    refine ⟨_, _, pre1 _ ?_, hrun, hended, _, _, rfl, ?_, ⟨_, rfl⟩, hW, hsame.mono (by decide) (by decide)⟩
    · show Steps p.tables e below (s₁.setTop (mkF m 1 #[.val (.int pk)] [(.int pk)])) _
      refine XS.ifNo X0.here hx rfl (hb hby d2_1) rfl ((if0 _ _).trans (teq hc1_2).2) ?_
      show Steps p.tables e below (s₁.setTop (mkF m 4 #[.val (.int pk)] [])) _
      refine st3 _ ?_
      show Steps p.tables e below (T3.setTop (mkF m 7 #[.val (.int pk)] [(.ref aB)])) _
      jvm_step X3.here [X3.here.top, hx, (hb hby d2_7), X3.method', Bd.returns, Value.isRef, FieldType.isReference]
      first | (intro acts; rw [hr _ acts rfl rfl rfl]) | rw [hr _ _ rfl rfl rfl]
      exact Steps.refl _
    · show Q2 Z pk aB aW aN h0 n0 _ T3.heap _
      rw [e3]
      exact ⟨aB, rfl, N0, rfl, E_BRIEF, Or.inl ⟨Or.inl hc1_2, nB⟩⟩
  · have pre4 : ∀ t, Steps p.tables e below (s₁.setTop (mkF m 10 #[.val (.int pk)] [(.int (1 : Int32)), (.int pk)])) t → Steps p.tables e below G0 t := by
      intro t k
      refine pre1 t ?_
      show Steps p.tables e below (s₁.setTop (mkF m 1 #[.val (.int pk)] [(.int pk)])) _
      refine XS.ifYes X0.here hx rfl (pc0 := 1) (pc' := 8) rfl (hb hby d2_1) rfl ((if0 _ _).trans (feq hc1_2).2) (by decide) (by decide) ?_
      show Steps p.tables e below (s₁.setTop (mkF m 8 #[.val (.int pk)] [])) _
      refine XS.iloadN X0.here hx rfl (hb hby d2_8) rfl ?_
      show Steps p.tables e below (s₁.setTop (mkF m 9 #[.val (.int pk)] [(.int pk)])) _
      refine XS.iconst X0.here hx rfl (hb hby d2_9) ?_
      exact k
    by_cases hc10_5 : pk = (1 : Int32)
    · obtain ⟨T6, X6, e6, st6⟩ := getS2 X0 hx hZ hown (host := "") (Or.inl (hw _ (List.mem_of_getElem? (i := 19) rfl))) Via.refl e0 S_WHOLE (g := (mkF m 13 #[.val (.int pk)] [])) rfl (hb hby d2_13)
      obtain ⟨fs, hr, hrun, hended, hW, hsame⟩ := X6.leave (v := some (.ref aW)) (fun h => by rw [Bd.returns] at h; cases h)
      refine ⟨_, _, pre4 _ ?_, hrun, hended, _, _, rfl, ?_, ⟨_, rfl⟩, hW, hsame.mono (by decide) (by decide)⟩
      · show Steps p.tables e below (s₁.setTop (mkF m 10 #[.val (.int pk)] [(.int (1 : Int32)), (.int pk)])) _
        refine XS.icmpNo X0.here hx rfl (hb hby d2_10) rfl (teq hc10_5).2 ?_
        show Steps p.tables e below (s₁.setTop (mkF m 13 #[.val (.int pk)] [])) _
        refine st6 _ ?_
        show Steps p.tables e below (T6.setTop (mkF m 16 #[.val (.int pk)] [(.ref aW)])) _
        jvm_step X6.here [X6.here.top, hx, (hb hby d2_16), X6.method', Bd.returns, Value.isRef, FieldType.isReference]
        first | (intro acts; rw [hr _ acts rfl rfl rfl]) | rw [hr _ _ rfl rfl rfl]
        exact Steps.refl _
      · show Q2 Z pk aB aW aN h0 n0 _ T6.heap _
        rw [e6]
        exact ⟨aW, rfl, N0, rfl, E_WHOLE, Or.inl ⟨Or.inr hc10_5, nW⟩⟩
    · obtain ⟨T7, X7, e7, st7⟩ := getS2 X0 hx hZ hown (host := "") (Or.inl (hw _ (List.mem_of_getElem? (i := 18) rfl))) Via.refl e0 S_NAMING (g := (mkF m 17 #[.val (.int pk)] [])) rfl (hb hby d2_17)
      obtain ⟨fs, hr, hrun, hended, hW, hsame⟩ := X7.leave (v := some (.ref aN)) (fun h => by rw [Bd.returns] at h; cases h)
      refine ⟨_, _, pre4 _ ?_, hrun, hended, _, _, rfl, ?_, ⟨_, rfl⟩, hW, hsame.mono (by decide) (by decide)⟩
      · show Steps p.tables e below (s₁.setTop (mkF m 10 #[.val (.int pk)] [(.int (1 : Int32)), (.int pk)])) _
        refine XS.icmpYes X0.here hx rfl (pc0 := 10) (pc' := 17) rfl (hb hby d2_10) rfl (feq hc10_5).2 (by decide) (by decide) ?_
        show Steps p.tables e below (s₁.setTop (mkF m 17 #[.val (.int pk)] [])) _
        refine st7 _ ?_
        show Steps p.tables e below (T7.setTop (mkF m 20 #[.val (.int pk)] [(.ref aN)])) _
        jvm_step X7.here [X7.here.top, hx, (hb hby d2_20), X7.method', Bd.returns, Value.isRef, FieldType.isReference]
        first | (intro acts; rw [hr _ acts rfl rfl rfl]) | rw [hr _ _ rfl rfl rfl]
        exact Steps.refl _
      · show Q2 Z pk aB aW aN h0 n0 _ T7.heap _
        rw [e7]
        exact ⟨aN, rfl, N0, rfl, E_NAMING, Or.inr ⟨hc1_2, hc10_5, rfl⟩⟩
theorem d3_0 : decode prog_34_method_4_code 0 = .ok (.aload_n 0, 1) := by decide +kernel
theorem d3_1 : decode prog_34_method_4_code 1 = .ok (.getstatic 10, 3) := by decide +kernel
theorem d3_4 : decode prog_34_method_4_code 4 = .ok (.if_acmp .ne 7, 3) := by decide +kernel
theorem d3_7 : decode prog_34_method_4_code 7 = .ok (.iconst 1, 1) := by decide +kernel
theorem d3_8 : decode prog_34_method_4_code 8 = .ok (.goto 4, 3) := by decide +kernel
theorem d3_12 : decode prog_34_method_4_code 12 = .ok (.ireturn, 1) := by decide +kernel
theorem d3_11 : decode prog_34_method_4_code 11 = .ok (.iconst 0, 1) := by decide +kernel
theorem own_pn25 : plainName "com/example/narrow_queue/narrowqueue/worker/FrontForm" = true := by first | (simp [plainName, overriddenIn]; done) | decide +kernel
theorem ef_3 (m : MethodId) (x0 : Addr) : entryFrame m #[(.ref x0)] 1 = mkF m 0 #[.val (.ref x0)] [] := by first | (simp [entryFrame, mkF, argsToLocals, Value.category]; done) | rfl
def Q3 (Z : State) (aa : Addr) (aN : Addr) (h0 : Heap) (n0 : Nat) (v : Option Value) (h : Heap) (L : List Loc) : Prop := v = some (.int (if aa = aN then (1 : Int32) else 0)) ∧ Fr n0 L ∧ h = h0
set_option maxRecDepth 65536 in
set_option maxHeartbeats 40000000 in
theorem rm3 (l : Launch) (Z : State) (a0 : Array Value) (hw : ∀ d ∈ tables_1, d.before a0 Z = true) (ws : List Jvm.Cond) (aa : Addr) (aN : Addr) (h0 : Heap) (n0 : Nat) (Z0 : n0 ≤ h0.size) (S_NAMING : Sta Z h0 "com/example/narrow_queue/narrowqueue/worker/FrontForm" "NAMING" "Lcom/example/narrow_queue/narrowqueue/worker/FrontForm;" (.ref aN)) :
    MetFree l (⟨"com/example/narrow_queue/narrowqueue/worker/FrontForm", "names", "()Z"⟩ : MethodName) (head1 (Jvm.Cond.code (⟨"com/example/narrow_queue/narrowqueue/worker/FrontForm", "names", "()Z"⟩ : MethodName) prog_34_method_4_code 1 (some .boolean) :: ws) ({ frames := 0, cells := 0, slots := 0, locals := 0 } : Room)) (fun a U => a = #[(.ref aa)] ∧ Z.Warmed39 U.vm ∧ U.heap = h0) (fun _ _ _ _ _ => True) (fun _ U o U' => ∃ v L, o = .returned v ∧ Q3 Z aa aN h0 n0 v U'.heap L ∧ FrameEnd U o U' L ({ frames := 0, cells := 0, slots := 0, locals := 0 } : Room).cells ({ frames := 0, cells := 0, slots := 0, locals := 0 } : Room).slots) := by
  refine MetFree.of_bodySF (plainFor_of_name own_pn25) hisR ?_
  intro p e s m args below meth c s₁ Bd hml0 hP hK
  obtain ⟨rfl, hZ, hh⟩ := hP
  have hx := Bd.exec
  have hby := Bd.bytes
  have hml : c.maxLocals = 1 := hml0
  have hown : s.vm.findClass "com/example/narrow_queue/narrowqueue/worker/FrontForm" = some m.cls := findClass_of_methodNamed Bd.named
  have hnm := (name_of_methodNamed Bd.named Bd.method).1
  have X0 : Stand p l e ({ frames := 0, cells := 0, slots := 0, locals := 0 } : Room) s m #[(.ref aa)] below meth c s₁ [] 0 0 := Stand.of_body Bd
  have e0 : s₁.heap = h0 := by rw [← hh, Bd.state]; rfl
  have N0 := Fr.nil n0
  have pre0 : ∀ t, Steps p.tables e below (s₁.setTop (mkF m 0 #[.val (.ref aa)] [])) t → Steps p.tables e below (s₁.setTop (entryFrame m #[(.ref aa)] 1)) t := fun t k => castTop (ef_3 m aa) k
  generalize s₁.setTop (entryFrame m #[(.ref aa)] 1) = G0 at pre0 ⊢
  obtain ⟨T8, X8, e8, st8⟩ := getS2 X0 hx hZ hown (host := "") (Or.inl (hw _ (List.mem_of_getElem? (i := 16) rfl))) Via.refl e0 S_NAMING (g := (mkF m 1 #[.val (.ref aa)] [(.ref aa)])) rfl (hb hby d3_1)
  have pre9 : ∀ t, Steps p.tables e below (T8.setTop (mkF m 4 #[.val (.ref aa)] [(.ref aN), (.ref aa)])) t → Steps p.tables e below G0 t := by
    intro t k
    refine pre0 t ?_
    show Steps p.tables e below (s₁.setTop (mkF m 0 #[.val (.ref aa)] [])) _
    refine XS.aloadN X0.here hx rfl (hb hby d3_0) rfl rfl ?_
    show Steps p.tables e below (s₁.setTop (mkF m 1 #[.val (.ref aa)] [(.ref aa)])) _
    refine st8 _ ?_
    exact k
  by_cases hc4_10 : aa = aN
  · obtain ⟨fs, hr, hrun, hended, hW, hsame⟩ := X8.leave (v := some (.int (1 : Int32))) (fun h => by rw [Bd.returns] at h; cases h)
    refine ⟨_, _, pre9 _ ?_, hrun, hended, _, _, rfl, ?_, ⟨_, rfl⟩, hW, hsame.mono (by decide) (by decide)⟩
    · show Steps p.tables e below (T8.setTop (mkF m 4 #[.val (.ref aa)] [(.ref aN), (.ref aa)])) _
      refine Jvm.RoadKit.acmp (g := (mkF m 4 #[.val (.ref aa)] [(.ref aN), (.ref aa)])) X8 hx rfl rfl rfl (pc0 := 4) (pc' := 7) (same := true) rfl (hb hby d3_4) rfl (decide_eq_true (congrArg Value.ref hc4_10)) (by decide) (by decide) ?_
      show Steps p.tables e below (T8.setTop (mkF m 7 #[.val (.ref aa)] [])) _
      refine XS.iconst X8.here hx rfl (hb hby d3_7) ?_
      show Steps p.tables e below (T8.setTop (mkF m 8 #[.val (.ref aa)] [(.int (1 : Int32))])) _
      refine XS.goto X8.here hx rfl (pc0 := 8) (pc' := 12) rfl (hb hby d3_8) (by decide) (by decide) ?_
      show Steps p.tables e below (T8.setTop (mkF m 12 #[.val (.ref aa)] [(.int (1 : Int32))])) _
      exact retN X8 hx (t := .boolean) Bd.returns (by simp) (hb hby d3_12) hr
    · show Q3 Z aa aN h0 n0 _ T8.heap _
      rw [e8]
      exact ⟨(by rw [if_pos hc4_10]), N0, rfl⟩
  · obtain ⟨fs, hr, hrun, hended, hW, hsame⟩ := X8.leave (v := some (.int (0 : Int32))) (fun h => by rw [Bd.returns] at h; cases h)
    refine ⟨_, _, pre9 _ ?_, hrun, hended, _, _, rfl, ?_, ⟨_, rfl⟩, hW, hsame.mono (by decide) (by decide)⟩
    · show Steps p.tables e below (T8.setTop (mkF m 4 #[.val (.ref aa)] [(.ref aN), (.ref aa)])) _
      refine Jvm.RoadKit.acmp (g := (mkF m 4 #[.val (.ref aa)] [(.ref aN), (.ref aa)])) X8 hx rfl rfl rfl (pc0 := 4) (pc' := 11) (same := false) rfl (hb hby d3_4) rfl (decide_eq_false fun q => hc4_10 (Value.ref.inj q)) (by decide) (by decide) ?_
      show Steps p.tables e below (T8.setTop (mkF m 11 #[.val (.ref aa)] [])) _
      refine XS.iconst X8.here hx rfl (hb hby d3_11) ?_
      show Steps p.tables e below (T8.setTop (mkF m 12 #[.val (.ref aa)] [(.int (0 : Int32))])) _
      exact retN X8 hx (t := .boolean) Bd.returns (by simp) (hb hby d3_12) hr
    · show Q3 Z aa aN h0 n0 _ T8.heap _
      rw [e8]
      exact ⟨(by rw [if_neg hc4_10]), N0, rfl⟩
theorem own_pd26 : parseMethodDescriptor "(I)I" = some ⟨[.int], some .int⟩ := by decide +kernel
theorem own_pd27 : parseMethodDescriptor "(I)Lcom/example/narrow_queue/narrowqueue/worker/FrontForm;" = some ⟨[.int], some (.object "com/example/narrow_queue/narrowqueue/worker/FrontForm")⟩ := by decide +kernel
theorem own_pd28 : parseMethodDescriptor "()Z" = some ⟨[], some .boolean⟩ := by decide +kernel
theorem ef_0 (m : MethodId) (x0 : Int32) (x1 : Int32) : entryFrame m #[(.int x0), (.int x1)] maxLocals = mkF m 0 #[.val (.int x0), .val (.int x1), .unset, .unset, .unset, .unset, .unset, .unset, .unset, .unset] [] := by first | (simp [entryFrame, mkF, argsToLocals, Value.category, maxLocals]; done) | rfl
def Q0 (Z : State) (pa : Int32) (pb : Int32) (aB : Addr) (aW : Addr) (aN : Addr) (h0 : Heap) (n0 : Nat) (v : Option Value) (h : Heap) (L : List Loc) : Prop := v = some (.int (1 : Int32)) ∧ Fr n0 L
set_option maxRecDepth 65536 in
set_option maxHeartbeats 40000000 in
theorem rm0 (l : Launch) (Z : State) (a0 : Array Value) (hw : ∀ d ∈ tables_1, d.before a0 Z = true) (ws : List Jvm.Cond) (pa : Int32) (pb : Int32) (aB : Addr) (aW : Addr) (aN : Addr) (h0 : Heap) (n0 : Nat) (Z0 : n0 ≤ h0.size) (S_BRIEF : Sta Z h0 "com/example/narrow_queue/narrowqueue/worker/FrontForm" "BRIEF" "Lcom/example/narrow_queue/narrowqueue/worker/FrontForm;" (.ref aB)) (S_WHOLE : Sta Z h0 "com/example/narrow_queue/narrowqueue/worker/FrontForm" "WHOLE" "Lcom/example/narrow_queue/narrowqueue/worker/FrontForm;" (.ref aW)) (S_NAMING : Sta Z h0 "com/example/narrow_queue/narrowqueue/worker/FrontForm" "NAMING" "Lcom/example/narrow_queue/narrowqueue/worker/FrontForm;" (.ref aN)) (E_BRIEF : Exa Z h0 aB "com/example/narrow_queue/narrowqueue/worker/FrontForm") (E_WHOLE : Exa Z h0 aW "com/example/narrow_queue/narrowqueue/worker/FrontForm") (E_NAMING : Exa Z h0 aN "com/example/narrow_queue/narrowqueue/worker/FrontForm") (nB : ¬ aB = aN) (nW : ¬ aW = aN) :
    MetFree l x (head1 (Jvm.Cond.code x code maxLocals ret :: ws) room_1) (fun a U => a = #[(.int pa), (.int pb)] ∧ Z.Warmed39 U.vm ∧ U.heap = h0) (fun _ _ _ _ _ => True) (fun _ U o U' => ∃ v L, o = .returned v ∧ Q0 Z pa pb aB aW aN h0 n0 v U'.heap L ∧ FrameEnd U o U' L room_1.cells room_1.slots) := by
  refine MetFree.of_bodySF (plainFor_of_name own_pn6) hisR ?_
  intro p e s m args below meth c s₁ Bd hml0 hP hK
  obtain ⟨rfl, hZ, hh⟩ := hP
  have hx := Bd.exec
  have hby := Bd.bytes
  have hml : c.maxLocals = 10 := hml0
  have hown : s.vm.findClass "com/example/narrow_queue/narrowqueue/worker/FrontFormNamesPinLaw" = some m.cls := findClass_of_methodNamed Bd.named
  have hnm := (name_of_methodNamed Bd.named Bd.method).1
  have X0 : Stand p l e room_1 s m #[(.int pa), (.int pb)] below meth c s₁ [] 0 0 := Stand.of_body Bd
  have e0 : s₁.heap = h0 := by rw [← hh, Bd.state]; rfl
  have N0 := Fr.nil n0
  have pre0 : ∀ t, Steps p.tables e below (s₁.setTop (mkF m 0 #[.val (.int pa), .val (.int pb), .unset, .unset, .unset, .unset, .unset, .unset, .unset, .unset] [])) t → Steps p.tables e below (s₁.setTop (entryFrame m #[(.int pa), (.int pb)] maxLocals)) t := fun t k => castTop (ef_0 m pa pb) k
  generalize s₁.setTop (entryFrame m #[(.int pa), (.int pb)] maxLocals) = G0 at pre0 ⊢
  obtain ⟨_, _, ⟨T11, L11, k11, n11⟩, -, X11, ⟨Lc11, hQ11, l11, y11, z11⟩, st11⟩ := Jvm.LawKit.callS X0 hx (y := (⟨"com/example/narrow_queue/narrowqueue/worker/FrontFormNamesPinLaw", "rank", "(I)I"⟩ : MethodName)) hown (mvT hZ (hw _ (List.mem_of_getElem? (i := 0) rfl))) (mvT hZ (hw _ (List.mem_of_getElem? (i := 1) rfl))) (mvT hZ (hw _ (List.mem_of_getElem? (i := 2) rfl))) (mvT hZ (hw _ (List.mem_of_getElem? (i := 3) rfl))) (by decide) (backOf (W := 0) (rm1 l Z a0 hw [] pa  h0 n0 Z0 ) hZ (hw _ (List.mem_of_getElem? (i := 3) rfl)) (hw _ (List.mem_of_getElem? (i := 2) rfl)) (by decide) (by decide)) (g := (mkF m 1 #[.val (.int pa), .val (.int pb), .unset, .unset, .unset, .unset, .unset, .unset, .unset, .unset] [(.int pa)])) rfl (by rw [hml]; rfl) (argsL := [(.int pa)]) (rest := []) (lenOf own_pd26 rfl) rfl (by show 2 * 0 + _ ≤ _; exact Nat.le_of_eq rfl) (hb hby at_1) (fun _ _ => ⟨rfl, e0, (by decide : 0 + 0 ≤ _), (by decide : 0 + 0 ≤ _)⟩)
  dsimp only [Pt.U, Pt.locs, Pt.cells, Pt.slots] at X11 l11 y11 z11 st11 hQ11
  subst l11 y11 z11
  obtain ⟨rfl, Nq11, e11⟩ := hQ11
  have N11 := Fr.app N0 Nq11
  obtain ⟨_, _, ⟨T12, L12, k12, n12⟩, -, X12, ⟨Lc12, hQ12, l12, y12, z12⟩, st12⟩ := Jvm.LawKit.callS X11 hx (y := (⟨"com/example/narrow_queue/narrowqueue/worker/FrontFormNamesPinLaw", "rank", "(I)I"⟩ : MethodName)) hown (mvT hZ (hw _ (List.mem_of_getElem? (i := 0) rfl))) (mvT hZ (hw _ (List.mem_of_getElem? (i := 1) rfl))) (mvT hZ (hw _ (List.mem_of_getElem? (i := 2) rfl))) (mvT hZ (hw _ (List.mem_of_getElem? (i := 3) rfl))) (by decide) (backOf (W := 0) (rm1 l Z a0 hw [] pb  h0 n0 Z0 ) hZ (hw _ (List.mem_of_getElem? (i := 3) rfl)) (hw _ (List.mem_of_getElem? (i := 2) rfl)) (by decide) (by decide)) (g := (mkF m 6 #[.val (.int pa), .val (.int pb), .val (.int ((pa &&& (2147483647 : Int32)) % (3 : Int32))), .unset, .unset, .unset, .unset, .unset, .unset, .unset] [(.int pb)])) rfl (by rw [hml]; rfl) (argsL := [(.int pb)]) (rest := []) (lenOf own_pd26 rfl) rfl (by show 2 * 0 + _ ≤ _; exact Nat.le_of_eq rfl) (hb hby at_6) (fun _ _ => ⟨rfl, e11, (by decide : 0 + 0 ≤ _), (by decide : 0 + 0 ≤ _)⟩)
  dsimp only [Pt.U, Pt.locs, Pt.cells, Pt.slots] at X12 l12 y12 z12 st12 hQ12
  subst l12 y12 z12
  obtain ⟨rfl, Nq12, e12⟩ := hQ12
  have N12 := Fr.app N11 Nq12
  obtain ⟨_, _, ⟨T13, L13, k13, n13⟩, -, X13, ⟨Lc13, hQ13, l13, y13, z13⟩, st13⟩ := Jvm.LawKit.callS X12 hx (y := (⟨"com/example/narrow_queue/narrowqueue/worker/FrontFormNamesPinLaw", "pick", "(I)Lcom/example/narrow_queue/narrowqueue/worker/FrontForm;"⟩ : MethodName)) hown (mvT hZ (hw _ (List.mem_of_getElem? (i := 5) rfl))) (mvT hZ (hw _ (List.mem_of_getElem? (i := 6) rfl))) (mvT hZ (hw _ (List.mem_of_getElem? (i := 2) rfl))) (mvT hZ (hw _ (List.mem_of_getElem? (i := 7) rfl))) (by decide) (backOf (W := 0) (rm2 l Z a0 hw [] ((pa &&& (2147483647 : Int32)) % (3 : Int32)) aB aW aN h0 n0 Z0 S_BRIEF S_WHOLE S_NAMING E_BRIEF E_WHOLE E_NAMING nB nW) hZ (hw _ (List.mem_of_getElem? (i := 7) rfl)) (hw _ (List.mem_of_getElem? (i := 2) rfl)) (by decide) (by decide)) (g := (mkF m 11 #[.val (.int pa), .val (.int pb), .val (.int ((pa &&& (2147483647 : Int32)) % (3 : Int32))), .val (.int ((pb &&& (2147483647 : Int32)) % (3 : Int32))), .unset, .unset, .unset, .unset, .unset, .unset] [(.int ((pa &&& (2147483647 : Int32)) % (3 : Int32)))])) rfl (by rw [hml]; rfl) (argsL := [(.int ((pa &&& (2147483647 : Int32)) % (3 : Int32)))]) (rest := []) (lenOf own_pd27 rfl) rfl (by show 2 * 0 + _ ≤ _; exact Nat.le_of_eq rfl) (hb hby at_11) (fun _ _ => ⟨rfl, e12, (by decide : 0 + 0 ≤ _), (by decide : 0 + 0 ≤ _)⟩)
  dsimp only [Pt.U, Pt.locs, Pt.cells, Pt.slots] at X13 l13 y13 z13 st13 hQ13
  subst l13 y13 z13
  obtain ⟨rro_13, rfl, Nq13, e13, p13_0, p13_1⟩ := hQ13
  have N13 := Fr.app N12 Nq13
  obtain ⟨_, _, ⟨T14, L14, k14, n14⟩, -, X14, ⟨Lc14, hQ14, l14, y14, z14⟩, st14⟩ := Jvm.LawKit.callS X13 hx (y := (⟨"com/example/narrow_queue/narrowqueue/worker/FrontFormNamesPinLaw", "pick", "(I)Lcom/example/narrow_queue/narrowqueue/worker/FrontForm;"⟩ : MethodName)) hown (mvT hZ (hw _ (List.mem_of_getElem? (i := 5) rfl))) (mvT hZ (hw _ (List.mem_of_getElem? (i := 6) rfl))) (mvT hZ (hw _ (List.mem_of_getElem? (i := 2) rfl))) (mvT hZ (hw _ (List.mem_of_getElem? (i := 7) rfl))) (by decide) (backOf (W := 0) (rm2 l Z a0 hw [] ((pb &&& (2147483647 : Int32)) % (3 : Int32)) aB aW aN h0 n0 Z0 S_BRIEF S_WHOLE S_NAMING E_BRIEF E_WHOLE E_NAMING nB nW) hZ (hw _ (List.mem_of_getElem? (i := 7) rfl)) (hw _ (List.mem_of_getElem? (i := 2) rfl)) (by decide) (by decide)) (g := (mkF m 17 #[.val (.int pa), .val (.int pb), .val (.int ((pa &&& (2147483647 : Int32)) % (3 : Int32))), .val (.int ((pb &&& (2147483647 : Int32)) % (3 : Int32))), .val (.ref rro_13), .unset, .unset, .unset, .unset, .unset] [(.int ((pb &&& (2147483647 : Int32)) % (3 : Int32)))])) rfl (by rw [hml]; rfl) (argsL := [(.int ((pb &&& (2147483647 : Int32)) % (3 : Int32)))]) (rest := []) (lenOf own_pd27 rfl) rfl (by show 2 * 0 + _ ≤ _; exact Nat.le_of_eq rfl) (hb hby at_17) (fun _ _ => ⟨rfl, e13, (by decide : 0 + 0 ≤ _), (by decide : 0 + 0 ≤ _)⟩)
  dsimp only [Pt.U, Pt.locs, Pt.cells, Pt.slots] at X14 l14 y14 z14 st14 hQ14
  subst l14 y14 z14
  obtain ⟨rro_14, rfl, Nq14, e14, p14_0, p14_1⟩ := hQ14
  have N14 := Fr.app N13 Nq14
  have pre15 : ∀ t, Steps p.tables e below (T14.setTop (mkF m 20 #[.val (.int pa), .val (.int pb), .val (.int ((pa &&& (2147483647 : Int32)) % (3 : Int32))), .val (.int ((pb &&& (2147483647 : Int32)) % (3 : Int32))), .val (.ref rro_13), .unset, .unset, .unset, .unset, .unset] [(.ref rro_14)])) t → Steps p.tables e below G0 t := by
    intro t k
    refine pre0 t ?_
    show Steps p.tables e below (s₁.setTop (mkF m 0 #[.val (.int pa), .val (.int pb), .unset, .unset, .unset, .unset, .unset, .unset, .unset, .unset] [])) _
    refine XS.iloadN X0.here hx rfl (hb hby at_0) rfl ?_
    show Steps p.tables e below (s₁.setTop (mkF m 1 #[.val (.int pa), .val (.int pb), .unset, .unset, .unset, .unset, .unset, .unset, .unset, .unset] [(.int pa)])) _
    refine st11 _ ?_
    show Steps p.tables e below (T11.setTop (mkF m 4 #[.val (.int pa), .val (.int pb), .unset, .unset, .unset, .unset, .unset, .unset, .unset, .unset] [(.int ((pa &&& (2147483647 : Int32)) % (3 : Int32)))])) _
    refine XS.istoreN X11.here hx rfl (hb hby at_4) rfl (l' := #[.val (.int pa), .val (.int pb), .val (.int ((pa &&& (2147483647 : Int32)) % (3 : Int32))), .unset, .unset, .unset, .unset, .unset, .unset, .unset]) rfl ?_
    show Steps p.tables e below (T11.setTop (mkF m 5 #[.val (.int pa), .val (.int pb), .val (.int ((pa &&& (2147483647 : Int32)) % (3 : Int32))), .unset, .unset, .unset, .unset, .unset, .unset, .unset] [])) _
    refine XS.iloadN X11.here hx rfl (hb hby at_5) rfl ?_
    show Steps p.tables e below (T11.setTop (mkF m 6 #[.val (.int pa), .val (.int pb), .val (.int ((pa &&& (2147483647 : Int32)) % (3 : Int32))), .unset, .unset, .unset, .unset, .unset, .unset, .unset] [(.int pb)])) _
    refine st12 _ ?_
    show Steps p.tables e below (T12.setTop (mkF m 9 #[.val (.int pa), .val (.int pb), .val (.int ((pa &&& (2147483647 : Int32)) % (3 : Int32))), .unset, .unset, .unset, .unset, .unset, .unset, .unset] [(.int ((pb &&& (2147483647 : Int32)) % (3 : Int32)))])) _
    refine XS.istoreN X12.here hx rfl (hb hby at_9) rfl (l' := #[.val (.int pa), .val (.int pb), .val (.int ((pa &&& (2147483647 : Int32)) % (3 : Int32))), .val (.int ((pb &&& (2147483647 : Int32)) % (3 : Int32))), .unset, .unset, .unset, .unset, .unset, .unset]) rfl ?_
    show Steps p.tables e below (T12.setTop (mkF m 10 #[.val (.int pa), .val (.int pb), .val (.int ((pa &&& (2147483647 : Int32)) % (3 : Int32))), .val (.int ((pb &&& (2147483647 : Int32)) % (3 : Int32))), .unset, .unset, .unset, .unset, .unset, .unset] [])) _
    refine XS.iloadN X12.here hx rfl (hb hby at_10) rfl ?_
    show Steps p.tables e below (T12.setTop (mkF m 11 #[.val (.int pa), .val (.int pb), .val (.int ((pa &&& (2147483647 : Int32)) % (3 : Int32))), .val (.int ((pb &&& (2147483647 : Int32)) % (3 : Int32))), .unset, .unset, .unset, .unset, .unset, .unset] [(.int ((pa &&& (2147483647 : Int32)) % (3 : Int32)))])) _
    refine st13 _ ?_
    show Steps p.tables e below (T13.setTop (mkF m 14 #[.val (.int pa), .val (.int pb), .val (.int ((pa &&& (2147483647 : Int32)) % (3 : Int32))), .val (.int ((pb &&& (2147483647 : Int32)) % (3 : Int32))), .unset, .unset, .unset, .unset, .unset, .unset] [(.ref rro_13)])) _
    refine XS.astore X13.here hx rfl (hb hby at_14) rfl rfl (l' := #[.val (.int pa), .val (.int pb), .val (.int ((pa &&& (2147483647 : Int32)) % (3 : Int32))), .val (.int ((pb &&& (2147483647 : Int32)) % (3 : Int32))), .val (.ref rro_13), .unset, .unset, .unset, .unset, .unset]) rfl ?_
    show Steps p.tables e below (T13.setTop (mkF m 16 #[.val (.int pa), .val (.int pb), .val (.int ((pa &&& (2147483647 : Int32)) % (3 : Int32))), .val (.int ((pb &&& (2147483647 : Int32)) % (3 : Int32))), .val (.ref rro_13), .unset, .unset, .unset, .unset, .unset] [])) _
    refine XS.iloadN X13.here hx rfl (hb hby at_16) rfl ?_
    show Steps p.tables e below (T13.setTop (mkF m 17 #[.val (.int pa), .val (.int pb), .val (.int ((pa &&& (2147483647 : Int32)) % (3 : Int32))), .val (.int ((pb &&& (2147483647 : Int32)) % (3 : Int32))), .val (.ref rro_13), .unset, .unset, .unset, .unset, .unset] [(.int ((pb &&& (2147483647 : Int32)) % (3 : Int32)))])) _
    refine st14 _ ?_
    exact k
  obtain ⟨Tm23, lm23, v46_22, Xm23, em23, Nm23, hv25, pre24⟩ : ∃ (Tm23 : State) (lm23 : List Loc) (v46_22 : Int32), Stand p l e room_1 s m #[(.int pa), (.int pb)] below meth c Tm23 lm23 0 0 ∧ Tm23.heap = h0 ∧ Fr n0 lm23 ∧ (v46_22 = if ((pa &&& (2147483647 : Int32)) % (3 : Int32)) = 2 then 1 else 0) ∧ ∀ t, Steps p.tables e below (Tm23.setTop (mkF m 46 #[.val (.int pa), .val (.int pb), .val (.int ((pa &&& (2147483647 : Int32)) % (3 : Int32))), .val (.int ((pb &&& (2147483647 : Int32)) % (3 : Int32))), .val (.ref rro_13), .val (.ref rro_14), .val (.int (if rro_13 = aN then (1 : Int32) else 0)), .val (.int (if rro_14 = aN then (1 : Int32) else 0)), .unset, .unset] [(.int v46_22)])) t → Steps p.tables e below G0 t := by
    obtain ⟨cq16, kq16, q16a, q16b, q16c⟩ := isOf hZ e14 p13_0
    obtain ⟨_, _, ⟨T16, L16, k16, n16⟩, -, X16, ⟨Lc16, hQ16, l16, y16, z16⟩, st16⟩ := X14.virtualBack hx (y := (⟨"com/example/narrow_queue/narrowqueue/worker/FrontForm", "names", "()Z"⟩ : MethodName)) (z := (⟨"com/example/narrow_queue/narrowqueue/worker/FrontForm", "names", "()Z"⟩ : MethodName)) hown (mvT hZ (hw _ (List.mem_of_getElem? (i := 11) rfl))) (mvT hZ (hw _ (List.mem_of_getElem? (i := 12) rfl))) (notFace_of_selects (args := #[]) (mvT hZ (hw _ (List.mem_of_getElem? (i := 14) rfl)))) (mvT hZ (hw _ (List.mem_of_getElem? (i := 14) rfl))) (mvT hZ (hw _ (List.mem_of_getElem? (i := 13) rfl))) (by decide) (backOf (W := 0) (rm3 l Z a0 hw [] rro_13 aN h0 n0 Z0 S_NAMING) hZ (hw _ (List.mem_of_getElem? (i := 15) rfl)) (hw _ (List.mem_of_getElem? (i := 9) rfl)) (by decide) (by decide)) q16a q16c (g := (mkF m 24 #[.val (.int pa), .val (.int pb), .val (.int ((pa &&& (2147483647 : Int32)) % (3 : Int32))), .val (.int ((pb &&& (2147483647 : Int32)) % (3 : Int32))), .val (.ref rro_13), .val (.ref rro_14), .unset, .unset, .unset, .unset] [(.ref rro_13)])) rfl (by rw [hml]; rfl) (Steps.refl _) (argsL := []) (rest := []) (lenOf own_pd28 rfl) rfl (by show 2 * 0 + _ ≤ _; exact Nat.le_of_eq rfl) (hb hby at_24) (fun _ _ => ⟨rfl, e14, (by decide : 0 + 0 ≤ _), (by decide : 0 + 0 ≤ _)⟩)
    dsimp only [Pt.U, Pt.locs, Pt.cells, Pt.slots] at X16 l16 y16 z16 st16 hQ16
    subst l16 y16 z16
    obtain ⟨rfl, Nq16, e16⟩ := hQ16
    have N16 := Fr.app N14 Nq16
    obtain ⟨cq17, kq17, q17a, q17b, q17c⟩ := isOf hZ e16 p14_0
    obtain ⟨_, _, ⟨T17, L17, k17, n17⟩, -, X17, ⟨Lc17, hQ17, l17, y17, z17⟩, st17⟩ := X16.virtualBack hx (y := (⟨"com/example/narrow_queue/narrowqueue/worker/FrontForm", "names", "()Z"⟩ : MethodName)) (z := (⟨"com/example/narrow_queue/narrowqueue/worker/FrontForm", "names", "()Z"⟩ : MethodName)) hown (mvT hZ (hw _ (List.mem_of_getElem? (i := 11) rfl))) (mvT hZ (hw _ (List.mem_of_getElem? (i := 12) rfl))) (notFace_of_selects (args := #[]) (mvT hZ (hw _ (List.mem_of_getElem? (i := 14) rfl)))) (mvT hZ (hw _ (List.mem_of_getElem? (i := 14) rfl))) (mvT hZ (hw _ (List.mem_of_getElem? (i := 13) rfl))) (by decide) (backOf (W := 0) (rm3 l Z a0 hw [] rro_14 aN h0 n0 Z0 S_NAMING) hZ (hw _ (List.mem_of_getElem? (i := 15) rfl)) (hw _ (List.mem_of_getElem? (i := 9) rfl)) (by decide) (by decide)) q17a q17c (g := (mkF m 31 #[.val (.int pa), .val (.int pb), .val (.int ((pa &&& (2147483647 : Int32)) % (3 : Int32))), .val (.int ((pb &&& (2147483647 : Int32)) % (3 : Int32))), .val (.ref rro_13), .val (.ref rro_14), .val (.int (if rro_13 = aN then (1 : Int32) else 0)), .unset, .unset, .unset] [(.ref rro_14)])) rfl (by rw [hml]; rfl) (Steps.refl _) (argsL := []) (rest := []) (lenOf own_pd28 rfl) rfl (by show 2 * 0 + _ ≤ _; exact Nat.le_of_eq rfl) (hb hby at_31) (fun _ _ => ⟨rfl, e16, (by decide : 0 + 0 ≤ _), (by decide : 0 + 0 ≤ _)⟩)
    dsimp only [Pt.U, Pt.locs, Pt.cells, Pt.slots] at X17 l17 y17 z17 st17 hQ17
    subst l17 y17 z17
    obtain ⟨rfl, Nq17, e17⟩ := hQ17
    have N17 := Fr.app N16 Nq17
    have pre18 : ∀ t, Steps p.tables e below (T17.setTop (mkF m 38 #[.val (.int pa), .val (.int pb), .val (.int ((pa &&& (2147483647 : Int32)) % (3 : Int32))), .val (.int ((pb &&& (2147483647 : Int32)) % (3 : Int32))), .val (.ref rro_13), .val (.ref rro_14), .val (.int (if rro_13 = aN then (1 : Int32) else 0)), .val (.int (if rro_14 = aN then (1 : Int32) else 0)), .unset, .unset] [(.int (2 : Int32)), (.int ((pa &&& (2147483647 : Int32)) % (3 : Int32)))])) t → Steps p.tables e below G0 t := by
      intro t k
      refine pre15 t ?_
      show Steps p.tables e below (T14.setTop (mkF m 20 #[.val (.int pa), .val (.int pb), .val (.int ((pa &&& (2147483647 : Int32)) % (3 : Int32))), .val (.int ((pb &&& (2147483647 : Int32)) % (3 : Int32))), .val (.ref rro_13), .unset, .unset, .unset, .unset, .unset] [(.ref rro_14)])) _
      refine XS.astore X14.here hx rfl (hb hby at_20) rfl rfl (l' := #[.val (.int pa), .val (.int pb), .val (.int ((pa &&& (2147483647 : Int32)) % (3 : Int32))), .val (.int ((pb &&& (2147483647 : Int32)) % (3 : Int32))), .val (.ref rro_13), .val (.ref rro_14), .unset, .unset, .unset, .unset]) rfl ?_
      show Steps p.tables e below (T14.setTop (mkF m 22 #[.val (.int pa), .val (.int pb), .val (.int ((pa &&& (2147483647 : Int32)) % (3 : Int32))), .val (.int ((pb &&& (2147483647 : Int32)) % (3 : Int32))), .val (.ref rro_13), .val (.ref rro_14), .unset, .unset, .unset, .unset] [])) _
      refine XS.aload X14.here hx rfl (hb hby at_22) rfl rfl ?_
      show Steps p.tables e below (T14.setTop (mkF m 24 #[.val (.int pa), .val (.int pb), .val (.int ((pa &&& (2147483647 : Int32)) % (3 : Int32))), .val (.int ((pb &&& (2147483647 : Int32)) % (3 : Int32))), .val (.ref rro_13), .val (.ref rro_14), .unset, .unset, .unset, .unset] [(.ref rro_13)])) _
      refine st16.trans ?_
      show Steps p.tables e below (T16.setTop (mkF m 27 #[.val (.int pa), .val (.int pb), .val (.int ((pa &&& (2147483647 : Int32)) % (3 : Int32))), .val (.int ((pb &&& (2147483647 : Int32)) % (3 : Int32))), .val (.ref rro_13), .val (.ref rro_14), .unset, .unset, .unset, .unset] [(.int (if rro_13 = aN then (1 : Int32) else 0))])) _
      refine XS.istore X16.here hx rfl (hb hby at_27) rfl (l' := #[.val (.int pa), .val (.int pb), .val (.int ((pa &&& (2147483647 : Int32)) % (3 : Int32))), .val (.int ((pb &&& (2147483647 : Int32)) % (3 : Int32))), .val (.ref rro_13), .val (.ref rro_14), .val (.int (if rro_13 = aN then (1 : Int32) else 0)), .unset, .unset, .unset]) rfl ?_
      show Steps p.tables e below (T16.setTop (mkF m 29 #[.val (.int pa), .val (.int pb), .val (.int ((pa &&& (2147483647 : Int32)) % (3 : Int32))), .val (.int ((pb &&& (2147483647 : Int32)) % (3 : Int32))), .val (.ref rro_13), .val (.ref rro_14), .val (.int (if rro_13 = aN then (1 : Int32) else 0)), .unset, .unset, .unset] [])) _
      refine XS.aload X16.here hx rfl (hb hby at_29) rfl rfl ?_
      show Steps p.tables e below (T16.setTop (mkF m 31 #[.val (.int pa), .val (.int pb), .val (.int ((pa &&& (2147483647 : Int32)) % (3 : Int32))), .val (.int ((pb &&& (2147483647 : Int32)) % (3 : Int32))), .val (.ref rro_13), .val (.ref rro_14), .val (.int (if rro_13 = aN then (1 : Int32) else 0)), .unset, .unset, .unset] [(.ref rro_14)])) _
      refine st17.trans ?_
      show Steps p.tables e below (T17.setTop (mkF m 34 #[.val (.int pa), .val (.int pb), .val (.int ((pa &&& (2147483647 : Int32)) % (3 : Int32))), .val (.int ((pb &&& (2147483647 : Int32)) % (3 : Int32))), .val (.ref rro_13), .val (.ref rro_14), .val (.int (if rro_13 = aN then (1 : Int32) else 0)), .unset, .unset, .unset] [(.int (if rro_14 = aN then (1 : Int32) else 0))])) _
      refine XS.istore X17.here hx rfl (hb hby at_34) rfl (l' := #[.val (.int pa), .val (.int pb), .val (.int ((pa &&& (2147483647 : Int32)) % (3 : Int32))), .val (.int ((pb &&& (2147483647 : Int32)) % (3 : Int32))), .val (.ref rro_13), .val (.ref rro_14), .val (.int (if rro_13 = aN then (1 : Int32) else 0)), .val (.int (if rro_14 = aN then (1 : Int32) else 0)), .unset, .unset]) rfl ?_
      show Steps p.tables e below (T17.setTop (mkF m 36 #[.val (.int pa), .val (.int pb), .val (.int ((pa &&& (2147483647 : Int32)) % (3 : Int32))), .val (.int ((pb &&& (2147483647 : Int32)) % (3 : Int32))), .val (.ref rro_13), .val (.ref rro_14), .val (.int (if rro_13 = aN then (1 : Int32) else 0)), .val (.int (if rro_14 = aN then (1 : Int32) else 0)), .unset, .unset] [])) _
      refine XS.iloadN X17.here hx rfl (hb hby at_36) rfl ?_
      show Steps p.tables e below (T17.setTop (mkF m 37 #[.val (.int pa), .val (.int pb), .val (.int ((pa &&& (2147483647 : Int32)) % (3 : Int32))), .val (.int ((pb &&& (2147483647 : Int32)) % (3 : Int32))), .val (.ref rro_13), .val (.ref rro_14), .val (.int (if rro_13 = aN then (1 : Int32) else 0)), .val (.int (if rro_14 = aN then (1 : Int32) else 0)), .unset, .unset] [(.int ((pa &&& (2147483647 : Int32)) % (3 : Int32)))])) _
      refine XS.iconst X17.here hx rfl (hb hby at_37) ?_
      exact k
    by_cases hc38_19 : ((pa &&& (2147483647 : Int32)) % (3 : Int32)) = (2 : Int32)
    · have pre20 : ∀ t, Steps p.tables e below (T17.setTop (mkF m 46 #[.val (.int pa), .val (.int pb), .val (.int ((pa &&& (2147483647 : Int32)) % (3 : Int32))), .val (.int ((pb &&& (2147483647 : Int32)) % (3 : Int32))), .val (.ref rro_13), .val (.ref rro_14), .val (.int (if rro_13 = aN then (1 : Int32) else 0)), .val (.int (if rro_14 = aN then (1 : Int32) else 0)), .unset, .unset] [(.int (1 : Int32))])) t → Steps p.tables e below G0 t := by
        intro t k
        refine pre18 t ?_
        show Steps p.tables e below (T17.setTop (mkF m 38 #[.val (.int pa), .val (.int pb), .val (.int ((pa &&& (2147483647 : Int32)) % (3 : Int32))), .val (.int ((pb &&& (2147483647 : Int32)) % (3 : Int32))), .val (.ref rro_13), .val (.ref rro_14), .val (.int (if rro_13 = aN then (1 : Int32) else 0)), .val (.int (if rro_14 = aN then (1 : Int32) else 0)), .unset, .unset] [(.int (2 : Int32)), (.int ((pa &&& (2147483647 : Int32)) % (3 : Int32)))])) _
        refine XS.icmpNo X17.here hx rfl (hb hby at_38) rfl (teq hc38_19).2 ?_
        show Steps p.tables e below (T17.setTop (mkF m 41 #[.val (.int pa), .val (.int pb), .val (.int ((pa &&& (2147483647 : Int32)) % (3 : Int32))), .val (.int ((pb &&& (2147483647 : Int32)) % (3 : Int32))), .val (.ref rro_13), .val (.ref rro_14), .val (.int (if rro_13 = aN then (1 : Int32) else 0)), .val (.int (if rro_14 = aN then (1 : Int32) else 0)), .unset, .unset] [])) _
        refine XS.iconst X17.here hx rfl (hb hby at_41) ?_
        show Steps p.tables e below (T17.setTop (mkF m 42 #[.val (.int pa), .val (.int pb), .val (.int ((pa &&& (2147483647 : Int32)) % (3 : Int32))), .val (.int ((pb &&& (2147483647 : Int32)) % (3 : Int32))), .val (.ref rro_13), .val (.ref rro_14), .val (.int (if rro_13 = aN then (1 : Int32) else 0)), .val (.int (if rro_14 = aN then (1 : Int32) else 0)), .unset, .unset] [(.int (1 : Int32))])) _
        refine XS.goto X17.here hx rfl (pc0 := 42) (pc' := 46) rfl (hb hby at_42) (by decide) (by decide) ?_
        exact k
      exact ⟨T17, _, (1 : Int32), X17, e17, N17, (by simp [hc38_19]), pre20⟩
    · have pre21 : ∀ t, Steps p.tables e below (T17.setTop (mkF m 46 #[.val (.int pa), .val (.int pb), .val (.int ((pa &&& (2147483647 : Int32)) % (3 : Int32))), .val (.int ((pb &&& (2147483647 : Int32)) % (3 : Int32))), .val (.ref rro_13), .val (.ref rro_14), .val (.int (if rro_13 = aN then (1 : Int32) else 0)), .val (.int (if rro_14 = aN then (1 : Int32) else 0)), .unset, .unset] [(.int (0 : Int32))])) t → Steps p.tables e below G0 t := by
        intro t k
        refine pre18 t ?_
        show Steps p.tables e below (T17.setTop (mkF m 38 #[.val (.int pa), .val (.int pb), .val (.int ((pa &&& (2147483647 : Int32)) % (3 : Int32))), .val (.int ((pb &&& (2147483647 : Int32)) % (3 : Int32))), .val (.ref rro_13), .val (.ref rro_14), .val (.int (if rro_13 = aN then (1 : Int32) else 0)), .val (.int (if rro_14 = aN then (1 : Int32) else 0)), .unset, .unset] [(.int (2 : Int32)), (.int ((pa &&& (2147483647 : Int32)) % (3 : Int32)))])) _
        refine XS.icmpYes X17.here hx rfl (pc0 := 38) (pc' := 45) rfl (hb hby at_38) rfl (feq hc38_19).2 (by decide) (by decide) ?_
        show Steps p.tables e below (T17.setTop (mkF m 45 #[.val (.int pa), .val (.int pb), .val (.int ((pa &&& (2147483647 : Int32)) % (3 : Int32))), .val (.int ((pb &&& (2147483647 : Int32)) % (3 : Int32))), .val (.ref rro_13), .val (.ref rro_14), .val (.int (if rro_13 = aN then (1 : Int32) else 0)), .val (.int (if rro_14 = aN then (1 : Int32) else 0)), .unset, .unset] [])) _
        refine XS.iconst X17.here hx rfl (hb hby at_45) ?_
        exact k
      exact ⟨T17, _, (0 : Int32), X17, e17, N17, (by simp [hc38_19]), pre21⟩
  obtain ⟨v58_30, hv33, pre32⟩ : ∃ (v58_30 : Int32), (v58_30 = if ((pb &&& (2147483647 : Int32)) % (3 : Int32)) = 2 then 1 else 0) ∧ ∀ t, Steps p.tables e below (Tm23.setTop (mkF m 58 #[.val (.int pa), .val (.int pb), .val (.int ((pa &&& (2147483647 : Int32)) % (3 : Int32))), .val (.int ((pb &&& (2147483647 : Int32)) % (3 : Int32))), .val (.ref rro_13), .val (.ref rro_14), .val (.int (if rro_13 = aN then (1 : Int32) else 0)), .val (.int (if rro_14 = aN then (1 : Int32) else 0)), .val (.int v46_22), .unset] [(.int v58_30)])) t → Steps p.tables e below G0 t := by
    have pre26 : ∀ t, Steps p.tables e below (Tm23.setTop (mkF m 50 #[.val (.int pa), .val (.int pb), .val (.int ((pa &&& (2147483647 : Int32)) % (3 : Int32))), .val (.int ((pb &&& (2147483647 : Int32)) % (3 : Int32))), .val (.ref rro_13), .val (.ref rro_14), .val (.int (if rro_13 = aN then (1 : Int32) else 0)), .val (.int (if rro_14 = aN then (1 : Int32) else 0)), .val (.int v46_22), .unset] [(.int (2 : Int32)), (.int ((pb &&& (2147483647 : Int32)) % (3 : Int32)))])) t → Steps p.tables e below G0 t := by
      intro t k
      refine pre24 t ?_
      show Steps p.tables e below (Tm23.setTop (mkF m 46 #[.val (.int pa), .val (.int pb), .val (.int ((pa &&& (2147483647 : Int32)) % (3 : Int32))), .val (.int ((pb &&& (2147483647 : Int32)) % (3 : Int32))), .val (.ref rro_13), .val (.ref rro_14), .val (.int (if rro_13 = aN then (1 : Int32) else 0)), .val (.int (if rro_14 = aN then (1 : Int32) else 0)), .unset, .unset] [(.int v46_22)])) _
      refine XS.istore Xm23.here hx rfl (hb hby at_46) rfl (l' := #[.val (.int pa), .val (.int pb), .val (.int ((pa &&& (2147483647 : Int32)) % (3 : Int32))), .val (.int ((pb &&& (2147483647 : Int32)) % (3 : Int32))), .val (.ref rro_13), .val (.ref rro_14), .val (.int (if rro_13 = aN then (1 : Int32) else 0)), .val (.int (if rro_14 = aN then (1 : Int32) else 0)), .val (.int v46_22), .unset]) rfl ?_
      show Steps p.tables e below (Tm23.setTop (mkF m 48 #[.val (.int pa), .val (.int pb), .val (.int ((pa &&& (2147483647 : Int32)) % (3 : Int32))), .val (.int ((pb &&& (2147483647 : Int32)) % (3 : Int32))), .val (.ref rro_13), .val (.ref rro_14), .val (.int (if rro_13 = aN then (1 : Int32) else 0)), .val (.int (if rro_14 = aN then (1 : Int32) else 0)), .val (.int v46_22), .unset] [])) _
      refine XS.iloadN Xm23.here hx rfl (hb hby at_48) rfl ?_
      show Steps p.tables e below (Tm23.setTop (mkF m 49 #[.val (.int pa), .val (.int pb), .val (.int ((pa &&& (2147483647 : Int32)) % (3 : Int32))), .val (.int ((pb &&& (2147483647 : Int32)) % (3 : Int32))), .val (.ref rro_13), .val (.ref rro_14), .val (.int (if rro_13 = aN then (1 : Int32) else 0)), .val (.int (if rro_14 = aN then (1 : Int32) else 0)), .val (.int v46_22), .unset] [(.int ((pb &&& (2147483647 : Int32)) % (3 : Int32)))])) _
      refine XS.iconst Xm23.here hx rfl (hb hby at_49) ?_
      exact k
    by_cases hc50_27 : ((pb &&& (2147483647 : Int32)) % (3 : Int32)) = (2 : Int32)
    · have pre28 : ∀ t, Steps p.tables e below (Tm23.setTop (mkF m 58 #[.val (.int pa), .val (.int pb), .val (.int ((pa &&& (2147483647 : Int32)) % (3 : Int32))), .val (.int ((pb &&& (2147483647 : Int32)) % (3 : Int32))), .val (.ref rro_13), .val (.ref rro_14), .val (.int (if rro_13 = aN then (1 : Int32) else 0)), .val (.int (if rro_14 = aN then (1 : Int32) else 0)), .val (.int v46_22), .unset] [(.int (1 : Int32))])) t → Steps p.tables e below G0 t := by
        intro t k
        refine pre26 t ?_
        show Steps p.tables e below (Tm23.setTop (mkF m 50 #[.val (.int pa), .val (.int pb), .val (.int ((pa &&& (2147483647 : Int32)) % (3 : Int32))), .val (.int ((pb &&& (2147483647 : Int32)) % (3 : Int32))), .val (.ref rro_13), .val (.ref rro_14), .val (.int (if rro_13 = aN then (1 : Int32) else 0)), .val (.int (if rro_14 = aN then (1 : Int32) else 0)), .val (.int v46_22), .unset] [(.int (2 : Int32)), (.int ((pb &&& (2147483647 : Int32)) % (3 : Int32)))])) _
        refine XS.icmpNo Xm23.here hx rfl (hb hby at_50) rfl (teq hc50_27).2 ?_
        show Steps p.tables e below (Tm23.setTop (mkF m 53 #[.val (.int pa), .val (.int pb), .val (.int ((pa &&& (2147483647 : Int32)) % (3 : Int32))), .val (.int ((pb &&& (2147483647 : Int32)) % (3 : Int32))), .val (.ref rro_13), .val (.ref rro_14), .val (.int (if rro_13 = aN then (1 : Int32) else 0)), .val (.int (if rro_14 = aN then (1 : Int32) else 0)), .val (.int v46_22), .unset] [])) _
        refine XS.iconst Xm23.here hx rfl (hb hby at_53) ?_
        show Steps p.tables e below (Tm23.setTop (mkF m 54 #[.val (.int pa), .val (.int pb), .val (.int ((pa &&& (2147483647 : Int32)) % (3 : Int32))), .val (.int ((pb &&& (2147483647 : Int32)) % (3 : Int32))), .val (.ref rro_13), .val (.ref rro_14), .val (.int (if rro_13 = aN then (1 : Int32) else 0)), .val (.int (if rro_14 = aN then (1 : Int32) else 0)), .val (.int v46_22), .unset] [(.int (1 : Int32))])) _
        refine XS.goto Xm23.here hx rfl (pc0 := 54) (pc' := 58) rfl (hb hby at_54) (by decide) (by decide) ?_
        exact k
      exact ⟨(1 : Int32), (by simp [hc50_27]), pre28⟩
    · have pre29 : ∀ t, Steps p.tables e below (Tm23.setTop (mkF m 58 #[.val (.int pa), .val (.int pb), .val (.int ((pa &&& (2147483647 : Int32)) % (3 : Int32))), .val (.int ((pb &&& (2147483647 : Int32)) % (3 : Int32))), .val (.ref rro_13), .val (.ref rro_14), .val (.int (if rro_13 = aN then (1 : Int32) else 0)), .val (.int (if rro_14 = aN then (1 : Int32) else 0)), .val (.int v46_22), .unset] [(.int (0 : Int32))])) t → Steps p.tables e below G0 t := by
        intro t k
        refine pre26 t ?_
        show Steps p.tables e below (Tm23.setTop (mkF m 50 #[.val (.int pa), .val (.int pb), .val (.int ((pa &&& (2147483647 : Int32)) % (3 : Int32))), .val (.int ((pb &&& (2147483647 : Int32)) % (3 : Int32))), .val (.ref rro_13), .val (.ref rro_14), .val (.int (if rro_13 = aN then (1 : Int32) else 0)), .val (.int (if rro_14 = aN then (1 : Int32) else 0)), .val (.int v46_22), .unset] [(.int (2 : Int32)), (.int ((pb &&& (2147483647 : Int32)) % (3 : Int32)))])) _
        refine XS.icmpYes Xm23.here hx rfl (pc0 := 50) (pc' := 57) rfl (hb hby at_50) rfl (feq hc50_27).2 (by decide) (by decide) ?_
        show Steps p.tables e below (Tm23.setTop (mkF m 57 #[.val (.int pa), .val (.int pb), .val (.int ((pa &&& (2147483647 : Int32)) % (3 : Int32))), .val (.int ((pb &&& (2147483647 : Int32)) % (3 : Int32))), .val (.ref rro_13), .val (.ref rro_14), .val (.int (if rro_13 = aN then (1 : Int32) else 0)), .val (.int (if rro_14 = aN then (1 : Int32) else 0)), .val (.int v46_22), .unset] [])) _
        refine XS.iconst Xm23.here hx rfl (hb hby at_57) ?_
        exact k
      exact ⟨(0 : Int32), (by simp [hc50_27]), pre29⟩
  have pre34 : ∀ t, Steps p.tables e below (Tm23.setTop (mkF m 78 #[.val (.int pa), .val (.int pb), .val (.int ((pa &&& (2147483647 : Int32)) % (3 : Int32))), .val (.int ((pb &&& (2147483647 : Int32)) % (3 : Int32))), .val (.ref rro_13), .val (.ref rro_14), .val (.int (if rro_13 = aN then (1 : Int32) else 0)), .val (.int (if rro_14 = aN then (1 : Int32) else 0)), .val (.int v46_22), .val (.int v58_30)] [(.int ((pb &&& (2147483647 : Int32)) % (3 : Int32))), (.int ((pa &&& (2147483647 : Int32)) % (3 : Int32)))])) t → Steps p.tables e below G0 t := by
    intro t k
    refine pre32 t ?_
    show Steps p.tables e below (Tm23.setTop (mkF m 58 #[.val (.int pa), .val (.int pb), .val (.int ((pa &&& (2147483647 : Int32)) % (3 : Int32))), .val (.int ((pb &&& (2147483647 : Int32)) % (3 : Int32))), .val (.ref rro_13), .val (.ref rro_14), .val (.int (if rro_13 = aN then (1 : Int32) else 0)), .val (.int (if rro_14 = aN then (1 : Int32) else 0)), .val (.int v46_22), .unset] [(.int v58_30)])) _
    refine XS.istore Xm23.here hx rfl (hb hby at_58) rfl (l' := #[.val (.int pa), .val (.int pb), .val (.int ((pa &&& (2147483647 : Int32)) % (3 : Int32))), .val (.int ((pb &&& (2147483647 : Int32)) % (3 : Int32))), .val (.ref rro_13), .val (.ref rro_14), .val (.int (if rro_13 = aN then (1 : Int32) else 0)), .val (.int (if rro_14 = aN then (1 : Int32) else 0)), .val (.int v46_22), .val (.int v58_30)]) rfl ?_
    show Steps p.tables e below (Tm23.setTop (mkF m 60 #[.val (.int pa), .val (.int pb), .val (.int ((pa &&& (2147483647 : Int32)) % (3 : Int32))), .val (.int ((pb &&& (2147483647 : Int32)) % (3 : Int32))), .val (.ref rro_13), .val (.ref rro_14), .val (.int (if rro_13 = aN then (1 : Int32) else 0)), .val (.int (if rro_14 = aN then (1 : Int32) else 0)), .val (.int v46_22), .val (.int v58_30)] [])) _
    refine XS.iload Xm23.here hx rfl (hb hby at_60) rfl ?_
    show Steps p.tables e below (Tm23.setTop (mkF m 62 #[.val (.int pa), .val (.int pb), .val (.int ((pa &&& (2147483647 : Int32)) % (3 : Int32))), .val (.int ((pb &&& (2147483647 : Int32)) % (3 : Int32))), .val (.ref rro_13), .val (.ref rro_14), .val (.int (if rro_13 = aN then (1 : Int32) else 0)), .val (.int (if rro_14 = aN then (1 : Int32) else 0)), .val (.int v46_22), .val (.int v58_30)] [(.int (if rro_13 = aN then (1 : Int32) else 0))])) _
    refine XS.iload Xm23.here hx rfl (hb hby at_62) rfl ?_
    show Steps p.tables e below (Tm23.setTop (mkF m 64 #[.val (.int pa), .val (.int pb), .val (.int ((pa &&& (2147483647 : Int32)) % (3 : Int32))), .val (.int ((pb &&& (2147483647 : Int32)) % (3 : Int32))), .val (.ref rro_13), .val (.ref rro_14), .val (.int (if rro_13 = aN then (1 : Int32) else 0)), .val (.int (if rro_14 = aN then (1 : Int32) else 0)), .val (.int v46_22), .val (.int v58_30)] [(.int v46_22), (.int (if rro_13 = aN then (1 : Int32) else 0))])) _
    refine XS.icmpNo Xm23.here hx rfl (hb hby at_64) rfl (teq (own_x (own_rng pa) p13_1 hv25 : ((if rro_13 = aN then (1 : Int32) else 0) = v46_22))).2 ?_
    show Steps p.tables e below (Tm23.setTop (mkF m 67 #[.val (.int pa), .val (.int pb), .val (.int ((pa &&& (2147483647 : Int32)) % (3 : Int32))), .val (.int ((pb &&& (2147483647 : Int32)) % (3 : Int32))), .val (.ref rro_13), .val (.ref rro_14), .val (.int (if rro_13 = aN then (1 : Int32) else 0)), .val (.int (if rro_14 = aN then (1 : Int32) else 0)), .val (.int v46_22), .val (.int v58_30)] [])) _
    refine XS.iload Xm23.here hx rfl (hb hby at_67) rfl ?_
    show Steps p.tables e below (Tm23.setTop (mkF m 69 #[.val (.int pa), .val (.int pb), .val (.int ((pa &&& (2147483647 : Int32)) % (3 : Int32))), .val (.int ((pb &&& (2147483647 : Int32)) % (3 : Int32))), .val (.ref rro_13), .val (.ref rro_14), .val (.int (if rro_13 = aN then (1 : Int32) else 0)), .val (.int (if rro_14 = aN then (1 : Int32) else 0)), .val (.int v46_22), .val (.int v58_30)] [(.int (if rro_14 = aN then (1 : Int32) else 0))])) _
    refine XS.iload Xm23.here hx rfl (hb hby at_69) rfl ?_
    show Steps p.tables e below (Tm23.setTop (mkF m 71 #[.val (.int pa), .val (.int pb), .val (.int ((pa &&& (2147483647 : Int32)) % (3 : Int32))), .val (.int ((pb &&& (2147483647 : Int32)) % (3 : Int32))), .val (.ref rro_13), .val (.ref rro_14), .val (.int (if rro_13 = aN then (1 : Int32) else 0)), .val (.int (if rro_14 = aN then (1 : Int32) else 0)), .val (.int v46_22), .val (.int v58_30)] [(.int v58_30), (.int (if rro_14 = aN then (1 : Int32) else 0))])) _
    refine XS.icmpYes Xm23.here hx rfl (pc0 := 71) (pc' := 76) rfl (hb hby at_71) rfl (teq (own_x (own_rng pb) p14_1 hv33 : ((if rro_14 = aN then (1 : Int32) else 0) = v58_30))).1 (by decide) (by decide) ?_
    show Steps p.tables e below (Tm23.setTop (mkF m 76 #[.val (.int pa), .val (.int pb), .val (.int ((pa &&& (2147483647 : Int32)) % (3 : Int32))), .val (.int ((pb &&& (2147483647 : Int32)) % (3 : Int32))), .val (.ref rro_13), .val (.ref rro_14), .val (.int (if rro_13 = aN then (1 : Int32) else 0)), .val (.int (if rro_14 = aN then (1 : Int32) else 0)), .val (.int v46_22), .val (.int v58_30)] [])) _
    refine XS.iloadN Xm23.here hx rfl (hb hby at_76) rfl ?_
    show Steps p.tables e below (Tm23.setTop (mkF m 77 #[.val (.int pa), .val (.int pb), .val (.int ((pa &&& (2147483647 : Int32)) % (3 : Int32))), .val (.int ((pb &&& (2147483647 : Int32)) % (3 : Int32))), .val (.ref rro_13), .val (.ref rro_14), .val (.int (if rro_13 = aN then (1 : Int32) else 0)), .val (.int (if rro_14 = aN then (1 : Int32) else 0)), .val (.int v46_22), .val (.int v58_30)] [(.int ((pa &&& (2147483647 : Int32)) % (3 : Int32)))])) _
    refine XS.iloadN Xm23.here hx rfl (hb hby at_77) rfl ?_
    exact k
  by_cases hc78_35 : ((pb &&& (2147483647 : Int32)) % (3 : Int32)) < ((pa &&& (2147483647 : Int32)) % (3 : Int32))
  · obtain ⟨fs, hr, hrun, hended, hW, hsame⟩ := Xm23.leave (v := some (.int (1 : Int32))) (fun h => by rw [Bd.returns] at h; cases h)
    refine ⟨_, _, pre34 _ ?_, hrun, hended, _, _, rfl, ?_, ⟨_, rfl⟩, hW, hsame.mono (by decide) (by decide)⟩
    · show Steps p.tables e below (Tm23.setTop (mkF m 78 #[.val (.int pa), .val (.int pb), .val (.int ((pa &&& (2147483647 : Int32)) % (3 : Int32))), .val (.int ((pb &&& (2147483647 : Int32)) % (3 : Int32))), .val (.ref rro_13), .val (.ref rro_14), .val (.int (if rro_13 = aN then (1 : Int32) else 0)), .val (.int (if rro_14 = aN then (1 : Int32) else 0)), .val (.int v46_22), .val (.int v58_30)] [(.int ((pb &&& (2147483647 : Int32)) % (3 : Int32))), (.int ((pa &&& (2147483647 : Int32)) % (3 : Int32)))])) _
      refine XS.icmpYes Xm23.here hx rfl (pc0 := 78) (pc' := 93) rfl (hb hby at_78) rfl (tlt hc78_35).2.2.1 (by decide) (by decide) ?_
      show Steps p.tables e below (Tm23.setTop (mkF m 93 #[.val (.int pa), .val (.int pb), .val (.int ((pa &&& (2147483647 : Int32)) % (3 : Int32))), .val (.int ((pb &&& (2147483647 : Int32)) % (3 : Int32))), .val (.ref rro_13), .val (.ref rro_14), .val (.int (if rro_13 = aN then (1 : Int32) else 0)), .val (.int (if rro_14 = aN then (1 : Int32) else 0)), .val (.int v46_22), .val (.int v58_30)] [])) _
      refine XS.iconst Xm23.here hx rfl (hb hby at_93) ?_
      show Steps p.tables e below (Tm23.setTop (mkF m 94 #[.val (.int pa), .val (.int pb), .val (.int ((pa &&& (2147483647 : Int32)) % (3 : Int32))), .val (.int ((pb &&& (2147483647 : Int32)) % (3 : Int32))), .val (.ref rro_13), .val (.ref rro_14), .val (.int (if rro_13 = aN then (1 : Int32) else 0)), .val (.int (if rro_14 = aN then (1 : Int32) else 0)), .val (.int v46_22), .val (.int v58_30)] [(.int (1 : Int32))])) _
      exact retN Xm23 hx (t := .boolean) Bd.returns (by simp) (hb hby at_94) hr
    · show Q0 Z pa pb aB aW aN h0 n0 _ Tm23.heap _
      rw [em23]
      exact ⟨rfl, Nm23⟩
  · have pre36 : ∀ t, Steps p.tables e below (Tm23.setTop (mkF m 83 #[.val (.int pa), .val (.int pb), .val (.int ((pa &&& (2147483647 : Int32)) % (3 : Int32))), .val (.int ((pb &&& (2147483647 : Int32)) % (3 : Int32))), .val (.ref rro_13), .val (.ref rro_14), .val (.int (if rro_13 = aN then (1 : Int32) else 0)), .val (.int (if rro_14 = aN then (1 : Int32) else 0)), .val (.int v46_22), .val (.int v58_30)] [(.int (if rro_13 = aN then (1 : Int32) else 0))])) t → Steps p.tables e below G0 t := by
      intro t k
      refine pre34 t ?_
      show Steps p.tables e below (Tm23.setTop (mkF m 78 #[.val (.int pa), .val (.int pb), .val (.int ((pa &&& (2147483647 : Int32)) % (3 : Int32))), .val (.int ((pb &&& (2147483647 : Int32)) % (3 : Int32))), .val (.ref rro_13), .val (.ref rro_14), .val (.int (if rro_13 = aN then (1 : Int32) else 0)), .val (.int (if rro_14 = aN then (1 : Int32) else 0)), .val (.int v46_22), .val (.int v58_30)] [(.int ((pb &&& (2147483647 : Int32)) % (3 : Int32))), (.int ((pa &&& (2147483647 : Int32)) % (3 : Int32)))])) _
      refine XS.icmpNo Xm23.here hx rfl (hb hby at_78) rfl (flt hc78_35).2.2.1 ?_
      show Steps p.tables e below (Tm23.setTop (mkF m 81 #[.val (.int pa), .val (.int pb), .val (.int ((pa &&& (2147483647 : Int32)) % (3 : Int32))), .val (.int ((pb &&& (2147483647 : Int32)) % (3 : Int32))), .val (.ref rro_13), .val (.ref rro_14), .val (.int (if rro_13 = aN then (1 : Int32) else 0)), .val (.int (if rro_14 = aN then (1 : Int32) else 0)), .val (.int v46_22), .val (.int v58_30)] [])) _
      refine XS.iload Xm23.here hx rfl (hb hby at_81) rfl ?_
      exact k
    by_cases hc83_37 : (if rro_13 = aN then (1 : Int32) else 0) = (0 : Int32)
    · obtain ⟨fs, hr, hrun, hended, hW, hsame⟩ := Xm23.leave (v := some (.int (1 : Int32))) (fun h => by rw [Bd.returns] at h; cases h)
      refine ⟨_, _, pre36 _ ?_, hrun, hended, _, _, rfl, ?_, ⟨_, rfl⟩, hW, hsame.mono (by decide) (by decide)⟩
      · show Steps p.tables e below (Tm23.setTop (mkF m 83 #[.val (.int pa), .val (.int pb), .val (.int ((pa &&& (2147483647 : Int32)) % (3 : Int32))), .val (.int ((pb &&& (2147483647 : Int32)) % (3 : Int32))), .val (.ref rro_13), .val (.ref rro_14), .val (.int (if rro_13 = aN then (1 : Int32) else 0)), .val (.int (if rro_14 = aN then (1 : Int32) else 0)), .val (.int v46_22), .val (.int v58_30)] [(.int (if rro_13 = aN then (1 : Int32) else 0))])) _
        refine XS.ifYes Xm23.here hx rfl (pc0 := 83) (pc' := 93) rfl (hb hby at_83) rfl ((if0 _ _).trans (teq hc83_37).1) (by decide) (by decide) ?_
        show Steps p.tables e below (Tm23.setTop (mkF m 93 #[.val (.int pa), .val (.int pb), .val (.int ((pa &&& (2147483647 : Int32)) % (3 : Int32))), .val (.int ((pb &&& (2147483647 : Int32)) % (3 : Int32))), .val (.ref rro_13), .val (.ref rro_14), .val (.int (if rro_13 = aN then (1 : Int32) else 0)), .val (.int (if rro_14 = aN then (1 : Int32) else 0)), .val (.int v46_22), .val (.int v58_30)] [])) _
        refine XS.iconst Xm23.here hx rfl (hb hby at_93) ?_
        show Steps p.tables e below (Tm23.setTop (mkF m 94 #[.val (.int pa), .val (.int pb), .val (.int ((pa &&& (2147483647 : Int32)) % (3 : Int32))), .val (.int ((pb &&& (2147483647 : Int32)) % (3 : Int32))), .val (.ref rro_13), .val (.ref rro_14), .val (.int (if rro_13 = aN then (1 : Int32) else 0)), .val (.int (if rro_14 = aN then (1 : Int32) else 0)), .val (.int v46_22), .val (.int v58_30)] [(.int (1 : Int32))])) _
        exact retN Xm23 hx (t := .boolean) Bd.returns (by simp) (hb hby at_94) hr
      · show Q0 Z pa pb aB aW aN h0 n0 _ Tm23.heap _
        rw [em23]
        exact ⟨rfl, Nm23⟩
    · obtain ⟨fs, hr, hrun, hended, hW, hsame⟩ := Xm23.leave (v := some (.int (1 : Int32))) (fun h => by rw [Bd.returns] at h; cases h)
      refine ⟨_, _, pre36 _ ?_, hrun, hended, _, _, rfl, ?_, ⟨_, rfl⟩, hW, hsame.mono (by decide) (by decide)⟩
      · show Steps p.tables e below (Tm23.setTop (mkF m 83 #[.val (.int pa), .val (.int pb), .val (.int ((pa &&& (2147483647 : Int32)) % (3 : Int32))), .val (.int ((pb &&& (2147483647 : Int32)) % (3 : Int32))), .val (.ref rro_13), .val (.ref rro_14), .val (.int (if rro_13 = aN then (1 : Int32) else 0)), .val (.int (if rro_14 = aN then (1 : Int32) else 0)), .val (.int v46_22), .val (.int v58_30)] [(.int (if rro_13 = aN then (1 : Int32) else 0))])) _
        refine XS.ifNo Xm23.here hx rfl (hb hby at_83) rfl ((if0 _ _).trans (feq hc83_37).1) ?_
        show Steps p.tables e below (Tm23.setTop (mkF m 86 #[.val (.int pa), .val (.int pb), .val (.int ((pa &&& (2147483647 : Int32)) % (3 : Int32))), .val (.int ((pb &&& (2147483647 : Int32)) % (3 : Int32))), .val (.ref rro_13), .val (.ref rro_14), .val (.int (if rro_13 = aN then (1 : Int32) else 0)), .val (.int (if rro_14 = aN then (1 : Int32) else 0)), .val (.int v46_22), .val (.int v58_30)] [])) _
        refine XS.iload Xm23.here hx rfl (hb hby at_86) rfl ?_
        show Steps p.tables e below (Tm23.setTop (mkF m 88 #[.val (.int pa), .val (.int pb), .val (.int ((pa &&& (2147483647 : Int32)) % (3 : Int32))), .val (.int ((pb &&& (2147483647 : Int32)) % (3 : Int32))), .val (.ref rro_13), .val (.ref rro_14), .val (.int (if rro_13 = aN then (1 : Int32) else 0)), .val (.int (if rro_14 = aN then (1 : Int32) else 0)), .val (.int v46_22), .val (.int v58_30)] [(.int (if rro_14 = aN then (1 : Int32) else 0))])) _
        refine XS.ifYes Xm23.here hx rfl (pc0 := 88) (pc' := 93) rfl (hb hby at_88) rfl ((if0 _ _).trans (feq (own_no (own_rng pa) (own_rng pb) p13_1 p14_1 hc78_35 hc83_37 : ¬ ((if rro_14 = aN then (1 : Int32) else 0) = (0 : Int32)))).2) (by decide) (by decide) ?_
        show Steps p.tables e below (Tm23.setTop (mkF m 93 #[.val (.int pa), .val (.int pb), .val (.int ((pa &&& (2147483647 : Int32)) % (3 : Int32))), .val (.int ((pb &&& (2147483647 : Int32)) % (3 : Int32))), .val (.ref rro_13), .val (.ref rro_14), .val (.int (if rro_13 = aN then (1 : Int32) else 0)), .val (.int (if rro_14 = aN then (1 : Int32) else 0)), .val (.int v46_22), .val (.int v58_30)] [])) _
        refine XS.iconst Xm23.here hx rfl (hb hby at_93) ?_
        show Steps p.tables e below (Tm23.setTop (mkF m 94 #[.val (.int pa), .val (.int pb), .val (.int ((pa &&& (2147483647 : Int32)) % (3 : Int32))), .val (.int ((pb &&& (2147483647 : Int32)) % (3 : Int32))), .val (.ref rro_13), .val (.ref rro_14), .val (.int (if rro_13 = aN then (1 : Int32) else 0)), .val (.int (if rro_14 = aN then (1 : Int32) else 0)), .val (.int v46_22), .val (.int v58_30)] [(.int (1 : Int32))])) _
        exact retN Xm23 hx (t := .boolean) Bd.returns (by simp) (hb hby at_94) hr
      · show Q0 Z pa pb aB aW aN h0 n0 _ Tm23.heap _
        rw [em23]
        exact ⟨rfl, Nm23⟩
set_option maxRecDepth 65536 in
set_option maxHeartbeats 40000000 in
theorem comes_1 {Post : Tables → Env → Array Value → State → Outcome → State → Prop} (hpost : ∀ tb e args s v u, (limb_1_1.after args s (.returned v) u = true ∧ limb_1_2.after args s (.returned v) u = true ∧ True) → FrameEnd s (.returned v) u (Jvm.fieldLocs frame_1_writes args s ++ Jvm.arrayLocs frame_1_arrays args s ++ Jvm.staticLocs frame_1_statics s) 0 0 → Post tb e args s (.returned v) u) :
    ArmFor flags0 classFile x code maxLocals ret World_1 tables_1 room_1 Calls_1 rest_1 Pre_1 Post := by
  intro l hfl _ _ p e ha hc hk s m args below hf hA hF happ hP
  obtain ⟨hcalls, hrest, hpre⟩ := hP
  obtain ⟨-, -, -, hnamed, -, -, -, hat⟩ := (Spec.applies_iff hf).mp happ
  obtain ⟨hg, hn⟩ := and_e (Cond.before_iff.mp (show (Jvm.Cond.and given_1 narrow_1).before args s = true from hpre))
  obtain ⟨hcount, ga0⟩ := and_e hg
  obtain ⟨gi0, ga1⟩ := and_e ga0
  have gi1 := ga1
  obtain ⟨w0, w1, rfl⟩ : ∃ w0 w1 : Value, args = #[w0, w1] := by
    have hs : args.size = 2 := by simpa [Cond.value, given_1] using hcount
    obtain ⟨L⟩ := args
    match L, hs with
    | [w0, w1], _ => exact ⟨w0, w1, rfl⟩
  have hw := fun d (hd : d ∈ tables_1) => atoms_spec (ws := Jvm.Cond.code x code maxLocals ret :: tables_1) hat d (List.mem_cons_of_mem _ hd)
  have hfit : Fit s := fun {y c} hc i hi => by
    obtain ⟨ha, rfl⟩ := Array.getElem?_eq_some_iff.mp hc
    have q := List.all_eq_true.mp ((Array.all_eq_true_iff_forall_mem.mp hF) _ (Array.getElem_mem ha)) i (List.mem_range.mpr hi)
    simpa [Array.getElem?_eq_getElem hi] using q
  obtain ⟨i0, ei0⟩ := is_v gi0
  obtain rfl : w0 = (.int i0) := Option.some.inj ei0
  obtain ⟨i1, ei1⟩ := is_v gi1
  obtain rfl : w1 = (.int i1) := Option.some.inj ei1
  obtain ⟨nn0, hn0⟩ := and_e hn
  obtain ⟨nn1, hn1⟩ := and_e hn0
  obtain ⟨nn2, hn2⟩ := and_e hn1
  obtain ⟨nn3, hn3⟩ := and_e hn2
  obtain ⟨nn4, hn4⟩ := and_e hn3
  have nn5 := hn4
  obtain ⟨a_BRIEF, ev_BRIEF⟩ := exa_v nn0
  have E_BRIEF := Exa.start ev_BRIEF nn0
  have S_BRIEF := Sta.start ev_BRIEF (Or.inr ⟨(hw _ (List.mem_of_getElem? (i := 9) rfl)), (hw _ (List.mem_of_getElem? (i := 10) rfl))⟩)
  obtain ⟨a_NAMING, ev_NAMING⟩ := exa_v nn1
  have E_NAMING := Exa.start ev_NAMING nn1
  have S_NAMING := Sta.start ev_NAMING (Or.inr ⟨(hw _ (List.mem_of_getElem? (i := 9) rfl)), (hw _ (List.mem_of_getElem? (i := 17) rfl))⟩)
  obtain ⟨a_WHOLE, ev_WHOLE⟩ := exa_v nn4
  have E_WHOLE := Exa.start ev_WHOLE nn4
  have S_WHOLE := Sta.start ev_WHOLE (Or.inr ⟨(hw _ (List.mem_of_getElem? (i := 9) rfl)), (hw _ (List.mem_of_getElem? (i := 20) rfl))⟩)
  have F_BRIEF_ordinal := Fld.start ((fld_at ev_BRIEF).symm.trans (own_eqi nn2))
  have F_NAMING_ordinal := Fld.start ((fld_at ev_NAMING).symm.trans (own_eqi nn3))
  have F_WHOLE_ordinal := Fld.start ((fld_at ev_WHOLE).symm.trans (own_eqi nn5))
  obtain ⟨n, o, h1, h2, h3, _, L, rfl, ⟨rfl, N⟩, hq⟩ := rm0 l s _ hw tables_1 i0 i1 a_BRIEF a_WHOLE a_NAMING s.heap s.heap.size (Nat.le_refl _) S_BRIEF S_WHOLE S_NAMING E_BRIEF E_WHOLE E_NAMING (Fld.ne F_BRIEF_ordinal F_NAMING_ordinal (fun q => absurd (Value.int.inj q) (by decide))) (Fld.ne F_WHOLE_ordinal F_NAMING_ordinal (fun q => absurd (Value.int.inj q) (by decide))) p e ha hc hk s m _ below hf ((Spec.applies_iff_loose hf).mp happ).1 ⟨rfl, State.Warmed39.refl s, rfl⟩ trivial
  refine ⟨n, _, h1, h2, h3, hpost _ _ _ _ _ _ ⟨Cond.after_iff.mpr rfl, Cond.after_iff.mpr (eq_i res_at (Term.int_eval (1)) rfl), trivial⟩ ⟨hq.1, hq.2.1, (hq.2.2.sift fun y hy => Or.inr (N y hy)).mono (by decide) (by decide)⟩⟩
theorem main_1_1 : Claimed_1_1 := comes_1 fun _ _ _ _ _ _ h hF => ⟨h.1, hF⟩
theorem main_1_2 : Claimed_1_2 := comes_1 fun _ _ _ _ _ _ h hF => ⟨h.2.1, hF⟩
end Jvm.Pilot.@@N@@
namespace Jvm.Pilot.@@N@@
open Jvm Jvm.ClassFile Sem Op Lib Jvm.Free Jvm.Stand Jvm.Pilot.@@N@@.Jvm.D
/-! MADE BY PROGRAM (witnessworld.py) out of the Statement's table words and the real class files: 12 classes; the members and pool entries that the words name. The judged class is class 1, her method 3. -/
namespace start1
open Jvm.ClassFile
def u (s : String) : CpInfo := .utf8 (stringToUtf16 s)
/-- a pool by its gaps: so many unusable entries, then the entry; so many at the end -/
def gap : Nat → List CpInfo → List CpInfo
  | 0, r => r
  | n + 1, r => .unusable :: gap n r
def poolList (es : List (Nat × CpInfo)) (last : Nat) : List CpInfo := es.foldr (fun e r => gap e.1 (e.2 :: r)) (gap last [])
def pool (es : List (Nat × CpInfo)) (last : Nat) : Array CpInfo := ⟨poolList es last⟩
def fileOf (pool : Array CpInfo) (this : Nat) (attrs : Array Attribute := #[]) (ms : Array MethodInfo := #[]) (fl : Nat := 33) (sup : Nat := 0) (ifs : Array Nat := #[]) (fds : Array FieldInfo := #[]) : ClassFile where
  minorVersion := 0
  majorVersion := 65
  constantPool := pool
  accessFlags := fl
  thisClass := this
  superClass := sup
  interfaces := ifs
  fields := fds
  methods := ms
  attributes := attrs
def plain (name : String) (sup : Option ClassId) : Class where
  name := name
  kind := .ordinary
  loader := none
  accessFlags := 33
  super := sup
  interfaces := #[]
  cf := none
  fields := #[]
  methods := #[]
  instanceTypes := #[]
  staticTypes := #[]
  resolved := #[]
  callSites := []
  init := .initialized
  statics := none
  mirror := none

def pool0 : Array CpInfo := pool [(5, u "<init>"), (0, u "()V"), (1, .class_ 10), (1, u "java/lang/Object")] 113

def k0m0 : Method := { name := "<init>", desc := "()V", sig := { parameters := [], returnType := none }, accessFlags := 1, code := none }
/-- java/lang/Object -/
def k0 : Class := { plain "java/lang/Object" none with
  accessFlags := 33
  interfaces := #[]
  cf := some (fileOf pool0 8 #[] #[{ accessFlags := 1, nameIndex := 5, descriptorIndex := 6, attributes := #[] }] 33 0 #[] #[])
  fields := #[]
  methods := #[k0m0]
  instanceTypes := #[]
  staticTypes := #[]
  resolved := Array.replicate 124 none
  statics := none }

def pool1 : Array CpInfo := pool [(2, .class_ 4), (1, u "java/lang/Object"), (0, u "<init>"), (0, u "()V"), (0, .integer 2147483647), (0, .fieldref 9 10), (0, .class_ 11), (0, .nameAndType 12 13), (0, u "com/example/narrow_queue/narrowqueue/worker/FrontForm"), (0, u "BRIEF"), (0, u "Lcom/example/narrow_queue/narrowqueue/worker/FrontForm;"), (0, .fieldref 9 15), (0, .nameAndType 16 13), (0, u "WHOLE"), (0, .fieldref 9 18), (0, .nameAndType 19 13), (0, u "NAMING"), (0, .methodref 21 22), (0, .class_ 23), (0, .nameAndType 24 25), (0, u "com/example/narrow_queue/narrowqueue/worker/FrontFormNamesPinLaw"), (0, u "rank"), (0, u "(I)I"), (0, .methodref 21 27), (0, .nameAndType 28 29), (0, u "pick"), (0, u "(I)Lcom/example/narrow_queue/narrowqueue/worker/FrontForm;"), (0, .methodref 9 31), (0, .nameAndType 32 33), (0, u "names"), (0, u "()Z"), (3, u "law"), (0, u "(II)Z")] 2

def k1m0 : Method := { name := "<init>", desc := "()V", sig := { parameters := [], returnType := none }, accessFlags := 1, code := none }
def k1c1 : Code := { maxStack := 2, maxLocals := 1, code := method_2_code, exceptionTable := #[], attributes := #[] }
def k1m1 : Method := { name := "rank", desc := "(I)I", sig := { parameters := [.int], returnType := some .int }, accessFlags := 10, code := some k1c1 }
def k1c2 : Code := { maxStack := 2, maxLocals := 1, code := method_3_code, exceptionTable := #[], attributes := #[] }
def k1m2 : Method := { name := "pick", desc := "(I)Lcom/example/narrow_queue/narrowqueue/worker/FrontForm;", sig := { parameters := [.int], returnType := some (.object "com/example/narrow_queue/narrowqueue/worker/FrontForm") }, accessFlags := 10, code := some k1c2 }
def k1c3 : Code := { maxStack := 2, maxLocals := 10, code := code, exceptionTable := #[], attributes := #[] }
def k1m3 : Method := { name := "law", desc := "(II)Z", sig := { parameters := [.int, .int], returnType := some .boolean }, accessFlags := 9, code := some k1c3 }
/-- com/example/narrow_queue/narrowqueue/worker/FrontFormNamesPinLaw -/
def k1 : Class := { plain "com/example/narrow_queue/narrowqueue/worker/FrontFormNamesPinLaw" (some 0) with
  accessFlags := 49
  interfaces := #[]
  cf := some (fileOf pool1 21 #[] #[{ accessFlags := 1, nameIndex := 5, descriptorIndex := 6, attributes := #[] }, { accessFlags := 10, nameIndex := 24, descriptorIndex := 25, attributes := #[] }, { accessFlags := 10, nameIndex := 28, descriptorIndex := 29, attributes := #[] }, { accessFlags := 9, nameIndex := 37, descriptorIndex := 38, attributes := #[] }] 49 2 #[] #[])
  fields := #[]
  methods := #[k1m0, k1m1, k1m2, k1m3]
  instanceTypes := #[]
  staticTypes := #[]
  resolved := Array.replicate 41 none
  statics := none }

def pool2 : Array CpInfo := pool [(1, .class_ 2), (0, u "java/lang/constant/Constable"), (0, .class_ 4), (0, u "java/lang/Object")] 6

/-- java/lang/constant/Constable -/
def k2 : Class := { plain "java/lang/constant/Constable" (some 0) with
  accessFlags := 1537
  interfaces := #[]
  cf := some (fileOf pool2 1 #[] #[] 1537 3 #[] #[])
  fields := #[]
  methods := #[]
  instanceTypes := #[]
  staticTypes := #[]
  resolved := Array.replicate 11 none
  statics := none }

def pool3 : Array CpInfo := pool [(1, .class_ 2), (0, u "java/lang/Comparable"), (0, .class_ 4), (0, u "java/lang/Object")] 7

/-- java/lang/Comparable -/
def k3 : Class := { plain "java/lang/Comparable" (some 0) with
  accessFlags := 1537
  interfaces := #[]
  cf := some (fileOf pool3 1 #[] #[] 1537 3 #[] #[])
  fields := #[]
  methods := #[]
  instanceTypes := #[]
  staticTypes := #[]
  resolved := Array.replicate 12 none
  statics := none }

def pool4 : Array CpInfo := pool [(1, .class_ 2), (0, u "java/io/Serializable"), (0, .class_ 4), (0, u "java/lang/Object")] 2

/-- java/io/Serializable -/
def k4 : Class := { plain "java/io/Serializable" (some 0) with
  accessFlags := 1537
  interfaces := #[]
  cf := some (fileOf pool4 1 #[] #[] 1537 3 #[] #[])
  fields := #[]
  methods := #[]
  instanceTypes := #[]
  staticTypes := #[]
  resolved := Array.replicate 7 none
  statics := none }

def pool5 : Array CpInfo := pool [(2, .class_ 4), (1, u "java/lang/Enum"), (0, u "name"), (0, u "Ljava/lang/String;"), (2, u "ordinal"), (0, u "I"), (1, .class_ 14), (1, u "java/lang/Object"), (4, u "hash"), (86, .class_ 108), (1, u "java/lang/Enum$EnumDesc"), (2, .class_ 112), (0, u "java/lang/constant/Constable"), (0, .class_ 114), (0, u "java/lang/Comparable"), (0, .class_ 116), (0, u "java/io/Serializable")] 87

/-- java/lang/Enum -/
def k5 : Class := { plain "java/lang/Enum" (some 0) with
  accessFlags := 1057
  interfaces := #[2, 3, 4]
  cf := some (fileOf pool5 2 #[.nestMembers #[106]] #[] 1057 12 #[111, 113, 115] #[{ accessFlags := 18, nameIndex := 5, descriptorIndex := 6, attributes := #[] }, { accessFlags := 18, nameIndex := 9, descriptorIndex := 10, attributes := #[] }, { accessFlags := 2, nameIndex := 19, descriptorIndex := 10, attributes := #[] }])
  fields := #[{ name := "name", type := (.object "java/lang/String"), accessFlags := 18, slot := 0, constantValue := 0 }, { name := "ordinal", type := .int, accessFlags := 18, slot := 1, constantValue := 0 }, { name := "hash", type := .int, accessFlags := 2, slot := 2, constantValue := 0 }]
  methods := #[]
  instanceTypes := #[(.object "java/lang/String"), .int, .int]
  staticTypes := #[]
  resolved := Array.replicate 204 none
  statics := none }

def pool6 : Array CpInfo := pool [(1, .class_ 2), (0, u "com/example/narrow_queue/narrowqueue/worker/FrontForm"), (2, u "BRIEF"), (0, u "Lcom/example/narrow_queue/narrowqueue/worker/FrontForm;"), (2, u "WHOLE"), (0, .fieldref 1 11), (0, .nameAndType 12 6), (0, u "NAMING"), (2, u "$VALUES"), (0, u "[Lcom/example/narrow_queue/narrowqueue/worker/FrontForm;"), (6, .class_ 25), (1, u "java/lang/Enum"), (21, u "names"), (0, u "()Z")] 5

def k6c0 : Code := { maxStack := 2, maxLocals := 1, code := prog_34_method_4_code, exceptionTable := #[], attributes := #[] }
def k6m0 : Method := { name := "names", desc := "()Z", sig := { parameters := [], returnType := some .boolean }, accessFlags := 0, code := some k6c0 }
/-- com/example/narrow_queue/narrowqueue/worker/FrontForm -/
def k6 : Class := { plain "com/example/narrow_queue/narrowqueue/worker/FrontForm" (some 5) with
  accessFlags := 16432
  interfaces := #[]
  cf := some (fileOf pool6 1 #[] #[{ accessFlags := 0, nameIndex := 47, descriptorIndex := 48, attributes := #[] }] 16432 23 #[] #[{ accessFlags := 16409, nameIndex := 5, descriptorIndex := 6, attributes := #[] }, { accessFlags := 16409, nameIndex := 9, descriptorIndex := 6, attributes := #[] }, { accessFlags := 16409, nameIndex := 12, descriptorIndex := 6, attributes := #[] }, { accessFlags := 4122, nameIndex := 15, descriptorIndex := 16, attributes := #[] }])
  fields := #[{ name := "BRIEF", type := (.object "com/example/narrow_queue/narrowqueue/worker/FrontForm"), accessFlags := 16409, slot := 0, constantValue := 0 }, { name := "WHOLE", type := (.object "com/example/narrow_queue/narrowqueue/worker/FrontForm"), accessFlags := 16409, slot := 1, constantValue := 0 }, { name := "NAMING", type := (.object "com/example/narrow_queue/narrowqueue/worker/FrontForm"), accessFlags := 16409, slot := 2, constantValue := 0 }, { name := "$VALUES", type := (.array (.object "com/example/narrow_queue/narrowqueue/worker/FrontForm")), accessFlags := 4122, slot := 3, constantValue := 0 }]
  methods := #[k6m0]
  instanceTypes := #[(.object "java/lang/String"), .int, .int]
  staticTypes := #[(.object "com/example/narrow_queue/narrowqueue/worker/FrontForm"), (.object "com/example/narrow_queue/narrowqueue/worker/FrontForm"), (.object "com/example/narrow_queue/narrowqueue/worker/FrontForm"), (.array (.object "com/example/narrow_queue/narrowqueue/worker/FrontForm"))]
  resolved := Array.replicate 54 none
  statics := some 0 }

def pool7 : Array CpInfo := pool [(1, u "java/lang/Cloneable"), (0, .class_ 1), (0, u "java/lang/Object"), (0, .class_ 3)] 3

/-- java/lang/Cloneable -/
def k7 : Class := { plain "java/lang/Cloneable" (some 0) with
  accessFlags := 1537
  interfaces := #[]
  cf := some (fileOf pool7 2 #[] #[] 1537 4 #[] #[])
  fields := #[]
  methods := #[]
  instanceTypes := #[]
  staticTypes := #[]
  resolved := Array.replicate 8 none
  statics := none }

/-- the primitive byte -/
def k8 : Class := { plain "byte" none with kind := .primitive 'B', accessFlags := 0x411 }
/-- [B -/
def k9 : Class := { plain "[B" (some 0) with kind := .array 8 .byte, interfaces := #[7, 4], accessFlags := 1041 }

/-- the primitive int -/
def k10 : Class := { plain "int" none with kind := .primitive 'I', accessFlags := 0x411 }
/-- [I -/
def k11 : Class := { plain "[I" (some 0) with kind := .array 10 .int, interfaces := #[7, 4], accessFlags := 1041 }

def heap : Heap := #[{ cls := 6, slots := #[.ref 1, .ref 2, .ref 3, .null], vm := .statics 6 },
  { cls := 6, slots := #[.null, .int 0, .int 0], vm := .none },
  { cls := 6, slots := #[.null, .int 1, .int 0], vm := .none },
  { cls := 6, slots := #[.null, .int 2, .int 0], vm := .none }]
def classes : Array Class := #[k0, k1, k2, k3, k4, k5, k6, k7, k8, k9, k10, k11]
def interned : List (Array UInt16 × Addr) := []
def slotsUsed : Nat := 13
def theMethod : MethodId := ⟨1, 3⟩
def args0 : Array Value := #[.int 5, .int 3]
def aboutOver (below : List Frame) : State where
  vm := { classes := classes, interned := interned.toArray }
  heap := heap
  slotsUsed := slotsUsed
  threads := #[{ frames := .invoking theMethod args0 :: below }]
def below0 : List Frame := [.native { method := ⟨0, 0⟩, args := #[] }]
def about1 : State := aboutOver below0
def p0 : Program := .bare "" "" ""
def e0 : Env := launch0.env 0 0 0
theorem w_frames : about1.frames = Frame.invoking theMethod args0 :: below0 := rfl
set_option maxRecDepth 65536 in
theorem w_args : argsFit about1.vm theMethod args0 = true := by decide +kernel
set_option maxRecDepth 65536 in
theorem w_heap : heapFits about1 = true := by decide +kernel
set_option maxRecDepth 65536 in
theorem w_runnable : about1.curStatus? = some .runnable := by decide +kernel
set_option maxRecDepth 65536 in
theorem w_alone : about1.alone = true := by decide +kernel
set_option maxRecDepth 65536 in
theorem w_named : about1.methodNamed? x = some theMethod := by decide +kernel
set_option maxRecDepth 65536 in
theorem w_hears : about1.hears theMethod below0 = true := by decide +kernel
set_option maxRecDepth 65536 in
theorem w_ripe : about1.ripe theMethod args0 below0 = true := by decide +kernel
theorem w_running : about1.status = .running := rfl
set_option maxRecDepth 65536 in
theorem w_room : about1.hasRoom e0.platform room_1 = true :=
  launch0.hasRoom_least _ room_1 (by decide +kernel) (by decide +kernel) (by decide +kernel) (by decide +kernel) (by decide +kernel) (by decide +kernel)
theorem allAtoms_all (ts : List Jvm.Cond) (a : Array Jvm.Value) (st : Jvm.State) : (allAtoms ts).before a st = ts.all (fun c => c.before a st) := by
  induction ts with
  | nil => rfl
  | cons c t ih =>
    show (Jvm.Cond.and c (allAtoms t)).before a st = _
    rw [Jvm.Cond.before_and, ih, List.all_cons]
def words1 : List Jvm.Cond := Jvm.Cond.code x code maxLocals ret :: tables_1
/-- a 'code' word, met by the world's own term for the bytes: nothing is compared byte by byte -/
theorem code_word {y : MethodName} {bytes : ByteArray} {mx : Nat} {rt : Option FieldType} {a : Array Value} {s : State} {m : MethodId} {meth : Method} {c : Code} (h1 : s.methodNamed? y = some m) (h2 : s.vm.method? m = some meth) (h3 : meth.code = some c) (h4 : c.code = bytes)
    (h5 : (c.maxLocals == mx && c.exceptionTable.isEmpty && decide (c.maxStack ≤ mostOperands) && decide (meth.sig.returnType = rt) && !meth.locks && decide (parseMethodDescriptor y.desc = some meth.sig)) = true) : (Jvm.Cond.code y bytes mx rt).before a s = true := by
  simp only [Bool.and_eq_true, beq_iff_eq, Bool.not_eq_true', decide_eq_true_eq] at h5
  obtain ⟨⟨⟨⟨⟨g1, g2⟩, g3⟩, g4⟩, g5⟩, g6⟩ := h5
  simp [Cond.before, Cond.holds, Cond.value, h1, h2, h3, h4, g1, g2, g3, g4, g5, g6]
def isCode : Jvm.Cond → Bool
  | .code _ _ _ _ => true
  | _ => false
theorem all_split {L : List Jvm.Cond} {P : Jvm.Cond → Bool} (h1 : L.all (fun c => isCode c || P c) = true) (h2 : ∀ c ∈ L.filter isCode, P c = true) : L.all P = true := by
  refine List.all_eq_true.mpr fun c hc => ?_
  have h := List.all_eq_true.mp h1 c hc
  rcases Bool.eq_false_or_eq_true (isCode c) with hi | hi
  · exact h2 c (List.mem_filter.mpr ⟨hc, hi⟩)
  · simpa [hi] using h
set_option maxRecDepth 65536 in
theorem w_c0 : (Jvm.Cond.code x code maxLocals ret).before args0 about1 = true := code_word (m := ⟨1, 3⟩) (meth := k1m3) (c := k1c3) (by decide +kernel) rfl rfl rfl (by decide +kernel)
set_option maxRecDepth 65536 in
theorem w_c1 : (Jvm.Cond.code ({ cls := "com/example/narrow_queue/narrowqueue/worker/FrontFormNamesPinLaw", name := "rank", desc := "(I)I" } : Jvm.MethodName) method_2_code (1 : Nat) (Option.some Jvm.ClassFile.FieldType.int)).before args0 about1 = true := code_word (m := ⟨1, 1⟩) (meth := k1m1) (c := k1c1) (by decide +kernel) rfl rfl rfl (by decide +kernel)
set_option maxRecDepth 65536 in
theorem w_c2 : (Jvm.Cond.code ({ cls := "com/example/narrow_queue/narrowqueue/worker/FrontFormNamesPinLaw", name := "pick", desc := "(I)Lcom/example/narrow_queue/narrowqueue/worker/FrontForm;" } : Jvm.MethodName) method_3_code (1 : Nat) (Option.some (Jvm.ClassFile.FieldType.object "com/example/narrow_queue/narrowqueue/worker/FrontForm"))).before args0 about1 = true := code_word (m := ⟨1, 2⟩) (meth := k1m2) (c := k1c2) (by decide +kernel) rfl rfl rfl (by decide +kernel)
set_option maxRecDepth 65536 in
theorem w_c3 : (Jvm.Cond.code ({ cls := "com/example/narrow_queue/narrowqueue/worker/FrontForm", name := "names", desc := "()Z" } : Jvm.MethodName) prog_34_method_4_code (1 : Nat) (Option.some Jvm.ClassFile.FieldType.boolean)).before args0 about1 = true := code_word (m := ⟨6, 0⟩) (meth := k6m0) (c := k6c0) (by decide +kernel) rfl rfl rfl (by decide +kernel)
def codes1 : List Jvm.Cond := [Jvm.Cond.code x code maxLocals ret, Jvm.Cond.code ({ cls := "com/example/narrow_queue/narrowqueue/worker/FrontFormNamesPinLaw", name := "rank", desc := "(I)I" } : Jvm.MethodName) method_2_code (1 : Nat) (Option.some Jvm.ClassFile.FieldType.int), Jvm.Cond.code ({ cls := "com/example/narrow_queue/narrowqueue/worker/FrontFormNamesPinLaw", name := "pick", desc := "(I)Lcom/example/narrow_queue/narrowqueue/worker/FrontForm;" } : Jvm.MethodName) method_3_code (1 : Nat) (Option.some (Jvm.ClassFile.FieldType.object "com/example/narrow_queue/narrowqueue/worker/FrontForm")), Jvm.Cond.code ({ cls := "com/example/narrow_queue/narrowqueue/worker/FrontForm", name := "names", desc := "()Z" } : Jvm.MethodName) prog_34_method_4_code (1 : Nat) (Option.some Jvm.ClassFile.FieldType.boolean)]
set_option maxRecDepth 65536 in
theorem codes_eq : words1.filter isCode = codes1 := rfl
theorem w_codes : ∀ c ∈ words1.filter isCode, c.before args0 about1 = true := by
  rw [codes_eq]
  intro c hc
  simp only [codes1, List.mem_cons, List.not_mem_nil, or_false] at hc
  rcases hc with rfl | rfl | rfl | rfl
  · exact w_c0
  · exact w_c1
  · exact w_c2
  · exact w_c3
set_option maxRecDepth 65536 in
theorem w_t1 : words1.all (fun c => isCode c || c.before args0 about1) = true := by decide +kernel
theorem w_tables : (allAtoms (Jvm.Cond.code x code maxLocals ret :: tables_1)).before args0 about1 = true := by
  rw [allAtoms_all]
  show words1.all (fun c => c.before args0 about1) = true
  refine all_split ?_ w_codes
  rw [w_t1]
set_option maxRecDepth 65536 in
theorem w_case : (Jvm.Cond.and given_1 narrow_1).before args0 about1 = true := by decide +kernel
theorem w_applies : (headSpec (Jvm.Cond.code x code maxLocals ret :: tables_1) room_1).applies x e0.platform about1 = true :=
  (Spec.applies_iff w_frames).mpr ⟨w_running, w_runnable, w_alone, w_named, w_hears, w_ripe, w_room, w_tables⟩
theorem atStart : AtStart classFile x code maxLocals ret World_1 tables_1 room_1 Calls_1 rest_1 Pre_1 launch0 p0 e0 about1 theMethod args0 below0 :=
  ⟨lists_1, trivial, launch0.admits_env _ _ _, launch0.least_env, fairChoices_fair.cas, fairChoices_fair.clock, w_frames, w_args, w_heap, w_applies, trivial, trivial, w_case⟩
end start1
theorem witness_1 : WitnessClaimed_1 := ⟨start1.p0, start1.e0, start1.about1, start1.theMethod, start1.args0, start1.below0, start1.atStart⟩
end Jvm.Pilot.@@N@@
