import JvmDerived
import JvmDerived.Pilot.@@N@@Statement
import JvmDerived.Pilot.@@N@@Code
set_option linter.unusedVariables false
set_option linter.unusedSimpArgs false
namespace Jvm.RoadKit
open Sem ClassFile Op Lib Jvm.Stand Jvm.Free Jvm.LawKit
section New
variable {p : Program} {l : Launch} {e : Env} {R : Room} {s : State} {m : MethodId} {args : Array Value} {below : List Frame} {meth : Method} {c : Code} {T : State} {locs : List Loc} {cells slots : Nat}
theorem retI (X : Stand p l e R s m args below meth c T locs cells slots) (hx : p.tables.exec = Jvm.exec) {pc : Nat} {Ls : Array Slot} {z : Int32} {rest : List Value} (hret : meth.sig.returnType = some .int) (hd : decode c.code pc = .ok (.ireturn, 1)) {fs : List Frame}
    (hl : ∀ (f : JFrame) (acts : List Action), f.method = m → f.locked = none → f.entered = [] → (doReturn e (T.setTop f) acts (some (.int z))).1 = T.setFrames fs) : Steps p.tables e below (T.setTop (mkF m pc Ls (.int z :: rest))) (T.setFrames fs) := by
  have hm' : T.vm.method? m = some meth := X.method'
  have hn : narrow .int (.int z) = .int z := rfl
  show Steps p.tables e below (T.setTop { method := m, pc := pc, locals := Ls, stack := _ :: rest, locked := none }) _
  jvm_step X.here [X.here.top, hx, hd, hm', hret, hn]
  first | (intro acts; rw [hl _ acts rfl rfl rfl]) | rw [hl _ _ rfl rfl rfl]
  exact Steps.refl _
end New
end Jvm.RoadKit
namespace Jvm.Pilot.@@N@@
open Jvm Jvm.ClassFile Sem Op Lib Jvm.Free Jvm.Stand Jvm.LawKit Jvm.RoadKit Bundle Jvm.Pilot.@@N@@.Jvm.D
theorem own_eqi {a : Term} {k : Int32} {args : Array Value} {first s : State} {o : Option Outcome} {idx : List Nat} (h : (Jvm.Cond.eq a (.int k)).value args first o s idx = some true) : a.eval args first o idx s = some (.int k) := by
  obtain ⟨x, y, hx, hy, -, kin⟩ := cmp_v (Or.inl h)
  have e : y = .int k := Option.some.inj (hy.symm.trans (Term.int_eval k))
  subst e
  obtain ⟨z, rfl⟩ := kin
  have := gotT (Cond.eq_ints hx hy) h
  rw [hx, this]
def own_spec (k : Int32) (r aN : Addr) (cd : Int32) : Prop := (k = 1 ∧ r = aN ∧ cd = 204) ∨ (¬ k = 1 ∧ ¬ r = aN ∧ ¬ cd = 204)
theorem own_1 {k v cd : Int32} {r aN : Addr} (hs : own_spec k r aN cd) (hv : v = if k = 1 then 0 else 1) : (if r = aN then (0 : Int32) else 1) = v := by
  subst hv
  rcases hs with ⟨a, b, c⟩ | ⟨a, b, c⟩
  · rw [if_pos a, if_pos b]
  · rw [if_neg a, if_neg b]
theorem own_2 {k v cd : Int32} {r aN : Addr} (hs : own_spec k r aN cd) (hv : v = if cd = 204 then 0 else 1) : (if r = aN then (0 : Int32) else 1) = v := by
  subst hv
  rcases hs with ⟨a, b, c⟩ | ⟨a, b, c⟩
  · rw [if_pos b, if_pos c]
  · rw [if_neg b, if_neg c]
theorem d1_0 : decode method_2_code 0 = .ok (.iload_n 0, 1) := by decide +kernel
theorem d1_1 : decode method_2_code 1 = .ok (.ifCond .ne 7, 3) := by decide +kernel
theorem d1_4 : decode method_2_code 4 = .ok (.getstatic 7, 3) := by decide +kernel
theorem d1_7 : decode method_2_code 7 = .ok (.areturn, 1) := by decide +kernel
theorem d1_8 : decode method_2_code 8 = .ok (.iload_n 0, 1) := by decide +kernel
theorem d1_9 : decode method_2_code 9 = .ok (.iconst 1, 1) := by decide +kernel
theorem d1_10 : decode method_2_code 10 = .ok (.if_icmp .ne 7, 3) := by decide +kernel
theorem d1_13 : decode method_2_code 13 = .ok (.getstatic 13, 3) := by decide +kernel
theorem d1_16 : decode method_2_code 16 = .ok (.areturn, 1) := by decide +kernel
theorem d1_17 : decode method_2_code 17 = .ok (.iload_n 0, 1) := by decide +kernel
theorem d1_18 : decode method_2_code 18 = .ok (.iconst 2, 1) := by decide +kernel
theorem d1_19 : decode method_2_code 19 = .ok (.if_icmp .ne 7, 3) := by decide +kernel
theorem d1_22 : decode method_2_code 22 = .ok (.getstatic 16, 3) := by decide +kernel
theorem d1_25 : decode method_2_code 25 = .ok (.areturn, 1) := by decide +kernel
theorem d1_26 : decode method_2_code 26 = .ok (.iload_n 0, 1) := by decide +kernel
theorem d1_27 : decode method_2_code 27 = .ok (.iconst 3, 1) := by decide +kernel
theorem d1_28 : decode method_2_code 28 = .ok (.if_icmp .ne 7, 3) := by decide +kernel
theorem d1_31 : decode method_2_code 31 = .ok (.getstatic 19, 3) := by decide +kernel
theorem d1_34 : decode method_2_code 34 = .ok (.areturn, 1) := by decide +kernel
theorem d1_35 : decode method_2_code 35 = .ok (.iload_n 0, 1) := by decide +kernel
theorem d1_36 : decode method_2_code 36 = .ok (.iconst 4, 1) := by decide +kernel
theorem d1_37 : decode method_2_code 37 = .ok (.if_icmp .ne 7, 3) := by decide +kernel
theorem d1_40 : decode method_2_code 40 = .ok (.getstatic 22, 3) := by decide +kernel
theorem d1_43 : decode method_2_code 43 = .ok (.areturn, 1) := by decide +kernel
theorem d1_44 : decode method_2_code 44 = .ok (.iload_n 0, 1) := by decide +kernel
theorem d1_45 : decode method_2_code 45 = .ok (.iconst 5, 1) := by decide +kernel
theorem d1_46 : decode method_2_code 46 = .ok (.if_icmp .ne 7, 3) := by decide +kernel
theorem d1_49 : decode method_2_code 49 = .ok (.getstatic 25, 3) := by decide +kernel
theorem d1_52 : decode method_2_code 52 = .ok (.areturn, 1) := by decide +kernel
theorem d1_53 : decode method_2_code 53 = .ok (.iload_n 0, 1) := by decide +kernel
theorem d1_54 : decode method_2_code 54 = .ok (.bipush 6, 2) := by decide +kernel
theorem d1_56 : decode method_2_code 56 = .ok (.if_icmp .ne 7, 3) := by decide +kernel
theorem d1_59 : decode method_2_code 59 = .ok (.getstatic 28, 3) := by decide +kernel
theorem d1_62 : decode method_2_code 62 = .ok (.areturn, 1) := by decide +kernel
theorem d1_63 : decode method_2_code 63 = .ok (.iload_n 0, 1) := by decide +kernel
theorem d1_64 : decode method_2_code 64 = .ok (.bipush 7, 2) := by decide +kernel
theorem d1_66 : decode method_2_code 66 = .ok (.if_icmp .ne 7, 3) := by decide +kernel
theorem d1_69 : decode method_2_code 69 = .ok (.getstatic 31, 3) := by decide +kernel
theorem d1_72 : decode method_2_code 72 = .ok (.areturn, 1) := by decide +kernel
theorem d1_73 : decode method_2_code 73 = .ok (.iload_n 0, 1) := by decide +kernel
theorem d1_74 : decode method_2_code 74 = .ok (.bipush 8, 2) := by decide +kernel
theorem d1_76 : decode method_2_code 76 = .ok (.if_icmp .ne 7, 3) := by decide +kernel
theorem d1_79 : decode method_2_code 79 = .ok (.getstatic 34, 3) := by decide +kernel
theorem d1_82 : decode method_2_code 82 = .ok (.areturn, 1) := by decide +kernel
theorem d1_83 : decode method_2_code 83 = .ok (.iload_n 0, 1) := by decide +kernel
theorem d1_84 : decode method_2_code 84 = .ok (.bipush 9, 2) := by decide +kernel
theorem d1_86 : decode method_2_code 86 = .ok (.if_icmp .ne 7, 3) := by decide +kernel
theorem d1_89 : decode method_2_code 89 = .ok (.getstatic 37, 3) := by decide +kernel
theorem d1_92 : decode method_2_code 92 = .ok (.areturn, 1) := by decide +kernel
theorem d1_93 : decode method_2_code 93 = .ok (.iload_n 0, 1) := by decide +kernel
theorem d1_94 : decode method_2_code 94 = .ok (.bipush 10, 2) := by decide +kernel
theorem d1_96 : decode method_2_code 96 = .ok (.if_icmp .ne 7, 3) := by decide +kernel
theorem d1_99 : decode method_2_code 99 = .ok (.getstatic 40, 3) := by decide +kernel
theorem d1_102 : decode method_2_code 102 = .ok (.areturn, 1) := by decide +kernel
theorem d1_103 : decode method_2_code 103 = .ok (.getstatic 43, 3) := by decide +kernel
theorem d1_106 : decode method_2_code 106 = .ok (.areturn, 1) := by decide +kernel
theorem own_pn56 : plainName "com/example/ilmi/ilmi/http/StatusHasContentPinLaw" = true := by first | (simp [plainName, overriddenIn]; done) | decide +kernel
theorem ef_1 (m : MethodId) (x0 : Int32) : entryFrame m #[(.int x0)] 1 = mkF m 0 #[.val (.int x0)] [] := by first | (simp [entryFrame, mkF, argsToLocals, Value.category]; done) | rfl
def Q1 (Z : State) (pk : Int32) (a_OK : Addr) (a_NO_CONTENT : Addr) (a_BAD_REQUEST : Addr) (a_UNAUTHORIZED : Addr) (a_NOT_FOUND : Addr) (a_METHOD_NOT_ALLOWED : Addr) (a_REQUEST_TIMEOUT : Addr) (a_URI_TOO_LONG : Addr) (a_TOO_MANY_REQUESTS : Addr) (a_REQUEST_HEADER_FIELDS_TOO_LARGE : Addr) (a_INTERNAL_SERVER_ERROR : Addr) (a_HTTP_VERSION_NOT_SUPPORTED : Addr) (h0 : Heap) (n0 : Nat) (v : Option Value) (h : Heap) (L : List Loc) : Prop := ∃ (ro : Addr) (co : Int32), v = some (.ref ro) ∧ Fr n0 L ∧ h = h0 ∧ Exa Z h0 ro "com/example/ilmi/ilmi/http/Status" ∧ Fld Z h0 ro "com/example/ilmi/ilmi/http/Status" "code" "I" (.int co) ∧ own_spec pk ro a_NO_CONTENT co
set_option maxRecDepth 65536 in
set_option maxHeartbeats 40000000 in
theorem rm1 (l : Launch) (Z : State) (a0 : Array Value) (hw : ∀ d ∈ tables_1, d.before a0 Z = true) (ws : List Jvm.Cond) (pk : Int32) (a_OK : Addr) (a_NO_CONTENT : Addr) (a_BAD_REQUEST : Addr) (a_UNAUTHORIZED : Addr) (a_NOT_FOUND : Addr) (a_METHOD_NOT_ALLOWED : Addr) (a_REQUEST_TIMEOUT : Addr) (a_URI_TOO_LONG : Addr) (a_TOO_MANY_REQUESTS : Addr) (a_REQUEST_HEADER_FIELDS_TOO_LARGE : Addr) (a_INTERNAL_SERVER_ERROR : Addr) (a_HTTP_VERSION_NOT_SUPPORTED : Addr) (h0 : Heap) (n0 : Nat) (Z0 : n0 ≤ h0.size) (S_OK : Sta Z h0 "com/example/ilmi/ilmi/http/Status" "OK" "Lcom/example/ilmi/ilmi/http/Status;" (.ref a_OK)) (S_NO_CONTENT : Sta Z h0 "com/example/ilmi/ilmi/http/Status" "NO_CONTENT" "Lcom/example/ilmi/ilmi/http/Status;" (.ref a_NO_CONTENT)) (S_BAD_REQUEST : Sta Z h0 "com/example/ilmi/ilmi/http/Status" "BAD_REQUEST" "Lcom/example/ilmi/ilmi/http/Status;" (.ref a_BAD_REQUEST)) (S_UNAUTHORIZED : Sta Z h0 "com/example/ilmi/ilmi/http/Status" "UNAUTHORIZED" "Lcom/example/ilmi/ilmi/http/Status;" (.ref a_UNAUTHORIZED)) (S_NOT_FOUND : Sta Z h0 "com/example/ilmi/ilmi/http/Status" "NOT_FOUND" "Lcom/example/ilmi/ilmi/http/Status;" (.ref a_NOT_FOUND)) (S_METHOD_NOT_ALLOWED : Sta Z h0 "com/example/ilmi/ilmi/http/Status" "METHOD_NOT_ALLOWED" "Lcom/example/ilmi/ilmi/http/Status;" (.ref a_METHOD_NOT_ALLOWED)) (S_REQUEST_TIMEOUT : Sta Z h0 "com/example/ilmi/ilmi/http/Status" "REQUEST_TIMEOUT" "Lcom/example/ilmi/ilmi/http/Status;" (.ref a_REQUEST_TIMEOUT)) (S_URI_TOO_LONG : Sta Z h0 "com/example/ilmi/ilmi/http/Status" "URI_TOO_LONG" "Lcom/example/ilmi/ilmi/http/Status;" (.ref a_URI_TOO_LONG)) (S_TOO_MANY_REQUESTS : Sta Z h0 "com/example/ilmi/ilmi/http/Status" "TOO_MANY_REQUESTS" "Lcom/example/ilmi/ilmi/http/Status;" (.ref a_TOO_MANY_REQUESTS)) (S_REQUEST_HEADER_FIELDS_TOO_LARGE : Sta Z h0 "com/example/ilmi/ilmi/http/Status" "REQUEST_HEADER_FIELDS_TOO_LARGE" "Lcom/example/ilmi/ilmi/http/Status;" (.ref a_REQUEST_HEADER_FIELDS_TOO_LARGE)) (S_INTERNAL_SERVER_ERROR : Sta Z h0 "com/example/ilmi/ilmi/http/Status" "INTERNAL_SERVER_ERROR" "Lcom/example/ilmi/ilmi/http/Status;" (.ref a_INTERNAL_SERVER_ERROR)) (S_HTTP_VERSION_NOT_SUPPORTED : Sta Z h0 "com/example/ilmi/ilmi/http/Status" "HTTP_VERSION_NOT_SUPPORTED" "Lcom/example/ilmi/ilmi/http/Status;" (.ref a_HTTP_VERSION_NOT_SUPPORTED)) (E_OK : Exa Z h0 a_OK "com/example/ilmi/ilmi/http/Status") (E_NO_CONTENT : Exa Z h0 a_NO_CONTENT "com/example/ilmi/ilmi/http/Status") (E_BAD_REQUEST : Exa Z h0 a_BAD_REQUEST "com/example/ilmi/ilmi/http/Status") (E_UNAUTHORIZED : Exa Z h0 a_UNAUTHORIZED "com/example/ilmi/ilmi/http/Status") (E_NOT_FOUND : Exa Z h0 a_NOT_FOUND "com/example/ilmi/ilmi/http/Status") (E_METHOD_NOT_ALLOWED : Exa Z h0 a_METHOD_NOT_ALLOWED "com/example/ilmi/ilmi/http/Status") (E_REQUEST_TIMEOUT : Exa Z h0 a_REQUEST_TIMEOUT "com/example/ilmi/ilmi/http/Status") (E_URI_TOO_LONG : Exa Z h0 a_URI_TOO_LONG "com/example/ilmi/ilmi/http/Status") (E_TOO_MANY_REQUESTS : Exa Z h0 a_TOO_MANY_REQUESTS "com/example/ilmi/ilmi/http/Status") (E_REQUEST_HEADER_FIELDS_TOO_LARGE : Exa Z h0 a_REQUEST_HEADER_FIELDS_TOO_LARGE "com/example/ilmi/ilmi/http/Status") (E_INTERNAL_SERVER_ERROR : Exa Z h0 a_INTERNAL_SERVER_ERROR "com/example/ilmi/ilmi/http/Status") (E_HTTP_VERSION_NOT_SUPPORTED : Exa Z h0 a_HTTP_VERSION_NOT_SUPPORTED "com/example/ilmi/ilmi/http/Status") (F_OK : Fld Z h0 a_OK "com/example/ilmi/ilmi/http/Status" "code" "I" (.int (200 : Int32))) (F_NO_CONTENT : Fld Z h0 a_NO_CONTENT "com/example/ilmi/ilmi/http/Status" "code" "I" (.int (204 : Int32))) (F_BAD_REQUEST : Fld Z h0 a_BAD_REQUEST "com/example/ilmi/ilmi/http/Status" "code" "I" (.int (400 : Int32))) (F_UNAUTHORIZED : Fld Z h0 a_UNAUTHORIZED "com/example/ilmi/ilmi/http/Status" "code" "I" (.int (401 : Int32))) (F_NOT_FOUND : Fld Z h0 a_NOT_FOUND "com/example/ilmi/ilmi/http/Status" "code" "I" (.int (404 : Int32))) (F_METHOD_NOT_ALLOWED : Fld Z h0 a_METHOD_NOT_ALLOWED "com/example/ilmi/ilmi/http/Status" "code" "I" (.int (405 : Int32))) (F_REQUEST_TIMEOUT : Fld Z h0 a_REQUEST_TIMEOUT "com/example/ilmi/ilmi/http/Status" "code" "I" (.int (408 : Int32))) (F_URI_TOO_LONG : Fld Z h0 a_URI_TOO_LONG "com/example/ilmi/ilmi/http/Status" "code" "I" (.int (414 : Int32))) (F_TOO_MANY_REQUESTS : Fld Z h0 a_TOO_MANY_REQUESTS "com/example/ilmi/ilmi/http/Status" "code" "I" (.int (429 : Int32))) (F_REQUEST_HEADER_FIELDS_TOO_LARGE : Fld Z h0 a_REQUEST_HEADER_FIELDS_TOO_LARGE "com/example/ilmi/ilmi/http/Status" "code" "I" (.int (431 : Int32))) (F_INTERNAL_SERVER_ERROR : Fld Z h0 a_INTERNAL_SERVER_ERROR "com/example/ilmi/ilmi/http/Status" "code" "I" (.int (500 : Int32))) (F_HTTP_VERSION_NOT_SUPPORTED : Fld Z h0 a_HTTP_VERSION_NOT_SUPPORTED "com/example/ilmi/ilmi/http/Status" "code" "I" (.int (505 : Int32))) :
    MetFree l (⟨"com/example/ilmi/ilmi/http/StatusHasContentPinLaw", "pick", "(I)Lcom/example/ilmi/ilmi/http/Status;"⟩ : MethodName) (head1 (Jvm.Cond.code (⟨"com/example/ilmi/ilmi/http/StatusHasContentPinLaw", "pick", "(I)Lcom/example/ilmi/ilmi/http/Status;"⟩ : MethodName) method_2_code 1 (some (.object "com/example/ilmi/ilmi/http/Status")) :: ws) ({ frames := 0, cells := 0, slots := 0, locals := 0 } : Room)) (fun a U => a = #[(.int pk)] ∧ Z.Warmed39 U.vm ∧ U.heap = h0) (fun _ _ _ _ _ => True) (fun _ U o U' => ∃ v L, o = .returned v ∧ Q1 Z pk a_OK a_NO_CONTENT a_BAD_REQUEST a_UNAUTHORIZED a_NOT_FOUND a_METHOD_NOT_ALLOWED a_REQUEST_TIMEOUT a_URI_TOO_LONG a_TOO_MANY_REQUESTS a_REQUEST_HEADER_FIELDS_TOO_LARGE a_INTERNAL_SERVER_ERROR a_HTTP_VERSION_NOT_SUPPORTED h0 n0 v U'.heap L ∧ FrameEnd U o U' L ({ frames := 0, cells := 0, slots := 0, locals := 0 } : Room).cells ({ frames := 0, cells := 0, slots := 0, locals := 0 } : Room).slots) := by
  refine MetFree.of_bodySF (plainFor_of_name own_pn56) hisR ?_
  intro p e s m args below meth c s₁ Bd hml0 hP hK
  obtain ⟨rfl, hZ, hh⟩ := hP
  have hx := Bd.exec
  have hby := Bd.bytes
  have hml : c.maxLocals = 1 := hml0
  have hown : s.vm.findClass "com/example/ilmi/ilmi/http/StatusHasContentPinLaw" = some m.cls := findClass_of_methodNamed Bd.named
  have hnm := (name_of_methodNamed Bd.named Bd.method).1
  have X0 : Stand p l e ({ frames := 0, cells := 0, slots := 0, locals := 0 } : Room) s m #[(.int pk)] below meth c s₁ [] 0 0 := Stand.of_body Bd
  have e0 : s₁.heap = h0 := by rw [← hh, Bd.state]; rfl
  have N0 := Fr.nil n0
  have pre0 : ∀ t, Steps p.tables e below (s₁.setTop (mkF m 0 #[.val (.int pk)] [])) t → Steps p.tables e below (s₁.setTop (entryFrame m #[(.int pk)] 1)) t := fun t k => castTop (ef_1 m pk) k
  generalize s₁.setTop (entryFrame m #[(.int pk)] 1) = G0 at pre0 ⊢
  have pre1 : ∀ t, Steps p.tables e below (s₁.setTop (mkF m 1 #[.val (.int pk)] [(.int pk)])) t → Steps p.tables e below G0 t := by
    intro t k
    refine pre0 t ?_
    show Steps p.tables e below (s₁.setTop (mkF m 0 #[.val (.int pk)] [])) _
    refine XS.iloadN X0.here hx rfl (hb hby d1_0) rfl ?_
    exact k
  by_cases hc1_2 : pk = (0 : Int32)
  · obtain ⟨T3, X3, e3, st3⟩ := getS2 X0 hx hZ hown (host := "") (Or.inl (hw _ (List.mem_of_getElem? (i := 5) rfl))) Via.refl e0 S_OK (g := (mkF m 4 #[.val (.int pk)] [])) rfl (hb hby d1_4)
    obtain ⟨fs, hr, hrun, hended, hW, hsame⟩ := X3.leave (v := some (.ref a_OK)) (fun h => by rw [Bd.returns] at h; cases h)
    refine ⟨_, _, pre1 _ ?_, hrun, hended, _, _, rfl, ?_, ⟨_, rfl⟩, hW, hsame.mono (by decide) (by decide)⟩
    · show Steps p.tables e below (s₁.setTop (mkF m 1 #[.val (.int pk)] [(.int pk)])) _
      refine XS.ifNo X0.here hx rfl (hb hby d1_1) rfl ((if0 _ _).trans (teq hc1_2).2) ?_
      show Steps p.tables e below (s₁.setTop (mkF m 4 #[.val (.int pk)] [])) _
      refine st3 _ ?_
      show Steps p.tables e below (T3.setTop (mkF m 7 #[.val (.int pk)] [(.ref a_OK)])) _
      jvm_step X3.here [X3.here.top, hx, (hb hby d1_7), X3.method', Bd.returns, Value.isRef, FieldType.isReference]
      first | (intro acts; rw [hr _ acts rfl rfl rfl]) | rw [hr _ _ rfl rfl rfl]
      exact Steps.refl _
    · show Q1 Z pk a_OK a_NO_CONTENT a_BAD_REQUEST a_UNAUTHORIZED a_NOT_FOUND a_METHOD_NOT_ALLOWED a_REQUEST_TIMEOUT a_URI_TOO_LONG a_TOO_MANY_REQUESTS a_REQUEST_HEADER_FIELDS_TOO_LARGE a_INTERNAL_SERVER_ERROR a_HTTP_VERSION_NOT_SUPPORTED h0 n0 _ T3.heap _
      rw [e3]
      exact ⟨a_OK, (200 : Int32), rfl, N0, rfl, E_OK, F_OK, Or.inr ⟨(fun q => absurd (hc1_2.symm.trans q) (by decide)), (Fld.ne F_OK F_NO_CONTENT (fun q => absurd (Value.int.inj q) (by decide))), (by decide)⟩⟩
  · have pre4 : ∀ t, Steps p.tables e below (s₁.setTop (mkF m 10 #[.val (.int pk)] [(.int (1 : Int32)), (.int pk)])) t → Steps p.tables e below G0 t := by
      intro t k
      refine pre1 t ?_
      show Steps p.tables e below (s₁.setTop (mkF m 1 #[.val (.int pk)] [(.int pk)])) _
      refine XS.ifYes X0.here hx rfl (pc0 := 1) (pc' := 8) rfl (hb hby d1_1) rfl ((if0 _ _).trans (feq hc1_2).2) (by decide) (by decide) ?_
      show Steps p.tables e below (s₁.setTop (mkF m 8 #[.val (.int pk)] [])) _
      refine XS.iloadN X0.here hx rfl (hb hby d1_8) rfl ?_
      show Steps p.tables e below (s₁.setTop (mkF m 9 #[.val (.int pk)] [(.int pk)])) _
      refine XS.iconst X0.here hx rfl (hb hby d1_9) ?_
      exact k
    by_cases hc10_5 : pk = (1 : Int32)
    · obtain ⟨T6, X6, e6, st6⟩ := getS2 X0 hx hZ hown (host := "") (Or.inl (hw _ (List.mem_of_getElem? (i := 34) rfl))) Via.refl e0 S_NO_CONTENT (g := (mkF m 13 #[.val (.int pk)] [])) rfl (hb hby d1_13)
      obtain ⟨fs, hr, hrun, hended, hW, hsame⟩ := X6.leave (v := some (.ref a_NO_CONTENT)) (fun h => by rw [Bd.returns] at h; cases h)
      refine ⟨_, _, pre4 _ ?_, hrun, hended, _, _, rfl, ?_, ⟨_, rfl⟩, hW, hsame.mono (by decide) (by decide)⟩
      · show Steps p.tables e below (s₁.setTop (mkF m 10 #[.val (.int pk)] [(.int (1 : Int32)), (.int pk)])) _
        refine XS.icmpNo X0.here hx rfl (hb hby d1_10) rfl (teq hc10_5).2 ?_
        show Steps p.tables e below (s₁.setTop (mkF m 13 #[.val (.int pk)] [])) _
        refine st6 _ ?_
        show Steps p.tables e below (T6.setTop (mkF m 16 #[.val (.int pk)] [(.ref a_NO_CONTENT)])) _
        jvm_step X6.here [X6.here.top, hx, (hb hby d1_16), X6.method', Bd.returns, Value.isRef, FieldType.isReference]
        first | (intro acts; rw [hr _ acts rfl rfl rfl]) | rw [hr _ _ rfl rfl rfl]
        exact Steps.refl _
      · show Q1 Z pk a_OK a_NO_CONTENT a_BAD_REQUEST a_UNAUTHORIZED a_NOT_FOUND a_METHOD_NOT_ALLOWED a_REQUEST_TIMEOUT a_URI_TOO_LONG a_TOO_MANY_REQUESTS a_REQUEST_HEADER_FIELDS_TOO_LARGE a_INTERNAL_SERVER_ERROR a_HTTP_VERSION_NOT_SUPPORTED h0 n0 _ T6.heap _
        rw [e6]
        exact ⟨a_NO_CONTENT, (204 : Int32), rfl, N0, rfl, E_NO_CONTENT, F_NO_CONTENT, Or.inl ⟨hc10_5, rfl, rfl⟩⟩
    · have pre7 : ∀ t, Steps p.tables e below (s₁.setTop (mkF m 19 #[.val (.int pk)] [(.int (2 : Int32)), (.int pk)])) t → Steps p.tables e below G0 t := by
        intro t k
        refine pre4 t ?_
        show Steps p.tables e below (s₁.setTop (mkF m 10 #[.val (.int pk)] [(.int (1 : Int32)), (.int pk)])) _
        refine XS.icmpYes X0.here hx rfl (pc0 := 10) (pc' := 17) rfl (hb hby d1_10) rfl (feq hc10_5).2 (by decide) (by decide) ?_
        show Steps p.tables e below (s₁.setTop (mkF m 17 #[.val (.int pk)] [])) _
        refine XS.iloadN X0.here hx rfl (hb hby d1_17) rfl ?_
        show Steps p.tables e below (s₁.setTop (mkF m 18 #[.val (.int pk)] [(.int pk)])) _
        refine XS.iconst X0.here hx rfl (hb hby d1_18) ?_
        exact k
      by_cases hc19_8 : pk = (2 : Int32)
      · obtain ⟨T9, X9, e9, st9⟩ := getS2 X0 hx hZ hown (host := "") (Or.inl (hw _ (List.mem_of_getElem? (i := 24) rfl))) Via.refl e0 S_BAD_REQUEST (g := (mkF m 22 #[.val (.int pk)] [])) rfl (hb hby d1_22)
        obtain ⟨fs, hr, hrun, hended, hW, hsame⟩ := X9.leave (v := some (.ref a_BAD_REQUEST)) (fun h => by rw [Bd.returns] at h; cases h)
        refine ⟨_, _, pre7 _ ?_, hrun, hended, _, _, rfl, ?_, ⟨_, rfl⟩, hW, hsame.mono (by decide) (by decide)⟩
        · show Steps p.tables e below (s₁.setTop (mkF m 19 #[.val (.int pk)] [(.int (2 : Int32)), (.int pk)])) _
          refine XS.icmpNo X0.here hx rfl (hb hby d1_19) rfl (teq hc19_8).2 ?_
          show Steps p.tables e below (s₁.setTop (mkF m 22 #[.val (.int pk)] [])) _
          refine st9 _ ?_
          show Steps p.tables e below (T9.setTop (mkF m 25 #[.val (.int pk)] [(.ref a_BAD_REQUEST)])) _
          jvm_step X9.here [X9.here.top, hx, (hb hby d1_25), X9.method', Bd.returns, Value.isRef, FieldType.isReference]
          first | (intro acts; rw [hr _ acts rfl rfl rfl]) | rw [hr _ _ rfl rfl rfl]
          exact Steps.refl _
        · show Q1 Z pk a_OK a_NO_CONTENT a_BAD_REQUEST a_UNAUTHORIZED a_NOT_FOUND a_METHOD_NOT_ALLOWED a_REQUEST_TIMEOUT a_URI_TOO_LONG a_TOO_MANY_REQUESTS a_REQUEST_HEADER_FIELDS_TOO_LARGE a_INTERNAL_SERVER_ERROR a_HTTP_VERSION_NOT_SUPPORTED h0 n0 _ T9.heap _
          rw [e9]
          exact ⟨a_BAD_REQUEST, (400 : Int32), rfl, N0, rfl, E_BAD_REQUEST, F_BAD_REQUEST, Or.inr ⟨(fun q => absurd (hc19_8.symm.trans q) (by decide)), (Fld.ne F_BAD_REQUEST F_NO_CONTENT (fun q => absurd (Value.int.inj q) (by decide))), (by decide)⟩⟩
      · have pre10 : ∀ t, Steps p.tables e below (s₁.setTop (mkF m 28 #[.val (.int pk)] [(.int (3 : Int32)), (.int pk)])) t → Steps p.tables e below G0 t := by
          intro t k
          refine pre7 t ?_
          show Steps p.tables e below (s₁.setTop (mkF m 19 #[.val (.int pk)] [(.int (2 : Int32)), (.int pk)])) _
          refine XS.icmpYes X0.here hx rfl (pc0 := 19) (pc' := 26) rfl (hb hby d1_19) rfl (feq hc19_8).2 (by decide) (by decide) ?_
          show Steps p.tables e below (s₁.setTop (mkF m 26 #[.val (.int pk)] [])) _
          refine XS.iloadN X0.here hx rfl (hb hby d1_26) rfl ?_
          show Steps p.tables e below (s₁.setTop (mkF m 27 #[.val (.int pk)] [(.int pk)])) _
          refine XS.iconst X0.here hx rfl (hb hby d1_27) ?_
          exact k
        by_cases hc28_11 : pk = (3 : Int32)
        · obtain ⟨T12, X12, e12, st12⟩ := getS2 X0 hx hZ hown (host := "") (Or.inl (hw _ (List.mem_of_getElem? (i := 22) rfl))) Via.refl e0 S_UNAUTHORIZED (g := (mkF m 31 #[.val (.int pk)] [])) rfl (hb hby d1_31)
          obtain ⟨fs, hr, hrun, hended, hW, hsame⟩ := X12.leave (v := some (.ref a_UNAUTHORIZED)) (fun h => by rw [Bd.returns] at h; cases h)
          refine ⟨_, _, pre10 _ ?_, hrun, hended, _, _, rfl, ?_, ⟨_, rfl⟩, hW, hsame.mono (by decide) (by decide)⟩
          · show Steps p.tables e below (s₁.setTop (mkF m 28 #[.val (.int pk)] [(.int (3 : Int32)), (.int pk)])) _
            refine XS.icmpNo X0.here hx rfl (hb hby d1_28) rfl (teq hc28_11).2 ?_
            show Steps p.tables e below (s₁.setTop (mkF m 31 #[.val (.int pk)] [])) _
            refine st12 _ ?_
            show Steps p.tables e below (T12.setTop (mkF m 34 #[.val (.int pk)] [(.ref a_UNAUTHORIZED)])) _
            jvm_step X12.here [X12.here.top, hx, (hb hby d1_34), X12.method', Bd.returns, Value.isRef, FieldType.isReference]
            first | (intro acts; rw [hr _ acts rfl rfl rfl]) | rw [hr _ _ rfl rfl rfl]
            exact Steps.refl _
          · show Q1 Z pk a_OK a_NO_CONTENT a_BAD_REQUEST a_UNAUTHORIZED a_NOT_FOUND a_METHOD_NOT_ALLOWED a_REQUEST_TIMEOUT a_URI_TOO_LONG a_TOO_MANY_REQUESTS a_REQUEST_HEADER_FIELDS_TOO_LARGE a_INTERNAL_SERVER_ERROR a_HTTP_VERSION_NOT_SUPPORTED h0 n0 _ T12.heap _
            rw [e12]
            exact ⟨a_UNAUTHORIZED, (401 : Int32), rfl, N0, rfl, E_UNAUTHORIZED, F_UNAUTHORIZED, Or.inr ⟨(fun q => absurd (hc28_11.symm.trans q) (by decide)), (Fld.ne F_UNAUTHORIZED F_NO_CONTENT (fun q => absurd (Value.int.inj q) (by decide))), (by decide)⟩⟩
        · have pre13 : ∀ t, Steps p.tables e below (s₁.setTop (mkF m 37 #[.val (.int pk)] [(.int (4 : Int32)), (.int pk)])) t → Steps p.tables e below G0 t := by
            intro t k
            refine pre10 t ?_
            show Steps p.tables e below (s₁.setTop (mkF m 28 #[.val (.int pk)] [(.int (3 : Int32)), (.int pk)])) _
            refine XS.icmpYes X0.here hx rfl (pc0 := 28) (pc' := 35) rfl (hb hby d1_28) rfl (feq hc28_11).2 (by decide) (by decide) ?_
            show Steps p.tables e below (s₁.setTop (mkF m 35 #[.val (.int pk)] [])) _
            refine XS.iloadN X0.here hx rfl (hb hby d1_35) rfl ?_
            show Steps p.tables e below (s₁.setTop (mkF m 36 #[.val (.int pk)] [(.int pk)])) _
            refine XS.iconst X0.here hx rfl (hb hby d1_36) ?_
            exact k
          by_cases hc37_14 : pk = (4 : Int32)
          · obtain ⟨T15, X15, e15, st15⟩ := getS2 X0 hx hZ hown (host := "") (Or.inl (hw _ (List.mem_of_getElem? (i := 30) rfl))) Via.refl e0 S_NOT_FOUND (g := (mkF m 40 #[.val (.int pk)] [])) rfl (hb hby d1_40)
            obtain ⟨fs, hr, hrun, hended, hW, hsame⟩ := X15.leave (v := some (.ref a_NOT_FOUND)) (fun h => by rw [Bd.returns] at h; cases h)
            refine ⟨_, _, pre13 _ ?_, hrun, hended, _, _, rfl, ?_, ⟨_, rfl⟩, hW, hsame.mono (by decide) (by decide)⟩
            · show Steps p.tables e below (s₁.setTop (mkF m 37 #[.val (.int pk)] [(.int (4 : Int32)), (.int pk)])) _
              refine XS.icmpNo X0.here hx rfl (hb hby d1_37) rfl (teq hc37_14).2 ?_
              show Steps p.tables e below (s₁.setTop (mkF m 40 #[.val (.int pk)] [])) _
              refine st15 _ ?_
              show Steps p.tables e below (T15.setTop (mkF m 43 #[.val (.int pk)] [(.ref a_NOT_FOUND)])) _
              jvm_step X15.here [X15.here.top, hx, (hb hby d1_43), X15.method', Bd.returns, Value.isRef, FieldType.isReference]
              first | (intro acts; rw [hr _ acts rfl rfl rfl]) | rw [hr _ _ rfl rfl rfl]
              exact Steps.refl _
            · show Q1 Z pk a_OK a_NO_CONTENT a_BAD_REQUEST a_UNAUTHORIZED a_NOT_FOUND a_METHOD_NOT_ALLOWED a_REQUEST_TIMEOUT a_URI_TOO_LONG a_TOO_MANY_REQUESTS a_REQUEST_HEADER_FIELDS_TOO_LARGE a_INTERNAL_SERVER_ERROR a_HTTP_VERSION_NOT_SUPPORTED h0 n0 _ T15.heap _
              rw [e15]
              exact ⟨a_NOT_FOUND, (404 : Int32), rfl, N0, rfl, E_NOT_FOUND, F_NOT_FOUND, Or.inr ⟨(fun q => absurd (hc37_14.symm.trans q) (by decide)), (Fld.ne F_NOT_FOUND F_NO_CONTENT (fun q => absurd (Value.int.inj q) (by decide))), (by decide)⟩⟩
          · have pre16 : ∀ t, Steps p.tables e below (s₁.setTop (mkF m 46 #[.val (.int pk)] [(.int (5 : Int32)), (.int pk)])) t → Steps p.tables e below G0 t := by
              intro t k
              refine pre13 t ?_
              show Steps p.tables e below (s₁.setTop (mkF m 37 #[.val (.int pk)] [(.int (4 : Int32)), (.int pk)])) _
              refine XS.icmpYes X0.here hx rfl (pc0 := 37) (pc' := 44) rfl (hb hby d1_37) rfl (feq hc37_14).2 (by decide) (by decide) ?_
              show Steps p.tables e below (s₁.setTop (mkF m 44 #[.val (.int pk)] [])) _
              refine XS.iloadN X0.here hx rfl (hb hby d1_44) rfl ?_
              show Steps p.tables e below (s₁.setTop (mkF m 45 #[.val (.int pk)] [(.int pk)])) _
              refine XS.iconst X0.here hx rfl (hb hby d1_45) ?_
              exact k
            by_cases hc46_17 : pk = (5 : Int32)
            · obtain ⟨T18, X18, e18, st18⟩ := getS2 X0 hx hZ hown (host := "") (Or.inl (hw _ (List.mem_of_getElem? (i := 41) rfl))) Via.refl e0 S_METHOD_NOT_ALLOWED (g := (mkF m 49 #[.val (.int pk)] [])) rfl (hb hby d1_49)
              obtain ⟨fs, hr, hrun, hended, hW, hsame⟩ := X18.leave (v := some (.ref a_METHOD_NOT_ALLOWED)) (fun h => by rw [Bd.returns] at h; cases h)
              refine ⟨_, _, pre16 _ ?_, hrun, hended, _, _, rfl, ?_, ⟨_, rfl⟩, hW, hsame.mono (by decide) (by decide)⟩
              · show Steps p.tables e below (s₁.setTop (mkF m 46 #[.val (.int pk)] [(.int (5 : Int32)), (.int pk)])) _
                refine XS.icmpNo X0.here hx rfl (hb hby d1_46) rfl (teq hc46_17).2 ?_
                show Steps p.tables e below (s₁.setTop (mkF m 49 #[.val (.int pk)] [])) _
                refine st18 _ ?_
                show Steps p.tables e below (T18.setTop (mkF m 52 #[.val (.int pk)] [(.ref a_METHOD_NOT_ALLOWED)])) _
                jvm_step X18.here [X18.here.top, hx, (hb hby d1_52), X18.method', Bd.returns, Value.isRef, FieldType.isReference]
                first | (intro acts; rw [hr _ acts rfl rfl rfl]) | rw [hr _ _ rfl rfl rfl]
                exact Steps.refl _
              · show Q1 Z pk a_OK a_NO_CONTENT a_BAD_REQUEST a_UNAUTHORIZED a_NOT_FOUND a_METHOD_NOT_ALLOWED a_REQUEST_TIMEOUT a_URI_TOO_LONG a_TOO_MANY_REQUESTS a_REQUEST_HEADER_FIELDS_TOO_LARGE a_INTERNAL_SERVER_ERROR a_HTTP_VERSION_NOT_SUPPORTED h0 n0 _ T18.heap _
                rw [e18]
                exact ⟨a_METHOD_NOT_ALLOWED, (405 : Int32), rfl, N0, rfl, E_METHOD_NOT_ALLOWED, F_METHOD_NOT_ALLOWED, Or.inr ⟨(fun q => absurd (hc46_17.symm.trans q) (by decide)), (Fld.ne F_METHOD_NOT_ALLOWED F_NO_CONTENT (fun q => absurd (Value.int.inj q) (by decide))), (by decide)⟩⟩
            · have pre19 : ∀ t, Steps p.tables e below (s₁.setTop (mkF m 56 #[.val (.int pk)] [(.int (6 : Int32)), (.int pk)])) t → Steps p.tables e below G0 t := by
                intro t k
                refine pre16 t ?_
                show Steps p.tables e below (s₁.setTop (mkF m 46 #[.val (.int pk)] [(.int (5 : Int32)), (.int pk)])) _
                refine XS.icmpYes X0.here hx rfl (pc0 := 46) (pc' := 53) rfl (hb hby d1_46) rfl (feq hc46_17).2 (by decide) (by decide) ?_
                show Steps p.tables e below (s₁.setTop (mkF m 53 #[.val (.int pk)] [])) _
                refine XS.iloadN X0.here hx rfl (hb hby d1_53) rfl ?_
                show Steps p.tables e below (s₁.setTop (mkF m 54 #[.val (.int pk)] [(.int pk)])) _
                refine XS.bipush X0.here hx rfl (hb hby d1_54) ?_
                exact k
              by_cases hc56_20 : pk = (6 : Int32)
              · obtain ⟨T21, X21, e21, st21⟩ := getS2 X0 hx hZ hown (host := "") (Or.inl (hw _ (List.mem_of_getElem? (i := 39) rfl))) Via.refl e0 S_REQUEST_TIMEOUT (g := (mkF m 59 #[.val (.int pk)] [])) rfl (hb hby d1_59)
                obtain ⟨fs, hr, hrun, hended, hW, hsame⟩ := X21.leave (v := some (.ref a_REQUEST_TIMEOUT)) (fun h => by rw [Bd.returns] at h; cases h)
                refine ⟨_, _, pre19 _ ?_, hrun, hended, _, _, rfl, ?_, ⟨_, rfl⟩, hW, hsame.mono (by decide) (by decide)⟩
                · show Steps p.tables e below (s₁.setTop (mkF m 56 #[.val (.int pk)] [(.int (6 : Int32)), (.int pk)])) _
                  refine XS.icmpNo X0.here hx rfl (hb hby d1_56) rfl (teq hc56_20).2 ?_
                  show Steps p.tables e below (s₁.setTop (mkF m 59 #[.val (.int pk)] [])) _
                  refine st21 _ ?_
                  show Steps p.tables e below (T21.setTop (mkF m 62 #[.val (.int pk)] [(.ref a_REQUEST_TIMEOUT)])) _
                  jvm_step X21.here [X21.here.top, hx, (hb hby d1_62), X21.method', Bd.returns, Value.isRef, FieldType.isReference]
                  first | (intro acts; rw [hr _ acts rfl rfl rfl]) | rw [hr _ _ rfl rfl rfl]
                  exact Steps.refl _
                · show Q1 Z pk a_OK a_NO_CONTENT a_BAD_REQUEST a_UNAUTHORIZED a_NOT_FOUND a_METHOD_NOT_ALLOWED a_REQUEST_TIMEOUT a_URI_TOO_LONG a_TOO_MANY_REQUESTS a_REQUEST_HEADER_FIELDS_TOO_LARGE a_INTERNAL_SERVER_ERROR a_HTTP_VERSION_NOT_SUPPORTED h0 n0 _ T21.heap _
                  rw [e21]
                  exact ⟨a_REQUEST_TIMEOUT, (408 : Int32), rfl, N0, rfl, E_REQUEST_TIMEOUT, F_REQUEST_TIMEOUT, Or.inr ⟨(fun q => absurd (hc56_20.symm.trans q) (by decide)), (Fld.ne F_REQUEST_TIMEOUT F_NO_CONTENT (fun q => absurd (Value.int.inj q) (by decide))), (by decide)⟩⟩
              · have pre22 : ∀ t, Steps p.tables e below (s₁.setTop (mkF m 66 #[.val (.int pk)] [(.int (7 : Int32)), (.int pk)])) t → Steps p.tables e below G0 t := by
                  intro t k
                  refine pre19 t ?_
                  show Steps p.tables e below (s₁.setTop (mkF m 56 #[.val (.int pk)] [(.int (6 : Int32)), (.int pk)])) _
                  refine XS.icmpYes X0.here hx rfl (pc0 := 56) (pc' := 63) rfl (hb hby d1_56) rfl (feq hc56_20).2 (by decide) (by decide) ?_
                  show Steps p.tables e below (s₁.setTop (mkF m 63 #[.val (.int pk)] [])) _
                  refine XS.iloadN X0.here hx rfl (hb hby d1_63) rfl ?_
                  show Steps p.tables e below (s₁.setTop (mkF m 64 #[.val (.int pk)] [(.int pk)])) _
                  refine XS.bipush X0.here hx rfl (hb hby d1_64) ?_
                  exact k
                by_cases hc66_23 : pk = (7 : Int32)
                · obtain ⟨T24, X24, e24, st24⟩ := getS2 X0 hx hZ hown (host := "") (Or.inl (hw _ (List.mem_of_getElem? (i := 26) rfl))) Via.refl e0 S_URI_TOO_LONG (g := (mkF m 69 #[.val (.int pk)] [])) rfl (hb hby d1_69)
                  obtain ⟨fs, hr, hrun, hended, hW, hsame⟩ := X24.leave (v := some (.ref a_URI_TOO_LONG)) (fun h => by rw [Bd.returns] at h; cases h)
                  refine ⟨_, _, pre22 _ ?_, hrun, hended, _, _, rfl, ?_, ⟨_, rfl⟩, hW, hsame.mono (by decide) (by decide)⟩
                  · show Steps p.tables e below (s₁.setTop (mkF m 66 #[.val (.int pk)] [(.int (7 : Int32)), (.int pk)])) _
                    refine XS.icmpNo X0.here hx rfl (hb hby d1_66) rfl (teq hc66_23).2 ?_
                    show Steps p.tables e below (s₁.setTop (mkF m 69 #[.val (.int pk)] [])) _
                    refine st24 _ ?_
                    show Steps p.tables e below (T24.setTop (mkF m 72 #[.val (.int pk)] [(.ref a_URI_TOO_LONG)])) _
                    jvm_step X24.here [X24.here.top, hx, (hb hby d1_72), X24.method', Bd.returns, Value.isRef, FieldType.isReference]
                    first | (intro acts; rw [hr _ acts rfl rfl rfl]) | rw [hr _ _ rfl rfl rfl]
                    exact Steps.refl _
                  · show Q1 Z pk a_OK a_NO_CONTENT a_BAD_REQUEST a_UNAUTHORIZED a_NOT_FOUND a_METHOD_NOT_ALLOWED a_REQUEST_TIMEOUT a_URI_TOO_LONG a_TOO_MANY_REQUESTS a_REQUEST_HEADER_FIELDS_TOO_LARGE a_INTERNAL_SERVER_ERROR a_HTTP_VERSION_NOT_SUPPORTED h0 n0 _ T24.heap _
                    rw [e24]
                    exact ⟨a_URI_TOO_LONG, (414 : Int32), rfl, N0, rfl, E_URI_TOO_LONG, F_URI_TOO_LONG, Or.inr ⟨(fun q => absurd (hc66_23.symm.trans q) (by decide)), (Fld.ne F_URI_TOO_LONG F_NO_CONTENT (fun q => absurd (Value.int.inj q) (by decide))), (by decide)⟩⟩
                · have pre25 : ∀ t, Steps p.tables e below (s₁.setTop (mkF m 76 #[.val (.int pk)] [(.int (8 : Int32)), (.int pk)])) t → Steps p.tables e below G0 t := by
                    intro t k
                    refine pre22 t ?_
                    show Steps p.tables e below (s₁.setTop (mkF m 66 #[.val (.int pk)] [(.int (7 : Int32)), (.int pk)])) _
                    refine XS.icmpYes X0.here hx rfl (pc0 := 66) (pc' := 73) rfl (hb hby d1_66) rfl (feq hc66_23).2 (by decide) (by decide) ?_
                    show Steps p.tables e below (s₁.setTop (mkF m 73 #[.val (.int pk)] [])) _
                    refine XS.iloadN X0.here hx rfl (hb hby d1_73) rfl ?_
                    show Steps p.tables e below (s₁.setTop (mkF m 74 #[.val (.int pk)] [(.int pk)])) _
                    refine XS.bipush X0.here hx rfl (hb hby d1_74) ?_
                    exact k
                  by_cases hc76_26 : pk = (8 : Int32)
                  · obtain ⟨T27, X27, e27, st27⟩ := getS2 X0 hx hZ hown (host := "") (Or.inl (hw _ (List.mem_of_getElem? (i := 32) rfl))) Via.refl e0 S_TOO_MANY_REQUESTS (g := (mkF m 79 #[.val (.int pk)] [])) rfl (hb hby d1_79)
                    obtain ⟨fs, hr, hrun, hended, hW, hsame⟩ := X27.leave (v := some (.ref a_TOO_MANY_REQUESTS)) (fun h => by rw [Bd.returns] at h; cases h)
                    refine ⟨_, _, pre25 _ ?_, hrun, hended, _, _, rfl, ?_, ⟨_, rfl⟩, hW, hsame.mono (by decide) (by decide)⟩
                    · show Steps p.tables e below (s₁.setTop (mkF m 76 #[.val (.int pk)] [(.int (8 : Int32)), (.int pk)])) _
                      refine XS.icmpNo X0.here hx rfl (hb hby d1_76) rfl (teq hc76_26).2 ?_
                      show Steps p.tables e below (s₁.setTop (mkF m 79 #[.val (.int pk)] [])) _
                      refine st27 _ ?_
                      show Steps p.tables e below (T27.setTop (mkF m 82 #[.val (.int pk)] [(.ref a_TOO_MANY_REQUESTS)])) _
                      jvm_step X27.here [X27.here.top, hx, (hb hby d1_82), X27.method', Bd.returns, Value.isRef, FieldType.isReference]
                      first | (intro acts; rw [hr _ acts rfl rfl rfl]) | rw [hr _ _ rfl rfl rfl]
                      exact Steps.refl _
                    · show Q1 Z pk a_OK a_NO_CONTENT a_BAD_REQUEST a_UNAUTHORIZED a_NOT_FOUND a_METHOD_NOT_ALLOWED a_REQUEST_TIMEOUT a_URI_TOO_LONG a_TOO_MANY_REQUESTS a_REQUEST_HEADER_FIELDS_TOO_LARGE a_INTERNAL_SERVER_ERROR a_HTTP_VERSION_NOT_SUPPORTED h0 n0 _ T27.heap _
                      rw [e27]
                      exact ⟨a_TOO_MANY_REQUESTS, (429 : Int32), rfl, N0, rfl, E_TOO_MANY_REQUESTS, F_TOO_MANY_REQUESTS, Or.inr ⟨(fun q => absurd (hc76_26.symm.trans q) (by decide)), (Fld.ne F_TOO_MANY_REQUESTS F_NO_CONTENT (fun q => absurd (Value.int.inj q) (by decide))), (by decide)⟩⟩
                  · have pre28 : ∀ t, Steps p.tables e below (s₁.setTop (mkF m 86 #[.val (.int pk)] [(.int (9 : Int32)), (.int pk)])) t → Steps p.tables e below G0 t := by
                      intro t k
                      refine pre25 t ?_
                      show Steps p.tables e below (s₁.setTop (mkF m 76 #[.val (.int pk)] [(.int (8 : Int32)), (.int pk)])) _
                      refine XS.icmpYes X0.here hx rfl (pc0 := 76) (pc' := 83) rfl (hb hby d1_76) rfl (feq hc76_26).2 (by decide) (by decide) ?_
                      show Steps p.tables e below (s₁.setTop (mkF m 83 #[.val (.int pk)] [])) _
                      refine XS.iloadN X0.here hx rfl (hb hby d1_83) rfl ?_
                      show Steps p.tables e below (s₁.setTop (mkF m 84 #[.val (.int pk)] [(.int pk)])) _
                      refine XS.bipush X0.here hx rfl (hb hby d1_84) ?_
                      exact k
                    by_cases hc86_29 : pk = (9 : Int32)
                    · obtain ⟨T30, X30, e30, st30⟩ := getS2 X0 hx hZ hown (host := "") (Or.inl (hw _ (List.mem_of_getElem? (i := 37) rfl))) Via.refl e0 S_REQUEST_HEADER_FIELDS_TOO_LARGE (g := (mkF m 89 #[.val (.int pk)] [])) rfl (hb hby d1_89)
                      obtain ⟨fs, hr, hrun, hended, hW, hsame⟩ := X30.leave (v := some (.ref a_REQUEST_HEADER_FIELDS_TOO_LARGE)) (fun h => by rw [Bd.returns] at h; cases h)
                      refine ⟨_, _, pre28 _ ?_, hrun, hended, _, _, rfl, ?_, ⟨_, rfl⟩, hW, hsame.mono (by decide) (by decide)⟩
                      · show Steps p.tables e below (s₁.setTop (mkF m 86 #[.val (.int pk)] [(.int (9 : Int32)), (.int pk)])) _
                        refine XS.icmpNo X0.here hx rfl (hb hby d1_86) rfl (teq hc86_29).2 ?_
                        show Steps p.tables e below (s₁.setTop (mkF m 89 #[.val (.int pk)] [])) _
                        refine st30 _ ?_
                        show Steps p.tables e below (T30.setTop (mkF m 92 #[.val (.int pk)] [(.ref a_REQUEST_HEADER_FIELDS_TOO_LARGE)])) _
                        jvm_step X30.here [X30.here.top, hx, (hb hby d1_92), X30.method', Bd.returns, Value.isRef, FieldType.isReference]
                        first | (intro acts; rw [hr _ acts rfl rfl rfl]) | rw [hr _ _ rfl rfl rfl]
                        exact Steps.refl _
                      · show Q1 Z pk a_OK a_NO_CONTENT a_BAD_REQUEST a_UNAUTHORIZED a_NOT_FOUND a_METHOD_NOT_ALLOWED a_REQUEST_TIMEOUT a_URI_TOO_LONG a_TOO_MANY_REQUESTS a_REQUEST_HEADER_FIELDS_TOO_LARGE a_INTERNAL_SERVER_ERROR a_HTTP_VERSION_NOT_SUPPORTED h0 n0 _ T30.heap _
                        rw [e30]
                        exact ⟨a_REQUEST_HEADER_FIELDS_TOO_LARGE, (431 : Int32), rfl, N0, rfl, E_REQUEST_HEADER_FIELDS_TOO_LARGE, F_REQUEST_HEADER_FIELDS_TOO_LARGE, Or.inr ⟨(fun q => absurd (hc86_29.symm.trans q) (by decide)), (Fld.ne F_REQUEST_HEADER_FIELDS_TOO_LARGE F_NO_CONTENT (fun q => absurd (Value.int.inj q) (by decide))), (by decide)⟩⟩
                    · have pre31 : ∀ t, Steps p.tables e below (s₁.setTop (mkF m 96 #[.val (.int pk)] [(.int (10 : Int32)), (.int pk)])) t → Steps p.tables e below G0 t := by
                        intro t k
                        refine pre28 t ?_
                        show Steps p.tables e below (s₁.setTop (mkF m 86 #[.val (.int pk)] [(.int (9 : Int32)), (.int pk)])) _
                        refine XS.icmpYes X0.here hx rfl (pc0 := 86) (pc' := 93) rfl (hb hby d1_86) rfl (feq hc86_29).2 (by decide) (by decide) ?_
                        show Steps p.tables e below (s₁.setTop (mkF m 93 #[.val (.int pk)] [])) _
                        refine XS.iloadN X0.here hx rfl (hb hby d1_93) rfl ?_
                        show Steps p.tables e below (s₁.setTop (mkF m 94 #[.val (.int pk)] [(.int pk)])) _
                        refine XS.bipush X0.here hx rfl (hb hby d1_94) ?_
                        exact k
                      by_cases hc96_32 : pk = (10 : Int32)
                      · obtain ⟨T33, X33, e33, st33⟩ := getS2 X0 hx hZ hown (host := "") (Or.inl (hw _ (List.mem_of_getElem? (i := 35) rfl))) Via.refl e0 S_INTERNAL_SERVER_ERROR (g := (mkF m 99 #[.val (.int pk)] [])) rfl (hb hby d1_99)
                        obtain ⟨fs, hr, hrun, hended, hW, hsame⟩ := X33.leave (v := some (.ref a_INTERNAL_SERVER_ERROR)) (fun h => by rw [Bd.returns] at h; cases h)
                        refine ⟨_, _, pre31 _ ?_, hrun, hended, _, _, rfl, ?_, ⟨_, rfl⟩, hW, hsame.mono (by decide) (by decide)⟩
                        · show Steps p.tables e below (s₁.setTop (mkF m 96 #[.val (.int pk)] [(.int (10 : Int32)), (.int pk)])) _
                          refine XS.icmpNo X0.here hx rfl (hb hby d1_96) rfl (teq hc96_32).2 ?_
                          show Steps p.tables e below (s₁.setTop (mkF m 99 #[.val (.int pk)] [])) _
                          refine st33 _ ?_
                          show Steps p.tables e below (T33.setTop (mkF m 102 #[.val (.int pk)] [(.ref a_INTERNAL_SERVER_ERROR)])) _
                          jvm_step X33.here [X33.here.top, hx, (hb hby d1_102), X33.method', Bd.returns, Value.isRef, FieldType.isReference]
                          first | (intro acts; rw [hr _ acts rfl rfl rfl]) | rw [hr _ _ rfl rfl rfl]
                          exact Steps.refl _
                        · show Q1 Z pk a_OK a_NO_CONTENT a_BAD_REQUEST a_UNAUTHORIZED a_NOT_FOUND a_METHOD_NOT_ALLOWED a_REQUEST_TIMEOUT a_URI_TOO_LONG a_TOO_MANY_REQUESTS a_REQUEST_HEADER_FIELDS_TOO_LARGE a_INTERNAL_SERVER_ERROR a_HTTP_VERSION_NOT_SUPPORTED h0 n0 _ T33.heap _
                          rw [e33]
                          exact ⟨a_INTERNAL_SERVER_ERROR, (500 : Int32), rfl, N0, rfl, E_INTERNAL_SERVER_ERROR, F_INTERNAL_SERVER_ERROR, Or.inr ⟨(fun q => absurd (hc96_32.symm.trans q) (by decide)), (Fld.ne F_INTERNAL_SERVER_ERROR F_NO_CONTENT (fun q => absurd (Value.int.inj q) (by decide))), (by decide)⟩⟩
                      · obtain ⟨T34, X34, e34, st34⟩ := getS2 X0 hx hZ hown (host := "") (Or.inl (hw _ (List.mem_of_getElem? (i := 28) rfl))) Via.refl e0 S_HTTP_VERSION_NOT_SUPPORTED (g := (mkF m 103 #[.val (.int pk)] [])) rfl (hb hby d1_103)
                        obtain ⟨fs, hr, hrun, hended, hW, hsame⟩ := X34.leave (v := some (.ref a_HTTP_VERSION_NOT_SUPPORTED)) (fun h => by rw [Bd.returns] at h; cases h)
                        refine ⟨_, _, pre31 _ ?_, hrun, hended, _, _, rfl, ?_, ⟨_, rfl⟩, hW, hsame.mono (by decide) (by decide)⟩
                        · show Steps p.tables e below (s₁.setTop (mkF m 96 #[.val (.int pk)] [(.int (10 : Int32)), (.int pk)])) _
                          refine XS.icmpYes X0.here hx rfl (pc0 := 96) (pc' := 103) rfl (hb hby d1_96) rfl (feq hc96_32).2 (by decide) (by decide) ?_
                          show Steps p.tables e below (s₁.setTop (mkF m 103 #[.val (.int pk)] [])) _
                          refine st34 _ ?_
                          show Steps p.tables e below (T34.setTop (mkF m 106 #[.val (.int pk)] [(.ref a_HTTP_VERSION_NOT_SUPPORTED)])) _
                          jvm_step X34.here [X34.here.top, hx, (hb hby d1_106), X34.method', Bd.returns, Value.isRef, FieldType.isReference]
                          first | (intro acts; rw [hr _ acts rfl rfl rfl]) | rw [hr _ _ rfl rfl rfl]
                          exact Steps.refl _
                        · show Q1 Z pk a_OK a_NO_CONTENT a_BAD_REQUEST a_UNAUTHORIZED a_NOT_FOUND a_METHOD_NOT_ALLOWED a_REQUEST_TIMEOUT a_URI_TOO_LONG a_TOO_MANY_REQUESTS a_REQUEST_HEADER_FIELDS_TOO_LARGE a_INTERNAL_SERVER_ERROR a_HTTP_VERSION_NOT_SUPPORTED h0 n0 _ T34.heap _
                          rw [e34]
                          exact ⟨a_HTTP_VERSION_NOT_SUPPORTED, (505 : Int32), rfl, N0, rfl, E_HTTP_VERSION_NOT_SUPPORTED, F_HTTP_VERSION_NOT_SUPPORTED, Or.inr ⟨hc10_5, (Fld.ne F_HTTP_VERSION_NOT_SUPPORTED F_NO_CONTENT (fun q => absurd (Value.int.inj q) (by decide))), (by decide)⟩⟩
theorem d2_0 : decode prog_38_method_7_code 0 = .ok (.aload_n 0, 1) := by decide +kernel
theorem d2_1 : decode prog_38_method_7_code 1 = .ok (.getstatic 7, 3) := by decide +kernel
theorem d2_4 : decode prog_38_method_7_code 4 = .ok (.if_acmp .eq 7, 3) := by decide +kernel
theorem d2_11 : decode prog_38_method_7_code 11 = .ok (.iconst 0, 1) := by decide +kernel
theorem d2_12 : decode prog_38_method_7_code 12 = .ok (.ireturn, 1) := by decide +kernel
theorem d2_7 : decode prog_38_method_7_code 7 = .ok (.iconst 1, 1) := by decide +kernel
theorem d2_8 : decode prog_38_method_7_code 8 = .ok (.goto 4, 3) := by decide +kernel
theorem own_pn64 : plainName "com/example/ilmi/ilmi/http/Status" = true := by first | (simp [plainName, overriddenIn]; done) | decide +kernel
theorem ef_2 (m : MethodId) (x0 : Addr) : entryFrame m #[(.ref x0)] 1 = mkF m 0 #[.val (.ref x0)] [] := by first | (simp [entryFrame, mkF, argsToLocals, Value.category]; done) | rfl
def Q2 (Z : State) (aa : Addr) (aN : Addr) (h0 : Heap) (n0 : Nat) (v : Option Value) (h : Heap) (L : List Loc) : Prop := v = some (.int (if aa = aN then (0 : Int32) else 1)) ∧ Fr n0 L ∧ h = h0
set_option maxRecDepth 65536 in
set_option maxHeartbeats 40000000 in
theorem rm2 (l : Launch) (Z : State) (a0 : Array Value) (hw : ∀ d ∈ tables_1, d.before a0 Z = true) (ws : List Jvm.Cond) (aa : Addr) (aN : Addr) (h0 : Heap) (n0 : Nat) (Z0 : n0 ≤ h0.size) (S_N : Sta Z h0 "com/example/ilmi/ilmi/http/Status" "NO_CONTENT" "Lcom/example/ilmi/ilmi/http/Status;" (.ref aN)) :
    MetFree l (⟨"com/example/ilmi/ilmi/http/Status", "hasContent", "()Z"⟩ : MethodName) (head1 (Jvm.Cond.code (⟨"com/example/ilmi/ilmi/http/Status", "hasContent", "()Z"⟩ : MethodName) prog_38_method_7_code 1 (some .boolean) :: ws) ({ frames := 0, cells := 0, slots := 0, locals := 0 } : Room)) (fun a U => a = #[(.ref aa)] ∧ Z.Warmed39 U.vm ∧ U.heap = h0) (fun _ _ _ _ _ => True) (fun _ U o U' => ∃ v L, o = .returned v ∧ Q2 Z aa aN h0 n0 v U'.heap L ∧ FrameEnd U o U' L ({ frames := 0, cells := 0, slots := 0, locals := 0 } : Room).cells ({ frames := 0, cells := 0, slots := 0, locals := 0 } : Room).slots) := by
  refine MetFree.of_bodySF (plainFor_of_name own_pn64) hisR ?_
  intro p e s m args below meth c s₁ Bd hml0 hP hK
  obtain ⟨rfl, hZ, hh⟩ := hP
  have hx := Bd.exec
  have hby := Bd.bytes
  have hml : c.maxLocals = 1 := hml0
  have hown : s.vm.findClass "com/example/ilmi/ilmi/http/Status" = some m.cls := findClass_of_methodNamed Bd.named
  have hnm := (name_of_methodNamed Bd.named Bd.method).1
  have X0 : Stand p l e ({ frames := 0, cells := 0, slots := 0, locals := 0 } : Room) s m #[(.ref aa)] below meth c s₁ [] 0 0 := Stand.of_body Bd
  have e0 : s₁.heap = h0 := by rw [← hh, Bd.state]; rfl
  have N0 := Fr.nil n0
  have pre0 : ∀ t, Steps p.tables e below (s₁.setTop (mkF m 0 #[.val (.ref aa)] [])) t → Steps p.tables e below (s₁.setTop (entryFrame m #[(.ref aa)] 1)) t := fun t k => castTop (ef_2 m aa) k
  generalize s₁.setTop (entryFrame m #[(.ref aa)] 1) = G0 at pre0 ⊢
  obtain ⟨T35, X35, e35, st35⟩ := getS2 X0 hx hZ hown (host := "") (Or.inl (hw _ (List.mem_of_getElem? (i := 13) rfl))) Via.refl e0 S_N (g := (mkF m 1 #[.val (.ref aa)] [(.ref aa)])) rfl (hb hby d2_1)
  have pre36 : ∀ t, Steps p.tables e below (T35.setTop (mkF m 4 #[.val (.ref aa)] [(.ref aN), (.ref aa)])) t → Steps p.tables e below G0 t := by
    intro t k
    refine pre0 t ?_
    show Steps p.tables e below (s₁.setTop (mkF m 0 #[.val (.ref aa)] [])) _
    refine XS.aloadN X0.here hx rfl (hb hby d2_0) rfl rfl ?_
    show Steps p.tables e below (s₁.setTop (mkF m 1 #[.val (.ref aa)] [(.ref aa)])) _
    refine st35 _ ?_
    exact k
  by_cases hc4_37 : aa = aN
  · obtain ⟨fs, hr, hrun, hended, hW, hsame⟩ := X35.leave (v := some (.int (0 : Int32))) (fun h => by rw [Bd.returns] at h; cases h)
    refine ⟨_, _, pre36 _ ?_, hrun, hended, _, _, rfl, ?_, ⟨_, rfl⟩, hW, hsame.mono (by decide) (by decide)⟩
    · show Steps p.tables e below (T35.setTop (mkF m 4 #[.val (.ref aa)] [(.ref aN), (.ref aa)])) _
      refine Jvm.RoadKit.acmp (g := (mkF m 4 #[.val (.ref aa)] [(.ref aN), (.ref aa)])) X35 hx rfl rfl rfl (pc0 := 4) (pc' := 11) (same := true) rfl (hb hby d2_4) rfl (decide_eq_true (congrArg Value.ref hc4_37)) (by decide) (by decide) ?_
      show Steps p.tables e below (T35.setTop (mkF m 11 #[.val (.ref aa)] [])) _
      refine XS.iconst X35.here hx rfl (hb hby d2_11) ?_
      show Steps p.tables e below (T35.setTop (mkF m 12 #[.val (.ref aa)] [(.int (0 : Int32))])) _
      exact retN X35 hx (t := .boolean) Bd.returns (by simp) (hb hby d2_12) hr
    · show Q2 Z aa aN h0 n0 _ T35.heap _
      rw [e35]
      exact ⟨(by rw [if_pos hc4_37]), N0, rfl⟩
  · obtain ⟨fs, hr, hrun, hended, hW, hsame⟩ := X35.leave (v := some (.int (1 : Int32))) (fun h => by rw [Bd.returns] at h; cases h)
    refine ⟨_, _, pre36 _ ?_, hrun, hended, _, _, rfl, ?_, ⟨_, rfl⟩, hW, hsame.mono (by decide) (by decide)⟩
    · show Steps p.tables e below (T35.setTop (mkF m 4 #[.val (.ref aa)] [(.ref aN), (.ref aa)])) _
      refine Jvm.RoadKit.acmp (g := (mkF m 4 #[.val (.ref aa)] [(.ref aN), (.ref aa)])) X35 hx rfl rfl rfl (pc0 := 4) (pc' := 7) (same := false) rfl (hb hby d2_4) rfl (decide_eq_false fun q => hc4_37 (Value.ref.inj q)) (by decide) (by decide) ?_
      show Steps p.tables e below (T35.setTop (mkF m 7 #[.val (.ref aa)] [])) _
      refine XS.iconst X35.here hx rfl (hb hby d2_7) ?_
      show Steps p.tables e below (T35.setTop (mkF m 8 #[.val (.ref aa)] [(.int (1 : Int32))])) _
      refine XS.goto X35.here hx rfl (pc0 := 8) (pc' := 12) rfl (hb hby d2_8) (by decide) (by decide) ?_
      show Steps p.tables e below (T35.setTop (mkF m 12 #[.val (.ref aa)] [(.int (1 : Int32))])) _
      exact retN X35 hx (t := .boolean) Bd.returns (by simp) (hb hby d2_12) hr
    · show Q2 Z aa aN h0 n0 _ T35.heap _
      rw [e35]
      exact ⟨(by rw [if_neg hc4_37]), N0, rfl⟩
theorem d3_0 : decode prog_38_method_5_code 0 = .ok (.aload_n 0, 1) := by decide +kernel
theorem d3_1 : decode prog_38_method_5_code 1 = .ok (.getfield 59, 3) := by decide +kernel
theorem d3_4 : decode prog_38_method_5_code 4 = .ok (.ireturn, 1) := by decide +kernel
theorem ef_3 (m : MethodId) (x0 : Addr) : entryFrame m #[(.ref x0)] 1 = mkF m 0 #[.val (.ref x0)] [] := by first | (simp [entryFrame, mkF, argsToLocals, Value.category]; done) | rfl
def Q3 (Z : State) (aa : Addr) (vc : Int32) (h0 : Heap) (n0 : Nat) (v : Option Value) (h : Heap) (L : List Loc) : Prop := v = some (.int vc) ∧ Fr n0 L ∧ h = h0
set_option maxRecDepth 65536 in
set_option maxHeartbeats 40000000 in
theorem rm3 (l : Launch) (Z : State) (a0 : Array Value) (hw : ∀ d ∈ tables_1, d.before a0 Z = true) (ws : List Jvm.Cond) (aa : Addr) (vc : Int32) (h0 : Heap) (n0 : Nat) (Z0 : n0 ≤ h0.size) (Fc : Fld Z h0 aa "com/example/ilmi/ilmi/http/Status" "code" "I" (.int vc)) :
    MetFree l (⟨"com/example/ilmi/ilmi/http/Status", "code", "()I"⟩ : MethodName) (head1 (Jvm.Cond.code (⟨"com/example/ilmi/ilmi/http/Status", "code", "()I"⟩ : MethodName) prog_38_method_5_code 1 (some .int) :: ws) ({ frames := 0, cells := 0, slots := 0, locals := 0 } : Room)) (fun a U => a = #[(.ref aa)] ∧ Z.Warmed39 U.vm ∧ U.heap = h0) (fun _ _ _ _ _ => True) (fun _ U o U' => ∃ v L, o = .returned v ∧ Q3 Z aa vc h0 n0 v U'.heap L ∧ FrameEnd U o U' L ({ frames := 0, cells := 0, slots := 0, locals := 0 } : Room).cells ({ frames := 0, cells := 0, slots := 0, locals := 0 } : Room).slots) := by
  refine MetFree.of_bodySF (plainFor_of_name own_pn64) hisR ?_
  intro p e s m args below meth c s₁ Bd hml0 hP hK
  obtain ⟨rfl, hZ, hh⟩ := hP
  have hx := Bd.exec
  have hby := Bd.bytes
  have hml : c.maxLocals = 1 := hml0
  have hown : s.vm.findClass "com/example/ilmi/ilmi/http/Status" = some m.cls := findClass_of_methodNamed Bd.named
  have hnm := (name_of_methodNamed Bd.named Bd.method).1
  have X0 : Stand p l e ({ frames := 0, cells := 0, slots := 0, locals := 0 } : Room) s m #[(.ref aa)] below meth c s₁ [] 0 0 := Stand.of_body Bd
  have e0 : s₁.heap = h0 := by rw [← hh, Bd.state]; rfl
  have N0 := Fr.nil n0
  have pre0 : ∀ t, Steps p.tables e below (s₁.setTop (mkF m 0 #[.val (.ref aa)] [])) t → Steps p.tables e below (s₁.setTop (entryFrame m #[(.ref aa)] 1)) t := fun t k => castTop (ef_3 m aa) k
  generalize s₁.setTop (entryFrame m #[(.ref aa)] 1) = G0 at pre0 ⊢
  obtain ⟨T38, X38, e38, st38⟩ := getF X0 hx hZ hown (host := "") (Or.inl (hw _ (List.mem_of_getElem? (i := 20) rfl))) Via.refl e0 Fc (g := (mkF m 1 #[.val (.ref aa)] [(.ref aa)])) rfl rfl (hb hby d3_1)
  obtain ⟨fs, hr, hrun, hended, hW, hsame⟩ := X38.leave (v := some (.int vc)) (fun h => by rw [Bd.returns] at h; cases h)
  refine ⟨_, _, pre0 _ ?_, hrun, hended, _, _, rfl, ?_, ⟨_, rfl⟩, hW, hsame.mono (by decide) (by decide)⟩
  · show Steps p.tables e below (s₁.setTop (mkF m 0 #[.val (.ref aa)] [])) _
    refine XS.aloadN X0.here hx rfl (hb hby d3_0) rfl rfl ?_
    show Steps p.tables e below (s₁.setTop (mkF m 1 #[.val (.ref aa)] [(.ref aa)])) _
    refine st38 _ ?_
    show Steps p.tables e below (T38.setTop (mkF m 4 #[.val (.ref aa)] [(.int vc)])) _
    exact retI X38 hx Bd.returns (hb hby d3_4) hr
  · show Q3 Z aa vc h0 n0 _ T38.heap _
    rw [e38]
    exact ⟨rfl, N0, rfl⟩
theorem own_pd68 : parseMethodDescriptor "(I)Lcom/example/ilmi/ilmi/http/Status;" = some ⟨[.int], some (.object "com/example/ilmi/ilmi/http/Status")⟩ := by decide +kernel
theorem own_pd69 : parseMethodDescriptor "()Z" = some ⟨[], some .boolean⟩ := by decide +kernel
theorem own_pd70 : parseMethodDescriptor "()I" = some ⟨[], some .int⟩ := by decide +kernel
theorem ef_0 (m : MethodId) (x0 : Int32) : entryFrame m #[(.int x0)] maxLocals = mkF m 0 #[.val (.int x0), .unset, .unset, .unset, .unset, .unset] [] := by first | (simp [entryFrame, mkF, argsToLocals, Value.category, maxLocals]; done) | rfl
def Q0 (Z : State) (px : Int32) (a_OK : Addr) (a_NO_CONTENT : Addr) (a_BAD_REQUEST : Addr) (a_UNAUTHORIZED : Addr) (a_NOT_FOUND : Addr) (a_METHOD_NOT_ALLOWED : Addr) (a_REQUEST_TIMEOUT : Addr) (a_URI_TOO_LONG : Addr) (a_TOO_MANY_REQUESTS : Addr) (a_REQUEST_HEADER_FIELDS_TOO_LARGE : Addr) (a_INTERNAL_SERVER_ERROR : Addr) (a_HTTP_VERSION_NOT_SUPPORTED : Addr) (h0 : Heap) (n0 : Nat) (v : Option Value) (h : Heap) (L : List Loc) : Prop := v = some (.int (1 : Int32)) ∧ Fr n0 L
set_option maxRecDepth 65536 in
set_option maxHeartbeats 40000000 in
theorem rm0 (l : Launch) (Z : State) (a0 : Array Value) (hw : ∀ d ∈ tables_1, d.before a0 Z = true) (ws : List Jvm.Cond) (px : Int32) (a_OK : Addr) (a_NO_CONTENT : Addr) (a_BAD_REQUEST : Addr) (a_UNAUTHORIZED : Addr) (a_NOT_FOUND : Addr) (a_METHOD_NOT_ALLOWED : Addr) (a_REQUEST_TIMEOUT : Addr) (a_URI_TOO_LONG : Addr) (a_TOO_MANY_REQUESTS : Addr) (a_REQUEST_HEADER_FIELDS_TOO_LARGE : Addr) (a_INTERNAL_SERVER_ERROR : Addr) (a_HTTP_VERSION_NOT_SUPPORTED : Addr) (h0 : Heap) (n0 : Nat) (Z0 : n0 ≤ h0.size) (S_OK : Sta Z h0 "com/example/ilmi/ilmi/http/Status" "OK" "Lcom/example/ilmi/ilmi/http/Status;" (.ref a_OK)) (S_NO_CONTENT : Sta Z h0 "com/example/ilmi/ilmi/http/Status" "NO_CONTENT" "Lcom/example/ilmi/ilmi/http/Status;" (.ref a_NO_CONTENT)) (S_BAD_REQUEST : Sta Z h0 "com/example/ilmi/ilmi/http/Status" "BAD_REQUEST" "Lcom/example/ilmi/ilmi/http/Status;" (.ref a_BAD_REQUEST)) (S_UNAUTHORIZED : Sta Z h0 "com/example/ilmi/ilmi/http/Status" "UNAUTHORIZED" "Lcom/example/ilmi/ilmi/http/Status;" (.ref a_UNAUTHORIZED)) (S_NOT_FOUND : Sta Z h0 "com/example/ilmi/ilmi/http/Status" "NOT_FOUND" "Lcom/example/ilmi/ilmi/http/Status;" (.ref a_NOT_FOUND)) (S_METHOD_NOT_ALLOWED : Sta Z h0 "com/example/ilmi/ilmi/http/Status" "METHOD_NOT_ALLOWED" "Lcom/example/ilmi/ilmi/http/Status;" (.ref a_METHOD_NOT_ALLOWED)) (S_REQUEST_TIMEOUT : Sta Z h0 "com/example/ilmi/ilmi/http/Status" "REQUEST_TIMEOUT" "Lcom/example/ilmi/ilmi/http/Status;" (.ref a_REQUEST_TIMEOUT)) (S_URI_TOO_LONG : Sta Z h0 "com/example/ilmi/ilmi/http/Status" "URI_TOO_LONG" "Lcom/example/ilmi/ilmi/http/Status;" (.ref a_URI_TOO_LONG)) (S_TOO_MANY_REQUESTS : Sta Z h0 "com/example/ilmi/ilmi/http/Status" "TOO_MANY_REQUESTS" "Lcom/example/ilmi/ilmi/http/Status;" (.ref a_TOO_MANY_REQUESTS)) (S_REQUEST_HEADER_FIELDS_TOO_LARGE : Sta Z h0 "com/example/ilmi/ilmi/http/Status" "REQUEST_HEADER_FIELDS_TOO_LARGE" "Lcom/example/ilmi/ilmi/http/Status;" (.ref a_REQUEST_HEADER_FIELDS_TOO_LARGE)) (S_INTERNAL_SERVER_ERROR : Sta Z h0 "com/example/ilmi/ilmi/http/Status" "INTERNAL_SERVER_ERROR" "Lcom/example/ilmi/ilmi/http/Status;" (.ref a_INTERNAL_SERVER_ERROR)) (S_HTTP_VERSION_NOT_SUPPORTED : Sta Z h0 "com/example/ilmi/ilmi/http/Status" "HTTP_VERSION_NOT_SUPPORTED" "Lcom/example/ilmi/ilmi/http/Status;" (.ref a_HTTP_VERSION_NOT_SUPPORTED)) (E_OK : Exa Z h0 a_OK "com/example/ilmi/ilmi/http/Status") (E_NO_CONTENT : Exa Z h0 a_NO_CONTENT "com/example/ilmi/ilmi/http/Status") (E_BAD_REQUEST : Exa Z h0 a_BAD_REQUEST "com/example/ilmi/ilmi/http/Status") (E_UNAUTHORIZED : Exa Z h0 a_UNAUTHORIZED "com/example/ilmi/ilmi/http/Status") (E_NOT_FOUND : Exa Z h0 a_NOT_FOUND "com/example/ilmi/ilmi/http/Status") (E_METHOD_NOT_ALLOWED : Exa Z h0 a_METHOD_NOT_ALLOWED "com/example/ilmi/ilmi/http/Status") (E_REQUEST_TIMEOUT : Exa Z h0 a_REQUEST_TIMEOUT "com/example/ilmi/ilmi/http/Status") (E_URI_TOO_LONG : Exa Z h0 a_URI_TOO_LONG "com/example/ilmi/ilmi/http/Status") (E_TOO_MANY_REQUESTS : Exa Z h0 a_TOO_MANY_REQUESTS "com/example/ilmi/ilmi/http/Status") (E_REQUEST_HEADER_FIELDS_TOO_LARGE : Exa Z h0 a_REQUEST_HEADER_FIELDS_TOO_LARGE "com/example/ilmi/ilmi/http/Status") (E_INTERNAL_SERVER_ERROR : Exa Z h0 a_INTERNAL_SERVER_ERROR "com/example/ilmi/ilmi/http/Status") (E_HTTP_VERSION_NOT_SUPPORTED : Exa Z h0 a_HTTP_VERSION_NOT_SUPPORTED "com/example/ilmi/ilmi/http/Status") (F_OK : Fld Z h0 a_OK "com/example/ilmi/ilmi/http/Status" "code" "I" (.int (200 : Int32))) (F_NO_CONTENT : Fld Z h0 a_NO_CONTENT "com/example/ilmi/ilmi/http/Status" "code" "I" (.int (204 : Int32))) (F_BAD_REQUEST : Fld Z h0 a_BAD_REQUEST "com/example/ilmi/ilmi/http/Status" "code" "I" (.int (400 : Int32))) (F_UNAUTHORIZED : Fld Z h0 a_UNAUTHORIZED "com/example/ilmi/ilmi/http/Status" "code" "I" (.int (401 : Int32))) (F_NOT_FOUND : Fld Z h0 a_NOT_FOUND "com/example/ilmi/ilmi/http/Status" "code" "I" (.int (404 : Int32))) (F_METHOD_NOT_ALLOWED : Fld Z h0 a_METHOD_NOT_ALLOWED "com/example/ilmi/ilmi/http/Status" "code" "I" (.int (405 : Int32))) (F_REQUEST_TIMEOUT : Fld Z h0 a_REQUEST_TIMEOUT "com/example/ilmi/ilmi/http/Status" "code" "I" (.int (408 : Int32))) (F_URI_TOO_LONG : Fld Z h0 a_URI_TOO_LONG "com/example/ilmi/ilmi/http/Status" "code" "I" (.int (414 : Int32))) (F_TOO_MANY_REQUESTS : Fld Z h0 a_TOO_MANY_REQUESTS "com/example/ilmi/ilmi/http/Status" "code" "I" (.int (429 : Int32))) (F_REQUEST_HEADER_FIELDS_TOO_LARGE : Fld Z h0 a_REQUEST_HEADER_FIELDS_TOO_LARGE "com/example/ilmi/ilmi/http/Status" "code" "I" (.int (431 : Int32))) (F_INTERNAL_SERVER_ERROR : Fld Z h0 a_INTERNAL_SERVER_ERROR "com/example/ilmi/ilmi/http/Status" "code" "I" (.int (500 : Int32))) (F_HTTP_VERSION_NOT_SUPPORTED : Fld Z h0 a_HTTP_VERSION_NOT_SUPPORTED "com/example/ilmi/ilmi/http/Status" "code" "I" (.int (505 : Int32))) :
    MetFree l x (head1 (Jvm.Cond.code x code maxLocals ret :: ws) room_1) (fun a U => a = #[(.int px)] ∧ Z.Warmed39 U.vm ∧ U.heap = h0) (fun _ _ _ _ _ => True) (fun _ U o U' => ∃ v L, o = .returned v ∧ Q0 Z px a_OK a_NO_CONTENT a_BAD_REQUEST a_UNAUTHORIZED a_NOT_FOUND a_METHOD_NOT_ALLOWED a_REQUEST_TIMEOUT a_URI_TOO_LONG a_TOO_MANY_REQUESTS a_REQUEST_HEADER_FIELDS_TOO_LARGE a_INTERNAL_SERVER_ERROR a_HTTP_VERSION_NOT_SUPPORTED h0 n0 v U'.heap L ∧ FrameEnd U o U' L room_1.cells room_1.slots) := by
  refine MetFree.of_bodySF (plainFor_of_name own_pn56) hisR ?_
  intro p e s m args below meth c s₁ Bd hml0 hP hK
  obtain ⟨rfl, hZ, hh⟩ := hP
  have hx := Bd.exec
  have hby := Bd.bytes
  have hml : c.maxLocals = 6 := hml0
  have hown : s.vm.findClass "com/example/ilmi/ilmi/http/StatusHasContentPinLaw" = some m.cls := findClass_of_methodNamed Bd.named
  have hnm := (name_of_methodNamed Bd.named Bd.method).1
  have X0 : Stand p l e room_1 s m #[(.int px)] below meth c s₁ [] 0 0 := Stand.of_body Bd
  have e0 : s₁.heap = h0 := by rw [← hh, Bd.state]; rfl
  have N0 := Fr.nil n0
  have pre0 : ∀ t, Steps p.tables e below (s₁.setTop (mkF m 0 #[.val (.int px), .unset, .unset, .unset, .unset, .unset] [])) t → Steps p.tables e below (s₁.setTop (entryFrame m #[(.int px)] maxLocals)) t := fun t k => castTop (ef_0 m px) k
  generalize s₁.setTop (entryFrame m #[(.int px)] maxLocals) = G0 at pre0 ⊢
  obtain ⟨_, _, ⟨T39, L39, k39, n39⟩, -, X39, ⟨Lc39, hQ39, l39, y39, z39⟩, st39⟩ := Jvm.LawKit.callS X0 hx (y := (⟨"com/example/ilmi/ilmi/http/StatusHasContentPinLaw", "pick", "(I)Lcom/example/ilmi/ilmi/http/Status;"⟩ : MethodName)) hown (mvT hZ (hw _ (List.mem_of_getElem? (i := 1) rfl))) (mvT hZ (hw _ (List.mem_of_getElem? (i := 2) rfl))) (mvT hZ (hw _ (List.mem_of_getElem? (i := 3) rfl))) (mvT hZ (hw _ (List.mem_of_getElem? (i := 4) rfl))) (by decide) (backOf (W := 0) (rm1 l Z a0 hw [] ((px &&& (2147483647 : Int32)) % (12 : Int32)) a_OK a_NO_CONTENT a_BAD_REQUEST a_UNAUTHORIZED a_NOT_FOUND a_METHOD_NOT_ALLOWED a_REQUEST_TIMEOUT a_URI_TOO_LONG a_TOO_MANY_REQUESTS a_REQUEST_HEADER_FIELDS_TOO_LARGE a_INTERNAL_SERVER_ERROR a_HTTP_VERSION_NOT_SUPPORTED h0 n0 Z0 S_OK S_NO_CONTENT S_BAD_REQUEST S_UNAUTHORIZED S_NOT_FOUND S_METHOD_NOT_ALLOWED S_REQUEST_TIMEOUT S_URI_TOO_LONG S_TOO_MANY_REQUESTS S_REQUEST_HEADER_FIELDS_TOO_LARGE S_INTERNAL_SERVER_ERROR S_HTTP_VERSION_NOT_SUPPORTED E_OK E_NO_CONTENT E_BAD_REQUEST E_UNAUTHORIZED E_NOT_FOUND E_METHOD_NOT_ALLOWED E_REQUEST_TIMEOUT E_URI_TOO_LONG E_TOO_MANY_REQUESTS E_REQUEST_HEADER_FIELDS_TOO_LARGE E_INTERNAL_SERVER_ERROR E_HTTP_VERSION_NOT_SUPPORTED F_OK F_NO_CONTENT F_BAD_REQUEST F_UNAUTHORIZED F_NOT_FOUND F_METHOD_NOT_ALLOWED F_REQUEST_TIMEOUT F_URI_TOO_LONG F_TOO_MANY_REQUESTS F_REQUEST_HEADER_FIELDS_TOO_LARGE F_INTERNAL_SERVER_ERROR F_HTTP_VERSION_NOT_SUPPORTED) hZ (hw _ (List.mem_of_getElem? (i := 4) rfl)) (hw _ (List.mem_of_getElem? (i := 3) rfl)) (by decide) (by decide)) (g := (mkF m 9 #[.val (.int px), .val (.int ((px &&& (2147483647 : Int32)) % (12 : Int32))), .unset, .unset, .unset, .unset] [(.int ((px &&& (2147483647 : Int32)) % (12 : Int32)))])) rfl (by rw [hml]; rfl) (argsL := [(.int ((px &&& (2147483647 : Int32)) % (12 : Int32)))]) (rest := []) (lenOf own_pd68 rfl) rfl (by show 2 * 0 + _ ≤ _; exact Nat.le_of_eq rfl) (hb hby at_9) (fun _ _ => ⟨rfl, e0, (by decide : 0 + 0 ≤ _), (by decide : 0 + 0 ≤ _)⟩)
  dsimp only [Pt.U, Pt.locs, Pt.cells, Pt.slots] at X39 l39 y39 z39 st39 hQ39
  subst l39 y39 z39
  obtain ⟨rro_39, rco_39, rfl, Nq39, e39, p39_0, p39_1, p39_2⟩ := hQ39
  have N39 := Fr.app N0 Nq39
  have pre40 : ∀ t, Steps p.tables e below (T39.setTop (mkF m 12 #[.val (.int px), .val (.int ((px &&& (2147483647 : Int32)) % (12 : Int32))), .unset, .unset, .unset, .unset] [(.ref rro_39)])) t → Steps p.tables e below G0 t := by
    intro t k
    refine pre0 t ?_
    show Steps p.tables e below (s₁.setTop (mkF m 0 #[.val (.int px), .unset, .unset, .unset, .unset, .unset] [])) _
    refine XS.iloadN X0.here hx rfl (hb hby at_0) rfl ?_
    show Steps p.tables e below (s₁.setTop (mkF m 1 #[.val (.int px), .unset, .unset, .unset, .unset, .unset] [(.int px)])) _
    refine X0.ldcInt hx hown (mvT hZ (hw _ (List.mem_of_getElem? (i := 0) rfl))) (g := (mkF m 1 #[.val (.int px), .unset, .unset, .unset, .unset, .unset] [(.int px)])) rfl (hb hby at_1) _ ?_
    show Steps p.tables e below (s₁.setTop (mkF m 3 #[.val (.int px), .unset, .unset, .unset, .unset, .unset] [(.int (2147483647 : Int32)), (.int px)])) _
    refine XS.iand X0.here hx rfl (hb hby at_3) rfl ?_
    show Steps p.tables e below (s₁.setTop (mkF m 4 #[.val (.int px), .unset, .unset, .unset, .unset, .unset] [(.int (px &&& (2147483647 : Int32)))])) _
    refine XS.bipush X0.here hx rfl (hb hby at_4) ?_
    show Steps p.tables e below (s₁.setTop (mkF m 6 #[.val (.int px), .unset, .unset, .unset, .unset, .unset] [(.int (12 : Int32)), (.int (px &&& (2147483647 : Int32)))])) _
    refine iremM X0 hx rfl (hb hby at_6) rfl (by decide) ?_
    show Steps p.tables e below (s₁.setTop (mkF m 7 #[.val (.int px), .unset, .unset, .unset, .unset, .unset] [(.int ((px &&& (2147483647 : Int32)) % (12 : Int32)))])) _
    refine XS.istoreN X0.here hx rfl (hb hby at_7) rfl (l' := #[.val (.int px), .val (.int ((px &&& (2147483647 : Int32)) % (12 : Int32))), .unset, .unset, .unset, .unset]) rfl ?_
    show Steps p.tables e below (s₁.setTop (mkF m 8 #[.val (.int px), .val (.int ((px &&& (2147483647 : Int32)) % (12 : Int32))), .unset, .unset, .unset, .unset] [])) _
    refine XS.iloadN X0.here hx rfl (hb hby at_8) rfl ?_
    show Steps p.tables e below (s₁.setTop (mkF m 9 #[.val (.int px), .val (.int ((px &&& (2147483647 : Int32)) % (12 : Int32))), .unset, .unset, .unset, .unset] [(.int ((px &&& (2147483647 : Int32)) % (12 : Int32)))])) _
    refine st39 _ ?_
    exact k
  obtain ⟨Tm47, lm47, v28_46, Xm47, em47, Nm47, hv49, pre48⟩ : ∃ (Tm47 : State) (lm47 : List Loc) (v28_46 : Int32), Stand p l e room_1 s m #[(.int px)] below meth c Tm47 lm47 0 0 ∧ Tm47.heap = h0 ∧ Fr n0 lm47 ∧ (v28_46 = if ((px &&& (2147483647 : Int32)) % (12 : Int32)) = 1 then 0 else 1) ∧ ∀ t, Steps p.tables e below (Tm47.setTop (mkF m 28 #[.val (.int px), .val (.int ((px &&& (2147483647 : Int32)) % (12 : Int32))), .val (.ref rro_39), .val (.int (if rro_39 = a_NO_CONTENT then (0 : Int32) else 1)), .unset, .unset] [(.int v28_46)])) t → Steps p.tables e below G0 t := by
    obtain ⟨cq41, kq41, q41a, q41b, q41c⟩ := isOf hZ e39 p39_0
    obtain ⟨_, _, ⟨T41, L41, k41, n41⟩, -, X41, ⟨Lc41, hQ41, l41, y41, z41⟩, st41⟩ := X39.virtualBack hx (y := (⟨"com/example/ilmi/ilmi/http/Status", "hasContent", "()Z"⟩ : MethodName)) (z := (⟨"com/example/ilmi/ilmi/http/Status", "hasContent", "()Z"⟩ : MethodName)) hown (mvT hZ (hw _ (List.mem_of_getElem? (i := 8) rfl))) (mvT hZ (hw _ (List.mem_of_getElem? (i := 9) rfl))) (notFace_of_selects (args := #[]) (mvT hZ (hw _ (List.mem_of_getElem? (i := 11) rfl)))) (mvT hZ (hw _ (List.mem_of_getElem? (i := 11) rfl))) (mvT hZ (hw _ (List.mem_of_getElem? (i := 10) rfl))) (by decide) (backOf (W := 0) (rm2 l Z a0 hw [] rro_39 a_NO_CONTENT h0 n0 Z0 S_NO_CONTENT) hZ (hw _ (List.mem_of_getElem? (i := 12) rfl)) (hw _ (List.mem_of_getElem? (i := 6) rfl)) (by decide) (by decide)) q41a q41c (g := (mkF m 14 #[.val (.int px), .val (.int ((px &&& (2147483647 : Int32)) % (12 : Int32))), .val (.ref rro_39), .unset, .unset, .unset] [(.ref rro_39)])) rfl (by rw [hml]; rfl) (Steps.refl _) (argsL := []) (rest := []) (lenOf own_pd69 rfl) rfl (by show 2 * 0 + _ ≤ _; exact Nat.le_of_eq rfl) (hb hby at_14) (fun _ _ => ⟨rfl, e39, (by decide : 0 + 0 ≤ _), (by decide : 0 + 0 ≤ _)⟩)
    dsimp only [Pt.U, Pt.locs, Pt.cells, Pt.slots] at X41 l41 y41 z41 st41 hQ41
    subst l41 y41 z41
    obtain ⟨rfl, Nq41, e41⟩ := hQ41
    have N41 := Fr.app N39 Nq41
    have pre42 : ∀ t, Steps p.tables e below (T41.setTop (mkF m 20 #[.val (.int px), .val (.int ((px &&& (2147483647 : Int32)) % (12 : Int32))), .val (.ref rro_39), .val (.int (if rro_39 = a_NO_CONTENT then (0 : Int32) else 1)), .unset, .unset] [(.int (1 : Int32)), (.int ((px &&& (2147483647 : Int32)) % (12 : Int32)))])) t → Steps p.tables e below G0 t := by
      intro t k
      refine pre40 t ?_
      show Steps p.tables e below (T39.setTop (mkF m 12 #[.val (.int px), .val (.int ((px &&& (2147483647 : Int32)) % (12 : Int32))), .unset, .unset, .unset, .unset] [(.ref rro_39)])) _
      refine XS.astoreN X39.here hx rfl (hb hby at_12) rfl rfl (l' := #[.val (.int px), .val (.int ((px &&& (2147483647 : Int32)) % (12 : Int32))), .val (.ref rro_39), .unset, .unset, .unset]) rfl ?_
      show Steps p.tables e below (T39.setTop (mkF m 13 #[.val (.int px), .val (.int ((px &&& (2147483647 : Int32)) % (12 : Int32))), .val (.ref rro_39), .unset, .unset, .unset] [])) _
      refine XS.aloadN X39.here hx rfl (hb hby at_13) rfl rfl ?_
      show Steps p.tables e below (T39.setTop (mkF m 14 #[.val (.int px), .val (.int ((px &&& (2147483647 : Int32)) % (12 : Int32))), .val (.ref rro_39), .unset, .unset, .unset] [(.ref rro_39)])) _
      refine st41.trans ?_
      show Steps p.tables e below (T41.setTop (mkF m 17 #[.val (.int px), .val (.int ((px &&& (2147483647 : Int32)) % (12 : Int32))), .val (.ref rro_39), .unset, .unset, .unset] [(.int (if rro_39 = a_NO_CONTENT then (0 : Int32) else 1))])) _
      refine XS.istoreN X41.here hx rfl (hb hby at_17) rfl (l' := #[.val (.int px), .val (.int ((px &&& (2147483647 : Int32)) % (12 : Int32))), .val (.ref rro_39), .val (.int (if rro_39 = a_NO_CONTENT then (0 : Int32) else 1)), .unset, .unset]) rfl ?_
      show Steps p.tables e below (T41.setTop (mkF m 18 #[.val (.int px), .val (.int ((px &&& (2147483647 : Int32)) % (12 : Int32))), .val (.ref rro_39), .val (.int (if rro_39 = a_NO_CONTENT then (0 : Int32) else 1)), .unset, .unset] [])) _
      refine XS.iloadN X41.here hx rfl (hb hby at_18) rfl ?_
      show Steps p.tables e below (T41.setTop (mkF m 19 #[.val (.int px), .val (.int ((px &&& (2147483647 : Int32)) % (12 : Int32))), .val (.ref rro_39), .val (.int (if rro_39 = a_NO_CONTENT then (0 : Int32) else 1)), .unset, .unset] [(.int ((px &&& (2147483647 : Int32)) % (12 : Int32)))])) _
      refine XS.iconst X41.here hx rfl (hb hby at_19) ?_
      exact k
    by_cases hc20_43 : ((px &&& (2147483647 : Int32)) % (12 : Int32)) = (1 : Int32)
    · have pre44 : ∀ t, Steps p.tables e below (T41.setTop (mkF m 28 #[.val (.int px), .val (.int ((px &&& (2147483647 : Int32)) % (12 : Int32))), .val (.ref rro_39), .val (.int (if rro_39 = a_NO_CONTENT then (0 : Int32) else 1)), .unset, .unset] [(.int (0 : Int32))])) t → Steps p.tables e below G0 t := by
        intro t k
        refine pre42 t ?_
        show Steps p.tables e below (T41.setTop (mkF m 20 #[.val (.int px), .val (.int ((px &&& (2147483647 : Int32)) % (12 : Int32))), .val (.ref rro_39), .val (.int (if rro_39 = a_NO_CONTENT then (0 : Int32) else 1)), .unset, .unset] [(.int (1 : Int32)), (.int ((px &&& (2147483647 : Int32)) % (12 : Int32)))])) _
        refine XS.icmpYes X41.here hx rfl (pc0 := 20) (pc' := 27) rfl (hb hby at_20) rfl (teq hc20_43).1 (by decide) (by decide) ?_
        show Steps p.tables e below (T41.setTop (mkF m 27 #[.val (.int px), .val (.int ((px &&& (2147483647 : Int32)) % (12 : Int32))), .val (.ref rro_39), .val (.int (if rro_39 = a_NO_CONTENT then (0 : Int32) else 1)), .unset, .unset] [])) _
        refine XS.iconst X41.here hx rfl (hb hby at_27) ?_
        exact k
      exact ⟨T41, _, (0 : Int32), X41, e41, N41, (by simp [hc20_43]), pre44⟩
    · have pre45 : ∀ t, Steps p.tables e below (T41.setTop (mkF m 28 #[.val (.int px), .val (.int ((px &&& (2147483647 : Int32)) % (12 : Int32))), .val (.ref rro_39), .val (.int (if rro_39 = a_NO_CONTENT then (0 : Int32) else 1)), .unset, .unset] [(.int (1 : Int32))])) t → Steps p.tables e below G0 t := by
        intro t k
        refine pre42 t ?_
        show Steps p.tables e below (T41.setTop (mkF m 20 #[.val (.int px), .val (.int ((px &&& (2147483647 : Int32)) % (12 : Int32))), .val (.ref rro_39), .val (.int (if rro_39 = a_NO_CONTENT then (0 : Int32) else 1)), .unset, .unset] [(.int (1 : Int32)), (.int ((px &&& (2147483647 : Int32)) % (12 : Int32)))])) _
        refine XS.icmpNo X41.here hx rfl (hb hby at_20) rfl (feq hc20_43).1 ?_
        show Steps p.tables e below (T41.setTop (mkF m 23 #[.val (.int px), .val (.int ((px &&& (2147483647 : Int32)) % (12 : Int32))), .val (.ref rro_39), .val (.int (if rro_39 = a_NO_CONTENT then (0 : Int32) else 1)), .unset, .unset] [])) _
        refine XS.iconst X41.here hx rfl (hb hby at_23) ?_
        show Steps p.tables e below (T41.setTop (mkF m 24 #[.val (.int px), .val (.int ((px &&& (2147483647 : Int32)) % (12 : Int32))), .val (.ref rro_39), .val (.int (if rro_39 = a_NO_CONTENT then (0 : Int32) else 1)), .unset, .unset] [(.int (1 : Int32))])) _
        refine XS.goto X41.here hx rfl (pc0 := 24) (pc' := 28) rfl (hb hby at_24) (by decide) (by decide) ?_
        exact k
      exact ⟨T41, _, (1 : Int32), X41, e41, N41, (by simp [hc20_43]), pre45⟩
  obtain ⟨cq50, kq50, q50a, q50b, q50c⟩ := isOf hZ em47 p39_0
  obtain ⟨_, _, ⟨T50, L50, k50, n50⟩, -, X50, ⟨Lc50, hQ50, l50, y50, z50⟩, st50⟩ := Xm47.virtualBack hx (y := (⟨"com/example/ilmi/ilmi/http/Status", "code", "()I"⟩ : MethodName)) (z := (⟨"com/example/ilmi/ilmi/http/Status", "code", "()I"⟩ : MethodName)) hown (mvT hZ (hw _ (List.mem_of_getElem? (i := 15) rfl))) (mvT hZ (hw _ (List.mem_of_getElem? (i := 16) rfl))) (notFace_of_selects (args := #[]) (mvT hZ (hw _ (List.mem_of_getElem? (i := 18) rfl)))) (mvT hZ (hw _ (List.mem_of_getElem? (i := 18) rfl))) (mvT hZ (hw _ (List.mem_of_getElem? (i := 17) rfl))) (by decide) (backOf (W := 0) (rm3 l Z a0 hw [] rro_39 rco_39 h0 n0 Z0 p39_1) hZ (hw _ (List.mem_of_getElem? (i := 19) rfl)) (hw _ (List.mem_of_getElem? (i := 6) rfl)) (by decide) (by decide)) q50a q50c (g := (mkF m 31 #[.val (.int px), .val (.int ((px &&& (2147483647 : Int32)) % (12 : Int32))), .val (.ref rro_39), .val (.int (if rro_39 = a_NO_CONTENT then (0 : Int32) else 1)), .val (.int v28_46), .unset] [(.ref rro_39)])) rfl (by rw [hml]; rfl) (Steps.refl _) (argsL := []) (rest := []) (lenOf own_pd70 rfl) rfl (by show 2 * 0 + _ ≤ _; exact Nat.le_of_eq rfl) (hb hby at_31) (fun _ _ => ⟨rfl, em47, (by decide : 0 + 0 ≤ _), (by decide : 0 + 0 ≤ _)⟩)
  dsimp only [Pt.U, Pt.locs, Pt.cells, Pt.slots] at X50 l50 y50 z50 st50 hQ50
  subst l50 y50 z50
  obtain ⟨rfl, Nq50, e50⟩ := hQ50
  have N50 := Fr.app Nm47 Nq50
  have pre51 : ∀ t, Steps p.tables e below (T50.setTop (mkF m 37 #[.val (.int px), .val (.int ((px &&& (2147483647 : Int32)) % (12 : Int32))), .val (.ref rro_39), .val (.int (if rro_39 = a_NO_CONTENT then (0 : Int32) else 1)), .val (.int v28_46), .unset] [(.int (204 : Int32)), (.int rco_39)])) t → Steps p.tables e below G0 t := by
    intro t k
    refine pre48 t ?_
    show Steps p.tables e below (Tm47.setTop (mkF m 28 #[.val (.int px), .val (.int ((px &&& (2147483647 : Int32)) % (12 : Int32))), .val (.ref rro_39), .val (.int (if rro_39 = a_NO_CONTENT then (0 : Int32) else 1)), .unset, .unset] [(.int v28_46)])) _
    refine XS.istore Xm47.here hx rfl (hb hby at_28) rfl (l' := #[.val (.int px), .val (.int ((px &&& (2147483647 : Int32)) % (12 : Int32))), .val (.ref rro_39), .val (.int (if rro_39 = a_NO_CONTENT then (0 : Int32) else 1)), .val (.int v28_46), .unset]) rfl ?_
    show Steps p.tables e below (Tm47.setTop (mkF m 30 #[.val (.int px), .val (.int ((px &&& (2147483647 : Int32)) % (12 : Int32))), .val (.ref rro_39), .val (.int (if rro_39 = a_NO_CONTENT then (0 : Int32) else 1)), .val (.int v28_46), .unset] [])) _
    refine XS.aloadN Xm47.here hx rfl (hb hby at_30) rfl rfl ?_
    show Steps p.tables e below (Tm47.setTop (mkF m 31 #[.val (.int px), .val (.int ((px &&& (2147483647 : Int32)) % (12 : Int32))), .val (.ref rro_39), .val (.int (if rro_39 = a_NO_CONTENT then (0 : Int32) else 1)), .val (.int v28_46), .unset] [(.ref rro_39)])) _
    refine st50.trans ?_
    show Steps p.tables e below (T50.setTop (mkF m 34 #[.val (.int px), .val (.int ((px &&& (2147483647 : Int32)) % (12 : Int32))), .val (.ref rro_39), .val (.int (if rro_39 = a_NO_CONTENT then (0 : Int32) else 1)), .val (.int v28_46), .unset] [(.int rco_39)])) _
    refine XS.sipush X50.here hx rfl (hb hby at_34) ?_
    exact k
  obtain ⟨v45_55, hv58, pre57⟩ : ∃ (v45_55 : Int32), (v45_55 = if rco_39 = 204 then 0 else 1) ∧ ∀ t, Steps p.tables e below (T50.setTop (mkF m 45 #[.val (.int px), .val (.int ((px &&& (2147483647 : Int32)) % (12 : Int32))), .val (.ref rro_39), .val (.int (if rro_39 = a_NO_CONTENT then (0 : Int32) else 1)), .val (.int v28_46), .unset] [(.int v45_55)])) t → Steps p.tables e below G0 t := by
    by_cases hc37_52 : rco_39 = (204 : Int32)
    · have pre53 : ∀ t, Steps p.tables e below (T50.setTop (mkF m 45 #[.val (.int px), .val (.int ((px &&& (2147483647 : Int32)) % (12 : Int32))), .val (.ref rro_39), .val (.int (if rro_39 = a_NO_CONTENT then (0 : Int32) else 1)), .val (.int v28_46), .unset] [(.int (0 : Int32))])) t → Steps p.tables e below G0 t := by
        intro t k
        refine pre51 t ?_
        show Steps p.tables e below (T50.setTop (mkF m 37 #[.val (.int px), .val (.int ((px &&& (2147483647 : Int32)) % (12 : Int32))), .val (.ref rro_39), .val (.int (if rro_39 = a_NO_CONTENT then (0 : Int32) else 1)), .val (.int v28_46), .unset] [(.int (204 : Int32)), (.int rco_39)])) _
        refine XS.icmpYes X50.here hx rfl (pc0 := 37) (pc' := 44) rfl (hb hby at_37) rfl (teq hc37_52).1 (by decide) (by decide) ?_
        show Steps p.tables e below (T50.setTop (mkF m 44 #[.val (.int px), .val (.int ((px &&& (2147483647 : Int32)) % (12 : Int32))), .val (.ref rro_39), .val (.int (if rro_39 = a_NO_CONTENT then (0 : Int32) else 1)), .val (.int v28_46), .unset] [])) _
        refine XS.iconst X50.here hx rfl (hb hby at_44) ?_
        exact k
      exact ⟨(0 : Int32), (by simp [hc37_52]), pre53⟩
    · have pre54 : ∀ t, Steps p.tables e below (T50.setTop (mkF m 45 #[.val (.int px), .val (.int ((px &&& (2147483647 : Int32)) % (12 : Int32))), .val (.ref rro_39), .val (.int (if rro_39 = a_NO_CONTENT then (0 : Int32) else 1)), .val (.int v28_46), .unset] [(.int (1 : Int32))])) t → Steps p.tables e below G0 t := by
        intro t k
        refine pre51 t ?_
        show Steps p.tables e below (T50.setTop (mkF m 37 #[.val (.int px), .val (.int ((px &&& (2147483647 : Int32)) % (12 : Int32))), .val (.ref rro_39), .val (.int (if rro_39 = a_NO_CONTENT then (0 : Int32) else 1)), .val (.int v28_46), .unset] [(.int (204 : Int32)), (.int rco_39)])) _
        refine XS.icmpNo X50.here hx rfl (hb hby at_37) rfl (feq hc37_52).1 ?_
        show Steps p.tables e below (T50.setTop (mkF m 40 #[.val (.int px), .val (.int ((px &&& (2147483647 : Int32)) % (12 : Int32))), .val (.ref rro_39), .val (.int (if rro_39 = a_NO_CONTENT then (0 : Int32) else 1)), .val (.int v28_46), .unset] [])) _
        refine XS.iconst X50.here hx rfl (hb hby at_40) ?_
        show Steps p.tables e below (T50.setTop (mkF m 41 #[.val (.int px), .val (.int ((px &&& (2147483647 : Int32)) % (12 : Int32))), .val (.ref rro_39), .val (.int (if rro_39 = a_NO_CONTENT then (0 : Int32) else 1)), .val (.int v28_46), .unset] [(.int (1 : Int32))])) _
        refine XS.goto X50.here hx rfl (pc0 := 41) (pc' := 45) rfl (hb hby at_41) (by decide) (by decide) ?_
        exact k
      exact ⟨(1 : Int32), (by simp [hc37_52]), pre54⟩
  obtain ⟨fs, hr, hrun, hended, hW, hsame⟩ := X50.leave (v := some (.int (1 : Int32))) (fun h => by rw [Bd.returns] at h; cases h)
  refine ⟨_, _, pre57 _ ?_, hrun, hended, _, _, rfl, ?_, ⟨_, rfl⟩, hW, hsame.mono (by decide) (by decide)⟩
  · show Steps p.tables e below (T50.setTop (mkF m 45 #[.val (.int px), .val (.int ((px &&& (2147483647 : Int32)) % (12 : Int32))), .val (.ref rro_39), .val (.int (if rro_39 = a_NO_CONTENT then (0 : Int32) else 1)), .val (.int v28_46), .unset] [(.int v45_55)])) _
    refine XS.istore X50.here hx rfl (hb hby at_45) rfl (l' := #[.val (.int px), .val (.int ((px &&& (2147483647 : Int32)) % (12 : Int32))), .val (.ref rro_39), .val (.int (if rro_39 = a_NO_CONTENT then (0 : Int32) else 1)), .val (.int v28_46), .val (.int v45_55)]) rfl ?_
    show Steps p.tables e below (T50.setTop (mkF m 47 #[.val (.int px), .val (.int ((px &&& (2147483647 : Int32)) % (12 : Int32))), .val (.ref rro_39), .val (.int (if rro_39 = a_NO_CONTENT then (0 : Int32) else 1)), .val (.int v28_46), .val (.int v45_55)] [])) _
    refine XS.iloadN X50.here hx rfl (hb hby at_47) rfl ?_
    show Steps p.tables e below (T50.setTop (mkF m 48 #[.val (.int px), .val (.int ((px &&& (2147483647 : Int32)) % (12 : Int32))), .val (.ref rro_39), .val (.int (if rro_39 = a_NO_CONTENT then (0 : Int32) else 1)), .val (.int v28_46), .val (.int v45_55)] [(.int (if rro_39 = a_NO_CONTENT then (0 : Int32) else 1))])) _
    refine XS.iload X50.here hx rfl (hb hby at_48) rfl ?_
    show Steps p.tables e below (T50.setTop (mkF m 50 #[.val (.int px), .val (.int ((px &&& (2147483647 : Int32)) % (12 : Int32))), .val (.ref rro_39), .val (.int (if rro_39 = a_NO_CONTENT then (0 : Int32) else 1)), .val (.int v28_46), .val (.int v45_55)] [(.int v28_46), (.int (if rro_39 = a_NO_CONTENT then (0 : Int32) else 1))])) _
    refine XS.icmpNo X50.here hx rfl (hb hby at_50) rfl (teq (own_1 p39_2 hv49 : ((if rro_39 = a_NO_CONTENT then (0 : Int32) else 1) = v28_46))).2 ?_
    show Steps p.tables e below (T50.setTop (mkF m 53 #[.val (.int px), .val (.int ((px &&& (2147483647 : Int32)) % (12 : Int32))), .val (.ref rro_39), .val (.int (if rro_39 = a_NO_CONTENT then (0 : Int32) else 1)), .val (.int v28_46), .val (.int v45_55)] [])) _
    refine XS.iloadN X50.here hx rfl (hb hby at_53) rfl ?_
    show Steps p.tables e below (T50.setTop (mkF m 54 #[.val (.int px), .val (.int ((px &&& (2147483647 : Int32)) % (12 : Int32))), .val (.ref rro_39), .val (.int (if rro_39 = a_NO_CONTENT then (0 : Int32) else 1)), .val (.int v28_46), .val (.int v45_55)] [(.int (if rro_39 = a_NO_CONTENT then (0 : Int32) else 1))])) _
    refine XS.iload X50.here hx rfl (hb hby at_54) rfl ?_
    show Steps p.tables e below (T50.setTop (mkF m 56 #[.val (.int px), .val (.int ((px &&& (2147483647 : Int32)) % (12 : Int32))), .val (.ref rro_39), .val (.int (if rro_39 = a_NO_CONTENT then (0 : Int32) else 1)), .val (.int v28_46), .val (.int v45_55)] [(.int v45_55), (.int (if rro_39 = a_NO_CONTENT then (0 : Int32) else 1))])) _
    refine XS.icmpNo X50.here hx rfl (hb hby at_56) rfl (teq (own_2 p39_2 hv58 : ((if rro_39 = a_NO_CONTENT then (0 : Int32) else 1) = v45_55))).2 ?_
    show Steps p.tables e below (T50.setTop (mkF m 59 #[.val (.int px), .val (.int ((px &&& (2147483647 : Int32)) % (12 : Int32))), .val (.ref rro_39), .val (.int (if rro_39 = a_NO_CONTENT then (0 : Int32) else 1)), .val (.int v28_46), .val (.int v45_55)] [])) _
    refine XS.iconst X50.here hx rfl (hb hby at_59) ?_
    show Steps p.tables e below (T50.setTop (mkF m 60 #[.val (.int px), .val (.int ((px &&& (2147483647 : Int32)) % (12 : Int32))), .val (.ref rro_39), .val (.int (if rro_39 = a_NO_CONTENT then (0 : Int32) else 1)), .val (.int v28_46), .val (.int v45_55)] [(.int (1 : Int32))])) _
    refine XS.goto X50.here hx rfl (pc0 := 60) (pc' := 64) rfl (hb hby at_60) (by decide) (by decide) ?_
    show Steps p.tables e below (T50.setTop (mkF m 64 #[.val (.int px), .val (.int ((px &&& (2147483647 : Int32)) % (12 : Int32))), .val (.ref rro_39), .val (.int (if rro_39 = a_NO_CONTENT then (0 : Int32) else 1)), .val (.int v28_46), .val (.int v45_55)] [(.int (1 : Int32))])) _
    exact retN X50 hx (t := .boolean) Bd.returns (by simp) (hb hby at_64) hr
  · show Q0 Z px a_OK a_NO_CONTENT a_BAD_REQUEST a_UNAUTHORIZED a_NOT_FOUND a_METHOD_NOT_ALLOWED a_REQUEST_TIMEOUT a_URI_TOO_LONG a_TOO_MANY_REQUESTS a_REQUEST_HEADER_FIELDS_TOO_LARGE a_INTERNAL_SERVER_ERROR a_HTTP_VERSION_NOT_SUPPORTED h0 n0 _ T50.heap _
    rw [e50]
    exact ⟨rfl, N50⟩
set_option maxRecDepth 65536 in
set_option maxHeartbeats 40000000 in
theorem comes_1 {Post : Tables → Env → Array Value → State → Outcome → State → Prop} (hpost : ∀ tb e args s v u, (limb_1_1.after args s (.returned v) u = true ∧ limb_1_2.after args s (.returned v) u = true ∧ True) → FrameEnd s (.returned v) u (Jvm.fieldLocs frame_1_writes args s ++ Jvm.arrayLocs frame_1_arrays args s ++ Jvm.staticLocs frame_1_statics s) 0 0 → Post tb e args s (.returned v) u) :
    ArmFor flags0 classFile x code maxLocals ret World_1 tables_1 room_1 Calls_1 rest_1 Pre_1 Post := by
  intro l hfl _ _ p e ha hc hk s m args below hf hA hF happ hP
  obtain ⟨hcalls, hrest, hpre⟩ := hP
  obtain ⟨-, -, -, hnamed, -, -, -, hat⟩ := (Spec.applies_iff hf).mp happ
  obtain ⟨hg, hn⟩ := and_e (Cond.before_iff.mp (show (Jvm.Cond.and given_1 narrow_1).before args s = true from hpre))
  obtain ⟨hcount, ga0⟩ := and_e hg
  have gi0 := ga0
  obtain ⟨w0, rfl⟩ : ∃ w0 : Value, args = #[w0] := by
    have hs : args.size = 1 := by simpa [Cond.value, given_1] using hcount
    obtain ⟨L⟩ := args
    match L, hs with
    | [w0], _ => exact ⟨w0, rfl⟩
  have hw := fun d (hd : d ∈ tables_1) => atoms_spec (ws := Jvm.Cond.code x code maxLocals ret :: tables_1) hat d (List.mem_cons_of_mem _ hd)
  have hfit : Fit s := fun {y c} hc i hi => by
    obtain ⟨ha, rfl⟩ := Array.getElem?_eq_some_iff.mp hc
    have q := List.all_eq_true.mp ((Array.all_eq_true_iff_forall_mem.mp hF) _ (Array.getElem_mem ha)) i (List.mem_range.mpr hi)
    simpa [Array.getElem?_eq_getElem hi] using q
  obtain ⟨i0, ei0⟩ := is_v gi0
  obtain rfl : w0 = (.int i0) := Option.some.inj ei0
  obtain ⟨nn0, hn0⟩ := and_e hn
  obtain ⟨nn1, hn1⟩ := and_e hn0
  obtain ⟨nn2, hn2⟩ := and_e hn1
  obtain ⟨nn3, hn3⟩ := and_e hn2
  obtain ⟨nn4, hn4⟩ := and_e hn3
  obtain ⟨nn5, hn5⟩ := and_e hn4
  obtain ⟨nn6, hn6⟩ := and_e hn5
  obtain ⟨nn7, hn7⟩ := and_e hn6
  obtain ⟨nn8, hn8⟩ := and_e hn7
  obtain ⟨nn9, hn9⟩ := and_e hn8
  obtain ⟨nn10, hn10⟩ := and_e hn9
  obtain ⟨nn11, hn11⟩ := and_e hn10
  obtain ⟨nn12, hn12⟩ := and_e hn11
  obtain ⟨nn13, hn13⟩ := and_e hn12
  obtain ⟨nn14, hn14⟩ := and_e hn13
  obtain ⟨nn15, hn15⟩ := and_e hn14
  obtain ⟨nn16, hn16⟩ := and_e hn15
  obtain ⟨nn17, hn17⟩ := and_e hn16
  obtain ⟨nn18, hn18⟩ := and_e hn17
  obtain ⟨nn19, hn19⟩ := and_e hn18
  obtain ⟨nn20, hn20⟩ := and_e hn19
  obtain ⟨nn21, hn21⟩ := and_e hn20
  obtain ⟨nn22, hn22⟩ := and_e hn21
  obtain ⟨nn23, hn23⟩ := and_e hn22
  obtain ⟨nn24, hn24⟩ := and_e hn23
  obtain ⟨nn25, hn25⟩ := and_e hn24
  obtain ⟨nn26, hn26⟩ := and_e hn25
  obtain ⟨nn27, hn27⟩ := and_e hn26
  obtain ⟨nn28, hn28⟩ := and_e hn27
  obtain ⟨nn29, hn29⟩ := and_e hn28
  obtain ⟨nn30, hn30⟩ := and_e hn29
  obtain ⟨nn31, hn31⟩ := and_e hn30
  obtain ⟨nn32, hn32⟩ := and_e hn31
  obtain ⟨nn33, hn33⟩ := and_e hn32
  obtain ⟨nn34, hn34⟩ := and_e hn33
  have nn35 := hn34
  obtain ⟨a_OK, ev_OK⟩ := exa_v nn0
  have E_OK := Exa.start ev_OK nn0
  have S_OK := Sta.start ev_OK (Or.inr ⟨(hw _ (List.mem_of_getElem? (i := 6) rfl)), (hw _ (List.mem_of_getElem? (i := 7) rfl))⟩)
  obtain ⟨a_NO_CONTENT, ev_NO_CONTENT⟩ := exa_v nn1
  have E_NO_CONTENT := Exa.start ev_NO_CONTENT nn1
  have S_NO_CONTENT := Sta.start ev_NO_CONTENT (Or.inr ⟨(hw _ (List.mem_of_getElem? (i := 6) rfl)), (hw _ (List.mem_of_getElem? (i := 14) rfl))⟩)
  obtain ⟨a_UNAUTHORIZED, ev_UNAUTHORIZED⟩ := exa_v nn5
  have E_UNAUTHORIZED := Exa.start ev_UNAUTHORIZED nn5
  have S_UNAUTHORIZED := Sta.start ev_UNAUTHORIZED (Or.inr ⟨(hw _ (List.mem_of_getElem? (i := 6) rfl)), (hw _ (List.mem_of_getElem? (i := 23) rfl))⟩)
  obtain ⟨a_BAD_REQUEST, ev_BAD_REQUEST⟩ := exa_v nn8
  have E_BAD_REQUEST := Exa.start ev_BAD_REQUEST nn8
  have S_BAD_REQUEST := Sta.start ev_BAD_REQUEST (Or.inr ⟨(hw _ (List.mem_of_getElem? (i := 6) rfl)), (hw _ (List.mem_of_getElem? (i := 25) rfl))⟩)
  obtain ⟨a_URI_TOO_LONG, ev_URI_TOO_LONG⟩ := exa_v nn11
  have E_URI_TOO_LONG := Exa.start ev_URI_TOO_LONG nn11
  have S_URI_TOO_LONG := Sta.start ev_URI_TOO_LONG (Or.inr ⟨(hw _ (List.mem_of_getElem? (i := 6) rfl)), (hw _ (List.mem_of_getElem? (i := 27) rfl))⟩)
  obtain ⟨a_HTTP_VERSION_NOT_SUPPORTED, ev_HTTP_VERSION_NOT_SUPPORTED⟩ := exa_v nn14
  have E_HTTP_VERSION_NOT_SUPPORTED := Exa.start ev_HTTP_VERSION_NOT_SUPPORTED nn14
  have S_HTTP_VERSION_NOT_SUPPORTED := Sta.start ev_HTTP_VERSION_NOT_SUPPORTED (Or.inr ⟨(hw _ (List.mem_of_getElem? (i := 6) rfl)), (hw _ (List.mem_of_getElem? (i := 29) rfl))⟩)
  obtain ⟨a_NOT_FOUND, ev_NOT_FOUND⟩ := exa_v nn17
  have E_NOT_FOUND := Exa.start ev_NOT_FOUND nn17
  have S_NOT_FOUND := Sta.start ev_NOT_FOUND (Or.inr ⟨(hw _ (List.mem_of_getElem? (i := 6) rfl)), (hw _ (List.mem_of_getElem? (i := 31) rfl))⟩)
  obtain ⟨a_TOO_MANY_REQUESTS, ev_TOO_MANY_REQUESTS⟩ := exa_v nn20
  have E_TOO_MANY_REQUESTS := Exa.start ev_TOO_MANY_REQUESTS nn20
  have S_TOO_MANY_REQUESTS := Sta.start ev_TOO_MANY_REQUESTS (Or.inr ⟨(hw _ (List.mem_of_getElem? (i := 6) rfl)), (hw _ (List.mem_of_getElem? (i := 33) rfl))⟩)
  obtain ⟨a_INTERNAL_SERVER_ERROR, ev_INTERNAL_SERVER_ERROR⟩ := exa_v nn24
  have E_INTERNAL_SERVER_ERROR := Exa.start ev_INTERNAL_SERVER_ERROR nn24
  have S_INTERNAL_SERVER_ERROR := Sta.start ev_INTERNAL_SERVER_ERROR (Or.inr ⟨(hw _ (List.mem_of_getElem? (i := 6) rfl)), (hw _ (List.mem_of_getElem? (i := 36) rfl))⟩)
  obtain ⟨a_REQUEST_HEADER_FIELDS_TOO_LARGE, ev_REQUEST_HEADER_FIELDS_TOO_LARGE⟩ := exa_v nn27
  have E_REQUEST_HEADER_FIELDS_TOO_LARGE := Exa.start ev_REQUEST_HEADER_FIELDS_TOO_LARGE nn27
  have S_REQUEST_HEADER_FIELDS_TOO_LARGE := Sta.start ev_REQUEST_HEADER_FIELDS_TOO_LARGE (Or.inr ⟨(hw _ (List.mem_of_getElem? (i := 6) rfl)), (hw _ (List.mem_of_getElem? (i := 38) rfl))⟩)
  obtain ⟨a_REQUEST_TIMEOUT, ev_REQUEST_TIMEOUT⟩ := exa_v nn30
  have E_REQUEST_TIMEOUT := Exa.start ev_REQUEST_TIMEOUT nn30
  have S_REQUEST_TIMEOUT := Sta.start ev_REQUEST_TIMEOUT (Or.inr ⟨(hw _ (List.mem_of_getElem? (i := 6) rfl)), (hw _ (List.mem_of_getElem? (i := 40) rfl))⟩)
  obtain ⟨a_METHOD_NOT_ALLOWED, ev_METHOD_NOT_ALLOWED⟩ := exa_v nn33
  have E_METHOD_NOT_ALLOWED := Exa.start ev_METHOD_NOT_ALLOWED nn33
  have S_METHOD_NOT_ALLOWED := Sta.start ev_METHOD_NOT_ALLOWED (Or.inr ⟨(hw _ (List.mem_of_getElem? (i := 6) rfl)), (hw _ (List.mem_of_getElem? (i := 42) rfl))⟩)
  have F_OK_ordinal := Fld.start ((fld_at ev_OK).symm.trans (own_eqi nn2))
  have F_NO_CONTENT_ordinal := Fld.start ((fld_at ev_NO_CONTENT).symm.trans (own_eqi nn3))
  have F_OK_code := Fld.start ((fld_at ev_OK).symm.trans (own_eqi nn4))
  have F_UNAUTHORIZED_ordinal := Fld.start ((fld_at ev_UNAUTHORIZED).symm.trans (own_eqi nn6))
  have F_UNAUTHORIZED_code := Fld.start ((fld_at ev_UNAUTHORIZED).symm.trans (own_eqi nn7))
  have F_BAD_REQUEST_ordinal := Fld.start ((fld_at ev_BAD_REQUEST).symm.trans (own_eqi nn9))
  have F_BAD_REQUEST_code := Fld.start ((fld_at ev_BAD_REQUEST).symm.trans (own_eqi nn10))
  have F_URI_TOO_LONG_ordinal := Fld.start ((fld_at ev_URI_TOO_LONG).symm.trans (own_eqi nn12))
  have F_URI_TOO_LONG_code := Fld.start ((fld_at ev_URI_TOO_LONG).symm.trans (own_eqi nn13))
  have F_HTTP_VERSION_NOT_SUPPORTED_ordinal := Fld.start ((fld_at ev_HTTP_VERSION_NOT_SUPPORTED).symm.trans (own_eqi nn15))
  have F_HTTP_VERSION_NOT_SUPPORTED_code := Fld.start ((fld_at ev_HTTP_VERSION_NOT_SUPPORTED).symm.trans (own_eqi nn16))
  have F_NOT_FOUND_ordinal := Fld.start ((fld_at ev_NOT_FOUND).symm.trans (own_eqi nn18))
  have F_NOT_FOUND_code := Fld.start ((fld_at ev_NOT_FOUND).symm.trans (own_eqi nn19))
  have F_TOO_MANY_REQUESTS_ordinal := Fld.start ((fld_at ev_TOO_MANY_REQUESTS).symm.trans (own_eqi nn21))
  have F_TOO_MANY_REQUESTS_code := Fld.start ((fld_at ev_TOO_MANY_REQUESTS).symm.trans (own_eqi nn22))
  have F_NO_CONTENT_code := Fld.start ((fld_at ev_NO_CONTENT).symm.trans (own_eqi nn23))
  have F_INTERNAL_SERVER_ERROR_ordinal := Fld.start ((fld_at ev_INTERNAL_SERVER_ERROR).symm.trans (own_eqi nn25))
  have F_INTERNAL_SERVER_ERROR_code := Fld.start ((fld_at ev_INTERNAL_SERVER_ERROR).symm.trans (own_eqi nn26))
  have F_REQUEST_HEADER_FIELDS_TOO_LARGE_ordinal := Fld.start ((fld_at ev_REQUEST_HEADER_FIELDS_TOO_LARGE).symm.trans (own_eqi nn28))
  have F_REQUEST_HEADER_FIELDS_TOO_LARGE_code := Fld.start ((fld_at ev_REQUEST_HEADER_FIELDS_TOO_LARGE).symm.trans (own_eqi nn29))
  have F_REQUEST_TIMEOUT_ordinal := Fld.start ((fld_at ev_REQUEST_TIMEOUT).symm.trans (own_eqi nn31))
  have F_REQUEST_TIMEOUT_code := Fld.start ((fld_at ev_REQUEST_TIMEOUT).symm.trans (own_eqi nn32))
  have F_METHOD_NOT_ALLOWED_ordinal := Fld.start ((fld_at ev_METHOD_NOT_ALLOWED).symm.trans (own_eqi nn34))
  have F_METHOD_NOT_ALLOWED_code := Fld.start ((fld_at ev_METHOD_NOT_ALLOWED).symm.trans (own_eqi nn35))
  obtain ⟨n, o, h1, h2, h3, _, L, rfl, ⟨rfl, N⟩, hq⟩ := rm0 l s _ hw tables_1 i0 a_OK a_NO_CONTENT a_BAD_REQUEST a_UNAUTHORIZED a_NOT_FOUND a_METHOD_NOT_ALLOWED a_REQUEST_TIMEOUT a_URI_TOO_LONG a_TOO_MANY_REQUESTS a_REQUEST_HEADER_FIELDS_TOO_LARGE a_INTERNAL_SERVER_ERROR a_HTTP_VERSION_NOT_SUPPORTED s.heap s.heap.size (Nat.le_refl _) S_OK S_NO_CONTENT S_BAD_REQUEST S_UNAUTHORIZED S_NOT_FOUND S_METHOD_NOT_ALLOWED S_REQUEST_TIMEOUT S_URI_TOO_LONG S_TOO_MANY_REQUESTS S_REQUEST_HEADER_FIELDS_TOO_LARGE S_INTERNAL_SERVER_ERROR S_HTTP_VERSION_NOT_SUPPORTED E_OK E_NO_CONTENT E_BAD_REQUEST E_UNAUTHORIZED E_NOT_FOUND E_METHOD_NOT_ALLOWED E_REQUEST_TIMEOUT E_URI_TOO_LONG E_TOO_MANY_REQUESTS E_REQUEST_HEADER_FIELDS_TOO_LARGE E_INTERNAL_SERVER_ERROR E_HTTP_VERSION_NOT_SUPPORTED F_OK_code F_NO_CONTENT_code F_BAD_REQUEST_code F_UNAUTHORIZED_code F_NOT_FOUND_code F_METHOD_NOT_ALLOWED_code F_REQUEST_TIMEOUT_code F_URI_TOO_LONG_code F_TOO_MANY_REQUESTS_code F_REQUEST_HEADER_FIELDS_TOO_LARGE_code F_INTERNAL_SERVER_ERROR_code F_HTTP_VERSION_NOT_SUPPORTED_code p e ha hc hk s m _ below hf ((Spec.applies_iff_loose hf).mp happ).1 ⟨rfl, State.Warmed39.refl s, rfl⟩ trivial
  refine ⟨n, _, h1, h2, h3, hpost _ _ _ _ _ _ ⟨Cond.after_iff.mpr rfl, Cond.after_iff.mpr (eq_i res_at (Term.int_eval (1)) rfl), trivial⟩ ⟨hq.1, hq.2.1, (hq.2.2.sift fun y hy => Or.inr (N y hy)).mono (by decide) (by decide)⟩⟩
theorem main_1_1 : Claimed_1_1 := comes_1 fun _ _ _ _ _ _ h hF => ⟨h.1, hF⟩
theorem main_1_2 : Claimed_1_2 := comes_1 fun _ _ _ _ _ _ h hF => ⟨h.2.1, hF⟩
end Jvm.Pilot.@@N@@
namespace Jvm.Pilot.@@N@@
open Jvm Jvm.ClassFile Sem Op Lib Jvm.Free Jvm.Stand Jvm.Pilot.@@N@@.Jvm.D
/-! MADE BY PROGRAM (witnessworld.py) out of the Statement's table words and the real class files: 12 classes; the members and pool entries that the words name. The judged class is class 1, her method 2. -/
namespace start1
open Jvm.ClassFile
def u (s : String) : CpInfo := .utf8 (stringToUtf16 s)
/-- a pool by its gaps: so many unusable entries, then the entry; so many at the end -/
def gap : Nat → List CpInfo → List CpInfo
  | 0, r => r
  | n + 1, r => .unusable :: gap n r
def poolList (es : List (Nat × CpInfo)) (last : Nat) : List CpInfo := es.foldr (fun e r => gap e.1 (e.2 :: r)) (gap last [])
def pool (es : List (Nat × CpInfo)) (last : Nat) : Array CpInfo := ⟨poolList es last⟩
def fileOf (pool : Array CpInfo) (this : Nat) (attrs : Array Attribute := #[]) (ms : Array MethodInfo := #[]) (fl : Nat := 33) (sup : Nat := 0) (ifs : Array Nat := #[]) (fds : Array FieldInfo := #[]) : ClassFile where
  minorVersion := 0
  majorVersion := 65
  constantPool := pool
  accessFlags := fl
  thisClass := this
  superClass := sup
  interfaces := ifs
  fields := fds
  methods := ms
  attributes := attrs
def plain (name : String) (sup : Option ClassId) : Class where
  name := name
  kind := .ordinary
  loader := none
  accessFlags := 33
  super := sup
  interfaces := #[]
  cf := none
  fields := #[]
  methods := #[]
  instanceTypes := #[]
  staticTypes := #[]
  resolved := #[]
  callSites := []
  init := .initialized
  statics := none
  mirror := none

def pool0 : Array CpInfo := pool [(5, u "<init>"), (0, u "()V"), (1, .class_ 10), (1, u "java/lang/Object")] 113

def k0m0 : Method := { name := "<init>", desc := "()V", sig := { parameters := [], returnType := none }, accessFlags := 1, code := none }
/-- java/lang/Object -/
def k0 : Class := { plain "java/lang/Object" none with
  accessFlags := 33
  interfaces := #[]
  cf := some (fileOf pool0 8 #[] #[{ accessFlags := 1, nameIndex := 5, descriptorIndex := 6, attributes := #[] }] 33 0 #[] #[])
  fields := #[]
  methods := #[k0m0]
  instanceTypes := #[]
  staticTypes := #[]
  resolved := Array.replicate 124 none
  statics := none }

def pool1 : Array CpInfo := pool [(2, .class_ 4), (1, u "java/lang/Object"), (0, u "<init>"), (0, u "()V"), (0, .fieldref 8 9), (0, .class_ 10), (0, .nameAndType 11 12), (0, u "com/example/ilmi/ilmi/http/Status"), (0, u "OK"), (0, u "Lcom/example/ilmi/ilmi/http/Status;"), (0, .fieldref 8 14), (0, .nameAndType 15 12), (0, u "NO_CONTENT"), (0, .fieldref 8 17), (0, .nameAndType 18 12), (0, u "BAD_REQUEST"), (0, .fieldref 8 20), (0, .nameAndType 21 12), (0, u "UNAUTHORIZED"), (0, .fieldref 8 23), (0, .nameAndType 24 12), (0, u "NOT_FOUND"), (0, .fieldref 8 26), (0, .nameAndType 27 12), (0, u "METHOD_NOT_ALLOWED"), (0, .fieldref 8 29), (0, .nameAndType 30 12), (0, u "REQUEST_TIMEOUT"), (0, .fieldref 8 32), (0, .nameAndType 33 12), (0, u "URI_TOO_LONG"), (0, .fieldref 8 35), (0, .nameAndType 36 12), (0, u "TOO_MANY_REQUESTS"), (0, .fieldref 8 38), (0, .nameAndType 39 12), (0, u "REQUEST_HEADER_FIELDS_TOO_LARGE"), (0, .fieldref 8 41), (0, .nameAndType 42 12), (0, u "INTERNAL_SERVER_ERROR"), (0, .fieldref 8 44), (0, .nameAndType 45 12), (0, u "HTTP_VERSION_NOT_SUPPORTED"), (0, .integer 2147483647), (0, .methodref 48 49), (0, .class_ 50), (0, .nameAndType 51 52), (0, u "com/example/ilmi/ilmi/http/StatusHasContentPinLaw"), (0, u "pick"), (0, u "(I)Lcom/example/ilmi/ilmi/http/Status;"), (0, .methodref 8 54), (0, .nameAndType 55 56), (0, u "hasContent"), (0, u "()Z"), (0, .methodref 8 58), (0, .nameAndType 59 60), (0, u "code"), (0, u "()I"), (3, u "law"), (0, u "(I)Z")] 2

def k1m0 : Method := { name := "<init>", desc := "()V", sig := { parameters := [], returnType := none }, accessFlags := 2, code := none }
def k1c1 : Code := { maxStack := 2, maxLocals := 1, code := method_2_code, exceptionTable := #[], attributes := #[] }
def k1m1 : Method := { name := "pick", desc := "(I)Lcom/example/ilmi/ilmi/http/Status;", sig := { parameters := [.int], returnType := some (.object "com/example/ilmi/ilmi/http/Status") }, accessFlags := 10, code := some k1c1 }
def k1c2 : Code := { maxStack := 2, maxLocals := 6, code := code, exceptionTable := #[], attributes := #[] }
def k1m2 : Method := { name := "law", desc := "(I)Z", sig := { parameters := [.int], returnType := some .boolean }, accessFlags := 9, code := some k1c2 }
/-- com/example/ilmi/ilmi/http/StatusHasContentPinLaw -/
def k1 : Class := { plain "com/example/ilmi/ilmi/http/StatusHasContentPinLaw" (some 0) with
  accessFlags := 49
  interfaces := #[]
  cf := some (fileOf pool1 48 #[] #[{ accessFlags := 2, nameIndex := 5, descriptorIndex := 6, attributes := #[] }, { accessFlags := 10, nameIndex := 51, descriptorIndex := 52, attributes := #[] }, { accessFlags := 9, nameIndex := 64, descriptorIndex := 65, attributes := #[] }] 49 2 #[] #[])
  fields := #[]
  methods := #[k1m0, k1m1, k1m2]
  instanceTypes := #[]
  staticTypes := #[]
  resolved := Array.replicate 68 none
  statics := none }

def pool2 : Array CpInfo := pool [(1, .class_ 2), (0, u "java/lang/constant/Constable"), (0, .class_ 4), (0, u "java/lang/Object")] 6

/-- java/lang/constant/Constable -/
def k2 : Class := { plain "java/lang/constant/Constable" (some 0) with
  accessFlags := 1537
  interfaces := #[]
  cf := some (fileOf pool2 1 #[] #[] 1537 3 #[] #[])
  fields := #[]
  methods := #[]
  instanceTypes := #[]
  staticTypes := #[]
  resolved := Array.replicate 11 none
  statics := none }

def pool3 : Array CpInfo := pool [(1, .class_ 2), (0, u "java/lang/Comparable"), (0, .class_ 4), (0, u "java/lang/Object")] 7

/-- java/lang/Comparable -/
def k3 : Class := { plain "java/lang/Comparable" (some 0) with
  accessFlags := 1537
  interfaces := #[]
  cf := some (fileOf pool3 1 #[] #[] 1537 3 #[] #[])
  fields := #[]
  methods := #[]
  instanceTypes := #[]
  staticTypes := #[]
  resolved := Array.replicate 12 none
  statics := none }

def pool4 : Array CpInfo := pool [(1, .class_ 2), (0, u "java/io/Serializable"), (0, .class_ 4), (0, u "java/lang/Object")] 2

/-- java/io/Serializable -/
def k4 : Class := { plain "java/io/Serializable" (some 0) with
  accessFlags := 1537
  interfaces := #[]
  cf := some (fileOf pool4 1 #[] #[] 1537 3 #[] #[])
  fields := #[]
  methods := #[]
  instanceTypes := #[]
  staticTypes := #[]
  resolved := Array.replicate 7 none
  statics := none }

def pool5 : Array CpInfo := pool [(2, .class_ 4), (1, u "java/lang/Enum"), (0, u "name"), (0, u "Ljava/lang/String;"), (2, u "ordinal"), (0, u "I"), (1, .class_ 14), (1, u "java/lang/Object"), (4, u "hash"), (86, .class_ 108), (1, u "java/lang/Enum$EnumDesc"), (2, .class_ 112), (0, u "java/lang/constant/Constable"), (0, .class_ 114), (0, u "java/lang/Comparable"), (0, .class_ 116), (0, u "java/io/Serializable")] 87

/-- java/lang/Enum -/
def k5 : Class := { plain "java/lang/Enum" (some 0) with
  accessFlags := 1057
  interfaces := #[2, 3, 4]
  cf := some (fileOf pool5 2 #[.nestMembers #[106]] #[] 1057 12 #[111, 113, 115] #[{ accessFlags := 18, nameIndex := 5, descriptorIndex := 6, attributes := #[] }, { accessFlags := 18, nameIndex := 9, descriptorIndex := 10, attributes := #[] }, { accessFlags := 2, nameIndex := 19, descriptorIndex := 10, attributes := #[] }])
  fields := #[{ name := "name", type := (.object "java/lang/String"), accessFlags := 18, slot := 0, constantValue := 0 }, { name := "ordinal", type := .int, accessFlags := 18, slot := 1, constantValue := 0 }, { name := "hash", type := .int, accessFlags := 2, slot := 2, constantValue := 0 }]
  methods := #[]
  instanceTypes := #[(.object "java/lang/String"), .int, .int]
  staticTypes := #[]
  resolved := Array.replicate 204 none
  statics := none }

def pool6 : Array CpInfo := pool [(1, .class_ 2), (0, u "com/example/ilmi/ilmi/http/Status"), (2, u "OK"), (0, u "Lcom/example/ilmi/ilmi/http/Status;"), (0, .fieldref 1 8), (0, .nameAndType 9 6), (0, u "NO_CONTENT"), (2, u "BAD_REQUEST"), (2, u "UNAUTHORIZED"), (2, u "NOT_FOUND"), (2, u "METHOD_NOT_ALLOWED"), (2, u "REQUEST_TIMEOUT"), (2, u "URI_TOO_LONG"), (2, u "TOO_MANY_REQUESTS"), (2, u "REQUEST_HEADER_FIELDS_TOO_LARGE"), (2, u "INTERNAL_SERVER_ERROR"), (2, u "HTTP_VERSION_NOT_SUPPORTED"), (2, u "$VALUES"), (0, u "[Lcom/example/ilmi/ilmi/http/Status;"), (6, .class_ 52), (1, u "java/lang/Enum"), (6, .fieldref 1 60), (0, .nameAndType 61 62), (0, u "code"), (0, u "I"), (2, u "reason"), (0, u "Ljava/lang/String;"), (12, u "headers"), (0, u "Ljava/util/List;"), (14, u "()Z"), (3, .class_ 100), (0, u "com/example/ilmi/ilmi/http/Status$Header"), (47, .class_ 150), (1, u "com/example/ilmi/ilmi/http/Status$QueryMethods"), (65, u "()I"), (0, u "hasContent")] 10

def k6c0 : Code := { maxStack := 1, maxLocals := 1, code := prog_38_method_5_code, exceptionTable := #[], attributes := #[] }
def k6m0 : Method := { name := "code", desc := "()I", sig := { parameters := [], returnType := some .int }, accessFlags := 0, code := some k6c0 }
def k6c1 : Code := { maxStack := 2, maxLocals := 1, code := prog_38_method_7_code, exceptionTable := #[], attributes := #[] }
def k6m1 : Method := { name := "hasContent", desc := "()Z", sig := { parameters := [], returnType := some .boolean }, accessFlags := 0, code := some k6c1 }
/-- com/example/ilmi/ilmi/http/Status -/
def k6 : Class := { plain "com/example/ilmi/ilmi/http/Status" (some 5) with
  accessFlags := 16432
  interfaces := #[]
  cf := some (fileOf pool6 1 #[.nestMembers #[148, 99]] #[{ accessFlags := 0, nameIndex := 61, descriptorIndex := 216, attributes := #[] }, { accessFlags := 0, nameIndex := 217, descriptorIndex := 95, attributes := #[] }] 16432 50 #[] #[{ accessFlags := 16409, nameIndex := 5, descriptorIndex := 6, attributes := #[] }, { accessFlags := 16409, nameIndex := 9, descriptorIndex := 6, attributes := #[] }, { accessFlags := 16409, nameIndex := 12, descriptorIndex := 6, attributes := #[] }, { accessFlags := 16409, nameIndex := 15, descriptorIndex := 6, attributes := #[] }, { accessFlags := 16409, nameIndex := 18, descriptorIndex := 6, attributes := #[] }, { accessFlags := 16409, nameIndex := 21, descriptorIndex := 6, attributes := #[] }, { accessFlags := 16409, nameIndex := 24, descriptorIndex := 6, attributes := #[] }, { accessFlags := 16409, nameIndex := 27, descriptorIndex := 6, attributes := #[] }, { accessFlags := 16409, nameIndex := 30, descriptorIndex := 6, attributes := #[] }, { accessFlags := 16409, nameIndex := 33, descriptorIndex := 6, attributes := #[] }, { accessFlags := 16409, nameIndex := 36, descriptorIndex := 6, attributes := #[] }, { accessFlags := 16409, nameIndex := 39, descriptorIndex := 6, attributes := #[] }, { accessFlags := 18, nameIndex := 61, descriptorIndex := 62, attributes := #[] }, { accessFlags := 18, nameIndex := 65, descriptorIndex := 66, attributes := #[] }, { accessFlags := 18, nameIndex := 79, descriptorIndex := 80, attributes := #[] }, { accessFlags := 4122, nameIndex := 42, descriptorIndex := 43, attributes := #[] }])
  fields := #[{ name := "OK", type := (.object "com/example/ilmi/ilmi/http/Status"), accessFlags := 16409, slot := 0, constantValue := 0 }, { name := "NO_CONTENT", type := (.object "com/example/ilmi/ilmi/http/Status"), accessFlags := 16409, slot := 1, constantValue := 0 }, { name := "BAD_REQUEST", type := (.object "com/example/ilmi/ilmi/http/Status"), accessFlags := 16409, slot := 2, constantValue := 0 }, { name := "UNAUTHORIZED", type := (.object "com/example/ilmi/ilmi/http/Status"), accessFlags := 16409, slot := 3, constantValue := 0 }, { name := "NOT_FOUND", type := (.object "com/example/ilmi/ilmi/http/Status"), accessFlags := 16409, slot := 4, constantValue := 0 }, { name := "METHOD_NOT_ALLOWED", type := (.object "com/example/ilmi/ilmi/http/Status"), accessFlags := 16409, slot := 5, constantValue := 0 }, { name := "REQUEST_TIMEOUT", type := (.object "com/example/ilmi/ilmi/http/Status"), accessFlags := 16409, slot := 6, constantValue := 0 }, { name := "URI_TOO_LONG", type := (.object "com/example/ilmi/ilmi/http/Status"), accessFlags := 16409, slot := 7, constantValue := 0 }, { name := "TOO_MANY_REQUESTS", type := (.object "com/example/ilmi/ilmi/http/Status"), accessFlags := 16409, slot := 8, constantValue := 0 }, { name := "REQUEST_HEADER_FIELDS_TOO_LARGE", type := (.object "com/example/ilmi/ilmi/http/Status"), accessFlags := 16409, slot := 9, constantValue := 0 }, { name := "INTERNAL_SERVER_ERROR", type := (.object "com/example/ilmi/ilmi/http/Status"), accessFlags := 16409, slot := 10, constantValue := 0 }, { name := "HTTP_VERSION_NOT_SUPPORTED", type := (.object "com/example/ilmi/ilmi/http/Status"), accessFlags := 16409, slot := 11, constantValue := 0 }, { name := "code", type := .int, accessFlags := 18, slot := 3, constantValue := 0 }, { name := "reason", type := (.object "java/lang/String"), accessFlags := 18, slot := 4, constantValue := 0 }, { name := "headers", type := (.object "java/util/List"), accessFlags := 18, slot := 5, constantValue := 0 }, { name := "$VALUES", type := (.array (.object "com/example/ilmi/ilmi/http/Status")), accessFlags := 4122, slot := 12, constantValue := 0 }]
  methods := #[k6m0, k6m1]
  instanceTypes := #[(.object "java/lang/String"), .int, .int, .int, (.object "java/lang/String"), (.object "java/util/List")]
  staticTypes := #[(.object "com/example/ilmi/ilmi/http/Status"), (.object "com/example/ilmi/ilmi/http/Status"), (.object "com/example/ilmi/ilmi/http/Status"), (.object "com/example/ilmi/ilmi/http/Status"), (.object "com/example/ilmi/ilmi/http/Status"), (.object "com/example/ilmi/ilmi/http/Status"), (.object "com/example/ilmi/ilmi/http/Status"), (.object "com/example/ilmi/ilmi/http/Status"), (.object "com/example/ilmi/ilmi/http/Status"), (.object "com/example/ilmi/ilmi/http/Status"), (.object "com/example/ilmi/ilmi/http/Status"), (.object "com/example/ilmi/ilmi/http/Status"), (.array (.object "com/example/ilmi/ilmi/http/Status"))]
  resolved := Array.replicate 228 none
  statics := some 0 }

def pool7 : Array CpInfo := pool [(1, u "java/lang/Cloneable"), (0, .class_ 1), (0, u "java/lang/Object"), (0, .class_ 3)] 3

/-- java/lang/Cloneable -/
def k7 : Class := { plain "java/lang/Cloneable" (some 0) with
  accessFlags := 1537
  interfaces := #[]
  cf := some (fileOf pool7 2 #[] #[] 1537 4 #[] #[])
  fields := #[]
  methods := #[]
  instanceTypes := #[]
  staticTypes := #[]
  resolved := Array.replicate 8 none
  statics := none }

/-- the primitive byte -/
def k8 : Class := { plain "byte" none with kind := .primitive 'B', accessFlags := 0x411 }
/-- [B -/
def k9 : Class := { plain "[B" (some 0) with kind := .array 8 .byte, interfaces := #[7, 4], accessFlags := 1041 }

/-- the primitive int -/
def k10 : Class := { plain "int" none with kind := .primitive 'I', accessFlags := 0x411 }
/-- [I -/
def k11 : Class := { plain "[I" (some 0) with kind := .array 10 .int, interfaces := #[7, 4], accessFlags := 1041 }

def heap : Heap := #[{ cls := 6, slots := #[.ref 1, .ref 2, .ref 3, .ref 4, .ref 5, .ref 6, .ref 7, .ref 8, .ref 9, .ref 10, .ref 11, .ref 12, .null], vm := .statics 6 },
  { cls := 6, slots := #[.null, .int 0, .int 0, .int 200, .null, .null], vm := .none },
  { cls := 6, slots := #[.null, .int 1, .int 0, .int 204, .null, .null], vm := .none },
  { cls := 6, slots := #[.null, .int 2, .int 0, .int 400, .null, .null], vm := .none },
  { cls := 6, slots := #[.null, .int 3, .int 0, .int 401, .null, .null], vm := .none },
  { cls := 6, slots := #[.null, .int 4, .int 0, .int 404, .null, .null], vm := .none },
  { cls := 6, slots := #[.null, .int 5, .int 0, .int 405, .null, .null], vm := .none },
  { cls := 6, slots := #[.null, .int 6, .int 0, .int 408, .null, .null], vm := .none },
  { cls := 6, slots := #[.null, .int 7, .int 0, .int 414, .null, .null], vm := .none },
  { cls := 6, slots := #[.null, .int 8, .int 0, .int 429, .null, .null], vm := .none },
  { cls := 6, slots := #[.null, .int 9, .int 0, .int 431, .null, .null], vm := .none },
  { cls := 6, slots := #[.null, .int 10, .int 0, .int 500, .null, .null], vm := .none },
  { cls := 6, slots := #[.null, .int 11, .int 0, .int 505, .null, .null], vm := .none }]
def classes : Array Class := #[k0, k1, k2, k3, k4, k5, k6, k7, k8, k9, k10, k11]
def interned : List (Array UInt16 × Addr) := []
def slotsUsed : Nat := 85
def theMethod : MethodId := ⟨1, 2⟩
def args0 : Array Value := #[.int 5]
def aboutOver (below : List Frame) : State where
  vm := { classes := classes, interned := interned.toArray }
  heap := heap
  slotsUsed := slotsUsed
  threads := #[{ frames := .invoking theMethod args0 :: below }]
def below0 : List Frame := [.native { method := ⟨0, 0⟩, args := #[] }]
def about1 : State := aboutOver below0
def p0 : Program := .bare "" "" ""
def e0 : Env := launch0.env 0 0 0
theorem w_frames : about1.frames = Frame.invoking theMethod args0 :: below0 := rfl
set_option maxRecDepth 65536 in
theorem w_args : argsFit about1.vm theMethod args0 = true := by decide +kernel
set_option maxRecDepth 65536 in
theorem w_heap : heapFits about1 = true := by decide +kernel
set_option maxRecDepth 65536 in
theorem w_runnable : about1.curStatus? = some .runnable := by decide +kernel
set_option maxRecDepth 65536 in
theorem w_alone : about1.alone = true := by decide +kernel
set_option maxRecDepth 65536 in
theorem w_named : about1.methodNamed? x = some theMethod := by decide +kernel
set_option maxRecDepth 65536 in
theorem w_hears : about1.hears theMethod below0 = true := by decide +kernel
set_option maxRecDepth 65536 in
theorem w_ripe : about1.ripe theMethod args0 below0 = true := by decide +kernel
theorem w_running : about1.status = .running := rfl
set_option maxRecDepth 65536 in
theorem w_room : about1.hasRoom e0.platform room_1 = true :=
  launch0.hasRoom_least _ room_1 (by decide +kernel) (by decide +kernel) (by decide +kernel) (by decide +kernel) (by decide +kernel) (by decide +kernel)
theorem allAtoms_all (ts : List Jvm.Cond) (a : Array Jvm.Value) (st : Jvm.State) : (allAtoms ts).before a st = ts.all (fun c => c.before a st) := by
  induction ts with
  | nil => rfl
  | cons c t ih =>
    show (Jvm.Cond.and c (allAtoms t)).before a st = _
    rw [Jvm.Cond.before_and, ih, List.all_cons]
def words1 : List Jvm.Cond := Jvm.Cond.code x code maxLocals ret :: tables_1
/-- a 'code' word, met by the world's own term for the bytes: nothing is compared byte by byte -/
theorem code_word {y : MethodName} {bytes : ByteArray} {mx : Nat} {rt : Option FieldType} {a : Array Value} {s : State} {m : MethodId} {meth : Method} {c : Code} (h1 : s.methodNamed? y = some m) (h2 : s.vm.method? m = some meth) (h3 : meth.code = some c) (h4 : c.code = bytes)
    (h5 : (c.maxLocals == mx && c.exceptionTable.isEmpty && decide (c.maxStack ≤ mostOperands) && decide (meth.sig.returnType = rt) && !meth.locks && decide (parseMethodDescriptor y.desc = some meth.sig)) = true) : (Jvm.Cond.code y bytes mx rt).before a s = true := by
  simp only [Bool.and_eq_true, beq_iff_eq, Bool.not_eq_true', decide_eq_true_eq] at h5
  obtain ⟨⟨⟨⟨⟨g1, g2⟩, g3⟩, g4⟩, g5⟩, g6⟩ := h5
  simp [Cond.before, Cond.holds, Cond.value, h1, h2, h3, h4, g1, g2, g3, g4, g5, g6]
def isCode : Jvm.Cond → Bool
  | .code _ _ _ _ => true
  | _ => false
theorem all_split {L : List Jvm.Cond} {P : Jvm.Cond → Bool} (h1 : L.all (fun c => isCode c || P c) = true) (h2 : ∀ c ∈ L.filter isCode, P c = true) : L.all P = true := by
  refine List.all_eq_true.mpr fun c hc => ?_
  have h := List.all_eq_true.mp h1 c hc
  rcases Bool.eq_false_or_eq_true (isCode c) with hi | hi
  · exact h2 c (List.mem_filter.mpr ⟨hc, hi⟩)
  · simpa [hi] using h
set_option maxRecDepth 65536 in
theorem w_c0 : (Jvm.Cond.code x code maxLocals ret).before args0 about1 = true := code_word (m := ⟨1, 2⟩) (meth := k1m2) (c := k1c2) (by decide +kernel) rfl rfl rfl (by decide +kernel)
set_option maxRecDepth 65536 in
theorem w_c1 : (Jvm.Cond.code ({ cls := "com/example/ilmi/ilmi/http/StatusHasContentPinLaw", name := "pick", desc := "(I)Lcom/example/ilmi/ilmi/http/Status;" } : Jvm.MethodName) method_2_code (1 : Nat) (Option.some (Jvm.ClassFile.FieldType.object "com/example/ilmi/ilmi/http/Status"))).before args0 about1 = true := code_word (m := ⟨1, 1⟩) (meth := k1m1) (c := k1c1) (by decide +kernel) rfl rfl rfl (by decide +kernel)
set_option maxRecDepth 65536 in
theorem w_c2 : (Jvm.Cond.code ({ cls := "com/example/ilmi/ilmi/http/Status", name := "hasContent", desc := "()Z" } : Jvm.MethodName) prog_38_method_7_code (1 : Nat) (Option.some Jvm.ClassFile.FieldType.boolean)).before args0 about1 = true := code_word (m := ⟨6, 1⟩) (meth := k6m1) (c := k6c1) (by decide +kernel) rfl rfl rfl (by decide +kernel)
set_option maxRecDepth 65536 in
theorem w_c3 : (Jvm.Cond.code ({ cls := "com/example/ilmi/ilmi/http/Status", name := "code", desc := "()I" } : Jvm.MethodName) prog_38_method_5_code (1 : Nat) (Option.some Jvm.ClassFile.FieldType.int)).before args0 about1 = true := code_word (m := ⟨6, 0⟩) (meth := k6m0) (c := k6c0) (by decide +kernel) rfl rfl rfl (by decide +kernel)
def codes1 : List Jvm.Cond := [Jvm.Cond.code x code maxLocals ret, Jvm.Cond.code ({ cls := "com/example/ilmi/ilmi/http/StatusHasContentPinLaw", name := "pick", desc := "(I)Lcom/example/ilmi/ilmi/http/Status;" } : Jvm.MethodName) method_2_code (1 : Nat) (Option.some (Jvm.ClassFile.FieldType.object "com/example/ilmi/ilmi/http/Status")), Jvm.Cond.code ({ cls := "com/example/ilmi/ilmi/http/Status", name := "hasContent", desc := "()Z" } : Jvm.MethodName) prog_38_method_7_code (1 : Nat) (Option.some Jvm.ClassFile.FieldType.boolean), Jvm.Cond.code ({ cls := "com/example/ilmi/ilmi/http/Status", name := "code", desc := "()I" } : Jvm.MethodName) prog_38_method_5_code (1 : Nat) (Option.some Jvm.ClassFile.FieldType.int)]
set_option maxRecDepth 65536 in
theorem codes_eq : words1.filter isCode = codes1 := rfl
theorem w_codes : ∀ c ∈ words1.filter isCode, c.before args0 about1 = true := by
  rw [codes_eq]
  intro c hc
  simp only [codes1, List.mem_cons, List.not_mem_nil, or_false] at hc
  rcases hc with rfl | rfl | rfl | rfl
  · exact w_c0
  · exact w_c1
  · exact w_c2
  · exact w_c3
set_option maxRecDepth 65536 in
theorem w_t1 : (words1.take 24).all (fun c => isCode c || c.before args0 about1) = true := by decide +kernel
set_option maxRecDepth 65536 in
theorem w_t2 : (words1.drop 24).all (fun c => isCode c || c.before args0 about1) = true := by decide +kernel
theorem w_tables : (allAtoms (Jvm.Cond.code x code maxLocals ret :: tables_1)).before args0 about1 = true := by
  rw [allAtoms_all]
  show words1.all (fun c => c.before args0 about1) = true
  refine all_split ?_ w_codes
  rw [← List.take_append_drop 24 words1, List.all_append, w_t1, w_t2]
  rfl
set_option maxRecDepth 65536 in
theorem w_case : (Jvm.Cond.and given_1 narrow_1).before args0 about1 = true := by decide +kernel
theorem w_applies : (headSpec (Jvm.Cond.code x code maxLocals ret :: tables_1) room_1).applies x e0.platform about1 = true :=
  (Spec.applies_iff w_frames).mpr ⟨w_running, w_runnable, w_alone, w_named, w_hears, w_ripe, w_room, w_tables⟩
theorem atStart : AtStart classFile x code maxLocals ret World_1 tables_1 room_1 Calls_1 rest_1 Pre_1 launch0 p0 e0 about1 theMethod args0 below0 :=
  ⟨lists_1, trivial, launch0.admits_env _ _ _, launch0.least_env, fairChoices_fair.cas, fairChoices_fair.clock, w_frames, w_args, w_heap, w_applies, trivial, trivial, w_case⟩
end start1
theorem witness_1 : WitnessClaimed_1 := ⟨start1.p0, start1.e0, start1.about1, start1.theMethod, start1.args0, start1.below0, start1.atStart⟩
end Jvm.Pilot.@@N@@
