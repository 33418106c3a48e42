import JvmDerived
import JvmDerived.Pilot.@@N@@Statement
import JvmDerived.Pilot.@@N@@Code
set_option linter.unusedVariables false
set_option linter.unusedSimpArgs false
namespace Jvm.RoadKit
open Sem ClassFile Op Lib Jvm.Stand Jvm.Free Jvm.LawKit
section New
variable {p : Program} {l : Launch} {e : Env} {R : Room} {s : State} {m : MethodId} {args : Array Value} {below : List Frame} {meth : Method} {c : Code} {T : State} {locs : List Loc} {cells slots : Nat}
theorem retI (X : Stand p l e R s m args below meth c T locs cells slots) (hx : p.tables.exec = Jvm.exec) {pc : Nat} {Ls : Array Slot} {z : Int32} {rest : List Value} (hret : meth.sig.returnType = some .int) (hd : decode c.code pc = .ok (.ireturn, 1)) {fs : List Frame}
    (hl : ∀ (f : JFrame) (acts : List Action), f.method = m → f.locked = none → f.entered = [] → (doReturn e (T.setTop f) acts (some (.int z))).1 = T.setFrames fs) : Steps p.tables e below (T.setTop (mkF m pc Ls (.int z :: rest))) (T.setFrames fs) := by
  have hm' : T.vm.method? m = some meth := X.method'
  have hn : narrow .int (.int z) = .int z := rfl
  show Steps p.tables e below (T.setTop { method := m, pc := pc, locals := Ls, stack := _ :: rest, locked := none }) _
  jvm_step X.here [X.here.top, hx, hd, hm', hret, hn]
  first | (intro acts; rw [hl _ acts rfl rfl rfl]) | rw [hl _ _ rfl rfl rfl]
  exact Steps.refl _
end New
end Jvm.RoadKit
namespace Jvm.Pilot.@@N@@
open Jvm Jvm.ClassFile Sem Op Lib Jvm.Free Jvm.Stand Jvm.LawKit Jvm.RoadKit Bundle Jvm.Pilot.@@N@@.Jvm.D
def own_one (e : Int32) : Int32 := if e = 0 then 0 else 1
def own_cnt (n e0 e1 e2 e3 : Int32) : Int32 := if n = 0 then 0 else if n = 1 then 0 + own_one e0 else if n = 2 then 0 + own_one e0 + own_one e1 else if n = 3 then 0 + own_one e0 + own_one e1 + own_one e2 else 0 + own_one e0 + own_one e1 + own_one e2 + own_one e3
def own_bit (b i : Int32) : Int32 := if ((b.toUInt32 >>> (i &&& 31).toUInt32).toInt32 &&& 1) = 0 then 0 else 1
theorem own_rem (a : Int32) (n : Int32) (hn : 0 < n.toInt) : 0 ≤ ((a &&& 2147483647) % n).toInt ∧ ((a &&& 2147483647) % n).toInt < n.toInt := by
  have h1 := c_and a 2147483647 (by decide)
  have h2 := (c_iremV (a &&& 2147483647) n).1 h1.1 hn
  exact ⟨h2.1, h2.2.1⟩
theorem own_n (a : Int32) : ((a &&& 2147483647) % 5) = 0 ∨ ((a &&& 2147483647) % 5) = 1 ∨ ((a &&& 2147483647) % 5) = 2 ∨ ((a &&& 2147483647) % 5) = 3 ∨ ((a &&& 2147483647) % 5) = 4 := by
  have h := own_rem a 5 (by decide)
  rw [show (5 : Int32).toInt = 5 from rfl] at h
  simp only [← Int32.toInt_inj, show (0 : Int32).toInt = 0 from rfl, show (1 : Int32).toInt = 1 from rfl, show (2 : Int32).toInt = 2 from rfl, show (3 : Int32).toInt = 3 from rfl, show (4 : Int32).toInt = 4 from rfl]
  omega
theorem own_k0 (a n : Int32) (hn : 0 < n.toInt) : 0 ≤ ((a &&& 3) % n).toInt ∧ ((a &&& 3) % n).toInt < n.toInt := by
  have h1 := c_and a 3 (by decide)
  have h2 := (c_iremV (a &&& 3) n).1 h1.1 hn
  exact ⟨h2.1, h2.2.1⟩
theorem own_k1 (a : Int32) : ((a &&& 3) % 1) = 0 := by
  have h := own_k0 a 1 (by decide)
  rw [show (1 : Int32).toInt = 1 from rfl] at h
  simp only [← Int32.toInt_inj, show (0 : Int32).toInt = 0 from rfl, show (1 : Int32).toInt = 1 from rfl, show (2 : Int32).toInt = 2 from rfl, show (3 : Int32).toInt = 3 from rfl]
  omega
theorem own_k2 (a : Int32) : ((a &&& 3) % 2) = 0 ∨ ((a &&& 3) % 2) = 1 := by
  have h := own_k0 a 2 (by decide)
  rw [show (2 : Int32).toInt = 2 from rfl] at h
  simp only [← Int32.toInt_inj, show (0 : Int32).toInt = 0 from rfl, show (1 : Int32).toInt = 1 from rfl, show (2 : Int32).toInt = 2 from rfl, show (3 : Int32).toInt = 3 from rfl]
  omega
theorem own_k3 (a : Int32) : ((a &&& 3) % 3) = 0 ∨ ((a &&& 3) % 3) = 1 ∨ ((a &&& 3) % 3) = 2 := by
  have h := own_k0 a 3 (by decide)
  rw [show (3 : Int32).toInt = 3 from rfl] at h
  simp only [← Int32.toInt_inj, show (0 : Int32).toInt = 0 from rfl, show (1 : Int32).toInt = 1 from rfl, show (2 : Int32).toInt = 2 from rfl, show (3 : Int32).toInt = 3 from rfl]
  omega
theorem own_k4 (a : Int32) : ((a &&& 3) % 4) = 0 ∨ ((a &&& 3) % 4) = 1 ∨ ((a &&& 3) % 4) = 2 ∨ ((a &&& 3) % 4) = 3 := by
  have h := own_k0 a 4 (by decide)
  rw [show (4 : Int32).toInt = 4 from rfl] at h
  simp only [← Int32.toInt_inj, show (0 : Int32).toInt = 0 from rfl, show (1 : Int32).toInt = 1 from rfl, show (2 : Int32).toInt = 2 from rfl, show (3 : Int32).toInt = 3 from rfl]
  omega
theorem own_m (p c : Int32) (h : 15 &&& c = c) : p &&& c = (p &&& 15) &&& c := by rw [Int32.and_assoc, h]
theorem own_q (p : Int32) : ∃ i : Fin 16, p &&& 15 = Int32.ofNat i.1 := by
  have h := c_mask p 15 4 (by decide) (by decide)
  refine ⟨⟨(p &&& 15).toInt.toNat, by omega⟩, ?_⟩
  apply Int32.toInt_inj.mp
  show (p &&& 15).toInt = (Int32.ofNat (p &&& 15).toInt.toNat).toInt
  rw [Int32.toInt_ofNat_of_lt (by omega)]; omega
theorem own_fin0 (pb : Int32) : own_cnt 0 0 0 0 0 = (((own_bit (pb &&& (((1 : Int32) <<< ((0 : Int32) &&& 31)) - (1 : Int32))) (0 : Int32)) + (own_bit (pb &&& (((1 : Int32) <<< ((0 : Int32) &&& 31)) - (1 : Int32))) (1 : Int32))) + (own_bit (pb &&& (((1 : Int32) <<< ((0 : Int32) &&& 31)) - (1 : Int32))) (2 : Int32))) + (own_bit (pb &&& (((1 : Int32) <<< ((0 : Int32) &&& 31)) - (1 : Int32))) (3 : Int32)) := by
  have e : pb &&& (((1 : Int32) <<< ((0 : Int32) &&& 31)) - (1 : Int32)) = 0 := by rw [show (((1 : Int32) <<< ((0 : Int32) &&& 31)) - (1 : Int32)) = (0 : Int32) from by decide]; exact Int32.and_zero
  rw [e]; decide
theorem own_fin1 {pb vz kv b v0 e0 : Int32} (h0 : v0 = if (pb &&& 1) = 0 then 0 else 1) (hz : vz = 0 ∨ vz = 1) (hk : kv = 0 ∧ e0 = nar .boolean vz) (hb : b = if vz = 0 then ((pb &&& (((1 : Int32) <<< ((1 : Int32) &&& 31)) - (1 : Int32))) &&& (((1 : Int32) <<< (kv &&& 31)) ^^^ (-1 : Int32))) else ((pb &&& (((1 : Int32) <<< ((1 : Int32) &&& 31)) - (1 : Int32))) ||| ((1 : Int32) <<< (kv &&& 31)))) : own_cnt 1 e0 0 0 0 = (((own_bit b (0 : Int32)) + (own_bit b (1 : Int32))) + (own_bit b (2 : Int32))) + (own_bit b (3 : Int32)) := by
  rw [own_m pb 1 (by decide)] at h0
  rw [own_m pb (((1 : Int32) <<< ((1 : Int32) &&& 31)) - (1 : Int32)) (by decide)] at hb
  obtain ⟨q, hq⟩ := own_q pb
  rw [hq] at hb h0
  clear hq
  subst h0
  obtain ⟨rfl, rfl⟩ := hk
  all_goals
    subst hb
    rcases hz with rfl | rfl <;> (revert q; decide +kernel)
theorem own_fin2 {pb vz kv b v0 v1 e0 e1 : Int32} (h0 : v0 = if (pb &&& 1) = 0 then 0 else 1) (h1 : v1 = if (pb &&& 2) = 0 then 0 else 1) (hz : vz = 0 ∨ vz = 1) (hk : (kv = 0 ∧ e0 = (nar .boolean vz) ∧ e1 = (nar .boolean v1)) ∨ (kv = 1 ∧ e0 = (nar .boolean v0) ∧ e1 = (nar .boolean vz))) (hb : b = if vz = 0 then ((pb &&& (((1 : Int32) <<< ((2 : Int32) &&& 31)) - (1 : Int32))) &&& (((1 : Int32) <<< (kv &&& 31)) ^^^ (-1 : Int32))) else ((pb &&& (((1 : Int32) <<< ((2 : Int32) &&& 31)) - (1 : Int32))) ||| ((1 : Int32) <<< (kv &&& 31)))) : own_cnt 2 e0 e1 0 0 = (((own_bit b (0 : Int32)) + (own_bit b (1 : Int32))) + (own_bit b (2 : Int32))) + (own_bit b (3 : Int32)) := by
  rw [own_m pb 1 (by decide)] at h0; rw [own_m pb 2 (by decide)] at h1
  rw [own_m pb (((1 : Int32) <<< ((2 : Int32) &&& 31)) - (1 : Int32)) (by decide)] at hb
  obtain ⟨q, hq⟩ := own_q pb
  rw [hq] at hb h0 h1
  clear hq
  subst h0 h1
  rcases hk with ⟨rfl, rfl, rfl⟩ | ⟨rfl, rfl, rfl⟩
  all_goals
    subst hb
    rcases hz with rfl | rfl <;> (revert q; decide +kernel)
theorem own_fin3 {pb vz kv b v0 v1 v2 e0 e1 e2 : Int32} (h0 : v0 = if (pb &&& 1) = 0 then 0 else 1) (h1 : v1 = if (pb &&& 2) = 0 then 0 else 1) (h2 : v2 = if (pb &&& 4) = 0 then 0 else 1) (hz : vz = 0 ∨ vz = 1) (hk : (kv = 0 ∧ e0 = (nar .boolean vz) ∧ e1 = (nar .boolean v1) ∧ e2 = (nar .boolean v2)) ∨ (kv = 1 ∧ e0 = (nar .boolean v0) ∧ e1 = (nar .boolean vz) ∧ e2 = (nar .boolean v2)) ∨ (kv = 2 ∧ e0 = (nar .boolean v0) ∧ e1 = (nar .boolean v1) ∧ e2 = (nar .boolean vz))) (hb : b = if vz = 0 then ((pb &&& (((1 : Int32) <<< ((3 : Int32) &&& 31)) - (1 : Int32))) &&& (((1 : Int32) <<< (kv &&& 31)) ^^^ (-1 : Int32))) else ((pb &&& (((1 : Int32) <<< ((3 : Int32) &&& 31)) - (1 : Int32))) ||| ((1 : Int32) <<< (kv &&& 31)))) : own_cnt 3 e0 e1 e2 0 = (((own_bit b (0 : Int32)) + (own_bit b (1 : Int32))) + (own_bit b (2 : Int32))) + (own_bit b (3 : Int32)) := by
  rw [own_m pb 1 (by decide)] at h0; rw [own_m pb 2 (by decide)] at h1; rw [own_m pb 4 (by decide)] at h2
  rw [own_m pb (((1 : Int32) <<< ((3 : Int32) &&& 31)) - (1 : Int32)) (by decide)] at hb
  obtain ⟨q, hq⟩ := own_q pb
  rw [hq] at hb h0 h1 h2
  clear hq
  subst h0 h1 h2
  rcases hk with ⟨rfl, rfl, rfl, rfl⟩ | ⟨rfl, rfl, rfl, rfl⟩ | ⟨rfl, rfl, rfl, rfl⟩
  all_goals
    subst hb
    rcases hz with rfl | rfl <;> (revert q; decide +kernel)
theorem own_fin4 {pb vz kv b v0 v1 v2 v3 e0 e1 e2 e3 : Int32} (h0 : v0 = if (pb &&& 1) = 0 then 0 else 1) (h1 : v1 = if (pb &&& 2) = 0 then 0 else 1) (h2 : v2 = if (pb &&& 4) = 0 then 0 else 1) (h3 : v3 = if (pb &&& 8) = 0 then 0 else 1) (hz : vz = 0 ∨ vz = 1) (hk : (kv = 0 ∧ e0 = (nar .boolean vz) ∧ e1 = (nar .boolean v1) ∧ e2 = (nar .boolean v2) ∧ e3 = (nar .boolean v3)) ∨ (kv = 1 ∧ e0 = (nar .boolean v0) ∧ e1 = (nar .boolean vz) ∧ e2 = (nar .boolean v2) ∧ e3 = (nar .boolean v3)) ∨ (kv = 2 ∧ e0 = (nar .boolean v0) ∧ e1 = (nar .boolean v1) ∧ e2 = (nar .boolean vz) ∧ e3 = (nar .boolean v3)) ∨ (kv = 3 ∧ e0 = (nar .boolean v0) ∧ e1 = (nar .boolean v1) ∧ e2 = (nar .boolean v2) ∧ e3 = (nar .boolean vz))) (hb : b = if vz = 0 then ((pb &&& (((1 : Int32) <<< ((4 : Int32) &&& 31)) - (1 : Int32))) &&& (((1 : Int32) <<< (kv &&& 31)) ^^^ (-1 : Int32))) else ((pb &&& (((1 : Int32) <<< ((4 : Int32) &&& 31)) - (1 : Int32))) ||| ((1 : Int32) <<< (kv &&& 31)))) : own_cnt 4 e0 e1 e2 e3  = (((own_bit b (0 : Int32)) + (own_bit b (1 : Int32))) + (own_bit b (2 : Int32))) + (own_bit b (3 : Int32)) := by
  rw [own_m pb 1 (by decide)] at h0; rw [own_m pb 2 (by decide)] at h1; rw [own_m pb 4 (by decide)] at h2; rw [own_m pb 8 (by decide)] at h3
  rw [own_m pb (((1 : Int32) <<< ((4 : Int32) &&& 31)) - (1 : Int32)) (by decide)] at hb
  obtain ⟨q, hq⟩ := own_q pb
  rw [hq] at hb h0 h1 h2 h3
  clear hq
  subst h0 h1 h2 h3
  rcases hk with ⟨rfl, rfl, rfl, rfl, rfl⟩ | ⟨rfl, rfl, rfl, rfl, rfl⟩ | ⟨rfl, rfl, rfl, rfl, rfl⟩ | ⟨rfl, rfl, rfl, rfl, rfl⟩
  all_goals
    subst hb
    rcases hz with rfl | rfl <;> (revert q; decide +kernel)
theorem d1_0 : decode prog_102_method_1_code 0 = .ok (.aload_n 0, 1) := by decide +kernel
theorem d1_1 : decode prog_102_method_1_code 1 = .ok (.invokespecial 1, 3) := by decide +kernel
theorem d1_4 : decode prog_102_method_1_code 4 = .ok (.aload_n 0, 1) := by decide +kernel
theorem d1_5 : decode prog_102_method_1_code 5 = .ok (.iload_n 1, 1) := by decide +kernel
theorem d1_6 : decode prog_102_method_1_code 6 = .ok (.newarray .boolean, 2) := by decide +kernel
theorem d1_8 : decode prog_102_method_1_code 8 = .ok (.putfield 7, 3) := by decide +kernel
theorem d1_11 : decode prog_102_method_1_code 11 = .ok (.return_, 1) := by decide +kernel
theorem own_pn7 : plainName "com/example/tresse/tresse/rwlock/Flags" = true := by first | (simp [plainName, overriddenIn]; done) | decide +kernel
theorem ef_1 (m : MethodId) (x0 : Addr) (x1 : Int32) : entryFrame m #[(.ref x0), (.int x1)] 2 = mkF m 0 #[.val (.ref x0), .val (.int x1)] [] := by first | (simp [entryFrame, mkF, argsToLocals, Value.category]; done) | rfl
def Q1 (Z : State) (aa : Addr) (pn : Int32) (h0 : Heap) (n0 : Nat) (v : Option Value) (h : Heap) (L : List Loc) : Prop := ∃ (ar : Addr) (kk : ClassId), v = none ∧ Fr n0 L ∧ Keep h0 h [aa] ∧ Exa Z h aa "com/example/tresse/tresse/rwlock/Flags" ∧ Fld Z h aa "com/example/tresse/tresse/rwlock/Flags" "values" "[Z" (.ref ar) ∧ Arv Z h ar kk .boolean pn [(.int (0 : Int32)), (.int (0 : Int32)), (.int (0 : Int32)), (.int (0 : Int32))] (.int (0 : Int32)) ∧ n0 ≤ ar ∧ h0.size ≤ ar
set_option maxRecDepth 65536 in
set_option maxHeartbeats 40000000 in
theorem rm1 (l : Launch) (Z : State) (a0 : Array Value) (hw : ∀ d ∈ tables_1, d.before a0 Z = true) (ws : List Jvm.Cond) (aa : Addr) (pn : Int32) (h0 : Heap) (n0 : Nat) (Z0 : n0 ≤ h0.size) (Fv : Fld Z h0 aa "com/example/tresse/tresse/rwlock/Flags" "values" "[Z" .null) (Ea : Exa Z h0 aa "com/example/tresse/tresse/rwlock/Flags") (g_aa : n0 ≤ aa) (hn0 : ¬ pn < 0) (hn4 : pn.toNatClampNeg ≤ 4) :
    MetFree l (⟨"com/example/tresse/tresse/rwlock/Flags", "<init>", "(I)V"⟩ : MethodName) (head1 (Jvm.Cond.code (⟨"com/example/tresse/tresse/rwlock/Flags", "<init>", "(I)V"⟩ : MethodName) prog_102_method_1_code 2 none :: ws) ({ frames := 1, cells := 1, slots := 4, locals := 12 } : Room)) (fun a U => a = #[(.ref aa), (.int pn)] ∧ Z.Warmed39 U.vm ∧ U.heap = h0) (fun _ _ _ _ _ => True) (fun _ U o U' => ∃ v L, o = .returned v ∧ Q1 Z aa pn h0 n0 v U'.heap L ∧ FrameEnd U o U' L ({ frames := 1, cells := 1, slots := 4, locals := 12 } : Room).cells ({ frames := 1, cells := 1, slots := 4, locals := 12 } : Room).slots) := by
  refine MetFree.of_bodySF (plainFor_of_name own_pn7) hisR ?_
  intro p e s m args below meth c s₁ Bd hml0 hP hK
  obtain ⟨rfl, hZ, hh⟩ := hP
  have hx := Bd.exec
  have hby := Bd.bytes
  have hml : c.maxLocals = 2 := hml0
  have hown : s.vm.findClass "com/example/tresse/tresse/rwlock/Flags" = some m.cls := findClass_of_methodNamed Bd.named
  have hnm := (name_of_methodNamed Bd.named Bd.method).1
  have X0 : Stand p l e ({ frames := 1, cells := 1, slots := 4, locals := 12 } : Room) s m #[(.ref aa), (.int pn)] below meth c s₁ [] 0 0 := Stand.of_body Bd
  have e0 : s₁.heap = h0 := by rw [← hh, Bd.state]; rfl
  have N0 := Fr.nil n0
  have pre0 : ∀ t, Steps p.tables e below (s₁.setTop (mkF m 0 #[.val (.ref aa), .val (.int pn)] [])) t → Steps p.tables e below (s₁.setTop (entryFrame m #[(.ref aa), (.int pn)] 2)) t := fun t k => castTop (ef_1 m aa pn) k
  generalize s₁.setTop (entryFrame m #[(.ref aa), (.int pn)] 2) = G0 at pre0 ⊢
  obtain ⟨T1, X1, e1, st1⟩ := initO X0 hx hZ hown (hw _ (List.mem_of_getElem? (i := 7) rfl)) (hw _ (List.mem_of_getElem? (i := 8) rfl)) (hw _ (List.mem_of_getElem? (i := 9) rfl)) e0 (g := (mkF m 1 #[.val (.ref aa), .val (.int pn)] [(.ref aa)])) rfl (by rw [hml]; rfl) rfl (hb hby d1_1) (by decide) (W := 0) (by show 2 * 0 + _ ≤ _; exact Nat.le_of_eq rfl) (by decide)
  obtain ⟨T2, h2, k2, X2, e2, E2, A2, st2⟩ := newP X1 hx hZ (hw _ (List.mem_of_getElem? (i := 10) rfl)) e1 (g := (mkF m 6 #[.val (.ref aa), .val (.int pn)] [(.int pn), (.ref aa)])) rfl (hb hby d1_6) rfl hn0 (cap := 4) hn4 (by decide) (by decide) (by decide)
  obtain ⟨b2, g2⟩ : ∃ z, z = h0.size := ⟨_, rfl⟩
  rw [← g2] at A2 st2
  have g_b2 : n0 ≤ b2 := Nat.le_trans Z0 (Nat.le_of_eq g2.symm)
  have sz_b2 : h0.size ≤ b2 := Nat.le_of_eq g2.symm
  have ne_aa_b2 : aa ≠ b2 := Nat.ne_of_lt (Nat.lt_of_lt_of_le Ea.lt (Nat.le_of_eq g2.symm))
  have Zs2 : n0 ≤ h2.size := Nat.le_trans Z0 E2.1
  have KK2 : Keep h0 h2 [aa] := (Keep.refl h0 _).ext E2
  have f3 := Ea.ext E2
  have f4 := Fv.ext E2
  have V2 : Arv Z h2 b2 k2 .boolean pn [(.int (0 : Int32)), (.int (0 : Int32)), (.int (0 : Int32)), (.int (0 : Int32))] (.int (0 : Int32)) := (Arv.new A2 hn0).pad (pad_rep [] (.int (0 : Int32)) 4)
  obtain ⟨T5, h5, X5, e5, W5, st5⟩ := putF X2 hx hZ hown (host := "") (Or.inl (hw _ (List.mem_of_getElem? (i := 11) rfl))) Via.refl e2 f4 f3 (Or.inr ⟨(hw _ (List.mem_of_getElem? (i := 12) rfl)), rfl, hnm⟩) (hw _ (List.mem_of_getElem? (i := 2) rfl)) (ty := (.array .boolean)) (by decide) rfl rfl (g := (mkF m 8 #[.val (.ref aa), .val (.int pn)] [(.ref b2), (.ref aa)])) rfl rfl (hb hby d1_8)
  have N5 := Fr.snoc X5 N0 g_aa
  have Zs5 : n0 ≤ h5.size := Nat.le_trans Zs2 (Keep.of_wr W5).1
  have KK5 : Keep h0 h5 [aa] := KK2.wr W5 (Or.inl (List.mem_of_getElem? (i := 0) rfl))
  have f6 := f3.wr W5
  have f7 := f4.same W5
  have f8 := V2.other W5 (Ne.symm ne_aa_b2)
  obtain ⟨fs, hr, hrun, hended, hW, hsame⟩ := X5.leave (v := none) (fun _ => rfl)
  refine ⟨_, _, pre0 _ ?_, hrun, hended, _, _, rfl, ?_, ⟨_, rfl⟩, hW, hsame.mono (by decide) (by decide)⟩
  · show Steps p.tables e below (s₁.setTop (mkF m 0 #[.val (.ref aa), .val (.int pn)] [])) _
    refine XS.aloadN X0.here hx rfl (hb hby d1_0) rfl rfl ?_
    show Steps p.tables e below (s₁.setTop (mkF m 1 #[.val (.ref aa), .val (.int pn)] [(.ref aa)])) _
    refine st1 _ ?_
    show Steps p.tables e below (T1.setTop (mkF m 4 #[.val (.ref aa), .val (.int pn)] [])) _
    refine XS.aloadN X1.here hx rfl (hb hby d1_4) rfl rfl ?_
    show Steps p.tables e below (T1.setTop (mkF m 5 #[.val (.ref aa), .val (.int pn)] [(.ref aa)])) _
    refine XS.iloadN X1.here hx rfl (hb hby d1_5) rfl ?_
    show Steps p.tables e below (T1.setTop (mkF m 6 #[.val (.ref aa), .val (.int pn)] [(.int pn), (.ref aa)])) _
    refine st2 _ ?_
    show Steps p.tables e below (T2.setTop (mkF m 8 #[.val (.ref aa), .val (.int pn)] [(.ref b2), (.ref aa)])) _
    refine st5 _ ?_
    show Steps p.tables e below (T5.setTop (mkF m 11 #[.val (.ref aa), .val (.int pn)] [])) _
    exact X5.returnOut hx Bd.returns (hb hby d1_11) hr
  · show Q1 Z aa pn h0 n0 _ T5.heap _
    rw [e5]
    exact ⟨b2, k2, rfl, N5, KK5, f6, f7, f8, g_b2, sz_b2⟩
theorem d3_0 : decode prog_102_method_3_code 0 = .ok (.iconst 0, 1) := by decide +kernel
theorem d3_1 : decode prog_102_method_3_code 1 = .ok (.istore_n 1, 1) := by decide +kernel
theorem d3_2 : decode prog_102_method_3_code 2 = .ok (.aload_n 0, 1) := by decide +kernel
theorem d3_3 : decode prog_102_method_3_code 3 = .ok (.getfield 7, 3) := by decide +kernel
theorem d3_6 : decode prog_102_method_3_code 6 = .ok (.astore_n 2, 1) := by decide +kernel
theorem d3_7 : decode prog_102_method_3_code 7 = .ok (.aload_n 2, 1) := by decide +kernel
theorem d3_8 : decode prog_102_method_3_code 8 = .ok (.arraylength, 1) := by decide +kernel
theorem d3_9 : decode prog_102_method_3_code 9 = .ok (.istore_n 3, 1) := by decide +kernel
theorem d3_10 : decode prog_102_method_3_code 10 = .ok (.iconst 0, 1) := by decide +kernel
theorem d3_11 : decode prog_102_method_3_code 11 = .ok (.istore 4, 2) := by decide +kernel
theorem d3_13 : decode prog_102_method_3_code 13 = .ok (.iload 4, 2) := by decide +kernel
theorem d3_15 : decode prog_102_method_3_code 15 = .ok (.iload_n 3, 1) := by decide +kernel
theorem d3_16 : decode prog_102_method_3_code 16 = .ok (.if_icmp .ge 23, 3) := by decide +kernel
theorem d3_39 : decode prog_102_method_3_code 39 = .ok (.iload_n 1, 1) := by decide +kernel
theorem d3_40 : decode prog_102_method_3_code 40 = .ok (.ireturn, 1) := by decide +kernel
theorem d3_19 : decode prog_102_method_3_code 19 = .ok (.aload_n 2, 1) := by decide +kernel
theorem d3_20 : decode prog_102_method_3_code 20 = .ok (.iload 4, 2) := by decide +kernel
theorem d3_22 : decode prog_102_method_3_code 22 = .ok (.baload, 1) := by decide +kernel
theorem d3_23 : decode prog_102_method_3_code 23 = .ok (.istore 5, 2) := by decide +kernel
theorem d3_25 : decode prog_102_method_3_code 25 = .ok (.iload 5, 2) := by decide +kernel
theorem d3_27 : decode prog_102_method_3_code 27 = .ok (.ifCond .eq 6, 3) := by decide +kernel
theorem d3_30 : decode prog_102_method_3_code 30 = .ok (.iinc 1 1, 3) := by decide +kernel
theorem d3_33 : decode prog_102_method_3_code 33 = .ok (.iinc 4 1, 3) := by decide +kernel
theorem d3_36 : decode prog_102_method_3_code 36 = .ok (.goto (-23), 3) := by decide +kernel
theorem ef_3 (m : MethodId) (x0 : Addr) : entryFrame m #[(.ref x0)] 6 = mkF m 0 #[.val (.ref x0), .unset, .unset, .unset, .unset, .unset] [] := by first | (simp [entryFrame, mkF, argsToLocals, Value.category]; done) | rfl
def Q3 (Z : State) (aa : Addr) (ar : Addr) (kk : ClassId) (pn : Int32) (ea0 : Int32) (ea1 : Int32) (ea2 : Int32) (ea3 : Int32) (h0 : Heap) (n0 : Nat) (v : Option Value) (h : Heap) (L : List Loc) : Prop := v = some (.int (own_cnt pn ea0 ea1 ea2 ea3)) ∧ Fr n0 L ∧ h = h0
set_option maxRecDepth 65536 in
set_option maxHeartbeats 40000000 in
theorem rm3 (l : Launch) (Z : State) (a0 : Array Value) (hw : ∀ d ∈ tables_1, d.before a0 Z = true) (ws : List Jvm.Cond) (aa : Addr) (ar : Addr) (kk : ClassId) (pn : Int32) (ea0 : Int32) (ea1 : Int32) (ea2 : Int32) (ea3 : Int32) (h0 : Heap) (n0 : Nat) (Z0 : n0 ≤ h0.size) (Fv : Fld Z h0 aa "com/example/tresse/tresse/rwlock/Flags" "values" "[Z" (.ref ar)) (Va : Arv Z h0 ar kk .boolean pn [(.int ea0), (.int ea1), (.int ea2), (.int ea3)] (.int (0 : Int32))) (hn : pn = 0 ∨ pn = 1 ∨ pn = 2 ∨ pn = 3 ∨ pn = 4) :
    MetFree l (⟨"com/example/tresse/tresse/rwlock/Flags", "countTrue", "()I"⟩ : MethodName) (head1 (Jvm.Cond.code (⟨"com/example/tresse/tresse/rwlock/Flags", "countTrue", "()I"⟩ : MethodName) prog_102_method_3_code 6 (some .int) :: ws) ({ frames := 0, cells := 0, slots := 0, locals := 0 } : Room)) (fun a U => a = #[(.ref aa)] ∧ Z.Warmed39 U.vm ∧ U.heap = h0) (fun _ _ _ _ _ => True) (fun _ U o U' => ∃ v L, o = .returned v ∧ Q3 Z aa ar kk pn ea0 ea1 ea2 ea3 h0 n0 v U'.heap L ∧ FrameEnd U o U' L ({ frames := 0, cells := 0, slots := 0, locals := 0 } : Room).cells ({ frames := 0, cells := 0, slots := 0, locals := 0 } : Room).slots) := by
  refine MetFree.of_bodySF (plainFor_of_name own_pn7) hisR ?_
  intro p e s m args below meth c s₁ Bd hml0 hP hK
  obtain ⟨rfl, hZ, hh⟩ := hP
  have hx := Bd.exec
  have hby := Bd.bytes
  have hml : c.maxLocals = 6 := hml0
  have hown : s.vm.findClass "com/example/tresse/tresse/rwlock/Flags" = some m.cls := findClass_of_methodNamed Bd.named
  have hnm := (name_of_methodNamed Bd.named Bd.method).1
  have X0 : Stand p l e ({ frames := 0, cells := 0, slots := 0, locals := 0 } : Room) s m #[(.ref aa)] below meth c s₁ [] 0 0 := Stand.of_body Bd
  have e0 : s₁.heap = h0 := by rw [← hh, Bd.state]; rfl
  have N0 := Fr.nil n0
  have pre0 : ∀ t, Steps p.tables e below (s₁.setTop (mkF m 0 #[.val (.ref aa), .unset, .unset, .unset, .unset, .unset] [])) t → Steps p.tables e below (s₁.setTop (entryFrame m #[(.ref aa)] 6)) t := fun t k => castTop (ef_3 m aa) k
  generalize s₁.setTop (entryFrame m #[(.ref aa)] 6) = G0 at pre0 ⊢
  obtain ⟨T9, X9, e9, st9⟩ := getF X0 hx hZ hown (host := "") (Or.inl (hw _ (List.mem_of_getElem? (i := 11) rfl))) Via.refl e0 Fv (g := (mkF m 3 #[.val (.ref aa), .val (.int (0 : Int32)), .unset, .unset, .unset, .unset] [(.ref aa)])) rfl rfl (hb hby d3_3)
  obtain ⟨cl10, Ar10, -, S10, M10, -, -⟩ := id Va
  have pre11 : ∀ t, Steps p.tables e below (T9.setTop (mkF m 13 #[.val (.ref aa), .val (.int (0 : Int32)), .val (.ref ar), .val (.int pn), .val (.int (0 : Int32)), .unset] [])) t → Steps p.tables e below G0 t := by
    intro t k
    refine pre0 t ?_
    show Steps p.tables e below (s₁.setTop (mkF m 0 #[.val (.ref aa), .unset, .unset, .unset, .unset, .unset] [])) _
    refine XS.iconst X0.here hx rfl (hb hby d3_0) ?_
    show Steps p.tables e below (s₁.setTop (mkF m 1 #[.val (.ref aa), .unset, .unset, .unset, .unset, .unset] [(.int (0 : Int32))])) _
    refine XS.istoreN X0.here hx rfl (hb hby d3_1) rfl (l' := #[.val (.ref aa), .val (.int (0 : Int32)), .unset, .unset, .unset, .unset]) rfl ?_
    show Steps p.tables e below (s₁.setTop (mkF m 2 #[.val (.ref aa), .val (.int (0 : Int32)), .unset, .unset, .unset, .unset] [])) _
    refine XS.aloadN X0.here hx rfl (hb hby d3_2) rfl rfl ?_
    show Steps p.tables e below (s₁.setTop (mkF m 3 #[.val (.ref aa), .val (.int (0 : Int32)), .unset, .unset, .unset, .unset] [(.ref aa)])) _
    refine st9 _ ?_
    show Steps p.tables e below (T9.setTop (mkF m 6 #[.val (.ref aa), .val (.int (0 : Int32)), .unset, .unset, .unset, .unset] [(.ref ar)])) _
    refine XS.astoreN X9.here hx rfl (hb hby d3_6) rfl rfl (l' := #[.val (.ref aa), .val (.int (0 : Int32)), .val (.ref ar), .unset, .unset, .unset]) rfl ?_
    show Steps p.tables e below (T9.setTop (mkF m 7 #[.val (.ref aa), .val (.int (0 : Int32)), .val (.ref ar), .unset, .unset, .unset] [])) _
    refine XS.aloadN X9.here hx rfl (hb hby d3_7) rfl rfl ?_
    show Steps p.tables e below (T9.setTop (mkF m 8 #[.val (.ref aa), .val (.int (0 : Int32)), .val (.ref ar), .unset, .unset, .unset] [(.ref ar)])) _
    refine X9.arraylength hx (by rw [e9]; exact Ar10.1) (State.isArrayOf_alike hZ.alike Ar10.2.1) (g := (mkF m 8 #[.val (.ref aa), .val (.int (0 : Int32)), .val (.ref ar), .unset, .unset, .unset] [(.ref ar)])) rfl rfl (hb hby d3_8) _ ?_
    rw [len_of S10 M10]
    show Steps p.tables e below (T9.setTop (mkF m 9 #[.val (.ref aa), .val (.int (0 : Int32)), .val (.ref ar), .unset, .unset, .unset] [(.int pn)])) _
    refine XS.istoreN X9.here hx rfl (hb hby d3_9) rfl (l' := #[.val (.ref aa), .val (.int (0 : Int32)), .val (.ref ar), .val (.int pn), .unset, .unset]) rfl ?_
    show Steps p.tables e below (T9.setTop (mkF m 10 #[.val (.ref aa), .val (.int (0 : Int32)), .val (.ref ar), .val (.int pn), .unset, .unset] [])) _
    refine XS.iconst X9.here hx rfl (hb hby d3_10) ?_
    show Steps p.tables e below (T9.setTop (mkF m 11 #[.val (.ref aa), .val (.int (0 : Int32)), .val (.ref ar), .val (.int pn), .unset, .unset] [(.int (0 : Int32))])) _
    refine XS.istore X9.here hx rfl (hb hby d3_11) rfl (l' := #[.val (.ref aa), .val (.int (0 : Int32)), .val (.ref ar), .val (.int pn), .val (.int (0 : Int32)), .unset]) rfl ?_
    exact k
  rcases hn with hq12 | hq13 | hq14 | hq15 | hq16
  · rw [hq12] at pre11
    rw [hq12] at Va
    obtain ⟨fs, hr, hrun, hended, hW, hsame⟩ := X9.leave (v := some (.int (0 : Int32))) (fun h => by rw [Bd.returns] at h; cases h)
    refine ⟨_, _, pre11 _ ?_, hrun, hended, _, _, rfl, ?_, ⟨_, rfl⟩, hW, hsame.mono (by decide) (by decide)⟩
    · show Steps p.tables e below (T9.setTop (mkF m 13 #[.val (.ref aa), .val (.int (0 : Int32)), .val (.ref ar), .val (.int (0 : Int32)), .val (.int (0 : Int32)), .unset] [])) _
      refine XS.iload X9.here hx rfl (hb hby d3_13) rfl ?_
      show Steps p.tables e below (T9.setTop (mkF m 15 #[.val (.ref aa), .val (.int (0 : Int32)), .val (.ref ar), .val (.int (0 : Int32)), .val (.int (0 : Int32)), .unset] [(.int (0 : Int32))])) _
      refine XS.iloadN X9.here hx rfl (hb hby d3_15) rfl ?_
      show Steps p.tables e below (T9.setTop (mkF m 16 #[.val (.ref aa), .val (.int (0 : Int32)), .val (.ref ar), .val (.int (0 : Int32)), .val (.int (0 : Int32)), .unset] [(.int (0 : Int32)), (.int (0 : Int32))])) _
      refine XS.icmpYes X9.here hx rfl (pc0 := 16) (pc' := 39) rfl (hb hby d3_16) rfl (flt (by decide : ¬ ((0 : Int32) < (0 : Int32)))).2.1 (by decide) (by decide) ?_
      show Steps p.tables e below (T9.setTop (mkF m 39 #[.val (.ref aa), .val (.int (0 : Int32)), .val (.ref ar), .val (.int (0 : Int32)), .val (.int (0 : Int32)), .unset] [])) _
      refine XS.iloadN X9.here hx rfl (hb hby d3_39) rfl ?_
      show Steps p.tables e below (T9.setTop (mkF m 40 #[.val (.ref aa), .val (.int (0 : Int32)), .val (.ref ar), .val (.int (0 : Int32)), .val (.int (0 : Int32)), .unset] [(.int (0 : Int32))])) _
      exact retI X9 hx Bd.returns (hb hby d3_40) hr
    · show Q3 Z aa ar kk pn ea0 ea1 ea2 ea3 h0 n0 _ T9.heap _
      rw [e9]
      exact ⟨(by rw [hq12]; rfl), N0, rfl⟩
  · rw [hq13] at pre11
    rw [hq13] at Va
    obtain ⟨v33_22, hv25, pre24⟩ : ∃ (v33_22 : Int32), (v33_22 = (0 : Int32) + own_one ea0) ∧ ∀ t, Steps p.tables e below (T9.setTop (mkF m 33 #[.val (.ref aa), .val (.int v33_22), .val (.ref ar), .val (.int (1 : Int32)), .val (.int (0 : Int32)), .val (.int ea0)] [])) t → Steps p.tables e below G0 t := by
      obtain ⟨cl17, Ar17, -, S17, -, H17, -⟩ := id Va
      have hin17 : ¬ ((0 : Int32) < 0 ∨ cl17.slots.size ≤ ((0 : Int32)).toNatClampNeg) := inb_of S17 ⟨by decide, by decide⟩
      have hat17 : cl17.slots[((0 : Int32)).toNatClampNeg]? = some (.int ea0) := H17.at hin17 rfl
      have pre18 : ∀ t, Steps p.tables e below (T9.setTop (mkF m 27 #[.val (.ref aa), .val (.int (0 : Int32)), .val (.ref ar), .val (.int (1 : Int32)), .val (.int (0 : Int32)), .val (.int ea0)] [(.int ea0)])) t → Steps p.tables e below G0 t := by
        intro t k
        refine pre11 t ?_
        show Steps p.tables e below (T9.setTop (mkF m 13 #[.val (.ref aa), .val (.int (0 : Int32)), .val (.ref ar), .val (.int (1 : Int32)), .val (.int (0 : Int32)), .unset] [])) _
        refine XS.iload X9.here hx rfl (hb hby d3_13) rfl ?_
        show Steps p.tables e below (T9.setTop (mkF m 15 #[.val (.ref aa), .val (.int (0 : Int32)), .val (.ref ar), .val (.int (1 : Int32)), .val (.int (0 : Int32)), .unset] [(.int (0 : Int32))])) _
        refine XS.iloadN X9.here hx rfl (hb hby d3_15) rfl ?_
        show Steps p.tables e below (T9.setTop (mkF m 16 #[.val (.ref aa), .val (.int (0 : Int32)), .val (.ref ar), .val (.int (1 : Int32)), .val (.int (0 : Int32)), .unset] [(.int (1 : Int32)), (.int (0 : Int32))])) _
        refine XS.icmpNo X9.here hx rfl (hb hby d3_16) rfl (tlt (by decide : ((0 : Int32) < (1 : Int32)))).2.1 ?_
        show Steps p.tables e below (T9.setTop (mkF m 19 #[.val (.ref aa), .val (.int (0 : Int32)), .val (.ref ar), .val (.int (1 : Int32)), .val (.int (0 : Int32)), .unset] [])) _
        refine XS.aloadN X9.here hx rfl (hb hby d3_19) rfl rfl ?_
        show Steps p.tables e below (T9.setTop (mkF m 20 #[.val (.ref aa), .val (.int (0 : Int32)), .val (.ref ar), .val (.int (1 : Int32)), .val (.int (0 : Int32)), .unset] [(.ref ar)])) _
        refine XS.iload X9.here hx rfl (hb hby d3_20) rfl ?_
        show Steps p.tables e below (T9.setTop (mkF m 22 #[.val (.ref aa), .val (.int (0 : Int32)), .val (.ref ar), .val (.int (1 : Int32)), .val (.int (0 : Int32)), .unset] [(.int (0 : Int32)), (.ref ar)])) _
        refine X9.baloadBooleans hx (j := (0 : Int32)) (v := (.int ea0)) (by rw [e9]; exact Ar17.1) (State.isArrayOf_alike hZ.alike Ar17.2.1) Ar17.2.2 hin17 hat17 (g := (mkF m 22 #[.val (.ref aa), .val (.int (0 : Int32)), .val (.ref ar), .val (.int (1 : Int32)), .val (.int (0 : Int32)), .unset] [(.int (0 : Int32)), (.ref ar)])) rfl rfl (hb hby d3_22) _ ?_
        show Steps p.tables e below (T9.setTop (mkF m 23 #[.val (.ref aa), .val (.int (0 : Int32)), .val (.ref ar), .val (.int (1 : Int32)), .val (.int (0 : Int32)), .unset] [(.int ea0)])) _
        refine XS.istore X9.here hx rfl (hb hby d3_23) rfl (l' := #[.val (.ref aa), .val (.int (0 : Int32)), .val (.ref ar), .val (.int (1 : Int32)), .val (.int (0 : Int32)), .val (.int ea0)]) rfl ?_
        show Steps p.tables e below (T9.setTop (mkF m 25 #[.val (.ref aa), .val (.int (0 : Int32)), .val (.ref ar), .val (.int (1 : Int32)), .val (.int (0 : Int32)), .val (.int ea0)] [])) _
        refine XS.iload X9.here hx rfl (hb hby d3_25) rfl ?_
        exact k
      by_cases hc27_19 : ea0 = (0 : Int32)
      · have pre20 : ∀ t, Steps p.tables e below (T9.setTop (mkF m 33 #[.val (.ref aa), .val (.int (0 : Int32)), .val (.ref ar), .val (.int (1 : Int32)), .val (.int (0 : Int32)), .val (.int ea0)] [])) t → Steps p.tables e below G0 t := by
          intro t k
          refine pre18 t ?_
          show Steps p.tables e below (T9.setTop (mkF m 27 #[.val (.ref aa), .val (.int (0 : Int32)), .val (.ref ar), .val (.int (1 : Int32)), .val (.int (0 : Int32)), .val (.int ea0)] [(.int ea0)])) _
          refine XS.ifYes X9.here hx rfl (pc0 := 27) (pc' := 33) rfl (hb hby d3_27) rfl ((if0 _ _).trans (teq hc27_19).1) (by decide) (by decide) ?_
          exact k
        exact ⟨(0 : Int32), (by simp [own_one, hc27_19]), pre20⟩
      · have pre21 : ∀ t, Steps p.tables e below (T9.setTop (mkF m 33 #[.val (.ref aa), .val (.int (1 : Int32)), .val (.ref ar), .val (.int (1 : Int32)), .val (.int (0 : Int32)), .val (.int ea0)] [])) t → Steps p.tables e below G0 t := by
          intro t k
          refine pre18 t ?_
          show Steps p.tables e below (T9.setTop (mkF m 27 #[.val (.ref aa), .val (.int (0 : Int32)), .val (.ref ar), .val (.int (1 : Int32)), .val (.int (0 : Int32)), .val (.int ea0)] [(.int ea0)])) _
          refine XS.ifNo X9.here hx rfl (hb hby d3_27) rfl ((if0 _ _).trans (feq hc27_19).1) ?_
          show Steps p.tables e below (T9.setTop (mkF m 30 #[.val (.ref aa), .val (.int (0 : Int32)), .val (.ref ar), .val (.int (1 : Int32)), .val (.int (0 : Int32)), .val (.int ea0)] [])) _
          refine XS.iinc X9.here hx rfl (hb hby d3_30) rfl (l' := #[.val (.ref aa), .val (.int (1 : Int32)), .val (.ref ar), .val (.int (1 : Int32)), .val (.int (0 : Int32)), .val (.int ea0)]) rfl ?_
          exact k
        exact ⟨(1 : Int32), (by simp [own_one, hc27_19]), pre21⟩
    obtain ⟨fs, hr, hrun, hended, hW, hsame⟩ := X9.leave (v := some (.int v33_22)) (fun h => by rw [Bd.returns] at h; cases h)
    refine ⟨_, _, pre24 _ ?_, hrun, hended, _, _, rfl, ?_, ⟨_, rfl⟩, hW, hsame.mono (by decide) (by decide)⟩
    · show Steps p.tables e below (T9.setTop (mkF m 33 #[.val (.ref aa), .val (.int v33_22), .val (.ref ar), .val (.int (1 : Int32)), .val (.int (0 : Int32)), .val (.int ea0)] [])) _
      refine XS.iinc X9.here hx rfl (hb hby d3_33) rfl (l' := #[.val (.ref aa), .val (.int v33_22), .val (.ref ar), .val (.int (1 : Int32)), .val (.int (1 : Int32)), .val (.int ea0)]) rfl ?_
      show Steps p.tables e below (T9.setTop (mkF m 36 #[.val (.ref aa), .val (.int v33_22), .val (.ref ar), .val (.int (1 : Int32)), .val (.int (1 : Int32)), .val (.int ea0)] [])) _
      refine XS.goto X9.here hx rfl (pc0 := 36) (pc' := 13) rfl (hb hby d3_36) (by decide) (by decide) ?_
      show Steps p.tables e below (T9.setTop (mkF m 13 #[.val (.ref aa), .val (.int v33_22), .val (.ref ar), .val (.int (1 : Int32)), .val (.int (1 : Int32)), .val (.int ea0)] [])) _
      refine XS.iload X9.here hx rfl (hb hby d3_13) rfl ?_
      show Steps p.tables e below (T9.setTop (mkF m 15 #[.val (.ref aa), .val (.int v33_22), .val (.ref ar), .val (.int (1 : Int32)), .val (.int (1 : Int32)), .val (.int ea0)] [(.int (1 : Int32))])) _
      refine XS.iloadN X9.here hx rfl (hb hby d3_15) rfl ?_
      show Steps p.tables e below (T9.setTop (mkF m 16 #[.val (.ref aa), .val (.int v33_22), .val (.ref ar), .val (.int (1 : Int32)), .val (.int (1 : Int32)), .val (.int ea0)] [(.int (1 : Int32)), (.int (1 : Int32))])) _
      refine XS.icmpYes X9.here hx rfl (pc0 := 16) (pc' := 39) rfl (hb hby d3_16) rfl (flt (by decide : ¬ ((1 : Int32) < (1 : Int32)))).2.1 (by decide) (by decide) ?_
      show Steps p.tables e below (T9.setTop (mkF m 39 #[.val (.ref aa), .val (.int v33_22), .val (.ref ar), .val (.int (1 : Int32)), .val (.int (1 : Int32)), .val (.int ea0)] [])) _
      refine XS.iloadN X9.here hx rfl (hb hby d3_39) rfl ?_
      show Steps p.tables e below (T9.setTop (mkF m 40 #[.val (.ref aa), .val (.int v33_22), .val (.ref ar), .val (.int (1 : Int32)), .val (.int (1 : Int32)), .val (.int ea0)] [(.int v33_22)])) _
      exact retI X9 hx Bd.returns (hb hby d3_40) hr
    · show Q3 Z aa ar kk pn ea0 ea1 ea2 ea3 h0 n0 _ T9.heap _
      rw [e9]
      exact ⟨(by rw [hq13, hv25]; rfl), N0, rfl⟩
  · rw [hq14] at pre11
    rw [hq14] at Va
    obtain ⟨v33_31, hv34, pre33⟩ : ∃ (v33_31 : Int32), (v33_31 = (0 : Int32) + own_one ea0) ∧ ∀ t, Steps p.tables e below (T9.setTop (mkF m 33 #[.val (.ref aa), .val (.int v33_31), .val (.ref ar), .val (.int (2 : Int32)), .val (.int (0 : Int32)), .val (.int ea0)] [])) t → Steps p.tables e below G0 t := by
      obtain ⟨cl26, Ar26, -, S26, -, H26, -⟩ := id Va
      have hin26 : ¬ ((0 : Int32) < 0 ∨ cl26.slots.size ≤ ((0 : Int32)).toNatClampNeg) := inb_of S26 ⟨by decide, by decide⟩
      have hat26 : cl26.slots[((0 : Int32)).toNatClampNeg]? = some (.int ea0) := H26.at hin26 rfl
      have pre27 : ∀ t, Steps p.tables e below (T9.setTop (mkF m 27 #[.val (.ref aa), .val (.int (0 : Int32)), .val (.ref ar), .val (.int (2 : Int32)), .val (.int (0 : Int32)), .val (.int ea0)] [(.int ea0)])) t → Steps p.tables e below G0 t := by
        intro t k
        refine pre11 t ?_
        show Steps p.tables e below (T9.setTop (mkF m 13 #[.val (.ref aa), .val (.int (0 : Int32)), .val (.ref ar), .val (.int (2 : Int32)), .val (.int (0 : Int32)), .unset] [])) _
        refine XS.iload X9.here hx rfl (hb hby d3_13) rfl ?_
        show Steps p.tables e below (T9.setTop (mkF m 15 #[.val (.ref aa), .val (.int (0 : Int32)), .val (.ref ar), .val (.int (2 : Int32)), .val (.int (0 : Int32)), .unset] [(.int (0 : Int32))])) _
        refine XS.iloadN X9.here hx rfl (hb hby d3_15) rfl ?_
        show Steps p.tables e below (T9.setTop (mkF m 16 #[.val (.ref aa), .val (.int (0 : Int32)), .val (.ref ar), .val (.int (2 : Int32)), .val (.int (0 : Int32)), .unset] [(.int (2 : Int32)), (.int (0 : Int32))])) _
        refine XS.icmpNo X9.here hx rfl (hb hby d3_16) rfl (tlt (by decide : ((0 : Int32) < (2 : Int32)))).2.1 ?_
        show Steps p.tables e below (T9.setTop (mkF m 19 #[.val (.ref aa), .val (.int (0 : Int32)), .val (.ref ar), .val (.int (2 : Int32)), .val (.int (0 : Int32)), .unset] [])) _
        refine XS.aloadN X9.here hx rfl (hb hby d3_19) rfl rfl ?_
        show Steps p.tables e below (T9.setTop (mkF m 20 #[.val (.ref aa), .val (.int (0 : Int32)), .val (.ref ar), .val (.int (2 : Int32)), .val (.int (0 : Int32)), .unset] [(.ref ar)])) _
        refine XS.iload X9.here hx rfl (hb hby d3_20) rfl ?_
        show Steps p.tables e below (T9.setTop (mkF m 22 #[.val (.ref aa), .val (.int (0 : Int32)), .val (.ref ar), .val (.int (2 : Int32)), .val (.int (0 : Int32)), .unset] [(.int (0 : Int32)), (.ref ar)])) _
        refine X9.baloadBooleans hx (j := (0 : Int32)) (v := (.int ea0)) (by rw [e9]; exact Ar26.1) (State.isArrayOf_alike hZ.alike Ar26.2.1) Ar26.2.2 hin26 hat26 (g := (mkF m 22 #[.val (.ref aa), .val (.int (0 : Int32)), .val (.ref ar), .val (.int (2 : Int32)), .val (.int (0 : Int32)), .unset] [(.int (0 : Int32)), (.ref ar)])) rfl rfl (hb hby d3_22) _ ?_
        show Steps p.tables e below (T9.setTop (mkF m 23 #[.val (.ref aa), .val (.int (0 : Int32)), .val (.ref ar), .val (.int (2 : Int32)), .val (.int (0 : Int32)), .unset] [(.int ea0)])) _
        refine XS.istore X9.here hx rfl (hb hby d3_23) rfl (l' := #[.val (.ref aa), .val (.int (0 : Int32)), .val (.ref ar), .val (.int (2 : Int32)), .val (.int (0 : Int32)), .val (.int ea0)]) rfl ?_
        show Steps p.tables e below (T9.setTop (mkF m 25 #[.val (.ref aa), .val (.int (0 : Int32)), .val (.ref ar), .val (.int (2 : Int32)), .val (.int (0 : Int32)), .val (.int ea0)] [])) _
        refine XS.iload X9.here hx rfl (hb hby d3_25) rfl ?_
        exact k
      by_cases hc27_28 : ea0 = (0 : Int32)
      · have pre29 : ∀ t, Steps p.tables e below (T9.setTop (mkF m 33 #[.val (.ref aa), .val (.int (0 : Int32)), .val (.ref ar), .val (.int (2 : Int32)), .val (.int (0 : Int32)), .val (.int ea0)] [])) t → Steps p.tables e below G0 t := by
          intro t k
          refine pre27 t ?_
          show Steps p.tables e below (T9.setTop (mkF m 27 #[.val (.ref aa), .val (.int (0 : Int32)), .val (.ref ar), .val (.int (2 : Int32)), .val (.int (0 : Int32)), .val (.int ea0)] [(.int ea0)])) _
          refine XS.ifYes X9.here hx rfl (pc0 := 27) (pc' := 33) rfl (hb hby d3_27) rfl ((if0 _ _).trans (teq hc27_28).1) (by decide) (by decide) ?_
          exact k
        exact ⟨(0 : Int32), (by simp [own_one, hc27_28]), pre29⟩
      · have pre30 : ∀ t, Steps p.tables e below (T9.setTop (mkF m 33 #[.val (.ref aa), .val (.int (1 : Int32)), .val (.ref ar), .val (.int (2 : Int32)), .val (.int (0 : Int32)), .val (.int ea0)] [])) t → Steps p.tables e below G0 t := by
          intro t k
          refine pre27 t ?_
          show Steps p.tables e below (T9.setTop (mkF m 27 #[.val (.ref aa), .val (.int (0 : Int32)), .val (.ref ar), .val (.int (2 : Int32)), .val (.int (0 : Int32)), .val (.int ea0)] [(.int ea0)])) _
          refine XS.ifNo X9.here hx rfl (hb hby d3_27) rfl ((if0 _ _).trans (feq hc27_28).1) ?_
          show Steps p.tables e below (T9.setTop (mkF m 30 #[.val (.ref aa), .val (.int (0 : Int32)), .val (.ref ar), .val (.int (2 : Int32)), .val (.int (0 : Int32)), .val (.int ea0)] [])) _
          refine XS.iinc X9.here hx rfl (hb hby d3_30) rfl (l' := #[.val (.ref aa), .val (.int (1 : Int32)), .val (.ref ar), .val (.int (2 : Int32)), .val (.int (0 : Int32)), .val (.int ea0)]) rfl ?_
          exact k
        exact ⟨(1 : Int32), (by simp [own_one, hc27_28]), pre30⟩
    obtain ⟨v33_40, hv43, pre42⟩ : ∃ (v33_40 : Int32), (v33_40 = v33_31 + own_one ea1) ∧ ∀ t, Steps p.tables e below (T9.setTop (mkF m 33 #[.val (.ref aa), .val (.int v33_40), .val (.ref ar), .val (.int (2 : Int32)), .val (.int (1 : Int32)), .val (.int ea1)] [])) t → Steps p.tables e below G0 t := by
      obtain ⟨cl35, Ar35, -, S35, -, H35, -⟩ := id Va
      have hin35 : ¬ ((1 : Int32) < 0 ∨ cl35.slots.size ≤ ((1 : Int32)).toNatClampNeg) := inb_of S35 ⟨by decide, by decide⟩
      have hat35 : cl35.slots[((1 : Int32)).toNatClampNeg]? = some (.int ea1) := H35.at hin35 rfl
      have pre36 : ∀ t, Steps p.tables e below (T9.setTop (mkF m 27 #[.val (.ref aa), .val (.int v33_31), .val (.ref ar), .val (.int (2 : Int32)), .val (.int (1 : Int32)), .val (.int ea1)] [(.int ea1)])) t → Steps p.tables e below G0 t := by
        intro t k
        refine pre33 t ?_
        show Steps p.tables e below (T9.setTop (mkF m 33 #[.val (.ref aa), .val (.int v33_31), .val (.ref ar), .val (.int (2 : Int32)), .val (.int (0 : Int32)), .val (.int ea0)] [])) _
        refine XS.iinc X9.here hx rfl (hb hby d3_33) rfl (l' := #[.val (.ref aa), .val (.int v33_31), .val (.ref ar), .val (.int (2 : Int32)), .val (.int (1 : Int32)), .val (.int ea0)]) rfl ?_
        show Steps p.tables e below (T9.setTop (mkF m 36 #[.val (.ref aa), .val (.int v33_31), .val (.ref ar), .val (.int (2 : Int32)), .val (.int (1 : Int32)), .val (.int ea0)] [])) _
        refine XS.goto X9.here hx rfl (pc0 := 36) (pc' := 13) rfl (hb hby d3_36) (by decide) (by decide) ?_
        show Steps p.tables e below (T9.setTop (mkF m 13 #[.val (.ref aa), .val (.int v33_31), .val (.ref ar), .val (.int (2 : Int32)), .val (.int (1 : Int32)), .val (.int ea0)] [])) _
        refine XS.iload X9.here hx rfl (hb hby d3_13) rfl ?_
        show Steps p.tables e below (T9.setTop (mkF m 15 #[.val (.ref aa), .val (.int v33_31), .val (.ref ar), .val (.int (2 : Int32)), .val (.int (1 : Int32)), .val (.int ea0)] [(.int (1 : Int32))])) _
        refine XS.iloadN X9.here hx rfl (hb hby d3_15) rfl ?_
        show Steps p.tables e below (T9.setTop (mkF m 16 #[.val (.ref aa), .val (.int v33_31), .val (.ref ar), .val (.int (2 : Int32)), .val (.int (1 : Int32)), .val (.int ea0)] [(.int (2 : Int32)), (.int (1 : Int32))])) _
        refine XS.icmpNo X9.here hx rfl (hb hby d3_16) rfl (tlt (by decide : ((1 : Int32) < (2 : Int32)))).2.1 ?_
        show Steps p.tables e below (T9.setTop (mkF m 19 #[.val (.ref aa), .val (.int v33_31), .val (.ref ar), .val (.int (2 : Int32)), .val (.int (1 : Int32)), .val (.int ea0)] [])) _
        refine XS.aloadN X9.here hx rfl (hb hby d3_19) rfl rfl ?_
        show Steps p.tables e below (T9.setTop (mkF m 20 #[.val (.ref aa), .val (.int v33_31), .val (.ref ar), .val (.int (2 : Int32)), .val (.int (1 : Int32)), .val (.int ea0)] [(.ref ar)])) _
        refine XS.iload X9.here hx rfl (hb hby d3_20) rfl ?_
        show Steps p.tables e below (T9.setTop (mkF m 22 #[.val (.ref aa), .val (.int v33_31), .val (.ref ar), .val (.int (2 : Int32)), .val (.int (1 : Int32)), .val (.int ea0)] [(.int (1 : Int32)), (.ref ar)])) _
        refine X9.baloadBooleans hx (j := (1 : Int32)) (v := (.int ea1)) (by rw [e9]; exact Ar35.1) (State.isArrayOf_alike hZ.alike Ar35.2.1) Ar35.2.2 hin35 hat35 (g := (mkF m 22 #[.val (.ref aa), .val (.int v33_31), .val (.ref ar), .val (.int (2 : Int32)), .val (.int (1 : Int32)), .val (.int ea0)] [(.int (1 : Int32)), (.ref ar)])) rfl rfl (hb hby d3_22) _ ?_
        show Steps p.tables e below (T9.setTop (mkF m 23 #[.val (.ref aa), .val (.int v33_31), .val (.ref ar), .val (.int (2 : Int32)), .val (.int (1 : Int32)), .val (.int ea0)] [(.int ea1)])) _
        refine XS.istore X9.here hx rfl (hb hby d3_23) rfl (l' := #[.val (.ref aa), .val (.int v33_31), .val (.ref ar), .val (.int (2 : Int32)), .val (.int (1 : Int32)), .val (.int ea1)]) rfl ?_
        show Steps p.tables e below (T9.setTop (mkF m 25 #[.val (.ref aa), .val (.int v33_31), .val (.ref ar), .val (.int (2 : Int32)), .val (.int (1 : Int32)), .val (.int ea1)] [])) _
        refine XS.iload X9.here hx rfl (hb hby d3_25) rfl ?_
        exact k
      by_cases hc27_37 : ea1 = (0 : Int32)
      · have pre38 : ∀ t, Steps p.tables e below (T9.setTop (mkF m 33 #[.val (.ref aa), .val (.int v33_31), .val (.ref ar), .val (.int (2 : Int32)), .val (.int (1 : Int32)), .val (.int ea1)] [])) t → Steps p.tables e below G0 t := by
          intro t k
          refine pre36 t ?_
          show Steps p.tables e below (T9.setTop (mkF m 27 #[.val (.ref aa), .val (.int v33_31), .val (.ref ar), .val (.int (2 : Int32)), .val (.int (1 : Int32)), .val (.int ea1)] [(.int ea1)])) _
          refine XS.ifYes X9.here hx rfl (pc0 := 27) (pc' := 33) rfl (hb hby d3_27) rfl ((if0 _ _).trans (teq hc27_37).1) (by decide) (by decide) ?_
          exact k
        exact ⟨v33_31, (by simp [own_one, hc27_37]), pre38⟩
      · have pre39 : ∀ t, Steps p.tables e below (T9.setTop (mkF m 33 #[.val (.ref aa), .val (.int (v33_31 + (1 : Int32))), .val (.ref ar), .val (.int (2 : Int32)), .val (.int (1 : Int32)), .val (.int ea1)] [])) t → Steps p.tables e below G0 t := by
          intro t k
          refine pre36 t ?_
          show Steps p.tables e below (T9.setTop (mkF m 27 #[.val (.ref aa), .val (.int v33_31), .val (.ref ar), .val (.int (2 : Int32)), .val (.int (1 : Int32)), .val (.int ea1)] [(.int ea1)])) _
          refine XS.ifNo X9.here hx rfl (hb hby d3_27) rfl ((if0 _ _).trans (feq hc27_37).1) ?_
          show Steps p.tables e below (T9.setTop (mkF m 30 #[.val (.ref aa), .val (.int v33_31), .val (.ref ar), .val (.int (2 : Int32)), .val (.int (1 : Int32)), .val (.int ea1)] [])) _
          refine XS.iinc X9.here hx rfl (hb hby d3_30) rfl (l' := #[.val (.ref aa), .val (.int (v33_31 + (1 : Int32))), .val (.ref ar), .val (.int (2 : Int32)), .val (.int (1 : Int32)), .val (.int ea1)]) rfl ?_
          exact k
        exact ⟨(v33_31 + (1 : Int32)), (by simp [own_one, hc27_37]), pre39⟩
    obtain ⟨fs, hr, hrun, hended, hW, hsame⟩ := X9.leave (v := some (.int v33_40)) (fun h => by rw [Bd.returns] at h; cases h)
    refine ⟨_, _, pre42 _ ?_, hrun, hended, _, _, rfl, ?_, ⟨_, rfl⟩, hW, hsame.mono (by decide) (by decide)⟩
    · show Steps p.tables e below (T9.setTop (mkF m 33 #[.val (.ref aa), .val (.int v33_40), .val (.ref ar), .val (.int (2 : Int32)), .val (.int (1 : Int32)), .val (.int ea1)] [])) _
      refine XS.iinc X9.here hx rfl (hb hby d3_33) rfl (l' := #[.val (.ref aa), .val (.int v33_40), .val (.ref ar), .val (.int (2 : Int32)), .val (.int (2 : Int32)), .val (.int ea1)]) rfl ?_
      show Steps p.tables e below (T9.setTop (mkF m 36 #[.val (.ref aa), .val (.int v33_40), .val (.ref ar), .val (.int (2 : Int32)), .val (.int (2 : Int32)), .val (.int ea1)] [])) _
      refine XS.goto X9.here hx rfl (pc0 := 36) (pc' := 13) rfl (hb hby d3_36) (by decide) (by decide) ?_
      show Steps p.tables e below (T9.setTop (mkF m 13 #[.val (.ref aa), .val (.int v33_40), .val (.ref ar), .val (.int (2 : Int32)), .val (.int (2 : Int32)), .val (.int ea1)] [])) _
      refine XS.iload X9.here hx rfl (hb hby d3_13) rfl ?_
      show Steps p.tables e below (T9.setTop (mkF m 15 #[.val (.ref aa), .val (.int v33_40), .val (.ref ar), .val (.int (2 : Int32)), .val (.int (2 : Int32)), .val (.int ea1)] [(.int (2 : Int32))])) _
      refine XS.iloadN X9.here hx rfl (hb hby d3_15) rfl ?_
      show Steps p.tables e below (T9.setTop (mkF m 16 #[.val (.ref aa), .val (.int v33_40), .val (.ref ar), .val (.int (2 : Int32)), .val (.int (2 : Int32)), .val (.int ea1)] [(.int (2 : Int32)), (.int (2 : Int32))])) _
      refine XS.icmpYes X9.here hx rfl (pc0 := 16) (pc' := 39) rfl (hb hby d3_16) rfl (flt (by decide : ¬ ((2 : Int32) < (2 : Int32)))).2.1 (by decide) (by decide) ?_
      show Steps p.tables e below (T9.setTop (mkF m 39 #[.val (.ref aa), .val (.int v33_40), .val (.ref ar), .val (.int (2 : Int32)), .val (.int (2 : Int32)), .val (.int ea1)] [])) _
      refine XS.iloadN X9.here hx rfl (hb hby d3_39) rfl ?_
      show Steps p.tables e below (T9.setTop (mkF m 40 #[.val (.ref aa), .val (.int v33_40), .val (.ref ar), .val (.int (2 : Int32)), .val (.int (2 : Int32)), .val (.int ea1)] [(.int v33_40)])) _
      exact retI X9 hx Bd.returns (hb hby d3_40) hr
    · show Q3 Z aa ar kk pn ea0 ea1 ea2 ea3 h0 n0 _ T9.heap _
      rw [e9]
      exact ⟨(by rw [hq14, hv43, hv34]; rfl), N0, rfl⟩
  · rw [hq15] at pre11
    rw [hq15] at Va
    obtain ⟨v33_49, hv52, pre51⟩ : ∃ (v33_49 : Int32), (v33_49 = (0 : Int32) + own_one ea0) ∧ ∀ t, Steps p.tables e below (T9.setTop (mkF m 33 #[.val (.ref aa), .val (.int v33_49), .val (.ref ar), .val (.int (3 : Int32)), .val (.int (0 : Int32)), .val (.int ea0)] [])) t → Steps p.tables e below G0 t := by
      obtain ⟨cl44, Ar44, -, S44, -, H44, -⟩ := id Va
      have hin44 : ¬ ((0 : Int32) < 0 ∨ cl44.slots.size ≤ ((0 : Int32)).toNatClampNeg) := inb_of S44 ⟨by decide, by decide⟩
      have hat44 : cl44.slots[((0 : Int32)).toNatClampNeg]? = some (.int ea0) := H44.at hin44 rfl
      have pre45 : ∀ t, Steps p.tables e below (T9.setTop (mkF m 27 #[.val (.ref aa), .val (.int (0 : Int32)), .val (.ref ar), .val (.int (3 : Int32)), .val (.int (0 : Int32)), .val (.int ea0)] [(.int ea0)])) t → Steps p.tables e below G0 t := by
        intro t k
        refine pre11 t ?_
        show Steps p.tables e below (T9.setTop (mkF m 13 #[.val (.ref aa), .val (.int (0 : Int32)), .val (.ref ar), .val (.int (3 : Int32)), .val (.int (0 : Int32)), .unset] [])) _
        refine XS.iload X9.here hx rfl (hb hby d3_13) rfl ?_
        show Steps p.tables e below (T9.setTop (mkF m 15 #[.val (.ref aa), .val (.int (0 : Int32)), .val (.ref ar), .val (.int (3 : Int32)), .val (.int (0 : Int32)), .unset] [(.int (0 : Int32))])) _
        refine XS.iloadN X9.here hx rfl (hb hby d3_15) rfl ?_
        show Steps p.tables e below (T9.setTop (mkF m 16 #[.val (.ref aa), .val (.int (0 : Int32)), .val (.ref ar), .val (.int (3 : Int32)), .val (.int (0 : Int32)), .unset] [(.int (3 : Int32)), (.int (0 : Int32))])) _
        refine XS.icmpNo X9.here hx rfl (hb hby d3_16) rfl (tlt (by decide : ((0 : Int32) < (3 : Int32)))).2.1 ?_
        show Steps p.tables e below (T9.setTop (mkF m 19 #[.val (.ref aa), .val (.int (0 : Int32)), .val (.ref ar), .val (.int (3 : Int32)), .val (.int (0 : Int32)), .unset] [])) _
        refine XS.aloadN X9.here hx rfl (hb hby d3_19) rfl rfl ?_
        show Steps p.tables e below (T9.setTop (mkF m 20 #[.val (.ref aa), .val (.int (0 : Int32)), .val (.ref ar), .val (.int (3 : Int32)), .val (.int (0 : Int32)), .unset] [(.ref ar)])) _
        refine XS.iload X9.here hx rfl (hb hby d3_20) rfl ?_
        show Steps p.tables e below (T9.setTop (mkF m 22 #[.val (.ref aa), .val (.int (0 : Int32)), .val (.ref ar), .val (.int (3 : Int32)), .val (.int (0 : Int32)), .unset] [(.int (0 : Int32)), (.ref ar)])) _
        refine X9.baloadBooleans hx (j := (0 : Int32)) (v := (.int ea0)) (by rw [e9]; exact Ar44.1) (State.isArrayOf_alike hZ.alike Ar44.2.1) Ar44.2.2 hin44 hat44 (g := (mkF m 22 #[.val (.ref aa), .val (.int (0 : Int32)), .val (.ref ar), .val (.int (3 : Int32)), .val (.int (0 : Int32)), .unset] [(.int (0 : Int32)), (.ref ar)])) rfl rfl (hb hby d3_22) _ ?_
        show Steps p.tables e below (T9.setTop (mkF m 23 #[.val (.ref aa), .val (.int (0 : Int32)), .val (.ref ar), .val (.int (3 : Int32)), .val (.int (0 : Int32)), .unset] [(.int ea0)])) _
        refine XS.istore X9.here hx rfl (hb hby d3_23) rfl (l' := #[.val (.ref aa), .val (.int (0 : Int32)), .val (.ref ar), .val (.int (3 : Int32)), .val (.int (0 : Int32)), .val (.int ea0)]) rfl ?_
        show Steps p.tables e below (T9.setTop (mkF m 25 #[.val (.ref aa), .val (.int (0 : Int32)), .val (.ref ar), .val (.int (3 : Int32)), .val (.int (0 : Int32)), .val (.int ea0)] [])) _
        refine XS.iload X9.here hx rfl (hb hby d3_25) rfl ?_
        exact k
      by_cases hc27_46 : ea0 = (0 : Int32)
      · have pre47 : ∀ t, Steps p.tables e below (T9.setTop (mkF m 33 #[.val (.ref aa), .val (.int (0 : Int32)), .val (.ref ar), .val (.int (3 : Int32)), .val (.int (0 : Int32)), .val (.int ea0)] [])) t → Steps p.tables e below G0 t := by
          intro t k
          refine pre45 t ?_
          show Steps p.tables e below (T9.setTop (mkF m 27 #[.val (.ref aa), .val (.int (0 : Int32)), .val (.ref ar), .val (.int (3 : Int32)), .val (.int (0 : Int32)), .val (.int ea0)] [(.int ea0)])) _
          refine XS.ifYes X9.here hx rfl (pc0 := 27) (pc' := 33) rfl (hb hby d3_27) rfl ((if0 _ _).trans (teq hc27_46).1) (by decide) (by decide) ?_
          exact k
        exact ⟨(0 : Int32), (by simp [own_one, hc27_46]), pre47⟩
      · have pre48 : ∀ t, Steps p.tables e below (T9.setTop (mkF m 33 #[.val (.ref aa), .val (.int (1 : Int32)), .val (.ref ar), .val (.int (3 : Int32)), .val (.int (0 : Int32)), .val (.int ea0)] [])) t → Steps p.tables e below G0 t := by
          intro t k
          refine pre45 t ?_
          show Steps p.tables e below (T9.setTop (mkF m 27 #[.val (.ref aa), .val (.int (0 : Int32)), .val (.ref ar), .val (.int (3 : Int32)), .val (.int (0 : Int32)), .val (.int ea0)] [(.int ea0)])) _
          refine XS.ifNo X9.here hx rfl (hb hby d3_27) rfl ((if0 _ _).trans (feq hc27_46).1) ?_
          show Steps p.tables e below (T9.setTop (mkF m 30 #[.val (.ref aa), .val (.int (0 : Int32)), .val (.ref ar), .val (.int (3 : Int32)), .val (.int (0 : Int32)), .val (.int ea0)] [])) _
          refine XS.iinc X9.here hx rfl (hb hby d3_30) rfl (l' := #[.val (.ref aa), .val (.int (1 : Int32)), .val (.ref ar), .val (.int (3 : Int32)), .val (.int (0 : Int32)), .val (.int ea0)]) rfl ?_
          exact k
        exact ⟨(1 : Int32), (by simp [own_one, hc27_46]), pre48⟩
    obtain ⟨v33_58, hv61, pre60⟩ : ∃ (v33_58 : Int32), (v33_58 = v33_49 + own_one ea1) ∧ ∀ t, Steps p.tables e below (T9.setTop (mkF m 33 #[.val (.ref aa), .val (.int v33_58), .val (.ref ar), .val (.int (3 : Int32)), .val (.int (1 : Int32)), .val (.int ea1)] [])) t → Steps p.tables e below G0 t := by
      obtain ⟨cl53, Ar53, -, S53, -, H53, -⟩ := id Va
      have hin53 : ¬ ((1 : Int32) < 0 ∨ cl53.slots.size ≤ ((1 : Int32)).toNatClampNeg) := inb_of S53 ⟨by decide, by decide⟩
      have hat53 : cl53.slots[((1 : Int32)).toNatClampNeg]? = some (.int ea1) := H53.at hin53 rfl
      have pre54 : ∀ t, Steps p.tables e below (T9.setTop (mkF m 27 #[.val (.ref aa), .val (.int v33_49), .val (.ref ar), .val (.int (3 : Int32)), .val (.int (1 : Int32)), .val (.int ea1)] [(.int ea1)])) t → Steps p.tables e below G0 t := by
        intro t k
        refine pre51 t ?_
        show Steps p.tables e below (T9.setTop (mkF m 33 #[.val (.ref aa), .val (.int v33_49), .val (.ref ar), .val (.int (3 : Int32)), .val (.int (0 : Int32)), .val (.int ea0)] [])) _
        refine XS.iinc X9.here hx rfl (hb hby d3_33) rfl (l' := #[.val (.ref aa), .val (.int v33_49), .val (.ref ar), .val (.int (3 : Int32)), .val (.int (1 : Int32)), .val (.int ea0)]) rfl ?_
        show Steps p.tables e below (T9.setTop (mkF m 36 #[.val (.ref aa), .val (.int v33_49), .val (.ref ar), .val (.int (3 : Int32)), .val (.int (1 : Int32)), .val (.int ea0)] [])) _
        refine XS.goto X9.here hx rfl (pc0 := 36) (pc' := 13) rfl (hb hby d3_36) (by decide) (by decide) ?_
        show Steps p.tables e below (T9.setTop (mkF m 13 #[.val (.ref aa), .val (.int v33_49), .val (.ref ar), .val (.int (3 : Int32)), .val (.int (1 : Int32)), .val (.int ea0)] [])) _
        refine XS.iload X9.here hx rfl (hb hby d3_13) rfl ?_
        show Steps p.tables e below (T9.setTop (mkF m 15 #[.val (.ref aa), .val (.int v33_49), .val (.ref ar), .val (.int (3 : Int32)), .val (.int (1 : Int32)), .val (.int ea0)] [(.int (1 : Int32))])) _
        refine XS.iloadN X9.here hx rfl (hb hby d3_15) rfl ?_
        show Steps p.tables e below (T9.setTop (mkF m 16 #[.val (.ref aa), .val (.int v33_49), .val (.ref ar), .val (.int (3 : Int32)), .val (.int (1 : Int32)), .val (.int ea0)] [(.int (3 : Int32)), (.int (1 : Int32))])) _
        refine XS.icmpNo X9.here hx rfl (hb hby d3_16) rfl (tlt (by decide : ((1 : Int32) < (3 : Int32)))).2.1 ?_
        show Steps p.tables e below (T9.setTop (mkF m 19 #[.val (.ref aa), .val (.int v33_49), .val (.ref ar), .val (.int (3 : Int32)), .val (.int (1 : Int32)), .val (.int ea0)] [])) _
        refine XS.aloadN X9.here hx rfl (hb hby d3_19) rfl rfl ?_
        show Steps p.tables e below (T9.setTop (mkF m 20 #[.val (.ref aa), .val (.int v33_49), .val (.ref ar), .val (.int (3 : Int32)), .val (.int (1 : Int32)), .val (.int ea0)] [(.ref ar)])) _
        refine XS.iload X9.here hx rfl (hb hby d3_20) rfl ?_
        show Steps p.tables e below (T9.setTop (mkF m 22 #[.val (.ref aa), .val (.int v33_49), .val (.ref ar), .val (.int (3 : Int32)), .val (.int (1 : Int32)), .val (.int ea0)] [(.int (1 : Int32)), (.ref ar)])) _
        refine X9.baloadBooleans hx (j := (1 : Int32)) (v := (.int ea1)) (by rw [e9]; exact Ar53.1) (State.isArrayOf_alike hZ.alike Ar53.2.1) Ar53.2.2 hin53 hat53 (g := (mkF m 22 #[.val (.ref aa), .val (.int v33_49), .val (.ref ar), .val (.int (3 : Int32)), .val (.int (1 : Int32)), .val (.int ea0)] [(.int (1 : Int32)), (.ref ar)])) rfl rfl (hb hby d3_22) _ ?_
        show Steps p.tables e below (T9.setTop (mkF m 23 #[.val (.ref aa), .val (.int v33_49), .val (.ref ar), .val (.int (3 : Int32)), .val (.int (1 : Int32)), .val (.int ea0)] [(.int ea1)])) _
        refine XS.istore X9.here hx rfl (hb hby d3_23) rfl (l' := #[.val (.ref aa), .val (.int v33_49), .val (.ref ar), .val (.int (3 : Int32)), .val (.int (1 : Int32)), .val (.int ea1)]) rfl ?_
        show Steps p.tables e below (T9.setTop (mkF m 25 #[.val (.ref aa), .val (.int v33_49), .val (.ref ar), .val (.int (3 : Int32)), .val (.int (1 : Int32)), .val (.int ea1)] [])) _
        refine XS.iload X9.here hx rfl (hb hby d3_25) rfl ?_
        exact k
      by_cases hc27_55 : ea1 = (0 : Int32)
      · have pre56 : ∀ t, Steps p.tables e below (T9.setTop (mkF m 33 #[.val (.ref aa), .val (.int v33_49), .val (.ref ar), .val (.int (3 : Int32)), .val (.int (1 : Int32)), .val (.int ea1)] [])) t → Steps p.tables e below G0 t := by
          intro t k
          refine pre54 t ?_
          show Steps p.tables e below (T9.setTop (mkF m 27 #[.val (.ref aa), .val (.int v33_49), .val (.ref ar), .val (.int (3 : Int32)), .val (.int (1 : Int32)), .val (.int ea1)] [(.int ea1)])) _
          refine XS.ifYes X9.here hx rfl (pc0 := 27) (pc' := 33) rfl (hb hby d3_27) rfl ((if0 _ _).trans (teq hc27_55).1) (by decide) (by decide) ?_
          exact k
        exact ⟨v33_49, (by simp [own_one, hc27_55]), pre56⟩
      · have pre57 : ∀ t, Steps p.tables e below (T9.setTop (mkF m 33 #[.val (.ref aa), .val (.int (v33_49 + (1 : Int32))), .val (.ref ar), .val (.int (3 : Int32)), .val (.int (1 : Int32)), .val (.int ea1)] [])) t → Steps p.tables e below G0 t := by
          intro t k
          refine pre54 t ?_
          show Steps p.tables e below (T9.setTop (mkF m 27 #[.val (.ref aa), .val (.int v33_49), .val (.ref ar), .val (.int (3 : Int32)), .val (.int (1 : Int32)), .val (.int ea1)] [(.int ea1)])) _
          refine XS.ifNo X9.here hx rfl (hb hby d3_27) rfl ((if0 _ _).trans (feq hc27_55).1) ?_
          show Steps p.tables e below (T9.setTop (mkF m 30 #[.val (.ref aa), .val (.int v33_49), .val (.ref ar), .val (.int (3 : Int32)), .val (.int (1 : Int32)), .val (.int ea1)] [])) _
          refine XS.iinc X9.here hx rfl (hb hby d3_30) rfl (l' := #[.val (.ref aa), .val (.int (v33_49 + (1 : Int32))), .val (.ref ar), .val (.int (3 : Int32)), .val (.int (1 : Int32)), .val (.int ea1)]) rfl ?_
          exact k
        exact ⟨(v33_49 + (1 : Int32)), (by simp [own_one, hc27_55]), pre57⟩
    obtain ⟨v33_67, hv70, pre69⟩ : ∃ (v33_67 : Int32), (v33_67 = v33_58 + own_one ea2) ∧ ∀ t, Steps p.tables e below (T9.setTop (mkF m 33 #[.val (.ref aa), .val (.int v33_67), .val (.ref ar), .val (.int (3 : Int32)), .val (.int (2 : Int32)), .val (.int ea2)] [])) t → Steps p.tables e below G0 t := by
      obtain ⟨cl62, Ar62, -, S62, -, H62, -⟩ := id Va
      have hin62 : ¬ ((2 : Int32) < 0 ∨ cl62.slots.size ≤ ((2 : Int32)).toNatClampNeg) := inb_of S62 ⟨by decide, by decide⟩
      have hat62 : cl62.slots[((2 : Int32)).toNatClampNeg]? = some (.int ea2) := H62.at hin62 rfl
      have pre63 : ∀ t, Steps p.tables e below (T9.setTop (mkF m 27 #[.val (.ref aa), .val (.int v33_58), .val (.ref ar), .val (.int (3 : Int32)), .val (.int (2 : Int32)), .val (.int ea2)] [(.int ea2)])) t → Steps p.tables e below G0 t := by
        intro t k
        refine pre60 t ?_
        show Steps p.tables e below (T9.setTop (mkF m 33 #[.val (.ref aa), .val (.int v33_58), .val (.ref ar), .val (.int (3 : Int32)), .val (.int (1 : Int32)), .val (.int ea1)] [])) _
        refine XS.iinc X9.here hx rfl (hb hby d3_33) rfl (l' := #[.val (.ref aa), .val (.int v33_58), .val (.ref ar), .val (.int (3 : Int32)), .val (.int (2 : Int32)), .val (.int ea1)]) rfl ?_
        show Steps p.tables e below (T9.setTop (mkF m 36 #[.val (.ref aa), .val (.int v33_58), .val (.ref ar), .val (.int (3 : Int32)), .val (.int (2 : Int32)), .val (.int ea1)] [])) _
        refine XS.goto X9.here hx rfl (pc0 := 36) (pc' := 13) rfl (hb hby d3_36) (by decide) (by decide) ?_
        show Steps p.tables e below (T9.setTop (mkF m 13 #[.val (.ref aa), .val (.int v33_58), .val (.ref ar), .val (.int (3 : Int32)), .val (.int (2 : Int32)), .val (.int ea1)] [])) _
        refine XS.iload X9.here hx rfl (hb hby d3_13) rfl ?_
        show Steps p.tables e below (T9.setTop (mkF m 15 #[.val (.ref aa), .val (.int v33_58), .val (.ref ar), .val (.int (3 : Int32)), .val (.int (2 : Int32)), .val (.int ea1)] [(.int (2 : Int32))])) _
        refine XS.iloadN X9.here hx rfl (hb hby d3_15) rfl ?_
        show Steps p.tables e below (T9.setTop (mkF m 16 #[.val (.ref aa), .val (.int v33_58), .val (.ref ar), .val (.int (3 : Int32)), .val (.int (2 : Int32)), .val (.int ea1)] [(.int (3 : Int32)), (.int (2 : Int32))])) _
        refine XS.icmpNo X9.here hx rfl (hb hby d3_16) rfl (tlt (by decide : ((2 : Int32) < (3 : Int32)))).2.1 ?_
        show Steps p.tables e below (T9.setTop (mkF m 19 #[.val (.ref aa), .val (.int v33_58), .val (.ref ar), .val (.int (3 : Int32)), .val (.int (2 : Int32)), .val (.int ea1)] [])) _
        refine XS.aloadN X9.here hx rfl (hb hby d3_19) rfl rfl ?_
        show Steps p.tables e below (T9.setTop (mkF m 20 #[.val (.ref aa), .val (.int v33_58), .val (.ref ar), .val (.int (3 : Int32)), .val (.int (2 : Int32)), .val (.int ea1)] [(.ref ar)])) _
        refine XS.iload X9.here hx rfl (hb hby d3_20) rfl ?_
        show Steps p.tables e below (T9.setTop (mkF m 22 #[.val (.ref aa), .val (.int v33_58), .val (.ref ar), .val (.int (3 : Int32)), .val (.int (2 : Int32)), .val (.int ea1)] [(.int (2 : Int32)), (.ref ar)])) _
        refine X9.baloadBooleans hx (j := (2 : Int32)) (v := (.int ea2)) (by rw [e9]; exact Ar62.1) (State.isArrayOf_alike hZ.alike Ar62.2.1) Ar62.2.2 hin62 hat62 (g := (mkF m 22 #[.val (.ref aa), .val (.int v33_58), .val (.ref ar), .val (.int (3 : Int32)), .val (.int (2 : Int32)), .val (.int ea1)] [(.int (2 : Int32)), (.ref ar)])) rfl rfl (hb hby d3_22) _ ?_
        show Steps p.tables e below (T9.setTop (mkF m 23 #[.val (.ref aa), .val (.int v33_58), .val (.ref ar), .val (.int (3 : Int32)), .val (.int (2 : Int32)), .val (.int ea1)] [(.int ea2)])) _
        refine XS.istore X9.here hx rfl (hb hby d3_23) rfl (l' := #[.val (.ref aa), .val (.int v33_58), .val (.ref ar), .val (.int (3 : Int32)), .val (.int (2 : Int32)), .val (.int ea2)]) rfl ?_
        show Steps p.tables e below (T9.setTop (mkF m 25 #[.val (.ref aa), .val (.int v33_58), .val (.ref ar), .val (.int (3 : Int32)), .val (.int (2 : Int32)), .val (.int ea2)] [])) _
        refine XS.iload X9.here hx rfl (hb hby d3_25) rfl ?_
        exact k
      by_cases hc27_64 : ea2 = (0 : Int32)
      · have pre65 : ∀ t, Steps p.tables e below (T9.setTop (mkF m 33 #[.val (.ref aa), .val (.int v33_58), .val (.ref ar), .val (.int (3 : Int32)), .val (.int (2 : Int32)), .val (.int ea2)] [])) t → Steps p.tables e below G0 t := by
          intro t k
          refine pre63 t ?_
          show Steps p.tables e below (T9.setTop (mkF m 27 #[.val (.ref aa), .val (.int v33_58), .val (.ref ar), .val (.int (3 : Int32)), .val (.int (2 : Int32)), .val (.int ea2)] [(.int ea2)])) _
          refine XS.ifYes X9.here hx rfl (pc0 := 27) (pc' := 33) rfl (hb hby d3_27) rfl ((if0 _ _).trans (teq hc27_64).1) (by decide) (by decide) ?_
          exact k
        exact ⟨v33_58, (by simp [own_one, hc27_64]), pre65⟩
      · have pre66 : ∀ t, Steps p.tables e below (T9.setTop (mkF m 33 #[.val (.ref aa), .val (.int (v33_58 + (1 : Int32))), .val (.ref ar), .val (.int (3 : Int32)), .val (.int (2 : Int32)), .val (.int ea2)] [])) t → Steps p.tables e below G0 t := by
          intro t k
          refine pre63 t ?_
          show Steps p.tables e below (T9.setTop (mkF m 27 #[.val (.ref aa), .val (.int v33_58), .val (.ref ar), .val (.int (3 : Int32)), .val (.int (2 : Int32)), .val (.int ea2)] [(.int ea2)])) _
          refine XS.ifNo X9.here hx rfl (hb hby d3_27) rfl ((if0 _ _).trans (feq hc27_64).1) ?_
          show Steps p.tables e below (T9.setTop (mkF m 30 #[.val (.ref aa), .val (.int v33_58), .val (.ref ar), .val (.int (3 : Int32)), .val (.int (2 : Int32)), .val (.int ea2)] [])) _
          refine XS.iinc X9.here hx rfl (hb hby d3_30) rfl (l' := #[.val (.ref aa), .val (.int (v33_58 + (1 : Int32))), .val (.ref ar), .val (.int (3 : Int32)), .val (.int (2 : Int32)), .val (.int ea2)]) rfl ?_
          exact k
        exact ⟨(v33_58 + (1 : Int32)), (by simp [own_one, hc27_64]), pre66⟩
    obtain ⟨fs, hr, hrun, hended, hW, hsame⟩ := X9.leave (v := some (.int v33_67)) (fun h => by rw [Bd.returns] at h; cases h)
    refine ⟨_, _, pre69 _ ?_, hrun, hended, _, _, rfl, ?_, ⟨_, rfl⟩, hW, hsame.mono (by decide) (by decide)⟩
    · show Steps p.tables e below (T9.setTop (mkF m 33 #[.val (.ref aa), .val (.int v33_67), .val (.ref ar), .val (.int (3 : Int32)), .val (.int (2 : Int32)), .val (.int ea2)] [])) _
      refine XS.iinc X9.here hx rfl (hb hby d3_33) rfl (l' := #[.val (.ref aa), .val (.int v33_67), .val (.ref ar), .val (.int (3 : Int32)), .val (.int (3 : Int32)), .val (.int ea2)]) rfl ?_
      show Steps p.tables e below (T9.setTop (mkF m 36 #[.val (.ref aa), .val (.int v33_67), .val (.ref ar), .val (.int (3 : Int32)), .val (.int (3 : Int32)), .val (.int ea2)] [])) _
      refine XS.goto X9.here hx rfl (pc0 := 36) (pc' := 13) rfl (hb hby d3_36) (by decide) (by decide) ?_
      show Steps p.tables e below (T9.setTop (mkF m 13 #[.val (.ref aa), .val (.int v33_67), .val (.ref ar), .val (.int (3 : Int32)), .val (.int (3 : Int32)), .val (.int ea2)] [])) _
      refine XS.iload X9.here hx rfl (hb hby d3_13) rfl ?_
      show Steps p.tables e below (T9.setTop (mkF m 15 #[.val (.ref aa), .val (.int v33_67), .val (.ref ar), .val (.int (3 : Int32)), .val (.int (3 : Int32)), .val (.int ea2)] [(.int (3 : Int32))])) _
      refine XS.iloadN X9.here hx rfl (hb hby d3_15) rfl ?_
      show Steps p.tables e below (T9.setTop (mkF m 16 #[.val (.ref aa), .val (.int v33_67), .val (.ref ar), .val (.int (3 : Int32)), .val (.int (3 : Int32)), .val (.int ea2)] [(.int (3 : Int32)), (.int (3 : Int32))])) _
      refine XS.icmpYes X9.here hx rfl (pc0 := 16) (pc' := 39) rfl (hb hby d3_16) rfl (flt (by decide : ¬ ((3 : Int32) < (3 : Int32)))).2.1 (by decide) (by decide) ?_
      show Steps p.tables e below (T9.setTop (mkF m 39 #[.val (.ref aa), .val (.int v33_67), .val (.ref ar), .val (.int (3 : Int32)), .val (.int (3 : Int32)), .val (.int ea2)] [])) _
      refine XS.iloadN X9.here hx rfl (hb hby d3_39) rfl ?_
      show Steps p.tables e below (T9.setTop (mkF m 40 #[.val (.ref aa), .val (.int v33_67), .val (.ref ar), .val (.int (3 : Int32)), .val (.int (3 : Int32)), .val (.int ea2)] [(.int v33_67)])) _
      exact retI X9 hx Bd.returns (hb hby d3_40) hr
    · show Q3 Z aa ar kk pn ea0 ea1 ea2 ea3 h0 n0 _ T9.heap _
      rw [e9]
      exact ⟨(by rw [hq15, hv70, hv61, hv52]; rfl), N0, rfl⟩
  · rw [hq16] at pre11
    rw [hq16] at Va
    obtain ⟨v33_76, hv79, pre78⟩ : ∃ (v33_76 : Int32), (v33_76 = (0 : Int32) + own_one ea0) ∧ ∀ t, Steps p.tables e below (T9.setTop (mkF m 33 #[.val (.ref aa), .val (.int v33_76), .val (.ref ar), .val (.int (4 : Int32)), .val (.int (0 : Int32)), .val (.int ea0)] [])) t → Steps p.tables e below G0 t := by
      obtain ⟨cl71, Ar71, -, S71, -, H71, -⟩ := id Va
      have hin71 : ¬ ((0 : Int32) < 0 ∨ cl71.slots.size ≤ ((0 : Int32)).toNatClampNeg) := inb_of S71 ⟨by decide, by decide⟩
      have hat71 : cl71.slots[((0 : Int32)).toNatClampNeg]? = some (.int ea0) := H71.at hin71 rfl
      have pre72 : ∀ t, Steps p.tables e below (T9.setTop (mkF m 27 #[.val (.ref aa), .val (.int (0 : Int32)), .val (.ref ar), .val (.int (4 : Int32)), .val (.int (0 : Int32)), .val (.int ea0)] [(.int ea0)])) t → Steps p.tables e below G0 t := by
        intro t k
        refine pre11 t ?_
        show Steps p.tables e below (T9.setTop (mkF m 13 #[.val (.ref aa), .val (.int (0 : Int32)), .val (.ref ar), .val (.int (4 : Int32)), .val (.int (0 : Int32)), .unset] [])) _
        refine XS.iload X9.here hx rfl (hb hby d3_13) rfl ?_
        show Steps p.tables e below (T9.setTop (mkF m 15 #[.val (.ref aa), .val (.int (0 : Int32)), .val (.ref ar), .val (.int (4 : Int32)), .val (.int (0 : Int32)), .unset] [(.int (0 : Int32))])) _
        refine XS.iloadN X9.here hx rfl (hb hby d3_15) rfl ?_
        show Steps p.tables e below (T9.setTop (mkF m 16 #[.val (.ref aa), .val (.int (0 : Int32)), .val (.ref ar), .val (.int (4 : Int32)), .val (.int (0 : Int32)), .unset] [(.int (4 : Int32)), (.int (0 : Int32))])) _
        refine XS.icmpNo X9.here hx rfl (hb hby d3_16) rfl (tlt (by decide : ((0 : Int32) < (4 : Int32)))).2.1 ?_
        show Steps p.tables e below (T9.setTop (mkF m 19 #[.val (.ref aa), .val (.int (0 : Int32)), .val (.ref ar), .val (.int (4 : Int32)), .val (.int (0 : Int32)), .unset] [])) _
        refine XS.aloadN X9.here hx rfl (hb hby d3_19) rfl rfl ?_
        show Steps p.tables e below (T9.setTop (mkF m 20 #[.val (.ref aa), .val (.int (0 : Int32)), .val (.ref ar), .val (.int (4 : Int32)), .val (.int (0 : Int32)), .unset] [(.ref ar)])) _
        refine XS.iload X9.here hx rfl (hb hby d3_20) rfl ?_
        show Steps p.tables e below (T9.setTop (mkF m 22 #[.val (.ref aa), .val (.int (0 : Int32)), .val (.ref ar), .val (.int (4 : Int32)), .val (.int (0 : Int32)), .unset] [(.int (0 : Int32)), (.ref ar)])) _
        refine X9.baloadBooleans hx (j := (0 : Int32)) (v := (.int ea0)) (by rw [e9]; exact Ar71.1) (State.isArrayOf_alike hZ.alike Ar71.2.1) Ar71.2.2 hin71 hat71 (g := (mkF m 22 #[.val (.ref aa), .val (.int (0 : Int32)), .val (.ref ar), .val (.int (4 : Int32)), .val (.int (0 : Int32)), .unset] [(.int (0 : Int32)), (.ref ar)])) rfl rfl (hb hby d3_22) _ ?_
        show Steps p.tables e below (T9.setTop (mkF m 23 #[.val (.ref aa), .val (.int (0 : Int32)), .val (.ref ar), .val (.int (4 : Int32)), .val (.int (0 : Int32)), .unset] [(.int ea0)])) _
        refine XS.istore X9.here hx rfl (hb hby d3_23) rfl (l' := #[.val (.ref aa), .val (.int (0 : Int32)), .val (.ref ar), .val (.int (4 : Int32)), .val (.int (0 : Int32)), .val (.int ea0)]) rfl ?_
        show Steps p.tables e below (T9.setTop (mkF m 25 #[.val (.ref aa), .val (.int (0 : Int32)), .val (.ref ar), .val (.int (4 : Int32)), .val (.int (0 : Int32)), .val (.int ea0)] [])) _
        refine XS.iload X9.here hx rfl (hb hby d3_25) rfl ?_
        exact k
      by_cases hc27_73 : ea0 = (0 : Int32)
      · have pre74 : ∀ t, Steps p.tables e below (T9.setTop (mkF m 33 #[.val (.ref aa), .val (.int (0 : Int32)), .val (.ref ar), .val (.int (4 : Int32)), .val (.int (0 : Int32)), .val (.int ea0)] [])) t → Steps p.tables e below G0 t := by
          intro t k
          refine pre72 t ?_
          show Steps p.tables e below (T9.setTop (mkF m 27 #[.val (.ref aa), .val (.int (0 : Int32)), .val (.ref ar), .val (.int (4 : Int32)), .val (.int (0 : Int32)), .val (.int ea0)] [(.int ea0)])) _
          refine XS.ifYes X9.here hx rfl (pc0 := 27) (pc' := 33) rfl (hb hby d3_27) rfl ((if0 _ _).trans (teq hc27_73).1) (by decide) (by decide) ?_
          exact k
        exact ⟨(0 : Int32), (by simp [own_one, hc27_73]), pre74⟩
      · have pre75 : ∀ t, Steps p.tables e below (T9.setTop (mkF m 33 #[.val (.ref aa), .val (.int (1 : Int32)), .val (.ref ar), .val (.int (4 : Int32)), .val (.int (0 : Int32)), .val (.int ea0)] [])) t → Steps p.tables e below G0 t := by
          intro t k
          refine pre72 t ?_
          show Steps p.tables e below (T9.setTop (mkF m 27 #[.val (.ref aa), .val (.int (0 : Int32)), .val (.ref ar), .val (.int (4 : Int32)), .val (.int (0 : Int32)), .val (.int ea0)] [(.int ea0)])) _
          refine XS.ifNo X9.here hx rfl (hb hby d3_27) rfl ((if0 _ _).trans (feq hc27_73).1) ?_
          show Steps p.tables e below (T9.setTop (mkF m 30 #[.val (.ref aa), .val (.int (0 : Int32)), .val (.ref ar), .val (.int (4 : Int32)), .val (.int (0 : Int32)), .val (.int ea0)] [])) _
          refine XS.iinc X9.here hx rfl (hb hby d3_30) rfl (l' := #[.val (.ref aa), .val (.int (1 : Int32)), .val (.ref ar), .val (.int (4 : Int32)), .val (.int (0 : Int32)), .val (.int ea0)]) rfl ?_
          exact k
        exact ⟨(1 : Int32), (by simp [own_one, hc27_73]), pre75⟩
    obtain ⟨v33_85, hv88, pre87⟩ : ∃ (v33_85 : Int32), (v33_85 = v33_76 + own_one ea1) ∧ ∀ t, Steps p.tables e below (T9.setTop (mkF m 33 #[.val (.ref aa), .val (.int v33_85), .val (.ref ar), .val (.int (4 : Int32)), .val (.int (1 : Int32)), .val (.int ea1)] [])) t → Steps p.tables e below G0 t := by
      obtain ⟨cl80, Ar80, -, S80, -, H80, -⟩ := id Va
      have hin80 : ¬ ((1 : Int32) < 0 ∨ cl80.slots.size ≤ ((1 : Int32)).toNatClampNeg) := inb_of S80 ⟨by decide, by decide⟩
      have hat80 : cl80.slots[((1 : Int32)).toNatClampNeg]? = some (.int ea1) := H80.at hin80 rfl
      have pre81 : ∀ t, Steps p.tables e below (T9.setTop (mkF m 27 #[.val (.ref aa), .val (.int v33_76), .val (.ref ar), .val (.int (4 : Int32)), .val (.int (1 : Int32)), .val (.int ea1)] [(.int ea1)])) t → Steps p.tables e below G0 t := by
        intro t k
        refine pre78 t ?_
        show Steps p.tables e below (T9.setTop (mkF m 33 #[.val (.ref aa), .val (.int v33_76), .val (.ref ar), .val (.int (4 : Int32)), .val (.int (0 : Int32)), .val (.int ea0)] [])) _
        refine XS.iinc X9.here hx rfl (hb hby d3_33) rfl (l' := #[.val (.ref aa), .val (.int v33_76), .val (.ref ar), .val (.int (4 : Int32)), .val (.int (1 : Int32)), .val (.int ea0)]) rfl ?_
        show Steps p.tables e below (T9.setTop (mkF m 36 #[.val (.ref aa), .val (.int v33_76), .val (.ref ar), .val (.int (4 : Int32)), .val (.int (1 : Int32)), .val (.int ea0)] [])) _
        refine XS.goto X9.here hx rfl (pc0 := 36) (pc' := 13) rfl (hb hby d3_36) (by decide) (by decide) ?_
        show Steps p.tables e below (T9.setTop (mkF m 13 #[.val (.ref aa), .val (.int v33_76), .val (.ref ar), .val (.int (4 : Int32)), .val (.int (1 : Int32)), .val (.int ea0)] [])) _
        refine XS.iload X9.here hx rfl (hb hby d3_13) rfl ?_
        show Steps p.tables e below (T9.setTop (mkF m 15 #[.val (.ref aa), .val (.int v33_76), .val (.ref ar), .val (.int (4 : Int32)), .val (.int (1 : Int32)), .val (.int ea0)] [(.int (1 : Int32))])) _
        refine XS.iloadN X9.here hx rfl (hb hby d3_15) rfl ?_
        show Steps p.tables e below (T9.setTop (mkF m 16 #[.val (.ref aa), .val (.int v33_76), .val (.ref ar), .val (.int (4 : Int32)), .val (.int (1 : Int32)), .val (.int ea0)] [(.int (4 : Int32)), (.int (1 : Int32))])) _
        refine XS.icmpNo X9.here hx rfl (hb hby d3_16) rfl (tlt (by decide : ((1 : Int32) < (4 : Int32)))).2.1 ?_
        show Steps p.tables e below (T9.setTop (mkF m 19 #[.val (.ref aa), .val (.int v33_76), .val (.ref ar), .val (.int (4 : Int32)), .val (.int (1 : Int32)), .val (.int ea0)] [])) _
        refine XS.aloadN X9.here hx rfl (hb hby d3_19) rfl rfl ?_
        show Steps p.tables e below (T9.setTop (mkF m 20 #[.val (.ref aa), .val (.int v33_76), .val (.ref ar), .val (.int (4 : Int32)), .val (.int (1 : Int32)), .val (.int ea0)] [(.ref ar)])) _
        refine XS.iload X9.here hx rfl (hb hby d3_20) rfl ?_
        show Steps p.tables e below (T9.setTop (mkF m 22 #[.val (.ref aa), .val (.int v33_76), .val (.ref ar), .val (.int (4 : Int32)), .val (.int (1 : Int32)), .val (.int ea0)] [(.int (1 : Int32)), (.ref ar)])) _
        refine X9.baloadBooleans hx (j := (1 : Int32)) (v := (.int ea1)) (by rw [e9]; exact Ar80.1) (State.isArrayOf_alike hZ.alike Ar80.2.1) Ar80.2.2 hin80 hat80 (g := (mkF m 22 #[.val (.ref aa), .val (.int v33_76), .val (.ref ar), .val (.int (4 : Int32)), .val (.int (1 : Int32)), .val (.int ea0)] [(.int (1 : Int32)), (.ref ar)])) rfl rfl (hb hby d3_22) _ ?_
        show Steps p.tables e below (T9.setTop (mkF m 23 #[.val (.ref aa), .val (.int v33_76), .val (.ref ar), .val (.int (4 : Int32)), .val (.int (1 : Int32)), .val (.int ea0)] [(.int ea1)])) _
        refine XS.istore X9.here hx rfl (hb hby d3_23) rfl (l' := #[.val (.ref aa), .val (.int v33_76), .val (.ref ar), .val (.int (4 : Int32)), .val (.int (1 : Int32)), .val (.int ea1)]) rfl ?_
        show Steps p.tables e below (T9.setTop (mkF m 25 #[.val (.ref aa), .val (.int v33_76), .val (.ref ar), .val (.int (4 : Int32)), .val (.int (1 : Int32)), .val (.int ea1)] [])) _
        refine XS.iload X9.here hx rfl (hb hby d3_25) rfl ?_
        exact k
      by_cases hc27_82 : ea1 = (0 : Int32)
      · have pre83 : ∀ t, Steps p.tables e below (T9.setTop (mkF m 33 #[.val (.ref aa), .val (.int v33_76), .val (.ref ar), .val (.int (4 : Int32)), .val (.int (1 : Int32)), .val (.int ea1)] [])) t → Steps p.tables e below G0 t := by
          intro t k
          refine pre81 t ?_
          show Steps p.tables e below (T9.setTop (mkF m 27 #[.val (.ref aa), .val (.int v33_76), .val (.ref ar), .val (.int (4 : Int32)), .val (.int (1 : Int32)), .val (.int ea1)] [(.int ea1)])) _
          refine XS.ifYes X9.here hx rfl (pc0 := 27) (pc' := 33) rfl (hb hby d3_27) rfl ((if0 _ _).trans (teq hc27_82).1) (by decide) (by decide) ?_
          exact k
        exact ⟨v33_76, (by simp [own_one, hc27_82]), pre83⟩
      · have pre84 : ∀ t, Steps p.tables e below (T9.setTop (mkF m 33 #[.val (.ref aa), .val (.int (v33_76 + (1 : Int32))), .val (.ref ar), .val (.int (4 : Int32)), .val (.int (1 : Int32)), .val (.int ea1)] [])) t → Steps p.tables e below G0 t := by
          intro t k
          refine pre81 t ?_
          show Steps p.tables e below (T9.setTop (mkF m 27 #[.val (.ref aa), .val (.int v33_76), .val (.ref ar), .val (.int (4 : Int32)), .val (.int (1 : Int32)), .val (.int ea1)] [(.int ea1)])) _
          refine XS.ifNo X9.here hx rfl (hb hby d3_27) rfl ((if0 _ _).trans (feq hc27_82).1) ?_
          show Steps p.tables e below (T9.setTop (mkF m 30 #[.val (.ref aa), .val (.int v33_76), .val (.ref ar), .val (.int (4 : Int32)), .val (.int (1 : Int32)), .val (.int ea1)] [])) _
          refine XS.iinc X9.here hx rfl (hb hby d3_30) rfl (l' := #[.val (.ref aa), .val (.int (v33_76 + (1 : Int32))), .val (.ref ar), .val (.int (4 : Int32)), .val (.int (1 : Int32)), .val (.int ea1)]) rfl ?_
          exact k
        exact ⟨(v33_76 + (1 : Int32)), (by simp [own_one, hc27_82]), pre84⟩
    obtain ⟨v33_94, hv97, pre96⟩ : ∃ (v33_94 : Int32), (v33_94 = v33_85 + own_one ea2) ∧ ∀ t, Steps p.tables e below (T9.setTop (mkF m 33 #[.val (.ref aa), .val (.int v33_94), .val (.ref ar), .val (.int (4 : Int32)), .val (.int (2 : Int32)), .val (.int ea2)] [])) t → Steps p.tables e below G0 t := by
      obtain ⟨cl89, Ar89, -, S89, -, H89, -⟩ := id Va
      have hin89 : ¬ ((2 : Int32) < 0 ∨ cl89.slots.size ≤ ((2 : Int32)).toNatClampNeg) := inb_of S89 ⟨by decide, by decide⟩
      have hat89 : cl89.slots[((2 : Int32)).toNatClampNeg]? = some (.int ea2) := H89.at hin89 rfl
      have pre90 : ∀ t, Steps p.tables e below (T9.setTop (mkF m 27 #[.val (.ref aa), .val (.int v33_85), .val (.ref ar), .val (.int (4 : Int32)), .val (.int (2 : Int32)), .val (.int ea2)] [(.int ea2)])) t → Steps p.tables e below G0 t := by
        intro t k
        refine pre87 t ?_
        show Steps p.tables e below (T9.setTop (mkF m 33 #[.val (.ref aa), .val (.int v33_85), .val (.ref ar), .val (.int (4 : Int32)), .val (.int (1 : Int32)), .val (.int ea1)] [])) _
        refine XS.iinc X9.here hx rfl (hb hby d3_33) rfl (l' := #[.val (.ref aa), .val (.int v33_85), .val (.ref ar), .val (.int (4 : Int32)), .val (.int (2 : Int32)), .val (.int ea1)]) rfl ?_
        show Steps p.tables e below (T9.setTop (mkF m 36 #[.val (.ref aa), .val (.int v33_85), .val (.ref ar), .val (.int (4 : Int32)), .val (.int (2 : Int32)), .val (.int ea1)] [])) _
        refine XS.goto X9.here hx rfl (pc0 := 36) (pc' := 13) rfl (hb hby d3_36) (by decide) (by decide) ?_
        show Steps p.tables e below (T9.setTop (mkF m 13 #[.val (.ref aa), .val (.int v33_85), .val (.ref ar), .val (.int (4 : Int32)), .val (.int (2 : Int32)), .val (.int ea1)] [])) _
        refine XS.iload X9.here hx rfl (hb hby d3_13) rfl ?_
        show Steps p.tables e below (T9.setTop (mkF m 15 #[.val (.ref aa), .val (.int v33_85), .val (.ref ar), .val (.int (4 : Int32)), .val (.int (2 : Int32)), .val (.int ea1)] [(.int (2 : Int32))])) _
        refine XS.iloadN X9.here hx rfl (hb hby d3_15) rfl ?_
        show Steps p.tables e below (T9.setTop (mkF m 16 #[.val (.ref aa), .val (.int v33_85), .val (.ref ar), .val (.int (4 : Int32)), .val (.int (2 : Int32)), .val (.int ea1)] [(.int (4 : Int32)), (.int (2 : Int32))])) _
        refine XS.icmpNo X9.here hx rfl (hb hby d3_16) rfl (tlt (by decide : ((2 : Int32) < (4 : Int32)))).2.1 ?_
        show Steps p.tables e below (T9.setTop (mkF m 19 #[.val (.ref aa), .val (.int v33_85), .val (.ref ar), .val (.int (4 : Int32)), .val (.int (2 : Int32)), .val (.int ea1)] [])) _
        refine XS.aloadN X9.here hx rfl (hb hby d3_19) rfl rfl ?_
        show Steps p.tables e below (T9.setTop (mkF m 20 #[.val (.ref aa), .val (.int v33_85), .val (.ref ar), .val (.int (4 : Int32)), .val (.int (2 : Int32)), .val (.int ea1)] [(.ref ar)])) _
        refine XS.iload X9.here hx rfl (hb hby d3_20) rfl ?_
        show Steps p.tables e below (T9.setTop (mkF m 22 #[.val (.ref aa), .val (.int v33_85), .val (.ref ar), .val (.int (4 : Int32)), .val (.int (2 : Int32)), .val (.int ea1)] [(.int (2 : Int32)), (.ref ar)])) _
        refine X9.baloadBooleans hx (j := (2 : Int32)) (v := (.int ea2)) (by rw [e9]; exact Ar89.1) (State.isArrayOf_alike hZ.alike Ar89.2.1) Ar89.2.2 hin89 hat89 (g := (mkF m 22 #[.val (.ref aa), .val (.int v33_85), .val (.ref ar), .val (.int (4 : Int32)), .val (.int (2 : Int32)), .val (.int ea1)] [(.int (2 : Int32)), (.ref ar)])) rfl rfl (hb hby d3_22) _ ?_
        show Steps p.tables e below (T9.setTop (mkF m 23 #[.val (.ref aa), .val (.int v33_85), .val (.ref ar), .val (.int (4 : Int32)), .val (.int (2 : Int32)), .val (.int ea1)] [(.int ea2)])) _
        refine XS.istore X9.here hx rfl (hb hby d3_23) rfl (l' := #[.val (.ref aa), .val (.int v33_85), .val (.ref ar), .val (.int (4 : Int32)), .val (.int (2 : Int32)), .val (.int ea2)]) rfl ?_
        show Steps p.tables e below (T9.setTop (mkF m 25 #[.val (.ref aa), .val (.int v33_85), .val (.ref ar), .val (.int (4 : Int32)), .val (.int (2 : Int32)), .val (.int ea2)] [])) _
        refine XS.iload X9.here hx rfl (hb hby d3_25) rfl ?_
        exact k
      by_cases hc27_91 : ea2 = (0 : Int32)
      · have pre92 : ∀ t, Steps p.tables e below (T9.setTop (mkF m 33 #[.val (.ref aa), .val (.int v33_85), .val (.ref ar), .val (.int (4 : Int32)), .val (.int (2 : Int32)), .val (.int ea2)] [])) t → Steps p.tables e below G0 t := by
          intro t k
          refine pre90 t ?_
          show Steps p.tables e below (T9.setTop (mkF m 27 #[.val (.ref aa), .val (.int v33_85), .val (.ref ar), .val (.int (4 : Int32)), .val (.int (2 : Int32)), .val (.int ea2)] [(.int ea2)])) _
          refine XS.ifYes X9.here hx rfl (pc0 := 27) (pc' := 33) rfl (hb hby d3_27) rfl ((if0 _ _).trans (teq hc27_91).1) (by decide) (by decide) ?_
          exact k
        exact ⟨v33_85, (by simp [own_one, hc27_91]), pre92⟩
      · have pre93 : ∀ t, Steps p.tables e below (T9.setTop (mkF m 33 #[.val (.ref aa), .val (.int (v33_85 + (1 : Int32))), .val (.ref ar), .val (.int (4 : Int32)), .val (.int (2 : Int32)), .val (.int ea2)] [])) t → Steps p.tables e below G0 t := by
          intro t k
          refine pre90 t ?_
          show Steps p.tables e below (T9.setTop (mkF m 27 #[.val (.ref aa), .val (.int v33_85), .val (.ref ar), .val (.int (4 : Int32)), .val (.int (2 : Int32)), .val (.int ea2)] [(.int ea2)])) _
          refine XS.ifNo X9.here hx rfl (hb hby d3_27) rfl ((if0 _ _).trans (feq hc27_91).1) ?_
          show Steps p.tables e below (T9.setTop (mkF m 30 #[.val (.ref aa), .val (.int v33_85), .val (.ref ar), .val (.int (4 : Int32)), .val (.int (2 : Int32)), .val (.int ea2)] [])) _
          refine XS.iinc X9.here hx rfl (hb hby d3_30) rfl (l' := #[.val (.ref aa), .val (.int (v33_85 + (1 : Int32))), .val (.ref ar), .val (.int (4 : Int32)), .val (.int (2 : Int32)), .val (.int ea2)]) rfl ?_
          exact k
        exact ⟨(v33_85 + (1 : Int32)), (by simp [own_one, hc27_91]), pre93⟩
    obtain ⟨v33_103, hv106, pre105⟩ : ∃ (v33_103 : Int32), (v33_103 = v33_94 + own_one ea3) ∧ ∀ t, Steps p.tables e below (T9.setTop (mkF m 33 #[.val (.ref aa), .val (.int v33_103), .val (.ref ar), .val (.int (4 : Int32)), .val (.int (3 : Int32)), .val (.int ea3)] [])) t → Steps p.tables e below G0 t := by
      obtain ⟨cl98, Ar98, -, S98, -, H98, -⟩ := id Va
      have hin98 : ¬ ((3 : Int32) < 0 ∨ cl98.slots.size ≤ ((3 : Int32)).toNatClampNeg) := inb_of S98 ⟨by decide, by decide⟩
      have hat98 : cl98.slots[((3 : Int32)).toNatClampNeg]? = some (.int ea3) := H98.at hin98 rfl
      have pre99 : ∀ t, Steps p.tables e below (T9.setTop (mkF m 27 #[.val (.ref aa), .val (.int v33_94), .val (.ref ar), .val (.int (4 : Int32)), .val (.int (3 : Int32)), .val (.int ea3)] [(.int ea3)])) t → Steps p.tables e below G0 t := by
        intro t k
        refine pre96 t ?_
        show Steps p.tables e below (T9.setTop (mkF m 33 #[.val (.ref aa), .val (.int v33_94), .val (.ref ar), .val (.int (4 : Int32)), .val (.int (2 : Int32)), .val (.int ea2)] [])) _
        refine XS.iinc X9.here hx rfl (hb hby d3_33) rfl (l' := #[.val (.ref aa), .val (.int v33_94), .val (.ref ar), .val (.int (4 : Int32)), .val (.int (3 : Int32)), .val (.int ea2)]) rfl ?_
        show Steps p.tables e below (T9.setTop (mkF m 36 #[.val (.ref aa), .val (.int v33_94), .val (.ref ar), .val (.int (4 : Int32)), .val (.int (3 : Int32)), .val (.int ea2)] [])) _
        refine XS.goto X9.here hx rfl (pc0 := 36) (pc' := 13) rfl (hb hby d3_36) (by decide) (by decide) ?_
        show Steps p.tables e below (T9.setTop (mkF m 13 #[.val (.ref aa), .val (.int v33_94), .val (.ref ar), .val (.int (4 : Int32)), .val (.int (3 : Int32)), .val (.int ea2)] [])) _
        refine XS.iload X9.here hx rfl (hb hby d3_13) rfl ?_
        show Steps p.tables e below (T9.setTop (mkF m 15 #[.val (.ref aa), .val (.int v33_94), .val (.ref ar), .val (.int (4 : Int32)), .val (.int (3 : Int32)), .val (.int ea2)] [(.int (3 : Int32))])) _
        refine XS.iloadN X9.here hx rfl (hb hby d3_15) rfl ?_
        show Steps p.tables e below (T9.setTop (mkF m 16 #[.val (.ref aa), .val (.int v33_94), .val (.ref ar), .val (.int (4 : Int32)), .val (.int (3 : Int32)), .val (.int ea2)] [(.int (4 : Int32)), (.int (3 : Int32))])) _
        refine XS.icmpNo X9.here hx rfl (hb hby d3_16) rfl (tlt (by decide : ((3 : Int32) < (4 : Int32)))).2.1 ?_
        show Steps p.tables e below (T9.setTop (mkF m 19 #[.val (.ref aa), .val (.int v33_94), .val (.ref ar), .val (.int (4 : Int32)), .val (.int (3 : Int32)), .val (.int ea2)] [])) _
        refine XS.aloadN X9.here hx rfl (hb hby d3_19) rfl rfl ?_
        show Steps p.tables e below (T9.setTop (mkF m 20 #[.val (.ref aa), .val (.int v33_94), .val (.ref ar), .val (.int (4 : Int32)), .val (.int (3 : Int32)), .val (.int ea2)] [(.ref ar)])) _
        refine XS.iload X9.here hx rfl (hb hby d3_20) rfl ?_
        show Steps p.tables e below (T9.setTop (mkF m 22 #[.val (.ref aa), .val (.int v33_94), .val (.ref ar), .val (.int (4 : Int32)), .val (.int (3 : Int32)), .val (.int ea2)] [(.int (3 : Int32)), (.ref ar)])) _
        refine X9.baloadBooleans hx (j := (3 : Int32)) (v := (.int ea3)) (by rw [e9]; exact Ar98.1) (State.isArrayOf_alike hZ.alike Ar98.2.1) Ar98.2.2 hin98 hat98 (g := (mkF m 22 #[.val (.ref aa), .val (.int v33_94), .val (.ref ar), .val (.int (4 : Int32)), .val (.int (3 : Int32)), .val (.int ea2)] [(.int (3 : Int32)), (.ref ar)])) rfl rfl (hb hby d3_22) _ ?_
        show Steps p.tables e below (T9.setTop (mkF m 23 #[.val (.ref aa), .val (.int v33_94), .val (.ref ar), .val (.int (4 : Int32)), .val (.int (3 : Int32)), .val (.int ea2)] [(.int ea3)])) _
        refine XS.istore X9.here hx rfl (hb hby d3_23) rfl (l' := #[.val (.ref aa), .val (.int v33_94), .val (.ref ar), .val (.int (4 : Int32)), .val (.int (3 : Int32)), .val (.int ea3)]) rfl ?_
        show Steps p.tables e below (T9.setTop (mkF m 25 #[.val (.ref aa), .val (.int v33_94), .val (.ref ar), .val (.int (4 : Int32)), .val (.int (3 : Int32)), .val (.int ea3)] [])) _
        refine XS.iload X9.here hx rfl (hb hby d3_25) rfl ?_
        exact k
      by_cases hc27_100 : ea3 = (0 : Int32)
      · have pre101 : ∀ t, Steps p.tables e below (T9.setTop (mkF m 33 #[.val (.ref aa), .val (.int v33_94), .val (.ref ar), .val (.int (4 : Int32)), .val (.int (3 : Int32)), .val (.int ea3)] [])) t → Steps p.tables e below G0 t := by
          intro t k
          refine pre99 t ?_
          show Steps p.tables e below (T9.setTop (mkF m 27 #[.val (.ref aa), .val (.int v33_94), .val (.ref ar), .val (.int (4 : Int32)), .val (.int (3 : Int32)), .val (.int ea3)] [(.int ea3)])) _
          refine XS.ifYes X9.here hx rfl (pc0 := 27) (pc' := 33) rfl (hb hby d3_27) rfl ((if0 _ _).trans (teq hc27_100).1) (by decide) (by decide) ?_
          exact k
        exact ⟨v33_94, (by simp [own_one, hc27_100]), pre101⟩
      · have pre102 : ∀ t, Steps p.tables e below (T9.setTop (mkF m 33 #[.val (.ref aa), .val (.int (v33_94 + (1 : Int32))), .val (.ref ar), .val (.int (4 : Int32)), .val (.int (3 : Int32)), .val (.int ea3)] [])) t → Steps p.tables e below G0 t := by
          intro t k
          refine pre99 t ?_
          show Steps p.tables e below (T9.setTop (mkF m 27 #[.val (.ref aa), .val (.int v33_94), .val (.ref ar), .val (.int (4 : Int32)), .val (.int (3 : Int32)), .val (.int ea3)] [(.int ea3)])) _
          refine XS.ifNo X9.here hx rfl (hb hby d3_27) rfl ((if0 _ _).trans (feq hc27_100).1) ?_
          show Steps p.tables e below (T9.setTop (mkF m 30 #[.val (.ref aa), .val (.int v33_94), .val (.ref ar), .val (.int (4 : Int32)), .val (.int (3 : Int32)), .val (.int ea3)] [])) _
          refine XS.iinc X9.here hx rfl (hb hby d3_30) rfl (l' := #[.val (.ref aa), .val (.int (v33_94 + (1 : Int32))), .val (.ref ar), .val (.int (4 : Int32)), .val (.int (3 : Int32)), .val (.int ea3)]) rfl ?_
          exact k
        exact ⟨(v33_94 + (1 : Int32)), (by simp [own_one, hc27_100]), pre102⟩
    obtain ⟨fs, hr, hrun, hended, hW, hsame⟩ := X9.leave (v := some (.int v33_103)) (fun h => by rw [Bd.returns] at h; cases h)
    refine ⟨_, _, pre105 _ ?_, hrun, hended, _, _, rfl, ?_, ⟨_, rfl⟩, hW, hsame.mono (by decide) (by decide)⟩
    · show Steps p.tables e below (T9.setTop (mkF m 33 #[.val (.ref aa), .val (.int v33_103), .val (.ref ar), .val (.int (4 : Int32)), .val (.int (3 : Int32)), .val (.int ea3)] [])) _
      refine XS.iinc X9.here hx rfl (hb hby d3_33) rfl (l' := #[.val (.ref aa), .val (.int v33_103), .val (.ref ar), .val (.int (4 : Int32)), .val (.int (4 : Int32)), .val (.int ea3)]) rfl ?_
      show Steps p.tables e below (T9.setTop (mkF m 36 #[.val (.ref aa), .val (.int v33_103), .val (.ref ar), .val (.int (4 : Int32)), .val (.int (4 : Int32)), .val (.int ea3)] [])) _
      refine XS.goto X9.here hx rfl (pc0 := 36) (pc' := 13) rfl (hb hby d3_36) (by decide) (by decide) ?_
      show Steps p.tables e below (T9.setTop (mkF m 13 #[.val (.ref aa), .val (.int v33_103), .val (.ref ar), .val (.int (4 : Int32)), .val (.int (4 : Int32)), .val (.int ea3)] [])) _
      refine XS.iload X9.here hx rfl (hb hby d3_13) rfl ?_
      show Steps p.tables e below (T9.setTop (mkF m 15 #[.val (.ref aa), .val (.int v33_103), .val (.ref ar), .val (.int (4 : Int32)), .val (.int (4 : Int32)), .val (.int ea3)] [(.int (4 : Int32))])) _
      refine XS.iloadN X9.here hx rfl (hb hby d3_15) rfl ?_
      show Steps p.tables e below (T9.setTop (mkF m 16 #[.val (.ref aa), .val (.int v33_103), .val (.ref ar), .val (.int (4 : Int32)), .val (.int (4 : Int32)), .val (.int ea3)] [(.int (4 : Int32)), (.int (4 : Int32))])) _
      refine XS.icmpYes X9.here hx rfl (pc0 := 16) (pc' := 39) rfl (hb hby d3_16) rfl (flt (by decide : ¬ ((4 : Int32) < (4 : Int32)))).2.1 (by decide) (by decide) ?_
      show Steps p.tables e below (T9.setTop (mkF m 39 #[.val (.ref aa), .val (.int v33_103), .val (.ref ar), .val (.int (4 : Int32)), .val (.int (4 : Int32)), .val (.int ea3)] [])) _
      refine XS.iloadN X9.here hx rfl (hb hby d3_39) rfl ?_
      show Steps p.tables e below (T9.setTop (mkF m 40 #[.val (.ref aa), .val (.int v33_103), .val (.ref ar), .val (.int (4 : Int32)), .val (.int (4 : Int32)), .val (.int ea3)] [(.int v33_103)])) _
      exact retI X9 hx Bd.returns (hb hby d3_40) hr
    · show Q3 Z aa ar kk pn ea0 ea1 ea2 ea3 h0 n0 _ T9.heap _
      rw [e9]
      exact ⟨(by rw [hq16, hv106, hv97, hv88, hv79]; rfl), N0, rfl⟩
theorem d5_0 : decode prog_102_method_4_code 0 = .ok (.aload_n 0, 1) := by decide +kernel
theorem d5_1 : decode prog_102_method_4_code 1 = .ok (.getfield 7, 3) := by decide +kernel
theorem d5_4 : decode prog_102_method_4_code 4 = .ok (.iload_n 1, 1) := by decide +kernel
theorem d5_5 : decode prog_102_method_4_code 5 = .ok (.iload_n 2, 1) := by decide +kernel
theorem d5_6 : decode prog_102_method_4_code 6 = .ok (.bastore, 1) := by decide +kernel
theorem d5_7 : decode prog_102_method_4_code 7 = .ok (.return_, 1) := by decide +kernel
theorem ef_5j0 (m : MethodId) (x0 : Addr) (x2 : Int32) : entryFrame m #[(.ref x0), (.int (0 : Int32)), (.int x2)] 3 = mkF m 0 #[.val (.ref x0), .val (.int (0 : Int32)), .val (.int x2)] [] := by first | (simp [entryFrame, mkF, argsToLocals, Value.category]; done) | rfl
def Q5j0 (Z : State) (aa : Addr) (pz : Int32) (ar : Addr) (kk : ClassId) (pn : Int32) (ea0 : Int32) (ea1 : Int32) (ea2 : Int32) (ea3 : Int32) (h0 : Heap) (n0 : Nat) (v : Option Value) (h : Heap) (L : List Loc) : Prop := v = none ∧ Fr n0 L ∧ Keep h0 h [ar] ∧ Arv Z h ar kk .boolean pn [(.int (nar .boolean pz)), (.int ea1), (.int ea2), (.int ea3)] (.int (0 : Int32))
set_option maxRecDepth 65536 in
set_option maxHeartbeats 40000000 in
theorem rm5j0 (l : Launch) (Z : State) (a0 : Array Value) (hw : ∀ d ∈ tables_1, d.before a0 Z = true) (ws : List Jvm.Cond) (aa : Addr) (pz : Int32) (ar : Addr) (kk : ClassId) (pn : Int32) (ea0 : Int32) (ea1 : Int32) (ea2 : Int32) (ea3 : Int32) (h0 : Heap) (n0 : Nat) (Z0 : n0 ≤ h0.size) (Fv : Fld Z h0 aa "com/example/tresse/tresse/rwlock/Flags" "values" "[Z" (.ref ar)) (Va : Arv Z h0 ar kk .boolean pn [(.int ea0), (.int ea1), (.int ea2), (.int ea3)] (.int (0 : Int32))) (g_ar : n0 ≤ ar) (nea : aa ≠ ar) (hlt : (0 : Int32) < pn) :
    MetFree l (⟨"com/example/tresse/tresse/rwlock/Flags", "set", "(IZ)V"⟩ : MethodName) (head1 (Jvm.Cond.code (⟨"com/example/tresse/tresse/rwlock/Flags", "set", "(IZ)V"⟩ : MethodName) prog_102_method_4_code 3 none :: ws) ({ frames := 0, cells := 0, slots := 0, locals := 0 } : Room)) (fun a U => a = #[(.ref aa), (.int (0 : Int32)), (.int pz)] ∧ Z.Warmed39 U.vm ∧ U.heap = h0) (fun _ _ _ _ _ => True) (fun _ U o U' => ∃ v L, o = .returned v ∧ Q5j0 Z aa pz ar kk pn ea0 ea1 ea2 ea3 h0 n0 v U'.heap L ∧ FrameEnd U o U' L ({ frames := 0, cells := 0, slots := 0, locals := 0 } : Room).cells ({ frames := 0, cells := 0, slots := 0, locals := 0 } : Room).slots) := by
  refine MetFree.of_bodySF (plainFor_of_name own_pn7) hisR ?_
  intro p e s m args below meth c s₁ Bd hml0 hP hK
  obtain ⟨rfl, hZ, hh⟩ := hP
  have hx := Bd.exec
  have hby := Bd.bytes
  have hml : c.maxLocals = 3 := hml0
  have hown : s.vm.findClass "com/example/tresse/tresse/rwlock/Flags" = some m.cls := findClass_of_methodNamed Bd.named
  have hnm := (name_of_methodNamed Bd.named Bd.method).1
  have X0 : Stand p l e ({ frames := 0, cells := 0, slots := 0, locals := 0 } : Room) s m #[(.ref aa), (.int (0 : Int32)), (.int pz)] below meth c s₁ [] 0 0 := Stand.of_body Bd
  have e0 : s₁.heap = h0 := by rw [← hh, Bd.state]; rfl
  have N0 := Fr.nil n0
  have pre0 : ∀ t, Steps p.tables e below (s₁.setTop (mkF m 0 #[.val (.ref aa), .val (.int (0 : Int32)), .val (.int pz)] [])) t → Steps p.tables e below (s₁.setTop (entryFrame m #[(.ref aa), (.int (0 : Int32)), (.int pz)] 3)) t := fun t k => castTop (ef_5j0 m aa pz) k
  generalize s₁.setTop (entryFrame m #[(.ref aa), (.int (0 : Int32)), (.int pz)] 3) = G0 at pre0 ⊢
  obtain ⟨T107, X107, e107, st107⟩ := getF X0 hx hZ hown (host := "") (Or.inl (hw _ (List.mem_of_getElem? (i := 11) rfl))) Via.refl e0 Fv (g := (mkF m 1 #[.val (.ref aa), .val (.int (0 : Int32)), .val (.int pz)] [(.ref aa)])) rfl rfl (hb hby d5_1)
  obtain ⟨cl108, Ar108, q108, S108, N108, H108, G108⟩ := id Va
  have hin108 : ¬ ((0 : Int32) < 0 ∨ cl108.slots.size ≤ ((0 : Int32)).toNatClampNeg) := inb_of S108 ⟨by decide, hlt⟩
  obtain ⟨T109, h109, X109, e109, W109, st109⟩ := stZ X107 hx hZ e107 Ar108 (j := (0 : Int32)) hin108 (g := (mkF m 6 #[.val (.ref aa), .val (.int (0 : Int32)), .val (.int pz)] [(.int pz), (.int (0 : Int32)), (.ref ar)])) rfl rfl (hb hby d5_6)
  have V109 : Arv Z h109 ar kk .boolean pn [(.int (nar .boolean pz)), (.int ea1), (.int ea2), (.int ea3)] (.int (0 : Int32)) := Arv.set Ar108 q108 S108 N108 H108 G108 (fits_nar_bool pz) W109 0 rfl (Nat.le_of_ble_eq_true rfl)
  have N109 := Fr.snoc X109 N0 g_ar
  have Zs109 : n0 ≤ h109.size := Nat.le_trans Z0 (Keep.of_wr W109).1
  have KK109 : Keep h0 h109 [ar] := (Keep.refl h0 _).wr W109 (Or.inl (List.mem_of_getElem? (i := 0) rfl))
  have f110 := Fv.other W109 (Or.inl nea)
  obtain ⟨fs, hr, hrun, hended, hW, hsame⟩ := X109.leave (v := none) (fun _ => rfl)
  refine ⟨_, _, pre0 _ ?_, hrun, hended, _, _, rfl, ?_, ⟨_, rfl⟩, hW, hsame.mono (by decide) (by decide)⟩
  · show Steps p.tables e below (s₁.setTop (mkF m 0 #[.val (.ref aa), .val (.int (0 : Int32)), .val (.int pz)] [])) _
    refine XS.aloadN X0.here hx rfl (hb hby d5_0) rfl rfl ?_
    show Steps p.tables e below (s₁.setTop (mkF m 1 #[.val (.ref aa), .val (.int (0 : Int32)), .val (.int pz)] [(.ref aa)])) _
    refine st107 _ ?_
    show Steps p.tables e below (T107.setTop (mkF m 4 #[.val (.ref aa), .val (.int (0 : Int32)), .val (.int pz)] [(.ref ar)])) _
    refine XS.iloadN X107.here hx rfl (hb hby d5_4) rfl ?_
    show Steps p.tables e below (T107.setTop (mkF m 5 #[.val (.ref aa), .val (.int (0 : Int32)), .val (.int pz)] [(.int (0 : Int32)), (.ref ar)])) _
    refine XS.iloadN X107.here hx rfl (hb hby d5_5) rfl ?_
    show Steps p.tables e below (T107.setTop (mkF m 6 #[.val (.ref aa), .val (.int (0 : Int32)), .val (.int pz)] [(.int pz), (.int (0 : Int32)), (.ref ar)])) _
    refine st109 _ ?_
    show Steps p.tables e below (T109.setTop (mkF m 7 #[.val (.ref aa), .val (.int (0 : Int32)), .val (.int pz)] [])) _
    exact X109.returnOut hx Bd.returns (hb hby d5_7) hr
  · show Q5j0 Z aa pz ar kk pn ea0 ea1 ea2 ea3 h0 n0 _ T109.heap _
    rw [e109]
    exact ⟨rfl, N109, KK109, V109⟩
theorem ef_5j1 (m : MethodId) (x0 : Addr) (x2 : Int32) : entryFrame m #[(.ref x0), (.int (1 : Int32)), (.int x2)] 3 = mkF m 0 #[.val (.ref x0), .val (.int (1 : Int32)), .val (.int x2)] [] := by first | (simp [entryFrame, mkF, argsToLocals, Value.category]; done) | rfl
def Q5j1 (Z : State) (aa : Addr) (pz : Int32) (ar : Addr) (kk : ClassId) (pn : Int32) (ea0 : Int32) (ea1 : Int32) (ea2 : Int32) (ea3 : Int32) (h0 : Heap) (n0 : Nat) (v : Option Value) (h : Heap) (L : List Loc) : Prop := v = none ∧ Fr n0 L ∧ Keep h0 h [ar] ∧ Arv Z h ar kk .boolean pn [(.int ea0), (.int (nar .boolean pz)), (.int ea2), (.int ea3)] (.int (0 : Int32))
set_option maxRecDepth 65536 in
set_option maxHeartbeats 40000000 in
theorem rm5j1 (l : Launch) (Z : State) (a0 : Array Value) (hw : ∀ d ∈ tables_1, d.before a0 Z = true) (ws : List Jvm.Cond) (aa : Addr) (pz : Int32) (ar : Addr) (kk : ClassId) (pn : Int32) (ea0 : Int32) (ea1 : Int32) (ea2 : Int32) (ea3 : Int32) (h0 : Heap) (n0 : Nat) (Z0 : n0 ≤ h0.size) (Fv : Fld Z h0 aa "com/example/tresse/tresse/rwlock/Flags" "values" "[Z" (.ref ar)) (Va : Arv Z h0 ar kk .boolean pn [(.int ea0), (.int ea1), (.int ea2), (.int ea3)] (.int (0 : Int32))) (g_ar : n0 ≤ ar) (nea : aa ≠ ar) (hlt : (1 : Int32) < pn) :
    MetFree l (⟨"com/example/tresse/tresse/rwlock/Flags", "set", "(IZ)V"⟩ : MethodName) (head1 (Jvm.Cond.code (⟨"com/example/tresse/tresse/rwlock/Flags", "set", "(IZ)V"⟩ : MethodName) prog_102_method_4_code 3 none :: ws) ({ frames := 0, cells := 0, slots := 0, locals := 0 } : Room)) (fun a U => a = #[(.ref aa), (.int (1 : Int32)), (.int pz)] ∧ Z.Warmed39 U.vm ∧ U.heap = h0) (fun _ _ _ _ _ => True) (fun _ U o U' => ∃ v L, o = .returned v ∧ Q5j1 Z aa pz ar kk pn ea0 ea1 ea2 ea3 h0 n0 v U'.heap L ∧ FrameEnd U o U' L ({ frames := 0, cells := 0, slots := 0, locals := 0 } : Room).cells ({ frames := 0, cells := 0, slots := 0, locals := 0 } : Room).slots) := by
  refine MetFree.of_bodySF (plainFor_of_name own_pn7) hisR ?_
  intro p e s m args below meth c s₁ Bd hml0 hP hK
  obtain ⟨rfl, hZ, hh⟩ := hP
  have hx := Bd.exec
  have hby := Bd.bytes
  have hml : c.maxLocals = 3 := hml0
  have hown : s.vm.findClass "com/example/tresse/tresse/rwlock/Flags" = some m.cls := findClass_of_methodNamed Bd.named
  have hnm := (name_of_methodNamed Bd.named Bd.method).1
  have X0 : Stand p l e ({ frames := 0, cells := 0, slots := 0, locals := 0 } : Room) s m #[(.ref aa), (.int (1 : Int32)), (.int pz)] below meth c s₁ [] 0 0 := Stand.of_body Bd
  have e0 : s₁.heap = h0 := by rw [← hh, Bd.state]; rfl
  have N0 := Fr.nil n0
  have pre0 : ∀ t, Steps p.tables e below (s₁.setTop (mkF m 0 #[.val (.ref aa), .val (.int (1 : Int32)), .val (.int pz)] [])) t → Steps p.tables e below (s₁.setTop (entryFrame m #[(.ref aa), (.int (1 : Int32)), (.int pz)] 3)) t := fun t k => castTop (ef_5j1 m aa pz) k
  generalize s₁.setTop (entryFrame m #[(.ref aa), (.int (1 : Int32)), (.int pz)] 3) = G0 at pre0 ⊢
  obtain ⟨T111, X111, e111, st111⟩ := getF X0 hx hZ hown (host := "") (Or.inl (hw _ (List.mem_of_getElem? (i := 11) rfl))) Via.refl e0 Fv (g := (mkF m 1 #[.val (.ref aa), .val (.int (1 : Int32)), .val (.int pz)] [(.ref aa)])) rfl rfl (hb hby d5_1)
  obtain ⟨cl112, Ar112, q112, S112, N112, H112, G112⟩ := id Va
  have hin112 : ¬ ((1 : Int32) < 0 ∨ cl112.slots.size ≤ ((1 : Int32)).toNatClampNeg) := inb_of S112 ⟨by decide, hlt⟩
  obtain ⟨T113, h113, X113, e113, W113, st113⟩ := stZ X111 hx hZ e111 Ar112 (j := (1 : Int32)) hin112 (g := (mkF m 6 #[.val (.ref aa), .val (.int (1 : Int32)), .val (.int pz)] [(.int pz), (.int (1 : Int32)), (.ref ar)])) rfl rfl (hb hby d5_6)
  have V113 : Arv Z h113 ar kk .boolean pn [(.int ea0), (.int (nar .boolean pz)), (.int ea2), (.int ea3)] (.int (0 : Int32)) := Arv.set Ar112 q112 S112 N112 H112 G112 (fits_nar_bool pz) W113 1 rfl (Nat.le_of_ble_eq_true rfl)
  have N113 := Fr.snoc X113 N0 g_ar
  have Zs113 : n0 ≤ h113.size := Nat.le_trans Z0 (Keep.of_wr W113).1
  have KK113 : Keep h0 h113 [ar] := (Keep.refl h0 _).wr W113 (Or.inl (List.mem_of_getElem? (i := 0) rfl))
  have f114 := Fv.other W113 (Or.inl nea)
  obtain ⟨fs, hr, hrun, hended, hW, hsame⟩ := X113.leave (v := none) (fun _ => rfl)
  refine ⟨_, _, pre0 _ ?_, hrun, hended, _, _, rfl, ?_, ⟨_, rfl⟩, hW, hsame.mono (by decide) (by decide)⟩
  · show Steps p.tables e below (s₁.setTop (mkF m 0 #[.val (.ref aa), .val (.int (1 : Int32)), .val (.int pz)] [])) _
    refine XS.aloadN X0.here hx rfl (hb hby d5_0) rfl rfl ?_
    show Steps p.tables e below (s₁.setTop (mkF m 1 #[.val (.ref aa), .val (.int (1 : Int32)), .val (.int pz)] [(.ref aa)])) _
    refine st111 _ ?_
    show Steps p.tables e below (T111.setTop (mkF m 4 #[.val (.ref aa), .val (.int (1 : Int32)), .val (.int pz)] [(.ref ar)])) _
    refine XS.iloadN X111.here hx rfl (hb hby d5_4) rfl ?_
    show Steps p.tables e below (T111.setTop (mkF m 5 #[.val (.ref aa), .val (.int (1 : Int32)), .val (.int pz)] [(.int (1 : Int32)), (.ref ar)])) _
    refine XS.iloadN X111.here hx rfl (hb hby d5_5) rfl ?_
    show Steps p.tables e below (T111.setTop (mkF m 6 #[.val (.ref aa), .val (.int (1 : Int32)), .val (.int pz)] [(.int pz), (.int (1 : Int32)), (.ref ar)])) _
    refine st113 _ ?_
    show Steps p.tables e below (T113.setTop (mkF m 7 #[.val (.ref aa), .val (.int (1 : Int32)), .val (.int pz)] [])) _
    exact X113.returnOut hx Bd.returns (hb hby d5_7) hr
  · show Q5j1 Z aa pz ar kk pn ea0 ea1 ea2 ea3 h0 n0 _ T113.heap _
    rw [e113]
    exact ⟨rfl, N113, KK113, V113⟩
theorem ef_5j2 (m : MethodId) (x0 : Addr) (x2 : Int32) : entryFrame m #[(.ref x0), (.int (2 : Int32)), (.int x2)] 3 = mkF m 0 #[.val (.ref x0), .val (.int (2 : Int32)), .val (.int x2)] [] := by first | (simp [entryFrame, mkF, argsToLocals, Value.category]; done) | rfl
def Q5j2 (Z : State) (aa : Addr) (pz : Int32) (ar : Addr) (kk : ClassId) (pn : Int32) (ea0 : Int32) (ea1 : Int32) (ea2 : Int32) (ea3 : Int32) (h0 : Heap) (n0 : Nat) (v : Option Value) (h : Heap) (L : List Loc) : Prop := v = none ∧ Fr n0 L ∧ Keep h0 h [ar] ∧ Arv Z h ar kk .boolean pn [(.int ea0), (.int ea1), (.int (nar .boolean pz)), (.int ea3)] (.int (0 : Int32))
set_option maxRecDepth 65536 in
set_option maxHeartbeats 40000000 in
theorem rm5j2 (l : Launch) (Z : State) (a0 : Array Value) (hw : ∀ d ∈ tables_1, d.before a0 Z = true) (ws : List Jvm.Cond) (aa : Addr) (pz : Int32) (ar : Addr) (kk : ClassId) (pn : Int32) (ea0 : Int32) (ea1 : Int32) (ea2 : Int32) (ea3 : Int32) (h0 : Heap) (n0 : Nat) (Z0 : n0 ≤ h0.size) (Fv : Fld Z h0 aa "com/example/tresse/tresse/rwlock/Flags" "values" "[Z" (.ref ar)) (Va : Arv Z h0 ar kk .boolean pn [(.int ea0), (.int ea1), (.int ea2), (.int ea3)] (.int (0 : Int32))) (g_ar : n0 ≤ ar) (nea : aa ≠ ar) (hlt : (2 : Int32) < pn) :
    MetFree l (⟨"com/example/tresse/tresse/rwlock/Flags", "set", "(IZ)V"⟩ : MethodName) (head1 (Jvm.Cond.code (⟨"com/example/tresse/tresse/rwlock/Flags", "set", "(IZ)V"⟩ : MethodName) prog_102_method_4_code 3 none :: ws) ({ frames := 0, cells := 0, slots := 0, locals := 0 } : Room)) (fun a U => a = #[(.ref aa), (.int (2 : Int32)), (.int pz)] ∧ Z.Warmed39 U.vm ∧ U.heap = h0) (fun _ _ _ _ _ => True) (fun _ U o U' => ∃ v L, o = .returned v ∧ Q5j2 Z aa pz ar kk pn ea0 ea1 ea2 ea3 h0 n0 v U'.heap L ∧ FrameEnd U o U' L ({ frames := 0, cells := 0, slots := 0, locals := 0 } : Room).cells ({ frames := 0, cells := 0, slots := 0, locals := 0 } : Room).slots) := by
  refine MetFree.of_bodySF (plainFor_of_name own_pn7) hisR ?_
  intro p e s m args below meth c s₁ Bd hml0 hP hK
  obtain ⟨rfl, hZ, hh⟩ := hP
  have hx := Bd.exec
  have hby := Bd.bytes
  have hml : c.maxLocals = 3 := hml0
  have hown : s.vm.findClass "com/example/tresse/tresse/rwlock/Flags" = some m.cls := findClass_of_methodNamed Bd.named
  have hnm := (name_of_methodNamed Bd.named Bd.method).1
  have X0 : Stand p l e ({ frames := 0, cells := 0, slots := 0, locals := 0 } : Room) s m #[(.ref aa), (.int (2 : Int32)), (.int pz)] below meth c s₁ [] 0 0 := Stand.of_body Bd
  have e0 : s₁.heap = h0 := by rw [← hh, Bd.state]; rfl
  have N0 := Fr.nil n0
  have pre0 : ∀ t, Steps p.tables e below (s₁.setTop (mkF m 0 #[.val (.ref aa), .val (.int (2 : Int32)), .val (.int pz)] [])) t → Steps p.tables e below (s₁.setTop (entryFrame m #[(.ref aa), (.int (2 : Int32)), (.int pz)] 3)) t := fun t k => castTop (ef_5j2 m aa pz) k
  generalize s₁.setTop (entryFrame m #[(.ref aa), (.int (2 : Int32)), (.int pz)] 3) = G0 at pre0 ⊢
  obtain ⟨T115, X115, e115, st115⟩ := getF X0 hx hZ hown (host := "") (Or.inl (hw _ (List.mem_of_getElem? (i := 11) rfl))) Via.refl e0 Fv (g := (mkF m 1 #[.val (.ref aa), .val (.int (2 : Int32)), .val (.int pz)] [(.ref aa)])) rfl rfl (hb hby d5_1)
  obtain ⟨cl116, Ar116, q116, S116, N116, H116, G116⟩ := id Va
  have hin116 : ¬ ((2 : Int32) < 0 ∨ cl116.slots.size ≤ ((2 : Int32)).toNatClampNeg) := inb_of S116 ⟨by decide, hlt⟩
  obtain ⟨T117, h117, X117, e117, W117, st117⟩ := stZ X115 hx hZ e115 Ar116 (j := (2 : Int32)) hin116 (g := (mkF m 6 #[.val (.ref aa), .val (.int (2 : Int32)), .val (.int pz)] [(.int pz), (.int (2 : Int32)), (.ref ar)])) rfl rfl (hb hby d5_6)
  have V117 : Arv Z h117 ar kk .boolean pn [(.int ea0), (.int ea1), (.int (nar .boolean pz)), (.int ea3)] (.int (0 : Int32)) := Arv.set Ar116 q116 S116 N116 H116 G116 (fits_nar_bool pz) W117 2 rfl (Nat.le_of_ble_eq_true rfl)
  have N117 := Fr.snoc X117 N0 g_ar
  have Zs117 : n0 ≤ h117.size := Nat.le_trans Z0 (Keep.of_wr W117).1
  have KK117 : Keep h0 h117 [ar] := (Keep.refl h0 _).wr W117 (Or.inl (List.mem_of_getElem? (i := 0) rfl))
  have f118 := Fv.other W117 (Or.inl nea)
  obtain ⟨fs, hr, hrun, hended, hW, hsame⟩ := X117.leave (v := none) (fun _ => rfl)
  refine ⟨_, _, pre0 _ ?_, hrun, hended, _, _, rfl, ?_, ⟨_, rfl⟩, hW, hsame.mono (by decide) (by decide)⟩
  · show Steps p.tables e below (s₁.setTop (mkF m 0 #[.val (.ref aa), .val (.int (2 : Int32)), .val (.int pz)] [])) _
    refine XS.aloadN X0.here hx rfl (hb hby d5_0) rfl rfl ?_
    show Steps p.tables e below (s₁.setTop (mkF m 1 #[.val (.ref aa), .val (.int (2 : Int32)), .val (.int pz)] [(.ref aa)])) _
    refine st115 _ ?_
    show Steps p.tables e below (T115.setTop (mkF m 4 #[.val (.ref aa), .val (.int (2 : Int32)), .val (.int pz)] [(.ref ar)])) _
    refine XS.iloadN X115.here hx rfl (hb hby d5_4) rfl ?_
    show Steps p.tables e below (T115.setTop (mkF m 5 #[.val (.ref aa), .val (.int (2 : Int32)), .val (.int pz)] [(.int (2 : Int32)), (.ref ar)])) _
    refine XS.iloadN X115.here hx rfl (hb hby d5_5) rfl ?_
    show Steps p.tables e below (T115.setTop (mkF m 6 #[.val (.ref aa), .val (.int (2 : Int32)), .val (.int pz)] [(.int pz), (.int (2 : Int32)), (.ref ar)])) _
    refine st117 _ ?_
    show Steps p.tables e below (T117.setTop (mkF m 7 #[.val (.ref aa), .val (.int (2 : Int32)), .val (.int pz)] [])) _
    exact X117.returnOut hx Bd.returns (hb hby d5_7) hr
  · show Q5j2 Z aa pz ar kk pn ea0 ea1 ea2 ea3 h0 n0 _ T117.heap _
    rw [e117]
    exact ⟨rfl, N117, KK117, V117⟩
theorem ef_5j3 (m : MethodId) (x0 : Addr) (x2 : Int32) : entryFrame m #[(.ref x0), (.int (3 : Int32)), (.int x2)] 3 = mkF m 0 #[.val (.ref x0), .val (.int (3 : Int32)), .val (.int x2)] [] := by first | (simp [entryFrame, mkF, argsToLocals, Value.category]; done) | rfl
def Q5j3 (Z : State) (aa : Addr) (pz : Int32) (ar : Addr) (kk : ClassId) (pn : Int32) (ea0 : Int32) (ea1 : Int32) (ea2 : Int32) (ea3 : Int32) (h0 : Heap) (n0 : Nat) (v : Option Value) (h : Heap) (L : List Loc) : Prop := v = none ∧ Fr n0 L ∧ Keep h0 h [ar] ∧ Arv Z h ar kk .boolean pn [(.int ea0), (.int ea1), (.int ea2), (.int (nar .boolean pz))] (.int (0 : Int32))
set_option maxRecDepth 65536 in
set_option maxHeartbeats 40000000 in
theorem rm5j3 (l : Launch) (Z : State) (a0 : Array Value) (hw : ∀ d ∈ tables_1, d.before a0 Z = true) (ws : List Jvm.Cond) (aa : Addr) (pz : Int32) (ar : Addr) (kk : ClassId) (pn : Int32) (ea0 : Int32) (ea1 : Int32) (ea2 : Int32) (ea3 : Int32) (h0 : Heap) (n0 : Nat) (Z0 : n0 ≤ h0.size) (Fv : Fld Z h0 aa "com/example/tresse/tresse/rwlock/Flags" "values" "[Z" (.ref ar)) (Va : Arv Z h0 ar kk .boolean pn [(.int ea0), (.int ea1), (.int ea2), (.int ea3)] (.int (0 : Int32))) (g_ar : n0 ≤ ar) (nea : aa ≠ ar) (hlt : (3 : Int32) < pn) :
    MetFree l (⟨"com/example/tresse/tresse/rwlock/Flags", "set", "(IZ)V"⟩ : MethodName) (head1 (Jvm.Cond.code (⟨"com/example/tresse/tresse/rwlock/Flags", "set", "(IZ)V"⟩ : MethodName) prog_102_method_4_code 3 none :: ws) ({ frames := 0, cells := 0, slots := 0, locals := 0 } : Room)) (fun a U => a = #[(.ref aa), (.int (3 : Int32)), (.int pz)] ∧ Z.Warmed39 U.vm ∧ U.heap = h0) (fun _ _ _ _ _ => True) (fun _ U o U' => ∃ v L, o = .returned v ∧ Q5j3 Z aa pz ar kk pn ea0 ea1 ea2 ea3 h0 n0 v U'.heap L ∧ FrameEnd U o U' L ({ frames := 0, cells := 0, slots := 0, locals := 0 } : Room).cells ({ frames := 0, cells := 0, slots := 0, locals := 0 } : Room).slots) := by
  refine MetFree.of_bodySF (plainFor_of_name own_pn7) hisR ?_
  intro p e s m args below meth c s₁ Bd hml0 hP hK
  obtain ⟨rfl, hZ, hh⟩ := hP
  have hx := Bd.exec
  have hby := Bd.bytes
  have hml : c.maxLocals = 3 := hml0
  have hown : s.vm.findClass "com/example/tresse/tresse/rwlock/Flags" = some m.cls := findClass_of_methodNamed Bd.named
  have hnm := (name_of_methodNamed Bd.named Bd.method).1
  have X0 : Stand p l e ({ frames := 0, cells := 0, slots := 0, locals := 0 } : Room) s m #[(.ref aa), (.int (3 : Int32)), (.int pz)] below meth c s₁ [] 0 0 := Stand.of_body Bd
  have e0 : s₁.heap = h0 := by rw [← hh, Bd.state]; rfl
  have N0 := Fr.nil n0
  have pre0 : ∀ t, Steps p.tables e below (s₁.setTop (mkF m 0 #[.val (.ref aa), .val (.int (3 : Int32)), .val (.int pz)] [])) t → Steps p.tables e below (s₁.setTop (entryFrame m #[(.ref aa), (.int (3 : Int32)), (.int pz)] 3)) t := fun t k => castTop (ef_5j3 m aa pz) k
  generalize s₁.setTop (entryFrame m #[(.ref aa), (.int (3 : Int32)), (.int pz)] 3) = G0 at pre0 ⊢
  obtain ⟨T119, X119, e119, st119⟩ := getF X0 hx hZ hown (host := "") (Or.inl (hw _ (List.mem_of_getElem? (i := 11) rfl))) Via.refl e0 Fv (g := (mkF m 1 #[.val (.ref aa), .val (.int (3 : Int32)), .val (.int pz)] [(.ref aa)])) rfl rfl (hb hby d5_1)
  obtain ⟨cl120, Ar120, q120, S120, N120, H120, G120⟩ := id Va
  have hin120 : ¬ ((3 : Int32) < 0 ∨ cl120.slots.size ≤ ((3 : Int32)).toNatClampNeg) := inb_of S120 ⟨by decide, hlt⟩
  obtain ⟨T121, h121, X121, e121, W121, st121⟩ := stZ X119 hx hZ e119 Ar120 (j := (3 : Int32)) hin120 (g := (mkF m 6 #[.val (.ref aa), .val (.int (3 : Int32)), .val (.int pz)] [(.int pz), (.int (3 : Int32)), (.ref ar)])) rfl rfl (hb hby d5_6)
  have V121 : Arv Z h121 ar kk .boolean pn [(.int ea0), (.int ea1), (.int ea2), (.int (nar .boolean pz))] (.int (0 : Int32)) := Arv.set Ar120 q120 S120 N120 H120 G120 (fits_nar_bool pz) W121 3 rfl (Nat.le_of_ble_eq_true rfl)
  have N121 := Fr.snoc X121 N0 g_ar
  have Zs121 : n0 ≤ h121.size := Nat.le_trans Z0 (Keep.of_wr W121).1
  have KK121 : Keep h0 h121 [ar] := (Keep.refl h0 _).wr W121 (Or.inl (List.mem_of_getElem? (i := 0) rfl))
  have f122 := Fv.other W121 (Or.inl nea)
  obtain ⟨fs, hr, hrun, hended, hW, hsame⟩ := X121.leave (v := none) (fun _ => rfl)
  refine ⟨_, _, pre0 _ ?_, hrun, hended, _, _, rfl, ?_, ⟨_, rfl⟩, hW, hsame.mono (by decide) (by decide)⟩
  · show Steps p.tables e below (s₁.setTop (mkF m 0 #[.val (.ref aa), .val (.int (3 : Int32)), .val (.int pz)] [])) _
    refine XS.aloadN X0.here hx rfl (hb hby d5_0) rfl rfl ?_
    show Steps p.tables e below (s₁.setTop (mkF m 1 #[.val (.ref aa), .val (.int (3 : Int32)), .val (.int pz)] [(.ref aa)])) _
    refine st119 _ ?_
    show Steps p.tables e below (T119.setTop (mkF m 4 #[.val (.ref aa), .val (.int (3 : Int32)), .val (.int pz)] [(.ref ar)])) _
    refine XS.iloadN X119.here hx rfl (hb hby d5_4) rfl ?_
    show Steps p.tables e below (T119.setTop (mkF m 5 #[.val (.ref aa), .val (.int (3 : Int32)), .val (.int pz)] [(.int (3 : Int32)), (.ref ar)])) _
    refine XS.iloadN X119.here hx rfl (hb hby d5_5) rfl ?_
    show Steps p.tables e below (T119.setTop (mkF m 6 #[.val (.ref aa), .val (.int (3 : Int32)), .val (.int pz)] [(.int pz), (.int (3 : Int32)), (.ref ar)])) _
    refine st121 _ ?_
    show Steps p.tables e below (T121.setTop (mkF m 7 #[.val (.ref aa), .val (.int (3 : Int32)), .val (.int pz)] [])) _
    exact X121.returnOut hx Bd.returns (hb hby d5_7) hr
  · show Q5j3 Z aa pz ar kk pn ea0 ea1 ea2 ea3 h0 n0 _ T121.heap _
    rw [e121]
    exact ⟨rfl, N121, KK121, V121⟩
theorem d4_0 : decode method_2_code 0 = .ok (.iload_n 0, 1) := by decide +kernel
theorem d4_1 : decode method_2_code 1 = .ok (.iload_n 1, 1) := by decide +kernel
theorem d4_2 : decode method_2_code 2 = .ok (.iushr, 1) := by decide +kernel
theorem d4_3 : decode method_2_code 3 = .ok (.iconst 1, 1) := by decide +kernel
theorem d4_4 : decode method_2_code 4 = .ok (.iand, 1) := by decide +kernel
theorem d4_5 : decode method_2_code 5 = .ok (.ifCond .eq 7, 3) := by decide +kernel
theorem d4_12 : decode method_2_code 12 = .ok (.iconst 0, 1) := by decide +kernel
theorem d4_13 : decode method_2_code 13 = .ok (.ireturn, 1) := by decide +kernel
theorem d4_8 : decode method_2_code 8 = .ok (.iconst 1, 1) := by decide +kernel
theorem d4_9 : decode method_2_code 9 = .ok (.goto 4, 3) := by decide +kernel
theorem own_pn48 : plainName "com/example/tresse/tresse/rwlock/FlagsCountTruePinLaw" = true := by first | (simp [plainName, overriddenIn]; done) | decide +kernel
theorem ef_4 (m : MethodId) (x0 : Int32) (x1 : Int32) : entryFrame m #[(.int x0), (.int x1)] 2 = mkF m 0 #[.val (.int x0), .val (.int x1)] [] := by first | (simp [entryFrame, mkF, argsToLocals, Value.category]; done) | rfl
def Q4 (Z : State) (pb : Int32) (pi : Int32) (h0 : Heap) (n0 : Nat) (v : Option Value) (h : Heap) (L : List Loc) : Prop := v = some (.int (own_bit pb pi)) ∧ Fr n0 L ∧ h = h0
set_option maxRecDepth 65536 in
set_option maxHeartbeats 40000000 in
theorem rm4 (l : Launch) (Z : State) (a0 : Array Value) (hw : ∀ d ∈ tables_1, d.before a0 Z = true) (ws : List Jvm.Cond) (pb : Int32) (pi : Int32) (h0 : Heap) (n0 : Nat) (Z0 : n0 ≤ h0.size) :
    MetFree l (⟨"com/example/tresse/tresse/rwlock/FlagsCountTruePinLaw", "bit", "(II)I"⟩ : MethodName) (head1 (Jvm.Cond.code (⟨"com/example/tresse/tresse/rwlock/FlagsCountTruePinLaw", "bit", "(II)I"⟩ : MethodName) method_2_code 2 (some .int) :: ws) ({ frames := 0, cells := 0, slots := 0, locals := 0 } : Room)) (fun a U => a = #[(.int pb), (.int pi)] ∧ Z.Warmed39 U.vm ∧ U.heap = h0) (fun _ _ _ _ _ => True) (fun _ U o U' => ∃ v L, o = .returned v ∧ Q4 Z pb pi h0 n0 v U'.heap L ∧ FrameEnd U o U' L ({ frames := 0, cells := 0, slots := 0, locals := 0 } : Room).cells ({ frames := 0, cells := 0, slots := 0, locals := 0 } : Room).slots) := by
  refine MetFree.of_bodySF (plainFor_of_name own_pn48) hisR ?_
  intro p e s m args below meth c s₁ Bd hml0 hP hK
  obtain ⟨rfl, hZ, hh⟩ := hP
  have hx := Bd.exec
  have hby := Bd.bytes
  have hml : c.maxLocals = 2 := hml0
  have hown : s.vm.findClass "com/example/tresse/tresse/rwlock/FlagsCountTruePinLaw" = some m.cls := findClass_of_methodNamed Bd.named
  have hnm := (name_of_methodNamed Bd.named Bd.method).1
  have X0 : Stand p l e ({ frames := 0, cells := 0, slots := 0, locals := 0 } : Room) s m #[(.int pb), (.int pi)] below meth c s₁ [] 0 0 := Stand.of_body Bd
  have e0 : s₁.heap = h0 := by rw [← hh, Bd.state]; rfl
  have N0 := Fr.nil n0
  have pre0 : ∀ t, Steps p.tables e below (s₁.setTop (mkF m 0 #[.val (.int pb), .val (.int pi)] [])) t → Steps p.tables e below (s₁.setTop (entryFrame m #[(.int pb), (.int pi)] 2)) t := fun t k => castTop (ef_4 m pb pi) k
  generalize s₁.setTop (entryFrame m #[(.int pb), (.int pi)] 2) = G0 at pre0 ⊢
  have pre123 : ∀ t, Steps p.tables e below (s₁.setTop (mkF m 5 #[.val (.int pb), .val (.int pi)] [(.int (((pb.toUInt32 >>> (pi &&& 31).toUInt32).toInt32) &&& (1 : Int32)))])) t → Steps p.tables e below G0 t := by
    intro t k
    refine pre0 t ?_
    show Steps p.tables e below (s₁.setTop (mkF m 0 #[.val (.int pb), .val (.int pi)] [])) _
    refine XS.iloadN X0.here hx rfl (hb hby d4_0) rfl ?_
    show Steps p.tables e below (s₁.setTop (mkF m 1 #[.val (.int pb), .val (.int pi)] [(.int pb)])) _
    refine XS.iloadN X0.here hx rfl (hb hby d4_1) rfl ?_
    show Steps p.tables e below (s₁.setTop (mkF m 2 #[.val (.int pb), .val (.int pi)] [(.int pi), (.int pb)])) _
    refine XS.iushr X0.here hx rfl (hb hby d4_2) rfl ?_
    show Steps p.tables e below (s₁.setTop (mkF m 3 #[.val (.int pb), .val (.int pi)] [(.int ((pb.toUInt32 >>> (pi &&& 31).toUInt32).toInt32))])) _
    refine XS.iconst X0.here hx rfl (hb hby d4_3) ?_
    show Steps p.tables e below (s₁.setTop (mkF m 4 #[.val (.int pb), .val (.int pi)] [(.int (1 : Int32)), (.int ((pb.toUInt32 >>> (pi &&& 31).toUInt32).toInt32))])) _
    refine XS.iand X0.here hx rfl (hb hby d4_4) rfl ?_
    exact k
  by_cases hc5_124 : (((pb.toUInt32 >>> (pi &&& 31).toUInt32).toInt32) &&& (1 : Int32)) = (0 : Int32)
  · obtain ⟨fs, hr, hrun, hended, hW, hsame⟩ := X0.leave (v := some (.int (0 : Int32))) (fun h => by rw [Bd.returns] at h; cases h)
    refine ⟨_, _, pre123 _ ?_, hrun, hended, _, _, rfl, ?_, ⟨_, rfl⟩, hW, hsame.mono (by decide) (by decide)⟩
    · show Steps p.tables e below (s₁.setTop (mkF m 5 #[.val (.int pb), .val (.int pi)] [(.int (((pb.toUInt32 >>> (pi &&& 31).toUInt32).toInt32) &&& (1 : Int32)))])) _
      refine XS.ifYes X0.here hx rfl (pc0 := 5) (pc' := 12) rfl (hb hby d4_5) rfl ((if0 _ _).trans (teq hc5_124).1) (by decide) (by decide) ?_
      show Steps p.tables e below (s₁.setTop (mkF m 12 #[.val (.int pb), .val (.int pi)] [])) _
      refine XS.iconst X0.here hx rfl (hb hby d4_12) ?_
      show Steps p.tables e below (s₁.setTop (mkF m 13 #[.val (.int pb), .val (.int pi)] [(.int (0 : Int32))])) _
      exact retI X0 hx Bd.returns (hb hby d4_13) hr
    · show Q4 Z pb pi h0 n0 _ s₁.heap _
      rw [e0]
      exact ⟨(by unfold own_bit; rw [if_pos hc5_124]), N0, rfl⟩
  · obtain ⟨fs, hr, hrun, hended, hW, hsame⟩ := X0.leave (v := some (.int (1 : Int32))) (fun h => by rw [Bd.returns] at h; cases h)
    refine ⟨_, _, pre123 _ ?_, hrun, hended, _, _, rfl, ?_, ⟨_, rfl⟩, hW, hsame.mono (by decide) (by decide)⟩
    · show Steps p.tables e below (s₁.setTop (mkF m 5 #[.val (.int pb), .val (.int pi)] [(.int (((pb.toUInt32 >>> (pi &&& 31).toUInt32).toInt32) &&& (1 : Int32)))])) _
      refine XS.ifNo X0.here hx rfl (hb hby d4_5) rfl ((if0 _ _).trans (feq hc5_124).1) ?_
      show Steps p.tables e below (s₁.setTop (mkF m 8 #[.val (.int pb), .val (.int pi)] [])) _
      refine XS.iconst X0.here hx rfl (hb hby d4_8) ?_
      show Steps p.tables e below (s₁.setTop (mkF m 9 #[.val (.int pb), .val (.int pi)] [(.int (1 : Int32))])) _
      refine XS.goto X0.here hx rfl (pc0 := 9) (pc' := 13) rfl (hb hby d4_9) (by decide) (by decide) ?_
      show Steps p.tables e below (s₁.setTop (mkF m 13 #[.val (.int pb), .val (.int pi)] [(.int (1 : Int32))])) _
      exact retI X0 hx Bd.returns (hb hby d4_13) hr
    · show Q4 Z pb pi h0 n0 _ s₁.heap _
      rw [e0]
      exact ⟨(by unfold own_bit; rw [if_neg hc5_124]), N0, rfl⟩
theorem own_pd49 : parseMethodDescriptor "(I)V" = some ⟨[.int], none⟩ := by decide +kernel
theorem own_pd50 : parseMethodDescriptor "()I" = some ⟨[], some .int⟩ := by decide +kernel
theorem own_pd51 : parseMethodDescriptor "(II)I" = some ⟨[.int, .int], some .int⟩ := by decide +kernel
theorem own_pd52 : parseMethodDescriptor "(IZ)V" = some ⟨[.int, .boolean], none⟩ := by decide +kernel
theorem ef_0 (m : MethodId) (x0 : Int32) (x1 : Int32) (x2 : Int32) : entryFrame m #[(.int x0), (.int x1), (.int x2)] maxLocals = mkF m 0 #[.val (.int x0), .val (.int x1), .val (.int x2), .unset, .unset, .unset, .unset, .unset, .unset] [] := by first | (simp [entryFrame, mkF, argsToLocals, Value.category, maxLocals]; done) | rfl
def Q0 (Z : State) (ps : Int32) (pb : Int32) (pe : Int32) (h0 : Heap) (n0 : Nat) (v : Option Value) (h : Heap) (L : List Loc) : Prop := v = some (.int (1 : Int32)) ∧ Fr n0 L
set_option maxRecDepth 65536 in
set_option maxHeartbeats 40000000 in
theorem rm0 (l : Launch) (Z : State) (a0 : Array Value) (hw : ∀ d ∈ tables_1, d.before a0 Z = true) (ws : List Jvm.Cond) (ps : Int32) (pb : Int32) (pe : Int32) (h0 : Heap) (n0 : Nat) (Z0 : n0 ≤ h0.size) :
    MetFree l x (head1 (Jvm.Cond.code x code maxLocals ret :: ws) room_1) (fun a U => a = #[(.int ps), (.int pb), (.int pe)] ∧ Z.Warmed39 U.vm ∧ U.heap = h0) (fun _ _ _ _ _ => True) (fun _ U o U' => ∃ v L, o = .returned v ∧ Q0 Z ps pb pe h0 n0 v U'.heap L ∧ FrameEnd U o U' L room_1.cells room_1.slots) := by
  refine MetFree.of_bodySF (plainFor_of_name own_pn48) hisR ?_
  intro p e s m args below meth c s₁ Bd hml0 hP hK
  obtain ⟨rfl, hZ, hh⟩ := hP
  have hx := Bd.exec
  have hby := Bd.bytes
  have hml : c.maxLocals = 9 := hml0
  have hown : s.vm.findClass "com/example/tresse/tresse/rwlock/FlagsCountTruePinLaw" = some m.cls := findClass_of_methodNamed Bd.named
  have hnm := (name_of_methodNamed Bd.named Bd.method).1
  have X0 : Stand p l e room_1 s m #[(.int ps), (.int pb), (.int pe)] below meth c s₁ [] 0 0 := Stand.of_body Bd
  have e0 : s₁.heap = h0 := by rw [← hh, Bd.state]; rfl
  have N0 := Fr.nil n0
  have pre0 : ∀ t, Steps p.tables e below (s₁.setTop (mkF m 0 #[.val (.int ps), .val (.int pb), .val (.int pe), .unset, .unset, .unset, .unset, .unset, .unset] [])) t → Steps p.tables e below (s₁.setTop (entryFrame m #[(.int ps), (.int pb), (.int pe)] maxLocals)) t := fun t k => castTop (ef_0 m ps pb pe) k
  generalize s₁.setTop (entryFrame m #[(.int ps), (.int pb), (.int pe)] maxLocals) = G0 at pre0 ⊢
  have pre125 : ∀ t, Steps p.tables e below (s₁.setTop (mkF m 7 #[.val (.int ps), .val (.int pb), .val (.int pe), .val (.int ((ps &&& (2147483647 : Int32)) % (5 : Int32))), .unset, .unset, .unset, .unset, .unset] [])) t → Steps p.tables e below G0 t := by
    intro t k
    refine pre0 t ?_
    show Steps p.tables e below (s₁.setTop (mkF m 0 #[.val (.int ps), .val (.int pb), .val (.int pe), .unset, .unset, .unset, .unset, .unset, .unset] [])) _
    refine XS.iloadN X0.here hx rfl (hb hby at_0) rfl ?_
    show Steps p.tables e below (s₁.setTop (mkF m 1 #[.val (.int ps), .val (.int pb), .val (.int pe), .unset, .unset, .unset, .unset, .unset, .unset] [(.int ps)])) _
    refine X0.ldcInt hx hown (mvT hZ (hw _ (List.mem_of_getElem? (i := 0) rfl))) (g := (mkF m 1 #[.val (.int ps), .val (.int pb), .val (.int pe), .unset, .unset, .unset, .unset, .unset, .unset] [(.int ps)])) rfl (hb hby at_1) _ ?_
    show Steps p.tables e below (s₁.setTop (mkF m 3 #[.val (.int ps), .val (.int pb), .val (.int pe), .unset, .unset, .unset, .unset, .unset, .unset] [(.int (2147483647 : Int32)), (.int ps)])) _
    refine XS.iand X0.here hx rfl (hb hby at_3) rfl ?_
    show Steps p.tables e below (s₁.setTop (mkF m 4 #[.val (.int ps), .val (.int pb), .val (.int pe), .unset, .unset, .unset, .unset, .unset, .unset] [(.int (ps &&& (2147483647 : Int32)))])) _
    refine XS.iconst X0.here hx rfl (hb hby at_4) ?_
    show Steps p.tables e below (s₁.setTop (mkF m 5 #[.val (.int ps), .val (.int pb), .val (.int pe), .unset, .unset, .unset, .unset, .unset, .unset] [(.int (5 : Int32)), (.int (ps &&& (2147483647 : Int32)))])) _
    refine iremM X0 hx rfl (hb hby at_5) rfl (by decide) ?_
    show Steps p.tables e below (s₁.setTop (mkF m 6 #[.val (.int ps), .val (.int pb), .val (.int pe), .unset, .unset, .unset, .unset, .unset, .unset] [(.int ((ps &&& (2147483647 : Int32)) % (5 : Int32)))])) _
    refine XS.istoreN X0.here hx rfl (hb hby at_6) rfl (l' := #[.val (.int ps), .val (.int pb), .val (.int pe), .val (.int ((ps &&& (2147483647 : Int32)) % (5 : Int32))), .unset, .unset, .unset, .unset, .unset]) rfl ?_
    exact k
  rcases own_n ps with hq126 | hq127 | hq128 | hq129 | hq130
  · rw [hq126] at pre125
    obtain ⟨T131, h131, X131, e131, E131, A131, D131, -, st131⟩ := newO X0 hx hZ hown (hw _ (List.mem_of_getElem? (i := 1) rfl)) (hw _ (List.mem_of_getElem? (i := 2) rfl)) (hw _ (List.mem_of_getElem? (i := 3) rfl)) e0 (g := (mkF m 7 #[.val (.int ps), .val (.int pb), .val (.int pe), .val (.int (0 : Int32)), .unset, .unset, .unset, .unset, .unset] [])) rfl (hb hby at_7) (by decide) (by decide)
    obtain ⟨b131, g131⟩ : ∃ z, z = h0.size := ⟨_, rfl⟩
    rw [← g131] at A131 D131 st131
    have g_b131 : n0 ≤ b131 := Nat.le_trans Z0 (Nat.le_of_eq g131.symm)
    have sz_b131 : h0.size ≤ b131 := Nat.le_of_eq g131.symm
    have Zs131 : n0 ≤ h131.size := Nat.le_trans Z0 E131.1
    have KK131 : Keep h0 h131 [] := (Keep.refl h0 _).ext E131
    have f132 : Fld Z h131 b131 "com/example/tresse/tresse/rwlock/Flags" "values" "[Z" .null := D131 (Or.inr (hw _ (List.mem_of_getElem? (i := 12) rfl))) (ty := (.array .boolean)) (by decide)
    obtain ⟨_, _, ⟨T133, L133, k133, n133⟩, -, X133, ⟨Lc133, hQ133, l133, y133, z133⟩, st133⟩ := X131.specialBack hx (y := (⟨"com/example/tresse/tresse/rwlock/Flags", "<init>", "(I)V"⟩ : MethodName)) rfl hown (mvT hZ (hw _ (List.mem_of_getElem? (i := 4) rfl))) (mvT hZ (hw _ (List.mem_of_getElem? (i := 5) rfl))) (mvT hZ (hw _ (List.mem_of_getElem? (i := 6) rfl))) (by decide) (backOf (W := 1) (rm1 l Z a0 hw [] b131 (0 : Int32)  h131 n0 Zs131 f132 A131 g_b131 (by decide) (by decide)) hZ (hw _ (List.mem_of_getElem? (i := 6) rfl)) (hw _ (List.mem_of_getElem? (i := 3) rfl)) (by decide) (by decide)) (g := (mkF m 12 #[.val (.int ps), .val (.int pb), .val (.int pe), .val (.int (0 : Int32)), .unset, .unset, .unset, .unset, .unset] [(.int (0 : Int32)), (.ref b131), (.ref b131)])) rfl (by rw [hml]; rfl) (Steps.refl _) (a := b131) (argsL := [(.int (0 : Int32))]) (rest := [(.ref b131)]) (lenOf own_pd49 rfl) rfl (by show 2 * 0 + _ ≤ _; exact Nat.le_of_eq rfl) (hb hby at_12) (fun _ _ => ⟨rfl, e131, (by decide : 1 + 1 ≤ _), (by decide : 1 + 4 ≤ _)⟩)
    dsimp only [Pt.U, Pt.locs, Pt.cells, Pt.slots] at X133 l133 y133 z133 st133 hQ133
    subst l133 y133 z133
    obtain ⟨rar_133, rkk_133, rfl, Nq133, K133, p133_0, p133_1, p133_2, p133_3, p133_4⟩ := hQ133
    have N133 := Fr.app N0 Nq133
    have Zs133 : n0 ≤ T133.heap.size := Nat.le_trans Zs131 K133.1
    have KK133 : Keep h0 T133.heap [] := KK131.trans K133 (allS (Or.inr sz_b131) all0)
    have ne_b131_rar_133 : b131 ≠ rar_133 := Nat.ne_of_lt (Nat.lt_of_lt_of_le A131.lt p133_4)
    have sz_rar_133 : h0.size ≤ rar_133 := Nat.le_trans KK131.1 p133_4
    have f134 := A131.keep K133
    have g_rar_133 := p133_3
    obtain ⟨cq135, kq135, q135a, q135b, q135c⟩ := isOf hZ rfl p133_0
    obtain ⟨_, _, ⟨T135, L135, k135, n135⟩, -, X135, ⟨Lc135, hQ135, l135, y135, z135⟩, st135⟩ := X133.virtualBack hx (y := (⟨"com/example/tresse/tresse/rwlock/Flags", "countTrue", "()I"⟩ : MethodName)) (z := (⟨"com/example/tresse/tresse/rwlock/Flags", "countTrue", "()I"⟩ : MethodName)) hown (mvT hZ (hw _ (List.mem_of_getElem? (i := 13) rfl))) (mvT hZ (hw _ (List.mem_of_getElem? (i := 14) rfl))) (notFace_of_selects (args := #[]) (mvT hZ (hw _ (List.mem_of_getElem? (i := 16) rfl)))) (mvT hZ (hw _ (List.mem_of_getElem? (i := 16) rfl))) (mvT hZ (hw _ (List.mem_of_getElem? (i := 15) rfl))) (by decide) (backOf (W := 0) (rm3 l Z a0 hw [] b131 rar_133 rkk_133 (0 : Int32) (0 : Int32) (0 : Int32) (0 : Int32) (0 : Int32) T133.heap n0 Zs133 p133_1 p133_2 (by decide)) hZ (hw _ (List.mem_of_getElem? (i := 17) rfl)) (hw _ (List.mem_of_getElem? (i := 3) rfl)) (by decide) (by decide)) q135a q135c (g := (mkF m 19 #[.val (.int ps), .val (.int pb), .val (.int pe), .val (.int (0 : Int32)), .val (.ref b131), .unset, .unset, .unset, .unset] [(.ref b131)])) rfl (by rw [hml]; rfl) (Steps.refl _) (argsL := []) (rest := []) (lenOf own_pd50 rfl) rfl (by show 2 * 0 + _ ≤ _; exact Nat.le_of_eq rfl) (hb hby at_19) (fun _ _ => ⟨rfl, rfl, (by decide : 2 + 0 ≤ _), (by decide : 5 + 0 ≤ _)⟩)
    dsimp only [Pt.U, Pt.locs, Pt.cells, Pt.slots] at X135 l135 y135 z135 st135 hQ135
    subst l135 y135 z135
    obtain ⟨rfl, Nq135, e135⟩ := hQ135
    have N135 := Fr.app N133 Nq135
    obtain ⟨_, _, ⟨T136, L136, k136, n136⟩, -, X136, ⟨Lc136, hQ136, l136, y136, z136⟩, st136⟩ := Jvm.LawKit.callS X135 hx (y := (⟨"com/example/tresse/tresse/rwlock/FlagsCountTruePinLaw", "bit", "(II)I"⟩ : MethodName)) hown (mvT hZ (hw _ (List.mem_of_getElem? (i := 18) rfl))) (mvT hZ (hw _ (List.mem_of_getElem? (i := 19) rfl))) (mvT hZ (hw _ (List.mem_of_getElem? (i := 20) rfl))) (mvT hZ (hw _ (List.mem_of_getElem? (i := 21) rfl))) (by decide) (backOf (W := 0) (rm4 l Z a0 hw [] (pb &&& (((1 : Int32) <<< ((0 : Int32) &&& 31)) - (1 : Int32))) (0 : Int32)  T133.heap n0 Zs133 ) hZ (hw _ (List.mem_of_getElem? (i := 21) rfl)) (hw _ (List.mem_of_getElem? (i := 20) rfl)) (by decide) (by decide)) (g := (mkF m 185 #[.val (.int ps), .val (.int pb), .val (.int pe), .val (.int (0 : Int32)), .val (.ref b131), .val (.int (own_cnt (0 : Int32) (0 : Int32) (0 : Int32) (0 : Int32) (0 : Int32))), .val (.int (pb &&& (((1 : Int32) <<< ((0 : Int32) &&& 31)) - (1 : Int32)))), .unset, .unset] [(.int (0 : Int32)), (.int (pb &&& (((1 : Int32) <<< ((0 : Int32) &&& 31)) - (1 : Int32))))])) rfl (by rw [hml]; rfl) (argsL := [(.int (pb &&& (((1 : Int32) <<< ((0 : Int32) &&& 31)) - (1 : Int32)))), (.int (0 : Int32))]) (rest := []) (lenOf own_pd51 rfl) rfl (by show 2 * 0 + _ ≤ _; exact Nat.le_of_eq rfl) (hb hby at_185) (fun _ _ => ⟨rfl, e135, (by decide : 2 + 0 ≤ _), (by decide : 5 + 0 ≤ _)⟩)
    dsimp only [Pt.U, Pt.locs, Pt.cells, Pt.slots] at X136 l136 y136 z136 st136 hQ136
    subst l136 y136 z136
    obtain ⟨rfl, Nq136, e136⟩ := hQ136
    have N136 := Fr.app N135 Nq136
    obtain ⟨_, _, ⟨T137, L137, k137, n137⟩, -, X137, ⟨Lc137, hQ137, l137, y137, z137⟩, st137⟩ := Jvm.LawKit.callS X136 hx (y := (⟨"com/example/tresse/tresse/rwlock/FlagsCountTruePinLaw", "bit", "(II)I"⟩ : MethodName)) hown (mvT hZ (hw _ (List.mem_of_getElem? (i := 18) rfl))) (mvT hZ (hw _ (List.mem_of_getElem? (i := 19) rfl))) (mvT hZ (hw _ (List.mem_of_getElem? (i := 20) rfl))) (mvT hZ (hw _ (List.mem_of_getElem? (i := 21) rfl))) (by decide) (backOf (W := 1) (rm4 l Z a0 hw [] (pb &&& (((1 : Int32) <<< ((0 : Int32) &&& 31)) - (1 : Int32))) (1 : Int32)  T133.heap n0 Zs133 ) hZ (hw _ (List.mem_of_getElem? (i := 21) rfl)) (hw _ (List.mem_of_getElem? (i := 20) rfl)) (by decide) (by decide)) (g := (mkF m 191 #[.val (.int ps), .val (.int pb), .val (.int pe), .val (.int (0 : Int32)), .val (.ref b131), .val (.int (own_cnt (0 : Int32) (0 : Int32) (0 : Int32) (0 : Int32) (0 : Int32))), .val (.int (pb &&& (((1 : Int32) <<< ((0 : Int32) &&& 31)) - (1 : Int32)))), .unset, .unset] [(.int (1 : Int32)), (.int (pb &&& (((1 : Int32) <<< ((0 : Int32) &&& 31)) - (1 : Int32)))), (.int (own_bit (pb &&& (((1 : Int32) <<< ((0 : Int32) &&& 31)) - (1 : Int32))) (0 : Int32)))])) rfl (by rw [hml]; rfl) (argsL := [(.int (pb &&& (((1 : Int32) <<< ((0 : Int32) &&& 31)) - (1 : Int32)))), (.int (1 : Int32))]) (rest := [(.int (own_bit (pb &&& (((1 : Int32) <<< ((0 : Int32) &&& 31)) - (1 : Int32))) (0 : Int32)))]) (lenOf own_pd51 rfl) rfl (by show 2 * 0 + _ ≤ _; exact Nat.le_of_eq rfl) (hb hby at_191) (fun _ _ => ⟨rfl, e136, (by decide : 2 + 0 ≤ _), (by decide : 5 + 0 ≤ _)⟩)
    dsimp only [Pt.U, Pt.locs, Pt.cells, Pt.slots] at X137 l137 y137 z137 st137 hQ137
    subst l137 y137 z137
    obtain ⟨rfl, Nq137, e137⟩ := hQ137
    have N137 := Fr.app N136 Nq137
    obtain ⟨_, _, ⟨T138, L138, k138, n138⟩, -, X138, ⟨Lc138, hQ138, l138, y138, z138⟩, st138⟩ := Jvm.LawKit.callS X137 hx (y := (⟨"com/example/tresse/tresse/rwlock/FlagsCountTruePinLaw", "bit", "(II)I"⟩ : MethodName)) hown (mvT hZ (hw _ (List.mem_of_getElem? (i := 18) rfl))) (mvT hZ (hw _ (List.mem_of_getElem? (i := 19) rfl))) (mvT hZ (hw _ (List.mem_of_getElem? (i := 20) rfl))) (mvT hZ (hw _ (List.mem_of_getElem? (i := 21) rfl))) (by decide) (backOf (W := 1) (rm4 l Z a0 hw [] (pb &&& (((1 : Int32) <<< ((0 : Int32) &&& 31)) - (1 : Int32))) (2 : Int32)  T133.heap n0 Zs133 ) hZ (hw _ (List.mem_of_getElem? (i := 21) rfl)) (hw _ (List.mem_of_getElem? (i := 20) rfl)) (by decide) (by decide)) (g := (mkF m 198 #[.val (.int ps), .val (.int pb), .val (.int pe), .val (.int (0 : Int32)), .val (.ref b131), .val (.int (own_cnt (0 : Int32) (0 : Int32) (0 : Int32) (0 : Int32) (0 : Int32))), .val (.int (pb &&& (((1 : Int32) <<< ((0 : Int32) &&& 31)) - (1 : Int32)))), .unset, .unset] [(.int (2 : Int32)), (.int (pb &&& (((1 : Int32) <<< ((0 : Int32) &&& 31)) - (1 : Int32)))), (.int ((own_bit (pb &&& (((1 : Int32) <<< ((0 : Int32) &&& 31)) - (1 : Int32))) (0 : Int32)) + (own_bit (pb &&& (((1 : Int32) <<< ((0 : Int32) &&& 31)) - (1 : Int32))) (1 : Int32))))])) rfl (by rw [hml]; rfl) (argsL := [(.int (pb &&& (((1 : Int32) <<< ((0 : Int32) &&& 31)) - (1 : Int32)))), (.int (2 : Int32))]) (rest := [(.int ((own_bit (pb &&& (((1 : Int32) <<< ((0 : Int32) &&& 31)) - (1 : Int32))) (0 : Int32)) + (own_bit (pb &&& (((1 : Int32) <<< ((0 : Int32) &&& 31)) - (1 : Int32))) (1 : Int32))))]) (lenOf own_pd51 rfl) rfl (by show 2 * 0 + _ ≤ _; exact Nat.le_of_eq rfl) (hb hby at_198) (fun _ _ => ⟨rfl, e137, (by decide : 2 + 0 ≤ _), (by decide : 5 + 0 ≤ _)⟩)
    dsimp only [Pt.U, Pt.locs, Pt.cells, Pt.slots] at X138 l138 y138 z138 st138 hQ138
    subst l138 y138 z138
    obtain ⟨rfl, Nq138, e138⟩ := hQ138
    have N138 := Fr.app N137 Nq138
    obtain ⟨_, _, ⟨T139, L139, k139, n139⟩, -, X139, ⟨Lc139, hQ139, l139, y139, z139⟩, st139⟩ := Jvm.LawKit.callS X138 hx (y := (⟨"com/example/tresse/tresse/rwlock/FlagsCountTruePinLaw", "bit", "(II)I"⟩ : MethodName)) hown (mvT hZ (hw _ (List.mem_of_getElem? (i := 18) rfl))) (mvT hZ (hw _ (List.mem_of_getElem? (i := 19) rfl))) (mvT hZ (hw _ (List.mem_of_getElem? (i := 20) rfl))) (mvT hZ (hw _ (List.mem_of_getElem? (i := 21) rfl))) (by decide) (backOf (W := 1) (rm4 l Z a0 hw [] (pb &&& (((1 : Int32) <<< ((0 : Int32) &&& 31)) - (1 : Int32))) (3 : Int32)  T133.heap n0 Zs133 ) hZ (hw _ (List.mem_of_getElem? (i := 21) rfl)) (hw _ (List.mem_of_getElem? (i := 20) rfl)) (by decide) (by decide)) (g := (mkF m 205 #[.val (.int ps), .val (.int pb), .val (.int pe), .val (.int (0 : Int32)), .val (.ref b131), .val (.int (own_cnt (0 : Int32) (0 : Int32) (0 : Int32) (0 : Int32) (0 : Int32))), .val (.int (pb &&& (((1 : Int32) <<< ((0 : Int32) &&& 31)) - (1 : Int32)))), .unset, .unset] [(.int (3 : Int32)), (.int (pb &&& (((1 : Int32) <<< ((0 : Int32) &&& 31)) - (1 : Int32)))), (.int (((own_bit (pb &&& (((1 : Int32) <<< ((0 : Int32) &&& 31)) - (1 : Int32))) (0 : Int32)) + (own_bit (pb &&& (((1 : Int32) <<< ((0 : Int32) &&& 31)) - (1 : Int32))) (1 : Int32))) + (own_bit (pb &&& (((1 : Int32) <<< ((0 : Int32) &&& 31)) - (1 : Int32))) (2 : Int32))))])) rfl (by rw [hml]; rfl) (argsL := [(.int (pb &&& (((1 : Int32) <<< ((0 : Int32) &&& 31)) - (1 : Int32)))), (.int (3 : Int32))]) (rest := [(.int (((own_bit (pb &&& (((1 : Int32) <<< ((0 : Int32) &&& 31)) - (1 : Int32))) (0 : Int32)) + (own_bit (pb &&& (((1 : Int32) <<< ((0 : Int32) &&& 31)) - (1 : Int32))) (1 : Int32))) + (own_bit (pb &&& (((1 : Int32) <<< ((0 : Int32) &&& 31)) - (1 : Int32))) (2 : Int32))))]) (lenOf own_pd51 rfl) rfl (by show 2 * 0 + _ ≤ _; exact Nat.le_of_eq rfl) (hb hby at_205) (fun _ _ => ⟨rfl, e138, (by decide : 2 + 0 ≤ _), (by decide : 5 + 0 ≤ _)⟩)
    dsimp only [Pt.U, Pt.locs, Pt.cells, Pt.slots] at X139 l139 y139 z139 st139 hQ139
    subst l139 y139 z139
    obtain ⟨rfl, Nq139, e139⟩ := hQ139
    have N139 := Fr.app N138 Nq139
    obtain ⟨cq140, kq140, q140a, q140b, q140c⟩ := isOf hZ e139 p133_0
    obtain ⟨_, _, ⟨T140, L140, k140, n140⟩, -, X140, ⟨Lc140, hQ140, l140, y140, z140⟩, st140⟩ := X139.virtualBack hx (y := (⟨"com/example/tresse/tresse/rwlock/Flags", "countTrue", "()I"⟩ : MethodName)) (z := (⟨"com/example/tresse/tresse/rwlock/Flags", "countTrue", "()I"⟩ : MethodName)) hown (mvT hZ (hw _ (List.mem_of_getElem? (i := 13) rfl))) (mvT hZ (hw _ (List.mem_of_getElem? (i := 14) rfl))) (notFace_of_selects (args := #[]) (mvT hZ (hw _ (List.mem_of_getElem? (i := 16) rfl)))) (mvT hZ (hw _ (List.mem_of_getElem? (i := 16) rfl))) (mvT hZ (hw _ (List.mem_of_getElem? (i := 15) rfl))) (by decide) (backOf (W := 0) (rm3 l Z a0 hw [] b131 rar_133 rkk_133 (0 : Int32) (0 : Int32) (0 : Int32) (0 : Int32) (0 : Int32) T133.heap n0 Zs133 p133_1 p133_2 (by decide)) hZ (hw _ (List.mem_of_getElem? (i := 17) rfl)) (hw _ (List.mem_of_getElem? (i := 3) rfl)) (by decide) (by decide)) q140a q140c (g := (mkF m 218 #[.val (.int ps), .val (.int pb), .val (.int pe), .val (.int (0 : Int32)), .val (.ref b131), .val (.int (own_cnt (0 : Int32) (0 : Int32) (0 : Int32) (0 : Int32) (0 : Int32))), .val (.int (pb &&& (((1 : Int32) <<< ((0 : Int32) &&& 31)) - (1 : Int32)))), .val (.int ((((own_bit (pb &&& (((1 : Int32) <<< ((0 : Int32) &&& 31)) - (1 : Int32))) (0 : Int32)) + (own_bit (pb &&& (((1 : Int32) <<< ((0 : Int32) &&& 31)) - (1 : Int32))) (1 : Int32))) + (own_bit (pb &&& (((1 : Int32) <<< ((0 : Int32) &&& 31)) - (1 : Int32))) (2 : Int32))) + (own_bit (pb &&& (((1 : Int32) <<< ((0 : Int32) &&& 31)) - (1 : Int32))) (3 : Int32)))), .unset] [(.ref b131)])) rfl (by rw [hml]; rfl) (Steps.refl _) (argsL := []) (rest := []) (lenOf own_pd50 rfl) rfl (by show 2 * 0 + _ ≤ _; exact Nat.le_of_eq rfl) (hb hby at_218) (fun _ _ => ⟨rfl, e139, (by decide : 2 + 0 ≤ _), (by decide : 5 + 0 ≤ _)⟩)
    dsimp only [Pt.U, Pt.locs, Pt.cells, Pt.slots] at X140 l140 y140 z140 st140 hQ140
    subst l140 y140 z140
    obtain ⟨rfl, Nq140, e140⟩ := hQ140
    have N140 := Fr.app N139 Nq140
    obtain ⟨fs, hr, hrun, hended, hW, hsame⟩ := X140.leave (v := some (.int (1 : Int32))) (fun h => by rw [Bd.returns] at h; cases h)
    refine ⟨_, _, pre125 _ ?_, hrun, hended, _, _, rfl, ?_, ⟨_, rfl⟩, hW, hsame.mono (by decide) (by decide)⟩
    · show Steps p.tables e below (s₁.setTop (mkF m 7 #[.val (.int ps), .val (.int pb), .val (.int pe), .val (.int (0 : Int32)), .unset, .unset, .unset, .unset, .unset] [])) _
      refine st131 _ ?_
      show Steps p.tables e below (T131.setTop (mkF m 10 #[.val (.int ps), .val (.int pb), .val (.int pe), .val (.int (0 : Int32)), .unset, .unset, .unset, .unset, .unset] [(.ref b131)])) _
      refine XS.dup X131.here hx rfl (hb hby at_10) rfl rfl ?_
      show Steps p.tables e below (T131.setTop (mkF m 11 #[.val (.int ps), .val (.int pb), .val (.int pe), .val (.int (0 : Int32)), .unset, .unset, .unset, .unset, .unset] [(.ref b131), (.ref b131)])) _
      refine XS.iloadN X131.here hx rfl (hb hby at_11) rfl ?_
      show Steps p.tables e below (T131.setTop (mkF m 12 #[.val (.int ps), .val (.int pb), .val (.int pe), .val (.int (0 : Int32)), .unset, .unset, .unset, .unset, .unset] [(.int (0 : Int32)), (.ref b131), (.ref b131)])) _
      refine st133.trans ?_
      show Steps p.tables e below (T133.setTop (mkF m 15 #[.val (.int ps), .val (.int pb), .val (.int pe), .val (.int (0 : Int32)), .unset, .unset, .unset, .unset, .unset] [(.ref b131)])) _
      refine XS.astore X133.here hx rfl (hb hby at_15) rfl rfl (l' := #[.val (.int ps), .val (.int pb), .val (.int pe), .val (.int (0 : Int32)), .val (.ref b131), .unset, .unset, .unset, .unset]) rfl ?_
      show Steps p.tables e below (T133.setTop (mkF m 17 #[.val (.int ps), .val (.int pb), .val (.int pe), .val (.int (0 : Int32)), .val (.ref b131), .unset, .unset, .unset, .unset] [])) _
      refine XS.aload X133.here hx rfl (hb hby at_17) rfl rfl ?_
      show Steps p.tables e below (T133.setTop (mkF m 19 #[.val (.int ps), .val (.int pb), .val (.int pe), .val (.int (0 : Int32)), .val (.ref b131), .unset, .unset, .unset, .unset] [(.ref b131)])) _
      refine st135.trans ?_
      show Steps p.tables e below (T135.setTop (mkF m 22 #[.val (.int ps), .val (.int pb), .val (.int pe), .val (.int (0 : Int32)), .val (.ref b131), .unset, .unset, .unset, .unset] [(.int (own_cnt (0 : Int32) (0 : Int32) (0 : Int32) (0 : Int32) (0 : Int32)))])) _
      refine XS.istore X135.here hx rfl (hb hby at_22) rfl (l' := #[.val (.int ps), .val (.int pb), .val (.int pe), .val (.int (0 : Int32)), .val (.ref b131), .val (.int (own_cnt (0 : Int32) (0 : Int32) (0 : Int32) (0 : Int32) (0 : Int32))), .unset, .unset, .unset]) rfl ?_
      show Steps p.tables e below (T135.setTop (mkF m 24 #[.val (.int ps), .val (.int pb), .val (.int pe), .val (.int (0 : Int32)), .val (.ref b131), .val (.int (own_cnt (0 : Int32) (0 : Int32) (0 : Int32) (0 : Int32) (0 : Int32))), .unset, .unset, .unset] [])) _
      refine XS.iloadN X135.here hx rfl (hb hby at_24) rfl ?_
      show Steps p.tables e below (T135.setTop (mkF m 25 #[.val (.int ps), .val (.int pb), .val (.int pe), .val (.int (0 : Int32)), .val (.ref b131), .val (.int (own_cnt (0 : Int32) (0 : Int32) (0 : Int32) (0 : Int32) (0 : Int32))), .unset, .unset, .unset] [(.int (0 : Int32))])) _
      refine XS.ifYes X135.here hx rfl (pc0 := 25) (pc' := 45) rfl (hb hby at_25) rfl ((if0 _ _).trans (flt (by decide : ¬ ((0 : Int32) < (0 : Int32)))).2.2.2) (by decide) (by decide) ?_
      show Steps p.tables e below (T135.setTop (mkF m 45 #[.val (.int ps), .val (.int pb), .val (.int pe), .val (.int (0 : Int32)), .val (.ref b131), .val (.int (own_cnt (0 : Int32) (0 : Int32) (0 : Int32) (0 : Int32) (0 : Int32))), .unset, .unset, .unset] [])) _
      refine XS.iloadN X135.here hx rfl (hb hby at_45) rfl ?_
      show Steps p.tables e below (T135.setTop (mkF m 46 #[.val (.int ps), .val (.int pb), .val (.int pe), .val (.int (0 : Int32)), .val (.ref b131), .val (.int (own_cnt (0 : Int32) (0 : Int32) (0 : Int32) (0 : Int32) (0 : Int32))), .unset, .unset, .unset] [(.int (0 : Int32))])) _
      refine XS.iconst X135.here hx rfl (hb hby at_46) ?_
      show Steps p.tables e below (T135.setTop (mkF m 47 #[.val (.int ps), .val (.int pb), .val (.int pe), .val (.int (0 : Int32)), .val (.ref b131), .val (.int (own_cnt (0 : Int32) (0 : Int32) (0 : Int32) (0 : Int32) (0 : Int32))), .unset, .unset, .unset] [(.int (1 : Int32)), (.int (0 : Int32))])) _
      refine XS.icmpYes X135.here hx rfl (pc0 := 47) (pc' := 67) rfl (hb hby at_47) rfl (flt (by decide : ¬ ((1 : Int32) < (0 : Int32)))).2.2.2 (by decide) (by decide) ?_
      show Steps p.tables e below (T135.setTop (mkF m 67 #[.val (.int ps), .val (.int pb), .val (.int pe), .val (.int (0 : Int32)), .val (.ref b131), .val (.int (own_cnt (0 : Int32) (0 : Int32) (0 : Int32) (0 : Int32) (0 : Int32))), .unset, .unset, .unset] [])) _
      refine XS.iloadN X135.here hx rfl (hb hby at_67) rfl ?_
      show Steps p.tables e below (T135.setTop (mkF m 68 #[.val (.int ps), .val (.int pb), .val (.int pe), .val (.int (0 : Int32)), .val (.ref b131), .val (.int (own_cnt (0 : Int32) (0 : Int32) (0 : Int32) (0 : Int32) (0 : Int32))), .unset, .unset, .unset] [(.int (0 : Int32))])) _
      refine XS.iconst X135.here hx rfl (hb hby at_68) ?_
      show Steps p.tables e below (T135.setTop (mkF m 69 #[.val (.int ps), .val (.int pb), .val (.int pe), .val (.int (0 : Int32)), .val (.ref b131), .val (.int (own_cnt (0 : Int32) (0 : Int32) (0 : Int32) (0 : Int32) (0 : Int32))), .unset, .unset, .unset] [(.int (2 : Int32)), (.int (0 : Int32))])) _
      refine XS.icmpYes X135.here hx rfl (pc0 := 69) (pc' := 89) rfl (hb hby at_69) rfl (flt (by decide : ¬ ((2 : Int32) < (0 : Int32)))).2.2.2 (by decide) (by decide) ?_
      show Steps p.tables e below (T135.setTop (mkF m 89 #[.val (.int ps), .val (.int pb), .val (.int pe), .val (.int (0 : Int32)), .val (.ref b131), .val (.int (own_cnt (0 : Int32) (0 : Int32) (0 : Int32) (0 : Int32) (0 : Int32))), .unset, .unset, .unset] [])) _
      refine XS.iloadN X135.here hx rfl (hb hby at_89) rfl ?_
      show Steps p.tables e below (T135.setTop (mkF m 90 #[.val (.int ps), .val (.int pb), .val (.int pe), .val (.int (0 : Int32)), .val (.ref b131), .val (.int (own_cnt (0 : Int32) (0 : Int32) (0 : Int32) (0 : Int32) (0 : Int32))), .unset, .unset, .unset] [(.int (0 : Int32))])) _
      refine XS.iconst X135.here hx rfl (hb hby at_90) ?_
      show Steps p.tables e below (T135.setTop (mkF m 91 #[.val (.int ps), .val (.int pb), .val (.int pe), .val (.int (0 : Int32)), .val (.ref b131), .val (.int (own_cnt (0 : Int32) (0 : Int32) (0 : Int32) (0 : Int32) (0 : Int32))), .unset, .unset, .unset] [(.int (3 : Int32)), (.int (0 : Int32))])) _
      refine XS.icmpYes X135.here hx rfl (pc0 := 91) (pc' := 112) rfl (hb hby at_91) rfl (flt (by decide : ¬ ((3 : Int32) < (0 : Int32)))).2.2.2 (by decide) (by decide) ?_
      show Steps p.tables e below (T135.setTop (mkF m 112 #[.val (.int ps), .val (.int pb), .val (.int pe), .val (.int (0 : Int32)), .val (.ref b131), .val (.int (own_cnt (0 : Int32) (0 : Int32) (0 : Int32) (0 : Int32) (0 : Int32))), .unset, .unset, .unset] [])) _
      refine XS.iloadN X135.here hx rfl (hb hby at_112) rfl ?_
      show Steps p.tables e below (T135.setTop (mkF m 113 #[.val (.int ps), .val (.int pb), .val (.int pe), .val (.int (0 : Int32)), .val (.ref b131), .val (.int (own_cnt (0 : Int32) (0 : Int32) (0 : Int32) (0 : Int32) (0 : Int32))), .unset, .unset, .unset] [(.int pb)])) _
      refine XS.iconst X135.here hx rfl (hb hby at_113) ?_
      show Steps p.tables e below (T135.setTop (mkF m 114 #[.val (.int ps), .val (.int pb), .val (.int pe), .val (.int (0 : Int32)), .val (.ref b131), .val (.int (own_cnt (0 : Int32) (0 : Int32) (0 : Int32) (0 : Int32) (0 : Int32))), .unset, .unset, .unset] [(.int (1 : Int32)), (.int pb)])) _
      refine XS.iloadN X135.here hx rfl (hb hby at_114) rfl ?_
      show Steps p.tables e below (T135.setTop (mkF m 115 #[.val (.int ps), .val (.int pb), .val (.int pe), .val (.int (0 : Int32)), .val (.ref b131), .val (.int (own_cnt (0 : Int32) (0 : Int32) (0 : Int32) (0 : Int32) (0 : Int32))), .unset, .unset, .unset] [(.int (0 : Int32)), (.int (1 : Int32)), (.int pb)])) _
      refine XS.ishl X135.here hx rfl (hb hby at_115) rfl ?_
      show Steps p.tables e below (T135.setTop (mkF m 116 #[.val (.int ps), .val (.int pb), .val (.int pe), .val (.int (0 : Int32)), .val (.ref b131), .val (.int (own_cnt (0 : Int32) (0 : Int32) (0 : Int32) (0 : Int32) (0 : Int32))), .unset, .unset, .unset] [(.int ((1 : Int32) <<< ((0 : Int32) &&& 31))), (.int pb)])) _
      refine XS.iconst X135.here hx rfl (hb hby at_116) ?_
      show Steps p.tables e below (T135.setTop (mkF m 117 #[.val (.int ps), .val (.int pb), .val (.int pe), .val (.int (0 : Int32)), .val (.ref b131), .val (.int (own_cnt (0 : Int32) (0 : Int32) (0 : Int32) (0 : Int32) (0 : Int32))), .unset, .unset, .unset] [(.int (1 : Int32)), (.int ((1 : Int32) <<< ((0 : Int32) &&& 31))), (.int pb)])) _
      refine XS.isub X135.here hx rfl (hb hby at_117) rfl ?_
      show Steps p.tables e below (T135.setTop (mkF m 118 #[.val (.int ps), .val (.int pb), .val (.int pe), .val (.int (0 : Int32)), .val (.ref b131), .val (.int (own_cnt (0 : Int32) (0 : Int32) (0 : Int32) (0 : Int32) (0 : Int32))), .unset, .unset, .unset] [(.int (((1 : Int32) <<< ((0 : Int32) &&& 31)) - (1 : Int32))), (.int pb)])) _
      refine XS.iand X135.here hx rfl (hb hby at_118) rfl ?_
      show Steps p.tables e below (T135.setTop (mkF m 119 #[.val (.int ps), .val (.int pb), .val (.int pe), .val (.int (0 : Int32)), .val (.ref b131), .val (.int (own_cnt (0 : Int32) (0 : Int32) (0 : Int32) (0 : Int32) (0 : Int32))), .unset, .unset, .unset] [(.int (pb &&& (((1 : Int32) <<< ((0 : Int32) &&& 31)) - (1 : Int32))))])) _
      refine XS.istore X135.here hx rfl (hb hby at_119) rfl (l' := #[.val (.int ps), .val (.int pb), .val (.int pe), .val (.int (0 : Int32)), .val (.ref b131), .val (.int (own_cnt (0 : Int32) (0 : Int32) (0 : Int32) (0 : Int32) (0 : Int32))), .val (.int (pb &&& (((1 : Int32) <<< ((0 : Int32) &&& 31)) - (1 : Int32)))), .unset, .unset]) rfl ?_
      show Steps p.tables e below (T135.setTop (mkF m 121 #[.val (.int ps), .val (.int pb), .val (.int pe), .val (.int (0 : Int32)), .val (.ref b131), .val (.int (own_cnt (0 : Int32) (0 : Int32) (0 : Int32) (0 : Int32) (0 : Int32))), .val (.int (pb &&& (((1 : Int32) <<< ((0 : Int32) &&& 31)) - (1 : Int32)))), .unset, .unset] [])) _
      refine XS.iloadN X135.here hx rfl (hb hby at_121) rfl ?_
      show Steps p.tables e below (T135.setTop (mkF m 122 #[.val (.int ps), .val (.int pb), .val (.int pe), .val (.int (0 : Int32)), .val (.ref b131), .val (.int (own_cnt (0 : Int32) (0 : Int32) (0 : Int32) (0 : Int32) (0 : Int32))), .val (.int (pb &&& (((1 : Int32) <<< ((0 : Int32) &&& 31)) - (1 : Int32)))), .unset, .unset] [(.int (0 : Int32))])) _
      refine XS.ifYes X135.here hx rfl (pc0 := 122) (pc' := 182) rfl (hb hby at_122) rfl ((if0 _ _).trans (flt (by decide : ¬ ((0 : Int32) < (0 : Int32)))).2.2.2) (by decide) (by decide) ?_
      show Steps p.tables e below (T135.setTop (mkF m 182 #[.val (.int ps), .val (.int pb), .val (.int pe), .val (.int (0 : Int32)), .val (.ref b131), .val (.int (own_cnt (0 : Int32) (0 : Int32) (0 : Int32) (0 : Int32) (0 : Int32))), .val (.int (pb &&& (((1 : Int32) <<< ((0 : Int32) &&& 31)) - (1 : Int32)))), .unset, .unset] [])) _
      refine XS.iload X135.here hx rfl (hb hby at_182) rfl ?_
      show Steps p.tables e below (T135.setTop (mkF m 184 #[.val (.int ps), .val (.int pb), .val (.int pe), .val (.int (0 : Int32)), .val (.ref b131), .val (.int (own_cnt (0 : Int32) (0 : Int32) (0 : Int32) (0 : Int32) (0 : Int32))), .val (.int (pb &&& (((1 : Int32) <<< ((0 : Int32) &&& 31)) - (1 : Int32)))), .unset, .unset] [(.int (pb &&& (((1 : Int32) <<< ((0 : Int32) &&& 31)) - (1 : Int32))))])) _
      refine XS.iconst X135.here hx rfl (hb hby at_184) ?_
      show Steps p.tables e below (T135.setTop (mkF m 185 #[.val (.int ps), .val (.int pb), .val (.int pe), .val (.int (0 : Int32)), .val (.ref b131), .val (.int (own_cnt (0 : Int32) (0 : Int32) (0 : Int32) (0 : Int32) (0 : Int32))), .val (.int (pb &&& (((1 : Int32) <<< ((0 : Int32) &&& 31)) - (1 : Int32)))), .unset, .unset] [(.int (0 : Int32)), (.int (pb &&& (((1 : Int32) <<< ((0 : Int32) &&& 31)) - (1 : Int32))))])) _
      refine st136 _ ?_
      show Steps p.tables e below (T136.setTop (mkF m 188 #[.val (.int ps), .val (.int pb), .val (.int pe), .val (.int (0 : Int32)), .val (.ref b131), .val (.int (own_cnt (0 : Int32) (0 : Int32) (0 : Int32) (0 : Int32) (0 : Int32))), .val (.int (pb &&& (((1 : Int32) <<< ((0 : Int32) &&& 31)) - (1 : Int32)))), .unset, .unset] [(.int (own_bit (pb &&& (((1 : Int32) <<< ((0 : Int32) &&& 31)) - (1 : Int32))) (0 : Int32)))])) _
      refine XS.iload X136.here hx rfl (hb hby at_188) rfl ?_
      show Steps p.tables e below (T136.setTop (mkF m 190 #[.val (.int ps), .val (.int pb), .val (.int pe), .val (.int (0 : Int32)), .val (.ref b131), .val (.int (own_cnt (0 : Int32) (0 : Int32) (0 : Int32) (0 : Int32) (0 : Int32))), .val (.int (pb &&& (((1 : Int32) <<< ((0 : Int32) &&& 31)) - (1 : Int32)))), .unset, .unset] [(.int (pb &&& (((1 : Int32) <<< ((0 : Int32) &&& 31)) - (1 : Int32)))), (.int (own_bit (pb &&& (((1 : Int32) <<< ((0 : Int32) &&& 31)) - (1 : Int32))) (0 : Int32)))])) _
      refine XS.iconst X136.here hx rfl (hb hby at_190) ?_
      show Steps p.tables e below (T136.setTop (mkF m 191 #[.val (.int ps), .val (.int pb), .val (.int pe), .val (.int (0 : Int32)), .val (.ref b131), .val (.int (own_cnt (0 : Int32) (0 : Int32) (0 : Int32) (0 : Int32) (0 : Int32))), .val (.int (pb &&& (((1 : Int32) <<< ((0 : Int32) &&& 31)) - (1 : Int32)))), .unset, .unset] [(.int (1 : Int32)), (.int (pb &&& (((1 : Int32) <<< ((0 : Int32) &&& 31)) - (1 : Int32)))), (.int (own_bit (pb &&& (((1 : Int32) <<< ((0 : Int32) &&& 31)) - (1 : Int32))) (0 : Int32)))])) _
      refine st137 _ ?_
      show Steps p.tables e below (T137.setTop (mkF m 194 #[.val (.int ps), .val (.int pb), .val (.int pe), .val (.int (0 : Int32)), .val (.ref b131), .val (.int (own_cnt (0 : Int32) (0 : Int32) (0 : Int32) (0 : Int32) (0 : Int32))), .val (.int (pb &&& (((1 : Int32) <<< ((0 : Int32) &&& 31)) - (1 : Int32)))), .unset, .unset] [(.int (own_bit (pb &&& (((1 : Int32) <<< ((0 : Int32) &&& 31)) - (1 : Int32))) (1 : Int32))), (.int (own_bit (pb &&& (((1 : Int32) <<< ((0 : Int32) &&& 31)) - (1 : Int32))) (0 : Int32)))])) _
      refine XS.iadd X137.here hx rfl (hb hby at_194) rfl ?_
      show Steps p.tables e below (T137.setTop (mkF m 195 #[.val (.int ps), .val (.int pb), .val (.int pe), .val (.int (0 : Int32)), .val (.ref b131), .val (.int (own_cnt (0 : Int32) (0 : Int32) (0 : Int32) (0 : Int32) (0 : Int32))), .val (.int (pb &&& (((1 : Int32) <<< ((0 : Int32) &&& 31)) - (1 : Int32)))), .unset, .unset] [(.int ((own_bit (pb &&& (((1 : Int32) <<< ((0 : Int32) &&& 31)) - (1 : Int32))) (0 : Int32)) + (own_bit (pb &&& (((1 : Int32) <<< ((0 : Int32) &&& 31)) - (1 : Int32))) (1 : Int32))))])) _
      refine XS.iload X137.here hx rfl (hb hby at_195) rfl ?_
      show Steps p.tables e below (T137.setTop (mkF m 197 #[.val (.int ps), .val (.int pb), .val (.int pe), .val (.int (0 : Int32)), .val (.ref b131), .val (.int (own_cnt (0 : Int32) (0 : Int32) (0 : Int32) (0 : Int32) (0 : Int32))), .val (.int (pb &&& (((1 : Int32) <<< ((0 : Int32) &&& 31)) - (1 : Int32)))), .unset, .unset] [(.int (pb &&& (((1 : Int32) <<< ((0 : Int32) &&& 31)) - (1 : Int32)))), (.int ((own_bit (pb &&& (((1 : Int32) <<< ((0 : Int32) &&& 31)) - (1 : Int32))) (0 : Int32)) + (own_bit (pb &&& (((1 : Int32) <<< ((0 : Int32) &&& 31)) - (1 : Int32))) (1 : Int32))))])) _
      refine XS.iconst X137.here hx rfl (hb hby at_197) ?_
      show Steps p.tables e below (T137.setTop (mkF m 198 #[.val (.int ps), .val (.int pb), .val (.int pe), .val (.int (0 : Int32)), .val (.ref b131), .val (.int (own_cnt (0 : Int32) (0 : Int32) (0 : Int32) (0 : Int32) (0 : Int32))), .val (.int (pb &&& (((1 : Int32) <<< ((0 : Int32) &&& 31)) - (1 : Int32)))), .unset, .unset] [(.int (2 : Int32)), (.int (pb &&& (((1 : Int32) <<< ((0 : Int32) &&& 31)) - (1 : Int32)))), (.int ((own_bit (pb &&& (((1 : Int32) <<< ((0 : Int32) &&& 31)) - (1 : Int32))) (0 : Int32)) + (own_bit (pb &&& (((1 : Int32) <<< ((0 : Int32) &&& 31)) - (1 : Int32))) (1 : Int32))))])) _
      refine st138 _ ?_
      show Steps p.tables e below (T138.setTop (mkF m 201 #[.val (.int ps), .val (.int pb), .val (.int pe), .val (.int (0 : Int32)), .val (.ref b131), .val (.int (own_cnt (0 : Int32) (0 : Int32) (0 : Int32) (0 : Int32) (0 : Int32))), .val (.int (pb &&& (((1 : Int32) <<< ((0 : Int32) &&& 31)) - (1 : Int32)))), .unset, .unset] [(.int (own_bit (pb &&& (((1 : Int32) <<< ((0 : Int32) &&& 31)) - (1 : Int32))) (2 : Int32))), (.int ((own_bit (pb &&& (((1 : Int32) <<< ((0 : Int32) &&& 31)) - (1 : Int32))) (0 : Int32)) + (own_bit (pb &&& (((1 : Int32) <<< ((0 : Int32) &&& 31)) - (1 : Int32))) (1 : Int32))))])) _
      refine XS.iadd X138.here hx rfl (hb hby at_201) rfl ?_
      show Steps p.tables e below (T138.setTop (mkF m 202 #[.val (.int ps), .val (.int pb), .val (.int pe), .val (.int (0 : Int32)), .val (.ref b131), .val (.int (own_cnt (0 : Int32) (0 : Int32) (0 : Int32) (0 : Int32) (0 : Int32))), .val (.int (pb &&& (((1 : Int32) <<< ((0 : Int32) &&& 31)) - (1 : Int32)))), .unset, .unset] [(.int (((own_bit (pb &&& (((1 : Int32) <<< ((0 : Int32) &&& 31)) - (1 : Int32))) (0 : Int32)) + (own_bit (pb &&& (((1 : Int32) <<< ((0 : Int32) &&& 31)) - (1 : Int32))) (1 : Int32))) + (own_bit (pb &&& (((1 : Int32) <<< ((0 : Int32) &&& 31)) - (1 : Int32))) (2 : Int32))))])) _
      refine XS.iload X138.here hx rfl (hb hby at_202) rfl ?_
      show Steps p.tables e below (T138.setTop (mkF m 204 #[.val (.int ps), .val (.int pb), .val (.int pe), .val (.int (0 : Int32)), .val (.ref b131), .val (.int (own_cnt (0 : Int32) (0 : Int32) (0 : Int32) (0 : Int32) (0 : Int32))), .val (.int (pb &&& (((1 : Int32) <<< ((0 : Int32) &&& 31)) - (1 : Int32)))), .unset, .unset] [(.int (pb &&& (((1 : Int32) <<< ((0 : Int32) &&& 31)) - (1 : Int32)))), (.int (((own_bit (pb &&& (((1 : Int32) <<< ((0 : Int32) &&& 31)) - (1 : Int32))) (0 : Int32)) + (own_bit (pb &&& (((1 : Int32) <<< ((0 : Int32) &&& 31)) - (1 : Int32))) (1 : Int32))) + (own_bit (pb &&& (((1 : Int32) <<< ((0 : Int32) &&& 31)) - (1 : Int32))) (2 : Int32))))])) _
      refine XS.iconst X138.here hx rfl (hb hby at_204) ?_
      show Steps p.tables e below (T138.setTop (mkF m 205 #[.val (.int ps), .val (.int pb), .val (.int pe), .val (.int (0 : Int32)), .val (.ref b131), .val (.int (own_cnt (0 : Int32) (0 : Int32) (0 : Int32) (0 : Int32) (0 : Int32))), .val (.int (pb &&& (((1 : Int32) <<< ((0 : Int32) &&& 31)) - (1 : Int32)))), .unset, .unset] [(.int (3 : Int32)), (.int (pb &&& (((1 : Int32) <<< ((0 : Int32) &&& 31)) - (1 : Int32)))), (.int (((own_bit (pb &&& (((1 : Int32) <<< ((0 : Int32) &&& 31)) - (1 : Int32))) (0 : Int32)) + (own_bit (pb &&& (((1 : Int32) <<< ((0 : Int32) &&& 31)) - (1 : Int32))) (1 : Int32))) + (own_bit (pb &&& (((1 : Int32) <<< ((0 : Int32) &&& 31)) - (1 : Int32))) (2 : Int32))))])) _
      refine st139 _ ?_
      show Steps p.tables e below (T139.setTop (mkF m 208 #[.val (.int ps), .val (.int pb), .val (.int pe), .val (.int (0 : Int32)), .val (.ref b131), .val (.int (own_cnt (0 : Int32) (0 : Int32) (0 : Int32) (0 : Int32) (0 : Int32))), .val (.int (pb &&& (((1 : Int32) <<< ((0 : Int32) &&& 31)) - (1 : Int32)))), .unset, .unset] [(.int (own_bit (pb &&& (((1 : Int32) <<< ((0 : Int32) &&& 31)) - (1 : Int32))) (3 : Int32))), (.int (((own_bit (pb &&& (((1 : Int32) <<< ((0 : Int32) &&& 31)) - (1 : Int32))) (0 : Int32)) + (own_bit (pb &&& (((1 : Int32) <<< ((0 : Int32) &&& 31)) - (1 : Int32))) (1 : Int32))) + (own_bit (pb &&& (((1 : Int32) <<< ((0 : Int32) &&& 31)) - (1 : Int32))) (2 : Int32))))])) _
      refine XS.iadd X139.here hx rfl (hb hby at_208) rfl ?_
      show Steps p.tables e below (T139.setTop (mkF m 209 #[.val (.int ps), .val (.int pb), .val (.int pe), .val (.int (0 : Int32)), .val (.ref b131), .val (.int (own_cnt (0 : Int32) (0 : Int32) (0 : Int32) (0 : Int32) (0 : Int32))), .val (.int (pb &&& (((1 : Int32) <<< ((0 : Int32) &&& 31)) - (1 : Int32)))), .unset, .unset] [(.int ((((own_bit (pb &&& (((1 : Int32) <<< ((0 : Int32) &&& 31)) - (1 : Int32))) (0 : Int32)) + (own_bit (pb &&& (((1 : Int32) <<< ((0 : Int32) &&& 31)) - (1 : Int32))) (1 : Int32))) + (own_bit (pb &&& (((1 : Int32) <<< ((0 : Int32) &&& 31)) - (1 : Int32))) (2 : Int32))) + (own_bit (pb &&& (((1 : Int32) <<< ((0 : Int32) &&& 31)) - (1 : Int32))) (3 : Int32))))])) _
      refine XS.istore X139.here hx rfl (hb hby at_209) rfl (l' := #[.val (.int ps), .val (.int pb), .val (.int pe), .val (.int (0 : Int32)), .val (.ref b131), .val (.int (own_cnt (0 : Int32) (0 : Int32) (0 : Int32) (0 : Int32) (0 : Int32))), .val (.int (pb &&& (((1 : Int32) <<< ((0 : Int32) &&& 31)) - (1 : Int32)))), .val (.int ((((own_bit (pb &&& (((1 : Int32) <<< ((0 : Int32) &&& 31)) - (1 : Int32))) (0 : Int32)) + (own_bit (pb &&& (((1 : Int32) <<< ((0 : Int32) &&& 31)) - (1 : Int32))) (1 : Int32))) + (own_bit (pb &&& (((1 : Int32) <<< ((0 : Int32) &&& 31)) - (1 : Int32))) (2 : Int32))) + (own_bit (pb &&& (((1 : Int32) <<< ((0 : Int32) &&& 31)) - (1 : Int32))) (3 : Int32)))), .unset]) rfl ?_
      show Steps p.tables e below (T139.setTop (mkF m 211 #[.val (.int ps), .val (.int pb), .val (.int pe), .val (.int (0 : Int32)), .val (.ref b131), .val (.int (own_cnt (0 : Int32) (0 : Int32) (0 : Int32) (0 : Int32) (0 : Int32))), .val (.int (pb &&& (((1 : Int32) <<< ((0 : Int32) &&& 31)) - (1 : Int32)))), .val (.int ((((own_bit (pb &&& (((1 : Int32) <<< ((0 : Int32) &&& 31)) - (1 : Int32))) (0 : Int32)) + (own_bit (pb &&& (((1 : Int32) <<< ((0 : Int32) &&& 31)) - (1 : Int32))) (1 : Int32))) + (own_bit (pb &&& (((1 : Int32) <<< ((0 : Int32) &&& 31)) - (1 : Int32))) (2 : Int32))) + (own_bit (pb &&& (((1 : Int32) <<< ((0 : Int32) &&& 31)) - (1 : Int32))) (3 : Int32)))), .unset] [])) _
      refine XS.iload X139.here hx rfl (hb hby at_211) rfl ?_
      show Steps p.tables e below (T139.setTop (mkF m 213 #[.val (.int ps), .val (.int pb), .val (.int pe), .val (.int (0 : Int32)), .val (.ref b131), .val (.int (own_cnt (0 : Int32) (0 : Int32) (0 : Int32) (0 : Int32) (0 : Int32))), .val (.int (pb &&& (((1 : Int32) <<< ((0 : Int32) &&& 31)) - (1 : Int32)))), .val (.int ((((own_bit (pb &&& (((1 : Int32) <<< ((0 : Int32) &&& 31)) - (1 : Int32))) (0 : Int32)) + (own_bit (pb &&& (((1 : Int32) <<< ((0 : Int32) &&& 31)) - (1 : Int32))) (1 : Int32))) + (own_bit (pb &&& (((1 : Int32) <<< ((0 : Int32) &&& 31)) - (1 : Int32))) (2 : Int32))) + (own_bit (pb &&& (((1 : Int32) <<< ((0 : Int32) &&& 31)) - (1 : Int32))) (3 : Int32)))), .unset] [(.int (own_cnt (0 : Int32) (0 : Int32) (0 : Int32) (0 : Int32) (0 : Int32)))])) _
      refine XS.ifNo X139.here hx rfl (hb hby at_213) rfl ((if0 _ _).trans (teq (rfl : ((own_cnt (0 : Int32) (0 : Int32) (0 : Int32) (0 : Int32) (0 : Int32)) = (0 : Int32)))).2) ?_
      show Steps p.tables e below (T139.setTop (mkF m 216 #[.val (.int ps), .val (.int pb), .val (.int pe), .val (.int (0 : Int32)), .val (.ref b131), .val (.int (own_cnt (0 : Int32) (0 : Int32) (0 : Int32) (0 : Int32) (0 : Int32))), .val (.int (pb &&& (((1 : Int32) <<< ((0 : Int32) &&& 31)) - (1 : Int32)))), .val (.int ((((own_bit (pb &&& (((1 : Int32) <<< ((0 : Int32) &&& 31)) - (1 : Int32))) (0 : Int32)) + (own_bit (pb &&& (((1 : Int32) <<< ((0 : Int32) &&& 31)) - (1 : Int32))) (1 : Int32))) + (own_bit (pb &&& (((1 : Int32) <<< ((0 : Int32) &&& 31)) - (1 : Int32))) (2 : Int32))) + (own_bit (pb &&& (((1 : Int32) <<< ((0 : Int32) &&& 31)) - (1 : Int32))) (3 : Int32)))), .unset] [])) _
      refine XS.aload X139.here hx rfl (hb hby at_216) rfl rfl ?_
      show Steps p.tables e below (T139.setTop (mkF m 218 #[.val (.int ps), .val (.int pb), .val (.int pe), .val (.int (0 : Int32)), .val (.ref b131), .val (.int (own_cnt (0 : Int32) (0 : Int32) (0 : Int32) (0 : Int32) (0 : Int32))), .val (.int (pb &&& (((1 : Int32) <<< ((0 : Int32) &&& 31)) - (1 : Int32)))), .val (.int ((((own_bit (pb &&& (((1 : Int32) <<< ((0 : Int32) &&& 31)) - (1 : Int32))) (0 : Int32)) + (own_bit (pb &&& (((1 : Int32) <<< ((0 : Int32) &&& 31)) - (1 : Int32))) (1 : Int32))) + (own_bit (pb &&& (((1 : Int32) <<< ((0 : Int32) &&& 31)) - (1 : Int32))) (2 : Int32))) + (own_bit (pb &&& (((1 : Int32) <<< ((0 : Int32) &&& 31)) - (1 : Int32))) (3 : Int32)))), .unset] [(.ref b131)])) _
      refine st140.trans ?_
      show Steps p.tables e below (T140.setTop (mkF m 221 #[.val (.int ps), .val (.int pb), .val (.int pe), .val (.int (0 : Int32)), .val (.ref b131), .val (.int (own_cnt (0 : Int32) (0 : Int32) (0 : Int32) (0 : Int32) (0 : Int32))), .val (.int (pb &&& (((1 : Int32) <<< ((0 : Int32) &&& 31)) - (1 : Int32)))), .val (.int ((((own_bit (pb &&& (((1 : Int32) <<< ((0 : Int32) &&& 31)) - (1 : Int32))) (0 : Int32)) + (own_bit (pb &&& (((1 : Int32) <<< ((0 : Int32) &&& 31)) - (1 : Int32))) (1 : Int32))) + (own_bit (pb &&& (((1 : Int32) <<< ((0 : Int32) &&& 31)) - (1 : Int32))) (2 : Int32))) + (own_bit (pb &&& (((1 : Int32) <<< ((0 : Int32) &&& 31)) - (1 : Int32))) (3 : Int32)))), .unset] [(.int (own_cnt (0 : Int32) (0 : Int32) (0 : Int32) (0 : Int32) (0 : Int32)))])) _
      refine XS.iload X140.here hx rfl (hb hby at_221) rfl ?_
      show Steps p.tables e below (T140.setTop (mkF m 223 #[.val (.int ps), .val (.int pb), .val (.int pe), .val (.int (0 : Int32)), .val (.ref b131), .val (.int (own_cnt (0 : Int32) (0 : Int32) (0 : Int32) (0 : Int32) (0 : Int32))), .val (.int (pb &&& (((1 : Int32) <<< ((0 : Int32) &&& 31)) - (1 : Int32)))), .val (.int ((((own_bit (pb &&& (((1 : Int32) <<< ((0 : Int32) &&& 31)) - (1 : Int32))) (0 : Int32)) + (own_bit (pb &&& (((1 : Int32) <<< ((0 : Int32) &&& 31)) - (1 : Int32))) (1 : Int32))) + (own_bit (pb &&& (((1 : Int32) <<< ((0 : Int32) &&& 31)) - (1 : Int32))) (2 : Int32))) + (own_bit (pb &&& (((1 : Int32) <<< ((0 : Int32) &&& 31)) - (1 : Int32))) (3 : Int32)))), .unset] [(.int ((((own_bit (pb &&& (((1 : Int32) <<< ((0 : Int32) &&& 31)) - (1 : Int32))) (0 : Int32)) + (own_bit (pb &&& (((1 : Int32) <<< ((0 : Int32) &&& 31)) - (1 : Int32))) (1 : Int32))) + (own_bit (pb &&& (((1 : Int32) <<< ((0 : Int32) &&& 31)) - (1 : Int32))) (2 : Int32))) + (own_bit (pb &&& (((1 : Int32) <<< ((0 : Int32) &&& 31)) - (1 : Int32))) (3 : Int32)))), (.int (own_cnt (0 : Int32) (0 : Int32) (0 : Int32) (0 : Int32) (0 : Int32)))])) _
      refine XS.icmpNo X140.here hx rfl (hb hby at_223) rfl (teq (own_fin0 pb : ((own_cnt (0 : Int32) (0 : Int32) (0 : Int32) (0 : Int32) (0 : Int32)) = ((((own_bit (pb &&& (((1 : Int32) <<< ((0 : Int32) &&& 31)) - (1 : Int32))) (0 : Int32)) + (own_bit (pb &&& (((1 : Int32) <<< ((0 : Int32) &&& 31)) - (1 : Int32))) (1 : Int32))) + (own_bit (pb &&& (((1 : Int32) <<< ((0 : Int32) &&& 31)) - (1 : Int32))) (2 : Int32))) + (own_bit (pb &&& (((1 : Int32) <<< ((0 : Int32) &&& 31)) - (1 : Int32))) (3 : Int32)))))).2 ?_
      show Steps p.tables e below (T140.setTop (mkF m 226 #[.val (.int ps), .val (.int pb), .val (.int pe), .val (.int (0 : Int32)), .val (.ref b131), .val (.int (own_cnt (0 : Int32) (0 : Int32) (0 : Int32) (0 : Int32) (0 : Int32))), .val (.int (pb &&& (((1 : Int32) <<< ((0 : Int32) &&& 31)) - (1 : Int32)))), .val (.int ((((own_bit (pb &&& (((1 : Int32) <<< ((0 : Int32) &&& 31)) - (1 : Int32))) (0 : Int32)) + (own_bit (pb &&& (((1 : Int32) <<< ((0 : Int32) &&& 31)) - (1 : Int32))) (1 : Int32))) + (own_bit (pb &&& (((1 : Int32) <<< ((0 : Int32) &&& 31)) - (1 : Int32))) (2 : Int32))) + (own_bit (pb &&& (((1 : Int32) <<< ((0 : Int32) &&& 31)) - (1 : Int32))) (3 : Int32)))), .unset] [])) _
      refine XS.iconst X140.here hx rfl (hb hby at_226) ?_
      show Steps p.tables e below (T140.setTop (mkF m 227 #[.val (.int ps), .val (.int pb), .val (.int pe), .val (.int (0 : Int32)), .val (.ref b131), .val (.int (own_cnt (0 : Int32) (0 : Int32) (0 : Int32) (0 : Int32) (0 : Int32))), .val (.int (pb &&& (((1 : Int32) <<< ((0 : Int32) &&& 31)) - (1 : Int32)))), .val (.int ((((own_bit (pb &&& (((1 : Int32) <<< ((0 : Int32) &&& 31)) - (1 : Int32))) (0 : Int32)) + (own_bit (pb &&& (((1 : Int32) <<< ((0 : Int32) &&& 31)) - (1 : Int32))) (1 : Int32))) + (own_bit (pb &&& (((1 : Int32) <<< ((0 : Int32) &&& 31)) - (1 : Int32))) (2 : Int32))) + (own_bit (pb &&& (((1 : Int32) <<< ((0 : Int32) &&& 31)) - (1 : Int32))) (3 : Int32)))), .unset] [(.int (1 : Int32))])) _
      refine XS.goto X140.here hx rfl (pc0 := 227) (pc' := 231) rfl (hb hby at_227) (by decide) (by decide) ?_
      show Steps p.tables e below (T140.setTop (mkF m 231 #[.val (.int ps), .val (.int pb), .val (.int pe), .val (.int (0 : Int32)), .val (.ref b131), .val (.int (own_cnt (0 : Int32) (0 : Int32) (0 : Int32) (0 : Int32) (0 : Int32))), .val (.int (pb &&& (((1 : Int32) <<< ((0 : Int32) &&& 31)) - (1 : Int32)))), .val (.int ((((own_bit (pb &&& (((1 : Int32) <<< ((0 : Int32) &&& 31)) - (1 : Int32))) (0 : Int32)) + (own_bit (pb &&& (((1 : Int32) <<< ((0 : Int32) &&& 31)) - (1 : Int32))) (1 : Int32))) + (own_bit (pb &&& (((1 : Int32) <<< ((0 : Int32) &&& 31)) - (1 : Int32))) (2 : Int32))) + (own_bit (pb &&& (((1 : Int32) <<< ((0 : Int32) &&& 31)) - (1 : Int32))) (3 : Int32)))), .unset] [(.int (1 : Int32))])) _
      exact retN X140 hx (t := .boolean) Bd.returns (by simp) (hb hby at_231) hr
    · show Q0 Z ps pb pe h0 n0 _ T140.heap _
      rw [e140]
      exact ⟨rfl, N140⟩
  · rw [hq127] at pre125
    obtain ⟨T141, h141, X141, e141, E141, A141, D141, -, st141⟩ := newO X0 hx hZ hown (hw _ (List.mem_of_getElem? (i := 1) rfl)) (hw _ (List.mem_of_getElem? (i := 2) rfl)) (hw _ (List.mem_of_getElem? (i := 3) rfl)) e0 (g := (mkF m 7 #[.val (.int ps), .val (.int pb), .val (.int pe), .val (.int (1 : Int32)), .unset, .unset, .unset, .unset, .unset] [])) rfl (hb hby at_7) (by decide) (by decide)
    obtain ⟨b141, g141⟩ : ∃ z, z = h0.size := ⟨_, rfl⟩
    rw [← g141] at A141 D141 st141
    have g_b141 : n0 ≤ b141 := Nat.le_trans Z0 (Nat.le_of_eq g141.symm)
    have sz_b141 : h0.size ≤ b141 := Nat.le_of_eq g141.symm
    have Zs141 : n0 ≤ h141.size := Nat.le_trans Z0 E141.1
    have KK141 : Keep h0 h141 [] := (Keep.refl h0 _).ext E141
    have f142 : Fld Z h141 b141 "com/example/tresse/tresse/rwlock/Flags" "values" "[Z" .null := D141 (Or.inr (hw _ (List.mem_of_getElem? (i := 12) rfl))) (ty := (.array .boolean)) (by decide)
    obtain ⟨_, _, ⟨T143, L143, k143, n143⟩, -, X143, ⟨Lc143, hQ143, l143, y143, z143⟩, st143⟩ := X141.specialBack hx (y := (⟨"com/example/tresse/tresse/rwlock/Flags", "<init>", "(I)V"⟩ : MethodName)) rfl hown (mvT hZ (hw _ (List.mem_of_getElem? (i := 4) rfl))) (mvT hZ (hw _ (List.mem_of_getElem? (i := 5) rfl))) (mvT hZ (hw _ (List.mem_of_getElem? (i := 6) rfl))) (by decide) (backOf (W := 1) (rm1 l Z a0 hw [] b141 (1 : Int32)  h141 n0 Zs141 f142 A141 g_b141 (by decide) (by decide)) hZ (hw _ (List.mem_of_getElem? (i := 6) rfl)) (hw _ (List.mem_of_getElem? (i := 3) rfl)) (by decide) (by decide)) (g := (mkF m 12 #[.val (.int ps), .val (.int pb), .val (.int pe), .val (.int (1 : Int32)), .unset, .unset, .unset, .unset, .unset] [(.int (1 : Int32)), (.ref b141), (.ref b141)])) rfl (by rw [hml]; rfl) (Steps.refl _) (a := b141) (argsL := [(.int (1 : Int32))]) (rest := [(.ref b141)]) (lenOf own_pd49 rfl) rfl (by show 2 * 0 + _ ≤ _; exact Nat.le_of_eq rfl) (hb hby at_12) (fun _ _ => ⟨rfl, e141, (by decide : 1 + 1 ≤ _), (by decide : 1 + 4 ≤ _)⟩)
    dsimp only [Pt.U, Pt.locs, Pt.cells, Pt.slots] at X143 l143 y143 z143 st143 hQ143
    subst l143 y143 z143
    obtain ⟨rar_143, rkk_143, rfl, Nq143, K143, p143_0, p143_1, p143_2, p143_3, p143_4⟩ := hQ143
    have N143 := Fr.app N0 Nq143
    have Zs143 : n0 ≤ T143.heap.size := Nat.le_trans Zs141 K143.1
    have KK143 : Keep h0 T143.heap [] := KK141.trans K143 (allS (Or.inr sz_b141) all0)
    have ne_b141_rar_143 : b141 ≠ rar_143 := Nat.ne_of_lt (Nat.lt_of_lt_of_le A141.lt p143_4)
    have sz_rar_143 : h0.size ≤ rar_143 := Nat.le_trans KK141.1 p143_4
    have f144 := A141.keep K143
    have g_rar_143 := p143_3
    obtain ⟨cq145, kq145, q145a, q145b, q145c⟩ := isOf hZ rfl p143_0
    obtain ⟨_, _, ⟨T145, L145, k145, n145⟩, -, X145, ⟨Lc145, hQ145, l145, y145, z145⟩, st145⟩ := X143.virtualBack hx (y := (⟨"com/example/tresse/tresse/rwlock/Flags", "countTrue", "()I"⟩ : MethodName)) (z := (⟨"com/example/tresse/tresse/rwlock/Flags", "countTrue", "()I"⟩ : MethodName)) hown (mvT hZ (hw _ (List.mem_of_getElem? (i := 13) rfl))) (mvT hZ (hw _ (List.mem_of_getElem? (i := 14) rfl))) (notFace_of_selects (args := #[]) (mvT hZ (hw _ (List.mem_of_getElem? (i := 16) rfl)))) (mvT hZ (hw _ (List.mem_of_getElem? (i := 16) rfl))) (mvT hZ (hw _ (List.mem_of_getElem? (i := 15) rfl))) (by decide) (backOf (W := 0) (rm3 l Z a0 hw [] b141 rar_143 rkk_143 (1 : Int32) (0 : Int32) (0 : Int32) (0 : Int32) (0 : Int32) T143.heap n0 Zs143 p143_1 p143_2 (by decide)) hZ (hw _ (List.mem_of_getElem? (i := 17) rfl)) (hw _ (List.mem_of_getElem? (i := 3) rfl)) (by decide) (by decide)) q145a q145c (g := (mkF m 19 #[.val (.int ps), .val (.int pb), .val (.int pe), .val (.int (1 : Int32)), .val (.ref b141), .unset, .unset, .unset, .unset] [(.ref b141)])) rfl (by rw [hml]; rfl) (Steps.refl _) (argsL := []) (rest := []) (lenOf own_pd50 rfl) rfl (by show 2 * 0 + _ ≤ _; exact Nat.le_of_eq rfl) (hb hby at_19) (fun _ _ => ⟨rfl, rfl, (by decide : 2 + 0 ≤ _), (by decide : 5 + 0 ≤ _)⟩)
    dsimp only [Pt.U, Pt.locs, Pt.cells, Pt.slots] at X145 l145 y145 z145 st145 hQ145
    subst l145 y145 z145
    obtain ⟨rfl, Nq145, e145⟩ := hQ145
    have N145 := Fr.app N143 Nq145
    have pre146 : ∀ t, Steps p.tables e below (T145.setTop (mkF m 34 #[.val (.int ps), .val (.int pb), .val (.int pe), .val (.int (1 : Int32)), .val (.ref b141), .val (.int (own_cnt (1 : Int32) (0 : Int32) (0 : Int32) (0 : Int32) (0 : Int32))), .unset, .unset, .unset] [(.int (pb &&& (1 : Int32))), (.int (0 : Int32)), (.ref b141)])) t → Steps p.tables e below G0 t := by
      intro t k
      refine pre125 t ?_
      show Steps p.tables e below (s₁.setTop (mkF m 7 #[.val (.int ps), .val (.int pb), .val (.int pe), .val (.int (1 : Int32)), .unset, .unset, .unset, .unset, .unset] [])) _
      refine st141 _ ?_
      show Steps p.tables e below (T141.setTop (mkF m 10 #[.val (.int ps), .val (.int pb), .val (.int pe), .val (.int (1 : Int32)), .unset, .unset, .unset, .unset, .unset] [(.ref b141)])) _
      refine XS.dup X141.here hx rfl (hb hby at_10) rfl rfl ?_
      show Steps p.tables e below (T141.setTop (mkF m 11 #[.val (.int ps), .val (.int pb), .val (.int pe), .val (.int (1 : Int32)), .unset, .unset, .unset, .unset, .unset] [(.ref b141), (.ref b141)])) _
      refine XS.iloadN X141.here hx rfl (hb hby at_11) rfl ?_
      show Steps p.tables e below (T141.setTop (mkF m 12 #[.val (.int ps), .val (.int pb), .val (.int pe), .val (.int (1 : Int32)), .unset, .unset, .unset, .unset, .unset] [(.int (1 : Int32)), (.ref b141), (.ref b141)])) _
      refine st143.trans ?_
      show Steps p.tables e below (T143.setTop (mkF m 15 #[.val (.int ps), .val (.int pb), .val (.int pe), .val (.int (1 : Int32)), .unset, .unset, .unset, .unset, .unset] [(.ref b141)])) _
      refine XS.astore X143.here hx rfl (hb hby at_15) rfl rfl (l' := #[.val (.int ps), .val (.int pb), .val (.int pe), .val (.int (1 : Int32)), .val (.ref b141), .unset, .unset, .unset, .unset]) rfl ?_
      show Steps p.tables e below (T143.setTop (mkF m 17 #[.val (.int ps), .val (.int pb), .val (.int pe), .val (.int (1 : Int32)), .val (.ref b141), .unset, .unset, .unset, .unset] [])) _
      refine XS.aload X143.here hx rfl (hb hby at_17) rfl rfl ?_
      show Steps p.tables e below (T143.setTop (mkF m 19 #[.val (.int ps), .val (.int pb), .val (.int pe), .val (.int (1 : Int32)), .val (.ref b141), .unset, .unset, .unset, .unset] [(.ref b141)])) _
      refine st145.trans ?_
      show Steps p.tables e below (T145.setTop (mkF m 22 #[.val (.int ps), .val (.int pb), .val (.int pe), .val (.int (1 : Int32)), .val (.ref b141), .unset, .unset, .unset, .unset] [(.int (own_cnt (1 : Int32) (0 : Int32) (0 : Int32) (0 : Int32) (0 : Int32)))])) _
      refine XS.istore X145.here hx rfl (hb hby at_22) rfl (l' := #[.val (.int ps), .val (.int pb), .val (.int pe), .val (.int (1 : Int32)), .val (.ref b141), .val (.int (own_cnt (1 : Int32) (0 : Int32) (0 : Int32) (0 : Int32) (0 : Int32))), .unset, .unset, .unset]) rfl ?_
      show Steps p.tables e below (T145.setTop (mkF m 24 #[.val (.int ps), .val (.int pb), .val (.int pe), .val (.int (1 : Int32)), .val (.ref b141), .val (.int (own_cnt (1 : Int32) (0 : Int32) (0 : Int32) (0 : Int32) (0 : Int32))), .unset, .unset, .unset] [])) _
      refine XS.iloadN X145.here hx rfl (hb hby at_24) rfl ?_
      show Steps p.tables e below (T145.setTop (mkF m 25 #[.val (.int ps), .val (.int pb), .val (.int pe), .val (.int (1 : Int32)), .val (.ref b141), .val (.int (own_cnt (1 : Int32) (0 : Int32) (0 : Int32) (0 : Int32) (0 : Int32))), .unset, .unset, .unset] [(.int (1 : Int32))])) _
      refine XS.ifNo X145.here hx rfl (hb hby at_25) rfl ((if0 _ _).trans (tlt (by decide : ((0 : Int32) < (1 : Int32)))).2.2.2) ?_
      show Steps p.tables e below (T145.setTop (mkF m 28 #[.val (.int ps), .val (.int pb), .val (.int pe), .val (.int (1 : Int32)), .val (.ref b141), .val (.int (own_cnt (1 : Int32) (0 : Int32) (0 : Int32) (0 : Int32) (0 : Int32))), .unset, .unset, .unset] [])) _
      refine XS.aload X145.here hx rfl (hb hby at_28) rfl rfl ?_
      show Steps p.tables e below (T145.setTop (mkF m 30 #[.val (.int ps), .val (.int pb), .val (.int pe), .val (.int (1 : Int32)), .val (.ref b141), .val (.int (own_cnt (1 : Int32) (0 : Int32) (0 : Int32) (0 : Int32) (0 : Int32))), .unset, .unset, .unset] [(.ref b141)])) _
      refine XS.iconst X145.here hx rfl (hb hby at_30) ?_
      show Steps p.tables e below (T145.setTop (mkF m 31 #[.val (.int ps), .val (.int pb), .val (.int pe), .val (.int (1 : Int32)), .val (.ref b141), .val (.int (own_cnt (1 : Int32) (0 : Int32) (0 : Int32) (0 : Int32) (0 : Int32))), .unset, .unset, .unset] [(.int (0 : Int32)), (.ref b141)])) _
      refine XS.iloadN X145.here hx rfl (hb hby at_31) rfl ?_
      show Steps p.tables e below (T145.setTop (mkF m 32 #[.val (.int ps), .val (.int pb), .val (.int pe), .val (.int (1 : Int32)), .val (.ref b141), .val (.int (own_cnt (1 : Int32) (0 : Int32) (0 : Int32) (0 : Int32) (0 : Int32))), .unset, .unset, .unset] [(.int pb), (.int (0 : Int32)), (.ref b141)])) _
      refine XS.iconst X145.here hx rfl (hb hby at_32) ?_
      show Steps p.tables e below (T145.setTop (mkF m 33 #[.val (.int ps), .val (.int pb), .val (.int pe), .val (.int (1 : Int32)), .val (.ref b141), .val (.int (own_cnt (1 : Int32) (0 : Int32) (0 : Int32) (0 : Int32) (0 : Int32))), .unset, .unset, .unset] [(.int (1 : Int32)), (.int pb), (.int (0 : Int32)), (.ref b141)])) _
      refine XS.iand X145.here hx rfl (hb hby at_33) rfl ?_
      exact k
    obtain ⟨v0, hv152, pre151⟩ : ∃ (v0 : Int32), (v0 = if (pb &&& 1) = 0 then 0 else 1) ∧ ∀ t, Steps p.tables e below (T145.setTop (mkF m 42 #[.val (.int ps), .val (.int pb), .val (.int pe), .val (.int (1 : Int32)), .val (.ref b141), .val (.int (own_cnt (1 : Int32) (0 : Int32) (0 : Int32) (0 : Int32) (0 : Int32))), .unset, .unset, .unset] [(.int v0), (.int (0 : Int32)), (.ref b141)])) t → Steps p.tables e below G0 t := by
      by_cases hc34_147 : (pb &&& (1 : Int32)) = (0 : Int32)
      · have pre148 : ∀ t, Steps p.tables e below (T145.setTop (mkF m 42 #[.val (.int ps), .val (.int pb), .val (.int pe), .val (.int (1 : Int32)), .val (.ref b141), .val (.int (own_cnt (1 : Int32) (0 : Int32) (0 : Int32) (0 : Int32) (0 : Int32))), .unset, .unset, .unset] [(.int (0 : Int32)), (.int (0 : Int32)), (.ref b141)])) t → Steps p.tables e below G0 t := by
          intro t k
          refine pre146 t ?_
          show Steps p.tables e below (T145.setTop (mkF m 34 #[.val (.int ps), .val (.int pb), .val (.int pe), .val (.int (1 : Int32)), .val (.ref b141), .val (.int (own_cnt (1 : Int32) (0 : Int32) (0 : Int32) (0 : Int32) (0 : Int32))), .unset, .unset, .unset] [(.int (pb &&& (1 : Int32))), (.int (0 : Int32)), (.ref b141)])) _
          refine XS.ifYes X145.here hx rfl (pc0 := 34) (pc' := 41) rfl (hb hby at_34) rfl ((if0 _ _).trans (teq hc34_147).1) (by decide) (by decide) ?_
          show Steps p.tables e below (T145.setTop (mkF m 41 #[.val (.int ps), .val (.int pb), .val (.int pe), .val (.int (1 : Int32)), .val (.ref b141), .val (.int (own_cnt (1 : Int32) (0 : Int32) (0 : Int32) (0 : Int32) (0 : Int32))), .unset, .unset, .unset] [(.int (0 : Int32)), (.ref b141)])) _
          refine XS.iconst X145.here hx rfl (hb hby at_41) ?_
          exact k
        exact ⟨(0 : Int32), (by simp [hc34_147]), pre148⟩
      · have pre149 : ∀ t, Steps p.tables e below (T145.setTop (mkF m 42 #[.val (.int ps), .val (.int pb), .val (.int pe), .val (.int (1 : Int32)), .val (.ref b141), .val (.int (own_cnt (1 : Int32) (0 : Int32) (0 : Int32) (0 : Int32) (0 : Int32))), .unset, .unset, .unset] [(.int (1 : Int32)), (.int (0 : Int32)), (.ref b141)])) t → Steps p.tables e below G0 t := by
          intro t k
          refine pre146 t ?_
          show Steps p.tables e below (T145.setTop (mkF m 34 #[.val (.int ps), .val (.int pb), .val (.int pe), .val (.int (1 : Int32)), .val (.ref b141), .val (.int (own_cnt (1 : Int32) (0 : Int32) (0 : Int32) (0 : Int32) (0 : Int32))), .unset, .unset, .unset] [(.int (pb &&& (1 : Int32))), (.int (0 : Int32)), (.ref b141)])) _
          refine XS.ifNo X145.here hx rfl (hb hby at_34) rfl ((if0 _ _).trans (feq hc34_147).1) ?_
          show Steps p.tables e below (T145.setTop (mkF m 37 #[.val (.int ps), .val (.int pb), .val (.int pe), .val (.int (1 : Int32)), .val (.ref b141), .val (.int (own_cnt (1 : Int32) (0 : Int32) (0 : Int32) (0 : Int32) (0 : Int32))), .unset, .unset, .unset] [(.int (0 : Int32)), (.ref b141)])) _
          refine XS.iconst X145.here hx rfl (hb hby at_37) ?_
          show Steps p.tables e below (T145.setTop (mkF m 38 #[.val (.int ps), .val (.int pb), .val (.int pe), .val (.int (1 : Int32)), .val (.ref b141), .val (.int (own_cnt (1 : Int32) (0 : Int32) (0 : Int32) (0 : Int32) (0 : Int32))), .unset, .unset, .unset] [(.int (1 : Int32)), (.int (0 : Int32)), (.ref b141)])) _
          refine XS.goto X145.here hx rfl (pc0 := 38) (pc' := 42) rfl (hb hby at_38) (by decide) (by decide) ?_
          exact k
        exact ⟨(1 : Int32), (by simp [hc34_147]), pre149⟩
    obtain ⟨cq153, kq153, q153a, q153b, q153c⟩ := isOf hZ e145 p143_0
    obtain ⟨_, _, ⟨T153, L153, k153, n153⟩, -, X153, ⟨Lc153, hQ153, l153, y153, z153⟩, st153⟩ := X145.virtualBack hx (y := (⟨"com/example/tresse/tresse/rwlock/Flags", "set", "(IZ)V"⟩ : MethodName)) (z := (⟨"com/example/tresse/tresse/rwlock/Flags", "set", "(IZ)V"⟩ : MethodName)) hown (mvT hZ (hw _ (List.mem_of_getElem? (i := 22) rfl))) (mvT hZ (hw _ (List.mem_of_getElem? (i := 23) rfl))) (notFace_of_selects (args := #[]) (mvT hZ (hw _ (List.mem_of_getElem? (i := 25) rfl)))) (mvT hZ (hw _ (List.mem_of_getElem? (i := 25) rfl))) (mvT hZ (hw _ (List.mem_of_getElem? (i := 24) rfl))) (by decide) (backOf (W := 0) (rm5j0 l Z a0 hw [] b141 v0 rar_143 rkk_143 (1 : Int32) (0 : Int32) (0 : Int32) (0 : Int32) (0 : Int32) T143.heap n0 Zs143 p143_1 p143_2 g_rar_143 ne_b141_rar_143 (by decide)) hZ (hw _ (List.mem_of_getElem? (i := 26) rfl)) (hw _ (List.mem_of_getElem? (i := 3) rfl)) (by decide) (by decide)) q153a q153c (g := (mkF m 42 #[.val (.int ps), .val (.int pb), .val (.int pe), .val (.int (1 : Int32)), .val (.ref b141), .val (.int (own_cnt (1 : Int32) (0 : Int32) (0 : Int32) (0 : Int32) (0 : Int32))), .unset, .unset, .unset] [(.int v0), (.int (0 : Int32)), (.ref b141)])) rfl (by rw [hml]; rfl) (Steps.refl _) (argsL := [(.int (0 : Int32)), (.int v0)]) (rest := []) (lenOf own_pd52 rfl) rfl (by show 2 * 0 + _ ≤ _; exact Nat.le_of_eq rfl) (hb hby at_42) (fun _ _ => ⟨rfl, e145, (by decide : 2 + 0 ≤ _), (by decide : 5 + 0 ≤ _)⟩)
    dsimp only [Pt.U, Pt.locs, Pt.cells, Pt.slots] at X153 l153 y153 z153 st153 hQ153
    subst l153 y153 z153
    obtain ⟨rfl, Nq153, K153, p153_0⟩ := hQ153
    have N153 := Fr.app N145 Nq153
    have Zs153 : n0 ≤ T153.heap.size := Nat.le_trans Zs143 K153.1
    have KK153 : Keep h0 T153.heap [] := KK143.trans K153 (allS (Or.inr sz_rar_143) all0)
    have f154 := p143_0.keep K153
    have f155 := p143_1.keep K153 (ninS ne_b141_rar_143 nin0)
    have pre156 : ∀ t, Steps p.tables e below (T153.setTop (mkF m 132 #[.val (.int ps), .val (.int pb), .val (.int pe), .val (.int (1 : Int32)), .val (.ref b141), .val (.int (own_cnt (1 : Int32) (0 : Int32) (0 : Int32) (0 : Int32) (0 : Int32))), .val (.int (pb &&& (((1 : Int32) <<< ((1 : Int32) &&& 31)) - (1 : Int32)))), .val (.int ((pe &&& (3 : Int32)) % (1 : Int32))), .unset] [])) t → Steps p.tables e below G0 t := by
      intro t k
      refine pre151 t ?_
      show Steps p.tables e below (T145.setTop (mkF m 42 #[.val (.int ps), .val (.int pb), .val (.int pe), .val (.int (1 : Int32)), .val (.ref b141), .val (.int (own_cnt (1 : Int32) (0 : Int32) (0 : Int32) (0 : Int32) (0 : Int32))), .unset, .unset, .unset] [(.int v0), (.int (0 : Int32)), (.ref b141)])) _
      refine st153.trans ?_
      show Steps p.tables e below (T153.setTop (mkF m 45 #[.val (.int ps), .val (.int pb), .val (.int pe), .val (.int (1 : Int32)), .val (.ref b141), .val (.int (own_cnt (1 : Int32) (0 : Int32) (0 : Int32) (0 : Int32) (0 : Int32))), .unset, .unset, .unset] [])) _
      refine XS.iloadN X153.here hx rfl (hb hby at_45) rfl ?_
      show Steps p.tables e below (T153.setTop (mkF m 46 #[.val (.int ps), .val (.int pb), .val (.int pe), .val (.int (1 : Int32)), .val (.ref b141), .val (.int (own_cnt (1 : Int32) (0 : Int32) (0 : Int32) (0 : Int32) (0 : Int32))), .unset, .unset, .unset] [(.int (1 : Int32))])) _
      refine XS.iconst X153.here hx rfl (hb hby at_46) ?_
      show Steps p.tables e below (T153.setTop (mkF m 47 #[.val (.int ps), .val (.int pb), .val (.int pe), .val (.int (1 : Int32)), .val (.ref b141), .val (.int (own_cnt (1 : Int32) (0 : Int32) (0 : Int32) (0 : Int32) (0 : Int32))), .unset, .unset, .unset] [(.int (1 : Int32)), (.int (1 : Int32))])) _
      refine XS.icmpYes X153.here hx rfl (pc0 := 47) (pc' := 67) rfl (hb hby at_47) rfl (flt (by decide : ¬ ((1 : Int32) < (1 : Int32)))).2.2.2 (by decide) (by decide) ?_
      show Steps p.tables e below (T153.setTop (mkF m 67 #[.val (.int ps), .val (.int pb), .val (.int pe), .val (.int (1 : Int32)), .val (.ref b141), .val (.int (own_cnt (1 : Int32) (0 : Int32) (0 : Int32) (0 : Int32) (0 : Int32))), .unset, .unset, .unset] [])) _
      refine XS.iloadN X153.here hx rfl (hb hby at_67) rfl ?_
      show Steps p.tables e below (T153.setTop (mkF m 68 #[.val (.int ps), .val (.int pb), .val (.int pe), .val (.int (1 : Int32)), .val (.ref b141), .val (.int (own_cnt (1 : Int32) (0 : Int32) (0 : Int32) (0 : Int32) (0 : Int32))), .unset, .unset, .unset] [(.int (1 : Int32))])) _
      refine XS.iconst X153.here hx rfl (hb hby at_68) ?_
      show Steps p.tables e below (T153.setTop (mkF m 69 #[.val (.int ps), .val (.int pb), .val (.int pe), .val (.int (1 : Int32)), .val (.ref b141), .val (.int (own_cnt (1 : Int32) (0 : Int32) (0 : Int32) (0 : Int32) (0 : Int32))), .unset, .unset, .unset] [(.int (2 : Int32)), (.int (1 : Int32))])) _
      refine XS.icmpYes X153.here hx rfl (pc0 := 69) (pc' := 89) rfl (hb hby at_69) rfl (flt (by decide : ¬ ((2 : Int32) < (1 : Int32)))).2.2.2 (by decide) (by decide) ?_
      show Steps p.tables e below (T153.setTop (mkF m 89 #[.val (.int ps), .val (.int pb), .val (.int pe), .val (.int (1 : Int32)), .val (.ref b141), .val (.int (own_cnt (1 : Int32) (0 : Int32) (0 : Int32) (0 : Int32) (0 : Int32))), .unset, .unset, .unset] [])) _
      refine XS.iloadN X153.here hx rfl (hb hby at_89) rfl ?_
      show Steps p.tables e below (T153.setTop (mkF m 90 #[.val (.int ps), .val (.int pb), .val (.int pe), .val (.int (1 : Int32)), .val (.ref b141), .val (.int (own_cnt (1 : Int32) (0 : Int32) (0 : Int32) (0 : Int32) (0 : Int32))), .unset, .unset, .unset] [(.int (1 : Int32))])) _
      refine XS.iconst X153.here hx rfl (hb hby at_90) ?_
      show Steps p.tables e below (T153.setTop (mkF m 91 #[.val (.int ps), .val (.int pb), .val (.int pe), .val (.int (1 : Int32)), .val (.ref b141), .val (.int (own_cnt (1 : Int32) (0 : Int32) (0 : Int32) (0 : Int32) (0 : Int32))), .unset, .unset, .unset] [(.int (3 : Int32)), (.int (1 : Int32))])) _
      refine XS.icmpYes X153.here hx rfl (pc0 := 91) (pc' := 112) rfl (hb hby at_91) rfl (flt (by decide : ¬ ((3 : Int32) < (1 : Int32)))).2.2.2 (by decide) (by decide) ?_
      show Steps p.tables e below (T153.setTop (mkF m 112 #[.val (.int ps), .val (.int pb), .val (.int pe), .val (.int (1 : Int32)), .val (.ref b141), .val (.int (own_cnt (1 : Int32) (0 : Int32) (0 : Int32) (0 : Int32) (0 : Int32))), .unset, .unset, .unset] [])) _
      refine XS.iloadN X153.here hx rfl (hb hby at_112) rfl ?_
      show Steps p.tables e below (T153.setTop (mkF m 113 #[.val (.int ps), .val (.int pb), .val (.int pe), .val (.int (1 : Int32)), .val (.ref b141), .val (.int (own_cnt (1 : Int32) (0 : Int32) (0 : Int32) (0 : Int32) (0 : Int32))), .unset, .unset, .unset] [(.int pb)])) _
      refine XS.iconst X153.here hx rfl (hb hby at_113) ?_
      show Steps p.tables e below (T153.setTop (mkF m 114 #[.val (.int ps), .val (.int pb), .val (.int pe), .val (.int (1 : Int32)), .val (.ref b141), .val (.int (own_cnt (1 : Int32) (0 : Int32) (0 : Int32) (0 : Int32) (0 : Int32))), .unset, .unset, .unset] [(.int (1 : Int32)), (.int pb)])) _
      refine XS.iloadN X153.here hx rfl (hb hby at_114) rfl ?_
      show Steps p.tables e below (T153.setTop (mkF m 115 #[.val (.int ps), .val (.int pb), .val (.int pe), .val (.int (1 : Int32)), .val (.ref b141), .val (.int (own_cnt (1 : Int32) (0 : Int32) (0 : Int32) (0 : Int32) (0 : Int32))), .unset, .unset, .unset] [(.int (1 : Int32)), (.int (1 : Int32)), (.int pb)])) _
      refine XS.ishl X153.here hx rfl (hb hby at_115) rfl ?_
      show Steps p.tables e below (T153.setTop (mkF m 116 #[.val (.int ps), .val (.int pb), .val (.int pe), .val (.int (1 : Int32)), .val (.ref b141), .val (.int (own_cnt (1 : Int32) (0 : Int32) (0 : Int32) (0 : Int32) (0 : Int32))), .unset, .unset, .unset] [(.int ((1 : Int32) <<< ((1 : Int32) &&& 31))), (.int pb)])) _
      refine XS.iconst X153.here hx rfl (hb hby at_116) ?_
      show Steps p.tables e below (T153.setTop (mkF m 117 #[.val (.int ps), .val (.int pb), .val (.int pe), .val (.int (1 : Int32)), .val (.ref b141), .val (.int (own_cnt (1 : Int32) (0 : Int32) (0 : Int32) (0 : Int32) (0 : Int32))), .unset, .unset, .unset] [(.int (1 : Int32)), (.int ((1 : Int32) <<< ((1 : Int32) &&& 31))), (.int pb)])) _
      refine XS.isub X153.here hx rfl (hb hby at_117) rfl ?_
      show Steps p.tables e below (T153.setTop (mkF m 118 #[.val (.int ps), .val (.int pb), .val (.int pe), .val (.int (1 : Int32)), .val (.ref b141), .val (.int (own_cnt (1 : Int32) (0 : Int32) (0 : Int32) (0 : Int32) (0 : Int32))), .unset, .unset, .unset] [(.int (((1 : Int32) <<< ((1 : Int32) &&& 31)) - (1 : Int32))), (.int pb)])) _
      refine XS.iand X153.here hx rfl (hb hby at_118) rfl ?_
      show Steps p.tables e below (T153.setTop (mkF m 119 #[.val (.int ps), .val (.int pb), .val (.int pe), .val (.int (1 : Int32)), .val (.ref b141), .val (.int (own_cnt (1 : Int32) (0 : Int32) (0 : Int32) (0 : Int32) (0 : Int32))), .unset, .unset, .unset] [(.int (pb &&& (((1 : Int32) <<< ((1 : Int32) &&& 31)) - (1 : Int32))))])) _
      refine XS.istore X153.here hx rfl (hb hby at_119) rfl (l' := #[.val (.int ps), .val (.int pb), .val (.int pe), .val (.int (1 : Int32)), .val (.ref b141), .val (.int (own_cnt (1 : Int32) (0 : Int32) (0 : Int32) (0 : Int32) (0 : Int32))), .val (.int (pb &&& (((1 : Int32) <<< ((1 : Int32) &&& 31)) - (1 : Int32)))), .unset, .unset]) rfl ?_
      show Steps p.tables e below (T153.setTop (mkF m 121 #[.val (.int ps), .val (.int pb), .val (.int pe), .val (.int (1 : Int32)), .val (.ref b141), .val (.int (own_cnt (1 : Int32) (0 : Int32) (0 : Int32) (0 : Int32) (0 : Int32))), .val (.int (pb &&& (((1 : Int32) <<< ((1 : Int32) &&& 31)) - (1 : Int32)))), .unset, .unset] [])) _
      refine XS.iloadN X153.here hx rfl (hb hby at_121) rfl ?_
      show Steps p.tables e below (T153.setTop (mkF m 122 #[.val (.int ps), .val (.int pb), .val (.int pe), .val (.int (1 : Int32)), .val (.ref b141), .val (.int (own_cnt (1 : Int32) (0 : Int32) (0 : Int32) (0 : Int32) (0 : Int32))), .val (.int (pb &&& (((1 : Int32) <<< ((1 : Int32) &&& 31)) - (1 : Int32)))), .unset, .unset] [(.int (1 : Int32))])) _
      refine XS.ifNo X153.here hx rfl (hb hby at_122) rfl ((if0 _ _).trans (tlt (by decide : ((0 : Int32) < (1 : Int32)))).2.2.2) ?_
      show Steps p.tables e below (T153.setTop (mkF m 125 #[.val (.int ps), .val (.int pb), .val (.int pe), .val (.int (1 : Int32)), .val (.ref b141), .val (.int (own_cnt (1 : Int32) (0 : Int32) (0 : Int32) (0 : Int32) (0 : Int32))), .val (.int (pb &&& (((1 : Int32) <<< ((1 : Int32) &&& 31)) - (1 : Int32)))), .unset, .unset] [])) _
      refine XS.iloadN X153.here hx rfl (hb hby at_125) rfl ?_
      show Steps p.tables e below (T153.setTop (mkF m 126 #[.val (.int ps), .val (.int pb), .val (.int pe), .val (.int (1 : Int32)), .val (.ref b141), .val (.int (own_cnt (1 : Int32) (0 : Int32) (0 : Int32) (0 : Int32) (0 : Int32))), .val (.int (pb &&& (((1 : Int32) <<< ((1 : Int32) &&& 31)) - (1 : Int32)))), .unset, .unset] [(.int pe)])) _
      refine XS.iconst X153.here hx rfl (hb hby at_126) ?_
      show Steps p.tables e below (T153.setTop (mkF m 127 #[.val (.int ps), .val (.int pb), .val (.int pe), .val (.int (1 : Int32)), .val (.ref b141), .val (.int (own_cnt (1 : Int32) (0 : Int32) (0 : Int32) (0 : Int32) (0 : Int32))), .val (.int (pb &&& (((1 : Int32) <<< ((1 : Int32) &&& 31)) - (1 : Int32)))), .unset, .unset] [(.int (3 : Int32)), (.int pe)])) _
      refine XS.iand X153.here hx rfl (hb hby at_127) rfl ?_
      show Steps p.tables e below (T153.setTop (mkF m 128 #[.val (.int ps), .val (.int pb), .val (.int pe), .val (.int (1 : Int32)), .val (.ref b141), .val (.int (own_cnt (1 : Int32) (0 : Int32) (0 : Int32) (0 : Int32) (0 : Int32))), .val (.int (pb &&& (((1 : Int32) <<< ((1 : Int32) &&& 31)) - (1 : Int32)))), .unset, .unset] [(.int (pe &&& (3 : Int32)))])) _
      refine XS.iloadN X153.here hx rfl (hb hby at_128) rfl ?_
      show Steps p.tables e below (T153.setTop (mkF m 129 #[.val (.int ps), .val (.int pb), .val (.int pe), .val (.int (1 : Int32)), .val (.ref b141), .val (.int (own_cnt (1 : Int32) (0 : Int32) (0 : Int32) (0 : Int32) (0 : Int32))), .val (.int (pb &&& (((1 : Int32) <<< ((1 : Int32) &&& 31)) - (1 : Int32)))), .unset, .unset] [(.int (1 : Int32)), (.int (pe &&& (3 : Int32)))])) _
      refine iremM X153 hx rfl (hb hby at_129) rfl (by decide) ?_
      show Steps p.tables e below (T153.setTop (mkF m 130 #[.val (.int ps), .val (.int pb), .val (.int pe), .val (.int (1 : Int32)), .val (.ref b141), .val (.int (own_cnt (1 : Int32) (0 : Int32) (0 : Int32) (0 : Int32) (0 : Int32))), .val (.int (pb &&& (((1 : Int32) <<< ((1 : Int32) &&& 31)) - (1 : Int32)))), .unset, .unset] [(.int ((pe &&& (3 : Int32)) % (1 : Int32)))])) _
      refine XS.istore X153.here hx rfl (hb hby at_130) rfl (l' := #[.val (.int ps), .val (.int pb), .val (.int pe), .val (.int (1 : Int32)), .val (.ref b141), .val (.int (own_cnt (1 : Int32) (0 : Int32) (0 : Int32) (0 : Int32) (0 : Int32))), .val (.int (pb &&& (((1 : Int32) <<< ((1 : Int32) &&& 31)) - (1 : Int32)))), .val (.int ((pe &&& (3 : Int32)) % (1 : Int32))), .unset]) rfl ?_
      exact k
    obtain ⟨vz, hv163, pre162⟩ : ∃ (vz : Int32), (vz = 0 ∨ vz = 1) ∧ ∀ t, Steps p.tables e below (T153.setTop (mkF m 143 #[.val (.int ps), .val (.int pb), .val (.int pe), .val (.int (1 : Int32)), .val (.ref b141), .val (.int (own_cnt (1 : Int32) (0 : Int32) (0 : Int32) (0 : Int32) (0 : Int32))), .val (.int (pb &&& (((1 : Int32) <<< ((1 : Int32) &&& 31)) - (1 : Int32)))), .val (.int ((pe &&& (3 : Int32)) % (1 : Int32))), .unset] [(.int vz)])) t → Steps p.tables e below G0 t := by
      have pre157 : ∀ t, Steps p.tables e below (T153.setTop (mkF m 135 #[.val (.int ps), .val (.int pb), .val (.int pe), .val (.int (1 : Int32)), .val (.ref b141), .val (.int (own_cnt (1 : Int32) (0 : Int32) (0 : Int32) (0 : Int32) (0 : Int32))), .val (.int (pb &&& (((1 : Int32) <<< ((1 : Int32) &&& 31)) - (1 : Int32)))), .val (.int ((pe &&& (3 : Int32)) % (1 : Int32))), .unset] [(.int (pe &&& (4 : Int32)))])) t → Steps p.tables e below G0 t := by
        intro t k
        refine pre156 t ?_
        show Steps p.tables e below (T153.setTop (mkF m 132 #[.val (.int ps), .val (.int pb), .val (.int pe), .val (.int (1 : Int32)), .val (.ref b141), .val (.int (own_cnt (1 : Int32) (0 : Int32) (0 : Int32) (0 : Int32) (0 : Int32))), .val (.int (pb &&& (((1 : Int32) <<< ((1 : Int32) &&& 31)) - (1 : Int32)))), .val (.int ((pe &&& (3 : Int32)) % (1 : Int32))), .unset] [])) _
        refine XS.iloadN X153.here hx rfl (hb hby at_132) rfl ?_
        show Steps p.tables e below (T153.setTop (mkF m 133 #[.val (.int ps), .val (.int pb), .val (.int pe), .val (.int (1 : Int32)), .val (.ref b141), .val (.int (own_cnt (1 : Int32) (0 : Int32) (0 : Int32) (0 : Int32) (0 : Int32))), .val (.int (pb &&& (((1 : Int32) <<< ((1 : Int32) &&& 31)) - (1 : Int32)))), .val (.int ((pe &&& (3 : Int32)) % (1 : Int32))), .unset] [(.int pe)])) _
        refine XS.iconst X153.here hx rfl (hb hby at_133) ?_
        show Steps p.tables e below (T153.setTop (mkF m 134 #[.val (.int ps), .val (.int pb), .val (.int pe), .val (.int (1 : Int32)), .val (.ref b141), .val (.int (own_cnt (1 : Int32) (0 : Int32) (0 : Int32) (0 : Int32) (0 : Int32))), .val (.int (pb &&& (((1 : Int32) <<< ((1 : Int32) &&& 31)) - (1 : Int32)))), .val (.int ((pe &&& (3 : Int32)) % (1 : Int32))), .unset] [(.int (4 : Int32)), (.int pe)])) _
        refine XS.iand X153.here hx rfl (hb hby at_134) rfl ?_
        exact k
      by_cases hc135_158 : (pe &&& (4 : Int32)) = (0 : Int32)
      · have pre159 : ∀ t, Steps p.tables e below (T153.setTop (mkF m 143 #[.val (.int ps), .val (.int pb), .val (.int pe), .val (.int (1 : Int32)), .val (.ref b141), .val (.int (own_cnt (1 : Int32) (0 : Int32) (0 : Int32) (0 : Int32) (0 : Int32))), .val (.int (pb &&& (((1 : Int32) <<< ((1 : Int32) &&& 31)) - (1 : Int32)))), .val (.int ((pe &&& (3 : Int32)) % (1 : Int32))), .unset] [(.int (0 : Int32))])) t → Steps p.tables e below G0 t := by
          intro t k
          refine pre157 t ?_
          show Steps p.tables e below (T153.setTop (mkF m 135 #[.val (.int ps), .val (.int pb), .val (.int pe), .val (.int (1 : Int32)), .val (.ref b141), .val (.int (own_cnt (1 : Int32) (0 : Int32) (0 : Int32) (0 : Int32) (0 : Int32))), .val (.int (pb &&& (((1 : Int32) <<< ((1 : Int32) &&& 31)) - (1 : Int32)))), .val (.int ((pe &&& (3 : Int32)) % (1 : Int32))), .unset] [(.int (pe &&& (4 : Int32)))])) _
          refine XS.ifYes X153.here hx rfl (pc0 := 135) (pc' := 142) rfl (hb hby at_135) rfl ((if0 _ _).trans (teq hc135_158).1) (by decide) (by decide) ?_
          show Steps p.tables e below (T153.setTop (mkF m 142 #[.val (.int ps), .val (.int pb), .val (.int pe), .val (.int (1 : Int32)), .val (.ref b141), .val (.int (own_cnt (1 : Int32) (0 : Int32) (0 : Int32) (0 : Int32) (0 : Int32))), .val (.int (pb &&& (((1 : Int32) <<< ((1 : Int32) &&& 31)) - (1 : Int32)))), .val (.int ((pe &&& (3 : Int32)) % (1 : Int32))), .unset] [])) _
          refine XS.iconst X153.here hx rfl (hb hby at_142) ?_
          exact k
        exact ⟨(0 : Int32), (by simp), pre159⟩
      · have pre160 : ∀ t, Steps p.tables e below (T153.setTop (mkF m 143 #[.val (.int ps), .val (.int pb), .val (.int pe), .val (.int (1 : Int32)), .val (.ref b141), .val (.int (own_cnt (1 : Int32) (0 : Int32) (0 : Int32) (0 : Int32) (0 : Int32))), .val (.int (pb &&& (((1 : Int32) <<< ((1 : Int32) &&& 31)) - (1 : Int32)))), .val (.int ((pe &&& (3 : Int32)) % (1 : Int32))), .unset] [(.int (1 : Int32))])) t → Steps p.tables e below G0 t := by
          intro t k
          refine pre157 t ?_
          show Steps p.tables e below (T153.setTop (mkF m 135 #[.val (.int ps), .val (.int pb), .val (.int pe), .val (.int (1 : Int32)), .val (.ref b141), .val (.int (own_cnt (1 : Int32) (0 : Int32) (0 : Int32) (0 : Int32) (0 : Int32))), .val (.int (pb &&& (((1 : Int32) <<< ((1 : Int32) &&& 31)) - (1 : Int32)))), .val (.int ((pe &&& (3 : Int32)) % (1 : Int32))), .unset] [(.int (pe &&& (4 : Int32)))])) _
          refine XS.ifNo X153.here hx rfl (hb hby at_135) rfl ((if0 _ _).trans (feq hc135_158).1) ?_
          show Steps p.tables e below (T153.setTop (mkF m 138 #[.val (.int ps), .val (.int pb), .val (.int pe), .val (.int (1 : Int32)), .val (.ref b141), .val (.int (own_cnt (1 : Int32) (0 : Int32) (0 : Int32) (0 : Int32) (0 : Int32))), .val (.int (pb &&& (((1 : Int32) <<< ((1 : Int32) &&& 31)) - (1 : Int32)))), .val (.int ((pe &&& (3 : Int32)) % (1 : Int32))), .unset] [])) _
          refine XS.iconst X153.here hx rfl (hb hby at_138) ?_
          show Steps p.tables e below (T153.setTop (mkF m 139 #[.val (.int ps), .val (.int pb), .val (.int pe), .val (.int (1 : Int32)), .val (.ref b141), .val (.int (own_cnt (1 : Int32) (0 : Int32) (0 : Int32) (0 : Int32) (0 : Int32))), .val (.int (pb &&& (((1 : Int32) <<< ((1 : Int32) &&& 31)) - (1 : Int32)))), .val (.int ((pe &&& (3 : Int32)) % (1 : Int32))), .unset] [(.int (1 : Int32))])) _
          refine XS.goto X153.here hx rfl (pc0 := 139) (pc' := 143) rfl (hb hby at_139) (by decide) (by decide) ?_
          exact k
        exact ⟨(1 : Int32), (by simp), pre160⟩
    obtain ⟨Tm169, hm169, lm169, Xm169, em169, Nm169, Zm169, Km169, f170, f171, f172, hv174, pre173⟩ : ∃ (Tm169 : State) (hm169 : Heap) (lm169 : List Loc), Stand p l e room_1 s m #[(.int ps), (.int pb), (.int pe)] below meth c Tm169 lm169 2 5 ∧ Tm169.heap = hm169 ∧ Fr n0 lm169 ∧ n0 ≤ hm169.size ∧ Keep h0 hm169 [] ∧ Exa Z hm169 b141 "com/example/tresse/tresse/rwlock/Flags" ∧ Fld Z hm169 b141 "com/example/tresse/tresse/rwlock/Flags" "values" "[Z" (.ref rar_143) ∧ Arv Z hm169 rar_143 rkk_143 .boolean (1 : Int32) [(.int (nar .boolean vz)), (.int (0 : Int32)), (.int (0 : Int32)), (.int (0 : Int32))] (.int (0 : Int32)) ∧ (True) ∧ ∀ t, Steps p.tables e below (Tm169.setTop (mkF m 154 #[.val (.int ps), .val (.int pb), .val (.int pe), .val (.int (1 : Int32)), .val (.ref b141), .val (.int (own_cnt (1 : Int32) (0 : Int32) (0 : Int32) (0 : Int32) (0 : Int32))), .val (.int (pb &&& (((1 : Int32) <<< ((1 : Int32) &&& 31)) - (1 : Int32)))), .val (.int (0 : Int32)), .val (.int vz)] [])) t → Steps p.tables e below G0 t := by
      rcases own_k1 pe with hq164
      · rw [hq164] at pre162
        obtain ⟨cq165, kq165, q165a, q165b, q165c⟩ := isOf hZ rfl f154
        obtain ⟨_, _, ⟨T165, L165, k165, n165⟩, -, X165, ⟨Lc165, hQ165, l165, y165, z165⟩, st165⟩ := X153.virtualBack hx (y := (⟨"com/example/tresse/tresse/rwlock/Flags", "set", "(IZ)V"⟩ : MethodName)) (z := (⟨"com/example/tresse/tresse/rwlock/Flags", "set", "(IZ)V"⟩ : MethodName)) hown (mvT hZ (hw _ (List.mem_of_getElem? (i := 22) rfl))) (mvT hZ (hw _ (List.mem_of_getElem? (i := 23) rfl))) (notFace_of_selects (args := #[]) (mvT hZ (hw _ (List.mem_of_getElem? (i := 25) rfl)))) (mvT hZ (hw _ (List.mem_of_getElem? (i := 25) rfl))) (mvT hZ (hw _ (List.mem_of_getElem? (i := 24) rfl))) (by decide) (backOf (W := 0) (rm5j0 l Z a0 hw [] b141 vz rar_143 rkk_143 (1 : Int32) (nar .boolean v0) (0 : Int32) (0 : Int32) (0 : Int32) T153.heap n0 Zs153 f155 p153_0 g_rar_143 ne_b141_rar_143 (by decide)) hZ (hw _ (List.mem_of_getElem? (i := 26) rfl)) (hw _ (List.mem_of_getElem? (i := 3) rfl)) (by decide) (by decide)) q165a q165c (g := (mkF m 151 #[.val (.int ps), .val (.int pb), .val (.int pe), .val (.int (1 : Int32)), .val (.ref b141), .val (.int (own_cnt (1 : Int32) (0 : Int32) (0 : Int32) (0 : Int32) (0 : Int32))), .val (.int (pb &&& (((1 : Int32) <<< ((1 : Int32) &&& 31)) - (1 : Int32)))), .val (.int (0 : Int32)), .val (.int vz)] [(.int vz), (.int (0 : Int32)), (.ref b141)])) rfl (by rw [hml]; rfl) (Steps.refl _) (argsL := [(.int (0 : Int32)), (.int vz)]) (rest := []) (lenOf own_pd52 rfl) rfl (by show 2 * 0 + _ ≤ _; exact Nat.le_of_eq rfl) (hb hby at_151) (fun _ _ => ⟨rfl, rfl, (by decide : 2 + 0 ≤ _), (by decide : 5 + 0 ≤ _)⟩)
        dsimp only [Pt.U, Pt.locs, Pt.cells, Pt.slots] at X165 l165 y165 z165 st165 hQ165
        subst l165 y165 z165
        obtain ⟨rfl, Nq165, K165, p165_0⟩ := hQ165
        have N165 := Fr.app N153 Nq165
        have Zs165 : n0 ≤ T165.heap.size := Nat.le_trans Zs153 K165.1
        have KK165 : Keep h0 T165.heap [] := KK153.trans K165 (allS (Or.inr sz_rar_143) all0)
        have f166 := f154.keep K165
        have f167 := f155.keep K165 (ninS ne_b141_rar_143 nin0)
        have pre168 : ∀ t, Steps p.tables e below (T165.setTop (mkF m 154 #[.val (.int ps), .val (.int pb), .val (.int pe), .val (.int (1 : Int32)), .val (.ref b141), .val (.int (own_cnt (1 : Int32) (0 : Int32) (0 : Int32) (0 : Int32) (0 : Int32))), .val (.int (pb &&& (((1 : Int32) <<< ((1 : Int32) &&& 31)) - (1 : Int32)))), .val (.int (0 : Int32)), .val (.int vz)] [])) t → Steps p.tables e below G0 t := by
          intro t k
          refine pre162 t ?_
          show Steps p.tables e below (T153.setTop (mkF m 143 #[.val (.int ps), .val (.int pb), .val (.int pe), .val (.int (1 : Int32)), .val (.ref b141), .val (.int (own_cnt (1 : Int32) (0 : Int32) (0 : Int32) (0 : Int32) (0 : Int32))), .val (.int (pb &&& (((1 : Int32) <<< ((1 : Int32) &&& 31)) - (1 : Int32)))), .val (.int (0 : Int32)), .unset] [(.int vz)])) _
          refine XS.istore X153.here hx rfl (hb hby at_143) rfl (l' := #[.val (.int ps), .val (.int pb), .val (.int pe), .val (.int (1 : Int32)), .val (.ref b141), .val (.int (own_cnt (1 : Int32) (0 : Int32) (0 : Int32) (0 : Int32) (0 : Int32))), .val (.int (pb &&& (((1 : Int32) <<< ((1 : Int32) &&& 31)) - (1 : Int32)))), .val (.int (0 : Int32)), .val (.int vz)]) rfl ?_
          show Steps p.tables e below (T153.setTop (mkF m 145 #[.val (.int ps), .val (.int pb), .val (.int pe), .val (.int (1 : Int32)), .val (.ref b141), .val (.int (own_cnt (1 : Int32) (0 : Int32) (0 : Int32) (0 : Int32) (0 : Int32))), .val (.int (pb &&& (((1 : Int32) <<< ((1 : Int32) &&& 31)) - (1 : Int32)))), .val (.int (0 : Int32)), .val (.int vz)] [])) _
          refine XS.aload X153.here hx rfl (hb hby at_145) rfl rfl ?_
          show Steps p.tables e below (T153.setTop (mkF m 147 #[.val (.int ps), .val (.int pb), .val (.int pe), .val (.int (1 : Int32)), .val (.ref b141), .val (.int (own_cnt (1 : Int32) (0 : Int32) (0 : Int32) (0 : Int32) (0 : Int32))), .val (.int (pb &&& (((1 : Int32) <<< ((1 : Int32) &&& 31)) - (1 : Int32)))), .val (.int (0 : Int32)), .val (.int vz)] [(.ref b141)])) _
          refine XS.iload X153.here hx rfl (hb hby at_147) rfl ?_
          show Steps p.tables e below (T153.setTop (mkF m 149 #[.val (.int ps), .val (.int pb), .val (.int pe), .val (.int (1 : Int32)), .val (.ref b141), .val (.int (own_cnt (1 : Int32) (0 : Int32) (0 : Int32) (0 : Int32) (0 : Int32))), .val (.int (pb &&& (((1 : Int32) <<< ((1 : Int32) &&& 31)) - (1 : Int32)))), .val (.int (0 : Int32)), .val (.int vz)] [(.int (0 : Int32)), (.ref b141)])) _
          refine XS.iload X153.here hx rfl (hb hby at_149) rfl ?_
          show Steps p.tables e below (T153.setTop (mkF m 151 #[.val (.int ps), .val (.int pb), .val (.int pe), .val (.int (1 : Int32)), .val (.ref b141), .val (.int (own_cnt (1 : Int32) (0 : Int32) (0 : Int32) (0 : Int32) (0 : Int32))), .val (.int (pb &&& (((1 : Int32) <<< ((1 : Int32) &&& 31)) - (1 : Int32)))), .val (.int (0 : Int32)), .val (.int vz)] [(.int vz), (.int (0 : Int32)), (.ref b141)])) _
          refine st165.trans ?_
          exact k
        exact ⟨T165, T165.heap, _, X165, rfl, N165, Zs165, KK165, f166, f167, p165_0, (by trivial), pre168⟩
    obtain ⟨bb, hv181, pre180⟩ : ∃ (bb : Int32), (bb = if vz = 0 then ((pb &&& (((1 : Int32) <<< ((1 : Int32) &&& 31)) - (1 : Int32))) &&& (((1 : Int32) <<< ((0 : Int32) &&& 31)) ^^^ (-1 : Int32))) else ((pb &&& (((1 : Int32) <<< ((1 : Int32) &&& 31)) - (1 : Int32))) ||| ((1 : Int32) <<< ((0 : Int32) &&& 31)))) ∧ ∀ t, Steps p.tables e below (Tm169.setTop (mkF m 182 #[.val (.int ps), .val (.int pb), .val (.int pe), .val (.int (1 : Int32)), .val (.ref b141), .val (.int (own_cnt (1 : Int32) (0 : Int32) (0 : Int32) (0 : Int32) (0 : Int32))), .val (.int bb), .val (.int (0 : Int32)), .val (.int vz)] [])) t → Steps p.tables e below G0 t := by
      have pre175 : ∀ t, Steps p.tables e below (Tm169.setTop (mkF m 156 #[.val (.int ps), .val (.int pb), .val (.int pe), .val (.int (1 : Int32)), .val (.ref b141), .val (.int (own_cnt (1 : Int32) (0 : Int32) (0 : Int32) (0 : Int32) (0 : Int32))), .val (.int (pb &&& (((1 : Int32) <<< ((1 : Int32) &&& 31)) - (1 : Int32)))), .val (.int (0 : Int32)), .val (.int vz)] [(.int vz)])) t → Steps p.tables e below G0 t := by
        intro t k
        refine pre173 t ?_
        show Steps p.tables e below (Tm169.setTop (mkF m 154 #[.val (.int ps), .val (.int pb), .val (.int pe), .val (.int (1 : Int32)), .val (.ref b141), .val (.int (own_cnt (1 : Int32) (0 : Int32) (0 : Int32) (0 : Int32) (0 : Int32))), .val (.int (pb &&& (((1 : Int32) <<< ((1 : Int32) &&& 31)) - (1 : Int32)))), .val (.int (0 : Int32)), .val (.int vz)] [])) _
        refine XS.iload Xm169.here hx rfl (hb hby at_154) rfl ?_
        exact k
      by_cases hc156_176 : vz = (0 : Int32)
      · have pre177 : ∀ t, Steps p.tables e below (Tm169.setTop (mkF m 182 #[.val (.int ps), .val (.int pb), .val (.int pe), .val (.int (1 : Int32)), .val (.ref b141), .val (.int (own_cnt (1 : Int32) (0 : Int32) (0 : Int32) (0 : Int32) (0 : Int32))), .val (.int ((pb &&& (((1 : Int32) <<< ((1 : Int32) &&& 31)) - (1 : Int32))) &&& (((1 : Int32) <<< ((0 : Int32) &&& 31)) ^^^ (-1 : Int32)))), .val (.int (0 : Int32)), .val (.int vz)] [])) t → Steps p.tables e below G0 t := by
          intro t k
          refine pre175 t ?_
          show Steps p.tables e below (Tm169.setTop (mkF m 156 #[.val (.int ps), .val (.int pb), .val (.int pe), .val (.int (1 : Int32)), .val (.ref b141), .val (.int (own_cnt (1 : Int32) (0 : Int32) (0 : Int32) (0 : Int32) (0 : Int32))), .val (.int (pb &&& (((1 : Int32) <<< ((1 : Int32) &&& 31)) - (1 : Int32)))), .val (.int (0 : Int32)), .val (.int vz)] [(.int vz)])) _
          refine XS.ifYes Xm169.here hx rfl (pc0 := 156) (pc' := 171) rfl (hb hby at_156) rfl ((if0 _ _).trans (teq hc156_176).1) (by decide) (by decide) ?_
          show Steps p.tables e below (Tm169.setTop (mkF m 171 #[.val (.int ps), .val (.int pb), .val (.int pe), .val (.int (1 : Int32)), .val (.ref b141), .val (.int (own_cnt (1 : Int32) (0 : Int32) (0 : Int32) (0 : Int32) (0 : Int32))), .val (.int (pb &&& (((1 : Int32) <<< ((1 : Int32) &&& 31)) - (1 : Int32)))), .val (.int (0 : Int32)), .val (.int vz)] [])) _
          refine XS.iload Xm169.here hx rfl (hb hby at_171) rfl ?_
          show Steps p.tables e below (Tm169.setTop (mkF m 173 #[.val (.int ps), .val (.int pb), .val (.int pe), .val (.int (1 : Int32)), .val (.ref b141), .val (.int (own_cnt (1 : Int32) (0 : Int32) (0 : Int32) (0 : Int32) (0 : Int32))), .val (.int (pb &&& (((1 : Int32) <<< ((1 : Int32) &&& 31)) - (1 : Int32)))), .val (.int (0 : Int32)), .val (.int vz)] [(.int (pb &&& (((1 : Int32) <<< ((1 : Int32) &&& 31)) - (1 : Int32))))])) _
          refine XS.iconst Xm169.here hx rfl (hb hby at_173) ?_
          show Steps p.tables e below (Tm169.setTop (mkF m 174 #[.val (.int ps), .val (.int pb), .val (.int pe), .val (.int (1 : Int32)), .val (.ref b141), .val (.int (own_cnt (1 : Int32) (0 : Int32) (0 : Int32) (0 : Int32) (0 : Int32))), .val (.int (pb &&& (((1 : Int32) <<< ((1 : Int32) &&& 31)) - (1 : Int32)))), .val (.int (0 : Int32)), .val (.int vz)] [(.int (1 : Int32)), (.int (pb &&& (((1 : Int32) <<< ((1 : Int32) &&& 31)) - (1 : Int32))))])) _
          refine XS.iload Xm169.here hx rfl (hb hby at_174) rfl ?_
          show Steps p.tables e below (Tm169.setTop (mkF m 176 #[.val (.int ps), .val (.int pb), .val (.int pe), .val (.int (1 : Int32)), .val (.ref b141), .val (.int (own_cnt (1 : Int32) (0 : Int32) (0 : Int32) (0 : Int32) (0 : Int32))), .val (.int (pb &&& (((1 : Int32) <<< ((1 : Int32) &&& 31)) - (1 : Int32)))), .val (.int (0 : Int32)), .val (.int vz)] [(.int (0 : Int32)), (.int (1 : Int32)), (.int (pb &&& (((1 : Int32) <<< ((1 : Int32) &&& 31)) - (1 : Int32))))])) _
          refine XS.ishl Xm169.here hx rfl (hb hby at_176) rfl ?_
          show Steps p.tables e below (Tm169.setTop (mkF m 177 #[.val (.int ps), .val (.int pb), .val (.int pe), .val (.int (1 : Int32)), .val (.ref b141), .val (.int (own_cnt (1 : Int32) (0 : Int32) (0 : Int32) (0 : Int32) (0 : Int32))), .val (.int (pb &&& (((1 : Int32) <<< ((1 : Int32) &&& 31)) - (1 : Int32)))), .val (.int (0 : Int32)), .val (.int vz)] [(.int ((1 : Int32) <<< ((0 : Int32) &&& 31))), (.int (pb &&& (((1 : Int32) <<< ((1 : Int32) &&& 31)) - (1 : Int32))))])) _
          refine XS.iconst Xm169.here hx rfl (hb hby at_177) ?_
          show Steps p.tables e below (Tm169.setTop (mkF m 178 #[.val (.int ps), .val (.int pb), .val (.int pe), .val (.int (1 : Int32)), .val (.ref b141), .val (.int (own_cnt (1 : Int32) (0 : Int32) (0 : Int32) (0 : Int32) (0 : Int32))), .val (.int (pb &&& (((1 : Int32) <<< ((1 : Int32) &&& 31)) - (1 : Int32)))), .val (.int (0 : Int32)), .val (.int vz)] [(.int (-1 : Int32)), (.int ((1 : Int32) <<< ((0 : Int32) &&& 31))), (.int (pb &&& (((1 : Int32) <<< ((1 : Int32) &&& 31)) - (1 : Int32))))])) _
          refine XS.ixor Xm169.here hx rfl (hb hby at_178) rfl ?_
          show Steps p.tables e below (Tm169.setTop (mkF m 179 #[.val (.int ps), .val (.int pb), .val (.int pe), .val (.int (1 : Int32)), .val (.ref b141), .val (.int (own_cnt (1 : Int32) (0 : Int32) (0 : Int32) (0 : Int32) (0 : Int32))), .val (.int (pb &&& (((1 : Int32) <<< ((1 : Int32) &&& 31)) - (1 : Int32)))), .val (.int (0 : Int32)), .val (.int vz)] [(.int (((1 : Int32) <<< ((0 : Int32) &&& 31)) ^^^ (-1 : Int32))), (.int (pb &&& (((1 : Int32) <<< ((1 : Int32) &&& 31)) - (1 : Int32))))])) _
          refine XS.iand Xm169.here hx rfl (hb hby at_179) rfl ?_
          show Steps p.tables e below (Tm169.setTop (mkF m 180 #[.val (.int ps), .val (.int pb), .val (.int pe), .val (.int (1 : Int32)), .val (.ref b141), .val (.int (own_cnt (1 : Int32) (0 : Int32) (0 : Int32) (0 : Int32) (0 : Int32))), .val (.int (pb &&& (((1 : Int32) <<< ((1 : Int32) &&& 31)) - (1 : Int32)))), .val (.int (0 : Int32)), .val (.int vz)] [(.int ((pb &&& (((1 : Int32) <<< ((1 : Int32) &&& 31)) - (1 : Int32))) &&& (((1 : Int32) <<< ((0 : Int32) &&& 31)) ^^^ (-1 : Int32))))])) _
          refine XS.istore Xm169.here hx rfl (hb hby at_180) rfl (l' := #[.val (.int ps), .val (.int pb), .val (.int pe), .val (.int (1 : Int32)), .val (.ref b141), .val (.int (own_cnt (1 : Int32) (0 : Int32) (0 : Int32) (0 : Int32) (0 : Int32))), .val (.int ((pb &&& (((1 : Int32) <<< ((1 : Int32) &&& 31)) - (1 : Int32))) &&& (((1 : Int32) <<< ((0 : Int32) &&& 31)) ^^^ (-1 : Int32)))), .val (.int (0 : Int32)), .val (.int vz)]) rfl ?_
          exact k
        exact ⟨((pb &&& (((1 : Int32) <<< ((1 : Int32) &&& 31)) - (1 : Int32))) &&& (((1 : Int32) <<< ((0 : Int32) &&& 31)) ^^^ (-1 : Int32))), (by rw [if_pos hc156_176]), pre177⟩
      · have pre178 : ∀ t, Steps p.tables e below (Tm169.setTop (mkF m 182 #[.val (.int ps), .val (.int pb), .val (.int pe), .val (.int (1 : Int32)), .val (.ref b141), .val (.int (own_cnt (1 : Int32) (0 : Int32) (0 : Int32) (0 : Int32) (0 : Int32))), .val (.int ((pb &&& (((1 : Int32) <<< ((1 : Int32) &&& 31)) - (1 : Int32))) ||| ((1 : Int32) <<< ((0 : Int32) &&& 31)))), .val (.int (0 : Int32)), .val (.int vz)] [])) t → Steps p.tables e below G0 t := by
          intro t k
          refine pre175 t ?_
          show Steps p.tables e below (Tm169.setTop (mkF m 156 #[.val (.int ps), .val (.int pb), .val (.int pe), .val (.int (1 : Int32)), .val (.ref b141), .val (.int (own_cnt (1 : Int32) (0 : Int32) (0 : Int32) (0 : Int32) (0 : Int32))), .val (.int (pb &&& (((1 : Int32) <<< ((1 : Int32) &&& 31)) - (1 : Int32)))), .val (.int (0 : Int32)), .val (.int vz)] [(.int vz)])) _
          refine XS.ifNo Xm169.here hx rfl (hb hby at_156) rfl ((if0 _ _).trans (feq hc156_176).1) ?_
          show Steps p.tables e below (Tm169.setTop (mkF m 159 #[.val (.int ps), .val (.int pb), .val (.int pe), .val (.int (1 : Int32)), .val (.ref b141), .val (.int (own_cnt (1 : Int32) (0 : Int32) (0 : Int32) (0 : Int32) (0 : Int32))), .val (.int (pb &&& (((1 : Int32) <<< ((1 : Int32) &&& 31)) - (1 : Int32)))), .val (.int (0 : Int32)), .val (.int vz)] [])) _
          refine XS.iload Xm169.here hx rfl (hb hby at_159) rfl ?_
          show Steps p.tables e below (Tm169.setTop (mkF m 161 #[.val (.int ps), .val (.int pb), .val (.int pe), .val (.int (1 : Int32)), .val (.ref b141), .val (.int (own_cnt (1 : Int32) (0 : Int32) (0 : Int32) (0 : Int32) (0 : Int32))), .val (.int (pb &&& (((1 : Int32) <<< ((1 : Int32) &&& 31)) - (1 : Int32)))), .val (.int (0 : Int32)), .val (.int vz)] [(.int (pb &&& (((1 : Int32) <<< ((1 : Int32) &&& 31)) - (1 : Int32))))])) _
          refine XS.iconst Xm169.here hx rfl (hb hby at_161) ?_
          show Steps p.tables e below (Tm169.setTop (mkF m 162 #[.val (.int ps), .val (.int pb), .val (.int pe), .val (.int (1 : Int32)), .val (.ref b141), .val (.int (own_cnt (1 : Int32) (0 : Int32) (0 : Int32) (0 : Int32) (0 : Int32))), .val (.int (pb &&& (((1 : Int32) <<< ((1 : Int32) &&& 31)) - (1 : Int32)))), .val (.int (0 : Int32)), .val (.int vz)] [(.int (1 : Int32)), (.int (pb &&& (((1 : Int32) <<< ((1 : Int32) &&& 31)) - (1 : Int32))))])) _
          refine XS.iload Xm169.here hx rfl (hb hby at_162) rfl ?_
          show Steps p.tables e below (Tm169.setTop (mkF m 164 #[.val (.int ps), .val (.int pb), .val (.int pe), .val (.int (1 : Int32)), .val (.ref b141), .val (.int (own_cnt (1 : Int32) (0 : Int32) (0 : Int32) (0 : Int32) (0 : Int32))), .val (.int (pb &&& (((1 : Int32) <<< ((1 : Int32) &&& 31)) - (1 : Int32)))), .val (.int (0 : Int32)), .val (.int vz)] [(.int (0 : Int32)), (.int (1 : Int32)), (.int (pb &&& (((1 : Int32) <<< ((1 : Int32) &&& 31)) - (1 : Int32))))])) _
          refine XS.ishl Xm169.here hx rfl (hb hby at_164) rfl ?_
          show Steps p.tables e below (Tm169.setTop (mkF m 165 #[.val (.int ps), .val (.int pb), .val (.int pe), .val (.int (1 : Int32)), .val (.ref b141), .val (.int (own_cnt (1 : Int32) (0 : Int32) (0 : Int32) (0 : Int32) (0 : Int32))), .val (.int (pb &&& (((1 : Int32) <<< ((1 : Int32) &&& 31)) - (1 : Int32)))), .val (.int (0 : Int32)), .val (.int vz)] [(.int ((1 : Int32) <<< ((0 : Int32) &&& 31))), (.int (pb &&& (((1 : Int32) <<< ((1 : Int32) &&& 31)) - (1 : Int32))))])) _
          refine XS.ior Xm169.here hx rfl (hb hby at_165) rfl ?_
          show Steps p.tables e below (Tm169.setTop (mkF m 166 #[.val (.int ps), .val (.int pb), .val (.int pe), .val (.int (1 : Int32)), .val (.ref b141), .val (.int (own_cnt (1 : Int32) (0 : Int32) (0 : Int32) (0 : Int32) (0 : Int32))), .val (.int (pb &&& (((1 : Int32) <<< ((1 : Int32) &&& 31)) - (1 : Int32)))), .val (.int (0 : Int32)), .val (.int vz)] [(.int ((pb &&& (((1 : Int32) <<< ((1 : Int32) &&& 31)) - (1 : Int32))) ||| ((1 : Int32) <<< ((0 : Int32) &&& 31))))])) _
          refine XS.istore Xm169.here hx rfl (hb hby at_166) rfl (l' := #[.val (.int ps), .val (.int pb), .val (.int pe), .val (.int (1 : Int32)), .val (.ref b141), .val (.int (own_cnt (1 : Int32) (0 : Int32) (0 : Int32) (0 : Int32) (0 : Int32))), .val (.int ((pb &&& (((1 : Int32) <<< ((1 : Int32) &&& 31)) - (1 : Int32))) ||| ((1 : Int32) <<< ((0 : Int32) &&& 31)))), .val (.int (0 : Int32)), .val (.int vz)]) rfl ?_
          show Steps p.tables e below (Tm169.setTop (mkF m 168 #[.val (.int ps), .val (.int pb), .val (.int pe), .val (.int (1 : Int32)), .val (.ref b141), .val (.int (own_cnt (1 : Int32) (0 : Int32) (0 : Int32) (0 : Int32) (0 : Int32))), .val (.int ((pb &&& (((1 : Int32) <<< ((1 : Int32) &&& 31)) - (1 : Int32))) ||| ((1 : Int32) <<< ((0 : Int32) &&& 31)))), .val (.int (0 : Int32)), .val (.int vz)] [])) _
          refine XS.goto Xm169.here hx rfl (pc0 := 168) (pc' := 182) rfl (hb hby at_168) (by decide) (by decide) ?_
          exact k
        exact ⟨((pb &&& (((1 : Int32) <<< ((1 : Int32) &&& 31)) - (1 : Int32))) ||| ((1 : Int32) <<< ((0 : Int32) &&& 31))), (by rw [if_neg hc156_176]), pre178⟩
    obtain ⟨_, _, ⟨T182, L182, k182, n182⟩, -, X182, ⟨Lc182, hQ182, l182, y182, z182⟩, st182⟩ := Jvm.LawKit.callS Xm169 hx (y := (⟨"com/example/tresse/tresse/rwlock/FlagsCountTruePinLaw", "bit", "(II)I"⟩ : MethodName)) hown (mvT hZ (hw _ (List.mem_of_getElem? (i := 18) rfl))) (mvT hZ (hw _ (List.mem_of_getElem? (i := 19) rfl))) (mvT hZ (hw _ (List.mem_of_getElem? (i := 20) rfl))) (mvT hZ (hw _ (List.mem_of_getElem? (i := 21) rfl))) (by decide) (backOf (W := 0) (rm4 l Z a0 hw [] bb (0 : Int32)  hm169 n0 Zm169 ) hZ (hw _ (List.mem_of_getElem? (i := 21) rfl)) (hw _ (List.mem_of_getElem? (i := 20) rfl)) (by decide) (by decide)) (g := (mkF m 185 #[.val (.int ps), .val (.int pb), .val (.int pe), .val (.int (1 : Int32)), .val (.ref b141), .val (.int (own_cnt (1 : Int32) (0 : Int32) (0 : Int32) (0 : Int32) (0 : Int32))), .val (.int bb), .val (.int (0 : Int32)), .val (.int vz)] [(.int (0 : Int32)), (.int bb)])) rfl (by rw [hml]; rfl) (argsL := [(.int bb), (.int (0 : Int32))]) (rest := []) (lenOf own_pd51 rfl) rfl (by show 2 * 0 + _ ≤ _; exact Nat.le_of_eq rfl) (hb hby at_185) (fun _ _ => ⟨rfl, em169, (by decide : 2 + 0 ≤ _), (by decide : 5 + 0 ≤ _)⟩)
    dsimp only [Pt.U, Pt.locs, Pt.cells, Pt.slots] at X182 l182 y182 z182 st182 hQ182
    subst l182 y182 z182
    obtain ⟨rfl, Nq182, e182⟩ := hQ182
    have N182 := Fr.app Nm169 Nq182
    obtain ⟨_, _, ⟨T183, L183, k183, n183⟩, -, X183, ⟨Lc183, hQ183, l183, y183, z183⟩, st183⟩ := Jvm.LawKit.callS X182 hx (y := (⟨"com/example/tresse/tresse/rwlock/FlagsCountTruePinLaw", "bit", "(II)I"⟩ : MethodName)) hown (mvT hZ (hw _ (List.mem_of_getElem? (i := 18) rfl))) (mvT hZ (hw _ (List.mem_of_getElem? (i := 19) rfl))) (mvT hZ (hw _ (List.mem_of_getElem? (i := 20) rfl))) (mvT hZ (hw _ (List.mem_of_getElem? (i := 21) rfl))) (by decide) (backOf (W := 1) (rm4 l Z a0 hw [] bb (1 : Int32)  hm169 n0 Zm169 ) hZ (hw _ (List.mem_of_getElem? (i := 21) rfl)) (hw _ (List.mem_of_getElem? (i := 20) rfl)) (by decide) (by decide)) (g := (mkF m 191 #[.val (.int ps), .val (.int pb), .val (.int pe), .val (.int (1 : Int32)), .val (.ref b141), .val (.int (own_cnt (1 : Int32) (0 : Int32) (0 : Int32) (0 : Int32) (0 : Int32))), .val (.int bb), .val (.int (0 : Int32)), .val (.int vz)] [(.int (1 : Int32)), (.int bb), (.int (own_bit bb (0 : Int32)))])) rfl (by rw [hml]; rfl) (argsL := [(.int bb), (.int (1 : Int32))]) (rest := [(.int (own_bit bb (0 : Int32)))]) (lenOf own_pd51 rfl) rfl (by show 2 * 0 + _ ≤ _; exact Nat.le_of_eq rfl) (hb hby at_191) (fun _ _ => ⟨rfl, e182, (by decide : 2 + 0 ≤ _), (by decide : 5 + 0 ≤ _)⟩)
    dsimp only [Pt.U, Pt.locs, Pt.cells, Pt.slots] at X183 l183 y183 z183 st183 hQ183
    subst l183 y183 z183
    obtain ⟨rfl, Nq183, e183⟩ := hQ183
    have N183 := Fr.app N182 Nq183
    obtain ⟨_, _, ⟨T184, L184, k184, n184⟩, -, X184, ⟨Lc184, hQ184, l184, y184, z184⟩, st184⟩ := Jvm.LawKit.callS X183 hx (y := (⟨"com/example/tresse/tresse/rwlock/FlagsCountTruePinLaw", "bit", "(II)I"⟩ : MethodName)) hown (mvT hZ (hw _ (List.mem_of_getElem? (i := 18) rfl))) (mvT hZ (hw _ (List.mem_of_getElem? (i := 19) rfl))) (mvT hZ (hw _ (List.mem_of_getElem? (i := 20) rfl))) (mvT hZ (hw _ (List.mem_of_getElem? (i := 21) rfl))) (by decide) (backOf (W := 1) (rm4 l Z a0 hw [] bb (2 : Int32)  hm169 n0 Zm169 ) hZ (hw _ (List.mem_of_getElem? (i := 21) rfl)) (hw _ (List.mem_of_getElem? (i := 20) rfl)) (by decide) (by decide)) (g := (mkF m 198 #[.val (.int ps), .val (.int pb), .val (.int pe), .val (.int (1 : Int32)), .val (.ref b141), .val (.int (own_cnt (1 : Int32) (0 : Int32) (0 : Int32) (0 : Int32) (0 : Int32))), .val (.int bb), .val (.int (0 : Int32)), .val (.int vz)] [(.int (2 : Int32)), (.int bb), (.int ((own_bit bb (0 : Int32)) + (own_bit bb (1 : Int32))))])) rfl (by rw [hml]; rfl) (argsL := [(.int bb), (.int (2 : Int32))]) (rest := [(.int ((own_bit bb (0 : Int32)) + (own_bit bb (1 : Int32))))]) (lenOf own_pd51 rfl) rfl (by show 2 * 0 + _ ≤ _; exact Nat.le_of_eq rfl) (hb hby at_198) (fun _ _ => ⟨rfl, e183, (by decide : 2 + 0 ≤ _), (by decide : 5 + 0 ≤ _)⟩)
    dsimp only [Pt.U, Pt.locs, Pt.cells, Pt.slots] at X184 l184 y184 z184 st184 hQ184
    subst l184 y184 z184
    obtain ⟨rfl, Nq184, e184⟩ := hQ184
    have N184 := Fr.app N183 Nq184
    obtain ⟨_, _, ⟨T185, L185, k185, n185⟩, -, X185, ⟨Lc185, hQ185, l185, y185, z185⟩, st185⟩ := Jvm.LawKit.callS X184 hx (y := (⟨"com/example/tresse/tresse/rwlock/FlagsCountTruePinLaw", "bit", "(II)I"⟩ : MethodName)) hown (mvT hZ (hw _ (List.mem_of_getElem? (i := 18) rfl))) (mvT hZ (hw _ (List.mem_of_getElem? (i := 19) rfl))) (mvT hZ (hw _ (List.mem_of_getElem? (i := 20) rfl))) (mvT hZ (hw _ (List.mem_of_getElem? (i := 21) rfl))) (by decide) (backOf (W := 1) (rm4 l Z a0 hw [] bb (3 : Int32)  hm169 n0 Zm169 ) hZ (hw _ (List.mem_of_getElem? (i := 21) rfl)) (hw _ (List.mem_of_getElem? (i := 20) rfl)) (by decide) (by decide)) (g := (mkF m 205 #[.val (.int ps), .val (.int pb), .val (.int pe), .val (.int (1 : Int32)), .val (.ref b141), .val (.int (own_cnt (1 : Int32) (0 : Int32) (0 : Int32) (0 : Int32) (0 : Int32))), .val (.int bb), .val (.int (0 : Int32)), .val (.int vz)] [(.int (3 : Int32)), (.int bb), (.int (((own_bit bb (0 : Int32)) + (own_bit bb (1 : Int32))) + (own_bit bb (2 : Int32))))])) rfl (by rw [hml]; rfl) (argsL := [(.int bb), (.int (3 : Int32))]) (rest := [(.int (((own_bit bb (0 : Int32)) + (own_bit bb (1 : Int32))) + (own_bit bb (2 : Int32))))]) (lenOf own_pd51 rfl) rfl (by show 2 * 0 + _ ≤ _; exact Nat.le_of_eq rfl) (hb hby at_205) (fun _ _ => ⟨rfl, e184, (by decide : 2 + 0 ≤ _), (by decide : 5 + 0 ≤ _)⟩)
    dsimp only [Pt.U, Pt.locs, Pt.cells, Pt.slots] at X185 l185 y185 z185 st185 hQ185
    subst l185 y185 z185
    obtain ⟨rfl, Nq185, e185⟩ := hQ185
    have N185 := Fr.app N184 Nq185
    obtain ⟨cq186, kq186, q186a, q186b, q186c⟩ := isOf hZ e185 f170
    obtain ⟨_, _, ⟨T186, L186, k186, n186⟩, -, X186, ⟨Lc186, hQ186, l186, y186, z186⟩, st186⟩ := X185.virtualBack hx (y := (⟨"com/example/tresse/tresse/rwlock/Flags", "countTrue", "()I"⟩ : MethodName)) (z := (⟨"com/example/tresse/tresse/rwlock/Flags", "countTrue", "()I"⟩ : MethodName)) hown (mvT hZ (hw _ (List.mem_of_getElem? (i := 13) rfl))) (mvT hZ (hw _ (List.mem_of_getElem? (i := 14) rfl))) (notFace_of_selects (args := #[]) (mvT hZ (hw _ (List.mem_of_getElem? (i := 16) rfl)))) (mvT hZ (hw _ (List.mem_of_getElem? (i := 16) rfl))) (mvT hZ (hw _ (List.mem_of_getElem? (i := 15) rfl))) (by decide) (backOf (W := 0) (rm3 l Z a0 hw [] b141 rar_143 rkk_143 (1 : Int32) (nar .boolean vz) (0 : Int32) (0 : Int32) (0 : Int32) hm169 n0 Zm169 f171 f172 (by decide)) hZ (hw _ (List.mem_of_getElem? (i := 17) rfl)) (hw _ (List.mem_of_getElem? (i := 3) rfl)) (by decide) (by decide)) q186a q186c (g := (mkF m 218 #[.val (.int ps), .val (.int pb), .val (.int pe), .val (.int (1 : Int32)), .val (.ref b141), .val (.int (own_cnt (1 : Int32) (0 : Int32) (0 : Int32) (0 : Int32) (0 : Int32))), .val (.int bb), .val (.int ((((own_bit bb (0 : Int32)) + (own_bit bb (1 : Int32))) + (own_bit bb (2 : Int32))) + (own_bit bb (3 : Int32)))), .val (.int vz)] [(.ref b141)])) rfl (by rw [hml]; rfl) (Steps.refl _) (argsL := []) (rest := []) (lenOf own_pd50 rfl) rfl (by show 2 * 0 + _ ≤ _; exact Nat.le_of_eq rfl) (hb hby at_218) (fun _ _ => ⟨rfl, e185, (by decide : 2 + 0 ≤ _), (by decide : 5 + 0 ≤ _)⟩)
    dsimp only [Pt.U, Pt.locs, Pt.cells, Pt.slots] at X186 l186 y186 z186 st186 hQ186
    subst l186 y186 z186
    obtain ⟨rfl, Nq186, e186⟩ := hQ186
    have N186 := Fr.app N185 Nq186
    obtain ⟨fs, hr, hrun, hended, hW, hsame⟩ := X186.leave (v := some (.int (1 : Int32))) (fun h => by rw [Bd.returns] at h; cases h)
    refine ⟨_, _, pre180 _ ?_, hrun, hended, _, _, rfl, ?_, ⟨_, rfl⟩, hW, hsame.mono (by decide) (by decide)⟩
    · show Steps p.tables e below (Tm169.setTop (mkF m 182 #[.val (.int ps), .val (.int pb), .val (.int pe), .val (.int (1 : Int32)), .val (.ref b141), .val (.int (own_cnt (1 : Int32) (0 : Int32) (0 : Int32) (0 : Int32) (0 : Int32))), .val (.int bb), .val (.int (0 : Int32)), .val (.int vz)] [])) _
      refine XS.iload Xm169.here hx rfl (hb hby at_182) rfl ?_
      show Steps p.tables e below (Tm169.setTop (mkF m 184 #[.val (.int ps), .val (.int pb), .val (.int pe), .val (.int (1 : Int32)), .val (.ref b141), .val (.int (own_cnt (1 : Int32) (0 : Int32) (0 : Int32) (0 : Int32) (0 : Int32))), .val (.int bb), .val (.int (0 : Int32)), .val (.int vz)] [(.int bb)])) _
      refine XS.iconst Xm169.here hx rfl (hb hby at_184) ?_
      show Steps p.tables e below (Tm169.setTop (mkF m 185 #[.val (.int ps), .val (.int pb), .val (.int pe), .val (.int (1 : Int32)), .val (.ref b141), .val (.int (own_cnt (1 : Int32) (0 : Int32) (0 : Int32) (0 : Int32) (0 : Int32))), .val (.int bb), .val (.int (0 : Int32)), .val (.int vz)] [(.int (0 : Int32)), (.int bb)])) _
      refine st182 _ ?_
      show Steps p.tables e below (T182.setTop (mkF m 188 #[.val (.int ps), .val (.int pb), .val (.int pe), .val (.int (1 : Int32)), .val (.ref b141), .val (.int (own_cnt (1 : Int32) (0 : Int32) (0 : Int32) (0 : Int32) (0 : Int32))), .val (.int bb), .val (.int (0 : Int32)), .val (.int vz)] [(.int (own_bit bb (0 : Int32)))])) _
      refine XS.iload X182.here hx rfl (hb hby at_188) rfl ?_
      show Steps p.tables e below (T182.setTop (mkF m 190 #[.val (.int ps), .val (.int pb), .val (.int pe), .val (.int (1 : Int32)), .val (.ref b141), .val (.int (own_cnt (1 : Int32) (0 : Int32) (0 : Int32) (0 : Int32) (0 : Int32))), .val (.int bb), .val (.int (0 : Int32)), .val (.int vz)] [(.int bb), (.int (own_bit bb (0 : Int32)))])) _
      refine XS.iconst X182.here hx rfl (hb hby at_190) ?_
      show Steps p.tables e below (T182.setTop (mkF m 191 #[.val (.int ps), .val (.int pb), .val (.int pe), .val (.int (1 : Int32)), .val (.ref b141), .val (.int (own_cnt (1 : Int32) (0 : Int32) (0 : Int32) (0 : Int32) (0 : Int32))), .val (.int bb), .val (.int (0 : Int32)), .val (.int vz)] [(.int (1 : Int32)), (.int bb), (.int (own_bit bb (0 : Int32)))])) _
      refine st183 _ ?_
      show Steps p.tables e below (T183.setTop (mkF m 194 #[.val (.int ps), .val (.int pb), .val (.int pe), .val (.int (1 : Int32)), .val (.ref b141), .val (.int (own_cnt (1 : Int32) (0 : Int32) (0 : Int32) (0 : Int32) (0 : Int32))), .val (.int bb), .val (.int (0 : Int32)), .val (.int vz)] [(.int (own_bit bb (1 : Int32))), (.int (own_bit bb (0 : Int32)))])) _
      refine XS.iadd X183.here hx rfl (hb hby at_194) rfl ?_
      show Steps p.tables e below (T183.setTop (mkF m 195 #[.val (.int ps), .val (.int pb), .val (.int pe), .val (.int (1 : Int32)), .val (.ref b141), .val (.int (own_cnt (1 : Int32) (0 : Int32) (0 : Int32) (0 : Int32) (0 : Int32))), .val (.int bb), .val (.int (0 : Int32)), .val (.int vz)] [(.int ((own_bit bb (0 : Int32)) + (own_bit bb (1 : Int32))))])) _
      refine XS.iload X183.here hx rfl (hb hby at_195) rfl ?_
      show Steps p.tables e below (T183.setTop (mkF m 197 #[.val (.int ps), .val (.int pb), .val (.int pe), .val (.int (1 : Int32)), .val (.ref b141), .val (.int (own_cnt (1 : Int32) (0 : Int32) (0 : Int32) (0 : Int32) (0 : Int32))), .val (.int bb), .val (.int (0 : Int32)), .val (.int vz)] [(.int bb), (.int ((own_bit bb (0 : Int32)) + (own_bit bb (1 : Int32))))])) _
      refine XS.iconst X183.here hx rfl (hb hby at_197) ?_
      show Steps p.tables e below (T183.setTop (mkF m 198 #[.val (.int ps), .val (.int pb), .val (.int pe), .val (.int (1 : Int32)), .val (.ref b141), .val (.int (own_cnt (1 : Int32) (0 : Int32) (0 : Int32) (0 : Int32) (0 : Int32))), .val (.int bb), .val (.int (0 : Int32)), .val (.int vz)] [(.int (2 : Int32)), (.int bb), (.int ((own_bit bb (0 : Int32)) + (own_bit bb (1 : Int32))))])) _
      refine st184 _ ?_
      show Steps p.tables e below (T184.setTop (mkF m 201 #[.val (.int ps), .val (.int pb), .val (.int pe), .val (.int (1 : Int32)), .val (.ref b141), .val (.int (own_cnt (1 : Int32) (0 : Int32) (0 : Int32) (0 : Int32) (0 : Int32))), .val (.int bb), .val (.int (0 : Int32)), .val (.int vz)] [(.int (own_bit bb (2 : Int32))), (.int ((own_bit bb (0 : Int32)) + (own_bit bb (1 : Int32))))])) _
      refine XS.iadd X184.here hx rfl (hb hby at_201) rfl ?_
      show Steps p.tables e below (T184.setTop (mkF m 202 #[.val (.int ps), .val (.int pb), .val (.int pe), .val (.int (1 : Int32)), .val (.ref b141), .val (.int (own_cnt (1 : Int32) (0 : Int32) (0 : Int32) (0 : Int32) (0 : Int32))), .val (.int bb), .val (.int (0 : Int32)), .val (.int vz)] [(.int (((own_bit bb (0 : Int32)) + (own_bit bb (1 : Int32))) + (own_bit bb (2 : Int32))))])) _
      refine XS.iload X184.here hx rfl (hb hby at_202) rfl ?_
      show Steps p.tables e below (T184.setTop (mkF m 204 #[.val (.int ps), .val (.int pb), .val (.int pe), .val (.int (1 : Int32)), .val (.ref b141), .val (.int (own_cnt (1 : Int32) (0 : Int32) (0 : Int32) (0 : Int32) (0 : Int32))), .val (.int bb), .val (.int (0 : Int32)), .val (.int vz)] [(.int bb), (.int (((own_bit bb (0 : Int32)) + (own_bit bb (1 : Int32))) + (own_bit bb (2 : Int32))))])) _
      refine XS.iconst X184.here hx rfl (hb hby at_204) ?_
      show Steps p.tables e below (T184.setTop (mkF m 205 #[.val (.int ps), .val (.int pb), .val (.int pe), .val (.int (1 : Int32)), .val (.ref b141), .val (.int (own_cnt (1 : Int32) (0 : Int32) (0 : Int32) (0 : Int32) (0 : Int32))), .val (.int bb), .val (.int (0 : Int32)), .val (.int vz)] [(.int (3 : Int32)), (.int bb), (.int (((own_bit bb (0 : Int32)) + (own_bit bb (1 : Int32))) + (own_bit bb (2 : Int32))))])) _
      refine st185 _ ?_
      show Steps p.tables e below (T185.setTop (mkF m 208 #[.val (.int ps), .val (.int pb), .val (.int pe), .val (.int (1 : Int32)), .val (.ref b141), .val (.int (own_cnt (1 : Int32) (0 : Int32) (0 : Int32) (0 : Int32) (0 : Int32))), .val (.int bb), .val (.int (0 : Int32)), .val (.int vz)] [(.int (own_bit bb (3 : Int32))), (.int (((own_bit bb (0 : Int32)) + (own_bit bb (1 : Int32))) + (own_bit bb (2 : Int32))))])) _
      refine XS.iadd X185.here hx rfl (hb hby at_208) rfl ?_
      show Steps p.tables e below (T185.setTop (mkF m 209 #[.val (.int ps), .val (.int pb), .val (.int pe), .val (.int (1 : Int32)), .val (.ref b141), .val (.int (own_cnt (1 : Int32) (0 : Int32) (0 : Int32) (0 : Int32) (0 : Int32))), .val (.int bb), .val (.int (0 : Int32)), .val (.int vz)] [(.int ((((own_bit bb (0 : Int32)) + (own_bit bb (1 : Int32))) + (own_bit bb (2 : Int32))) + (own_bit bb (3 : Int32))))])) _
      refine XS.istore X185.here hx rfl (hb hby at_209) rfl (l' := #[.val (.int ps), .val (.int pb), .val (.int pe), .val (.int (1 : Int32)), .val (.ref b141), .val (.int (own_cnt (1 : Int32) (0 : Int32) (0 : Int32) (0 : Int32) (0 : Int32))), .val (.int bb), .val (.int ((((own_bit bb (0 : Int32)) + (own_bit bb (1 : Int32))) + (own_bit bb (2 : Int32))) + (own_bit bb (3 : Int32)))), .val (.int vz)]) rfl ?_
      show Steps p.tables e below (T185.setTop (mkF m 211 #[.val (.int ps), .val (.int pb), .val (.int pe), .val (.int (1 : Int32)), .val (.ref b141), .val (.int (own_cnt (1 : Int32) (0 : Int32) (0 : Int32) (0 : Int32) (0 : Int32))), .val (.int bb), .val (.int ((((own_bit bb (0 : Int32)) + (own_bit bb (1 : Int32))) + (own_bit bb (2 : Int32))) + (own_bit bb (3 : Int32)))), .val (.int vz)] [])) _
      refine XS.iload X185.here hx rfl (hb hby at_211) rfl ?_
      show Steps p.tables e below (T185.setTop (mkF m 213 #[.val (.int ps), .val (.int pb), .val (.int pe), .val (.int (1 : Int32)), .val (.ref b141), .val (.int (own_cnt (1 : Int32) (0 : Int32) (0 : Int32) (0 : Int32) (0 : Int32))), .val (.int bb), .val (.int ((((own_bit bb (0 : Int32)) + (own_bit bb (1 : Int32))) + (own_bit bb (2 : Int32))) + (own_bit bb (3 : Int32)))), .val (.int vz)] [(.int (own_cnt (1 : Int32) (0 : Int32) (0 : Int32) (0 : Int32) (0 : Int32)))])) _
      refine XS.ifNo X185.here hx rfl (hb hby at_213) rfl ((if0 _ _).trans (teq (rfl : ((own_cnt (1 : Int32) (0 : Int32) (0 : Int32) (0 : Int32) (0 : Int32)) = (0 : Int32)))).2) ?_
      show Steps p.tables e below (T185.setTop (mkF m 216 #[.val (.int ps), .val (.int pb), .val (.int pe), .val (.int (1 : Int32)), .val (.ref b141), .val (.int (own_cnt (1 : Int32) (0 : Int32) (0 : Int32) (0 : Int32) (0 : Int32))), .val (.int bb), .val (.int ((((own_bit bb (0 : Int32)) + (own_bit bb (1 : Int32))) + (own_bit bb (2 : Int32))) + (own_bit bb (3 : Int32)))), .val (.int vz)] [])) _
      refine XS.aload X185.here hx rfl (hb hby at_216) rfl rfl ?_
      show Steps p.tables e below (T185.setTop (mkF m 218 #[.val (.int ps), .val (.int pb), .val (.int pe), .val (.int (1 : Int32)), .val (.ref b141), .val (.int (own_cnt (1 : Int32) (0 : Int32) (0 : Int32) (0 : Int32) (0 : Int32))), .val (.int bb), .val (.int ((((own_bit bb (0 : Int32)) + (own_bit bb (1 : Int32))) + (own_bit bb (2 : Int32))) + (own_bit bb (3 : Int32)))), .val (.int vz)] [(.ref b141)])) _
      refine st186.trans ?_
      show Steps p.tables e below (T186.setTop (mkF m 221 #[.val (.int ps), .val (.int pb), .val (.int pe), .val (.int (1 : Int32)), .val (.ref b141), .val (.int (own_cnt (1 : Int32) (0 : Int32) (0 : Int32) (0 : Int32) (0 : Int32))), .val (.int bb), .val (.int ((((own_bit bb (0 : Int32)) + (own_bit bb (1 : Int32))) + (own_bit bb (2 : Int32))) + (own_bit bb (3 : Int32)))), .val (.int vz)] [(.int (own_cnt (1 : Int32) (nar .boolean vz) (0 : Int32) (0 : Int32) (0 : Int32)))])) _
      refine XS.iload X186.here hx rfl (hb hby at_221) rfl ?_
      show Steps p.tables e below (T186.setTop (mkF m 223 #[.val (.int ps), .val (.int pb), .val (.int pe), .val (.int (1 : Int32)), .val (.ref b141), .val (.int (own_cnt (1 : Int32) (0 : Int32) (0 : Int32) (0 : Int32) (0 : Int32))), .val (.int bb), .val (.int ((((own_bit bb (0 : Int32)) + (own_bit bb (1 : Int32))) + (own_bit bb (2 : Int32))) + (own_bit bb (3 : Int32)))), .val (.int vz)] [(.int ((((own_bit bb (0 : Int32)) + (own_bit bb (1 : Int32))) + (own_bit bb (2 : Int32))) + (own_bit bb (3 : Int32)))), (.int (own_cnt (1 : Int32) (nar .boolean vz) (0 : Int32) (0 : Int32) (0 : Int32)))])) _
      refine XS.icmpNo X186.here hx rfl (hb hby at_223) rfl (teq (own_fin1 hv152 hv163 ⟨rfl, rfl⟩ hv181 : ((own_cnt (1 : Int32) (nar .boolean vz) (0 : Int32) (0 : Int32) (0 : Int32)) = ((((own_bit bb (0 : Int32)) + (own_bit bb (1 : Int32))) + (own_bit bb (2 : Int32))) + (own_bit bb (3 : Int32)))))).2 ?_
      show Steps p.tables e below (T186.setTop (mkF m 226 #[.val (.int ps), .val (.int pb), .val (.int pe), .val (.int (1 : Int32)), .val (.ref b141), .val (.int (own_cnt (1 : Int32) (0 : Int32) (0 : Int32) (0 : Int32) (0 : Int32))), .val (.int bb), .val (.int ((((own_bit bb (0 : Int32)) + (own_bit bb (1 : Int32))) + (own_bit bb (2 : Int32))) + (own_bit bb (3 : Int32)))), .val (.int vz)] [])) _
      refine XS.iconst X186.here hx rfl (hb hby at_226) ?_
      show Steps p.tables e below (T186.setTop (mkF m 227 #[.val (.int ps), .val (.int pb), .val (.int pe), .val (.int (1 : Int32)), .val (.ref b141), .val (.int (own_cnt (1 : Int32) (0 : Int32) (0 : Int32) (0 : Int32) (0 : Int32))), .val (.int bb), .val (.int ((((own_bit bb (0 : Int32)) + (own_bit bb (1 : Int32))) + (own_bit bb (2 : Int32))) + (own_bit bb (3 : Int32)))), .val (.int vz)] [(.int (1 : Int32))])) _
      refine XS.goto X186.here hx rfl (pc0 := 227) (pc' := 231) rfl (hb hby at_227) (by decide) (by decide) ?_
      show Steps p.tables e below (T186.setTop (mkF m 231 #[.val (.int ps), .val (.int pb), .val (.int pe), .val (.int (1 : Int32)), .val (.ref b141), .val (.int (own_cnt (1 : Int32) (0 : Int32) (0 : Int32) (0 : Int32) (0 : Int32))), .val (.int bb), .val (.int ((((own_bit bb (0 : Int32)) + (own_bit bb (1 : Int32))) + (own_bit bb (2 : Int32))) + (own_bit bb (3 : Int32)))), .val (.int vz)] [(.int (1 : Int32))])) _
      exact retN X186 hx (t := .boolean) Bd.returns (by simp) (hb hby at_231) hr
    · show Q0 Z ps pb pe h0 n0 _ T186.heap _
      rw [e186]
      exact ⟨rfl, N186⟩
  · rw [hq128] at pre125
    obtain ⟨T187, h187, X187, e187, E187, A187, D187, -, st187⟩ := newO X0 hx hZ hown (hw _ (List.mem_of_getElem? (i := 1) rfl)) (hw _ (List.mem_of_getElem? (i := 2) rfl)) (hw _ (List.mem_of_getElem? (i := 3) rfl)) e0 (g := (mkF m 7 #[.val (.int ps), .val (.int pb), .val (.int pe), .val (.int (2 : Int32)), .unset, .unset, .unset, .unset, .unset] [])) rfl (hb hby at_7) (by decide) (by decide)
    obtain ⟨b187, g187⟩ : ∃ z, z = h0.size := ⟨_, rfl⟩
    rw [← g187] at A187 D187 st187
    have g_b187 : n0 ≤ b187 := Nat.le_trans Z0 (Nat.le_of_eq g187.symm)
    have sz_b187 : h0.size ≤ b187 := Nat.le_of_eq g187.symm
    have Zs187 : n0 ≤ h187.size := Nat.le_trans Z0 E187.1
    have KK187 : Keep h0 h187 [] := (Keep.refl h0 _).ext E187
    have f188 : Fld Z h187 b187 "com/example/tresse/tresse/rwlock/Flags" "values" "[Z" .null := D187 (Or.inr (hw _ (List.mem_of_getElem? (i := 12) rfl))) (ty := (.array .boolean)) (by decide)
    obtain ⟨_, _, ⟨T189, L189, k189, n189⟩, -, X189, ⟨Lc189, hQ189, l189, y189, z189⟩, st189⟩ := X187.specialBack hx (y := (⟨"com/example/tresse/tresse/rwlock/Flags", "<init>", "(I)V"⟩ : MethodName)) rfl hown (mvT hZ (hw _ (List.mem_of_getElem? (i := 4) rfl))) (mvT hZ (hw _ (List.mem_of_getElem? (i := 5) rfl))) (mvT hZ (hw _ (List.mem_of_getElem? (i := 6) rfl))) (by decide) (backOf (W := 1) (rm1 l Z a0 hw [] b187 (2 : Int32)  h187 n0 Zs187 f188 A187 g_b187 (by decide) (by decide)) hZ (hw _ (List.mem_of_getElem? (i := 6) rfl)) (hw _ (List.mem_of_getElem? (i := 3) rfl)) (by decide) (by decide)) (g := (mkF m 12 #[.val (.int ps), .val (.int pb), .val (.int pe), .val (.int (2 : Int32)), .unset, .unset, .unset, .unset, .unset] [(.int (2 : Int32)), (.ref b187), (.ref b187)])) rfl (by rw [hml]; rfl) (Steps.refl _) (a := b187) (argsL := [(.int (2 : Int32))]) (rest := [(.ref b187)]) (lenOf own_pd49 rfl) rfl (by show 2 * 0 + _ ≤ _; exact Nat.le_of_eq rfl) (hb hby at_12) (fun _ _ => ⟨rfl, e187, (by decide : 1 + 1 ≤ _), (by decide : 1 + 4 ≤ _)⟩)
    dsimp only [Pt.U, Pt.locs, Pt.cells, Pt.slots] at X189 l189 y189 z189 st189 hQ189
    subst l189 y189 z189
    obtain ⟨rar_189, rkk_189, rfl, Nq189, K189, p189_0, p189_1, p189_2, p189_3, p189_4⟩ := hQ189
    have N189 := Fr.app N0 Nq189
    have Zs189 : n0 ≤ T189.heap.size := Nat.le_trans Zs187 K189.1
    have KK189 : Keep h0 T189.heap [] := KK187.trans K189 (allS (Or.inr sz_b187) all0)
    have ne_b187_rar_189 : b187 ≠ rar_189 := Nat.ne_of_lt (Nat.lt_of_lt_of_le A187.lt p189_4)
    have sz_rar_189 : h0.size ≤ rar_189 := Nat.le_trans KK187.1 p189_4
    have f190 := A187.keep K189
    have g_rar_189 := p189_3
    obtain ⟨cq191, kq191, q191a, q191b, q191c⟩ := isOf hZ rfl p189_0
    obtain ⟨_, _, ⟨T191, L191, k191, n191⟩, -, X191, ⟨Lc191, hQ191, l191, y191, z191⟩, st191⟩ := X189.virtualBack hx (y := (⟨"com/example/tresse/tresse/rwlock/Flags", "countTrue", "()I"⟩ : MethodName)) (z := (⟨"com/example/tresse/tresse/rwlock/Flags", "countTrue", "()I"⟩ : MethodName)) hown (mvT hZ (hw _ (List.mem_of_getElem? (i := 13) rfl))) (mvT hZ (hw _ (List.mem_of_getElem? (i := 14) rfl))) (notFace_of_selects (args := #[]) (mvT hZ (hw _ (List.mem_of_getElem? (i := 16) rfl)))) (mvT hZ (hw _ (List.mem_of_getElem? (i := 16) rfl))) (mvT hZ (hw _ (List.mem_of_getElem? (i := 15) rfl))) (by decide) (backOf (W := 0) (rm3 l Z a0 hw [] b187 rar_189 rkk_189 (2 : Int32) (0 : Int32) (0 : Int32) (0 : Int32) (0 : Int32) T189.heap n0 Zs189 p189_1 p189_2 (by decide)) hZ (hw _ (List.mem_of_getElem? (i := 17) rfl)) (hw _ (List.mem_of_getElem? (i := 3) rfl)) (by decide) (by decide)) q191a q191c (g := (mkF m 19 #[.val (.int ps), .val (.int pb), .val (.int pe), .val (.int (2 : Int32)), .val (.ref b187), .unset, .unset, .unset, .unset] [(.ref b187)])) rfl (by rw [hml]; rfl) (Steps.refl _) (argsL := []) (rest := []) (lenOf own_pd50 rfl) rfl (by show 2 * 0 + _ ≤ _; exact Nat.le_of_eq rfl) (hb hby at_19) (fun _ _ => ⟨rfl, rfl, (by decide : 2 + 0 ≤ _), (by decide : 5 + 0 ≤ _)⟩)
    dsimp only [Pt.U, Pt.locs, Pt.cells, Pt.slots] at X191 l191 y191 z191 st191 hQ191
    subst l191 y191 z191
    obtain ⟨rfl, Nq191, e191⟩ := hQ191
    have N191 := Fr.app N189 Nq191
    have pre192 : ∀ t, Steps p.tables e below (T191.setTop (mkF m 34 #[.val (.int ps), .val (.int pb), .val (.int pe), .val (.int (2 : Int32)), .val (.ref b187), .val (.int (own_cnt (2 : Int32) (0 : Int32) (0 : Int32) (0 : Int32) (0 : Int32))), .unset, .unset, .unset] [(.int (pb &&& (1 : Int32))), (.int (0 : Int32)), (.ref b187)])) t → Steps p.tables e below G0 t := by
      intro t k
      refine pre125 t ?_
      show Steps p.tables e below (s₁.setTop (mkF m 7 #[.val (.int ps), .val (.int pb), .val (.int pe), .val (.int (2 : Int32)), .unset, .unset, .unset, .unset, .unset] [])) _
      refine st187 _ ?_
      show Steps p.tables e below (T187.setTop (mkF m 10 #[.val (.int ps), .val (.int pb), .val (.int pe), .val (.int (2 : Int32)), .unset, .unset, .unset, .unset, .unset] [(.ref b187)])) _
      refine XS.dup X187.here hx rfl (hb hby at_10) rfl rfl ?_
      show Steps p.tables e below (T187.setTop (mkF m 11 #[.val (.int ps), .val (.int pb), .val (.int pe), .val (.int (2 : Int32)), .unset, .unset, .unset, .unset, .unset] [(.ref b187), (.ref b187)])) _
      refine XS.iloadN X187.here hx rfl (hb hby at_11) rfl ?_
      show Steps p.tables e below (T187.setTop (mkF m 12 #[.val (.int ps), .val (.int pb), .val (.int pe), .val (.int (2 : Int32)), .unset, .unset, .unset, .unset, .unset] [(.int (2 : Int32)), (.ref b187), (.ref b187)])) _
      refine st189.trans ?_
      show Steps p.tables e below (T189.setTop (mkF m 15 #[.val (.int ps), .val (.int pb), .val (.int pe), .val (.int (2 : Int32)), .unset, .unset, .unset, .unset, .unset] [(.ref b187)])) _
      refine XS.astore X189.here hx rfl (hb hby at_15) rfl rfl (l' := #[.val (.int ps), .val (.int pb), .val (.int pe), .val (.int (2 : Int32)), .val (.ref b187), .unset, .unset, .unset, .unset]) rfl ?_
      show Steps p.tables e below (T189.setTop (mkF m 17 #[.val (.int ps), .val (.int pb), .val (.int pe), .val (.int (2 : Int32)), .val (.ref b187), .unset, .unset, .unset, .unset] [])) _
      refine XS.aload X189.here hx rfl (hb hby at_17) rfl rfl ?_
      show Steps p.tables e below (T189.setTop (mkF m 19 #[.val (.int ps), .val (.int pb), .val (.int pe), .val (.int (2 : Int32)), .val (.ref b187), .unset, .unset, .unset, .unset] [(.ref b187)])) _
      refine st191.trans ?_
      show Steps p.tables e below (T191.setTop (mkF m 22 #[.val (.int ps), .val (.int pb), .val (.int pe), .val (.int (2 : Int32)), .val (.ref b187), .unset, .unset, .unset, .unset] [(.int (own_cnt (2 : Int32) (0 : Int32) (0 : Int32) (0 : Int32) (0 : Int32)))])) _
      refine XS.istore X191.here hx rfl (hb hby at_22) rfl (l' := #[.val (.int ps), .val (.int pb), .val (.int pe), .val (.int (2 : Int32)), .val (.ref b187), .val (.int (own_cnt (2 : Int32) (0 : Int32) (0 : Int32) (0 : Int32) (0 : Int32))), .unset, .unset, .unset]) rfl ?_
      show Steps p.tables e below (T191.setTop (mkF m 24 #[.val (.int ps), .val (.int pb), .val (.int pe), .val (.int (2 : Int32)), .val (.ref b187), .val (.int (own_cnt (2 : Int32) (0 : Int32) (0 : Int32) (0 : Int32) (0 : Int32))), .unset, .unset, .unset] [])) _
      refine XS.iloadN X191.here hx rfl (hb hby at_24) rfl ?_
      show Steps p.tables e below (T191.setTop (mkF m 25 #[.val (.int ps), .val (.int pb), .val (.int pe), .val (.int (2 : Int32)), .val (.ref b187), .val (.int (own_cnt (2 : Int32) (0 : Int32) (0 : Int32) (0 : Int32) (0 : Int32))), .unset, .unset, .unset] [(.int (2 : Int32))])) _
      refine XS.ifNo X191.here hx rfl (hb hby at_25) rfl ((if0 _ _).trans (tlt (by decide : ((0 : Int32) < (2 : Int32)))).2.2.2) ?_
      show Steps p.tables e below (T191.setTop (mkF m 28 #[.val (.int ps), .val (.int pb), .val (.int pe), .val (.int (2 : Int32)), .val (.ref b187), .val (.int (own_cnt (2 : Int32) (0 : Int32) (0 : Int32) (0 : Int32) (0 : Int32))), .unset, .unset, .unset] [])) _
      refine XS.aload X191.here hx rfl (hb hby at_28) rfl rfl ?_
      show Steps p.tables e below (T191.setTop (mkF m 30 #[.val (.int ps), .val (.int pb), .val (.int pe), .val (.int (2 : Int32)), .val (.ref b187), .val (.int (own_cnt (2 : Int32) (0 : Int32) (0 : Int32) (0 : Int32) (0 : Int32))), .unset, .unset, .unset] [(.ref b187)])) _
      refine XS.iconst X191.here hx rfl (hb hby at_30) ?_
      show Steps p.tables e below (T191.setTop (mkF m 31 #[.val (.int ps), .val (.int pb), .val (.int pe), .val (.int (2 : Int32)), .val (.ref b187), .val (.int (own_cnt (2 : Int32) (0 : Int32) (0 : Int32) (0 : Int32) (0 : Int32))), .unset, .unset, .unset] [(.int (0 : Int32)), (.ref b187)])) _
      refine XS.iloadN X191.here hx rfl (hb hby at_31) rfl ?_
      show Steps p.tables e below (T191.setTop (mkF m 32 #[.val (.int ps), .val (.int pb), .val (.int pe), .val (.int (2 : Int32)), .val (.ref b187), .val (.int (own_cnt (2 : Int32) (0 : Int32) (0 : Int32) (0 : Int32) (0 : Int32))), .unset, .unset, .unset] [(.int pb), (.int (0 : Int32)), (.ref b187)])) _
      refine XS.iconst X191.here hx rfl (hb hby at_32) ?_
      show Steps p.tables e below (T191.setTop (mkF m 33 #[.val (.int ps), .val (.int pb), .val (.int pe), .val (.int (2 : Int32)), .val (.ref b187), .val (.int (own_cnt (2 : Int32) (0 : Int32) (0 : Int32) (0 : Int32) (0 : Int32))), .unset, .unset, .unset] [(.int (1 : Int32)), (.int pb), (.int (0 : Int32)), (.ref b187)])) _
      refine XS.iand X191.here hx rfl (hb hby at_33) rfl ?_
      exact k
    obtain ⟨v0, hv198, pre197⟩ : ∃ (v0 : Int32), (v0 = if (pb &&& 1) = 0 then 0 else 1) ∧ ∀ t, Steps p.tables e below (T191.setTop (mkF m 42 #[.val (.int ps), .val (.int pb), .val (.int pe), .val (.int (2 : Int32)), .val (.ref b187), .val (.int (own_cnt (2 : Int32) (0 : Int32) (0 : Int32) (0 : Int32) (0 : Int32))), .unset, .unset, .unset] [(.int v0), (.int (0 : Int32)), (.ref b187)])) t → Steps p.tables e below G0 t := by
      by_cases hc34_193 : (pb &&& (1 : Int32)) = (0 : Int32)
      · have pre194 : ∀ t, Steps p.tables e below (T191.setTop (mkF m 42 #[.val (.int ps), .val (.int pb), .val (.int pe), .val (.int (2 : Int32)), .val (.ref b187), .val (.int (own_cnt (2 : Int32) (0 : Int32) (0 : Int32) (0 : Int32) (0 : Int32))), .unset, .unset, .unset] [(.int (0 : Int32)), (.int (0 : Int32)), (.ref b187)])) t → Steps p.tables e below G0 t := by
          intro t k
          refine pre192 t ?_
          show Steps p.tables e below (T191.setTop (mkF m 34 #[.val (.int ps), .val (.int pb), .val (.int pe), .val (.int (2 : Int32)), .val (.ref b187), .val (.int (own_cnt (2 : Int32) (0 : Int32) (0 : Int32) (0 : Int32) (0 : Int32))), .unset, .unset, .unset] [(.int (pb &&& (1 : Int32))), (.int (0 : Int32)), (.ref b187)])) _
          refine XS.ifYes X191.here hx rfl (pc0 := 34) (pc' := 41) rfl (hb hby at_34) rfl ((if0 _ _).trans (teq hc34_193).1) (by decide) (by decide) ?_
          show Steps p.tables e below (T191.setTop (mkF m 41 #[.val (.int ps), .val (.int pb), .val (.int pe), .val (.int (2 : Int32)), .val (.ref b187), .val (.int (own_cnt (2 : Int32) (0 : Int32) (0 : Int32) (0 : Int32) (0 : Int32))), .unset, .unset, .unset] [(.int (0 : Int32)), (.ref b187)])) _
          refine XS.iconst X191.here hx rfl (hb hby at_41) ?_
          exact k
        exact ⟨(0 : Int32), (by simp [hc34_193]), pre194⟩
      · have pre195 : ∀ t, Steps p.tables e below (T191.setTop (mkF m 42 #[.val (.int ps), .val (.int pb), .val (.int pe), .val (.int (2 : Int32)), .val (.ref b187), .val (.int (own_cnt (2 : Int32) (0 : Int32) (0 : Int32) (0 : Int32) (0 : Int32))), .unset, .unset, .unset] [(.int (1 : Int32)), (.int (0 : Int32)), (.ref b187)])) t → Steps p.tables e below G0 t := by
          intro t k
          refine pre192 t ?_
          show Steps p.tables e below (T191.setTop (mkF m 34 #[.val (.int ps), .val (.int pb), .val (.int pe), .val (.int (2 : Int32)), .val (.ref b187), .val (.int (own_cnt (2 : Int32) (0 : Int32) (0 : Int32) (0 : Int32) (0 : Int32))), .unset, .unset, .unset] [(.int (pb &&& (1 : Int32))), (.int (0 : Int32)), (.ref b187)])) _
          refine XS.ifNo X191.here hx rfl (hb hby at_34) rfl ((if0 _ _).trans (feq hc34_193).1) ?_
          show Steps p.tables e below (T191.setTop (mkF m 37 #[.val (.int ps), .val (.int pb), .val (.int pe), .val (.int (2 : Int32)), .val (.ref b187), .val (.int (own_cnt (2 : Int32) (0 : Int32) (0 : Int32) (0 : Int32) (0 : Int32))), .unset, .unset, .unset] [(.int (0 : Int32)), (.ref b187)])) _
          refine XS.iconst X191.here hx rfl (hb hby at_37) ?_
          show Steps p.tables e below (T191.setTop (mkF m 38 #[.val (.int ps), .val (.int pb), .val (.int pe), .val (.int (2 : Int32)), .val (.ref b187), .val (.int (own_cnt (2 : Int32) (0 : Int32) (0 : Int32) (0 : Int32) (0 : Int32))), .unset, .unset, .unset] [(.int (1 : Int32)), (.int (0 : Int32)), (.ref b187)])) _
          refine XS.goto X191.here hx rfl (pc0 := 38) (pc' := 42) rfl (hb hby at_38) (by decide) (by decide) ?_
          exact k
        exact ⟨(1 : Int32), (by simp [hc34_193]), pre195⟩
    obtain ⟨cq199, kq199, q199a, q199b, q199c⟩ := isOf hZ e191 p189_0
    obtain ⟨_, _, ⟨T199, L199, k199, n199⟩, -, X199, ⟨Lc199, hQ199, l199, y199, z199⟩, st199⟩ := X191.virtualBack hx (y := (⟨"com/example/tresse/tresse/rwlock/Flags", "set", "(IZ)V"⟩ : MethodName)) (z := (⟨"com/example/tresse/tresse/rwlock/Flags", "set", "(IZ)V"⟩ : MethodName)) hown (mvT hZ (hw _ (List.mem_of_getElem? (i := 22) rfl))) (mvT hZ (hw _ (List.mem_of_getElem? (i := 23) rfl))) (notFace_of_selects (args := #[]) (mvT hZ (hw _ (List.mem_of_getElem? (i := 25) rfl)))) (mvT hZ (hw _ (List.mem_of_getElem? (i := 25) rfl))) (mvT hZ (hw _ (List.mem_of_getElem? (i := 24) rfl))) (by decide) (backOf (W := 0) (rm5j0 l Z a0 hw [] b187 v0 rar_189 rkk_189 (2 : Int32) (0 : Int32) (0 : Int32) (0 : Int32) (0 : Int32) T189.heap n0 Zs189 p189_1 p189_2 g_rar_189 ne_b187_rar_189 (by decide)) hZ (hw _ (List.mem_of_getElem? (i := 26) rfl)) (hw _ (List.mem_of_getElem? (i := 3) rfl)) (by decide) (by decide)) q199a q199c (g := (mkF m 42 #[.val (.int ps), .val (.int pb), .val (.int pe), .val (.int (2 : Int32)), .val (.ref b187), .val (.int (own_cnt (2 : Int32) (0 : Int32) (0 : Int32) (0 : Int32) (0 : Int32))), .unset, .unset, .unset] [(.int v0), (.int (0 : Int32)), (.ref b187)])) rfl (by rw [hml]; rfl) (Steps.refl _) (argsL := [(.int (0 : Int32)), (.int v0)]) (rest := []) (lenOf own_pd52 rfl) rfl (by show 2 * 0 + _ ≤ _; exact Nat.le_of_eq rfl) (hb hby at_42) (fun _ _ => ⟨rfl, e191, (by decide : 2 + 0 ≤ _), (by decide : 5 + 0 ≤ _)⟩)
    dsimp only [Pt.U, Pt.locs, Pt.cells, Pt.slots] at X199 l199 y199 z199 st199 hQ199
    subst l199 y199 z199
    obtain ⟨rfl, Nq199, K199, p199_0⟩ := hQ199
    have N199 := Fr.app N191 Nq199
    have Zs199 : n0 ≤ T199.heap.size := Nat.le_trans Zs189 K199.1
    have KK199 : Keep h0 T199.heap [] := KK189.trans K199 (allS (Or.inr sz_rar_189) all0)
    have f200 := p189_0.keep K199
    have f201 := p189_1.keep K199 (ninS ne_b187_rar_189 nin0)
    have pre202 : ∀ t, Steps p.tables e below (T199.setTop (mkF m 56 #[.val (.int ps), .val (.int pb), .val (.int pe), .val (.int (2 : Int32)), .val (.ref b187), .val (.int (own_cnt (2 : Int32) (0 : Int32) (0 : Int32) (0 : Int32) (0 : Int32))), .unset, .unset, .unset] [(.int (pb &&& (2 : Int32))), (.int (1 : Int32)), (.ref b187)])) t → Steps p.tables e below G0 t := by
      intro t k
      refine pre197 t ?_
      show Steps p.tables e below (T191.setTop (mkF m 42 #[.val (.int ps), .val (.int pb), .val (.int pe), .val (.int (2 : Int32)), .val (.ref b187), .val (.int (own_cnt (2 : Int32) (0 : Int32) (0 : Int32) (0 : Int32) (0 : Int32))), .unset, .unset, .unset] [(.int v0), (.int (0 : Int32)), (.ref b187)])) _
      refine st199.trans ?_
      show Steps p.tables e below (T199.setTop (mkF m 45 #[.val (.int ps), .val (.int pb), .val (.int pe), .val (.int (2 : Int32)), .val (.ref b187), .val (.int (own_cnt (2 : Int32) (0 : Int32) (0 : Int32) (0 : Int32) (0 : Int32))), .unset, .unset, .unset] [])) _
      refine XS.iloadN X199.here hx rfl (hb hby at_45) rfl ?_
      show Steps p.tables e below (T199.setTop (mkF m 46 #[.val (.int ps), .val (.int pb), .val (.int pe), .val (.int (2 : Int32)), .val (.ref b187), .val (.int (own_cnt (2 : Int32) (0 : Int32) (0 : Int32) (0 : Int32) (0 : Int32))), .unset, .unset, .unset] [(.int (2 : Int32))])) _
      refine XS.iconst X199.here hx rfl (hb hby at_46) ?_
      show Steps p.tables e below (T199.setTop (mkF m 47 #[.val (.int ps), .val (.int pb), .val (.int pe), .val (.int (2 : Int32)), .val (.ref b187), .val (.int (own_cnt (2 : Int32) (0 : Int32) (0 : Int32) (0 : Int32) (0 : Int32))), .unset, .unset, .unset] [(.int (1 : Int32)), (.int (2 : Int32))])) _
      refine XS.icmpNo X199.here hx rfl (hb hby at_47) rfl (tlt (by decide : ((1 : Int32) < (2 : Int32)))).2.2.2 ?_
      show Steps p.tables e below (T199.setTop (mkF m 50 #[.val (.int ps), .val (.int pb), .val (.int pe), .val (.int (2 : Int32)), .val (.ref b187), .val (.int (own_cnt (2 : Int32) (0 : Int32) (0 : Int32) (0 : Int32) (0 : Int32))), .unset, .unset, .unset] [])) _
      refine XS.aload X199.here hx rfl (hb hby at_50) rfl rfl ?_
      show Steps p.tables e below (T199.setTop (mkF m 52 #[.val (.int ps), .val (.int pb), .val (.int pe), .val (.int (2 : Int32)), .val (.ref b187), .val (.int (own_cnt (2 : Int32) (0 : Int32) (0 : Int32) (0 : Int32) (0 : Int32))), .unset, .unset, .unset] [(.ref b187)])) _
      refine XS.iconst X199.here hx rfl (hb hby at_52) ?_
      show Steps p.tables e below (T199.setTop (mkF m 53 #[.val (.int ps), .val (.int pb), .val (.int pe), .val (.int (2 : Int32)), .val (.ref b187), .val (.int (own_cnt (2 : Int32) (0 : Int32) (0 : Int32) (0 : Int32) (0 : Int32))), .unset, .unset, .unset] [(.int (1 : Int32)), (.ref b187)])) _
      refine XS.iloadN X199.here hx rfl (hb hby at_53) rfl ?_
      show Steps p.tables e below (T199.setTop (mkF m 54 #[.val (.int ps), .val (.int pb), .val (.int pe), .val (.int (2 : Int32)), .val (.ref b187), .val (.int (own_cnt (2 : Int32) (0 : Int32) (0 : Int32) (0 : Int32) (0 : Int32))), .unset, .unset, .unset] [(.int pb), (.int (1 : Int32)), (.ref b187)])) _
      refine XS.iconst X199.here hx rfl (hb hby at_54) ?_
      show Steps p.tables e below (T199.setTop (mkF m 55 #[.val (.int ps), .val (.int pb), .val (.int pe), .val (.int (2 : Int32)), .val (.ref b187), .val (.int (own_cnt (2 : Int32) (0 : Int32) (0 : Int32) (0 : Int32) (0 : Int32))), .unset, .unset, .unset] [(.int (2 : Int32)), (.int pb), (.int (1 : Int32)), (.ref b187)])) _
      refine XS.iand X199.here hx rfl (hb hby at_55) rfl ?_
      exact k
    obtain ⟨v1, hv208, pre207⟩ : ∃ (v1 : Int32), (v1 = if (pb &&& 2) = 0 then 0 else 1) ∧ ∀ t, Steps p.tables e below (T199.setTop (mkF m 64 #[.val (.int ps), .val (.int pb), .val (.int pe), .val (.int (2 : Int32)), .val (.ref b187), .val (.int (own_cnt (2 : Int32) (0 : Int32) (0 : Int32) (0 : Int32) (0 : Int32))), .unset, .unset, .unset] [(.int v1), (.int (1 : Int32)), (.ref b187)])) t → Steps p.tables e below G0 t := by
      by_cases hc56_203 : (pb &&& (2 : Int32)) = (0 : Int32)
      · have pre204 : ∀ t, Steps p.tables e below (T199.setTop (mkF m 64 #[.val (.int ps), .val (.int pb), .val (.int pe), .val (.int (2 : Int32)), .val (.ref b187), .val (.int (own_cnt (2 : Int32) (0 : Int32) (0 : Int32) (0 : Int32) (0 : Int32))), .unset, .unset, .unset] [(.int (0 : Int32)), (.int (1 : Int32)), (.ref b187)])) t → Steps p.tables e below G0 t := by
          intro t k
          refine pre202 t ?_
          show Steps p.tables e below (T199.setTop (mkF m 56 #[.val (.int ps), .val (.int pb), .val (.int pe), .val (.int (2 : Int32)), .val (.ref b187), .val (.int (own_cnt (2 : Int32) (0 : Int32) (0 : Int32) (0 : Int32) (0 : Int32))), .unset, .unset, .unset] [(.int (pb &&& (2 : Int32))), (.int (1 : Int32)), (.ref b187)])) _
          refine XS.ifYes X199.here hx rfl (pc0 := 56) (pc' := 63) rfl (hb hby at_56) rfl ((if0 _ _).trans (teq hc56_203).1) (by decide) (by decide) ?_
          show Steps p.tables e below (T199.setTop (mkF m 63 #[.val (.int ps), .val (.int pb), .val (.int pe), .val (.int (2 : Int32)), .val (.ref b187), .val (.int (own_cnt (2 : Int32) (0 : Int32) (0 : Int32) (0 : Int32) (0 : Int32))), .unset, .unset, .unset] [(.int (1 : Int32)), (.ref b187)])) _
          refine XS.iconst X199.here hx rfl (hb hby at_63) ?_
          exact k
        exact ⟨(0 : Int32), (by simp [hc56_203]), pre204⟩
      · have pre205 : ∀ t, Steps p.tables e below (T199.setTop (mkF m 64 #[.val (.int ps), .val (.int pb), .val (.int pe), .val (.int (2 : Int32)), .val (.ref b187), .val (.int (own_cnt (2 : Int32) (0 : Int32) (0 : Int32) (0 : Int32) (0 : Int32))), .unset, .unset, .unset] [(.int (1 : Int32)), (.int (1 : Int32)), (.ref b187)])) t → Steps p.tables e below G0 t := by
          intro t k
          refine pre202 t ?_
          show Steps p.tables e below (T199.setTop (mkF m 56 #[.val (.int ps), .val (.int pb), .val (.int pe), .val (.int (2 : Int32)), .val (.ref b187), .val (.int (own_cnt (2 : Int32) (0 : Int32) (0 : Int32) (0 : Int32) (0 : Int32))), .unset, .unset, .unset] [(.int (pb &&& (2 : Int32))), (.int (1 : Int32)), (.ref b187)])) _
          refine XS.ifNo X199.here hx rfl (hb hby at_56) rfl ((if0 _ _).trans (feq hc56_203).1) ?_
          show Steps p.tables e below (T199.setTop (mkF m 59 #[.val (.int ps), .val (.int pb), .val (.int pe), .val (.int (2 : Int32)), .val (.ref b187), .val (.int (own_cnt (2 : Int32) (0 : Int32) (0 : Int32) (0 : Int32) (0 : Int32))), .unset, .unset, .unset] [(.int (1 : Int32)), (.ref b187)])) _
          refine XS.iconst X199.here hx rfl (hb hby at_59) ?_
          show Steps p.tables e below (T199.setTop (mkF m 60 #[.val (.int ps), .val (.int pb), .val (.int pe), .val (.int (2 : Int32)), .val (.ref b187), .val (.int (own_cnt (2 : Int32) (0 : Int32) (0 : Int32) (0 : Int32) (0 : Int32))), .unset, .unset, .unset] [(.int (1 : Int32)), (.int (1 : Int32)), (.ref b187)])) _
          refine XS.goto X199.here hx rfl (pc0 := 60) (pc' := 64) rfl (hb hby at_60) (by decide) (by decide) ?_
          exact k
        exact ⟨(1 : Int32), (by simp [hc56_203]), pre205⟩
    obtain ⟨cq209, kq209, q209a, q209b, q209c⟩ := isOf hZ rfl f200
    obtain ⟨_, _, ⟨T209, L209, k209, n209⟩, -, X209, ⟨Lc209, hQ209, l209, y209, z209⟩, st209⟩ := X199.virtualBack hx (y := (⟨"com/example/tresse/tresse/rwlock/Flags", "set", "(IZ)V"⟩ : MethodName)) (z := (⟨"com/example/tresse/tresse/rwlock/Flags", "set", "(IZ)V"⟩ : MethodName)) hown (mvT hZ (hw _ (List.mem_of_getElem? (i := 22) rfl))) (mvT hZ (hw _ (List.mem_of_getElem? (i := 23) rfl))) (notFace_of_selects (args := #[]) (mvT hZ (hw _ (List.mem_of_getElem? (i := 25) rfl)))) (mvT hZ (hw _ (List.mem_of_getElem? (i := 25) rfl))) (mvT hZ (hw _ (List.mem_of_getElem? (i := 24) rfl))) (by decide) (backOf (W := 0) (rm5j1 l Z a0 hw [] b187 v1 rar_189 rkk_189 (2 : Int32) (nar .boolean v0) (0 : Int32) (0 : Int32) (0 : Int32) T199.heap n0 Zs199 f201 p199_0 g_rar_189 ne_b187_rar_189 (by decide)) hZ (hw _ (List.mem_of_getElem? (i := 26) rfl)) (hw _ (List.mem_of_getElem? (i := 3) rfl)) (by decide) (by decide)) q209a q209c (g := (mkF m 64 #[.val (.int ps), .val (.int pb), .val (.int pe), .val (.int (2 : Int32)), .val (.ref b187), .val (.int (own_cnt (2 : Int32) (0 : Int32) (0 : Int32) (0 : Int32) (0 : Int32))), .unset, .unset, .unset] [(.int v1), (.int (1 : Int32)), (.ref b187)])) rfl (by rw [hml]; rfl) (Steps.refl _) (argsL := [(.int (1 : Int32)), (.int v1)]) (rest := []) (lenOf own_pd52 rfl) rfl (by show 2 * 0 + _ ≤ _; exact Nat.le_of_eq rfl) (hb hby at_64) (fun _ _ => ⟨rfl, rfl, (by decide : 2 + 0 ≤ _), (by decide : 5 + 0 ≤ _)⟩)
    dsimp only [Pt.U, Pt.locs, Pt.cells, Pt.slots] at X209 l209 y209 z209 st209 hQ209
    subst l209 y209 z209
    obtain ⟨rfl, Nq209, K209, p209_0⟩ := hQ209
    have N209 := Fr.app N199 Nq209
    have Zs209 : n0 ≤ T209.heap.size := Nat.le_trans Zs199 K209.1
    have KK209 : Keep h0 T209.heap [] := KK199.trans K209 (allS (Or.inr sz_rar_189) all0)
    have f210 := f200.keep K209
    have f211 := f201.keep K209 (ninS ne_b187_rar_189 nin0)
    have pre212 : ∀ t, Steps p.tables e below (T209.setTop (mkF m 132 #[.val (.int ps), .val (.int pb), .val (.int pe), .val (.int (2 : Int32)), .val (.ref b187), .val (.int (own_cnt (2 : Int32) (0 : Int32) (0 : Int32) (0 : Int32) (0 : Int32))), .val (.int (pb &&& (((1 : Int32) <<< ((2 : Int32) &&& 31)) - (1 : Int32)))), .val (.int ((pe &&& (3 : Int32)) % (2 : Int32))), .unset] [])) t → Steps p.tables e below G0 t := by
      intro t k
      refine pre207 t ?_
      show Steps p.tables e below (T199.setTop (mkF m 64 #[.val (.int ps), .val (.int pb), .val (.int pe), .val (.int (2 : Int32)), .val (.ref b187), .val (.int (own_cnt (2 : Int32) (0 : Int32) (0 : Int32) (0 : Int32) (0 : Int32))), .unset, .unset, .unset] [(.int v1), (.int (1 : Int32)), (.ref b187)])) _
      refine st209.trans ?_
      show Steps p.tables e below (T209.setTop (mkF m 67 #[.val (.int ps), .val (.int pb), .val (.int pe), .val (.int (2 : Int32)), .val (.ref b187), .val (.int (own_cnt (2 : Int32) (0 : Int32) (0 : Int32) (0 : Int32) (0 : Int32))), .unset, .unset, .unset] [])) _
      refine XS.iloadN X209.here hx rfl (hb hby at_67) rfl ?_
      show Steps p.tables e below (T209.setTop (mkF m 68 #[.val (.int ps), .val (.int pb), .val (.int pe), .val (.int (2 : Int32)), .val (.ref b187), .val (.int (own_cnt (2 : Int32) (0 : Int32) (0 : Int32) (0 : Int32) (0 : Int32))), .unset, .unset, .unset] [(.int (2 : Int32))])) _
      refine XS.iconst X209.here hx rfl (hb hby at_68) ?_
      show Steps p.tables e below (T209.setTop (mkF m 69 #[.val (.int ps), .val (.int pb), .val (.int pe), .val (.int (2 : Int32)), .val (.ref b187), .val (.int (own_cnt (2 : Int32) (0 : Int32) (0 : Int32) (0 : Int32) (0 : Int32))), .unset, .unset, .unset] [(.int (2 : Int32)), (.int (2 : Int32))])) _
      refine XS.icmpYes X209.here hx rfl (pc0 := 69) (pc' := 89) rfl (hb hby at_69) rfl (flt (by decide : ¬ ((2 : Int32) < (2 : Int32)))).2.2.2 (by decide) (by decide) ?_
      show Steps p.tables e below (T209.setTop (mkF m 89 #[.val (.int ps), .val (.int pb), .val (.int pe), .val (.int (2 : Int32)), .val (.ref b187), .val (.int (own_cnt (2 : Int32) (0 : Int32) (0 : Int32) (0 : Int32) (0 : Int32))), .unset, .unset, .unset] [])) _
      refine XS.iloadN X209.here hx rfl (hb hby at_89) rfl ?_
      show Steps p.tables e below (T209.setTop (mkF m 90 #[.val (.int ps), .val (.int pb), .val (.int pe), .val (.int (2 : Int32)), .val (.ref b187), .val (.int (own_cnt (2 : Int32) (0 : Int32) (0 : Int32) (0 : Int32) (0 : Int32))), .unset, .unset, .unset] [(.int (2 : Int32))])) _
      refine XS.iconst X209.here hx rfl (hb hby at_90) ?_
      show Steps p.tables e below (T209.setTop (mkF m 91 #[.val (.int ps), .val (.int pb), .val (.int pe), .val (.int (2 : Int32)), .val (.ref b187), .val (.int (own_cnt (2 : Int32) (0 : Int32) (0 : Int32) (0 : Int32) (0 : Int32))), .unset, .unset, .unset] [(.int (3 : Int32)), (.int (2 : Int32))])) _
      refine XS.icmpYes X209.here hx rfl (pc0 := 91) (pc' := 112) rfl (hb hby at_91) rfl (flt (by decide : ¬ ((3 : Int32) < (2 : Int32)))).2.2.2 (by decide) (by decide) ?_
      show Steps p.tables e below (T209.setTop (mkF m 112 #[.val (.int ps), .val (.int pb), .val (.int pe), .val (.int (2 : Int32)), .val (.ref b187), .val (.int (own_cnt (2 : Int32) (0 : Int32) (0 : Int32) (0 : Int32) (0 : Int32))), .unset, .unset, .unset] [])) _
      refine XS.iloadN X209.here hx rfl (hb hby at_112) rfl ?_
      show Steps p.tables e below (T209.setTop (mkF m 113 #[.val (.int ps), .val (.int pb), .val (.int pe), .val (.int (2 : Int32)), .val (.ref b187), .val (.int (own_cnt (2 : Int32) (0 : Int32) (0 : Int32) (0 : Int32) (0 : Int32))), .unset, .unset, .unset] [(.int pb)])) _
      refine XS.iconst X209.here hx rfl (hb hby at_113) ?_
      show Steps p.tables e below (T209.setTop (mkF m 114 #[.val (.int ps), .val (.int pb), .val (.int pe), .val (.int (2 : Int32)), .val (.ref b187), .val (.int (own_cnt (2 : Int32) (0 : Int32) (0 : Int32) (0 : Int32) (0 : Int32))), .unset, .unset, .unset] [(.int (1 : Int32)), (.int pb)])) _
      refine XS.iloadN X209.here hx rfl (hb hby at_114) rfl ?_
      show Steps p.tables e below (T209.setTop (mkF m 115 #[.val (.int ps), .val (.int pb), .val (.int pe), .val (.int (2 : Int32)), .val (.ref b187), .val (.int (own_cnt (2 : Int32) (0 : Int32) (0 : Int32) (0 : Int32) (0 : Int32))), .unset, .unset, .unset] [(.int (2 : Int32)), (.int (1 : Int32)), (.int pb)])) _
      refine XS.ishl X209.here hx rfl (hb hby at_115) rfl ?_
      show Steps p.tables e below (T209.setTop (mkF m 116 #[.val (.int ps), .val (.int pb), .val (.int pe), .val (.int (2 : Int32)), .val (.ref b187), .val (.int (own_cnt (2 : Int32) (0 : Int32) (0 : Int32) (0 : Int32) (0 : Int32))), .unset, .unset, .unset] [(.int ((1 : Int32) <<< ((2 : Int32) &&& 31))), (.int pb)])) _
      refine XS.iconst X209.here hx rfl (hb hby at_116) ?_
      show Steps p.tables e below (T209.setTop (mkF m 117 #[.val (.int ps), .val (.int pb), .val (.int pe), .val (.int (2 : Int32)), .val (.ref b187), .val (.int (own_cnt (2 : Int32) (0 : Int32) (0 : Int32) (0 : Int32) (0 : Int32))), .unset, .unset, .unset] [(.int (1 : Int32)), (.int ((1 : Int32) <<< ((2 : Int32) &&& 31))), (.int pb)])) _
      refine XS.isub X209.here hx rfl (hb hby at_117) rfl ?_
      show Steps p.tables e below (T209.setTop (mkF m 118 #[.val (.int ps), .val (.int pb), .val (.int pe), .val (.int (2 : Int32)), .val (.ref b187), .val (.int (own_cnt (2 : Int32) (0 : Int32) (0 : Int32) (0 : Int32) (0 : Int32))), .unset, .unset, .unset] [(.int (((1 : Int32) <<< ((2 : Int32) &&& 31)) - (1 : Int32))), (.int pb)])) _
      refine XS.iand X209.here hx rfl (hb hby at_118) rfl ?_
      show Steps p.tables e below (T209.setTop (mkF m 119 #[.val (.int ps), .val (.int pb), .val (.int pe), .val (.int (2 : Int32)), .val (.ref b187), .val (.int (own_cnt (2 : Int32) (0 : Int32) (0 : Int32) (0 : Int32) (0 : Int32))), .unset, .unset, .unset] [(.int (pb &&& (((1 : Int32) <<< ((2 : Int32) &&& 31)) - (1 : Int32))))])) _
      refine XS.istore X209.here hx rfl (hb hby at_119) rfl (l' := #[.val (.int ps), .val (.int pb), .val (.int pe), .val (.int (2 : Int32)), .val (.ref b187), .val (.int (own_cnt (2 : Int32) (0 : Int32) (0 : Int32) (0 : Int32) (0 : Int32))), .val (.int (pb &&& (((1 : Int32) <<< ((2 : Int32) &&& 31)) - (1 : Int32)))), .unset, .unset]) rfl ?_
      show Steps p.tables e below (T209.setTop (mkF m 121 #[.val (.int ps), .val (.int pb), .val (.int pe), .val (.int (2 : Int32)), .val (.ref b187), .val (.int (own_cnt (2 : Int32) (0 : Int32) (0 : Int32) (0 : Int32) (0 : Int32))), .val (.int (pb &&& (((1 : Int32) <<< ((2 : Int32) &&& 31)) - (1 : Int32)))), .unset, .unset] [])) _
      refine XS.iloadN X209.here hx rfl (hb hby at_121) rfl ?_
      show Steps p.tables e below (T209.setTop (mkF m 122 #[.val (.int ps), .val (.int pb), .val (.int pe), .val (.int (2 : Int32)), .val (.ref b187), .val (.int (own_cnt (2 : Int32) (0 : Int32) (0 : Int32) (0 : Int32) (0 : Int32))), .val (.int (pb &&& (((1 : Int32) <<< ((2 : Int32) &&& 31)) - (1 : Int32)))), .unset, .unset] [(.int (2 : Int32))])) _
      refine XS.ifNo X209.here hx rfl (hb hby at_122) rfl ((if0 _ _).trans (tlt (by decide : ((0 : Int32) < (2 : Int32)))).2.2.2) ?_
      show Steps p.tables e below (T209.setTop (mkF m 125 #[.val (.int ps), .val (.int pb), .val (.int pe), .val (.int (2 : Int32)), .val (.ref b187), .val (.int (own_cnt (2 : Int32) (0 : Int32) (0 : Int32) (0 : Int32) (0 : Int32))), .val (.int (pb &&& (((1 : Int32) <<< ((2 : Int32) &&& 31)) - (1 : Int32)))), .unset, .unset] [])) _
      refine XS.iloadN X209.here hx rfl (hb hby at_125) rfl ?_
      show Steps p.tables e below (T209.setTop (mkF m 126 #[.val (.int ps), .val (.int pb), .val (.int pe), .val (.int (2 : Int32)), .val (.ref b187), .val (.int (own_cnt (2 : Int32) (0 : Int32) (0 : Int32) (0 : Int32) (0 : Int32))), .val (.int (pb &&& (((1 : Int32) <<< ((2 : Int32) &&& 31)) - (1 : Int32)))), .unset, .unset] [(.int pe)])) _
      refine XS.iconst X209.here hx rfl (hb hby at_126) ?_
      show Steps p.tables e below (T209.setTop (mkF m 127 #[.val (.int ps), .val (.int pb), .val (.int pe), .val (.int (2 : Int32)), .val (.ref b187), .val (.int (own_cnt (2 : Int32) (0 : Int32) (0 : Int32) (0 : Int32) (0 : Int32))), .val (.int (pb &&& (((1 : Int32) <<< ((2 : Int32) &&& 31)) - (1 : Int32)))), .unset, .unset] [(.int (3 : Int32)), (.int pe)])) _
      refine XS.iand X209.here hx rfl (hb hby at_127) rfl ?_
      show Steps p.tables e below (T209.setTop (mkF m 128 #[.val (.int ps), .val (.int pb), .val (.int pe), .val (.int (2 : Int32)), .val (.ref b187), .val (.int (own_cnt (2 : Int32) (0 : Int32) (0 : Int32) (0 : Int32) (0 : Int32))), .val (.int (pb &&& (((1 : Int32) <<< ((2 : Int32) &&& 31)) - (1 : Int32)))), .unset, .unset] [(.int (pe &&& (3 : Int32)))])) _
      refine XS.iloadN X209.here hx rfl (hb hby at_128) rfl ?_
      show Steps p.tables e below (T209.setTop (mkF m 129 #[.val (.int ps), .val (.int pb), .val (.int pe), .val (.int (2 : Int32)), .val (.ref b187), .val (.int (own_cnt (2 : Int32) (0 : Int32) (0 : Int32) (0 : Int32) (0 : Int32))), .val (.int (pb &&& (((1 : Int32) <<< ((2 : Int32) &&& 31)) - (1 : Int32)))), .unset, .unset] [(.int (2 : Int32)), (.int (pe &&& (3 : Int32)))])) _
      refine iremM X209 hx rfl (hb hby at_129) rfl (by decide) ?_
      show Steps p.tables e below (T209.setTop (mkF m 130 #[.val (.int ps), .val (.int pb), .val (.int pe), .val (.int (2 : Int32)), .val (.ref b187), .val (.int (own_cnt (2 : Int32) (0 : Int32) (0 : Int32) (0 : Int32) (0 : Int32))), .val (.int (pb &&& (((1 : Int32) <<< ((2 : Int32) &&& 31)) - (1 : Int32)))), .unset, .unset] [(.int ((pe &&& (3 : Int32)) % (2 : Int32)))])) _
      refine XS.istore X209.here hx rfl (hb hby at_130) rfl (l' := #[.val (.int ps), .val (.int pb), .val (.int pe), .val (.int (2 : Int32)), .val (.ref b187), .val (.int (own_cnt (2 : Int32) (0 : Int32) (0 : Int32) (0 : Int32) (0 : Int32))), .val (.int (pb &&& (((1 : Int32) <<< ((2 : Int32) &&& 31)) - (1 : Int32)))), .val (.int ((pe &&& (3 : Int32)) % (2 : Int32))), .unset]) rfl ?_
      exact k
    obtain ⟨vz, hv219, pre218⟩ : ∃ (vz : Int32), (vz = 0 ∨ vz = 1) ∧ ∀ t, Steps p.tables e below (T209.setTop (mkF m 143 #[.val (.int ps), .val (.int pb), .val (.int pe), .val (.int (2 : Int32)), .val (.ref b187), .val (.int (own_cnt (2 : Int32) (0 : Int32) (0 : Int32) (0 : Int32) (0 : Int32))), .val (.int (pb &&& (((1 : Int32) <<< ((2 : Int32) &&& 31)) - (1 : Int32)))), .val (.int ((pe &&& (3 : Int32)) % (2 : Int32))), .unset] [(.int vz)])) t → Steps p.tables e below G0 t := by
      have pre213 : ∀ t, Steps p.tables e below (T209.setTop (mkF m 135 #[.val (.int ps), .val (.int pb), .val (.int pe), .val (.int (2 : Int32)), .val (.ref b187), .val (.int (own_cnt (2 : Int32) (0 : Int32) (0 : Int32) (0 : Int32) (0 : Int32))), .val (.int (pb &&& (((1 : Int32) <<< ((2 : Int32) &&& 31)) - (1 : Int32)))), .val (.int ((pe &&& (3 : Int32)) % (2 : Int32))), .unset] [(.int (pe &&& (4 : Int32)))])) t → Steps p.tables e below G0 t := by
        intro t k
        refine pre212 t ?_
        show Steps p.tables e below (T209.setTop (mkF m 132 #[.val (.int ps), .val (.int pb), .val (.int pe), .val (.int (2 : Int32)), .val (.ref b187), .val (.int (own_cnt (2 : Int32) (0 : Int32) (0 : Int32) (0 : Int32) (0 : Int32))), .val (.int (pb &&& (((1 : Int32) <<< ((2 : Int32) &&& 31)) - (1 : Int32)))), .val (.int ((pe &&& (3 : Int32)) % (2 : Int32))), .unset] [])) _
        refine XS.iloadN X209.here hx rfl (hb hby at_132) rfl ?_
        show Steps p.tables e below (T209.setTop (mkF m 133 #[.val (.int ps), .val (.int pb), .val (.int pe), .val (.int (2 : Int32)), .val (.ref b187), .val (.int (own_cnt (2 : Int32) (0 : Int32) (0 : Int32) (0 : Int32) (0 : Int32))), .val (.int (pb &&& (((1 : Int32) <<< ((2 : Int32) &&& 31)) - (1 : Int32)))), .val (.int ((pe &&& (3 : Int32)) % (2 : Int32))), .unset] [(.int pe)])) _
        refine XS.iconst X209.here hx rfl (hb hby at_133) ?_
        show Steps p.tables e below (T209.setTop (mkF m 134 #[.val (.int ps), .val (.int pb), .val (.int pe), .val (.int (2 : Int32)), .val (.ref b187), .val (.int (own_cnt (2 : Int32) (0 : Int32) (0 : Int32) (0 : Int32) (0 : Int32))), .val (.int (pb &&& (((1 : Int32) <<< ((2 : Int32) &&& 31)) - (1 : Int32)))), .val (.int ((pe &&& (3 : Int32)) % (2 : Int32))), .unset] [(.int (4 : Int32)), (.int pe)])) _
        refine XS.iand X209.here hx rfl (hb hby at_134) rfl ?_
        exact k
      by_cases hc135_214 : (pe &&& (4 : Int32)) = (0 : Int32)
      · have pre215 : ∀ t, Steps p.tables e below (T209.setTop (mkF m 143 #[.val (.int ps), .val (.int pb), .val (.int pe), .val (.int (2 : Int32)), .val (.ref b187), .val (.int (own_cnt (2 : Int32) (0 : Int32) (0 : Int32) (0 : Int32) (0 : Int32))), .val (.int (pb &&& (((1 : Int32) <<< ((2 : Int32) &&& 31)) - (1 : Int32)))), .val (.int ((pe &&& (3 : Int32)) % (2 : Int32))), .unset] [(.int (0 : Int32))])) t → Steps p.tables e below G0 t := by
          intro t k
          refine pre213 t ?_
          show Steps p.tables e below (T209.setTop (mkF m 135 #[.val (.int ps), .val (.int pb), .val (.int pe), .val (.int (2 : Int32)), .val (.ref b187), .val (.int (own_cnt (2 : Int32) (0 : Int32) (0 : Int32) (0 : Int32) (0 : Int32))), .val (.int (pb &&& (((1 : Int32) <<< ((2 : Int32) &&& 31)) - (1 : Int32)))), .val (.int ((pe &&& (3 : Int32)) % (2 : Int32))), .unset] [(.int (pe &&& (4 : Int32)))])) _
          refine XS.ifYes X209.here hx rfl (pc0 := 135) (pc' := 142) rfl (hb hby at_135) rfl ((if0 _ _).trans (teq hc135_214).1) (by decide) (by decide) ?_
          show Steps p.tables e below (T209.setTop (mkF m 142 #[.val (.int ps), .val (.int pb), .val (.int pe), .val (.int (2 : Int32)), .val (.ref b187), .val (.int (own_cnt (2 : Int32) (0 : Int32) (0 : Int32) (0 : Int32) (0 : Int32))), .val (.int (pb &&& (((1 : Int32) <<< ((2 : Int32) &&& 31)) - (1 : Int32)))), .val (.int ((pe &&& (3 : Int32)) % (2 : Int32))), .unset] [])) _
          refine XS.iconst X209.here hx rfl (hb hby at_142) ?_
          exact k
        exact ⟨(0 : Int32), (by simp), pre215⟩
      · have pre216 : ∀ t, Steps p.tables e below (T209.setTop (mkF m 143 #[.val (.int ps), .val (.int pb), .val (.int pe), .val (.int (2 : Int32)), .val (.ref b187), .val (.int (own_cnt (2 : Int32) (0 : Int32) (0 : Int32) (0 : Int32) (0 : Int32))), .val (.int (pb &&& (((1 : Int32) <<< ((2 : Int32) &&& 31)) - (1 : Int32)))), .val (.int ((pe &&& (3 : Int32)) % (2 : Int32))), .unset] [(.int (1 : Int32))])) t → Steps p.tables e below G0 t := by
          intro t k
          refine pre213 t ?_
          show Steps p.tables e below (T209.setTop (mkF m 135 #[.val (.int ps), .val (.int pb), .val (.int pe), .val (.int (2 : Int32)), .val (.ref b187), .val (.int (own_cnt (2 : Int32) (0 : Int32) (0 : Int32) (0 : Int32) (0 : Int32))), .val (.int (pb &&& (((1 : Int32) <<< ((2 : Int32) &&& 31)) - (1 : Int32)))), .val (.int ((pe &&& (3 : Int32)) % (2 : Int32))), .unset] [(.int (pe &&& (4 : Int32)))])) _
          refine XS.ifNo X209.here hx rfl (hb hby at_135) rfl ((if0 _ _).trans (feq hc135_214).1) ?_
          show Steps p.tables e below (T209.setTop (mkF m 138 #[.val (.int ps), .val (.int pb), .val (.int pe), .val (.int (2 : Int32)), .val (.ref b187), .val (.int (own_cnt (2 : Int32) (0 : Int32) (0 : Int32) (0 : Int32) (0 : Int32))), .val (.int (pb &&& (((1 : Int32) <<< ((2 : Int32) &&& 31)) - (1 : Int32)))), .val (.int ((pe &&& (3 : Int32)) % (2 : Int32))), .unset] [])) _
          refine XS.iconst X209.here hx rfl (hb hby at_138) ?_
          show Steps p.tables e below (T209.setTop (mkF m 139 #[.val (.int ps), .val (.int pb), .val (.int pe), .val (.int (2 : Int32)), .val (.ref b187), .val (.int (own_cnt (2 : Int32) (0 : Int32) (0 : Int32) (0 : Int32) (0 : Int32))), .val (.int (pb &&& (((1 : Int32) <<< ((2 : Int32) &&& 31)) - (1 : Int32)))), .val (.int ((pe &&& (3 : Int32)) % (2 : Int32))), .unset] [(.int (1 : Int32))])) _
          refine XS.goto X209.here hx rfl (pc0 := 139) (pc' := 143) rfl (hb hby at_139) (by decide) (by decide) ?_
          exact k
        exact ⟨(1 : Int32), (by simp), pre216⟩
    obtain ⟨Tm230, hm230, lm230, kv, ee0, ee1, Xm230, em230, Nm230, Zm230, Km230, f231, f232, f233, hv235, pre234⟩ : ∃ (Tm230 : State) (hm230 : Heap) (lm230 : List Loc) (kv : Int32) (ee0 : Int32) (ee1 : Int32), Stand p l e room_1 s m #[(.int ps), (.int pb), (.int pe)] below meth c Tm230 lm230 2 5 ∧ Tm230.heap = hm230 ∧ Fr n0 lm230 ∧ n0 ≤ hm230.size ∧ Keep h0 hm230 [] ∧ Exa Z hm230 b187 "com/example/tresse/tresse/rwlock/Flags" ∧ Fld Z hm230 b187 "com/example/tresse/tresse/rwlock/Flags" "values" "[Z" (.ref rar_189) ∧ Arv Z hm230 rar_189 rkk_189 .boolean (2 : Int32) [(.int ee0), (.int ee1), (.int (0 : Int32)), (.int (0 : Int32))] (.int (0 : Int32)) ∧ ((kv = 0 ∧ ee0 = (nar .boolean vz) ∧ ee1 = (nar .boolean v1)) ∨ (kv = 1 ∧ ee0 = (nar .boolean v0) ∧ ee1 = (nar .boolean vz))) ∧ ∀ t, Steps p.tables e below (Tm230.setTop (mkF m 154 #[.val (.int ps), .val (.int pb), .val (.int pe), .val (.int (2 : Int32)), .val (.ref b187), .val (.int (own_cnt (2 : Int32) (0 : Int32) (0 : Int32) (0 : Int32) (0 : Int32))), .val (.int (pb &&& (((1 : Int32) <<< ((2 : Int32) &&& 31)) - (1 : Int32)))), .val (.int kv), .val (.int vz)] [])) t → Steps p.tables e below G0 t := by
      rcases own_k2 pe with hq220 | hq221
      · rw [hq220] at pre218
        obtain ⟨cq222, kq222, q222a, q222b, q222c⟩ := isOf hZ rfl f210
        obtain ⟨_, _, ⟨T222, L222, k222, n222⟩, -, X222, ⟨Lc222, hQ222, l222, y222, z222⟩, st222⟩ := X209.virtualBack hx (y := (⟨"com/example/tresse/tresse/rwlock/Flags", "set", "(IZ)V"⟩ : MethodName)) (z := (⟨"com/example/tresse/tresse/rwlock/Flags", "set", "(IZ)V"⟩ : MethodName)) hown (mvT hZ (hw _ (List.mem_of_getElem? (i := 22) rfl))) (mvT hZ (hw _ (List.mem_of_getElem? (i := 23) rfl))) (notFace_of_selects (args := #[]) (mvT hZ (hw _ (List.mem_of_getElem? (i := 25) rfl)))) (mvT hZ (hw _ (List.mem_of_getElem? (i := 25) rfl))) (mvT hZ (hw _ (List.mem_of_getElem? (i := 24) rfl))) (by decide) (backOf (W := 0) (rm5j0 l Z a0 hw [] b187 vz rar_189 rkk_189 (2 : Int32) (nar .boolean v0) (nar .boolean v1) (0 : Int32) (0 : Int32) T209.heap n0 Zs209 f211 p209_0 g_rar_189 ne_b187_rar_189 (by decide)) hZ (hw _ (List.mem_of_getElem? (i := 26) rfl)) (hw _ (List.mem_of_getElem? (i := 3) rfl)) (by decide) (by decide)) q222a q222c (g := (mkF m 151 #[.val (.int ps), .val (.int pb), .val (.int pe), .val (.int (2 : Int32)), .val (.ref b187), .val (.int (own_cnt (2 : Int32) (0 : Int32) (0 : Int32) (0 : Int32) (0 : Int32))), .val (.int (pb &&& (((1 : Int32) <<< ((2 : Int32) &&& 31)) - (1 : Int32)))), .val (.int (0 : Int32)), .val (.int vz)] [(.int vz), (.int (0 : Int32)), (.ref b187)])) rfl (by rw [hml]; rfl) (Steps.refl _) (argsL := [(.int (0 : Int32)), (.int vz)]) (rest := []) (lenOf own_pd52 rfl) rfl (by show 2 * 0 + _ ≤ _; exact Nat.le_of_eq rfl) (hb hby at_151) (fun _ _ => ⟨rfl, rfl, (by decide : 2 + 0 ≤ _), (by decide : 5 + 0 ≤ _)⟩)
        dsimp only [Pt.U, Pt.locs, Pt.cells, Pt.slots] at X222 l222 y222 z222 st222 hQ222
        subst l222 y222 z222
        obtain ⟨rfl, Nq222, K222, p222_0⟩ := hQ222
        have N222 := Fr.app N209 Nq222
        have Zs222 : n0 ≤ T222.heap.size := Nat.le_trans Zs209 K222.1
        have KK222 : Keep h0 T222.heap [] := KK209.trans K222 (allS (Or.inr sz_rar_189) all0)
        have f223 := f210.keep K222
        have f224 := f211.keep K222 (ninS ne_b187_rar_189 nin0)
        have pre225 : ∀ t, Steps p.tables e below (T222.setTop (mkF m 154 #[.val (.int ps), .val (.int pb), .val (.int pe), .val (.int (2 : Int32)), .val (.ref b187), .val (.int (own_cnt (2 : Int32) (0 : Int32) (0 : Int32) (0 : Int32) (0 : Int32))), .val (.int (pb &&& (((1 : Int32) <<< ((2 : Int32) &&& 31)) - (1 : Int32)))), .val (.int (0 : Int32)), .val (.int vz)] [])) t → Steps p.tables e below G0 t := by
          intro t k
          refine pre218 t ?_
          show Steps p.tables e below (T209.setTop (mkF m 143 #[.val (.int ps), .val (.int pb), .val (.int pe), .val (.int (2 : Int32)), .val (.ref b187), .val (.int (own_cnt (2 : Int32) (0 : Int32) (0 : Int32) (0 : Int32) (0 : Int32))), .val (.int (pb &&& (((1 : Int32) <<< ((2 : Int32) &&& 31)) - (1 : Int32)))), .val (.int (0 : Int32)), .unset] [(.int vz)])) _
          refine XS.istore X209.here hx rfl (hb hby at_143) rfl (l' := #[.val (.int ps), .val (.int pb), .val (.int pe), .val (.int (2 : Int32)), .val (.ref b187), .val (.int (own_cnt (2 : Int32) (0 : Int32) (0 : Int32) (0 : Int32) (0 : Int32))), .val (.int (pb &&& (((1 : Int32) <<< ((2 : Int32) &&& 31)) - (1 : Int32)))), .val (.int (0 : Int32)), .val (.int vz)]) rfl ?_
          show Steps p.tables e below (T209.setTop (mkF m 145 #[.val (.int ps), .val (.int pb), .val (.int pe), .val (.int (2 : Int32)), .val (.ref b187), .val (.int (own_cnt (2 : Int32) (0 : Int32) (0 : Int32) (0 : Int32) (0 : Int32))), .val (.int (pb &&& (((1 : Int32) <<< ((2 : Int32) &&& 31)) - (1 : Int32)))), .val (.int (0 : Int32)), .val (.int vz)] [])) _
          refine XS.aload X209.here hx rfl (hb hby at_145) rfl rfl ?_
          show Steps p.tables e below (T209.setTop (mkF m 147 #[.val (.int ps), .val (.int pb), .val (.int pe), .val (.int (2 : Int32)), .val (.ref b187), .val (.int (own_cnt (2 : Int32) (0 : Int32) (0 : Int32) (0 : Int32) (0 : Int32))), .val (.int (pb &&& (((1 : Int32) <<< ((2 : Int32) &&& 31)) - (1 : Int32)))), .val (.int (0 : Int32)), .val (.int vz)] [(.ref b187)])) _
          refine XS.iload X209.here hx rfl (hb hby at_147) rfl ?_
          show Steps p.tables e below (T209.setTop (mkF m 149 #[.val (.int ps), .val (.int pb), .val (.int pe), .val (.int (2 : Int32)), .val (.ref b187), .val (.int (own_cnt (2 : Int32) (0 : Int32) (0 : Int32) (0 : Int32) (0 : Int32))), .val (.int (pb &&& (((1 : Int32) <<< ((2 : Int32) &&& 31)) - (1 : Int32)))), .val (.int (0 : Int32)), .val (.int vz)] [(.int (0 : Int32)), (.ref b187)])) _
          refine XS.iload X209.here hx rfl (hb hby at_149) rfl ?_
          show Steps p.tables e below (T209.setTop (mkF m 151 #[.val (.int ps), .val (.int pb), .val (.int pe), .val (.int (2 : Int32)), .val (.ref b187), .val (.int (own_cnt (2 : Int32) (0 : Int32) (0 : Int32) (0 : Int32) (0 : Int32))), .val (.int (pb &&& (((1 : Int32) <<< ((2 : Int32) &&& 31)) - (1 : Int32)))), .val (.int (0 : Int32)), .val (.int vz)] [(.int vz), (.int (0 : Int32)), (.ref b187)])) _
          refine st222.trans ?_
          exact k
        exact ⟨T222, T222.heap, _, (0 : Int32), (nar .boolean vz), (nar .boolean v1), X222, rfl, N222, Zs222, KK222, f223, f224, p222_0, (by exact Or.inl ⟨rfl, rfl, rfl⟩), pre225⟩
      · rw [hq221] at pre218
        obtain ⟨cq226, kq226, q226a, q226b, q226c⟩ := isOf hZ rfl f210
        obtain ⟨_, _, ⟨T226, L226, k226, n226⟩, -, X226, ⟨Lc226, hQ226, l226, y226, z226⟩, st226⟩ := X209.virtualBack hx (y := (⟨"com/example/tresse/tresse/rwlock/Flags", "set", "(IZ)V"⟩ : MethodName)) (z := (⟨"com/example/tresse/tresse/rwlock/Flags", "set", "(IZ)V"⟩ : MethodName)) hown (mvT hZ (hw _ (List.mem_of_getElem? (i := 22) rfl))) (mvT hZ (hw _ (List.mem_of_getElem? (i := 23) rfl))) (notFace_of_selects (args := #[]) (mvT hZ (hw _ (List.mem_of_getElem? (i := 25) rfl)))) (mvT hZ (hw _ (List.mem_of_getElem? (i := 25) rfl))) (mvT hZ (hw _ (List.mem_of_getElem? (i := 24) rfl))) (by decide) (backOf (W := 0) (rm5j1 l Z a0 hw [] b187 vz rar_189 rkk_189 (2 : Int32) (nar .boolean v0) (nar .boolean v1) (0 : Int32) (0 : Int32) T209.heap n0 Zs209 f211 p209_0 g_rar_189 ne_b187_rar_189 (by decide)) hZ (hw _ (List.mem_of_getElem? (i := 26) rfl)) (hw _ (List.mem_of_getElem? (i := 3) rfl)) (by decide) (by decide)) q226a q226c (g := (mkF m 151 #[.val (.int ps), .val (.int pb), .val (.int pe), .val (.int (2 : Int32)), .val (.ref b187), .val (.int (own_cnt (2 : Int32) (0 : Int32) (0 : Int32) (0 : Int32) (0 : Int32))), .val (.int (pb &&& (((1 : Int32) <<< ((2 : Int32) &&& 31)) - (1 : Int32)))), .val (.int (1 : Int32)), .val (.int vz)] [(.int vz), (.int (1 : Int32)), (.ref b187)])) rfl (by rw [hml]; rfl) (Steps.refl _) (argsL := [(.int (1 : Int32)), (.int vz)]) (rest := []) (lenOf own_pd52 rfl) rfl (by show 2 * 0 + _ ≤ _; exact Nat.le_of_eq rfl) (hb hby at_151) (fun _ _ => ⟨rfl, rfl, (by decide : 2 + 0 ≤ _), (by decide : 5 + 0 ≤ _)⟩)
        dsimp only [Pt.U, Pt.locs, Pt.cells, Pt.slots] at X226 l226 y226 z226 st226 hQ226
        subst l226 y226 z226
        obtain ⟨rfl, Nq226, K226, p226_0⟩ := hQ226
        have N226 := Fr.app N209 Nq226
        have Zs226 : n0 ≤ T226.heap.size := Nat.le_trans Zs209 K226.1
        have KK226 : Keep h0 T226.heap [] := KK209.trans K226 (allS (Or.inr sz_rar_189) all0)
        have f227 := f210.keep K226
        have f228 := f211.keep K226 (ninS ne_b187_rar_189 nin0)
        have pre229 : ∀ t, Steps p.tables e below (T226.setTop (mkF m 154 #[.val (.int ps), .val (.int pb), .val (.int pe), .val (.int (2 : Int32)), .val (.ref b187), .val (.int (own_cnt (2 : Int32) (0 : Int32) (0 : Int32) (0 : Int32) (0 : Int32))), .val (.int (pb &&& (((1 : Int32) <<< ((2 : Int32) &&& 31)) - (1 : Int32)))), .val (.int (1 : Int32)), .val (.int vz)] [])) t → Steps p.tables e below G0 t := by
          intro t k
          refine pre218 t ?_
          show Steps p.tables e below (T209.setTop (mkF m 143 #[.val (.int ps), .val (.int pb), .val (.int pe), .val (.int (2 : Int32)), .val (.ref b187), .val (.int (own_cnt (2 : Int32) (0 : Int32) (0 : Int32) (0 : Int32) (0 : Int32))), .val (.int (pb &&& (((1 : Int32) <<< ((2 : Int32) &&& 31)) - (1 : Int32)))), .val (.int (1 : Int32)), .unset] [(.int vz)])) _
          refine XS.istore X209.here hx rfl (hb hby at_143) rfl (l' := #[.val (.int ps), .val (.int pb), .val (.int pe), .val (.int (2 : Int32)), .val (.ref b187), .val (.int (own_cnt (2 : Int32) (0 : Int32) (0 : Int32) (0 : Int32) (0 : Int32))), .val (.int (pb &&& (((1 : Int32) <<< ((2 : Int32) &&& 31)) - (1 : Int32)))), .val (.int (1 : Int32)), .val (.int vz)]) rfl ?_
          show Steps p.tables e below (T209.setTop (mkF m 145 #[.val (.int ps), .val (.int pb), .val (.int pe), .val (.int (2 : Int32)), .val (.ref b187), .val (.int (own_cnt (2 : Int32) (0 : Int32) (0 : Int32) (0 : Int32) (0 : Int32))), .val (.int (pb &&& (((1 : Int32) <<< ((2 : Int32) &&& 31)) - (1 : Int32)))), .val (.int (1 : Int32)), .val (.int vz)] [])) _
          refine XS.aload X209.here hx rfl (hb hby at_145) rfl rfl ?_
          show Steps p.tables e below (T209.setTop (mkF m 147 #[.val (.int ps), .val (.int pb), .val (.int pe), .val (.int (2 : Int32)), .val (.ref b187), .val (.int (own_cnt (2 : Int32) (0 : Int32) (0 : Int32) (0 : Int32) (0 : Int32))), .val (.int (pb &&& (((1 : Int32) <<< ((2 : Int32) &&& 31)) - (1 : Int32)))), .val (.int (1 : Int32)), .val (.int vz)] [(.ref b187)])) _
          refine XS.iload X209.here hx rfl (hb hby at_147) rfl ?_
          show Steps p.tables e below (T209.setTop (mkF m 149 #[.val (.int ps), .val (.int pb), .val (.int pe), .val (.int (2 : Int32)), .val (.ref b187), .val (.int (own_cnt (2 : Int32) (0 : Int32) (0 : Int32) (0 : Int32) (0 : Int32))), .val (.int (pb &&& (((1 : Int32) <<< ((2 : Int32) &&& 31)) - (1 : Int32)))), .val (.int (1 : Int32)), .val (.int vz)] [(.int (1 : Int32)), (.ref b187)])) _
          refine XS.iload X209.here hx rfl (hb hby at_149) rfl ?_
          show Steps p.tables e below (T209.setTop (mkF m 151 #[.val (.int ps), .val (.int pb), .val (.int pe), .val (.int (2 : Int32)), .val (.ref b187), .val (.int (own_cnt (2 : Int32) (0 : Int32) (0 : Int32) (0 : Int32) (0 : Int32))), .val (.int (pb &&& (((1 : Int32) <<< ((2 : Int32) &&& 31)) - (1 : Int32)))), .val (.int (1 : Int32)), .val (.int vz)] [(.int vz), (.int (1 : Int32)), (.ref b187)])) _
          refine st226.trans ?_
          exact k
        exact ⟨T226, T226.heap, _, (1 : Int32), (nar .boolean v0), (nar .boolean vz), X226, rfl, N226, Zs226, KK226, f227, f228, p226_0, (by exact Or.inr (⟨rfl, rfl, rfl⟩)), pre229⟩
    obtain ⟨bb, hv242, pre241⟩ : ∃ (bb : Int32), (bb = if vz = 0 then ((pb &&& (((1 : Int32) <<< ((2 : Int32) &&& 31)) - (1 : Int32))) &&& (((1 : Int32) <<< (kv &&& 31)) ^^^ (-1 : Int32))) else ((pb &&& (((1 : Int32) <<< ((2 : Int32) &&& 31)) - (1 : Int32))) ||| ((1 : Int32) <<< (kv &&& 31)))) ∧ ∀ t, Steps p.tables e below (Tm230.setTop (mkF m 182 #[.val (.int ps), .val (.int pb), .val (.int pe), .val (.int (2 : Int32)), .val (.ref b187), .val (.int (own_cnt (2 : Int32) (0 : Int32) (0 : Int32) (0 : Int32) (0 : Int32))), .val (.int bb), .val (.int kv), .val (.int vz)] [])) t → Steps p.tables e below G0 t := by
      have pre236 : ∀ t, Steps p.tables e below (Tm230.setTop (mkF m 156 #[.val (.int ps), .val (.int pb), .val (.int pe), .val (.int (2 : Int32)), .val (.ref b187), .val (.int (own_cnt (2 : Int32) (0 : Int32) (0 : Int32) (0 : Int32) (0 : Int32))), .val (.int (pb &&& (((1 : Int32) <<< ((2 : Int32) &&& 31)) - (1 : Int32)))), .val (.int kv), .val (.int vz)] [(.int vz)])) t → Steps p.tables e below G0 t := by
        intro t k
        refine pre234 t ?_
        show Steps p.tables e below (Tm230.setTop (mkF m 154 #[.val (.int ps), .val (.int pb), .val (.int pe), .val (.int (2 : Int32)), .val (.ref b187), .val (.int (own_cnt (2 : Int32) (0 : Int32) (0 : Int32) (0 : Int32) (0 : Int32))), .val (.int (pb &&& (((1 : Int32) <<< ((2 : Int32) &&& 31)) - (1 : Int32)))), .val (.int kv), .val (.int vz)] [])) _
        refine XS.iload Xm230.here hx rfl (hb hby at_154) rfl ?_
        exact k
      by_cases hc156_237 : vz = (0 : Int32)
      · have pre238 : ∀ t, Steps p.tables e below (Tm230.setTop (mkF m 182 #[.val (.int ps), .val (.int pb), .val (.int pe), .val (.int (2 : Int32)), .val (.ref b187), .val (.int (own_cnt (2 : Int32) (0 : Int32) (0 : Int32) (0 : Int32) (0 : Int32))), .val (.int ((pb &&& (((1 : Int32) <<< ((2 : Int32) &&& 31)) - (1 : Int32))) &&& (((1 : Int32) <<< (kv &&& 31)) ^^^ (-1 : Int32)))), .val (.int kv), .val (.int vz)] [])) t → Steps p.tables e below G0 t := by
          intro t k
          refine pre236 t ?_
          show Steps p.tables e below (Tm230.setTop (mkF m 156 #[.val (.int ps), .val (.int pb), .val (.int pe), .val (.int (2 : Int32)), .val (.ref b187), .val (.int (own_cnt (2 : Int32) (0 : Int32) (0 : Int32) (0 : Int32) (0 : Int32))), .val (.int (pb &&& (((1 : Int32) <<< ((2 : Int32) &&& 31)) - (1 : Int32)))), .val (.int kv), .val (.int vz)] [(.int vz)])) _
          refine XS.ifYes Xm230.here hx rfl (pc0 := 156) (pc' := 171) rfl (hb hby at_156) rfl ((if0 _ _).trans (teq hc156_237).1) (by decide) (by decide) ?_
          show Steps p.tables e below (Tm230.setTop (mkF m 171 #[.val (.int ps), .val (.int pb), .val (.int pe), .val (.int (2 : Int32)), .val (.ref b187), .val (.int (own_cnt (2 : Int32) (0 : Int32) (0 : Int32) (0 : Int32) (0 : Int32))), .val (.int (pb &&& (((1 : Int32) <<< ((2 : Int32) &&& 31)) - (1 : Int32)))), .val (.int kv), .val (.int vz)] [])) _
          refine XS.iload Xm230.here hx rfl (hb hby at_171) rfl ?_
          show Steps p.tables e below (Tm230.setTop (mkF m 173 #[.val (.int ps), .val (.int pb), .val (.int pe), .val (.int (2 : Int32)), .val (.ref b187), .val (.int (own_cnt (2 : Int32) (0 : Int32) (0 : Int32) (0 : Int32) (0 : Int32))), .val (.int (pb &&& (((1 : Int32) <<< ((2 : Int32) &&& 31)) - (1 : Int32)))), .val (.int kv), .val (.int vz)] [(.int (pb &&& (((1 : Int32) <<< ((2 : Int32) &&& 31)) - (1 : Int32))))])) _
          refine XS.iconst Xm230.here hx rfl (hb hby at_173) ?_
          show Steps p.tables e below (Tm230.setTop (mkF m 174 #[.val (.int ps), .val (.int pb), .val (.int pe), .val (.int (2 : Int32)), .val (.ref b187), .val (.int (own_cnt (2 : Int32) (0 : Int32) (0 : Int32) (0 : Int32) (0 : Int32))), .val (.int (pb &&& (((1 : Int32) <<< ((2 : Int32) &&& 31)) - (1 : Int32)))), .val (.int kv), .val (.int vz)] [(.int (1 : Int32)), (.int (pb &&& (((1 : Int32) <<< ((2 : Int32) &&& 31)) - (1 : Int32))))])) _
          refine XS.iload Xm230.here hx rfl (hb hby at_174) rfl ?_
          show Steps p.tables e below (Tm230.setTop (mkF m 176 #[.val (.int ps), .val (.int pb), .val (.int pe), .val (.int (2 : Int32)), .val (.ref b187), .val (.int (own_cnt (2 : Int32) (0 : Int32) (0 : Int32) (0 : Int32) (0 : Int32))), .val (.int (pb &&& (((1 : Int32) <<< ((2 : Int32) &&& 31)) - (1 : Int32)))), .val (.int kv), .val (.int vz)] [(.int kv), (.int (1 : Int32)), (.int (pb &&& (((1 : Int32) <<< ((2 : Int32) &&& 31)) - (1 : Int32))))])) _
          refine XS.ishl Xm230.here hx rfl (hb hby at_176) rfl ?_
          show Steps p.tables e below (Tm230.setTop (mkF m 177 #[.val (.int ps), .val (.int pb), .val (.int pe), .val (.int (2 : Int32)), .val (.ref b187), .val (.int (own_cnt (2 : Int32) (0 : Int32) (0 : Int32) (0 : Int32) (0 : Int32))), .val (.int (pb &&& (((1 : Int32) <<< ((2 : Int32) &&& 31)) - (1 : Int32)))), .val (.int kv), .val (.int vz)] [(.int ((1 : Int32) <<< (kv &&& 31))), (.int (pb &&& (((1 : Int32) <<< ((2 : Int32) &&& 31)) - (1 : Int32))))])) _
          refine XS.iconst Xm230.here hx rfl (hb hby at_177) ?_
          show Steps p.tables e below (Tm230.setTop (mkF m 178 #[.val (.int ps), .val (.int pb), .val (.int pe), .val (.int (2 : Int32)), .val (.ref b187), .val (.int (own_cnt (2 : Int32) (0 : Int32) (0 : Int32) (0 : Int32) (0 : Int32))), .val (.int (pb &&& (((1 : Int32) <<< ((2 : Int32) &&& 31)) - (1 : Int32)))), .val (.int kv), .val (.int vz)] [(.int (-1 : Int32)), (.int ((1 : Int32) <<< (kv &&& 31))), (.int (pb &&& (((1 : Int32) <<< ((2 : Int32) &&& 31)) - (1 : Int32))))])) _
          refine XS.ixor Xm230.here hx rfl (hb hby at_178) rfl ?_
          show Steps p.tables e below (Tm230.setTop (mkF m 179 #[.val (.int ps), .val (.int pb), .val (.int pe), .val (.int (2 : Int32)), .val (.ref b187), .val (.int (own_cnt (2 : Int32) (0 : Int32) (0 : Int32) (0 : Int32) (0 : Int32))), .val (.int (pb &&& (((1 : Int32) <<< ((2 : Int32) &&& 31)) - (1 : Int32)))), .val (.int kv), .val (.int vz)] [(.int (((1 : Int32) <<< (kv &&& 31)) ^^^ (-1 : Int32))), (.int (pb &&& (((1 : Int32) <<< ((2 : Int32) &&& 31)) - (1 : Int32))))])) _
          refine XS.iand Xm230.here hx rfl (hb hby at_179) rfl ?_
          show Steps p.tables e below (Tm230.setTop (mkF m 180 #[.val (.int ps), .val (.int pb), .val (.int pe), .val (.int (2 : Int32)), .val (.ref b187), .val (.int (own_cnt (2 : Int32) (0 : Int32) (0 : Int32) (0 : Int32) (0 : Int32))), .val (.int (pb &&& (((1 : Int32) <<< ((2 : Int32) &&& 31)) - (1 : Int32)))), .val (.int kv), .val (.int vz)] [(.int ((pb &&& (((1 : Int32) <<< ((2 : Int32) &&& 31)) - (1 : Int32))) &&& (((1 : Int32) <<< (kv &&& 31)) ^^^ (-1 : Int32))))])) _
          refine XS.istore Xm230.here hx rfl (hb hby at_180) rfl (l' := #[.val (.int ps), .val (.int pb), .val (.int pe), .val (.int (2 : Int32)), .val (.ref b187), .val (.int (own_cnt (2 : Int32) (0 : Int32) (0 : Int32) (0 : Int32) (0 : Int32))), .val (.int ((pb &&& (((1 : Int32) <<< ((2 : Int32) &&& 31)) - (1 : Int32))) &&& (((1 : Int32) <<< (kv &&& 31)) ^^^ (-1 : Int32)))), .val (.int kv), .val (.int vz)]) rfl ?_
          exact k
        exact ⟨((pb &&& (((1 : Int32) <<< ((2 : Int32) &&& 31)) - (1 : Int32))) &&& (((1 : Int32) <<< (kv &&& 31)) ^^^ (-1 : Int32))), (by rw [if_pos hc156_237]), pre238⟩
      · have pre239 : ∀ t, Steps p.tables e below (Tm230.setTop (mkF m 182 #[.val (.int ps), .val (.int pb), .val (.int pe), .val (.int (2 : Int32)), .val (.ref b187), .val (.int (own_cnt (2 : Int32) (0 : Int32) (0 : Int32) (0 : Int32) (0 : Int32))), .val (.int ((pb &&& (((1 : Int32) <<< ((2 : Int32) &&& 31)) - (1 : Int32))) ||| ((1 : Int32) <<< (kv &&& 31)))), .val (.int kv), .val (.int vz)] [])) t → Steps p.tables e below G0 t := by
          intro t k
          refine pre236 t ?_
          show Steps p.tables e below (Tm230.setTop (mkF m 156 #[.val (.int ps), .val (.int pb), .val (.int pe), .val (.int (2 : Int32)), .val (.ref b187), .val (.int (own_cnt (2 : Int32) (0 : Int32) (0 : Int32) (0 : Int32) (0 : Int32))), .val (.int (pb &&& (((1 : Int32) <<< ((2 : Int32) &&& 31)) - (1 : Int32)))), .val (.int kv), .val (.int vz)] [(.int vz)])) _
          refine XS.ifNo Xm230.here hx rfl (hb hby at_156) rfl ((if0 _ _).trans (feq hc156_237).1) ?_
          show Steps p.tables e below (Tm230.setTop (mkF m 159 #[.val (.int ps), .val (.int pb), .val (.int pe), .val (.int (2 : Int32)), .val (.ref b187), .val (.int (own_cnt (2 : Int32) (0 : Int32) (0 : Int32) (0 : Int32) (0 : Int32))), .val (.int (pb &&& (((1 : Int32) <<< ((2 : Int32) &&& 31)) - (1 : Int32)))), .val (.int kv), .val (.int vz)] [])) _
          refine XS.iload Xm230.here hx rfl (hb hby at_159) rfl ?_
          show Steps p.tables e below (Tm230.setTop (mkF m 161 #[.val (.int ps), .val (.int pb), .val (.int pe), .val (.int (2 : Int32)), .val (.ref b187), .val (.int (own_cnt (2 : Int32) (0 : Int32) (0 : Int32) (0 : Int32) (0 : Int32))), .val (.int (pb &&& (((1 : Int32) <<< ((2 : Int32) &&& 31)) - (1 : Int32)))), .val (.int kv), .val (.int vz)] [(.int (pb &&& (((1 : Int32) <<< ((2 : Int32) &&& 31)) - (1 : Int32))))])) _
          refine XS.iconst Xm230.here hx rfl (hb hby at_161) ?_
          show Steps p.tables e below (Tm230.setTop (mkF m 162 #[.val (.int ps), .val (.int pb), .val (.int pe), .val (.int (2 : Int32)), .val (.ref b187), .val (.int (own_cnt (2 : Int32) (0 : Int32) (0 : Int32) (0 : Int32) (0 : Int32))), .val (.int (pb &&& (((1 : Int32) <<< ((2 : Int32) &&& 31)) - (1 : Int32)))), .val (.int kv), .val (.int vz)] [(.int (1 : Int32)), (.int (pb &&& (((1 : Int32) <<< ((2 : Int32) &&& 31)) - (1 : Int32))))])) _
          refine XS.iload Xm230.here hx rfl (hb hby at_162) rfl ?_
          show Steps p.tables e below (Tm230.setTop (mkF m 164 #[.val (.int ps), .val (.int pb), .val (.int pe), .val (.int (2 : Int32)), .val (.ref b187), .val (.int (own_cnt (2 : Int32) (0 : Int32) (0 : Int32) (0 : Int32) (0 : Int32))), .val (.int (pb &&& (((1 : Int32) <<< ((2 : Int32) &&& 31)) - (1 : Int32)))), .val (.int kv), .val (.int vz)] [(.int kv), (.int (1 : Int32)), (.int (pb &&& (((1 : Int32) <<< ((2 : Int32) &&& 31)) - (1 : Int32))))])) _
          refine XS.ishl Xm230.here hx rfl (hb hby at_164) rfl ?_
          show Steps p.tables e below (Tm230.setTop (mkF m 165 #[.val (.int ps), .val (.int pb), .val (.int pe), .val (.int (2 : Int32)), .val (.ref b187), .val (.int (own_cnt (2 : Int32) (0 : Int32) (0 : Int32) (0 : Int32) (0 : Int32))), .val (.int (pb &&& (((1 : Int32) <<< ((2 : Int32) &&& 31)) - (1 : Int32)))), .val (.int kv), .val (.int vz)] [(.int ((1 : Int32) <<< (kv &&& 31))), (.int (pb &&& (((1 : Int32) <<< ((2 : Int32) &&& 31)) - (1 : Int32))))])) _
          refine XS.ior Xm230.here hx rfl (hb hby at_165) rfl ?_
          show Steps p.tables e below (Tm230.setTop (mkF m 166 #[.val (.int ps), .val (.int pb), .val (.int pe), .val (.int (2 : Int32)), .val (.ref b187), .val (.int (own_cnt (2 : Int32) (0 : Int32) (0 : Int32) (0 : Int32) (0 : Int32))), .val (.int (pb &&& (((1 : Int32) <<< ((2 : Int32) &&& 31)) - (1 : Int32)))), .val (.int kv), .val (.int vz)] [(.int ((pb &&& (((1 : Int32) <<< ((2 : Int32) &&& 31)) - (1 : Int32))) ||| ((1 : Int32) <<< (kv &&& 31))))])) _
          refine XS.istore Xm230.here hx rfl (hb hby at_166) rfl (l' := #[.val (.int ps), .val (.int pb), .val (.int pe), .val (.int (2 : Int32)), .val (.ref b187), .val (.int (own_cnt (2 : Int32) (0 : Int32) (0 : Int32) (0 : Int32) (0 : Int32))), .val (.int ((pb &&& (((1 : Int32) <<< ((2 : Int32) &&& 31)) - (1 : Int32))) ||| ((1 : Int32) <<< (kv &&& 31)))), .val (.int kv), .val (.int vz)]) rfl ?_
          show Steps p.tables e below (Tm230.setTop (mkF m 168 #[.val (.int ps), .val (.int pb), .val (.int pe), .val (.int (2 : Int32)), .val (.ref b187), .val (.int (own_cnt (2 : Int32) (0 : Int32) (0 : Int32) (0 : Int32) (0 : Int32))), .val (.int ((pb &&& (((1 : Int32) <<< ((2 : Int32) &&& 31)) - (1 : Int32))) ||| ((1 : Int32) <<< (kv &&& 31)))), .val (.int kv), .val (.int vz)] [])) _
          refine XS.goto Xm230.here hx rfl (pc0 := 168) (pc' := 182) rfl (hb hby at_168) (by decide) (by decide) ?_
          exact k
        exact ⟨((pb &&& (((1 : Int32) <<< ((2 : Int32) &&& 31)) - (1 : Int32))) ||| ((1 : Int32) <<< (kv &&& 31))), (by rw [if_neg hc156_237]), pre239⟩
    obtain ⟨_, _, ⟨T243, L243, k243, n243⟩, -, X243, ⟨Lc243, hQ243, l243, y243, z243⟩, st243⟩ := Jvm.LawKit.callS Xm230 hx (y := (⟨"com/example/tresse/tresse/rwlock/FlagsCountTruePinLaw", "bit", "(II)I"⟩ : MethodName)) hown (mvT hZ (hw _ (List.mem_of_getElem? (i := 18) rfl))) (mvT hZ (hw _ (List.mem_of_getElem? (i := 19) rfl))) (mvT hZ (hw _ (List.mem_of_getElem? (i := 20) rfl))) (mvT hZ (hw _ (List.mem_of_getElem? (i := 21) rfl))) (by decide) (backOf (W := 0) (rm4 l Z a0 hw [] bb (0 : Int32)  hm230 n0 Zm230 ) hZ (hw _ (List.mem_of_getElem? (i := 21) rfl)) (hw _ (List.mem_of_getElem? (i := 20) rfl)) (by decide) (by decide)) (g := (mkF m 185 #[.val (.int ps), .val (.int pb), .val (.int pe), .val (.int (2 : Int32)), .val (.ref b187), .val (.int (own_cnt (2 : Int32) (0 : Int32) (0 : Int32) (0 : Int32) (0 : Int32))), .val (.int bb), .val (.int kv), .val (.int vz)] [(.int (0 : Int32)), (.int bb)])) rfl (by rw [hml]; rfl) (argsL := [(.int bb), (.int (0 : Int32))]) (rest := []) (lenOf own_pd51 rfl) rfl (by show 2 * 0 + _ ≤ _; exact Nat.le_of_eq rfl) (hb hby at_185) (fun _ _ => ⟨rfl, em230, (by decide : 2 + 0 ≤ _), (by decide : 5 + 0 ≤ _)⟩)
    dsimp only [Pt.U, Pt.locs, Pt.cells, Pt.slots] at X243 l243 y243 z243 st243 hQ243
    subst l243 y243 z243
    obtain ⟨rfl, Nq243, e243⟩ := hQ243
    have N243 := Fr.app Nm230 Nq243
    obtain ⟨_, _, ⟨T244, L244, k244, n244⟩, -, X244, ⟨Lc244, hQ244, l244, y244, z244⟩, st244⟩ := Jvm.LawKit.callS X243 hx (y := (⟨"com/example/tresse/tresse/rwlock/FlagsCountTruePinLaw", "bit", "(II)I"⟩ : MethodName)) hown (mvT hZ (hw _ (List.mem_of_getElem? (i := 18) rfl))) (mvT hZ (hw _ (List.mem_of_getElem? (i := 19) rfl))) (mvT hZ (hw _ (List.mem_of_getElem? (i := 20) rfl))) (mvT hZ (hw _ (List.mem_of_getElem? (i := 21) rfl))) (by decide) (backOf (W := 1) (rm4 l Z a0 hw [] bb (1 : Int32)  hm230 n0 Zm230 ) hZ (hw _ (List.mem_of_getElem? (i := 21) rfl)) (hw _ (List.mem_of_getElem? (i := 20) rfl)) (by decide) (by decide)) (g := (mkF m 191 #[.val (.int ps), .val (.int pb), .val (.int pe), .val (.int (2 : Int32)), .val (.ref b187), .val (.int (own_cnt (2 : Int32) (0 : Int32) (0 : Int32) (0 : Int32) (0 : Int32))), .val (.int bb), .val (.int kv), .val (.int vz)] [(.int (1 : Int32)), (.int bb), (.int (own_bit bb (0 : Int32)))])) rfl (by rw [hml]; rfl) (argsL := [(.int bb), (.int (1 : Int32))]) (rest := [(.int (own_bit bb (0 : Int32)))]) (lenOf own_pd51 rfl) rfl (by show 2 * 0 + _ ≤ _; exact Nat.le_of_eq rfl) (hb hby at_191) (fun _ _ => ⟨rfl, e243, (by decide : 2 + 0 ≤ _), (by decide : 5 + 0 ≤ _)⟩)
    dsimp only [Pt.U, Pt.locs, Pt.cells, Pt.slots] at X244 l244 y244 z244 st244 hQ244
    subst l244 y244 z244
    obtain ⟨rfl, Nq244, e244⟩ := hQ244
    have N244 := Fr.app N243 Nq244
    obtain ⟨_, _, ⟨T245, L245, k245, n245⟩, -, X245, ⟨Lc245, hQ245, l245, y245, z245⟩, st245⟩ := Jvm.LawKit.callS X244 hx (y := (⟨"com/example/tresse/tresse/rwlock/FlagsCountTruePinLaw", "bit", "(II)I"⟩ : MethodName)) hown (mvT hZ (hw _ (List.mem_of_getElem? (i := 18) rfl))) (mvT hZ (hw _ (List.mem_of_getElem? (i := 19) rfl))) (mvT hZ (hw _ (List.mem_of_getElem? (i := 20) rfl))) (mvT hZ (hw _ (List.mem_of_getElem? (i := 21) rfl))) (by decide) (backOf (W := 1) (rm4 l Z a0 hw [] bb (2 : Int32)  hm230 n0 Zm230 ) hZ (hw _ (List.mem_of_getElem? (i := 21) rfl)) (hw _ (List.mem_of_getElem? (i := 20) rfl)) (by decide) (by decide)) (g := (mkF m 198 #[.val (.int ps), .val (.int pb), .val (.int pe), .val (.int (2 : Int32)), .val (.ref b187), .val (.int (own_cnt (2 : Int32) (0 : Int32) (0 : Int32) (0 : Int32) (0 : Int32))), .val (.int bb), .val (.int kv), .val (.int vz)] [(.int (2 : Int32)), (.int bb), (.int ((own_bit bb (0 : Int32)) + (own_bit bb (1 : Int32))))])) rfl (by rw [hml]; rfl) (argsL := [(.int bb), (.int (2 : Int32))]) (rest := [(.int ((own_bit bb (0 : Int32)) + (own_bit bb (1 : Int32))))]) (lenOf own_pd51 rfl) rfl (by show 2 * 0 + _ ≤ _; exact Nat.le_of_eq rfl) (hb hby at_198) (fun _ _ => ⟨rfl, e244, (by decide : 2 + 0 ≤ _), (by decide : 5 + 0 ≤ _)⟩)
    dsimp only [Pt.U, Pt.locs, Pt.cells, Pt.slots] at X245 l245 y245 z245 st245 hQ245
    subst l245 y245 z245
    obtain ⟨rfl, Nq245, e245⟩ := hQ245
    have N245 := Fr.app N244 Nq245
    obtain ⟨_, _, ⟨T246, L246, k246, n246⟩, -, X246, ⟨Lc246, hQ246, l246, y246, z246⟩, st246⟩ := Jvm.LawKit.callS X245 hx (y := (⟨"com/example/tresse/tresse/rwlock/FlagsCountTruePinLaw", "bit", "(II)I"⟩ : MethodName)) hown (mvT hZ (hw _ (List.mem_of_getElem? (i := 18) rfl))) (mvT hZ (hw _ (List.mem_of_getElem? (i := 19) rfl))) (mvT hZ (hw _ (List.mem_of_getElem? (i := 20) rfl))) (mvT hZ (hw _ (List.mem_of_getElem? (i := 21) rfl))) (by decide) (backOf (W := 1) (rm4 l Z a0 hw [] bb (3 : Int32)  hm230 n0 Zm230 ) hZ (hw _ (List.mem_of_getElem? (i := 21) rfl)) (hw _ (List.mem_of_getElem? (i := 20) rfl)) (by decide) (by decide)) (g := (mkF m 205 #[.val (.int ps), .val (.int pb), .val (.int pe), .val (.int (2 : Int32)), .val (.ref b187), .val (.int (own_cnt (2 : Int32) (0 : Int32) (0 : Int32) (0 : Int32) (0 : Int32))), .val (.int bb), .val (.int kv), .val (.int vz)] [(.int (3 : Int32)), (.int bb), (.int (((own_bit bb (0 : Int32)) + (own_bit bb (1 : Int32))) + (own_bit bb (2 : Int32))))])) rfl (by rw [hml]; rfl) (argsL := [(.int bb), (.int (3 : Int32))]) (rest := [(.int (((own_bit bb (0 : Int32)) + (own_bit bb (1 : Int32))) + (own_bit bb (2 : Int32))))]) (lenOf own_pd51 rfl) rfl (by show 2 * 0 + _ ≤ _; exact Nat.le_of_eq rfl) (hb hby at_205) (fun _ _ => ⟨rfl, e245, (by decide : 2 + 0 ≤ _), (by decide : 5 + 0 ≤ _)⟩)
    dsimp only [Pt.U, Pt.locs, Pt.cells, Pt.slots] at X246 l246 y246 z246 st246 hQ246
    subst l246 y246 z246
    obtain ⟨rfl, Nq246, e246⟩ := hQ246
    have N246 := Fr.app N245 Nq246
    obtain ⟨cq247, kq247, q247a, q247b, q247c⟩ := isOf hZ e246 f231
    obtain ⟨_, _, ⟨T247, L247, k247, n247⟩, -, X247, ⟨Lc247, hQ247, l247, y247, z247⟩, st247⟩ := X246.virtualBack hx (y := (⟨"com/example/tresse/tresse/rwlock/Flags", "countTrue", "()I"⟩ : MethodName)) (z := (⟨"com/example/tresse/tresse/rwlock/Flags", "countTrue", "()I"⟩ : MethodName)) hown (mvT hZ (hw _ (List.mem_of_getElem? (i := 13) rfl))) (mvT hZ (hw _ (List.mem_of_getElem? (i := 14) rfl))) (notFace_of_selects (args := #[]) (mvT hZ (hw _ (List.mem_of_getElem? (i := 16) rfl)))) (mvT hZ (hw _ (List.mem_of_getElem? (i := 16) rfl))) (mvT hZ (hw _ (List.mem_of_getElem? (i := 15) rfl))) (by decide) (backOf (W := 0) (rm3 l Z a0 hw [] b187 rar_189 rkk_189 (2 : Int32) ee0 ee1 (0 : Int32) (0 : Int32) hm230 n0 Zm230 f232 f233 (by decide)) hZ (hw _ (List.mem_of_getElem? (i := 17) rfl)) (hw _ (List.mem_of_getElem? (i := 3) rfl)) (by decide) (by decide)) q247a q247c (g := (mkF m 218 #[.val (.int ps), .val (.int pb), .val (.int pe), .val (.int (2 : Int32)), .val (.ref b187), .val (.int (own_cnt (2 : Int32) (0 : Int32) (0 : Int32) (0 : Int32) (0 : Int32))), .val (.int bb), .val (.int ((((own_bit bb (0 : Int32)) + (own_bit bb (1 : Int32))) + (own_bit bb (2 : Int32))) + (own_bit bb (3 : Int32)))), .val (.int vz)] [(.ref b187)])) rfl (by rw [hml]; rfl) (Steps.refl _) (argsL := []) (rest := []) (lenOf own_pd50 rfl) rfl (by show 2 * 0 + _ ≤ _; exact Nat.le_of_eq rfl) (hb hby at_218) (fun _ _ => ⟨rfl, e246, (by decide : 2 + 0 ≤ _), (by decide : 5 + 0 ≤ _)⟩)
    dsimp only [Pt.U, Pt.locs, Pt.cells, Pt.slots] at X247 l247 y247 z247 st247 hQ247
    subst l247 y247 z247
    obtain ⟨rfl, Nq247, e247⟩ := hQ247
    have N247 := Fr.app N246 Nq247
    obtain ⟨fs, hr, hrun, hended, hW, hsame⟩ := X247.leave (v := some (.int (1 : Int32))) (fun h => by rw [Bd.returns] at h; cases h)
    refine ⟨_, _, pre241 _ ?_, hrun, hended, _, _, rfl, ?_, ⟨_, rfl⟩, hW, hsame.mono (by decide) (by decide)⟩
    · show Steps p.tables e below (Tm230.setTop (mkF m 182 #[.val (.int ps), .val (.int pb), .val (.int pe), .val (.int (2 : Int32)), .val (.ref b187), .val (.int (own_cnt (2 : Int32) (0 : Int32) (0 : Int32) (0 : Int32) (0 : Int32))), .val (.int bb), .val (.int kv), .val (.int vz)] [])) _
      refine XS.iload Xm230.here hx rfl (hb hby at_182) rfl ?_
      show Steps p.tables e below (Tm230.setTop (mkF m 184 #[.val (.int ps), .val (.int pb), .val (.int pe), .val (.int (2 : Int32)), .val (.ref b187), .val (.int (own_cnt (2 : Int32) (0 : Int32) (0 : Int32) (0 : Int32) (0 : Int32))), .val (.int bb), .val (.int kv), .val (.int vz)] [(.int bb)])) _
      refine XS.iconst Xm230.here hx rfl (hb hby at_184) ?_
      show Steps p.tables e below (Tm230.setTop (mkF m 185 #[.val (.int ps), .val (.int pb), .val (.int pe), .val (.int (2 : Int32)), .val (.ref b187), .val (.int (own_cnt (2 : Int32) (0 : Int32) (0 : Int32) (0 : Int32) (0 : Int32))), .val (.int bb), .val (.int kv), .val (.int vz)] [(.int (0 : Int32)), (.int bb)])) _
      refine st243 _ ?_
      show Steps p.tables e below (T243.setTop (mkF m 188 #[.val (.int ps), .val (.int pb), .val (.int pe), .val (.int (2 : Int32)), .val (.ref b187), .val (.int (own_cnt (2 : Int32) (0 : Int32) (0 : Int32) (0 : Int32) (0 : Int32))), .val (.int bb), .val (.int kv), .val (.int vz)] [(.int (own_bit bb (0 : Int32)))])) _
      refine XS.iload X243.here hx rfl (hb hby at_188) rfl ?_
      show Steps p.tables e below (T243.setTop (mkF m 190 #[.val (.int ps), .val (.int pb), .val (.int pe), .val (.int (2 : Int32)), .val (.ref b187), .val (.int (own_cnt (2 : Int32) (0 : Int32) (0 : Int32) (0 : Int32) (0 : Int32))), .val (.int bb), .val (.int kv), .val (.int vz)] [(.int bb), (.int (own_bit bb (0 : Int32)))])) _
      refine XS.iconst X243.here hx rfl (hb hby at_190) ?_
      show Steps p.tables e below (T243.setTop (mkF m 191 #[.val (.int ps), .val (.int pb), .val (.int pe), .val (.int (2 : Int32)), .val (.ref b187), .val (.int (own_cnt (2 : Int32) (0 : Int32) (0 : Int32) (0 : Int32) (0 : Int32))), .val (.int bb), .val (.int kv), .val (.int vz)] [(.int (1 : Int32)), (.int bb), (.int (own_bit bb (0 : Int32)))])) _
      refine st244 _ ?_
      show Steps p.tables e below (T244.setTop (mkF m 194 #[.val (.int ps), .val (.int pb), .val (.int pe), .val (.int (2 : Int32)), .val (.ref b187), .val (.int (own_cnt (2 : Int32) (0 : Int32) (0 : Int32) (0 : Int32) (0 : Int32))), .val (.int bb), .val (.int kv), .val (.int vz)] [(.int (own_bit bb (1 : Int32))), (.int (own_bit bb (0 : Int32)))])) _
      refine XS.iadd X244.here hx rfl (hb hby at_194) rfl ?_
      show Steps p.tables e below (T244.setTop (mkF m 195 #[.val (.int ps), .val (.int pb), .val (.int pe), .val (.int (2 : Int32)), .val (.ref b187), .val (.int (own_cnt (2 : Int32) (0 : Int32) (0 : Int32) (0 : Int32) (0 : Int32))), .val (.int bb), .val (.int kv), .val (.int vz)] [(.int ((own_bit bb (0 : Int32)) + (own_bit bb (1 : Int32))))])) _
      refine XS.iload X244.here hx rfl (hb hby at_195) rfl ?_
      show Steps p.tables e below (T244.setTop (mkF m 197 #[.val (.int ps), .val (.int pb), .val (.int pe), .val (.int (2 : Int32)), .val (.ref b187), .val (.int (own_cnt (2 : Int32) (0 : Int32) (0 : Int32) (0 : Int32) (0 : Int32))), .val (.int bb), .val (.int kv), .val (.int vz)] [(.int bb), (.int ((own_bit bb (0 : Int32)) + (own_bit bb (1 : Int32))))])) _
      refine XS.iconst X244.here hx rfl (hb hby at_197) ?_
      show Steps p.tables e below (T244.setTop (mkF m 198 #[.val (.int ps), .val (.int pb), .val (.int pe), .val (.int (2 : Int32)), .val (.ref b187), .val (.int (own_cnt (2 : Int32) (0 : Int32) (0 : Int32) (0 : Int32) (0 : Int32))), .val (.int bb), .val (.int kv), .val (.int vz)] [(.int (2 : Int32)), (.int bb), (.int ((own_bit bb (0 : Int32)) + (own_bit bb (1 : Int32))))])) _
      refine st245 _ ?_
      show Steps p.tables e below (T245.setTop (mkF m 201 #[.val (.int ps), .val (.int pb), .val (.int pe), .val (.int (2 : Int32)), .val (.ref b187), .val (.int (own_cnt (2 : Int32) (0 : Int32) (0 : Int32) (0 : Int32) (0 : Int32))), .val (.int bb), .val (.int kv), .val (.int vz)] [(.int (own_bit bb (2 : Int32))), (.int ((own_bit bb (0 : Int32)) + (own_bit bb (1 : Int32))))])) _
      refine XS.iadd X245.here hx rfl (hb hby at_201) rfl ?_
      show Steps p.tables e below (T245.setTop (mkF m 202 #[.val (.int ps), .val (.int pb), .val (.int pe), .val (.int (2 : Int32)), .val (.ref b187), .val (.int (own_cnt (2 : Int32) (0 : Int32) (0 : Int32) (0 : Int32) (0 : Int32))), .val (.int bb), .val (.int kv), .val (.int vz)] [(.int (((own_bit bb (0 : Int32)) + (own_bit bb (1 : Int32))) + (own_bit bb (2 : Int32))))])) _
      refine XS.iload X245.here hx rfl (hb hby at_202) rfl ?_
      show Steps p.tables e below (T245.setTop (mkF m 204 #[.val (.int ps), .val (.int pb), .val (.int pe), .val (.int (2 : Int32)), .val (.ref b187), .val (.int (own_cnt (2 : Int32) (0 : Int32) (0 : Int32) (0 : Int32) (0 : Int32))), .val (.int bb), .val (.int kv), .val (.int vz)] [(.int bb), (.int (((own_bit bb (0 : Int32)) + (own_bit bb (1 : Int32))) + (own_bit bb (2 : Int32))))])) _
      refine XS.iconst X245.here hx rfl (hb hby at_204) ?_
      show Steps p.tables e below (T245.setTop (mkF m 205 #[.val (.int ps), .val (.int pb), .val (.int pe), .val (.int (2 : Int32)), .val (.ref b187), .val (.int (own_cnt (2 : Int32) (0 : Int32) (0 : Int32) (0 : Int32) (0 : Int32))), .val (.int bb), .val (.int kv), .val (.int vz)] [(.int (3 : Int32)), (.int bb), (.int (((own_bit bb (0 : Int32)) + (own_bit bb (1 : Int32))) + (own_bit bb (2 : Int32))))])) _
      refine st246 _ ?_
      show Steps p.tables e below (T246.setTop (mkF m 208 #[.val (.int ps), .val (.int pb), .val (.int pe), .val (.int (2 : Int32)), .val (.ref b187), .val (.int (own_cnt (2 : Int32) (0 : Int32) (0 : Int32) (0 : Int32) (0 : Int32))), .val (.int bb), .val (.int kv), .val (.int vz)] [(.int (own_bit bb (3 : Int32))), (.int (((own_bit bb (0 : Int32)) + (own_bit bb (1 : Int32))) + (own_bit bb (2 : Int32))))])) _
      refine XS.iadd X246.here hx rfl (hb hby at_208) rfl ?_
      show Steps p.tables e below (T246.setTop (mkF m 209 #[.val (.int ps), .val (.int pb), .val (.int pe), .val (.int (2 : Int32)), .val (.ref b187), .val (.int (own_cnt (2 : Int32) (0 : Int32) (0 : Int32) (0 : Int32) (0 : Int32))), .val (.int bb), .val (.int kv), .val (.int vz)] [(.int ((((own_bit bb (0 : Int32)) + (own_bit bb (1 : Int32))) + (own_bit bb (2 : Int32))) + (own_bit bb (3 : Int32))))])) _
      refine XS.istore X246.here hx rfl (hb hby at_209) rfl (l' := #[.val (.int ps), .val (.int pb), .val (.int pe), .val (.int (2 : Int32)), .val (.ref b187), .val (.int (own_cnt (2 : Int32) (0 : Int32) (0 : Int32) (0 : Int32) (0 : Int32))), .val (.int bb), .val (.int ((((own_bit bb (0 : Int32)) + (own_bit bb (1 : Int32))) + (own_bit bb (2 : Int32))) + (own_bit bb (3 : Int32)))), .val (.int vz)]) rfl ?_
      show Steps p.tables e below (T246.setTop (mkF m 211 #[.val (.int ps), .val (.int pb), .val (.int pe), .val (.int (2 : Int32)), .val (.ref b187), .val (.int (own_cnt (2 : Int32) (0 : Int32) (0 : Int32) (0 : Int32) (0 : Int32))), .val (.int bb), .val (.int ((((own_bit bb (0 : Int32)) + (own_bit bb (1 : Int32))) + (own_bit bb (2 : Int32))) + (own_bit bb (3 : Int32)))), .val (.int vz)] [])) _
      refine XS.iload X246.here hx rfl (hb hby at_211) rfl ?_
      show Steps p.tables e below (T246.setTop (mkF m 213 #[.val (.int ps), .val (.int pb), .val (.int pe), .val (.int (2 : Int32)), .val (.ref b187), .val (.int (own_cnt (2 : Int32) (0 : Int32) (0 : Int32) (0 : Int32) (0 : Int32))), .val (.int bb), .val (.int ((((own_bit bb (0 : Int32)) + (own_bit bb (1 : Int32))) + (own_bit bb (2 : Int32))) + (own_bit bb (3 : Int32)))), .val (.int vz)] [(.int (own_cnt (2 : Int32) (0 : Int32) (0 : Int32) (0 : Int32) (0 : Int32)))])) _
      refine XS.ifNo X246.here hx rfl (hb hby at_213) rfl ((if0 _ _).trans (teq (rfl : ((own_cnt (2 : Int32) (0 : Int32) (0 : Int32) (0 : Int32) (0 : Int32)) = (0 : Int32)))).2) ?_
      show Steps p.tables e below (T246.setTop (mkF m 216 #[.val (.int ps), .val (.int pb), .val (.int pe), .val (.int (2 : Int32)), .val (.ref b187), .val (.int (own_cnt (2 : Int32) (0 : Int32) (0 : Int32) (0 : Int32) (0 : Int32))), .val (.int bb), .val (.int ((((own_bit bb (0 : Int32)) + (own_bit bb (1 : Int32))) + (own_bit bb (2 : Int32))) + (own_bit bb (3 : Int32)))), .val (.int vz)] [])) _
      refine XS.aload X246.here hx rfl (hb hby at_216) rfl rfl ?_
      show Steps p.tables e below (T246.setTop (mkF m 218 #[.val (.int ps), .val (.int pb), .val (.int pe), .val (.int (2 : Int32)), .val (.ref b187), .val (.int (own_cnt (2 : Int32) (0 : Int32) (0 : Int32) (0 : Int32) (0 : Int32))), .val (.int bb), .val (.int ((((own_bit bb (0 : Int32)) + (own_bit bb (1 : Int32))) + (own_bit bb (2 : Int32))) + (own_bit bb (3 : Int32)))), .val (.int vz)] [(.ref b187)])) _
      refine st247.trans ?_
      show Steps p.tables e below (T247.setTop (mkF m 221 #[.val (.int ps), .val (.int pb), .val (.int pe), .val (.int (2 : Int32)), .val (.ref b187), .val (.int (own_cnt (2 : Int32) (0 : Int32) (0 : Int32) (0 : Int32) (0 : Int32))), .val (.int bb), .val (.int ((((own_bit bb (0 : Int32)) + (own_bit bb (1 : Int32))) + (own_bit bb (2 : Int32))) + (own_bit bb (3 : Int32)))), .val (.int vz)] [(.int (own_cnt (2 : Int32) ee0 ee1 (0 : Int32) (0 : Int32)))])) _
      refine XS.iload X247.here hx rfl (hb hby at_221) rfl ?_
      show Steps p.tables e below (T247.setTop (mkF m 223 #[.val (.int ps), .val (.int pb), .val (.int pe), .val (.int (2 : Int32)), .val (.ref b187), .val (.int (own_cnt (2 : Int32) (0 : Int32) (0 : Int32) (0 : Int32) (0 : Int32))), .val (.int bb), .val (.int ((((own_bit bb (0 : Int32)) + (own_bit bb (1 : Int32))) + (own_bit bb (2 : Int32))) + (own_bit bb (3 : Int32)))), .val (.int vz)] [(.int ((((own_bit bb (0 : Int32)) + (own_bit bb (1 : Int32))) + (own_bit bb (2 : Int32))) + (own_bit bb (3 : Int32)))), (.int (own_cnt (2 : Int32) ee0 ee1 (0 : Int32) (0 : Int32)))])) _
      refine XS.icmpNo X247.here hx rfl (hb hby at_223) rfl (teq (own_fin2 hv198 hv208 hv219 hv235 hv242 : ((own_cnt (2 : Int32) ee0 ee1 (0 : Int32) (0 : Int32)) = ((((own_bit bb (0 : Int32)) + (own_bit bb (1 : Int32))) + (own_bit bb (2 : Int32))) + (own_bit bb (3 : Int32)))))).2 ?_
      show Steps p.tables e below (T247.setTop (mkF m 226 #[.val (.int ps), .val (.int pb), .val (.int pe), .val (.int (2 : Int32)), .val (.ref b187), .val (.int (own_cnt (2 : Int32) (0 : Int32) (0 : Int32) (0 : Int32) (0 : Int32))), .val (.int bb), .val (.int ((((own_bit bb (0 : Int32)) + (own_bit bb (1 : Int32))) + (own_bit bb (2 : Int32))) + (own_bit bb (3 : Int32)))), .val (.int vz)] [])) _
      refine XS.iconst X247.here hx rfl (hb hby at_226) ?_
      show Steps p.tables e below (T247.setTop (mkF m 227 #[.val (.int ps), .val (.int pb), .val (.int pe), .val (.int (2 : Int32)), .val (.ref b187), .val (.int (own_cnt (2 : Int32) (0 : Int32) (0 : Int32) (0 : Int32) (0 : Int32))), .val (.int bb), .val (.int ((((own_bit bb (0 : Int32)) + (own_bit bb (1 : Int32))) + (own_bit bb (2 : Int32))) + (own_bit bb (3 : Int32)))), .val (.int vz)] [(.int (1 : Int32))])) _
      refine XS.goto X247.here hx rfl (pc0 := 227) (pc' := 231) rfl (hb hby at_227) (by decide) (by decide) ?_
      show Steps p.tables e below (T247.setTop (mkF m 231 #[.val (.int ps), .val (.int pb), .val (.int pe), .val (.int (2 : Int32)), .val (.ref b187), .val (.int (own_cnt (2 : Int32) (0 : Int32) (0 : Int32) (0 : Int32) (0 : Int32))), .val (.int bb), .val (.int ((((own_bit bb (0 : Int32)) + (own_bit bb (1 : Int32))) + (own_bit bb (2 : Int32))) + (own_bit bb (3 : Int32)))), .val (.int vz)] [(.int (1 : Int32))])) _
      exact retN X247 hx (t := .boolean) Bd.returns (by simp) (hb hby at_231) hr
    · show Q0 Z ps pb pe h0 n0 _ T247.heap _
      rw [e247]
      exact ⟨rfl, N247⟩
  · rw [hq129] at pre125
    obtain ⟨T248, h248, X248, e248, E248, A248, D248, -, st248⟩ := newO X0 hx hZ hown (hw _ (List.mem_of_getElem? (i := 1) rfl)) (hw _ (List.mem_of_getElem? (i := 2) rfl)) (hw _ (List.mem_of_getElem? (i := 3) rfl)) e0 (g := (mkF m 7 #[.val (.int ps), .val (.int pb), .val (.int pe), .val (.int (3 : Int32)), .unset, .unset, .unset, .unset, .unset] [])) rfl (hb hby at_7) (by decide) (by decide)
    obtain ⟨b248, g248⟩ : ∃ z, z = h0.size := ⟨_, rfl⟩
    rw [← g248] at A248 D248 st248
    have g_b248 : n0 ≤ b248 := Nat.le_trans Z0 (Nat.le_of_eq g248.symm)
    have sz_b248 : h0.size ≤ b248 := Nat.le_of_eq g248.symm
    have Zs248 : n0 ≤ h248.size := Nat.le_trans Z0 E248.1
    have KK248 : Keep h0 h248 [] := (Keep.refl h0 _).ext E248
    have f249 : Fld Z h248 b248 "com/example/tresse/tresse/rwlock/Flags" "values" "[Z" .null := D248 (Or.inr (hw _ (List.mem_of_getElem? (i := 12) rfl))) (ty := (.array .boolean)) (by decide)
    obtain ⟨_, _, ⟨T250, L250, k250, n250⟩, -, X250, ⟨Lc250, hQ250, l250, y250, z250⟩, st250⟩ := X248.specialBack hx (y := (⟨"com/example/tresse/tresse/rwlock/Flags", "<init>", "(I)V"⟩ : MethodName)) rfl hown (mvT hZ (hw _ (List.mem_of_getElem? (i := 4) rfl))) (mvT hZ (hw _ (List.mem_of_getElem? (i := 5) rfl))) (mvT hZ (hw _ (List.mem_of_getElem? (i := 6) rfl))) (by decide) (backOf (W := 1) (rm1 l Z a0 hw [] b248 (3 : Int32)  h248 n0 Zs248 f249 A248 g_b248 (by decide) (by decide)) hZ (hw _ (List.mem_of_getElem? (i := 6) rfl)) (hw _ (List.mem_of_getElem? (i := 3) rfl)) (by decide) (by decide)) (g := (mkF m 12 #[.val (.int ps), .val (.int pb), .val (.int pe), .val (.int (3 : Int32)), .unset, .unset, .unset, .unset, .unset] [(.int (3 : Int32)), (.ref b248), (.ref b248)])) rfl (by rw [hml]; rfl) (Steps.refl _) (a := b248) (argsL := [(.int (3 : Int32))]) (rest := [(.ref b248)]) (lenOf own_pd49 rfl) rfl (by show 2 * 0 + _ ≤ _; exact Nat.le_of_eq rfl) (hb hby at_12) (fun _ _ => ⟨rfl, e248, (by decide : 1 + 1 ≤ _), (by decide : 1 + 4 ≤ _)⟩)
    dsimp only [Pt.U, Pt.locs, Pt.cells, Pt.slots] at X250 l250 y250 z250 st250 hQ250
    subst l250 y250 z250
    obtain ⟨rar_250, rkk_250, rfl, Nq250, K250, p250_0, p250_1, p250_2, p250_3, p250_4⟩ := hQ250
    have N250 := Fr.app N0 Nq250
    have Zs250 : n0 ≤ T250.heap.size := Nat.le_trans Zs248 K250.1
    have KK250 : Keep h0 T250.heap [] := KK248.trans K250 (allS (Or.inr sz_b248) all0)
    have ne_b248_rar_250 : b248 ≠ rar_250 := Nat.ne_of_lt (Nat.lt_of_lt_of_le A248.lt p250_4)
    have sz_rar_250 : h0.size ≤ rar_250 := Nat.le_trans KK248.1 p250_4
    have f251 := A248.keep K250
    have g_rar_250 := p250_3
    obtain ⟨cq252, kq252, q252a, q252b, q252c⟩ := isOf hZ rfl p250_0
    obtain ⟨_, _, ⟨T252, L252, k252, n252⟩, -, X252, ⟨Lc252, hQ252, l252, y252, z252⟩, st252⟩ := X250.virtualBack hx (y := (⟨"com/example/tresse/tresse/rwlock/Flags", "countTrue", "()I"⟩ : MethodName)) (z := (⟨"com/example/tresse/tresse/rwlock/Flags", "countTrue", "()I"⟩ : MethodName)) hown (mvT hZ (hw _ (List.mem_of_getElem? (i := 13) rfl))) (mvT hZ (hw _ (List.mem_of_getElem? (i := 14) rfl))) (notFace_of_selects (args := #[]) (mvT hZ (hw _ (List.mem_of_getElem? (i := 16) rfl)))) (mvT hZ (hw _ (List.mem_of_getElem? (i := 16) rfl))) (mvT hZ (hw _ (List.mem_of_getElem? (i := 15) rfl))) (by decide) (backOf (W := 0) (rm3 l Z a0 hw [] b248 rar_250 rkk_250 (3 : Int32) (0 : Int32) (0 : Int32) (0 : Int32) (0 : Int32) T250.heap n0 Zs250 p250_1 p250_2 (by decide)) hZ (hw _ (List.mem_of_getElem? (i := 17) rfl)) (hw _ (List.mem_of_getElem? (i := 3) rfl)) (by decide) (by decide)) q252a q252c (g := (mkF m 19 #[.val (.int ps), .val (.int pb), .val (.int pe), .val (.int (3 : Int32)), .val (.ref b248), .unset, .unset, .unset, .unset] [(.ref b248)])) rfl (by rw [hml]; rfl) (Steps.refl _) (argsL := []) (rest := []) (lenOf own_pd50 rfl) rfl (by show 2 * 0 + _ ≤ _; exact Nat.le_of_eq rfl) (hb hby at_19) (fun _ _ => ⟨rfl, rfl, (by decide : 2 + 0 ≤ _), (by decide : 5 + 0 ≤ _)⟩)
    dsimp only [Pt.U, Pt.locs, Pt.cells, Pt.slots] at X252 l252 y252 z252 st252 hQ252
    subst l252 y252 z252
    obtain ⟨rfl, Nq252, e252⟩ := hQ252
    have N252 := Fr.app N250 Nq252
    have pre253 : ∀ t, Steps p.tables e below (T252.setTop (mkF m 34 #[.val (.int ps), .val (.int pb), .val (.int pe), .val (.int (3 : Int32)), .val (.ref b248), .val (.int (own_cnt (3 : Int32) (0 : Int32) (0 : Int32) (0 : Int32) (0 : Int32))), .unset, .unset, .unset] [(.int (pb &&& (1 : Int32))), (.int (0 : Int32)), (.ref b248)])) t → Steps p.tables e below G0 t := by
      intro t k
      refine pre125 t ?_
      show Steps p.tables e below (s₁.setTop (mkF m 7 #[.val (.int ps), .val (.int pb), .val (.int pe), .val (.int (3 : Int32)), .unset, .unset, .unset, .unset, .unset] [])) _
      refine st248 _ ?_
      show Steps p.tables e below (T248.setTop (mkF m 10 #[.val (.int ps), .val (.int pb), .val (.int pe), .val (.int (3 : Int32)), .unset, .unset, .unset, .unset, .unset] [(.ref b248)])) _
      refine XS.dup X248.here hx rfl (hb hby at_10) rfl rfl ?_
      show Steps p.tables e below (T248.setTop (mkF m 11 #[.val (.int ps), .val (.int pb), .val (.int pe), .val (.int (3 : Int32)), .unset, .unset, .unset, .unset, .unset] [(.ref b248), (.ref b248)])) _
      refine XS.iloadN X248.here hx rfl (hb hby at_11) rfl ?_
      show Steps p.tables e below (T248.setTop (mkF m 12 #[.val (.int ps), .val (.int pb), .val (.int pe), .val (.int (3 : Int32)), .unset, .unset, .unset, .unset, .unset] [(.int (3 : Int32)), (.ref b248), (.ref b248)])) _
      refine st250.trans ?_
      show Steps p.tables e below (T250.setTop (mkF m 15 #[.val (.int ps), .val (.int pb), .val (.int pe), .val (.int (3 : Int32)), .unset, .unset, .unset, .unset, .unset] [(.ref b248)])) _
      refine XS.astore X250.here hx rfl (hb hby at_15) rfl rfl (l' := #[.val (.int ps), .val (.int pb), .val (.int pe), .val (.int (3 : Int32)), .val (.ref b248), .unset, .unset, .unset, .unset]) rfl ?_
      show Steps p.tables e below (T250.setTop (mkF m 17 #[.val (.int ps), .val (.int pb), .val (.int pe), .val (.int (3 : Int32)), .val (.ref b248), .unset, .unset, .unset, .unset] [])) _
      refine XS.aload X250.here hx rfl (hb hby at_17) rfl rfl ?_
      show Steps p.tables e below (T250.setTop (mkF m 19 #[.val (.int ps), .val (.int pb), .val (.int pe), .val (.int (3 : Int32)), .val (.ref b248), .unset, .unset, .unset, .unset] [(.ref b248)])) _
      refine st252.trans ?_
      show Steps p.tables e below (T252.setTop (mkF m 22 #[.val (.int ps), .val (.int pb), .val (.int pe), .val (.int (3 : Int32)), .val (.ref b248), .unset, .unset, .unset, .unset] [(.int (own_cnt (3 : Int32) (0 : Int32) (0 : Int32) (0 : Int32) (0 : Int32)))])) _
      refine XS.istore X252.here hx rfl (hb hby at_22) rfl (l' := #[.val (.int ps), .val (.int pb), .val (.int pe), .val (.int (3 : Int32)), .val (.ref b248), .val (.int (own_cnt (3 : Int32) (0 : Int32) (0 : Int32) (0 : Int32) (0 : Int32))), .unset, .unset, .unset]) rfl ?_
      show Steps p.tables e below (T252.setTop (mkF m 24 #[.val (.int ps), .val (.int pb), .val (.int pe), .val (.int (3 : Int32)), .val (.ref b248), .val (.int (own_cnt (3 : Int32) (0 : Int32) (0 : Int32) (0 : Int32) (0 : Int32))), .unset, .unset, .unset] [])) _
      refine XS.iloadN X252.here hx rfl (hb hby at_24) rfl ?_
      show Steps p.tables e below (T252.setTop (mkF m 25 #[.val (.int ps), .val (.int pb), .val (.int pe), .val (.int (3 : Int32)), .val (.ref b248), .val (.int (own_cnt (3 : Int32) (0 : Int32) (0 : Int32) (0 : Int32) (0 : Int32))), .unset, .unset, .unset] [(.int (3 : Int32))])) _
      refine XS.ifNo X252.here hx rfl (hb hby at_25) rfl ((if0 _ _).trans (tlt (by decide : ((0 : Int32) < (3 : Int32)))).2.2.2) ?_
      show Steps p.tables e below (T252.setTop (mkF m 28 #[.val (.int ps), .val (.int pb), .val (.int pe), .val (.int (3 : Int32)), .val (.ref b248), .val (.int (own_cnt (3 : Int32) (0 : Int32) (0 : Int32) (0 : Int32) (0 : Int32))), .unset, .unset, .unset] [])) _
      refine XS.aload X252.here hx rfl (hb hby at_28) rfl rfl ?_
      show Steps p.tables e below (T252.setTop (mkF m 30 #[.val (.int ps), .val (.int pb), .val (.int pe), .val (.int (3 : Int32)), .val (.ref b248), .val (.int (own_cnt (3 : Int32) (0 : Int32) (0 : Int32) (0 : Int32) (0 : Int32))), .unset, .unset, .unset] [(.ref b248)])) _
      refine XS.iconst X252.here hx rfl (hb hby at_30) ?_
      show Steps p.tables e below (T252.setTop (mkF m 31 #[.val (.int ps), .val (.int pb), .val (.int pe), .val (.int (3 : Int32)), .val (.ref b248), .val (.int (own_cnt (3 : Int32) (0 : Int32) (0 : Int32) (0 : Int32) (0 : Int32))), .unset, .unset, .unset] [(.int (0 : Int32)), (.ref b248)])) _
      refine XS.iloadN X252.here hx rfl (hb hby at_31) rfl ?_
      show Steps p.tables e below (T252.setTop (mkF m 32 #[.val (.int ps), .val (.int pb), .val (.int pe), .val (.int (3 : Int32)), .val (.ref b248), .val (.int (own_cnt (3 : Int32) (0 : Int32) (0 : Int32) (0 : Int32) (0 : Int32))), .unset, .unset, .unset] [(.int pb), (.int (0 : Int32)), (.ref b248)])) _
      refine XS.iconst X252.here hx rfl (hb hby at_32) ?_
      show Steps p.tables e below (T252.setTop (mkF m 33 #[.val (.int ps), .val (.int pb), .val (.int pe), .val (.int (3 : Int32)), .val (.ref b248), .val (.int (own_cnt (3 : Int32) (0 : Int32) (0 : Int32) (0 : Int32) (0 : Int32))), .unset, .unset, .unset] [(.int (1 : Int32)), (.int pb), (.int (0 : Int32)), (.ref b248)])) _
      refine XS.iand X252.here hx rfl (hb hby at_33) rfl ?_
      exact k
    obtain ⟨v0, hv259, pre258⟩ : ∃ (v0 : Int32), (v0 = if (pb &&& 1) = 0 then 0 else 1) ∧ ∀ t, Steps p.tables e below (T252.setTop (mkF m 42 #[.val (.int ps), .val (.int pb), .val (.int pe), .val (.int (3 : Int32)), .val (.ref b248), .val (.int (own_cnt (3 : Int32) (0 : Int32) (0 : Int32) (0 : Int32) (0 : Int32))), .unset, .unset, .unset] [(.int v0), (.int (0 : Int32)), (.ref b248)])) t → Steps p.tables e below G0 t := by
      by_cases hc34_254 : (pb &&& (1 : Int32)) = (0 : Int32)
      · have pre255 : ∀ t, Steps p.tables e below (T252.setTop (mkF m 42 #[.val (.int ps), .val (.int pb), .val (.int pe), .val (.int (3 : Int32)), .val (.ref b248), .val (.int (own_cnt (3 : Int32) (0 : Int32) (0 : Int32) (0 : Int32) (0 : Int32))), .unset, .unset, .unset] [(.int (0 : Int32)), (.int (0 : Int32)), (.ref b248)])) t → Steps p.tables e below G0 t := by
          intro t k
          refine pre253 t ?_
          show Steps p.tables e below (T252.setTop (mkF m 34 #[.val (.int ps), .val (.int pb), .val (.int pe), .val (.int (3 : Int32)), .val (.ref b248), .val (.int (own_cnt (3 : Int32) (0 : Int32) (0 : Int32) (0 : Int32) (0 : Int32))), .unset, .unset, .unset] [(.int (pb &&& (1 : Int32))), (.int (0 : Int32)), (.ref b248)])) _
          refine XS.ifYes X252.here hx rfl (pc0 := 34) (pc' := 41) rfl (hb hby at_34) rfl ((if0 _ _).trans (teq hc34_254).1) (by decide) (by decide) ?_
          show Steps p.tables e below (T252.setTop (mkF m 41 #[.val (.int ps), .val (.int pb), .val (.int pe), .val (.int (3 : Int32)), .val (.ref b248), .val (.int (own_cnt (3 : Int32) (0 : Int32) (0 : Int32) (0 : Int32) (0 : Int32))), .unset, .unset, .unset] [(.int (0 : Int32)), (.ref b248)])) _
          refine XS.iconst X252.here hx rfl (hb hby at_41) ?_
          exact k
        exact ⟨(0 : Int32), (by simp [hc34_254]), pre255⟩
      · have pre256 : ∀ t, Steps p.tables e below (T252.setTop (mkF m 42 #[.val (.int ps), .val (.int pb), .val (.int pe), .val (.int (3 : Int32)), .val (.ref b248), .val (.int (own_cnt (3 : Int32) (0 : Int32) (0 : Int32) (0 : Int32) (0 : Int32))), .unset, .unset, .unset] [(.int (1 : Int32)), (.int (0 : Int32)), (.ref b248)])) t → Steps p.tables e below G0 t := by
          intro t k
          refine pre253 t ?_
          show Steps p.tables e below (T252.setTop (mkF m 34 #[.val (.int ps), .val (.int pb), .val (.int pe), .val (.int (3 : Int32)), .val (.ref b248), .val (.int (own_cnt (3 : Int32) (0 : Int32) (0 : Int32) (0 : Int32) (0 : Int32))), .unset, .unset, .unset] [(.int (pb &&& (1 : Int32))), (.int (0 : Int32)), (.ref b248)])) _
          refine XS.ifNo X252.here hx rfl (hb hby at_34) rfl ((if0 _ _).trans (feq hc34_254).1) ?_
          show Steps p.tables e below (T252.setTop (mkF m 37 #[.val (.int ps), .val (.int pb), .val (.int pe), .val (.int (3 : Int32)), .val (.ref b248), .val (.int (own_cnt (3 : Int32) (0 : Int32) (0 : Int32) (0 : Int32) (0 : Int32))), .unset, .unset, .unset] [(.int (0 : Int32)), (.ref b248)])) _
          refine XS.iconst X252.here hx rfl (hb hby at_37) ?_
          show Steps p.tables e below (T252.setTop (mkF m 38 #[.val (.int ps), .val (.int pb), .val (.int pe), .val (.int (3 : Int32)), .val (.ref b248), .val (.int (own_cnt (3 : Int32) (0 : Int32) (0 : Int32) (0 : Int32) (0 : Int32))), .unset, .unset, .unset] [(.int (1 : Int32)), (.int (0 : Int32)), (.ref b248)])) _
          refine XS.goto X252.here hx rfl (pc0 := 38) (pc' := 42) rfl (hb hby at_38) (by decide) (by decide) ?_
          exact k
        exact ⟨(1 : Int32), (by simp [hc34_254]), pre256⟩
    obtain ⟨cq260, kq260, q260a, q260b, q260c⟩ := isOf hZ e252 p250_0
    obtain ⟨_, _, ⟨T260, L260, k260, n260⟩, -, X260, ⟨Lc260, hQ260, l260, y260, z260⟩, st260⟩ := X252.virtualBack hx (y := (⟨"com/example/tresse/tresse/rwlock/Flags", "set", "(IZ)V"⟩ : MethodName)) (z := (⟨"com/example/tresse/tresse/rwlock/Flags", "set", "(IZ)V"⟩ : MethodName)) hown (mvT hZ (hw _ (List.mem_of_getElem? (i := 22) rfl))) (mvT hZ (hw _ (List.mem_of_getElem? (i := 23) rfl))) (notFace_of_selects (args := #[]) (mvT hZ (hw _ (List.mem_of_getElem? (i := 25) rfl)))) (mvT hZ (hw _ (List.mem_of_getElem? (i := 25) rfl))) (mvT hZ (hw _ (List.mem_of_getElem? (i := 24) rfl))) (by decide) (backOf (W := 0) (rm5j0 l Z a0 hw [] b248 v0 rar_250 rkk_250 (3 : Int32) (0 : Int32) (0 : Int32) (0 : Int32) (0 : Int32) T250.heap n0 Zs250 p250_1 p250_2 g_rar_250 ne_b248_rar_250 (by decide)) hZ (hw _ (List.mem_of_getElem? (i := 26) rfl)) (hw _ (List.mem_of_getElem? (i := 3) rfl)) (by decide) (by decide)) q260a q260c (g := (mkF m 42 #[.val (.int ps), .val (.int pb), .val (.int pe), .val (.int (3 : Int32)), .val (.ref b248), .val (.int (own_cnt (3 : Int32) (0 : Int32) (0 : Int32) (0 : Int32) (0 : Int32))), .unset, .unset, .unset] [(.int v0), (.int (0 : Int32)), (.ref b248)])) rfl (by rw [hml]; rfl) (Steps.refl _) (argsL := [(.int (0 : Int32)), (.int v0)]) (rest := []) (lenOf own_pd52 rfl) rfl (by show 2 * 0 + _ ≤ _; exact Nat.le_of_eq rfl) (hb hby at_42) (fun _ _ => ⟨rfl, e252, (by decide : 2 + 0 ≤ _), (by decide : 5 + 0 ≤ _)⟩)
    dsimp only [Pt.U, Pt.locs, Pt.cells, Pt.slots] at X260 l260 y260 z260 st260 hQ260
    subst l260 y260 z260
    obtain ⟨rfl, Nq260, K260, p260_0⟩ := hQ260
    have N260 := Fr.app N252 Nq260
    have Zs260 : n0 ≤ T260.heap.size := Nat.le_trans Zs250 K260.1
    have KK260 : Keep h0 T260.heap [] := KK250.trans K260 (allS (Or.inr sz_rar_250) all0)
    have f261 := p250_0.keep K260
    have f262 := p250_1.keep K260 (ninS ne_b248_rar_250 nin0)
    have pre263 : ∀ t, Steps p.tables e below (T260.setTop (mkF m 56 #[.val (.int ps), .val (.int pb), .val (.int pe), .val (.int (3 : Int32)), .val (.ref b248), .val (.int (own_cnt (3 : Int32) (0 : Int32) (0 : Int32) (0 : Int32) (0 : Int32))), .unset, .unset, .unset] [(.int (pb &&& (2 : Int32))), (.int (1 : Int32)), (.ref b248)])) t → Steps p.tables e below G0 t := by
      intro t k
      refine pre258 t ?_
      show Steps p.tables e below (T252.setTop (mkF m 42 #[.val (.int ps), .val (.int pb), .val (.int pe), .val (.int (3 : Int32)), .val (.ref b248), .val (.int (own_cnt (3 : Int32) (0 : Int32) (0 : Int32) (0 : Int32) (0 : Int32))), .unset, .unset, .unset] [(.int v0), (.int (0 : Int32)), (.ref b248)])) _
      refine st260.trans ?_
      show Steps p.tables e below (T260.setTop (mkF m 45 #[.val (.int ps), .val (.int pb), .val (.int pe), .val (.int (3 : Int32)), .val (.ref b248), .val (.int (own_cnt (3 : Int32) (0 : Int32) (0 : Int32) (0 : Int32) (0 : Int32))), .unset, .unset, .unset] [])) _
      refine XS.iloadN X260.here hx rfl (hb hby at_45) rfl ?_
      show Steps p.tables e below (T260.setTop (mkF m 46 #[.val (.int ps), .val (.int pb), .val (.int pe), .val (.int (3 : Int32)), .val (.ref b248), .val (.int (own_cnt (3 : Int32) (0 : Int32) (0 : Int32) (0 : Int32) (0 : Int32))), .unset, .unset, .unset] [(.int (3 : Int32))])) _
      refine XS.iconst X260.here hx rfl (hb hby at_46) ?_
      show Steps p.tables e below (T260.setTop (mkF m 47 #[.val (.int ps), .val (.int pb), .val (.int pe), .val (.int (3 : Int32)), .val (.ref b248), .val (.int (own_cnt (3 : Int32) (0 : Int32) (0 : Int32) (0 : Int32) (0 : Int32))), .unset, .unset, .unset] [(.int (1 : Int32)), (.int (3 : Int32))])) _
      refine XS.icmpNo X260.here hx rfl (hb hby at_47) rfl (tlt (by decide : ((1 : Int32) < (3 : Int32)))).2.2.2 ?_
      show Steps p.tables e below (T260.setTop (mkF m 50 #[.val (.int ps), .val (.int pb), .val (.int pe), .val (.int (3 : Int32)), .val (.ref b248), .val (.int (own_cnt (3 : Int32) (0 : Int32) (0 : Int32) (0 : Int32) (0 : Int32))), .unset, .unset, .unset] [])) _
      refine XS.aload X260.here hx rfl (hb hby at_50) rfl rfl ?_
      show Steps p.tables e below (T260.setTop (mkF m 52 #[.val (.int ps), .val (.int pb), .val (.int pe), .val (.int (3 : Int32)), .val (.ref b248), .val (.int (own_cnt (3 : Int32) (0 : Int32) (0 : Int32) (0 : Int32) (0 : Int32))), .unset, .unset, .unset] [(.ref b248)])) _
      refine XS.iconst X260.here hx rfl (hb hby at_52) ?_
      show Steps p.tables e below (T260.setTop (mkF m 53 #[.val (.int ps), .val (.int pb), .val (.int pe), .val (.int (3 : Int32)), .val (.ref b248), .val (.int (own_cnt (3 : Int32) (0 : Int32) (0 : Int32) (0 : Int32) (0 : Int32))), .unset, .unset, .unset] [(.int (1 : Int32)), (.ref b248)])) _
      refine XS.iloadN X260.here hx rfl (hb hby at_53) rfl ?_
      show Steps p.tables e below (T260.setTop (mkF m 54 #[.val (.int ps), .val (.int pb), .val (.int pe), .val (.int (3 : Int32)), .val (.ref b248), .val (.int (own_cnt (3 : Int32) (0 : Int32) (0 : Int32) (0 : Int32) (0 : Int32))), .unset, .unset, .unset] [(.int pb), (.int (1 : Int32)), (.ref b248)])) _
      refine XS.iconst X260.here hx rfl (hb hby at_54) ?_
      show Steps p.tables e below (T260.setTop (mkF m 55 #[.val (.int ps), .val (.int pb), .val (.int pe), .val (.int (3 : Int32)), .val (.ref b248), .val (.int (own_cnt (3 : Int32) (0 : Int32) (0 : Int32) (0 : Int32) (0 : Int32))), .unset, .unset, .unset] [(.int (2 : Int32)), (.int pb), (.int (1 : Int32)), (.ref b248)])) _
      refine XS.iand X260.here hx rfl (hb hby at_55) rfl ?_
      exact k
    obtain ⟨v1, hv269, pre268⟩ : ∃ (v1 : Int32), (v1 = if (pb &&& 2) = 0 then 0 else 1) ∧ ∀ t, Steps p.tables e below (T260.setTop (mkF m 64 #[.val (.int ps), .val (.int pb), .val (.int pe), .val (.int (3 : Int32)), .val (.ref b248), .val (.int (own_cnt (3 : Int32) (0 : Int32) (0 : Int32) (0 : Int32) (0 : Int32))), .unset, .unset, .unset] [(.int v1), (.int (1 : Int32)), (.ref b248)])) t → Steps p.tables e below G0 t := by
      by_cases hc56_264 : (pb &&& (2 : Int32)) = (0 : Int32)
      · have pre265 : ∀ t, Steps p.tables e below (T260.setTop (mkF m 64 #[.val (.int ps), .val (.int pb), .val (.int pe), .val (.int (3 : Int32)), .val (.ref b248), .val (.int (own_cnt (3 : Int32) (0 : Int32) (0 : Int32) (0 : Int32) (0 : Int32))), .unset, .unset, .unset] [(.int (0 : Int32)), (.int (1 : Int32)), (.ref b248)])) t → Steps p.tables e below G0 t := by
          intro t k
          refine pre263 t ?_
          show Steps p.tables e below (T260.setTop (mkF m 56 #[.val (.int ps), .val (.int pb), .val (.int pe), .val (.int (3 : Int32)), .val (.ref b248), .val (.int (own_cnt (3 : Int32) (0 : Int32) (0 : Int32) (0 : Int32) (0 : Int32))), .unset, .unset, .unset] [(.int (pb &&& (2 : Int32))), (.int (1 : Int32)), (.ref b248)])) _
          refine XS.ifYes X260.here hx rfl (pc0 := 56) (pc' := 63) rfl (hb hby at_56) rfl ((if0 _ _).trans (teq hc56_264).1) (by decide) (by decide) ?_
          show Steps p.tables e below (T260.setTop (mkF m 63 #[.val (.int ps), .val (.int pb), .val (.int pe), .val (.int (3 : Int32)), .val (.ref b248), .val (.int (own_cnt (3 : Int32) (0 : Int32) (0 : Int32) (0 : Int32) (0 : Int32))), .unset, .unset, .unset] [(.int (1 : Int32)), (.ref b248)])) _
          refine XS.iconst X260.here hx rfl (hb hby at_63) ?_
          exact k
        exact ⟨(0 : Int32), (by simp [hc56_264]), pre265⟩
      · have pre266 : ∀ t, Steps p.tables e below (T260.setTop (mkF m 64 #[.val (.int ps), .val (.int pb), .val (.int pe), .val (.int (3 : Int32)), .val (.ref b248), .val (.int (own_cnt (3 : Int32) (0 : Int32) (0 : Int32) (0 : Int32) (0 : Int32))), .unset, .unset, .unset] [(.int (1 : Int32)), (.int (1 : Int32)), (.ref b248)])) t → Steps p.tables e below G0 t := by
          intro t k
          refine pre263 t ?_
          show Steps p.tables e below (T260.setTop (mkF m 56 #[.val (.int ps), .val (.int pb), .val (.int pe), .val (.int (3 : Int32)), .val (.ref b248), .val (.int (own_cnt (3 : Int32) (0 : Int32) (0 : Int32) (0 : Int32) (0 : Int32))), .unset, .unset, .unset] [(.int (pb &&& (2 : Int32))), (.int (1 : Int32)), (.ref b248)])) _
          refine XS.ifNo X260.here hx rfl (hb hby at_56) rfl ((if0 _ _).trans (feq hc56_264).1) ?_
          show Steps p.tables e below (T260.setTop (mkF m 59 #[.val (.int ps), .val (.int pb), .val (.int pe), .val (.int (3 : Int32)), .val (.ref b248), .val (.int (own_cnt (3 : Int32) (0 : Int32) (0 : Int32) (0 : Int32) (0 : Int32))), .unset, .unset, .unset] [(.int (1 : Int32)), (.ref b248)])) _
          refine XS.iconst X260.here hx rfl (hb hby at_59) ?_
          show Steps p.tables e below (T260.setTop (mkF m 60 #[.val (.int ps), .val (.int pb), .val (.int pe), .val (.int (3 : Int32)), .val (.ref b248), .val (.int (own_cnt (3 : Int32) (0 : Int32) (0 : Int32) (0 : Int32) (0 : Int32))), .unset, .unset, .unset] [(.int (1 : Int32)), (.int (1 : Int32)), (.ref b248)])) _
          refine XS.goto X260.here hx rfl (pc0 := 60) (pc' := 64) rfl (hb hby at_60) (by decide) (by decide) ?_
          exact k
        exact ⟨(1 : Int32), (by simp [hc56_264]), pre266⟩
    obtain ⟨cq270, kq270, q270a, q270b, q270c⟩ := isOf hZ rfl f261
    obtain ⟨_, _, ⟨T270, L270, k270, n270⟩, -, X270, ⟨Lc270, hQ270, l270, y270, z270⟩, st270⟩ := X260.virtualBack hx (y := (⟨"com/example/tresse/tresse/rwlock/Flags", "set", "(IZ)V"⟩ : MethodName)) (z := (⟨"com/example/tresse/tresse/rwlock/Flags", "set", "(IZ)V"⟩ : MethodName)) hown (mvT hZ (hw _ (List.mem_of_getElem? (i := 22) rfl))) (mvT hZ (hw _ (List.mem_of_getElem? (i := 23) rfl))) (notFace_of_selects (args := #[]) (mvT hZ (hw _ (List.mem_of_getElem? (i := 25) rfl)))) (mvT hZ (hw _ (List.mem_of_getElem? (i := 25) rfl))) (mvT hZ (hw _ (List.mem_of_getElem? (i := 24) rfl))) (by decide) (backOf (W := 0) (rm5j1 l Z a0 hw [] b248 v1 rar_250 rkk_250 (3 : Int32) (nar .boolean v0) (0 : Int32) (0 : Int32) (0 : Int32) T260.heap n0 Zs260 f262 p260_0 g_rar_250 ne_b248_rar_250 (by decide)) hZ (hw _ (List.mem_of_getElem? (i := 26) rfl)) (hw _ (List.mem_of_getElem? (i := 3) rfl)) (by decide) (by decide)) q270a q270c (g := (mkF m 64 #[.val (.int ps), .val (.int pb), .val (.int pe), .val (.int (3 : Int32)), .val (.ref b248), .val (.int (own_cnt (3 : Int32) (0 : Int32) (0 : Int32) (0 : Int32) (0 : Int32))), .unset, .unset, .unset] [(.int v1), (.int (1 : Int32)), (.ref b248)])) rfl (by rw [hml]; rfl) (Steps.refl _) (argsL := [(.int (1 : Int32)), (.int v1)]) (rest := []) (lenOf own_pd52 rfl) rfl (by show 2 * 0 + _ ≤ _; exact Nat.le_of_eq rfl) (hb hby at_64) (fun _ _ => ⟨rfl, rfl, (by decide : 2 + 0 ≤ _), (by decide : 5 + 0 ≤ _)⟩)
    dsimp only [Pt.U, Pt.locs, Pt.cells, Pt.slots] at X270 l270 y270 z270 st270 hQ270
    subst l270 y270 z270
    obtain ⟨rfl, Nq270, K270, p270_0⟩ := hQ270
    have N270 := Fr.app N260 Nq270
    have Zs270 : n0 ≤ T270.heap.size := Nat.le_trans Zs260 K270.1
    have KK270 : Keep h0 T270.heap [] := KK260.trans K270 (allS (Or.inr sz_rar_250) all0)
    have f271 := f261.keep K270
    have f272 := f262.keep K270 (ninS ne_b248_rar_250 nin0)
    have pre273 : ∀ t, Steps p.tables e below (T270.setTop (mkF m 78 #[.val (.int ps), .val (.int pb), .val (.int pe), .val (.int (3 : Int32)), .val (.ref b248), .val (.int (own_cnt (3 : Int32) (0 : Int32) (0 : Int32) (0 : Int32) (0 : Int32))), .unset, .unset, .unset] [(.int (pb &&& (4 : Int32))), (.int (2 : Int32)), (.ref b248)])) t → Steps p.tables e below G0 t := by
      intro t k
      refine pre268 t ?_
      show Steps p.tables e below (T260.setTop (mkF m 64 #[.val (.int ps), .val (.int pb), .val (.int pe), .val (.int (3 : Int32)), .val (.ref b248), .val (.int (own_cnt (3 : Int32) (0 : Int32) (0 : Int32) (0 : Int32) (0 : Int32))), .unset, .unset, .unset] [(.int v1), (.int (1 : Int32)), (.ref b248)])) _
      refine st270.trans ?_
      show Steps p.tables e below (T270.setTop (mkF m 67 #[.val (.int ps), .val (.int pb), .val (.int pe), .val (.int (3 : Int32)), .val (.ref b248), .val (.int (own_cnt (3 : Int32) (0 : Int32) (0 : Int32) (0 : Int32) (0 : Int32))), .unset, .unset, .unset] [])) _
      refine XS.iloadN X270.here hx rfl (hb hby at_67) rfl ?_
      show Steps p.tables e below (T270.setTop (mkF m 68 #[.val (.int ps), .val (.int pb), .val (.int pe), .val (.int (3 : Int32)), .val (.ref b248), .val (.int (own_cnt (3 : Int32) (0 : Int32) (0 : Int32) (0 : Int32) (0 : Int32))), .unset, .unset, .unset] [(.int (3 : Int32))])) _
      refine XS.iconst X270.here hx rfl (hb hby at_68) ?_
      show Steps p.tables e below (T270.setTop (mkF m 69 #[.val (.int ps), .val (.int pb), .val (.int pe), .val (.int (3 : Int32)), .val (.ref b248), .val (.int (own_cnt (3 : Int32) (0 : Int32) (0 : Int32) (0 : Int32) (0 : Int32))), .unset, .unset, .unset] [(.int (2 : Int32)), (.int (3 : Int32))])) _
      refine XS.icmpNo X270.here hx rfl (hb hby at_69) rfl (tlt (by decide : ((2 : Int32) < (3 : Int32)))).2.2.2 ?_
      show Steps p.tables e below (T270.setTop (mkF m 72 #[.val (.int ps), .val (.int pb), .val (.int pe), .val (.int (3 : Int32)), .val (.ref b248), .val (.int (own_cnt (3 : Int32) (0 : Int32) (0 : Int32) (0 : Int32) (0 : Int32))), .unset, .unset, .unset] [])) _
      refine XS.aload X270.here hx rfl (hb hby at_72) rfl rfl ?_
      show Steps p.tables e below (T270.setTop (mkF m 74 #[.val (.int ps), .val (.int pb), .val (.int pe), .val (.int (3 : Int32)), .val (.ref b248), .val (.int (own_cnt (3 : Int32) (0 : Int32) (0 : Int32) (0 : Int32) (0 : Int32))), .unset, .unset, .unset] [(.ref b248)])) _
      refine XS.iconst X270.here hx rfl (hb hby at_74) ?_
      show Steps p.tables e below (T270.setTop (mkF m 75 #[.val (.int ps), .val (.int pb), .val (.int pe), .val (.int (3 : Int32)), .val (.ref b248), .val (.int (own_cnt (3 : Int32) (0 : Int32) (0 : Int32) (0 : Int32) (0 : Int32))), .unset, .unset, .unset] [(.int (2 : Int32)), (.ref b248)])) _
      refine XS.iloadN X270.here hx rfl (hb hby at_75) rfl ?_
      show Steps p.tables e below (T270.setTop (mkF m 76 #[.val (.int ps), .val (.int pb), .val (.int pe), .val (.int (3 : Int32)), .val (.ref b248), .val (.int (own_cnt (3 : Int32) (0 : Int32) (0 : Int32) (0 : Int32) (0 : Int32))), .unset, .unset, .unset] [(.int pb), (.int (2 : Int32)), (.ref b248)])) _
      refine XS.iconst X270.here hx rfl (hb hby at_76) ?_
      show Steps p.tables e below (T270.setTop (mkF m 77 #[.val (.int ps), .val (.int pb), .val (.int pe), .val (.int (3 : Int32)), .val (.ref b248), .val (.int (own_cnt (3 : Int32) (0 : Int32) (0 : Int32) (0 : Int32) (0 : Int32))), .unset, .unset, .unset] [(.int (4 : Int32)), (.int pb), (.int (2 : Int32)), (.ref b248)])) _
      refine XS.iand X270.here hx rfl (hb hby at_77) rfl ?_
      exact k
    obtain ⟨v2, hv279, pre278⟩ : ∃ (v2 : Int32), (v2 = if (pb &&& 4) = 0 then 0 else 1) ∧ ∀ t, Steps p.tables e below (T270.setTop (mkF m 86 #[.val (.int ps), .val (.int pb), .val (.int pe), .val (.int (3 : Int32)), .val (.ref b248), .val (.int (own_cnt (3 : Int32) (0 : Int32) (0 : Int32) (0 : Int32) (0 : Int32))), .unset, .unset, .unset] [(.int v2), (.int (2 : Int32)), (.ref b248)])) t → Steps p.tables e below G0 t := by
      by_cases hc78_274 : (pb &&& (4 : Int32)) = (0 : Int32)
      · have pre275 : ∀ t, Steps p.tables e below (T270.setTop (mkF m 86 #[.val (.int ps), .val (.int pb), .val (.int pe), .val (.int (3 : Int32)), .val (.ref b248), .val (.int (own_cnt (3 : Int32) (0 : Int32) (0 : Int32) (0 : Int32) (0 : Int32))), .unset, .unset, .unset] [(.int (0 : Int32)), (.int (2 : Int32)), (.ref b248)])) t → Steps p.tables e below G0 t := by
          intro t k
          refine pre273 t ?_
          show Steps p.tables e below (T270.setTop (mkF m 78 #[.val (.int ps), .val (.int pb), .val (.int pe), .val (.int (3 : Int32)), .val (.ref b248), .val (.int (own_cnt (3 : Int32) (0 : Int32) (0 : Int32) (0 : Int32) (0 : Int32))), .unset, .unset, .unset] [(.int (pb &&& (4 : Int32))), (.int (2 : Int32)), (.ref b248)])) _
          refine XS.ifYes X270.here hx rfl (pc0 := 78) (pc' := 85) rfl (hb hby at_78) rfl ((if0 _ _).trans (teq hc78_274).1) (by decide) (by decide) ?_
          show Steps p.tables e below (T270.setTop (mkF m 85 #[.val (.int ps), .val (.int pb), .val (.int pe), .val (.int (3 : Int32)), .val (.ref b248), .val (.int (own_cnt (3 : Int32) (0 : Int32) (0 : Int32) (0 : Int32) (0 : Int32))), .unset, .unset, .unset] [(.int (2 : Int32)), (.ref b248)])) _
          refine XS.iconst X270.here hx rfl (hb hby at_85) ?_
          exact k
        exact ⟨(0 : Int32), (by simp [hc78_274]), pre275⟩
      · have pre276 : ∀ t, Steps p.tables e below (T270.setTop (mkF m 86 #[.val (.int ps), .val (.int pb), .val (.int pe), .val (.int (3 : Int32)), .val (.ref b248), .val (.int (own_cnt (3 : Int32) (0 : Int32) (0 : Int32) (0 : Int32) (0 : Int32))), .unset, .unset, .unset] [(.int (1 : Int32)), (.int (2 : Int32)), (.ref b248)])) t → Steps p.tables e below G0 t := by
          intro t k
          refine pre273 t ?_
          show Steps p.tables e below (T270.setTop (mkF m 78 #[.val (.int ps), .val (.int pb), .val (.int pe), .val (.int (3 : Int32)), .val (.ref b248), .val (.int (own_cnt (3 : Int32) (0 : Int32) (0 : Int32) (0 : Int32) (0 : Int32))), .unset, .unset, .unset] [(.int (pb &&& (4 : Int32))), (.int (2 : Int32)), (.ref b248)])) _
          refine XS.ifNo X270.here hx rfl (hb hby at_78) rfl ((if0 _ _).trans (feq hc78_274).1) ?_
          show Steps p.tables e below (T270.setTop (mkF m 81 #[.val (.int ps), .val (.int pb), .val (.int pe), .val (.int (3 : Int32)), .val (.ref b248), .val (.int (own_cnt (3 : Int32) (0 : Int32) (0 : Int32) (0 : Int32) (0 : Int32))), .unset, .unset, .unset] [(.int (2 : Int32)), (.ref b248)])) _
          refine XS.iconst X270.here hx rfl (hb hby at_81) ?_
          show Steps p.tables e below (T270.setTop (mkF m 82 #[.val (.int ps), .val (.int pb), .val (.int pe), .val (.int (3 : Int32)), .val (.ref b248), .val (.int (own_cnt (3 : Int32) (0 : Int32) (0 : Int32) (0 : Int32) (0 : Int32))), .unset, .unset, .unset] [(.int (1 : Int32)), (.int (2 : Int32)), (.ref b248)])) _
          refine XS.goto X270.here hx rfl (pc0 := 82) (pc' := 86) rfl (hb hby at_82) (by decide) (by decide) ?_
          exact k
        exact ⟨(1 : Int32), (by simp [hc78_274]), pre276⟩
    obtain ⟨cq280, kq280, q280a, q280b, q280c⟩ := isOf hZ rfl f271
    obtain ⟨_, _, ⟨T280, L280, k280, n280⟩, -, X280, ⟨Lc280, hQ280, l280, y280, z280⟩, st280⟩ := X270.virtualBack hx (y := (⟨"com/example/tresse/tresse/rwlock/Flags", "set", "(IZ)V"⟩ : MethodName)) (z := (⟨"com/example/tresse/tresse/rwlock/Flags", "set", "(IZ)V"⟩ : MethodName)) hown (mvT hZ (hw _ (List.mem_of_getElem? (i := 22) rfl))) (mvT hZ (hw _ (List.mem_of_getElem? (i := 23) rfl))) (notFace_of_selects (args := #[]) (mvT hZ (hw _ (List.mem_of_getElem? (i := 25) rfl)))) (mvT hZ (hw _ (List.mem_of_getElem? (i := 25) rfl))) (mvT hZ (hw _ (List.mem_of_getElem? (i := 24) rfl))) (by decide) (backOf (W := 0) (rm5j2 l Z a0 hw [] b248 v2 rar_250 rkk_250 (3 : Int32) (nar .boolean v0) (nar .boolean v1) (0 : Int32) (0 : Int32) T270.heap n0 Zs270 f272 p270_0 g_rar_250 ne_b248_rar_250 (by decide)) hZ (hw _ (List.mem_of_getElem? (i := 26) rfl)) (hw _ (List.mem_of_getElem? (i := 3) rfl)) (by decide) (by decide)) q280a q280c (g := (mkF m 86 #[.val (.int ps), .val (.int pb), .val (.int pe), .val (.int (3 : Int32)), .val (.ref b248), .val (.int (own_cnt (3 : Int32) (0 : Int32) (0 : Int32) (0 : Int32) (0 : Int32))), .unset, .unset, .unset] [(.int v2), (.int (2 : Int32)), (.ref b248)])) rfl (by rw [hml]; rfl) (Steps.refl _) (argsL := [(.int (2 : Int32)), (.int v2)]) (rest := []) (lenOf own_pd52 rfl) rfl (by show 2 * 0 + _ ≤ _; exact Nat.le_of_eq rfl) (hb hby at_86) (fun _ _ => ⟨rfl, rfl, (by decide : 2 + 0 ≤ _), (by decide : 5 + 0 ≤ _)⟩)
    dsimp only [Pt.U, Pt.locs, Pt.cells, Pt.slots] at X280 l280 y280 z280 st280 hQ280
    subst l280 y280 z280
    obtain ⟨rfl, Nq280, K280, p280_0⟩ := hQ280
    have N280 := Fr.app N270 Nq280
    have Zs280 : n0 ≤ T280.heap.size := Nat.le_trans Zs270 K280.1
    have KK280 : Keep h0 T280.heap [] := KK270.trans K280 (allS (Or.inr sz_rar_250) all0)
    have f281 := f271.keep K280
    have f282 := f272.keep K280 (ninS ne_b248_rar_250 nin0)
    have pre283 : ∀ t, Steps p.tables e below (T280.setTop (mkF m 132 #[.val (.int ps), .val (.int pb), .val (.int pe), .val (.int (3 : Int32)), .val (.ref b248), .val (.int (own_cnt (3 : Int32) (0 : Int32) (0 : Int32) (0 : Int32) (0 : Int32))), .val (.int (pb &&& (((1 : Int32) <<< ((3 : Int32) &&& 31)) - (1 : Int32)))), .val (.int ((pe &&& (3 : Int32)) % (3 : Int32))), .unset] [])) t → Steps p.tables e below G0 t := by
      intro t k
      refine pre278 t ?_
      show Steps p.tables e below (T270.setTop (mkF m 86 #[.val (.int ps), .val (.int pb), .val (.int pe), .val (.int (3 : Int32)), .val (.ref b248), .val (.int (own_cnt (3 : Int32) (0 : Int32) (0 : Int32) (0 : Int32) (0 : Int32))), .unset, .unset, .unset] [(.int v2), (.int (2 : Int32)), (.ref b248)])) _
      refine st280.trans ?_
      show Steps p.tables e below (T280.setTop (mkF m 89 #[.val (.int ps), .val (.int pb), .val (.int pe), .val (.int (3 : Int32)), .val (.ref b248), .val (.int (own_cnt (3 : Int32) (0 : Int32) (0 : Int32) (0 : Int32) (0 : Int32))), .unset, .unset, .unset] [])) _
      refine XS.iloadN X280.here hx rfl (hb hby at_89) rfl ?_
      show Steps p.tables e below (T280.setTop (mkF m 90 #[.val (.int ps), .val (.int pb), .val (.int pe), .val (.int (3 : Int32)), .val (.ref b248), .val (.int (own_cnt (3 : Int32) (0 : Int32) (0 : Int32) (0 : Int32) (0 : Int32))), .unset, .unset, .unset] [(.int (3 : Int32))])) _
      refine XS.iconst X280.here hx rfl (hb hby at_90) ?_
      show Steps p.tables e below (T280.setTop (mkF m 91 #[.val (.int ps), .val (.int pb), .val (.int pe), .val (.int (3 : Int32)), .val (.ref b248), .val (.int (own_cnt (3 : Int32) (0 : Int32) (0 : Int32) (0 : Int32) (0 : Int32))), .unset, .unset, .unset] [(.int (3 : Int32)), (.int (3 : Int32))])) _
      refine XS.icmpYes X280.here hx rfl (pc0 := 91) (pc' := 112) rfl (hb hby at_91) rfl (flt (by decide : ¬ ((3 : Int32) < (3 : Int32)))).2.2.2 (by decide) (by decide) ?_
      show Steps p.tables e below (T280.setTop (mkF m 112 #[.val (.int ps), .val (.int pb), .val (.int pe), .val (.int (3 : Int32)), .val (.ref b248), .val (.int (own_cnt (3 : Int32) (0 : Int32) (0 : Int32) (0 : Int32) (0 : Int32))), .unset, .unset, .unset] [])) _
      refine XS.iloadN X280.here hx rfl (hb hby at_112) rfl ?_
      show Steps p.tables e below (T280.setTop (mkF m 113 #[.val (.int ps), .val (.int pb), .val (.int pe), .val (.int (3 : Int32)), .val (.ref b248), .val (.int (own_cnt (3 : Int32) (0 : Int32) (0 : Int32) (0 : Int32) (0 : Int32))), .unset, .unset, .unset] [(.int pb)])) _
      refine XS.iconst X280.here hx rfl (hb hby at_113) ?_
      show Steps p.tables e below (T280.setTop (mkF m 114 #[.val (.int ps), .val (.int pb), .val (.int pe), .val (.int (3 : Int32)), .val (.ref b248), .val (.int (own_cnt (3 : Int32) (0 : Int32) (0 : Int32) (0 : Int32) (0 : Int32))), .unset, .unset, .unset] [(.int (1 : Int32)), (.int pb)])) _
      refine XS.iloadN X280.here hx rfl (hb hby at_114) rfl ?_
      show Steps p.tables e below (T280.setTop (mkF m 115 #[.val (.int ps), .val (.int pb), .val (.int pe), .val (.int (3 : Int32)), .val (.ref b248), .val (.int (own_cnt (3 : Int32) (0 : Int32) (0 : Int32) (0 : Int32) (0 : Int32))), .unset, .unset, .unset] [(.int (3 : Int32)), (.int (1 : Int32)), (.int pb)])) _
      refine XS.ishl X280.here hx rfl (hb hby at_115) rfl ?_
      show Steps p.tables e below (T280.setTop (mkF m 116 #[.val (.int ps), .val (.int pb), .val (.int pe), .val (.int (3 : Int32)), .val (.ref b248), .val (.int (own_cnt (3 : Int32) (0 : Int32) (0 : Int32) (0 : Int32) (0 : Int32))), .unset, .unset, .unset] [(.int ((1 : Int32) <<< ((3 : Int32) &&& 31))), (.int pb)])) _
      refine XS.iconst X280.here hx rfl (hb hby at_116) ?_
      show Steps p.tables e below (T280.setTop (mkF m 117 #[.val (.int ps), .val (.int pb), .val (.int pe), .val (.int (3 : Int32)), .val (.ref b248), .val (.int (own_cnt (3 : Int32) (0 : Int32) (0 : Int32) (0 : Int32) (0 : Int32))), .unset, .unset, .unset] [(.int (1 : Int32)), (.int ((1 : Int32) <<< ((3 : Int32) &&& 31))), (.int pb)])) _
      refine XS.isub X280.here hx rfl (hb hby at_117) rfl ?_
      show Steps p.tables e below (T280.setTop (mkF m 118 #[.val (.int ps), .val (.int pb), .val (.int pe), .val (.int (3 : Int32)), .val (.ref b248), .val (.int (own_cnt (3 : Int32) (0 : Int32) (0 : Int32) (0 : Int32) (0 : Int32))), .unset, .unset, .unset] [(.int (((1 : Int32) <<< ((3 : Int32) &&& 31)) - (1 : Int32))), (.int pb)])) _
      refine XS.iand X280.here hx rfl (hb hby at_118) rfl ?_
      show Steps p.tables e below (T280.setTop (mkF m 119 #[.val (.int ps), .val (.int pb), .val (.int pe), .val (.int (3 : Int32)), .val (.ref b248), .val (.int (own_cnt (3 : Int32) (0 : Int32) (0 : Int32) (0 : Int32) (0 : Int32))), .unset, .unset, .unset] [(.int (pb &&& (((1 : Int32) <<< ((3 : Int32) &&& 31)) - (1 : Int32))))])) _
      refine XS.istore X280.here hx rfl (hb hby at_119) rfl (l' := #[.val (.int ps), .val (.int pb), .val (.int pe), .val (.int (3 : Int32)), .val (.ref b248), .val (.int (own_cnt (3 : Int32) (0 : Int32) (0 : Int32) (0 : Int32) (0 : Int32))), .val (.int (pb &&& (((1 : Int32) <<< ((3 : Int32) &&& 31)) - (1 : Int32)))), .unset, .unset]) rfl ?_
      show Steps p.tables e below (T280.setTop (mkF m 121 #[.val (.int ps), .val (.int pb), .val (.int pe), .val (.int (3 : Int32)), .val (.ref b248), .val (.int (own_cnt (3 : Int32) (0 : Int32) (0 : Int32) (0 : Int32) (0 : Int32))), .val (.int (pb &&& (((1 : Int32) <<< ((3 : Int32) &&& 31)) - (1 : Int32)))), .unset, .unset] [])) _
      refine XS.iloadN X280.here hx rfl (hb hby at_121) rfl ?_
      show Steps p.tables e below (T280.setTop (mkF m 122 #[.val (.int ps), .val (.int pb), .val (.int pe), .val (.int (3 : Int32)), .val (.ref b248), .val (.int (own_cnt (3 : Int32) (0 : Int32) (0 : Int32) (0 : Int32) (0 : Int32))), .val (.int (pb &&& (((1 : Int32) <<< ((3 : Int32) &&& 31)) - (1 : Int32)))), .unset, .unset] [(.int (3 : Int32))])) _
      refine XS.ifNo X280.here hx rfl (hb hby at_122) rfl ((if0 _ _).trans (tlt (by decide : ((0 : Int32) < (3 : Int32)))).2.2.2) ?_
      show Steps p.tables e below (T280.setTop (mkF m 125 #[.val (.int ps), .val (.int pb), .val (.int pe), .val (.int (3 : Int32)), .val (.ref b248), .val (.int (own_cnt (3 : Int32) (0 : Int32) (0 : Int32) (0 : Int32) (0 : Int32))), .val (.int (pb &&& (((1 : Int32) <<< ((3 : Int32) &&& 31)) - (1 : Int32)))), .unset, .unset] [])) _
      refine XS.iloadN X280.here hx rfl (hb hby at_125) rfl ?_
      show Steps p.tables e below (T280.setTop (mkF m 126 #[.val (.int ps), .val (.int pb), .val (.int pe), .val (.int (3 : Int32)), .val (.ref b248), .val (.int (own_cnt (3 : Int32) (0 : Int32) (0 : Int32) (0 : Int32) (0 : Int32))), .val (.int (pb &&& (((1 : Int32) <<< ((3 : Int32) &&& 31)) - (1 : Int32)))), .unset, .unset] [(.int pe)])) _
      refine XS.iconst X280.here hx rfl (hb hby at_126) ?_
      show Steps p.tables e below (T280.setTop (mkF m 127 #[.val (.int ps), .val (.int pb), .val (.int pe), .val (.int (3 : Int32)), .val (.ref b248), .val (.int (own_cnt (3 : Int32) (0 : Int32) (0 : Int32) (0 : Int32) (0 : Int32))), .val (.int (pb &&& (((1 : Int32) <<< ((3 : Int32) &&& 31)) - (1 : Int32)))), .unset, .unset] [(.int (3 : Int32)), (.int pe)])) _
      refine XS.iand X280.here hx rfl (hb hby at_127) rfl ?_
      show Steps p.tables e below (T280.setTop (mkF m 128 #[.val (.int ps), .val (.int pb), .val (.int pe), .val (.int (3 : Int32)), .val (.ref b248), .val (.int (own_cnt (3 : Int32) (0 : Int32) (0 : Int32) (0 : Int32) (0 : Int32))), .val (.int (pb &&& (((1 : Int32) <<< ((3 : Int32) &&& 31)) - (1 : Int32)))), .unset, .unset] [(.int (pe &&& (3 : Int32)))])) _
      refine XS.iloadN X280.here hx rfl (hb hby at_128) rfl ?_
      show Steps p.tables e below (T280.setTop (mkF m 129 #[.val (.int ps), .val (.int pb), .val (.int pe), .val (.int (3 : Int32)), .val (.ref b248), .val (.int (own_cnt (3 : Int32) (0 : Int32) (0 : Int32) (0 : Int32) (0 : Int32))), .val (.int (pb &&& (((1 : Int32) <<< ((3 : Int32) &&& 31)) - (1 : Int32)))), .unset, .unset] [(.int (3 : Int32)), (.int (pe &&& (3 : Int32)))])) _
      refine iremM X280 hx rfl (hb hby at_129) rfl (by decide) ?_
      show Steps p.tables e below (T280.setTop (mkF m 130 #[.val (.int ps), .val (.int pb), .val (.int pe), .val (.int (3 : Int32)), .val (.ref b248), .val (.int (own_cnt (3 : Int32) (0 : Int32) (0 : Int32) (0 : Int32) (0 : Int32))), .val (.int (pb &&& (((1 : Int32) <<< ((3 : Int32) &&& 31)) - (1 : Int32)))), .unset, .unset] [(.int ((pe &&& (3 : Int32)) % (3 : Int32)))])) _
      refine XS.istore X280.here hx rfl (hb hby at_130) rfl (l' := #[.val (.int ps), .val (.int pb), .val (.int pe), .val (.int (3 : Int32)), .val (.ref b248), .val (.int (own_cnt (3 : Int32) (0 : Int32) (0 : Int32) (0 : Int32) (0 : Int32))), .val (.int (pb &&& (((1 : Int32) <<< ((3 : Int32) &&& 31)) - (1 : Int32)))), .val (.int ((pe &&& (3 : Int32)) % (3 : Int32))), .unset]) rfl ?_
      exact k
    obtain ⟨vz, hv290, pre289⟩ : ∃ (vz : Int32), (vz = 0 ∨ vz = 1) ∧ ∀ t, Steps p.tables e below (T280.setTop (mkF m 143 #[.val (.int ps), .val (.int pb), .val (.int pe), .val (.int (3 : Int32)), .val (.ref b248), .val (.int (own_cnt (3 : Int32) (0 : Int32) (0 : Int32) (0 : Int32) (0 : Int32))), .val (.int (pb &&& (((1 : Int32) <<< ((3 : Int32) &&& 31)) - (1 : Int32)))), .val (.int ((pe &&& (3 : Int32)) % (3 : Int32))), .unset] [(.int vz)])) t → Steps p.tables e below G0 t := by
      have pre284 : ∀ t, Steps p.tables e below (T280.setTop (mkF m 135 #[.val (.int ps), .val (.int pb), .val (.int pe), .val (.int (3 : Int32)), .val (.ref b248), .val (.int (own_cnt (3 : Int32) (0 : Int32) (0 : Int32) (0 : Int32) (0 : Int32))), .val (.int (pb &&& (((1 : Int32) <<< ((3 : Int32) &&& 31)) - (1 : Int32)))), .val (.int ((pe &&& (3 : Int32)) % (3 : Int32))), .unset] [(.int (pe &&& (4 : Int32)))])) t → Steps p.tables e below G0 t := by
        intro t k
        refine pre283 t ?_
        show Steps p.tables e below (T280.setTop (mkF m 132 #[.val (.int ps), .val (.int pb), .val (.int pe), .val (.int (3 : Int32)), .val (.ref b248), .val (.int (own_cnt (3 : Int32) (0 : Int32) (0 : Int32) (0 : Int32) (0 : Int32))), .val (.int (pb &&& (((1 : Int32) <<< ((3 : Int32) &&& 31)) - (1 : Int32)))), .val (.int ((pe &&& (3 : Int32)) % (3 : Int32))), .unset] [])) _
        refine XS.iloadN X280.here hx rfl (hb hby at_132) rfl ?_
        show Steps p.tables e below (T280.setTop (mkF m 133 #[.val (.int ps), .val (.int pb), .val (.int pe), .val (.int (3 : Int32)), .val (.ref b248), .val (.int (own_cnt (3 : Int32) (0 : Int32) (0 : Int32) (0 : Int32) (0 : Int32))), .val (.int (pb &&& (((1 : Int32) <<< ((3 : Int32) &&& 31)) - (1 : Int32)))), .val (.int ((pe &&& (3 : Int32)) % (3 : Int32))), .unset] [(.int pe)])) _
        refine XS.iconst X280.here hx rfl (hb hby at_133) ?_
        show Steps p.tables e below (T280.setTop (mkF m 134 #[.val (.int ps), .val (.int pb), .val (.int pe), .val (.int (3 : Int32)), .val (.ref b248), .val (.int (own_cnt (3 : Int32) (0 : Int32) (0 : Int32) (0 : Int32) (0 : Int32))), .val (.int (pb &&& (((1 : Int32) <<< ((3 : Int32) &&& 31)) - (1 : Int32)))), .val (.int ((pe &&& (3 : Int32)) % (3 : Int32))), .unset] [(.int (4 : Int32)), (.int pe)])) _
        refine XS.iand X280.here hx rfl (hb hby at_134) rfl ?_
        exact k
      by_cases hc135_285 : (pe &&& (4 : Int32)) = (0 : Int32)
      · have pre286 : ∀ t, Steps p.tables e below (T280.setTop (mkF m 143 #[.val (.int ps), .val (.int pb), .val (.int pe), .val (.int (3 : Int32)), .val (.ref b248), .val (.int (own_cnt (3 : Int32) (0 : Int32) (0 : Int32) (0 : Int32) (0 : Int32))), .val (.int (pb &&& (((1 : Int32) <<< ((3 : Int32) &&& 31)) - (1 : Int32)))), .val (.int ((pe &&& (3 : Int32)) % (3 : Int32))), .unset] [(.int (0 : Int32))])) t → Steps p.tables e below G0 t := by
          intro t k
          refine pre284 t ?_
          show Steps p.tables e below (T280.setTop (mkF m 135 #[.val (.int ps), .val (.int pb), .val (.int pe), .val (.int (3 : Int32)), .val (.ref b248), .val (.int (own_cnt (3 : Int32) (0 : Int32) (0 : Int32) (0 : Int32) (0 : Int32))), .val (.int (pb &&& (((1 : Int32) <<< ((3 : Int32) &&& 31)) - (1 : Int32)))), .val (.int ((pe &&& (3 : Int32)) % (3 : Int32))), .unset] [(.int (pe &&& (4 : Int32)))])) _
          refine XS.ifYes X280.here hx rfl (pc0 := 135) (pc' := 142) rfl (hb hby at_135) rfl ((if0 _ _).trans (teq hc135_285).1) (by decide) (by decide) ?_
          show Steps p.tables e below (T280.setTop (mkF m 142 #[.val (.int ps), .val (.int pb), .val (.int pe), .val (.int (3 : Int32)), .val (.ref b248), .val (.int (own_cnt (3 : Int32) (0 : Int32) (0 : Int32) (0 : Int32) (0 : Int32))), .val (.int (pb &&& (((1 : Int32) <<< ((3 : Int32) &&& 31)) - (1 : Int32)))), .val (.int ((pe &&& (3 : Int32)) % (3 : Int32))), .unset] [])) _
          refine XS.iconst X280.here hx rfl (hb hby at_142) ?_
          exact k
        exact ⟨(0 : Int32), (by simp), pre286⟩
      · have pre287 : ∀ t, Steps p.tables e below (T280.setTop (mkF m 143 #[.val (.int ps), .val (.int pb), .val (.int pe), .val (.int (3 : Int32)), .val (.ref b248), .val (.int (own_cnt (3 : Int32) (0 : Int32) (0 : Int32) (0 : Int32) (0 : Int32))), .val (.int (pb &&& (((1 : Int32) <<< ((3 : Int32) &&& 31)) - (1 : Int32)))), .val (.int ((pe &&& (3 : Int32)) % (3 : Int32))), .unset] [(.int (1 : Int32))])) t → Steps p.tables e below G0 t := by
          intro t k
          refine pre284 t ?_
          show Steps p.tables e below (T280.setTop (mkF m 135 #[.val (.int ps), .val (.int pb), .val (.int pe), .val (.int (3 : Int32)), .val (.ref b248), .val (.int (own_cnt (3 : Int32) (0 : Int32) (0 : Int32) (0 : Int32) (0 : Int32))), .val (.int (pb &&& (((1 : Int32) <<< ((3 : Int32) &&& 31)) - (1 : Int32)))), .val (.int ((pe &&& (3 : Int32)) % (3 : Int32))), .unset] [(.int (pe &&& (4 : Int32)))])) _
          refine XS.ifNo X280.here hx rfl (hb hby at_135) rfl ((if0 _ _).trans (feq hc135_285).1) ?_
          show Steps p.tables e below (T280.setTop (mkF m 138 #[.val (.int ps), .val (.int pb), .val (.int pe), .val (.int (3 : Int32)), .val (.ref b248), .val (.int (own_cnt (3 : Int32) (0 : Int32) (0 : Int32) (0 : Int32) (0 : Int32))), .val (.int (pb &&& (((1 : Int32) <<< ((3 : Int32) &&& 31)) - (1 : Int32)))), .val (.int ((pe &&& (3 : Int32)) % (3 : Int32))), .unset] [])) _
          refine XS.iconst X280.here hx rfl (hb hby at_138) ?_
          show Steps p.tables e below (T280.setTop (mkF m 139 #[.val (.int ps), .val (.int pb), .val (.int pe), .val (.int (3 : Int32)), .val (.ref b248), .val (.int (own_cnt (3 : Int32) (0 : Int32) (0 : Int32) (0 : Int32) (0 : Int32))), .val (.int (pb &&& (((1 : Int32) <<< ((3 : Int32) &&& 31)) - (1 : Int32)))), .val (.int ((pe &&& (3 : Int32)) % (3 : Int32))), .unset] [(.int (1 : Int32))])) _
          refine XS.goto X280.here hx rfl (pc0 := 139) (pc' := 143) rfl (hb hby at_139) (by decide) (by decide) ?_
          exact k
        exact ⟨(1 : Int32), (by simp), pre287⟩
    obtain ⟨Tm306, hm306, lm306, kv, ee0, ee1, ee2, Xm306, em306, Nm306, Zm306, Km306, f307, f308, f309, hv311, pre310⟩ : ∃ (Tm306 : State) (hm306 : Heap) (lm306 : List Loc) (kv : Int32) (ee0 : Int32) (ee1 : Int32) (ee2 : Int32), Stand p l e room_1 s m #[(.int ps), (.int pb), (.int pe)] below meth c Tm306 lm306 2 5 ∧ Tm306.heap = hm306 ∧ Fr n0 lm306 ∧ n0 ≤ hm306.size ∧ Keep h0 hm306 [] ∧ Exa Z hm306 b248 "com/example/tresse/tresse/rwlock/Flags" ∧ Fld Z hm306 b248 "com/example/tresse/tresse/rwlock/Flags" "values" "[Z" (.ref rar_250) ∧ Arv Z hm306 rar_250 rkk_250 .boolean (3 : Int32) [(.int ee0), (.int ee1), (.int ee2), (.int (0 : Int32))] (.int (0 : Int32)) ∧ ((kv = 0 ∧ ee0 = (nar .boolean vz) ∧ ee1 = (nar .boolean v1) ∧ ee2 = (nar .boolean v2)) ∨ (kv = 1 ∧ ee0 = (nar .boolean v0) ∧ ee1 = (nar .boolean vz) ∧ ee2 = (nar .boolean v2)) ∨ (kv = 2 ∧ ee0 = (nar .boolean v0) ∧ ee1 = (nar .boolean v1) ∧ ee2 = (nar .boolean vz))) ∧ ∀ t, Steps p.tables e below (Tm306.setTop (mkF m 154 #[.val (.int ps), .val (.int pb), .val (.int pe), .val (.int (3 : Int32)), .val (.ref b248), .val (.int (own_cnt (3 : Int32) (0 : Int32) (0 : Int32) (0 : Int32) (0 : Int32))), .val (.int (pb &&& (((1 : Int32) <<< ((3 : Int32) &&& 31)) - (1 : Int32)))), .val (.int kv), .val (.int vz)] [])) t → Steps p.tables e below G0 t := by
      rcases own_k3 pe with hq291 | hq292 | hq293
      · rw [hq291] at pre289
        obtain ⟨cq294, kq294, q294a, q294b, q294c⟩ := isOf hZ rfl f281
        obtain ⟨_, _, ⟨T294, L294, k294, n294⟩, -, X294, ⟨Lc294, hQ294, l294, y294, z294⟩, st294⟩ := X280.virtualBack hx (y := (⟨"com/example/tresse/tresse/rwlock/Flags", "set", "(IZ)V"⟩ : MethodName)) (z := (⟨"com/example/tresse/tresse/rwlock/Flags", "set", "(IZ)V"⟩ : MethodName)) hown (mvT hZ (hw _ (List.mem_of_getElem? (i := 22) rfl))) (mvT hZ (hw _ (List.mem_of_getElem? (i := 23) rfl))) (notFace_of_selects (args := #[]) (mvT hZ (hw _ (List.mem_of_getElem? (i := 25) rfl)))) (mvT hZ (hw _ (List.mem_of_getElem? (i := 25) rfl))) (mvT hZ (hw _ (List.mem_of_getElem? (i := 24) rfl))) (by decide) (backOf (W := 0) (rm5j0 l Z a0 hw [] b248 vz rar_250 rkk_250 (3 : Int32) (nar .boolean v0) (nar .boolean v1) (nar .boolean v2) (0 : Int32) T280.heap n0 Zs280 f282 p280_0 g_rar_250 ne_b248_rar_250 (by decide)) hZ (hw _ (List.mem_of_getElem? (i := 26) rfl)) (hw _ (List.mem_of_getElem? (i := 3) rfl)) (by decide) (by decide)) q294a q294c (g := (mkF m 151 #[.val (.int ps), .val (.int pb), .val (.int pe), .val (.int (3 : Int32)), .val (.ref b248), .val (.int (own_cnt (3 : Int32) (0 : Int32) (0 : Int32) (0 : Int32) (0 : Int32))), .val (.int (pb &&& (((1 : Int32) <<< ((3 : Int32) &&& 31)) - (1 : Int32)))), .val (.int (0 : Int32)), .val (.int vz)] [(.int vz), (.int (0 : Int32)), (.ref b248)])) rfl (by rw [hml]; rfl) (Steps.refl _) (argsL := [(.int (0 : Int32)), (.int vz)]) (rest := []) (lenOf own_pd52 rfl) rfl (by show 2 * 0 + _ ≤ _; exact Nat.le_of_eq rfl) (hb hby at_151) (fun _ _ => ⟨rfl, rfl, (by decide : 2 + 0 ≤ _), (by decide : 5 + 0 ≤ _)⟩)
        dsimp only [Pt.U, Pt.locs, Pt.cells, Pt.slots] at X294 l294 y294 z294 st294 hQ294
        subst l294 y294 z294
        obtain ⟨rfl, Nq294, K294, p294_0⟩ := hQ294
        have N294 := Fr.app N280 Nq294
        have Zs294 : n0 ≤ T294.heap.size := Nat.le_trans Zs280 K294.1
        have KK294 : Keep h0 T294.heap [] := KK280.trans K294 (allS (Or.inr sz_rar_250) all0)
        have f295 := f281.keep K294
        have f296 := f282.keep K294 (ninS ne_b248_rar_250 nin0)
        have pre297 : ∀ t, Steps p.tables e below (T294.setTop (mkF m 154 #[.val (.int ps), .val (.int pb), .val (.int pe), .val (.int (3 : Int32)), .val (.ref b248), .val (.int (own_cnt (3 : Int32) (0 : Int32) (0 : Int32) (0 : Int32) (0 : Int32))), .val (.int (pb &&& (((1 : Int32) <<< ((3 : Int32) &&& 31)) - (1 : Int32)))), .val (.int (0 : Int32)), .val (.int vz)] [])) t → Steps p.tables e below G0 t := by
          intro t k
          refine pre289 t ?_
          show Steps p.tables e below (T280.setTop (mkF m 143 #[.val (.int ps), .val (.int pb), .val (.int pe), .val (.int (3 : Int32)), .val (.ref b248), .val (.int (own_cnt (3 : Int32) (0 : Int32) (0 : Int32) (0 : Int32) (0 : Int32))), .val (.int (pb &&& (((1 : Int32) <<< ((3 : Int32) &&& 31)) - (1 : Int32)))), .val (.int (0 : Int32)), .unset] [(.int vz)])) _
          refine XS.istore X280.here hx rfl (hb hby at_143) rfl (l' := #[.val (.int ps), .val (.int pb), .val (.int pe), .val (.int (3 : Int32)), .val (.ref b248), .val (.int (own_cnt (3 : Int32) (0 : Int32) (0 : Int32) (0 : Int32) (0 : Int32))), .val (.int (pb &&& (((1 : Int32) <<< ((3 : Int32) &&& 31)) - (1 : Int32)))), .val (.int (0 : Int32)), .val (.int vz)]) rfl ?_
          show Steps p.tables e below (T280.setTop (mkF m 145 #[.val (.int ps), .val (.int pb), .val (.int pe), .val (.int (3 : Int32)), .val (.ref b248), .val (.int (own_cnt (3 : Int32) (0 : Int32) (0 : Int32) (0 : Int32) (0 : Int32))), .val (.int (pb &&& (((1 : Int32) <<< ((3 : Int32) &&& 31)) - (1 : Int32)))), .val (.int (0 : Int32)), .val (.int vz)] [])) _
          refine XS.aload X280.here hx rfl (hb hby at_145) rfl rfl ?_
          show Steps p.tables e below (T280.setTop (mkF m 147 #[.val (.int ps), .val (.int pb), .val (.int pe), .val (.int (3 : Int32)), .val (.ref b248), .val (.int (own_cnt (3 : Int32) (0 : Int32) (0 : Int32) (0 : Int32) (0 : Int32))), .val (.int (pb &&& (((1 : Int32) <<< ((3 : Int32) &&& 31)) - (1 : Int32)))), .val (.int (0 : Int32)), .val (.int vz)] [(.ref b248)])) _
          refine XS.iload X280.here hx rfl (hb hby at_147) rfl ?_
          show Steps p.tables e below (T280.setTop (mkF m 149 #[.val (.int ps), .val (.int pb), .val (.int pe), .val (.int (3 : Int32)), .val (.ref b248), .val (.int (own_cnt (3 : Int32) (0 : Int32) (0 : Int32) (0 : Int32) (0 : Int32))), .val (.int (pb &&& (((1 : Int32) <<< ((3 : Int32) &&& 31)) - (1 : Int32)))), .val (.int (0 : Int32)), .val (.int vz)] [(.int (0 : Int32)), (.ref b248)])) _
          refine XS.iload X280.here hx rfl (hb hby at_149) rfl ?_
          show Steps p.tables e below (T280.setTop (mkF m 151 #[.val (.int ps), .val (.int pb), .val (.int pe), .val (.int (3 : Int32)), .val (.ref b248), .val (.int (own_cnt (3 : Int32) (0 : Int32) (0 : Int32) (0 : Int32) (0 : Int32))), .val (.int (pb &&& (((1 : Int32) <<< ((3 : Int32) &&& 31)) - (1 : Int32)))), .val (.int (0 : Int32)), .val (.int vz)] [(.int vz), (.int (0 : Int32)), (.ref b248)])) _
          refine st294.trans ?_
          exact k
        exact ⟨T294, T294.heap, _, (0 : Int32), (nar .boolean vz), (nar .boolean v1), (nar .boolean v2), X294, rfl, N294, Zs294, KK294, f295, f296, p294_0, (by exact Or.inl ⟨rfl, rfl, rfl, rfl⟩), pre297⟩
      · rw [hq292] at pre289
        obtain ⟨cq298, kq298, q298a, q298b, q298c⟩ := isOf hZ rfl f281
        obtain ⟨_, _, ⟨T298, L298, k298, n298⟩, -, X298, ⟨Lc298, hQ298, l298, y298, z298⟩, st298⟩ := X280.virtualBack hx (y := (⟨"com/example/tresse/tresse/rwlock/Flags", "set", "(IZ)V"⟩ : MethodName)) (z := (⟨"com/example/tresse/tresse/rwlock/Flags", "set", "(IZ)V"⟩ : MethodName)) hown (mvT hZ (hw _ (List.mem_of_getElem? (i := 22) rfl))) (mvT hZ (hw _ (List.mem_of_getElem? (i := 23) rfl))) (notFace_of_selects (args := #[]) (mvT hZ (hw _ (List.mem_of_getElem? (i := 25) rfl)))) (mvT hZ (hw _ (List.mem_of_getElem? (i := 25) rfl))) (mvT hZ (hw _ (List.mem_of_getElem? (i := 24) rfl))) (by decide) (backOf (W := 0) (rm5j1 l Z a0 hw [] b248 vz rar_250 rkk_250 (3 : Int32) (nar .boolean v0) (nar .boolean v1) (nar .boolean v2) (0 : Int32) T280.heap n0 Zs280 f282 p280_0 g_rar_250 ne_b248_rar_250 (by decide)) hZ (hw _ (List.mem_of_getElem? (i := 26) rfl)) (hw _ (List.mem_of_getElem? (i := 3) rfl)) (by decide) (by decide)) q298a q298c (g := (mkF m 151 #[.val (.int ps), .val (.int pb), .val (.int pe), .val (.int (3 : Int32)), .val (.ref b248), .val (.int (own_cnt (3 : Int32) (0 : Int32) (0 : Int32) (0 : Int32) (0 : Int32))), .val (.int (pb &&& (((1 : Int32) <<< ((3 : Int32) &&& 31)) - (1 : Int32)))), .val (.int (1 : Int32)), .val (.int vz)] [(.int vz), (.int (1 : Int32)), (.ref b248)])) rfl (by rw [hml]; rfl) (Steps.refl _) (argsL := [(.int (1 : Int32)), (.int vz)]) (rest := []) (lenOf own_pd52 rfl) rfl (by show 2 * 0 + _ ≤ _; exact Nat.le_of_eq rfl) (hb hby at_151) (fun _ _ => ⟨rfl, rfl, (by decide : 2 + 0 ≤ _), (by decide : 5 + 0 ≤ _)⟩)
        dsimp only [Pt.U, Pt.locs, Pt.cells, Pt.slots] at X298 l298 y298 z298 st298 hQ298
        subst l298 y298 z298
        obtain ⟨rfl, Nq298, K298, p298_0⟩ := hQ298
        have N298 := Fr.app N280 Nq298
        have Zs298 : n0 ≤ T298.heap.size := Nat.le_trans Zs280 K298.1
        have KK298 : Keep h0 T298.heap [] := KK280.trans K298 (allS (Or.inr sz_rar_250) all0)
        have f299 := f281.keep K298
        have f300 := f282.keep K298 (ninS ne_b248_rar_250 nin0)
        have pre301 : ∀ t, Steps p.tables e below (T298.setTop (mkF m 154 #[.val (.int ps), .val (.int pb), .val (.int pe), .val (.int (3 : Int32)), .val (.ref b248), .val (.int (own_cnt (3 : Int32) (0 : Int32) (0 : Int32) (0 : Int32) (0 : Int32))), .val (.int (pb &&& (((1 : Int32) <<< ((3 : Int32) &&& 31)) - (1 : Int32)))), .val (.int (1 : Int32)), .val (.int vz)] [])) t → Steps p.tables e below G0 t := by
          intro t k
          refine pre289 t ?_
          show Steps p.tables e below (T280.setTop (mkF m 143 #[.val (.int ps), .val (.int pb), .val (.int pe), .val (.int (3 : Int32)), .val (.ref b248), .val (.int (own_cnt (3 : Int32) (0 : Int32) (0 : Int32) (0 : Int32) (0 : Int32))), .val (.int (pb &&& (((1 : Int32) <<< ((3 : Int32) &&& 31)) - (1 : Int32)))), .val (.int (1 : Int32)), .unset] [(.int vz)])) _
          refine XS.istore X280.here hx rfl (hb hby at_143) rfl (l' := #[.val (.int ps), .val (.int pb), .val (.int pe), .val (.int (3 : Int32)), .val (.ref b248), .val (.int (own_cnt (3 : Int32) (0 : Int32) (0 : Int32) (0 : Int32) (0 : Int32))), .val (.int (pb &&& (((1 : Int32) <<< ((3 : Int32) &&& 31)) - (1 : Int32)))), .val (.int (1 : Int32)), .val (.int vz)]) rfl ?_
          show Steps p.tables e below (T280.setTop (mkF m 145 #[.val (.int ps), .val (.int pb), .val (.int pe), .val (.int (3 : Int32)), .val (.ref b248), .val (.int (own_cnt (3 : Int32) (0 : Int32) (0 : Int32) (0 : Int32) (0 : Int32))), .val (.int (pb &&& (((1 : Int32) <<< ((3 : Int32) &&& 31)) - (1 : Int32)))), .val (.int (1 : Int32)), .val (.int vz)] [])) _
          refine XS.aload X280.here hx rfl (hb hby at_145) rfl rfl ?_
          show Steps p.tables e below (T280.setTop (mkF m 147 #[.val (.int ps), .val (.int pb), .val (.int pe), .val (.int (3 : Int32)), .val (.ref b248), .val (.int (own_cnt (3 : Int32) (0 : Int32) (0 : Int32) (0 : Int32) (0 : Int32))), .val (.int (pb &&& (((1 : Int32) <<< ((3 : Int32) &&& 31)) - (1 : Int32)))), .val (.int (1 : Int32)), .val (.int vz)] [(.ref b248)])) _
          refine XS.iload X280.here hx rfl (hb hby at_147) rfl ?_
          show Steps p.tables e below (T280.setTop (mkF m 149 #[.val (.int ps), .val (.int pb), .val (.int pe), .val (.int (3 : Int32)), .val (.ref b248), .val (.int (own_cnt (3 : Int32) (0 : Int32) (0 : Int32) (0 : Int32) (0 : Int32))), .val (.int (pb &&& (((1 : Int32) <<< ((3 : Int32) &&& 31)) - (1 : Int32)))), .val (.int (1 : Int32)), .val (.int vz)] [(.int (1 : Int32)), (.ref b248)])) _
          refine XS.iload X280.here hx rfl (hb hby at_149) rfl ?_
          show Steps p.tables e below (T280.setTop (mkF m 151 #[.val (.int ps), .val (.int pb), .val (.int pe), .val (.int (3 : Int32)), .val (.ref b248), .val (.int (own_cnt (3 : Int32) (0 : Int32) (0 : Int32) (0 : Int32) (0 : Int32))), .val (.int (pb &&& (((1 : Int32) <<< ((3 : Int32) &&& 31)) - (1 : Int32)))), .val (.int (1 : Int32)), .val (.int vz)] [(.int vz), (.int (1 : Int32)), (.ref b248)])) _
          refine st298.trans ?_
          exact k
        exact ⟨T298, T298.heap, _, (1 : Int32), (nar .boolean v0), (nar .boolean vz), (nar .boolean v2), X298, rfl, N298, Zs298, KK298, f299, f300, p298_0, (by exact Or.inr (Or.inl ⟨rfl, rfl, rfl, rfl⟩)), pre301⟩
      · rw [hq293] at pre289
        obtain ⟨cq302, kq302, q302a, q302b, q302c⟩ := isOf hZ rfl f281
        obtain ⟨_, _, ⟨T302, L302, k302, n302⟩, -, X302, ⟨Lc302, hQ302, l302, y302, z302⟩, st302⟩ := X280.virtualBack hx (y := (⟨"com/example/tresse/tresse/rwlock/Flags", "set", "(IZ)V"⟩ : MethodName)) (z := (⟨"com/example/tresse/tresse/rwlock/Flags", "set", "(IZ)V"⟩ : MethodName)) hown (mvT hZ (hw _ (List.mem_of_getElem? (i := 22) rfl))) (mvT hZ (hw _ (List.mem_of_getElem? (i := 23) rfl))) (notFace_of_selects (args := #[]) (mvT hZ (hw _ (List.mem_of_getElem? (i := 25) rfl)))) (mvT hZ (hw _ (List.mem_of_getElem? (i := 25) rfl))) (mvT hZ (hw _ (List.mem_of_getElem? (i := 24) rfl))) (by decide) (backOf (W := 0) (rm5j2 l Z a0 hw [] b248 vz rar_250 rkk_250 (3 : Int32) (nar .boolean v0) (nar .boolean v1) (nar .boolean v2) (0 : Int32) T280.heap n0 Zs280 f282 p280_0 g_rar_250 ne_b248_rar_250 (by decide)) hZ (hw _ (List.mem_of_getElem? (i := 26) rfl)) (hw _ (List.mem_of_getElem? (i := 3) rfl)) (by decide) (by decide)) q302a q302c (g := (mkF m 151 #[.val (.int ps), .val (.int pb), .val (.int pe), .val (.int (3 : Int32)), .val (.ref b248), .val (.int (own_cnt (3 : Int32) (0 : Int32) (0 : Int32) (0 : Int32) (0 : Int32))), .val (.int (pb &&& (((1 : Int32) <<< ((3 : Int32) &&& 31)) - (1 : Int32)))), .val (.int (2 : Int32)), .val (.int vz)] [(.int vz), (.int (2 : Int32)), (.ref b248)])) rfl (by rw [hml]; rfl) (Steps.refl _) (argsL := [(.int (2 : Int32)), (.int vz)]) (rest := []) (lenOf own_pd52 rfl) rfl (by show 2 * 0 + _ ≤ _; exact Nat.le_of_eq rfl) (hb hby at_151) (fun _ _ => ⟨rfl, rfl, (by decide : 2 + 0 ≤ _), (by decide : 5 + 0 ≤ _)⟩)
        dsimp only [Pt.U, Pt.locs, Pt.cells, Pt.slots] at X302 l302 y302 z302 st302 hQ302
        subst l302 y302 z302
        obtain ⟨rfl, Nq302, K302, p302_0⟩ := hQ302
        have N302 := Fr.app N280 Nq302
        have Zs302 : n0 ≤ T302.heap.size := Nat.le_trans Zs280 K302.1
        have KK302 : Keep h0 T302.heap [] := KK280.trans K302 (allS (Or.inr sz_rar_250) all0)
        have f303 := f281.keep K302
        have f304 := f282.keep K302 (ninS ne_b248_rar_250 nin0)
        have pre305 : ∀ t, Steps p.tables e below (T302.setTop (mkF m 154 #[.val (.int ps), .val (.int pb), .val (.int pe), .val (.int (3 : Int32)), .val (.ref b248), .val (.int (own_cnt (3 : Int32) (0 : Int32) (0 : Int32) (0 : Int32) (0 : Int32))), .val (.int (pb &&& (((1 : Int32) <<< ((3 : Int32) &&& 31)) - (1 : Int32)))), .val (.int (2 : Int32)), .val (.int vz)] [])) t → Steps p.tables e below G0 t := by
          intro t k
          refine pre289 t ?_
          show Steps p.tables e below (T280.setTop (mkF m 143 #[.val (.int ps), .val (.int pb), .val (.int pe), .val (.int (3 : Int32)), .val (.ref b248), .val (.int (own_cnt (3 : Int32) (0 : Int32) (0 : Int32) (0 : Int32) (0 : Int32))), .val (.int (pb &&& (((1 : Int32) <<< ((3 : Int32) &&& 31)) - (1 : Int32)))), .val (.int (2 : Int32)), .unset] [(.int vz)])) _
          refine XS.istore X280.here hx rfl (hb hby at_143) rfl (l' := #[.val (.int ps), .val (.int pb), .val (.int pe), .val (.int (3 : Int32)), .val (.ref b248), .val (.int (own_cnt (3 : Int32) (0 : Int32) (0 : Int32) (0 : Int32) (0 : Int32))), .val (.int (pb &&& (((1 : Int32) <<< ((3 : Int32) &&& 31)) - (1 : Int32)))), .val (.int (2 : Int32)), .val (.int vz)]) rfl ?_
          show Steps p.tables e below (T280.setTop (mkF m 145 #[.val (.int ps), .val (.int pb), .val (.int pe), .val (.int (3 : Int32)), .val (.ref b248), .val (.int (own_cnt (3 : Int32) (0 : Int32) (0 : Int32) (0 : Int32) (0 : Int32))), .val (.int (pb &&& (((1 : Int32) <<< ((3 : Int32) &&& 31)) - (1 : Int32)))), .val (.int (2 : Int32)), .val (.int vz)] [])) _
          refine XS.aload X280.here hx rfl (hb hby at_145) rfl rfl ?_
          show Steps p.tables e below (T280.setTop (mkF m 147 #[.val (.int ps), .val (.int pb), .val (.int pe), .val (.int (3 : Int32)), .val (.ref b248), .val (.int (own_cnt (3 : Int32) (0 : Int32) (0 : Int32) (0 : Int32) (0 : Int32))), .val (.int (pb &&& (((1 : Int32) <<< ((3 : Int32) &&& 31)) - (1 : Int32)))), .val (.int (2 : Int32)), .val (.int vz)] [(.ref b248)])) _
          refine XS.iload X280.here hx rfl (hb hby at_147) rfl ?_
          show Steps p.tables e below (T280.setTop (mkF m 149 #[.val (.int ps), .val (.int pb), .val (.int pe), .val (.int (3 : Int32)), .val (.ref b248), .val (.int (own_cnt (3 : Int32) (0 : Int32) (0 : Int32) (0 : Int32) (0 : Int32))), .val (.int (pb &&& (((1 : Int32) <<< ((3 : Int32) &&& 31)) - (1 : Int32)))), .val (.int (2 : Int32)), .val (.int vz)] [(.int (2 : Int32)), (.ref b248)])) _
          refine XS.iload X280.here hx rfl (hb hby at_149) rfl ?_
          show Steps p.tables e below (T280.setTop (mkF m 151 #[.val (.int ps), .val (.int pb), .val (.int pe), .val (.int (3 : Int32)), .val (.ref b248), .val (.int (own_cnt (3 : Int32) (0 : Int32) (0 : Int32) (0 : Int32) (0 : Int32))), .val (.int (pb &&& (((1 : Int32) <<< ((3 : Int32) &&& 31)) - (1 : Int32)))), .val (.int (2 : Int32)), .val (.int vz)] [(.int vz), (.int (2 : Int32)), (.ref b248)])) _
          refine st302.trans ?_
          exact k
        exact ⟨T302, T302.heap, _, (2 : Int32), (nar .boolean v0), (nar .boolean v1), (nar .boolean vz), X302, rfl, N302, Zs302, KK302, f303, f304, p302_0, (by exact Or.inr (Or.inr (⟨rfl, rfl, rfl, rfl⟩))), pre305⟩
    obtain ⟨bb, hv318, pre317⟩ : ∃ (bb : Int32), (bb = if vz = 0 then ((pb &&& (((1 : Int32) <<< ((3 : Int32) &&& 31)) - (1 : Int32))) &&& (((1 : Int32) <<< (kv &&& 31)) ^^^ (-1 : Int32))) else ((pb &&& (((1 : Int32) <<< ((3 : Int32) &&& 31)) - (1 : Int32))) ||| ((1 : Int32) <<< (kv &&& 31)))) ∧ ∀ t, Steps p.tables e below (Tm306.setTop (mkF m 182 #[.val (.int ps), .val (.int pb), .val (.int pe), .val (.int (3 : Int32)), .val (.ref b248), .val (.int (own_cnt (3 : Int32) (0 : Int32) (0 : Int32) (0 : Int32) (0 : Int32))), .val (.int bb), .val (.int kv), .val (.int vz)] [])) t → Steps p.tables e below G0 t := by
      have pre312 : ∀ t, Steps p.tables e below (Tm306.setTop (mkF m 156 #[.val (.int ps), .val (.int pb), .val (.int pe), .val (.int (3 : Int32)), .val (.ref b248), .val (.int (own_cnt (3 : Int32) (0 : Int32) (0 : Int32) (0 : Int32) (0 : Int32))), .val (.int (pb &&& (((1 : Int32) <<< ((3 : Int32) &&& 31)) - (1 : Int32)))), .val (.int kv), .val (.int vz)] [(.int vz)])) t → Steps p.tables e below G0 t := by
        intro t k
        refine pre310 t ?_
        show Steps p.tables e below (Tm306.setTop (mkF m 154 #[.val (.int ps), .val (.int pb), .val (.int pe), .val (.int (3 : Int32)), .val (.ref b248), .val (.int (own_cnt (3 : Int32) (0 : Int32) (0 : Int32) (0 : Int32) (0 : Int32))), .val (.int (pb &&& (((1 : Int32) <<< ((3 : Int32) &&& 31)) - (1 : Int32)))), .val (.int kv), .val (.int vz)] [])) _
        refine XS.iload Xm306.here hx rfl (hb hby at_154) rfl ?_
        exact k
      by_cases hc156_313 : vz = (0 : Int32)
      · have pre314 : ∀ t, Steps p.tables e below (Tm306.setTop (mkF m 182 #[.val (.int ps), .val (.int pb), .val (.int pe), .val (.int (3 : Int32)), .val (.ref b248), .val (.int (own_cnt (3 : Int32) (0 : Int32) (0 : Int32) (0 : Int32) (0 : Int32))), .val (.int ((pb &&& (((1 : Int32) <<< ((3 : Int32) &&& 31)) - (1 : Int32))) &&& (((1 : Int32) <<< (kv &&& 31)) ^^^ (-1 : Int32)))), .val (.int kv), .val (.int vz)] [])) t → Steps p.tables e below G0 t := by
          intro t k
          refine pre312 t ?_
          show Steps p.tables e below (Tm306.setTop (mkF m 156 #[.val (.int ps), .val (.int pb), .val (.int pe), .val (.int (3 : Int32)), .val (.ref b248), .val (.int (own_cnt (3 : Int32) (0 : Int32) (0 : Int32) (0 : Int32) (0 : Int32))), .val (.int (pb &&& (((1 : Int32) <<< ((3 : Int32) &&& 31)) - (1 : Int32)))), .val (.int kv), .val (.int vz)] [(.int vz)])) _
          refine XS.ifYes Xm306.here hx rfl (pc0 := 156) (pc' := 171) rfl (hb hby at_156) rfl ((if0 _ _).trans (teq hc156_313).1) (by decide) (by decide) ?_
          show Steps p.tables e below (Tm306.setTop (mkF m 171 #[.val (.int ps), .val (.int pb), .val (.int pe), .val (.int (3 : Int32)), .val (.ref b248), .val (.int (own_cnt (3 : Int32) (0 : Int32) (0 : Int32) (0 : Int32) (0 : Int32))), .val (.int (pb &&& (((1 : Int32) <<< ((3 : Int32) &&& 31)) - (1 : Int32)))), .val (.int kv), .val (.int vz)] [])) _
          refine XS.iload Xm306.here hx rfl (hb hby at_171) rfl ?_
          show Steps p.tables e below (Tm306.setTop (mkF m 173 #[.val (.int ps), .val (.int pb), .val (.int pe), .val (.int (3 : Int32)), .val (.ref b248), .val (.int (own_cnt (3 : Int32) (0 : Int32) (0 : Int32) (0 : Int32) (0 : Int32))), .val (.int (pb &&& (((1 : Int32) <<< ((3 : Int32) &&& 31)) - (1 : Int32)))), .val (.int kv), .val (.int vz)] [(.int (pb &&& (((1 : Int32) <<< ((3 : Int32) &&& 31)) - (1 : Int32))))])) _
          refine XS.iconst Xm306.here hx rfl (hb hby at_173) ?_
          show Steps p.tables e below (Tm306.setTop (mkF m 174 #[.val (.int ps), .val (.int pb), .val (.int pe), .val (.int (3 : Int32)), .val (.ref b248), .val (.int (own_cnt (3 : Int32) (0 : Int32) (0 : Int32) (0 : Int32) (0 : Int32))), .val (.int (pb &&& (((1 : Int32) <<< ((3 : Int32) &&& 31)) - (1 : Int32)))), .val (.int kv), .val (.int vz)] [(.int (1 : Int32)), (.int (pb &&& (((1 : Int32) <<< ((3 : Int32) &&& 31)) - (1 : Int32))))])) _
          refine XS.iload Xm306.here hx rfl (hb hby at_174) rfl ?_
          show Steps p.tables e below (Tm306.setTop (mkF m 176 #[.val (.int ps), .val (.int pb), .val (.int pe), .val (.int (3 : Int32)), .val (.ref b248), .val (.int (own_cnt (3 : Int32) (0 : Int32) (0 : Int32) (0 : Int32) (0 : Int32))), .val (.int (pb &&& (((1 : Int32) <<< ((3 : Int32) &&& 31)) - (1 : Int32)))), .val (.int kv), .val (.int vz)] [(.int kv), (.int (1 : Int32)), (.int (pb &&& (((1 : Int32) <<< ((3 : Int32) &&& 31)) - (1 : Int32))))])) _
          refine XS.ishl Xm306.here hx rfl (hb hby at_176) rfl ?_
          show Steps p.tables e below (Tm306.setTop (mkF m 177 #[.val (.int ps), .val (.int pb), .val (.int pe), .val (.int (3 : Int32)), .val (.ref b248), .val (.int (own_cnt (3 : Int32) (0 : Int32) (0 : Int32) (0 : Int32) (0 : Int32))), .val (.int (pb &&& (((1 : Int32) <<< ((3 : Int32) &&& 31)) - (1 : Int32)))), .val (.int kv), .val (.int vz)] [(.int ((1 : Int32) <<< (kv &&& 31))), (.int (pb &&& (((1 : Int32) <<< ((3 : Int32) &&& 31)) - (1 : Int32))))])) _
          refine XS.iconst Xm306.here hx rfl (hb hby at_177) ?_
          show Steps p.tables e below (Tm306.setTop (mkF m 178 #[.val (.int ps), .val (.int pb), .val (.int pe), .val (.int (3 : Int32)), .val (.ref b248), .val (.int (own_cnt (3 : Int32) (0 : Int32) (0 : Int32) (0 : Int32) (0 : Int32))), .val (.int (pb &&& (((1 : Int32) <<< ((3 : Int32) &&& 31)) - (1 : Int32)))), .val (.int kv), .val (.int vz)] [(.int (-1 : Int32)), (.int ((1 : Int32) <<< (kv &&& 31))), (.int (pb &&& (((1 : Int32) <<< ((3 : Int32) &&& 31)) - (1 : Int32))))])) _
          refine XS.ixor Xm306.here hx rfl (hb hby at_178) rfl ?_
          show Steps p.tables e below (Tm306.setTop (mkF m 179 #[.val (.int ps), .val (.int pb), .val (.int pe), .val (.int (3 : Int32)), .val (.ref b248), .val (.int (own_cnt (3 : Int32) (0 : Int32) (0 : Int32) (0 : Int32) (0 : Int32))), .val (.int (pb &&& (((1 : Int32) <<< ((3 : Int32) &&& 31)) - (1 : Int32)))), .val (.int kv), .val (.int vz)] [(.int (((1 : Int32) <<< (kv &&& 31)) ^^^ (-1 : Int32))), (.int (pb &&& (((1 : Int32) <<< ((3 : Int32) &&& 31)) - (1 : Int32))))])) _
          refine XS.iand Xm306.here hx rfl (hb hby at_179) rfl ?_
          show Steps p.tables e below (Tm306.setTop (mkF m 180 #[.val (.int ps), .val (.int pb), .val (.int pe), .val (.int (3 : Int32)), .val (.ref b248), .val (.int (own_cnt (3 : Int32) (0 : Int32) (0 : Int32) (0 : Int32) (0 : Int32))), .val (.int (pb &&& (((1 : Int32) <<< ((3 : Int32) &&& 31)) - (1 : Int32)))), .val (.int kv), .val (.int vz)] [(.int ((pb &&& (((1 : Int32) <<< ((3 : Int32) &&& 31)) - (1 : Int32))) &&& (((1 : Int32) <<< (kv &&& 31)) ^^^ (-1 : Int32))))])) _
          refine XS.istore Xm306.here hx rfl (hb hby at_180) rfl (l' := #[.val (.int ps), .val (.int pb), .val (.int pe), .val (.int (3 : Int32)), .val (.ref b248), .val (.int (own_cnt (3 : Int32) (0 : Int32) (0 : Int32) (0 : Int32) (0 : Int32))), .val (.int ((pb &&& (((1 : Int32) <<< ((3 : Int32) &&& 31)) - (1 : Int32))) &&& (((1 : Int32) <<< (kv &&& 31)) ^^^ (-1 : Int32)))), .val (.int kv), .val (.int vz)]) rfl ?_
          exact k
        exact ⟨((pb &&& (((1 : Int32) <<< ((3 : Int32) &&& 31)) - (1 : Int32))) &&& (((1 : Int32) <<< (kv &&& 31)) ^^^ (-1 : Int32))), (by rw [if_pos hc156_313]), pre314⟩
      · have pre315 : ∀ t, Steps p.tables e below (Tm306.setTop (mkF m 182 #[.val (.int ps), .val (.int pb), .val (.int pe), .val (.int (3 : Int32)), .val (.ref b248), .val (.int (own_cnt (3 : Int32) (0 : Int32) (0 : Int32) (0 : Int32) (0 : Int32))), .val (.int ((pb &&& (((1 : Int32) <<< ((3 : Int32) &&& 31)) - (1 : Int32))) ||| ((1 : Int32) <<< (kv &&& 31)))), .val (.int kv), .val (.int vz)] [])) t → Steps p.tables e below G0 t := by
          intro t k
          refine pre312 t ?_
          show Steps p.tables e below (Tm306.setTop (mkF m 156 #[.val (.int ps), .val (.int pb), .val (.int pe), .val (.int (3 : Int32)), .val (.ref b248), .val (.int (own_cnt (3 : Int32) (0 : Int32) (0 : Int32) (0 : Int32) (0 : Int32))), .val (.int (pb &&& (((1 : Int32) <<< ((3 : Int32) &&& 31)) - (1 : Int32)))), .val (.int kv), .val (.int vz)] [(.int vz)])) _
          refine XS.ifNo Xm306.here hx rfl (hb hby at_156) rfl ((if0 _ _).trans (feq hc156_313).1) ?_
          show Steps p.tables e below (Tm306.setTop (mkF m 159 #[.val (.int ps), .val (.int pb), .val (.int pe), .val (.int (3 : Int32)), .val (.ref b248), .val (.int (own_cnt (3 : Int32) (0 : Int32) (0 : Int32) (0 : Int32) (0 : Int32))), .val (.int (pb &&& (((1 : Int32) <<< ((3 : Int32) &&& 31)) - (1 : Int32)))), .val (.int kv), .val (.int vz)] [])) _
          refine XS.iload Xm306.here hx rfl (hb hby at_159) rfl ?_
          show Steps p.tables e below (Tm306.setTop (mkF m 161 #[.val (.int ps), .val (.int pb), .val (.int pe), .val (.int (3 : Int32)), .val (.ref b248), .val (.int (own_cnt (3 : Int32) (0 : Int32) (0 : Int32) (0 : Int32) (0 : Int32))), .val (.int (pb &&& (((1 : Int32) <<< ((3 : Int32) &&& 31)) - (1 : Int32)))), .val (.int kv), .val (.int vz)] [(.int (pb &&& (((1 : Int32) <<< ((3 : Int32) &&& 31)) - (1 : Int32))))])) _
          refine XS.iconst Xm306.here hx rfl (hb hby at_161) ?_
          show Steps p.tables e below (Tm306.setTop (mkF m 162 #[.val (.int ps), .val (.int pb), .val (.int pe), .val (.int (3 : Int32)), .val (.ref b248), .val (.int (own_cnt (3 : Int32) (0 : Int32) (0 : Int32) (0 : Int32) (0 : Int32))), .val (.int (pb &&& (((1 : Int32) <<< ((3 : Int32) &&& 31)) - (1 : Int32)))), .val (.int kv), .val (.int vz)] [(.int (1 : Int32)), (.int (pb &&& (((1 : Int32) <<< ((3 : Int32) &&& 31)) - (1 : Int32))))])) _
          refine XS.iload Xm306.here hx rfl (hb hby at_162) rfl ?_
          show Steps p.tables e below (Tm306.setTop (mkF m 164 #[.val (.int ps), .val (.int pb), .val (.int pe), .val (.int (3 : Int32)), .val (.ref b248), .val (.int (own_cnt (3 : Int32) (0 : Int32) (0 : Int32) (0 : Int32) (0 : Int32))), .val (.int (pb &&& (((1 : Int32) <<< ((3 : Int32) &&& 31)) - (1 : Int32)))), .val (.int kv), .val (.int vz)] [(.int kv), (.int (1 : Int32)), (.int (pb &&& (((1 : Int32) <<< ((3 : Int32) &&& 31)) - (1 : Int32))))])) _
          refine XS.ishl Xm306.here hx rfl (hb hby at_164) rfl ?_
          show Steps p.tables e below (Tm306.setTop (mkF m 165 #[.val (.int ps), .val (.int pb), .val (.int pe), .val (.int (3 : Int32)), .val (.ref b248), .val (.int (own_cnt (3 : Int32) (0 : Int32) (0 : Int32) (0 : Int32) (0 : Int32))), .val (.int (pb &&& (((1 : Int32) <<< ((3 : Int32) &&& 31)) - (1 : Int32)))), .val (.int kv), .val (.int vz)] [(.int ((1 : Int32) <<< (kv &&& 31))), (.int (pb &&& (((1 : Int32) <<< ((3 : Int32) &&& 31)) - (1 : Int32))))])) _
          refine XS.ior Xm306.here hx rfl (hb hby at_165) rfl ?_
          show Steps p.tables e below (Tm306.setTop (mkF m 166 #[.val (.int ps), .val (.int pb), .val (.int pe), .val (.int (3 : Int32)), .val (.ref b248), .val (.int (own_cnt (3 : Int32) (0 : Int32) (0 : Int32) (0 : Int32) (0 : Int32))), .val (.int (pb &&& (((1 : Int32) <<< ((3 : Int32) &&& 31)) - (1 : Int32)))), .val (.int kv), .val (.int vz)] [(.int ((pb &&& (((1 : Int32) <<< ((3 : Int32) &&& 31)) - (1 : Int32))) ||| ((1 : Int32) <<< (kv &&& 31))))])) _
          refine XS.istore Xm306.here hx rfl (hb hby at_166) rfl (l' := #[.val (.int ps), .val (.int pb), .val (.int pe), .val (.int (3 : Int32)), .val (.ref b248), .val (.int (own_cnt (3 : Int32) (0 : Int32) (0 : Int32) (0 : Int32) (0 : Int32))), .val (.int ((pb &&& (((1 : Int32) <<< ((3 : Int32) &&& 31)) - (1 : Int32))) ||| ((1 : Int32) <<< (kv &&& 31)))), .val (.int kv), .val (.int vz)]) rfl ?_
          show Steps p.tables e below (Tm306.setTop (mkF m 168 #[.val (.int ps), .val (.int pb), .val (.int pe), .val (.int (3 : Int32)), .val (.ref b248), .val (.int (own_cnt (3 : Int32) (0 : Int32) (0 : Int32) (0 : Int32) (0 : Int32))), .val (.int ((pb &&& (((1 : Int32) <<< ((3 : Int32) &&& 31)) - (1 : Int32))) ||| ((1 : Int32) <<< (kv &&& 31)))), .val (.int kv), .val (.int vz)] [])) _
          refine XS.goto Xm306.here hx rfl (pc0 := 168) (pc' := 182) rfl (hb hby at_168) (by decide) (by decide) ?_
          exact k
        exact ⟨((pb &&& (((1 : Int32) <<< ((3 : Int32) &&& 31)) - (1 : Int32))) ||| ((1 : Int32) <<< (kv &&& 31))), (by rw [if_neg hc156_313]), pre315⟩
    obtain ⟨_, _, ⟨T319, L319, k319, n319⟩, -, X319, ⟨Lc319, hQ319, l319, y319, z319⟩, st319⟩ := Jvm.LawKit.callS Xm306 hx (y := (⟨"com/example/tresse/tresse/rwlock/FlagsCountTruePinLaw", "bit", "(II)I"⟩ : MethodName)) hown (mvT hZ (hw _ (List.mem_of_getElem? (i := 18) rfl))) (mvT hZ (hw _ (List.mem_of_getElem? (i := 19) rfl))) (mvT hZ (hw _ (List.mem_of_getElem? (i := 20) rfl))) (mvT hZ (hw _ (List.mem_of_getElem? (i := 21) rfl))) (by decide) (backOf (W := 0) (rm4 l Z a0 hw [] bb (0 : Int32)  hm306 n0 Zm306 ) hZ (hw _ (List.mem_of_getElem? (i := 21) rfl)) (hw _ (List.mem_of_getElem? (i := 20) rfl)) (by decide) (by decide)) (g := (mkF m 185 #[.val (.int ps), .val (.int pb), .val (.int pe), .val (.int (3 : Int32)), .val (.ref b248), .val (.int (own_cnt (3 : Int32) (0 : Int32) (0 : Int32) (0 : Int32) (0 : Int32))), .val (.int bb), .val (.int kv), .val (.int vz)] [(.int (0 : Int32)), (.int bb)])) rfl (by rw [hml]; rfl) (argsL := [(.int bb), (.int (0 : Int32))]) (rest := []) (lenOf own_pd51 rfl) rfl (by show 2 * 0 + _ ≤ _; exact Nat.le_of_eq rfl) (hb hby at_185) (fun _ _ => ⟨rfl, em306, (by decide : 2 + 0 ≤ _), (by decide : 5 + 0 ≤ _)⟩)
    dsimp only [Pt.U, Pt.locs, Pt.cells, Pt.slots] at X319 l319 y319 z319 st319 hQ319
    subst l319 y319 z319
    obtain ⟨rfl, Nq319, e319⟩ := hQ319
    have N319 := Fr.app Nm306 Nq319
    obtain ⟨_, _, ⟨T320, L320, k320, n320⟩, -, X320, ⟨Lc320, hQ320, l320, y320, z320⟩, st320⟩ := Jvm.LawKit.callS X319 hx (y := (⟨"com/example/tresse/tresse/rwlock/FlagsCountTruePinLaw", "bit", "(II)I"⟩ : MethodName)) hown (mvT hZ (hw _ (List.mem_of_getElem? (i := 18) rfl))) (mvT hZ (hw _ (List.mem_of_getElem? (i := 19) rfl))) (mvT hZ (hw _ (List.mem_of_getElem? (i := 20) rfl))) (mvT hZ (hw _ (List.mem_of_getElem? (i := 21) rfl))) (by decide) (backOf (W := 1) (rm4 l Z a0 hw [] bb (1 : Int32)  hm306 n0 Zm306 ) hZ (hw _ (List.mem_of_getElem? (i := 21) rfl)) (hw _ (List.mem_of_getElem? (i := 20) rfl)) (by decide) (by decide)) (g := (mkF m 191 #[.val (.int ps), .val (.int pb), .val (.int pe), .val (.int (3 : Int32)), .val (.ref b248), .val (.int (own_cnt (3 : Int32) (0 : Int32) (0 : Int32) (0 : Int32) (0 : Int32))), .val (.int bb), .val (.int kv), .val (.int vz)] [(.int (1 : Int32)), (.int bb), (.int (own_bit bb (0 : Int32)))])) rfl (by rw [hml]; rfl) (argsL := [(.int bb), (.int (1 : Int32))]) (rest := [(.int (own_bit bb (0 : Int32)))]) (lenOf own_pd51 rfl) rfl (by show 2 * 0 + _ ≤ _; exact Nat.le_of_eq rfl) (hb hby at_191) (fun _ _ => ⟨rfl, e319, (by decide : 2 + 0 ≤ _), (by decide : 5 + 0 ≤ _)⟩)
    dsimp only [Pt.U, Pt.locs, Pt.cells, Pt.slots] at X320 l320 y320 z320 st320 hQ320
    subst l320 y320 z320
    obtain ⟨rfl, Nq320, e320⟩ := hQ320
    have N320 := Fr.app N319 Nq320
    obtain ⟨_, _, ⟨T321, L321, k321, n321⟩, -, X321, ⟨Lc321, hQ321, l321, y321, z321⟩, st321⟩ := Jvm.LawKit.callS X320 hx (y := (⟨"com/example/tresse/tresse/rwlock/FlagsCountTruePinLaw", "bit", "(II)I"⟩ : MethodName)) hown (mvT hZ (hw _ (List.mem_of_getElem? (i := 18) rfl))) (mvT hZ (hw _ (List.mem_of_getElem? (i := 19) rfl))) (mvT hZ (hw _ (List.mem_of_getElem? (i := 20) rfl))) (mvT hZ (hw _ (List.mem_of_getElem? (i := 21) rfl))) (by decide) (backOf (W := 1) (rm4 l Z a0 hw [] bb (2 : Int32)  hm306 n0 Zm306 ) hZ (hw _ (List.mem_of_getElem? (i := 21) rfl)) (hw _ (List.mem_of_getElem? (i := 20) rfl)) (by decide) (by decide)) (g := (mkF m 198 #[.val (.int ps), .val (.int pb), .val (.int pe), .val (.int (3 : Int32)), .val (.ref b248), .val (.int (own_cnt (3 : Int32) (0 : Int32) (0 : Int32) (0 : Int32) (0 : Int32))), .val (.int bb), .val (.int kv), .val (.int vz)] [(.int (2 : Int32)), (.int bb), (.int ((own_bit bb (0 : Int32)) + (own_bit bb (1 : Int32))))])) rfl (by rw [hml]; rfl) (argsL := [(.int bb), (.int (2 : Int32))]) (rest := [(.int ((own_bit bb (0 : Int32)) + (own_bit bb (1 : Int32))))]) (lenOf own_pd51 rfl) rfl (by show 2 * 0 + _ ≤ _; exact Nat.le_of_eq rfl) (hb hby at_198) (fun _ _ => ⟨rfl, e320, (by decide : 2 + 0 ≤ _), (by decide : 5 + 0 ≤ _)⟩)
    dsimp only [Pt.U, Pt.locs, Pt.cells, Pt.slots] at X321 l321 y321 z321 st321 hQ321
    subst l321 y321 z321
    obtain ⟨rfl, Nq321, e321⟩ := hQ321
    have N321 := Fr.app N320 Nq321
    obtain ⟨_, _, ⟨T322, L322, k322, n322⟩, -, X322, ⟨Lc322, hQ322, l322, y322, z322⟩, st322⟩ := Jvm.LawKit.callS X321 hx (y := (⟨"com/example/tresse/tresse/rwlock/FlagsCountTruePinLaw", "bit", "(II)I"⟩ : MethodName)) hown (mvT hZ (hw _ (List.mem_of_getElem? (i := 18) rfl))) (mvT hZ (hw _ (List.mem_of_getElem? (i := 19) rfl))) (mvT hZ (hw _ (List.mem_of_getElem? (i := 20) rfl))) (mvT hZ (hw _ (List.mem_of_getElem? (i := 21) rfl))) (by decide) (backOf (W := 1) (rm4 l Z a0 hw [] bb (3 : Int32)  hm306 n0 Zm306 ) hZ (hw _ (List.mem_of_getElem? (i := 21) rfl)) (hw _ (List.mem_of_getElem? (i := 20) rfl)) (by decide) (by decide)) (g := (mkF m 205 #[.val (.int ps), .val (.int pb), .val (.int pe), .val (.int (3 : Int32)), .val (.ref b248), .val (.int (own_cnt (3 : Int32) (0 : Int32) (0 : Int32) (0 : Int32) (0 : Int32))), .val (.int bb), .val (.int kv), .val (.int vz)] [(.int (3 : Int32)), (.int bb), (.int (((own_bit bb (0 : Int32)) + (own_bit bb (1 : Int32))) + (own_bit bb (2 : Int32))))])) rfl (by rw [hml]; rfl) (argsL := [(.int bb), (.int (3 : Int32))]) (rest := [(.int (((own_bit bb (0 : Int32)) + (own_bit bb (1 : Int32))) + (own_bit bb (2 : Int32))))]) (lenOf own_pd51 rfl) rfl (by show 2 * 0 + _ ≤ _; exact Nat.le_of_eq rfl) (hb hby at_205) (fun _ _ => ⟨rfl, e321, (by decide : 2 + 0 ≤ _), (by decide : 5 + 0 ≤ _)⟩)
    dsimp only [Pt.U, Pt.locs, Pt.cells, Pt.slots] at X322 l322 y322 z322 st322 hQ322
    subst l322 y322 z322
    obtain ⟨rfl, Nq322, e322⟩ := hQ322
    have N322 := Fr.app N321 Nq322
    obtain ⟨cq323, kq323, q323a, q323b, q323c⟩ := isOf hZ e322 f307
    obtain ⟨_, _, ⟨T323, L323, k323, n323⟩, -, X323, ⟨Lc323, hQ323, l323, y323, z323⟩, st323⟩ := X322.virtualBack hx (y := (⟨"com/example/tresse/tresse/rwlock/Flags", "countTrue", "()I"⟩ : MethodName)) (z := (⟨"com/example/tresse/tresse/rwlock/Flags", "countTrue", "()I"⟩ : MethodName)) hown (mvT hZ (hw _ (List.mem_of_getElem? (i := 13) rfl))) (mvT hZ (hw _ (List.mem_of_getElem? (i := 14) rfl))) (notFace_of_selects (args := #[]) (mvT hZ (hw _ (List.mem_of_getElem? (i := 16) rfl)))) (mvT hZ (hw _ (List.mem_of_getElem? (i := 16) rfl))) (mvT hZ (hw _ (List.mem_of_getElem? (i := 15) rfl))) (by decide) (backOf (W := 0) (rm3 l Z a0 hw [] b248 rar_250 rkk_250 (3 : Int32) ee0 ee1 ee2 (0 : Int32) hm306 n0 Zm306 f308 f309 (by decide)) hZ (hw _ (List.mem_of_getElem? (i := 17) rfl)) (hw _ (List.mem_of_getElem? (i := 3) rfl)) (by decide) (by decide)) q323a q323c (g := (mkF m 218 #[.val (.int ps), .val (.int pb), .val (.int pe), .val (.int (3 : Int32)), .val (.ref b248), .val (.int (own_cnt (3 : Int32) (0 : Int32) (0 : Int32) (0 : Int32) (0 : Int32))), .val (.int bb), .val (.int ((((own_bit bb (0 : Int32)) + (own_bit bb (1 : Int32))) + (own_bit bb (2 : Int32))) + (own_bit bb (3 : Int32)))), .val (.int vz)] [(.ref b248)])) rfl (by rw [hml]; rfl) (Steps.refl _) (argsL := []) (rest := []) (lenOf own_pd50 rfl) rfl (by show 2 * 0 + _ ≤ _; exact Nat.le_of_eq rfl) (hb hby at_218) (fun _ _ => ⟨rfl, e322, (by decide : 2 + 0 ≤ _), (by decide : 5 + 0 ≤ _)⟩)
    dsimp only [Pt.U, Pt.locs, Pt.cells, Pt.slots] at X323 l323 y323 z323 st323 hQ323
    subst l323 y323 z323
    obtain ⟨rfl, Nq323, e323⟩ := hQ323
    have N323 := Fr.app N322 Nq323
    obtain ⟨fs, hr, hrun, hended, hW, hsame⟩ := X323.leave (v := some (.int (1 : Int32))) (fun h => by rw [Bd.returns] at h; cases h)
    refine ⟨_, _, pre317 _ ?_, hrun, hended, _, _, rfl, ?_, ⟨_, rfl⟩, hW, hsame.mono (by decide) (by decide)⟩
    · show Steps p.tables e below (Tm306.setTop (mkF m 182 #[.val (.int ps), .val (.int pb), .val (.int pe), .val (.int (3 : Int32)), .val (.ref b248), .val (.int (own_cnt (3 : Int32) (0 : Int32) (0 : Int32) (0 : Int32) (0 : Int32))), .val (.int bb), .val (.int kv), .val (.int vz)] [])) _
      refine XS.iload Xm306.here hx rfl (hb hby at_182) rfl ?_
      show Steps p.tables e below (Tm306.setTop (mkF m 184 #[.val (.int ps), .val (.int pb), .val (.int pe), .val (.int (3 : Int32)), .val (.ref b248), .val (.int (own_cnt (3 : Int32) (0 : Int32) (0 : Int32) (0 : Int32) (0 : Int32))), .val (.int bb), .val (.int kv), .val (.int vz)] [(.int bb)])) _
      refine XS.iconst Xm306.here hx rfl (hb hby at_184) ?_
      show Steps p.tables e below (Tm306.setTop (mkF m 185 #[.val (.int ps), .val (.int pb), .val (.int pe), .val (.int (3 : Int32)), .val (.ref b248), .val (.int (own_cnt (3 : Int32) (0 : Int32) (0 : Int32) (0 : Int32) (0 : Int32))), .val (.int bb), .val (.int kv), .val (.int vz)] [(.int (0 : Int32)), (.int bb)])) _
      refine st319 _ ?_
      show Steps p.tables e below (T319.setTop (mkF m 188 #[.val (.int ps), .val (.int pb), .val (.int pe), .val (.int (3 : Int32)), .val (.ref b248), .val (.int (own_cnt (3 : Int32) (0 : Int32) (0 : Int32) (0 : Int32) (0 : Int32))), .val (.int bb), .val (.int kv), .val (.int vz)] [(.int (own_bit bb (0 : Int32)))])) _
      refine XS.iload X319.here hx rfl (hb hby at_188) rfl ?_
      show Steps p.tables e below (T319.setTop (mkF m 190 #[.val (.int ps), .val (.int pb), .val (.int pe), .val (.int (3 : Int32)), .val (.ref b248), .val (.int (own_cnt (3 : Int32) (0 : Int32) (0 : Int32) (0 : Int32) (0 : Int32))), .val (.int bb), .val (.int kv), .val (.int vz)] [(.int bb), (.int (own_bit bb (0 : Int32)))])) _
      refine XS.iconst X319.here hx rfl (hb hby at_190) ?_
      show Steps p.tables e below (T319.setTop (mkF m 191 #[.val (.int ps), .val (.int pb), .val (.int pe), .val (.int (3 : Int32)), .val (.ref b248), .val (.int (own_cnt (3 : Int32) (0 : Int32) (0 : Int32) (0 : Int32) (0 : Int32))), .val (.int bb), .val (.int kv), .val (.int vz)] [(.int (1 : Int32)), (.int bb), (.int (own_bit bb (0 : Int32)))])) _
      refine st320 _ ?_
      show Steps p.tables e below (T320.setTop (mkF m 194 #[.val (.int ps), .val (.int pb), .val (.int pe), .val (.int (3 : Int32)), .val (.ref b248), .val (.int (own_cnt (3 : Int32) (0 : Int32) (0 : Int32) (0 : Int32) (0 : Int32))), .val (.int bb), .val (.int kv), .val (.int vz)] [(.int (own_bit bb (1 : Int32))), (.int (own_bit bb (0 : Int32)))])) _
      refine XS.iadd X320.here hx rfl (hb hby at_194) rfl ?_
      show Steps p.tables e below (T320.setTop (mkF m 195 #[.val (.int ps), .val (.int pb), .val (.int pe), .val (.int (3 : Int32)), .val (.ref b248), .val (.int (own_cnt (3 : Int32) (0 : Int32) (0 : Int32) (0 : Int32) (0 : Int32))), .val (.int bb), .val (.int kv), .val (.int vz)] [(.int ((own_bit bb (0 : Int32)) + (own_bit bb (1 : Int32))))])) _
      refine XS.iload X320.here hx rfl (hb hby at_195) rfl ?_
      show Steps p.tables e below (T320.setTop (mkF m 197 #[.val (.int ps), .val (.int pb), .val (.int pe), .val (.int (3 : Int32)), .val (.ref b248), .val (.int (own_cnt (3 : Int32) (0 : Int32) (0 : Int32) (0 : Int32) (0 : Int32))), .val (.int bb), .val (.int kv), .val (.int vz)] [(.int bb), (.int ((own_bit bb (0 : Int32)) + (own_bit bb (1 : Int32))))])) _
      refine XS.iconst X320.here hx rfl (hb hby at_197) ?_
      show Steps p.tables e below (T320.setTop (mkF m 198 #[.val (.int ps), .val (.int pb), .val (.int pe), .val (.int (3 : Int32)), .val (.ref b248), .val (.int (own_cnt (3 : Int32) (0 : Int32) (0 : Int32) (0 : Int32) (0 : Int32))), .val (.int bb), .val (.int kv), .val (.int vz)] [(.int (2 : Int32)), (.int bb), (.int ((own_bit bb (0 : Int32)) + (own_bit bb (1 : Int32))))])) _
      refine st321 _ ?_
      show Steps p.tables e below (T321.setTop (mkF m 201 #[.val (.int ps), .val (.int pb), .val (.int pe), .val (.int (3 : Int32)), .val (.ref b248), .val (.int (own_cnt (3 : Int32) (0 : Int32) (0 : Int32) (0 : Int32) (0 : Int32))), .val (.int bb), .val (.int kv), .val (.int vz)] [(.int (own_bit bb (2 : Int32))), (.int ((own_bit bb (0 : Int32)) + (own_bit bb (1 : Int32))))])) _
      refine XS.iadd X321.here hx rfl (hb hby at_201) rfl ?_
      show Steps p.tables e below (T321.setTop (mkF m 202 #[.val (.int ps), .val (.int pb), .val (.int pe), .val (.int (3 : Int32)), .val (.ref b248), .val (.int (own_cnt (3 : Int32) (0 : Int32) (0 : Int32) (0 : Int32) (0 : Int32))), .val (.int bb), .val (.int kv), .val (.int vz)] [(.int (((own_bit bb (0 : Int32)) + (own_bit bb (1 : Int32))) + (own_bit bb (2 : Int32))))])) _
      refine XS.iload X321.here hx rfl (hb hby at_202) rfl ?_
      show Steps p.tables e below (T321.setTop (mkF m 204 #[.val (.int ps), .val (.int pb), .val (.int pe), .val (.int (3 : Int32)), .val (.ref b248), .val (.int (own_cnt (3 : Int32) (0 : Int32) (0 : Int32) (0 : Int32) (0 : Int32))), .val (.int bb), .val (.int kv), .val (.int vz)] [(.int bb), (.int (((own_bit bb (0 : Int32)) + (own_bit bb (1 : Int32))) + (own_bit bb (2 : Int32))))])) _
      refine XS.iconst X321.here hx rfl (hb hby at_204) ?_
      show Steps p.tables e below (T321.setTop (mkF m 205 #[.val (.int ps), .val (.int pb), .val (.int pe), .val (.int (3 : Int32)), .val (.ref b248), .val (.int (own_cnt (3 : Int32) (0 : Int32) (0 : Int32) (0 : Int32) (0 : Int32))), .val (.int bb), .val (.int kv), .val (.int vz)] [(.int (3 : Int32)), (.int bb), (.int (((own_bit bb (0 : Int32)) + (own_bit bb (1 : Int32))) + (own_bit bb (2 : Int32))))])) _
      refine st322 _ ?_
      show Steps p.tables e below (T322.setTop (mkF m 208 #[.val (.int ps), .val (.int pb), .val (.int pe), .val (.int (3 : Int32)), .val (.ref b248), .val (.int (own_cnt (3 : Int32) (0 : Int32) (0 : Int32) (0 : Int32) (0 : Int32))), .val (.int bb), .val (.int kv), .val (.int vz)] [(.int (own_bit bb (3 : Int32))), (.int (((own_bit bb (0 : Int32)) + (own_bit bb (1 : Int32))) + (own_bit bb (2 : Int32))))])) _
      refine XS.iadd X322.here hx rfl (hb hby at_208) rfl ?_
      show Steps p.tables e below (T322.setTop (mkF m 209 #[.val (.int ps), .val (.int pb), .val (.int pe), .val (.int (3 : Int32)), .val (.ref b248), .val (.int (own_cnt (3 : Int32) (0 : Int32) (0 : Int32) (0 : Int32) (0 : Int32))), .val (.int bb), .val (.int kv), .val (.int vz)] [(.int ((((own_bit bb (0 : Int32)) + (own_bit bb (1 : Int32))) + (own_bit bb (2 : Int32))) + (own_bit bb (3 : Int32))))])) _
      refine XS.istore X322.here hx rfl (hb hby at_209) rfl (l' := #[.val (.int ps), .val (.int pb), .val (.int pe), .val (.int (3 : Int32)), .val (.ref b248), .val (.int (own_cnt (3 : Int32) (0 : Int32) (0 : Int32) (0 : Int32) (0 : Int32))), .val (.int bb), .val (.int ((((own_bit bb (0 : Int32)) + (own_bit bb (1 : Int32))) + (own_bit bb (2 : Int32))) + (own_bit bb (3 : Int32)))), .val (.int vz)]) rfl ?_
      show Steps p.tables e below (T322.setTop (mkF m 211 #[.val (.int ps), .val (.int pb), .val (.int pe), .val (.int (3 : Int32)), .val (.ref b248), .val (.int (own_cnt (3 : Int32) (0 : Int32) (0 : Int32) (0 : Int32) (0 : Int32))), .val (.int bb), .val (.int ((((own_bit bb (0 : Int32)) + (own_bit bb (1 : Int32))) + (own_bit bb (2 : Int32))) + (own_bit bb (3 : Int32)))), .val (.int vz)] [])) _
      refine XS.iload X322.here hx rfl (hb hby at_211) rfl ?_
      show Steps p.tables e below (T322.setTop (mkF m 213 #[.val (.int ps), .val (.int pb), .val (.int pe), .val (.int (3 : Int32)), .val (.ref b248), .val (.int (own_cnt (3 : Int32) (0 : Int32) (0 : Int32) (0 : Int32) (0 : Int32))), .val (.int bb), .val (.int ((((own_bit bb (0 : Int32)) + (own_bit bb (1 : Int32))) + (own_bit bb (2 : Int32))) + (own_bit bb (3 : Int32)))), .val (.int vz)] [(.int (own_cnt (3 : Int32) (0 : Int32) (0 : Int32) (0 : Int32) (0 : Int32)))])) _
      refine XS.ifNo X322.here hx rfl (hb hby at_213) rfl ((if0 _ _).trans (teq (rfl : ((own_cnt (3 : Int32) (0 : Int32) (0 : Int32) (0 : Int32) (0 : Int32)) = (0 : Int32)))).2) ?_
      show Steps p.tables e below (T322.setTop (mkF m 216 #[.val (.int ps), .val (.int pb), .val (.int pe), .val (.int (3 : Int32)), .val (.ref b248), .val (.int (own_cnt (3 : Int32) (0 : Int32) (0 : Int32) (0 : Int32) (0 : Int32))), .val (.int bb), .val (.int ((((own_bit bb (0 : Int32)) + (own_bit bb (1 : Int32))) + (own_bit bb (2 : Int32))) + (own_bit bb (3 : Int32)))), .val (.int vz)] [])) _
      refine XS.aload X322.here hx rfl (hb hby at_216) rfl rfl ?_
      show Steps p.tables e below (T322.setTop (mkF m 218 #[.val (.int ps), .val (.int pb), .val (.int pe), .val (.int (3 : Int32)), .val (.ref b248), .val (.int (own_cnt (3 : Int32) (0 : Int32) (0 : Int32) (0 : Int32) (0 : Int32))), .val (.int bb), .val (.int ((((own_bit bb (0 : Int32)) + (own_bit bb (1 : Int32))) + (own_bit bb (2 : Int32))) + (own_bit bb (3 : Int32)))), .val (.int vz)] [(.ref b248)])) _
      refine st323.trans ?_
      show Steps p.tables e below (T323.setTop (mkF m 221 #[.val (.int ps), .val (.int pb), .val (.int pe), .val (.int (3 : Int32)), .val (.ref b248), .val (.int (own_cnt (3 : Int32) (0 : Int32) (0 : Int32) (0 : Int32) (0 : Int32))), .val (.int bb), .val (.int ((((own_bit bb (0 : Int32)) + (own_bit bb (1 : Int32))) + (own_bit bb (2 : Int32))) + (own_bit bb (3 : Int32)))), .val (.int vz)] [(.int (own_cnt (3 : Int32) ee0 ee1 ee2 (0 : Int32)))])) _
      refine XS.iload X323.here hx rfl (hb hby at_221) rfl ?_
      show Steps p.tables e below (T323.setTop (mkF m 223 #[.val (.int ps), .val (.int pb), .val (.int pe), .val (.int (3 : Int32)), .val (.ref b248), .val (.int (own_cnt (3 : Int32) (0 : Int32) (0 : Int32) (0 : Int32) (0 : Int32))), .val (.int bb), .val (.int ((((own_bit bb (0 : Int32)) + (own_bit bb (1 : Int32))) + (own_bit bb (2 : Int32))) + (own_bit bb (3 : Int32)))), .val (.int vz)] [(.int ((((own_bit bb (0 : Int32)) + (own_bit bb (1 : Int32))) + (own_bit bb (2 : Int32))) + (own_bit bb (3 : Int32)))), (.int (own_cnt (3 : Int32) ee0 ee1 ee2 (0 : Int32)))])) _
      refine XS.icmpNo X323.here hx rfl (hb hby at_223) rfl (teq (own_fin3 hv259 hv269 hv279 hv290 hv311 hv318 : ((own_cnt (3 : Int32) ee0 ee1 ee2 (0 : Int32)) = ((((own_bit bb (0 : Int32)) + (own_bit bb (1 : Int32))) + (own_bit bb (2 : Int32))) + (own_bit bb (3 : Int32)))))).2 ?_
      show Steps p.tables e below (T323.setTop (mkF m 226 #[.val (.int ps), .val (.int pb), .val (.int pe), .val (.int (3 : Int32)), .val (.ref b248), .val (.int (own_cnt (3 : Int32) (0 : Int32) (0 : Int32) (0 : Int32) (0 : Int32))), .val (.int bb), .val (.int ((((own_bit bb (0 : Int32)) + (own_bit bb (1 : Int32))) + (own_bit bb (2 : Int32))) + (own_bit bb (3 : Int32)))), .val (.int vz)] [])) _
      refine XS.iconst X323.here hx rfl (hb hby at_226) ?_
      show Steps p.tables e below (T323.setTop (mkF m 227 #[.val (.int ps), .val (.int pb), .val (.int pe), .val (.int (3 : Int32)), .val (.ref b248), .val (.int (own_cnt (3 : Int32) (0 : Int32) (0 : Int32) (0 : Int32) (0 : Int32))), .val (.int bb), .val (.int ((((own_bit bb (0 : Int32)) + (own_bit bb (1 : Int32))) + (own_bit bb (2 : Int32))) + (own_bit bb (3 : Int32)))), .val (.int vz)] [(.int (1 : Int32))])) _
      refine XS.goto X323.here hx rfl (pc0 := 227) (pc' := 231) rfl (hb hby at_227) (by decide) (by decide) ?_
      show Steps p.tables e below (T323.setTop (mkF m 231 #[.val (.int ps), .val (.int pb), .val (.int pe), .val (.int (3 : Int32)), .val (.ref b248), .val (.int (own_cnt (3 : Int32) (0 : Int32) (0 : Int32) (0 : Int32) (0 : Int32))), .val (.int bb), .val (.int ((((own_bit bb (0 : Int32)) + (own_bit bb (1 : Int32))) + (own_bit bb (2 : Int32))) + (own_bit bb (3 : Int32)))), .val (.int vz)] [(.int (1 : Int32))])) _
      exact retN X323 hx (t := .boolean) Bd.returns (by simp) (hb hby at_231) hr
    · show Q0 Z ps pb pe h0 n0 _ T323.heap _
      rw [e323]
      exact ⟨rfl, N323⟩
  · rw [hq130] at pre125
    obtain ⟨T324, h324, X324, e324, E324, A324, D324, -, st324⟩ := newO X0 hx hZ hown (hw _ (List.mem_of_getElem? (i := 1) rfl)) (hw _ (List.mem_of_getElem? (i := 2) rfl)) (hw _ (List.mem_of_getElem? (i := 3) rfl)) e0 (g := (mkF m 7 #[.val (.int ps), .val (.int pb), .val (.int pe), .val (.int (4 : Int32)), .unset, .unset, .unset, .unset, .unset] [])) rfl (hb hby at_7) (by decide) (by decide)
    obtain ⟨b324, g324⟩ : ∃ z, z = h0.size := ⟨_, rfl⟩
    rw [← g324] at A324 D324 st324
    have g_b324 : n0 ≤ b324 := Nat.le_trans Z0 (Nat.le_of_eq g324.symm)
    have sz_b324 : h0.size ≤ b324 := Nat.le_of_eq g324.symm
    have Zs324 : n0 ≤ h324.size := Nat.le_trans Z0 E324.1
    have KK324 : Keep h0 h324 [] := (Keep.refl h0 _).ext E324
    have f325 : Fld Z h324 b324 "com/example/tresse/tresse/rwlock/Flags" "values" "[Z" .null := D324 (Or.inr (hw _ (List.mem_of_getElem? (i := 12) rfl))) (ty := (.array .boolean)) (by decide)
    obtain ⟨_, _, ⟨T326, L326, k326, n326⟩, -, X326, ⟨Lc326, hQ326, l326, y326, z326⟩, st326⟩ := X324.specialBack hx (y := (⟨"com/example/tresse/tresse/rwlock/Flags", "<init>", "(I)V"⟩ : MethodName)) rfl hown (mvT hZ (hw _ (List.mem_of_getElem? (i := 4) rfl))) (mvT hZ (hw _ (List.mem_of_getElem? (i := 5) rfl))) (mvT hZ (hw _ (List.mem_of_getElem? (i := 6) rfl))) (by decide) (backOf (W := 1) (rm1 l Z a0 hw [] b324 (4 : Int32)  h324 n0 Zs324 f325 A324 g_b324 (by decide) (by decide)) hZ (hw _ (List.mem_of_getElem? (i := 6) rfl)) (hw _ (List.mem_of_getElem? (i := 3) rfl)) (by decide) (by decide)) (g := (mkF m 12 #[.val (.int ps), .val (.int pb), .val (.int pe), .val (.int (4 : Int32)), .unset, .unset, .unset, .unset, .unset] [(.int (4 : Int32)), (.ref b324), (.ref b324)])) rfl (by rw [hml]; rfl) (Steps.refl _) (a := b324) (argsL := [(.int (4 : Int32))]) (rest := [(.ref b324)]) (lenOf own_pd49 rfl) rfl (by show 2 * 0 + _ ≤ _; exact Nat.le_of_eq rfl) (hb hby at_12) (fun _ _ => ⟨rfl, e324, (by decide : 1 + 1 ≤ _), (by decide : 1 + 4 ≤ _)⟩)
    dsimp only [Pt.U, Pt.locs, Pt.cells, Pt.slots] at X326 l326 y326 z326 st326 hQ326
    subst l326 y326 z326
    obtain ⟨rar_326, rkk_326, rfl, Nq326, K326, p326_0, p326_1, p326_2, p326_3, p326_4⟩ := hQ326
    have N326 := Fr.app N0 Nq326
    have Zs326 : n0 ≤ T326.heap.size := Nat.le_trans Zs324 K326.1
    have KK326 : Keep h0 T326.heap [] := KK324.trans K326 (allS (Or.inr sz_b324) all0)
    have ne_b324_rar_326 : b324 ≠ rar_326 := Nat.ne_of_lt (Nat.lt_of_lt_of_le A324.lt p326_4)
    have sz_rar_326 : h0.size ≤ rar_326 := Nat.le_trans KK324.1 p326_4
    have f327 := A324.keep K326
    have g_rar_326 := p326_3
    obtain ⟨cq328, kq328, q328a, q328b, q328c⟩ := isOf hZ rfl p326_0
    obtain ⟨_, _, ⟨T328, L328, k328, n328⟩, -, X328, ⟨Lc328, hQ328, l328, y328, z328⟩, st328⟩ := X326.virtualBack hx (y := (⟨"com/example/tresse/tresse/rwlock/Flags", "countTrue", "()I"⟩ : MethodName)) (z := (⟨"com/example/tresse/tresse/rwlock/Flags", "countTrue", "()I"⟩ : MethodName)) hown (mvT hZ (hw _ (List.mem_of_getElem? (i := 13) rfl))) (mvT hZ (hw _ (List.mem_of_getElem? (i := 14) rfl))) (notFace_of_selects (args := #[]) (mvT hZ (hw _ (List.mem_of_getElem? (i := 16) rfl)))) (mvT hZ (hw _ (List.mem_of_getElem? (i := 16) rfl))) (mvT hZ (hw _ (List.mem_of_getElem? (i := 15) rfl))) (by decide) (backOf (W := 0) (rm3 l Z a0 hw [] b324 rar_326 rkk_326 (4 : Int32) (0 : Int32) (0 : Int32) (0 : Int32) (0 : Int32) T326.heap n0 Zs326 p326_1 p326_2 (by decide)) hZ (hw _ (List.mem_of_getElem? (i := 17) rfl)) (hw _ (List.mem_of_getElem? (i := 3) rfl)) (by decide) (by decide)) q328a q328c (g := (mkF m 19 #[.val (.int ps), .val (.int pb), .val (.int pe), .val (.int (4 : Int32)), .val (.ref b324), .unset, .unset, .unset, .unset] [(.ref b324)])) rfl (by rw [hml]; rfl) (Steps.refl _) (argsL := []) (rest := []) (lenOf own_pd50 rfl) rfl (by show 2 * 0 + _ ≤ _; exact Nat.le_of_eq rfl) (hb hby at_19) (fun _ _ => ⟨rfl, rfl, (by decide : 2 + 0 ≤ _), (by decide : 5 + 0 ≤ _)⟩)
    dsimp only [Pt.U, Pt.locs, Pt.cells, Pt.slots] at X328 l328 y328 z328 st328 hQ328
    subst l328 y328 z328
    obtain ⟨rfl, Nq328, e328⟩ := hQ328
    have N328 := Fr.app N326 Nq328
    have pre329 : ∀ t, Steps p.tables e below (T328.setTop (mkF m 34 #[.val (.int ps), .val (.int pb), .val (.int pe), .val (.int (4 : Int32)), .val (.ref b324), .val (.int (own_cnt (4 : Int32) (0 : Int32) (0 : Int32) (0 : Int32) (0 : Int32))), .unset, .unset, .unset] [(.int (pb &&& (1 : Int32))), (.int (0 : Int32)), (.ref b324)])) t → Steps p.tables e below G0 t := by
      intro t k
      refine pre125 t ?_
      show Steps p.tables e below (s₁.setTop (mkF m 7 #[.val (.int ps), .val (.int pb), .val (.int pe), .val (.int (4 : Int32)), .unset, .unset, .unset, .unset, .unset] [])) _
      refine st324 _ ?_
      show Steps p.tables e below (T324.setTop (mkF m 10 #[.val (.int ps), .val (.int pb), .val (.int pe), .val (.int (4 : Int32)), .unset, .unset, .unset, .unset, .unset] [(.ref b324)])) _
      refine XS.dup X324.here hx rfl (hb hby at_10) rfl rfl ?_
      show Steps p.tables e below (T324.setTop (mkF m 11 #[.val (.int ps), .val (.int pb), .val (.int pe), .val (.int (4 : Int32)), .unset, .unset, .unset, .unset, .unset] [(.ref b324), (.ref b324)])) _
      refine XS.iloadN X324.here hx rfl (hb hby at_11) rfl ?_
      show Steps p.tables e below (T324.setTop (mkF m 12 #[.val (.int ps), .val (.int pb), .val (.int pe), .val (.int (4 : Int32)), .unset, .unset, .unset, .unset, .unset] [(.int (4 : Int32)), (.ref b324), (.ref b324)])) _
      refine st326.trans ?_
      show Steps p.tables e below (T326.setTop (mkF m 15 #[.val (.int ps), .val (.int pb), .val (.int pe), .val (.int (4 : Int32)), .unset, .unset, .unset, .unset, .unset] [(.ref b324)])) _
      refine XS.astore X326.here hx rfl (hb hby at_15) rfl rfl (l' := #[.val (.int ps), .val (.int pb), .val (.int pe), .val (.int (4 : Int32)), .val (.ref b324), .unset, .unset, .unset, .unset]) rfl ?_
      show Steps p.tables e below (T326.setTop (mkF m 17 #[.val (.int ps), .val (.int pb), .val (.int pe), .val (.int (4 : Int32)), .val (.ref b324), .unset, .unset, .unset, .unset] [])) _
      refine XS.aload X326.here hx rfl (hb hby at_17) rfl rfl ?_
      show Steps p.tables e below (T326.setTop (mkF m 19 #[.val (.int ps), .val (.int pb), .val (.int pe), .val (.int (4 : Int32)), .val (.ref b324), .unset, .unset, .unset, .unset] [(.ref b324)])) _
      refine st328.trans ?_
      show Steps p.tables e below (T328.setTop (mkF m 22 #[.val (.int ps), .val (.int pb), .val (.int pe), .val (.int (4 : Int32)), .val (.ref b324), .unset, .unset, .unset, .unset] [(.int (own_cnt (4 : Int32) (0 : Int32) (0 : Int32) (0 : Int32) (0 : Int32)))])) _
      refine XS.istore X328.here hx rfl (hb hby at_22) rfl (l' := #[.val (.int ps), .val (.int pb), .val (.int pe), .val (.int (4 : Int32)), .val (.ref b324), .val (.int (own_cnt (4 : Int32) (0 : Int32) (0 : Int32) (0 : Int32) (0 : Int32))), .unset, .unset, .unset]) rfl ?_
      show Steps p.tables e below (T328.setTop (mkF m 24 #[.val (.int ps), .val (.int pb), .val (.int pe), .val (.int (4 : Int32)), .val (.ref b324), .val (.int (own_cnt (4 : Int32) (0 : Int32) (0 : Int32) (0 : Int32) (0 : Int32))), .unset, .unset, .unset] [])) _
      refine XS.iloadN X328.here hx rfl (hb hby at_24) rfl ?_
      show Steps p.tables e below (T328.setTop (mkF m 25 #[.val (.int ps), .val (.int pb), .val (.int pe), .val (.int (4 : Int32)), .val (.ref b324), .val (.int (own_cnt (4 : Int32) (0 : Int32) (0 : Int32) (0 : Int32) (0 : Int32))), .unset, .unset, .unset] [(.int (4 : Int32))])) _
      refine XS.ifNo X328.here hx rfl (hb hby at_25) rfl ((if0 _ _).trans (tlt (by decide : ((0 : Int32) < (4 : Int32)))).2.2.2) ?_
      show Steps p.tables e below (T328.setTop (mkF m 28 #[.val (.int ps), .val (.int pb), .val (.int pe), .val (.int (4 : Int32)), .val (.ref b324), .val (.int (own_cnt (4 : Int32) (0 : Int32) (0 : Int32) (0 : Int32) (0 : Int32))), .unset, .unset, .unset] [])) _
      refine XS.aload X328.here hx rfl (hb hby at_28) rfl rfl ?_
      show Steps p.tables e below (T328.setTop (mkF m 30 #[.val (.int ps), .val (.int pb), .val (.int pe), .val (.int (4 : Int32)), .val (.ref b324), .val (.int (own_cnt (4 : Int32) (0 : Int32) (0 : Int32) (0 : Int32) (0 : Int32))), .unset, .unset, .unset] [(.ref b324)])) _
      refine XS.iconst X328.here hx rfl (hb hby at_30) ?_
      show Steps p.tables e below (T328.setTop (mkF m 31 #[.val (.int ps), .val (.int pb), .val (.int pe), .val (.int (4 : Int32)), .val (.ref b324), .val (.int (own_cnt (4 : Int32) (0 : Int32) (0 : Int32) (0 : Int32) (0 : Int32))), .unset, .unset, .unset] [(.int (0 : Int32)), (.ref b324)])) _
      refine XS.iloadN X328.here hx rfl (hb hby at_31) rfl ?_
      show Steps p.tables e below (T328.setTop (mkF m 32 #[.val (.int ps), .val (.int pb), .val (.int pe), .val (.int (4 : Int32)), .val (.ref b324), .val (.int (own_cnt (4 : Int32) (0 : Int32) (0 : Int32) (0 : Int32) (0 : Int32))), .unset, .unset, .unset] [(.int pb), (.int (0 : Int32)), (.ref b324)])) _
      refine XS.iconst X328.here hx rfl (hb hby at_32) ?_
      show Steps p.tables e below (T328.setTop (mkF m 33 #[.val (.int ps), .val (.int pb), .val (.int pe), .val (.int (4 : Int32)), .val (.ref b324), .val (.int (own_cnt (4 : Int32) (0 : Int32) (0 : Int32) (0 : Int32) (0 : Int32))), .unset, .unset, .unset] [(.int (1 : Int32)), (.int pb), (.int (0 : Int32)), (.ref b324)])) _
      refine XS.iand X328.here hx rfl (hb hby at_33) rfl ?_
      exact k
    obtain ⟨v0, hv335, pre334⟩ : ∃ (v0 : Int32), (v0 = if (pb &&& 1) = 0 then 0 else 1) ∧ ∀ t, Steps p.tables e below (T328.setTop (mkF m 42 #[.val (.int ps), .val (.int pb), .val (.int pe), .val (.int (4 : Int32)), .val (.ref b324), .val (.int (own_cnt (4 : Int32) (0 : Int32) (0 : Int32) (0 : Int32) (0 : Int32))), .unset, .unset, .unset] [(.int v0), (.int (0 : Int32)), (.ref b324)])) t → Steps p.tables e below G0 t := by
      by_cases hc34_330 : (pb &&& (1 : Int32)) = (0 : Int32)
      · have pre331 : ∀ t, Steps p.tables e below (T328.setTop (mkF m 42 #[.val (.int ps), .val (.int pb), .val (.int pe), .val (.int (4 : Int32)), .val (.ref b324), .val (.int (own_cnt (4 : Int32) (0 : Int32) (0 : Int32) (0 : Int32) (0 : Int32))), .unset, .unset, .unset] [(.int (0 : Int32)), (.int (0 : Int32)), (.ref b324)])) t → Steps p.tables e below G0 t := by
          intro t k
          refine pre329 t ?_
          show Steps p.tables e below (T328.setTop (mkF m 34 #[.val (.int ps), .val (.int pb), .val (.int pe), .val (.int (4 : Int32)), .val (.ref b324), .val (.int (own_cnt (4 : Int32) (0 : Int32) (0 : Int32) (0 : Int32) (0 : Int32))), .unset, .unset, .unset] [(.int (pb &&& (1 : Int32))), (.int (0 : Int32)), (.ref b324)])) _
          refine XS.ifYes X328.here hx rfl (pc0 := 34) (pc' := 41) rfl (hb hby at_34) rfl ((if0 _ _).trans (teq hc34_330).1) (by decide) (by decide) ?_
          show Steps p.tables e below (T328.setTop (mkF m 41 #[.val (.int ps), .val (.int pb), .val (.int pe), .val (.int (4 : Int32)), .val (.ref b324), .val (.int (own_cnt (4 : Int32) (0 : Int32) (0 : Int32) (0 : Int32) (0 : Int32))), .unset, .unset, .unset] [(.int (0 : Int32)), (.ref b324)])) _
          refine XS.iconst X328.here hx rfl (hb hby at_41) ?_
          exact k
        exact ⟨(0 : Int32), (by simp [hc34_330]), pre331⟩
      · have pre332 : ∀ t, Steps p.tables e below (T328.setTop (mkF m 42 #[.val (.int ps), .val (.int pb), .val (.int pe), .val (.int (4 : Int32)), .val (.ref b324), .val (.int (own_cnt (4 : Int32) (0 : Int32) (0 : Int32) (0 : Int32) (0 : Int32))), .unset, .unset, .unset] [(.int (1 : Int32)), (.int (0 : Int32)), (.ref b324)])) t → Steps p.tables e below G0 t := by
          intro t k
          refine pre329 t ?_
          show Steps p.tables e below (T328.setTop (mkF m 34 #[.val (.int ps), .val (.int pb), .val (.int pe), .val (.int (4 : Int32)), .val (.ref b324), .val (.int (own_cnt (4 : Int32) (0 : Int32) (0 : Int32) (0 : Int32) (0 : Int32))), .unset, .unset, .unset] [(.int (pb &&& (1 : Int32))), (.int (0 : Int32)), (.ref b324)])) _
          refine XS.ifNo X328.here hx rfl (hb hby at_34) rfl ((if0 _ _).trans (feq hc34_330).1) ?_
          show Steps p.tables e below (T328.setTop (mkF m 37 #[.val (.int ps), .val (.int pb), .val (.int pe), .val (.int (4 : Int32)), .val (.ref b324), .val (.int (own_cnt (4 : Int32) (0 : Int32) (0 : Int32) (0 : Int32) (0 : Int32))), .unset, .unset, .unset] [(.int (0 : Int32)), (.ref b324)])) _
          refine XS.iconst X328.here hx rfl (hb hby at_37) ?_
          show Steps p.tables e below (T328.setTop (mkF m 38 #[.val (.int ps), .val (.int pb), .val (.int pe), .val (.int (4 : Int32)), .val (.ref b324), .val (.int (own_cnt (4 : Int32) (0 : Int32) (0 : Int32) (0 : Int32) (0 : Int32))), .unset, .unset, .unset] [(.int (1 : Int32)), (.int (0 : Int32)), (.ref b324)])) _
          refine XS.goto X328.here hx rfl (pc0 := 38) (pc' := 42) rfl (hb hby at_38) (by decide) (by decide) ?_
          exact k
        exact ⟨(1 : Int32), (by simp [hc34_330]), pre332⟩
    obtain ⟨cq336, kq336, q336a, q336b, q336c⟩ := isOf hZ e328 p326_0
    obtain ⟨_, _, ⟨T336, L336, k336, n336⟩, -, X336, ⟨Lc336, hQ336, l336, y336, z336⟩, st336⟩ := X328.virtualBack hx (y := (⟨"com/example/tresse/tresse/rwlock/Flags", "set", "(IZ)V"⟩ : MethodName)) (z := (⟨"com/example/tresse/tresse/rwlock/Flags", "set", "(IZ)V"⟩ : MethodName)) hown (mvT hZ (hw _ (List.mem_of_getElem? (i := 22) rfl))) (mvT hZ (hw _ (List.mem_of_getElem? (i := 23) rfl))) (notFace_of_selects (args := #[]) (mvT hZ (hw _ (List.mem_of_getElem? (i := 25) rfl)))) (mvT hZ (hw _ (List.mem_of_getElem? (i := 25) rfl))) (mvT hZ (hw _ (List.mem_of_getElem? (i := 24) rfl))) (by decide) (backOf (W := 0) (rm5j0 l Z a0 hw [] b324 v0 rar_326 rkk_326 (4 : Int32) (0 : Int32) (0 : Int32) (0 : Int32) (0 : Int32) T326.heap n0 Zs326 p326_1 p326_2 g_rar_326 ne_b324_rar_326 (by decide)) hZ (hw _ (List.mem_of_getElem? (i := 26) rfl)) (hw _ (List.mem_of_getElem? (i := 3) rfl)) (by decide) (by decide)) q336a q336c (g := (mkF m 42 #[.val (.int ps), .val (.int pb), .val (.int pe), .val (.int (4 : Int32)), .val (.ref b324), .val (.int (own_cnt (4 : Int32) (0 : Int32) (0 : Int32) (0 : Int32) (0 : Int32))), .unset, .unset, .unset] [(.int v0), (.int (0 : Int32)), (.ref b324)])) rfl (by rw [hml]; rfl) (Steps.refl _) (argsL := [(.int (0 : Int32)), (.int v0)]) (rest := []) (lenOf own_pd52 rfl) rfl (by show 2 * 0 + _ ≤ _; exact Nat.le_of_eq rfl) (hb hby at_42) (fun _ _ => ⟨rfl, e328, (by decide : 2 + 0 ≤ _), (by decide : 5 + 0 ≤ _)⟩)
    dsimp only [Pt.U, Pt.locs, Pt.cells, Pt.slots] at X336 l336 y336 z336 st336 hQ336
    subst l336 y336 z336
    obtain ⟨rfl, Nq336, K336, p336_0⟩ := hQ336
    have N336 := Fr.app N328 Nq336
    have Zs336 : n0 ≤ T336.heap.size := Nat.le_trans Zs326 K336.1
    have KK336 : Keep h0 T336.heap [] := KK326.trans K336 (allS (Or.inr sz_rar_326) all0)
    have f337 := p326_0.keep K336
    have f338 := p326_1.keep K336 (ninS ne_b324_rar_326 nin0)
    have pre339 : ∀ t, Steps p.tables e below (T336.setTop (mkF m 56 #[.val (.int ps), .val (.int pb), .val (.int pe), .val (.int (4 : Int32)), .val (.ref b324), .val (.int (own_cnt (4 : Int32) (0 : Int32) (0 : Int32) (0 : Int32) (0 : Int32))), .unset, .unset, .unset] [(.int (pb &&& (2 : Int32))), (.int (1 : Int32)), (.ref b324)])) t → Steps p.tables e below G0 t := by
      intro t k
      refine pre334 t ?_
      show Steps p.tables e below (T328.setTop (mkF m 42 #[.val (.int ps), .val (.int pb), .val (.int pe), .val (.int (4 : Int32)), .val (.ref b324), .val (.int (own_cnt (4 : Int32) (0 : Int32) (0 : Int32) (0 : Int32) (0 : Int32))), .unset, .unset, .unset] [(.int v0), (.int (0 : Int32)), (.ref b324)])) _
      refine st336.trans ?_
      show Steps p.tables e below (T336.setTop (mkF m 45 #[.val (.int ps), .val (.int pb), .val (.int pe), .val (.int (4 : Int32)), .val (.ref b324), .val (.int (own_cnt (4 : Int32) (0 : Int32) (0 : Int32) (0 : Int32) (0 : Int32))), .unset, .unset, .unset] [])) _
      refine XS.iloadN X336.here hx rfl (hb hby at_45) rfl ?_
      show Steps p.tables e below (T336.setTop (mkF m 46 #[.val (.int ps), .val (.int pb), .val (.int pe), .val (.int (4 : Int32)), .val (.ref b324), .val (.int (own_cnt (4 : Int32) (0 : Int32) (0 : Int32) (0 : Int32) (0 : Int32))), .unset, .unset, .unset] [(.int (4 : Int32))])) _
      refine XS.iconst X336.here hx rfl (hb hby at_46) ?_
      show Steps p.tables e below (T336.setTop (mkF m 47 #[.val (.int ps), .val (.int pb), .val (.int pe), .val (.int (4 : Int32)), .val (.ref b324), .val (.int (own_cnt (4 : Int32) (0 : Int32) (0 : Int32) (0 : Int32) (0 : Int32))), .unset, .unset, .unset] [(.int (1 : Int32)), (.int (4 : Int32))])) _
      refine XS.icmpNo X336.here hx rfl (hb hby at_47) rfl (tlt (by decide : ((1 : Int32) < (4 : Int32)))).2.2.2 ?_
      show Steps p.tables e below (T336.setTop (mkF m 50 #[.val (.int ps), .val (.int pb), .val (.int pe), .val (.int (4 : Int32)), .val (.ref b324), .val (.int (own_cnt (4 : Int32) (0 : Int32) (0 : Int32) (0 : Int32) (0 : Int32))), .unset, .unset, .unset] [])) _
      refine XS.aload X336.here hx rfl (hb hby at_50) rfl rfl ?_
      show Steps p.tables e below (T336.setTop (mkF m 52 #[.val (.int ps), .val (.int pb), .val (.int pe), .val (.int (4 : Int32)), .val (.ref b324), .val (.int (own_cnt (4 : Int32) (0 : Int32) (0 : Int32) (0 : Int32) (0 : Int32))), .unset, .unset, .unset] [(.ref b324)])) _
      refine XS.iconst X336.here hx rfl (hb hby at_52) ?_
      show Steps p.tables e below (T336.setTop (mkF m 53 #[.val (.int ps), .val (.int pb), .val (.int pe), .val (.int (4 : Int32)), .val (.ref b324), .val (.int (own_cnt (4 : Int32) (0 : Int32) (0 : Int32) (0 : Int32) (0 : Int32))), .unset, .unset, .unset] [(.int (1 : Int32)), (.ref b324)])) _
      refine XS.iloadN X336.here hx rfl (hb hby at_53) rfl ?_
      show Steps p.tables e below (T336.setTop (mkF m 54 #[.val (.int ps), .val (.int pb), .val (.int pe), .val (.int (4 : Int32)), .val (.ref b324), .val (.int (own_cnt (4 : Int32) (0 : Int32) (0 : Int32) (0 : Int32) (0 : Int32))), .unset, .unset, .unset] [(.int pb), (.int (1 : Int32)), (.ref b324)])) _
      refine XS.iconst X336.here hx rfl (hb hby at_54) ?_
      show Steps p.tables e below (T336.setTop (mkF m 55 #[.val (.int ps), .val (.int pb), .val (.int pe), .val (.int (4 : Int32)), .val (.ref b324), .val (.int (own_cnt (4 : Int32) (0 : Int32) (0 : Int32) (0 : Int32) (0 : Int32))), .unset, .unset, .unset] [(.int (2 : Int32)), (.int pb), (.int (1 : Int32)), (.ref b324)])) _
      refine XS.iand X336.here hx rfl (hb hby at_55) rfl ?_
      exact k
    obtain ⟨v1, hv345, pre344⟩ : ∃ (v1 : Int32), (v1 = if (pb &&& 2) = 0 then 0 else 1) ∧ ∀ t, Steps p.tables e below (T336.setTop (mkF m 64 #[.val (.int ps), .val (.int pb), .val (.int pe), .val (.int (4 : Int32)), .val (.ref b324), .val (.int (own_cnt (4 : Int32) (0 : Int32) (0 : Int32) (0 : Int32) (0 : Int32))), .unset, .unset, .unset] [(.int v1), (.int (1 : Int32)), (.ref b324)])) t → Steps p.tables e below G0 t := by
      by_cases hc56_340 : (pb &&& (2 : Int32)) = (0 : Int32)
      · have pre341 : ∀ t, Steps p.tables e below (T336.setTop (mkF m 64 #[.val (.int ps), .val (.int pb), .val (.int pe), .val (.int (4 : Int32)), .val (.ref b324), .val (.int (own_cnt (4 : Int32) (0 : Int32) (0 : Int32) (0 : Int32) (0 : Int32))), .unset, .unset, .unset] [(.int (0 : Int32)), (.int (1 : Int32)), (.ref b324)])) t → Steps p.tables e below G0 t := by
          intro t k
          refine pre339 t ?_
          show Steps p.tables e below (T336.setTop (mkF m 56 #[.val (.int ps), .val (.int pb), .val (.int pe), .val (.int (4 : Int32)), .val (.ref b324), .val (.int (own_cnt (4 : Int32) (0 : Int32) (0 : Int32) (0 : Int32) (0 : Int32))), .unset, .unset, .unset] [(.int (pb &&& (2 : Int32))), (.int (1 : Int32)), (.ref b324)])) _
          refine XS.ifYes X336.here hx rfl (pc0 := 56) (pc' := 63) rfl (hb hby at_56) rfl ((if0 _ _).trans (teq hc56_340).1) (by decide) (by decide) ?_
          show Steps p.tables e below (T336.setTop (mkF m 63 #[.val (.int ps), .val (.int pb), .val (.int pe), .val (.int (4 : Int32)), .val (.ref b324), .val (.int (own_cnt (4 : Int32) (0 : Int32) (0 : Int32) (0 : Int32) (0 : Int32))), .unset, .unset, .unset] [(.int (1 : Int32)), (.ref b324)])) _
          refine XS.iconst X336.here hx rfl (hb hby at_63) ?_
          exact k
        exact ⟨(0 : Int32), (by simp [hc56_340]), pre341⟩
      · have pre342 : ∀ t, Steps p.tables e below (T336.setTop (mkF m 64 #[.val (.int ps), .val (.int pb), .val (.int pe), .val (.int (4 : Int32)), .val (.ref b324), .val (.int (own_cnt (4 : Int32) (0 : Int32) (0 : Int32) (0 : Int32) (0 : Int32))), .unset, .unset, .unset] [(.int (1 : Int32)), (.int (1 : Int32)), (.ref b324)])) t → Steps p.tables e below G0 t := by
          intro t k
          refine pre339 t ?_
          show Steps p.tables e below (T336.setTop (mkF m 56 #[.val (.int ps), .val (.int pb), .val (.int pe), .val (.int (4 : Int32)), .val (.ref b324), .val (.int (own_cnt (4 : Int32) (0 : Int32) (0 : Int32) (0 : Int32) (0 : Int32))), .unset, .unset, .unset] [(.int (pb &&& (2 : Int32))), (.int (1 : Int32)), (.ref b324)])) _
          refine XS.ifNo X336.here hx rfl (hb hby at_56) rfl ((if0 _ _).trans (feq hc56_340).1) ?_
          show Steps p.tables e below (T336.setTop (mkF m 59 #[.val (.int ps), .val (.int pb), .val (.int pe), .val (.int (4 : Int32)), .val (.ref b324), .val (.int (own_cnt (4 : Int32) (0 : Int32) (0 : Int32) (0 : Int32) (0 : Int32))), .unset, .unset, .unset] [(.int (1 : Int32)), (.ref b324)])) _
          refine XS.iconst X336.here hx rfl (hb hby at_59) ?_
          show Steps p.tables e below (T336.setTop (mkF m 60 #[.val (.int ps), .val (.int pb), .val (.int pe), .val (.int (4 : Int32)), .val (.ref b324), .val (.int (own_cnt (4 : Int32) (0 : Int32) (0 : Int32) (0 : Int32) (0 : Int32))), .unset, .unset, .unset] [(.int (1 : Int32)), (.int (1 : Int32)), (.ref b324)])) _
          refine XS.goto X336.here hx rfl (pc0 := 60) (pc' := 64) rfl (hb hby at_60) (by decide) (by decide) ?_
          exact k
        exact ⟨(1 : Int32), (by simp [hc56_340]), pre342⟩
    obtain ⟨cq346, kq346, q346a, q346b, q346c⟩ := isOf hZ rfl f337
    obtain ⟨_, _, ⟨T346, L346, k346, n346⟩, -, X346, ⟨Lc346, hQ346, l346, y346, z346⟩, st346⟩ := X336.virtualBack hx (y := (⟨"com/example/tresse/tresse/rwlock/Flags", "set", "(IZ)V"⟩ : MethodName)) (z := (⟨"com/example/tresse/tresse/rwlock/Flags", "set", "(IZ)V"⟩ : MethodName)) hown (mvT hZ (hw _ (List.mem_of_getElem? (i := 22) rfl))) (mvT hZ (hw _ (List.mem_of_getElem? (i := 23) rfl))) (notFace_of_selects (args := #[]) (mvT hZ (hw _ (List.mem_of_getElem? (i := 25) rfl)))) (mvT hZ (hw _ (List.mem_of_getElem? (i := 25) rfl))) (mvT hZ (hw _ (List.mem_of_getElem? (i := 24) rfl))) (by decide) (backOf (W := 0) (rm5j1 l Z a0 hw [] b324 v1 rar_326 rkk_326 (4 : Int32) (nar .boolean v0) (0 : Int32) (0 : Int32) (0 : Int32) T336.heap n0 Zs336 f338 p336_0 g_rar_326 ne_b324_rar_326 (by decide)) hZ (hw _ (List.mem_of_getElem? (i := 26) rfl)) (hw _ (List.mem_of_getElem? (i := 3) rfl)) (by decide) (by decide)) q346a q346c (g := (mkF m 64 #[.val (.int ps), .val (.int pb), .val (.int pe), .val (.int (4 : Int32)), .val (.ref b324), .val (.int (own_cnt (4 : Int32) (0 : Int32) (0 : Int32) (0 : Int32) (0 : Int32))), .unset, .unset, .unset] [(.int v1), (.int (1 : Int32)), (.ref b324)])) rfl (by rw [hml]; rfl) (Steps.refl _) (argsL := [(.int (1 : Int32)), (.int v1)]) (rest := []) (lenOf own_pd52 rfl) rfl (by show 2 * 0 + _ ≤ _; exact Nat.le_of_eq rfl) (hb hby at_64) (fun _ _ => ⟨rfl, rfl, (by decide : 2 + 0 ≤ _), (by decide : 5 + 0 ≤ _)⟩)
    dsimp only [Pt.U, Pt.locs, Pt.cells, Pt.slots] at X346 l346 y346 z346 st346 hQ346
    subst l346 y346 z346
    obtain ⟨rfl, Nq346, K346, p346_0⟩ := hQ346
    have N346 := Fr.app N336 Nq346
    have Zs346 : n0 ≤ T346.heap.size := Nat.le_trans Zs336 K346.1
    have KK346 : Keep h0 T346.heap [] := KK336.trans K346 (allS (Or.inr sz_rar_326) all0)
    have f347 := f337.keep K346
    have f348 := f338.keep K346 (ninS ne_b324_rar_326 nin0)
    have pre349 : ∀ t, Steps p.tables e below (T346.setTop (mkF m 78 #[.val (.int ps), .val (.int pb), .val (.int pe), .val (.int (4 : Int32)), .val (.ref b324), .val (.int (own_cnt (4 : Int32) (0 : Int32) (0 : Int32) (0 : Int32) (0 : Int32))), .unset, .unset, .unset] [(.int (pb &&& (4 : Int32))), (.int (2 : Int32)), (.ref b324)])) t → Steps p.tables e below G0 t := by
      intro t k
      refine pre344 t ?_
      show Steps p.tables e below (T336.setTop (mkF m 64 #[.val (.int ps), .val (.int pb), .val (.int pe), .val (.int (4 : Int32)), .val (.ref b324), .val (.int (own_cnt (4 : Int32) (0 : Int32) (0 : Int32) (0 : Int32) (0 : Int32))), .unset, .unset, .unset] [(.int v1), (.int (1 : Int32)), (.ref b324)])) _
      refine st346.trans ?_
      show Steps p.tables e below (T346.setTop (mkF m 67 #[.val (.int ps), .val (.int pb), .val (.int pe), .val (.int (4 : Int32)), .val (.ref b324), .val (.int (own_cnt (4 : Int32) (0 : Int32) (0 : Int32) (0 : Int32) (0 : Int32))), .unset, .unset, .unset] [])) _
      refine XS.iloadN X346.here hx rfl (hb hby at_67) rfl ?_
      show Steps p.tables e below (T346.setTop (mkF m 68 #[.val (.int ps), .val (.int pb), .val (.int pe), .val (.int (4 : Int32)), .val (.ref b324), .val (.int (own_cnt (4 : Int32) (0 : Int32) (0 : Int32) (0 : Int32) (0 : Int32))), .unset, .unset, .unset] [(.int (4 : Int32))])) _
      refine XS.iconst X346.here hx rfl (hb hby at_68) ?_
      show Steps p.tables e below (T346.setTop (mkF m 69 #[.val (.int ps), .val (.int pb), .val (.int pe), .val (.int (4 : Int32)), .val (.ref b324), .val (.int (own_cnt (4 : Int32) (0 : Int32) (0 : Int32) (0 : Int32) (0 : Int32))), .unset, .unset, .unset] [(.int (2 : Int32)), (.int (4 : Int32))])) _
      refine XS.icmpNo X346.here hx rfl (hb hby at_69) rfl (tlt (by decide : ((2 : Int32) < (4 : Int32)))).2.2.2 ?_
      show Steps p.tables e below (T346.setTop (mkF m 72 #[.val (.int ps), .val (.int pb), .val (.int pe), .val (.int (4 : Int32)), .val (.ref b324), .val (.int (own_cnt (4 : Int32) (0 : Int32) (0 : Int32) (0 : Int32) (0 : Int32))), .unset, .unset, .unset] [])) _
      refine XS.aload X346.here hx rfl (hb hby at_72) rfl rfl ?_
      show Steps p.tables e below (T346.setTop (mkF m 74 #[.val (.int ps), .val (.int pb), .val (.int pe), .val (.int (4 : Int32)), .val (.ref b324), .val (.int (own_cnt (4 : Int32) (0 : Int32) (0 : Int32) (0 : Int32) (0 : Int32))), .unset, .unset, .unset] [(.ref b324)])) _
      refine XS.iconst X346.here hx rfl (hb hby at_74) ?_
      show Steps p.tables e below (T346.setTop (mkF m 75 #[.val (.int ps), .val (.int pb), .val (.int pe), .val (.int (4 : Int32)), .val (.ref b324), .val (.int (own_cnt (4 : Int32) (0 : Int32) (0 : Int32) (0 : Int32) (0 : Int32))), .unset, .unset, .unset] [(.int (2 : Int32)), (.ref b324)])) _
      refine XS.iloadN X346.here hx rfl (hb hby at_75) rfl ?_
      show Steps p.tables e below (T346.setTop (mkF m 76 #[.val (.int ps), .val (.int pb), .val (.int pe), .val (.int (4 : Int32)), .val (.ref b324), .val (.int (own_cnt (4 : Int32) (0 : Int32) (0 : Int32) (0 : Int32) (0 : Int32))), .unset, .unset, .unset] [(.int pb), (.int (2 : Int32)), (.ref b324)])) _
      refine XS.iconst X346.here hx rfl (hb hby at_76) ?_
      show Steps p.tables e below (T346.setTop (mkF m 77 #[.val (.int ps), .val (.int pb), .val (.int pe), .val (.int (4 : Int32)), .val (.ref b324), .val (.int (own_cnt (4 : Int32) (0 : Int32) (0 : Int32) (0 : Int32) (0 : Int32))), .unset, .unset, .unset] [(.int (4 : Int32)), (.int pb), (.int (2 : Int32)), (.ref b324)])) _
      refine XS.iand X346.here hx rfl (hb hby at_77) rfl ?_
      exact k
    obtain ⟨v2, hv355, pre354⟩ : ∃ (v2 : Int32), (v2 = if (pb &&& 4) = 0 then 0 else 1) ∧ ∀ t, Steps p.tables e below (T346.setTop (mkF m 86 #[.val (.int ps), .val (.int pb), .val (.int pe), .val (.int (4 : Int32)), .val (.ref b324), .val (.int (own_cnt (4 : Int32) (0 : Int32) (0 : Int32) (0 : Int32) (0 : Int32))), .unset, .unset, .unset] [(.int v2), (.int (2 : Int32)), (.ref b324)])) t → Steps p.tables e below G0 t := by
      by_cases hc78_350 : (pb &&& (4 : Int32)) = (0 : Int32)
      · have pre351 : ∀ t, Steps p.tables e below (T346.setTop (mkF m 86 #[.val (.int ps), .val (.int pb), .val (.int pe), .val (.int (4 : Int32)), .val (.ref b324), .val (.int (own_cnt (4 : Int32) (0 : Int32) (0 : Int32) (0 : Int32) (0 : Int32))), .unset, .unset, .unset] [(.int (0 : Int32)), (.int (2 : Int32)), (.ref b324)])) t → Steps p.tables e below G0 t := by
          intro t k
          refine pre349 t ?_
          show Steps p.tables e below (T346.setTop (mkF m 78 #[.val (.int ps), .val (.int pb), .val (.int pe), .val (.int (4 : Int32)), .val (.ref b324), .val (.int (own_cnt (4 : Int32) (0 : Int32) (0 : Int32) (0 : Int32) (0 : Int32))), .unset, .unset, .unset] [(.int (pb &&& (4 : Int32))), (.int (2 : Int32)), (.ref b324)])) _
          refine XS.ifYes X346.here hx rfl (pc0 := 78) (pc' := 85) rfl (hb hby at_78) rfl ((if0 _ _).trans (teq hc78_350).1) (by decide) (by decide) ?_
          show Steps p.tables e below (T346.setTop (mkF m 85 #[.val (.int ps), .val (.int pb), .val (.int pe), .val (.int (4 : Int32)), .val (.ref b324), .val (.int (own_cnt (4 : Int32) (0 : Int32) (0 : Int32) (0 : Int32) (0 : Int32))), .unset, .unset, .unset] [(.int (2 : Int32)), (.ref b324)])) _
          refine XS.iconst X346.here hx rfl (hb hby at_85) ?_
          exact k
        exact ⟨(0 : Int32), (by simp [hc78_350]), pre351⟩
      · have pre352 : ∀ t, Steps p.tables e below (T346.setTop (mkF m 86 #[.val (.int ps), .val (.int pb), .val (.int pe), .val (.int (4 : Int32)), .val (.ref b324), .val (.int (own_cnt (4 : Int32) (0 : Int32) (0 : Int32) (0 : Int32) (0 : Int32))), .unset, .unset, .unset] [(.int (1 : Int32)), (.int (2 : Int32)), (.ref b324)])) t → Steps p.tables e below G0 t := by
          intro t k
          refine pre349 t ?_
          show Steps p.tables e below (T346.setTop (mkF m 78 #[.val (.int ps), .val (.int pb), .val (.int pe), .val (.int (4 : Int32)), .val (.ref b324), .val (.int (own_cnt (4 : Int32) (0 : Int32) (0 : Int32) (0 : Int32) (0 : Int32))), .unset, .unset, .unset] [(.int (pb &&& (4 : Int32))), (.int (2 : Int32)), (.ref b324)])) _
          refine XS.ifNo X346.here hx rfl (hb hby at_78) rfl ((if0 _ _).trans (feq hc78_350).1) ?_
          show Steps p.tables e below (T346.setTop (mkF m 81 #[.val (.int ps), .val (.int pb), .val (.int pe), .val (.int (4 : Int32)), .val (.ref b324), .val (.int (own_cnt (4 : Int32) (0 : Int32) (0 : Int32) (0 : Int32) (0 : Int32))), .unset, .unset, .unset] [(.int (2 : Int32)), (.ref b324)])) _
          refine XS.iconst X346.here hx rfl (hb hby at_81) ?_
          show Steps p.tables e below (T346.setTop (mkF m 82 #[.val (.int ps), .val (.int pb), .val (.int pe), .val (.int (4 : Int32)), .val (.ref b324), .val (.int (own_cnt (4 : Int32) (0 : Int32) (0 : Int32) (0 : Int32) (0 : Int32))), .unset, .unset, .unset] [(.int (1 : Int32)), (.int (2 : Int32)), (.ref b324)])) _
          refine XS.goto X346.here hx rfl (pc0 := 82) (pc' := 86) rfl (hb hby at_82) (by decide) (by decide) ?_
          exact k
        exact ⟨(1 : Int32), (by simp [hc78_350]), pre352⟩
    obtain ⟨cq356, kq356, q356a, q356b, q356c⟩ := isOf hZ rfl f347
    obtain ⟨_, _, ⟨T356, L356, k356, n356⟩, -, X356, ⟨Lc356, hQ356, l356, y356, z356⟩, st356⟩ := X346.virtualBack hx (y := (⟨"com/example/tresse/tresse/rwlock/Flags", "set", "(IZ)V"⟩ : MethodName)) (z := (⟨"com/example/tresse/tresse/rwlock/Flags", "set", "(IZ)V"⟩ : MethodName)) hown (mvT hZ (hw _ (List.mem_of_getElem? (i := 22) rfl))) (mvT hZ (hw _ (List.mem_of_getElem? (i := 23) rfl))) (notFace_of_selects (args := #[]) (mvT hZ (hw _ (List.mem_of_getElem? (i := 25) rfl)))) (mvT hZ (hw _ (List.mem_of_getElem? (i := 25) rfl))) (mvT hZ (hw _ (List.mem_of_getElem? (i := 24) rfl))) (by decide) (backOf (W := 0) (rm5j2 l Z a0 hw [] b324 v2 rar_326 rkk_326 (4 : Int32) (nar .boolean v0) (nar .boolean v1) (0 : Int32) (0 : Int32) T346.heap n0 Zs346 f348 p346_0 g_rar_326 ne_b324_rar_326 (by decide)) hZ (hw _ (List.mem_of_getElem? (i := 26) rfl)) (hw _ (List.mem_of_getElem? (i := 3) rfl)) (by decide) (by decide)) q356a q356c (g := (mkF m 86 #[.val (.int ps), .val (.int pb), .val (.int pe), .val (.int (4 : Int32)), .val (.ref b324), .val (.int (own_cnt (4 : Int32) (0 : Int32) (0 : Int32) (0 : Int32) (0 : Int32))), .unset, .unset, .unset] [(.int v2), (.int (2 : Int32)), (.ref b324)])) rfl (by rw [hml]; rfl) (Steps.refl _) (argsL := [(.int (2 : Int32)), (.int v2)]) (rest := []) (lenOf own_pd52 rfl) rfl (by show 2 * 0 + _ ≤ _; exact Nat.le_of_eq rfl) (hb hby at_86) (fun _ _ => ⟨rfl, rfl, (by decide : 2 + 0 ≤ _), (by decide : 5 + 0 ≤ _)⟩)
    dsimp only [Pt.U, Pt.locs, Pt.cells, Pt.slots] at X356 l356 y356 z356 st356 hQ356
    subst l356 y356 z356
    obtain ⟨rfl, Nq356, K356, p356_0⟩ := hQ356
    have N356 := Fr.app N346 Nq356
    have Zs356 : n0 ≤ T356.heap.size := Nat.le_trans Zs346 K356.1
    have KK356 : Keep h0 T356.heap [] := KK346.trans K356 (allS (Or.inr sz_rar_326) all0)
    have f357 := f347.keep K356
    have f358 := f348.keep K356 (ninS ne_b324_rar_326 nin0)
    have pre359 : ∀ t, Steps p.tables e below (T356.setTop (mkF m 101 #[.val (.int ps), .val (.int pb), .val (.int pe), .val (.int (4 : Int32)), .val (.ref b324), .val (.int (own_cnt (4 : Int32) (0 : Int32) (0 : Int32) (0 : Int32) (0 : Int32))), .unset, .unset, .unset] [(.int (pb &&& (8 : Int32))), (.int (3 : Int32)), (.ref b324)])) t → Steps p.tables e below G0 t := by
      intro t k
      refine pre354 t ?_
      show Steps p.tables e below (T346.setTop (mkF m 86 #[.val (.int ps), .val (.int pb), .val (.int pe), .val (.int (4 : Int32)), .val (.ref b324), .val (.int (own_cnt (4 : Int32) (0 : Int32) (0 : Int32) (0 : Int32) (0 : Int32))), .unset, .unset, .unset] [(.int v2), (.int (2 : Int32)), (.ref b324)])) _
      refine st356.trans ?_
      show Steps p.tables e below (T356.setTop (mkF m 89 #[.val (.int ps), .val (.int pb), .val (.int pe), .val (.int (4 : Int32)), .val (.ref b324), .val (.int (own_cnt (4 : Int32) (0 : Int32) (0 : Int32) (0 : Int32) (0 : Int32))), .unset, .unset, .unset] [])) _
      refine XS.iloadN X356.here hx rfl (hb hby at_89) rfl ?_
      show Steps p.tables e below (T356.setTop (mkF m 90 #[.val (.int ps), .val (.int pb), .val (.int pe), .val (.int (4 : Int32)), .val (.ref b324), .val (.int (own_cnt (4 : Int32) (0 : Int32) (0 : Int32) (0 : Int32) (0 : Int32))), .unset, .unset, .unset] [(.int (4 : Int32))])) _
      refine XS.iconst X356.here hx rfl (hb hby at_90) ?_
      show Steps p.tables e below (T356.setTop (mkF m 91 #[.val (.int ps), .val (.int pb), .val (.int pe), .val (.int (4 : Int32)), .val (.ref b324), .val (.int (own_cnt (4 : Int32) (0 : Int32) (0 : Int32) (0 : Int32) (0 : Int32))), .unset, .unset, .unset] [(.int (3 : Int32)), (.int (4 : Int32))])) _
      refine XS.icmpNo X356.here hx rfl (hb hby at_91) rfl (tlt (by decide : ((3 : Int32) < (4 : Int32)))).2.2.2 ?_
      show Steps p.tables e below (T356.setTop (mkF m 94 #[.val (.int ps), .val (.int pb), .val (.int pe), .val (.int (4 : Int32)), .val (.ref b324), .val (.int (own_cnt (4 : Int32) (0 : Int32) (0 : Int32) (0 : Int32) (0 : Int32))), .unset, .unset, .unset] [])) _
      refine XS.aload X356.here hx rfl (hb hby at_94) rfl rfl ?_
      show Steps p.tables e below (T356.setTop (mkF m 96 #[.val (.int ps), .val (.int pb), .val (.int pe), .val (.int (4 : Int32)), .val (.ref b324), .val (.int (own_cnt (4 : Int32) (0 : Int32) (0 : Int32) (0 : Int32) (0 : Int32))), .unset, .unset, .unset] [(.ref b324)])) _
      refine XS.iconst X356.here hx rfl (hb hby at_96) ?_
      show Steps p.tables e below (T356.setTop (mkF m 97 #[.val (.int ps), .val (.int pb), .val (.int pe), .val (.int (4 : Int32)), .val (.ref b324), .val (.int (own_cnt (4 : Int32) (0 : Int32) (0 : Int32) (0 : Int32) (0 : Int32))), .unset, .unset, .unset] [(.int (3 : Int32)), (.ref b324)])) _
      refine XS.iloadN X356.here hx rfl (hb hby at_97) rfl ?_
      show Steps p.tables e below (T356.setTop (mkF m 98 #[.val (.int ps), .val (.int pb), .val (.int pe), .val (.int (4 : Int32)), .val (.ref b324), .val (.int (own_cnt (4 : Int32) (0 : Int32) (0 : Int32) (0 : Int32) (0 : Int32))), .unset, .unset, .unset] [(.int pb), (.int (3 : Int32)), (.ref b324)])) _
      refine XS.bipush X356.here hx rfl (hb hby at_98) ?_
      show Steps p.tables e below (T356.setTop (mkF m 100 #[.val (.int ps), .val (.int pb), .val (.int pe), .val (.int (4 : Int32)), .val (.ref b324), .val (.int (own_cnt (4 : Int32) (0 : Int32) (0 : Int32) (0 : Int32) (0 : Int32))), .unset, .unset, .unset] [(.int (8 : Int32)), (.int pb), (.int (3 : Int32)), (.ref b324)])) _
      refine XS.iand X356.here hx rfl (hb hby at_100) rfl ?_
      exact k
    obtain ⟨v3, hv365, pre364⟩ : ∃ (v3 : Int32), (v3 = if (pb &&& 8) = 0 then 0 else 1) ∧ ∀ t, Steps p.tables e below (T356.setTop (mkF m 109 #[.val (.int ps), .val (.int pb), .val (.int pe), .val (.int (4 : Int32)), .val (.ref b324), .val (.int (own_cnt (4 : Int32) (0 : Int32) (0 : Int32) (0 : Int32) (0 : Int32))), .unset, .unset, .unset] [(.int v3), (.int (3 : Int32)), (.ref b324)])) t → Steps p.tables e below G0 t := by
      by_cases hc101_360 : (pb &&& (8 : Int32)) = (0 : Int32)
      · have pre361 : ∀ t, Steps p.tables e below (T356.setTop (mkF m 109 #[.val (.int ps), .val (.int pb), .val (.int pe), .val (.int (4 : Int32)), .val (.ref b324), .val (.int (own_cnt (4 : Int32) (0 : Int32) (0 : Int32) (0 : Int32) (0 : Int32))), .unset, .unset, .unset] [(.int (0 : Int32)), (.int (3 : Int32)), (.ref b324)])) t → Steps p.tables e below G0 t := by
          intro t k
          refine pre359 t ?_
          show Steps p.tables e below (T356.setTop (mkF m 101 #[.val (.int ps), .val (.int pb), .val (.int pe), .val (.int (4 : Int32)), .val (.ref b324), .val (.int (own_cnt (4 : Int32) (0 : Int32) (0 : Int32) (0 : Int32) (0 : Int32))), .unset, .unset, .unset] [(.int (pb &&& (8 : Int32))), (.int (3 : Int32)), (.ref b324)])) _
          refine XS.ifYes X356.here hx rfl (pc0 := 101) (pc' := 108) rfl (hb hby at_101) rfl ((if0 _ _).trans (teq hc101_360).1) (by decide) (by decide) ?_
          show Steps p.tables e below (T356.setTop (mkF m 108 #[.val (.int ps), .val (.int pb), .val (.int pe), .val (.int (4 : Int32)), .val (.ref b324), .val (.int (own_cnt (4 : Int32) (0 : Int32) (0 : Int32) (0 : Int32) (0 : Int32))), .unset, .unset, .unset] [(.int (3 : Int32)), (.ref b324)])) _
          refine XS.iconst X356.here hx rfl (hb hby at_108) ?_
          exact k
        exact ⟨(0 : Int32), (by simp [hc101_360]), pre361⟩
      · have pre362 : ∀ t, Steps p.tables e below (T356.setTop (mkF m 109 #[.val (.int ps), .val (.int pb), .val (.int pe), .val (.int (4 : Int32)), .val (.ref b324), .val (.int (own_cnt (4 : Int32) (0 : Int32) (0 : Int32) (0 : Int32) (0 : Int32))), .unset, .unset, .unset] [(.int (1 : Int32)), (.int (3 : Int32)), (.ref b324)])) t → Steps p.tables e below G0 t := by
          intro t k
          refine pre359 t ?_
          show Steps p.tables e below (T356.setTop (mkF m 101 #[.val (.int ps), .val (.int pb), .val (.int pe), .val (.int (4 : Int32)), .val (.ref b324), .val (.int (own_cnt (4 : Int32) (0 : Int32) (0 : Int32) (0 : Int32) (0 : Int32))), .unset, .unset, .unset] [(.int (pb &&& (8 : Int32))), (.int (3 : Int32)), (.ref b324)])) _
          refine XS.ifNo X356.here hx rfl (hb hby at_101) rfl ((if0 _ _).trans (feq hc101_360).1) ?_
          show Steps p.tables e below (T356.setTop (mkF m 104 #[.val (.int ps), .val (.int pb), .val (.int pe), .val (.int (4 : Int32)), .val (.ref b324), .val (.int (own_cnt (4 : Int32) (0 : Int32) (0 : Int32) (0 : Int32) (0 : Int32))), .unset, .unset, .unset] [(.int (3 : Int32)), (.ref b324)])) _
          refine XS.iconst X356.here hx rfl (hb hby at_104) ?_
          show Steps p.tables e below (T356.setTop (mkF m 105 #[.val (.int ps), .val (.int pb), .val (.int pe), .val (.int (4 : Int32)), .val (.ref b324), .val (.int (own_cnt (4 : Int32) (0 : Int32) (0 : Int32) (0 : Int32) (0 : Int32))), .unset, .unset, .unset] [(.int (1 : Int32)), (.int (3 : Int32)), (.ref b324)])) _
          refine XS.goto X356.here hx rfl (pc0 := 105) (pc' := 109) rfl (hb hby at_105) (by decide) (by decide) ?_
          exact k
        exact ⟨(1 : Int32), (by simp [hc101_360]), pre362⟩
    obtain ⟨cq366, kq366, q366a, q366b, q366c⟩ := isOf hZ rfl f357
    obtain ⟨_, _, ⟨T366, L366, k366, n366⟩, -, X366, ⟨Lc366, hQ366, l366, y366, z366⟩, st366⟩ := X356.virtualBack hx (y := (⟨"com/example/tresse/tresse/rwlock/Flags", "set", "(IZ)V"⟩ : MethodName)) (z := (⟨"com/example/tresse/tresse/rwlock/Flags", "set", "(IZ)V"⟩ : MethodName)) hown (mvT hZ (hw _ (List.mem_of_getElem? (i := 22) rfl))) (mvT hZ (hw _ (List.mem_of_getElem? (i := 23) rfl))) (notFace_of_selects (args := #[]) (mvT hZ (hw _ (List.mem_of_getElem? (i := 25) rfl)))) (mvT hZ (hw _ (List.mem_of_getElem? (i := 25) rfl))) (mvT hZ (hw _ (List.mem_of_getElem? (i := 24) rfl))) (by decide) (backOf (W := 0) (rm5j3 l Z a0 hw [] b324 v3 rar_326 rkk_326 (4 : Int32) (nar .boolean v0) (nar .boolean v1) (nar .boolean v2) (0 : Int32) T356.heap n0 Zs356 f358 p356_0 g_rar_326 ne_b324_rar_326 (by decide)) hZ (hw _ (List.mem_of_getElem? (i := 26) rfl)) (hw _ (List.mem_of_getElem? (i := 3) rfl)) (by decide) (by decide)) q366a q366c (g := (mkF m 109 #[.val (.int ps), .val (.int pb), .val (.int pe), .val (.int (4 : Int32)), .val (.ref b324), .val (.int (own_cnt (4 : Int32) (0 : Int32) (0 : Int32) (0 : Int32) (0 : Int32))), .unset, .unset, .unset] [(.int v3), (.int (3 : Int32)), (.ref b324)])) rfl (by rw [hml]; rfl) (Steps.refl _) (argsL := [(.int (3 : Int32)), (.int v3)]) (rest := []) (lenOf own_pd52 rfl) rfl (by show 2 * 0 + _ ≤ _; exact Nat.le_of_eq rfl) (hb hby at_109) (fun _ _ => ⟨rfl, rfl, (by decide : 2 + 0 ≤ _), (by decide : 5 + 0 ≤ _)⟩)
    dsimp only [Pt.U, Pt.locs, Pt.cells, Pt.slots] at X366 l366 y366 z366 st366 hQ366
    subst l366 y366 z366
    obtain ⟨rfl, Nq366, K366, p366_0⟩ := hQ366
    have N366 := Fr.app N356 Nq366
    have Zs366 : n0 ≤ T366.heap.size := Nat.le_trans Zs356 K366.1
    have KK366 : Keep h0 T366.heap [] := KK356.trans K366 (allS (Or.inr sz_rar_326) all0)
    have f367 := f357.keep K366
    have f368 := f358.keep K366 (ninS ne_b324_rar_326 nin0)
    have pre369 : ∀ t, Steps p.tables e below (T366.setTop (mkF m 132 #[.val (.int ps), .val (.int pb), .val (.int pe), .val (.int (4 : Int32)), .val (.ref b324), .val (.int (own_cnt (4 : Int32) (0 : Int32) (0 : Int32) (0 : Int32) (0 : Int32))), .val (.int (pb &&& (((1 : Int32) <<< ((4 : Int32) &&& 31)) - (1 : Int32)))), .val (.int ((pe &&& (3 : Int32)) % (4 : Int32))), .unset] [])) t → Steps p.tables e below G0 t := by
      intro t k
      refine pre364 t ?_
      show Steps p.tables e below (T356.setTop (mkF m 109 #[.val (.int ps), .val (.int pb), .val (.int pe), .val (.int (4 : Int32)), .val (.ref b324), .val (.int (own_cnt (4 : Int32) (0 : Int32) (0 : Int32) (0 : Int32) (0 : Int32))), .unset, .unset, .unset] [(.int v3), (.int (3 : Int32)), (.ref b324)])) _
      refine st366.trans ?_
      show Steps p.tables e below (T366.setTop (mkF m 112 #[.val (.int ps), .val (.int pb), .val (.int pe), .val (.int (4 : Int32)), .val (.ref b324), .val (.int (own_cnt (4 : Int32) (0 : Int32) (0 : Int32) (0 : Int32) (0 : Int32))), .unset, .unset, .unset] [])) _
      refine XS.iloadN X366.here hx rfl (hb hby at_112) rfl ?_
      show Steps p.tables e below (T366.setTop (mkF m 113 #[.val (.int ps), .val (.int pb), .val (.int pe), .val (.int (4 : Int32)), .val (.ref b324), .val (.int (own_cnt (4 : Int32) (0 : Int32) (0 : Int32) (0 : Int32) (0 : Int32))), .unset, .unset, .unset] [(.int pb)])) _
      refine XS.iconst X366.here hx rfl (hb hby at_113) ?_
      show Steps p.tables e below (T366.setTop (mkF m 114 #[.val (.int ps), .val (.int pb), .val (.int pe), .val (.int (4 : Int32)), .val (.ref b324), .val (.int (own_cnt (4 : Int32) (0 : Int32) (0 : Int32) (0 : Int32) (0 : Int32))), .unset, .unset, .unset] [(.int (1 : Int32)), (.int pb)])) _
      refine XS.iloadN X366.here hx rfl (hb hby at_114) rfl ?_
      show Steps p.tables e below (T366.setTop (mkF m 115 #[.val (.int ps), .val (.int pb), .val (.int pe), .val (.int (4 : Int32)), .val (.ref b324), .val (.int (own_cnt (4 : Int32) (0 : Int32) (0 : Int32) (0 : Int32) (0 : Int32))), .unset, .unset, .unset] [(.int (4 : Int32)), (.int (1 : Int32)), (.int pb)])) _
      refine XS.ishl X366.here hx rfl (hb hby at_115) rfl ?_
      show Steps p.tables e below (T366.setTop (mkF m 116 #[.val (.int ps), .val (.int pb), .val (.int pe), .val (.int (4 : Int32)), .val (.ref b324), .val (.int (own_cnt (4 : Int32) (0 : Int32) (0 : Int32) (0 : Int32) (0 : Int32))), .unset, .unset, .unset] [(.int ((1 : Int32) <<< ((4 : Int32) &&& 31))), (.int pb)])) _
      refine XS.iconst X366.here hx rfl (hb hby at_116) ?_
      show Steps p.tables e below (T366.setTop (mkF m 117 #[.val (.int ps), .val (.int pb), .val (.int pe), .val (.int (4 : Int32)), .val (.ref b324), .val (.int (own_cnt (4 : Int32) (0 : Int32) (0 : Int32) (0 : Int32) (0 : Int32))), .unset, .unset, .unset] [(.int (1 : Int32)), (.int ((1 : Int32) <<< ((4 : Int32) &&& 31))), (.int pb)])) _
      refine XS.isub X366.here hx rfl (hb hby at_117) rfl ?_
      show Steps p.tables e below (T366.setTop (mkF m 118 #[.val (.int ps), .val (.int pb), .val (.int pe), .val (.int (4 : Int32)), .val (.ref b324), .val (.int (own_cnt (4 : Int32) (0 : Int32) (0 : Int32) (0 : Int32) (0 : Int32))), .unset, .unset, .unset] [(.int (((1 : Int32) <<< ((4 : Int32) &&& 31)) - (1 : Int32))), (.int pb)])) _
      refine XS.iand X366.here hx rfl (hb hby at_118) rfl ?_
      show Steps p.tables e below (T366.setTop (mkF m 119 #[.val (.int ps), .val (.int pb), .val (.int pe), .val (.int (4 : Int32)), .val (.ref b324), .val (.int (own_cnt (4 : Int32) (0 : Int32) (0 : Int32) (0 : Int32) (0 : Int32))), .unset, .unset, .unset] [(.int (pb &&& (((1 : Int32) <<< ((4 : Int32) &&& 31)) - (1 : Int32))))])) _
      refine XS.istore X366.here hx rfl (hb hby at_119) rfl (l' := #[.val (.int ps), .val (.int pb), .val (.int pe), .val (.int (4 : Int32)), .val (.ref b324), .val (.int (own_cnt (4 : Int32) (0 : Int32) (0 : Int32) (0 : Int32) (0 : Int32))), .val (.int (pb &&& (((1 : Int32) <<< ((4 : Int32) &&& 31)) - (1 : Int32)))), .unset, .unset]) rfl ?_
      show Steps p.tables e below (T366.setTop (mkF m 121 #[.val (.int ps), .val (.int pb), .val (.int pe), .val (.int (4 : Int32)), .val (.ref b324), .val (.int (own_cnt (4 : Int32) (0 : Int32) (0 : Int32) (0 : Int32) (0 : Int32))), .val (.int (pb &&& (((1 : Int32) <<< ((4 : Int32) &&& 31)) - (1 : Int32)))), .unset, .unset] [])) _
      refine XS.iloadN X366.here hx rfl (hb hby at_121) rfl ?_
      show Steps p.tables e below (T366.setTop (mkF m 122 #[.val (.int ps), .val (.int pb), .val (.int pe), .val (.int (4 : Int32)), .val (.ref b324), .val (.int (own_cnt (4 : Int32) (0 : Int32) (0 : Int32) (0 : Int32) (0 : Int32))), .val (.int (pb &&& (((1 : Int32) <<< ((4 : Int32) &&& 31)) - (1 : Int32)))), .unset, .unset] [(.int (4 : Int32))])) _
      refine XS.ifNo X366.here hx rfl (hb hby at_122) rfl ((if0 _ _).trans (tlt (by decide : ((0 : Int32) < (4 : Int32)))).2.2.2) ?_
      show Steps p.tables e below (T366.setTop (mkF m 125 #[.val (.int ps), .val (.int pb), .val (.int pe), .val (.int (4 : Int32)), .val (.ref b324), .val (.int (own_cnt (4 : Int32) (0 : Int32) (0 : Int32) (0 : Int32) (0 : Int32))), .val (.int (pb &&& (((1 : Int32) <<< ((4 : Int32) &&& 31)) - (1 : Int32)))), .unset, .unset] [])) _
      refine XS.iloadN X366.here hx rfl (hb hby at_125) rfl ?_
      show Steps p.tables e below (T366.setTop (mkF m 126 #[.val (.int ps), .val (.int pb), .val (.int pe), .val (.int (4 : Int32)), .val (.ref b324), .val (.int (own_cnt (4 : Int32) (0 : Int32) (0 : Int32) (0 : Int32) (0 : Int32))), .val (.int (pb &&& (((1 : Int32) <<< ((4 : Int32) &&& 31)) - (1 : Int32)))), .unset, .unset] [(.int pe)])) _
      refine XS.iconst X366.here hx rfl (hb hby at_126) ?_
      show Steps p.tables e below (T366.setTop (mkF m 127 #[.val (.int ps), .val (.int pb), .val (.int pe), .val (.int (4 : Int32)), .val (.ref b324), .val (.int (own_cnt (4 : Int32) (0 : Int32) (0 : Int32) (0 : Int32) (0 : Int32))), .val (.int (pb &&& (((1 : Int32) <<< ((4 : Int32) &&& 31)) - (1 : Int32)))), .unset, .unset] [(.int (3 : Int32)), (.int pe)])) _
      refine XS.iand X366.here hx rfl (hb hby at_127) rfl ?_
      show Steps p.tables e below (T366.setTop (mkF m 128 #[.val (.int ps), .val (.int pb), .val (.int pe), .val (.int (4 : Int32)), .val (.ref b324), .val (.int (own_cnt (4 : Int32) (0 : Int32) (0 : Int32) (0 : Int32) (0 : Int32))), .val (.int (pb &&& (((1 : Int32) <<< ((4 : Int32) &&& 31)) - (1 : Int32)))), .unset, .unset] [(.int (pe &&& (3 : Int32)))])) _
      refine XS.iloadN X366.here hx rfl (hb hby at_128) rfl ?_
      show Steps p.tables e below (T366.setTop (mkF m 129 #[.val (.int ps), .val (.int pb), .val (.int pe), .val (.int (4 : Int32)), .val (.ref b324), .val (.int (own_cnt (4 : Int32) (0 : Int32) (0 : Int32) (0 : Int32) (0 : Int32))), .val (.int (pb &&& (((1 : Int32) <<< ((4 : Int32) &&& 31)) - (1 : Int32)))), .unset, .unset] [(.int (4 : Int32)), (.int (pe &&& (3 : Int32)))])) _
      refine iremM X366 hx rfl (hb hby at_129) rfl (by decide) ?_
      show Steps p.tables e below (T366.setTop (mkF m 130 #[.val (.int ps), .val (.int pb), .val (.int pe), .val (.int (4 : Int32)), .val (.ref b324), .val (.int (own_cnt (4 : Int32) (0 : Int32) (0 : Int32) (0 : Int32) (0 : Int32))), .val (.int (pb &&& (((1 : Int32) <<< ((4 : Int32) &&& 31)) - (1 : Int32)))), .unset, .unset] [(.int ((pe &&& (3 : Int32)) % (4 : Int32)))])) _
      refine XS.istore X366.here hx rfl (hb hby at_130) rfl (l' := #[.val (.int ps), .val (.int pb), .val (.int pe), .val (.int (4 : Int32)), .val (.ref b324), .val (.int (own_cnt (4 : Int32) (0 : Int32) (0 : Int32) (0 : Int32) (0 : Int32))), .val (.int (pb &&& (((1 : Int32) <<< ((4 : Int32) &&& 31)) - (1 : Int32)))), .val (.int ((pe &&& (3 : Int32)) % (4 : Int32))), .unset]) rfl ?_
      exact k
    obtain ⟨vz, hv376, pre375⟩ : ∃ (vz : Int32), (vz = 0 ∨ vz = 1) ∧ ∀ t, Steps p.tables e below (T366.setTop (mkF m 143 #[.val (.int ps), .val (.int pb), .val (.int pe), .val (.int (4 : Int32)), .val (.ref b324), .val (.int (own_cnt (4 : Int32) (0 : Int32) (0 : Int32) (0 : Int32) (0 : Int32))), .val (.int (pb &&& (((1 : Int32) <<< ((4 : Int32) &&& 31)) - (1 : Int32)))), .val (.int ((pe &&& (3 : Int32)) % (4 : Int32))), .unset] [(.int vz)])) t → Steps p.tables e below G0 t := by
      have pre370 : ∀ t, Steps p.tables e below (T366.setTop (mkF m 135 #[.val (.int ps), .val (.int pb), .val (.int pe), .val (.int (4 : Int32)), .val (.ref b324), .val (.int (own_cnt (4 : Int32) (0 : Int32) (0 : Int32) (0 : Int32) (0 : Int32))), .val (.int (pb &&& (((1 : Int32) <<< ((4 : Int32) &&& 31)) - (1 : Int32)))), .val (.int ((pe &&& (3 : Int32)) % (4 : Int32))), .unset] [(.int (pe &&& (4 : Int32)))])) t → Steps p.tables e below G0 t := by
        intro t k
        refine pre369 t ?_
        show Steps p.tables e below (T366.setTop (mkF m 132 #[.val (.int ps), .val (.int pb), .val (.int pe), .val (.int (4 : Int32)), .val (.ref b324), .val (.int (own_cnt (4 : Int32) (0 : Int32) (0 : Int32) (0 : Int32) (0 : Int32))), .val (.int (pb &&& (((1 : Int32) <<< ((4 : Int32) &&& 31)) - (1 : Int32)))), .val (.int ((pe &&& (3 : Int32)) % (4 : Int32))), .unset] [])) _
        refine XS.iloadN X366.here hx rfl (hb hby at_132) rfl ?_
        show Steps p.tables e below (T366.setTop (mkF m 133 #[.val (.int ps), .val (.int pb), .val (.int pe), .val (.int (4 : Int32)), .val (.ref b324), .val (.int (own_cnt (4 : Int32) (0 : Int32) (0 : Int32) (0 : Int32) (0 : Int32))), .val (.int (pb &&& (((1 : Int32) <<< ((4 : Int32) &&& 31)) - (1 : Int32)))), .val (.int ((pe &&& (3 : Int32)) % (4 : Int32))), .unset] [(.int pe)])) _
        refine XS.iconst X366.here hx rfl (hb hby at_133) ?_
        show Steps p.tables e below (T366.setTop (mkF m 134 #[.val (.int ps), .val (.int pb), .val (.int pe), .val (.int (4 : Int32)), .val (.ref b324), .val (.int (own_cnt (4 : Int32) (0 : Int32) (0 : Int32) (0 : Int32) (0 : Int32))), .val (.int (pb &&& (((1 : Int32) <<< ((4 : Int32) &&& 31)) - (1 : Int32)))), .val (.int ((pe &&& (3 : Int32)) % (4 : Int32))), .unset] [(.int (4 : Int32)), (.int pe)])) _
        refine XS.iand X366.here hx rfl (hb hby at_134) rfl ?_
        exact k
      by_cases hc135_371 : (pe &&& (4 : Int32)) = (0 : Int32)
      · have pre372 : ∀ t, Steps p.tables e below (T366.setTop (mkF m 143 #[.val (.int ps), .val (.int pb), .val (.int pe), .val (.int (4 : Int32)), .val (.ref b324), .val (.int (own_cnt (4 : Int32) (0 : Int32) (0 : Int32) (0 : Int32) (0 : Int32))), .val (.int (pb &&& (((1 : Int32) <<< ((4 : Int32) &&& 31)) - (1 : Int32)))), .val (.int ((pe &&& (3 : Int32)) % (4 : Int32))), .unset] [(.int (0 : Int32))])) t → Steps p.tables e below G0 t := by
          intro t k
          refine pre370 t ?_
          show Steps p.tables e below (T366.setTop (mkF m 135 #[.val (.int ps), .val (.int pb), .val (.int pe), .val (.int (4 : Int32)), .val (.ref b324), .val (.int (own_cnt (4 : Int32) (0 : Int32) (0 : Int32) (0 : Int32) (0 : Int32))), .val (.int (pb &&& (((1 : Int32) <<< ((4 : Int32) &&& 31)) - (1 : Int32)))), .val (.int ((pe &&& (3 : Int32)) % (4 : Int32))), .unset] [(.int (pe &&& (4 : Int32)))])) _
          refine XS.ifYes X366.here hx rfl (pc0 := 135) (pc' := 142) rfl (hb hby at_135) rfl ((if0 _ _).trans (teq hc135_371).1) (by decide) (by decide) ?_
          show Steps p.tables e below (T366.setTop (mkF m 142 #[.val (.int ps), .val (.int pb), .val (.int pe), .val (.int (4 : Int32)), .val (.ref b324), .val (.int (own_cnt (4 : Int32) (0 : Int32) (0 : Int32) (0 : Int32) (0 : Int32))), .val (.int (pb &&& (((1 : Int32) <<< ((4 : Int32) &&& 31)) - (1 : Int32)))), .val (.int ((pe &&& (3 : Int32)) % (4 : Int32))), .unset] [])) _
          refine XS.iconst X366.here hx rfl (hb hby at_142) ?_
          exact k
        exact ⟨(0 : Int32), (by simp), pre372⟩
      · have pre373 : ∀ t, Steps p.tables e below (T366.setTop (mkF m 143 #[.val (.int ps), .val (.int pb), .val (.int pe), .val (.int (4 : Int32)), .val (.ref b324), .val (.int (own_cnt (4 : Int32) (0 : Int32) (0 : Int32) (0 : Int32) (0 : Int32))), .val (.int (pb &&& (((1 : Int32) <<< ((4 : Int32) &&& 31)) - (1 : Int32)))), .val (.int ((pe &&& (3 : Int32)) % (4 : Int32))), .unset] [(.int (1 : Int32))])) t → Steps p.tables e below G0 t := by
          intro t k
          refine pre370 t ?_
          show Steps p.tables e below (T366.setTop (mkF m 135 #[.val (.int ps), .val (.int pb), .val (.int pe), .val (.int (4 : Int32)), .val (.ref b324), .val (.int (own_cnt (4 : Int32) (0 : Int32) (0 : Int32) (0 : Int32) (0 : Int32))), .val (.int (pb &&& (((1 : Int32) <<< ((4 : Int32) &&& 31)) - (1 : Int32)))), .val (.int ((pe &&& (3 : Int32)) % (4 : Int32))), .unset] [(.int (pe &&& (4 : Int32)))])) _
          refine XS.ifNo X366.here hx rfl (hb hby at_135) rfl ((if0 _ _).trans (feq hc135_371).1) ?_
          show Steps p.tables e below (T366.setTop (mkF m 138 #[.val (.int ps), .val (.int pb), .val (.int pe), .val (.int (4 : Int32)), .val (.ref b324), .val (.int (own_cnt (4 : Int32) (0 : Int32) (0 : Int32) (0 : Int32) (0 : Int32))), .val (.int (pb &&& (((1 : Int32) <<< ((4 : Int32) &&& 31)) - (1 : Int32)))), .val (.int ((pe &&& (3 : Int32)) % (4 : Int32))), .unset] [])) _
          refine XS.iconst X366.here hx rfl (hb hby at_138) ?_
          show Steps p.tables e below (T366.setTop (mkF m 139 #[.val (.int ps), .val (.int pb), .val (.int pe), .val (.int (4 : Int32)), .val (.ref b324), .val (.int (own_cnt (4 : Int32) (0 : Int32) (0 : Int32) (0 : Int32) (0 : Int32))), .val (.int (pb &&& (((1 : Int32) <<< ((4 : Int32) &&& 31)) - (1 : Int32)))), .val (.int ((pe &&& (3 : Int32)) % (4 : Int32))), .unset] [(.int (1 : Int32))])) _
          refine XS.goto X366.here hx rfl (pc0 := 139) (pc' := 143) rfl (hb hby at_139) (by decide) (by decide) ?_
          exact k
        exact ⟨(1 : Int32), (by simp), pre373⟩
    obtain ⟨Tm397, hm397, lm397, kv, ee0, ee1, ee2, ee3, Xm397, em397, Nm397, Zm397, Km397, f398, f399, f400, hv402, pre401⟩ : ∃ (Tm397 : State) (hm397 : Heap) (lm397 : List Loc) (kv : Int32) (ee0 : Int32) (ee1 : Int32) (ee2 : Int32) (ee3 : Int32), Stand p l e room_1 s m #[(.int ps), (.int pb), (.int pe)] below meth c Tm397 lm397 2 5 ∧ Tm397.heap = hm397 ∧ Fr n0 lm397 ∧ n0 ≤ hm397.size ∧ Keep h0 hm397 [] ∧ Exa Z hm397 b324 "com/example/tresse/tresse/rwlock/Flags" ∧ Fld Z hm397 b324 "com/example/tresse/tresse/rwlock/Flags" "values" "[Z" (.ref rar_326) ∧ Arv Z hm397 rar_326 rkk_326 .boolean (4 : Int32) [(.int ee0), (.int ee1), (.int ee2), (.int ee3)] (.int (0 : Int32)) ∧ ((kv = 0 ∧ ee0 = (nar .boolean vz) ∧ ee1 = (nar .boolean v1) ∧ ee2 = (nar .boolean v2) ∧ ee3 = (nar .boolean v3)) ∨ (kv = 1 ∧ ee0 = (nar .boolean v0) ∧ ee1 = (nar .boolean vz) ∧ ee2 = (nar .boolean v2) ∧ ee3 = (nar .boolean v3)) ∨ (kv = 2 ∧ ee0 = (nar .boolean v0) ∧ ee1 = (nar .boolean v1) ∧ ee2 = (nar .boolean vz) ∧ ee3 = (nar .boolean v3)) ∨ (kv = 3 ∧ ee0 = (nar .boolean v0) ∧ ee1 = (nar .boolean v1) ∧ ee2 = (nar .boolean v2) ∧ ee3 = (nar .boolean vz))) ∧ ∀ t, Steps p.tables e below (Tm397.setTop (mkF m 154 #[.val (.int ps), .val (.int pb), .val (.int pe), .val (.int (4 : Int32)), .val (.ref b324), .val (.int (own_cnt (4 : Int32) (0 : Int32) (0 : Int32) (0 : Int32) (0 : Int32))), .val (.int (pb &&& (((1 : Int32) <<< ((4 : Int32) &&& 31)) - (1 : Int32)))), .val (.int kv), .val (.int vz)] [])) t → Steps p.tables e below G0 t := by
      rcases own_k4 pe with hq377 | hq378 | hq379 | hq380
      · rw [hq377] at pre375
        obtain ⟨cq381, kq381, q381a, q381b, q381c⟩ := isOf hZ rfl f367
        obtain ⟨_, _, ⟨T381, L381, k381, n381⟩, -, X381, ⟨Lc381, hQ381, l381, y381, z381⟩, st381⟩ := X366.virtualBack hx (y := (⟨"com/example/tresse/tresse/rwlock/Flags", "set", "(IZ)V"⟩ : MethodName)) (z := (⟨"com/example/tresse/tresse/rwlock/Flags", "set", "(IZ)V"⟩ : MethodName)) hown (mvT hZ (hw _ (List.mem_of_getElem? (i := 22) rfl))) (mvT hZ (hw _ (List.mem_of_getElem? (i := 23) rfl))) (notFace_of_selects (args := #[]) (mvT hZ (hw _ (List.mem_of_getElem? (i := 25) rfl)))) (mvT hZ (hw _ (List.mem_of_getElem? (i := 25) rfl))) (mvT hZ (hw _ (List.mem_of_getElem? (i := 24) rfl))) (by decide) (backOf (W := 0) (rm5j0 l Z a0 hw [] b324 vz rar_326 rkk_326 (4 : Int32) (nar .boolean v0) (nar .boolean v1) (nar .boolean v2) (nar .boolean v3) T366.heap n0 Zs366 f368 p366_0 g_rar_326 ne_b324_rar_326 (by decide)) hZ (hw _ (List.mem_of_getElem? (i := 26) rfl)) (hw _ (List.mem_of_getElem? (i := 3) rfl)) (by decide) (by decide)) q381a q381c (g := (mkF m 151 #[.val (.int ps), .val (.int pb), .val (.int pe), .val (.int (4 : Int32)), .val (.ref b324), .val (.int (own_cnt (4 : Int32) (0 : Int32) (0 : Int32) (0 : Int32) (0 : Int32))), .val (.int (pb &&& (((1 : Int32) <<< ((4 : Int32) &&& 31)) - (1 : Int32)))), .val (.int (0 : Int32)), .val (.int vz)] [(.int vz), (.int (0 : Int32)), (.ref b324)])) rfl (by rw [hml]; rfl) (Steps.refl _) (argsL := [(.int (0 : Int32)), (.int vz)]) (rest := []) (lenOf own_pd52 rfl) rfl (by show 2 * 0 + _ ≤ _; exact Nat.le_of_eq rfl) (hb hby at_151) (fun _ _ => ⟨rfl, rfl, (by decide : 2 + 0 ≤ _), (by decide : 5 + 0 ≤ _)⟩)
        dsimp only [Pt.U, Pt.locs, Pt.cells, Pt.slots] at X381 l381 y381 z381 st381 hQ381
        subst l381 y381 z381
        obtain ⟨rfl, Nq381, K381, p381_0⟩ := hQ381
        have N381 := Fr.app N366 Nq381
        have Zs381 : n0 ≤ T381.heap.size := Nat.le_trans Zs366 K381.1
        have KK381 : Keep h0 T381.heap [] := KK366.trans K381 (allS (Or.inr sz_rar_326) all0)
        have f382 := f367.keep K381
        have f383 := f368.keep K381 (ninS ne_b324_rar_326 nin0)
        have pre384 : ∀ t, Steps p.tables e below (T381.setTop (mkF m 154 #[.val (.int ps), .val (.int pb), .val (.int pe), .val (.int (4 : Int32)), .val (.ref b324), .val (.int (own_cnt (4 : Int32) (0 : Int32) (0 : Int32) (0 : Int32) (0 : Int32))), .val (.int (pb &&& (((1 : Int32) <<< ((4 : Int32) &&& 31)) - (1 : Int32)))), .val (.int (0 : Int32)), .val (.int vz)] [])) t → Steps p.tables e below G0 t := by
          intro t k
          refine pre375 t ?_
          show Steps p.tables e below (T366.setTop (mkF m 143 #[.val (.int ps), .val (.int pb), .val (.int pe), .val (.int (4 : Int32)), .val (.ref b324), .val (.int (own_cnt (4 : Int32) (0 : Int32) (0 : Int32) (0 : Int32) (0 : Int32))), .val (.int (pb &&& (((1 : Int32) <<< ((4 : Int32) &&& 31)) - (1 : Int32)))), .val (.int (0 : Int32)), .unset] [(.int vz)])) _
          refine XS.istore X366.here hx rfl (hb hby at_143) rfl (l' := #[.val (.int ps), .val (.int pb), .val (.int pe), .val (.int (4 : Int32)), .val (.ref b324), .val (.int (own_cnt (4 : Int32) (0 : Int32) (0 : Int32) (0 : Int32) (0 : Int32))), .val (.int (pb &&& (((1 : Int32) <<< ((4 : Int32) &&& 31)) - (1 : Int32)))), .val (.int (0 : Int32)), .val (.int vz)]) rfl ?_
          show Steps p.tables e below (T366.setTop (mkF m 145 #[.val (.int ps), .val (.int pb), .val (.int pe), .val (.int (4 : Int32)), .val (.ref b324), .val (.int (own_cnt (4 : Int32) (0 : Int32) (0 : Int32) (0 : Int32) (0 : Int32))), .val (.int (pb &&& (((1 : Int32) <<< ((4 : Int32) &&& 31)) - (1 : Int32)))), .val (.int (0 : Int32)), .val (.int vz)] [])) _
          refine XS.aload X366.here hx rfl (hb hby at_145) rfl rfl ?_
          show Steps p.tables e below (T366.setTop (mkF m 147 #[.val (.int ps), .val (.int pb), .val (.int pe), .val (.int (4 : Int32)), .val (.ref b324), .val (.int (own_cnt (4 : Int32) (0 : Int32) (0 : Int32) (0 : Int32) (0 : Int32))), .val (.int (pb &&& (((1 : Int32) <<< ((4 : Int32) &&& 31)) - (1 : Int32)))), .val (.int (0 : Int32)), .val (.int vz)] [(.ref b324)])) _
          refine XS.iload X366.here hx rfl (hb hby at_147) rfl ?_
          show Steps p.tables e below (T366.setTop (mkF m 149 #[.val (.int ps), .val (.int pb), .val (.int pe), .val (.int (4 : Int32)), .val (.ref b324), .val (.int (own_cnt (4 : Int32) (0 : Int32) (0 : Int32) (0 : Int32) (0 : Int32))), .val (.int (pb &&& (((1 : Int32) <<< ((4 : Int32) &&& 31)) - (1 : Int32)))), .val (.int (0 : Int32)), .val (.int vz)] [(.int (0 : Int32)), (.ref b324)])) _
          refine XS.iload X366.here hx rfl (hb hby at_149) rfl ?_
          show Steps p.tables e below (T366.setTop (mkF m 151 #[.val (.int ps), .val (.int pb), .val (.int pe), .val (.int (4 : Int32)), .val (.ref b324), .val (.int (own_cnt (4 : Int32) (0 : Int32) (0 : Int32) (0 : Int32) (0 : Int32))), .val (.int (pb &&& (((1 : Int32) <<< ((4 : Int32) &&& 31)) - (1 : Int32)))), .val (.int (0 : Int32)), .val (.int vz)] [(.int vz), (.int (0 : Int32)), (.ref b324)])) _
          refine st381.trans ?_
          exact k
        exact ⟨T381, T381.heap, _, (0 : Int32), (nar .boolean vz), (nar .boolean v1), (nar .boolean v2), (nar .boolean v3), X381, rfl, N381, Zs381, KK381, f382, f383, p381_0, (by exact Or.inl ⟨rfl, rfl, rfl, rfl, rfl⟩), pre384⟩
      · rw [hq378] at pre375
        obtain ⟨cq385, kq385, q385a, q385b, q385c⟩ := isOf hZ rfl f367
        obtain ⟨_, _, ⟨T385, L385, k385, n385⟩, -, X385, ⟨Lc385, hQ385, l385, y385, z385⟩, st385⟩ := X366.virtualBack hx (y := (⟨"com/example/tresse/tresse/rwlock/Flags", "set", "(IZ)V"⟩ : MethodName)) (z := (⟨"com/example/tresse/tresse/rwlock/Flags", "set", "(IZ)V"⟩ : MethodName)) hown (mvT hZ (hw _ (List.mem_of_getElem? (i := 22) rfl))) (mvT hZ (hw _ (List.mem_of_getElem? (i := 23) rfl))) (notFace_of_selects (args := #[]) (mvT hZ (hw _ (List.mem_of_getElem? (i := 25) rfl)))) (mvT hZ (hw _ (List.mem_of_getElem? (i := 25) rfl))) (mvT hZ (hw _ (List.mem_of_getElem? (i := 24) rfl))) (by decide) (backOf (W := 0) (rm5j1 l Z a0 hw [] b324 vz rar_326 rkk_326 (4 : Int32) (nar .boolean v0) (nar .boolean v1) (nar .boolean v2) (nar .boolean v3) T366.heap n0 Zs366 f368 p366_0 g_rar_326 ne_b324_rar_326 (by decide)) hZ (hw _ (List.mem_of_getElem? (i := 26) rfl)) (hw _ (List.mem_of_getElem? (i := 3) rfl)) (by decide) (by decide)) q385a q385c (g := (mkF m 151 #[.val (.int ps), .val (.int pb), .val (.int pe), .val (.int (4 : Int32)), .val (.ref b324), .val (.int (own_cnt (4 : Int32) (0 : Int32) (0 : Int32) (0 : Int32) (0 : Int32))), .val (.int (pb &&& (((1 : Int32) <<< ((4 : Int32) &&& 31)) - (1 : Int32)))), .val (.int (1 : Int32)), .val (.int vz)] [(.int vz), (.int (1 : Int32)), (.ref b324)])) rfl (by rw [hml]; rfl) (Steps.refl _) (argsL := [(.int (1 : Int32)), (.int vz)]) (rest := []) (lenOf own_pd52 rfl) rfl (by show 2 * 0 + _ ≤ _; exact Nat.le_of_eq rfl) (hb hby at_151) (fun _ _ => ⟨rfl, rfl, (by decide : 2 + 0 ≤ _), (by decide : 5 + 0 ≤ _)⟩)
        dsimp only [Pt.U, Pt.locs, Pt.cells, Pt.slots] at X385 l385 y385 z385 st385 hQ385
        subst l385 y385 z385
        obtain ⟨rfl, Nq385, K385, p385_0⟩ := hQ385
        have N385 := Fr.app N366 Nq385
        have Zs385 : n0 ≤ T385.heap.size := Nat.le_trans Zs366 K385.1
        have KK385 : Keep h0 T385.heap [] := KK366.trans K385 (allS (Or.inr sz_rar_326) all0)
        have f386 := f367.keep K385
        have f387 := f368.keep K385 (ninS ne_b324_rar_326 nin0)
        have pre388 : ∀ t, Steps p.tables e below (T385.setTop (mkF m 154 #[.val (.int ps), .val (.int pb), .val (.int pe), .val (.int (4 : Int32)), .val (.ref b324), .val (.int (own_cnt (4 : Int32) (0 : Int32) (0 : Int32) (0 : Int32) (0 : Int32))), .val (.int (pb &&& (((1 : Int32) <<< ((4 : Int32) &&& 31)) - (1 : Int32)))), .val (.int (1 : Int32)), .val (.int vz)] [])) t → Steps p.tables e below G0 t := by
          intro t k
          refine pre375 t ?_
          show Steps p.tables e below (T366.setTop (mkF m 143 #[.val (.int ps), .val (.int pb), .val (.int pe), .val (.int (4 : Int32)), .val (.ref b324), .val (.int (own_cnt (4 : Int32) (0 : Int32) (0 : Int32) (0 : Int32) (0 : Int32))), .val (.int (pb &&& (((1 : Int32) <<< ((4 : Int32) &&& 31)) - (1 : Int32)))), .val (.int (1 : Int32)), .unset] [(.int vz)])) _
          refine XS.istore X366.here hx rfl (hb hby at_143) rfl (l' := #[.val (.int ps), .val (.int pb), .val (.int pe), .val (.int (4 : Int32)), .val (.ref b324), .val (.int (own_cnt (4 : Int32) (0 : Int32) (0 : Int32) (0 : Int32) (0 : Int32))), .val (.int (pb &&& (((1 : Int32) <<< ((4 : Int32) &&& 31)) - (1 : Int32)))), .val (.int (1 : Int32)), .val (.int vz)]) rfl ?_
          show Steps p.tables e below (T366.setTop (mkF m 145 #[.val (.int ps), .val (.int pb), .val (.int pe), .val (.int (4 : Int32)), .val (.ref b324), .val (.int (own_cnt (4 : Int32) (0 : Int32) (0 : Int32) (0 : Int32) (0 : Int32))), .val (.int (pb &&& (((1 : Int32) <<< ((4 : Int32) &&& 31)) - (1 : Int32)))), .val (.int (1 : Int32)), .val (.int vz)] [])) _
          refine XS.aload X366.here hx rfl (hb hby at_145) rfl rfl ?_
          show Steps p.tables e below (T366.setTop (mkF m 147 #[.val (.int ps), .val (.int pb), .val (.int pe), .val (.int (4 : Int32)), .val (.ref b324), .val (.int (own_cnt (4 : Int32) (0 : Int32) (0 : Int32) (0 : Int32) (0 : Int32))), .val (.int (pb &&& (((1 : Int32) <<< ((4 : Int32) &&& 31)) - (1 : Int32)))), .val (.int (1 : Int32)), .val (.int vz)] [(.ref b324)])) _
          refine XS.iload X366.here hx rfl (hb hby at_147) rfl ?_
          show Steps p.tables e below (T366.setTop (mkF m 149 #[.val (.int ps), .val (.int pb), .val (.int pe), .val (.int (4 : Int32)), .val (.ref b324), .val (.int (own_cnt (4 : Int32) (0 : Int32) (0 : Int32) (0 : Int32) (0 : Int32))), .val (.int (pb &&& (((1 : Int32) <<< ((4 : Int32) &&& 31)) - (1 : Int32)))), .val (.int (1 : Int32)), .val (.int vz)] [(.int (1 : Int32)), (.ref b324)])) _
          refine XS.iload X366.here hx rfl (hb hby at_149) rfl ?_
          show Steps p.tables e below (T366.setTop (mkF m 151 #[.val (.int ps), .val (.int pb), .val (.int pe), .val (.int (4 : Int32)), .val (.ref b324), .val (.int (own_cnt (4 : Int32) (0 : Int32) (0 : Int32) (0 : Int32) (0 : Int32))), .val (.int (pb &&& (((1 : Int32) <<< ((4 : Int32) &&& 31)) - (1 : Int32)))), .val (.int (1 : Int32)), .val (.int vz)] [(.int vz), (.int (1 : Int32)), (.ref b324)])) _
          refine st385.trans ?_
          exact k
        exact ⟨T385, T385.heap, _, (1 : Int32), (nar .boolean v0), (nar .boolean vz), (nar .boolean v2), (nar .boolean v3), X385, rfl, N385, Zs385, KK385, f386, f387, p385_0, (by exact Or.inr (Or.inl ⟨rfl, rfl, rfl, rfl, rfl⟩)), pre388⟩
      · rw [hq379] at pre375
        obtain ⟨cq389, kq389, q389a, q389b, q389c⟩ := isOf hZ rfl f367
        obtain ⟨_, _, ⟨T389, L389, k389, n389⟩, -, X389, ⟨Lc389, hQ389, l389, y389, z389⟩, st389⟩ := X366.virtualBack hx (y := (⟨"com/example/tresse/tresse/rwlock/Flags", "set", "(IZ)V"⟩ : MethodName)) (z := (⟨"com/example/tresse/tresse/rwlock/Flags", "set", "(IZ)V"⟩ : MethodName)) hown (mvT hZ (hw _ (List.mem_of_getElem? (i := 22) rfl))) (mvT hZ (hw _ (List.mem_of_getElem? (i := 23) rfl))) (notFace_of_selects (args := #[]) (mvT hZ (hw _ (List.mem_of_getElem? (i := 25) rfl)))) (mvT hZ (hw _ (List.mem_of_getElem? (i := 25) rfl))) (mvT hZ (hw _ (List.mem_of_getElem? (i := 24) rfl))) (by decide) (backOf (W := 0) (rm5j2 l Z a0 hw [] b324 vz rar_326 rkk_326 (4 : Int32) (nar .boolean v0) (nar .boolean v1) (nar .boolean v2) (nar .boolean v3) T366.heap n0 Zs366 f368 p366_0 g_rar_326 ne_b324_rar_326 (by decide)) hZ (hw _ (List.mem_of_getElem? (i := 26) rfl)) (hw _ (List.mem_of_getElem? (i := 3) rfl)) (by decide) (by decide)) q389a q389c (g := (mkF m 151 #[.val (.int ps), .val (.int pb), .val (.int pe), .val (.int (4 : Int32)), .val (.ref b324), .val (.int (own_cnt (4 : Int32) (0 : Int32) (0 : Int32) (0 : Int32) (0 : Int32))), .val (.int (pb &&& (((1 : Int32) <<< ((4 : Int32) &&& 31)) - (1 : Int32)))), .val (.int (2 : Int32)), .val (.int vz)] [(.int vz), (.int (2 : Int32)), (.ref b324)])) rfl (by rw [hml]; rfl) (Steps.refl _) (argsL := [(.int (2 : Int32)), (.int vz)]) (rest := []) (lenOf own_pd52 rfl) rfl (by show 2 * 0 + _ ≤ _; exact Nat.le_of_eq rfl) (hb hby at_151) (fun _ _ => ⟨rfl, rfl, (by decide : 2 + 0 ≤ _), (by decide : 5 + 0 ≤ _)⟩)
        dsimp only [Pt.U, Pt.locs, Pt.cells, Pt.slots] at X389 l389 y389 z389 st389 hQ389
        subst l389 y389 z389
        obtain ⟨rfl, Nq389, K389, p389_0⟩ := hQ389
        have N389 := Fr.app N366 Nq389
        have Zs389 : n0 ≤ T389.heap.size := Nat.le_trans Zs366 K389.1
        have KK389 : Keep h0 T389.heap [] := KK366.trans K389 (allS (Or.inr sz_rar_326) all0)
        have f390 := f367.keep K389
        have f391 := f368.keep K389 (ninS ne_b324_rar_326 nin0)
        have pre392 : ∀ t, Steps p.tables e below (T389.setTop (mkF m 154 #[.val (.int ps), .val (.int pb), .val (.int pe), .val (.int (4 : Int32)), .val (.ref b324), .val (.int (own_cnt (4 : Int32) (0 : Int32) (0 : Int32) (0 : Int32) (0 : Int32))), .val (.int (pb &&& (((1 : Int32) <<< ((4 : Int32) &&& 31)) - (1 : Int32)))), .val (.int (2 : Int32)), .val (.int vz)] [])) t → Steps p.tables e below G0 t := by
          intro t k
          refine pre375 t ?_
          show Steps p.tables e below (T366.setTop (mkF m 143 #[.val (.int ps), .val (.int pb), .val (.int pe), .val (.int (4 : Int32)), .val (.ref b324), .val (.int (own_cnt (4 : Int32) (0 : Int32) (0 : Int32) (0 : Int32) (0 : Int32))), .val (.int (pb &&& (((1 : Int32) <<< ((4 : Int32) &&& 31)) - (1 : Int32)))), .val (.int (2 : Int32)), .unset] [(.int vz)])) _
          refine XS.istore X366.here hx rfl (hb hby at_143) rfl (l' := #[.val (.int ps), .val (.int pb), .val (.int pe), .val (.int (4 : Int32)), .val (.ref b324), .val (.int (own_cnt (4 : Int32) (0 : Int32) (0 : Int32) (0 : Int32) (0 : Int32))), .val (.int (pb &&& (((1 : Int32) <<< ((4 : Int32) &&& 31)) - (1 : Int32)))), .val (.int (2 : Int32)), .val (.int vz)]) rfl ?_
          show Steps p.tables e below (T366.setTop (mkF m 145 #[.val (.int ps), .val (.int pb), .val (.int pe), .val (.int (4 : Int32)), .val (.ref b324), .val (.int (own_cnt (4 : Int32) (0 : Int32) (0 : Int32) (0 : Int32) (0 : Int32))), .val (.int (pb &&& (((1 : Int32) <<< ((4 : Int32) &&& 31)) - (1 : Int32)))), .val (.int (2 : Int32)), .val (.int vz)] [])) _
          refine XS.aload X366.here hx rfl (hb hby at_145) rfl rfl ?_
          show Steps p.tables e below (T366.setTop (mkF m 147 #[.val (.int ps), .val (.int pb), .val (.int pe), .val (.int (4 : Int32)), .val (.ref b324), .val (.int (own_cnt (4 : Int32) (0 : Int32) (0 : Int32) (0 : Int32) (0 : Int32))), .val (.int (pb &&& (((1 : Int32) <<< ((4 : Int32) &&& 31)) - (1 : Int32)))), .val (.int (2 : Int32)), .val (.int vz)] [(.ref b324)])) _
          refine XS.iload X366.here hx rfl (hb hby at_147) rfl ?_
          show Steps p.tables e below (T366.setTop (mkF m 149 #[.val (.int ps), .val (.int pb), .val (.int pe), .val (.int (4 : Int32)), .val (.ref b324), .val (.int (own_cnt (4 : Int32) (0 : Int32) (0 : Int32) (0 : Int32) (0 : Int32))), .val (.int (pb &&& (((1 : Int32) <<< ((4 : Int32) &&& 31)) - (1 : Int32)))), .val (.int (2 : Int32)), .val (.int vz)] [(.int (2 : Int32)), (.ref b324)])) _
          refine XS.iload X366.here hx rfl (hb hby at_149) rfl ?_
          show Steps p.tables e below (T366.setTop (mkF m 151 #[.val (.int ps), .val (.int pb), .val (.int pe), .val (.int (4 : Int32)), .val (.ref b324), .val (.int (own_cnt (4 : Int32) (0 : Int32) (0 : Int32) (0 : Int32) (0 : Int32))), .val (.int (pb &&& (((1 : Int32) <<< ((4 : Int32) &&& 31)) - (1 : Int32)))), .val (.int (2 : Int32)), .val (.int vz)] [(.int vz), (.int (2 : Int32)), (.ref b324)])) _
          refine st389.trans ?_
          exact k
        exact ⟨T389, T389.heap, _, (2 : Int32), (nar .boolean v0), (nar .boolean v1), (nar .boolean vz), (nar .boolean v3), X389, rfl, N389, Zs389, KK389, f390, f391, p389_0, (by exact Or.inr (Or.inr (Or.inl ⟨rfl, rfl, rfl, rfl, rfl⟩))), pre392⟩
      · rw [hq380] at pre375
        obtain ⟨cq393, kq393, q393a, q393b, q393c⟩ := isOf hZ rfl f367
        obtain ⟨_, _, ⟨T393, L393, k393, n393⟩, -, X393, ⟨Lc393, hQ393, l393, y393, z393⟩, st393⟩ := X366.virtualBack hx (y := (⟨"com/example/tresse/tresse/rwlock/Flags", "set", "(IZ)V"⟩ : MethodName)) (z := (⟨"com/example/tresse/tresse/rwlock/Flags", "set", "(IZ)V"⟩ : MethodName)) hown (mvT hZ (hw _ (List.mem_of_getElem? (i := 22) rfl))) (mvT hZ (hw _ (List.mem_of_getElem? (i := 23) rfl))) (notFace_of_selects (args := #[]) (mvT hZ (hw _ (List.mem_of_getElem? (i := 25) rfl)))) (mvT hZ (hw _ (List.mem_of_getElem? (i := 25) rfl))) (mvT hZ (hw _ (List.mem_of_getElem? (i := 24) rfl))) (by decide) (backOf (W := 0) (rm5j3 l Z a0 hw [] b324 vz rar_326 rkk_326 (4 : Int32) (nar .boolean v0) (nar .boolean v1) (nar .boolean v2) (nar .boolean v3) T366.heap n0 Zs366 f368 p366_0 g_rar_326 ne_b324_rar_326 (by decide)) hZ (hw _ (List.mem_of_getElem? (i := 26) rfl)) (hw _ (List.mem_of_getElem? (i := 3) rfl)) (by decide) (by decide)) q393a q393c (g := (mkF m 151 #[.val (.int ps), .val (.int pb), .val (.int pe), .val (.int (4 : Int32)), .val (.ref b324), .val (.int (own_cnt (4 : Int32) (0 : Int32) (0 : Int32) (0 : Int32) (0 : Int32))), .val (.int (pb &&& (((1 : Int32) <<< ((4 : Int32) &&& 31)) - (1 : Int32)))), .val (.int (3 : Int32)), .val (.int vz)] [(.int vz), (.int (3 : Int32)), (.ref b324)])) rfl (by rw [hml]; rfl) (Steps.refl _) (argsL := [(.int (3 : Int32)), (.int vz)]) (rest := []) (lenOf own_pd52 rfl) rfl (by show 2 * 0 + _ ≤ _; exact Nat.le_of_eq rfl) (hb hby at_151) (fun _ _ => ⟨rfl, rfl, (by decide : 2 + 0 ≤ _), (by decide : 5 + 0 ≤ _)⟩)
        dsimp only [Pt.U, Pt.locs, Pt.cells, Pt.slots] at X393 l393 y393 z393 st393 hQ393
        subst l393 y393 z393
        obtain ⟨rfl, Nq393, K393, p393_0⟩ := hQ393
        have N393 := Fr.app N366 Nq393
        have Zs393 : n0 ≤ T393.heap.size := Nat.le_trans Zs366 K393.1
        have KK393 : Keep h0 T393.heap [] := KK366.trans K393 (allS (Or.inr sz_rar_326) all0)
        have f394 := f367.keep K393
        have f395 := f368.keep K393 (ninS ne_b324_rar_326 nin0)
        have pre396 : ∀ t, Steps p.tables e below (T393.setTop (mkF m 154 #[.val (.int ps), .val (.int pb), .val (.int pe), .val (.int (4 : Int32)), .val (.ref b324), .val (.int (own_cnt (4 : Int32) (0 : Int32) (0 : Int32) (0 : Int32) (0 : Int32))), .val (.int (pb &&& (((1 : Int32) <<< ((4 : Int32) &&& 31)) - (1 : Int32)))), .val (.int (3 : Int32)), .val (.int vz)] [])) t → Steps p.tables e below G0 t := by
          intro t k
          refine pre375 t ?_
          show Steps p.tables e below (T366.setTop (mkF m 143 #[.val (.int ps), .val (.int pb), .val (.int pe), .val (.int (4 : Int32)), .val (.ref b324), .val (.int (own_cnt (4 : Int32) (0 : Int32) (0 : Int32) (0 : Int32) (0 : Int32))), .val (.int (pb &&& (((1 : Int32) <<< ((4 : Int32) &&& 31)) - (1 : Int32)))), .val (.int (3 : Int32)), .unset] [(.int vz)])) _
          refine XS.istore X366.here hx rfl (hb hby at_143) rfl (l' := #[.val (.int ps), .val (.int pb), .val (.int pe), .val (.int (4 : Int32)), .val (.ref b324), .val (.int (own_cnt (4 : Int32) (0 : Int32) (0 : Int32) (0 : Int32) (0 : Int32))), .val (.int (pb &&& (((1 : Int32) <<< ((4 : Int32) &&& 31)) - (1 : Int32)))), .val (.int (3 : Int32)), .val (.int vz)]) rfl ?_
          show Steps p.tables e below (T366.setTop (mkF m 145 #[.val (.int ps), .val (.int pb), .val (.int pe), .val (.int (4 : Int32)), .val (.ref b324), .val (.int (own_cnt (4 : Int32) (0 : Int32) (0 : Int32) (0 : Int32) (0 : Int32))), .val (.int (pb &&& (((1 : Int32) <<< ((4 : Int32) &&& 31)) - (1 : Int32)))), .val (.int (3 : Int32)), .val (.int vz)] [])) _
          refine XS.aload X366.here hx rfl (hb hby at_145) rfl rfl ?_
          show Steps p.tables e below (T366.setTop (mkF m 147 #[.val (.int ps), .val (.int pb), .val (.int pe), .val (.int (4 : Int32)), .val (.ref b324), .val (.int (own_cnt (4 : Int32) (0 : Int32) (0 : Int32) (0 : Int32) (0 : Int32))), .val (.int (pb &&& (((1 : Int32) <<< ((4 : Int32) &&& 31)) - (1 : Int32)))), .val (.int (3 : Int32)), .val (.int vz)] [(.ref b324)])) _
          refine XS.iload X366.here hx rfl (hb hby at_147) rfl ?_
          show Steps p.tables e below (T366.setTop (mkF m 149 #[.val (.int ps), .val (.int pb), .val (.int pe), .val (.int (4 : Int32)), .val (.ref b324), .val (.int (own_cnt (4 : Int32) (0 : Int32) (0 : Int32) (0 : Int32) (0 : Int32))), .val (.int (pb &&& (((1 : Int32) <<< ((4 : Int32) &&& 31)) - (1 : Int32)))), .val (.int (3 : Int32)), .val (.int vz)] [(.int (3 : Int32)), (.ref b324)])) _
          refine XS.iload X366.here hx rfl (hb hby at_149) rfl ?_
          show Steps p.tables e below (T366.setTop (mkF m 151 #[.val (.int ps), .val (.int pb), .val (.int pe), .val (.int (4 : Int32)), .val (.ref b324), .val (.int (own_cnt (4 : Int32) (0 : Int32) (0 : Int32) (0 : Int32) (0 : Int32))), .val (.int (pb &&& (((1 : Int32) <<< ((4 : Int32) &&& 31)) - (1 : Int32)))), .val (.int (3 : Int32)), .val (.int vz)] [(.int vz), (.int (3 : Int32)), (.ref b324)])) _
          refine st393.trans ?_
          exact k
        exact ⟨T393, T393.heap, _, (3 : Int32), (nar .boolean v0), (nar .boolean v1), (nar .boolean v2), (nar .boolean vz), X393, rfl, N393, Zs393, KK393, f394, f395, p393_0, (by exact Or.inr (Or.inr (Or.inr (⟨rfl, rfl, rfl, rfl, rfl⟩)))), pre396⟩
    obtain ⟨bb, hv409, pre408⟩ : ∃ (bb : Int32), (bb = if vz = 0 then ((pb &&& (((1 : Int32) <<< ((4 : Int32) &&& 31)) - (1 : Int32))) &&& (((1 : Int32) <<< (kv &&& 31)) ^^^ (-1 : Int32))) else ((pb &&& (((1 : Int32) <<< ((4 : Int32) &&& 31)) - (1 : Int32))) ||| ((1 : Int32) <<< (kv &&& 31)))) ∧ ∀ t, Steps p.tables e below (Tm397.setTop (mkF m 182 #[.val (.int ps), .val (.int pb), .val (.int pe), .val (.int (4 : Int32)), .val (.ref b324), .val (.int (own_cnt (4 : Int32) (0 : Int32) (0 : Int32) (0 : Int32) (0 : Int32))), .val (.int bb), .val (.int kv), .val (.int vz)] [])) t → Steps p.tables e below G0 t := by
      have pre403 : ∀ t, Steps p.tables e below (Tm397.setTop (mkF m 156 #[.val (.int ps), .val (.int pb), .val (.int pe), .val (.int (4 : Int32)), .val (.ref b324), .val (.int (own_cnt (4 : Int32) (0 : Int32) (0 : Int32) (0 : Int32) (0 : Int32))), .val (.int (pb &&& (((1 : Int32) <<< ((4 : Int32) &&& 31)) - (1 : Int32)))), .val (.int kv), .val (.int vz)] [(.int vz)])) t → Steps p.tables e below G0 t := by
        intro t k
        refine pre401 t ?_
        show Steps p.tables e below (Tm397.setTop (mkF m 154 #[.val (.int ps), .val (.int pb), .val (.int pe), .val (.int (4 : Int32)), .val (.ref b324), .val (.int (own_cnt (4 : Int32) (0 : Int32) (0 : Int32) (0 : Int32) (0 : Int32))), .val (.int (pb &&& (((1 : Int32) <<< ((4 : Int32) &&& 31)) - (1 : Int32)))), .val (.int kv), .val (.int vz)] [])) _
        refine XS.iload Xm397.here hx rfl (hb hby at_154) rfl ?_
        exact k
      by_cases hc156_404 : vz = (0 : Int32)
      · have pre405 : ∀ t, Steps p.tables e below (Tm397.setTop (mkF m 182 #[.val (.int ps), .val (.int pb), .val (.int pe), .val (.int (4 : Int32)), .val (.ref b324), .val (.int (own_cnt (4 : Int32) (0 : Int32) (0 : Int32) (0 : Int32) (0 : Int32))), .val (.int ((pb &&& (((1 : Int32) <<< ((4 : Int32) &&& 31)) - (1 : Int32))) &&& (((1 : Int32) <<< (kv &&& 31)) ^^^ (-1 : Int32)))), .val (.int kv), .val (.int vz)] [])) t → Steps p.tables e below G0 t := by
          intro t k
          refine pre403 t ?_
          show Steps p.tables e below (Tm397.setTop (mkF m 156 #[.val (.int ps), .val (.int pb), .val (.int pe), .val (.int (4 : Int32)), .val (.ref b324), .val (.int (own_cnt (4 : Int32) (0 : Int32) (0 : Int32) (0 : Int32) (0 : Int32))), .val (.int (pb &&& (((1 : Int32) <<< ((4 : Int32) &&& 31)) - (1 : Int32)))), .val (.int kv), .val (.int vz)] [(.int vz)])) _
          refine XS.ifYes Xm397.here hx rfl (pc0 := 156) (pc' := 171) rfl (hb hby at_156) rfl ((if0 _ _).trans (teq hc156_404).1) (by decide) (by decide) ?_
          show Steps p.tables e below (Tm397.setTop (mkF m 171 #[.val (.int ps), .val (.int pb), .val (.int pe), .val (.int (4 : Int32)), .val (.ref b324), .val (.int (own_cnt (4 : Int32) (0 : Int32) (0 : Int32) (0 : Int32) (0 : Int32))), .val (.int (pb &&& (((1 : Int32) <<< ((4 : Int32) &&& 31)) - (1 : Int32)))), .val (.int kv), .val (.int vz)] [])) _
          refine XS.iload Xm397.here hx rfl (hb hby at_171) rfl ?_
          show Steps p.tables e below (Tm397.setTop (mkF m 173 #[.val (.int ps), .val (.int pb), .val (.int pe), .val (.int (4 : Int32)), .val (.ref b324), .val (.int (own_cnt (4 : Int32) (0 : Int32) (0 : Int32) (0 : Int32) (0 : Int32))), .val (.int (pb &&& (((1 : Int32) <<< ((4 : Int32) &&& 31)) - (1 : Int32)))), .val (.int kv), .val (.int vz)] [(.int (pb &&& (((1 : Int32) <<< ((4 : Int32) &&& 31)) - (1 : Int32))))])) _
          refine XS.iconst Xm397.here hx rfl (hb hby at_173) ?_
          show Steps p.tables e below (Tm397.setTop (mkF m 174 #[.val (.int ps), .val (.int pb), .val (.int pe), .val (.int (4 : Int32)), .val (.ref b324), .val (.int (own_cnt (4 : Int32) (0 : Int32) (0 : Int32) (0 : Int32) (0 : Int32))), .val (.int (pb &&& (((1 : Int32) <<< ((4 : Int32) &&& 31)) - (1 : Int32)))), .val (.int kv), .val (.int vz)] [(.int (1 : Int32)), (.int (pb &&& (((1 : Int32) <<< ((4 : Int32) &&& 31)) - (1 : Int32))))])) _
          refine XS.iload Xm397.here hx rfl (hb hby at_174) rfl ?_
          show Steps p.tables e below (Tm397.setTop (mkF m 176 #[.val (.int ps), .val (.int pb), .val (.int pe), .val (.int (4 : Int32)), .val (.ref b324), .val (.int (own_cnt (4 : Int32) (0 : Int32) (0 : Int32) (0 : Int32) (0 : Int32))), .val (.int (pb &&& (((1 : Int32) <<< ((4 : Int32) &&& 31)) - (1 : Int32)))), .val (.int kv), .val (.int vz)] [(.int kv), (.int (1 : Int32)), (.int (pb &&& (((1 : Int32) <<< ((4 : Int32) &&& 31)) - (1 : Int32))))])) _
          refine XS.ishl Xm397.here hx rfl (hb hby at_176) rfl ?_
          show Steps p.tables e below (Tm397.setTop (mkF m 177 #[.val (.int ps), .val (.int pb), .val (.int pe), .val (.int (4 : Int32)), .val (.ref b324), .val (.int (own_cnt (4 : Int32) (0 : Int32) (0 : Int32) (0 : Int32) (0 : Int32))), .val (.int (pb &&& (((1 : Int32) <<< ((4 : Int32) &&& 31)) - (1 : Int32)))), .val (.int kv), .val (.int vz)] [(.int ((1 : Int32) <<< (kv &&& 31))), (.int (pb &&& (((1 : Int32) <<< ((4 : Int32) &&& 31)) - (1 : Int32))))])) _
          refine XS.iconst Xm397.here hx rfl (hb hby at_177) ?_
          show Steps p.tables e below (Tm397.setTop (mkF m 178 #[.val (.int ps), .val (.int pb), .val (.int pe), .val (.int (4 : Int32)), .val (.ref b324), .val (.int (own_cnt (4 : Int32) (0 : Int32) (0 : Int32) (0 : Int32) (0 : Int32))), .val (.int (pb &&& (((1 : Int32) <<< ((4 : Int32) &&& 31)) - (1 : Int32)))), .val (.int kv), .val (.int vz)] [(.int (-1 : Int32)), (.int ((1 : Int32) <<< (kv &&& 31))), (.int (pb &&& (((1 : Int32) <<< ((4 : Int32) &&& 31)) - (1 : Int32))))])) _
          refine XS.ixor Xm397.here hx rfl (hb hby at_178) rfl ?_
          show Steps p.tables e below (Tm397.setTop (mkF m 179 #[.val (.int ps), .val (.int pb), .val (.int pe), .val (.int (4 : Int32)), .val (.ref b324), .val (.int (own_cnt (4 : Int32) (0 : Int32) (0 : Int32) (0 : Int32) (0 : Int32))), .val (.int (pb &&& (((1 : Int32) <<< ((4 : Int32) &&& 31)) - (1 : Int32)))), .val (.int kv), .val (.int vz)] [(.int (((1 : Int32) <<< (kv &&& 31)) ^^^ (-1 : Int32))), (.int (pb &&& (((1 : Int32) <<< ((4 : Int32) &&& 31)) - (1 : Int32))))])) _
          refine XS.iand Xm397.here hx rfl (hb hby at_179) rfl ?_
          show Steps p.tables e below (Tm397.setTop (mkF m 180 #[.val (.int ps), .val (.int pb), .val (.int pe), .val (.int (4 : Int32)), .val (.ref b324), .val (.int (own_cnt (4 : Int32) (0 : Int32) (0 : Int32) (0 : Int32) (0 : Int32))), .val (.int (pb &&& (((1 : Int32) <<< ((4 : Int32) &&& 31)) - (1 : Int32)))), .val (.int kv), .val (.int vz)] [(.int ((pb &&& (((1 : Int32) <<< ((4 : Int32) &&& 31)) - (1 : Int32))) &&& (((1 : Int32) <<< (kv &&& 31)) ^^^ (-1 : Int32))))])) _
          refine XS.istore Xm397.here hx rfl (hb hby at_180) rfl (l' := #[.val (.int ps), .val (.int pb), .val (.int pe), .val (.int (4 : Int32)), .val (.ref b324), .val (.int (own_cnt (4 : Int32) (0 : Int32) (0 : Int32) (0 : Int32) (0 : Int32))), .val (.int ((pb &&& (((1 : Int32) <<< ((4 : Int32) &&& 31)) - (1 : Int32))) &&& (((1 : Int32) <<< (kv &&& 31)) ^^^ (-1 : Int32)))), .val (.int kv), .val (.int vz)]) rfl ?_
          exact k
        exact ⟨((pb &&& (((1 : Int32) <<< ((4 : Int32) &&& 31)) - (1 : Int32))) &&& (((1 : Int32) <<< (kv &&& 31)) ^^^ (-1 : Int32))), (by rw [if_pos hc156_404]), pre405⟩
      · have pre406 : ∀ t, Steps p.tables e below (Tm397.setTop (mkF m 182 #[.val (.int ps), .val (.int pb), .val (.int pe), .val (.int (4 : Int32)), .val (.ref b324), .val (.int (own_cnt (4 : Int32) (0 : Int32) (0 : Int32) (0 : Int32) (0 : Int32))), .val (.int ((pb &&& (((1 : Int32) <<< ((4 : Int32) &&& 31)) - (1 : Int32))) ||| ((1 : Int32) <<< (kv &&& 31)))), .val (.int kv), .val (.int vz)] [])) t → Steps p.tables e below G0 t := by
          intro t k
          refine pre403 t ?_
          show Steps p.tables e below (Tm397.setTop (mkF m 156 #[.val (.int ps), .val (.int pb), .val (.int pe), .val (.int (4 : Int32)), .val (.ref b324), .val (.int (own_cnt (4 : Int32) (0 : Int32) (0 : Int32) (0 : Int32) (0 : Int32))), .val (.int (pb &&& (((1 : Int32) <<< ((4 : Int32) &&& 31)) - (1 : Int32)))), .val (.int kv), .val (.int vz)] [(.int vz)])) _
          refine XS.ifNo Xm397.here hx rfl (hb hby at_156) rfl ((if0 _ _).trans (feq hc156_404).1) ?_
          show Steps p.tables e below (Tm397.setTop (mkF m 159 #[.val (.int ps), .val (.int pb), .val (.int pe), .val (.int (4 : Int32)), .val (.ref b324), .val (.int (own_cnt (4 : Int32) (0 : Int32) (0 : Int32) (0 : Int32) (0 : Int32))), .val (.int (pb &&& (((1 : Int32) <<< ((4 : Int32) &&& 31)) - (1 : Int32)))), .val (.int kv), .val (.int vz)] [])) _
          refine XS.iload Xm397.here hx rfl (hb hby at_159) rfl ?_
          show Steps p.tables e below (Tm397.setTop (mkF m 161 #[.val (.int ps), .val (.int pb), .val (.int pe), .val (.int (4 : Int32)), .val (.ref b324), .val (.int (own_cnt (4 : Int32) (0 : Int32) (0 : Int32) (0 : Int32) (0 : Int32))), .val (.int (pb &&& (((1 : Int32) <<< ((4 : Int32) &&& 31)) - (1 : Int32)))), .val (.int kv), .val (.int vz)] [(.int (pb &&& (((1 : Int32) <<< ((4 : Int32) &&& 31)) - (1 : Int32))))])) _
          refine XS.iconst Xm397.here hx rfl (hb hby at_161) ?_
          show Steps p.tables e below (Tm397.setTop (mkF m 162 #[.val (.int ps), .val (.int pb), .val (.int pe), .val (.int (4 : Int32)), .val (.ref b324), .val (.int (own_cnt (4 : Int32) (0 : Int32) (0 : Int32) (0 : Int32) (0 : Int32))), .val (.int (pb &&& (((1 : Int32) <<< ((4 : Int32) &&& 31)) - (1 : Int32)))), .val (.int kv), .val (.int vz)] [(.int (1 : Int32)), (.int (pb &&& (((1 : Int32) <<< ((4 : Int32) &&& 31)) - (1 : Int32))))])) _
          refine XS.iload Xm397.here hx rfl (hb hby at_162) rfl ?_
          show Steps p.tables e below (Tm397.setTop (mkF m 164 #[.val (.int ps), .val (.int pb), .val (.int pe), .val (.int (4 : Int32)), .val (.ref b324), .val (.int (own_cnt (4 : Int32) (0 : Int32) (0 : Int32) (0 : Int32) (0 : Int32))), .val (.int (pb &&& (((1 : Int32) <<< ((4 : Int32) &&& 31)) - (1 : Int32)))), .val (.int kv), .val (.int vz)] [(.int kv), (.int (1 : Int32)), (.int (pb &&& (((1 : Int32) <<< ((4 : Int32) &&& 31)) - (1 : Int32))))])) _
          refine XS.ishl Xm397.here hx rfl (hb hby at_164) rfl ?_
          show Steps p.tables e below (Tm397.setTop (mkF m 165 #[.val (.int ps), .val (.int pb), .val (.int pe), .val (.int (4 : Int32)), .val (.ref b324), .val (.int (own_cnt (4 : Int32) (0 : Int32) (0 : Int32) (0 : Int32) (0 : Int32))), .val (.int (pb &&& (((1 : Int32) <<< ((4 : Int32) &&& 31)) - (1 : Int32)))), .val (.int kv), .val (.int vz)] [(.int ((1 : Int32) <<< (kv &&& 31))), (.int (pb &&& (((1 : Int32) <<< ((4 : Int32) &&& 31)) - (1 : Int32))))])) _
          refine XS.ior Xm397.here hx rfl (hb hby at_165) rfl ?_
          show Steps p.tables e below (Tm397.setTop (mkF m 166 #[.val (.int ps), .val (.int pb), .val (.int pe), .val (.int (4 : Int32)), .val (.ref b324), .val (.int (own_cnt (4 : Int32) (0 : Int32) (0 : Int32) (0 : Int32) (0 : Int32))), .val (.int (pb &&& (((1 : Int32) <<< ((4 : Int32) &&& 31)) - (1 : Int32)))), .val (.int kv), .val (.int vz)] [(.int ((pb &&& (((1 : Int32) <<< ((4 : Int32) &&& 31)) - (1 : Int32))) ||| ((1 : Int32) <<< (kv &&& 31))))])) _
          refine XS.istore Xm397.here hx rfl (hb hby at_166) rfl (l' := #[.val (.int ps), .val (.int pb), .val (.int pe), .val (.int (4 : Int32)), .val (.ref b324), .val (.int (own_cnt (4 : Int32) (0 : Int32) (0 : Int32) (0 : Int32) (0 : Int32))), .val (.int ((pb &&& (((1 : Int32) <<< ((4 : Int32) &&& 31)) - (1 : Int32))) ||| ((1 : Int32) <<< (kv &&& 31)))), .val (.int kv), .val (.int vz)]) rfl ?_
          show Steps p.tables e below (Tm397.setTop (mkF m 168 #[.val (.int ps), .val (.int pb), .val (.int pe), .val (.int (4 : Int32)), .val (.ref b324), .val (.int (own_cnt (4 : Int32) (0 : Int32) (0 : Int32) (0 : Int32) (0 : Int32))), .val (.int ((pb &&& (((1 : Int32) <<< ((4 : Int32) &&& 31)) - (1 : Int32))) ||| ((1 : Int32) <<< (kv &&& 31)))), .val (.int kv), .val (.int vz)] [])) _
          refine XS.goto Xm397.here hx rfl (pc0 := 168) (pc' := 182) rfl (hb hby at_168) (by decide) (by decide) ?_
          exact k
        exact ⟨((pb &&& (((1 : Int32) <<< ((4 : Int32) &&& 31)) - (1 : Int32))) ||| ((1 : Int32) <<< (kv &&& 31))), (by rw [if_neg hc156_404]), pre406⟩
    obtain ⟨_, _, ⟨T410, L410, k410, n410⟩, -, X410, ⟨Lc410, hQ410, l410, y410, z410⟩, st410⟩ := Jvm.LawKit.callS Xm397 hx (y := (⟨"com/example/tresse/tresse/rwlock/FlagsCountTruePinLaw", "bit", "(II)I"⟩ : MethodName)) hown (mvT hZ (hw _ (List.mem_of_getElem? (i := 18) rfl))) (mvT hZ (hw _ (List.mem_of_getElem? (i := 19) rfl))) (mvT hZ (hw _ (List.mem_of_getElem? (i := 20) rfl))) (mvT hZ (hw _ (List.mem_of_getElem? (i := 21) rfl))) (by decide) (backOf (W := 0) (rm4 l Z a0 hw [] bb (0 : Int32)  hm397 n0 Zm397 ) hZ (hw _ (List.mem_of_getElem? (i := 21) rfl)) (hw _ (List.mem_of_getElem? (i := 20) rfl)) (by decide) (by decide)) (g := (mkF m 185 #[.val (.int ps), .val (.int pb), .val (.int pe), .val (.int (4 : Int32)), .val (.ref b324), .val (.int (own_cnt (4 : Int32) (0 : Int32) (0 : Int32) (0 : Int32) (0 : Int32))), .val (.int bb), .val (.int kv), .val (.int vz)] [(.int (0 : Int32)), (.int bb)])) rfl (by rw [hml]; rfl) (argsL := [(.int bb), (.int (0 : Int32))]) (rest := []) (lenOf own_pd51 rfl) rfl (by show 2 * 0 + _ ≤ _; exact Nat.le_of_eq rfl) (hb hby at_185) (fun _ _ => ⟨rfl, em397, (by decide : 2 + 0 ≤ _), (by decide : 5 + 0 ≤ _)⟩)
    dsimp only [Pt.U, Pt.locs, Pt.cells, Pt.slots] at X410 l410 y410 z410 st410 hQ410
    subst l410 y410 z410
    obtain ⟨rfl, Nq410, e410⟩ := hQ410
    have N410 := Fr.app Nm397 Nq410
    obtain ⟨_, _, ⟨T411, L411, k411, n411⟩, -, X411, ⟨Lc411, hQ411, l411, y411, z411⟩, st411⟩ := Jvm.LawKit.callS X410 hx (y := (⟨"com/example/tresse/tresse/rwlock/FlagsCountTruePinLaw", "bit", "(II)I"⟩ : MethodName)) hown (mvT hZ (hw _ (List.mem_of_getElem? (i := 18) rfl))) (mvT hZ (hw _ (List.mem_of_getElem? (i := 19) rfl))) (mvT hZ (hw _ (List.mem_of_getElem? (i := 20) rfl))) (mvT hZ (hw _ (List.mem_of_getElem? (i := 21) rfl))) (by decide) (backOf (W := 1) (rm4 l Z a0 hw [] bb (1 : Int32)  hm397 n0 Zm397 ) hZ (hw _ (List.mem_of_getElem? (i := 21) rfl)) (hw _ (List.mem_of_getElem? (i := 20) rfl)) (by decide) (by decide)) (g := (mkF m 191 #[.val (.int ps), .val (.int pb), .val (.int pe), .val (.int (4 : Int32)), .val (.ref b324), .val (.int (own_cnt (4 : Int32) (0 : Int32) (0 : Int32) (0 : Int32) (0 : Int32))), .val (.int bb), .val (.int kv), .val (.int vz)] [(.int (1 : Int32)), (.int bb), (.int (own_bit bb (0 : Int32)))])) rfl (by rw [hml]; rfl) (argsL := [(.int bb), (.int (1 : Int32))]) (rest := [(.int (own_bit bb (0 : Int32)))]) (lenOf own_pd51 rfl) rfl (by show 2 * 0 + _ ≤ _; exact Nat.le_of_eq rfl) (hb hby at_191) (fun _ _ => ⟨rfl, e410, (by decide : 2 + 0 ≤ _), (by decide : 5 + 0 ≤ _)⟩)
    dsimp only [Pt.U, Pt.locs, Pt.cells, Pt.slots] at X411 l411 y411 z411 st411 hQ411
    subst l411 y411 z411
    obtain ⟨rfl, Nq411, e411⟩ := hQ411
    have N411 := Fr.app N410 Nq411
    obtain ⟨_, _, ⟨T412, L412, k412, n412⟩, -, X412, ⟨Lc412, hQ412, l412, y412, z412⟩, st412⟩ := Jvm.LawKit.callS X411 hx (y := (⟨"com/example/tresse/tresse/rwlock/FlagsCountTruePinLaw", "bit", "(II)I"⟩ : MethodName)) hown (mvT hZ (hw _ (List.mem_of_getElem? (i := 18) rfl))) (mvT hZ (hw _ (List.mem_of_getElem? (i := 19) rfl))) (mvT hZ (hw _ (List.mem_of_getElem? (i := 20) rfl))) (mvT hZ (hw _ (List.mem_of_getElem? (i := 21) rfl))) (by decide) (backOf (W := 1) (rm4 l Z a0 hw [] bb (2 : Int32)  hm397 n0 Zm397 ) hZ (hw _ (List.mem_of_getElem? (i := 21) rfl)) (hw _ (List.mem_of_getElem? (i := 20) rfl)) (by decide) (by decide)) (g := (mkF m 198 #[.val (.int ps), .val (.int pb), .val (.int pe), .val (.int (4 : Int32)), .val (.ref b324), .val (.int (own_cnt (4 : Int32) (0 : Int32) (0 : Int32) (0 : Int32) (0 : Int32))), .val (.int bb), .val (.int kv), .val (.int vz)] [(.int (2 : Int32)), (.int bb), (.int ((own_bit bb (0 : Int32)) + (own_bit bb (1 : Int32))))])) rfl (by rw [hml]; rfl) (argsL := [(.int bb), (.int (2 : Int32))]) (rest := [(.int ((own_bit bb (0 : Int32)) + (own_bit bb (1 : Int32))))]) (lenOf own_pd51 rfl) rfl (by show 2 * 0 + _ ≤ _; exact Nat.le_of_eq rfl) (hb hby at_198) (fun _ _ => ⟨rfl, e411, (by decide : 2 + 0 ≤ _), (by decide : 5 + 0 ≤ _)⟩)
    dsimp only [Pt.U, Pt.locs, Pt.cells, Pt.slots] at X412 l412 y412 z412 st412 hQ412
    subst l412 y412 z412
    obtain ⟨rfl, Nq412, e412⟩ := hQ412
    have N412 := Fr.app N411 Nq412
    obtain ⟨_, _, ⟨T413, L413, k413, n413⟩, -, X413, ⟨Lc413, hQ413, l413, y413, z413⟩, st413⟩ := Jvm.LawKit.callS X412 hx (y := (⟨"com/example/tresse/tresse/rwlock/FlagsCountTruePinLaw", "bit", "(II)I"⟩ : MethodName)) hown (mvT hZ (hw _ (List.mem_of_getElem? (i := 18) rfl))) (mvT hZ (hw _ (List.mem_of_getElem? (i := 19) rfl))) (mvT hZ (hw _ (List.mem_of_getElem? (i := 20) rfl))) (mvT hZ (hw _ (List.mem_of_getElem? (i := 21) rfl))) (by decide) (backOf (W := 1) (rm4 l Z a0 hw [] bb (3 : Int32)  hm397 n0 Zm397 ) hZ (hw _ (List.mem_of_getElem? (i := 21) rfl)) (hw _ (List.mem_of_getElem? (i := 20) rfl)) (by decide) (by decide)) (g := (mkF m 205 #[.val (.int ps), .val (.int pb), .val (.int pe), .val (.int (4 : Int32)), .val (.ref b324), .val (.int (own_cnt (4 : Int32) (0 : Int32) (0 : Int32) (0 : Int32) (0 : Int32))), .val (.int bb), .val (.int kv), .val (.int vz)] [(.int (3 : Int32)), (.int bb), (.int (((own_bit bb (0 : Int32)) + (own_bit bb (1 : Int32))) + (own_bit bb (2 : Int32))))])) rfl (by rw [hml]; rfl) (argsL := [(.int bb), (.int (3 : Int32))]) (rest := [(.int (((own_bit bb (0 : Int32)) + (own_bit bb (1 : Int32))) + (own_bit bb (2 : Int32))))]) (lenOf own_pd51 rfl) rfl (by show 2 * 0 + _ ≤ _; exact Nat.le_of_eq rfl) (hb hby at_205) (fun _ _ => ⟨rfl, e412, (by decide : 2 + 0 ≤ _), (by decide : 5 + 0 ≤ _)⟩)
    dsimp only [Pt.U, Pt.locs, Pt.cells, Pt.slots] at X413 l413 y413 z413 st413 hQ413
    subst l413 y413 z413
    obtain ⟨rfl, Nq413, e413⟩ := hQ413
    have N413 := Fr.app N412 Nq413
    obtain ⟨cq414, kq414, q414a, q414b, q414c⟩ := isOf hZ e413 f398
    obtain ⟨_, _, ⟨T414, L414, k414, n414⟩, -, X414, ⟨Lc414, hQ414, l414, y414, z414⟩, st414⟩ := X413.virtualBack hx (y := (⟨"com/example/tresse/tresse/rwlock/Flags", "countTrue", "()I"⟩ : MethodName)) (z := (⟨"com/example/tresse/tresse/rwlock/Flags", "countTrue", "()I"⟩ : MethodName)) hown (mvT hZ (hw _ (List.mem_of_getElem? (i := 13) rfl))) (mvT hZ (hw _ (List.mem_of_getElem? (i := 14) rfl))) (notFace_of_selects (args := #[]) (mvT hZ (hw _ (List.mem_of_getElem? (i := 16) rfl)))) (mvT hZ (hw _ (List.mem_of_getElem? (i := 16) rfl))) (mvT hZ (hw _ (List.mem_of_getElem? (i := 15) rfl))) (by decide) (backOf (W := 0) (rm3 l Z a0 hw [] b324 rar_326 rkk_326 (4 : Int32) ee0 ee1 ee2 ee3 hm397 n0 Zm397 f399 f400 (by decide)) hZ (hw _ (List.mem_of_getElem? (i := 17) rfl)) (hw _ (List.mem_of_getElem? (i := 3) rfl)) (by decide) (by decide)) q414a q414c (g := (mkF m 218 #[.val (.int ps), .val (.int pb), .val (.int pe), .val (.int (4 : Int32)), .val (.ref b324), .val (.int (own_cnt (4 : Int32) (0 : Int32) (0 : Int32) (0 : Int32) (0 : Int32))), .val (.int bb), .val (.int ((((own_bit bb (0 : Int32)) + (own_bit bb (1 : Int32))) + (own_bit bb (2 : Int32))) + (own_bit bb (3 : Int32)))), .val (.int vz)] [(.ref b324)])) rfl (by rw [hml]; rfl) (Steps.refl _) (argsL := []) (rest := []) (lenOf own_pd50 rfl) rfl (by show 2 * 0 + _ ≤ _; exact Nat.le_of_eq rfl) (hb hby at_218) (fun _ _ => ⟨rfl, e413, (by decide : 2 + 0 ≤ _), (by decide : 5 + 0 ≤ _)⟩)
    dsimp only [Pt.U, Pt.locs, Pt.cells, Pt.slots] at X414 l414 y414 z414 st414 hQ414
    subst l414 y414 z414
    obtain ⟨rfl, Nq414, e414⟩ := hQ414
    have N414 := Fr.app N413 Nq414
    obtain ⟨fs, hr, hrun, hended, hW, hsame⟩ := X414.leave (v := some (.int (1 : Int32))) (fun h => by rw [Bd.returns] at h; cases h)
    refine ⟨_, _, pre408 _ ?_, hrun, hended, _, _, rfl, ?_, ⟨_, rfl⟩, hW, hsame.mono (by decide) (by decide)⟩
    · show Steps p.tables e below (Tm397.setTop (mkF m 182 #[.val (.int ps), .val (.int pb), .val (.int pe), .val (.int (4 : Int32)), .val (.ref b324), .val (.int (own_cnt (4 : Int32) (0 : Int32) (0 : Int32) (0 : Int32) (0 : Int32))), .val (.int bb), .val (.int kv), .val (.int vz)] [])) _
      refine XS.iload Xm397.here hx rfl (hb hby at_182) rfl ?_
      show Steps p.tables e below (Tm397.setTop (mkF m 184 #[.val (.int ps), .val (.int pb), .val (.int pe), .val (.int (4 : Int32)), .val (.ref b324), .val (.int (own_cnt (4 : Int32) (0 : Int32) (0 : Int32) (0 : Int32) (0 : Int32))), .val (.int bb), .val (.int kv), .val (.int vz)] [(.int bb)])) _
      refine XS.iconst Xm397.here hx rfl (hb hby at_184) ?_
      show Steps p.tables e below (Tm397.setTop (mkF m 185 #[.val (.int ps), .val (.int pb), .val (.int pe), .val (.int (4 : Int32)), .val (.ref b324), .val (.int (own_cnt (4 : Int32) (0 : Int32) (0 : Int32) (0 : Int32) (0 : Int32))), .val (.int bb), .val (.int kv), .val (.int vz)] [(.int (0 : Int32)), (.int bb)])) _
      refine st410 _ ?_
      show Steps p.tables e below (T410.setTop (mkF m 188 #[.val (.int ps), .val (.int pb), .val (.int pe), .val (.int (4 : Int32)), .val (.ref b324), .val (.int (own_cnt (4 : Int32) (0 : Int32) (0 : Int32) (0 : Int32) (0 : Int32))), .val (.int bb), .val (.int kv), .val (.int vz)] [(.int (own_bit bb (0 : Int32)))])) _
      refine XS.iload X410.here hx rfl (hb hby at_188) rfl ?_
      show Steps p.tables e below (T410.setTop (mkF m 190 #[.val (.int ps), .val (.int pb), .val (.int pe), .val (.int (4 : Int32)), .val (.ref b324), .val (.int (own_cnt (4 : Int32) (0 : Int32) (0 : Int32) (0 : Int32) (0 : Int32))), .val (.int bb), .val (.int kv), .val (.int vz)] [(.int bb), (.int (own_bit bb (0 : Int32)))])) _
      refine XS.iconst X410.here hx rfl (hb hby at_190) ?_
      show Steps p.tables e below (T410.setTop (mkF m 191 #[.val (.int ps), .val (.int pb), .val (.int pe), .val (.int (4 : Int32)), .val (.ref b324), .val (.int (own_cnt (4 : Int32) (0 : Int32) (0 : Int32) (0 : Int32) (0 : Int32))), .val (.int bb), .val (.int kv), .val (.int vz)] [(.int (1 : Int32)), (.int bb), (.int (own_bit bb (0 : Int32)))])) _
      refine st411 _ ?_
      show Steps p.tables e below (T411.setTop (mkF m 194 #[.val (.int ps), .val (.int pb), .val (.int pe), .val (.int (4 : Int32)), .val (.ref b324), .val (.int (own_cnt (4 : Int32) (0 : Int32) (0 : Int32) (0 : Int32) (0 : Int32))), .val (.int bb), .val (.int kv), .val (.int vz)] [(.int (own_bit bb (1 : Int32))), (.int (own_bit bb (0 : Int32)))])) _
      refine XS.iadd X411.here hx rfl (hb hby at_194) rfl ?_
      show Steps p.tables e below (T411.setTop (mkF m 195 #[.val (.int ps), .val (.int pb), .val (.int pe), .val (.int (4 : Int32)), .val (.ref b324), .val (.int (own_cnt (4 : Int32) (0 : Int32) (0 : Int32) (0 : Int32) (0 : Int32))), .val (.int bb), .val (.int kv), .val (.int vz)] [(.int ((own_bit bb (0 : Int32)) + (own_bit bb (1 : Int32))))])) _
      refine XS.iload X411.here hx rfl (hb hby at_195) rfl ?_
      show Steps p.tables e below (T411.setTop (mkF m 197 #[.val (.int ps), .val (.int pb), .val (.int pe), .val (.int (4 : Int32)), .val (.ref b324), .val (.int (own_cnt (4 : Int32) (0 : Int32) (0 : Int32) (0 : Int32) (0 : Int32))), .val (.int bb), .val (.int kv), .val (.int vz)] [(.int bb), (.int ((own_bit bb (0 : Int32)) + (own_bit bb (1 : Int32))))])) _
      refine XS.iconst X411.here hx rfl (hb hby at_197) ?_
      show Steps p.tables e below (T411.setTop (mkF m 198 #[.val (.int ps), .val (.int pb), .val (.int pe), .val (.int (4 : Int32)), .val (.ref b324), .val (.int (own_cnt (4 : Int32) (0 : Int32) (0 : Int32) (0 : Int32) (0 : Int32))), .val (.int bb), .val (.int kv), .val (.int vz)] [(.int (2 : Int32)), (.int bb), (.int ((own_bit bb (0 : Int32)) + (own_bit bb (1 : Int32))))])) _
      refine st412 _ ?_
      show Steps p.tables e below (T412.setTop (mkF m 201 #[.val (.int ps), .val (.int pb), .val (.int pe), .val (.int (4 : Int32)), .val (.ref b324), .val (.int (own_cnt (4 : Int32) (0 : Int32) (0 : Int32) (0 : Int32) (0 : Int32))), .val (.int bb), .val (.int kv), .val (.int vz)] [(.int (own_bit bb (2 : Int32))), (.int ((own_bit bb (0 : Int32)) + (own_bit bb (1 : Int32))))])) _
      refine XS.iadd X412.here hx rfl (hb hby at_201) rfl ?_
      show Steps p.tables e below (T412.setTop (mkF m 202 #[.val (.int ps), .val (.int pb), .val (.int pe), .val (.int (4 : Int32)), .val (.ref b324), .val (.int (own_cnt (4 : Int32) (0 : Int32) (0 : Int32) (0 : Int32) (0 : Int32))), .val (.int bb), .val (.int kv), .val (.int vz)] [(.int (((own_bit bb (0 : Int32)) + (own_bit bb (1 : Int32))) + (own_bit bb (2 : Int32))))])) _
      refine XS.iload X412.here hx rfl (hb hby at_202) rfl ?_
      show Steps p.tables e below (T412.setTop (mkF m 204 #[.val (.int ps), .val (.int pb), .val (.int pe), .val (.int (4 : Int32)), .val (.ref b324), .val (.int (own_cnt (4 : Int32) (0 : Int32) (0 : Int32) (0 : Int32) (0 : Int32))), .val (.int bb), .val (.int kv), .val (.int vz)] [(.int bb), (.int (((own_bit bb (0 : Int32)) + (own_bit bb (1 : Int32))) + (own_bit bb (2 : Int32))))])) _
      refine XS.iconst X412.here hx rfl (hb hby at_204) ?_
      show Steps p.tables e below (T412.setTop (mkF m 205 #[.val (.int ps), .val (.int pb), .val (.int pe), .val (.int (4 : Int32)), .val (.ref b324), .val (.int (own_cnt (4 : Int32) (0 : Int32) (0 : Int32) (0 : Int32) (0 : Int32))), .val (.int bb), .val (.int kv), .val (.int vz)] [(.int (3 : Int32)), (.int bb), (.int (((own_bit bb (0 : Int32)) + (own_bit bb (1 : Int32))) + (own_bit bb (2 : Int32))))])) _
      refine st413 _ ?_
      show Steps p.tables e below (T413.setTop (mkF m 208 #[.val (.int ps), .val (.int pb), .val (.int pe), .val (.int (4 : Int32)), .val (.ref b324), .val (.int (own_cnt (4 : Int32) (0 : Int32) (0 : Int32) (0 : Int32) (0 : Int32))), .val (.int bb), .val (.int kv), .val (.int vz)] [(.int (own_bit bb (3 : Int32))), (.int (((own_bit bb (0 : Int32)) + (own_bit bb (1 : Int32))) + (own_bit bb (2 : Int32))))])) _
      refine XS.iadd X413.here hx rfl (hb hby at_208) rfl ?_
      show Steps p.tables e below (T413.setTop (mkF m 209 #[.val (.int ps), .val (.int pb), .val (.int pe), .val (.int (4 : Int32)), .val (.ref b324), .val (.int (own_cnt (4 : Int32) (0 : Int32) (0 : Int32) (0 : Int32) (0 : Int32))), .val (.int bb), .val (.int kv), .val (.int vz)] [(.int ((((own_bit bb (0 : Int32)) + (own_bit bb (1 : Int32))) + (own_bit bb (2 : Int32))) + (own_bit bb (3 : Int32))))])) _
      refine XS.istore X413.here hx rfl (hb hby at_209) rfl (l' := #[.val (.int ps), .val (.int pb), .val (.int pe), .val (.int (4 : Int32)), .val (.ref b324), .val (.int (own_cnt (4 : Int32) (0 : Int32) (0 : Int32) (0 : Int32) (0 : Int32))), .val (.int bb), .val (.int ((((own_bit bb (0 : Int32)) + (own_bit bb (1 : Int32))) + (own_bit bb (2 : Int32))) + (own_bit bb (3 : Int32)))), .val (.int vz)]) rfl ?_
      show Steps p.tables e below (T413.setTop (mkF m 211 #[.val (.int ps), .val (.int pb), .val (.int pe), .val (.int (4 : Int32)), .val (.ref b324), .val (.int (own_cnt (4 : Int32) (0 : Int32) (0 : Int32) (0 : Int32) (0 : Int32))), .val (.int bb), .val (.int ((((own_bit bb (0 : Int32)) + (own_bit bb (1 : Int32))) + (own_bit bb (2 : Int32))) + (own_bit bb (3 : Int32)))), .val (.int vz)] [])) _
      refine XS.iload X413.here hx rfl (hb hby at_211) rfl ?_
      show Steps p.tables e below (T413.setTop (mkF m 213 #[.val (.int ps), .val (.int pb), .val (.int pe), .val (.int (4 : Int32)), .val (.ref b324), .val (.int (own_cnt (4 : Int32) (0 : Int32) (0 : Int32) (0 : Int32) (0 : Int32))), .val (.int bb), .val (.int ((((own_bit bb (0 : Int32)) + (own_bit bb (1 : Int32))) + (own_bit bb (2 : Int32))) + (own_bit bb (3 : Int32)))), .val (.int vz)] [(.int (own_cnt (4 : Int32) (0 : Int32) (0 : Int32) (0 : Int32) (0 : Int32)))])) _
      refine XS.ifNo X413.here hx rfl (hb hby at_213) rfl ((if0 _ _).trans (teq (rfl : ((own_cnt (4 : Int32) (0 : Int32) (0 : Int32) (0 : Int32) (0 : Int32)) = (0 : Int32)))).2) ?_
      show Steps p.tables e below (T413.setTop (mkF m 216 #[.val (.int ps), .val (.int pb), .val (.int pe), .val (.int (4 : Int32)), .val (.ref b324), .val (.int (own_cnt (4 : Int32) (0 : Int32) (0 : Int32) (0 : Int32) (0 : Int32))), .val (.int bb), .val (.int ((((own_bit bb (0 : Int32)) + (own_bit bb (1 : Int32))) + (own_bit bb (2 : Int32))) + (own_bit bb (3 : Int32)))), .val (.int vz)] [])) _
      refine XS.aload X413.here hx rfl (hb hby at_216) rfl rfl ?_
      show Steps p.tables e below (T413.setTop (mkF m 218 #[.val (.int ps), .val (.int pb), .val (.int pe), .val (.int (4 : Int32)), .val (.ref b324), .val (.int (own_cnt (4 : Int32) (0 : Int32) (0 : Int32) (0 : Int32) (0 : Int32))), .val (.int bb), .val (.int ((((own_bit bb (0 : Int32)) + (own_bit bb (1 : Int32))) + (own_bit bb (2 : Int32))) + (own_bit bb (3 : Int32)))), .val (.int vz)] [(.ref b324)])) _
      refine st414.trans ?_
      show Steps p.tables e below (T414.setTop (mkF m 221 #[.val (.int ps), .val (.int pb), .val (.int pe), .val (.int (4 : Int32)), .val (.ref b324), .val (.int (own_cnt (4 : Int32) (0 : Int32) (0 : Int32) (0 : Int32) (0 : Int32))), .val (.int bb), .val (.int ((((own_bit bb (0 : Int32)) + (own_bit bb (1 : Int32))) + (own_bit bb (2 : Int32))) + (own_bit bb (3 : Int32)))), .val (.int vz)] [(.int (own_cnt (4 : Int32) ee0 ee1 ee2 ee3))])) _
      refine XS.iload X414.here hx rfl (hb hby at_221) rfl ?_
      show Steps p.tables e below (T414.setTop (mkF m 223 #[.val (.int ps), .val (.int pb), .val (.int pe), .val (.int (4 : Int32)), .val (.ref b324), .val (.int (own_cnt (4 : Int32) (0 : Int32) (0 : Int32) (0 : Int32) (0 : Int32))), .val (.int bb), .val (.int ((((own_bit bb (0 : Int32)) + (own_bit bb (1 : Int32))) + (own_bit bb (2 : Int32))) + (own_bit bb (3 : Int32)))), .val (.int vz)] [(.int ((((own_bit bb (0 : Int32)) + (own_bit bb (1 : Int32))) + (own_bit bb (2 : Int32))) + (own_bit bb (3 : Int32)))), (.int (own_cnt (4 : Int32) ee0 ee1 ee2 ee3))])) _
      refine XS.icmpNo X414.here hx rfl (hb hby at_223) rfl (teq (own_fin4 hv335 hv345 hv355 hv365 hv376 hv402 hv409 : ((own_cnt (4 : Int32) ee0 ee1 ee2 ee3) = ((((own_bit bb (0 : Int32)) + (own_bit bb (1 : Int32))) + (own_bit bb (2 : Int32))) + (own_bit bb (3 : Int32)))))).2 ?_
      show Steps p.tables e below (T414.setTop (mkF m 226 #[.val (.int ps), .val (.int pb), .val (.int pe), .val (.int (4 : Int32)), .val (.ref b324), .val (.int (own_cnt (4 : Int32) (0 : Int32) (0 : Int32) (0 : Int32) (0 : Int32))), .val (.int bb), .val (.int ((((own_bit bb (0 : Int32)) + (own_bit bb (1 : Int32))) + (own_bit bb (2 : Int32))) + (own_bit bb (3 : Int32)))), .val (.int vz)] [])) _
      refine XS.iconst X414.here hx rfl (hb hby at_226) ?_
      show Steps p.tables e below (T414.setTop (mkF m 227 #[.val (.int ps), .val (.int pb), .val (.int pe), .val (.int (4 : Int32)), .val (.ref b324), .val (.int (own_cnt (4 : Int32) (0 : Int32) (0 : Int32) (0 : Int32) (0 : Int32))), .val (.int bb), .val (.int ((((own_bit bb (0 : Int32)) + (own_bit bb (1 : Int32))) + (own_bit bb (2 : Int32))) + (own_bit bb (3 : Int32)))), .val (.int vz)] [(.int (1 : Int32))])) _
      refine XS.goto X414.here hx rfl (pc0 := 227) (pc' := 231) rfl (hb hby at_227) (by decide) (by decide) ?_
      show Steps p.tables e below (T414.setTop (mkF m 231 #[.val (.int ps), .val (.int pb), .val (.int pe), .val (.int (4 : Int32)), .val (.ref b324), .val (.int (own_cnt (4 : Int32) (0 : Int32) (0 : Int32) (0 : Int32) (0 : Int32))), .val (.int bb), .val (.int ((((own_bit bb (0 : Int32)) + (own_bit bb (1 : Int32))) + (own_bit bb (2 : Int32))) + (own_bit bb (3 : Int32)))), .val (.int vz)] [(.int (1 : Int32))])) _
      exact retN X414 hx (t := .boolean) Bd.returns (by simp) (hb hby at_231) hr
    · show Q0 Z ps pb pe h0 n0 _ T414.heap _
      rw [e414]
      exact ⟨rfl, N414⟩
set_option maxRecDepth 65536 in
set_option maxHeartbeats 40000000 in
theorem comes_1 {Post : Tables → Env → Array Value → State → Outcome → State → Prop} (hpost : ∀ tb e args s v u, (limb_1_1.after args s (.returned v) u = true ∧ limb_1_2.after args s (.returned v) u = true ∧ True) → FrameEnd s (.returned v) u (Jvm.fieldLocs frame_1_writes args s ++ Jvm.arrayLocs frame_1_arrays args s ++ Jvm.staticLocs frame_1_statics s) 16 128 → Post tb e args s (.returned v) u) :
    ArmFor flags0 classFile x code maxLocals ret World_1 tables_1 room_1 Calls_1 rest_1 Pre_1 Post := by
  intro l hfl _ _ p e ha hc hk s m args below hf hA hF happ hP
  obtain ⟨hcalls, hrest, hpre⟩ := hP
  obtain ⟨-, -, -, hnamed, -, -, -, hat⟩ := (Spec.applies_iff hf).mp happ
  obtain ⟨hg, hn⟩ := and_e (Cond.before_iff.mp (show (Jvm.Cond.and given_1 narrow_1).before args s = true from hpre))
  obtain ⟨hcount, ga0⟩ := and_e hg
  obtain ⟨gi0, ga1⟩ := and_e ga0
  obtain ⟨gi1, ga2⟩ := and_e ga1
  have gi2 := ga2
  obtain ⟨w0, w1, w2, rfl⟩ : ∃ w0 w1 w2 : Value, args = #[w0, w1, w2] := by
    have hs : args.size = 3 := by simpa [Cond.value, given_1] using hcount
    obtain ⟨L⟩ := args
    match L, hs with
    | [w0, w1, w2], _ => exact ⟨w0, w1, w2, rfl⟩
  have hw := fun d (hd : d ∈ tables_1) => atoms_spec (ws := Jvm.Cond.code x code maxLocals ret :: tables_1) hat d (List.mem_cons_of_mem _ hd)
  have hfit : Fit s := fun {y c} hc i hi => by
    obtain ⟨ha, rfl⟩ := Array.getElem?_eq_some_iff.mp hc
    have q := List.all_eq_true.mp ((Array.all_eq_true_iff_forall_mem.mp hF) _ (Array.getElem_mem ha)) i (List.mem_range.mpr hi)
    simpa [Array.getElem?_eq_getElem hi] using q
  obtain ⟨i0, ei0⟩ := is_v gi0
  obtain rfl : w0 = (.int i0) := Option.some.inj ei0
  obtain ⟨i1, ei1⟩ := is_v gi1
  obtain rfl : w1 = (.int i1) := Option.some.inj ei1
  obtain ⟨i2, ei2⟩ := is_v gi2
  obtain rfl : w2 = (.int i2) := Option.some.inj ei2
  obtain ⟨n, o, h1, h2, h3, _, L, rfl, ⟨rfl, N⟩, hq⟩ := rm0 l s _ hw tables_1 i0 i1 i2  s.heap s.heap.size (Nat.le_refl _)  p e ha hc hk s m _ below hf ((Spec.applies_iff_loose hf).mp happ).1 ⟨rfl, State.Warmed39.refl s, rfl⟩ trivial
  refine ⟨n, _, h1, h2, h3, hpost _ _ _ _ _ _ ⟨Cond.after_iff.mpr rfl, Cond.after_iff.mpr (eq_i res_at (Term.int_eval (1)) rfl), trivial⟩ ⟨hq.1, hq.2.1, (hq.2.2.sift fun y hy => Or.inr (N y hy)).mono (by decide) (by decide)⟩⟩
theorem main_1_1 : Claimed_1_1 := comes_1 fun _ _ _ _ _ _ h hF => ⟨h.1, hF⟩
theorem main_1_2 : Claimed_1_2 := comes_1 fun _ _ _ _ _ _ h hF => ⟨h.2.1, hF⟩
end Jvm.Pilot.@@N@@
namespace Jvm.Pilot.@@N@@
open Jvm Jvm.ClassFile Sem Op Lib Jvm.Free Jvm.Stand Jvm.Pilot.@@N@@.Jvm.D
/-! MADE BY PROGRAM (witnessworld.py) out of the Statement's table words and the real class files: 11 classes; the members and pool entries that the words name. The judged class is class 1, her method 2. -/
namespace start1
open Jvm.ClassFile
def u (s : String) : CpInfo := .utf8 (stringToUtf16 s)
/-- a pool by its gaps: so many unusable entries, then the entry; so many at the end -/
def gap : Nat → List CpInfo → List CpInfo
  | 0, r => r
  | n + 1, r => .unusable :: gap n r
def poolList (es : List (Nat × CpInfo)) (last : Nat) : List CpInfo := es.foldr (fun e r => gap e.1 (e.2 :: r)) (gap last [])
def pool (es : List (Nat × CpInfo)) (last : Nat) : Array CpInfo := ⟨poolList es last⟩
def fileOf (pool : Array CpInfo) (this : Nat) (attrs : Array Attribute := #[]) (ms : Array MethodInfo := #[]) (fl : Nat := 33) (sup : Nat := 0) (ifs : Array Nat := #[]) (fds : Array FieldInfo := #[]) : ClassFile where
  minorVersion := 0
  majorVersion := 65
  constantPool := pool
  accessFlags := fl
  thisClass := this
  superClass := sup
  interfaces := ifs
  fields := fds
  methods := ms
  attributes := attrs
def plain (name : String) (sup : Option ClassId) : Class where
  name := name
  kind := .ordinary
  loader := none
  accessFlags := 33
  super := sup
  interfaces := #[]
  cf := none
  fields := #[]
  methods := #[]
  instanceTypes := #[]
  staticTypes := #[]
  resolved := #[]
  callSites := []
  init := .initialized
  statics := none
  mirror := none

def pool0 : Array CpInfo := pool [(5, u "<init>"), (0, u "()V"), (1, .class_ 10), (1, u "java/lang/Object")] 113

def k0c0 : Code := { maxStack := 0, maxLocals := 1, code := object_method_1_code, exceptionTable := #[], attributes := #[] }
def k0m0 : Method := { name := "<init>", desc := "()V", sig := { parameters := [], returnType := none }, accessFlags := 1, code := some k0c0 }
/-- java/lang/Object -/
def k0 : Class := { plain "java/lang/Object" none with
  accessFlags := 33
  interfaces := #[]
  cf := some (fileOf pool0 8 #[] #[{ accessFlags := 1, nameIndex := 5, descriptorIndex := 6, attributes := #[] }] 33 0 #[] #[])
  fields := #[]
  methods := #[k0m0]
  instanceTypes := #[]
  staticTypes := #[]
  resolved := Array.replicate 124 none
  statics := none }

def pool1 : Array CpInfo := pool [(2, .class_ 4), (1, u "java/lang/Object"), (0, u "<init>"), (0, u "()V"), (0, .integer 2147483647), (0, .class_ 9), (0, u "com/example/tresse/tresse/rwlock/Flags"), (0, .methodref 8 11), (0, .nameAndType 5 12), (0, u "(I)V"), (0, .methodref 8 14), (0, .nameAndType 15 16), (0, u "countTrue"), (0, u "()I"), (0, .methodref 8 18), (0, .nameAndType 19 20), (0, u "set"), (0, u "(IZ)V"), (0, .methodref 22 23), (0, .class_ 24), (0, .nameAndType 25 26), (0, u "com/example/tresse/tresse/rwlock/FlagsCountTruePinLaw"), (0, u "bit"), (0, u "(II)I"), (3, u "law"), (0, u "(III)Z")] 2

def k1m0 : Method := { name := "<init>", desc := "()V", sig := { parameters := [], returnType := none }, accessFlags := 1, code := none }
def k1c1 : Code := { maxStack := 2, maxLocals := 2, code := method_2_code, exceptionTable := #[], attributes := #[] }
def k1m1 : Method := { name := "bit", desc := "(II)I", sig := { parameters := [.int, .int], returnType := some .int }, accessFlags := 10, code := some k1c1 }
def k1c2 : Code := { maxStack := 4, maxLocals := 9, code := code, exceptionTable := #[], attributes := #[] }
def k1m2 : Method := { name := "law", desc := "(III)Z", sig := { parameters := [.int, .int, .int], returnType := some .boolean }, accessFlags := 9, code := some k1c2 }
/-- com/example/tresse/tresse/rwlock/FlagsCountTruePinLaw -/
def k1 : Class := { plain "com/example/tresse/tresse/rwlock/FlagsCountTruePinLaw" (some 0) with
  accessFlags := 49
  interfaces := #[]
  cf := some (fileOf pool1 22 #[] #[{ accessFlags := 1, nameIndex := 5, descriptorIndex := 6, attributes := #[] }, { accessFlags := 10, nameIndex := 25, descriptorIndex := 26, attributes := #[] }, { accessFlags := 9, nameIndex := 30, descriptorIndex := 31, attributes := #[] }] 49 2 #[] #[])
  fields := #[]
  methods := #[k1m0, k1m1, k1m2]
  instanceTypes := #[]
  staticTypes := #[]
  resolved := Array.replicate 34 none
  statics := none }

def pool2 : Array CpInfo := pool [(1, .methodref 2 3), (0, .class_ 4), (0, .nameAndType 5 6), (0, u "java/lang/Object"), (0, u "<init>"), (0, u "()V"), (0, .fieldref 8 9), (0, .class_ 10), (0, .nameAndType 11 12), (0, u "com/example/tresse/tresse/rwlock/Flags"), (0, u "values"), (0, u "[Z"), (0, u "(I)V"), (3, u "()I"), (0, u "countTrue"), (2, u "set"), (0, u "(IZ)V")] 2

def k2c0 : Code := { maxStack := 2, maxLocals := 2, code := prog_102_method_1_code, exceptionTable := #[], attributes := #[] }
def k2m0 : Method := { name := "<init>", desc := "(I)V", sig := { parameters := [.int], returnType := none }, accessFlags := 1, code := some k2c0 }
def k2c1 : Code := { maxStack := 2, maxLocals := 6, code := prog_102_method_3_code, exceptionTable := #[], attributes := #[] }
def k2m1 : Method := { name := "countTrue", desc := "()I", sig := { parameters := [], returnType := some .int }, accessFlags := 1, code := some k2c1 }
def k2c2 : Code := { maxStack := 3, maxLocals := 3, code := prog_102_method_4_code, exceptionTable := #[], attributes := #[] }
def k2m2 : Method := { name := "set", desc := "(IZ)V", sig := { parameters := [.int, .boolean], returnType := none }, accessFlags := 1, code := some k2c2 }
/-- com/example/tresse/tresse/rwlock/Flags -/
def k2 : Class := { plain "com/example/tresse/tresse/rwlock/Flags" (some 0) with
  accessFlags := 49
  interfaces := #[]
  cf := some (fileOf pool2 8 #[] #[{ accessFlags := 1, nameIndex := 5, descriptorIndex := 13, attributes := #[] }, { accessFlags := 1, nameIndex := 18, descriptorIndex := 17, attributes := #[] }, { accessFlags := 1, nameIndex := 21, descriptorIndex := 22, attributes := #[] }] 49 2 #[] #[{ accessFlags := 18, nameIndex := 11, descriptorIndex := 12, attributes := #[] }])
  fields := #[{ name := "values", type := (.array .boolean), accessFlags := 18, slot := 0, constantValue := 0 }]
  methods := #[k2m0, k2m1, k2m2]
  instanceTypes := #[(.array .boolean)]
  staticTypes := #[]
  resolved := Array.replicate 25 none
  statics := none }

def pool3 : Array CpInfo := pool [(1, u "java/lang/Cloneable"), (0, .class_ 1), (0, u "java/lang/Object"), (0, .class_ 3)] 3

/-- java/lang/Cloneable -/
def k3 : Class := { plain "java/lang/Cloneable" (some 0) with
  accessFlags := 1537
  interfaces := #[]
  cf := some (fileOf pool3 2 #[] #[] 1537 4 #[] #[])
  fields := #[]
  methods := #[]
  instanceTypes := #[]
  staticTypes := #[]
  resolved := Array.replicate 8 none
  statics := none }

def pool4 : Array CpInfo := pool [(1, u "java/io/Serializable"), (0, .class_ 1), (0, u "java/lang/Object"), (0, .class_ 3)] 3

/-- java/io/Serializable -/
def k4 : Class := { plain "java/io/Serializable" (some 0) with
  accessFlags := 1537
  interfaces := #[]
  cf := some (fileOf pool4 2 #[] #[] 1537 4 #[] #[])
  fields := #[]
  methods := #[]
  instanceTypes := #[]
  staticTypes := #[]
  resolved := Array.replicate 8 none
  statics := none }

/-- the primitive boolean -/
def k5 : Class := { plain "boolean" none with kind := .primitive 'Z', accessFlags := 0x411 }
/-- [Z -/
def k6 : Class := { plain "[Z" (some 0) with kind := .array 5 .boolean, interfaces := #[3, 4], accessFlags := 1041 }

/-- the primitive byte -/
def k7 : Class := { plain "byte" none with kind := .primitive 'B', accessFlags := 0x411 }
/-- [B -/
def k8 : Class := { plain "[B" (some 0) with kind := .array 7 .byte, interfaces := #[3, 4], accessFlags := 1041 }

/-- the primitive int -/
def k9 : Class := { plain "int" none with kind := .primitive 'I', accessFlags := 0x411 }
/-- [I -/
def k10 : Class := { plain "[I" (some 0) with kind := .array 9 .int, interfaces := #[3, 4], accessFlags := 1041 }

def heap : Heap := #[]
def classes : Array Class := #[k0, k1, k2, k3, k4, k5, k6, k7, k8, k9, k10]
def interned : List (Array UInt16 × Addr) := []
def slotsUsed : Nat := 0
def theMethod : MethodId := ⟨1, 2⟩
def args0 : Array Value := #[.int 5, .int 3, .int 4]
def aboutOver (below : List Frame) : State where
  vm := { classes := classes, interned := interned.toArray }
  heap := heap
  slotsUsed := slotsUsed
  threads := #[{ frames := .invoking theMethod args0 :: below }]
def below0 : List Frame := [.native { method := ⟨0, 0⟩, args := #[] }]
def about1 : State := aboutOver below0
def p0 : Program := .bare "" "" ""
def e0 : Env := launch0.env 0 0 0
theorem w_frames : about1.frames = Frame.invoking theMethod args0 :: below0 := rfl
set_option maxRecDepth 65536 in
theorem w_args : argsFit about1.vm theMethod args0 = true := by decide +kernel
set_option maxRecDepth 65536 in
theorem w_heap : heapFits about1 = true := by decide +kernel
set_option maxRecDepth 65536 in
theorem w_runnable : about1.curStatus? = some .runnable := by decide +kernel
set_option maxRecDepth 65536 in
theorem w_alone : about1.alone = true := by decide +kernel
set_option maxRecDepth 65536 in
theorem w_named : about1.methodNamed? x = some theMethod := by decide +kernel
set_option maxRecDepth 65536 in
theorem w_hears : about1.hears theMethod below0 = true := by decide +kernel
set_option maxRecDepth 65536 in
theorem w_ripe : about1.ripe theMethod args0 below0 = true := by decide +kernel
theorem w_running : about1.status = .running := rfl
set_option maxRecDepth 65536 in
theorem w_room : about1.hasRoom e0.platform room_1 = true :=
  launch0.hasRoom_least _ room_1 (by decide +kernel) (by decide +kernel) (by decide +kernel) (by decide +kernel) (by decide +kernel) (by decide +kernel)
theorem allAtoms_all (ts : List Jvm.Cond) (a : Array Jvm.Value) (st : Jvm.State) : (allAtoms ts).before a st = ts.all (fun c => c.before a st) := by
  induction ts with
  | nil => rfl
  | cons c t ih =>
    show (Jvm.Cond.and c (allAtoms t)).before a st = _
    rw [Jvm.Cond.before_and, ih, List.all_cons]
def words1 : List Jvm.Cond := Jvm.Cond.code x code maxLocals ret :: tables_1
/-- a 'code' word, met by the world's own term for the bytes: nothing is compared byte by byte -/
theorem code_word {y : MethodName} {bytes : ByteArray} {mx : Nat} {rt : Option FieldType} {a : Array Value} {s : State} {m : MethodId} {meth : Method} {c : Code} (h1 : s.methodNamed? y = some m) (h2 : s.vm.method? m = some meth) (h3 : meth.code = some c) (h4 : c.code = bytes)
    (h5 : (c.maxLocals == mx && c.exceptionTable.isEmpty && decide (c.maxStack ≤ mostOperands) && decide (meth.sig.returnType = rt) && !meth.locks && decide (parseMethodDescriptor y.desc = some meth.sig)) = true) : (Jvm.Cond.code y bytes mx rt).before a s = true := by
  simp only [Bool.and_eq_true, beq_iff_eq, Bool.not_eq_true', decide_eq_true_eq] at h5
  obtain ⟨⟨⟨⟨⟨g1, g2⟩, g3⟩, g4⟩, g5⟩, g6⟩ := h5
  simp [Cond.before, Cond.holds, Cond.value, h1, h2, h3, h4, g1, g2, g3, g4, g5, g6]
def isCode : Jvm.Cond → Bool
  | .code _ _ _ _ => true
  | _ => false
theorem all_split {L : List Jvm.Cond} {P : Jvm.Cond → Bool} (h1 : L.all (fun c => isCode c || P c) = true) (h2 : ∀ c ∈ L.filter isCode, P c = true) : L.all P = true := by
  refine List.all_eq_true.mpr fun c hc => ?_
  have h := List.all_eq_true.mp h1 c hc
  rcases Bool.eq_false_or_eq_true (isCode c) with hi | hi
  · exact h2 c (List.mem_filter.mpr ⟨hc, hi⟩)
  · simpa [hi] using h
set_option maxRecDepth 65536 in
theorem w_c0 : (Jvm.Cond.code x code maxLocals ret).before args0 about1 = true := code_word (m := ⟨1, 2⟩) (meth := k1m2) (c := k1c2) (by decide +kernel) rfl rfl rfl (by decide +kernel)
set_option maxRecDepth 65536 in
theorem w_c1 : (Jvm.Cond.code ({ cls := "com/example/tresse/tresse/rwlock/Flags", name := "<init>", desc := "(I)V" } : Jvm.MethodName) prog_102_method_1_code (2 : Nat) (Option.none : Option Jvm.ClassFile.FieldType)).before args0 about1 = true := code_word (m := ⟨2, 0⟩) (meth := k2m0) (c := k2c0) (by decide +kernel) rfl rfl rfl (by decide +kernel)
set_option maxRecDepth 65536 in
theorem w_c2 : (Jvm.Cond.code ({ cls := "java/lang/Object", name := "<init>", desc := "()V" } : Jvm.MethodName) object_method_1_code (1 : Nat) (Option.none : Option Jvm.ClassFile.FieldType)).before args0 about1 = true := code_word (m := ⟨0, 0⟩) (meth := k0m0) (c := k0c0) (by decide +kernel) rfl rfl rfl (by decide +kernel)
set_option maxRecDepth 65536 in
theorem w_c3 : (Jvm.Cond.code ({ cls := "com/example/tresse/tresse/rwlock/Flags", name := "countTrue", desc := "()I" } : Jvm.MethodName) prog_102_method_3_code (6 : Nat) (Option.some Jvm.ClassFile.FieldType.int)).before args0 about1 = true := code_word (m := ⟨2, 1⟩) (meth := k2m1) (c := k2c1) (by decide +kernel) rfl rfl rfl (by decide +kernel)
set_option maxRecDepth 65536 in
theorem w_c4 : (Jvm.Cond.code ({ cls := "com/example/tresse/tresse/rwlock/FlagsCountTruePinLaw", name := "bit", desc := "(II)I" } : Jvm.MethodName) method_2_code (2 : Nat) (Option.some Jvm.ClassFile.FieldType.int)).before args0 about1 = true := code_word (m := ⟨1, 1⟩) (meth := k1m1) (c := k1c1) (by decide +kernel) rfl rfl rfl (by decide +kernel)
set_option maxRecDepth 65536 in
theorem w_c5 : (Jvm.Cond.code ({ cls := "com/example/tresse/tresse/rwlock/Flags", name := "set", desc := "(IZ)V" } : Jvm.MethodName) prog_102_method_4_code (3 : Nat) (Option.none : Option Jvm.ClassFile.FieldType)).before args0 about1 = true := code_word (m := ⟨2, 2⟩) (meth := k2m2) (c := k2c2) (by decide +kernel) rfl rfl rfl (by decide +kernel)
def codes1 : List Jvm.Cond := [Jvm.Cond.code x code maxLocals ret, Jvm.Cond.code ({ cls := "com/example/tresse/tresse/rwlock/Flags", name := "<init>", desc := "(I)V" } : Jvm.MethodName) prog_102_method_1_code (2 : Nat) (Option.none : Option Jvm.ClassFile.FieldType), Jvm.Cond.code ({ cls := "java/lang/Object", name := "<init>", desc := "()V" } : Jvm.MethodName) object_method_1_code (1 : Nat) (Option.none : Option Jvm.ClassFile.FieldType), Jvm.Cond.code ({ cls := "com/example/tresse/tresse/rwlock/Flags", name := "countTrue", desc := "()I" } : Jvm.MethodName) prog_102_method_3_code (6 : Nat) (Option.some Jvm.ClassFile.FieldType.int), Jvm.Cond.code ({ cls := "com/example/tresse/tresse/rwlock/FlagsCountTruePinLaw", name := "bit", desc := "(II)I" } : Jvm.MethodName) method_2_code (2 : Nat) (Option.some Jvm.ClassFile.FieldType.int), Jvm.Cond.code ({ cls := "com/example/tresse/tresse/rwlock/Flags", name := "set", desc := "(IZ)V" } : Jvm.MethodName) prog_102_method_4_code (3 : Nat) (Option.none : Option Jvm.ClassFile.FieldType)]
set_option maxRecDepth 65536 in
theorem codes_eq : words1.filter isCode = codes1 := rfl
theorem w_codes : ∀ c ∈ words1.filter isCode, c.before args0 about1 = true := by
  rw [codes_eq]
  intro c hc
  simp only [codes1, List.mem_cons, List.not_mem_nil, or_false] at hc
  rcases hc with rfl | rfl | rfl | rfl | rfl | rfl
  · exact w_c0
  · exact w_c1
  · exact w_c2
  · exact w_c3
  · exact w_c4
  · exact w_c5
set_option maxRecDepth 65536 in
theorem w_t1 : (words1.take 24).all (fun c => isCode c || c.before args0 about1) = true := by decide +kernel
set_option maxRecDepth 65536 in
theorem w_t2 : (words1.drop 24).all (fun c => isCode c || c.before args0 about1) = true := by decide +kernel
theorem w_tables : (allAtoms (Jvm.Cond.code x code maxLocals ret :: tables_1)).before args0 about1 = true := by
  rw [allAtoms_all]
  show words1.all (fun c => c.before args0 about1) = true
  refine all_split ?_ w_codes
  rw [← List.take_append_drop 24 words1, List.all_append, w_t1, w_t2]
  rfl
set_option maxRecDepth 65536 in
theorem w_case : (Jvm.Cond.and given_1 narrow_1).before args0 about1 = true := by decide +kernel
theorem w_applies : (headSpec (Jvm.Cond.code x code maxLocals ret :: tables_1) room_1).applies x e0.platform about1 = true :=
  (Spec.applies_iff w_frames).mpr ⟨w_running, w_runnable, w_alone, w_named, w_hears, w_ripe, w_room, w_tables⟩
theorem atStart : AtStart classFile x code maxLocals ret World_1 tables_1 room_1 Calls_1 rest_1 Pre_1 launch0 p0 e0 about1 theMethod args0 below0 :=
  ⟨lists_1, trivial, launch0.admits_env _ _ _, launch0.least_env, fairChoices_fair.cas, fairChoices_fair.clock, w_frames, w_args, w_heap, w_applies, trivial, trivial, w_case⟩
end start1
theorem witness_1 : WitnessClaimed_1 := ⟨start1.p0, start1.e0, start1.about1, start1.theMethod, start1.args0, start1.below0, start1.atStart⟩
end Jvm.Pilot.@@N@@
