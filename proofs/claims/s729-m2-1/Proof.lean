import JvmDerived
import JvmDerived.Pilot.@@N@@Statement
import JvmDerived.Pilot.@@N@@Code
set_option linter.unusedVariables false
set_option linter.unusedSimpArgs false
namespace Jvm.RoadKit
open Sem ClassFile Op Lib Jvm.Stand Jvm.Free Jvm.LawKit
section New
variable {p : Program} {l : Launch} {e : Env} {R : Room} {s : State} {m : MethodId} {args : Array Value} {below : List Frame} {meth : Method} {c : Code} {T : State} {locs : List Loc} {cells slots : Nat}
theorem retI (X : Stand p l e R s m args below meth c T locs cells slots) (hx : p.tables.exec = Jvm.exec) {pc : Nat} {Ls : Array Slot} {z : Int32} {rest : List Value} (hret : meth.sig.returnType = some .int) (hd : decode c.code pc = .ok (.ireturn, 1)) {fs : List Frame}
    (hl : ∀ (f : JFrame) (acts : List Action), f.method = m → f.locked = none → f.entered = [] → (doReturn e (T.setTop f) acts (some (.int z))).1 = T.setFrames fs) : Steps p.tables e below (T.setTop (mkF m pc Ls (.int z :: rest))) (T.setFrames fs) := by
  have hm' : T.vm.method? m = some meth := X.method'
  have hn : narrow .int (.int z) = .int z := rfl
  show Steps p.tables e below (T.setTop { method := m, pc := pc, locals := Ls, stack := _ :: rest, locked := none }) _
  jvm_step X.here [X.here.top, hx, hd, hm', hret, hn]
  first | (intro acts; rw [hl _ acts rfl rfl rfl]) | rw [hl _ _ rfl rfl rfl]
  exact Steps.refl _
end New
end Jvm.RoadKit
namespace Jvm.Pilot.@@N@@
open Jvm Jvm.ClassFile Sem Op Lib Jvm.Free Jvm.Stand Jvm.LawKit Jvm.RoadKit Bundle Jvm.Pilot.@@N@@.Jvm.D
set_option maxRecDepth 65536
set_option maxHeartbeats 40000000
abbrev SG (p : Program) (e : Env) (below : List Frame) (g t : State) : Prop := Steps p.tables e below g t
abbrev Sp (p : Program) (e : Env) (below : List Frame) (m : MethodId) (T : State) (pc : Nat) (L : Array Slot) (S : List Value) (t : State) : Prop := Steps p.tables e below (T.setTop (mkF m pc L S)) t
theorem own_shr0 (z : Int32) : z >>> ((0 : Int32) &&& 31) = z := by
  apply Int32.toInt_inj.mp
  rw [c_ishr z 0 0 (by decide)]; omega
def own_lat (b : Int32) : Int32 := nar .char ((b &&& (255 : Int32)).toUInt32.toUInt16.toUInt32.toInt32)
theorem own_rt (c : Int32) (h : 0 ≤ c.toInt ∧ c.toInt ≤ 255) : own_lat (nar .byte (c.toInt8.toInt32)) = c := by
  apply Int32.toInt_inj.mp
  have h1 := c_i2b c
  have h2 := c_i2b (c.toInt8.toInt32)
  have h3 := c_mask (c.toInt8.toInt32.toInt8.toInt32) 255 8 (by decide) (by decide)
  have h4 := c_i2c (c.toInt8.toInt32.toInt8.toInt32 &&& 255)
  have h5 := c_i2c ((c.toInt8.toInt32.toInt8.toInt32 &&& 255).toUInt32.toUInt16.toUInt32.toInt32)
  show ((c.toInt8.toInt32.toInt8.toInt32 &&& 255).toUInt32.toUInt16.toUInt32.toInt32).toUInt32.toUInt16.toUInt32.toInt32.toInt = c.toInt
  omega
theorem own_eqi {a : Term} {k : Int32} {args : Array Value} {first s : State} {o : Option Outcome} {idx : List Nat} (h : (Jvm.Cond.eq a (.int k)).value args first o s idx = some true) : a.eval args first o idx s = some (.int k) := by
  obtain ⟨x, y, hx, hy, -, kin⟩ := cmp_v (Or.inl h)
  have e : y = .int k := Option.some.inj (hy.symm.trans (Term.int_eval k))
  subst e
  obtain ⟨z, rfl⟩ := kin
  have := gotT (Cond.eq_ints hx hy) h
  rw [hx, this]
def own_dg (c : Int32) : Int32 := if c < 48 then 0 else if 57 < c then 0 else 1
theorem own_dg01 (c : Int32) : own_dg c = 0 ∨ own_dg c = 1 := by
  unfold own_dg
  by_cases a : c < 48
  · rw [if_pos a]; exact Or.inl rfl
  · by_cases b : 57 < c
    · rw [if_neg a, if_pos b]; exact Or.inl rfl
    · rw [if_neg a, if_neg b]; exact Or.inr rfl
def own_ok (c i f t : Int32) : Int32 := if i < f then 1 else if i < t then own_dg c else 1
theorem own_nc (x : Int32) : 0 ≤ (nar .char x).toInt ∧ (nar .char x).toInt ≤ 65535 := by
  have h := c_i2c x
  show 0 ≤ x.toUInt32.toUInt16.toUInt32.toInt32.toInt ∧ x.toUInt32.toUInt16.toUInt32.toInt32.toInt ≤ 65535
  omega
theorem own_lo (c : Int32) (h : 0 ≤ c.toInt ∧ c.toInt ≤ 65535) : ((nar .byte ((c >>> ((0 : Int32) &&& 31)).toInt8.toInt32)) &&& 255).toInt = c.toInt % 256 := by
  have h0 := c_ishr c 0 0 (by decide)
  have h1 := c_i2b (c >>> ((0 : Int32) &&& 31))
  have h2 := c_i2b ((c >>> ((0 : Int32) &&& 31)).toInt8.toInt32)
  have h3 := c_mask ((c >>> ((0 : Int32) &&& 31)).toInt8.toInt32.toInt8.toInt32) 255 8 (by decide) (by decide)
  show ((c >>> ((0 : Int32) &&& 31)).toInt8.toInt32.toInt8.toInt32 &&& 255).toInt = _
  omega
theorem own_hi (c : Int32) (h : 0 ≤ c.toInt ∧ c.toInt ≤ 65535) : ((nar .byte ((c >>> ((8 : Int32) &&& 31)).toInt8.toInt32)) &&& 255).toInt = c.toInt / 256 := by
  have h0 := c_ishr c 8 8 (by decide)
  have h1 := c_i2b (c >>> ((8 : Int32) &&& 31))
  have h2 := c_i2b ((c >>> ((8 : Int32) &&& 31)).toInt8.toInt32)
  have h3 := c_mask ((c >>> ((8 : Int32) &&& 31)).toInt8.toInt32.toInt8.toInt32) 255 8 (by decide) (by decide)
  show ((c >>> ((8 : Int32) &&& 31)).toInt8.toInt32.toInt8.toInt32 &&& 255).toInt = _
  omega
theorem own_gc0 (c x y : Int32) (h : 0 ≤ c.toInt ∧ c.toInt ≤ 65535) (hx : x.toInt = c.toInt % 256) (hy : y.toInt = c.toInt / 256) : nar .char (((x <<< ((0 : Int32) &&& 31)) ||| (y <<< ((8 : Int32) &&& 31))).toUInt32.toUInt16.toUInt32.toInt32) = c := by
  have h1 := c_ishl x 0 0 (by decide)
  have h2 := c_ishl y 8 8 (by decide)
  have r1 := rng32 (x <<< ((0 : Int32) &&& 31))
  have r2 := rng32 (y <<< ((8 : Int32) &&& 31))
  generalize x <<< ((0 : Int32) &&& 31) = u at *
  generalize y <<< ((8 : Int32) &&& 31) = w at *
  have h3 := c_or' u w 8 (by decide) 256 rfl (by omega) (by omega) (by omega)
  have r3 := rng32 (u ||| w)
  generalize u ||| w = z at *
  have h4 := c_i2c z
  have h5 := c_i2c (z.toUInt32.toUInt16.toUInt32.toInt32)
  apply Int32.toInt_inj.mp
  show (z.toUInt32.toUInt16.toUInt32.toInt32).toUInt32.toUInt16.toUInt32.toInt32.toInt = c.toInt
  omega
theorem own_gc (c : Int32) (h : 0 ≤ c.toInt ∧ c.toInt ≤ 65535) : nar .char (((((nar .byte ((c >>> ((0 : Int32) &&& 31)).toInt8.toInt32)) &&& (255 : Int32)) <<< ((0 : Int32) &&& 31)) ||| (((nar .byte ((c >>> ((8 : Int32) &&& 31)).toInt8.toInt32)) &&& (255 : Int32)) <<< ((8 : Int32) &&& 31))).toUInt32.toUInt16.toUInt32.toInt32) = c := own_gc0 c _ _ h (own_lo c h) (own_hi c h)
theorem own_ncc (c : Int32) (h : 0 ≤ c.toInt ∧ c.toInt ≤ 65535) : nar .char c = c := by
  apply Int32.toInt_inj.mp
  have h1 := c_i2c c
  show c.toUInt32.toUInt16.toUInt32.toInt32.toInt = c.toInt
  omega
theorem own_big {c : Int32} (h : ¬ (0 ≤ c.toInt ∧ c.toInt ≤ 255)) (h2 : 0 ≤ c.toInt ∧ c.toInt ≤ 65535) : (255 : Int32) < c := by
  rw [Int32.lt_iff_toInt_lt, show (255 : Int32).toInt = 255 from by decide]; omega
theorem own_small {c : Int32} (h : ¬ (255 : Int32) < c) (h2 : 0 ≤ c.toInt ∧ c.toInt ≤ 65535) : 0 ≤ c.toInt ∧ c.toInt ≤ 255 := by
  rw [Int32.lt_iff_toInt_lt, show (255 : Int32).toInt = 255 from by decide] at h; omega
def own_str (Z : State) (h : Heap) (a b : Addr) (k : ClassId) (cc0 cc1 cc2 cc3 : Int32) : Prop :=
  (Fld Z h a "java/lang/String" "coder" "B" (.int (0 : Int32)) ∧ Arv Z h b k .byte (4 : Int32) [(.int (nar .byte (cc0.toInt8.toInt32))), (.int (nar .byte (cc1.toInt8.toInt32))), (.int (nar .byte (cc2.toInt8.toInt32))), (.int (nar .byte (cc3.toInt8.toInt32)))] (.int (0 : Int32)) ∧ (0 ≤ cc0.toInt ∧ cc0.toInt ≤ 255) ∧ (0 ≤ cc1.toInt ∧ cc1.toInt ≤ 255) ∧ (0 ≤ cc2.toInt ∧ cc2.toInt ≤ 255) ∧ (0 ≤ cc3.toInt ∧ cc3.toInt ≤ 255)) ∨ (Fld Z h a "java/lang/String" "coder" "B" (.int (1 : Int32)) ∧ Arv Z h b k .byte (8 : Int32) [(.int (nar .byte ((cc0 >>> ((0 : Int32) &&& 31)).toInt8.toInt32))), (.int (nar .byte ((cc0 >>> ((8 : Int32) &&& 31)).toInt8.toInt32))), (.int (nar .byte ((cc1 >>> ((0 : Int32) &&& 31)).toInt8.toInt32))), (.int (nar .byte ((cc1 >>> ((8 : Int32) &&& 31)).toInt8.toInt32))), (.int (nar .byte ((cc2 >>> ((0 : Int32) &&& 31)).toInt8.toInt32))), (.int (nar .byte ((cc2 >>> ((8 : Int32) &&& 31)).toInt8.toInt32))), (.int (nar .byte ((cc3 >>> ((0 : Int32) &&& 31)).toInt8.toInt32))), (.int (nar .byte ((cc3 >>> ((8 : Int32) &&& 31)).toInt8.toInt32)))] (.int (0 : Int32)))
theorem own_le255 {c : Int32} (h : 0 ≤ c.toInt ∧ c.toInt ≤ 255) : ¬ (255 : Int32) < c := by
  rw [Int32.lt_iff_toInt_lt, show (255 : Int32).toInt = 255 from by decide]; omega
theorem d6_0 : decode jdk_52_method_21_code 0 = .ok (.iconst 0, 1) := by decide +kernel
theorem d6_1 : decode jdk_52_method_21_code 1 = .ok (.istore 5, 2) := by decide +kernel
theorem d6_3 : decode jdk_52_method_21_code 3 = .ok (.iload 5, 2) := by decide +kernel
theorem d6_5 : decode jdk_52_method_21_code 5 = .ok (.iload 4, 2) := by decide +kernel
theorem d6_7 : decode jdk_52_method_21_code 7 = .ok (.if_icmp .ge 37, 3) := by decide +kernel
theorem d6_10 : decode jdk_52_method_21_code 10 = .ok (.aload_n 0, 1) := by decide +kernel
theorem d6_11 : decode jdk_52_method_21_code 11 = .ok (.iload_n 1, 1) := by decide +kernel
theorem d6_12 : decode jdk_52_method_21_code 12 = .ok (.caload, 1) := by decide +kernel
theorem d6_13 : decode jdk_52_method_21_code 13 = .ok (.istore 6, 2) := by decide +kernel
theorem d6_15 : decode jdk_52_method_21_code 15 = .ok (.iload 6, 2) := by decide +kernel
theorem d6_17 : decode jdk_52_method_21_code 17 = .ok (.sipush 255, 3) := by decide +kernel
theorem d6_20 : decode jdk_52_method_21_code 20 = .ok (.if_icmp .le 6, 3) := by decide +kernel
theorem d6_26 : decode jdk_52_method_21_code 26 = .ok (.aload_n 2, 1) := by decide +kernel
theorem d6_27 : decode jdk_52_method_21_code 27 = .ok (.iload_n 3, 1) := by decide +kernel
theorem d6_28 : decode jdk_52_method_21_code 28 = .ok (.iload 6, 2) := by decide +kernel
theorem d6_30 : decode jdk_52_method_21_code 30 = .ok (.i2b, 1) := by decide +kernel
theorem d6_31 : decode jdk_52_method_21_code 31 = .ok (.bastore, 1) := by decide +kernel
theorem d6_32 : decode jdk_52_method_21_code 32 = .ok (.iinc 1 1, 3) := by decide +kernel
theorem d6_35 : decode jdk_52_method_21_code 35 = .ok (.iinc 3 1, 3) := by decide +kernel
theorem d6_38 : decode jdk_52_method_21_code 38 = .ok (.iinc 5 1, 3) := by decide +kernel
theorem d6_41 : decode jdk_52_method_21_code 41 = .ok (.goto (-38), 3) := by decide +kernel
theorem d6_44 : decode jdk_52_method_21_code 44 = .ok (.iload 4, 2) := by decide +kernel
theorem d6_46 : decode jdk_52_method_21_code 46 = .ok (.ireturn, 1) := by decide +kernel
theorem own_pn23 : plainName "java/lang/StringUTF16" = true := by first | (simp [plainName, overriddenIn]; done) | decide +kernel
theorem ef_6n4 (m : MethodId) (x0 : Addr) (x2 : Addr) : entryFrame m #[(.ref x0), (.int (0 : Int32)), (.ref x2), (.int (0 : Int32)), (.int (4 : Int32))] 7 = mkF m 0 #[.val (.ref x0), .val (.int (0 : Int32)), .val (.ref x2), .val (.int (0 : Int32)), .val (.int (4 : Int32)), .unset, .unset] [] := by first | (simp [entryFrame, mkF, argsToLocals, Value.category]; done) | rfl
def Q6n4 (Z : State) (ac : Addr) (ab : Addr) (kc : ClassId) (cc0 : Int32) (cc1 : Int32) (cc2 : Int32) (cc3 : Int32) (kb : ClassId) (h0 : Heap) (n0 : Nat) (v : Option Value) (h : Heap) (L : List Loc) : Prop := v = some (.int (4 : Int32)) ∧ Fr n0 L ∧ Keep h0 h [ab] ∧ Arv Z h ab kb .byte (4 : Int32) [(.int (nar .byte (cc0.toInt8.toInt32))), (.int (nar .byte (cc1.toInt8.toInt32))), (.int (nar .byte (cc2.toInt8.toInt32))), (.int (nar .byte (cc3.toInt8.toInt32)))] (.int (0 : Int32))
theorem rm6n4 (l : Launch) (Z : State) (a0 : Array Value) (hw : ∀ d ∈ tables_1, d.before a0 Z = true) (ws : List Jvm.Cond) (ac : Addr) (ab : Addr) (kc : ClassId) (cc0 : Int32) (cc1 : Int32) (cc2 : Int32) (cc3 : Int32) (kb : ClassId) (h0 : Heap) (n0 : Nat) (Z0 : n0 ≤ h0.size) (Vc : Arv Z h0 ac kc .char (4 : Int32) [(.int cc0), (.int cc1), (.int cc2), (.int cc3)] (.int (0 : Int32))) (Vb : Arv Z h0 ab kb .byte (4 : Int32) [(.int (0 : Int32)), (.int (0 : Int32)), (.int (0 : Int32)), (.int (0 : Int32))] (.int (0 : Int32))) (g_ab : n0 ≤ ab) (nab : ac ≠ ab) (hp0 : 0 ≤ cc0.toInt ∧ cc0.toInt ≤ 255) (hp1 : 0 ≤ cc1.toInt ∧ cc1.toInt ≤ 255) (hp2 : 0 ≤ cc2.toInt ∧ cc2.toInt ≤ 255) (hp3 : 0 ≤ cc3.toInt ∧ cc3.toInt ≤ 255) :
    MetFree l (⟨"java/lang/StringUTF16", "compress", "([CI[BII)I"⟩ : MethodName) (head1 (Jvm.Cond.code (⟨"java/lang/StringUTF16", "compress", "([CI[BII)I"⟩ : MethodName) jdk_52_method_21_code 7 (some .int) :: ws) ({ frames := 0, cells := 0, slots := 0, locals := 0 } : Room)) (fun a U => a = #[(.ref ac), (.int (0 : Int32)), (.ref ab), (.int (0 : Int32)), (.int (4 : Int32))] ∧ Z.Warmed39 U.vm ∧ U.heap = h0) (fun _ _ _ _ _ => True) (fun _ U o U' => ∃ v L, o = .returned v ∧ Q6n4 Z ac ab kc cc0 cc1 cc2 cc3 kb h0 n0 v U'.heap L ∧ FrameEnd U o U' L ({ frames := 0, cells := 0, slots := 0, locals := 0 } : Room).cells ({ frames := 0, cells := 0, slots := 0, locals := 0 } : Room).slots) := by
  refine MetFree.of_bodySF (plainFor_of_name own_pn23) hisR ?_
  intro p e s m args below meth c s₁ Bd hml0 hP hK
  have H := fun i c (h : tables_1[i]? = some c) => hw c (List.mem_of_getElem? h)
  obtain ⟨rfl, hZ, hh⟩ := hP
  have hx := Bd.exec
  have hby := Bd.bytes
  have hml : c.maxLocals = 7 := hml0
  have hown : s.vm.findClass "java/lang/StringUTF16" = some m.cls := findClass_of_methodNamed Bd.named
  have hnm := (name_of_methodNamed Bd.named Bd.method).1
  have X0 : Stand p l e ({ frames := 0, cells := 0, slots := 0, locals := 0 } : Room) s m #[(.ref ac), (.int (0 : Int32)), (.ref ab), (.int (0 : Int32)), (.int (4 : Int32))] below meth c s₁ [] 0 0 := Stand.of_body Bd
  have e0 : s₁.heap = h0 := by rw [← hh, Bd.state]; rfl
  have N0 := Fr.nil n0
  have pre0 : ∀ t, Sp p e below m s₁ 0 #[.val (.ref ac), .val (.int (0 : Int32)), .val (.ref ab), .val (.int (0 : Int32)), .val (.int (4 : Int32)), .unset, .unset] [] t → Steps p.tables e below (s₁.setTop (entryFrame m #[(.ref ac), (.int (0 : Int32)), (.ref ab), (.int (0 : Int32)), (.int (4 : Int32))] 7)) t := fun t k => castTop (ef_6n4 m ac ab) k
  generalize s₁.setTop (entryFrame m #[(.ref ac), (.int (0 : Int32)), (.ref ab), (.int (0 : Int32)), (.int (4 : Int32))] 7) = G0 at pre0 ⊢
  obtain ⟨cl17, Ar17, -, S17, -, H17, -⟩ := id Vc
  have hin17 : ¬ ((0 : Int32) < 0 ∨ cl17.slots.size ≤ ((0 : Int32)).toNatClampNeg) := inb_of S17 ⟨by decide, by decide⟩
  have hat17 : cl17.slots[((0 : Int32)).toNatClampNeg]? = some (.int cc0) := H17.at hin17 rfl
  obtain ⟨cl18, Ar18, q18, S18, N18, H18, G18⟩ := id Vb
  have hin18 : ¬ ((0 : Int32) < 0 ∨ cl18.slots.size ≤ ((0 : Int32)).toNatClampNeg) := inb_of S18 ⟨by decide, by decide⟩
  obtain ⟨T19, h19, X19, e19, W19, st19⟩ := stB X0 hx hZ e0 Ar18 (j := (0 : Int32)) hin18 (g := (mkF m 31 #[.val (.ref ac), .val (.int (0 : Int32)), .val (.ref ab), .val (.int (0 : Int32)), .val (.int (4 : Int32)), .val (.int (0 : Int32)), .val (.int cc0)] [(.int (cc0.toInt8.toInt32)), (.int (0 : Int32)), (.ref ab)])) rfl rfl (hb hby d6_31)
  have V19 : Arv Z h19 ab kb .byte (4 : Int32) [(.int (nar .byte (cc0.toInt8.toInt32))), (.int (0 : Int32)), (.int (0 : Int32)), (.int (0 : Int32))] (.int (0 : Int32)) := Arv.set Ar18 q18 S18 N18 H18 G18 (fits_nar_byte (cc0.toInt8.toInt32)) W19 0 rfl (Nat.le_of_ble_eq_true rfl)
  have N19 := Fr.snoc X19 N0 g_ab
  have Zs19 : n0 ≤ h19.size := Nat.le_trans Z0 (Keep.of_wr W19).1
  have KK19 : Keep h0 h19 [ab] := (Keep.refl h0 _).wr W19 (Or.inl (List.mem_of_getElem? (i := 0) rfl))
  have f20 := Vc.other W19 nab
  obtain ⟨cl21, Ar21, -, S21, -, H21, -⟩ := id f20
  have hin21 : ¬ ((1 : Int32) < 0 ∨ cl21.slots.size ≤ ((1 : Int32)).toNatClampNeg) := inb_of S21 ⟨by decide, by decide⟩
  have hat21 : cl21.slots[((1 : Int32)).toNatClampNeg]? = some (.int cc1) := H21.at hin21 rfl
  obtain ⟨cl22, Ar22, q22, S22, N22, H22, G22⟩ := id V19
  have hin22 : ¬ ((1 : Int32) < 0 ∨ cl22.slots.size ≤ ((1 : Int32)).toNatClampNeg) := inb_of S22 ⟨by decide, by decide⟩
  obtain ⟨T23, h23, X23, e23, W23, st23⟩ := stB X19 hx hZ e19 Ar22 (j := (1 : Int32)) hin22 (g := (mkF m 31 #[.val (.ref ac), .val (.int (1 : Int32)), .val (.ref ab), .val (.int (1 : Int32)), .val (.int (4 : Int32)), .val (.int (1 : Int32)), .val (.int cc1)] [(.int (cc1.toInt8.toInt32)), (.int (1 : Int32)), (.ref ab)])) rfl rfl (hb hby d6_31)
  have V23 : Arv Z h23 ab kb .byte (4 : Int32) [(.int (nar .byte (cc0.toInt8.toInt32))), (.int (nar .byte (cc1.toInt8.toInt32))), (.int (0 : Int32)), (.int (0 : Int32))] (.int (0 : Int32)) := Arv.set Ar22 q22 S22 N22 H22 G22 (fits_nar_byte (cc1.toInt8.toInt32)) W23 1 rfl (Nat.le_of_ble_eq_true rfl)
  have N23 := Fr.snoc X23 N19 g_ab
  have Zs23 : n0 ≤ h23.size := Nat.le_trans Zs19 (Keep.of_wr W23).1
  have KK23 : Keep h0 h23 [ab] := KK19.wr W23 (Or.inl (List.mem_of_getElem? (i := 0) rfl))
  have f24 := f20.other W23 nab
  obtain ⟨cl25, Ar25, -, S25, -, H25, -⟩ := id f24
  have hin25 : ¬ ((2 : Int32) < 0 ∨ cl25.slots.size ≤ ((2 : Int32)).toNatClampNeg) := inb_of S25 ⟨by decide, by decide⟩
  have hat25 : cl25.slots[((2 : Int32)).toNatClampNeg]? = some (.int cc2) := H25.at hin25 rfl
  obtain ⟨cl26, Ar26, q26, S26, N26, H26, G26⟩ := id V23
  have hin26 : ¬ ((2 : Int32) < 0 ∨ cl26.slots.size ≤ ((2 : Int32)).toNatClampNeg) := inb_of S26 ⟨by decide, by decide⟩
  obtain ⟨T27, h27, X27, e27, W27, st27⟩ := stB X23 hx hZ e23 Ar26 (j := (2 : Int32)) hin26 (g := (mkF m 31 #[.val (.ref ac), .val (.int (2 : Int32)), .val (.ref ab), .val (.int (2 : Int32)), .val (.int (4 : Int32)), .val (.int (2 : Int32)), .val (.int cc2)] [(.int (cc2.toInt8.toInt32)), (.int (2 : Int32)), (.ref ab)])) rfl rfl (hb hby d6_31)
  have V27 : Arv Z h27 ab kb .byte (4 : Int32) [(.int (nar .byte (cc0.toInt8.toInt32))), (.int (nar .byte (cc1.toInt8.toInt32))), (.int (nar .byte (cc2.toInt8.toInt32))), (.int (0 : Int32))] (.int (0 : Int32)) := Arv.set Ar26 q26 S26 N26 H26 G26 (fits_nar_byte (cc2.toInt8.toInt32)) W27 2 rfl (Nat.le_of_ble_eq_true rfl)
  have N27 := Fr.snoc X27 N23 g_ab
  have Zs27 : n0 ≤ h27.size := Nat.le_trans Zs23 (Keep.of_wr W27).1
  have KK27 : Keep h0 h27 [ab] := KK23.wr W27 (Or.inl (List.mem_of_getElem? (i := 0) rfl))
  have f28 := f24.other W27 nab
  obtain ⟨cl29, Ar29, -, S29, -, H29, -⟩ := id f28
  have hin29 : ¬ ((3 : Int32) < 0 ∨ cl29.slots.size ≤ ((3 : Int32)).toNatClampNeg) := inb_of S29 ⟨by decide, by decide⟩
  have hat29 : cl29.slots[((3 : Int32)).toNatClampNeg]? = some (.int cc3) := H29.at hin29 rfl
  obtain ⟨cl30, Ar30, q30, S30, N30, H30, G30⟩ := id V27
  have hin30 : ¬ ((3 : Int32) < 0 ∨ cl30.slots.size ≤ ((3 : Int32)).toNatClampNeg) := inb_of S30 ⟨by decide, by decide⟩
  obtain ⟨T31, h31, X31, e31, W31, st31⟩ := stB X27 hx hZ e27 Ar30 (j := (3 : Int32)) hin30 (g := (mkF m 31 #[.val (.ref ac), .val (.int (3 : Int32)), .val (.ref ab), .val (.int (3 : Int32)), .val (.int (4 : Int32)), .val (.int (3 : Int32)), .val (.int cc3)] [(.int (cc3.toInt8.toInt32)), (.int (3 : Int32)), (.ref ab)])) rfl rfl (hb hby d6_31)
  have V31 : Arv Z h31 ab kb .byte (4 : Int32) [(.int (nar .byte (cc0.toInt8.toInt32))), (.int (nar .byte (cc1.toInt8.toInt32))), (.int (nar .byte (cc2.toInt8.toInt32))), (.int (nar .byte (cc3.toInt8.toInt32)))] (.int (0 : Int32)) := Arv.set Ar30 q30 S30 N30 H30 G30 (fits_nar_byte (cc3.toInt8.toInt32)) W31 3 rfl (Nat.le_of_ble_eq_true rfl)
  have N31 := Fr.snoc X31 N27 g_ab
  have Zs31 : n0 ≤ h31.size := Nat.le_trans Zs27 (Keep.of_wr W31).1
  have KK31 : Keep h0 h31 [ab] := KK27.wr W31 (Or.inl (List.mem_of_getElem? (i := 0) rfl))
  have f32 := f28.other W31 nab
  obtain ⟨fs, hr, hrun, hended, hW, hsame⟩ := X31.leave (v := some (.int (4 : Int32))) (fun h => by rw [Bd.returns] at h; cases h)
  refine ⟨_, _, pre0 _ ?_, hrun, hended, _, _, rfl, ?_, ⟨_, rfl⟩, hW, hsame.mono (by decide) (by decide)⟩
  · show Sp p e below m s₁ 0 #[.val (.ref ac), .val (.int (0 : Int32)), .val (.ref ab), .val (.int (0 : Int32)), .val (.int (4 : Int32)), .unset, .unset] [] _
    refine XS.iconst X0.here hx rfl (hb hby d6_0) ?_
    refine XS.istore X0.here hx rfl (hb hby d6_1) rfl (l' := #[.val (.ref ac), .val (.int (0 : Int32)), .val (.ref ab), .val (.int (0 : Int32)), .val (.int (4 : Int32)), .val (.int (0 : Int32)), .unset]) rfl ?_
    refine XS.iload X0.here hx rfl (hb hby d6_3) rfl ?_
    refine XS.iload X0.here hx rfl (hb hby d6_5) rfl ?_
    refine XS.icmpNo X0.here hx rfl (hb hby d6_7) rfl (tlt (by decide : ((0 : Int32) < (4 : Int32)))).2.1 ?_
    refine XS.aloadN X0.here hx rfl (hb hby d6_10) rfl rfl ?_
    refine XS.iloadN X0.here hx rfl (hb hby d6_11) rfl ?_
    refine X0.caload hx (j := (0 : Int32)) (v := (.int cc0)) (by rw [e0]; exact Ar17.1) (State.isArrayOf_alike hZ.alike Ar17.2.1) Ar17.2.2 hin17 hat17 (g := (mkF m 12 #[.val (.ref ac), .val (.int (0 : Int32)), .val (.ref ab), .val (.int (0 : Int32)), .val (.int (4 : Int32)), .val (.int (0 : Int32)), .unset] [(.int (0 : Int32)), (.ref ac)])) rfl rfl (hb hby d6_12) _ ?_
    show Sp p e below m s₁ 13 #[.val (.ref ac), .val (.int (0 : Int32)), .val (.ref ab), .val (.int (0 : Int32)), .val (.int (4 : Int32)), .val (.int (0 : Int32)), .unset] [(.int cc0)] _
    refine XS.istore X0.here hx rfl (hb hby d6_13) rfl (l' := #[.val (.ref ac), .val (.int (0 : Int32)), .val (.ref ab), .val (.int (0 : Int32)), .val (.int (4 : Int32)), .val (.int (0 : Int32)), .val (.int cc0)]) rfl ?_
    refine XS.iload X0.here hx rfl (hb hby d6_15) rfl ?_
    refine XS.sipush X0.here hx rfl (hb hby d6_17) ?_
    refine XS.icmpYes X0.here hx rfl (pc0 := 20) (pc' := 26) rfl (hb hby d6_20) rfl (flt (own_le255 hp0 : ¬ ((255 : Int32) < cc0))).2.2.2 (by decide) (by decide) ?_
    refine XS.aloadN X0.here hx rfl (hb hby d6_26) rfl rfl ?_
    refine XS.iloadN X0.here hx rfl (hb hby d6_27) rfl ?_
    refine XS.iload X0.here hx rfl (hb hby d6_28) rfl ?_
    refine XS.i2b X0.here hx rfl (hb hby d6_30) rfl ?_
    show Sp p e below m s₁ 31 #[.val (.ref ac), .val (.int (0 : Int32)), .val (.ref ab), .val (.int (0 : Int32)), .val (.int (4 : Int32)), .val (.int (0 : Int32)), .val (.int cc0)] [(.int (cc0.toInt8.toInt32)), (.int (0 : Int32)), (.ref ab)] _
    refine st19 _ ?_
    show Sp p e below m T19 32 #[.val (.ref ac), .val (.int (0 : Int32)), .val (.ref ab), .val (.int (0 : Int32)), .val (.int (4 : Int32)), .val (.int (0 : Int32)), .val (.int cc0)] [] _
    refine XS.iinc X19.here hx rfl (hb hby d6_32) rfl (l' := #[.val (.ref ac), .val (.int (1 : Int32)), .val (.ref ab), .val (.int (0 : Int32)), .val (.int (4 : Int32)), .val (.int (0 : Int32)), .val (.int cc0)]) rfl ?_
    refine XS.iinc X19.here hx rfl (hb hby d6_35) rfl (l' := #[.val (.ref ac), .val (.int (1 : Int32)), .val (.ref ab), .val (.int (1 : Int32)), .val (.int (4 : Int32)), .val (.int (0 : Int32)), .val (.int cc0)]) rfl ?_
    refine XS.iinc X19.here hx rfl (hb hby d6_38) rfl (l' := #[.val (.ref ac), .val (.int (1 : Int32)), .val (.ref ab), .val (.int (1 : Int32)), .val (.int (4 : Int32)), .val (.int (1 : Int32)), .val (.int cc0)]) rfl ?_
    refine XS.goto X19.here hx rfl (pc0 := 41) (pc' := 3) rfl (hb hby d6_41) (by decide) (by decide) ?_
    refine XS.iload X19.here hx rfl (hb hby d6_3) rfl ?_
    refine XS.iload X19.here hx rfl (hb hby d6_5) rfl ?_
    refine XS.icmpNo X19.here hx rfl (hb hby d6_7) rfl (tlt (by decide : ((1 : Int32) < (4 : Int32)))).2.1 ?_
    refine XS.aloadN X19.here hx rfl (hb hby d6_10) rfl rfl ?_
    show Sp p e below m T19 11 #[.val (.ref ac), .val (.int (1 : Int32)), .val (.ref ab), .val (.int (1 : Int32)), .val (.int (4 : Int32)), .val (.int (1 : Int32)), .val (.int cc0)] [(.ref ac)] _
    refine XS.iloadN X19.here hx rfl (hb hby d6_11) rfl ?_
    refine X19.caload hx (j := (1 : Int32)) (v := (.int cc1)) (by rw [e19]; exact Ar21.1) (State.isArrayOf_alike hZ.alike Ar21.2.1) Ar21.2.2 hin21 hat21 (g := (mkF m 12 #[.val (.ref ac), .val (.int (1 : Int32)), .val (.ref ab), .val (.int (1 : Int32)), .val (.int (4 : Int32)), .val (.int (1 : Int32)), .val (.int cc0)] [(.int (1 : Int32)), (.ref ac)])) rfl rfl (hb hby d6_12) _ ?_
    show Sp p e below m T19 13 #[.val (.ref ac), .val (.int (1 : Int32)), .val (.ref ab), .val (.int (1 : Int32)), .val (.int (4 : Int32)), .val (.int (1 : Int32)), .val (.int cc0)] [(.int cc1)] _
    refine XS.istore X19.here hx rfl (hb hby d6_13) rfl (l' := #[.val (.ref ac), .val (.int (1 : Int32)), .val (.ref ab), .val (.int (1 : Int32)), .val (.int (4 : Int32)), .val (.int (1 : Int32)), .val (.int cc1)]) rfl ?_
    refine XS.iload X19.here hx rfl (hb hby d6_15) rfl ?_
    refine XS.sipush X19.here hx rfl (hb hby d6_17) ?_
    refine XS.icmpYes X19.here hx rfl (pc0 := 20) (pc' := 26) rfl (hb hby d6_20) rfl (flt (own_le255 hp1 : ¬ ((255 : Int32) < cc1))).2.2.2 (by decide) (by decide) ?_
    refine XS.aloadN X19.here hx rfl (hb hby d6_26) rfl rfl ?_
    refine XS.iloadN X19.here hx rfl (hb hby d6_27) rfl ?_
    refine XS.iload X19.here hx rfl (hb hby d6_28) rfl ?_
    refine XS.i2b X19.here hx rfl (hb hby d6_30) rfl ?_
    show Sp p e below m T19 31 #[.val (.ref ac), .val (.int (1 : Int32)), .val (.ref ab), .val (.int (1 : Int32)), .val (.int (4 : Int32)), .val (.int (1 : Int32)), .val (.int cc1)] [(.int (cc1.toInt8.toInt32)), (.int (1 : Int32)), (.ref ab)] _
    refine st23 _ ?_
    show Sp p e below m T23 32 #[.val (.ref ac), .val (.int (1 : Int32)), .val (.ref ab), .val (.int (1 : Int32)), .val (.int (4 : Int32)), .val (.int (1 : Int32)), .val (.int cc1)] [] _
    refine XS.iinc X23.here hx rfl (hb hby d6_32) rfl (l' := #[.val (.ref ac), .val (.int (2 : Int32)), .val (.ref ab), .val (.int (1 : Int32)), .val (.int (4 : Int32)), .val (.int (1 : Int32)), .val (.int cc1)]) rfl ?_
    refine XS.iinc X23.here hx rfl (hb hby d6_35) rfl (l' := #[.val (.ref ac), .val (.int (2 : Int32)), .val (.ref ab), .val (.int (2 : Int32)), .val (.int (4 : Int32)), .val (.int (1 : Int32)), .val (.int cc1)]) rfl ?_
    refine XS.iinc X23.here hx rfl (hb hby d6_38) rfl (l' := #[.val (.ref ac), .val (.int (2 : Int32)), .val (.ref ab), .val (.int (2 : Int32)), .val (.int (4 : Int32)), .val (.int (2 : Int32)), .val (.int cc1)]) rfl ?_
    refine XS.goto X23.here hx rfl (pc0 := 41) (pc' := 3) rfl (hb hby d6_41) (by decide) (by decide) ?_
    refine XS.iload X23.here hx rfl (hb hby d6_3) rfl ?_
    refine XS.iload X23.here hx rfl (hb hby d6_5) rfl ?_
    refine XS.icmpNo X23.here hx rfl (hb hby d6_7) rfl (tlt (by decide : ((2 : Int32) < (4 : Int32)))).2.1 ?_
    refine XS.aloadN X23.here hx rfl (hb hby d6_10) rfl rfl ?_
    show Sp p e below m T23 11 #[.val (.ref ac), .val (.int (2 : Int32)), .val (.ref ab), .val (.int (2 : Int32)), .val (.int (4 : Int32)), .val (.int (2 : Int32)), .val (.int cc1)] [(.ref ac)] _
    refine XS.iloadN X23.here hx rfl (hb hby d6_11) rfl ?_
    refine X23.caload hx (j := (2 : Int32)) (v := (.int cc2)) (by rw [e23]; exact Ar25.1) (State.isArrayOf_alike hZ.alike Ar25.2.1) Ar25.2.2 hin25 hat25 (g := (mkF m 12 #[.val (.ref ac), .val (.int (2 : Int32)), .val (.ref ab), .val (.int (2 : Int32)), .val (.int (4 : Int32)), .val (.int (2 : Int32)), .val (.int cc1)] [(.int (2 : Int32)), (.ref ac)])) rfl rfl (hb hby d6_12) _ ?_
    show Sp p e below m T23 13 #[.val (.ref ac), .val (.int (2 : Int32)), .val (.ref ab), .val (.int (2 : Int32)), .val (.int (4 : Int32)), .val (.int (2 : Int32)), .val (.int cc1)] [(.int cc2)] _
    refine XS.istore X23.here hx rfl (hb hby d6_13) rfl (l' := #[.val (.ref ac), .val (.int (2 : Int32)), .val (.ref ab), .val (.int (2 : Int32)), .val (.int (4 : Int32)), .val (.int (2 : Int32)), .val (.int cc2)]) rfl ?_
    refine XS.iload X23.here hx rfl (hb hby d6_15) rfl ?_
    refine XS.sipush X23.here hx rfl (hb hby d6_17) ?_
    refine XS.icmpYes X23.here hx rfl (pc0 := 20) (pc' := 26) rfl (hb hby d6_20) rfl (flt (own_le255 hp2 : ¬ ((255 : Int32) < cc2))).2.2.2 (by decide) (by decide) ?_
    refine XS.aloadN X23.here hx rfl (hb hby d6_26) rfl rfl ?_
    refine XS.iloadN X23.here hx rfl (hb hby d6_27) rfl ?_
    refine XS.iload X23.here hx rfl (hb hby d6_28) rfl ?_
    refine XS.i2b X23.here hx rfl (hb hby d6_30) rfl ?_
    show Sp p e below m T23 31 #[.val (.ref ac), .val (.int (2 : Int32)), .val (.ref ab), .val (.int (2 : Int32)), .val (.int (4 : Int32)), .val (.int (2 : Int32)), .val (.int cc2)] [(.int (cc2.toInt8.toInt32)), (.int (2 : Int32)), (.ref ab)] _
    refine st27 _ ?_
    show Sp p e below m T27 32 #[.val (.ref ac), .val (.int (2 : Int32)), .val (.ref ab), .val (.int (2 : Int32)), .val (.int (4 : Int32)), .val (.int (2 : Int32)), .val (.int cc2)] [] _
    refine XS.iinc X27.here hx rfl (hb hby d6_32) rfl (l' := #[.val (.ref ac), .val (.int (3 : Int32)), .val (.ref ab), .val (.int (2 : Int32)), .val (.int (4 : Int32)), .val (.int (2 : Int32)), .val (.int cc2)]) rfl ?_
    refine XS.iinc X27.here hx rfl (hb hby d6_35) rfl (l' := #[.val (.ref ac), .val (.int (3 : Int32)), .val (.ref ab), .val (.int (3 : Int32)), .val (.int (4 : Int32)), .val (.int (2 : Int32)), .val (.int cc2)]) rfl ?_
    refine XS.iinc X27.here hx rfl (hb hby d6_38) rfl (l' := #[.val (.ref ac), .val (.int (3 : Int32)), .val (.ref ab), .val (.int (3 : Int32)), .val (.int (4 : Int32)), .val (.int (3 : Int32)), .val (.int cc2)]) rfl ?_
    refine XS.goto X27.here hx rfl (pc0 := 41) (pc' := 3) rfl (hb hby d6_41) (by decide) (by decide) ?_
    refine XS.iload X27.here hx rfl (hb hby d6_3) rfl ?_
    refine XS.iload X27.here hx rfl (hb hby d6_5) rfl ?_
    refine XS.icmpNo X27.here hx rfl (hb hby d6_7) rfl (tlt (by decide : ((3 : Int32) < (4 : Int32)))).2.1 ?_
    refine XS.aloadN X27.here hx rfl (hb hby d6_10) rfl rfl ?_
    show Sp p e below m T27 11 #[.val (.ref ac), .val (.int (3 : Int32)), .val (.ref ab), .val (.int (3 : Int32)), .val (.int (4 : Int32)), .val (.int (3 : Int32)), .val (.int cc2)] [(.ref ac)] _
    refine XS.iloadN X27.here hx rfl (hb hby d6_11) rfl ?_
    refine X27.caload hx (j := (3 : Int32)) (v := (.int cc3)) (by rw [e27]; exact Ar29.1) (State.isArrayOf_alike hZ.alike Ar29.2.1) Ar29.2.2 hin29 hat29 (g := (mkF m 12 #[.val (.ref ac), .val (.int (3 : Int32)), .val (.ref ab), .val (.int (3 : Int32)), .val (.int (4 : Int32)), .val (.int (3 : Int32)), .val (.int cc2)] [(.int (3 : Int32)), (.ref ac)])) rfl rfl (hb hby d6_12) _ ?_
    show Sp p e below m T27 13 #[.val (.ref ac), .val (.int (3 : Int32)), .val (.ref ab), .val (.int (3 : Int32)), .val (.int (4 : Int32)), .val (.int (3 : Int32)), .val (.int cc2)] [(.int cc3)] _
    refine XS.istore X27.here hx rfl (hb hby d6_13) rfl (l' := #[.val (.ref ac), .val (.int (3 : Int32)), .val (.ref ab), .val (.int (3 : Int32)), .val (.int (4 : Int32)), .val (.int (3 : Int32)), .val (.int cc3)]) rfl ?_
    refine XS.iload X27.here hx rfl (hb hby d6_15) rfl ?_
    refine XS.sipush X27.here hx rfl (hb hby d6_17) ?_
    refine XS.icmpYes X27.here hx rfl (pc0 := 20) (pc' := 26) rfl (hb hby d6_20) rfl (flt (own_le255 hp3 : ¬ ((255 : Int32) < cc3))).2.2.2 (by decide) (by decide) ?_
    refine XS.aloadN X27.here hx rfl (hb hby d6_26) rfl rfl ?_
    refine XS.iloadN X27.here hx rfl (hb hby d6_27) rfl ?_
    refine XS.iload X27.here hx rfl (hb hby d6_28) rfl ?_
    refine XS.i2b X27.here hx rfl (hb hby d6_30) rfl ?_
    show Sp p e below m T27 31 #[.val (.ref ac), .val (.int (3 : Int32)), .val (.ref ab), .val (.int (3 : Int32)), .val (.int (4 : Int32)), .val (.int (3 : Int32)), .val (.int cc3)] [(.int (cc3.toInt8.toInt32)), (.int (3 : Int32)), (.ref ab)] _
    refine st31 _ ?_
    show Sp p e below m T31 32 #[.val (.ref ac), .val (.int (3 : Int32)), .val (.ref ab), .val (.int (3 : Int32)), .val (.int (4 : Int32)), .val (.int (3 : Int32)), .val (.int cc3)] [] _
    refine XS.iinc X31.here hx rfl (hb hby d6_32) rfl (l' := #[.val (.ref ac), .val (.int (4 : Int32)), .val (.ref ab), .val (.int (3 : Int32)), .val (.int (4 : Int32)), .val (.int (3 : Int32)), .val (.int cc3)]) rfl ?_
    refine XS.iinc X31.here hx rfl (hb hby d6_35) rfl (l' := #[.val (.ref ac), .val (.int (4 : Int32)), .val (.ref ab), .val (.int (4 : Int32)), .val (.int (4 : Int32)), .val (.int (3 : Int32)), .val (.int cc3)]) rfl ?_
    refine XS.iinc X31.here hx rfl (hb hby d6_38) rfl (l' := #[.val (.ref ac), .val (.int (4 : Int32)), .val (.ref ab), .val (.int (4 : Int32)), .val (.int (4 : Int32)), .val (.int (4 : Int32)), .val (.int cc3)]) rfl ?_
    refine XS.goto X31.here hx rfl (pc0 := 41) (pc' := 3) rfl (hb hby d6_41) (by decide) (by decide) ?_
    refine XS.iload X31.here hx rfl (hb hby d6_3) rfl ?_
    refine XS.iload X31.here hx rfl (hb hby d6_5) rfl ?_
    refine XS.icmpYes X31.here hx rfl (pc0 := 7) (pc' := 44) rfl (hb hby d6_7) rfl (flt (by decide : ¬ ((4 : Int32) < (4 : Int32)))).2.1 (by decide) (by decide) ?_
    refine XS.iload X31.here hx rfl (hb hby d6_44) rfl ?_
    show Sp p e below m T31 46 #[.val (.ref ac), .val (.int (4 : Int32)), .val (.ref ab), .val (.int (4 : Int32)), .val (.int (4 : Int32)), .val (.int (4 : Int32)), .val (.int cc3)] [(.int (4 : Int32))] _
    exact retI X31 hx Bd.returns (hb hby d6_46) hr
  · show Q6n4 Z ac ab kc cc0 cc1 cc2 cc3 kb h0 n0 _ T31.heap _
    rw [e31]
    exact ⟨rfl, N31, KK31, V31⟩
theorem d5_0 : decode jdk_52_method_16_code 0 = .ok (.iload_n 2, 1) := by decide +kernel
theorem d5_1 : decode jdk_52_method_16_code 1 = .ok (.newarray .byte, 2) := by decide +kernel
theorem d5_3 : decode jdk_52_method_16_code 3 = .ok (.astore_n 3, 1) := by decide +kernel
theorem d5_4 : decode jdk_52_method_16_code 4 = .ok (.aload_n 0, 1) := by decide +kernel
theorem d5_5 : decode jdk_52_method_16_code 5 = .ok (.iload_n 1, 1) := by decide +kernel
theorem d5_6 : decode jdk_52_method_16_code 6 = .ok (.aload_n 3, 1) := by decide +kernel
theorem d5_7 : decode jdk_52_method_16_code 7 = .ok (.iconst 0, 1) := by decide +kernel
theorem d5_8 : decode jdk_52_method_16_code 8 = .ok (.iload_n 2, 1) := by decide +kernel
theorem d5_9 : decode jdk_52_method_16_code 9 = .ok (.invokestatic 115, 3) := by decide +kernel
theorem own_pd33 : parseMethodDescriptor "([CI[BII)I" = some ⟨[(.array .char), .int, (.array .byte), .int, .int], some .int⟩ := by decide +kernel
theorem d5_12 : decode jdk_52_method_16_code 12 = .ok (.istore 4, 2) := by decide +kernel
theorem d5_14 : decode jdk_52_method_16_code 14 = .ok (.iload 4, 2) := by decide +kernel
theorem d5_16 : decode jdk_52_method_16_code 16 = .ok (.iload_n 2, 1) := by decide +kernel
theorem d5_17 : decode jdk_52_method_16_code 17 = .ok (.if_icmp .eq 40, 3) := by decide +kernel
theorem d5_57 : decode jdk_52_method_16_code 57 = .ok (.aload_n 3, 1) := by decide +kernel
theorem d5_58 : decode jdk_52_method_16_code 58 = .ok (.areturn, 1) := by decide +kernel
theorem ef_5n4 (m : MethodId) (x0 : Addr) : entryFrame m #[(.ref x0), (.int (0 : Int32)), (.int (4 : Int32))] 6 = mkF m 0 #[.val (.ref x0), .val (.int (0 : Int32)), .val (.int (4 : Int32)), .unset, .unset, .unset] [] := by first | (simp [entryFrame, mkF, argsToLocals, Value.category]; done) | rfl
def Q5n4 (Z : State) (ac : Addr) (kc : ClassId) (cc0 : Int32) (cc1 : Int32) (cc2 : Int32) (cc3 : Int32) (h0 : Heap) (n0 : Nat) (v : Option Value) (h : Heap) (L : List Loc) : Prop := ∃ (rb : Addr) (rk : ClassId), v = some (.ref rb) ∧ Fr n0 L ∧ Keep h0 h [] ∧ Arv Z h rb rk .byte (4 : Int32) [(.int (nar .byte (cc0.toInt8.toInt32))), (.int (nar .byte (cc1.toInt8.toInt32))), (.int (nar .byte (cc2.toInt8.toInt32))), (.int (nar .byte (cc3.toInt8.toInt32)))] (.int (0 : Int32)) ∧ n0 ≤ rb ∧ h0.size ≤ rb
theorem rm5n4 (l : Launch) (Z : State) (a0 : Array Value) (hw : ∀ d ∈ tables_1, d.before a0 Z = true) (ws : List Jvm.Cond) (ac : Addr) (kc : ClassId) (cc0 : Int32) (cc1 : Int32) (cc2 : Int32) (cc3 : Int32) (h0 : Heap) (n0 : Nat) (Z0 : n0 ≤ h0.size) (Vc : Arv Z h0 ac kc .char (4 : Int32) [(.int cc0), (.int cc1), (.int cc2), (.int cc3)] (.int (0 : Int32))) (hp0 : 0 ≤ cc0.toInt ∧ cc0.toInt ≤ 255) (hp1 : 0 ≤ cc1.toInt ∧ cc1.toInt ≤ 255) (hp2 : 0 ≤ cc2.toInt ∧ cc2.toInt ≤ 255) (hp3 : 0 ≤ cc3.toInt ∧ cc3.toInt ≤ 255) :
    MetFree l (⟨"java/lang/StringUTF16", "compress", "([CII)[B"⟩ : MethodName) (head1 (Jvm.Cond.code (⟨"java/lang/StringUTF16", "compress", "([CII)[B"⟩ : MethodName) jdk_52_method_16_code 6 (some (.array .byte)) :: ws) ({ frames := 1, cells := 1, slots := 4, locals := 18 } : Room)) (fun a U => a = #[(.ref ac), (.int (0 : Int32)), (.int (4 : Int32))] ∧ Z.Warmed39 U.vm ∧ U.heap = h0) (fun _ _ _ _ _ => True) (fun _ U o U' => ∃ v L, o = .returned v ∧ Q5n4 Z ac kc cc0 cc1 cc2 cc3 h0 n0 v U'.heap L ∧ FrameEnd U o U' L ({ frames := 1, cells := 1, slots := 4, locals := 18 } : Room).cells ({ frames := 1, cells := 1, slots := 4, locals := 18 } : Room).slots) := by
  refine MetFree.of_bodySF (plainFor_of_name own_pn23) hisR ?_
  intro p e s m args below meth c s₁ Bd hml0 hP hK
  have H := fun i c (h : tables_1[i]? = some c) => hw c (List.mem_of_getElem? h)
  obtain ⟨rfl, hZ, hh⟩ := hP
  have hx := Bd.exec
  have hby := Bd.bytes
  have hml : c.maxLocals = 6 := hml0
  have hown : s.vm.findClass "java/lang/StringUTF16" = some m.cls := findClass_of_methodNamed Bd.named
  have hnm := (name_of_methodNamed Bd.named Bd.method).1
  have X0 : Stand p l e ({ frames := 1, cells := 1, slots := 4, locals := 18 } : Room) s m #[(.ref ac), (.int (0 : Int32)), (.int (4 : Int32))] below meth c s₁ [] 0 0 := Stand.of_body Bd
  have e0 : s₁.heap = h0 := by rw [← hh, Bd.state]; rfl
  have N0 := Fr.nil n0
  have pre0 : ∀ t, Sp p e below m s₁ 0 #[.val (.ref ac), .val (.int (0 : Int32)), .val (.int (4 : Int32)), .unset, .unset, .unset] [] t → Steps p.tables e below (s₁.setTop (entryFrame m #[(.ref ac), (.int (0 : Int32)), (.int (4 : Int32))] 6)) t := fun t k => castTop (ef_5n4 m ac) k
  generalize s₁.setTop (entryFrame m #[(.ref ac), (.int (0 : Int32)), (.int (4 : Int32))] 6) = G0 at pre0 ⊢
  obtain ⟨T37, h37, k37, X37, e37, E37, A37, st37⟩ := newP X0 hx hZ (H 23 _ rfl) e0 (g := (mkF m 1 #[.val (.ref ac), .val (.int (0 : Int32)), .val (.int (4 : Int32)), .unset, .unset, .unset] [(.int (4 : Int32))])) rfl (hb hby d5_1) rfl (by decide) (cap := 4) (by decide) (by decide) (by decide) (by decide)
  obtain ⟨b37, g37⟩ : ∃ z, z = h0.size := ⟨_, rfl⟩
  rw [← g37] at A37 st37
  have g_b37 : n0 ≤ b37 := Nat.le_trans Z0 (Nat.le_of_eq g37.symm)
  have sz_b37 : h0.size ≤ b37 := Nat.le_of_eq g37.symm
  have lt_ac_b37 : ac < b37 := Nat.lt_of_lt_of_le Vc.lt (Nat.le_of_eq g37.symm)
  have ne_ac_b37 : ac ≠ b37 := Nat.ne_of_lt lt_ac_b37
  have Zs37 : n0 ≤ h37.size := Nat.le_trans Z0 E37.1
  have KK37 : Keep h0 h37 [] := (Keep.refl h0 _).ext E37
  have f38 := Vc.ext E37
  have V37 : Arv Z h37 b37 k37 .byte (4 : Int32) [(.int (0 : Int32)), (.int (0 : Int32)), (.int (0 : Int32)), (.int (0 : Int32))] (.int (0 : Int32)) := (Arv.new A37 (by decide)).pad (pad_rep [] (.int (0 : Int32)) 4)
  obtain ⟨_, _, ⟨T39, L39, k39, n39⟩, -, X39, ⟨Lc39, hQ39, l39, y39, z39⟩, st39⟩ := Jvm.LawKit.callS X37 hx hown (mvT hZ (H 24 _ rfl)) (mvT hZ (H 25 _ rfl)) (mvT hZ (H 21 _ rfl)) (mvT hZ (H 26 _ rfl)) (by decide) (backOf (W := 0) (rm6n4 l Z a0 hw [] ac b37 kc cc0 cc1 cc2 cc3 k37 h37 n0 Zs37 f38 V37 g_b37 ne_ac_b37 hp0 hp1 hp2 hp3) hZ (H 26 _ rfl) (H 21 _ rfl) (by decide) (by decide)) (g := (mkF m 9 #[.val (.ref ac), .val (.int (0 : Int32)), .val (.int (4 : Int32)), .val (.ref b37), .unset, .unset] [(.int (4 : Int32)), (.int (0 : Int32)), (.ref b37), (.int (0 : Int32)), (.ref ac)])) rfl (by rw [hml]; rfl) (argsL := [(.ref ac), (.int (0 : Int32)), (.ref b37), (.int (0 : Int32)), (.int (4 : Int32))]) (rest := []) (lenOf own_pd33 rfl) rfl (Nat.le_of_eq rfl) (hb hby d5_9) (fun _ _ => ⟨rfl, e37, (by decide : 1 + 0 ≤ _), (by decide : 4 + 0 ≤ _)⟩)
  dsimp only [Pt.U, Pt.locs, Pt.cells, Pt.slots] at X39 l39 y39 z39 st39 hQ39
  rw [l39, y39, z39] at X39
  obtain ⟨rfl, Nq39, K39, p39_0⟩ := hQ39
  have N39 := Fr.app N0 Nq39
  have Zs39 : n0 ≤ T39.heap.size := Nat.le_trans Zs37 K39.1
  have KK39 : Keep h0 T39.heap [] := KK37.trans K39 (allS (Or.inr sz_b37) all0)
  have f40 := f38.keep K39 (ninS ne_ac_b37 nin0)
  obtain ⟨fs, hr, hrun, hended, hW, hsame⟩ := X39.leave (v := some (.ref b37)) (fun h => by rw [Bd.returns] at h; cases h)
  refine ⟨_, _, pre0 _ ?_, hrun, hended, _, _, rfl, ?_, ⟨_, rfl⟩, hW, hsame.mono (by decide) (by decide)⟩
  · show Sp p e below m s₁ 0 #[.val (.ref ac), .val (.int (0 : Int32)), .val (.int (4 : Int32)), .unset, .unset, .unset] [] _
    refine XS.iloadN X0.here hx rfl (hb hby d5_0) rfl ?_
    refine st37 _ ?_
    show Sp p e below m T37 3 #[.val (.ref ac), .val (.int (0 : Int32)), .val (.int (4 : Int32)), .unset, .unset, .unset] [(.ref b37)] _
    refine XS.astoreN X37.here hx rfl (hb hby d5_3) rfl rfl (l' := #[.val (.ref ac), .val (.int (0 : Int32)), .val (.int (4 : Int32)), .val (.ref b37), .unset, .unset]) rfl ?_
    refine XS.aloadN X37.here hx rfl (hb hby d5_4) rfl rfl ?_
    refine XS.iloadN X37.here hx rfl (hb hby d5_5) rfl ?_
    refine XS.aloadN X37.here hx rfl (hb hby d5_6) rfl rfl ?_
    refine XS.iconst X37.here hx rfl (hb hby d5_7) ?_
    refine XS.iloadN X37.here hx rfl (hb hby d5_8) rfl ?_
    refine st39 _ ?_
    show Sp p e below m T39 12 #[.val (.ref ac), .val (.int (0 : Int32)), .val (.int (4 : Int32)), .val (.ref b37), .unset, .unset] [(.int (4 : Int32))] _
    refine XS.istore X39.here hx rfl (hb hby d5_12) rfl (l' := #[.val (.ref ac), .val (.int (0 : Int32)), .val (.int (4 : Int32)), .val (.ref b37), .val (.int (4 : Int32)), .unset]) rfl ?_
    refine XS.iload X39.here hx rfl (hb hby d5_14) rfl ?_
    refine XS.iloadN X39.here hx rfl (hb hby d5_16) rfl ?_
    refine XS.icmpYes X39.here hx rfl (pc0 := 17) (pc' := 57) rfl (hb hby d5_17) rfl (teq (by decide : ((4 : Int32) = (4 : Int32)))).1 (by decide) (by decide) ?_
    refine XS.aloadN X39.here hx rfl (hb hby d5_57) rfl rfl ?_
    jvm_step X39.here [X39.here.top, hx, (hb hby d5_58), X39.method', Bd.returns, Value.isRef, FieldType.isReference]
    first | (intro acts; rw [hr _ acts rfl rfl rfl]) | rw [hr _ _ rfl rfl rfl]
    exact Steps.refl _
  · show Q5n4 Z ac kc cc0 cc1 cc2 cc3 h0 n0 _ T39.heap _
    exact ⟨b37, k37, rfl, N39, KK39, p39_0, g_b37, sz_b37⟩
theorem d7_0 : decode jdk_52_method_15_code 0 = .ok (.iload_n 1, 1) := by decide +kernel
theorem d7_1 : decode jdk_52_method_15_code 1 = .ok (.aload_n 0, 1) := by decide +kernel
theorem d7_2 : decode jdk_52_method_15_code 2 = .ok (.arraylength, 1) := by decide +kernel
theorem d7_3 : decode jdk_52_method_15_code 3 = .ok (.isub, 1) := by decide +kernel
theorem d7_4 : decode jdk_52_method_15_code 4 = .ok (.bipush 31, 2) := by decide +kernel
theorem d7_6 : decode jdk_52_method_15_code 6 = .ok (.iushr, 1) := by decide +kernel
theorem d7_7 : decode jdk_52_method_15_code 7 = .ok (.i2b, 1) := by decide +kernel
theorem d7_8 : decode jdk_52_method_15_code 8 = .ok (.ireturn, 1) := by decide +kernel
theorem ef_7n4 (m : MethodId) (x0 : Addr) : entryFrame m #[(.ref x0), (.int (4 : Int32))] 2 = mkF m 0 #[.val (.ref x0), .val (.int (4 : Int32))] [] := by first | (simp [entryFrame, mkF, argsToLocals, Value.category]; done) | rfl
def Q7n4 (Z : State) (ab : Addr) (kb : ClassId) (vs : List Value) (h0 : Heap) (n0 : Nat) (v : Option Value) (h : Heap) (L : List Loc) : Prop := v = some (.int (0 : Int32)) ∧ Fr n0 L ∧ h = h0
theorem rm7n4 (l : Launch) (Z : State) (a0 : Array Value) (hw : ∀ d ∈ tables_1, d.before a0 Z = true) (ws : List Jvm.Cond) (ab : Addr) (kb : ClassId) (vs : List Value) (h0 : Heap) (n0 : Nat) (Z0 : n0 ≤ h0.size) (Vb : Arv Z h0 ab kb .byte (4 : Int32) vs (.int (0 : Int32))) :
    MetFree l (⟨"java/lang/StringUTF16", "coderFromArrayLen", "([BI)B"⟩ : MethodName) (head1 (Jvm.Cond.code (⟨"java/lang/StringUTF16", "coderFromArrayLen", "([BI)B"⟩ : MethodName) jdk_52_method_15_code 2 (some .byte) :: ws) ({ frames := 0, cells := 0, slots := 0, locals := 0 } : Room)) (fun a U => a = #[(.ref ab), (.int (4 : Int32))] ∧ Z.Warmed39 U.vm ∧ U.heap = h0) (fun _ _ _ _ _ => True) (fun _ U o U' => ∃ v L, o = .returned v ∧ Q7n4 Z ab kb vs h0 n0 v U'.heap L ∧ FrameEnd U o U' L ({ frames := 0, cells := 0, slots := 0, locals := 0 } : Room).cells ({ frames := 0, cells := 0, slots := 0, locals := 0 } : Room).slots) := by
  refine MetFree.of_bodySF (plainFor_of_name own_pn23) hisR ?_
  intro p e s m args below meth c s₁ Bd hml0 hP hK
  have H := fun i c (h : tables_1[i]? = some c) => hw c (List.mem_of_getElem? h)
  obtain ⟨rfl, hZ, hh⟩ := hP
  have hx := Bd.exec
  have hby := Bd.bytes
  have hml : c.maxLocals = 2 := hml0
  have hown : s.vm.findClass "java/lang/StringUTF16" = some m.cls := findClass_of_methodNamed Bd.named
  have hnm := (name_of_methodNamed Bd.named Bd.method).1
  have X0 : Stand p l e ({ frames := 0, cells := 0, slots := 0, locals := 0 } : Room) s m #[(.ref ab), (.int (4 : Int32))] below meth c s₁ [] 0 0 := Stand.of_body Bd
  have e0 : s₁.heap = h0 := by rw [← hh, Bd.state]; rfl
  have N0 := Fr.nil n0
  have pre0 : ∀ t, Sp p e below m s₁ 0 #[.val (.ref ab), .val (.int (4 : Int32))] [] t → Steps p.tables e below (s₁.setTop (entryFrame m #[(.ref ab), (.int (4 : Int32))] 2)) t := fun t k => castTop (ef_7n4 m ab) k
  generalize s₁.setTop (entryFrame m #[(.ref ab), (.int (4 : Int32))] 2) = G0 at pre0 ⊢
  obtain ⟨cl42, Ar42, -, S42, M42, -, -⟩ := id Vb
  obtain ⟨fs, hr, hrun, hended, hW, hsame⟩ := X0.leave (v := some (.int (nar .byte (0 : Int32)))) (fun h => by rw [Bd.returns] at h; cases h)
  refine ⟨_, _, pre0 _ ?_, hrun, hended, _, _, rfl, ?_, ⟨_, rfl⟩, hW, hsame.mono (by decide) (by decide)⟩
  · show Sp p e below m s₁ 0 #[.val (.ref ab), .val (.int (4 : Int32))] [] _
    refine XS.iloadN X0.here hx rfl (hb hby d7_0) rfl ?_
    refine XS.aloadN X0.here hx rfl (hb hby d7_1) rfl rfl ?_
    refine X0.arraylength hx (by rw [e0]; exact Ar42.1) (State.isArrayOf_alike hZ.alike Ar42.2.1) (g := (mkF m 2 #[.val (.ref ab), .val (.int (4 : Int32))] [(.ref ab), (.int (4 : Int32))])) rfl rfl (hb hby d7_2) _ ?_
    rw [len_of S42 M42]
    show Sp p e below m s₁ 3 #[.val (.ref ab), .val (.int (4 : Int32))] [(.int (4 : Int32)), (.int (4 : Int32))] _
    refine XS.isub X0.here hx rfl (hb hby d7_3) rfl ?_
    refine XS.bipush X0.here hx rfl (hb hby d7_4) ?_
    refine XS.iushr X0.here hx rfl (hb hby d7_6) rfl ?_
    refine XS.i2b X0.here hx rfl (hb hby d7_7) rfl ?_
    exact retN X0 hx (t := .byte) Bd.returns (by simp) (hb hby d7_8) hr
  · show Q7n4 Z ab kb vs h0 n0 _ s₁.heap _
    rw [e0]
    exact ⟨rfl, N0, rfl⟩
theorem d3_0 : decode jdk_42_method_149_code 0 = .ok (.aload_n 0, 1) := by decide +kernel
theorem d3_1 : decode jdk_42_method_149_code 1 = .ok (.invokespecial 1, 3) := by decide +kernel
theorem d3_4 : decode jdk_42_method_149_code 4 = .ok (.iload_n 3, 1) := by decide +kernel
theorem d3_5 : decode jdk_42_method_149_code 5 = .ok (.ifCond .ne 22, 3) := by decide +kernel
theorem d3_27 : decode jdk_42_method_149_code 27 = .ok (.getstatic 38, 3) := by decide +kernel
theorem d3_30 : decode jdk_42_method_149_code 30 = .ok (.ifCond .eq 28, 3) := by decide +kernel
theorem d3_33 : decode jdk_42_method_149_code 33 = .ok (.aload_n 1, 1) := by decide +kernel
theorem d3_34 : decode jdk_42_method_149_code 34 = .ok (.iload_n 2, 1) := by decide +kernel
theorem d3_35 : decode jdk_42_method_149_code 35 = .ok (.iload_n 3, 1) := by decide +kernel
theorem d3_36 : decode jdk_42_method_149_code 36 = .ok (.invokestatic 177, 3) := by decide +kernel
theorem own_pd58 : parseMethodDescriptor "([CII)[B" = some ⟨[(.array .char), .int, .int], some (.array .byte)⟩ := by decide +kernel
theorem d3_39 : decode jdk_42_method_149_code 39 = .ok (.astore 5, 2) := by decide +kernel
theorem d3_41 : decode jdk_42_method_149_code 41 = .ok (.aload_n 0, 1) := by decide +kernel
theorem d3_42 : decode jdk_42_method_149_code 42 = .ok (.aload 5, 2) := by decide +kernel
theorem d3_44 : decode jdk_42_method_149_code 44 = .ok (.iload_n 3, 1) := by decide +kernel
theorem d3_45 : decode jdk_42_method_149_code 45 = .ok (.invokestatic 47, 3) := by decide +kernel
theorem own_pd64 : parseMethodDescriptor "([BI)B" = some ⟨[(.array .byte), .int], some .byte⟩ := by decide +kernel
theorem d3_48 : decode jdk_42_method_149_code 48 = .ok (.putfield 15, 3) := by decide +kernel
theorem d3_51 : decode jdk_42_method_149_code 51 = .ok (.aload_n 0, 1) := by decide +kernel
theorem d3_52 : decode jdk_42_method_149_code 52 = .ok (.aload 5, 2) := by decide +kernel
theorem d3_54 : decode jdk_42_method_149_code 54 = .ok (.putfield 9, 3) := by decide +kernel
theorem d3_57 : decode jdk_42_method_149_code 57 = .ok (.return_, 1) := by decide +kernel
theorem own_pn70 : plainName "java/lang/String" = true := by first | (simp [plainName, overriddenIn]; done) | decide +kernel
theorem ef_3n4 (m : MethodId) (x0 : Addr) (x1 : Addr) : entryFrame m #[(.ref x0), (.ref x1), (.int (0 : Int32)), (.int (4 : Int32)), .null] 6 = mkF m 0 #[.val (.ref x0), .val (.ref x1), .val (.int (0 : Int32)), .val (.int (4 : Int32)), .val .null, .unset] [] := by first | (simp [entryFrame, mkF, argsToLocals, Value.category]; done) | rfl
def Q3n4 (Z : State) (aa : Addr) (ac : Addr) (cs : Int32) (vf : Value) (kc : ClassId) (cc0 : Int32) (cc1 : Int32) (cc2 : Int32) (cc3 : Int32) (h0 : Heap) (n0 : Nat) (v : Option Value) (h : Heap) (L : List Loc) : Prop := ∃ (rb : Addr) (rk : ClassId), v = none ∧ Fr n0 L ∧ Keep h0 h [aa] ∧ Exa Z h aa "java/lang/String" ∧ Fld Z h aa "java/lang/String" "value" "[B" (.ref rb) ∧ Fld Z h aa "java/lang/String" "coder" "B" (.int (0 : Int32)) ∧ Arv Z h rb rk .byte (4 : Int32) [(.int (nar .byte (cc0.toInt8.toInt32))), (.int (nar .byte (cc1.toInt8.toInt32))), (.int (nar .byte (cc2.toInt8.toInt32))), (.int (nar .byte (cc3.toInt8.toInt32)))] (.int (0 : Int32)) ∧ n0 ≤ rb ∧ h0.size ≤ rb
theorem rm3n4 (l : Launch) (Z : State) (a0 : Array Value) (hw : ∀ d ∈ tables_1, d.before a0 Z = true) (ws : List Jvm.Cond) (aa : Addr) (ac : Addr) (cs : Int32) (vf : Value) (kc : ClassId) (cc0 : Int32) (cc1 : Int32) (cc2 : Int32) (cc3 : Int32) (h0 : Heap) (n0 : Nat) (Z0 : n0 ≤ h0.size) (O0 : Old Z n0 h0) (Scs : Sta Z Z.heap "java/lang/String" "COMPACT_STRINGS" "Z" (.int cs)) (hcs : ¬ cs = (0 : Int32)) (Ssf : Sta Z Z.heap "jdk/internal/util/Preconditions" "SIOOBE_FORMATTER" "Ljava/util/function/BiFunction;" vf) (hvf : vf.isRef = true) (Sas : Sta Z Z.heap "java/lang/StringUTF16" "$assertionsDisabled" "Z" (.int (1 : Int32))) (Shs : Sta Z Z.heap "java/lang/StringUTF16" "HI_BYTE_SHIFT" "I" (.int (0 : Int32))) (Sls : Sta Z Z.heap "java/lang/StringUTF16" "LO_BYTE_SHIFT" "I" (.int (8 : Int32))) (Ea : Exa Z h0 aa "java/lang/String") (Fv : Fld Z h0 aa "java/lang/String" "value" "[B" .null) (Fc : Fld Z h0 aa "java/lang/String" "coder" "B" (.int (0 : Int32))) (g_aa : n0 ≤ aa) (Vc : Arv Z h0 ac kc .char (4 : Int32) [(.int cc0), (.int cc1), (.int cc2), (.int cc3)] (.int (0 : Int32))) (nac : aa ≠ ac) (hp0 : 0 ≤ cc0.toInt ∧ cc0.toInt ≤ 255) (hp1 : 0 ≤ cc1.toInt ∧ cc1.toInt ≤ 255) (hp2 : 0 ≤ cc2.toInt ∧ cc2.toInt ≤ 255) (hp3 : 0 ≤ cc3.toInt ∧ cc3.toInt ≤ 255) :
    MetFree l (⟨"java/lang/String", "<init>", "([CIILjava/lang/Void;)V"⟩ : MethodName) (head1 (Jvm.Cond.code (⟨"java/lang/String", "<init>", "([CIILjava/lang/Void;)V"⟩ : MethodName) jdk_42_method_149_code 6 none :: ws) ({ frames := 2, cells := 1, slots := 4, locals := 35 } : Room)) (fun a U => a = #[(.ref aa), (.ref ac), (.int (0 : Int32)), (.int (4 : Int32)), .null] ∧ Z.Warmed39 U.vm ∧ U.heap = h0) (fun _ _ _ _ _ => True) (fun _ U o U' => ∃ v L, o = .returned v ∧ Q3n4 Z aa ac cs vf kc cc0 cc1 cc2 cc3 h0 n0 v U'.heap L ∧ FrameEnd U o U' L ({ frames := 2, cells := 1, slots := 4, locals := 35 } : Room).cells ({ frames := 2, cells := 1, slots := 4, locals := 35 } : Room).slots) := by
  refine MetFree.of_bodySF (plainFor_of_name own_pn70) hisR ?_
  intro p e s m args below meth c s₁ Bd hml0 hP hK
  have H := fun i c (h : tables_1[i]? = some c) => hw c (List.mem_of_getElem? h)
  obtain ⟨rfl, hZ, hh⟩ := hP
  have hx := Bd.exec
  have hby := Bd.bytes
  have hml : c.maxLocals = 6 := hml0
  have hown : s.vm.findClass "java/lang/String" = some m.cls := findClass_of_methodNamed Bd.named
  have hnm := (name_of_methodNamed Bd.named Bd.method).1
  have X0 : Stand p l e ({ frames := 2, cells := 1, slots := 4, locals := 35 } : Room) s m #[(.ref aa), (.ref ac), (.int (0 : Int32)), (.int (4 : Int32)), .null] below meth c s₁ [] 0 0 := Stand.of_body Bd
  have e0 : s₁.heap = h0 := by rw [← hh, Bd.state]; rfl
  have N0 := Fr.nil n0
  have pre0 : ∀ t, Sp p e below m s₁ 0 #[.val (.ref aa), .val (.ref ac), .val (.int (0 : Int32)), .val (.int (4 : Int32)), .val .null, .unset] [] t → Steps p.tables e below (s₁.setTop (entryFrame m #[(.ref aa), (.ref ac), (.int (0 : Int32)), (.int (4 : Int32)), .null] 6)) t := fun t k => castTop (ef_3n4 m aa ac) k
  generalize s₁.setTop (entryFrame m #[(.ref aa), (.ref ac), (.int (0 : Int32)), (.int (4 : Int32)), .null] 6) = G0 at pre0 ⊢
  obtain ⟨T78, X78, e78, st78⟩ := initO X0 hx hZ hown (H 15 _ rfl) (H 16 _ rfl) (H 17 _ rfl) e0 (g := (mkF m 1 #[.val (.ref aa), .val (.ref ac), .val (.int (0 : Int32)), .val (.int (4 : Int32)), .val .null, .unset] [(.ref aa)])) rfl (by rw [hml]; rfl) rfl (hb hby d3_1) (by decide) (W := 0) (Nat.le_of_eq rfl) (by decide)
  obtain ⟨T79, X79, e79, st79⟩ := getS2 X78 hx hZ hown (host := "") (Or.inl (H 18 _ rfl)) Via.refl e78 (Scs.ext O0.2) (g := (mkF m 27 #[.val (.ref aa), .val (.ref ac), .val (.int (0 : Int32)), .val (.int (4 : Int32)), .val .null, .unset] [])) rfl (hb hby d3_27)
  obtain ⟨_, _, ⟨T80, L80, k80, n80⟩, -, X80, ⟨Lc80, hQ80, l80, y80, z80⟩, st80⟩ := Jvm.LawKit.callS X79 hx hown (mvT hZ (H 19 _ rfl)) (mvT hZ (H 20 _ rfl)) (mvT hZ (H 21 _ rfl)) (mvT hZ (H 22 _ rfl)) (by decide) (backOf (W := 0) (rm5n4 l Z a0 hw [] ac kc cc0 cc1 cc2 cc3 h0 n0 Z0 Vc hp0 hp1 hp2 hp3) hZ (H 22 _ rfl) (H 21 _ rfl) (by decide) (by decide)) (g := (mkF m 36 #[.val (.ref aa), .val (.ref ac), .val (.int (0 : Int32)), .val (.int (4 : Int32)), .val .null, .unset] [(.int (4 : Int32)), (.int (0 : Int32)), (.ref ac)])) rfl (by rw [hml]; rfl) (argsL := [(.ref ac), (.int (0 : Int32)), (.int (4 : Int32))]) (rest := []) (lenOf own_pd58 rfl) rfl (Nat.le_of_eq rfl) (hb hby d3_36) (fun _ _ => ⟨rfl, e79, (by decide : 0 + 1 ≤ _), (by decide : 0 + 4 ≤ _)⟩)
  dsimp only [Pt.U, Pt.locs, Pt.cells, Pt.slots] at X80 l80 y80 z80 st80 hQ80
  rw [l80, y80, z80] at X80
  obtain ⟨rrb_80, rrk_80, rfl, Nq80, K80, p80_0, p80_1, p80_2⟩ := hQ80
  have N80 := Fr.app N0 Nq80
  have Zs80 : n0 ≤ T80.heap.size := Nat.le_trans Z0 K80.1
  have KK80 : Keep h0 T80.heap [aa] := (Keep.refl h0 _).trans K80 all0
  have ne_aa_rrb_80 : aa ≠ rrb_80 := Nat.ne_of_lt (Nat.lt_of_lt_of_le Ea.lt p80_2)
  have ne_ac_rrb_80 : ac ≠ rrb_80 := Nat.ne_of_lt (Nat.lt_of_lt_of_le Vc.lt p80_2)
  have sz_rrb_80 : h0.size ≤ rrb_80 := p80_2
  have O80 := O0.keep K80 (all0)
  have f81 := Scs.ext O80.2
  have f82 := Ssf.ext O80.2
  have f83 := Sas.ext O80.2
  have f84 := Shs.ext O80.2
  have f85 := Sls.ext O80.2
  have f86 := Ea.keep K80
  have f87 := Fv.keep K80 nin0
  have f88 := Fc.keep K80 nin0
  have f89 := Vc.keep K80 nin0
  have g_rrb_80 := p80_1
  obtain ⟨_, _, ⟨T90, L90, k90, n90⟩, -, X90, ⟨Lc90, hQ90, l90, y90, z90⟩, st90⟩ := Jvm.LawKit.callS X80 hx hown (mvT hZ (H 27 _ rfl)) (mvT hZ (H 28 _ rfl)) (mvT hZ (H 21 _ rfl)) (mvT hZ (H 29 _ rfl)) (by decide) (backOf (W := 1) (rm7n4 l Z a0 hw [] rrb_80 rrk_80 [(.int (nar .byte (cc0.toInt8.toInt32))), (.int (nar .byte (cc1.toInt8.toInt32))), (.int (nar .byte (cc2.toInt8.toInt32))), (.int (nar .byte (cc3.toInt8.toInt32)))] T80.heap n0 Zs80 p80_0) hZ (H 29 _ rfl) (H 21 _ rfl) (by decide) (by decide)) (g := (mkF m 45 #[.val (.ref aa), .val (.ref ac), .val (.int (0 : Int32)), .val (.int (4 : Int32)), .val .null, .val (.ref rrb_80)] [(.int (4 : Int32)), (.ref rrb_80), (.ref aa)])) rfl (by rw [hml]; rfl) (argsL := [(.ref rrb_80), (.int (4 : Int32))]) (rest := [(.ref aa)]) (lenOf own_pd64 rfl) rfl (Nat.le_of_eq rfl) (hb hby d3_45) (fun _ _ => ⟨rfl, rfl, (by decide : 1 + 0 ≤ _), (by decide : 4 + 0 ≤ _)⟩)
  dsimp only [Pt.U, Pt.locs, Pt.cells, Pt.slots] at X90 l90 y90 z90 st90 hQ90
  rw [l90, y90, z90] at X90
  obtain ⟨rfl, Nq90, e90⟩ := hQ90
  have N90 := Fr.app N80 Nq90
  obtain ⟨T91, h91, X91, e91, W91, st91⟩ := putFN X90 hx hZ hown (H 30 _ rfl) Via.refl e90 f88 f86 (Or.inr ⟨(H 31 _ rfl), rfl, hnm⟩) (H 6 _ rfl) (ty := .byte) (v' := (.int (0 : Int32))) (by decide) rfl (fits_nar_byte (0 : Int32)) (g := (mkF m 48 #[.val (.ref aa), .val (.ref ac), .val (.int (0 : Int32)), .val (.int (4 : Int32)), .val .null, .val (.ref rrb_80)] [(.int (0 : Int32)), (.ref aa)])) rfl rfl (hb hby d3_48)
  have N91 := Fr.snoc X91 N90 g_aa
  have Zs91 : n0 ≤ h91.size := Nat.le_trans Zs80 (Keep.of_wr W91).1
  have KK91 : Keep h0 h91 [aa] := KK80.wr W91 (Or.inl (List.mem_of_getElem? (i := 0) rfl))
  have O91 := O80.wr W91 g_aa
  have f92 := f81.wr W91
  have f93 := f82.wr W91
  have f94 := f83.wr W91
  have f95 := f84.wr W91
  have f96 := f85.wr W91
  have f97 := f86.wr W91
  have f98 := f87.other W91 (Or.inr (slot_ne (Or.inr (H 33 _ rfl)) (Or.inr (H 31 _ rfl)) (by decide) (t := (.array .byte)) (t' := .byte) (by decide) (by decide)))
  have f99 := f88.same W91
  have f100 := f89.other W91 (Ne.symm nac)
  have f101 := p80_0.other W91 (Ne.symm ne_aa_rrb_80)
  obtain ⟨T102, h102, X102, e102, W102, st102⟩ := putF X91 hx hZ hown (host := "") (Or.inl (H 32 _ rfl)) Via.refl e91 f98 f97 (Or.inr ⟨(H 33 _ rfl), rfl, hnm⟩) (H 6 _ rfl) (ty := (.array .byte)) (by decide) rfl rfl (g := (mkF m 54 #[.val (.ref aa), .val (.ref ac), .val (.int (0 : Int32)), .val (.int (4 : Int32)), .val .null, .val (.ref rrb_80)] [(.ref rrb_80), (.ref aa)])) rfl rfl (hb hby d3_54)
  have N102 := Fr.snoc X102 N91 g_aa
  have Zs102 : n0 ≤ h102.size := Nat.le_trans Zs91 (Keep.of_wr W102).1
  have KK102 : Keep h0 h102 [aa] := KK91.wr W102 (Or.inl (List.mem_of_getElem? (i := 0) rfl))
  have O102 := O91.wr W102 g_aa
  have f103 := f92.wr W102
  have f104 := f93.wr W102
  have f105 := f94.wr W102
  have f106 := f95.wr W102
  have f107 := f96.wr W102
  have f108 := f97.wr W102
  have f109 := f98.same W102
  have f110 := f99.other W102 (Or.inr (slot_ne (Or.inr (H 31 _ rfl)) (Or.inr (H 33 _ rfl)) (by decide) (t := .byte) (t' := (.array .byte)) (by decide) (by decide)))
  have f111 := f100.other W102 (Ne.symm nac)
  have f112 := f101.other W102 (Ne.symm ne_aa_rrb_80)
  obtain ⟨fs, hr, hrun, hended, hW, hsame⟩ := X102.leave (v := none) (fun _ => rfl)
  refine ⟨_, _, pre0 _ ?_, hrun, hended, _, _, rfl, ?_, ⟨_, rfl⟩, hW, hsame.mono (by decide) (by decide)⟩
  · show Sp p e below m s₁ 0 #[.val (.ref aa), .val (.ref ac), .val (.int (0 : Int32)), .val (.int (4 : Int32)), .val .null, .unset] [] _
    refine XS.aloadN X0.here hx rfl (hb hby d3_0) rfl rfl ?_
    refine st78 _ ?_
    show Sp p e below m T78 4 #[.val (.ref aa), .val (.ref ac), .val (.int (0 : Int32)), .val (.int (4 : Int32)), .val .null, .unset] [] _
    refine XS.iloadN X78.here hx rfl (hb hby d3_4) rfl ?_
    refine XS.ifYes X78.here hx rfl (pc0 := 5) (pc' := 27) rfl (hb hby d3_5) rfl ((if0 _ _).trans (feq (by decide : ¬ ((4 : Int32) = (0 : Int32)))).2) (by decide) (by decide) ?_
    refine st79 _ ?_
    show Sp p e below m T79 30 #[.val (.ref aa), .val (.ref ac), .val (.int (0 : Int32)), .val (.int (4 : Int32)), .val .null, .unset] [(.int cs)] _
    refine XS.ifNo X79.here hx rfl (hb hby d3_30) rfl ((if0 _ _).trans (feq (hcs : ¬ (cs = (0 : Int32)))).1) ?_
    refine XS.aloadN X79.here hx rfl (hb hby d3_33) rfl rfl ?_
    refine XS.iloadN X79.here hx rfl (hb hby d3_34) rfl ?_
    refine XS.iloadN X79.here hx rfl (hb hby d3_35) rfl ?_
    refine st80 _ ?_
    show Sp p e below m T80 39 #[.val (.ref aa), .val (.ref ac), .val (.int (0 : Int32)), .val (.int (4 : Int32)), .val .null, .unset] [(.ref rrb_80)] _
    refine XS.astore X80.here hx rfl (hb hby d3_39) rfl rfl (l' := #[.val (.ref aa), .val (.ref ac), .val (.int (0 : Int32)), .val (.int (4 : Int32)), .val .null, .val (.ref rrb_80)]) rfl ?_
    refine XS.aloadN X80.here hx rfl (hb hby d3_41) rfl rfl ?_
    refine XS.aload X80.here hx rfl (hb hby d3_42) rfl rfl ?_
    refine XS.iloadN X80.here hx rfl (hb hby d3_44) rfl ?_
    refine st90 _ ?_
    show Sp p e below m T90 48 #[.val (.ref aa), .val (.ref ac), .val (.int (0 : Int32)), .val (.int (4 : Int32)), .val .null, .val (.ref rrb_80)] [(.int (0 : Int32)), (.ref aa)] _
    refine st91 _ ?_
    show Sp p e below m T91 51 #[.val (.ref aa), .val (.ref ac), .val (.int (0 : Int32)), .val (.int (4 : Int32)), .val .null, .val (.ref rrb_80)] [] _
    refine XS.aloadN X91.here hx rfl (hb hby d3_51) rfl rfl ?_
    refine XS.aload X91.here hx rfl (hb hby d3_52) rfl rfl ?_
    refine st102 _ ?_
    show Sp p e below m T102 57 #[.val (.ref aa), .val (.ref ac), .val (.int (0 : Int32)), .val (.int (4 : Int32)), .val .null, .val (.ref rrb_80)] [] _
    exact X102.returnOut hx Bd.returns (hb hby d3_57) hr
  · show Q3n4 Z aa ac cs vf kc cc0 cc1 cc2 cc3 h0 n0 _ T102.heap _
    rw [e102]
    exact ⟨rrb_80, rrk_80, rfl, N102, KK102, f108, f109, f110, f112, g_rrb_80, sz_rrb_80⟩
theorem d2_0 : decode jdk_42_method_3_code 0 = .ok (.aload_n 0, 1) := by decide +kernel
theorem d2_1 : decode jdk_42_method_3_code 1 = .ok (.aload_n 1, 1) := by decide +kernel
theorem d2_2 : decode jdk_42_method_3_code 2 = .ok (.iconst 0, 1) := by decide +kernel
theorem d2_3 : decode jdk_42_method_3_code 3 = .ok (.aload_n 1, 1) := by decide +kernel
theorem d2_4 : decode jdk_42_method_3_code 4 = .ok (.arraylength, 1) := by decide +kernel
theorem d2_5 : decode jdk_42_method_3_code 5 = .ok (.aconst_null, 1) := by decide +kernel
theorem d2_6 : decode jdk_42_method_3_code 6 = .ok (.invokespecial 27, 3) := by decide +kernel
theorem own_pd78 : parseMethodDescriptor "([CIILjava/lang/Void;)V" = some ⟨[(.array .char), .int, .int, (.object "java/lang/Void")], none⟩ := by decide +kernel
theorem d2_9 : decode jdk_42_method_3_code 9 = .ok (.return_, 1) := by decide +kernel
theorem ef_2n4 (m : MethodId) (x0 : Addr) (x1 : Addr) : entryFrame m #[(.ref x0), (.ref x1)] 2 = mkF m 0 #[.val (.ref x0), .val (.ref x1)] [] := by first | (simp [entryFrame, mkF, argsToLocals, Value.category]; done) | rfl
def Q2n4 (Z : State) (aa : Addr) (ac : Addr) (cs : Int32) (vf : Value) (kc : ClassId) (cc0 : Int32) (cc1 : Int32) (cc2 : Int32) (cc3 : Int32) (h0 : Heap) (n0 : Nat) (v : Option Value) (h : Heap) (L : List Loc) : Prop := ∃ (rb : Addr) (rk : ClassId), v = none ∧ Fr n0 L ∧ Keep h0 h [aa] ∧ Exa Z h aa "java/lang/String" ∧ Fld Z h aa "java/lang/String" "value" "[B" (.ref rb) ∧ Fld Z h aa "java/lang/String" "coder" "B" (.int (0 : Int32)) ∧ Arv Z h rb rk .byte (4 : Int32) [(.int (nar .byte (cc0.toInt8.toInt32))), (.int (nar .byte (cc1.toInt8.toInt32))), (.int (nar .byte (cc2.toInt8.toInt32))), (.int (nar .byte (cc3.toInt8.toInt32)))] (.int (0 : Int32)) ∧ n0 ≤ rb ∧ h0.size ≤ rb
theorem rm2n4 (l : Launch) (Z : State) (a0 : Array Value) (hw : ∀ d ∈ tables_1, d.before a0 Z = true) (ws : List Jvm.Cond) (aa : Addr) (ac : Addr) (cs : Int32) (vf : Value) (kc : ClassId) (cc0 : Int32) (cc1 : Int32) (cc2 : Int32) (cc3 : Int32) (h0 : Heap) (n0 : Nat) (Z0 : n0 ≤ h0.size) (O0 : Old Z n0 h0) (Scs : Sta Z Z.heap "java/lang/String" "COMPACT_STRINGS" "Z" (.int cs)) (hcs : ¬ cs = (0 : Int32)) (Ssf : Sta Z Z.heap "jdk/internal/util/Preconditions" "SIOOBE_FORMATTER" "Ljava/util/function/BiFunction;" vf) (hvf : vf.isRef = true) (Sas : Sta Z Z.heap "java/lang/StringUTF16" "$assertionsDisabled" "Z" (.int (1 : Int32))) (Shs : Sta Z Z.heap "java/lang/StringUTF16" "HI_BYTE_SHIFT" "I" (.int (0 : Int32))) (Sls : Sta Z Z.heap "java/lang/StringUTF16" "LO_BYTE_SHIFT" "I" (.int (8 : Int32))) (Ea : Exa Z h0 aa "java/lang/String") (Fv : Fld Z h0 aa "java/lang/String" "value" "[B" .null) (Fc : Fld Z h0 aa "java/lang/String" "coder" "B" (.int (0 : Int32))) (g_aa : n0 ≤ aa) (Vc : Arv Z h0 ac kc .char (4 : Int32) [(.int cc0), (.int cc1), (.int cc2), (.int cc3)] (.int (0 : Int32))) (nac : aa ≠ ac) (hp0 : 0 ≤ cc0.toInt ∧ cc0.toInt ≤ 255) (hp1 : 0 ≤ cc1.toInt ∧ cc1.toInt ≤ 255) (hp2 : 0 ≤ cc2.toInt ∧ cc2.toInt ≤ 255) (hp3 : 0 ≤ cc3.toInt ∧ cc3.toInt ≤ 255) :
    MetFree l (⟨"java/lang/String", "<init>", "([C)V"⟩ : MethodName) (head1 (Jvm.Cond.code (⟨"java/lang/String", "<init>", "([C)V"⟩ : MethodName) jdk_42_method_3_code 2 none :: ws) ({ frames := 3, cells := 1, slots := 4, locals := 52 } : Room)) (fun a U => a = #[(.ref aa), (.ref ac)] ∧ Z.Warmed39 U.vm ∧ U.heap = h0) (fun _ _ _ _ _ => True) (fun _ U o U' => ∃ v L, o = .returned v ∧ Q2n4 Z aa ac cs vf kc cc0 cc1 cc2 cc3 h0 n0 v U'.heap L ∧ FrameEnd U o U' L ({ frames := 3, cells := 1, slots := 4, locals := 52 } : Room).cells ({ frames := 3, cells := 1, slots := 4, locals := 52 } : Room).slots) := by
  refine MetFree.of_bodySF (plainFor_of_name own_pn70) hisR ?_
  intro p e s m args below meth c s₁ Bd hml0 hP hK
  have H := fun i c (h : tables_1[i]? = some c) => hw c (List.mem_of_getElem? h)
  obtain ⟨rfl, hZ, hh⟩ := hP
  have hx := Bd.exec
  have hby := Bd.bytes
  have hml : c.maxLocals = 2 := hml0
  have hown : s.vm.findClass "java/lang/String" = some m.cls := findClass_of_methodNamed Bd.named
  have hnm := (name_of_methodNamed Bd.named Bd.method).1
  have X0 : Stand p l e ({ frames := 3, cells := 1, slots := 4, locals := 52 } : Room) s m #[(.ref aa), (.ref ac)] below meth c s₁ [] 0 0 := Stand.of_body Bd
  have e0 : s₁.heap = h0 := by rw [← hh, Bd.state]; rfl
  have N0 := Fr.nil n0
  have pre0 : ∀ t, Sp p e below m s₁ 0 #[.val (.ref aa), .val (.ref ac)] [] t → Steps p.tables e below (s₁.setTop (entryFrame m #[(.ref aa), (.ref ac)] 2)) t := fun t k => castTop (ef_2n4 m aa ac) k
  generalize s₁.setTop (entryFrame m #[(.ref aa), (.ref ac)] 2) = G0 at pre0 ⊢
  obtain ⟨cl122, Ar122, -, S122, M122, -, -⟩ := id Vc
  obtain ⟨_, _, ⟨T123, L123, k123, n123⟩, -, X123, ⟨Lc123, hQ123, l123, y123, z123⟩, st123⟩ := X0.specialBack hx (y := (⟨"java/lang/String", "<init>", "([CIILjava/lang/Void;)V"⟩ : MethodName)) rfl hown (mvT hZ (H 11 _ rfl)) (mvT hZ (H 12 _ rfl)) (mvT hZ (H 14 _ rfl)) (by decide) (backOf (W := 0) (rm3n4 l Z a0 hw [] aa ac cs vf kc cc0 cc1 cc2 cc3 h0 n0 Z0 O0 Scs hcs Ssf hvf Sas Shs Sls Ea Fv Fc g_aa Vc nac hp0 hp1 hp2 hp3) hZ (H 14 _ rfl) (H 7 _ rfl) (by decide) (by decide)) (g := (mkF m 6 #[.val (.ref aa), .val (.ref ac)] [.null, (.int (4 : Int32)), (.int (0 : Int32)), (.ref ac), (.ref aa)])) rfl (by rw [hml]; rfl) (Steps.refl _) (a := aa) (argsL := [(.ref ac), (.int (0 : Int32)), (.int (4 : Int32)), .null]) (rest := []) (lenOf own_pd78 rfl) rfl (Nat.le_of_eq rfl) (hb hby d2_6) (fun _ _ => ⟨rfl, e0, (by decide : 0 + 1 ≤ _), (by decide : 0 + 4 ≤ _)⟩)
  dsimp only [Pt.U, Pt.locs, Pt.cells, Pt.slots] at X123 l123 y123 z123 st123 hQ123
  rw [l123, y123, z123] at X123
  obtain ⟨rrb_123, rrk_123, rfl, Nq123, K123, p123_0, p123_1, p123_2, p123_3, p123_4, p123_5⟩ := hQ123
  have N123 := Fr.app N0 Nq123
  have Zs123 : n0 ≤ T123.heap.size := Nat.le_trans Z0 K123.1
  have KK123 : Keep h0 T123.heap [aa] := (Keep.refl h0 _).trans K123 (allS (Or.inl (List.mem_of_getElem? (i := 0) rfl)) all0)
  have ne_aa_rrb_123 : aa ≠ rrb_123 := Nat.ne_of_lt (Nat.lt_of_lt_of_le Ea.lt p123_5)
  have ne_ac_rrb_123 : ac ≠ rrb_123 := Nat.ne_of_lt (Nat.lt_of_lt_of_le Vc.lt p123_5)
  have sz_rrb_123 : h0.size ≤ rrb_123 := p123_5
  have O123 := O0.keep K123 (allS g_aa all0)
  have f124 := Scs.ext O123.2
  have f125 := Ssf.ext O123.2
  have f126 := Sas.ext O123.2
  have f127 := Shs.ext O123.2
  have f128 := Sls.ext O123.2
  have f129 := Ea.keep K123
  have f130 := Vc.keep K123 (ninS (Ne.symm nac) nin0)
  have g_rrb_123 := p123_4
  obtain ⟨fs, hr, hrun, hended, hW, hsame⟩ := X123.leave (v := none) (fun _ => rfl)
  refine ⟨_, _, pre0 _ ?_, hrun, hended, _, _, rfl, ?_, ⟨_, rfl⟩, hW, hsame.mono (by decide) (by decide)⟩
  · show Sp p e below m s₁ 0 #[.val (.ref aa), .val (.ref ac)] [] _
    refine XS.aloadN X0.here hx rfl (hb hby d2_0) rfl rfl ?_
    refine XS.aloadN X0.here hx rfl (hb hby d2_1) rfl rfl ?_
    refine XS.iconst X0.here hx rfl (hb hby d2_2) ?_
    refine XS.aloadN X0.here hx rfl (hb hby d2_3) rfl rfl ?_
    refine X0.arraylength hx (by rw [e0]; exact Ar122.1) (State.isArrayOf_alike hZ.alike Ar122.2.1) (g := (mkF m 4 #[.val (.ref aa), .val (.ref ac)] [(.ref ac), (.int (0 : Int32)), (.ref ac), (.ref aa)])) rfl rfl (hb hby d2_4) _ ?_
    rw [len_of S122 M122]
    show Sp p e below m s₁ 5 #[.val (.ref aa), .val (.ref ac)] [(.int (4 : Int32)), (.int (0 : Int32)), (.ref ac), (.ref aa)] _
    refine XS.aconstNull X0.here hx rfl (hb hby d2_5) ?_
    refine st123.trans ?_
    show Sp p e below m T123 9 #[.val (.ref aa), .val (.ref ac)] [] _
    exact X123.returnOut hx Bd.returns (hb hby d2_9) hr
  · show Q2n4 Z aa ac cs vf kc cc0 cc1 cc2 cc3 h0 n0 _ T123.heap _
    exact ⟨rrb_123, rrk_123, rfl, N123, KK123, p123_0, p123_1, p123_2, p123_3, g_rrb_123, sz_rrb_123⟩
theorem d6_23 : decode jdk_52_method_21_code 23 = .ok (.iload 5, 2) := by decide +kernel
theorem d6_25 : decode jdk_52_method_21_code 25 = .ok (.ireturn, 1) := by decide +kernel
theorem ef_6u (m : MethodId) (x0 : Addr) (x2 : Addr) : entryFrame m #[(.ref x0), (.int (0 : Int32)), (.ref x2), (.int (0 : Int32)), (.int (4 : Int32))] 7 = mkF m 0 #[.val (.ref x0), .val (.int (0 : Int32)), .val (.ref x2), .val (.int (0 : Int32)), .val (.int (4 : Int32)), .unset, .unset] [] := by first | (simp [entryFrame, mkF, argsToLocals, Value.category]; done) | rfl
def Q6u (Z : State) (ac : Addr) (ab : Addr) (kc : ClassId) (cc0 : Int32) (cc1 : Int32) (cc2 : Int32) (cc3 : Int32) (kb : ClassId) (h0 : Heap) (n0 : Nat) (v : Option Value) (h : Heap) (L : List Loc) : Prop := ∃ (rv : Int32), v = some (.int rv) ∧ Fr n0 L ∧ Keep h0 h [ab] ∧ ((rv = 0 ∧ (255 : Int32) < cc0) ∨ (rv = 1 ∧ (255 : Int32) < cc1) ∨ (rv = 2 ∧ (255 : Int32) < cc2) ∨ (rv = 3 ∧ (255 : Int32) < cc3))
theorem rm6u (l : Launch) (Z : State) (a0 : Array Value) (hw : ∀ d ∈ tables_1, d.before a0 Z = true) (ws : List Jvm.Cond) (ac : Addr) (ab : Addr) (kc : ClassId) (cc0 : Int32) (cc1 : Int32) (cc2 : Int32) (cc3 : Int32) (kb : ClassId) (h0 : Heap) (n0 : Nat) (Z0 : n0 ≤ h0.size) (Vc : Arv Z h0 ac kc .char (4 : Int32) [(.int cc0), (.int cc1), (.int cc2), (.int cc3)] (.int (0 : Int32))) (Vb : Arv Z h0 ab kb .byte (4 : Int32) [(.int (0 : Int32)), (.int (0 : Int32)), (.int (0 : Int32)), (.int (0 : Int32))] (.int (0 : Int32))) (g_ab : n0 ≤ ab) (nab : ac ≠ ab) (hr0 : 0 ≤ cc0.toInt ∧ cc0.toInt ≤ 65535) (hr1 : 0 ≤ cc1.toInt ∧ cc1.toInt ≤ 65535) (hr2 : 0 ≤ cc2.toInt ∧ cc2.toInt ≤ 65535) (hr3 : 0 ≤ cc3.toInt ∧ cc3.toInt ≤ 65535) (hnl : ¬ ((0 ≤ cc0.toInt ∧ cc0.toInt ≤ 255) ∧ (0 ≤ cc1.toInt ∧ cc1.toInt ≤ 255) ∧ (0 ≤ cc2.toInt ∧ cc2.toInt ≤ 255) ∧ (0 ≤ cc3.toInt ∧ cc3.toInt ≤ 255))) :
    MetFree l (⟨"java/lang/StringUTF16", "compress", "([CI[BII)I"⟩ : MethodName) (head1 (Jvm.Cond.code (⟨"java/lang/StringUTF16", "compress", "([CI[BII)I"⟩ : MethodName) jdk_52_method_21_code 7 (some .int) :: ws) ({ frames := 0, cells := 0, slots := 0, locals := 0 } : Room)) (fun a U => a = #[(.ref ac), (.int (0 : Int32)), (.ref ab), (.int (0 : Int32)), (.int (4 : Int32))] ∧ Z.Warmed39 U.vm ∧ U.heap = h0) (fun _ _ _ _ _ => True) (fun _ U o U' => ∃ v L, o = .returned v ∧ Q6u Z ac ab kc cc0 cc1 cc2 cc3 kb h0 n0 v U'.heap L ∧ FrameEnd U o U' L ({ frames := 0, cells := 0, slots := 0, locals := 0 } : Room).cells ({ frames := 0, cells := 0, slots := 0, locals := 0 } : Room).slots) := by
  refine MetFree.of_bodySF (plainFor_of_name own_pn23) hisR ?_
  intro p e s m args below meth c s₁ Bd hml0 hP hK
  have H := fun i c (h : tables_1[i]? = some c) => hw c (List.mem_of_getElem? h)
  obtain ⟨rfl, hZ, hh⟩ := hP
  have hx := Bd.exec
  have hby := Bd.bytes
  have hml : c.maxLocals = 7 := hml0
  have hown : s.vm.findClass "java/lang/StringUTF16" = some m.cls := findClass_of_methodNamed Bd.named
  have hnm := (name_of_methodNamed Bd.named Bd.method).1
  have X0 : Stand p l e ({ frames := 0, cells := 0, slots := 0, locals := 0 } : Room) s m #[(.ref ac), (.int (0 : Int32)), (.ref ab), (.int (0 : Int32)), (.int (4 : Int32))] below meth c s₁ [] 0 0 := Stand.of_body Bd
  have e0 : s₁.heap = h0 := by rw [← hh, Bd.state]; rfl
  have N0 := Fr.nil n0
  have pre0 : ∀ t, Sp p e below m s₁ 0 #[.val (.ref ac), .val (.int (0 : Int32)), .val (.ref ab), .val (.int (0 : Int32)), .val (.int (4 : Int32)), .unset, .unset] [] t → Steps p.tables e below (s₁.setTop (entryFrame m #[(.ref ac), (.int (0 : Int32)), (.ref ab), (.int (0 : Int32)), (.int (4 : Int32))] 7)) t := fun t k => castTop (ef_6u m ac ab) k
  generalize s₁.setTop (entryFrame m #[(.ref ac), (.int (0 : Int32)), (.ref ab), (.int (0 : Int32)), (.int (4 : Int32))] 7) = G0 at pre0 ⊢
  obtain ⟨cl155, Ar155, -, S155, -, H155, -⟩ := id Vc
  have hin155 : ¬ ((0 : Int32) < 0 ∨ cl155.slots.size ≤ ((0 : Int32)).toNatClampNeg) := inb_of S155 ⟨by decide, by decide⟩
  have hat155 : cl155.slots[((0 : Int32)).toNatClampNeg]? = some (.int cc0) := H155.at hin155 rfl
  have pre156 : ∀ t, Sp p e below m s₁ 20 #[.val (.ref ac), .val (.int (0 : Int32)), .val (.ref ab), .val (.int (0 : Int32)), .val (.int (4 : Int32)), .val (.int (0 : Int32)), .val (.int cc0)] [(.int (255 : Int32)), (.int cc0)] t → SG p e below G0 t := by
    intro t k
    refine pre0 t ?_
    show Sp p e below m s₁ 0 #[.val (.ref ac), .val (.int (0 : Int32)), .val (.ref ab), .val (.int (0 : Int32)), .val (.int (4 : Int32)), .unset, .unset] [] _
    refine XS.iconst X0.here hx rfl (hb hby d6_0) ?_
    refine XS.istore X0.here hx rfl (hb hby d6_1) rfl (l' := #[.val (.ref ac), .val (.int (0 : Int32)), .val (.ref ab), .val (.int (0 : Int32)), .val (.int (4 : Int32)), .val (.int (0 : Int32)), .unset]) rfl ?_
    refine XS.iload X0.here hx rfl (hb hby d6_3) rfl ?_
    refine XS.iload X0.here hx rfl (hb hby d6_5) rfl ?_
    refine XS.icmpNo X0.here hx rfl (hb hby d6_7) rfl (tlt (by decide : ((0 : Int32) < (4 : Int32)))).2.1 ?_
    refine XS.aloadN X0.here hx rfl (hb hby d6_10) rfl rfl ?_
    refine XS.iloadN X0.here hx rfl (hb hby d6_11) rfl ?_
    refine X0.caload hx (j := (0 : Int32)) (v := (.int cc0)) (by rw [e0]; exact Ar155.1) (State.isArrayOf_alike hZ.alike Ar155.2.1) Ar155.2.2 hin155 hat155 (g := (mkF m 12 #[.val (.ref ac), .val (.int (0 : Int32)), .val (.ref ab), .val (.int (0 : Int32)), .val (.int (4 : Int32)), .val (.int (0 : Int32)), .unset] [(.int (0 : Int32)), (.ref ac)])) rfl rfl (hb hby d6_12) _ ?_
    show Sp p e below m s₁ 13 #[.val (.ref ac), .val (.int (0 : Int32)), .val (.ref ab), .val (.int (0 : Int32)), .val (.int (4 : Int32)), .val (.int (0 : Int32)), .unset] [(.int cc0)] _
    refine XS.istore X0.here hx rfl (hb hby d6_13) rfl (l' := #[.val (.ref ac), .val (.int (0 : Int32)), .val (.ref ab), .val (.int (0 : Int32)), .val (.int (4 : Int32)), .val (.int (0 : Int32)), .val (.int cc0)]) rfl ?_
    refine XS.iload X0.here hx rfl (hb hby d6_15) rfl ?_
    refine XS.sipush X0.here hx rfl (hb hby d6_17) ?_
    exact k
  by_cases hc20_157 : (255 : Int32) < cc0
  · obtain ⟨fs, hr, hrun, hended, hW, hsame⟩ := X0.leave (v := some (.int (0 : Int32))) (fun h => by rw [Bd.returns] at h; cases h)
    refine ⟨_, _, pre156 _ ?_, hrun, hended, _, _, rfl, ?_, ⟨_, rfl⟩, hW, hsame.mono (by decide) (by decide)⟩
    · show Sp p e below m s₁ 20 #[.val (.ref ac), .val (.int (0 : Int32)), .val (.ref ab), .val (.int (0 : Int32)), .val (.int (4 : Int32)), .val (.int (0 : Int32)), .val (.int cc0)] [(.int (255 : Int32)), (.int cc0)] _
      refine XS.icmpNo X0.here hx rfl (hb hby d6_20) rfl (tlt hc20_157).2.2.2 ?_
      refine XS.iload X0.here hx rfl (hb hby d6_23) rfl ?_
      exact retI X0 hx Bd.returns (hb hby d6_25) hr
    · show Q6u Z ac ab kc cc0 cc1 cc2 cc3 kb h0 n0 _ s₁.heap _
      rw [e0]
      exact ⟨(0 : Int32), rfl, N0, (Keep.refl _ _), Or.inl ⟨rfl, hc20_157⟩⟩
  · obtain ⟨cl158, Ar158, q158, S158, N158, H158, G158⟩ := id Vb
    have hin158 : ¬ ((0 : Int32) < 0 ∨ cl158.slots.size ≤ ((0 : Int32)).toNatClampNeg) := inb_of S158 ⟨by decide, by decide⟩
    obtain ⟨T159, h159, X159, e159, W159, st159⟩ := stB X0 hx hZ e0 Ar158 (j := (0 : Int32)) hin158 (g := (mkF m 31 #[.val (.ref ac), .val (.int (0 : Int32)), .val (.ref ab), .val (.int (0 : Int32)), .val (.int (4 : Int32)), .val (.int (0 : Int32)), .val (.int cc0)] [(.int (cc0.toInt8.toInt32)), (.int (0 : Int32)), (.ref ab)])) rfl rfl (hb hby d6_31)
    have V159 : Arv Z h159 ab kb .byte (4 : Int32) [(.int (nar .byte (cc0.toInt8.toInt32))), (.int (0 : Int32)), (.int (0 : Int32)), (.int (0 : Int32))] (.int (0 : Int32)) := Arv.set Ar158 q158 S158 N158 H158 G158 (fits_nar_byte (cc0.toInt8.toInt32)) W159 0 rfl (Nat.le_of_ble_eq_true rfl)
    have N159 := Fr.snoc X159 N0 g_ab
    have Zs159 : n0 ≤ h159.size := Nat.le_trans Z0 (Keep.of_wr W159).1
    have KK159 : Keep h0 h159 [ab] := (Keep.refl h0 _).wr W159 (Or.inl (List.mem_of_getElem? (i := 0) rfl))
    have f160 := Vc.other W159 nab
    obtain ⟨cl161, Ar161, -, S161, -, H161, -⟩ := id f160
    have hin161 : ¬ ((1 : Int32) < 0 ∨ cl161.slots.size ≤ ((1 : Int32)).toNatClampNeg) := inb_of S161 ⟨by decide, by decide⟩
    have hat161 : cl161.slots[((1 : Int32)).toNatClampNeg]? = some (.int cc1) := H161.at hin161 rfl
    have pre162 : ∀ t, Sp p e below m T159 20 #[.val (.ref ac), .val (.int (1 : Int32)), .val (.ref ab), .val (.int (1 : Int32)), .val (.int (4 : Int32)), .val (.int (1 : Int32)), .val (.int cc1)] [(.int (255 : Int32)), (.int cc1)] t → SG p e below G0 t := by
      intro t k
      refine pre156 t ?_
      show Sp p e below m s₁ 20 #[.val (.ref ac), .val (.int (0 : Int32)), .val (.ref ab), .val (.int (0 : Int32)), .val (.int (4 : Int32)), .val (.int (0 : Int32)), .val (.int cc0)] [(.int (255 : Int32)), (.int cc0)] _
      refine XS.icmpYes X0.here hx rfl (pc0 := 20) (pc' := 26) rfl (hb hby d6_20) rfl (flt hc20_157).2.2.2 (by decide) (by decide) ?_
      refine XS.aloadN X0.here hx rfl (hb hby d6_26) rfl rfl ?_
      refine XS.iloadN X0.here hx rfl (hb hby d6_27) rfl ?_
      refine XS.iload X0.here hx rfl (hb hby d6_28) rfl ?_
      refine XS.i2b X0.here hx rfl (hb hby d6_30) rfl ?_
      show Sp p e below m s₁ 31 #[.val (.ref ac), .val (.int (0 : Int32)), .val (.ref ab), .val (.int (0 : Int32)), .val (.int (4 : Int32)), .val (.int (0 : Int32)), .val (.int cc0)] [(.int (cc0.toInt8.toInt32)), (.int (0 : Int32)), (.ref ab)] _
      refine st159 _ ?_
      show Sp p e below m T159 32 #[.val (.ref ac), .val (.int (0 : Int32)), .val (.ref ab), .val (.int (0 : Int32)), .val (.int (4 : Int32)), .val (.int (0 : Int32)), .val (.int cc0)] [] _
      refine XS.iinc X159.here hx rfl (hb hby d6_32) rfl (l' := #[.val (.ref ac), .val (.int (1 : Int32)), .val (.ref ab), .val (.int (0 : Int32)), .val (.int (4 : Int32)), .val (.int (0 : Int32)), .val (.int cc0)]) rfl ?_
      refine XS.iinc X159.here hx rfl (hb hby d6_35) rfl (l' := #[.val (.ref ac), .val (.int (1 : Int32)), .val (.ref ab), .val (.int (1 : Int32)), .val (.int (4 : Int32)), .val (.int (0 : Int32)), .val (.int cc0)]) rfl ?_
      refine XS.iinc X159.here hx rfl (hb hby d6_38) rfl (l' := #[.val (.ref ac), .val (.int (1 : Int32)), .val (.ref ab), .val (.int (1 : Int32)), .val (.int (4 : Int32)), .val (.int (1 : Int32)), .val (.int cc0)]) rfl ?_
      refine XS.goto X159.here hx rfl (pc0 := 41) (pc' := 3) rfl (hb hby d6_41) (by decide) (by decide) ?_
      refine XS.iload X159.here hx rfl (hb hby d6_3) rfl ?_
      refine XS.iload X159.here hx rfl (hb hby d6_5) rfl ?_
      refine XS.icmpNo X159.here hx rfl (hb hby d6_7) rfl (tlt (by decide : ((1 : Int32) < (4 : Int32)))).2.1 ?_
      refine XS.aloadN X159.here hx rfl (hb hby d6_10) rfl rfl ?_
      show Sp p e below m T159 11 #[.val (.ref ac), .val (.int (1 : Int32)), .val (.ref ab), .val (.int (1 : Int32)), .val (.int (4 : Int32)), .val (.int (1 : Int32)), .val (.int cc0)] [(.ref ac)] _
      refine XS.iloadN X159.here hx rfl (hb hby d6_11) rfl ?_
      refine X159.caload hx (j := (1 : Int32)) (v := (.int cc1)) (by rw [e159]; exact Ar161.1) (State.isArrayOf_alike hZ.alike Ar161.2.1) Ar161.2.2 hin161 hat161 (g := (mkF m 12 #[.val (.ref ac), .val (.int (1 : Int32)), .val (.ref ab), .val (.int (1 : Int32)), .val (.int (4 : Int32)), .val (.int (1 : Int32)), .val (.int cc0)] [(.int (1 : Int32)), (.ref ac)])) rfl rfl (hb hby d6_12) _ ?_
      show Sp p e below m T159 13 #[.val (.ref ac), .val (.int (1 : Int32)), .val (.ref ab), .val (.int (1 : Int32)), .val (.int (4 : Int32)), .val (.int (1 : Int32)), .val (.int cc0)] [(.int cc1)] _
      refine XS.istore X159.here hx rfl (hb hby d6_13) rfl (l' := #[.val (.ref ac), .val (.int (1 : Int32)), .val (.ref ab), .val (.int (1 : Int32)), .val (.int (4 : Int32)), .val (.int (1 : Int32)), .val (.int cc1)]) rfl ?_
      refine XS.iload X159.here hx rfl (hb hby d6_15) rfl ?_
      refine XS.sipush X159.here hx rfl (hb hby d6_17) ?_
      exact k
    by_cases hc20_163 : (255 : Int32) < cc1
    · obtain ⟨fs, hr, hrun, hended, hW, hsame⟩ := X159.leave (v := some (.int (1 : Int32))) (fun h => by rw [Bd.returns] at h; cases h)
      refine ⟨_, _, pre162 _ ?_, hrun, hended, _, _, rfl, ?_, ⟨_, rfl⟩, hW, hsame.mono (by decide) (by decide)⟩
      · show Sp p e below m T159 20 #[.val (.ref ac), .val (.int (1 : Int32)), .val (.ref ab), .val (.int (1 : Int32)), .val (.int (4 : Int32)), .val (.int (1 : Int32)), .val (.int cc1)] [(.int (255 : Int32)), (.int cc1)] _
        refine XS.icmpNo X159.here hx rfl (hb hby d6_20) rfl (tlt hc20_163).2.2.2 ?_
        refine XS.iload X159.here hx rfl (hb hby d6_23) rfl ?_
        exact retI X159 hx Bd.returns (hb hby d6_25) hr
      · show Q6u Z ac ab kc cc0 cc1 cc2 cc3 kb h0 n0 _ T159.heap _
        rw [e159]
        exact ⟨(1 : Int32), rfl, N159, KK159, Or.inr (Or.inl ⟨rfl, hc20_163⟩)⟩
    · obtain ⟨cl164, Ar164, q164, S164, N164, H164, G164⟩ := id V159
      have hin164 : ¬ ((1 : Int32) < 0 ∨ cl164.slots.size ≤ ((1 : Int32)).toNatClampNeg) := inb_of S164 ⟨by decide, by decide⟩
      obtain ⟨T165, h165, X165, e165, W165, st165⟩ := stB X159 hx hZ e159 Ar164 (j := (1 : Int32)) hin164 (g := (mkF m 31 #[.val (.ref ac), .val (.int (1 : Int32)), .val (.ref ab), .val (.int (1 : Int32)), .val (.int (4 : Int32)), .val (.int (1 : Int32)), .val (.int cc1)] [(.int (cc1.toInt8.toInt32)), (.int (1 : Int32)), (.ref ab)])) rfl rfl (hb hby d6_31)
      have V165 : Arv Z h165 ab kb .byte (4 : Int32) [(.int (nar .byte (cc0.toInt8.toInt32))), (.int (nar .byte (cc1.toInt8.toInt32))), (.int (0 : Int32)), (.int (0 : Int32))] (.int (0 : Int32)) := Arv.set Ar164 q164 S164 N164 H164 G164 (fits_nar_byte (cc1.toInt8.toInt32)) W165 1 rfl (Nat.le_of_ble_eq_true rfl)
      have N165 := Fr.snoc X165 N159 g_ab
      have Zs165 : n0 ≤ h165.size := Nat.le_trans Zs159 (Keep.of_wr W165).1
      have KK165 : Keep h0 h165 [ab] := KK159.wr W165 (Or.inl (List.mem_of_getElem? (i := 0) rfl))
      have f166 := f160.other W165 nab
      obtain ⟨cl167, Ar167, -, S167, -, H167, -⟩ := id f166
      have hin167 : ¬ ((2 : Int32) < 0 ∨ cl167.slots.size ≤ ((2 : Int32)).toNatClampNeg) := inb_of S167 ⟨by decide, by decide⟩
      have hat167 : cl167.slots[((2 : Int32)).toNatClampNeg]? = some (.int cc2) := H167.at hin167 rfl
      have pre168 : ∀ t, Sp p e below m T165 20 #[.val (.ref ac), .val (.int (2 : Int32)), .val (.ref ab), .val (.int (2 : Int32)), .val (.int (4 : Int32)), .val (.int (2 : Int32)), .val (.int cc2)] [(.int (255 : Int32)), (.int cc2)] t → SG p e below G0 t := by
        intro t k
        refine pre162 t ?_
        show Sp p e below m T159 20 #[.val (.ref ac), .val (.int (1 : Int32)), .val (.ref ab), .val (.int (1 : Int32)), .val (.int (4 : Int32)), .val (.int (1 : Int32)), .val (.int cc1)] [(.int (255 : Int32)), (.int cc1)] _
        refine XS.icmpYes X159.here hx rfl (pc0 := 20) (pc' := 26) rfl (hb hby d6_20) rfl (flt hc20_163).2.2.2 (by decide) (by decide) ?_
        refine XS.aloadN X159.here hx rfl (hb hby d6_26) rfl rfl ?_
        refine XS.iloadN X159.here hx rfl (hb hby d6_27) rfl ?_
        refine XS.iload X159.here hx rfl (hb hby d6_28) rfl ?_
        refine XS.i2b X159.here hx rfl (hb hby d6_30) rfl ?_
        show Sp p e below m T159 31 #[.val (.ref ac), .val (.int (1 : Int32)), .val (.ref ab), .val (.int (1 : Int32)), .val (.int (4 : Int32)), .val (.int (1 : Int32)), .val (.int cc1)] [(.int (cc1.toInt8.toInt32)), (.int (1 : Int32)), (.ref ab)] _
        refine st165 _ ?_
        show Sp p e below m T165 32 #[.val (.ref ac), .val (.int (1 : Int32)), .val (.ref ab), .val (.int (1 : Int32)), .val (.int (4 : Int32)), .val (.int (1 : Int32)), .val (.int cc1)] [] _
        refine XS.iinc X165.here hx rfl (hb hby d6_32) rfl (l' := #[.val (.ref ac), .val (.int (2 : Int32)), .val (.ref ab), .val (.int (1 : Int32)), .val (.int (4 : Int32)), .val (.int (1 : Int32)), .val (.int cc1)]) rfl ?_
        refine XS.iinc X165.here hx rfl (hb hby d6_35) rfl (l' := #[.val (.ref ac), .val (.int (2 : Int32)), .val (.ref ab), .val (.int (2 : Int32)), .val (.int (4 : Int32)), .val (.int (1 : Int32)), .val (.int cc1)]) rfl ?_
        refine XS.iinc X165.here hx rfl (hb hby d6_38) rfl (l' := #[.val (.ref ac), .val (.int (2 : Int32)), .val (.ref ab), .val (.int (2 : Int32)), .val (.int (4 : Int32)), .val (.int (2 : Int32)), .val (.int cc1)]) rfl ?_
        refine XS.goto X165.here hx rfl (pc0 := 41) (pc' := 3) rfl (hb hby d6_41) (by decide) (by decide) ?_
        refine XS.iload X165.here hx rfl (hb hby d6_3) rfl ?_
        refine XS.iload X165.here hx rfl (hb hby d6_5) rfl ?_
        refine XS.icmpNo X165.here hx rfl (hb hby d6_7) rfl (tlt (by decide : ((2 : Int32) < (4 : Int32)))).2.1 ?_
        refine XS.aloadN X165.here hx rfl (hb hby d6_10) rfl rfl ?_
        show Sp p e below m T165 11 #[.val (.ref ac), .val (.int (2 : Int32)), .val (.ref ab), .val (.int (2 : Int32)), .val (.int (4 : Int32)), .val (.int (2 : Int32)), .val (.int cc1)] [(.ref ac)] _
        refine XS.iloadN X165.here hx rfl (hb hby d6_11) rfl ?_
        refine X165.caload hx (j := (2 : Int32)) (v := (.int cc2)) (by rw [e165]; exact Ar167.1) (State.isArrayOf_alike hZ.alike Ar167.2.1) Ar167.2.2 hin167 hat167 (g := (mkF m 12 #[.val (.ref ac), .val (.int (2 : Int32)), .val (.ref ab), .val (.int (2 : Int32)), .val (.int (4 : Int32)), .val (.int (2 : Int32)), .val (.int cc1)] [(.int (2 : Int32)), (.ref ac)])) rfl rfl (hb hby d6_12) _ ?_
        show Sp p e below m T165 13 #[.val (.ref ac), .val (.int (2 : Int32)), .val (.ref ab), .val (.int (2 : Int32)), .val (.int (4 : Int32)), .val (.int (2 : Int32)), .val (.int cc1)] [(.int cc2)] _
        refine XS.istore X165.here hx rfl (hb hby d6_13) rfl (l' := #[.val (.ref ac), .val (.int (2 : Int32)), .val (.ref ab), .val (.int (2 : Int32)), .val (.int (4 : Int32)), .val (.int (2 : Int32)), .val (.int cc2)]) rfl ?_
        refine XS.iload X165.here hx rfl (hb hby d6_15) rfl ?_
        refine XS.sipush X165.here hx rfl (hb hby d6_17) ?_
        exact k
      by_cases hc20_169 : (255 : Int32) < cc2
      · obtain ⟨fs, hr, hrun, hended, hW, hsame⟩ := X165.leave (v := some (.int (2 : Int32))) (fun h => by rw [Bd.returns] at h; cases h)
        refine ⟨_, _, pre168 _ ?_, hrun, hended, _, _, rfl, ?_, ⟨_, rfl⟩, hW, hsame.mono (by decide) (by decide)⟩
        · show Sp p e below m T165 20 #[.val (.ref ac), .val (.int (2 : Int32)), .val (.ref ab), .val (.int (2 : Int32)), .val (.int (4 : Int32)), .val (.int (2 : Int32)), .val (.int cc2)] [(.int (255 : Int32)), (.int cc2)] _
          refine XS.icmpNo X165.here hx rfl (hb hby d6_20) rfl (tlt hc20_169).2.2.2 ?_
          refine XS.iload X165.here hx rfl (hb hby d6_23) rfl ?_
          exact retI X165 hx Bd.returns (hb hby d6_25) hr
        · show Q6u Z ac ab kc cc0 cc1 cc2 cc3 kb h0 n0 _ T165.heap _
          rw [e165]
          exact ⟨(2 : Int32), rfl, N165, KK165, Or.inr (Or.inr (Or.inl ⟨rfl, hc20_169⟩))⟩
      · obtain ⟨cl170, Ar170, q170, S170, N170, H170, G170⟩ := id V165
        have hin170 : ¬ ((2 : Int32) < 0 ∨ cl170.slots.size ≤ ((2 : Int32)).toNatClampNeg) := inb_of S170 ⟨by decide, by decide⟩
        obtain ⟨T171, h171, X171, e171, W171, st171⟩ := stB X165 hx hZ e165 Ar170 (j := (2 : Int32)) hin170 (g := (mkF m 31 #[.val (.ref ac), .val (.int (2 : Int32)), .val (.ref ab), .val (.int (2 : Int32)), .val (.int (4 : Int32)), .val (.int (2 : Int32)), .val (.int cc2)] [(.int (cc2.toInt8.toInt32)), (.int (2 : Int32)), (.ref ab)])) rfl rfl (hb hby d6_31)
        have V171 : Arv Z h171 ab kb .byte (4 : Int32) [(.int (nar .byte (cc0.toInt8.toInt32))), (.int (nar .byte (cc1.toInt8.toInt32))), (.int (nar .byte (cc2.toInt8.toInt32))), (.int (0 : Int32))] (.int (0 : Int32)) := Arv.set Ar170 q170 S170 N170 H170 G170 (fits_nar_byte (cc2.toInt8.toInt32)) W171 2 rfl (Nat.le_of_ble_eq_true rfl)
        have N171 := Fr.snoc X171 N165 g_ab
        have Zs171 : n0 ≤ h171.size := Nat.le_trans Zs165 (Keep.of_wr W171).1
        have KK171 : Keep h0 h171 [ab] := KK165.wr W171 (Or.inl (List.mem_of_getElem? (i := 0) rfl))
        have f172 := f166.other W171 nab
        obtain ⟨cl173, Ar173, -, S173, -, H173, -⟩ := id f172
        have hin173 : ¬ ((3 : Int32) < 0 ∨ cl173.slots.size ≤ ((3 : Int32)).toNatClampNeg) := inb_of S173 ⟨by decide, by decide⟩
        have hat173 : cl173.slots[((3 : Int32)).toNatClampNeg]? = some (.int cc3) := H173.at hin173 rfl
        have pre174 : ∀ t, Sp p e below m T171 20 #[.val (.ref ac), .val (.int (3 : Int32)), .val (.ref ab), .val (.int (3 : Int32)), .val (.int (4 : Int32)), .val (.int (3 : Int32)), .val (.int cc3)] [(.int (255 : Int32)), (.int cc3)] t → SG p e below G0 t := by
          intro t k
          refine pre168 t ?_
          show Sp p e below m T165 20 #[.val (.ref ac), .val (.int (2 : Int32)), .val (.ref ab), .val (.int (2 : Int32)), .val (.int (4 : Int32)), .val (.int (2 : Int32)), .val (.int cc2)] [(.int (255 : Int32)), (.int cc2)] _
          refine XS.icmpYes X165.here hx rfl (pc0 := 20) (pc' := 26) rfl (hb hby d6_20) rfl (flt hc20_169).2.2.2 (by decide) (by decide) ?_
          refine XS.aloadN X165.here hx rfl (hb hby d6_26) rfl rfl ?_
          refine XS.iloadN X165.here hx rfl (hb hby d6_27) rfl ?_
          refine XS.iload X165.here hx rfl (hb hby d6_28) rfl ?_
          refine XS.i2b X165.here hx rfl (hb hby d6_30) rfl ?_
          show Sp p e below m T165 31 #[.val (.ref ac), .val (.int (2 : Int32)), .val (.ref ab), .val (.int (2 : Int32)), .val (.int (4 : Int32)), .val (.int (2 : Int32)), .val (.int cc2)] [(.int (cc2.toInt8.toInt32)), (.int (2 : Int32)), (.ref ab)] _
          refine st171 _ ?_
          show Sp p e below m T171 32 #[.val (.ref ac), .val (.int (2 : Int32)), .val (.ref ab), .val (.int (2 : Int32)), .val (.int (4 : Int32)), .val (.int (2 : Int32)), .val (.int cc2)] [] _
          refine XS.iinc X171.here hx rfl (hb hby d6_32) rfl (l' := #[.val (.ref ac), .val (.int (3 : Int32)), .val (.ref ab), .val (.int (2 : Int32)), .val (.int (4 : Int32)), .val (.int (2 : Int32)), .val (.int cc2)]) rfl ?_
          refine XS.iinc X171.here hx rfl (hb hby d6_35) rfl (l' := #[.val (.ref ac), .val (.int (3 : Int32)), .val (.ref ab), .val (.int (3 : Int32)), .val (.int (4 : Int32)), .val (.int (2 : Int32)), .val (.int cc2)]) rfl ?_
          refine XS.iinc X171.here hx rfl (hb hby d6_38) rfl (l' := #[.val (.ref ac), .val (.int (3 : Int32)), .val (.ref ab), .val (.int (3 : Int32)), .val (.int (4 : Int32)), .val (.int (3 : Int32)), .val (.int cc2)]) rfl ?_
          refine XS.goto X171.here hx rfl (pc0 := 41) (pc' := 3) rfl (hb hby d6_41) (by decide) (by decide) ?_
          refine XS.iload X171.here hx rfl (hb hby d6_3) rfl ?_
          refine XS.iload X171.here hx rfl (hb hby d6_5) rfl ?_
          refine XS.icmpNo X171.here hx rfl (hb hby d6_7) rfl (tlt (by decide : ((3 : Int32) < (4 : Int32)))).2.1 ?_
          refine XS.aloadN X171.here hx rfl (hb hby d6_10) rfl rfl ?_
          show Sp p e below m T171 11 #[.val (.ref ac), .val (.int (3 : Int32)), .val (.ref ab), .val (.int (3 : Int32)), .val (.int (4 : Int32)), .val (.int (3 : Int32)), .val (.int cc2)] [(.ref ac)] _
          refine XS.iloadN X171.here hx rfl (hb hby d6_11) rfl ?_
          refine X171.caload hx (j := (3 : Int32)) (v := (.int cc3)) (by rw [e171]; exact Ar173.1) (State.isArrayOf_alike hZ.alike Ar173.2.1) Ar173.2.2 hin173 hat173 (g := (mkF m 12 #[.val (.ref ac), .val (.int (3 : Int32)), .val (.ref ab), .val (.int (3 : Int32)), .val (.int (4 : Int32)), .val (.int (3 : Int32)), .val (.int cc2)] [(.int (3 : Int32)), (.ref ac)])) rfl rfl (hb hby d6_12) _ ?_
          show Sp p e below m T171 13 #[.val (.ref ac), .val (.int (3 : Int32)), .val (.ref ab), .val (.int (3 : Int32)), .val (.int (4 : Int32)), .val (.int (3 : Int32)), .val (.int cc2)] [(.int cc3)] _
          refine XS.istore X171.here hx rfl (hb hby d6_13) rfl (l' := #[.val (.ref ac), .val (.int (3 : Int32)), .val (.ref ab), .val (.int (3 : Int32)), .val (.int (4 : Int32)), .val (.int (3 : Int32)), .val (.int cc3)]) rfl ?_
          refine XS.iload X171.here hx rfl (hb hby d6_15) rfl ?_
          refine XS.sipush X171.here hx rfl (hb hby d6_17) ?_
          exact k
        by_cases hc20_175 : (255 : Int32) < cc3
        · obtain ⟨fs, hr, hrun, hended, hW, hsame⟩ := X171.leave (v := some (.int (3 : Int32))) (fun h => by rw [Bd.returns] at h; cases h)
          refine ⟨_, _, pre174 _ ?_, hrun, hended, _, _, rfl, ?_, ⟨_, rfl⟩, hW, hsame.mono (by decide) (by decide)⟩
          · show Sp p e below m T171 20 #[.val (.ref ac), .val (.int (3 : Int32)), .val (.ref ab), .val (.int (3 : Int32)), .val (.int (4 : Int32)), .val (.int (3 : Int32)), .val (.int cc3)] [(.int (255 : Int32)), (.int cc3)] _
            refine XS.icmpNo X171.here hx rfl (hb hby d6_20) rfl (tlt hc20_175).2.2.2 ?_
            refine XS.iload X171.here hx rfl (hb hby d6_23) rfl ?_
            exact retI X171 hx Bd.returns (hb hby d6_25) hr
          · show Q6u Z ac ab kc cc0 cc1 cc2 cc3 kb h0 n0 _ T171.heap _
            rw [e171]
            exact ⟨(3 : Int32), rfl, N171, KK171, Or.inr (Or.inr (Or.inr (⟨rfl, hc20_175⟩)))⟩
        · obtain ⟨cl176, Ar176, q176, S176, N176, H176, G176⟩ := id V171
          have hin176 : ¬ ((3 : Int32) < 0 ∨ cl176.slots.size ≤ ((3 : Int32)).toNatClampNeg) := inb_of S176 ⟨by decide, by decide⟩
          obtain ⟨T177, h177, X177, e177, W177, st177⟩ := stB X171 hx hZ e171 Ar176 (j := (3 : Int32)) hin176 (g := (mkF m 31 #[.val (.ref ac), .val (.int (3 : Int32)), .val (.ref ab), .val (.int (3 : Int32)), .val (.int (4 : Int32)), .val (.int (3 : Int32)), .val (.int cc3)] [(.int (cc3.toInt8.toInt32)), (.int (3 : Int32)), (.ref ab)])) rfl rfl (hb hby d6_31)
          have V177 : Arv Z h177 ab kb .byte (4 : Int32) [(.int (nar .byte (cc0.toInt8.toInt32))), (.int (nar .byte (cc1.toInt8.toInt32))), (.int (nar .byte (cc2.toInt8.toInt32))), (.int (nar .byte (cc3.toInt8.toInt32)))] (.int (0 : Int32)) := Arv.set Ar176 q176 S176 N176 H176 G176 (fits_nar_byte (cc3.toInt8.toInt32)) W177 3 rfl (Nat.le_of_ble_eq_true rfl)
          have N177 := Fr.snoc X177 N171 g_ab
          have Zs177 : n0 ≤ h177.size := Nat.le_trans Zs171 (Keep.of_wr W177).1
          have KK177 : Keep h0 h177 [ab] := KK171.wr W177 (Or.inl (List.mem_of_getElem? (i := 0) rfl))
          have f178 := f172.other W177 nab
          exact absurd ⟨own_small hc20_157 hr0, own_small hc20_163 hr1, own_small hc20_169 hr2, own_small hc20_175 hr3⟩ hnl
theorem d12_0 : decode jdk_52_method_3_code 0 = .ok (.iload_n 0, 1) := by decide +kernel
theorem d12_1 : decode jdk_52_method_3_code 1 = .ok (.ifCond .ge 11, 3) := by decide +kernel
theorem d12_12 : decode jdk_52_method_3_code 12 = .ok (.iload_n 0, 1) := by decide +kernel
theorem d12_13 : decode jdk_52_method_3_code 13 = .ok (.ldc 20, 2) := by decide +kernel
theorem d12_15 : decode jdk_52_method_3_code 15 = .ok (.if_icmp .lt 40, 3) := by decide +kernel
theorem d12_55 : decode jdk_52_method_3_code 55 = .ok (.iload_n 0, 1) := by decide +kernel
theorem d12_56 : decode jdk_52_method_3_code 56 = .ok (.iconst 1, 1) := by decide +kernel
theorem d12_57 : decode jdk_52_method_3_code 57 = .ok (.ishl, 1) := by decide +kernel
theorem d12_58 : decode jdk_52_method_3_code 58 = .ok (.ireturn, 1) := by decide +kernel
theorem ef_12 (m : MethodId)  : entryFrame m #[(.int (4 : Int32))] 1 = mkF m 0 #[.val (.int (4 : Int32))] [] := by first | (simp [entryFrame, mkF, argsToLocals, Value.category]; done) | rfl
def Q12 (Z : State)  (h0 : Heap) (n0 : Nat) (v : Option Value) (h : Heap) (L : List Loc) : Prop := v = some (.int (8 : Int32)) ∧ Fr n0 L ∧ h = h0
theorem rm12 (l : Launch) (Z : State) (a0 : Array Value) (hw : ∀ d ∈ tables_1, d.before a0 Z = true) (ws : List Jvm.Cond)  (h0 : Heap) (n0 : Nat) (Z0 : n0 ≤ h0.size) :
    MetFree l (⟨"java/lang/StringUTF16", "newBytesLength", "(I)I"⟩ : MethodName) (head1 (Jvm.Cond.code (⟨"java/lang/StringUTF16", "newBytesLength", "(I)I"⟩ : MethodName) jdk_52_method_3_code 1 (some .int) :: ws) ({ frames := 0, cells := 0, slots := 0, locals := 0 } : Room)) (fun a U => a = #[(.int (4 : Int32))] ∧ Z.Warmed39 U.vm ∧ U.heap = h0) (fun _ _ _ _ _ => True) (fun _ U o U' => ∃ v L, o = .returned v ∧ Q12 Z  h0 n0 v U'.heap L ∧ FrameEnd U o U' L ({ frames := 0, cells := 0, slots := 0, locals := 0 } : Room).cells ({ frames := 0, cells := 0, slots := 0, locals := 0 } : Room).slots) := by
  refine MetFree.of_bodySF (plainFor_of_name own_pn23) hisR ?_
  intro p e s m args below meth c s₁ Bd hml0 hP hK
  have H := fun i c (h : tables_1[i]? = some c) => hw c (List.mem_of_getElem? h)
  obtain ⟨rfl, hZ, hh⟩ := hP
  have hx := Bd.exec
  have hby := Bd.bytes
  have hml : c.maxLocals = 1 := hml0
  have hown : s.vm.findClass "java/lang/StringUTF16" = some m.cls := findClass_of_methodNamed Bd.named
  have hnm := (name_of_methodNamed Bd.named Bd.method).1
  have X0 : Stand p l e ({ frames := 0, cells := 0, slots := 0, locals := 0 } : Room) s m #[(.int (4 : Int32))] below meth c s₁ [] 0 0 := Stand.of_body Bd
  have e0 : s₁.heap = h0 := by rw [← hh, Bd.state]; rfl
  have N0 := Fr.nil n0
  have pre0 : ∀ t, Sp p e below m s₁ 0 #[.val (.int (4 : Int32))] [] t → Steps p.tables e below (s₁.setTop (entryFrame m #[(.int (4 : Int32))] 1)) t := fun t k => castTop (ef_12 m ) k
  generalize s₁.setTop (entryFrame m #[(.int (4 : Int32))] 1) = G0 at pre0 ⊢
  obtain ⟨fs, hr, hrun, hended, hW, hsame⟩ := X0.leave (v := some (.int (8 : Int32))) (fun h => by rw [Bd.returns] at h; cases h)
  refine ⟨_, _, pre0 _ ?_, hrun, hended, _, _, rfl, ?_, ⟨_, rfl⟩, hW, hsame.mono (by decide) (by decide)⟩
  · show Sp p e below m s₁ 0 #[.val (.int (4 : Int32))] [] _
    refine XS.iloadN X0.here hx rfl (hb hby d12_0) rfl ?_
    refine XS.ifYes X0.here hx rfl (pc0 := 1) (pc' := 12) rfl (hb hby d12_1) rfl ((if0 _ _).trans (flt (by decide : ¬ ((4 : Int32) < (0 : Int32)))).2.1) (by decide) (by decide) ?_
    refine XS.iloadN X0.here hx rfl (hb hby d12_12) rfl ?_
    refine X0.ldcInt hx hown (mvT hZ (H 51 _ rfl)) (g := (mkF m 13 #[.val (.int (4 : Int32))] [(.int (4 : Int32))])) rfl (hb hby d12_13) _ ?_
    show Sp p e below m s₁ 15 #[.val (.int (4 : Int32))] [(.int (1073741823 : Int32)), (.int (4 : Int32))] _
    refine XS.icmpYes X0.here hx rfl (pc0 := 15) (pc' := 55) rfl (hb hby d12_15) rfl (tlt (by decide : ((4 : Int32) < (1073741823 : Int32)))).1 (by decide) (by decide) ?_
    refine XS.iloadN X0.here hx rfl (hb hby d12_55) rfl ?_
    refine XS.iconst X0.here hx rfl (hb hby d12_56) ?_
    refine XS.ishl X0.here hx rfl (hb hby d12_57) rfl ?_
    exact retI X0 hx Bd.returns (hb hby d12_58) hr
  · show Q12 Z  h0 n0 _ s₁.heap _
    rw [e0]
    exact ⟨rfl, N0, rfl⟩
theorem d11_0 : decode jdk_52_method_2_code 0 = .ok (.iload_n 0, 1) := by decide +kernel
theorem d11_1 : decode jdk_52_method_2_code 1 = .ok (.invokestatic 11, 3) := by decide +kernel
theorem own_pd93 : parseMethodDescriptor "(I)I" = some ⟨[.int], some .int⟩ := by decide +kernel
theorem d11_4 : decode jdk_52_method_2_code 4 = .ok (.newarray .byte, 2) := by decide +kernel
theorem d11_6 : decode jdk_52_method_2_code 6 = .ok (.areturn, 1) := by decide +kernel
theorem ef_11 (m : MethodId)  : entryFrame m #[(.int (4 : Int32))] 1 = mkF m 0 #[.val (.int (4 : Int32))] [] := by first | (simp [entryFrame, mkF, argsToLocals, Value.category]; done) | rfl
def Q11 (Z : State)  (h0 : Heap) (n0 : Nat) (v : Option Value) (h : Heap) (L : List Loc) : Prop := ∃ (rb : Addr) (rk : ClassId), v = some (.ref rb) ∧ Fr n0 L ∧ Keep h0 h [] ∧ Arv Z h rb rk .byte (8 : Int32) [(.int (0 : Int32)), (.int (0 : Int32)), (.int (0 : Int32)), (.int (0 : Int32)), (.int (0 : Int32)), (.int (0 : Int32)), (.int (0 : Int32)), (.int (0 : Int32))] (.int (0 : Int32)) ∧ n0 ≤ rb ∧ h0.size ≤ rb
theorem rm11 (l : Launch) (Z : State) (a0 : Array Value) (hw : ∀ d ∈ tables_1, d.before a0 Z = true) (ws : List Jvm.Cond)  (h0 : Heap) (n0 : Nat) (Z0 : n0 ≤ h0.size) :
    MetFree l (⟨"java/lang/StringUTF16", "newBytesFor", "(I)[B"⟩ : MethodName) (head1 (Jvm.Cond.code (⟨"java/lang/StringUTF16", "newBytesFor", "(I)[B"⟩ : MethodName) jdk_52_method_2_code 1 (some (.array .byte)) :: ws) ({ frames := 1, cells := 1, slots := 8, locals := 12 } : Room)) (fun a U => a = #[(.int (4 : Int32))] ∧ Z.Warmed39 U.vm ∧ U.heap = h0) (fun _ _ _ _ _ => True) (fun _ U o U' => ∃ v L, o = .returned v ∧ Q11 Z  h0 n0 v U'.heap L ∧ FrameEnd U o U' L ({ frames := 1, cells := 1, slots := 8, locals := 12 } : Room).cells ({ frames := 1, cells := 1, slots := 8, locals := 12 } : Room).slots) := by
  refine MetFree.of_bodySF (plainFor_of_name own_pn23) hisR ?_
  intro p e s m args below meth c s₁ Bd hml0 hP hK
  have H := fun i c (h : tables_1[i]? = some c) => hw c (List.mem_of_getElem? h)
  obtain ⟨rfl, hZ, hh⟩ := hP
  have hx := Bd.exec
  have hby := Bd.bytes
  have hml : c.maxLocals = 1 := hml0
  have hown : s.vm.findClass "java/lang/StringUTF16" = some m.cls := findClass_of_methodNamed Bd.named
  have hnm := (name_of_methodNamed Bd.named Bd.method).1
  have X0 : Stand p l e ({ frames := 1, cells := 1, slots := 8, locals := 12 } : Room) s m #[(.int (4 : Int32))] below meth c s₁ [] 0 0 := Stand.of_body Bd
  have e0 : s₁.heap = h0 := by rw [← hh, Bd.state]; rfl
  have N0 := Fr.nil n0
  have pre0 : ∀ t, Sp p e below m s₁ 0 #[.val (.int (4 : Int32))] [] t → Steps p.tables e below (s₁.setTop (entryFrame m #[(.int (4 : Int32))] 1)) t := fun t k => castTop (ef_11 m ) k
  generalize s₁.setTop (entryFrame m #[(.int (4 : Int32))] 1) = G0 at pre0 ⊢
  obtain ⟨_, _, ⟨T181, L181, k181, n181⟩, -, X181, ⟨Lc181, hQ181, l181, y181, z181⟩, st181⟩ := Jvm.LawKit.callS X0 hx hown (mvT hZ (H 48 _ rfl)) (mvT hZ (H 49 _ rfl)) (mvT hZ (H 21 _ rfl)) (mvT hZ (H 50 _ rfl)) (by decide) (backOf (W := 0) (rm12 l Z a0 hw []   h0 n0 Z0 ) hZ (H 50 _ rfl) (H 21 _ rfl) (by decide) (by decide)) (g := (mkF m 1 #[.val (.int (4 : Int32))] [(.int (4 : Int32))])) rfl (by rw [hml]; rfl) (argsL := [(.int (4 : Int32))]) (rest := []) (lenOf own_pd93 rfl) rfl (Nat.le_of_eq rfl) (hb hby d11_1) (fun _ _ => ⟨rfl, e0, (by decide : 0 + 0 ≤ _), (by decide : 0 + 0 ≤ _)⟩)
  dsimp only [Pt.U, Pt.locs, Pt.cells, Pt.slots] at X181 l181 y181 z181 st181 hQ181
  rw [l181, y181, z181] at X181
  obtain ⟨rfl, Nq181, e181⟩ := hQ181
  have N181 := Fr.app N0 Nq181
  obtain ⟨T182, h182, k182, X182, e182, E182, A182, st182⟩ := newP X181 hx hZ (H 23 _ rfl) e181 (g := (mkF m 4 #[.val (.int (4 : Int32))] [(.int (8 : Int32))])) rfl (hb hby d11_4) rfl (by decide) (cap := 8) (by decide) (by decide) (by decide) (by decide)
  obtain ⟨b182, g182⟩ : ∃ z, z = h0.size := ⟨_, rfl⟩
  rw [← g182] at A182 st182
  have g_b182 : n0 ≤ b182 := Nat.le_trans Z0 (Nat.le_of_eq g182.symm)
  have sz_b182 : h0.size ≤ b182 := Nat.le_of_eq g182.symm
  have Zs182 : n0 ≤ h182.size := Nat.le_trans Z0 E182.1
  have KK182 : Keep h0 h182 [] := (Keep.refl h0 _).ext E182
  have V182 : Arv Z h182 b182 k182 .byte (8 : Int32) [(.int (0 : Int32)), (.int (0 : Int32)), (.int (0 : Int32)), (.int (0 : Int32)), (.int (0 : Int32)), (.int (0 : Int32)), (.int (0 : Int32)), (.int (0 : Int32))] (.int (0 : Int32)) := (Arv.new A182 (by decide)).pad (pad_rep [] (.int (0 : Int32)) 8)
  obtain ⟨fs, hr, hrun, hended, hW, hsame⟩ := X182.leave (v := some (.ref b182)) (fun h => by rw [Bd.returns] at h; cases h)
  refine ⟨_, _, pre0 _ ?_, hrun, hended, _, _, rfl, ?_, ⟨_, rfl⟩, hW, hsame.mono (by decide) (by decide)⟩
  · show Sp p e below m s₁ 0 #[.val (.int (4 : Int32))] [] _
    refine XS.iloadN X0.here hx rfl (hb hby d11_0) rfl ?_
    refine st181 _ ?_
    show Sp p e below m T181 4 #[.val (.int (4 : Int32))] [(.int (8 : Int32))] _
    refine st182 _ ?_
    show Sp p e below m T182 6 #[.val (.int (4 : Int32))] [(.ref b182)] _
    jvm_step X182.here [X182.here.top, hx, (hb hby d11_6), X182.method', Bd.returns, Value.isRef, FieldType.isReference]
    first | (intro acts; rw [hr _ acts rfl rfl rfl]) | rw [hr _ _ rfl rfl rfl]
    exact Steps.refl _
  · show Q11 Z  h0 n0 _ T182.heap _
    rw [e182]
    exact ⟨b182, k182, rfl, N181, KK182, V182, g_b182, sz_b182⟩
theorem d13_0 : decode jdk_52_method_4_code 0 = .ok (.getstatic 44, 3) := by decide +kernel
theorem d13_3 : decode jdk_52_method_4_code 3 = .ok (.ifCond .ne 25, 3) := by decide +kernel
theorem d13_28 : decode jdk_52_method_4_code 28 = .ok (.iload_n 1, 1) := by decide +kernel
theorem d13_29 : decode jdk_52_method_4_code 29 = .ok (.iconst 1, 1) := by decide +kernel
theorem d13_30 : decode jdk_52_method_4_code 30 = .ok (.ishl, 1) := by decide +kernel
theorem d13_31 : decode jdk_52_method_4_code 31 = .ok (.istore_n 1, 1) := by decide +kernel
theorem d13_32 : decode jdk_52_method_4_code 32 = .ok (.aload_n 0, 1) := by decide +kernel
theorem d13_33 : decode jdk_52_method_4_code 33 = .ok (.iload_n 1, 1) := by decide +kernel
theorem d13_34 : decode jdk_52_method_4_code 34 = .ok (.iinc 1 1, 3) := by decide +kernel
theorem d13_37 : decode jdk_52_method_4_code 37 = .ok (.iload_n 2, 1) := by decide +kernel
theorem d13_38 : decode jdk_52_method_4_code 38 = .ok (.getstatic 59, 3) := by decide +kernel
theorem d13_41 : decode jdk_52_method_4_code 41 = .ok (.ishr, 1) := by decide +kernel
theorem d13_42 : decode jdk_52_method_4_code 42 = .ok (.i2b, 1) := by decide +kernel
theorem d13_43 : decode jdk_52_method_4_code 43 = .ok (.bastore, 1) := by decide +kernel
theorem d13_44 : decode jdk_52_method_4_code 44 = .ok (.aload_n 0, 1) := by decide +kernel
theorem d13_45 : decode jdk_52_method_4_code 45 = .ok (.iload_n 1, 1) := by decide +kernel
theorem d13_46 : decode jdk_52_method_4_code 46 = .ok (.iload_n 2, 1) := by decide +kernel
theorem d13_47 : decode jdk_52_method_4_code 47 = .ok (.getstatic 63, 3) := by decide +kernel
theorem d13_50 : decode jdk_52_method_4_code 50 = .ok (.ishr, 1) := by decide +kernel
theorem d13_51 : decode jdk_52_method_4_code 51 = .ok (.i2b, 1) := by decide +kernel
theorem d13_52 : decode jdk_52_method_4_code 52 = .ok (.bastore, 1) := by decide +kernel
theorem d13_53 : decode jdk_52_method_4_code 53 = .ok (.return_, 1) := by decide +kernel
theorem ef_13i0 (m : MethodId) (x0 : Addr) (x2 : Int32) : entryFrame m #[(.ref x0), (.int (0 : Int32)), (.int x2)] 3 = mkF m 0 #[.val (.ref x0), .val (.int (0 : Int32)), .val (.int x2)] [] := by first | (simp [entryFrame, mkF, argsToLocals, Value.category]; done) | rfl
def Q13i0 (Z : State) (ab : Addr) (pc_ : Int32) (cs : Int32) (vf : Value) (kb : ClassId) (ee0 : Int32) (ee1 : Int32) (ee2 : Int32) (ee3 : Int32) (ee4 : Int32) (ee5 : Int32) (ee6 : Int32) (ee7 : Int32) (h0 : Heap) (n0 : Nat) (v : Option Value) (h : Heap) (L : List Loc) : Prop := v = none ∧ Fr n0 L ∧ Keep h0 h [ab] ∧ Arv Z h ab kb .byte (8 : Int32) [(.int (nar .byte ((pc_ >>> ((0 : Int32) &&& 31)).toInt8.toInt32))), (.int (nar .byte ((pc_ >>> ((8 : Int32) &&& 31)).toInt8.toInt32))), (.int ee2), (.int ee3), (.int ee4), (.int ee5), (.int ee6), (.int ee7)] (.int (0 : Int32))
theorem rm13i0 (l : Launch) (Z : State) (a0 : Array Value) (hw : ∀ d ∈ tables_1, d.before a0 Z = true) (ws : List Jvm.Cond) (ab : Addr) (pc_ : Int32) (cs : Int32) (vf : Value) (kb : ClassId) (ee0 : Int32) (ee1 : Int32) (ee2 : Int32) (ee3 : Int32) (ee4 : Int32) (ee5 : Int32) (ee6 : Int32) (ee7 : Int32) (h0 : Heap) (n0 : Nat) (Z0 : n0 ≤ h0.size) (O0 : Old Z n0 h0) (Scs : Sta Z Z.heap "java/lang/String" "COMPACT_STRINGS" "Z" (.int cs)) (hcs : ¬ cs = (0 : Int32)) (Ssf : Sta Z Z.heap "jdk/internal/util/Preconditions" "SIOOBE_FORMATTER" "Ljava/util/function/BiFunction;" vf) (hvf : vf.isRef = true) (Sas : Sta Z Z.heap "java/lang/StringUTF16" "$assertionsDisabled" "Z" (.int (1 : Int32))) (Shs : Sta Z Z.heap "java/lang/StringUTF16" "HI_BYTE_SHIFT" "I" (.int (0 : Int32))) (Sls : Sta Z Z.heap "java/lang/StringUTF16" "LO_BYTE_SHIFT" "I" (.int (8 : Int32))) (Vb : Arv Z h0 ab kb .byte (8 : Int32) [(.int ee0), (.int ee1), (.int ee2), (.int ee3), (.int ee4), (.int ee5), (.int ee6), (.int ee7)] (.int (0 : Int32))) (g_ab : n0 ≤ ab) :
    MetFree l (⟨"java/lang/StringUTF16", "putChar", "([BII)V"⟩ : MethodName) (head1 (Jvm.Cond.code (⟨"java/lang/StringUTF16", "putChar", "([BII)V"⟩ : MethodName) jdk_52_method_4_code 3 none :: ws) ({ frames := 0, cells := 0, slots := 0, locals := 0 } : Room)) (fun a U => a = #[(.ref ab), (.int (0 : Int32)), (.int pc_)] ∧ Z.Warmed39 U.vm ∧ U.heap = h0) (fun _ _ _ _ _ => True) (fun _ U o U' => ∃ v L, o = .returned v ∧ Q13i0 Z ab pc_ cs vf kb ee0 ee1 ee2 ee3 ee4 ee5 ee6 ee7 h0 n0 v U'.heap L ∧ FrameEnd U o U' L ({ frames := 0, cells := 0, slots := 0, locals := 0 } : Room).cells ({ frames := 0, cells := 0, slots := 0, locals := 0 } : Room).slots) := by
  refine MetFree.of_bodySF (plainFor_of_name own_pn23) hisR ?_
  intro p e s m args below meth c s₁ Bd hml0 hP hK
  have H := fun i c (h : tables_1[i]? = some c) => hw c (List.mem_of_getElem? h)
  obtain ⟨rfl, hZ, hh⟩ := hP
  have hx := Bd.exec
  have hby := Bd.bytes
  have hml : c.maxLocals = 3 := hml0
  have hown : s.vm.findClass "java/lang/StringUTF16" = some m.cls := findClass_of_methodNamed Bd.named
  have hnm := (name_of_methodNamed Bd.named Bd.method).1
  have X0 : Stand p l e ({ frames := 0, cells := 0, slots := 0, locals := 0 } : Room) s m #[(.ref ab), (.int (0 : Int32)), (.int pc_)] below meth c s₁ [] 0 0 := Stand.of_body Bd
  have e0 : s₁.heap = h0 := by rw [← hh, Bd.state]; rfl
  have N0 := Fr.nil n0
  have pre0 : ∀ t, Sp p e below m s₁ 0 #[.val (.ref ab), .val (.int (0 : Int32)), .val (.int pc_)] [] t → Steps p.tables e below (s₁.setTop (entryFrame m #[(.ref ab), (.int (0 : Int32)), (.int pc_)] 3)) t := fun t k => castTop (ef_13i0 m ab pc_) k
  generalize s₁.setTop (entryFrame m #[(.ref ab), (.int (0 : Int32)), (.int pc_)] 3) = G0 at pre0 ⊢
  obtain ⟨T200, X200, e200, st200⟩ := getS2 X0 hx hZ hown (host := "") (Or.inl (H 55 _ rfl)) Via.refl e0 (Sas.ext O0.2) (g := (mkF m 0 #[.val (.ref ab), .val (.int (0 : Int32)), .val (.int pc_)] [])) rfl (hb hby d13_0)
  obtain ⟨T201, X201, e201, st201⟩ := getS2 X200 hx hZ hown (host := "") (Or.inl (H 56 _ rfl)) Via.refl e200 (Shs.ext O0.2) (g := (mkF m 38 #[.val (.ref ab), .val (.int (1 : Int32)), .val (.int pc_)] [(.int pc_), (.int (0 : Int32)), (.ref ab)])) rfl (hb hby d13_38)
  obtain ⟨cl202, Ar202, q202, S202, N202, H202, G202⟩ := id Vb
  have hin202 : ¬ ((0 : Int32) < 0 ∨ cl202.slots.size ≤ ((0 : Int32)).toNatClampNeg) := inb_of S202 ⟨by decide, by decide⟩
  obtain ⟨T203, h203, X203, e203, W203, st203⟩ := stB X201 hx hZ e201 Ar202 (j := (0 : Int32)) hin202 (g := (mkF m 43 #[.val (.ref ab), .val (.int (1 : Int32)), .val (.int pc_)] [(.int ((pc_ >>> ((0 : Int32) &&& 31)).toInt8.toInt32)), (.int (0 : Int32)), (.ref ab)])) rfl rfl (hb hby d13_43)
  have V203 : Arv Z h203 ab kb .byte (8 : Int32) [(.int (nar .byte ((pc_ >>> ((0 : Int32) &&& 31)).toInt8.toInt32))), (.int ee1), (.int ee2), (.int ee3), (.int ee4), (.int ee5), (.int ee6), (.int ee7)] (.int (0 : Int32)) := Arv.set Ar202 q202 S202 N202 H202 G202 (fits_nar_byte ((pc_ >>> ((0 : Int32) &&& 31)).toInt8.toInt32)) W203 0 rfl (Nat.le_of_ble_eq_true rfl)
  have N203 := Fr.snoc X203 N0 g_ab
  have Zs203 : n0 ≤ h203.size := Nat.le_trans Z0 (Keep.of_wr W203).1
  have KK203 : Keep h0 h203 [ab] := (Keep.refl h0 _).wr W203 (Or.inl (List.mem_of_getElem? (i := 0) rfl))
  have O203 := O0.wr W203 g_ab
  have f204 := (Scs.ext O0.2).wr W203
  have f205 := (Ssf.ext O0.2).wr W203
  have f206 := (Sas.ext O0.2).wr W203
  have f207 := (Shs.ext O0.2).wr W203
  have f208 := (Sls.ext O0.2).wr W203
  obtain ⟨T209, X209, e209, st209⟩ := getS2 X203 hx hZ hown (host := "") (Or.inl (H 57 _ rfl)) Via.refl e203 f208 (g := (mkF m 47 #[.val (.ref ab), .val (.int (1 : Int32)), .val (.int pc_)] [(.int pc_), (.int (1 : Int32)), (.ref ab)])) rfl (hb hby d13_47)
  obtain ⟨cl210, Ar210, q210, S210, N210, H210, G210⟩ := id V203
  have hin210 : ¬ ((1 : Int32) < 0 ∨ cl210.slots.size ≤ ((1 : Int32)).toNatClampNeg) := inb_of S210 ⟨by decide, by decide⟩
  obtain ⟨T211, h211, X211, e211, W211, st211⟩ := stB X209 hx hZ e209 Ar210 (j := (1 : Int32)) hin210 (g := (mkF m 52 #[.val (.ref ab), .val (.int (1 : Int32)), .val (.int pc_)] [(.int ((pc_ >>> ((8 : Int32) &&& 31)).toInt8.toInt32)), (.int (1 : Int32)), (.ref ab)])) rfl rfl (hb hby d13_52)
  have V211 : Arv Z h211 ab kb .byte (8 : Int32) [(.int (nar .byte ((pc_ >>> ((0 : Int32) &&& 31)).toInt8.toInt32))), (.int (nar .byte ((pc_ >>> ((8 : Int32) &&& 31)).toInt8.toInt32))), (.int ee2), (.int ee3), (.int ee4), (.int ee5), (.int ee6), (.int ee7)] (.int (0 : Int32)) := Arv.set Ar210 q210 S210 N210 H210 G210 (fits_nar_byte ((pc_ >>> ((8 : Int32) &&& 31)).toInt8.toInt32)) W211 1 rfl (Nat.le_of_ble_eq_true rfl)
  have N211 := Fr.snoc X211 N203 g_ab
  have Zs211 : n0 ≤ h211.size := Nat.le_trans Zs203 (Keep.of_wr W211).1
  have KK211 : Keep h0 h211 [ab] := KK203.wr W211 (Or.inl (List.mem_of_getElem? (i := 0) rfl))
  have O211 := O203.wr W211 g_ab
  have f212 := f204.wr W211
  have f213 := f205.wr W211
  have f214 := f206.wr W211
  have f215 := f207.wr W211
  have f216 := f208.wr W211
  obtain ⟨fs, hr, hrun, hended, hW, hsame⟩ := X211.leave (v := none) (fun _ => rfl)
  refine ⟨_, _, pre0 _ ?_, hrun, hended, _, _, rfl, ?_, ⟨_, rfl⟩, hW, hsame.mono (by decide) (by decide)⟩
  · show Sp p e below m s₁ 0 #[.val (.ref ab), .val (.int (0 : Int32)), .val (.int pc_)] [] _
    refine st200 _ ?_
    show Sp p e below m T200 3 #[.val (.ref ab), .val (.int (0 : Int32)), .val (.int pc_)] [(.int (1 : Int32))] _
    refine XS.ifYes X200.here hx rfl (pc0 := 3) (pc' := 28) rfl (hb hby d13_3) rfl ((if0 _ _).trans (feq (by decide : ¬ ((1 : Int32) = (0 : Int32)))).2) (by decide) (by decide) ?_
    refine XS.iloadN X200.here hx rfl (hb hby d13_28) rfl ?_
    refine XS.iconst X200.here hx rfl (hb hby d13_29) ?_
    refine XS.ishl X200.here hx rfl (hb hby d13_30) rfl ?_
    refine XS.istoreN X200.here hx rfl (hb hby d13_31) rfl (l' := #[.val (.ref ab), .val (.int (0 : Int32)), .val (.int pc_)]) rfl ?_
    refine XS.aloadN X200.here hx rfl (hb hby d13_32) rfl rfl ?_
    refine XS.iloadN X200.here hx rfl (hb hby d13_33) rfl ?_
    refine XS.iinc X200.here hx rfl (hb hby d13_34) rfl (l' := #[.val (.ref ab), .val (.int (1 : Int32)), .val (.int pc_)]) rfl ?_
    show Sp p e below m T200 37 #[.val (.ref ab), .val (.int (1 : Int32)), .val (.int pc_)] [(.int (0 : Int32)), (.ref ab)] _
    refine XS.iloadN X200.here hx rfl (hb hby d13_37) rfl ?_
    refine st201 _ ?_
    show Sp p e below m T201 41 #[.val (.ref ab), .val (.int (1 : Int32)), .val (.int pc_)] [(.int (0 : Int32)), (.int pc_), (.int (0 : Int32)), (.ref ab)] _
    refine XS.ishr X201.here hx rfl (hb hby d13_41) rfl ?_
    refine XS.i2b X201.here hx rfl (hb hby d13_42) rfl ?_
    refine st203 _ ?_
    show Sp p e below m T203 44 #[.val (.ref ab), .val (.int (1 : Int32)), .val (.int pc_)] [] _
    refine XS.aloadN X203.here hx rfl (hb hby d13_44) rfl rfl ?_
    refine XS.iloadN X203.here hx rfl (hb hby d13_45) rfl ?_
    refine XS.iloadN X203.here hx rfl (hb hby d13_46) rfl ?_
    refine st209 _ ?_
    show Sp p e below m T209 50 #[.val (.ref ab), .val (.int (1 : Int32)), .val (.int pc_)] [(.int (8 : Int32)), (.int pc_), (.int (1 : Int32)), (.ref ab)] _
    refine XS.ishr X209.here hx rfl (hb hby d13_50) rfl ?_
    refine XS.i2b X209.here hx rfl (hb hby d13_51) rfl ?_
    refine st211 _ ?_
    show Sp p e below m T211 53 #[.val (.ref ab), .val (.int (1 : Int32)), .val (.int pc_)] [] _
    exact X211.returnOut hx Bd.returns (hb hby d13_53) hr
  · show Q13i0 Z ab pc_ cs vf kb ee0 ee1 ee2 ee3 ee4 ee5 ee6 ee7 h0 n0 _ T211.heap _
    rw [e211]
    exact ⟨rfl, N211, KK211, V211⟩
theorem d14_0 : decode jdk_52_method_5_code 0 = .ok (.getstatic 44, 3) := by decide +kernel
theorem d14_3 : decode jdk_52_method_5_code 3 = .ok (.ifCond .ne 25, 3) := by decide +kernel
theorem d14_28 : decode jdk_52_method_5_code 28 = .ok (.iload_n 1, 1) := by decide +kernel
theorem d14_29 : decode jdk_52_method_5_code 29 = .ok (.iconst 1, 1) := by decide +kernel
theorem d14_30 : decode jdk_52_method_5_code 30 = .ok (.ishl, 1) := by decide +kernel
theorem d14_31 : decode jdk_52_method_5_code 31 = .ok (.istore_n 1, 1) := by decide +kernel
theorem d14_32 : decode jdk_52_method_5_code 32 = .ok (.aload_n 0, 1) := by decide +kernel
theorem d14_33 : decode jdk_52_method_5_code 33 = .ok (.iload_n 1, 1) := by decide +kernel
theorem d14_34 : decode jdk_52_method_5_code 34 = .ok (.iinc 1 1, 3) := by decide +kernel
theorem d14_37 : decode jdk_52_method_5_code 37 = .ok (.baload, 1) := by decide +kernel
theorem d14_38 : decode jdk_52_method_5_code 38 = .ok (.sipush 255, 3) := by decide +kernel
theorem d14_41 : decode jdk_52_method_5_code 41 = .ok (.iand, 1) := by decide +kernel
theorem d14_42 : decode jdk_52_method_5_code 42 = .ok (.getstatic 59, 3) := by decide +kernel
theorem d14_45 : decode jdk_52_method_5_code 45 = .ok (.ishl, 1) := by decide +kernel
theorem d14_46 : decode jdk_52_method_5_code 46 = .ok (.aload_n 0, 1) := by decide +kernel
theorem d14_47 : decode jdk_52_method_5_code 47 = .ok (.iload_n 1, 1) := by decide +kernel
theorem d14_48 : decode jdk_52_method_5_code 48 = .ok (.baload, 1) := by decide +kernel
theorem d14_49 : decode jdk_52_method_5_code 49 = .ok (.sipush 255, 3) := by decide +kernel
theorem d14_52 : decode jdk_52_method_5_code 52 = .ok (.iand, 1) := by decide +kernel
theorem d14_53 : decode jdk_52_method_5_code 53 = .ok (.getstatic 63, 3) := by decide +kernel
theorem d14_56 : decode jdk_52_method_5_code 56 = .ok (.ishl, 1) := by decide +kernel
theorem d14_57 : decode jdk_52_method_5_code 57 = .ok (.ior, 1) := by decide +kernel
theorem d14_58 : decode jdk_52_method_5_code 58 = .ok (.i2c, 1) := by decide +kernel
theorem d14_59 : decode jdk_52_method_5_code 59 = .ok (.ireturn, 1) := by decide +kernel
theorem ef_14i0 (m : MethodId) (x0 : Addr) : entryFrame m #[(.ref x0), (.int (0 : Int32))] 2 = mkF m 0 #[.val (.ref x0), .val (.int (0 : Int32))] [] := by first | (simp [entryFrame, mkF, argsToLocals, Value.category]; done) | rfl
def Q14i0 (Z : State) (ab : Addr) (cs : Int32) (vf : Value) (kb : ClassId) (cc0 : Int32) (cc1 : Int32) (cc2 : Int32) (cc3 : Int32) (h0 : Heap) (n0 : Nat) (v : Option Value) (h : Heap) (L : List Loc) : Prop := v = some (.int cc0) ∧ Fr n0 L ∧ h = h0
theorem rm14i0 (l : Launch) (Z : State) (a0 : Array Value) (hw : ∀ d ∈ tables_1, d.before a0 Z = true) (ws : List Jvm.Cond) (ab : Addr) (cs : Int32) (vf : Value) (kb : ClassId) (cc0 : Int32) (cc1 : Int32) (cc2 : Int32) (cc3 : Int32) (h0 : Heap) (n0 : Nat) (Z0 : n0 ≤ h0.size) (O0 : Old Z n0 h0) (Scs : Sta Z Z.heap "java/lang/String" "COMPACT_STRINGS" "Z" (.int cs)) (hcs : ¬ cs = (0 : Int32)) (Ssf : Sta Z Z.heap "jdk/internal/util/Preconditions" "SIOOBE_FORMATTER" "Ljava/util/function/BiFunction;" vf) (hvf : vf.isRef = true) (Sas : Sta Z Z.heap "java/lang/StringUTF16" "$assertionsDisabled" "Z" (.int (1 : Int32))) (Shs : Sta Z Z.heap "java/lang/StringUTF16" "HI_BYTE_SHIFT" "I" (.int (0 : Int32))) (Sls : Sta Z Z.heap "java/lang/StringUTF16" "LO_BYTE_SHIFT" "I" (.int (8 : Int32))) (Vb : Arv Z h0 ab kb .byte (8 : Int32) [(.int (nar .byte ((cc0 >>> ((0 : Int32) &&& 31)).toInt8.toInt32))), (.int (nar .byte ((cc0 >>> ((8 : Int32) &&& 31)).toInt8.toInt32))), (.int (nar .byte ((cc1 >>> ((0 : Int32) &&& 31)).toInt8.toInt32))), (.int (nar .byte ((cc1 >>> ((8 : Int32) &&& 31)).toInt8.toInt32))), (.int (nar .byte ((cc2 >>> ((0 : Int32) &&& 31)).toInt8.toInt32))), (.int (nar .byte ((cc2 >>> ((8 : Int32) &&& 31)).toInt8.toInt32))), (.int (nar .byte ((cc3 >>> ((0 : Int32) &&& 31)).toInt8.toInt32))), (.int (nar .byte ((cc3 >>> ((8 : Int32) &&& 31)).toInt8.toInt32)))] (.int (0 : Int32))) (hr0 : 0 ≤ cc0.toInt ∧ cc0.toInt ≤ 65535) (hr1 : 0 ≤ cc1.toInt ∧ cc1.toInt ≤ 65535) (hr2 : 0 ≤ cc2.toInt ∧ cc2.toInt ≤ 65535) (hr3 : 0 ≤ cc3.toInt ∧ cc3.toInt ≤ 65535) :
    MetFree l (⟨"java/lang/StringUTF16", "getChar", "([BI)C"⟩ : MethodName) (head1 (Jvm.Cond.code (⟨"java/lang/StringUTF16", "getChar", "([BI)C"⟩ : MethodName) jdk_52_method_5_code 2 (some .char) :: ws) ({ frames := 0, cells := 0, slots := 0, locals := 0 } : Room)) (fun a U => a = #[(.ref ab), (.int (0 : Int32))] ∧ Z.Warmed39 U.vm ∧ U.heap = h0) (fun _ _ _ _ _ => True) (fun _ U o U' => ∃ v L, o = .returned v ∧ Q14i0 Z ab cs vf kb cc0 cc1 cc2 cc3 h0 n0 v U'.heap L ∧ FrameEnd U o U' L ({ frames := 0, cells := 0, slots := 0, locals := 0 } : Room).cells ({ frames := 0, cells := 0, slots := 0, locals := 0 } : Room).slots) := by
  refine MetFree.of_bodySF (plainFor_of_name own_pn23) hisR ?_
  intro p e s m args below meth c s₁ Bd hml0 hP hK
  have H := fun i c (h : tables_1[i]? = some c) => hw c (List.mem_of_getElem? h)
  obtain ⟨rfl, hZ, hh⟩ := hP
  have hx := Bd.exec
  have hby := Bd.bytes
  have hml : c.maxLocals = 2 := hml0
  have hown : s.vm.findClass "java/lang/StringUTF16" = some m.cls := findClass_of_methodNamed Bd.named
  have hnm := (name_of_methodNamed Bd.named Bd.method).1
  have X0 : Stand p l e ({ frames := 0, cells := 0, slots := 0, locals := 0 } : Room) s m #[(.ref ab), (.int (0 : Int32))] below meth c s₁ [] 0 0 := Stand.of_body Bd
  have e0 : s₁.heap = h0 := by rw [← hh, Bd.state]; rfl
  have N0 := Fr.nil n0
  have pre0 : ∀ t, Sp p e below m s₁ 0 #[.val (.ref ab), .val (.int (0 : Int32))] [] t → Steps p.tables e below (s₁.setTop (entryFrame m #[(.ref ab), (.int (0 : Int32))] 2)) t := fun t k => castTop (ef_14i0 m ab) k
  generalize s₁.setTop (entryFrame m #[(.ref ab), (.int (0 : Int32))] 2) = G0 at pre0 ⊢
  obtain ⟨T222, X222, e222, st222⟩ := getS2 X0 hx hZ hown (host := "") (Or.inl (H 55 _ rfl)) Via.refl e0 (Sas.ext O0.2) (g := (mkF m 0 #[.val (.ref ab), .val (.int (0 : Int32))] [])) rfl (hb hby d14_0)
  obtain ⟨cl223, Ar223, -, S223, -, H223, -⟩ := id Vb
  have hin223 : ¬ ((0 : Int32) < 0 ∨ cl223.slots.size ≤ ((0 : Int32)).toNatClampNeg) := inb_of S223 ⟨by decide, by decide⟩
  have hat223 : cl223.slots[((0 : Int32)).toNatClampNeg]? = some (.int (nar .byte ((cc0 >>> ((0 : Int32) &&& 31)).toInt8.toInt32))) := H223.at hin223 rfl
  obtain ⟨T224, X224, e224, st224⟩ := getS2 X222 hx hZ hown (host := "") (Or.inl (H 56 _ rfl)) Via.refl e222 (Shs.ext O0.2) (g := (mkF m 42 #[.val (.ref ab), .val (.int (1 : Int32))] [(.int ((nar .byte ((cc0 >>> ((0 : Int32) &&& 31)).toInt8.toInt32)) &&& (255 : Int32)))])) rfl (hb hby d14_42)
  obtain ⟨cl225, Ar225, -, S225, -, H225, -⟩ := id Vb
  have hin225 : ¬ ((1 : Int32) < 0 ∨ cl225.slots.size ≤ ((1 : Int32)).toNatClampNeg) := inb_of S225 ⟨by decide, by decide⟩
  have hat225 : cl225.slots[((1 : Int32)).toNatClampNeg]? = some (.int (nar .byte ((cc0 >>> ((8 : Int32) &&& 31)).toInt8.toInt32))) := H225.at hin225 rfl
  obtain ⟨T226, X226, e226, st226⟩ := getS2 X224 hx hZ hown (host := "") (Or.inl (H 57 _ rfl)) Via.refl e224 (Sls.ext O0.2) (g := (mkF m 53 #[.val (.ref ab), .val (.int (1 : Int32))] [(.int ((nar .byte ((cc0 >>> ((8 : Int32) &&& 31)).toInt8.toInt32)) &&& (255 : Int32))), (.int (((nar .byte ((cc0 >>> ((0 : Int32) &&& 31)).toInt8.toInt32)) &&& (255 : Int32)) <<< ((0 : Int32) &&& 31)))])) rfl (hb hby d14_53)
  obtain ⟨fs, hr, hrun, hended, hW, hsame⟩ := X226.leave (v := some (.int (nar .char (((((nar .byte ((cc0 >>> ((0 : Int32) &&& 31)).toInt8.toInt32)) &&& (255 : Int32)) <<< ((0 : Int32) &&& 31)) ||| (((nar .byte ((cc0 >>> ((8 : Int32) &&& 31)).toInt8.toInt32)) &&& (255 : Int32)) <<< ((8 : Int32) &&& 31))).toUInt32.toUInt16.toUInt32.toInt32)))) (fun h => by rw [Bd.returns] at h; cases h)
  refine ⟨_, _, pre0 _ ?_, hrun, hended, _, _, rfl, ?_, ⟨_, rfl⟩, hW, hsame.mono (by decide) (by decide)⟩
  · show Sp p e below m s₁ 0 #[.val (.ref ab), .val (.int (0 : Int32))] [] _
    refine st222 _ ?_
    show Sp p e below m T222 3 #[.val (.ref ab), .val (.int (0 : Int32))] [(.int (1 : Int32))] _
    refine XS.ifYes X222.here hx rfl (pc0 := 3) (pc' := 28) rfl (hb hby d14_3) rfl ((if0 _ _).trans (feq (by decide : ¬ ((1 : Int32) = (0 : Int32)))).2) (by decide) (by decide) ?_
    refine XS.iloadN X222.here hx rfl (hb hby d14_28) rfl ?_
    refine XS.iconst X222.here hx rfl (hb hby d14_29) ?_
    refine XS.ishl X222.here hx rfl (hb hby d14_30) rfl ?_
    refine XS.istoreN X222.here hx rfl (hb hby d14_31) rfl (l' := #[.val (.ref ab), .val (.int (0 : Int32))]) rfl ?_
    refine XS.aloadN X222.here hx rfl (hb hby d14_32) rfl rfl ?_
    refine XS.iloadN X222.here hx rfl (hb hby d14_33) rfl ?_
    refine XS.iinc X222.here hx rfl (hb hby d14_34) rfl (l' := #[.val (.ref ab), .val (.int (1 : Int32))]) rfl ?_
    show Sp p e below m T222 37 #[.val (.ref ab), .val (.int (1 : Int32))] [(.int (0 : Int32)), (.ref ab)] _
    refine X222.baloadBytes hx (j := (0 : Int32)) (v := (.int (nar .byte ((cc0 >>> ((0 : Int32) &&& 31)).toInt8.toInt32)))) (by rw [e222]; exact Ar223.1) (State.isArrayOf_alike hZ.alike Ar223.2.1) Ar223.2.2 hin223 hat223 (g := (mkF m 37 #[.val (.ref ab), .val (.int (1 : Int32))] [(.int (0 : Int32)), (.ref ab)])) rfl rfl (hb hby d14_37) _ ?_
    show Sp p e below m T222 38 #[.val (.ref ab), .val (.int (1 : Int32))] [(.int (nar .byte ((cc0 >>> ((0 : Int32) &&& 31)).toInt8.toInt32)))] _
    refine XS.sipush X222.here hx rfl (hb hby d14_38) ?_
    refine XS.iand X222.here hx rfl (hb hby d14_41) rfl ?_
    refine st224 _ ?_
    show Sp p e below m T224 45 #[.val (.ref ab), .val (.int (1 : Int32))] [(.int (0 : Int32)), (.int ((nar .byte ((cc0 >>> ((0 : Int32) &&& 31)).toInt8.toInt32)) &&& (255 : Int32)))] _
    refine XS.ishl X224.here hx rfl (hb hby d14_45) rfl ?_
    refine XS.aloadN X224.here hx rfl (hb hby d14_46) rfl rfl ?_
    refine XS.iloadN X224.here hx rfl (hb hby d14_47) rfl ?_
    refine X224.baloadBytes hx (j := (1 : Int32)) (v := (.int (nar .byte ((cc0 >>> ((8 : Int32) &&& 31)).toInt8.toInt32)))) (by rw [e224]; exact Ar225.1) (State.isArrayOf_alike hZ.alike Ar225.2.1) Ar225.2.2 hin225 hat225 (g := (mkF m 48 #[.val (.ref ab), .val (.int (1 : Int32))] [(.int (1 : Int32)), (.ref ab), (.int (((nar .byte ((cc0 >>> ((0 : Int32) &&& 31)).toInt8.toInt32)) &&& (255 : Int32)) <<< ((0 : Int32) &&& 31)))])) rfl rfl (hb hby d14_48) _ ?_
    show Sp p e below m T224 49 #[.val (.ref ab), .val (.int (1 : Int32))] [(.int (nar .byte ((cc0 >>> ((8 : Int32) &&& 31)).toInt8.toInt32))), (.int (((nar .byte ((cc0 >>> ((0 : Int32) &&& 31)).toInt8.toInt32)) &&& (255 : Int32)) <<< ((0 : Int32) &&& 31)))] _
    refine XS.sipush X224.here hx rfl (hb hby d14_49) ?_
    refine XS.iand X224.here hx rfl (hb hby d14_52) rfl ?_
    refine st226 _ ?_
    show Sp p e below m T226 56 #[.val (.ref ab), .val (.int (1 : Int32))] [(.int (8 : Int32)), (.int ((nar .byte ((cc0 >>> ((8 : Int32) &&& 31)).toInt8.toInt32)) &&& (255 : Int32))), (.int (((nar .byte ((cc0 >>> ((0 : Int32) &&& 31)).toInt8.toInt32)) &&& (255 : Int32)) <<< ((0 : Int32) &&& 31)))] _
    refine XS.ishl X226.here hx rfl (hb hby d14_56) rfl ?_
    refine XS.ior X226.here hx rfl (hb hby d14_57) rfl ?_
    refine XS.i2c X226.here hx rfl (hb hby d14_58) rfl ?_
    exact retN X226 hx (t := .char) Bd.returns (by simp) (hb hby d14_59) hr
  · show Q14i0 Z ab cs vf kb cc0 cc1 cc2 cc3 h0 n0 _ T226.heap _
    rw [e226]
    exact ⟨(congrArg (fun z => some (Value.int z)) (own_gc cc0 hr0)), N0, rfl⟩
theorem ef_13i1 (m : MethodId) (x0 : Addr) (x2 : Int32) : entryFrame m #[(.ref x0), (.int (1 : Int32)), (.int x2)] 3 = mkF m 0 #[.val (.ref x0), .val (.int (1 : Int32)), .val (.int x2)] [] := by first | (simp [entryFrame, mkF, argsToLocals, Value.category]; done) | rfl
def Q13i1 (Z : State) (ab : Addr) (pc_ : Int32) (cs : Int32) (vf : Value) (kb : ClassId) (ee0 : Int32) (ee1 : Int32) (ee2 : Int32) (ee3 : Int32) (ee4 : Int32) (ee5 : Int32) (ee6 : Int32) (ee7 : Int32) (h0 : Heap) (n0 : Nat) (v : Option Value) (h : Heap) (L : List Loc) : Prop := v = none ∧ Fr n0 L ∧ Keep h0 h [ab] ∧ Arv Z h ab kb .byte (8 : Int32) [(.int ee0), (.int ee1), (.int (nar .byte ((pc_ >>> ((0 : Int32) &&& 31)).toInt8.toInt32))), (.int (nar .byte ((pc_ >>> ((8 : Int32) &&& 31)).toInt8.toInt32))), (.int ee4), (.int ee5), (.int ee6), (.int ee7)] (.int (0 : Int32))
theorem rm13i1 (l : Launch) (Z : State) (a0 : Array Value) (hw : ∀ d ∈ tables_1, d.before a0 Z = true) (ws : List Jvm.Cond) (ab : Addr) (pc_ : Int32) (cs : Int32) (vf : Value) (kb : ClassId) (ee0 : Int32) (ee1 : Int32) (ee2 : Int32) (ee3 : Int32) (ee4 : Int32) (ee5 : Int32) (ee6 : Int32) (ee7 : Int32) (h0 : Heap) (n0 : Nat) (Z0 : n0 ≤ h0.size) (O0 : Old Z n0 h0) (Scs : Sta Z Z.heap "java/lang/String" "COMPACT_STRINGS" "Z" (.int cs)) (hcs : ¬ cs = (0 : Int32)) (Ssf : Sta Z Z.heap "jdk/internal/util/Preconditions" "SIOOBE_FORMATTER" "Ljava/util/function/BiFunction;" vf) (hvf : vf.isRef = true) (Sas : Sta Z Z.heap "java/lang/StringUTF16" "$assertionsDisabled" "Z" (.int (1 : Int32))) (Shs : Sta Z Z.heap "java/lang/StringUTF16" "HI_BYTE_SHIFT" "I" (.int (0 : Int32))) (Sls : Sta Z Z.heap "java/lang/StringUTF16" "LO_BYTE_SHIFT" "I" (.int (8 : Int32))) (Vb : Arv Z h0 ab kb .byte (8 : Int32) [(.int ee0), (.int ee1), (.int ee2), (.int ee3), (.int ee4), (.int ee5), (.int ee6), (.int ee7)] (.int (0 : Int32))) (g_ab : n0 ≤ ab) :
    MetFree l (⟨"java/lang/StringUTF16", "putChar", "([BII)V"⟩ : MethodName) (head1 (Jvm.Cond.code (⟨"java/lang/StringUTF16", "putChar", "([BII)V"⟩ : MethodName) jdk_52_method_4_code 3 none :: ws) ({ frames := 0, cells := 0, slots := 0, locals := 0 } : Room)) (fun a U => a = #[(.ref ab), (.int (1 : Int32)), (.int pc_)] ∧ Z.Warmed39 U.vm ∧ U.heap = h0) (fun _ _ _ _ _ => True) (fun _ U o U' => ∃ v L, o = .returned v ∧ Q13i1 Z ab pc_ cs vf kb ee0 ee1 ee2 ee3 ee4 ee5 ee6 ee7 h0 n0 v U'.heap L ∧ FrameEnd U o U' L ({ frames := 0, cells := 0, slots := 0, locals := 0 } : Room).cells ({ frames := 0, cells := 0, slots := 0, locals := 0 } : Room).slots) := by
  refine MetFree.of_bodySF (plainFor_of_name own_pn23) hisR ?_
  intro p e s m args below meth c s₁ Bd hml0 hP hK
  have H := fun i c (h : tables_1[i]? = some c) => hw c (List.mem_of_getElem? h)
  obtain ⟨rfl, hZ, hh⟩ := hP
  have hx := Bd.exec
  have hby := Bd.bytes
  have hml : c.maxLocals = 3 := hml0
  have hown : s.vm.findClass "java/lang/StringUTF16" = some m.cls := findClass_of_methodNamed Bd.named
  have hnm := (name_of_methodNamed Bd.named Bd.method).1
  have X0 : Stand p l e ({ frames := 0, cells := 0, slots := 0, locals := 0 } : Room) s m #[(.ref ab), (.int (1 : Int32)), (.int pc_)] below meth c s₁ [] 0 0 := Stand.of_body Bd
  have e0 : s₁.heap = h0 := by rw [← hh, Bd.state]; rfl
  have N0 := Fr.nil n0
  have pre0 : ∀ t, Sp p e below m s₁ 0 #[.val (.ref ab), .val (.int (1 : Int32)), .val (.int pc_)] [] t → Steps p.tables e below (s₁.setTop (entryFrame m #[(.ref ab), (.int (1 : Int32)), (.int pc_)] 3)) t := fun t k => castTop (ef_13i1 m ab pc_) k
  generalize s₁.setTop (entryFrame m #[(.ref ab), (.int (1 : Int32)), (.int pc_)] 3) = G0 at pre0 ⊢
  obtain ⟨T244, X244, e244, st244⟩ := getS2 X0 hx hZ hown (host := "") (Or.inl (H 55 _ rfl)) Via.refl e0 (Sas.ext O0.2) (g := (mkF m 0 #[.val (.ref ab), .val (.int (1 : Int32)), .val (.int pc_)] [])) rfl (hb hby d13_0)
  obtain ⟨T245, X245, e245, st245⟩ := getS2 X244 hx hZ hown (host := "") (Or.inl (H 56 _ rfl)) Via.refl e244 (Shs.ext O0.2) (g := (mkF m 38 #[.val (.ref ab), .val (.int (3 : Int32)), .val (.int pc_)] [(.int pc_), (.int (2 : Int32)), (.ref ab)])) rfl (hb hby d13_38)
  obtain ⟨cl246, Ar246, q246, S246, N246, H246, G246⟩ := id Vb
  have hin246 : ¬ ((2 : Int32) < 0 ∨ cl246.slots.size ≤ ((2 : Int32)).toNatClampNeg) := inb_of S246 ⟨by decide, by decide⟩
  obtain ⟨T247, h247, X247, e247, W247, st247⟩ := stB X245 hx hZ e245 Ar246 (j := (2 : Int32)) hin246 (g := (mkF m 43 #[.val (.ref ab), .val (.int (3 : Int32)), .val (.int pc_)] [(.int ((pc_ >>> ((0 : Int32) &&& 31)).toInt8.toInt32)), (.int (2 : Int32)), (.ref ab)])) rfl rfl (hb hby d13_43)
  have V247 : Arv Z h247 ab kb .byte (8 : Int32) [(.int ee0), (.int ee1), (.int (nar .byte ((pc_ >>> ((0 : Int32) &&& 31)).toInt8.toInt32))), (.int ee3), (.int ee4), (.int ee5), (.int ee6), (.int ee7)] (.int (0 : Int32)) := Arv.set Ar246 q246 S246 N246 H246 G246 (fits_nar_byte ((pc_ >>> ((0 : Int32) &&& 31)).toInt8.toInt32)) W247 2 rfl (Nat.le_of_ble_eq_true rfl)
  have N247 := Fr.snoc X247 N0 g_ab
  have Zs247 : n0 ≤ h247.size := Nat.le_trans Z0 (Keep.of_wr W247).1
  have KK247 : Keep h0 h247 [ab] := (Keep.refl h0 _).wr W247 (Or.inl (List.mem_of_getElem? (i := 0) rfl))
  have O247 := O0.wr W247 g_ab
  have f248 := (Scs.ext O0.2).wr W247
  have f249 := (Ssf.ext O0.2).wr W247
  have f250 := (Sas.ext O0.2).wr W247
  have f251 := (Shs.ext O0.2).wr W247
  have f252 := (Sls.ext O0.2).wr W247
  obtain ⟨T253, X253, e253, st253⟩ := getS2 X247 hx hZ hown (host := "") (Or.inl (H 57 _ rfl)) Via.refl e247 f252 (g := (mkF m 47 #[.val (.ref ab), .val (.int (3 : Int32)), .val (.int pc_)] [(.int pc_), (.int (3 : Int32)), (.ref ab)])) rfl (hb hby d13_47)
  obtain ⟨cl254, Ar254, q254, S254, N254, H254, G254⟩ := id V247
  have hin254 : ¬ ((3 : Int32) < 0 ∨ cl254.slots.size ≤ ((3 : Int32)).toNatClampNeg) := inb_of S254 ⟨by decide, by decide⟩
  obtain ⟨T255, h255, X255, e255, W255, st255⟩ := stB X253 hx hZ e253 Ar254 (j := (3 : Int32)) hin254 (g := (mkF m 52 #[.val (.ref ab), .val (.int (3 : Int32)), .val (.int pc_)] [(.int ((pc_ >>> ((8 : Int32) &&& 31)).toInt8.toInt32)), (.int (3 : Int32)), (.ref ab)])) rfl rfl (hb hby d13_52)
  have V255 : Arv Z h255 ab kb .byte (8 : Int32) [(.int ee0), (.int ee1), (.int (nar .byte ((pc_ >>> ((0 : Int32) &&& 31)).toInt8.toInt32))), (.int (nar .byte ((pc_ >>> ((8 : Int32) &&& 31)).toInt8.toInt32))), (.int ee4), (.int ee5), (.int ee6), (.int ee7)] (.int (0 : Int32)) := Arv.set Ar254 q254 S254 N254 H254 G254 (fits_nar_byte ((pc_ >>> ((8 : Int32) &&& 31)).toInt8.toInt32)) W255 3 rfl (Nat.le_of_ble_eq_true rfl)
  have N255 := Fr.snoc X255 N247 g_ab
  have Zs255 : n0 ≤ h255.size := Nat.le_trans Zs247 (Keep.of_wr W255).1
  have KK255 : Keep h0 h255 [ab] := KK247.wr W255 (Or.inl (List.mem_of_getElem? (i := 0) rfl))
  have O255 := O247.wr W255 g_ab
  have f256 := f248.wr W255
  have f257 := f249.wr W255
  have f258 := f250.wr W255
  have f259 := f251.wr W255
  have f260 := f252.wr W255
  obtain ⟨fs, hr, hrun, hended, hW, hsame⟩ := X255.leave (v := none) (fun _ => rfl)
  refine ⟨_, _, pre0 _ ?_, hrun, hended, _, _, rfl, ?_, ⟨_, rfl⟩, hW, hsame.mono (by decide) (by decide)⟩
  · show Sp p e below m s₁ 0 #[.val (.ref ab), .val (.int (1 : Int32)), .val (.int pc_)] [] _
    refine st244 _ ?_
    show Sp p e below m T244 3 #[.val (.ref ab), .val (.int (1 : Int32)), .val (.int pc_)] [(.int (1 : Int32))] _
    refine XS.ifYes X244.here hx rfl (pc0 := 3) (pc' := 28) rfl (hb hby d13_3) rfl ((if0 _ _).trans (feq (by decide : ¬ ((1 : Int32) = (0 : Int32)))).2) (by decide) (by decide) ?_
    refine XS.iloadN X244.here hx rfl (hb hby d13_28) rfl ?_
    refine XS.iconst X244.here hx rfl (hb hby d13_29) ?_
    refine XS.ishl X244.here hx rfl (hb hby d13_30) rfl ?_
    refine XS.istoreN X244.here hx rfl (hb hby d13_31) rfl (l' := #[.val (.ref ab), .val (.int (2 : Int32)), .val (.int pc_)]) rfl ?_
    refine XS.aloadN X244.here hx rfl (hb hby d13_32) rfl rfl ?_
    refine XS.iloadN X244.here hx rfl (hb hby d13_33) rfl ?_
    refine XS.iinc X244.here hx rfl (hb hby d13_34) rfl (l' := #[.val (.ref ab), .val (.int (3 : Int32)), .val (.int pc_)]) rfl ?_
    show Sp p e below m T244 37 #[.val (.ref ab), .val (.int (3 : Int32)), .val (.int pc_)] [(.int (2 : Int32)), (.ref ab)] _
    refine XS.iloadN X244.here hx rfl (hb hby d13_37) rfl ?_
    refine st245 _ ?_
    show Sp p e below m T245 41 #[.val (.ref ab), .val (.int (3 : Int32)), .val (.int pc_)] [(.int (0 : Int32)), (.int pc_), (.int (2 : Int32)), (.ref ab)] _
    refine XS.ishr X245.here hx rfl (hb hby d13_41) rfl ?_
    refine XS.i2b X245.here hx rfl (hb hby d13_42) rfl ?_
    refine st247 _ ?_
    show Sp p e below m T247 44 #[.val (.ref ab), .val (.int (3 : Int32)), .val (.int pc_)] [] _
    refine XS.aloadN X247.here hx rfl (hb hby d13_44) rfl rfl ?_
    refine XS.iloadN X247.here hx rfl (hb hby d13_45) rfl ?_
    refine XS.iloadN X247.here hx rfl (hb hby d13_46) rfl ?_
    refine st253 _ ?_
    show Sp p e below m T253 50 #[.val (.ref ab), .val (.int (3 : Int32)), .val (.int pc_)] [(.int (8 : Int32)), (.int pc_), (.int (3 : Int32)), (.ref ab)] _
    refine XS.ishr X253.here hx rfl (hb hby d13_50) rfl ?_
    refine XS.i2b X253.here hx rfl (hb hby d13_51) rfl ?_
    refine st255 _ ?_
    show Sp p e below m T255 53 #[.val (.ref ab), .val (.int (3 : Int32)), .val (.int pc_)] [] _
    exact X255.returnOut hx Bd.returns (hb hby d13_53) hr
  · show Q13i1 Z ab pc_ cs vf kb ee0 ee1 ee2 ee3 ee4 ee5 ee6 ee7 h0 n0 _ T255.heap _
    rw [e255]
    exact ⟨rfl, N255, KK255, V255⟩
theorem ef_14i1 (m : MethodId) (x0 : Addr) : entryFrame m #[(.ref x0), (.int (1 : Int32))] 2 = mkF m 0 #[.val (.ref x0), .val (.int (1 : Int32))] [] := by first | (simp [entryFrame, mkF, argsToLocals, Value.category]; done) | rfl
def Q14i1 (Z : State) (ab : Addr) (cs : Int32) (vf : Value) (kb : ClassId) (cc0 : Int32) (cc1 : Int32) (cc2 : Int32) (cc3 : Int32) (h0 : Heap) (n0 : Nat) (v : Option Value) (h : Heap) (L : List Loc) : Prop := v = some (.int cc1) ∧ Fr n0 L ∧ h = h0
theorem rm14i1 (l : Launch) (Z : State) (a0 : Array Value) (hw : ∀ d ∈ tables_1, d.before a0 Z = true) (ws : List Jvm.Cond) (ab : Addr) (cs : Int32) (vf : Value) (kb : ClassId) (cc0 : Int32) (cc1 : Int32) (cc2 : Int32) (cc3 : Int32) (h0 : Heap) (n0 : Nat) (Z0 : n0 ≤ h0.size) (O0 : Old Z n0 h0) (Scs : Sta Z Z.heap "java/lang/String" "COMPACT_STRINGS" "Z" (.int cs)) (hcs : ¬ cs = (0 : Int32)) (Ssf : Sta Z Z.heap "jdk/internal/util/Preconditions" "SIOOBE_FORMATTER" "Ljava/util/function/BiFunction;" vf) (hvf : vf.isRef = true) (Sas : Sta Z Z.heap "java/lang/StringUTF16" "$assertionsDisabled" "Z" (.int (1 : Int32))) (Shs : Sta Z Z.heap "java/lang/StringUTF16" "HI_BYTE_SHIFT" "I" (.int (0 : Int32))) (Sls : Sta Z Z.heap "java/lang/StringUTF16" "LO_BYTE_SHIFT" "I" (.int (8 : Int32))) (Vb : Arv Z h0 ab kb .byte (8 : Int32) [(.int (nar .byte ((cc0 >>> ((0 : Int32) &&& 31)).toInt8.toInt32))), (.int (nar .byte ((cc0 >>> ((8 : Int32) &&& 31)).toInt8.toInt32))), (.int (nar .byte ((cc1 >>> ((0 : Int32) &&& 31)).toInt8.toInt32))), (.int (nar .byte ((cc1 >>> ((8 : Int32) &&& 31)).toInt8.toInt32))), (.int (nar .byte ((cc2 >>> ((0 : Int32) &&& 31)).toInt8.toInt32))), (.int (nar .byte ((cc2 >>> ((8 : Int32) &&& 31)).toInt8.toInt32))), (.int (nar .byte ((cc3 >>> ((0 : Int32) &&& 31)).toInt8.toInt32))), (.int (nar .byte ((cc3 >>> ((8 : Int32) &&& 31)).toInt8.toInt32)))] (.int (0 : Int32))) (hr0 : 0 ≤ cc0.toInt ∧ cc0.toInt ≤ 65535) (hr1 : 0 ≤ cc1.toInt ∧ cc1.toInt ≤ 65535) (hr2 : 0 ≤ cc2.toInt ∧ cc2.toInt ≤ 65535) (hr3 : 0 ≤ cc3.toInt ∧ cc3.toInt ≤ 65535) :
    MetFree l (⟨"java/lang/StringUTF16", "getChar", "([BI)C"⟩ : MethodName) (head1 (Jvm.Cond.code (⟨"java/lang/StringUTF16", "getChar", "([BI)C"⟩ : MethodName) jdk_52_method_5_code 2 (some .char) :: ws) ({ frames := 0, cells := 0, slots := 0, locals := 0 } : Room)) (fun a U => a = #[(.ref ab), (.int (1 : Int32))] ∧ Z.Warmed39 U.vm ∧ U.heap = h0) (fun _ _ _ _ _ => True) (fun _ U o U' => ∃ v L, o = .returned v ∧ Q14i1 Z ab cs vf kb cc0 cc1 cc2 cc3 h0 n0 v U'.heap L ∧ FrameEnd U o U' L ({ frames := 0, cells := 0, slots := 0, locals := 0 } : Room).cells ({ frames := 0, cells := 0, slots := 0, locals := 0 } : Room).slots) := by
  refine MetFree.of_bodySF (plainFor_of_name own_pn23) hisR ?_
  intro p e s m args below meth c s₁ Bd hml0 hP hK
  have H := fun i c (h : tables_1[i]? = some c) => hw c (List.mem_of_getElem? h)
  obtain ⟨rfl, hZ, hh⟩ := hP
  have hx := Bd.exec
  have hby := Bd.bytes
  have hml : c.maxLocals = 2 := hml0
  have hown : s.vm.findClass "java/lang/StringUTF16" = some m.cls := findClass_of_methodNamed Bd.named
  have hnm := (name_of_methodNamed Bd.named Bd.method).1
  have X0 : Stand p l e ({ frames := 0, cells := 0, slots := 0, locals := 0 } : Room) s m #[(.ref ab), (.int (1 : Int32))] below meth c s₁ [] 0 0 := Stand.of_body Bd
  have e0 : s₁.heap = h0 := by rw [← hh, Bd.state]; rfl
  have N0 := Fr.nil n0
  have pre0 : ∀ t, Sp p e below m s₁ 0 #[.val (.ref ab), .val (.int (1 : Int32))] [] t → Steps p.tables e below (s₁.setTop (entryFrame m #[(.ref ab), (.int (1 : Int32))] 2)) t := fun t k => castTop (ef_14i1 m ab) k
  generalize s₁.setTop (entryFrame m #[(.ref ab), (.int (1 : Int32))] 2) = G0 at pre0 ⊢
  obtain ⟨T266, X266, e266, st266⟩ := getS2 X0 hx hZ hown (host := "") (Or.inl (H 55 _ rfl)) Via.refl e0 (Sas.ext O0.2) (g := (mkF m 0 #[.val (.ref ab), .val (.int (1 : Int32))] [])) rfl (hb hby d14_0)
  obtain ⟨cl267, Ar267, -, S267, -, H267, -⟩ := id Vb
  have hin267 : ¬ ((2 : Int32) < 0 ∨ cl267.slots.size ≤ ((2 : Int32)).toNatClampNeg) := inb_of S267 ⟨by decide, by decide⟩
  have hat267 : cl267.slots[((2 : Int32)).toNatClampNeg]? = some (.int (nar .byte ((cc1 >>> ((0 : Int32) &&& 31)).toInt8.toInt32))) := H267.at hin267 rfl
  obtain ⟨T268, X268, e268, st268⟩ := getS2 X266 hx hZ hown (host := "") (Or.inl (H 56 _ rfl)) Via.refl e266 (Shs.ext O0.2) (g := (mkF m 42 #[.val (.ref ab), .val (.int (3 : Int32))] [(.int ((nar .byte ((cc1 >>> ((0 : Int32) &&& 31)).toInt8.toInt32)) &&& (255 : Int32)))])) rfl (hb hby d14_42)
  obtain ⟨cl269, Ar269, -, S269, -, H269, -⟩ := id Vb
  have hin269 : ¬ ((3 : Int32) < 0 ∨ cl269.slots.size ≤ ((3 : Int32)).toNatClampNeg) := inb_of S269 ⟨by decide, by decide⟩
  have hat269 : cl269.slots[((3 : Int32)).toNatClampNeg]? = some (.int (nar .byte ((cc1 >>> ((8 : Int32) &&& 31)).toInt8.toInt32))) := H269.at hin269 rfl
  obtain ⟨T270, X270, e270, st270⟩ := getS2 X268 hx hZ hown (host := "") (Or.inl (H 57 _ rfl)) Via.refl e268 (Sls.ext O0.2) (g := (mkF m 53 #[.val (.ref ab), .val (.int (3 : Int32))] [(.int ((nar .byte ((cc1 >>> ((8 : Int32) &&& 31)).toInt8.toInt32)) &&& (255 : Int32))), (.int (((nar .byte ((cc1 >>> ((0 : Int32) &&& 31)).toInt8.toInt32)) &&& (255 : Int32)) <<< ((0 : Int32) &&& 31)))])) rfl (hb hby d14_53)
  obtain ⟨fs, hr, hrun, hended, hW, hsame⟩ := X270.leave (v := some (.int (nar .char (((((nar .byte ((cc1 >>> ((0 : Int32) &&& 31)).toInt8.toInt32)) &&& (255 : Int32)) <<< ((0 : Int32) &&& 31)) ||| (((nar .byte ((cc1 >>> ((8 : Int32) &&& 31)).toInt8.toInt32)) &&& (255 : Int32)) <<< ((8 : Int32) &&& 31))).toUInt32.toUInt16.toUInt32.toInt32)))) (fun h => by rw [Bd.returns] at h; cases h)
  refine ⟨_, _, pre0 _ ?_, hrun, hended, _, _, rfl, ?_, ⟨_, rfl⟩, hW, hsame.mono (by decide) (by decide)⟩
  · show Sp p e below m s₁ 0 #[.val (.ref ab), .val (.int (1 : Int32))] [] _
    refine st266 _ ?_
    show Sp p e below m T266 3 #[.val (.ref ab), .val (.int (1 : Int32))] [(.int (1 : Int32))] _
    refine XS.ifYes X266.here hx rfl (pc0 := 3) (pc' := 28) rfl (hb hby d14_3) rfl ((if0 _ _).trans (feq (by decide : ¬ ((1 : Int32) = (0 : Int32)))).2) (by decide) (by decide) ?_
    refine XS.iloadN X266.here hx rfl (hb hby d14_28) rfl ?_
    refine XS.iconst X266.here hx rfl (hb hby d14_29) ?_
    refine XS.ishl X266.here hx rfl (hb hby d14_30) rfl ?_
    refine XS.istoreN X266.here hx rfl (hb hby d14_31) rfl (l' := #[.val (.ref ab), .val (.int (2 : Int32))]) rfl ?_
    refine XS.aloadN X266.here hx rfl (hb hby d14_32) rfl rfl ?_
    refine XS.iloadN X266.here hx rfl (hb hby d14_33) rfl ?_
    refine XS.iinc X266.here hx rfl (hb hby d14_34) rfl (l' := #[.val (.ref ab), .val (.int (3 : Int32))]) rfl ?_
    show Sp p e below m T266 37 #[.val (.ref ab), .val (.int (3 : Int32))] [(.int (2 : Int32)), (.ref ab)] _
    refine X266.baloadBytes hx (j := (2 : Int32)) (v := (.int (nar .byte ((cc1 >>> ((0 : Int32) &&& 31)).toInt8.toInt32)))) (by rw [e266]; exact Ar267.1) (State.isArrayOf_alike hZ.alike Ar267.2.1) Ar267.2.2 hin267 hat267 (g := (mkF m 37 #[.val (.ref ab), .val (.int (3 : Int32))] [(.int (2 : Int32)), (.ref ab)])) rfl rfl (hb hby d14_37) _ ?_
    show Sp p e below m T266 38 #[.val (.ref ab), .val (.int (3 : Int32))] [(.int (nar .byte ((cc1 >>> ((0 : Int32) &&& 31)).toInt8.toInt32)))] _
    refine XS.sipush X266.here hx rfl (hb hby d14_38) ?_
    refine XS.iand X266.here hx rfl (hb hby d14_41) rfl ?_
    refine st268 _ ?_
    show Sp p e below m T268 45 #[.val (.ref ab), .val (.int (3 : Int32))] [(.int (0 : Int32)), (.int ((nar .byte ((cc1 >>> ((0 : Int32) &&& 31)).toInt8.toInt32)) &&& (255 : Int32)))] _
    refine XS.ishl X268.here hx rfl (hb hby d14_45) rfl ?_
    refine XS.aloadN X268.here hx rfl (hb hby d14_46) rfl rfl ?_
    refine XS.iloadN X268.here hx rfl (hb hby d14_47) rfl ?_
    refine X268.baloadBytes hx (j := (3 : Int32)) (v := (.int (nar .byte ((cc1 >>> ((8 : Int32) &&& 31)).toInt8.toInt32)))) (by rw [e268]; exact Ar269.1) (State.isArrayOf_alike hZ.alike Ar269.2.1) Ar269.2.2 hin269 hat269 (g := (mkF m 48 #[.val (.ref ab), .val (.int (3 : Int32))] [(.int (3 : Int32)), (.ref ab), (.int (((nar .byte ((cc1 >>> ((0 : Int32) &&& 31)).toInt8.toInt32)) &&& (255 : Int32)) <<< ((0 : Int32) &&& 31)))])) rfl rfl (hb hby d14_48) _ ?_
    show Sp p e below m T268 49 #[.val (.ref ab), .val (.int (3 : Int32))] [(.int (nar .byte ((cc1 >>> ((8 : Int32) &&& 31)).toInt8.toInt32))), (.int (((nar .byte ((cc1 >>> ((0 : Int32) &&& 31)).toInt8.toInt32)) &&& (255 : Int32)) <<< ((0 : Int32) &&& 31)))] _
    refine XS.sipush X268.here hx rfl (hb hby d14_49) ?_
    refine XS.iand X268.here hx rfl (hb hby d14_52) rfl ?_
    refine st270 _ ?_
    show Sp p e below m T270 56 #[.val (.ref ab), .val (.int (3 : Int32))] [(.int (8 : Int32)), (.int ((nar .byte ((cc1 >>> ((8 : Int32) &&& 31)).toInt8.toInt32)) &&& (255 : Int32))), (.int (((nar .byte ((cc1 >>> ((0 : Int32) &&& 31)).toInt8.toInt32)) &&& (255 : Int32)) <<< ((0 : Int32) &&& 31)))] _
    refine XS.ishl X270.here hx rfl (hb hby d14_56) rfl ?_
    refine XS.ior X270.here hx rfl (hb hby d14_57) rfl ?_
    refine XS.i2c X270.here hx rfl (hb hby d14_58) rfl ?_
    exact retN X270 hx (t := .char) Bd.returns (by simp) (hb hby d14_59) hr
  · show Q14i1 Z ab cs vf kb cc0 cc1 cc2 cc3 h0 n0 _ T270.heap _
    rw [e270]
    exact ⟨(congrArg (fun z => some (Value.int z)) (own_gc cc1 hr1)), N0, rfl⟩
theorem ef_13i2 (m : MethodId) (x0 : Addr) (x2 : Int32) : entryFrame m #[(.ref x0), (.int (2 : Int32)), (.int x2)] 3 = mkF m 0 #[.val (.ref x0), .val (.int (2 : Int32)), .val (.int x2)] [] := by first | (simp [entryFrame, mkF, argsToLocals, Value.category]; done) | rfl
def Q13i2 (Z : State) (ab : Addr) (pc_ : Int32) (cs : Int32) (vf : Value) (kb : ClassId) (ee0 : Int32) (ee1 : Int32) (ee2 : Int32) (ee3 : Int32) (ee4 : Int32) (ee5 : Int32) (ee6 : Int32) (ee7 : Int32) (h0 : Heap) (n0 : Nat) (v : Option Value) (h : Heap) (L : List Loc) : Prop := v = none ∧ Fr n0 L ∧ Keep h0 h [ab] ∧ Arv Z h ab kb .byte (8 : Int32) [(.int ee0), (.int ee1), (.int ee2), (.int ee3), (.int (nar .byte ((pc_ >>> ((0 : Int32) &&& 31)).toInt8.toInt32))), (.int (nar .byte ((pc_ >>> ((8 : Int32) &&& 31)).toInt8.toInt32))), (.int ee6), (.int ee7)] (.int (0 : Int32))
theorem rm13i2 (l : Launch) (Z : State) (a0 : Array Value) (hw : ∀ d ∈ tables_1, d.before a0 Z = true) (ws : List Jvm.Cond) (ab : Addr) (pc_ : Int32) (cs : Int32) (vf : Value) (kb : ClassId) (ee0 : Int32) (ee1 : Int32) (ee2 : Int32) (ee3 : Int32) (ee4 : Int32) (ee5 : Int32) (ee6 : Int32) (ee7 : Int32) (h0 : Heap) (n0 : Nat) (Z0 : n0 ≤ h0.size) (O0 : Old Z n0 h0) (Scs : Sta Z Z.heap "java/lang/String" "COMPACT_STRINGS" "Z" (.int cs)) (hcs : ¬ cs = (0 : Int32)) (Ssf : Sta Z Z.heap "jdk/internal/util/Preconditions" "SIOOBE_FORMATTER" "Ljava/util/function/BiFunction;" vf) (hvf : vf.isRef = true) (Sas : Sta Z Z.heap "java/lang/StringUTF16" "$assertionsDisabled" "Z" (.int (1 : Int32))) (Shs : Sta Z Z.heap "java/lang/StringUTF16" "HI_BYTE_SHIFT" "I" (.int (0 : Int32))) (Sls : Sta Z Z.heap "java/lang/StringUTF16" "LO_BYTE_SHIFT" "I" (.int (8 : Int32))) (Vb : Arv Z h0 ab kb .byte (8 : Int32) [(.int ee0), (.int ee1), (.int ee2), (.int ee3), (.int ee4), (.int ee5), (.int ee6), (.int ee7)] (.int (0 : Int32))) (g_ab : n0 ≤ ab) :
    MetFree l (⟨"java/lang/StringUTF16", "putChar", "([BII)V"⟩ : MethodName) (head1 (Jvm.Cond.code (⟨"java/lang/StringUTF16", "putChar", "([BII)V"⟩ : MethodName) jdk_52_method_4_code 3 none :: ws) ({ frames := 0, cells := 0, slots := 0, locals := 0 } : Room)) (fun a U => a = #[(.ref ab), (.int (2 : Int32)), (.int pc_)] ∧ Z.Warmed39 U.vm ∧ U.heap = h0) (fun _ _ _ _ _ => True) (fun _ U o U' => ∃ v L, o = .returned v ∧ Q13i2 Z ab pc_ cs vf kb ee0 ee1 ee2 ee3 ee4 ee5 ee6 ee7 h0 n0 v U'.heap L ∧ FrameEnd U o U' L ({ frames := 0, cells := 0, slots := 0, locals := 0 } : Room).cells ({ frames := 0, cells := 0, slots := 0, locals := 0 } : Room).slots) := by
  refine MetFree.of_bodySF (plainFor_of_name own_pn23) hisR ?_
  intro p e s m args below meth c s₁ Bd hml0 hP hK
  have H := fun i c (h : tables_1[i]? = some c) => hw c (List.mem_of_getElem? h)
  obtain ⟨rfl, hZ, hh⟩ := hP
  have hx := Bd.exec
  have hby := Bd.bytes
  have hml : c.maxLocals = 3 := hml0
  have hown : s.vm.findClass "java/lang/StringUTF16" = some m.cls := findClass_of_methodNamed Bd.named
  have hnm := (name_of_methodNamed Bd.named Bd.method).1
  have X0 : Stand p l e ({ frames := 0, cells := 0, slots := 0, locals := 0 } : Room) s m #[(.ref ab), (.int (2 : Int32)), (.int pc_)] below meth c s₁ [] 0 0 := Stand.of_body Bd
  have e0 : s₁.heap = h0 := by rw [← hh, Bd.state]; rfl
  have N0 := Fr.nil n0
  have pre0 : ∀ t, Sp p e below m s₁ 0 #[.val (.ref ab), .val (.int (2 : Int32)), .val (.int pc_)] [] t → Steps p.tables e below (s₁.setTop (entryFrame m #[(.ref ab), (.int (2 : Int32)), (.int pc_)] 3)) t := fun t k => castTop (ef_13i2 m ab pc_) k
  generalize s₁.setTop (entryFrame m #[(.ref ab), (.int (2 : Int32)), (.int pc_)] 3) = G0 at pre0 ⊢
  obtain ⟨T288, X288, e288, st288⟩ := getS2 X0 hx hZ hown (host := "") (Or.inl (H 55 _ rfl)) Via.refl e0 (Sas.ext O0.2) (g := (mkF m 0 #[.val (.ref ab), .val (.int (2 : Int32)), .val (.int pc_)] [])) rfl (hb hby d13_0)
  obtain ⟨T289, X289, e289, st289⟩ := getS2 X288 hx hZ hown (host := "") (Or.inl (H 56 _ rfl)) Via.refl e288 (Shs.ext O0.2) (g := (mkF m 38 #[.val (.ref ab), .val (.int (5 : Int32)), .val (.int pc_)] [(.int pc_), (.int (4 : Int32)), (.ref ab)])) rfl (hb hby d13_38)
  obtain ⟨cl290, Ar290, q290, S290, N290, H290, G290⟩ := id Vb
  have hin290 : ¬ ((4 : Int32) < 0 ∨ cl290.slots.size ≤ ((4 : Int32)).toNatClampNeg) := inb_of S290 ⟨by decide, by decide⟩
  obtain ⟨T291, h291, X291, e291, W291, st291⟩ := stB X289 hx hZ e289 Ar290 (j := (4 : Int32)) hin290 (g := (mkF m 43 #[.val (.ref ab), .val (.int (5 : Int32)), .val (.int pc_)] [(.int ((pc_ >>> ((0 : Int32) &&& 31)).toInt8.toInt32)), (.int (4 : Int32)), (.ref ab)])) rfl rfl (hb hby d13_43)
  have V291 : Arv Z h291 ab kb .byte (8 : Int32) [(.int ee0), (.int ee1), (.int ee2), (.int ee3), (.int (nar .byte ((pc_ >>> ((0 : Int32) &&& 31)).toInt8.toInt32))), (.int ee5), (.int ee6), (.int ee7)] (.int (0 : Int32)) := Arv.set Ar290 q290 S290 N290 H290 G290 (fits_nar_byte ((pc_ >>> ((0 : Int32) &&& 31)).toInt8.toInt32)) W291 4 rfl (Nat.le_of_ble_eq_true rfl)
  have N291 := Fr.snoc X291 N0 g_ab
  have Zs291 : n0 ≤ h291.size := Nat.le_trans Z0 (Keep.of_wr W291).1
  have KK291 : Keep h0 h291 [ab] := (Keep.refl h0 _).wr W291 (Or.inl (List.mem_of_getElem? (i := 0) rfl))
  have O291 := O0.wr W291 g_ab
  have f292 := (Scs.ext O0.2).wr W291
  have f293 := (Ssf.ext O0.2).wr W291
  have f294 := (Sas.ext O0.2).wr W291
  have f295 := (Shs.ext O0.2).wr W291
  have f296 := (Sls.ext O0.2).wr W291
  obtain ⟨T297, X297, e297, st297⟩ := getS2 X291 hx hZ hown (host := "") (Or.inl (H 57 _ rfl)) Via.refl e291 f296 (g := (mkF m 47 #[.val (.ref ab), .val (.int (5 : Int32)), .val (.int pc_)] [(.int pc_), (.int (5 : Int32)), (.ref ab)])) rfl (hb hby d13_47)
  obtain ⟨cl298, Ar298, q298, S298, N298, H298, G298⟩ := id V291
  have hin298 : ¬ ((5 : Int32) < 0 ∨ cl298.slots.size ≤ ((5 : Int32)).toNatClampNeg) := inb_of S298 ⟨by decide, by decide⟩
  obtain ⟨T299, h299, X299, e299, W299, st299⟩ := stB X297 hx hZ e297 Ar298 (j := (5 : Int32)) hin298 (g := (mkF m 52 #[.val (.ref ab), .val (.int (5 : Int32)), .val (.int pc_)] [(.int ((pc_ >>> ((8 : Int32) &&& 31)).toInt8.toInt32)), (.int (5 : Int32)), (.ref ab)])) rfl rfl (hb hby d13_52)
  have V299 : Arv Z h299 ab kb .byte (8 : Int32) [(.int ee0), (.int ee1), (.int ee2), (.int ee3), (.int (nar .byte ((pc_ >>> ((0 : Int32) &&& 31)).toInt8.toInt32))), (.int (nar .byte ((pc_ >>> ((8 : Int32) &&& 31)).toInt8.toInt32))), (.int ee6), (.int ee7)] (.int (0 : Int32)) := Arv.set Ar298 q298 S298 N298 H298 G298 (fits_nar_byte ((pc_ >>> ((8 : Int32) &&& 31)).toInt8.toInt32)) W299 5 rfl (Nat.le_of_ble_eq_true rfl)
  have N299 := Fr.snoc X299 N291 g_ab
  have Zs299 : n0 ≤ h299.size := Nat.le_trans Zs291 (Keep.of_wr W299).1
  have KK299 : Keep h0 h299 [ab] := KK291.wr W299 (Or.inl (List.mem_of_getElem? (i := 0) rfl))
  have O299 := O291.wr W299 g_ab
  have f300 := f292.wr W299
  have f301 := f293.wr W299
  have f302 := f294.wr W299
  have f303 := f295.wr W299
  have f304 := f296.wr W299
  obtain ⟨fs, hr, hrun, hended, hW, hsame⟩ := X299.leave (v := none) (fun _ => rfl)
  refine ⟨_, _, pre0 _ ?_, hrun, hended, _, _, rfl, ?_, ⟨_, rfl⟩, hW, hsame.mono (by decide) (by decide)⟩
  · show Sp p e below m s₁ 0 #[.val (.ref ab), .val (.int (2 : Int32)), .val (.int pc_)] [] _
    refine st288 _ ?_
    show Sp p e below m T288 3 #[.val (.ref ab), .val (.int (2 : Int32)), .val (.int pc_)] [(.int (1 : Int32))] _
    refine XS.ifYes X288.here hx rfl (pc0 := 3) (pc' := 28) rfl (hb hby d13_3) rfl ((if0 _ _).trans (feq (by decide : ¬ ((1 : Int32) = (0 : Int32)))).2) (by decide) (by decide) ?_
    refine XS.iloadN X288.here hx rfl (hb hby d13_28) rfl ?_
    refine XS.iconst X288.here hx rfl (hb hby d13_29) ?_
    refine XS.ishl X288.here hx rfl (hb hby d13_30) rfl ?_
    refine XS.istoreN X288.here hx rfl (hb hby d13_31) rfl (l' := #[.val (.ref ab), .val (.int (4 : Int32)), .val (.int pc_)]) rfl ?_
    refine XS.aloadN X288.here hx rfl (hb hby d13_32) rfl rfl ?_
    refine XS.iloadN X288.here hx rfl (hb hby d13_33) rfl ?_
    refine XS.iinc X288.here hx rfl (hb hby d13_34) rfl (l' := #[.val (.ref ab), .val (.int (5 : Int32)), .val (.int pc_)]) rfl ?_
    show Sp p e below m T288 37 #[.val (.ref ab), .val (.int (5 : Int32)), .val (.int pc_)] [(.int (4 : Int32)), (.ref ab)] _
    refine XS.iloadN X288.here hx rfl (hb hby d13_37) rfl ?_
    refine st289 _ ?_
    show Sp p e below m T289 41 #[.val (.ref ab), .val (.int (5 : Int32)), .val (.int pc_)] [(.int (0 : Int32)), (.int pc_), (.int (4 : Int32)), (.ref ab)] _
    refine XS.ishr X289.here hx rfl (hb hby d13_41) rfl ?_
    refine XS.i2b X289.here hx rfl (hb hby d13_42) rfl ?_
    refine st291 _ ?_
    show Sp p e below m T291 44 #[.val (.ref ab), .val (.int (5 : Int32)), .val (.int pc_)] [] _
    refine XS.aloadN X291.here hx rfl (hb hby d13_44) rfl rfl ?_
    refine XS.iloadN X291.here hx rfl (hb hby d13_45) rfl ?_
    refine XS.iloadN X291.here hx rfl (hb hby d13_46) rfl ?_
    refine st297 _ ?_
    show Sp p e below m T297 50 #[.val (.ref ab), .val (.int (5 : Int32)), .val (.int pc_)] [(.int (8 : Int32)), (.int pc_), (.int (5 : Int32)), (.ref ab)] _
    refine XS.ishr X297.here hx rfl (hb hby d13_50) rfl ?_
    refine XS.i2b X297.here hx rfl (hb hby d13_51) rfl ?_
    refine st299 _ ?_
    show Sp p e below m T299 53 #[.val (.ref ab), .val (.int (5 : Int32)), .val (.int pc_)] [] _
    exact X299.returnOut hx Bd.returns (hb hby d13_53) hr
  · show Q13i2 Z ab pc_ cs vf kb ee0 ee1 ee2 ee3 ee4 ee5 ee6 ee7 h0 n0 _ T299.heap _
    rw [e299]
    exact ⟨rfl, N299, KK299, V299⟩
theorem ef_14i2 (m : MethodId) (x0 : Addr) : entryFrame m #[(.ref x0), (.int (2 : Int32))] 2 = mkF m 0 #[.val (.ref x0), .val (.int (2 : Int32))] [] := by first | (simp [entryFrame, mkF, argsToLocals, Value.category]; done) | rfl
def Q14i2 (Z : State) (ab : Addr) (cs : Int32) (vf : Value) (kb : ClassId) (cc0 : Int32) (cc1 : Int32) (cc2 : Int32) (cc3 : Int32) (h0 : Heap) (n0 : Nat) (v : Option Value) (h : Heap) (L : List Loc) : Prop := v = some (.int cc2) ∧ Fr n0 L ∧ h = h0
theorem rm14i2 (l : Launch) (Z : State) (a0 : Array Value) (hw : ∀ d ∈ tables_1, d.before a0 Z = true) (ws : List Jvm.Cond) (ab : Addr) (cs : Int32) (vf : Value) (kb : ClassId) (cc0 : Int32) (cc1 : Int32) (cc2 : Int32) (cc3 : Int32) (h0 : Heap) (n0 : Nat) (Z0 : n0 ≤ h0.size) (O0 : Old Z n0 h0) (Scs : Sta Z Z.heap "java/lang/String" "COMPACT_STRINGS" "Z" (.int cs)) (hcs : ¬ cs = (0 : Int32)) (Ssf : Sta Z Z.heap "jdk/internal/util/Preconditions" "SIOOBE_FORMATTER" "Ljava/util/function/BiFunction;" vf) (hvf : vf.isRef = true) (Sas : Sta Z Z.heap "java/lang/StringUTF16" "$assertionsDisabled" "Z" (.int (1 : Int32))) (Shs : Sta Z Z.heap "java/lang/StringUTF16" "HI_BYTE_SHIFT" "I" (.int (0 : Int32))) (Sls : Sta Z Z.heap "java/lang/StringUTF16" "LO_BYTE_SHIFT" "I" (.int (8 : Int32))) (Vb : Arv Z h0 ab kb .byte (8 : Int32) [(.int (nar .byte ((cc0 >>> ((0 : Int32) &&& 31)).toInt8.toInt32))), (.int (nar .byte ((cc0 >>> ((8 : Int32) &&& 31)).toInt8.toInt32))), (.int (nar .byte ((cc1 >>> ((0 : Int32) &&& 31)).toInt8.toInt32))), (.int (nar .byte ((cc1 >>> ((8 : Int32) &&& 31)).toInt8.toInt32))), (.int (nar .byte ((cc2 >>> ((0 : Int32) &&& 31)).toInt8.toInt32))), (.int (nar .byte ((cc2 >>> ((8 : Int32) &&& 31)).toInt8.toInt32))), (.int (nar .byte ((cc3 >>> ((0 : Int32) &&& 31)).toInt8.toInt32))), (.int (nar .byte ((cc3 >>> ((8 : Int32) &&& 31)).toInt8.toInt32)))] (.int (0 : Int32))) (hr0 : 0 ≤ cc0.toInt ∧ cc0.toInt ≤ 65535) (hr1 : 0 ≤ cc1.toInt ∧ cc1.toInt ≤ 65535) (hr2 : 0 ≤ cc2.toInt ∧ cc2.toInt ≤ 65535) (hr3 : 0 ≤ cc3.toInt ∧ cc3.toInt ≤ 65535) :
    MetFree l (⟨"java/lang/StringUTF16", "getChar", "([BI)C"⟩ : MethodName) (head1 (Jvm.Cond.code (⟨"java/lang/StringUTF16", "getChar", "([BI)C"⟩ : MethodName) jdk_52_method_5_code 2 (some .char) :: ws) ({ frames := 0, cells := 0, slots := 0, locals := 0 } : Room)) (fun a U => a = #[(.ref ab), (.int (2 : Int32))] ∧ Z.Warmed39 U.vm ∧ U.heap = h0) (fun _ _ _ _ _ => True) (fun _ U o U' => ∃ v L, o = .returned v ∧ Q14i2 Z ab cs vf kb cc0 cc1 cc2 cc3 h0 n0 v U'.heap L ∧ FrameEnd U o U' L ({ frames := 0, cells := 0, slots := 0, locals := 0 } : Room).cells ({ frames := 0, cells := 0, slots := 0, locals := 0 } : Room).slots) := by
  refine MetFree.of_bodySF (plainFor_of_name own_pn23) hisR ?_
  intro p e s m args below meth c s₁ Bd hml0 hP hK
  have H := fun i c (h : tables_1[i]? = some c) => hw c (List.mem_of_getElem? h)
  obtain ⟨rfl, hZ, hh⟩ := hP
  have hx := Bd.exec
  have hby := Bd.bytes
  have hml : c.maxLocals = 2 := hml0
  have hown : s.vm.findClass "java/lang/StringUTF16" = some m.cls := findClass_of_methodNamed Bd.named
  have hnm := (name_of_methodNamed Bd.named Bd.method).1
  have X0 : Stand p l e ({ frames := 0, cells := 0, slots := 0, locals := 0 } : Room) s m #[(.ref ab), (.int (2 : Int32))] below meth c s₁ [] 0 0 := Stand.of_body Bd
  have e0 : s₁.heap = h0 := by rw [← hh, Bd.state]; rfl
  have N0 := Fr.nil n0
  have pre0 : ∀ t, Sp p e below m s₁ 0 #[.val (.ref ab), .val (.int (2 : Int32))] [] t → Steps p.tables e below (s₁.setTop (entryFrame m #[(.ref ab), (.int (2 : Int32))] 2)) t := fun t k => castTop (ef_14i2 m ab) k
  generalize s₁.setTop (entryFrame m #[(.ref ab), (.int (2 : Int32))] 2) = G0 at pre0 ⊢
  obtain ⟨T310, X310, e310, st310⟩ := getS2 X0 hx hZ hown (host := "") (Or.inl (H 55 _ rfl)) Via.refl e0 (Sas.ext O0.2) (g := (mkF m 0 #[.val (.ref ab), .val (.int (2 : Int32))] [])) rfl (hb hby d14_0)
  obtain ⟨cl311, Ar311, -, S311, -, H311, -⟩ := id Vb
  have hin311 : ¬ ((4 : Int32) < 0 ∨ cl311.slots.size ≤ ((4 : Int32)).toNatClampNeg) := inb_of S311 ⟨by decide, by decide⟩
  have hat311 : cl311.slots[((4 : Int32)).toNatClampNeg]? = some (.int (nar .byte ((cc2 >>> ((0 : Int32) &&& 31)).toInt8.toInt32))) := H311.at hin311 rfl
  obtain ⟨T312, X312, e312, st312⟩ := getS2 X310 hx hZ hown (host := "") (Or.inl (H 56 _ rfl)) Via.refl e310 (Shs.ext O0.2) (g := (mkF m 42 #[.val (.ref ab), .val (.int (5 : Int32))] [(.int ((nar .byte ((cc2 >>> ((0 : Int32) &&& 31)).toInt8.toInt32)) &&& (255 : Int32)))])) rfl (hb hby d14_42)
  obtain ⟨cl313, Ar313, -, S313, -, H313, -⟩ := id Vb
  have hin313 : ¬ ((5 : Int32) < 0 ∨ cl313.slots.size ≤ ((5 : Int32)).toNatClampNeg) := inb_of S313 ⟨by decide, by decide⟩
  have hat313 : cl313.slots[((5 : Int32)).toNatClampNeg]? = some (.int (nar .byte ((cc2 >>> ((8 : Int32) &&& 31)).toInt8.toInt32))) := H313.at hin313 rfl
  obtain ⟨T314, X314, e314, st314⟩ := getS2 X312 hx hZ hown (host := "") (Or.inl (H 57 _ rfl)) Via.refl e312 (Sls.ext O0.2) (g := (mkF m 53 #[.val (.ref ab), .val (.int (5 : Int32))] [(.int ((nar .byte ((cc2 >>> ((8 : Int32) &&& 31)).toInt8.toInt32)) &&& (255 : Int32))), (.int (((nar .byte ((cc2 >>> ((0 : Int32) &&& 31)).toInt8.toInt32)) &&& (255 : Int32)) <<< ((0 : Int32) &&& 31)))])) rfl (hb hby d14_53)
  obtain ⟨fs, hr, hrun, hended, hW, hsame⟩ := X314.leave (v := some (.int (nar .char (((((nar .byte ((cc2 >>> ((0 : Int32) &&& 31)).toInt8.toInt32)) &&& (255 : Int32)) <<< ((0 : Int32) &&& 31)) ||| (((nar .byte ((cc2 >>> ((8 : Int32) &&& 31)).toInt8.toInt32)) &&& (255 : Int32)) <<< ((8 : Int32) &&& 31))).toUInt32.toUInt16.toUInt32.toInt32)))) (fun h => by rw [Bd.returns] at h; cases h)
  refine ⟨_, _, pre0 _ ?_, hrun, hended, _, _, rfl, ?_, ⟨_, rfl⟩, hW, hsame.mono (by decide) (by decide)⟩
  · show Sp p e below m s₁ 0 #[.val (.ref ab), .val (.int (2 : Int32))] [] _
    refine st310 _ ?_
    show Sp p e below m T310 3 #[.val (.ref ab), .val (.int (2 : Int32))] [(.int (1 : Int32))] _
    refine XS.ifYes X310.here hx rfl (pc0 := 3) (pc' := 28) rfl (hb hby d14_3) rfl ((if0 _ _).trans (feq (by decide : ¬ ((1 : Int32) = (0 : Int32)))).2) (by decide) (by decide) ?_
    refine XS.iloadN X310.here hx rfl (hb hby d14_28) rfl ?_
    refine XS.iconst X310.here hx rfl (hb hby d14_29) ?_
    refine XS.ishl X310.here hx rfl (hb hby d14_30) rfl ?_
    refine XS.istoreN X310.here hx rfl (hb hby d14_31) rfl (l' := #[.val (.ref ab), .val (.int (4 : Int32))]) rfl ?_
    refine XS.aloadN X310.here hx rfl (hb hby d14_32) rfl rfl ?_
    refine XS.iloadN X310.here hx rfl (hb hby d14_33) rfl ?_
    refine XS.iinc X310.here hx rfl (hb hby d14_34) rfl (l' := #[.val (.ref ab), .val (.int (5 : Int32))]) rfl ?_
    show Sp p e below m T310 37 #[.val (.ref ab), .val (.int (5 : Int32))] [(.int (4 : Int32)), (.ref ab)] _
    refine X310.baloadBytes hx (j := (4 : Int32)) (v := (.int (nar .byte ((cc2 >>> ((0 : Int32) &&& 31)).toInt8.toInt32)))) (by rw [e310]; exact Ar311.1) (State.isArrayOf_alike hZ.alike Ar311.2.1) Ar311.2.2 hin311 hat311 (g := (mkF m 37 #[.val (.ref ab), .val (.int (5 : Int32))] [(.int (4 : Int32)), (.ref ab)])) rfl rfl (hb hby d14_37) _ ?_
    show Sp p e below m T310 38 #[.val (.ref ab), .val (.int (5 : Int32))] [(.int (nar .byte ((cc2 >>> ((0 : Int32) &&& 31)).toInt8.toInt32)))] _
    refine XS.sipush X310.here hx rfl (hb hby d14_38) ?_
    refine XS.iand X310.here hx rfl (hb hby d14_41) rfl ?_
    refine st312 _ ?_
    show Sp p e below m T312 45 #[.val (.ref ab), .val (.int (5 : Int32))] [(.int (0 : Int32)), (.int ((nar .byte ((cc2 >>> ((0 : Int32) &&& 31)).toInt8.toInt32)) &&& (255 : Int32)))] _
    refine XS.ishl X312.here hx rfl (hb hby d14_45) rfl ?_
    refine XS.aloadN X312.here hx rfl (hb hby d14_46) rfl rfl ?_
    refine XS.iloadN X312.here hx rfl (hb hby d14_47) rfl ?_
    refine X312.baloadBytes hx (j := (5 : Int32)) (v := (.int (nar .byte ((cc2 >>> ((8 : Int32) &&& 31)).toInt8.toInt32)))) (by rw [e312]; exact Ar313.1) (State.isArrayOf_alike hZ.alike Ar313.2.1) Ar313.2.2 hin313 hat313 (g := (mkF m 48 #[.val (.ref ab), .val (.int (5 : Int32))] [(.int (5 : Int32)), (.ref ab), (.int (((nar .byte ((cc2 >>> ((0 : Int32) &&& 31)).toInt8.toInt32)) &&& (255 : Int32)) <<< ((0 : Int32) &&& 31)))])) rfl rfl (hb hby d14_48) _ ?_
    show Sp p e below m T312 49 #[.val (.ref ab), .val (.int (5 : Int32))] [(.int (nar .byte ((cc2 >>> ((8 : Int32) &&& 31)).toInt8.toInt32))), (.int (((nar .byte ((cc2 >>> ((0 : Int32) &&& 31)).toInt8.toInt32)) &&& (255 : Int32)) <<< ((0 : Int32) &&& 31)))] _
    refine XS.sipush X312.here hx rfl (hb hby d14_49) ?_
    refine XS.iand X312.here hx rfl (hb hby d14_52) rfl ?_
    refine st314 _ ?_
    show Sp p e below m T314 56 #[.val (.ref ab), .val (.int (5 : Int32))] [(.int (8 : Int32)), (.int ((nar .byte ((cc2 >>> ((8 : Int32) &&& 31)).toInt8.toInt32)) &&& (255 : Int32))), (.int (((nar .byte ((cc2 >>> ((0 : Int32) &&& 31)).toInt8.toInt32)) &&& (255 : Int32)) <<< ((0 : Int32) &&& 31)))] _
    refine XS.ishl X314.here hx rfl (hb hby d14_56) rfl ?_
    refine XS.ior X314.here hx rfl (hb hby d14_57) rfl ?_
    refine XS.i2c X314.here hx rfl (hb hby d14_58) rfl ?_
    exact retN X314 hx (t := .char) Bd.returns (by simp) (hb hby d14_59) hr
  · show Q14i2 Z ab cs vf kb cc0 cc1 cc2 cc3 h0 n0 _ T314.heap _
    rw [e314]
    exact ⟨(congrArg (fun z => some (Value.int z)) (own_gc cc2 hr2)), N0, rfl⟩
theorem ef_13i3 (m : MethodId) (x0 : Addr) (x2 : Int32) : entryFrame m #[(.ref x0), (.int (3 : Int32)), (.int x2)] 3 = mkF m 0 #[.val (.ref x0), .val (.int (3 : Int32)), .val (.int x2)] [] := by first | (simp [entryFrame, mkF, argsToLocals, Value.category]; done) | rfl
def Q13i3 (Z : State) (ab : Addr) (pc_ : Int32) (cs : Int32) (vf : Value) (kb : ClassId) (ee0 : Int32) (ee1 : Int32) (ee2 : Int32) (ee3 : Int32) (ee4 : Int32) (ee5 : Int32) (ee6 : Int32) (ee7 : Int32) (h0 : Heap) (n0 : Nat) (v : Option Value) (h : Heap) (L : List Loc) : Prop := v = none ∧ Fr n0 L ∧ Keep h0 h [ab] ∧ Arv Z h ab kb .byte (8 : Int32) [(.int ee0), (.int ee1), (.int ee2), (.int ee3), (.int ee4), (.int ee5), (.int (nar .byte ((pc_ >>> ((0 : Int32) &&& 31)).toInt8.toInt32))), (.int (nar .byte ((pc_ >>> ((8 : Int32) &&& 31)).toInt8.toInt32)))] (.int (0 : Int32))
theorem rm13i3 (l : Launch) (Z : State) (a0 : Array Value) (hw : ∀ d ∈ tables_1, d.before a0 Z = true) (ws : List Jvm.Cond) (ab : Addr) (pc_ : Int32) (cs : Int32) (vf : Value) (kb : ClassId) (ee0 : Int32) (ee1 : Int32) (ee2 : Int32) (ee3 : Int32) (ee4 : Int32) (ee5 : Int32) (ee6 : Int32) (ee7 : Int32) (h0 : Heap) (n0 : Nat) (Z0 : n0 ≤ h0.size) (O0 : Old Z n0 h0) (Scs : Sta Z Z.heap "java/lang/String" "COMPACT_STRINGS" "Z" (.int cs)) (hcs : ¬ cs = (0 : Int32)) (Ssf : Sta Z Z.heap "jdk/internal/util/Preconditions" "SIOOBE_FORMATTER" "Ljava/util/function/BiFunction;" vf) (hvf : vf.isRef = true) (Sas : Sta Z Z.heap "java/lang/StringUTF16" "$assertionsDisabled" "Z" (.int (1 : Int32))) (Shs : Sta Z Z.heap "java/lang/StringUTF16" "HI_BYTE_SHIFT" "I" (.int (0 : Int32))) (Sls : Sta Z Z.heap "java/lang/StringUTF16" "LO_BYTE_SHIFT" "I" (.int (8 : Int32))) (Vb : Arv Z h0 ab kb .byte (8 : Int32) [(.int ee0), (.int ee1), (.int ee2), (.int ee3), (.int ee4), (.int ee5), (.int ee6), (.int ee7)] (.int (0 : Int32))) (g_ab : n0 ≤ ab) :
    MetFree l (⟨"java/lang/StringUTF16", "putChar", "([BII)V"⟩ : MethodName) (head1 (Jvm.Cond.code (⟨"java/lang/StringUTF16", "putChar", "([BII)V"⟩ : MethodName) jdk_52_method_4_code 3 none :: ws) ({ frames := 0, cells := 0, slots := 0, locals := 0 } : Room)) (fun a U => a = #[(.ref ab), (.int (3 : Int32)), (.int pc_)] ∧ Z.Warmed39 U.vm ∧ U.heap = h0) (fun _ _ _ _ _ => True) (fun _ U o U' => ∃ v L, o = .returned v ∧ Q13i3 Z ab pc_ cs vf kb ee0 ee1 ee2 ee3 ee4 ee5 ee6 ee7 h0 n0 v U'.heap L ∧ FrameEnd U o U' L ({ frames := 0, cells := 0, slots := 0, locals := 0 } : Room).cells ({ frames := 0, cells := 0, slots := 0, locals := 0 } : Room).slots) := by
  refine MetFree.of_bodySF (plainFor_of_name own_pn23) hisR ?_
  intro p e s m args below meth c s₁ Bd hml0 hP hK
  have H := fun i c (h : tables_1[i]? = some c) => hw c (List.mem_of_getElem? h)
  obtain ⟨rfl, hZ, hh⟩ := hP
  have hx := Bd.exec
  have hby := Bd.bytes
  have hml : c.maxLocals = 3 := hml0
  have hown : s.vm.findClass "java/lang/StringUTF16" = some m.cls := findClass_of_methodNamed Bd.named
  have hnm := (name_of_methodNamed Bd.named Bd.method).1
  have X0 : Stand p l e ({ frames := 0, cells := 0, slots := 0, locals := 0 } : Room) s m #[(.ref ab), (.int (3 : Int32)), (.int pc_)] below meth c s₁ [] 0 0 := Stand.of_body Bd
  have e0 : s₁.heap = h0 := by rw [← hh, Bd.state]; rfl
  have N0 := Fr.nil n0
  have pre0 : ∀ t, Sp p e below m s₁ 0 #[.val (.ref ab), .val (.int (3 : Int32)), .val (.int pc_)] [] t → Steps p.tables e below (s₁.setTop (entryFrame m #[(.ref ab), (.int (3 : Int32)), (.int pc_)] 3)) t := fun t k => castTop (ef_13i3 m ab pc_) k
  generalize s₁.setTop (entryFrame m #[(.ref ab), (.int (3 : Int32)), (.int pc_)] 3) = G0 at pre0 ⊢
  obtain ⟨T332, X332, e332, st332⟩ := getS2 X0 hx hZ hown (host := "") (Or.inl (H 55 _ rfl)) Via.refl e0 (Sas.ext O0.2) (g := (mkF m 0 #[.val (.ref ab), .val (.int (3 : Int32)), .val (.int pc_)] [])) rfl (hb hby d13_0)
  obtain ⟨T333, X333, e333, st333⟩ := getS2 X332 hx hZ hown (host := "") (Or.inl (H 56 _ rfl)) Via.refl e332 (Shs.ext O0.2) (g := (mkF m 38 #[.val (.ref ab), .val (.int (7 : Int32)), .val (.int pc_)] [(.int pc_), (.int (6 : Int32)), (.ref ab)])) rfl (hb hby d13_38)
  obtain ⟨cl334, Ar334, q334, S334, N334, H334, G334⟩ := id Vb
  have hin334 : ¬ ((6 : Int32) < 0 ∨ cl334.slots.size ≤ ((6 : Int32)).toNatClampNeg) := inb_of S334 ⟨by decide, by decide⟩
  obtain ⟨T335, h335, X335, e335, W335, st335⟩ := stB X333 hx hZ e333 Ar334 (j := (6 : Int32)) hin334 (g := (mkF m 43 #[.val (.ref ab), .val (.int (7 : Int32)), .val (.int pc_)] [(.int ((pc_ >>> ((0 : Int32) &&& 31)).toInt8.toInt32)), (.int (6 : Int32)), (.ref ab)])) rfl rfl (hb hby d13_43)
  have V335 : Arv Z h335 ab kb .byte (8 : Int32) [(.int ee0), (.int ee1), (.int ee2), (.int ee3), (.int ee4), (.int ee5), (.int (nar .byte ((pc_ >>> ((0 : Int32) &&& 31)).toInt8.toInt32))), (.int ee7)] (.int (0 : Int32)) := Arv.set Ar334 q334 S334 N334 H334 G334 (fits_nar_byte ((pc_ >>> ((0 : Int32) &&& 31)).toInt8.toInt32)) W335 6 rfl (Nat.le_of_ble_eq_true rfl)
  have N335 := Fr.snoc X335 N0 g_ab
  have Zs335 : n0 ≤ h335.size := Nat.le_trans Z0 (Keep.of_wr W335).1
  have KK335 : Keep h0 h335 [ab] := (Keep.refl h0 _).wr W335 (Or.inl (List.mem_of_getElem? (i := 0) rfl))
  have O335 := O0.wr W335 g_ab
  have f336 := (Scs.ext O0.2).wr W335
  have f337 := (Ssf.ext O0.2).wr W335
  have f338 := (Sas.ext O0.2).wr W335
  have f339 := (Shs.ext O0.2).wr W335
  have f340 := (Sls.ext O0.2).wr W335
  obtain ⟨T341, X341, e341, st341⟩ := getS2 X335 hx hZ hown (host := "") (Or.inl (H 57 _ rfl)) Via.refl e335 f340 (g := (mkF m 47 #[.val (.ref ab), .val (.int (7 : Int32)), .val (.int pc_)] [(.int pc_), (.int (7 : Int32)), (.ref ab)])) rfl (hb hby d13_47)
  obtain ⟨cl342, Ar342, q342, S342, N342, H342, G342⟩ := id V335
  have hin342 : ¬ ((7 : Int32) < 0 ∨ cl342.slots.size ≤ ((7 : Int32)).toNatClampNeg) := inb_of S342 ⟨by decide, by decide⟩
  obtain ⟨T343, h343, X343, e343, W343, st343⟩ := stB X341 hx hZ e341 Ar342 (j := (7 : Int32)) hin342 (g := (mkF m 52 #[.val (.ref ab), .val (.int (7 : Int32)), .val (.int pc_)] [(.int ((pc_ >>> ((8 : Int32) &&& 31)).toInt8.toInt32)), (.int (7 : Int32)), (.ref ab)])) rfl rfl (hb hby d13_52)
  have V343 : Arv Z h343 ab kb .byte (8 : Int32) [(.int ee0), (.int ee1), (.int ee2), (.int ee3), (.int ee4), (.int ee5), (.int (nar .byte ((pc_ >>> ((0 : Int32) &&& 31)).toInt8.toInt32))), (.int (nar .byte ((pc_ >>> ((8 : Int32) &&& 31)).toInt8.toInt32)))] (.int (0 : Int32)) := Arv.set Ar342 q342 S342 N342 H342 G342 (fits_nar_byte ((pc_ >>> ((8 : Int32) &&& 31)).toInt8.toInt32)) W343 7 rfl (Nat.le_of_ble_eq_true rfl)
  have N343 := Fr.snoc X343 N335 g_ab
  have Zs343 : n0 ≤ h343.size := Nat.le_trans Zs335 (Keep.of_wr W343).1
  have KK343 : Keep h0 h343 [ab] := KK335.wr W343 (Or.inl (List.mem_of_getElem? (i := 0) rfl))
  have O343 := O335.wr W343 g_ab
  have f344 := f336.wr W343
  have f345 := f337.wr W343
  have f346 := f338.wr W343
  have f347 := f339.wr W343
  have f348 := f340.wr W343
  obtain ⟨fs, hr, hrun, hended, hW, hsame⟩ := X343.leave (v := none) (fun _ => rfl)
  refine ⟨_, _, pre0 _ ?_, hrun, hended, _, _, rfl, ?_, ⟨_, rfl⟩, hW, hsame.mono (by decide) (by decide)⟩
  · show Sp p e below m s₁ 0 #[.val (.ref ab), .val (.int (3 : Int32)), .val (.int pc_)] [] _
    refine st332 _ ?_
    show Sp p e below m T332 3 #[.val (.ref ab), .val (.int (3 : Int32)), .val (.int pc_)] [(.int (1 : Int32))] _
    refine XS.ifYes X332.here hx rfl (pc0 := 3) (pc' := 28) rfl (hb hby d13_3) rfl ((if0 _ _).trans (feq (by decide : ¬ ((1 : Int32) = (0 : Int32)))).2) (by decide) (by decide) ?_
    refine XS.iloadN X332.here hx rfl (hb hby d13_28) rfl ?_
    refine XS.iconst X332.here hx rfl (hb hby d13_29) ?_
    refine XS.ishl X332.here hx rfl (hb hby d13_30) rfl ?_
    refine XS.istoreN X332.here hx rfl (hb hby d13_31) rfl (l' := #[.val (.ref ab), .val (.int (6 : Int32)), .val (.int pc_)]) rfl ?_
    refine XS.aloadN X332.here hx rfl (hb hby d13_32) rfl rfl ?_
    refine XS.iloadN X332.here hx rfl (hb hby d13_33) rfl ?_
    refine XS.iinc X332.here hx rfl (hb hby d13_34) rfl (l' := #[.val (.ref ab), .val (.int (7 : Int32)), .val (.int pc_)]) rfl ?_
    show Sp p e below m T332 37 #[.val (.ref ab), .val (.int (7 : Int32)), .val (.int pc_)] [(.int (6 : Int32)), (.ref ab)] _
    refine XS.iloadN X332.here hx rfl (hb hby d13_37) rfl ?_
    refine st333 _ ?_
    show Sp p e below m T333 41 #[.val (.ref ab), .val (.int (7 : Int32)), .val (.int pc_)] [(.int (0 : Int32)), (.int pc_), (.int (6 : Int32)), (.ref ab)] _
    refine XS.ishr X333.here hx rfl (hb hby d13_41) rfl ?_
    refine XS.i2b X333.here hx rfl (hb hby d13_42) rfl ?_
    refine st335 _ ?_
    show Sp p e below m T335 44 #[.val (.ref ab), .val (.int (7 : Int32)), .val (.int pc_)] [] _
    refine XS.aloadN X335.here hx rfl (hb hby d13_44) rfl rfl ?_
    refine XS.iloadN X335.here hx rfl (hb hby d13_45) rfl ?_
    refine XS.iloadN X335.here hx rfl (hb hby d13_46) rfl ?_
    refine st341 _ ?_
    show Sp p e below m T341 50 #[.val (.ref ab), .val (.int (7 : Int32)), .val (.int pc_)] [(.int (8 : Int32)), (.int pc_), (.int (7 : Int32)), (.ref ab)] _
    refine XS.ishr X341.here hx rfl (hb hby d13_50) rfl ?_
    refine XS.i2b X341.here hx rfl (hb hby d13_51) rfl ?_
    refine st343 _ ?_
    show Sp p e below m T343 53 #[.val (.ref ab), .val (.int (7 : Int32)), .val (.int pc_)] [] _
    exact X343.returnOut hx Bd.returns (hb hby d13_53) hr
  · show Q13i3 Z ab pc_ cs vf kb ee0 ee1 ee2 ee3 ee4 ee5 ee6 ee7 h0 n0 _ T343.heap _
    rw [e343]
    exact ⟨rfl, N343, KK343, V343⟩
theorem ef_14i3 (m : MethodId) (x0 : Addr) : entryFrame m #[(.ref x0), (.int (3 : Int32))] 2 = mkF m 0 #[.val (.ref x0), .val (.int (3 : Int32))] [] := by first | (simp [entryFrame, mkF, argsToLocals, Value.category]; done) | rfl
def Q14i3 (Z : State) (ab : Addr) (cs : Int32) (vf : Value) (kb : ClassId) (cc0 : Int32) (cc1 : Int32) (cc2 : Int32) (cc3 : Int32) (h0 : Heap) (n0 : Nat) (v : Option Value) (h : Heap) (L : List Loc) : Prop := v = some (.int cc3) ∧ Fr n0 L ∧ h = h0
theorem rm14i3 (l : Launch) (Z : State) (a0 : Array Value) (hw : ∀ d ∈ tables_1, d.before a0 Z = true) (ws : List Jvm.Cond) (ab : Addr) (cs : Int32) (vf : Value) (kb : ClassId) (cc0 : Int32) (cc1 : Int32) (cc2 : Int32) (cc3 : Int32) (h0 : Heap) (n0 : Nat) (Z0 : n0 ≤ h0.size) (O0 : Old Z n0 h0) (Scs : Sta Z Z.heap "java/lang/String" "COMPACT_STRINGS" "Z" (.int cs)) (hcs : ¬ cs = (0 : Int32)) (Ssf : Sta Z Z.heap "jdk/internal/util/Preconditions" "SIOOBE_FORMATTER" "Ljava/util/function/BiFunction;" vf) (hvf : vf.isRef = true) (Sas : Sta Z Z.heap "java/lang/StringUTF16" "$assertionsDisabled" "Z" (.int (1 : Int32))) (Shs : Sta Z Z.heap "java/lang/StringUTF16" "HI_BYTE_SHIFT" "I" (.int (0 : Int32))) (Sls : Sta Z Z.heap "java/lang/StringUTF16" "LO_BYTE_SHIFT" "I" (.int (8 : Int32))) (Vb : Arv Z h0 ab kb .byte (8 : Int32) [(.int (nar .byte ((cc0 >>> ((0 : Int32) &&& 31)).toInt8.toInt32))), (.int (nar .byte ((cc0 >>> ((8 : Int32) &&& 31)).toInt8.toInt32))), (.int (nar .byte ((cc1 >>> ((0 : Int32) &&& 31)).toInt8.toInt32))), (.int (nar .byte ((cc1 >>> ((8 : Int32) &&& 31)).toInt8.toInt32))), (.int (nar .byte ((cc2 >>> ((0 : Int32) &&& 31)).toInt8.toInt32))), (.int (nar .byte ((cc2 >>> ((8 : Int32) &&& 31)).toInt8.toInt32))), (.int (nar .byte ((cc3 >>> ((0 : Int32) &&& 31)).toInt8.toInt32))), (.int (nar .byte ((cc3 >>> ((8 : Int32) &&& 31)).toInt8.toInt32)))] (.int (0 : Int32))) (hr0 : 0 ≤ cc0.toInt ∧ cc0.toInt ≤ 65535) (hr1 : 0 ≤ cc1.toInt ∧ cc1.toInt ≤ 65535) (hr2 : 0 ≤ cc2.toInt ∧ cc2.toInt ≤ 65535) (hr3 : 0 ≤ cc3.toInt ∧ cc3.toInt ≤ 65535) :
    MetFree l (⟨"java/lang/StringUTF16", "getChar", "([BI)C"⟩ : MethodName) (head1 (Jvm.Cond.code (⟨"java/lang/StringUTF16", "getChar", "([BI)C"⟩ : MethodName) jdk_52_method_5_code 2 (some .char) :: ws) ({ frames := 0, cells := 0, slots := 0, locals := 0 } : Room)) (fun a U => a = #[(.ref ab), (.int (3 : Int32))] ∧ Z.Warmed39 U.vm ∧ U.heap = h0) (fun _ _ _ _ _ => True) (fun _ U o U' => ∃ v L, o = .returned v ∧ Q14i3 Z ab cs vf kb cc0 cc1 cc2 cc3 h0 n0 v U'.heap L ∧ FrameEnd U o U' L ({ frames := 0, cells := 0, slots := 0, locals := 0 } : Room).cells ({ frames := 0, cells := 0, slots := 0, locals := 0 } : Room).slots) := by
  refine MetFree.of_bodySF (plainFor_of_name own_pn23) hisR ?_
  intro p e s m args below meth c s₁ Bd hml0 hP hK
  have H := fun i c (h : tables_1[i]? = some c) => hw c (List.mem_of_getElem? h)
  obtain ⟨rfl, hZ, hh⟩ := hP
  have hx := Bd.exec
  have hby := Bd.bytes
  have hml : c.maxLocals = 2 := hml0
  have hown : s.vm.findClass "java/lang/StringUTF16" = some m.cls := findClass_of_methodNamed Bd.named
  have hnm := (name_of_methodNamed Bd.named Bd.method).1
  have X0 : Stand p l e ({ frames := 0, cells := 0, slots := 0, locals := 0 } : Room) s m #[(.ref ab), (.int (3 : Int32))] below meth c s₁ [] 0 0 := Stand.of_body Bd
  have e0 : s₁.heap = h0 := by rw [← hh, Bd.state]; rfl
  have N0 := Fr.nil n0
  have pre0 : ∀ t, Sp p e below m s₁ 0 #[.val (.ref ab), .val (.int (3 : Int32))] [] t → Steps p.tables e below (s₁.setTop (entryFrame m #[(.ref ab), (.int (3 : Int32))] 2)) t := fun t k => castTop (ef_14i3 m ab) k
  generalize s₁.setTop (entryFrame m #[(.ref ab), (.int (3 : Int32))] 2) = G0 at pre0 ⊢
  obtain ⟨T354, X354, e354, st354⟩ := getS2 X0 hx hZ hown (host := "") (Or.inl (H 55 _ rfl)) Via.refl e0 (Sas.ext O0.2) (g := (mkF m 0 #[.val (.ref ab), .val (.int (3 : Int32))] [])) rfl (hb hby d14_0)
  obtain ⟨cl355, Ar355, -, S355, -, H355, -⟩ := id Vb
  have hin355 : ¬ ((6 : Int32) < 0 ∨ cl355.slots.size ≤ ((6 : Int32)).toNatClampNeg) := inb_of S355 ⟨by decide, by decide⟩
  have hat355 : cl355.slots[((6 : Int32)).toNatClampNeg]? = some (.int (nar .byte ((cc3 >>> ((0 : Int32) &&& 31)).toInt8.toInt32))) := H355.at hin355 rfl
  obtain ⟨T356, X356, e356, st356⟩ := getS2 X354 hx hZ hown (host := "") (Or.inl (H 56 _ rfl)) Via.refl e354 (Shs.ext O0.2) (g := (mkF m 42 #[.val (.ref ab), .val (.int (7 : Int32))] [(.int ((nar .byte ((cc3 >>> ((0 : Int32) &&& 31)).toInt8.toInt32)) &&& (255 : Int32)))])) rfl (hb hby d14_42)
  obtain ⟨cl357, Ar357, -, S357, -, H357, -⟩ := id Vb
  have hin357 : ¬ ((7 : Int32) < 0 ∨ cl357.slots.size ≤ ((7 : Int32)).toNatClampNeg) := inb_of S357 ⟨by decide, by decide⟩
  have hat357 : cl357.slots[((7 : Int32)).toNatClampNeg]? = some (.int (nar .byte ((cc3 >>> ((8 : Int32) &&& 31)).toInt8.toInt32))) := H357.at hin357 rfl
  obtain ⟨T358, X358, e358, st358⟩ := getS2 X356 hx hZ hown (host := "") (Or.inl (H 57 _ rfl)) Via.refl e356 (Sls.ext O0.2) (g := (mkF m 53 #[.val (.ref ab), .val (.int (7 : Int32))] [(.int ((nar .byte ((cc3 >>> ((8 : Int32) &&& 31)).toInt8.toInt32)) &&& (255 : Int32))), (.int (((nar .byte ((cc3 >>> ((0 : Int32) &&& 31)).toInt8.toInt32)) &&& (255 : Int32)) <<< ((0 : Int32) &&& 31)))])) rfl (hb hby d14_53)
  obtain ⟨fs, hr, hrun, hended, hW, hsame⟩ := X358.leave (v := some (.int (nar .char (((((nar .byte ((cc3 >>> ((0 : Int32) &&& 31)).toInt8.toInt32)) &&& (255 : Int32)) <<< ((0 : Int32) &&& 31)) ||| (((nar .byte ((cc3 >>> ((8 : Int32) &&& 31)).toInt8.toInt32)) &&& (255 : Int32)) <<< ((8 : Int32) &&& 31))).toUInt32.toUInt16.toUInt32.toInt32)))) (fun h => by rw [Bd.returns] at h; cases h)
  refine ⟨_, _, pre0 _ ?_, hrun, hended, _, _, rfl, ?_, ⟨_, rfl⟩, hW, hsame.mono (by decide) (by decide)⟩
  · show Sp p e below m s₁ 0 #[.val (.ref ab), .val (.int (3 : Int32))] [] _
    refine st354 _ ?_
    show Sp p e below m T354 3 #[.val (.ref ab), .val (.int (3 : Int32))] [(.int (1 : Int32))] _
    refine XS.ifYes X354.here hx rfl (pc0 := 3) (pc' := 28) rfl (hb hby d14_3) rfl ((if0 _ _).trans (feq (by decide : ¬ ((1 : Int32) = (0 : Int32)))).2) (by decide) (by decide) ?_
    refine XS.iloadN X354.here hx rfl (hb hby d14_28) rfl ?_
    refine XS.iconst X354.here hx rfl (hb hby d14_29) ?_
    refine XS.ishl X354.here hx rfl (hb hby d14_30) rfl ?_
    refine XS.istoreN X354.here hx rfl (hb hby d14_31) rfl (l' := #[.val (.ref ab), .val (.int (6 : Int32))]) rfl ?_
    refine XS.aloadN X354.here hx rfl (hb hby d14_32) rfl rfl ?_
    refine XS.iloadN X354.here hx rfl (hb hby d14_33) rfl ?_
    refine XS.iinc X354.here hx rfl (hb hby d14_34) rfl (l' := #[.val (.ref ab), .val (.int (7 : Int32))]) rfl ?_
    show Sp p e below m T354 37 #[.val (.ref ab), .val (.int (7 : Int32))] [(.int (6 : Int32)), (.ref ab)] _
    refine X354.baloadBytes hx (j := (6 : Int32)) (v := (.int (nar .byte ((cc3 >>> ((0 : Int32) &&& 31)).toInt8.toInt32)))) (by rw [e354]; exact Ar355.1) (State.isArrayOf_alike hZ.alike Ar355.2.1) Ar355.2.2 hin355 hat355 (g := (mkF m 37 #[.val (.ref ab), .val (.int (7 : Int32))] [(.int (6 : Int32)), (.ref ab)])) rfl rfl (hb hby d14_37) _ ?_
    show Sp p e below m T354 38 #[.val (.ref ab), .val (.int (7 : Int32))] [(.int (nar .byte ((cc3 >>> ((0 : Int32) &&& 31)).toInt8.toInt32)))] _
    refine XS.sipush X354.here hx rfl (hb hby d14_38) ?_
    refine XS.iand X354.here hx rfl (hb hby d14_41) rfl ?_
    refine st356 _ ?_
    show Sp p e below m T356 45 #[.val (.ref ab), .val (.int (7 : Int32))] [(.int (0 : Int32)), (.int ((nar .byte ((cc3 >>> ((0 : Int32) &&& 31)).toInt8.toInt32)) &&& (255 : Int32)))] _
    refine XS.ishl X356.here hx rfl (hb hby d14_45) rfl ?_
    refine XS.aloadN X356.here hx rfl (hb hby d14_46) rfl rfl ?_
    refine XS.iloadN X356.here hx rfl (hb hby d14_47) rfl ?_
    refine X356.baloadBytes hx (j := (7 : Int32)) (v := (.int (nar .byte ((cc3 >>> ((8 : Int32) &&& 31)).toInt8.toInt32)))) (by rw [e356]; exact Ar357.1) (State.isArrayOf_alike hZ.alike Ar357.2.1) Ar357.2.2 hin357 hat357 (g := (mkF m 48 #[.val (.ref ab), .val (.int (7 : Int32))] [(.int (7 : Int32)), (.ref ab), (.int (((nar .byte ((cc3 >>> ((0 : Int32) &&& 31)).toInt8.toInt32)) &&& (255 : Int32)) <<< ((0 : Int32) &&& 31)))])) rfl rfl (hb hby d14_48) _ ?_
    show Sp p e below m T356 49 #[.val (.ref ab), .val (.int (7 : Int32))] [(.int (nar .byte ((cc3 >>> ((8 : Int32) &&& 31)).toInt8.toInt32))), (.int (((nar .byte ((cc3 >>> ((0 : Int32) &&& 31)).toInt8.toInt32)) &&& (255 : Int32)) <<< ((0 : Int32) &&& 31)))] _
    refine XS.sipush X356.here hx rfl (hb hby d14_49) ?_
    refine XS.iand X356.here hx rfl (hb hby d14_52) rfl ?_
    refine st358 _ ?_
    show Sp p e below m T358 56 #[.val (.ref ab), .val (.int (7 : Int32))] [(.int (8 : Int32)), (.int ((nar .byte ((cc3 >>> ((8 : Int32) &&& 31)).toInt8.toInt32)) &&& (255 : Int32))), (.int (((nar .byte ((cc3 >>> ((0 : Int32) &&& 31)).toInt8.toInt32)) &&& (255 : Int32)) <<< ((0 : Int32) &&& 31)))] _
    refine XS.ishl X358.here hx rfl (hb hby d14_56) rfl ?_
    refine XS.ior X358.here hx rfl (hb hby d14_57) rfl ?_
    refine XS.i2c X358.here hx rfl (hb hby d14_58) rfl ?_
    exact retN X358 hx (t := .char) Bd.returns (by simp) (hb hby d14_59) hr
  · show Q14i3 Z ab cs vf kb cc0 cc1 cc2 cc3 h0 n0 _ T358.heap _
    rw [e358]
    exact ⟨(congrArg (fun z => some (Value.int z)) (own_gc cc3 hr3)), N0, rfl⟩
theorem d10_0 : decode jdk_52_method_14_code 0 = .ok (.iload_n 2, 1) := by decide +kernel
theorem d10_1 : decode jdk_52_method_14_code 1 = .ok (.invokestatic 107, 3) := by decide +kernel
theorem own_pd144 : parseMethodDescriptor "(I)[B" = some ⟨[.int], some (.array .byte)⟩ := by decide +kernel
theorem d10_4 : decode jdk_52_method_14_code 4 = .ok (.astore_n 3, 1) := by decide +kernel
theorem d10_5 : decode jdk_52_method_14_code 5 = .ok (.iconst 0, 1) := by decide +kernel
theorem d10_6 : decode jdk_52_method_14_code 6 = .ok (.istore 4, 2) := by decide +kernel
theorem d10_8 : decode jdk_52_method_14_code 8 = .ok (.iload 4, 2) := by decide +kernel
theorem d10_10 : decode jdk_52_method_14_code 10 = .ok (.iload_n 2, 1) := by decide +kernel
theorem d10_11 : decode jdk_52_method_14_code 11 = .ok (.if_icmp .ge 21, 3) := by decide +kernel
theorem d10_14 : decode jdk_52_method_14_code 14 = .ok (.aload_n 3, 1) := by decide +kernel
theorem d10_15 : decode jdk_52_method_14_code 15 = .ok (.iload 4, 2) := by decide +kernel
theorem d10_17 : decode jdk_52_method_14_code 17 = .ok (.aload_n 0, 1) := by decide +kernel
theorem d10_18 : decode jdk_52_method_14_code 18 = .ok (.iload_n 1, 1) := by decide +kernel
theorem d10_19 : decode jdk_52_method_14_code 19 = .ok (.caload, 1) := by decide +kernel
theorem d10_20 : decode jdk_52_method_14_code 20 = .ok (.invokestatic 111, 3) := by decide +kernel
theorem own_pd157 : parseMethodDescriptor "([BII)V" = some ⟨[(.array .byte), .int, .int], none⟩ := by decide +kernel
theorem d10_23 : decode jdk_52_method_14_code 23 = .ok (.iinc 1 1, 3) := by decide +kernel
theorem d10_26 : decode jdk_52_method_14_code 26 = .ok (.iinc 4 1, 3) := by decide +kernel
theorem d10_29 : decode jdk_52_method_14_code 29 = .ok (.goto (-21), 3) := by decide +kernel
theorem d10_32 : decode jdk_52_method_14_code 32 = .ok (.aload_n 3, 1) := by decide +kernel
theorem d10_33 : decode jdk_52_method_14_code 33 = .ok (.areturn, 1) := by decide +kernel
theorem ef_10 (m : MethodId) (x0 : Addr) : entryFrame m #[(.ref x0), (.int (0 : Int32)), (.int (4 : Int32))] 5 = mkF m 0 #[.val (.ref x0), .val (.int (0 : Int32)), .val (.int (4 : Int32)), .unset, .unset] [] := by first | (simp [entryFrame, mkF, argsToLocals, Value.category]; done) | rfl
def Q10 (Z : State) (ac : Addr) (cs : Int32) (vf : Value) (kc : ClassId) (cc0 : Int32) (cc1 : Int32) (cc2 : Int32) (cc3 : Int32) (h0 : Heap) (n0 : Nat) (v : Option Value) (h : Heap) (L : List Loc) : Prop := ∃ (rb : Addr) (rk : ClassId), v = some (.ref rb) ∧ Fr n0 L ∧ Keep h0 h [] ∧ Arv Z h rb rk .byte (8 : Int32) [(.int (nar .byte ((cc0 >>> ((0 : Int32) &&& 31)).toInt8.toInt32))), (.int (nar .byte ((cc0 >>> ((8 : Int32) &&& 31)).toInt8.toInt32))), (.int (nar .byte ((cc1 >>> ((0 : Int32) &&& 31)).toInt8.toInt32))), (.int (nar .byte ((cc1 >>> ((8 : Int32) &&& 31)).toInt8.toInt32))), (.int (nar .byte ((cc2 >>> ((0 : Int32) &&& 31)).toInt8.toInt32))), (.int (nar .byte ((cc2 >>> ((8 : Int32) &&& 31)).toInt8.toInt32))), (.int (nar .byte ((cc3 >>> ((0 : Int32) &&& 31)).toInt8.toInt32))), (.int (nar .byte ((cc3 >>> ((8 : Int32) &&& 31)).toInt8.toInt32)))] (.int (0 : Int32)) ∧ n0 ≤ rb ∧ h0.size ≤ rb
theorem rm10 (l : Launch) (Z : State) (a0 : Array Value) (hw : ∀ d ∈ tables_1, d.before a0 Z = true) (ws : List Jvm.Cond) (ac : Addr) (cs : Int32) (vf : Value) (kc : ClassId) (cc0 : Int32) (cc1 : Int32) (cc2 : Int32) (cc3 : Int32) (h0 : Heap) (n0 : Nat) (Z0 : n0 ≤ h0.size) (O0 : Old Z n0 h0) (Scs : Sta Z Z.heap "java/lang/String" "COMPACT_STRINGS" "Z" (.int cs)) (hcs : ¬ cs = (0 : Int32)) (Ssf : Sta Z Z.heap "jdk/internal/util/Preconditions" "SIOOBE_FORMATTER" "Ljava/util/function/BiFunction;" vf) (hvf : vf.isRef = true) (Sas : Sta Z Z.heap "java/lang/StringUTF16" "$assertionsDisabled" "Z" (.int (1 : Int32))) (Shs : Sta Z Z.heap "java/lang/StringUTF16" "HI_BYTE_SHIFT" "I" (.int (0 : Int32))) (Sls : Sta Z Z.heap "java/lang/StringUTF16" "LO_BYTE_SHIFT" "I" (.int (8 : Int32))) (Vc : Arv Z h0 ac kc .char (4 : Int32) [(.int cc0), (.int cc1), (.int cc2), (.int cc3)] (.int (0 : Int32))) :
    MetFree l (⟨"java/lang/StringUTF16", "toBytes", "([CII)[B"⟩ : MethodName) (head1 (Jvm.Cond.code (⟨"java/lang/StringUTF16", "toBytes", "([CII)[B"⟩ : MethodName) jdk_52_method_14_code 5 (some (.array .byte)) :: ws) ({ frames := 2, cells := 1, slots := 8, locals := 24 } : Room)) (fun a U => a = #[(.ref ac), (.int (0 : Int32)), (.int (4 : Int32))] ∧ Z.Warmed39 U.vm ∧ U.heap = h0) (fun _ _ _ _ _ => True) (fun _ U o U' => ∃ v L, o = .returned v ∧ Q10 Z ac cs vf kc cc0 cc1 cc2 cc3 h0 n0 v U'.heap L ∧ FrameEnd U o U' L ({ frames := 2, cells := 1, slots := 8, locals := 24 } : Room).cells ({ frames := 2, cells := 1, slots := 8, locals := 24 } : Room).slots) := by
  refine MetFree.of_bodySF (plainFor_of_name own_pn23) hisR ?_
  intro p e s m args below meth c s₁ Bd hml0 hP hK
  have H := fun i c (h : tables_1[i]? = some c) => hw c (List.mem_of_getElem? h)
  obtain ⟨rfl, hZ, hh⟩ := hP
  have hx := Bd.exec
  have hby := Bd.bytes
  have hml : c.maxLocals = 5 := hml0
  have hown : s.vm.findClass "java/lang/StringUTF16" = some m.cls := findClass_of_methodNamed Bd.named
  have hnm := (name_of_methodNamed Bd.named Bd.method).1
  have X0 : Stand p l e ({ frames := 2, cells := 1, slots := 8, locals := 24 } : Room) s m #[(.ref ac), (.int (0 : Int32)), (.int (4 : Int32))] below meth c s₁ [] 0 0 := Stand.of_body Bd
  have e0 : s₁.heap = h0 := by rw [← hh, Bd.state]; rfl
  have N0 := Fr.nil n0
  have pre0 : ∀ t, Sp p e below m s₁ 0 #[.val (.ref ac), .val (.int (0 : Int32)), .val (.int (4 : Int32)), .unset, .unset] [] t → Steps p.tables e below (s₁.setTop (entryFrame m #[(.ref ac), (.int (0 : Int32)), (.int (4 : Int32))] 5)) t := fun t k => castTop (ef_10 m ac) k
  generalize s₁.setTop (entryFrame m #[(.ref ac), (.int (0 : Int32)), (.int (4 : Int32))] 5) = G0 at pre0 ⊢
  obtain ⟨_, _, ⟨T398, L398, k398, n398⟩, -, X398, ⟨Lc398, hQ398, l398, y398, z398⟩, st398⟩ := Jvm.LawKit.callS X0 hx hown (mvT hZ (H 45 _ rfl)) (mvT hZ (H 46 _ rfl)) (mvT hZ (H 21 _ rfl)) (mvT hZ (H 47 _ rfl)) (by decide) (backOf (W := 0) (rm11 l Z a0 hw []   h0 n0 Z0 ) hZ (H 47 _ rfl) (H 21 _ rfl) (by decide) (by decide)) (g := (mkF m 1 #[.val (.ref ac), .val (.int (0 : Int32)), .val (.int (4 : Int32)), .unset, .unset] [(.int (4 : Int32))])) rfl (by rw [hml]; rfl) (argsL := [(.int (4 : Int32))]) (rest := []) (lenOf own_pd144 rfl) rfl (Nat.le_of_eq rfl) (hb hby d10_1) (fun _ _ => ⟨rfl, e0, (by decide : 0 + 1 ≤ _), (by decide : 0 + 8 ≤ _)⟩)
  dsimp only [Pt.U, Pt.locs, Pt.cells, Pt.slots] at X398 l398 y398 z398 st398 hQ398
  rw [l398, y398, z398] at X398
  obtain ⟨rrb_398, rrk_398, rfl, Nq398, K398, p398_0, p398_1, p398_2⟩ := hQ398
  have N398 := Fr.app N0 Nq398
  have Zs398 : n0 ≤ T398.heap.size := Nat.le_trans Z0 K398.1
  have KK398 : Keep h0 T398.heap [] := (Keep.refl h0 _).trans K398 all0
  have ne_ac_rrb_398 : ac ≠ rrb_398 := Nat.ne_of_lt (Nat.lt_of_lt_of_le Vc.lt p398_2)
  have sz_rrb_398 : h0.size ≤ rrb_398 := p398_2
  have O398 := O0.keep K398 (all0)
  have f399 := Scs.ext O398.2
  have f400 := Ssf.ext O398.2
  have f401 := Sas.ext O398.2
  have f402 := Shs.ext O398.2
  have f403 := Sls.ext O398.2
  have f404 := Vc.keep K398 nin0
  have g_rrb_398 := p398_1
  obtain ⟨cl405, Ar405, -, S405, -, H405, -⟩ := id f404
  have hin405 : ¬ ((0 : Int32) < 0 ∨ cl405.slots.size ≤ ((0 : Int32)).toNatClampNeg) := inb_of S405 ⟨by decide, by decide⟩
  have hat405 : cl405.slots[((0 : Int32)).toNatClampNeg]? = some (.int cc0) := H405.at hin405 rfl
  obtain ⟨_, _, ⟨T406, L406, k406, n406⟩, -, X406, ⟨Lc406, hQ406, l406, y406, z406⟩, st406⟩ := Jvm.LawKit.callS X398 hx hown (mvT hZ (H 52 _ rfl)) (mvT hZ (H 53 _ rfl)) (mvT hZ (H 21 _ rfl)) (mvT hZ (H 54 _ rfl)) (by decide) (backOf (W := 0) (rm13i0 l Z a0 hw [] rrb_398 cc0 cs vf rrk_398 (0 : Int32) (0 : Int32) (0 : Int32) (0 : Int32) (0 : Int32) (0 : Int32) (0 : Int32) (0 : Int32) T398.heap n0 Zs398 O398 Scs hcs Ssf hvf Sas Shs Sls p398_0 g_rrb_398) hZ (H 54 _ rfl) (H 21 _ rfl) (by decide) (by decide)) (g := (mkF m 20 #[.val (.ref ac), .val (.int (0 : Int32)), .val (.int (4 : Int32)), .val (.ref rrb_398), .val (.int (0 : Int32))] [(.int cc0), (.int (0 : Int32)), (.ref rrb_398)])) rfl (by rw [hml]; rfl) (argsL := [(.ref rrb_398), (.int (0 : Int32)), (.int cc0)]) (rest := []) (lenOf own_pd157 rfl) rfl (Nat.le_of_eq rfl) (hb hby d10_20) (fun _ _ => ⟨rfl, rfl, (by decide : 1 + 0 ≤ _), (by decide : 8 + 0 ≤ _)⟩)
  dsimp only [Pt.U, Pt.locs, Pt.cells, Pt.slots] at X406 l406 y406 z406 st406 hQ406
  rw [l406, y406, z406] at X406
  obtain ⟨rfl, Nq406, K406, p406_0⟩ := hQ406
  have N406 := Fr.app N398 Nq406
  have Zs406 : n0 ≤ T406.heap.size := Nat.le_trans Zs398 K406.1
  have KK406 : Keep h0 T406.heap [] := KK398.trans K406 (allS (Or.inr sz_rrb_398) all0)
  have O406 := O398.keep K406 (allS g_rrb_398 all0)
  have f407 := Scs.ext O406.2
  have f408 := Ssf.ext O406.2
  have f409 := Sas.ext O406.2
  have f410 := Shs.ext O406.2
  have f411 := Sls.ext O406.2
  have f412 := f404.keep K406 (ninS ne_ac_rrb_398 nin0)
  obtain ⟨cl413, Ar413, -, S413, -, H413, -⟩ := id f412
  have hin413 : ¬ ((1 : Int32) < 0 ∨ cl413.slots.size ≤ ((1 : Int32)).toNatClampNeg) := inb_of S413 ⟨by decide, by decide⟩
  have hat413 : cl413.slots[((1 : Int32)).toNatClampNeg]? = some (.int cc1) := H413.at hin413 rfl
  obtain ⟨_, _, ⟨T414, L414, k414, n414⟩, -, X414, ⟨Lc414, hQ414, l414, y414, z414⟩, st414⟩ := Jvm.LawKit.callS X406 hx hown (mvT hZ (H 52 _ rfl)) (mvT hZ (H 53 _ rfl)) (mvT hZ (H 21 _ rfl)) (mvT hZ (H 54 _ rfl)) (by decide) (backOf (W := 0) (rm13i1 l Z a0 hw [] rrb_398 cc1 cs vf rrk_398 (nar .byte ((cc0 >>> ((0 : Int32) &&& 31)).toInt8.toInt32)) (nar .byte ((cc0 >>> ((8 : Int32) &&& 31)).toInt8.toInt32)) (0 : Int32) (0 : Int32) (0 : Int32) (0 : Int32) (0 : Int32) (0 : Int32) T406.heap n0 Zs406 O406 Scs hcs Ssf hvf Sas Shs Sls p406_0 g_rrb_398) hZ (H 54 _ rfl) (H 21 _ rfl) (by decide) (by decide)) (g := (mkF m 20 #[.val (.ref ac), .val (.int (1 : Int32)), .val (.int (4 : Int32)), .val (.ref rrb_398), .val (.int (1 : Int32))] [(.int cc1), (.int (1 : Int32)), (.ref rrb_398)])) rfl (by rw [hml]; rfl) (argsL := [(.ref rrb_398), (.int (1 : Int32)), (.int cc1)]) (rest := []) (lenOf own_pd157 rfl) rfl (Nat.le_of_eq rfl) (hb hby d10_20) (fun _ _ => ⟨rfl, rfl, (by decide : 1 + 0 ≤ _), (by decide : 8 + 0 ≤ _)⟩)
  dsimp only [Pt.U, Pt.locs, Pt.cells, Pt.slots] at X414 l414 y414 z414 st414 hQ414
  rw [l414, y414, z414] at X414
  obtain ⟨rfl, Nq414, K414, p414_0⟩ := hQ414
  have N414 := Fr.app N406 Nq414
  have Zs414 : n0 ≤ T414.heap.size := Nat.le_trans Zs406 K414.1
  have KK414 : Keep h0 T414.heap [] := KK406.trans K414 (allS (Or.inr sz_rrb_398) all0)
  have O414 := O406.keep K414 (allS g_rrb_398 all0)
  have f415 := Scs.ext O414.2
  have f416 := Ssf.ext O414.2
  have f417 := Sas.ext O414.2
  have f418 := Shs.ext O414.2
  have f419 := Sls.ext O414.2
  have f420 := f412.keep K414 (ninS ne_ac_rrb_398 nin0)
  obtain ⟨cl421, Ar421, -, S421, -, H421, -⟩ := id f420
  have hin421 : ¬ ((2 : Int32) < 0 ∨ cl421.slots.size ≤ ((2 : Int32)).toNatClampNeg) := inb_of S421 ⟨by decide, by decide⟩
  have hat421 : cl421.slots[((2 : Int32)).toNatClampNeg]? = some (.int cc2) := H421.at hin421 rfl
  obtain ⟨_, _, ⟨T422, L422, k422, n422⟩, -, X422, ⟨Lc422, hQ422, l422, y422, z422⟩, st422⟩ := Jvm.LawKit.callS X414 hx hown (mvT hZ (H 52 _ rfl)) (mvT hZ (H 53 _ rfl)) (mvT hZ (H 21 _ rfl)) (mvT hZ (H 54 _ rfl)) (by decide) (backOf (W := 0) (rm13i2 l Z a0 hw [] rrb_398 cc2 cs vf rrk_398 (nar .byte ((cc0 >>> ((0 : Int32) &&& 31)).toInt8.toInt32)) (nar .byte ((cc0 >>> ((8 : Int32) &&& 31)).toInt8.toInt32)) (nar .byte ((cc1 >>> ((0 : Int32) &&& 31)).toInt8.toInt32)) (nar .byte ((cc1 >>> ((8 : Int32) &&& 31)).toInt8.toInt32)) (0 : Int32) (0 : Int32) (0 : Int32) (0 : Int32) T414.heap n0 Zs414 O414 Scs hcs Ssf hvf Sas Shs Sls p414_0 g_rrb_398) hZ (H 54 _ rfl) (H 21 _ rfl) (by decide) (by decide)) (g := (mkF m 20 #[.val (.ref ac), .val (.int (2 : Int32)), .val (.int (4 : Int32)), .val (.ref rrb_398), .val (.int (2 : Int32))] [(.int cc2), (.int (2 : Int32)), (.ref rrb_398)])) rfl (by rw [hml]; rfl) (argsL := [(.ref rrb_398), (.int (2 : Int32)), (.int cc2)]) (rest := []) (lenOf own_pd157 rfl) rfl (Nat.le_of_eq rfl) (hb hby d10_20) (fun _ _ => ⟨rfl, rfl, (by decide : 1 + 0 ≤ _), (by decide : 8 + 0 ≤ _)⟩)
  dsimp only [Pt.U, Pt.locs, Pt.cells, Pt.slots] at X422 l422 y422 z422 st422 hQ422
  rw [l422, y422, z422] at X422
  obtain ⟨rfl, Nq422, K422, p422_0⟩ := hQ422
  have N422 := Fr.app N414 Nq422
  have Zs422 : n0 ≤ T422.heap.size := Nat.le_trans Zs414 K422.1
  have KK422 : Keep h0 T422.heap [] := KK414.trans K422 (allS (Or.inr sz_rrb_398) all0)
  have O422 := O414.keep K422 (allS g_rrb_398 all0)
  have f423 := Scs.ext O422.2
  have f424 := Ssf.ext O422.2
  have f425 := Sas.ext O422.2
  have f426 := Shs.ext O422.2
  have f427 := Sls.ext O422.2
  have f428 := f420.keep K422 (ninS ne_ac_rrb_398 nin0)
  obtain ⟨cl429, Ar429, -, S429, -, H429, -⟩ := id f428
  have hin429 : ¬ ((3 : Int32) < 0 ∨ cl429.slots.size ≤ ((3 : Int32)).toNatClampNeg) := inb_of S429 ⟨by decide, by decide⟩
  have hat429 : cl429.slots[((3 : Int32)).toNatClampNeg]? = some (.int cc3) := H429.at hin429 rfl
  obtain ⟨_, _, ⟨T430, L430, k430, n430⟩, -, X430, ⟨Lc430, hQ430, l430, y430, z430⟩, st430⟩ := Jvm.LawKit.callS X422 hx hown (mvT hZ (H 52 _ rfl)) (mvT hZ (H 53 _ rfl)) (mvT hZ (H 21 _ rfl)) (mvT hZ (H 54 _ rfl)) (by decide) (backOf (W := 0) (rm13i3 l Z a0 hw [] rrb_398 cc3 cs vf rrk_398 (nar .byte ((cc0 >>> ((0 : Int32) &&& 31)).toInt8.toInt32)) (nar .byte ((cc0 >>> ((8 : Int32) &&& 31)).toInt8.toInt32)) (nar .byte ((cc1 >>> ((0 : Int32) &&& 31)).toInt8.toInt32)) (nar .byte ((cc1 >>> ((8 : Int32) &&& 31)).toInt8.toInt32)) (nar .byte ((cc2 >>> ((0 : Int32) &&& 31)).toInt8.toInt32)) (nar .byte ((cc2 >>> ((8 : Int32) &&& 31)).toInt8.toInt32)) (0 : Int32) (0 : Int32) T422.heap n0 Zs422 O422 Scs hcs Ssf hvf Sas Shs Sls p422_0 g_rrb_398) hZ (H 54 _ rfl) (H 21 _ rfl) (by decide) (by decide)) (g := (mkF m 20 #[.val (.ref ac), .val (.int (3 : Int32)), .val (.int (4 : Int32)), .val (.ref rrb_398), .val (.int (3 : Int32))] [(.int cc3), (.int (3 : Int32)), (.ref rrb_398)])) rfl (by rw [hml]; rfl) (argsL := [(.ref rrb_398), (.int (3 : Int32)), (.int cc3)]) (rest := []) (lenOf own_pd157 rfl) rfl (Nat.le_of_eq rfl) (hb hby d10_20) (fun _ _ => ⟨rfl, rfl, (by decide : 1 + 0 ≤ _), (by decide : 8 + 0 ≤ _)⟩)
  dsimp only [Pt.U, Pt.locs, Pt.cells, Pt.slots] at X430 l430 y430 z430 st430 hQ430
  rw [l430, y430, z430] at X430
  obtain ⟨rfl, Nq430, K430, p430_0⟩ := hQ430
  have N430 := Fr.app N422 Nq430
  have Zs430 : n0 ≤ T430.heap.size := Nat.le_trans Zs422 K430.1
  have KK430 : Keep h0 T430.heap [] := KK422.trans K430 (allS (Or.inr sz_rrb_398) all0)
  have O430 := O422.keep K430 (allS g_rrb_398 all0)
  have f431 := Scs.ext O430.2
  have f432 := Ssf.ext O430.2
  have f433 := Sas.ext O430.2
  have f434 := Shs.ext O430.2
  have f435 := Sls.ext O430.2
  have f436 := f428.keep K430 (ninS ne_ac_rrb_398 nin0)
  obtain ⟨fs, hr, hrun, hended, hW, hsame⟩ := X430.leave (v := some (.ref rrb_398)) (fun h => by rw [Bd.returns] at h; cases h)
  refine ⟨_, _, pre0 _ ?_, hrun, hended, _, _, rfl, ?_, ⟨_, rfl⟩, hW, hsame.mono (by decide) (by decide)⟩
  · show Sp p e below m s₁ 0 #[.val (.ref ac), .val (.int (0 : Int32)), .val (.int (4 : Int32)), .unset, .unset] [] _
    refine XS.iloadN X0.here hx rfl (hb hby d10_0) rfl ?_
    refine st398 _ ?_
    show Sp p e below m T398 4 #[.val (.ref ac), .val (.int (0 : Int32)), .val (.int (4 : Int32)), .unset, .unset] [(.ref rrb_398)] _
    refine XS.astoreN X398.here hx rfl (hb hby d10_4) rfl rfl (l' := #[.val (.ref ac), .val (.int (0 : Int32)), .val (.int (4 : Int32)), .val (.ref rrb_398), .unset]) rfl ?_
    refine XS.iconst X398.here hx rfl (hb hby d10_5) ?_
    refine XS.istore X398.here hx rfl (hb hby d10_6) rfl (l' := #[.val (.ref ac), .val (.int (0 : Int32)), .val (.int (4 : Int32)), .val (.ref rrb_398), .val (.int (0 : Int32))]) rfl ?_
    refine XS.iload X398.here hx rfl (hb hby d10_8) rfl ?_
    refine XS.iloadN X398.here hx rfl (hb hby d10_10) rfl ?_
    refine XS.icmpNo X398.here hx rfl (hb hby d10_11) rfl (tlt (by decide : ((0 : Int32) < (4 : Int32)))).2.1 ?_
    refine XS.aloadN X398.here hx rfl (hb hby d10_14) rfl rfl ?_
    refine XS.iload X398.here hx rfl (hb hby d10_15) rfl ?_
    show Sp p e below m T398 17 #[.val (.ref ac), .val (.int (0 : Int32)), .val (.int (4 : Int32)), .val (.ref rrb_398), .val (.int (0 : Int32))] [(.int (0 : Int32)), (.ref rrb_398)] _
    refine XS.aloadN X398.here hx rfl (hb hby d10_17) rfl rfl ?_
    refine XS.iloadN X398.here hx rfl (hb hby d10_18) rfl ?_
    refine X398.caload hx (j := (0 : Int32)) (v := (.int cc0)) Ar405.1 (State.isArrayOf_alike hZ.alike Ar405.2.1) Ar405.2.2 hin405 hat405 (g := (mkF m 19 #[.val (.ref ac), .val (.int (0 : Int32)), .val (.int (4 : Int32)), .val (.ref rrb_398), .val (.int (0 : Int32))] [(.int (0 : Int32)), (.ref ac), (.int (0 : Int32)), (.ref rrb_398)])) rfl rfl (hb hby d10_19) _ ?_
    show Sp p e below m T398 20 #[.val (.ref ac), .val (.int (0 : Int32)), .val (.int (4 : Int32)), .val (.ref rrb_398), .val (.int (0 : Int32))] [(.int cc0), (.int (0 : Int32)), (.ref rrb_398)] _
    refine st406 _ ?_
    show Sp p e below m T406 23 #[.val (.ref ac), .val (.int (0 : Int32)), .val (.int (4 : Int32)), .val (.ref rrb_398), .val (.int (0 : Int32))] [] _
    refine XS.iinc X406.here hx rfl (hb hby d10_23) rfl (l' := #[.val (.ref ac), .val (.int (1 : Int32)), .val (.int (4 : Int32)), .val (.ref rrb_398), .val (.int (0 : Int32))]) rfl ?_
    refine XS.iinc X406.here hx rfl (hb hby d10_26) rfl (l' := #[.val (.ref ac), .val (.int (1 : Int32)), .val (.int (4 : Int32)), .val (.ref rrb_398), .val (.int (1 : Int32))]) rfl ?_
    refine XS.goto X406.here hx rfl (pc0 := 29) (pc' := 8) rfl (hb hby d10_29) (by decide) (by decide) ?_
    refine XS.iload X406.here hx rfl (hb hby d10_8) rfl ?_
    refine XS.iloadN X406.here hx rfl (hb hby d10_10) rfl ?_
    refine XS.icmpNo X406.here hx rfl (hb hby d10_11) rfl (tlt (by decide : ((1 : Int32) < (4 : Int32)))).2.1 ?_
    refine XS.aloadN X406.here hx rfl (hb hby d10_14) rfl rfl ?_
    refine XS.iload X406.here hx rfl (hb hby d10_15) rfl ?_
    show Sp p e below m T406 17 #[.val (.ref ac), .val (.int (1 : Int32)), .val (.int (4 : Int32)), .val (.ref rrb_398), .val (.int (1 : Int32))] [(.int (1 : Int32)), (.ref rrb_398)] _
    refine XS.aloadN X406.here hx rfl (hb hby d10_17) rfl rfl ?_
    refine XS.iloadN X406.here hx rfl (hb hby d10_18) rfl ?_
    refine X406.caload hx (j := (1 : Int32)) (v := (.int cc1)) Ar413.1 (State.isArrayOf_alike hZ.alike Ar413.2.1) Ar413.2.2 hin413 hat413 (g := (mkF m 19 #[.val (.ref ac), .val (.int (1 : Int32)), .val (.int (4 : Int32)), .val (.ref rrb_398), .val (.int (1 : Int32))] [(.int (1 : Int32)), (.ref ac), (.int (1 : Int32)), (.ref rrb_398)])) rfl rfl (hb hby d10_19) _ ?_
    show Sp p e below m T406 20 #[.val (.ref ac), .val (.int (1 : Int32)), .val (.int (4 : Int32)), .val (.ref rrb_398), .val (.int (1 : Int32))] [(.int cc1), (.int (1 : Int32)), (.ref rrb_398)] _
    refine st414 _ ?_
    show Sp p e below m T414 23 #[.val (.ref ac), .val (.int (1 : Int32)), .val (.int (4 : Int32)), .val (.ref rrb_398), .val (.int (1 : Int32))] [] _
    refine XS.iinc X414.here hx rfl (hb hby d10_23) rfl (l' := #[.val (.ref ac), .val (.int (2 : Int32)), .val (.int (4 : Int32)), .val (.ref rrb_398), .val (.int (1 : Int32))]) rfl ?_
    refine XS.iinc X414.here hx rfl (hb hby d10_26) rfl (l' := #[.val (.ref ac), .val (.int (2 : Int32)), .val (.int (4 : Int32)), .val (.ref rrb_398), .val (.int (2 : Int32))]) rfl ?_
    refine XS.goto X414.here hx rfl (pc0 := 29) (pc' := 8) rfl (hb hby d10_29) (by decide) (by decide) ?_
    refine XS.iload X414.here hx rfl (hb hby d10_8) rfl ?_
    refine XS.iloadN X414.here hx rfl (hb hby d10_10) rfl ?_
    refine XS.icmpNo X414.here hx rfl (hb hby d10_11) rfl (tlt (by decide : ((2 : Int32) < (4 : Int32)))).2.1 ?_
    refine XS.aloadN X414.here hx rfl (hb hby d10_14) rfl rfl ?_
    refine XS.iload X414.here hx rfl (hb hby d10_15) rfl ?_
    show Sp p e below m T414 17 #[.val (.ref ac), .val (.int (2 : Int32)), .val (.int (4 : Int32)), .val (.ref rrb_398), .val (.int (2 : Int32))] [(.int (2 : Int32)), (.ref rrb_398)] _
    refine XS.aloadN X414.here hx rfl (hb hby d10_17) rfl rfl ?_
    refine XS.iloadN X414.here hx rfl (hb hby d10_18) rfl ?_
    refine X414.caload hx (j := (2 : Int32)) (v := (.int cc2)) Ar421.1 (State.isArrayOf_alike hZ.alike Ar421.2.1) Ar421.2.2 hin421 hat421 (g := (mkF m 19 #[.val (.ref ac), .val (.int (2 : Int32)), .val (.int (4 : Int32)), .val (.ref rrb_398), .val (.int (2 : Int32))] [(.int (2 : Int32)), (.ref ac), (.int (2 : Int32)), (.ref rrb_398)])) rfl rfl (hb hby d10_19) _ ?_
    show Sp p e below m T414 20 #[.val (.ref ac), .val (.int (2 : Int32)), .val (.int (4 : Int32)), .val (.ref rrb_398), .val (.int (2 : Int32))] [(.int cc2), (.int (2 : Int32)), (.ref rrb_398)] _
    refine st422 _ ?_
    show Sp p e below m T422 23 #[.val (.ref ac), .val (.int (2 : Int32)), .val (.int (4 : Int32)), .val (.ref rrb_398), .val (.int (2 : Int32))] [] _
    refine XS.iinc X422.here hx rfl (hb hby d10_23) rfl (l' := #[.val (.ref ac), .val (.int (3 : Int32)), .val (.int (4 : Int32)), .val (.ref rrb_398), .val (.int (2 : Int32))]) rfl ?_
    refine XS.iinc X422.here hx rfl (hb hby d10_26) rfl (l' := #[.val (.ref ac), .val (.int (3 : Int32)), .val (.int (4 : Int32)), .val (.ref rrb_398), .val (.int (3 : Int32))]) rfl ?_
    refine XS.goto X422.here hx rfl (pc0 := 29) (pc' := 8) rfl (hb hby d10_29) (by decide) (by decide) ?_
    refine XS.iload X422.here hx rfl (hb hby d10_8) rfl ?_
    refine XS.iloadN X422.here hx rfl (hb hby d10_10) rfl ?_
    refine XS.icmpNo X422.here hx rfl (hb hby d10_11) rfl (tlt (by decide : ((3 : Int32) < (4 : Int32)))).2.1 ?_
    refine XS.aloadN X422.here hx rfl (hb hby d10_14) rfl rfl ?_
    refine XS.iload X422.here hx rfl (hb hby d10_15) rfl ?_
    show Sp p e below m T422 17 #[.val (.ref ac), .val (.int (3 : Int32)), .val (.int (4 : Int32)), .val (.ref rrb_398), .val (.int (3 : Int32))] [(.int (3 : Int32)), (.ref rrb_398)] _
    refine XS.aloadN X422.here hx rfl (hb hby d10_17) rfl rfl ?_
    refine XS.iloadN X422.here hx rfl (hb hby d10_18) rfl ?_
    refine X422.caload hx (j := (3 : Int32)) (v := (.int cc3)) Ar429.1 (State.isArrayOf_alike hZ.alike Ar429.2.1) Ar429.2.2 hin429 hat429 (g := (mkF m 19 #[.val (.ref ac), .val (.int (3 : Int32)), .val (.int (4 : Int32)), .val (.ref rrb_398), .val (.int (3 : Int32))] [(.int (3 : Int32)), (.ref ac), (.int (3 : Int32)), (.ref rrb_398)])) rfl rfl (hb hby d10_19) _ ?_
    show Sp p e below m T422 20 #[.val (.ref ac), .val (.int (3 : Int32)), .val (.int (4 : Int32)), .val (.ref rrb_398), .val (.int (3 : Int32))] [(.int cc3), (.int (3 : Int32)), (.ref rrb_398)] _
    refine st430 _ ?_
    show Sp p e below m T430 23 #[.val (.ref ac), .val (.int (3 : Int32)), .val (.int (4 : Int32)), .val (.ref rrb_398), .val (.int (3 : Int32))] [] _
    refine XS.iinc X430.here hx rfl (hb hby d10_23) rfl (l' := #[.val (.ref ac), .val (.int (4 : Int32)), .val (.int (4 : Int32)), .val (.ref rrb_398), .val (.int (3 : Int32))]) rfl ?_
    refine XS.iinc X430.here hx rfl (hb hby d10_26) rfl (l' := #[.val (.ref ac), .val (.int (4 : Int32)), .val (.int (4 : Int32)), .val (.ref rrb_398), .val (.int (4 : Int32))]) rfl ?_
    refine XS.goto X430.here hx rfl (pc0 := 29) (pc' := 8) rfl (hb hby d10_29) (by decide) (by decide) ?_
    refine XS.iload X430.here hx rfl (hb hby d10_8) rfl ?_
    refine XS.iloadN X430.here hx rfl (hb hby d10_10) rfl ?_
    refine XS.icmpYes X430.here hx rfl (pc0 := 11) (pc' := 32) rfl (hb hby d10_11) rfl (flt (by decide : ¬ ((4 : Int32) < (4 : Int32)))).2.1 (by decide) (by decide) ?_
    refine XS.aloadN X430.here hx rfl (hb hby d10_32) rfl rfl ?_
    jvm_step X430.here [X430.here.top, hx, (hb hby d10_33), X430.method', Bd.returns, Value.isRef, FieldType.isReference]
    first | (intro acts; rw [hr _ acts rfl rfl rfl]) | rw [hr _ _ rfl rfl rfl]
    exact Steps.refl _
  · show Q10 Z ac cs vf kc cc0 cc1 cc2 cc3 h0 n0 _ T430.heap _
    exact ⟨rrb_398, rrk_398, rfl, N430, KK430, p430_0, g_rrb_398, sz_rrb_398⟩
theorem d5_20 : decode jdk_52_method_16_code 20 = .ok (.aload_n 0, 1) := by decide +kernel
theorem d5_21 : decode jdk_52_method_16_code 21 = .ok (.iload_n 1, 1) := by decide +kernel
theorem d5_22 : decode jdk_52_method_16_code 22 = .ok (.iload_n 2, 1) := by decide +kernel
theorem d5_23 : decode jdk_52_method_16_code 23 = .ok (.invokestatic 119, 3) := by decide +kernel
theorem d5_26 : decode jdk_52_method_16_code 26 = .ok (.astore 5, 2) := by decide +kernel
theorem d5_28 : decode jdk_52_method_16_code 28 = .ok (.aload 5, 2) := by decide +kernel
theorem d5_30 : decode jdk_52_method_16_code 30 = .ok (.iload 4, 2) := by decide +kernel
theorem d5_32 : decode jdk_52_method_16_code 32 = .ok (.invokestatic 71, 3) := by decide +kernel
theorem own_pd171 : parseMethodDescriptor "([BI)C" = some ⟨[(.array .byte), .int], some .char⟩ := by decide +kernel
theorem d5_35 : decode jdk_52_method_16_code 35 = .ok (.sipush 255, 3) := by decide +kernel
theorem d5_38 : decode jdk_52_method_16_code 38 = .ok (.if_icmp .gt 16, 3) := by decide +kernel
theorem d5_54 : decode jdk_52_method_16_code 54 = .ok (.aload 5, 2) := by decide +kernel
theorem d5_56 : decode jdk_52_method_16_code 56 = .ok (.areturn, 1) := by decide +kernel
theorem ef_5u (m : MethodId) (x0 : Addr) : entryFrame m #[(.ref x0), (.int (0 : Int32)), (.int (4 : Int32))] 6 = mkF m 0 #[.val (.ref x0), .val (.int (0 : Int32)), .val (.int (4 : Int32)), .unset, .unset, .unset] [] := by first | (simp [entryFrame, mkF, argsToLocals, Value.category]; done) | rfl
def Q5u (Z : State) (ac : Addr) (cs : Int32) (vf : Value) (kc : ClassId) (cc0 : Int32) (cc1 : Int32) (cc2 : Int32) (cc3 : Int32) (h0 : Heap) (n0 : Nat) (v : Option Value) (h : Heap) (L : List Loc) : Prop := ∃ (rb : Addr) (rk : ClassId), v = some (.ref rb) ∧ Fr n0 L ∧ Keep h0 h [] ∧ Arv Z h rb rk .byte (8 : Int32) [(.int (nar .byte ((cc0 >>> ((0 : Int32) &&& 31)).toInt8.toInt32))), (.int (nar .byte ((cc0 >>> ((8 : Int32) &&& 31)).toInt8.toInt32))), (.int (nar .byte ((cc1 >>> ((0 : Int32) &&& 31)).toInt8.toInt32))), (.int (nar .byte ((cc1 >>> ((8 : Int32) &&& 31)).toInt8.toInt32))), (.int (nar .byte ((cc2 >>> ((0 : Int32) &&& 31)).toInt8.toInt32))), (.int (nar .byte ((cc2 >>> ((8 : Int32) &&& 31)).toInt8.toInt32))), (.int (nar .byte ((cc3 >>> ((0 : Int32) &&& 31)).toInt8.toInt32))), (.int (nar .byte ((cc3 >>> ((8 : Int32) &&& 31)).toInt8.toInt32)))] (.int (0 : Int32)) ∧ n0 ≤ rb ∧ h0.size ≤ rb
theorem rm5u (l : Launch) (Z : State) (a0 : Array Value) (hw : ∀ d ∈ tables_1, d.before a0 Z = true) (ws : List Jvm.Cond) (ac : Addr) (cs : Int32) (vf : Value) (kc : ClassId) (cc0 : Int32) (cc1 : Int32) (cc2 : Int32) (cc3 : Int32) (h0 : Heap) (n0 : Nat) (Z0 : n0 ≤ h0.size) (O0 : Old Z n0 h0) (Scs : Sta Z Z.heap "java/lang/String" "COMPACT_STRINGS" "Z" (.int cs)) (hcs : ¬ cs = (0 : Int32)) (Ssf : Sta Z Z.heap "jdk/internal/util/Preconditions" "SIOOBE_FORMATTER" "Ljava/util/function/BiFunction;" vf) (hvf : vf.isRef = true) (Sas : Sta Z Z.heap "java/lang/StringUTF16" "$assertionsDisabled" "Z" (.int (1 : Int32))) (Shs : Sta Z Z.heap "java/lang/StringUTF16" "HI_BYTE_SHIFT" "I" (.int (0 : Int32))) (Sls : Sta Z Z.heap "java/lang/StringUTF16" "LO_BYTE_SHIFT" "I" (.int (8 : Int32))) (Vc : Arv Z h0 ac kc .char (4 : Int32) [(.int cc0), (.int cc1), (.int cc2), (.int cc3)] (.int (0 : Int32))) (hr0 : 0 ≤ cc0.toInt ∧ cc0.toInt ≤ 65535) (hr1 : 0 ≤ cc1.toInt ∧ cc1.toInt ≤ 65535) (hr2 : 0 ≤ cc2.toInt ∧ cc2.toInt ≤ 65535) (hr3 : 0 ≤ cc3.toInt ∧ cc3.toInt ≤ 65535) (hnl : ¬ ((0 ≤ cc0.toInt ∧ cc0.toInt ≤ 255) ∧ (0 ≤ cc1.toInt ∧ cc1.toInt ≤ 255) ∧ (0 ≤ cc2.toInt ∧ cc2.toInt ≤ 255) ∧ (0 ≤ cc3.toInt ∧ cc3.toInt ≤ 255))) :
    MetFree l (⟨"java/lang/StringUTF16", "compress", "([CII)[B"⟩ : MethodName) (head1 (Jvm.Cond.code (⟨"java/lang/StringUTF16", "compress", "([CII)[B"⟩ : MethodName) jdk_52_method_16_code 6 (some (.array .byte)) :: ws) ({ frames := 3, cells := 2, slots := 12, locals := 40 } : Room)) (fun a U => a = #[(.ref ac), (.int (0 : Int32)), (.int (4 : Int32))] ∧ Z.Warmed39 U.vm ∧ U.heap = h0) (fun _ _ _ _ _ => True) (fun _ U o U' => ∃ v L, o = .returned v ∧ Q5u Z ac cs vf kc cc0 cc1 cc2 cc3 h0 n0 v U'.heap L ∧ FrameEnd U o U' L ({ frames := 3, cells := 2, slots := 12, locals := 40 } : Room).cells ({ frames := 3, cells := 2, slots := 12, locals := 40 } : Room).slots) := by
  refine MetFree.of_bodySF (plainFor_of_name own_pn23) hisR ?_
  intro p e s m args below meth c s₁ Bd hml0 hP hK
  have H := fun i c (h : tables_1[i]? = some c) => hw c (List.mem_of_getElem? h)
  obtain ⟨rfl, hZ, hh⟩ := hP
  have hx := Bd.exec
  have hby := Bd.bytes
  have hml : c.maxLocals = 6 := hml0
  have hown : s.vm.findClass "java/lang/StringUTF16" = some m.cls := findClass_of_methodNamed Bd.named
  have hnm := (name_of_methodNamed Bd.named Bd.method).1
  have X0 : Stand p l e ({ frames := 3, cells := 2, slots := 12, locals := 40 } : Room) s m #[(.ref ac), (.int (0 : Int32)), (.int (4 : Int32))] below meth c s₁ [] 0 0 := Stand.of_body Bd
  have e0 : s₁.heap = h0 := by rw [← hh, Bd.state]; rfl
  have N0 := Fr.nil n0
  have pre0 : ∀ t, Sp p e below m s₁ 0 #[.val (.ref ac), .val (.int (0 : Int32)), .val (.int (4 : Int32)), .unset, .unset, .unset] [] t → Steps p.tables e below (s₁.setTop (entryFrame m #[(.ref ac), (.int (0 : Int32)), (.int (4 : Int32))] 6)) t := fun t k => castTop (ef_5u m ac) k
  generalize s₁.setTop (entryFrame m #[(.ref ac), (.int (0 : Int32)), (.int (4 : Int32))] 6) = G0 at pre0 ⊢
  obtain ⟨T484, h484, k484, X484, e484, E484, A484, st484⟩ := newP X0 hx hZ (H 23 _ rfl) e0 (g := (mkF m 1 #[.val (.ref ac), .val (.int (0 : Int32)), .val (.int (4 : Int32)), .unset, .unset, .unset] [(.int (4 : Int32))])) rfl (hb hby d5_1) rfl (by decide) (cap := 4) (by decide) (by decide) (by decide) (by decide)
  obtain ⟨b484, g484⟩ : ∃ z, z = h0.size := ⟨_, rfl⟩
  rw [← g484] at A484 st484
  have g_b484 : n0 ≤ b484 := Nat.le_trans Z0 (Nat.le_of_eq g484.symm)
  have sz_b484 : h0.size ≤ b484 := Nat.le_of_eq g484.symm
  have lt_ac_b484 : ac < b484 := Nat.lt_of_lt_of_le Vc.lt (Nat.le_of_eq g484.symm)
  have ne_ac_b484 : ac ≠ b484 := Nat.ne_of_lt lt_ac_b484
  have Zs484 : n0 ≤ h484.size := Nat.le_trans Z0 E484.1
  have KK484 : Keep h0 h484 [] := (Keep.refl h0 _).ext E484
  have O484 := O0.ext E484
  have f485 := (Scs.ext O0.2).ext E484
  have f486 := (Ssf.ext O0.2).ext E484
  have f487 := (Sas.ext O0.2).ext E484
  have f488 := (Shs.ext O0.2).ext E484
  have f489 := (Sls.ext O0.2).ext E484
  have f490 := Vc.ext E484
  have V484 : Arv Z h484 b484 k484 .byte (4 : Int32) [(.int (0 : Int32)), (.int (0 : Int32)), (.int (0 : Int32)), (.int (0 : Int32))] (.int (0 : Int32)) := (Arv.new A484 (by decide)).pad (pad_rep [] (.int (0 : Int32)) 4)
  obtain ⟨_, _, ⟨T491, L491, k491, n491⟩, -, X491, ⟨Lc491, hQ491, l491, y491, z491⟩, st491⟩ := Jvm.LawKit.callS X484 hx hown (mvT hZ (H 24 _ rfl)) (mvT hZ (H 25 _ rfl)) (mvT hZ (H 21 _ rfl)) (mvT hZ (H 26 _ rfl)) (by decide) (backOf (W := 0) (rm6u l Z a0 hw [] ac b484 kc cc0 cc1 cc2 cc3 k484 h484 n0 Zs484 f490 V484 g_b484 ne_ac_b484 hr0 hr1 hr2 hr3 hnl) hZ (H 26 _ rfl) (H 21 _ rfl) (by decide) (by decide)) (g := (mkF m 9 #[.val (.ref ac), .val (.int (0 : Int32)), .val (.int (4 : Int32)), .val (.ref b484), .unset, .unset] [(.int (4 : Int32)), (.int (0 : Int32)), (.ref b484), (.int (0 : Int32)), (.ref ac)])) rfl (by rw [hml]; rfl) (argsL := [(.ref ac), (.int (0 : Int32)), (.ref b484), (.int (0 : Int32)), (.int (4 : Int32))]) (rest := []) (lenOf own_pd33 rfl) rfl (Nat.le_of_eq rfl) (hb hby d5_9) (fun _ _ => ⟨rfl, e484, (by decide : 1 + 0 ≤ _), (by decide : 4 + 0 ≤ _)⟩)
  dsimp only [Pt.U, Pt.locs, Pt.cells, Pt.slots] at X491 l491 y491 z491 st491 hQ491
  rw [l491, y491, z491] at X491
  obtain ⟨rrv_491, rfl, Nq491, K491, p491_0⟩ := hQ491
  have N491 := Fr.app N0 Nq491
  have Zs491 : n0 ≤ T491.heap.size := Nat.le_trans Zs484 K491.1
  have KK491 : Keep h0 T491.heap [] := KK484.trans K491 (allS (Or.inr sz_b484) all0)
  have O491 := O484.keep K491 (allS g_b484 all0)
  have f492 := Scs.ext O491.2
  have f493 := Ssf.ext O491.2
  have f494 := Sas.ext O491.2
  have f495 := Shs.ext O491.2
  have f496 := Sls.ext O491.2
  have f497 := f490.keep K491 (ninS ne_ac_b484 nin0)
  have pre498 : ∀ t, Sp p e below m T491 12 #[.val (.ref ac), .val (.int (0 : Int32)), .val (.int (4 : Int32)), .val (.ref b484), .unset, .unset] [(.int rrv_491)] t → SG p e below G0 t := by
    intro t k
    refine pre0 t ?_
    show Sp p e below m s₁ 0 #[.val (.ref ac), .val (.int (0 : Int32)), .val (.int (4 : Int32)), .unset, .unset, .unset] [] _
    refine XS.iloadN X0.here hx rfl (hb hby d5_0) rfl ?_
    refine st484 _ ?_
    show Sp p e below m T484 3 #[.val (.ref ac), .val (.int (0 : Int32)), .val (.int (4 : Int32)), .unset, .unset, .unset] [(.ref b484)] _
    refine XS.astoreN X484.here hx rfl (hb hby d5_3) rfl rfl (l' := #[.val (.ref ac), .val (.int (0 : Int32)), .val (.int (4 : Int32)), .val (.ref b484), .unset, .unset]) rfl ?_
    refine XS.aloadN X484.here hx rfl (hb hby d5_4) rfl rfl ?_
    refine XS.iloadN X484.here hx rfl (hb hby d5_5) rfl ?_
    refine XS.aloadN X484.here hx rfl (hb hby d5_6) rfl rfl ?_
    refine XS.iconst X484.here hx rfl (hb hby d5_7) ?_
    refine XS.iloadN X484.here hx rfl (hb hby d5_8) rfl ?_
    refine st491 _ ?_
    exact k
  rcases p491_0 with ⟨hq0, hc0⟩ | ⟨hq1, hc1⟩ | ⟨hq2, hc2⟩ | ⟨hq3, hc3⟩
  · rw [hq0] at pre498
    obtain ⟨_, _, ⟨T499, L499, k499, n499⟩, -, X499, ⟨Lc499, hQ499, l499, y499, z499⟩, st499⟩ := Jvm.LawKit.callS X491 hx hown (mvT hZ (H 42 _ rfl)) (mvT hZ (H 43 _ rfl)) (mvT hZ (H 21 _ rfl)) (mvT hZ (H 44 _ rfl)) (by decide) (backOf (W := 0) (rm10 l Z a0 hw [] ac cs vf kc cc0 cc1 cc2 cc3 T491.heap n0 Zs491 O491 Scs hcs Ssf hvf Sas Shs Sls f497) hZ (H 44 _ rfl) (H 21 _ rfl) (by decide) (by decide)) (g := (mkF m 23 #[.val (.ref ac), .val (.int (0 : Int32)), .val (.int (4 : Int32)), .val (.ref b484), .val (.int (0 : Int32)), .unset] [(.int (4 : Int32)), (.int (0 : Int32)), (.ref ac)])) rfl (by rw [hml]; rfl) (argsL := [(.ref ac), (.int (0 : Int32)), (.int (4 : Int32))]) (rest := []) (lenOf own_pd58 rfl) rfl (Nat.le_of_eq rfl) (hb hby d5_23) (fun _ _ => ⟨rfl, rfl, (by decide : 1 + 1 ≤ _), (by decide : 4 + 8 ≤ _)⟩)
    dsimp only [Pt.U, Pt.locs, Pt.cells, Pt.slots] at X499 l499 y499 z499 st499 hQ499
    rw [l499, y499, z499] at X499
    obtain ⟨rrb_499, rrk_499, rfl, Nq499, K499, p499_0, p499_1, p499_2⟩ := hQ499
    have N499 := Fr.app N491 Nq499
    have Zs499 : n0 ≤ T499.heap.size := Nat.le_trans Zs491 K499.1
    have KK499 : Keep h0 T499.heap [] := KK491.trans K499 all0
    have ne_ac_rrb_499 : ac ≠ rrb_499 := Nat.ne_of_lt (Nat.lt_of_lt_of_le f497.lt p499_2)
    have sz_rrb_499 : h0.size ≤ rrb_499 := Nat.le_trans KK491.1 p499_2
    have O499 := O491.keep K499 (all0)
    have f500 := Scs.ext O499.2
    have f501 := Ssf.ext O499.2
    have f502 := Sas.ext O499.2
    have f503 := Shs.ext O499.2
    have f504 := Sls.ext O499.2
    have f505 := f497.keep K499 nin0
    have g_rrb_499 := p499_1
    obtain ⟨_, _, ⟨T506, L506, k506, n506⟩, -, X506, ⟨Lc506, hQ506, l506, y506, z506⟩, st506⟩ := Jvm.LawKit.callS X499 hx hown (mvT hZ (H 58 _ rfl)) (mvT hZ (H 59 _ rfl)) (mvT hZ (H 21 _ rfl)) (mvT hZ (H 60 _ rfl)) (by decide) (backOf (W := 0) (rm14i0 l Z a0 hw [] rrb_499 cs vf rrk_499 cc0 cc1 cc2 cc3 T499.heap n0 Zs499 O499 Scs hcs Ssf hvf Sas Shs Sls p499_0 hr0 hr1 hr2 hr3) hZ (H 60 _ rfl) (H 21 _ rfl) (by decide) (by decide)) (g := (mkF m 32 #[.val (.ref ac), .val (.int (0 : Int32)), .val (.int (4 : Int32)), .val (.ref b484), .val (.int (0 : Int32)), .val (.ref rrb_499)] [(.int (0 : Int32)), (.ref rrb_499)])) rfl (by rw [hml]; rfl) (argsL := [(.ref rrb_499), (.int (0 : Int32))]) (rest := []) (lenOf own_pd171 rfl) rfl (Nat.le_of_eq rfl) (hb hby d5_32) (fun _ _ => ⟨rfl, rfl, (by decide : 2 + 0 ≤ _), (by decide : 12 + 0 ≤ _)⟩)
    dsimp only [Pt.U, Pt.locs, Pt.cells, Pt.slots] at X506 l506 y506 z506 st506 hQ506
    rw [l506, y506, z506] at X506
    obtain ⟨rfl, Nq506, e506⟩ := hQ506
    have N506 := Fr.app N499 Nq506
    obtain ⟨fs, hr, hrun, hended, hW, hsame⟩ := X506.leave (v := some (.ref rrb_499)) (fun h => by rw [Bd.returns] at h; cases h)
    refine ⟨_, _, pre498 _ ?_, hrun, hended, _, _, rfl, ?_, ⟨_, rfl⟩, hW, hsame.mono (by decide) (by decide)⟩
    · show Sp p e below m T491 12 #[.val (.ref ac), .val (.int (0 : Int32)), .val (.int (4 : Int32)), .val (.ref b484), .unset, .unset] [(.int (0 : Int32))] _
      refine XS.istore X491.here hx rfl (hb hby d5_12) rfl (l' := #[.val (.ref ac), .val (.int (0 : Int32)), .val (.int (4 : Int32)), .val (.ref b484), .val (.int (0 : Int32)), .unset]) rfl ?_
      refine XS.iload X491.here hx rfl (hb hby d5_14) rfl ?_
      refine XS.iloadN X491.here hx rfl (hb hby d5_16) rfl ?_
      refine XS.icmpNo X491.here hx rfl (hb hby d5_17) rfl (feq (by decide : ¬ ((0 : Int32) = (4 : Int32)))).1 ?_
      refine XS.aloadN X491.here hx rfl (hb hby d5_20) rfl rfl ?_
      refine XS.iloadN X491.here hx rfl (hb hby d5_21) rfl ?_
      refine XS.iloadN X491.here hx rfl (hb hby d5_22) rfl ?_
      refine st499 _ ?_
      show Sp p e below m T499 26 #[.val (.ref ac), .val (.int (0 : Int32)), .val (.int (4 : Int32)), .val (.ref b484), .val (.int (0 : Int32)), .unset] [(.ref rrb_499)] _
      refine XS.astore X499.here hx rfl (hb hby d5_26) rfl rfl (l' := #[.val (.ref ac), .val (.int (0 : Int32)), .val (.int (4 : Int32)), .val (.ref b484), .val (.int (0 : Int32)), .val (.ref rrb_499)]) rfl ?_
      refine XS.aload X499.here hx rfl (hb hby d5_28) rfl rfl ?_
      refine XS.iload X499.here hx rfl (hb hby d5_30) rfl ?_
      refine st506 _ ?_
      show Sp p e below m T506 35 #[.val (.ref ac), .val (.int (0 : Int32)), .val (.int (4 : Int32)), .val (.ref b484), .val (.int (0 : Int32)), .val (.ref rrb_499)] [(.int cc0)] _
      refine XS.sipush X506.here hx rfl (hb hby d5_35) ?_
      refine XS.icmpYes X506.here hx rfl (pc0 := 38) (pc' := 54) rfl (hb hby d5_38) rfl (tlt (hc0 : ((255 : Int32) < cc0))).2.2.1 (by decide) (by decide) ?_
      refine XS.aload X506.here hx rfl (hb hby d5_54) rfl rfl ?_
      jvm_step X506.here [X506.here.top, hx, (hb hby d5_56), X506.method', Bd.returns, Value.isRef, FieldType.isReference]
      first | (intro acts; rw [hr _ acts rfl rfl rfl]) | rw [hr _ _ rfl rfl rfl]
      exact Steps.refl _
    · show Q5u Z ac cs vf kc cc0 cc1 cc2 cc3 h0 n0 _ T506.heap _
      rw [e506]
      exact ⟨rrb_499, rrk_499, rfl, N506, KK499, p499_0, g_rrb_499, sz_rrb_499⟩
  · rw [hq1] at pre498
    obtain ⟨_, _, ⟨T507, L507, k507, n507⟩, -, X507, ⟨Lc507, hQ507, l507, y507, z507⟩, st507⟩ := Jvm.LawKit.callS X491 hx hown (mvT hZ (H 42 _ rfl)) (mvT hZ (H 43 _ rfl)) (mvT hZ (H 21 _ rfl)) (mvT hZ (H 44 _ rfl)) (by decide) (backOf (W := 0) (rm10 l Z a0 hw [] ac cs vf kc cc0 cc1 cc2 cc3 T491.heap n0 Zs491 O491 Scs hcs Ssf hvf Sas Shs Sls f497) hZ (H 44 _ rfl) (H 21 _ rfl) (by decide) (by decide)) (g := (mkF m 23 #[.val (.ref ac), .val (.int (0 : Int32)), .val (.int (4 : Int32)), .val (.ref b484), .val (.int (1 : Int32)), .unset] [(.int (4 : Int32)), (.int (0 : Int32)), (.ref ac)])) rfl (by rw [hml]; rfl) (argsL := [(.ref ac), (.int (0 : Int32)), (.int (4 : Int32))]) (rest := []) (lenOf own_pd58 rfl) rfl (Nat.le_of_eq rfl) (hb hby d5_23) (fun _ _ => ⟨rfl, rfl, (by decide : 1 + 1 ≤ _), (by decide : 4 + 8 ≤ _)⟩)
    dsimp only [Pt.U, Pt.locs, Pt.cells, Pt.slots] at X507 l507 y507 z507 st507 hQ507
    rw [l507, y507, z507] at X507
    obtain ⟨rrb_507, rrk_507, rfl, Nq507, K507, p507_0, p507_1, p507_2⟩ := hQ507
    have N507 := Fr.app N491 Nq507
    have Zs507 : n0 ≤ T507.heap.size := Nat.le_trans Zs491 K507.1
    have KK507 : Keep h0 T507.heap [] := KK491.trans K507 all0
    have ne_ac_rrb_507 : ac ≠ rrb_507 := Nat.ne_of_lt (Nat.lt_of_lt_of_le f497.lt p507_2)
    have sz_rrb_507 : h0.size ≤ rrb_507 := Nat.le_trans KK491.1 p507_2
    have O507 := O491.keep K507 (all0)
    have f508 := Scs.ext O507.2
    have f509 := Ssf.ext O507.2
    have f510 := Sas.ext O507.2
    have f511 := Shs.ext O507.2
    have f512 := Sls.ext O507.2
    have f513 := f497.keep K507 nin0
    have g_rrb_507 := p507_1
    obtain ⟨_, _, ⟨T514, L514, k514, n514⟩, -, X514, ⟨Lc514, hQ514, l514, y514, z514⟩, st514⟩ := Jvm.LawKit.callS X507 hx hown (mvT hZ (H 58 _ rfl)) (mvT hZ (H 59 _ rfl)) (mvT hZ (H 21 _ rfl)) (mvT hZ (H 60 _ rfl)) (by decide) (backOf (W := 0) (rm14i1 l Z a0 hw [] rrb_507 cs vf rrk_507 cc0 cc1 cc2 cc3 T507.heap n0 Zs507 O507 Scs hcs Ssf hvf Sas Shs Sls p507_0 hr0 hr1 hr2 hr3) hZ (H 60 _ rfl) (H 21 _ rfl) (by decide) (by decide)) (g := (mkF m 32 #[.val (.ref ac), .val (.int (0 : Int32)), .val (.int (4 : Int32)), .val (.ref b484), .val (.int (1 : Int32)), .val (.ref rrb_507)] [(.int (1 : Int32)), (.ref rrb_507)])) rfl (by rw [hml]; rfl) (argsL := [(.ref rrb_507), (.int (1 : Int32))]) (rest := []) (lenOf own_pd171 rfl) rfl (Nat.le_of_eq rfl) (hb hby d5_32) (fun _ _ => ⟨rfl, rfl, (by decide : 2 + 0 ≤ _), (by decide : 12 + 0 ≤ _)⟩)
    dsimp only [Pt.U, Pt.locs, Pt.cells, Pt.slots] at X514 l514 y514 z514 st514 hQ514
    rw [l514, y514, z514] at X514
    obtain ⟨rfl, Nq514, e514⟩ := hQ514
    have N514 := Fr.app N507 Nq514
    obtain ⟨fs, hr, hrun, hended, hW, hsame⟩ := X514.leave (v := some (.ref rrb_507)) (fun h => by rw [Bd.returns] at h; cases h)
    refine ⟨_, _, pre498 _ ?_, hrun, hended, _, _, rfl, ?_, ⟨_, rfl⟩, hW, hsame.mono (by decide) (by decide)⟩
    · show Sp p e below m T491 12 #[.val (.ref ac), .val (.int (0 : Int32)), .val (.int (4 : Int32)), .val (.ref b484), .unset, .unset] [(.int (1 : Int32))] _
      refine XS.istore X491.here hx rfl (hb hby d5_12) rfl (l' := #[.val (.ref ac), .val (.int (0 : Int32)), .val (.int (4 : Int32)), .val (.ref b484), .val (.int (1 : Int32)), .unset]) rfl ?_
      refine XS.iload X491.here hx rfl (hb hby d5_14) rfl ?_
      refine XS.iloadN X491.here hx rfl (hb hby d5_16) rfl ?_
      refine XS.icmpNo X491.here hx rfl (hb hby d5_17) rfl (feq (by decide : ¬ ((1 : Int32) = (4 : Int32)))).1 ?_
      refine XS.aloadN X491.here hx rfl (hb hby d5_20) rfl rfl ?_
      refine XS.iloadN X491.here hx rfl (hb hby d5_21) rfl ?_
      refine XS.iloadN X491.here hx rfl (hb hby d5_22) rfl ?_
      refine st507 _ ?_
      show Sp p e below m T507 26 #[.val (.ref ac), .val (.int (0 : Int32)), .val (.int (4 : Int32)), .val (.ref b484), .val (.int (1 : Int32)), .unset] [(.ref rrb_507)] _
      refine XS.astore X507.here hx rfl (hb hby d5_26) rfl rfl (l' := #[.val (.ref ac), .val (.int (0 : Int32)), .val (.int (4 : Int32)), .val (.ref b484), .val (.int (1 : Int32)), .val (.ref rrb_507)]) rfl ?_
      refine XS.aload X507.here hx rfl (hb hby d5_28) rfl rfl ?_
      refine XS.iload X507.here hx rfl (hb hby d5_30) rfl ?_
      refine st514 _ ?_
      show Sp p e below m T514 35 #[.val (.ref ac), .val (.int (0 : Int32)), .val (.int (4 : Int32)), .val (.ref b484), .val (.int (1 : Int32)), .val (.ref rrb_507)] [(.int cc1)] _
      refine XS.sipush X514.here hx rfl (hb hby d5_35) ?_
      refine XS.icmpYes X514.here hx rfl (pc0 := 38) (pc' := 54) rfl (hb hby d5_38) rfl (tlt (hc1 : ((255 : Int32) < cc1))).2.2.1 (by decide) (by decide) ?_
      refine XS.aload X514.here hx rfl (hb hby d5_54) rfl rfl ?_
      jvm_step X514.here [X514.here.top, hx, (hb hby d5_56), X514.method', Bd.returns, Value.isRef, FieldType.isReference]
      first | (intro acts; rw [hr _ acts rfl rfl rfl]) | rw [hr _ _ rfl rfl rfl]
      exact Steps.refl _
    · show Q5u Z ac cs vf kc cc0 cc1 cc2 cc3 h0 n0 _ T514.heap _
      rw [e514]
      exact ⟨rrb_507, rrk_507, rfl, N514, KK507, p507_0, g_rrb_507, sz_rrb_507⟩
  · rw [hq2] at pre498
    obtain ⟨_, _, ⟨T515, L515, k515, n515⟩, -, X515, ⟨Lc515, hQ515, l515, y515, z515⟩, st515⟩ := Jvm.LawKit.callS X491 hx hown (mvT hZ (H 42 _ rfl)) (mvT hZ (H 43 _ rfl)) (mvT hZ (H 21 _ rfl)) (mvT hZ (H 44 _ rfl)) (by decide) (backOf (W := 0) (rm10 l Z a0 hw [] ac cs vf kc cc0 cc1 cc2 cc3 T491.heap n0 Zs491 O491 Scs hcs Ssf hvf Sas Shs Sls f497) hZ (H 44 _ rfl) (H 21 _ rfl) (by decide) (by decide)) (g := (mkF m 23 #[.val (.ref ac), .val (.int (0 : Int32)), .val (.int (4 : Int32)), .val (.ref b484), .val (.int (2 : Int32)), .unset] [(.int (4 : Int32)), (.int (0 : Int32)), (.ref ac)])) rfl (by rw [hml]; rfl) (argsL := [(.ref ac), (.int (0 : Int32)), (.int (4 : Int32))]) (rest := []) (lenOf own_pd58 rfl) rfl (Nat.le_of_eq rfl) (hb hby d5_23) (fun _ _ => ⟨rfl, rfl, (by decide : 1 + 1 ≤ _), (by decide : 4 + 8 ≤ _)⟩)
    dsimp only [Pt.U, Pt.locs, Pt.cells, Pt.slots] at X515 l515 y515 z515 st515 hQ515
    rw [l515, y515, z515] at X515
    obtain ⟨rrb_515, rrk_515, rfl, Nq515, K515, p515_0, p515_1, p515_2⟩ := hQ515
    have N515 := Fr.app N491 Nq515
    have Zs515 : n0 ≤ T515.heap.size := Nat.le_trans Zs491 K515.1
    have KK515 : Keep h0 T515.heap [] := KK491.trans K515 all0
    have ne_ac_rrb_515 : ac ≠ rrb_515 := Nat.ne_of_lt (Nat.lt_of_lt_of_le f497.lt p515_2)
    have sz_rrb_515 : h0.size ≤ rrb_515 := Nat.le_trans KK491.1 p515_2
    have O515 := O491.keep K515 (all0)
    have f516 := Scs.ext O515.2
    have f517 := Ssf.ext O515.2
    have f518 := Sas.ext O515.2
    have f519 := Shs.ext O515.2
    have f520 := Sls.ext O515.2
    have f521 := f497.keep K515 nin0
    have g_rrb_515 := p515_1
    obtain ⟨_, _, ⟨T522, L522, k522, n522⟩, -, X522, ⟨Lc522, hQ522, l522, y522, z522⟩, st522⟩ := Jvm.LawKit.callS X515 hx hown (mvT hZ (H 58 _ rfl)) (mvT hZ (H 59 _ rfl)) (mvT hZ (H 21 _ rfl)) (mvT hZ (H 60 _ rfl)) (by decide) (backOf (W := 0) (rm14i2 l Z a0 hw [] rrb_515 cs vf rrk_515 cc0 cc1 cc2 cc3 T515.heap n0 Zs515 O515 Scs hcs Ssf hvf Sas Shs Sls p515_0 hr0 hr1 hr2 hr3) hZ (H 60 _ rfl) (H 21 _ rfl) (by decide) (by decide)) (g := (mkF m 32 #[.val (.ref ac), .val (.int (0 : Int32)), .val (.int (4 : Int32)), .val (.ref b484), .val (.int (2 : Int32)), .val (.ref rrb_515)] [(.int (2 : Int32)), (.ref rrb_515)])) rfl (by rw [hml]; rfl) (argsL := [(.ref rrb_515), (.int (2 : Int32))]) (rest := []) (lenOf own_pd171 rfl) rfl (Nat.le_of_eq rfl) (hb hby d5_32) (fun _ _ => ⟨rfl, rfl, (by decide : 2 + 0 ≤ _), (by decide : 12 + 0 ≤ _)⟩)
    dsimp only [Pt.U, Pt.locs, Pt.cells, Pt.slots] at X522 l522 y522 z522 st522 hQ522
    rw [l522, y522, z522] at X522
    obtain ⟨rfl, Nq522, e522⟩ := hQ522
    have N522 := Fr.app N515 Nq522
    obtain ⟨fs, hr, hrun, hended, hW, hsame⟩ := X522.leave (v := some (.ref rrb_515)) (fun h => by rw [Bd.returns] at h; cases h)
    refine ⟨_, _, pre498 _ ?_, hrun, hended, _, _, rfl, ?_, ⟨_, rfl⟩, hW, hsame.mono (by decide) (by decide)⟩
    · show Sp p e below m T491 12 #[.val (.ref ac), .val (.int (0 : Int32)), .val (.int (4 : Int32)), .val (.ref b484), .unset, .unset] [(.int (2 : Int32))] _
      refine XS.istore X491.here hx rfl (hb hby d5_12) rfl (l' := #[.val (.ref ac), .val (.int (0 : Int32)), .val (.int (4 : Int32)), .val (.ref b484), .val (.int (2 : Int32)), .unset]) rfl ?_
      refine XS.iload X491.here hx rfl (hb hby d5_14) rfl ?_
      refine XS.iloadN X491.here hx rfl (hb hby d5_16) rfl ?_
      refine XS.icmpNo X491.here hx rfl (hb hby d5_17) rfl (feq (by decide : ¬ ((2 : Int32) = (4 : Int32)))).1 ?_
      refine XS.aloadN X491.here hx rfl (hb hby d5_20) rfl rfl ?_
      refine XS.iloadN X491.here hx rfl (hb hby d5_21) rfl ?_
      refine XS.iloadN X491.here hx rfl (hb hby d5_22) rfl ?_
      refine st515 _ ?_
      show Sp p e below m T515 26 #[.val (.ref ac), .val (.int (0 : Int32)), .val (.int (4 : Int32)), .val (.ref b484), .val (.int (2 : Int32)), .unset] [(.ref rrb_515)] _
      refine XS.astore X515.here hx rfl (hb hby d5_26) rfl rfl (l' := #[.val (.ref ac), .val (.int (0 : Int32)), .val (.int (4 : Int32)), .val (.ref b484), .val (.int (2 : Int32)), .val (.ref rrb_515)]) rfl ?_
      refine XS.aload X515.here hx rfl (hb hby d5_28) rfl rfl ?_
      refine XS.iload X515.here hx rfl (hb hby d5_30) rfl ?_
      refine st522 _ ?_
      show Sp p e below m T522 35 #[.val (.ref ac), .val (.int (0 : Int32)), .val (.int (4 : Int32)), .val (.ref b484), .val (.int (2 : Int32)), .val (.ref rrb_515)] [(.int cc2)] _
      refine XS.sipush X522.here hx rfl (hb hby d5_35) ?_
      refine XS.icmpYes X522.here hx rfl (pc0 := 38) (pc' := 54) rfl (hb hby d5_38) rfl (tlt (hc2 : ((255 : Int32) < cc2))).2.2.1 (by decide) (by decide) ?_
      refine XS.aload X522.here hx rfl (hb hby d5_54) rfl rfl ?_
      jvm_step X522.here [X522.here.top, hx, (hb hby d5_56), X522.method', Bd.returns, Value.isRef, FieldType.isReference]
      first | (intro acts; rw [hr _ acts rfl rfl rfl]) | rw [hr _ _ rfl rfl rfl]
      exact Steps.refl _
    · show Q5u Z ac cs vf kc cc0 cc1 cc2 cc3 h0 n0 _ T522.heap _
      rw [e522]
      exact ⟨rrb_515, rrk_515, rfl, N522, KK515, p515_0, g_rrb_515, sz_rrb_515⟩
  · rw [hq3] at pre498
    obtain ⟨_, _, ⟨T523, L523, k523, n523⟩, -, X523, ⟨Lc523, hQ523, l523, y523, z523⟩, st523⟩ := Jvm.LawKit.callS X491 hx hown (mvT hZ (H 42 _ rfl)) (mvT hZ (H 43 _ rfl)) (mvT hZ (H 21 _ rfl)) (mvT hZ (H 44 _ rfl)) (by decide) (backOf (W := 0) (rm10 l Z a0 hw [] ac cs vf kc cc0 cc1 cc2 cc3 T491.heap n0 Zs491 O491 Scs hcs Ssf hvf Sas Shs Sls f497) hZ (H 44 _ rfl) (H 21 _ rfl) (by decide) (by decide)) (g := (mkF m 23 #[.val (.ref ac), .val (.int (0 : Int32)), .val (.int (4 : Int32)), .val (.ref b484), .val (.int (3 : Int32)), .unset] [(.int (4 : Int32)), (.int (0 : Int32)), (.ref ac)])) rfl (by rw [hml]; rfl) (argsL := [(.ref ac), (.int (0 : Int32)), (.int (4 : Int32))]) (rest := []) (lenOf own_pd58 rfl) rfl (Nat.le_of_eq rfl) (hb hby d5_23) (fun _ _ => ⟨rfl, rfl, (by decide : 1 + 1 ≤ _), (by decide : 4 + 8 ≤ _)⟩)
    dsimp only [Pt.U, Pt.locs, Pt.cells, Pt.slots] at X523 l523 y523 z523 st523 hQ523
    rw [l523, y523, z523] at X523
    obtain ⟨rrb_523, rrk_523, rfl, Nq523, K523, p523_0, p523_1, p523_2⟩ := hQ523
    have N523 := Fr.app N491 Nq523
    have Zs523 : n0 ≤ T523.heap.size := Nat.le_trans Zs491 K523.1
    have KK523 : Keep h0 T523.heap [] := KK491.trans K523 all0
    have ne_ac_rrb_523 : ac ≠ rrb_523 := Nat.ne_of_lt (Nat.lt_of_lt_of_le f497.lt p523_2)
    have sz_rrb_523 : h0.size ≤ rrb_523 := Nat.le_trans KK491.1 p523_2
    have O523 := O491.keep K523 (all0)
    have f524 := Scs.ext O523.2
    have f525 := Ssf.ext O523.2
    have f526 := Sas.ext O523.2
    have f527 := Shs.ext O523.2
    have f528 := Sls.ext O523.2
    have f529 := f497.keep K523 nin0
    have g_rrb_523 := p523_1
    obtain ⟨_, _, ⟨T530, L530, k530, n530⟩, -, X530, ⟨Lc530, hQ530, l530, y530, z530⟩, st530⟩ := Jvm.LawKit.callS X523 hx hown (mvT hZ (H 58 _ rfl)) (mvT hZ (H 59 _ rfl)) (mvT hZ (H 21 _ rfl)) (mvT hZ (H 60 _ rfl)) (by decide) (backOf (W := 0) (rm14i3 l Z a0 hw [] rrb_523 cs vf rrk_523 cc0 cc1 cc2 cc3 T523.heap n0 Zs523 O523 Scs hcs Ssf hvf Sas Shs Sls p523_0 hr0 hr1 hr2 hr3) hZ (H 60 _ rfl) (H 21 _ rfl) (by decide) (by decide)) (g := (mkF m 32 #[.val (.ref ac), .val (.int (0 : Int32)), .val (.int (4 : Int32)), .val (.ref b484), .val (.int (3 : Int32)), .val (.ref rrb_523)] [(.int (3 : Int32)), (.ref rrb_523)])) rfl (by rw [hml]; rfl) (argsL := [(.ref rrb_523), (.int (3 : Int32))]) (rest := []) (lenOf own_pd171 rfl) rfl (Nat.le_of_eq rfl) (hb hby d5_32) (fun _ _ => ⟨rfl, rfl, (by decide : 2 + 0 ≤ _), (by decide : 12 + 0 ≤ _)⟩)
    dsimp only [Pt.U, Pt.locs, Pt.cells, Pt.slots] at X530 l530 y530 z530 st530 hQ530
    rw [l530, y530, z530] at X530
    obtain ⟨rfl, Nq530, e530⟩ := hQ530
    have N530 := Fr.app N523 Nq530
    obtain ⟨fs, hr, hrun, hended, hW, hsame⟩ := X530.leave (v := some (.ref rrb_523)) (fun h => by rw [Bd.returns] at h; cases h)
    refine ⟨_, _, pre498 _ ?_, hrun, hended, _, _, rfl, ?_, ⟨_, rfl⟩, hW, hsame.mono (by decide) (by decide)⟩
    · show Sp p e below m T491 12 #[.val (.ref ac), .val (.int (0 : Int32)), .val (.int (4 : Int32)), .val (.ref b484), .unset, .unset] [(.int (3 : Int32))] _
      refine XS.istore X491.here hx rfl (hb hby d5_12) rfl (l' := #[.val (.ref ac), .val (.int (0 : Int32)), .val (.int (4 : Int32)), .val (.ref b484), .val (.int (3 : Int32)), .unset]) rfl ?_
      refine XS.iload X491.here hx rfl (hb hby d5_14) rfl ?_
      refine XS.iloadN X491.here hx rfl (hb hby d5_16) rfl ?_
      refine XS.icmpNo X491.here hx rfl (hb hby d5_17) rfl (feq (by decide : ¬ ((3 : Int32) = (4 : Int32)))).1 ?_
      refine XS.aloadN X491.here hx rfl (hb hby d5_20) rfl rfl ?_
      refine XS.iloadN X491.here hx rfl (hb hby d5_21) rfl ?_
      refine XS.iloadN X491.here hx rfl (hb hby d5_22) rfl ?_
      refine st523 _ ?_
      show Sp p e below m T523 26 #[.val (.ref ac), .val (.int (0 : Int32)), .val (.int (4 : Int32)), .val (.ref b484), .val (.int (3 : Int32)), .unset] [(.ref rrb_523)] _
      refine XS.astore X523.here hx rfl (hb hby d5_26) rfl rfl (l' := #[.val (.ref ac), .val (.int (0 : Int32)), .val (.int (4 : Int32)), .val (.ref b484), .val (.int (3 : Int32)), .val (.ref rrb_523)]) rfl ?_
      refine XS.aload X523.here hx rfl (hb hby d5_28) rfl rfl ?_
      refine XS.iload X523.here hx rfl (hb hby d5_30) rfl ?_
      refine st530 _ ?_
      show Sp p e below m T530 35 #[.val (.ref ac), .val (.int (0 : Int32)), .val (.int (4 : Int32)), .val (.ref b484), .val (.int (3 : Int32)), .val (.ref rrb_523)] [(.int cc3)] _
      refine XS.sipush X530.here hx rfl (hb hby d5_35) ?_
      refine XS.icmpYes X530.here hx rfl (pc0 := 38) (pc' := 54) rfl (hb hby d5_38) rfl (tlt (hc3 : ((255 : Int32) < cc3))).2.2.1 (by decide) (by decide) ?_
      refine XS.aload X530.here hx rfl (hb hby d5_54) rfl rfl ?_
      jvm_step X530.here [X530.here.top, hx, (hb hby d5_56), X530.method', Bd.returns, Value.isRef, FieldType.isReference]
      first | (intro acts; rw [hr _ acts rfl rfl rfl]) | rw [hr _ _ rfl rfl rfl]
      exact Steps.refl _
    · show Q5u Z ac cs vf kc cc0 cc1 cc2 cc3 h0 n0 _ T530.heap _
      rw [e530]
      exact ⟨rrb_523, rrk_523, rfl, N530, KK523, p523_0, g_rrb_523, sz_rrb_523⟩
theorem ef_7u (m : MethodId) (x0 : Addr) : entryFrame m #[(.ref x0), (.int (4 : Int32))] 2 = mkF m 0 #[.val (.ref x0), .val (.int (4 : Int32))] [] := by first | (simp [entryFrame, mkF, argsToLocals, Value.category]; done) | rfl
def Q7u (Z : State) (ab : Addr) (kb : ClassId) (vs : List Value) (h0 : Heap) (n0 : Nat) (v : Option Value) (h : Heap) (L : List Loc) : Prop := v = some (.int (1 : Int32)) ∧ Fr n0 L ∧ h = h0
theorem rm7u (l : Launch) (Z : State) (a0 : Array Value) (hw : ∀ d ∈ tables_1, d.before a0 Z = true) (ws : List Jvm.Cond) (ab : Addr) (kb : ClassId) (vs : List Value) (h0 : Heap) (n0 : Nat) (Z0 : n0 ≤ h0.size) (Vb : Arv Z h0 ab kb .byte (8 : Int32) vs (.int (0 : Int32))) :
    MetFree l (⟨"java/lang/StringUTF16", "coderFromArrayLen", "([BI)B"⟩ : MethodName) (head1 (Jvm.Cond.code (⟨"java/lang/StringUTF16", "coderFromArrayLen", "([BI)B"⟩ : MethodName) jdk_52_method_15_code 2 (some .byte) :: ws) ({ frames := 0, cells := 0, slots := 0, locals := 0 } : Room)) (fun a U => a = #[(.ref ab), (.int (4 : Int32))] ∧ Z.Warmed39 U.vm ∧ U.heap = h0) (fun _ _ _ _ _ => True) (fun _ U o U' => ∃ v L, o = .returned v ∧ Q7u Z ab kb vs h0 n0 v U'.heap L ∧ FrameEnd U o U' L ({ frames := 0, cells := 0, slots := 0, locals := 0 } : Room).cells ({ frames := 0, cells := 0, slots := 0, locals := 0 } : Room).slots) := by
  refine MetFree.of_bodySF (plainFor_of_name own_pn23) hisR ?_
  intro p e s m args below meth c s₁ Bd hml0 hP hK
  have H := fun i c (h : tables_1[i]? = some c) => hw c (List.mem_of_getElem? h)
  obtain ⟨rfl, hZ, hh⟩ := hP
  have hx := Bd.exec
  have hby := Bd.bytes
  have hml : c.maxLocals = 2 := hml0
  have hown : s.vm.findClass "java/lang/StringUTF16" = some m.cls := findClass_of_methodNamed Bd.named
  have hnm := (name_of_methodNamed Bd.named Bd.method).1
  have X0 : Stand p l e ({ frames := 0, cells := 0, slots := 0, locals := 0 } : Room) s m #[(.ref ab), (.int (4 : Int32))] below meth c s₁ [] 0 0 := Stand.of_body Bd
  have e0 : s₁.heap = h0 := by rw [← hh, Bd.state]; rfl
  have N0 := Fr.nil n0
  have pre0 : ∀ t, Sp p e below m s₁ 0 #[.val (.ref ab), .val (.int (4 : Int32))] [] t → Steps p.tables e below (s₁.setTop (entryFrame m #[(.ref ab), (.int (4 : Int32))] 2)) t := fun t k => castTop (ef_7u m ab) k
  generalize s₁.setTop (entryFrame m #[(.ref ab), (.int (4 : Int32))] 2) = G0 at pre0 ⊢
  obtain ⟨cl532, Ar532, -, S532, M532, -, -⟩ := id Vb
  obtain ⟨fs, hr, hrun, hended, hW, hsame⟩ := X0.leave (v := some (.int (nar .byte (1 : Int32)))) (fun h => by rw [Bd.returns] at h; cases h)
  refine ⟨_, _, pre0 _ ?_, hrun, hended, _, _, rfl, ?_, ⟨_, rfl⟩, hW, hsame.mono (by decide) (by decide)⟩
  · show Sp p e below m s₁ 0 #[.val (.ref ab), .val (.int (4 : Int32))] [] _
    refine XS.iloadN X0.here hx rfl (hb hby d7_0) rfl ?_
    refine XS.aloadN X0.here hx rfl (hb hby d7_1) rfl rfl ?_
    refine X0.arraylength hx (by rw [e0]; exact Ar532.1) (State.isArrayOf_alike hZ.alike Ar532.2.1) (g := (mkF m 2 #[.val (.ref ab), .val (.int (4 : Int32))] [(.ref ab), (.int (4 : Int32))])) rfl rfl (hb hby d7_2) _ ?_
    rw [len_of S532 M532]
    show Sp p e below m s₁ 3 #[.val (.ref ab), .val (.int (4 : Int32))] [(.int (8 : Int32)), (.int (4 : Int32))] _
    refine XS.isub X0.here hx rfl (hb hby d7_3) rfl ?_
    refine XS.bipush X0.here hx rfl (hb hby d7_4) ?_
    refine XS.iushr X0.here hx rfl (hb hby d7_6) rfl ?_
    refine XS.i2b X0.here hx rfl (hb hby d7_7) rfl ?_
    exact retN X0 hx (t := .byte) Bd.returns (by simp) (hb hby d7_8) hr
  · show Q7u Z ab kb vs h0 n0 _ s₁.heap _
    rw [e0]
    exact ⟨rfl, N0, rfl⟩
theorem ef_3u (m : MethodId) (x0 : Addr) (x1 : Addr) : entryFrame m #[(.ref x0), (.ref x1), (.int (0 : Int32)), (.int (4 : Int32)), .null] 6 = mkF m 0 #[.val (.ref x0), .val (.ref x1), .val (.int (0 : Int32)), .val (.int (4 : Int32)), .val .null, .unset] [] := by first | (simp [entryFrame, mkF, argsToLocals, Value.category]; done) | rfl
def Q3u (Z : State) (aa : Addr) (ac : Addr) (cs : Int32) (vf : Value) (kc : ClassId) (cc0 : Int32) (cc1 : Int32) (cc2 : Int32) (cc3 : Int32) (h0 : Heap) (n0 : Nat) (v : Option Value) (h : Heap) (L : List Loc) : Prop := ∃ (rb : Addr) (rk : ClassId), v = none ∧ Fr n0 L ∧ Keep h0 h [aa] ∧ Exa Z h aa "java/lang/String" ∧ Fld Z h aa "java/lang/String" "value" "[B" (.ref rb) ∧ Fld Z h aa "java/lang/String" "coder" "B" (.int (1 : Int32)) ∧ Arv Z h rb rk .byte (8 : Int32) [(.int (nar .byte ((cc0 >>> ((0 : Int32) &&& 31)).toInt8.toInt32))), (.int (nar .byte ((cc0 >>> ((8 : Int32) &&& 31)).toInt8.toInt32))), (.int (nar .byte ((cc1 >>> ((0 : Int32) &&& 31)).toInt8.toInt32))), (.int (nar .byte ((cc1 >>> ((8 : Int32) &&& 31)).toInt8.toInt32))), (.int (nar .byte ((cc2 >>> ((0 : Int32) &&& 31)).toInt8.toInt32))), (.int (nar .byte ((cc2 >>> ((8 : Int32) &&& 31)).toInt8.toInt32))), (.int (nar .byte ((cc3 >>> ((0 : Int32) &&& 31)).toInt8.toInt32))), (.int (nar .byte ((cc3 >>> ((8 : Int32) &&& 31)).toInt8.toInt32)))] (.int (0 : Int32)) ∧ n0 ≤ rb ∧ h0.size ≤ rb
theorem rm3u (l : Launch) (Z : State) (a0 : Array Value) (hw : ∀ d ∈ tables_1, d.before a0 Z = true) (ws : List Jvm.Cond) (aa : Addr) (ac : Addr) (cs : Int32) (vf : Value) (kc : ClassId) (cc0 : Int32) (cc1 : Int32) (cc2 : Int32) (cc3 : Int32) (h0 : Heap) (n0 : Nat) (Z0 : n0 ≤ h0.size) (O0 : Old Z n0 h0) (Scs : Sta Z Z.heap "java/lang/String" "COMPACT_STRINGS" "Z" (.int cs)) (hcs : ¬ cs = (0 : Int32)) (Ssf : Sta Z Z.heap "jdk/internal/util/Preconditions" "SIOOBE_FORMATTER" "Ljava/util/function/BiFunction;" vf) (hvf : vf.isRef = true) (Sas : Sta Z Z.heap "java/lang/StringUTF16" "$assertionsDisabled" "Z" (.int (1 : Int32))) (Shs : Sta Z Z.heap "java/lang/StringUTF16" "HI_BYTE_SHIFT" "I" (.int (0 : Int32))) (Sls : Sta Z Z.heap "java/lang/StringUTF16" "LO_BYTE_SHIFT" "I" (.int (8 : Int32))) (Ea : Exa Z h0 aa "java/lang/String") (Fv : Fld Z h0 aa "java/lang/String" "value" "[B" .null) (Fc : Fld Z h0 aa "java/lang/String" "coder" "B" (.int (0 : Int32))) (g_aa : n0 ≤ aa) (Vc : Arv Z h0 ac kc .char (4 : Int32) [(.int cc0), (.int cc1), (.int cc2), (.int cc3)] (.int (0 : Int32))) (nac : aa ≠ ac) (hr0 : 0 ≤ cc0.toInt ∧ cc0.toInt ≤ 65535) (hr1 : 0 ≤ cc1.toInt ∧ cc1.toInt ≤ 65535) (hr2 : 0 ≤ cc2.toInt ∧ cc2.toInt ≤ 65535) (hr3 : 0 ≤ cc3.toInt ∧ cc3.toInt ≤ 65535) (hnl : ¬ ((0 ≤ cc0.toInt ∧ cc0.toInt ≤ 255) ∧ (0 ≤ cc1.toInt ∧ cc1.toInt ≤ 255) ∧ (0 ≤ cc2.toInt ∧ cc2.toInt ≤ 255) ∧ (0 ≤ cc3.toInt ∧ cc3.toInt ≤ 255))) :
    MetFree l (⟨"java/lang/String", "<init>", "([CIILjava/lang/Void;)V"⟩ : MethodName) (head1 (Jvm.Cond.code (⟨"java/lang/String", "<init>", "([CIILjava/lang/Void;)V"⟩ : MethodName) jdk_42_method_149_code 6 none :: ws) ({ frames := 4, cells := 2, slots := 12, locals := 57 } : Room)) (fun a U => a = #[(.ref aa), (.ref ac), (.int (0 : Int32)), (.int (4 : Int32)), .null] ∧ Z.Warmed39 U.vm ∧ U.heap = h0) (fun _ _ _ _ _ => True) (fun _ U o U' => ∃ v L, o = .returned v ∧ Q3u Z aa ac cs vf kc cc0 cc1 cc2 cc3 h0 n0 v U'.heap L ∧ FrameEnd U o U' L ({ frames := 4, cells := 2, slots := 12, locals := 57 } : Room).cells ({ frames := 4, cells := 2, slots := 12, locals := 57 } : Room).slots) := by
  refine MetFree.of_bodySF (plainFor_of_name own_pn70) hisR ?_
  intro p e s m args below meth c s₁ Bd hml0 hP hK
  have H := fun i c (h : tables_1[i]? = some c) => hw c (List.mem_of_getElem? h)
  obtain ⟨rfl, hZ, hh⟩ := hP
  have hx := Bd.exec
  have hby := Bd.bytes
  have hml : c.maxLocals = 6 := hml0
  have hown : s.vm.findClass "java/lang/String" = some m.cls := findClass_of_methodNamed Bd.named
  have hnm := (name_of_methodNamed Bd.named Bd.method).1
  have X0 : Stand p l e ({ frames := 4, cells := 2, slots := 12, locals := 57 } : Room) s m #[(.ref aa), (.ref ac), (.int (0 : Int32)), (.int (4 : Int32)), .null] below meth c s₁ [] 0 0 := Stand.of_body Bd
  have e0 : s₁.heap = h0 := by rw [← hh, Bd.state]; rfl
  have N0 := Fr.nil n0
  have pre0 : ∀ t, Sp p e below m s₁ 0 #[.val (.ref aa), .val (.ref ac), .val (.int (0 : Int32)), .val (.int (4 : Int32)), .val .null, .unset] [] t → Steps p.tables e below (s₁.setTop (entryFrame m #[(.ref aa), (.ref ac), (.int (0 : Int32)), (.int (4 : Int32)), .null] 6)) t := fun t k => castTop (ef_3u m aa ac) k
  generalize s₁.setTop (entryFrame m #[(.ref aa), (.ref ac), (.int (0 : Int32)), (.int (4 : Int32)), .null] 6) = G0 at pre0 ⊢
  obtain ⟨T568, X568, e568, st568⟩ := initO X0 hx hZ hown (H 15 _ rfl) (H 16 _ rfl) (H 17 _ rfl) e0 (g := (mkF m 1 #[.val (.ref aa), .val (.ref ac), .val (.int (0 : Int32)), .val (.int (4 : Int32)), .val .null, .unset] [(.ref aa)])) rfl (by rw [hml]; rfl) rfl (hb hby d3_1) (by decide) (W := 0) (Nat.le_of_eq rfl) (by decide)
  obtain ⟨T569, X569, e569, st569⟩ := getS2 X568 hx hZ hown (host := "") (Or.inl (H 18 _ rfl)) Via.refl e568 (Scs.ext O0.2) (g := (mkF m 27 #[.val (.ref aa), .val (.ref ac), .val (.int (0 : Int32)), .val (.int (4 : Int32)), .val .null, .unset] [])) rfl (hb hby d3_27)
  obtain ⟨_, _, ⟨T570, L570, k570, n570⟩, -, X570, ⟨Lc570, hQ570, l570, y570, z570⟩, st570⟩ := Jvm.LawKit.callS X569 hx hown (mvT hZ (H 19 _ rfl)) (mvT hZ (H 20 _ rfl)) (mvT hZ (H 21 _ rfl)) (mvT hZ (H 22 _ rfl)) (by decide) (backOf (W := 0) (rm5u l Z a0 hw [] ac cs vf kc cc0 cc1 cc2 cc3 h0 n0 Z0 O0 Scs hcs Ssf hvf Sas Shs Sls Vc hr0 hr1 hr2 hr3 hnl) hZ (H 22 _ rfl) (H 21 _ rfl) (by decide) (by decide)) (g := (mkF m 36 #[.val (.ref aa), .val (.ref ac), .val (.int (0 : Int32)), .val (.int (4 : Int32)), .val .null, .unset] [(.int (4 : Int32)), (.int (0 : Int32)), (.ref ac)])) rfl (by rw [hml]; rfl) (argsL := [(.ref ac), (.int (0 : Int32)), (.int (4 : Int32))]) (rest := []) (lenOf own_pd58 rfl) rfl (Nat.le_of_eq rfl) (hb hby d3_36) (fun _ _ => ⟨rfl, e569, (by decide : 0 + 2 ≤ _), (by decide : 0 + 12 ≤ _)⟩)
  dsimp only [Pt.U, Pt.locs, Pt.cells, Pt.slots] at X570 l570 y570 z570 st570 hQ570
  rw [l570, y570, z570] at X570
  obtain ⟨rrb_570, rrk_570, rfl, Nq570, K570, p570_0, p570_1, p570_2⟩ := hQ570
  have N570 := Fr.app N0 Nq570
  have Zs570 : n0 ≤ T570.heap.size := Nat.le_trans Z0 K570.1
  have KK570 : Keep h0 T570.heap [aa] := (Keep.refl h0 _).trans K570 all0
  have ne_aa_rrb_570 : aa ≠ rrb_570 := Nat.ne_of_lt (Nat.lt_of_lt_of_le Ea.lt p570_2)
  have ne_ac_rrb_570 : ac ≠ rrb_570 := Nat.ne_of_lt (Nat.lt_of_lt_of_le Vc.lt p570_2)
  have sz_rrb_570 : h0.size ≤ rrb_570 := p570_2
  have O570 := O0.keep K570 (all0)
  have f571 := Scs.ext O570.2
  have f572 := Ssf.ext O570.2
  have f573 := Sas.ext O570.2
  have f574 := Shs.ext O570.2
  have f575 := Sls.ext O570.2
  have f576 := Ea.keep K570
  have f577 := Fv.keep K570 nin0
  have f578 := Fc.keep K570 nin0
  have f579 := Vc.keep K570 nin0
  have g_rrb_570 := p570_1
  obtain ⟨_, _, ⟨T580, L580, k580, n580⟩, -, X580, ⟨Lc580, hQ580, l580, y580, z580⟩, st580⟩ := Jvm.LawKit.callS X570 hx hown (mvT hZ (H 27 _ rfl)) (mvT hZ (H 28 _ rfl)) (mvT hZ (H 21 _ rfl)) (mvT hZ (H 29 _ rfl)) (by decide) (backOf (W := 1) (rm7u l Z a0 hw [] rrb_570 rrk_570 [(.int (nar .byte ((cc0 >>> ((0 : Int32) &&& 31)).toInt8.toInt32))), (.int (nar .byte ((cc0 >>> ((8 : Int32) &&& 31)).toInt8.toInt32))), (.int (nar .byte ((cc1 >>> ((0 : Int32) &&& 31)).toInt8.toInt32))), (.int (nar .byte ((cc1 >>> ((8 : Int32) &&& 31)).toInt8.toInt32))), (.int (nar .byte ((cc2 >>> ((0 : Int32) &&& 31)).toInt8.toInt32))), (.int (nar .byte ((cc2 >>> ((8 : Int32) &&& 31)).toInt8.toInt32))), (.int (nar .byte ((cc3 >>> ((0 : Int32) &&& 31)).toInt8.toInt32))), (.int (nar .byte ((cc3 >>> ((8 : Int32) &&& 31)).toInt8.toInt32)))] T570.heap n0 Zs570 p570_0) hZ (H 29 _ rfl) (H 21 _ rfl) (by decide) (by decide)) (g := (mkF m 45 #[.val (.ref aa), .val (.ref ac), .val (.int (0 : Int32)), .val (.int (4 : Int32)), .val .null, .val (.ref rrb_570)] [(.int (4 : Int32)), (.ref rrb_570), (.ref aa)])) rfl (by rw [hml]; rfl) (argsL := [(.ref rrb_570), (.int (4 : Int32))]) (rest := [(.ref aa)]) (lenOf own_pd64 rfl) rfl (Nat.le_of_eq rfl) (hb hby d3_45) (fun _ _ => ⟨rfl, rfl, (by decide : 2 + 0 ≤ _), (by decide : 12 + 0 ≤ _)⟩)
  dsimp only [Pt.U, Pt.locs, Pt.cells, Pt.slots] at X580 l580 y580 z580 st580 hQ580
  rw [l580, y580, z580] at X580
  obtain ⟨rfl, Nq580, e580⟩ := hQ580
  have N580 := Fr.app N570 Nq580
  obtain ⟨T581, h581, X581, e581, W581, st581⟩ := putFN X580 hx hZ hown (H 30 _ rfl) Via.refl e580 f578 f576 (Or.inr ⟨(H 31 _ rfl), rfl, hnm⟩) (H 6 _ rfl) (ty := .byte) (v' := (.int (1 : Int32))) (by decide) rfl (fits_nar_byte (1 : Int32)) (g := (mkF m 48 #[.val (.ref aa), .val (.ref ac), .val (.int (0 : Int32)), .val (.int (4 : Int32)), .val .null, .val (.ref rrb_570)] [(.int (1 : Int32)), (.ref aa)])) rfl rfl (hb hby d3_48)
  have N581 := Fr.snoc X581 N580 g_aa
  have Zs581 : n0 ≤ h581.size := Nat.le_trans Zs570 (Keep.of_wr W581).1
  have KK581 : Keep h0 h581 [aa] := KK570.wr W581 (Or.inl (List.mem_of_getElem? (i := 0) rfl))
  have O581 := O570.wr W581 g_aa
  have f582 := f571.wr W581
  have f583 := f572.wr W581
  have f584 := f573.wr W581
  have f585 := f574.wr W581
  have f586 := f575.wr W581
  have f587 := f576.wr W581
  have f588 := f577.other W581 (Or.inr (slot_ne (Or.inr (H 33 _ rfl)) (Or.inr (H 31 _ rfl)) (by decide) (t := (.array .byte)) (t' := .byte) (by decide) (by decide)))
  have f589 := f578.same W581
  have f590 := f579.other W581 (Ne.symm nac)
  have f591 := p570_0.other W581 (Ne.symm ne_aa_rrb_570)
  obtain ⟨T592, h592, X592, e592, W592, st592⟩ := putF X581 hx hZ hown (host := "") (Or.inl (H 32 _ rfl)) Via.refl e581 f588 f587 (Or.inr ⟨(H 33 _ rfl), rfl, hnm⟩) (H 6 _ rfl) (ty := (.array .byte)) (by decide) rfl rfl (g := (mkF m 54 #[.val (.ref aa), .val (.ref ac), .val (.int (0 : Int32)), .val (.int (4 : Int32)), .val .null, .val (.ref rrb_570)] [(.ref rrb_570), (.ref aa)])) rfl rfl (hb hby d3_54)
  have N592 := Fr.snoc X592 N581 g_aa
  have Zs592 : n0 ≤ h592.size := Nat.le_trans Zs581 (Keep.of_wr W592).1
  have KK592 : Keep h0 h592 [aa] := KK581.wr W592 (Or.inl (List.mem_of_getElem? (i := 0) rfl))
  have O592 := O581.wr W592 g_aa
  have f593 := f582.wr W592
  have f594 := f583.wr W592
  have f595 := f584.wr W592
  have f596 := f585.wr W592
  have f597 := f586.wr W592
  have f598 := f587.wr W592
  have f599 := f588.same W592
  have f600 := f589.other W592 (Or.inr (slot_ne (Or.inr (H 31 _ rfl)) (Or.inr (H 33 _ rfl)) (by decide) (t := .byte) (t' := (.array .byte)) (by decide) (by decide)))
  have f601 := f590.other W592 (Ne.symm nac)
  have f602 := f591.other W592 (Ne.symm ne_aa_rrb_570)
  obtain ⟨fs, hr, hrun, hended, hW, hsame⟩ := X592.leave (v := none) (fun _ => rfl)
  refine ⟨_, _, pre0 _ ?_, hrun, hended, _, _, rfl, ?_, ⟨_, rfl⟩, hW, hsame.mono (by decide) (by decide)⟩
  · show Sp p e below m s₁ 0 #[.val (.ref aa), .val (.ref ac), .val (.int (0 : Int32)), .val (.int (4 : Int32)), .val .null, .unset] [] _
    refine XS.aloadN X0.here hx rfl (hb hby d3_0) rfl rfl ?_
    refine st568 _ ?_
    show Sp p e below m T568 4 #[.val (.ref aa), .val (.ref ac), .val (.int (0 : Int32)), .val (.int (4 : Int32)), .val .null, .unset] [] _
    refine XS.iloadN X568.here hx rfl (hb hby d3_4) rfl ?_
    refine XS.ifYes X568.here hx rfl (pc0 := 5) (pc' := 27) rfl (hb hby d3_5) rfl ((if0 _ _).trans (feq (by decide : ¬ ((4 : Int32) = (0 : Int32)))).2) (by decide) (by decide) ?_
    refine st569 _ ?_
    show Sp p e below m T569 30 #[.val (.ref aa), .val (.ref ac), .val (.int (0 : Int32)), .val (.int (4 : Int32)), .val .null, .unset] [(.int cs)] _
    refine XS.ifNo X569.here hx rfl (hb hby d3_30) rfl ((if0 _ _).trans (feq (hcs : ¬ (cs = (0 : Int32)))).1) ?_
    refine XS.aloadN X569.here hx rfl (hb hby d3_33) rfl rfl ?_
    refine XS.iloadN X569.here hx rfl (hb hby d3_34) rfl ?_
    refine XS.iloadN X569.here hx rfl (hb hby d3_35) rfl ?_
    refine st570 _ ?_
    show Sp p e below m T570 39 #[.val (.ref aa), .val (.ref ac), .val (.int (0 : Int32)), .val (.int (4 : Int32)), .val .null, .unset] [(.ref rrb_570)] _
    refine XS.astore X570.here hx rfl (hb hby d3_39) rfl rfl (l' := #[.val (.ref aa), .val (.ref ac), .val (.int (0 : Int32)), .val (.int (4 : Int32)), .val .null, .val (.ref rrb_570)]) rfl ?_
    refine XS.aloadN X570.here hx rfl (hb hby d3_41) rfl rfl ?_
    refine XS.aload X570.here hx rfl (hb hby d3_42) rfl rfl ?_
    refine XS.iloadN X570.here hx rfl (hb hby d3_44) rfl ?_
    refine st580 _ ?_
    show Sp p e below m T580 48 #[.val (.ref aa), .val (.ref ac), .val (.int (0 : Int32)), .val (.int (4 : Int32)), .val .null, .val (.ref rrb_570)] [(.int (1 : Int32)), (.ref aa)] _
    refine st581 _ ?_
    show Sp p e below m T581 51 #[.val (.ref aa), .val (.ref ac), .val (.int (0 : Int32)), .val (.int (4 : Int32)), .val .null, .val (.ref rrb_570)] [] _
    refine XS.aloadN X581.here hx rfl (hb hby d3_51) rfl rfl ?_
    refine XS.aload X581.here hx rfl (hb hby d3_52) rfl rfl ?_
    refine st592 _ ?_
    show Sp p e below m T592 57 #[.val (.ref aa), .val (.ref ac), .val (.int (0 : Int32)), .val (.int (4 : Int32)), .val .null, .val (.ref rrb_570)] [] _
    exact X592.returnOut hx Bd.returns (hb hby d3_57) hr
  · show Q3u Z aa ac cs vf kc cc0 cc1 cc2 cc3 h0 n0 _ T592.heap _
    rw [e592]
    exact ⟨rrb_570, rrk_570, rfl, N592, KK592, f598, f599, f600, f602, g_rrb_570, sz_rrb_570⟩
theorem ef_2s (m : MethodId) (x0 : Addr) (x1 : Addr) : entryFrame m #[(.ref x0), (.ref x1)] 2 = mkF m 0 #[.val (.ref x0), .val (.ref x1)] [] := by first | (simp [entryFrame, mkF, argsToLocals, Value.category]; done) | rfl
def Q2s (Z : State) (aa : Addr) (ac : Addr) (cs : Int32) (vf : Value) (kc : ClassId) (cc0 : Int32) (cc1 : Int32) (cc2 : Int32) (cc3 : Int32) (h0 : Heap) (n0 : Nat) (v : Option Value) (h : Heap) (L : List Loc) : Prop := ∃ (rb : Addr) (rk : ClassId), v = none ∧ Fr n0 L ∧ Keep h0 h [aa] ∧ Exa Z h aa "java/lang/String" ∧ Fld Z h aa "java/lang/String" "value" "[B" (.ref rb) ∧ own_str Z h aa rb rk cc0 cc1 cc2 cc3
theorem rm2s (l : Launch) (Z : State) (a0 : Array Value) (hw : ∀ d ∈ tables_1, d.before a0 Z = true) (ws : List Jvm.Cond) (aa : Addr) (ac : Addr) (cs : Int32) (vf : Value) (kc : ClassId) (cc0 : Int32) (cc1 : Int32) (cc2 : Int32) (cc3 : Int32) (h0 : Heap) (n0 : Nat) (Z0 : n0 ≤ h0.size) (O0 : Old Z n0 h0) (Scs : Sta Z Z.heap "java/lang/String" "COMPACT_STRINGS" "Z" (.int cs)) (hcs : ¬ cs = (0 : Int32)) (Ssf : Sta Z Z.heap "jdk/internal/util/Preconditions" "SIOOBE_FORMATTER" "Ljava/util/function/BiFunction;" vf) (hvf : vf.isRef = true) (Sas : Sta Z Z.heap "java/lang/StringUTF16" "$assertionsDisabled" "Z" (.int (1 : Int32))) (Shs : Sta Z Z.heap "java/lang/StringUTF16" "HI_BYTE_SHIFT" "I" (.int (0 : Int32))) (Sls : Sta Z Z.heap "java/lang/StringUTF16" "LO_BYTE_SHIFT" "I" (.int (8 : Int32))) (Ea : Exa Z h0 aa "java/lang/String") (Fv : Fld Z h0 aa "java/lang/String" "value" "[B" .null) (Fc : Fld Z h0 aa "java/lang/String" "coder" "B" (.int (0 : Int32))) (g_aa : n0 ≤ aa) (Vc : Arv Z h0 ac kc .char (4 : Int32) [(.int cc0), (.int cc1), (.int cc2), (.int cc3)] (.int (0 : Int32))) (nac : aa ≠ ac) (hr0 : 0 ≤ cc0.toInt ∧ cc0.toInt ≤ 65535) (hr1 : 0 ≤ cc1.toInt ∧ cc1.toInt ≤ 65535) (hr2 : 0 ≤ cc2.toInt ∧ cc2.toInt ≤ 65535) (hr3 : 0 ≤ cc3.toInt ∧ cc3.toInt ≤ 65535) :
    MetFree l (⟨"java/lang/String", "<init>", "([C)V"⟩ : MethodName) (head1 (Jvm.Cond.code (⟨"java/lang/String", "<init>", "([C)V"⟩ : MethodName) jdk_42_method_3_code 2 none :: ws) ({ frames := 5, cells := 2, slots := 12, locals := 74 } : Room)) (fun a U => a = #[(.ref aa), (.ref ac)] ∧ Z.Warmed39 U.vm ∧ U.heap = h0) (fun _ _ _ _ _ => True) (fun _ U o U' => ∃ v L, o = .returned v ∧ Q2s Z aa ac cs vf kc cc0 cc1 cc2 cc3 h0 n0 v U'.heap L ∧ FrameEnd U o U' L ({ frames := 5, cells := 2, slots := 12, locals := 74 } : Room).cells ({ frames := 5, cells := 2, slots := 12, locals := 74 } : Room).slots) := by
  refine MetFree.of_bodySF (plainFor_of_name own_pn70) hisR ?_
  intro p e s m args below meth c s₁ Bd hml0 hP hK
  have H := fun i c (h : tables_1[i]? = some c) => hw c (List.mem_of_getElem? h)
  obtain ⟨rfl, hZ, hh⟩ := hP
  have hx := Bd.exec
  have hby := Bd.bytes
  have hml : c.maxLocals = 2 := hml0
  have hown : s.vm.findClass "java/lang/String" = some m.cls := findClass_of_methodNamed Bd.named
  have hnm := (name_of_methodNamed Bd.named Bd.method).1
  have X0 : Stand p l e ({ frames := 5, cells := 2, slots := 12, locals := 74 } : Room) s m #[(.ref aa), (.ref ac)] below meth c s₁ [] 0 0 := Stand.of_body Bd
  have e0 : s₁.heap = h0 := by rw [← hh, Bd.state]; rfl
  have N0 := Fr.nil n0
  have pre0 : ∀ t, Sp p e below m s₁ 0 #[.val (.ref aa), .val (.ref ac)] [] t → Steps p.tables e below (s₁.setTop (entryFrame m #[(.ref aa), (.ref ac)] 2)) t := fun t k => castTop (ef_2s m aa ac) k
  generalize s₁.setTop (entryFrame m #[(.ref aa), (.ref ac)] 2) = G0 at pre0 ⊢
  by_cases hall : (0 ≤ cc0.toInt ∧ cc0.toInt ≤ 255) ∧ (0 ≤ cc1.toInt ∧ cc1.toInt ≤ 255) ∧ (0 ≤ cc2.toInt ∧ cc2.toInt ≤ 255) ∧ (0 ≤ cc3.toInt ∧ cc3.toInt ≤ 255)
  · obtain ⟨cl621, Ar621, -, S621, M621, -, -⟩ := id Vc
    obtain ⟨_, _, ⟨T622, L622, k622, n622⟩, -, X622, ⟨Lc622, hQ622, l622, y622, z622⟩, st622⟩ := X0.specialBack hx (y := (⟨"java/lang/String", "<init>", "([CIILjava/lang/Void;)V"⟩ : MethodName)) rfl hown (mvT hZ (H 11 _ rfl)) (mvT hZ (H 12 _ rfl)) (mvT hZ (H 14 _ rfl)) (by decide) (backOf (W := 0) (rm3n4 l Z a0 hw [] aa ac cs vf kc cc0 cc1 cc2 cc3 h0 n0 Z0 O0 Scs hcs Ssf hvf Sas Shs Sls Ea Fv Fc g_aa Vc nac hall.1 hall.2.1 hall.2.2.1 hall.2.2.2) hZ (H 14 _ rfl) (H 7 _ rfl) (by decide) (by decide)) (g := (mkF m 6 #[.val (.ref aa), .val (.ref ac)] [.null, (.int (4 : Int32)), (.int (0 : Int32)), (.ref ac), (.ref aa)])) rfl (by rw [hml]; rfl) (Steps.refl _) (a := aa) (argsL := [(.ref ac), (.int (0 : Int32)), (.int (4 : Int32)), .null]) (rest := []) (lenOf own_pd78 rfl) rfl (Nat.le_of_eq rfl) (hb hby d2_6) (fun _ _ => ⟨rfl, e0, (by decide : 0 + 1 ≤ _), (by decide : 0 + 4 ≤ _)⟩)
    dsimp only [Pt.U, Pt.locs, Pt.cells, Pt.slots] at X622 l622 y622 z622 st622 hQ622
    rw [l622, y622, z622] at X622
    obtain ⟨rrb_622, rrk_622, rfl, Nq622, K622, p622_0, p622_1, p622_2, p622_3, p622_4, p622_5⟩ := hQ622
    have N622 := Fr.app N0 Nq622
    have Zs622 : n0 ≤ T622.heap.size := Nat.le_trans Z0 K622.1
    have KK622 : Keep h0 T622.heap [aa] := (Keep.refl h0 _).trans K622 (allS (Or.inl (List.mem_of_getElem? (i := 0) rfl)) all0)
    have ne_aa_rrb_622 : aa ≠ rrb_622 := Nat.ne_of_lt (Nat.lt_of_lt_of_le Ea.lt p622_5)
    have ne_ac_rrb_622 : ac ≠ rrb_622 := Nat.ne_of_lt (Nat.lt_of_lt_of_le Vc.lt p622_5)
    have sz_rrb_622 : h0.size ≤ rrb_622 := p622_5
    have O622 := O0.keep K622 (allS g_aa all0)
    have f623 := Scs.ext O622.2
    have f624 := Ssf.ext O622.2
    have f625 := Sas.ext O622.2
    have f626 := Shs.ext O622.2
    have f627 := Sls.ext O622.2
    have f628 := Ea.keep K622
    have f629 := Vc.keep K622 (ninS (Ne.symm nac) nin0)
    have g_rrb_622 := p622_4
    obtain ⟨fs, hr, hrun, hended, hW, hsame⟩ := X622.leave (v := none) (fun _ => rfl)
    refine ⟨_, _, pre0 _ ?_, hrun, hended, _, _, rfl, ?_, ⟨_, rfl⟩, hW, hsame.mono (by decide) (by decide)⟩
    · show Sp p e below m s₁ 0 #[.val (.ref aa), .val (.ref ac)] [] _
      refine XS.aloadN X0.here hx rfl (hb hby d2_0) rfl rfl ?_
      refine XS.aloadN X0.here hx rfl (hb hby d2_1) rfl rfl ?_
      refine XS.iconst X0.here hx rfl (hb hby d2_2) ?_
      refine XS.aloadN X0.here hx rfl (hb hby d2_3) rfl rfl ?_
      refine X0.arraylength hx (by rw [e0]; exact Ar621.1) (State.isArrayOf_alike hZ.alike Ar621.2.1) (g := (mkF m 4 #[.val (.ref aa), .val (.ref ac)] [(.ref ac), (.int (0 : Int32)), (.ref ac), (.ref aa)])) rfl rfl (hb hby d2_4) _ ?_
      rw [len_of S621 M621]
      show Sp p e below m s₁ 5 #[.val (.ref aa), .val (.ref ac)] [(.int (4 : Int32)), (.int (0 : Int32)), (.ref ac), (.ref aa)] _
      refine XS.aconstNull X0.here hx rfl (hb hby d2_5) ?_
      refine st622.trans ?_
      show Sp p e below m T622 9 #[.val (.ref aa), .val (.ref ac)] [] _
      exact X622.returnOut hx Bd.returns (hb hby d2_9) hr
    · show Q2s Z aa ac cs vf kc cc0 cc1 cc2 cc3 h0 n0 _ T622.heap _
      exact ⟨rrb_622, rrk_622, rfl, N622, KK622, p622_0, p622_1, Or.inl ⟨p622_2, p622_3, hall⟩⟩
  · obtain ⟨cl630, Ar630, -, S630, M630, -, -⟩ := id Vc
    obtain ⟨_, _, ⟨T631, L631, k631, n631⟩, -, X631, ⟨Lc631, hQ631, l631, y631, z631⟩, st631⟩ := X0.specialBack hx (y := (⟨"java/lang/String", "<init>", "([CIILjava/lang/Void;)V"⟩ : MethodName)) rfl hown (mvT hZ (H 11 _ rfl)) (mvT hZ (H 12 _ rfl)) (mvT hZ (H 14 _ rfl)) (by decide) (backOf (W := 0) (rm3u l Z a0 hw [] aa ac cs vf kc cc0 cc1 cc2 cc3 h0 n0 Z0 O0 Scs hcs Ssf hvf Sas Shs Sls Ea Fv Fc g_aa Vc nac hr0 hr1 hr2 hr3 hall) hZ (H 14 _ rfl) (H 7 _ rfl) (by decide) (by decide)) (g := (mkF m 6 #[.val (.ref aa), .val (.ref ac)] [.null, (.int (4 : Int32)), (.int (0 : Int32)), (.ref ac), (.ref aa)])) rfl (by rw [hml]; rfl) (Steps.refl _) (a := aa) (argsL := [(.ref ac), (.int (0 : Int32)), (.int (4 : Int32)), .null]) (rest := []) (lenOf own_pd78 rfl) rfl (Nat.le_of_eq rfl) (hb hby d2_6) (fun _ _ => ⟨rfl, e0, (by decide : 0 + 2 ≤ _), (by decide : 0 + 12 ≤ _)⟩)
    dsimp only [Pt.U, Pt.locs, Pt.cells, Pt.slots] at X631 l631 y631 z631 st631 hQ631
    rw [l631, y631, z631] at X631
    obtain ⟨rrb_631, rrk_631, rfl, Nq631, K631, p631_0, p631_1, p631_2, p631_3, p631_4, p631_5⟩ := hQ631
    have N631 := Fr.app N0 Nq631
    have Zs631 : n0 ≤ T631.heap.size := Nat.le_trans Z0 K631.1
    have KK631 : Keep h0 T631.heap [aa] := (Keep.refl h0 _).trans K631 (allS (Or.inl (List.mem_of_getElem? (i := 0) rfl)) all0)
    have ne_aa_rrb_631 : aa ≠ rrb_631 := Nat.ne_of_lt (Nat.lt_of_lt_of_le Ea.lt p631_5)
    have ne_ac_rrb_631 : ac ≠ rrb_631 := Nat.ne_of_lt (Nat.lt_of_lt_of_le Vc.lt p631_5)
    have sz_rrb_631 : h0.size ≤ rrb_631 := p631_5
    have O631 := O0.keep K631 (allS g_aa all0)
    have f632 := Scs.ext O631.2
    have f633 := Ssf.ext O631.2
    have f634 := Sas.ext O631.2
    have f635 := Shs.ext O631.2
    have f636 := Sls.ext O631.2
    have f637 := Ea.keep K631
    have f638 := Vc.keep K631 (ninS (Ne.symm nac) nin0)
    have g_rrb_631 := p631_4
    obtain ⟨fs, hr, hrun, hended, hW, hsame⟩ := X631.leave (v := none) (fun _ => rfl)
    refine ⟨_, _, pre0 _ ?_, hrun, hended, _, _, rfl, ?_, ⟨_, rfl⟩, hW, hsame.mono (by decide) (by decide)⟩
    · show Sp p e below m s₁ 0 #[.val (.ref aa), .val (.ref ac)] [] _
      refine XS.aloadN X0.here hx rfl (hb hby d2_0) rfl rfl ?_
      refine XS.aloadN X0.here hx rfl (hb hby d2_1) rfl rfl ?_
      refine XS.iconst X0.here hx rfl (hb hby d2_2) ?_
      refine XS.aloadN X0.here hx rfl (hb hby d2_3) rfl rfl ?_
      refine X0.arraylength hx (by rw [e0]; exact Ar630.1) (State.isArrayOf_alike hZ.alike Ar630.2.1) (g := (mkF m 4 #[.val (.ref aa), .val (.ref ac)] [(.ref ac), (.int (0 : Int32)), (.ref ac), (.ref aa)])) rfl rfl (hb hby d2_4) _ ?_
      rw [len_of S630 M630]
      show Sp p e below m s₁ 5 #[.val (.ref aa), .val (.ref ac)] [(.int (4 : Int32)), (.int (0 : Int32)), (.ref ac), (.ref aa)] _
      refine XS.aconstNull X0.here hx rfl (hb hby d2_5) ?_
      refine st631.trans ?_
      show Sp p e below m T631 9 #[.val (.ref aa), .val (.ref ac)] [] _
      exact X631.returnOut hx Bd.returns (hb hby d2_9) hr
    · show Q2s Z aa ac cs vf kc cc0 cc1 cc2 cc3 h0 n0 _ T631.heap _
      exact ⟨rrb_631, rrk_631, rfl, N631, KK631, p631_0, p631_1, Or.inr ⟨p631_2, p631_3⟩⟩
theorem d22_0 : decode jdk_41_method_11_code 0 = .ok (.iload_n 0, 1) := by decide +kernel
theorem d22_1 : decode jdk_41_method_11_code 1 = .ok (.ifCond .lt 8, 3) := by decide +kernel
theorem d22_4 : decode jdk_41_method_11_code 4 = .ok (.iload_n 0, 1) := by decide +kernel
theorem d22_5 : decode jdk_41_method_11_code 5 = .ok (.iload_n 1, 1) := by decide +kernel
theorem d22_6 : decode jdk_41_method_11_code 6 = .ok (.if_icmp .lt 10, 3) := by decide +kernel
theorem d22_16 : decode jdk_41_method_11_code 16 = .ok (.iload_n 0, 1) := by decide +kernel
theorem d22_17 : decode jdk_41_method_11_code 17 = .ok (.ireturn, 1) := by decide +kernel
theorem own_pn183 : plainName "jdk/internal/util/Preconditions" = true := by first | (simp [plainName, overriddenIn]; done) | decide +kernel
theorem ef_22 (m : MethodId) (x0 : Int32) (x1 : Int32) (x2 : Value) (hx2 : x2.isRef = true) : entryFrame m #[(.int x0), (.int x1), x2] 3 = mkF m 0 #[.val (.int x0), .val (.int x1), .val x2] [] := by rcases ref_cases hx2 with rfl | ⟨y2, rfl⟩ <;> first | (simp [entryFrame, mkF, argsToLocals, Value.category]; done) | rfl
def Q22 (Z : State) (pi : Int32) (pn : Int32) (vf : Value) (h0 : Heap) (n0 : Nat) (v : Option Value) (h : Heap) (L : List Loc) : Prop := v = some (.int pi) ∧ Fr n0 L ∧ h = h0
theorem rm22 (l : Launch) (Z : State) (a0 : Array Value) (hw : ∀ d ∈ tables_1, d.before a0 Z = true) (ws : List Jvm.Cond) (pi : Int32) (pn : Int32) (vf : Value) (h0 : Heap) (n0 : Nat) (Z0 : n0 ≤ h0.size) (hvf : vf.isRef = true) (h0i : ¬ pi < (0 : Int32)) (hlt : pi < pn) :
    MetFree l (⟨"jdk/internal/util/Preconditions", "checkIndex", "(IILjava/util/function/BiFunction;)I"⟩ : MethodName) (head1 (Jvm.Cond.code (⟨"jdk/internal/util/Preconditions", "checkIndex", "(IILjava/util/function/BiFunction;)I"⟩ : MethodName) jdk_41_method_11_code 3 (some .int) :: ws) ({ frames := 0, cells := 0, slots := 0, locals := 0 } : Room)) (fun a U => a = #[(.int pi), (.int pn), vf] ∧ Z.Warmed39 U.vm ∧ U.heap = h0) (fun _ _ _ _ _ => True) (fun _ U o U' => ∃ v L, o = .returned v ∧ Q22 Z pi pn vf h0 n0 v U'.heap L ∧ FrameEnd U o U' L ({ frames := 0, cells := 0, slots := 0, locals := 0 } : Room).cells ({ frames := 0, cells := 0, slots := 0, locals := 0 } : Room).slots) := by
  refine MetFree.of_bodySF (plainFor_of_name own_pn183) hisR ?_
  intro p e s m args below meth c s₁ Bd hml0 hP hK
  have H := fun i c (h : tables_1[i]? = some c) => hw c (List.mem_of_getElem? h)
  obtain ⟨rfl, hZ, hh⟩ := hP
  have hx := Bd.exec
  have hby := Bd.bytes
  have hml : c.maxLocals = 3 := hml0
  have hown : s.vm.findClass "jdk/internal/util/Preconditions" = some m.cls := findClass_of_methodNamed Bd.named
  have hnm := (name_of_methodNamed Bd.named Bd.method).1
  have X0 : Stand p l e ({ frames := 0, cells := 0, slots := 0, locals := 0 } : Room) s m #[(.int pi), (.int pn), vf] below meth c s₁ [] 0 0 := Stand.of_body Bd
  have e0 : s₁.heap = h0 := by rw [← hh, Bd.state]; rfl
  have N0 := Fr.nil n0
  have pre0 : ∀ t, Sp p e below m s₁ 0 #[.val (.int pi), .val (.int pn), .val vf] [] t → Steps p.tables e below (s₁.setTop (entryFrame m #[(.int pi), (.int pn), vf] 3)) t := fun t k => castTop (ef_22 m pi pn vf hvf) k
  generalize s₁.setTop (entryFrame m #[(.int pi), (.int pn), vf] 3) = G0 at pre0 ⊢
  obtain ⟨fs, hr, hrun, hended, hW, hsame⟩ := X0.leave (v := some (.int pi)) (fun h => by rw [Bd.returns] at h; cases h)
  refine ⟨_, _, pre0 _ ?_, hrun, hended, _, _, rfl, ?_, ⟨_, rfl⟩, hW, hsame.mono (by decide) (by decide)⟩
  · show Sp p e below m s₁ 0 #[.val (.int pi), .val (.int pn), .val vf] [] _
    refine XS.iloadN X0.here hx rfl (hb hby d22_0) rfl ?_
    refine XS.ifNo X0.here hx rfl (hb hby d22_1) rfl ((if0 _ _).trans (flt (h0i : ¬ (pi < (0 : Int32)))).1) ?_
    refine XS.iloadN X0.here hx rfl (hb hby d22_4) rfl ?_
    refine XS.iloadN X0.here hx rfl (hb hby d22_5) rfl ?_
    refine XS.icmpYes X0.here hx rfl (pc0 := 6) (pc' := 16) rfl (hb hby d22_6) rfl (tlt (hlt : (pi < pn))).1 (by decide) (by decide) ?_
    refine XS.iloadN X0.here hx rfl (hb hby d22_16) rfl ?_
    exact retI X0 hx Bd.returns (hb hby d22_17) hr
  · show Q22 Z pi pn vf h0 n0 _ s₁.heap _
    rw [e0]
    exact ⟨rfl, N0, rfl⟩
theorem d21_0 : decode jdk_42_method_155_code 0 = .ok (.iload_n 0, 1) := by decide +kernel
theorem d21_1 : decode jdk_42_method_155_code 1 = .ok (.iload_n 1, 1) := by decide +kernel
theorem d21_2 : decode jdk_42_method_155_code 2 = .ok (.getstatic 1053, 3) := by decide +kernel
theorem d21_5 : decode jdk_42_method_155_code 5 = .ok (.invokestatic 1059, 3) := by decide +kernel
theorem own_pd188 : parseMethodDescriptor "(IILjava/util/function/BiFunction;)I" = some ⟨[.int, .int, (.object "java/util/function/BiFunction")], some .int⟩ := by decide +kernel
theorem d21_8 : decode jdk_42_method_155_code 8 = .ok (.pop, 1) := by decide +kernel
theorem d21_9 : decode jdk_42_method_155_code 9 = .ok (.return_, 1) := by decide +kernel
theorem ef_21 (m : MethodId) (x0 : Int32) (x1 : Int32) : entryFrame m #[(.int x0), (.int x1)] 2 = mkF m 0 #[.val (.int x0), .val (.int x1)] [] := by first | (simp [entryFrame, mkF, argsToLocals, Value.category]; done) | rfl
def Q21 (Z : State) (pi : Int32) (pn : Int32) (cs : Int32) (vf : Value) (h0 : Heap) (n0 : Nat) (v : Option Value) (h : Heap) (L : List Loc) : Prop := v = none ∧ Fr n0 L ∧ h = h0
theorem rm21 (l : Launch) (Z : State) (a0 : Array Value) (hw : ∀ d ∈ tables_1, d.before a0 Z = true) (ws : List Jvm.Cond) (pi : Int32) (pn : Int32) (cs : Int32) (vf : Value) (h0 : Heap) (n0 : Nat) (Z0 : n0 ≤ h0.size) (O0 : Old Z n0 h0) (Scs : Sta Z Z.heap "java/lang/String" "COMPACT_STRINGS" "Z" (.int cs)) (hcs : ¬ cs = (0 : Int32)) (Ssf : Sta Z Z.heap "jdk/internal/util/Preconditions" "SIOOBE_FORMATTER" "Ljava/util/function/BiFunction;" vf) (hvf : vf.isRef = true) (Sas : Sta Z Z.heap "java/lang/StringUTF16" "$assertionsDisabled" "Z" (.int (1 : Int32))) (Shs : Sta Z Z.heap "java/lang/StringUTF16" "HI_BYTE_SHIFT" "I" (.int (0 : Int32))) (Sls : Sta Z Z.heap "java/lang/StringUTF16" "LO_BYTE_SHIFT" "I" (.int (8 : Int32))) (h0i : ¬ pi < (0 : Int32)) (hlt : pi < pn) :
    MetFree l (⟨"java/lang/String", "checkIndex", "(II)V"⟩ : MethodName) (head1 (Jvm.Cond.code (⟨"java/lang/String", "checkIndex", "(II)V"⟩ : MethodName) jdk_42_method_155_code 2 none :: ws) ({ frames := 1, cells := 0, slots := 0, locals := 14 } : Room)) (fun a U => a = #[(.int pi), (.int pn)] ∧ Z.Warmed39 U.vm ∧ U.heap = h0) (fun _ _ _ _ _ => True) (fun _ U o U' => ∃ v L, o = .returned v ∧ Q21 Z pi pn cs vf h0 n0 v U'.heap L ∧ FrameEnd U o U' L ({ frames := 1, cells := 0, slots := 0, locals := 14 } : Room).cells ({ frames := 1, cells := 0, slots := 0, locals := 14 } : Room).slots) := by
  refine MetFree.of_bodySF (plainFor_of_name own_pn70) hisR ?_
  intro p e s m args below meth c s₁ Bd hml0 hP hK
  have H := fun i c (h : tables_1[i]? = some c) => hw c (List.mem_of_getElem? h)
  obtain ⟨rfl, hZ, hh⟩ := hP
  have hx := Bd.exec
  have hby := Bd.bytes
  have hml : c.maxLocals = 2 := hml0
  have hown : s.vm.findClass "java/lang/String" = some m.cls := findClass_of_methodNamed Bd.named
  have hnm := (name_of_methodNamed Bd.named Bd.method).1
  have X0 : Stand p l e ({ frames := 1, cells := 0, slots := 0, locals := 14 } : Room) s m #[(.int pi), (.int pn)] below meth c s₁ [] 0 0 := Stand.of_body Bd
  have e0 : s₁.heap = h0 := by rw [← hh, Bd.state]; rfl
  have N0 := Fr.nil n0
  have pre0 : ∀ t, Sp p e below m s₁ 0 #[.val (.int pi), .val (.int pn)] [] t → Steps p.tables e below (s₁.setTop (entryFrame m #[(.int pi), (.int pn)] 2)) t := fun t k => castTop (ef_21 m pi pn) k
  generalize s₁.setTop (entryFrame m #[(.int pi), (.int pn)] 2) = G0 at pre0 ⊢
  obtain ⟨T641, X641, e641, st641⟩ := getS2 X0 hx hZ hown (host := "") (Or.inl (H 86 _ rfl)) Via.refl e0 (Ssf.ext O0.2) (g := (mkF m 2 #[.val (.int pi), .val (.int pn)] [(.int pn), (.int pi)])) rfl (hb hby d21_2)
  obtain ⟨_, _, ⟨T642, L642, k642, n642⟩, -, X642, ⟨Lc642, hQ642, l642, y642, z642⟩, st642⟩ := Jvm.LawKit.callS X641 hx hown (mvT hZ (H 88 _ rfl)) (mvT hZ (H 89 _ rfl)) (mvT hZ (H 87 _ rfl)) (mvT hZ (H 90 _ rfl)) (by decide) (backOf (W := 0) (rm22 l Z a0 hw [] pi pn vf  h0 n0 Z0 hvf h0i hlt) hZ (H 90 _ rfl) (H 87 _ rfl) (by decide) (by decide)) (g := (mkF m 5 #[.val (.int pi), .val (.int pn)] [vf, (.int pn), (.int pi)])) rfl (by rw [hml]; rfl) (argsL := [(.int pi), (.int pn), vf]) (rest := []) (lenOf own_pd188 rfl) rfl (Nat.le_of_eq rfl) (hb hby d21_5) (fun _ _ => ⟨rfl, e641, (by decide : 0 + 0 ≤ _), (by decide : 0 + 0 ≤ _)⟩)
  dsimp only [Pt.U, Pt.locs, Pt.cells, Pt.slots] at X642 l642 y642 z642 st642 hQ642
  rw [l642, y642, z642] at X642
  obtain ⟨rfl, Nq642, e642⟩ := hQ642
  have N642 := Fr.app N0 Nq642
  obtain ⟨fs, hr, hrun, hended, hW, hsame⟩ := X642.leave (v := none) (fun _ => rfl)
  refine ⟨_, _, pre0 _ ?_, hrun, hended, _, _, rfl, ?_, ⟨_, rfl⟩, hW, hsame.mono (by decide) (by decide)⟩
  · show Sp p e below m s₁ 0 #[.val (.int pi), .val (.int pn)] [] _
    refine XS.iloadN X0.here hx rfl (hb hby d21_0) rfl ?_
    refine XS.iloadN X0.here hx rfl (hb hby d21_1) rfl ?_
    refine st641 _ ?_
    show Sp p e below m T641 5 #[.val (.int pi), .val (.int pn)] [vf, (.int pn), (.int pi)] _
    refine st642 _ ?_
    show Sp p e below m T642 8 #[.val (.int pi), .val (.int pn)] [(.int pi)] _
    refine XS.pop X642.here hx rfl (hb hby d21_8) rfl rfl ?_
    exact X642.returnOut hx Bd.returns (hb hby d21_9) hr
  · show Q21 Z pi pn cs vf h0 n0 _ T642.heap _
    rw [e642]
    exact ⟨rfl, N642, rfl⟩
theorem d23_0 : decode jdk_43_method_2_code 0 = .ok (.iload_n 1, 1) := by decide +kernel
theorem d23_1 : decode jdk_43_method_2_code 1 = .ok (.aload_n 0, 1) := by decide +kernel
theorem d23_2 : decode jdk_43_method_2_code 2 = .ok (.arraylength, 1) := by decide +kernel
theorem d23_3 : decode jdk_43_method_2_code 3 = .ok (.invokestatic 9, 3) := by decide +kernel
theorem own_pd195 : parseMethodDescriptor "(II)V" = some ⟨[.int, .int], none⟩ := by decide +kernel
theorem d23_6 : decode jdk_43_method_2_code 6 = .ok (.aload_n 0, 1) := by decide +kernel
theorem d23_7 : decode jdk_43_method_2_code 7 = .ok (.iload_n 1, 1) := by decide +kernel
theorem d23_8 : decode jdk_43_method_2_code 8 = .ok (.baload, 1) := by decide +kernel
theorem d23_9 : decode jdk_43_method_2_code 9 = .ok (.sipush 255, 3) := by decide +kernel
theorem d23_12 : decode jdk_43_method_2_code 12 = .ok (.iand, 1) := by decide +kernel
theorem d23_13 : decode jdk_43_method_2_code 13 = .ok (.i2c, 1) := by decide +kernel
theorem d23_14 : decode jdk_43_method_2_code 14 = .ok (.ireturn, 1) := by decide +kernel
theorem own_pn203 : plainName "java/lang/StringLatin1" = true := by first | (simp [plainName, overriddenIn]; done) | decide +kernel
theorem ef_23 (m : MethodId) (x0 : Addr) (x1 : Int32) : entryFrame m #[(.ref x0), (.int x1)] 2 = mkF m 0 #[.val (.ref x0), .val (.int x1)] [] := by first | (simp [entryFrame, mkF, argsToLocals, Value.category]; done) | rfl
def Q23 (Z : State) (ab : Addr) (pi : Int32) (cs : Int32) (vf : Value) (kb : ClassId) (zn : Int32) (vs : List Value) (bv : Int32) (h0 : Heap) (n0 : Nat) (v : Option Value) (h : Heap) (L : List Loc) : Prop := v = some (.int (own_lat bv)) ∧ Fr n0 L ∧ h = h0
theorem rm23 (l : Launch) (Z : State) (a0 : Array Value) (hw : ∀ d ∈ tables_1, d.before a0 Z = true) (ws : List Jvm.Cond) (ab : Addr) (pi : Int32) (cs : Int32) (vf : Value) (kb : ClassId) (zn : Int32) (vs : List Value) (bv : Int32) (h0 : Heap) (n0 : Nat) (Z0 : n0 ≤ h0.size) (O0 : Old Z n0 h0) (Scs : Sta Z Z.heap "java/lang/String" "COMPACT_STRINGS" "Z" (.int cs)) (hcs : ¬ cs = (0 : Int32)) (Ssf : Sta Z Z.heap "jdk/internal/util/Preconditions" "SIOOBE_FORMATTER" "Ljava/util/function/BiFunction;" vf) (hvf : vf.isRef = true) (Sas : Sta Z Z.heap "java/lang/StringUTF16" "$assertionsDisabled" "Z" (.int (1 : Int32))) (Shs : Sta Z Z.heap "java/lang/StringUTF16" "HI_BYTE_SHIFT" "I" (.int (0 : Int32))) (Sls : Sta Z Z.heap "java/lang/StringUTF16" "LO_BYTE_SHIFT" "I" (.int (8 : Int32))) (Va : Arv Z h0 ab kb .byte zn vs (.int (0 : Int32))) (h0i : ¬ pi < (0 : Int32)) (hlt : pi < zn) (hget : vs.getD pi.toNatClampNeg (.int (0 : Int32)) = .int bv) :
    MetFree l (⟨"java/lang/StringLatin1", "charAt", "([BI)C"⟩ : MethodName) (head1 (Jvm.Cond.code (⟨"java/lang/StringLatin1", "charAt", "([BI)C"⟩ : MethodName) jdk_43_method_2_code 2 (some .char) :: ws) ({ frames := 2, cells := 0, slots := 0, locals := 27 } : Room)) (fun a U => a = #[(.ref ab), (.int pi)] ∧ Z.Warmed39 U.vm ∧ U.heap = h0) (fun _ _ _ _ _ => True) (fun _ U o U' => ∃ v L, o = .returned v ∧ Q23 Z ab pi cs vf kb zn vs bv h0 n0 v U'.heap L ∧ FrameEnd U o U' L ({ frames := 2, cells := 0, slots := 0, locals := 27 } : Room).cells ({ frames := 2, cells := 0, slots := 0, locals := 27 } : Room).slots) := by
  refine MetFree.of_bodySF (plainFor_of_name own_pn203) hisR ?_
  intro p e s m args below meth c s₁ Bd hml0 hP hK
  have H := fun i c (h : tables_1[i]? = some c) => hw c (List.mem_of_getElem? h)
  obtain ⟨rfl, hZ, hh⟩ := hP
  have hx := Bd.exec
  have hby := Bd.bytes
  have hml : c.maxLocals = 2 := hml0
  have hown : s.vm.findClass "java/lang/StringLatin1" = some m.cls := findClass_of_methodNamed Bd.named
  have hnm := (name_of_methodNamed Bd.named Bd.method).1
  have X0 : Stand p l e ({ frames := 2, cells := 0, slots := 0, locals := 27 } : Room) s m #[(.ref ab), (.int pi)] below meth c s₁ [] 0 0 := Stand.of_body Bd
  have e0 : s₁.heap = h0 := by rw [← hh, Bd.state]; rfl
  have N0 := Fr.nil n0
  have pre0 : ∀ t, Sp p e below m s₁ 0 #[.val (.ref ab), .val (.int pi)] [] t → Steps p.tables e below (s₁.setTop (entryFrame m #[(.ref ab), (.int pi)] 2)) t := fun t k => castTop (ef_23 m ab pi) k
  generalize s₁.setTop (entryFrame m #[(.ref ab), (.int pi)] 2) = G0 at pre0 ⊢
  obtain ⟨cl646, Ar646, -, S646, M646, -, -⟩ := id Va
  obtain ⟨_, _, ⟨T647, L647, k647, n647⟩, -, X647, ⟨Lc647, hQ647, l647, y647, z647⟩, st647⟩ := Jvm.LawKit.callS X0 hx hown (mvT hZ (H 95 _ rfl)) (mvT hZ (H 84 _ rfl)) (mvT hZ (H 7 _ rfl)) (mvT hZ (H 85 _ rfl)) (by decide) (backOf (W := 0) (rm21 l Z a0 hw [] pi zn cs vf h0 n0 Z0 O0 Scs hcs Ssf hvf Sas Shs Sls h0i hlt) hZ (H 85 _ rfl) (H 7 _ rfl) (by decide) (by decide)) (g := (mkF m 3 #[.val (.ref ab), .val (.int pi)] [(.int zn), (.int pi)])) rfl (by rw [hml]; rfl) (argsL := [(.int pi), (.int zn)]) (rest := []) (lenOf own_pd195 rfl) rfl (Nat.le_of_eq rfl) (hb hby d23_3) (fun _ _ => ⟨rfl, e0, (by decide : 0 + 0 ≤ _), (by decide : 0 + 0 ≤ _)⟩)
  dsimp only [Pt.U, Pt.locs, Pt.cells, Pt.slots] at X647 l647 y647 z647 st647 hQ647
  rw [l647, y647, z647] at X647
  obtain ⟨rfl, Nq647, e647⟩ := hQ647
  have N647 := Fr.app N0 Nq647
  obtain ⟨cl648, Ar648, -, S648, -, H648, -⟩ := id Va
  have hin648 : ¬ (pi < 0 ∨ cl648.slots.size ≤ (pi).toNatClampNeg) := inb_of S648 ⟨h0i, hlt⟩
  have hat648 : cl648.slots[(pi).toNatClampNeg]? = some (.int bv) := H648.at hin648 hget
  obtain ⟨fs, hr, hrun, hended, hW, hsame⟩ := X647.leave (v := some (.int (nar .char ((bv &&& (255 : Int32)).toUInt32.toUInt16.toUInt32.toInt32)))) (fun h => by rw [Bd.returns] at h; cases h)
  refine ⟨_, _, pre0 _ ?_, hrun, hended, _, _, rfl, ?_, ⟨_, rfl⟩, hW, hsame.mono (by decide) (by decide)⟩
  · show Sp p e below m s₁ 0 #[.val (.ref ab), .val (.int pi)] [] _
    refine XS.iloadN X0.here hx rfl (hb hby d23_0) rfl ?_
    refine XS.aloadN X0.here hx rfl (hb hby d23_1) rfl rfl ?_
    refine X0.arraylength hx (by rw [e0]; exact Ar646.1) (State.isArrayOf_alike hZ.alike Ar646.2.1) (g := (mkF m 2 #[.val (.ref ab), .val (.int pi)] [(.ref ab), (.int pi)])) rfl rfl (hb hby d23_2) _ ?_
    rw [len_of S646 M646]
    show Sp p e below m s₁ 3 #[.val (.ref ab), .val (.int pi)] [(.int zn), (.int pi)] _
    refine st647 _ ?_
    show Sp p e below m T647 6 #[.val (.ref ab), .val (.int pi)] [] _
    refine XS.aloadN X647.here hx rfl (hb hby d23_6) rfl rfl ?_
    refine XS.iloadN X647.here hx rfl (hb hby d23_7) rfl ?_
    refine X647.baloadBytes hx (j := pi) (v := (.int bv)) (by rw [e647]; exact Ar648.1) (State.isArrayOf_alike hZ.alike Ar648.2.1) Ar648.2.2 hin648 hat648 (g := (mkF m 8 #[.val (.ref ab), .val (.int pi)] [(.int pi), (.ref ab)])) rfl rfl (hb hby d23_8) _ ?_
    show Sp p e below m T647 9 #[.val (.ref ab), .val (.int pi)] [(.int bv)] _
    refine XS.sipush X647.here hx rfl (hb hby d23_9) ?_
    refine XS.iand X647.here hx rfl (hb hby d23_12) rfl ?_
    refine XS.i2c X647.here hx rfl (hb hby d23_13) rfl ?_
    exact retN X647 hx (t := .char) Bd.returns (by simp) (hb hby d23_14) hr
  · show Q23 Z ab pi cs vf kb zn vs bv h0 n0 _ T647.heap _
    rw [e647]
    exact ⟨rfl, N647, rfl⟩
theorem d17_0 : decode jdk_42_method_154_code 0 = .ok (.getstatic 38, 3) := by decide +kernel
theorem d17_3 : decode jdk_42_method_154_code 3 = .ok (.ifCond .eq 14, 3) := by decide +kernel
theorem d17_6 : decode jdk_42_method_154_code 6 = .ok (.aload_n 0, 1) := by decide +kernel
theorem d17_7 : decode jdk_42_method_154_code 7 = .ok (.getfield 15, 3) := by decide +kernel
theorem d17_10 : decode jdk_42_method_154_code 10 = .ok (.ifCond .ne 7, 3) := by decide +kernel
theorem d17_13 : decode jdk_42_method_154_code 13 = .ok (.iconst 1, 1) := by decide +kernel
theorem d17_14 : decode jdk_42_method_154_code 14 = .ok (.goto 4, 3) := by decide +kernel
theorem d17_18 : decode jdk_42_method_154_code 18 = .ok (.ireturn, 1) := by decide +kernel
theorem ef_17 (m : MethodId) (x0 : Addr) : entryFrame m #[(.ref x0)] 1 = mkF m 0 #[.val (.ref x0)] [] := by first | (simp [entryFrame, mkF, argsToLocals, Value.category]; done) | rfl
def Q17 (Z : State) (aa : Addr) (cs : Int32) (vf : Value) (h0 : Heap) (n0 : Nat) (v : Option Value) (h : Heap) (L : List Loc) : Prop := v = some (.int (1 : Int32)) ∧ Fr n0 L ∧ h = h0
theorem rm17 (l : Launch) (Z : State) (a0 : Array Value) (hw : ∀ d ∈ tables_1, d.before a0 Z = true) (ws : List Jvm.Cond) (aa : Addr) (cs : Int32) (vf : Value) (h0 : Heap) (n0 : Nat) (Z0 : n0 ≤ h0.size) (O0 : Old Z n0 h0) (Scs : Sta Z Z.heap "java/lang/String" "COMPACT_STRINGS" "Z" (.int cs)) (hcs : ¬ cs = (0 : Int32)) (Ssf : Sta Z Z.heap "jdk/internal/util/Preconditions" "SIOOBE_FORMATTER" "Ljava/util/function/BiFunction;" vf) (hvf : vf.isRef = true) (Sas : Sta Z Z.heap "java/lang/StringUTF16" "$assertionsDisabled" "Z" (.int (1 : Int32))) (Shs : Sta Z Z.heap "java/lang/StringUTF16" "HI_BYTE_SHIFT" "I" (.int (0 : Int32))) (Sls : Sta Z Z.heap "java/lang/StringUTF16" "LO_BYTE_SHIFT" "I" (.int (8 : Int32))) (Fc : Fld Z h0 aa "java/lang/String" "coder" "B" (.int (0 : Int32))) :
    MetFree l (⟨"java/lang/String", "isLatin1", "()Z"⟩ : MethodName) (head1 (Jvm.Cond.code (⟨"java/lang/String", "isLatin1", "()Z"⟩ : MethodName) jdk_42_method_154_code 1 (some .boolean) :: ws) ({ frames := 0, cells := 0, slots := 0, locals := 0 } : Room)) (fun a U => a = #[(.ref aa)] ∧ Z.Warmed39 U.vm ∧ U.heap = h0) (fun _ _ _ _ _ => True) (fun _ U o U' => ∃ v L, o = .returned v ∧ Q17 Z aa cs vf h0 n0 v U'.heap L ∧ FrameEnd U o U' L ({ frames := 0, cells := 0, slots := 0, locals := 0 } : Room).cells ({ frames := 0, cells := 0, slots := 0, locals := 0 } : Room).slots) := by
  refine MetFree.of_bodySF (plainFor_of_name own_pn70) hisR ?_
  intro p e s m args below meth c s₁ Bd hml0 hP hK
  have H := fun i c (h : tables_1[i]? = some c) => hw c (List.mem_of_getElem? h)
  obtain ⟨rfl, hZ, hh⟩ := hP
  have hx := Bd.exec
  have hby := Bd.bytes
  have hml : c.maxLocals = 1 := hml0
  have hown : s.vm.findClass "java/lang/String" = some m.cls := findClass_of_methodNamed Bd.named
  have hnm := (name_of_methodNamed Bd.named Bd.method).1
  have X0 : Stand p l e ({ frames := 0, cells := 0, slots := 0, locals := 0 } : Room) s m #[(.ref aa)] below meth c s₁ [] 0 0 := Stand.of_body Bd
  have e0 : s₁.heap = h0 := by rw [← hh, Bd.state]; rfl
  have N0 := Fr.nil n0
  have pre0 : ∀ t, Sp p e below m s₁ 0 #[.val (.ref aa)] [] t → Steps p.tables e below (s₁.setTop (entryFrame m #[(.ref aa)] 1)) t := fun t k => castTop (ef_17 m aa) k
  generalize s₁.setTop (entryFrame m #[(.ref aa)] 1) = G0 at pre0 ⊢
  obtain ⟨T651, X651, e651, st651⟩ := getS2 X0 hx hZ hown (host := "") (Or.inl (H 18 _ rfl)) Via.refl e0 (Scs.ext O0.2) (g := (mkF m 0 #[.val (.ref aa)] [])) rfl (hb hby d17_0)
  obtain ⟨T652, X652, e652, st652⟩ := getF X651 hx hZ hown (host := "") (Or.inl (H 30 _ rfl)) Via.refl e651 Fc (g := (mkF m 7 #[.val (.ref aa)] [(.ref aa)])) rfl rfl (hb hby d17_7)
  obtain ⟨fs, hr, hrun, hended, hW, hsame⟩ := X652.leave (v := some (.int (1 : Int32))) (fun h => by rw [Bd.returns] at h; cases h)
  refine ⟨_, _, pre0 _ ?_, hrun, hended, _, _, rfl, ?_, ⟨_, rfl⟩, hW, hsame.mono (by decide) (by decide)⟩
  · show Sp p e below m s₁ 0 #[.val (.ref aa)] [] _
    refine st651 _ ?_
    show Sp p e below m T651 3 #[.val (.ref aa)] [(.int cs)] _
    refine XS.ifNo X651.here hx rfl (hb hby d17_3) rfl ((if0 _ _).trans (feq (hcs : ¬ (cs = (0 : Int32)))).1) ?_
    refine XS.aloadN X651.here hx rfl (hb hby d17_6) rfl rfl ?_
    refine st652 _ ?_
    show Sp p e below m T652 10 #[.val (.ref aa)] [(.int (0 : Int32))] _
    refine XS.ifNo X652.here hx rfl (hb hby d17_10) rfl ((if0 _ _).trans (teq (by decide : ((0 : Int32) = (0 : Int32)))).2) ?_
    refine XS.iconst X652.here hx rfl (hb hby d17_13) ?_
    refine XS.goto X652.here hx rfl (pc0 := 14) (pc' := 18) rfl (hb hby d17_14) (by decide) (by decide) ?_
    exact retN X652 hx (t := .boolean) Bd.returns (by simp) (hb hby d17_18) hr
  · show Q17 Z aa cs vf h0 n0 _ T652.heap _
    rw [e652]
    exact ⟨rfl, N0, rfl⟩
theorem d17_17 : decode jdk_42_method_154_code 17 = .ok (.iconst 0, 1) := by decide +kernel
theorem ef_17u (m : MethodId) (x0 : Addr) : entryFrame m #[(.ref x0)] 1 = mkF m 0 #[.val (.ref x0)] [] := by first | (simp [entryFrame, mkF, argsToLocals, Value.category]; done) | rfl
def Q17u (Z : State) (aa : Addr) (cs : Int32) (vf : Value) (h0 : Heap) (n0 : Nat) (v : Option Value) (h : Heap) (L : List Loc) : Prop := v = some (.int (0 : Int32)) ∧ Fr n0 L ∧ h = h0
theorem rm17u (l : Launch) (Z : State) (a0 : Array Value) (hw : ∀ d ∈ tables_1, d.before a0 Z = true) (ws : List Jvm.Cond) (aa : Addr) (cs : Int32) (vf : Value) (h0 : Heap) (n0 : Nat) (Z0 : n0 ≤ h0.size) (O0 : Old Z n0 h0) (Scs : Sta Z Z.heap "java/lang/String" "COMPACT_STRINGS" "Z" (.int cs)) (hcs : ¬ cs = (0 : Int32)) (Ssf : Sta Z Z.heap "jdk/internal/util/Preconditions" "SIOOBE_FORMATTER" "Ljava/util/function/BiFunction;" vf) (hvf : vf.isRef = true) (Sas : Sta Z Z.heap "java/lang/StringUTF16" "$assertionsDisabled" "Z" (.int (1 : Int32))) (Shs : Sta Z Z.heap "java/lang/StringUTF16" "HI_BYTE_SHIFT" "I" (.int (0 : Int32))) (Sls : Sta Z Z.heap "java/lang/StringUTF16" "LO_BYTE_SHIFT" "I" (.int (8 : Int32))) (Fc : Fld Z h0 aa "java/lang/String" "coder" "B" (.int (1 : Int32))) :
    MetFree l (⟨"java/lang/String", "isLatin1", "()Z"⟩ : MethodName) (head1 (Jvm.Cond.code (⟨"java/lang/String", "isLatin1", "()Z"⟩ : MethodName) jdk_42_method_154_code 1 (some .boolean) :: ws) ({ frames := 0, cells := 0, slots := 0, locals := 0 } : Room)) (fun a U => a = #[(.ref aa)] ∧ Z.Warmed39 U.vm ∧ U.heap = h0) (fun _ _ _ _ _ => True) (fun _ U o U' => ∃ v L, o = .returned v ∧ Q17u Z aa cs vf h0 n0 v U'.heap L ∧ FrameEnd U o U' L ({ frames := 0, cells := 0, slots := 0, locals := 0 } : Room).cells ({ frames := 0, cells := 0, slots := 0, locals := 0 } : Room).slots) := by
  refine MetFree.of_bodySF (plainFor_of_name own_pn70) hisR ?_
  intro p e s m args below meth c s₁ Bd hml0 hP hK
  have H := fun i c (h : tables_1[i]? = some c) => hw c (List.mem_of_getElem? h)
  obtain ⟨rfl, hZ, hh⟩ := hP
  have hx := Bd.exec
  have hby := Bd.bytes
  have hml : c.maxLocals = 1 := hml0
  have hown : s.vm.findClass "java/lang/String" = some m.cls := findClass_of_methodNamed Bd.named
  have hnm := (name_of_methodNamed Bd.named Bd.method).1
  have X0 : Stand p l e ({ frames := 0, cells := 0, slots := 0, locals := 0 } : Room) s m #[(.ref aa)] below meth c s₁ [] 0 0 := Stand.of_body Bd
  have e0 : s₁.heap = h0 := by rw [← hh, Bd.state]; rfl
  have N0 := Fr.nil n0
  have pre0 : ∀ t, Sp p e below m s₁ 0 #[.val (.ref aa)] [] t → Steps p.tables e below (s₁.setTop (entryFrame m #[(.ref aa)] 1)) t := fun t k => castTop (ef_17u m aa) k
  generalize s₁.setTop (entryFrame m #[(.ref aa)] 1) = G0 at pre0 ⊢
  obtain ⟨T655, X655, e655, st655⟩ := getS2 X0 hx hZ hown (host := "") (Or.inl (H 18 _ rfl)) Via.refl e0 (Scs.ext O0.2) (g := (mkF m 0 #[.val (.ref aa)] [])) rfl (hb hby d17_0)
  obtain ⟨T656, X656, e656, st656⟩ := getF X655 hx hZ hown (host := "") (Or.inl (H 30 _ rfl)) Via.refl e655 Fc (g := (mkF m 7 #[.val (.ref aa)] [(.ref aa)])) rfl rfl (hb hby d17_7)
  obtain ⟨fs, hr, hrun, hended, hW, hsame⟩ := X656.leave (v := some (.int (0 : Int32))) (fun h => by rw [Bd.returns] at h; cases h)
  refine ⟨_, _, pre0 _ ?_, hrun, hended, _, _, rfl, ?_, ⟨_, rfl⟩, hW, hsame.mono (by decide) (by decide)⟩
  · show Sp p e below m s₁ 0 #[.val (.ref aa)] [] _
    refine st655 _ ?_
    show Sp p e below m T655 3 #[.val (.ref aa)] [(.int cs)] _
    refine XS.ifNo X655.here hx rfl (hb hby d17_3) rfl ((if0 _ _).trans (feq (hcs : ¬ (cs = (0 : Int32)))).1) ?_
    refine XS.aloadN X655.here hx rfl (hb hby d17_6) rfl rfl ?_
    refine st656 _ ?_
    show Sp p e below m T656 10 #[.val (.ref aa)] [(.int (1 : Int32))] _
    refine XS.ifYes X656.here hx rfl (pc0 := 10) (pc' := 17) rfl (hb hby d17_10) rfl ((if0 _ _).trans (feq (by decide : ¬ ((1 : Int32) = (0 : Int32)))).2) (by decide) (by decide) ?_
    refine XS.iconst X656.here hx rfl (hb hby d17_17) ?_
    exact retN X656 hx (t := .boolean) Bd.returns (by simp) (hb hby d17_18) hr
  · show Q17u Z aa cs vf h0 n0 _ T656.heap _
    rw [e656]
    exact ⟨rfl, N0, rfl⟩
theorem d20_0 : decode jdk_52_method_6_code 0 = .ok (.aload_n 0, 1) := by decide +kernel
theorem d20_1 : decode jdk_52_method_6_code 1 = .ok (.arraylength, 1) := by decide +kernel
theorem d20_2 : decode jdk_52_method_6_code 2 = .ok (.iconst 1, 1) := by decide +kernel
theorem d20_3 : decode jdk_52_method_6_code 3 = .ok (.ishr, 1) := by decide +kernel
theorem d20_4 : decode jdk_52_method_6_code 4 = .ok (.ireturn, 1) := by decide +kernel
theorem ef_20 (m : MethodId) (x0 : Addr) : entryFrame m #[(.ref x0)] 1 = mkF m 0 #[.val (.ref x0)] [] := by first | (simp [entryFrame, mkF, argsToLocals, Value.category]; done) | rfl
def Q20 (Z : State) (ab : Addr) (kb : ClassId) (vs : List Value) (h0 : Heap) (n0 : Nat) (v : Option Value) (h : Heap) (L : List Loc) : Prop := v = some (.int (4 : Int32)) ∧ Fr n0 L ∧ h = h0
theorem rm20 (l : Launch) (Z : State) (a0 : Array Value) (hw : ∀ d ∈ tables_1, d.before a0 Z = true) (ws : List Jvm.Cond) (ab : Addr) (kb : ClassId) (vs : List Value) (h0 : Heap) (n0 : Nat) (Z0 : n0 ≤ h0.size) (Vb : Arv Z h0 ab kb .byte (8 : Int32) vs (.int (0 : Int32))) :
    MetFree l (⟨"java/lang/StringUTF16", "length", "([B)I"⟩ : MethodName) (head1 (Jvm.Cond.code (⟨"java/lang/StringUTF16", "length", "([B)I"⟩ : MethodName) jdk_52_method_6_code 1 (some .int) :: ws) ({ frames := 0, cells := 0, slots := 0, locals := 0 } : Room)) (fun a U => a = #[(.ref ab)] ∧ Z.Warmed39 U.vm ∧ U.heap = h0) (fun _ _ _ _ _ => True) (fun _ U o U' => ∃ v L, o = .returned v ∧ Q20 Z ab kb vs h0 n0 v U'.heap L ∧ FrameEnd U o U' L ({ frames := 0, cells := 0, slots := 0, locals := 0 } : Room).cells ({ frames := 0, cells := 0, slots := 0, locals := 0 } : Room).slots) := by
  refine MetFree.of_bodySF (plainFor_of_name own_pn23) hisR ?_
  intro p e s m args below meth c s₁ Bd hml0 hP hK
  have H := fun i c (h : tables_1[i]? = some c) => hw c (List.mem_of_getElem? h)
  obtain ⟨rfl, hZ, hh⟩ := hP
  have hx := Bd.exec
  have hby := Bd.bytes
  have hml : c.maxLocals = 1 := hml0
  have hown : s.vm.findClass "java/lang/StringUTF16" = some m.cls := findClass_of_methodNamed Bd.named
  have hnm := (name_of_methodNamed Bd.named Bd.method).1
  have X0 : Stand p l e ({ frames := 0, cells := 0, slots := 0, locals := 0 } : Room) s m #[(.ref ab)] below meth c s₁ [] 0 0 := Stand.of_body Bd
  have e0 : s₁.heap = h0 := by rw [← hh, Bd.state]; rfl
  have N0 := Fr.nil n0
  have pre0 : ∀ t, Sp p e below m s₁ 0 #[.val (.ref ab)] [] t → Steps p.tables e below (s₁.setTop (entryFrame m #[(.ref ab)] 1)) t := fun t k => castTop (ef_20 m ab) k
  generalize s₁.setTop (entryFrame m #[(.ref ab)] 1) = G0 at pre0 ⊢
  obtain ⟨cl658, Ar658, -, S658, M658, -, -⟩ := id Vb
  obtain ⟨fs, hr, hrun, hended, hW, hsame⟩ := X0.leave (v := some (.int (4 : Int32))) (fun h => by rw [Bd.returns] at h; cases h)
  refine ⟨_, _, pre0 _ ?_, hrun, hended, _, _, rfl, ?_, ⟨_, rfl⟩, hW, hsame.mono (by decide) (by decide)⟩
  · show Sp p e below m s₁ 0 #[.val (.ref ab)] [] _
    refine XS.aloadN X0.here hx rfl (hb hby d20_0) rfl rfl ?_
    refine X0.arraylength hx (by rw [e0]; exact Ar658.1) (State.isArrayOf_alike hZ.alike Ar658.2.1) (g := (mkF m 1 #[.val (.ref ab)] [(.ref ab)])) rfl rfl (hb hby d20_1) _ ?_
    rw [len_of S658 M658]
    show Sp p e below m s₁ 2 #[.val (.ref ab)] [(.int (8 : Int32))] _
    refine XS.iconst X0.here hx rfl (hb hby d20_2) ?_
    refine XS.ishr X0.here hx rfl (hb hby d20_3) rfl ?_
    exact retI X0 hx Bd.returns (hb hby d20_4) hr
  · show Q20 Z ab kb vs h0 n0 _ s₁.heap _
    rw [e0]
    exact ⟨rfl, N0, rfl⟩
theorem d19_0 : decode jdk_52_method_91_code 0 = .ok (.iload_n 0, 1) := by decide +kernel
theorem d19_1 : decode jdk_52_method_91_code 1 = .ok (.aload_n 1, 1) := by decide +kernel
theorem d19_2 : decode jdk_52_method_91_code 2 = .ok (.invokestatic 48, 3) := by decide +kernel
theorem own_pd221 : parseMethodDescriptor "([B)I" = some ⟨[(.array .byte)], some .int⟩ := by decide +kernel
theorem d19_5 : decode jdk_52_method_91_code 5 = .ok (.invokestatic 414, 3) := by decide +kernel
theorem d19_8 : decode jdk_52_method_91_code 8 = .ok (.return_, 1) := by decide +kernel
theorem ef_19 (m : MethodId) (x0 : Int32) (x1 : Addr) : entryFrame m #[(.int x0), (.ref x1)] 2 = mkF m 0 #[.val (.int x0), .val (.ref x1)] [] := by first | (simp [entryFrame, mkF, argsToLocals, Value.category]; done) | rfl
def Q19 (Z : State) (pi : Int32) (ab : Addr) (cs : Int32) (vf : Value) (kb : ClassId) (vs : List Value) (h0 : Heap) (n0 : Nat) (v : Option Value) (h : Heap) (L : List Loc) : Prop := v = none ∧ Fr n0 L ∧ h = h0
theorem rm19 (l : Launch) (Z : State) (a0 : Array Value) (hw : ∀ d ∈ tables_1, d.before a0 Z = true) (ws : List Jvm.Cond) (pi : Int32) (ab : Addr) (cs : Int32) (vf : Value) (kb : ClassId) (vs : List Value) (h0 : Heap) (n0 : Nat) (Z0 : n0 ≤ h0.size) (O0 : Old Z n0 h0) (Scs : Sta Z Z.heap "java/lang/String" "COMPACT_STRINGS" "Z" (.int cs)) (hcs : ¬ cs = (0 : Int32)) (Ssf : Sta Z Z.heap "jdk/internal/util/Preconditions" "SIOOBE_FORMATTER" "Ljava/util/function/BiFunction;" vf) (hvf : vf.isRef = true) (Sas : Sta Z Z.heap "java/lang/StringUTF16" "$assertionsDisabled" "Z" (.int (1 : Int32))) (Shs : Sta Z Z.heap "java/lang/StringUTF16" "HI_BYTE_SHIFT" "I" (.int (0 : Int32))) (Sls : Sta Z Z.heap "java/lang/StringUTF16" "LO_BYTE_SHIFT" "I" (.int (8 : Int32))) (Vb : Arv Z h0 ab kb .byte (8 : Int32) vs (.int (0 : Int32))) (h0i : ¬ pi < (0 : Int32)) (hlt : pi < (4 : Int32)) :
    MetFree l (⟨"java/lang/StringUTF16", "checkIndex", "(I[B)V"⟩ : MethodName) (head1 (Jvm.Cond.code (⟨"java/lang/StringUTF16", "checkIndex", "(I[B)V"⟩ : MethodName) jdk_52_method_91_code 2 none :: ws) ({ frames := 2, cells := 0, slots := 0, locals := 27 } : Room)) (fun a U => a = #[(.int pi), (.ref ab)] ∧ Z.Warmed39 U.vm ∧ U.heap = h0) (fun _ _ _ _ _ => True) (fun _ U o U' => ∃ v L, o = .returned v ∧ Q19 Z pi ab cs vf kb vs h0 n0 v U'.heap L ∧ FrameEnd U o U' L ({ frames := 2, cells := 0, slots := 0, locals := 27 } : Room).cells ({ frames := 2, cells := 0, slots := 0, locals := 27 } : Room).slots) := by
  refine MetFree.of_bodySF (plainFor_of_name own_pn23) hisR ?_
  intro p e s m args below meth c s₁ Bd hml0 hP hK
  have H := fun i c (h : tables_1[i]? = some c) => hw c (List.mem_of_getElem? h)
  obtain ⟨rfl, hZ, hh⟩ := hP
  have hx := Bd.exec
  have hby := Bd.bytes
  have hml : c.maxLocals = 2 := hml0
  have hown : s.vm.findClass "java/lang/StringUTF16" = some m.cls := findClass_of_methodNamed Bd.named
  have hnm := (name_of_methodNamed Bd.named Bd.method).1
  have X0 : Stand p l e ({ frames := 2, cells := 0, slots := 0, locals := 27 } : Room) s m #[(.int pi), (.ref ab)] below meth c s₁ [] 0 0 := Stand.of_body Bd
  have e0 : s₁.heap = h0 := by rw [← hh, Bd.state]; rfl
  have N0 := Fr.nil n0
  have pre0 : ∀ t, Sp p e below m s₁ 0 #[.val (.int pi), .val (.ref ab)] [] t → Steps p.tables e below (s₁.setTop (entryFrame m #[(.int pi), (.ref ab)] 2)) t := fun t k => castTop (ef_19 m pi ab) k
  generalize s₁.setTop (entryFrame m #[(.int pi), (.ref ab)] 2) = G0 at pre0 ⊢
  obtain ⟨_, _, ⟨T661, L661, k661, n661⟩, -, X661, ⟨Lc661, hQ661, l661, y661, z661⟩, st661⟩ := Jvm.LawKit.callS X0 hx hown (mvT hZ (H 80 _ rfl)) (mvT hZ (H 81 _ rfl)) (mvT hZ (H 21 _ rfl)) (mvT hZ (H 82 _ rfl)) (by decide) (backOf (W := 1) (rm20 l Z a0 hw [] ab kb vs h0 n0 Z0 Vb) hZ (H 82 _ rfl) (H 21 _ rfl) (by decide) (by decide)) (g := (mkF m 2 #[.val (.int pi), .val (.ref ab)] [(.ref ab), (.int pi)])) rfl (by rw [hml]; rfl) (argsL := [(.ref ab)]) (rest := [(.int pi)]) (lenOf own_pd221 rfl) rfl (Nat.le_of_eq rfl) (hb hby d19_2) (fun _ _ => ⟨rfl, e0, (by decide : 0 + 0 ≤ _), (by decide : 0 + 0 ≤ _)⟩)
  dsimp only [Pt.U, Pt.locs, Pt.cells, Pt.slots] at X661 l661 y661 z661 st661 hQ661
  rw [l661, y661, z661] at X661
  obtain ⟨rfl, Nq661, e661⟩ := hQ661
  have N661 := Fr.app N0 Nq661
  obtain ⟨_, _, ⟨T662, L662, k662, n662⟩, -, X662, ⟨Lc662, hQ662, l662, y662, z662⟩, st662⟩ := Jvm.LawKit.callS X661 hx hown (mvT hZ (H 83 _ rfl)) (mvT hZ (H 84 _ rfl)) (mvT hZ (H 7 _ rfl)) (mvT hZ (H 85 _ rfl)) (by decide) (backOf (W := 0) (rm21 l Z a0 hw [] pi (4 : Int32) cs vf h0 n0 Z0 O0 Scs hcs Ssf hvf Sas Shs Sls h0i hlt) hZ (H 85 _ rfl) (H 7 _ rfl) (by decide) (by decide)) (g := (mkF m 5 #[.val (.int pi), .val (.ref ab)] [(.int (4 : Int32)), (.int pi)])) rfl (by rw [hml]; rfl) (argsL := [(.int pi), (.int (4 : Int32))]) (rest := []) (lenOf own_pd195 rfl) rfl (Nat.le_of_eq rfl) (hb hby d19_5) (fun _ _ => ⟨rfl, e661, (by decide : 0 + 0 ≤ _), (by decide : 0 + 0 ≤ _)⟩)
  dsimp only [Pt.U, Pt.locs, Pt.cells, Pt.slots] at X662 l662 y662 z662 st662 hQ662
  rw [l662, y662, z662] at X662
  obtain ⟨rfl, Nq662, e662⟩ := hQ662
  have N662 := Fr.app N661 Nq662
  obtain ⟨fs, hr, hrun, hended, hW, hsame⟩ := X662.leave (v := none) (fun _ => rfl)
  refine ⟨_, _, pre0 _ ?_, hrun, hended, _, _, rfl, ?_, ⟨_, rfl⟩, hW, hsame.mono (by decide) (by decide)⟩
  · show Sp p e below m s₁ 0 #[.val (.int pi), .val (.ref ab)] [] _
    refine XS.iloadN X0.here hx rfl (hb hby d19_0) rfl ?_
    refine XS.aloadN X0.here hx rfl (hb hby d19_1) rfl rfl ?_
    refine st661 _ ?_
    show Sp p e below m T661 5 #[.val (.int pi), .val (.ref ab)] [(.int (4 : Int32)), (.int pi)] _
    refine st662 _ ?_
    show Sp p e below m T662 8 #[.val (.int pi), .val (.ref ab)] [] _
    exact X662.returnOut hx Bd.returns (hb hby d19_8) hr
  · show Q19 Z pi ab cs vf kb vs h0 n0 _ T662.heap _
    rw [e662]
    exact ⟨rfl, N662, rfl⟩
theorem d18_0 : decode jdk_52_method_83_code 0 = .ok (.iload_n 1, 1) := by decide +kernel
theorem d18_1 : decode jdk_52_method_83_code 1 = .ok (.aload_n 0, 1) := by decide +kernel
theorem d18_2 : decode jdk_52_method_83_code 2 = .ok (.invokestatic 67, 3) := by decide +kernel
theorem own_pd227 : parseMethodDescriptor "(I[B)V" = some ⟨[.int, (.array .byte)], none⟩ := by decide +kernel
theorem d18_5 : decode jdk_52_method_83_code 5 = .ok (.aload_n 0, 1) := by decide +kernel
theorem d18_6 : decode jdk_52_method_83_code 6 = .ok (.iload_n 1, 1) := by decide +kernel
theorem d18_7 : decode jdk_52_method_83_code 7 = .ok (.invokestatic 71, 3) := by decide +kernel
theorem d18_10 : decode jdk_52_method_83_code 10 = .ok (.ireturn, 1) := by decide +kernel
theorem ef_18i0 (m : MethodId) (x0 : Addr) : entryFrame m #[(.ref x0), (.int (0 : Int32))] 2 = mkF m 0 #[.val (.ref x0), .val (.int (0 : Int32))] [] := by first | (simp [entryFrame, mkF, argsToLocals, Value.category]; done) | rfl
def Q18i0 (Z : State) (ab : Addr) (cs : Int32) (vf : Value) (kb : ClassId) (cc0 : Int32) (cc1 : Int32) (cc2 : Int32) (cc3 : Int32) (h0 : Heap) (n0 : Nat) (v : Option Value) (h : Heap) (L : List Loc) : Prop := v = some (.int cc0) ∧ Fr n0 L ∧ h = h0
theorem rm18i0 (l : Launch) (Z : State) (a0 : Array Value) (hw : ∀ d ∈ tables_1, d.before a0 Z = true) (ws : List Jvm.Cond) (ab : Addr) (cs : Int32) (vf : Value) (kb : ClassId) (cc0 : Int32) (cc1 : Int32) (cc2 : Int32) (cc3 : Int32) (h0 : Heap) (n0 : Nat) (Z0 : n0 ≤ h0.size) (O0 : Old Z n0 h0) (Scs : Sta Z Z.heap "java/lang/String" "COMPACT_STRINGS" "Z" (.int cs)) (hcs : ¬ cs = (0 : Int32)) (Ssf : Sta Z Z.heap "jdk/internal/util/Preconditions" "SIOOBE_FORMATTER" "Ljava/util/function/BiFunction;" vf) (hvf : vf.isRef = true) (Sas : Sta Z Z.heap "java/lang/StringUTF16" "$assertionsDisabled" "Z" (.int (1 : Int32))) (Shs : Sta Z Z.heap "java/lang/StringUTF16" "HI_BYTE_SHIFT" "I" (.int (0 : Int32))) (Sls : Sta Z Z.heap "java/lang/StringUTF16" "LO_BYTE_SHIFT" "I" (.int (8 : Int32))) (Vb : Arv Z h0 ab kb .byte (8 : Int32) [(.int (nar .byte ((cc0 >>> ((0 : Int32) &&& 31)).toInt8.toInt32))), (.int (nar .byte ((cc0 >>> ((8 : Int32) &&& 31)).toInt8.toInt32))), (.int (nar .byte ((cc1 >>> ((0 : Int32) &&& 31)).toInt8.toInt32))), (.int (nar .byte ((cc1 >>> ((8 : Int32) &&& 31)).toInt8.toInt32))), (.int (nar .byte ((cc2 >>> ((0 : Int32) &&& 31)).toInt8.toInt32))), (.int (nar .byte ((cc2 >>> ((8 : Int32) &&& 31)).toInt8.toInt32))), (.int (nar .byte ((cc3 >>> ((0 : Int32) &&& 31)).toInt8.toInt32))), (.int (nar .byte ((cc3 >>> ((8 : Int32) &&& 31)).toInt8.toInt32)))] (.int (0 : Int32))) (hr0 : 0 ≤ cc0.toInt ∧ cc0.toInt ≤ 65535) (hr1 : 0 ≤ cc1.toInt ∧ cc1.toInt ≤ 65535) (hr2 : 0 ≤ cc2.toInt ∧ cc2.toInt ≤ 65535) (hr3 : 0 ≤ cc3.toInt ∧ cc3.toInt ≤ 65535) :
    MetFree l (⟨"java/lang/StringUTF16", "charAt", "([BI)C"⟩ : MethodName) (head1 (Jvm.Cond.code (⟨"java/lang/StringUTF16", "charAt", "([BI)C"⟩ : MethodName) jdk_52_method_83_code 2 (some .char) :: ws) ({ frames := 3, cells := 0, slots := 0, locals := 40 } : Room)) (fun a U => a = #[(.ref ab), (.int (0 : Int32))] ∧ Z.Warmed39 U.vm ∧ U.heap = h0) (fun _ _ _ _ _ => True) (fun _ U o U' => ∃ v L, o = .returned v ∧ Q18i0 Z ab cs vf kb cc0 cc1 cc2 cc3 h0 n0 v U'.heap L ∧ FrameEnd U o U' L ({ frames := 3, cells := 0, slots := 0, locals := 40 } : Room).cells ({ frames := 3, cells := 0, slots := 0, locals := 40 } : Room).slots) := by
  refine MetFree.of_bodySF (plainFor_of_name own_pn23) hisR ?_
  intro p e s m args below meth c s₁ Bd hml0 hP hK
  have H := fun i c (h : tables_1[i]? = some c) => hw c (List.mem_of_getElem? h)
  obtain ⟨rfl, hZ, hh⟩ := hP
  have hx := Bd.exec
  have hby := Bd.bytes
  have hml : c.maxLocals = 2 := hml0
  have hown : s.vm.findClass "java/lang/StringUTF16" = some m.cls := findClass_of_methodNamed Bd.named
  have hnm := (name_of_methodNamed Bd.named Bd.method).1
  have X0 : Stand p l e ({ frames := 3, cells := 0, slots := 0, locals := 40 } : Room) s m #[(.ref ab), (.int (0 : Int32))] below meth c s₁ [] 0 0 := Stand.of_body Bd
  have e0 : s₁.heap = h0 := by rw [← hh, Bd.state]; rfl
  have N0 := Fr.nil n0
  have pre0 : ∀ t, Sp p e below m s₁ 0 #[.val (.ref ab), .val (.int (0 : Int32))] [] t → Steps p.tables e below (s₁.setTop (entryFrame m #[(.ref ab), (.int (0 : Int32))] 2)) t := fun t k => castTop (ef_18i0 m ab) k
  generalize s₁.setTop (entryFrame m #[(.ref ab), (.int (0 : Int32))] 2) = G0 at pre0 ⊢
  obtain ⟨_, _, ⟨T665, L665, k665, n665⟩, -, X665, ⟨Lc665, hQ665, l665, y665, z665⟩, st665⟩ := Jvm.LawKit.callS X0 hx hown (mvT hZ (H 77 _ rfl)) (mvT hZ (H 78 _ rfl)) (mvT hZ (H 21 _ rfl)) (mvT hZ (H 79 _ rfl)) (by decide) (backOf (W := 0) (rm19 l Z a0 hw [] (0 : Int32) ab cs vf kb [(.int (nar .byte ((cc0 >>> ((0 : Int32) &&& 31)).toInt8.toInt32))), (.int (nar .byte ((cc0 >>> ((8 : Int32) &&& 31)).toInt8.toInt32))), (.int (nar .byte ((cc1 >>> ((0 : Int32) &&& 31)).toInt8.toInt32))), (.int (nar .byte ((cc1 >>> ((8 : Int32) &&& 31)).toInt8.toInt32))), (.int (nar .byte ((cc2 >>> ((0 : Int32) &&& 31)).toInt8.toInt32))), (.int (nar .byte ((cc2 >>> ((8 : Int32) &&& 31)).toInt8.toInt32))), (.int (nar .byte ((cc3 >>> ((0 : Int32) &&& 31)).toInt8.toInt32))), (.int (nar .byte ((cc3 >>> ((8 : Int32) &&& 31)).toInt8.toInt32)))] h0 n0 Z0 O0 Scs hcs Ssf hvf Sas Shs Sls Vb (by decide) (by decide)) hZ (H 79 _ rfl) (H 21 _ rfl) (by decide) (by decide)) (g := (mkF m 2 #[.val (.ref ab), .val (.int (0 : Int32))] [(.ref ab), (.int (0 : Int32))])) rfl (by rw [hml]; rfl) (argsL := [(.int (0 : Int32)), (.ref ab)]) (rest := []) (lenOf own_pd227 rfl) rfl (Nat.le_of_eq rfl) (hb hby d18_2) (fun _ _ => ⟨rfl, e0, (by decide : 0 + 0 ≤ _), (by decide : 0 + 0 ≤ _)⟩)
  dsimp only [Pt.U, Pt.locs, Pt.cells, Pt.slots] at X665 l665 y665 z665 st665 hQ665
  rw [l665, y665, z665] at X665
  obtain ⟨rfl, Nq665, e665⟩ := hQ665
  have N665 := Fr.app N0 Nq665
  obtain ⟨_, _, ⟨T666, L666, k666, n666⟩, -, X666, ⟨Lc666, hQ666, l666, y666, z666⟩, st666⟩ := Jvm.LawKit.callS X665 hx hown (mvT hZ (H 58 _ rfl)) (mvT hZ (H 59 _ rfl)) (mvT hZ (H 21 _ rfl)) (mvT hZ (H 60 _ rfl)) (by decide) (backOf (W := 0) (rm14i0 l Z a0 hw [] ab cs vf kb cc0 cc1 cc2 cc3 h0 n0 Z0 O0 Scs hcs Ssf hvf Sas Shs Sls Vb hr0 hr1 hr2 hr3) hZ (H 60 _ rfl) (H 21 _ rfl) (by decide) (by decide)) (g := (mkF m 7 #[.val (.ref ab), .val (.int (0 : Int32))] [(.int (0 : Int32)), (.ref ab)])) rfl (by rw [hml]; rfl) (argsL := [(.ref ab), (.int (0 : Int32))]) (rest := []) (lenOf own_pd171 rfl) rfl (Nat.le_of_eq rfl) (hb hby d18_7) (fun _ _ => ⟨rfl, e665, (by decide : 0 + 0 ≤ _), (by decide : 0 + 0 ≤ _)⟩)
  dsimp only [Pt.U, Pt.locs, Pt.cells, Pt.slots] at X666 l666 y666 z666 st666 hQ666
  rw [l666, y666, z666] at X666
  obtain ⟨rfl, Nq666, e666⟩ := hQ666
  have N666 := Fr.app N665 Nq666
  obtain ⟨fs, hr, hrun, hended, hW, hsame⟩ := X666.leave (v := some (.int (nar .char cc0))) (fun h => by rw [Bd.returns] at h; cases h)
  refine ⟨_, _, pre0 _ ?_, hrun, hended, _, _, rfl, ?_, ⟨_, rfl⟩, hW, hsame.mono (by decide) (by decide)⟩
  · show Sp p e below m s₁ 0 #[.val (.ref ab), .val (.int (0 : Int32))] [] _
    refine XS.iloadN X0.here hx rfl (hb hby d18_0) rfl ?_
    refine XS.aloadN X0.here hx rfl (hb hby d18_1) rfl rfl ?_
    refine st665 _ ?_
    show Sp p e below m T665 5 #[.val (.ref ab), .val (.int (0 : Int32))] [] _
    refine XS.aloadN X665.here hx rfl (hb hby d18_5) rfl rfl ?_
    refine XS.iloadN X665.here hx rfl (hb hby d18_6) rfl ?_
    refine st666 _ ?_
    show Sp p e below m T666 10 #[.val (.ref ab), .val (.int (0 : Int32))] [(.int cc0)] _
    exact retN X666 hx (t := .char) Bd.returns (by simp) (hb hby d18_10) hr
  · show Q18i0 Z ab cs vf kb cc0 cc1 cc2 cc3 h0 n0 _ T666.heap _
    rw [e666]
    exact ⟨(congrArg (fun z => some (Value.int z)) (own_ncc cc0 hr0)), N666, rfl⟩
theorem d16_0 : decode jdk_42_method_56_code 0 = .ok (.aload_n 0, 1) := by decide +kernel
theorem d16_1 : decode jdk_42_method_56_code 1 = .ok (.invokevirtual 492, 3) := by decide +kernel
theorem own_pd234 : parseMethodDescriptor "()Z" = some ⟨[], some .boolean⟩ := by decide +kernel
theorem d16_4 : decode jdk_42_method_56_code 4 = .ok (.ifCond .eq 12, 3) := by decide +kernel
theorem d16_7 : decode jdk_42_method_56_code 7 = .ok (.aload_n 0, 1) := by decide +kernel
theorem d16_8 : decode jdk_42_method_56_code 8 = .ok (.getfield 9, 3) := by decide +kernel
theorem d16_11 : decode jdk_42_method_56_code 11 = .ok (.iload_n 1, 1) := by decide +kernel
theorem d16_12 : decode jdk_42_method_56_code 12 = .ok (.invokestatic 495, 3) := by decide +kernel
theorem d16_15 : decode jdk_42_method_56_code 15 = .ok (.ireturn, 1) := by decide +kernel
theorem d16_16 : decode jdk_42_method_56_code 16 = .ok (.aload_n 0, 1) := by decide +kernel
theorem d16_17 : decode jdk_42_method_56_code 17 = .ok (.getfield 9, 3) := by decide +kernel
theorem d16_20 : decode jdk_42_method_56_code 20 = .ok (.iload_n 1, 1) := by decide +kernel
theorem d16_21 : decode jdk_42_method_56_code 21 = .ok (.invokestatic 498, 3) := by decide +kernel
theorem d16_24 : decode jdk_42_method_56_code 24 = .ok (.ireturn, 1) := by decide +kernel
theorem ef_16i0 (m : MethodId) (x0 : Addr) : entryFrame m #[(.ref x0), (.int (0 : Int32))] 2 = mkF m 0 #[.val (.ref x0), .val (.int (0 : Int32))] [] := by first | (simp [entryFrame, mkF, argsToLocals, Value.category]; done) | rfl
def Q16i0 (Z : State) (aa : Addr) (cs : Int32) (vf : Value) (ab : Addr) (kb : ClassId) (cc0 : Int32) (cc1 : Int32) (cc2 : Int32) (cc3 : Int32) (h0 : Heap) (n0 : Nat) (v : Option Value) (h : Heap) (L : List Loc) : Prop := v = some (.int cc0) ∧ Fr n0 L ∧ h = h0
theorem rm16i0 (l : Launch) (Z : State) (a0 : Array Value) (hw : ∀ d ∈ tables_1, d.before a0 Z = true) (ws : List Jvm.Cond) (aa : Addr) (cs : Int32) (vf : Value) (ab : Addr) (kb : ClassId) (cc0 : Int32) (cc1 : Int32) (cc2 : Int32) (cc3 : Int32) (h0 : Heap) (n0 : Nat) (Z0 : n0 ≤ h0.size) (O0 : Old Z n0 h0) (Scs : Sta Z Z.heap "java/lang/String" "COMPACT_STRINGS" "Z" (.int cs)) (hcs : ¬ cs = (0 : Int32)) (Ssf : Sta Z Z.heap "jdk/internal/util/Preconditions" "SIOOBE_FORMATTER" "Ljava/util/function/BiFunction;" vf) (hvf : vf.isRef = true) (Sas : Sta Z Z.heap "java/lang/StringUTF16" "$assertionsDisabled" "Z" (.int (1 : Int32))) (Shs : Sta Z Z.heap "java/lang/StringUTF16" "HI_BYTE_SHIFT" "I" (.int (0 : Int32))) (Sls : Sta Z Z.heap "java/lang/StringUTF16" "LO_BYTE_SHIFT" "I" (.int (8 : Int32))) (Ea : Exa Z h0 aa "java/lang/String") (Fv : Fld Z h0 aa "java/lang/String" "value" "[B" (.ref ab)) (Hs : own_str Z h0 aa ab kb cc0 cc1 cc2 cc3) (hr0 : 0 ≤ cc0.toInt ∧ cc0.toInt ≤ 65535) (hr1 : 0 ≤ cc1.toInt ∧ cc1.toInt ≤ 65535) (hr2 : 0 ≤ cc2.toInt ∧ cc2.toInt ≤ 65535) (hr3 : 0 ≤ cc3.toInt ∧ cc3.toInt ≤ 65535) :
    MetFree l (⟨"java/lang/String", "charAt", "(I)C"⟩ : MethodName) (head1 (Jvm.Cond.code (⟨"java/lang/String", "charAt", "(I)C"⟩ : MethodName) jdk_42_method_56_code 2 (some .char) :: ws) ({ frames := 4, cells := 0, slots := 0, locals := 53 } : Room)) (fun a U => a = #[(.ref aa), (.int (0 : Int32))] ∧ Z.Warmed39 U.vm ∧ U.heap = h0) (fun _ _ _ _ _ => True) (fun _ U o U' => ∃ v L, o = .returned v ∧ Q16i0 Z aa cs vf ab kb cc0 cc1 cc2 cc3 h0 n0 v U'.heap L ∧ FrameEnd U o U' L ({ frames := 4, cells := 0, slots := 0, locals := 53 } : Room).cells ({ frames := 4, cells := 0, slots := 0, locals := 53 } : Room).slots) := by
  refine MetFree.of_bodySF (plainFor_of_name own_pn70) hisR ?_
  intro p e s m args below meth c s₁ Bd hml0 hP hK
  have H := fun i c (h : tables_1[i]? = some c) => hw c (List.mem_of_getElem? h)
  obtain ⟨rfl, hZ, hh⟩ := hP
  have hx := Bd.exec
  have hby := Bd.bytes
  have hml : c.maxLocals = 2 := hml0
  have hown : s.vm.findClass "java/lang/String" = some m.cls := findClass_of_methodNamed Bd.named
  have hnm := (name_of_methodNamed Bd.named Bd.method).1
  have X0 : Stand p l e ({ frames := 4, cells := 0, slots := 0, locals := 53 } : Room) s m #[(.ref aa), (.int (0 : Int32))] below meth c s₁ [] 0 0 := Stand.of_body Bd
  have e0 : s₁.heap = h0 := by rw [← hh, Bd.state]; rfl
  have N0 := Fr.nil n0
  have pre0 : ∀ t, Sp p e below m s₁ 0 #[.val (.ref aa), .val (.int (0 : Int32))] [] t → Steps p.tables e below (s₁.setTop (entryFrame m #[(.ref aa), (.int (0 : Int32))] 2)) t := fun t k => castTop (ef_16i0 m aa) k
  generalize s₁.setTop (entryFrame m #[(.ref aa), (.int (0 : Int32))] 2) = G0 at pre0 ⊢
  rcases Hs with ⟨Fc, Va, hp0, hp1, hp2, hp3⟩ | ⟨Fc, Va⟩
  · obtain ⟨cq673, kq673, q673a, q673b, q673c⟩ := isOf hZ e0 Ea
    obtain ⟨_, _, ⟨T673, L673, k673, n673⟩, -, X673, ⟨Lc673, hQ673, l673, y673, z673⟩, st673⟩ := X0.virtualBack hx hown (mvT hZ (H 69 _ rfl)) (mvT hZ (H 70 _ rfl)) (notFace_of_selects (args := #[]) (mvT hZ (H 72 _ rfl))) (mvT hZ (H 72 _ rfl)) (mvT hZ (H 71 _ rfl)) (by decide) (backOf (W := 0) (rm17 l Z a0 hw [] aa cs vf h0 n0 Z0 O0 Scs hcs Ssf hvf Sas Shs Sls Fc) hZ (H 73 _ rfl) (H 7 _ rfl) (by decide) (by decide)) q673a q673c (g := (mkF m 1 #[.val (.ref aa), .val (.int (0 : Int32))] [(.ref aa)])) rfl (by rw [hml]; rfl) (Steps.refl _) (argsL := []) (rest := []) (lenOf own_pd234 rfl) rfl (Nat.le_of_eq rfl) (hb hby d16_1) (fun _ _ => ⟨rfl, e0, (by decide : 0 + 0 ≤ _), (by decide : 0 + 0 ≤ _)⟩)
    dsimp only [Pt.U, Pt.locs, Pt.cells, Pt.slots] at X673 l673 y673 z673 st673 hQ673
    rw [l673, y673, z673] at X673
    obtain ⟨rfl, Nq673, e673⟩ := hQ673
    have N673 := Fr.app N0 Nq673
    obtain ⟨T674, X674, e674, st674⟩ := getF X673 hx hZ hown (host := "") (Or.inl (H 32 _ rfl)) Via.refl e673 Fv (g := (mkF m 8 #[.val (.ref aa), .val (.int (0 : Int32))] [(.ref aa)])) rfl rfl (hb hby d16_8)
    obtain ⟨_, _, ⟨T675, L675, k675, n675⟩, -, X675, ⟨Lc675, hQ675, l675, y675, z675⟩, st675⟩ := Jvm.LawKit.callS X674 hx hown (mvT hZ (H 91 _ rfl)) (mvT hZ (H 92 _ rfl)) (mvT hZ (H 93 _ rfl)) (mvT hZ (H 94 _ rfl)) (by decide) (backOf (W := 0) (rm23 l Z a0 hw [] ab (0 : Int32) cs vf kb (4 : Int32) [(.int (nar .byte (cc0.toInt8.toInt32))), (.int (nar .byte (cc1.toInt8.toInt32))), (.int (nar .byte (cc2.toInt8.toInt32))), (.int (nar .byte (cc3.toInt8.toInt32)))] (nar .byte (cc0.toInt8.toInt32)) h0 n0 Z0 O0 Scs hcs Ssf hvf Sas Shs Sls Va (by decide) (by decide) rfl) hZ (H 94 _ rfl) (H 93 _ rfl) (by decide) (by decide)) (g := (mkF m 12 #[.val (.ref aa), .val (.int (0 : Int32))] [(.int (0 : Int32)), (.ref ab)])) rfl (by rw [hml]; rfl) (argsL := [(.ref ab), (.int (0 : Int32))]) (rest := []) (lenOf own_pd171 rfl) rfl (Nat.le_of_eq rfl) (hb hby d16_12) (fun _ _ => ⟨rfl, e674, (by decide : 0 + 0 ≤ _), (by decide : 0 + 0 ≤ _)⟩)
    dsimp only [Pt.U, Pt.locs, Pt.cells, Pt.slots] at X675 l675 y675 z675 st675 hQ675
    rw [l675, y675, z675] at X675
    obtain ⟨rfl, Nq675, e675⟩ := hQ675
    have N675 := Fr.app N673 Nq675
    obtain ⟨fs, hr, hrun, hended, hW, hsame⟩ := X675.leave (v := some (.int (nar .char (own_lat (nar .byte (cc0.toInt8.toInt32)))))) (fun h => by rw [Bd.returns] at h; cases h)
    refine ⟨_, _, pre0 _ ?_, hrun, hended, _, _, rfl, ?_, ⟨_, rfl⟩, hW, hsame.mono (by decide) (by decide)⟩
    · show Sp p e below m s₁ 0 #[.val (.ref aa), .val (.int (0 : Int32))] [] _
      refine XS.aloadN X0.here hx rfl (hb hby d16_0) rfl rfl ?_
      refine st673.trans ?_
      show Sp p e below m T673 4 #[.val (.ref aa), .val (.int (0 : Int32))] [(.int (1 : Int32))] _
      refine XS.ifNo X673.here hx rfl (hb hby d16_4) rfl ((if0 _ _).trans (feq (by decide : ¬ ((1 : Int32) = (0 : Int32)))).1) ?_
      refine XS.aloadN X673.here hx rfl (hb hby d16_7) rfl rfl ?_
      refine st674 _ ?_
      show Sp p e below m T674 11 #[.val (.ref aa), .val (.int (0 : Int32))] [(.ref ab)] _
      refine XS.iloadN X674.here hx rfl (hb hby d16_11) rfl ?_
      refine st675 _ ?_
      show Sp p e below m T675 15 #[.val (.ref aa), .val (.int (0 : Int32))] [(.int (own_lat (nar .byte (cc0.toInt8.toInt32))))] _
      exact retN X675 hx (t := .char) Bd.returns (by simp) (hb hby d16_15) hr
    · show Q16i0 Z aa cs vf ab kb cc0 cc1 cc2 cc3 h0 n0 _ T675.heap _
      rw [e675]
      exact ⟨(congrArg (fun z => some (Value.int z)) ((congrArg (nar .char) (own_rt cc0 hp0)).trans (own_ncc cc0 hr0))), N675, rfl⟩
  · obtain ⟨cq676, kq676, q676a, q676b, q676c⟩ := isOf hZ e0 Ea
    obtain ⟨_, _, ⟨T676, L676, k676, n676⟩, -, X676, ⟨Lc676, hQ676, l676, y676, z676⟩, st676⟩ := X0.virtualBack hx hown (mvT hZ (H 69 _ rfl)) (mvT hZ (H 70 _ rfl)) (notFace_of_selects (args := #[]) (mvT hZ (H 72 _ rfl))) (mvT hZ (H 72 _ rfl)) (mvT hZ (H 71 _ rfl)) (by decide) (backOf (W := 0) (rm17u l Z a0 hw [] aa cs vf h0 n0 Z0 O0 Scs hcs Ssf hvf Sas Shs Sls Fc) hZ (H 73 _ rfl) (H 7 _ rfl) (by decide) (by decide)) q676a q676c (g := (mkF m 1 #[.val (.ref aa), .val (.int (0 : Int32))] [(.ref aa)])) rfl (by rw [hml]; rfl) (Steps.refl _) (argsL := []) (rest := []) (lenOf own_pd234 rfl) rfl (Nat.le_of_eq rfl) (hb hby d16_1) (fun _ _ => ⟨rfl, e0, (by decide : 0 + 0 ≤ _), (by decide : 0 + 0 ≤ _)⟩)
    dsimp only [Pt.U, Pt.locs, Pt.cells, Pt.slots] at X676 l676 y676 z676 st676 hQ676
    rw [l676, y676, z676] at X676
    obtain ⟨rfl, Nq676, e676⟩ := hQ676
    have N676 := Fr.app N0 Nq676
    obtain ⟨T677, X677, e677, st677⟩ := getF X676 hx hZ hown (host := "") (Or.inl (H 32 _ rfl)) Via.refl e676 Fv (g := (mkF m 17 #[.val (.ref aa), .val (.int (0 : Int32))] [(.ref aa)])) rfl rfl (hb hby d16_17)
    obtain ⟨_, _, ⟨T678, L678, k678, n678⟩, -, X678, ⟨Lc678, hQ678, l678, y678, z678⟩, st678⟩ := Jvm.LawKit.callS X677 hx hown (mvT hZ (H 74 _ rfl)) (mvT hZ (H 75 _ rfl)) (mvT hZ (H 21 _ rfl)) (mvT hZ (H 76 _ rfl)) (by decide) (backOf (W := 0) (rm18i0 l Z a0 hw [] ab cs vf kb cc0 cc1 cc2 cc3 h0 n0 Z0 O0 Scs hcs Ssf hvf Sas Shs Sls Va hr0 hr1 hr2 hr3) hZ (H 76 _ rfl) (H 21 _ rfl) (by decide) (by decide)) (g := (mkF m 21 #[.val (.ref aa), .val (.int (0 : Int32))] [(.int (0 : Int32)), (.ref ab)])) rfl (by rw [hml]; rfl) (argsL := [(.ref ab), (.int (0 : Int32))]) (rest := []) (lenOf own_pd171 rfl) rfl (Nat.le_of_eq rfl) (hb hby d16_21) (fun _ _ => ⟨rfl, e677, (by decide : 0 + 0 ≤ _), (by decide : 0 + 0 ≤ _)⟩)
    dsimp only [Pt.U, Pt.locs, Pt.cells, Pt.slots] at X678 l678 y678 z678 st678 hQ678
    rw [l678, y678, z678] at X678
    obtain ⟨rfl, Nq678, e678⟩ := hQ678
    have N678 := Fr.app N676 Nq678
    obtain ⟨fs, hr, hrun, hended, hW, hsame⟩ := X678.leave (v := some (.int (nar .char cc0))) (fun h => by rw [Bd.returns] at h; cases h)
    refine ⟨_, _, pre0 _ ?_, hrun, hended, _, _, rfl, ?_, ⟨_, rfl⟩, hW, hsame.mono (by decide) (by decide)⟩
    · show Sp p e below m s₁ 0 #[.val (.ref aa), .val (.int (0 : Int32))] [] _
      refine XS.aloadN X0.here hx rfl (hb hby d16_0) rfl rfl ?_
      refine st676.trans ?_
      show Sp p e below m T676 4 #[.val (.ref aa), .val (.int (0 : Int32))] [(.int (0 : Int32))] _
      refine XS.ifYes X676.here hx rfl (pc0 := 4) (pc' := 16) rfl (hb hby d16_4) rfl ((if0 _ _).trans (teq (by decide : ((0 : Int32) = (0 : Int32)))).1) (by decide) (by decide) ?_
      refine XS.aloadN X676.here hx rfl (hb hby d16_16) rfl rfl ?_
      refine st677 _ ?_
      show Sp p e below m T677 20 #[.val (.ref aa), .val (.int (0 : Int32))] [(.ref ab)] _
      refine XS.iloadN X677.here hx rfl (hb hby d16_20) rfl ?_
      refine st678 _ ?_
      show Sp p e below m T678 24 #[.val (.ref aa), .val (.int (0 : Int32))] [(.int cc0)] _
      exact retN X678 hx (t := .char) Bd.returns (by simp) (hb hby d16_24) hr
    · show Q16i0 Z aa cs vf ab kb cc0 cc1 cc2 cc3 h0 n0 _ T678.heap _
      rw [e678]
      exact ⟨(congrArg (fun z => some (Value.int z)) (own_ncc cc0 hr0)), N678, rfl⟩
theorem ef_18i1 (m : MethodId) (x0 : Addr) : entryFrame m #[(.ref x0), (.int (1 : Int32))] 2 = mkF m 0 #[.val (.ref x0), .val (.int (1 : Int32))] [] := by first | (simp [entryFrame, mkF, argsToLocals, Value.category]; done) | rfl
def Q18i1 (Z : State) (ab : Addr) (cs : Int32) (vf : Value) (kb : ClassId) (cc0 : Int32) (cc1 : Int32) (cc2 : Int32) (cc3 : Int32) (h0 : Heap) (n0 : Nat) (v : Option Value) (h : Heap) (L : List Loc) : Prop := v = some (.int cc1) ∧ Fr n0 L ∧ h = h0
theorem rm18i1 (l : Launch) (Z : State) (a0 : Array Value) (hw : ∀ d ∈ tables_1, d.before a0 Z = true) (ws : List Jvm.Cond) (ab : Addr) (cs : Int32) (vf : Value) (kb : ClassId) (cc0 : Int32) (cc1 : Int32) (cc2 : Int32) (cc3 : Int32) (h0 : Heap) (n0 : Nat) (Z0 : n0 ≤ h0.size) (O0 : Old Z n0 h0) (Scs : Sta Z Z.heap "java/lang/String" "COMPACT_STRINGS" "Z" (.int cs)) (hcs : ¬ cs = (0 : Int32)) (Ssf : Sta Z Z.heap "jdk/internal/util/Preconditions" "SIOOBE_FORMATTER" "Ljava/util/function/BiFunction;" vf) (hvf : vf.isRef = true) (Sas : Sta Z Z.heap "java/lang/StringUTF16" "$assertionsDisabled" "Z" (.int (1 : Int32))) (Shs : Sta Z Z.heap "java/lang/StringUTF16" "HI_BYTE_SHIFT" "I" (.int (0 : Int32))) (Sls : Sta Z Z.heap "java/lang/StringUTF16" "LO_BYTE_SHIFT" "I" (.int (8 : Int32))) (Vb : Arv Z h0 ab kb .byte (8 : Int32) [(.int (nar .byte ((cc0 >>> ((0 : Int32) &&& 31)).toInt8.toInt32))), (.int (nar .byte ((cc0 >>> ((8 : Int32) &&& 31)).toInt8.toInt32))), (.int (nar .byte ((cc1 >>> ((0 : Int32) &&& 31)).toInt8.toInt32))), (.int (nar .byte ((cc1 >>> ((8 : Int32) &&& 31)).toInt8.toInt32))), (.int (nar .byte ((cc2 >>> ((0 : Int32) &&& 31)).toInt8.toInt32))), (.int (nar .byte ((cc2 >>> ((8 : Int32) &&& 31)).toInt8.toInt32))), (.int (nar .byte ((cc3 >>> ((0 : Int32) &&& 31)).toInt8.toInt32))), (.int (nar .byte ((cc3 >>> ((8 : Int32) &&& 31)).toInt8.toInt32)))] (.int (0 : Int32))) (hr0 : 0 ≤ cc0.toInt ∧ cc0.toInt ≤ 65535) (hr1 : 0 ≤ cc1.toInt ∧ cc1.toInt ≤ 65535) (hr2 : 0 ≤ cc2.toInt ∧ cc2.toInt ≤ 65535) (hr3 : 0 ≤ cc3.toInt ∧ cc3.toInt ≤ 65535) :
    MetFree l (⟨"java/lang/StringUTF16", "charAt", "([BI)C"⟩ : MethodName) (head1 (Jvm.Cond.code (⟨"java/lang/StringUTF16", "charAt", "([BI)C"⟩ : MethodName) jdk_52_method_83_code 2 (some .char) :: ws) ({ frames := 3, cells := 0, slots := 0, locals := 40 } : Room)) (fun a U => a = #[(.ref ab), (.int (1 : Int32))] ∧ Z.Warmed39 U.vm ∧ U.heap = h0) (fun _ _ _ _ _ => True) (fun _ U o U' => ∃ v L, o = .returned v ∧ Q18i1 Z ab cs vf kb cc0 cc1 cc2 cc3 h0 n0 v U'.heap L ∧ FrameEnd U o U' L ({ frames := 3, cells := 0, slots := 0, locals := 40 } : Room).cells ({ frames := 3, cells := 0, slots := 0, locals := 40 } : Room).slots) := by
  refine MetFree.of_bodySF (plainFor_of_name own_pn23) hisR ?_
  intro p e s m args below meth c s₁ Bd hml0 hP hK
  have H := fun i c (h : tables_1[i]? = some c) => hw c (List.mem_of_getElem? h)
  obtain ⟨rfl, hZ, hh⟩ := hP
  have hx := Bd.exec
  have hby := Bd.bytes
  have hml : c.maxLocals = 2 := hml0
  have hown : s.vm.findClass "java/lang/StringUTF16" = some m.cls := findClass_of_methodNamed Bd.named
  have hnm := (name_of_methodNamed Bd.named Bd.method).1
  have X0 : Stand p l e ({ frames := 3, cells := 0, slots := 0, locals := 40 } : Room) s m #[(.ref ab), (.int (1 : Int32))] below meth c s₁ [] 0 0 := Stand.of_body Bd
  have e0 : s₁.heap = h0 := by rw [← hh, Bd.state]; rfl
  have N0 := Fr.nil n0
  have pre0 : ∀ t, Sp p e below m s₁ 0 #[.val (.ref ab), .val (.int (1 : Int32))] [] t → Steps p.tables e below (s₁.setTop (entryFrame m #[(.ref ab), (.int (1 : Int32))] 2)) t := fun t k => castTop (ef_18i1 m ab) k
  generalize s₁.setTop (entryFrame m #[(.ref ab), (.int (1 : Int32))] 2) = G0 at pre0 ⊢
  obtain ⟨_, _, ⟨T681, L681, k681, n681⟩, -, X681, ⟨Lc681, hQ681, l681, y681, z681⟩, st681⟩ := Jvm.LawKit.callS X0 hx hown (mvT hZ (H 77 _ rfl)) (mvT hZ (H 78 _ rfl)) (mvT hZ (H 21 _ rfl)) (mvT hZ (H 79 _ rfl)) (by decide) (backOf (W := 0) (rm19 l Z a0 hw [] (1 : Int32) ab cs vf kb [(.int (nar .byte ((cc0 >>> ((0 : Int32) &&& 31)).toInt8.toInt32))), (.int (nar .byte ((cc0 >>> ((8 : Int32) &&& 31)).toInt8.toInt32))), (.int (nar .byte ((cc1 >>> ((0 : Int32) &&& 31)).toInt8.toInt32))), (.int (nar .byte ((cc1 >>> ((8 : Int32) &&& 31)).toInt8.toInt32))), (.int (nar .byte ((cc2 >>> ((0 : Int32) &&& 31)).toInt8.toInt32))), (.int (nar .byte ((cc2 >>> ((8 : Int32) &&& 31)).toInt8.toInt32))), (.int (nar .byte ((cc3 >>> ((0 : Int32) &&& 31)).toInt8.toInt32))), (.int (nar .byte ((cc3 >>> ((8 : Int32) &&& 31)).toInt8.toInt32)))] h0 n0 Z0 O0 Scs hcs Ssf hvf Sas Shs Sls Vb (by decide) (by decide)) hZ (H 79 _ rfl) (H 21 _ rfl) (by decide) (by decide)) (g := (mkF m 2 #[.val (.ref ab), .val (.int (1 : Int32))] [(.ref ab), (.int (1 : Int32))])) rfl (by rw [hml]; rfl) (argsL := [(.int (1 : Int32)), (.ref ab)]) (rest := []) (lenOf own_pd227 rfl) rfl (Nat.le_of_eq rfl) (hb hby d18_2) (fun _ _ => ⟨rfl, e0, (by decide : 0 + 0 ≤ _), (by decide : 0 + 0 ≤ _)⟩)
  dsimp only [Pt.U, Pt.locs, Pt.cells, Pt.slots] at X681 l681 y681 z681 st681 hQ681
  rw [l681, y681, z681] at X681
  obtain ⟨rfl, Nq681, e681⟩ := hQ681
  have N681 := Fr.app N0 Nq681
  obtain ⟨_, _, ⟨T682, L682, k682, n682⟩, -, X682, ⟨Lc682, hQ682, l682, y682, z682⟩, st682⟩ := Jvm.LawKit.callS X681 hx hown (mvT hZ (H 58 _ rfl)) (mvT hZ (H 59 _ rfl)) (mvT hZ (H 21 _ rfl)) (mvT hZ (H 60 _ rfl)) (by decide) (backOf (W := 0) (rm14i1 l Z a0 hw [] ab cs vf kb cc0 cc1 cc2 cc3 h0 n0 Z0 O0 Scs hcs Ssf hvf Sas Shs Sls Vb hr0 hr1 hr2 hr3) hZ (H 60 _ rfl) (H 21 _ rfl) (by decide) (by decide)) (g := (mkF m 7 #[.val (.ref ab), .val (.int (1 : Int32))] [(.int (1 : Int32)), (.ref ab)])) rfl (by rw [hml]; rfl) (argsL := [(.ref ab), (.int (1 : Int32))]) (rest := []) (lenOf own_pd171 rfl) rfl (Nat.le_of_eq rfl) (hb hby d18_7) (fun _ _ => ⟨rfl, e681, (by decide : 0 + 0 ≤ _), (by decide : 0 + 0 ≤ _)⟩)
  dsimp only [Pt.U, Pt.locs, Pt.cells, Pt.slots] at X682 l682 y682 z682 st682 hQ682
  rw [l682, y682, z682] at X682
  obtain ⟨rfl, Nq682, e682⟩ := hQ682
  have N682 := Fr.app N681 Nq682
  obtain ⟨fs, hr, hrun, hended, hW, hsame⟩ := X682.leave (v := some (.int (nar .char cc1))) (fun h => by rw [Bd.returns] at h; cases h)
  refine ⟨_, _, pre0 _ ?_, hrun, hended, _, _, rfl, ?_, ⟨_, rfl⟩, hW, hsame.mono (by decide) (by decide)⟩
  · show Sp p e below m s₁ 0 #[.val (.ref ab), .val (.int (1 : Int32))] [] _
    refine XS.iloadN X0.here hx rfl (hb hby d18_0) rfl ?_
    refine XS.aloadN X0.here hx rfl (hb hby d18_1) rfl rfl ?_
    refine st681 _ ?_
    show Sp p e below m T681 5 #[.val (.ref ab), .val (.int (1 : Int32))] [] _
    refine XS.aloadN X681.here hx rfl (hb hby d18_5) rfl rfl ?_
    refine XS.iloadN X681.here hx rfl (hb hby d18_6) rfl ?_
    refine st682 _ ?_
    show Sp p e below m T682 10 #[.val (.ref ab), .val (.int (1 : Int32))] [(.int cc1)] _
    exact retN X682 hx (t := .char) Bd.returns (by simp) (hb hby d18_10) hr
  · show Q18i1 Z ab cs vf kb cc0 cc1 cc2 cc3 h0 n0 _ T682.heap _
    rw [e682]
    exact ⟨(congrArg (fun z => some (Value.int z)) (own_ncc cc1 hr1)), N682, rfl⟩
theorem ef_16i1 (m : MethodId) (x0 : Addr) : entryFrame m #[(.ref x0), (.int (1 : Int32))] 2 = mkF m 0 #[.val (.ref x0), .val (.int (1 : Int32))] [] := by first | (simp [entryFrame, mkF, argsToLocals, Value.category]; done) | rfl
def Q16i1 (Z : State) (aa : Addr) (cs : Int32) (vf : Value) (ab : Addr) (kb : ClassId) (cc0 : Int32) (cc1 : Int32) (cc2 : Int32) (cc3 : Int32) (h0 : Heap) (n0 : Nat) (v : Option Value) (h : Heap) (L : List Loc) : Prop := v = some (.int cc1) ∧ Fr n0 L ∧ h = h0
theorem rm16i1 (l : Launch) (Z : State) (a0 : Array Value) (hw : ∀ d ∈ tables_1, d.before a0 Z = true) (ws : List Jvm.Cond) (aa : Addr) (cs : Int32) (vf : Value) (ab : Addr) (kb : ClassId) (cc0 : Int32) (cc1 : Int32) (cc2 : Int32) (cc3 : Int32) (h0 : Heap) (n0 : Nat) (Z0 : n0 ≤ h0.size) (O0 : Old Z n0 h0) (Scs : Sta Z Z.heap "java/lang/String" "COMPACT_STRINGS" "Z" (.int cs)) (hcs : ¬ cs = (0 : Int32)) (Ssf : Sta Z Z.heap "jdk/internal/util/Preconditions" "SIOOBE_FORMATTER" "Ljava/util/function/BiFunction;" vf) (hvf : vf.isRef = true) (Sas : Sta Z Z.heap "java/lang/StringUTF16" "$assertionsDisabled" "Z" (.int (1 : Int32))) (Shs : Sta Z Z.heap "java/lang/StringUTF16" "HI_BYTE_SHIFT" "I" (.int (0 : Int32))) (Sls : Sta Z Z.heap "java/lang/StringUTF16" "LO_BYTE_SHIFT" "I" (.int (8 : Int32))) (Ea : Exa Z h0 aa "java/lang/String") (Fv : Fld Z h0 aa "java/lang/String" "value" "[B" (.ref ab)) (Hs : own_str Z h0 aa ab kb cc0 cc1 cc2 cc3) (hr0 : 0 ≤ cc0.toInt ∧ cc0.toInt ≤ 65535) (hr1 : 0 ≤ cc1.toInt ∧ cc1.toInt ≤ 65535) (hr2 : 0 ≤ cc2.toInt ∧ cc2.toInt ≤ 65535) (hr3 : 0 ≤ cc3.toInt ∧ cc3.toInt ≤ 65535) :
    MetFree l (⟨"java/lang/String", "charAt", "(I)C"⟩ : MethodName) (head1 (Jvm.Cond.code (⟨"java/lang/String", "charAt", "(I)C"⟩ : MethodName) jdk_42_method_56_code 2 (some .char) :: ws) ({ frames := 4, cells := 0, slots := 0, locals := 53 } : Room)) (fun a U => a = #[(.ref aa), (.int (1 : Int32))] ∧ Z.Warmed39 U.vm ∧ U.heap = h0) (fun _ _ _ _ _ => True) (fun _ U o U' => ∃ v L, o = .returned v ∧ Q16i1 Z aa cs vf ab kb cc0 cc1 cc2 cc3 h0 n0 v U'.heap L ∧ FrameEnd U o U' L ({ frames := 4, cells := 0, slots := 0, locals := 53 } : Room).cells ({ frames := 4, cells := 0, slots := 0, locals := 53 } : Room).slots) := by
  refine MetFree.of_bodySF (plainFor_of_name own_pn70) hisR ?_
  intro p e s m args below meth c s₁ Bd hml0 hP hK
  have H := fun i c (h : tables_1[i]? = some c) => hw c (List.mem_of_getElem? h)
  obtain ⟨rfl, hZ, hh⟩ := hP
  have hx := Bd.exec
  have hby := Bd.bytes
  have hml : c.maxLocals = 2 := hml0
  have hown : s.vm.findClass "java/lang/String" = some m.cls := findClass_of_methodNamed Bd.named
  have hnm := (name_of_methodNamed Bd.named Bd.method).1
  have X0 : Stand p l e ({ frames := 4, cells := 0, slots := 0, locals := 53 } : Room) s m #[(.ref aa), (.int (1 : Int32))] below meth c s₁ [] 0 0 := Stand.of_body Bd
  have e0 : s₁.heap = h0 := by rw [← hh, Bd.state]; rfl
  have N0 := Fr.nil n0
  have pre0 : ∀ t, Sp p e below m s₁ 0 #[.val (.ref aa), .val (.int (1 : Int32))] [] t → Steps p.tables e below (s₁.setTop (entryFrame m #[(.ref aa), (.int (1 : Int32))] 2)) t := fun t k => castTop (ef_16i1 m aa) k
  generalize s₁.setTop (entryFrame m #[(.ref aa), (.int (1 : Int32))] 2) = G0 at pre0 ⊢
  rcases Hs with ⟨Fc, Va, hp0, hp1, hp2, hp3⟩ | ⟨Fc, Va⟩
  · obtain ⟨cq689, kq689, q689a, q689b, q689c⟩ := isOf hZ e0 Ea
    obtain ⟨_, _, ⟨T689, L689, k689, n689⟩, -, X689, ⟨Lc689, hQ689, l689, y689, z689⟩, st689⟩ := X0.virtualBack hx hown (mvT hZ (H 69 _ rfl)) (mvT hZ (H 70 _ rfl)) (notFace_of_selects (args := #[]) (mvT hZ (H 72 _ rfl))) (mvT hZ (H 72 _ rfl)) (mvT hZ (H 71 _ rfl)) (by decide) (backOf (W := 0) (rm17 l Z a0 hw [] aa cs vf h0 n0 Z0 O0 Scs hcs Ssf hvf Sas Shs Sls Fc) hZ (H 73 _ rfl) (H 7 _ rfl) (by decide) (by decide)) q689a q689c (g := (mkF m 1 #[.val (.ref aa), .val (.int (1 : Int32))] [(.ref aa)])) rfl (by rw [hml]; rfl) (Steps.refl _) (argsL := []) (rest := []) (lenOf own_pd234 rfl) rfl (Nat.le_of_eq rfl) (hb hby d16_1) (fun _ _ => ⟨rfl, e0, (by decide : 0 + 0 ≤ _), (by decide : 0 + 0 ≤ _)⟩)
    dsimp only [Pt.U, Pt.locs, Pt.cells, Pt.slots] at X689 l689 y689 z689 st689 hQ689
    rw [l689, y689, z689] at X689
    obtain ⟨rfl, Nq689, e689⟩ := hQ689
    have N689 := Fr.app N0 Nq689
    obtain ⟨T690, X690, e690, st690⟩ := getF X689 hx hZ hown (host := "") (Or.inl (H 32 _ rfl)) Via.refl e689 Fv (g := (mkF m 8 #[.val (.ref aa), .val (.int (1 : Int32))] [(.ref aa)])) rfl rfl (hb hby d16_8)
    obtain ⟨_, _, ⟨T691, L691, k691, n691⟩, -, X691, ⟨Lc691, hQ691, l691, y691, z691⟩, st691⟩ := Jvm.LawKit.callS X690 hx hown (mvT hZ (H 91 _ rfl)) (mvT hZ (H 92 _ rfl)) (mvT hZ (H 93 _ rfl)) (mvT hZ (H 94 _ rfl)) (by decide) (backOf (W := 0) (rm23 l Z a0 hw [] ab (1 : Int32) cs vf kb (4 : Int32) [(.int (nar .byte (cc0.toInt8.toInt32))), (.int (nar .byte (cc1.toInt8.toInt32))), (.int (nar .byte (cc2.toInt8.toInt32))), (.int (nar .byte (cc3.toInt8.toInt32)))] (nar .byte (cc1.toInt8.toInt32)) h0 n0 Z0 O0 Scs hcs Ssf hvf Sas Shs Sls Va (by decide) (by decide) rfl) hZ (H 94 _ rfl) (H 93 _ rfl) (by decide) (by decide)) (g := (mkF m 12 #[.val (.ref aa), .val (.int (1 : Int32))] [(.int (1 : Int32)), (.ref ab)])) rfl (by rw [hml]; rfl) (argsL := [(.ref ab), (.int (1 : Int32))]) (rest := []) (lenOf own_pd171 rfl) rfl (Nat.le_of_eq rfl) (hb hby d16_12) (fun _ _ => ⟨rfl, e690, (by decide : 0 + 0 ≤ _), (by decide : 0 + 0 ≤ _)⟩)
    dsimp only [Pt.U, Pt.locs, Pt.cells, Pt.slots] at X691 l691 y691 z691 st691 hQ691
    rw [l691, y691, z691] at X691
    obtain ⟨rfl, Nq691, e691⟩ := hQ691
    have N691 := Fr.app N689 Nq691
    obtain ⟨fs, hr, hrun, hended, hW, hsame⟩ := X691.leave (v := some (.int (nar .char (own_lat (nar .byte (cc1.toInt8.toInt32)))))) (fun h => by rw [Bd.returns] at h; cases h)
    refine ⟨_, _, pre0 _ ?_, hrun, hended, _, _, rfl, ?_, ⟨_, rfl⟩, hW, hsame.mono (by decide) (by decide)⟩
    · show Sp p e below m s₁ 0 #[.val (.ref aa), .val (.int (1 : Int32))] [] _
      refine XS.aloadN X0.here hx rfl (hb hby d16_0) rfl rfl ?_
      refine st689.trans ?_
      show Sp p e below m T689 4 #[.val (.ref aa), .val (.int (1 : Int32))] [(.int (1 : Int32))] _
      refine XS.ifNo X689.here hx rfl (hb hby d16_4) rfl ((if0 _ _).trans (feq (by decide : ¬ ((1 : Int32) = (0 : Int32)))).1) ?_
      refine XS.aloadN X689.here hx rfl (hb hby d16_7) rfl rfl ?_
      refine st690 _ ?_
      show Sp p e below m T690 11 #[.val (.ref aa), .val (.int (1 : Int32))] [(.ref ab)] _
      refine XS.iloadN X690.here hx rfl (hb hby d16_11) rfl ?_
      refine st691 _ ?_
      show Sp p e below m T691 15 #[.val (.ref aa), .val (.int (1 : Int32))] [(.int (own_lat (nar .byte (cc1.toInt8.toInt32))))] _
      exact retN X691 hx (t := .char) Bd.returns (by simp) (hb hby d16_15) hr
    · show Q16i1 Z aa cs vf ab kb cc0 cc1 cc2 cc3 h0 n0 _ T691.heap _
      rw [e691]
      exact ⟨(congrArg (fun z => some (Value.int z)) ((congrArg (nar .char) (own_rt cc1 hp1)).trans (own_ncc cc1 hr1))), N691, rfl⟩
  · obtain ⟨cq692, kq692, q692a, q692b, q692c⟩ := isOf hZ e0 Ea
    obtain ⟨_, _, ⟨T692, L692, k692, n692⟩, -, X692, ⟨Lc692, hQ692, l692, y692, z692⟩, st692⟩ := X0.virtualBack hx hown (mvT hZ (H 69 _ rfl)) (mvT hZ (H 70 _ rfl)) (notFace_of_selects (args := #[]) (mvT hZ (H 72 _ rfl))) (mvT hZ (H 72 _ rfl)) (mvT hZ (H 71 _ rfl)) (by decide) (backOf (W := 0) (rm17u l Z a0 hw [] aa cs vf h0 n0 Z0 O0 Scs hcs Ssf hvf Sas Shs Sls Fc) hZ (H 73 _ rfl) (H 7 _ rfl) (by decide) (by decide)) q692a q692c (g := (mkF m 1 #[.val (.ref aa), .val (.int (1 : Int32))] [(.ref aa)])) rfl (by rw [hml]; rfl) (Steps.refl _) (argsL := []) (rest := []) (lenOf own_pd234 rfl) rfl (Nat.le_of_eq rfl) (hb hby d16_1) (fun _ _ => ⟨rfl, e0, (by decide : 0 + 0 ≤ _), (by decide : 0 + 0 ≤ _)⟩)
    dsimp only [Pt.U, Pt.locs, Pt.cells, Pt.slots] at X692 l692 y692 z692 st692 hQ692
    rw [l692, y692, z692] at X692
    obtain ⟨rfl, Nq692, e692⟩ := hQ692
    have N692 := Fr.app N0 Nq692
    obtain ⟨T693, X693, e693, st693⟩ := getF X692 hx hZ hown (host := "") (Or.inl (H 32 _ rfl)) Via.refl e692 Fv (g := (mkF m 17 #[.val (.ref aa), .val (.int (1 : Int32))] [(.ref aa)])) rfl rfl (hb hby d16_17)
    obtain ⟨_, _, ⟨T694, L694, k694, n694⟩, -, X694, ⟨Lc694, hQ694, l694, y694, z694⟩, st694⟩ := Jvm.LawKit.callS X693 hx hown (mvT hZ (H 74 _ rfl)) (mvT hZ (H 75 _ rfl)) (mvT hZ (H 21 _ rfl)) (mvT hZ (H 76 _ rfl)) (by decide) (backOf (W := 0) (rm18i1 l Z a0 hw [] ab cs vf kb cc0 cc1 cc2 cc3 h0 n0 Z0 O0 Scs hcs Ssf hvf Sas Shs Sls Va hr0 hr1 hr2 hr3) hZ (H 76 _ rfl) (H 21 _ rfl) (by decide) (by decide)) (g := (mkF m 21 #[.val (.ref aa), .val (.int (1 : Int32))] [(.int (1 : Int32)), (.ref ab)])) rfl (by rw [hml]; rfl) (argsL := [(.ref ab), (.int (1 : Int32))]) (rest := []) (lenOf own_pd171 rfl) rfl (Nat.le_of_eq rfl) (hb hby d16_21) (fun _ _ => ⟨rfl, e693, (by decide : 0 + 0 ≤ _), (by decide : 0 + 0 ≤ _)⟩)
    dsimp only [Pt.U, Pt.locs, Pt.cells, Pt.slots] at X694 l694 y694 z694 st694 hQ694
    rw [l694, y694, z694] at X694
    obtain ⟨rfl, Nq694, e694⟩ := hQ694
    have N694 := Fr.app N692 Nq694
    obtain ⟨fs, hr, hrun, hended, hW, hsame⟩ := X694.leave (v := some (.int (nar .char cc1))) (fun h => by rw [Bd.returns] at h; cases h)
    refine ⟨_, _, pre0 _ ?_, hrun, hended, _, _, rfl, ?_, ⟨_, rfl⟩, hW, hsame.mono (by decide) (by decide)⟩
    · show Sp p e below m s₁ 0 #[.val (.ref aa), .val (.int (1 : Int32))] [] _
      refine XS.aloadN X0.here hx rfl (hb hby d16_0) rfl rfl ?_
      refine st692.trans ?_
      show Sp p e below m T692 4 #[.val (.ref aa), .val (.int (1 : Int32))] [(.int (0 : Int32))] _
      refine XS.ifYes X692.here hx rfl (pc0 := 4) (pc' := 16) rfl (hb hby d16_4) rfl ((if0 _ _).trans (teq (by decide : ((0 : Int32) = (0 : Int32)))).1) (by decide) (by decide) ?_
      refine XS.aloadN X692.here hx rfl (hb hby d16_16) rfl rfl ?_
      refine st693 _ ?_
      show Sp p e below m T693 20 #[.val (.ref aa), .val (.int (1 : Int32))] [(.ref ab)] _
      refine XS.iloadN X693.here hx rfl (hb hby d16_20) rfl ?_
      refine st694 _ ?_
      show Sp p e below m T694 24 #[.val (.ref aa), .val (.int (1 : Int32))] [(.int cc1)] _
      exact retN X694 hx (t := .char) Bd.returns (by simp) (hb hby d16_24) hr
    · show Q16i1 Z aa cs vf ab kb cc0 cc1 cc2 cc3 h0 n0 _ T694.heap _
      rw [e694]
      exact ⟨(congrArg (fun z => some (Value.int z)) (own_ncc cc1 hr1)), N694, rfl⟩
theorem ef_18i2 (m : MethodId) (x0 : Addr) : entryFrame m #[(.ref x0), (.int (2 : Int32))] 2 = mkF m 0 #[.val (.ref x0), .val (.int (2 : Int32))] [] := by first | (simp [entryFrame, mkF, argsToLocals, Value.category]; done) | rfl
def Q18i2 (Z : State) (ab : Addr) (cs : Int32) (vf : Value) (kb : ClassId) (cc0 : Int32) (cc1 : Int32) (cc2 : Int32) (cc3 : Int32) (h0 : Heap) (n0 : Nat) (v : Option Value) (h : Heap) (L : List Loc) : Prop := v = some (.int cc2) ∧ Fr n0 L ∧ h = h0
theorem rm18i2 (l : Launch) (Z : State) (a0 : Array Value) (hw : ∀ d ∈ tables_1, d.before a0 Z = true) (ws : List Jvm.Cond) (ab : Addr) (cs : Int32) (vf : Value) (kb : ClassId) (cc0 : Int32) (cc1 : Int32) (cc2 : Int32) (cc3 : Int32) (h0 : Heap) (n0 : Nat) (Z0 : n0 ≤ h0.size) (O0 : Old Z n0 h0) (Scs : Sta Z Z.heap "java/lang/String" "COMPACT_STRINGS" "Z" (.int cs)) (hcs : ¬ cs = (0 : Int32)) (Ssf : Sta Z Z.heap "jdk/internal/util/Preconditions" "SIOOBE_FORMATTER" "Ljava/util/function/BiFunction;" vf) (hvf : vf.isRef = true) (Sas : Sta Z Z.heap "java/lang/StringUTF16" "$assertionsDisabled" "Z" (.int (1 : Int32))) (Shs : Sta Z Z.heap "java/lang/StringUTF16" "HI_BYTE_SHIFT" "I" (.int (0 : Int32))) (Sls : Sta Z Z.heap "java/lang/StringUTF16" "LO_BYTE_SHIFT" "I" (.int (8 : Int32))) (Vb : Arv Z h0 ab kb .byte (8 : Int32) [(.int (nar .byte ((cc0 >>> ((0 : Int32) &&& 31)).toInt8.toInt32))), (.int (nar .byte ((cc0 >>> ((8 : Int32) &&& 31)).toInt8.toInt32))), (.int (nar .byte ((cc1 >>> ((0 : Int32) &&& 31)).toInt8.toInt32))), (.int (nar .byte ((cc1 >>> ((8 : Int32) &&& 31)).toInt8.toInt32))), (.int (nar .byte ((cc2 >>> ((0 : Int32) &&& 31)).toInt8.toInt32))), (.int (nar .byte ((cc2 >>> ((8 : Int32) &&& 31)).toInt8.toInt32))), (.int (nar .byte ((cc3 >>> ((0 : Int32) &&& 31)).toInt8.toInt32))), (.int (nar .byte ((cc3 >>> ((8 : Int32) &&& 31)).toInt8.toInt32)))] (.int (0 : Int32))) (hr0 : 0 ≤ cc0.toInt ∧ cc0.toInt ≤ 65535) (hr1 : 0 ≤ cc1.toInt ∧ cc1.toInt ≤ 65535) (hr2 : 0 ≤ cc2.toInt ∧ cc2.toInt ≤ 65535) (hr3 : 0 ≤ cc3.toInt ∧ cc3.toInt ≤ 65535) :
    MetFree l (⟨"java/lang/StringUTF16", "charAt", "([BI)C"⟩ : MethodName) (head1 (Jvm.Cond.code (⟨"java/lang/StringUTF16", "charAt", "([BI)C"⟩ : MethodName) jdk_52_method_83_code 2 (some .char) :: ws) ({ frames := 3, cells := 0, slots := 0, locals := 40 } : Room)) (fun a U => a = #[(.ref ab), (.int (2 : Int32))] ∧ Z.Warmed39 U.vm ∧ U.heap = h0) (fun _ _ _ _ _ => True) (fun _ U o U' => ∃ v L, o = .returned v ∧ Q18i2 Z ab cs vf kb cc0 cc1 cc2 cc3 h0 n0 v U'.heap L ∧ FrameEnd U o U' L ({ frames := 3, cells := 0, slots := 0, locals := 40 } : Room).cells ({ frames := 3, cells := 0, slots := 0, locals := 40 } : Room).slots) := by
  refine MetFree.of_bodySF (plainFor_of_name own_pn23) hisR ?_
  intro p e s m args below meth c s₁ Bd hml0 hP hK
  have H := fun i c (h : tables_1[i]? = some c) => hw c (List.mem_of_getElem? h)
  obtain ⟨rfl, hZ, hh⟩ := hP
  have hx := Bd.exec
  have hby := Bd.bytes
  have hml : c.maxLocals = 2 := hml0
  have hown : s.vm.findClass "java/lang/StringUTF16" = some m.cls := findClass_of_methodNamed Bd.named
  have hnm := (name_of_methodNamed Bd.named Bd.method).1
  have X0 : Stand p l e ({ frames := 3, cells := 0, slots := 0, locals := 40 } : Room) s m #[(.ref ab), (.int (2 : Int32))] below meth c s₁ [] 0 0 := Stand.of_body Bd
  have e0 : s₁.heap = h0 := by rw [← hh, Bd.state]; rfl
  have N0 := Fr.nil n0
  have pre0 : ∀ t, Sp p e below m s₁ 0 #[.val (.ref ab), .val (.int (2 : Int32))] [] t → Steps p.tables e below (s₁.setTop (entryFrame m #[(.ref ab), (.int (2 : Int32))] 2)) t := fun t k => castTop (ef_18i2 m ab) k
  generalize s₁.setTop (entryFrame m #[(.ref ab), (.int (2 : Int32))] 2) = G0 at pre0 ⊢
  obtain ⟨_, _, ⟨T697, L697, k697, n697⟩, -, X697, ⟨Lc697, hQ697, l697, y697, z697⟩, st697⟩ := Jvm.LawKit.callS X0 hx hown (mvT hZ (H 77 _ rfl)) (mvT hZ (H 78 _ rfl)) (mvT hZ (H 21 _ rfl)) (mvT hZ (H 79 _ rfl)) (by decide) (backOf (W := 0) (rm19 l Z a0 hw [] (2 : Int32) ab cs vf kb [(.int (nar .byte ((cc0 >>> ((0 : Int32) &&& 31)).toInt8.toInt32))), (.int (nar .byte ((cc0 >>> ((8 : Int32) &&& 31)).toInt8.toInt32))), (.int (nar .byte ((cc1 >>> ((0 : Int32) &&& 31)).toInt8.toInt32))), (.int (nar .byte ((cc1 >>> ((8 : Int32) &&& 31)).toInt8.toInt32))), (.int (nar .byte ((cc2 >>> ((0 : Int32) &&& 31)).toInt8.toInt32))), (.int (nar .byte ((cc2 >>> ((8 : Int32) &&& 31)).toInt8.toInt32))), (.int (nar .byte ((cc3 >>> ((0 : Int32) &&& 31)).toInt8.toInt32))), (.int (nar .byte ((cc3 >>> ((8 : Int32) &&& 31)).toInt8.toInt32)))] h0 n0 Z0 O0 Scs hcs Ssf hvf Sas Shs Sls Vb (by decide) (by decide)) hZ (H 79 _ rfl) (H 21 _ rfl) (by decide) (by decide)) (g := (mkF m 2 #[.val (.ref ab), .val (.int (2 : Int32))] [(.ref ab), (.int (2 : Int32))])) rfl (by rw [hml]; rfl) (argsL := [(.int (2 : Int32)), (.ref ab)]) (rest := []) (lenOf own_pd227 rfl) rfl (Nat.le_of_eq rfl) (hb hby d18_2) (fun _ _ => ⟨rfl, e0, (by decide : 0 + 0 ≤ _), (by decide : 0 + 0 ≤ _)⟩)
  dsimp only [Pt.U, Pt.locs, Pt.cells, Pt.slots] at X697 l697 y697 z697 st697 hQ697
  rw [l697, y697, z697] at X697
  obtain ⟨rfl, Nq697, e697⟩ := hQ697
  have N697 := Fr.app N0 Nq697
  obtain ⟨_, _, ⟨T698, L698, k698, n698⟩, -, X698, ⟨Lc698, hQ698, l698, y698, z698⟩, st698⟩ := Jvm.LawKit.callS X697 hx hown (mvT hZ (H 58 _ rfl)) (mvT hZ (H 59 _ rfl)) (mvT hZ (H 21 _ rfl)) (mvT hZ (H 60 _ rfl)) (by decide) (backOf (W := 0) (rm14i2 l Z a0 hw [] ab cs vf kb cc0 cc1 cc2 cc3 h0 n0 Z0 O0 Scs hcs Ssf hvf Sas Shs Sls Vb hr0 hr1 hr2 hr3) hZ (H 60 _ rfl) (H 21 _ rfl) (by decide) (by decide)) (g := (mkF m 7 #[.val (.ref ab), .val (.int (2 : Int32))] [(.int (2 : Int32)), (.ref ab)])) rfl (by rw [hml]; rfl) (argsL := [(.ref ab), (.int (2 : Int32))]) (rest := []) (lenOf own_pd171 rfl) rfl (Nat.le_of_eq rfl) (hb hby d18_7) (fun _ _ => ⟨rfl, e697, (by decide : 0 + 0 ≤ _), (by decide : 0 + 0 ≤ _)⟩)
  dsimp only [Pt.U, Pt.locs, Pt.cells, Pt.slots] at X698 l698 y698 z698 st698 hQ698
  rw [l698, y698, z698] at X698
  obtain ⟨rfl, Nq698, e698⟩ := hQ698
  have N698 := Fr.app N697 Nq698
  obtain ⟨fs, hr, hrun, hended, hW, hsame⟩ := X698.leave (v := some (.int (nar .char cc2))) (fun h => by rw [Bd.returns] at h; cases h)
  refine ⟨_, _, pre0 _ ?_, hrun, hended, _, _, rfl, ?_, ⟨_, rfl⟩, hW, hsame.mono (by decide) (by decide)⟩
  · show Sp p e below m s₁ 0 #[.val (.ref ab), .val (.int (2 : Int32))] [] _
    refine XS.iloadN X0.here hx rfl (hb hby d18_0) rfl ?_
    refine XS.aloadN X0.here hx rfl (hb hby d18_1) rfl rfl ?_
    refine st697 _ ?_
    show Sp p e below m T697 5 #[.val (.ref ab), .val (.int (2 : Int32))] [] _
    refine XS.aloadN X697.here hx rfl (hb hby d18_5) rfl rfl ?_
    refine XS.iloadN X697.here hx rfl (hb hby d18_6) rfl ?_
    refine st698 _ ?_
    show Sp p e below m T698 10 #[.val (.ref ab), .val (.int (2 : Int32))] [(.int cc2)] _
    exact retN X698 hx (t := .char) Bd.returns (by simp) (hb hby d18_10) hr
  · show Q18i2 Z ab cs vf kb cc0 cc1 cc2 cc3 h0 n0 _ T698.heap _
    rw [e698]
    exact ⟨(congrArg (fun z => some (Value.int z)) (own_ncc cc2 hr2)), N698, rfl⟩
theorem ef_16i2 (m : MethodId) (x0 : Addr) : entryFrame m #[(.ref x0), (.int (2 : Int32))] 2 = mkF m 0 #[.val (.ref x0), .val (.int (2 : Int32))] [] := by first | (simp [entryFrame, mkF, argsToLocals, Value.category]; done) | rfl
def Q16i2 (Z : State) (aa : Addr) (cs : Int32) (vf : Value) (ab : Addr) (kb : ClassId) (cc0 : Int32) (cc1 : Int32) (cc2 : Int32) (cc3 : Int32) (h0 : Heap) (n0 : Nat) (v : Option Value) (h : Heap) (L : List Loc) : Prop := v = some (.int cc2) ∧ Fr n0 L ∧ h = h0
theorem rm16i2 (l : Launch) (Z : State) (a0 : Array Value) (hw : ∀ d ∈ tables_1, d.before a0 Z = true) (ws : List Jvm.Cond) (aa : Addr) (cs : Int32) (vf : Value) (ab : Addr) (kb : ClassId) (cc0 : Int32) (cc1 : Int32) (cc2 : Int32) (cc3 : Int32) (h0 : Heap) (n0 : Nat) (Z0 : n0 ≤ h0.size) (O0 : Old Z n0 h0) (Scs : Sta Z Z.heap "java/lang/String" "COMPACT_STRINGS" "Z" (.int cs)) (hcs : ¬ cs = (0 : Int32)) (Ssf : Sta Z Z.heap "jdk/internal/util/Preconditions" "SIOOBE_FORMATTER" "Ljava/util/function/BiFunction;" vf) (hvf : vf.isRef = true) (Sas : Sta Z Z.heap "java/lang/StringUTF16" "$assertionsDisabled" "Z" (.int (1 : Int32))) (Shs : Sta Z Z.heap "java/lang/StringUTF16" "HI_BYTE_SHIFT" "I" (.int (0 : Int32))) (Sls : Sta Z Z.heap "java/lang/StringUTF16" "LO_BYTE_SHIFT" "I" (.int (8 : Int32))) (Ea : Exa Z h0 aa "java/lang/String") (Fv : Fld Z h0 aa "java/lang/String" "value" "[B" (.ref ab)) (Hs : own_str Z h0 aa ab kb cc0 cc1 cc2 cc3) (hr0 : 0 ≤ cc0.toInt ∧ cc0.toInt ≤ 65535) (hr1 : 0 ≤ cc1.toInt ∧ cc1.toInt ≤ 65535) (hr2 : 0 ≤ cc2.toInt ∧ cc2.toInt ≤ 65535) (hr3 : 0 ≤ cc3.toInt ∧ cc3.toInt ≤ 65535) :
    MetFree l (⟨"java/lang/String", "charAt", "(I)C"⟩ : MethodName) (head1 (Jvm.Cond.code (⟨"java/lang/String", "charAt", "(I)C"⟩ : MethodName) jdk_42_method_56_code 2 (some .char) :: ws) ({ frames := 4, cells := 0, slots := 0, locals := 53 } : Room)) (fun a U => a = #[(.ref aa), (.int (2 : Int32))] ∧ Z.Warmed39 U.vm ∧ U.heap = h0) (fun _ _ _ _ _ => True) (fun _ U o U' => ∃ v L, o = .returned v ∧ Q16i2 Z aa cs vf ab kb cc0 cc1 cc2 cc3 h0 n0 v U'.heap L ∧ FrameEnd U o U' L ({ frames := 4, cells := 0, slots := 0, locals := 53 } : Room).cells ({ frames := 4, cells := 0, slots := 0, locals := 53 } : Room).slots) := by
  refine MetFree.of_bodySF (plainFor_of_name own_pn70) hisR ?_
  intro p e s m args below meth c s₁ Bd hml0 hP hK
  have H := fun i c (h : tables_1[i]? = some c) => hw c (List.mem_of_getElem? h)
  obtain ⟨rfl, hZ, hh⟩ := hP
  have hx := Bd.exec
  have hby := Bd.bytes
  have hml : c.maxLocals = 2 := hml0
  have hown : s.vm.findClass "java/lang/String" = some m.cls := findClass_of_methodNamed Bd.named
  have hnm := (name_of_methodNamed Bd.named Bd.method).1
  have X0 : Stand p l e ({ frames := 4, cells := 0, slots := 0, locals := 53 } : Room) s m #[(.ref aa), (.int (2 : Int32))] below meth c s₁ [] 0 0 := Stand.of_body Bd
  have e0 : s₁.heap = h0 := by rw [← hh, Bd.state]; rfl
  have N0 := Fr.nil n0
  have pre0 : ∀ t, Sp p e below m s₁ 0 #[.val (.ref aa), .val (.int (2 : Int32))] [] t → Steps p.tables e below (s₁.setTop (entryFrame m #[(.ref aa), (.int (2 : Int32))] 2)) t := fun t k => castTop (ef_16i2 m aa) k
  generalize s₁.setTop (entryFrame m #[(.ref aa), (.int (2 : Int32))] 2) = G0 at pre0 ⊢
  rcases Hs with ⟨Fc, Va, hp0, hp1, hp2, hp3⟩ | ⟨Fc, Va⟩
  · obtain ⟨cq705, kq705, q705a, q705b, q705c⟩ := isOf hZ e0 Ea
    obtain ⟨_, _, ⟨T705, L705, k705, n705⟩, -, X705, ⟨Lc705, hQ705, l705, y705, z705⟩, st705⟩ := X0.virtualBack hx hown (mvT hZ (H 69 _ rfl)) (mvT hZ (H 70 _ rfl)) (notFace_of_selects (args := #[]) (mvT hZ (H 72 _ rfl))) (mvT hZ (H 72 _ rfl)) (mvT hZ (H 71 _ rfl)) (by decide) (backOf (W := 0) (rm17 l Z a0 hw [] aa cs vf h0 n0 Z0 O0 Scs hcs Ssf hvf Sas Shs Sls Fc) hZ (H 73 _ rfl) (H 7 _ rfl) (by decide) (by decide)) q705a q705c (g := (mkF m 1 #[.val (.ref aa), .val (.int (2 : Int32))] [(.ref aa)])) rfl (by rw [hml]; rfl) (Steps.refl _) (argsL := []) (rest := []) (lenOf own_pd234 rfl) rfl (Nat.le_of_eq rfl) (hb hby d16_1) (fun _ _ => ⟨rfl, e0, (by decide : 0 + 0 ≤ _), (by decide : 0 + 0 ≤ _)⟩)
    dsimp only [Pt.U, Pt.locs, Pt.cells, Pt.slots] at X705 l705 y705 z705 st705 hQ705
    rw [l705, y705, z705] at X705
    obtain ⟨rfl, Nq705, e705⟩ := hQ705
    have N705 := Fr.app N0 Nq705
    obtain ⟨T706, X706, e706, st706⟩ := getF X705 hx hZ hown (host := "") (Or.inl (H 32 _ rfl)) Via.refl e705 Fv (g := (mkF m 8 #[.val (.ref aa), .val (.int (2 : Int32))] [(.ref aa)])) rfl rfl (hb hby d16_8)
    obtain ⟨_, _, ⟨T707, L707, k707, n707⟩, -, X707, ⟨Lc707, hQ707, l707, y707, z707⟩, st707⟩ := Jvm.LawKit.callS X706 hx hown (mvT hZ (H 91 _ rfl)) (mvT hZ (H 92 _ rfl)) (mvT hZ (H 93 _ rfl)) (mvT hZ (H 94 _ rfl)) (by decide) (backOf (W := 0) (rm23 l Z a0 hw [] ab (2 : Int32) cs vf kb (4 : Int32) [(.int (nar .byte (cc0.toInt8.toInt32))), (.int (nar .byte (cc1.toInt8.toInt32))), (.int (nar .byte (cc2.toInt8.toInt32))), (.int (nar .byte (cc3.toInt8.toInt32)))] (nar .byte (cc2.toInt8.toInt32)) h0 n0 Z0 O0 Scs hcs Ssf hvf Sas Shs Sls Va (by decide) (by decide) rfl) hZ (H 94 _ rfl) (H 93 _ rfl) (by decide) (by decide)) (g := (mkF m 12 #[.val (.ref aa), .val (.int (2 : Int32))] [(.int (2 : Int32)), (.ref ab)])) rfl (by rw [hml]; rfl) (argsL := [(.ref ab), (.int (2 : Int32))]) (rest := []) (lenOf own_pd171 rfl) rfl (Nat.le_of_eq rfl) (hb hby d16_12) (fun _ _ => ⟨rfl, e706, (by decide : 0 + 0 ≤ _), (by decide : 0 + 0 ≤ _)⟩)
    dsimp only [Pt.U, Pt.locs, Pt.cells, Pt.slots] at X707 l707 y707 z707 st707 hQ707
    rw [l707, y707, z707] at X707
    obtain ⟨rfl, Nq707, e707⟩ := hQ707
    have N707 := Fr.app N705 Nq707
    obtain ⟨fs, hr, hrun, hended, hW, hsame⟩ := X707.leave (v := some (.int (nar .char (own_lat (nar .byte (cc2.toInt8.toInt32)))))) (fun h => by rw [Bd.returns] at h; cases h)
    refine ⟨_, _, pre0 _ ?_, hrun, hended, _, _, rfl, ?_, ⟨_, rfl⟩, hW, hsame.mono (by decide) (by decide)⟩
    · show Sp p e below m s₁ 0 #[.val (.ref aa), .val (.int (2 : Int32))] [] _
      refine XS.aloadN X0.here hx rfl (hb hby d16_0) rfl rfl ?_
      refine st705.trans ?_
      show Sp p e below m T705 4 #[.val (.ref aa), .val (.int (2 : Int32))] [(.int (1 : Int32))] _
      refine XS.ifNo X705.here hx rfl (hb hby d16_4) rfl ((if0 _ _).trans (feq (by decide : ¬ ((1 : Int32) = (0 : Int32)))).1) ?_
      refine XS.aloadN X705.here hx rfl (hb hby d16_7) rfl rfl ?_
      refine st706 _ ?_
      show Sp p e below m T706 11 #[.val (.ref aa), .val (.int (2 : Int32))] [(.ref ab)] _
      refine XS.iloadN X706.here hx rfl (hb hby d16_11) rfl ?_
      refine st707 _ ?_
      show Sp p e below m T707 15 #[.val (.ref aa), .val (.int (2 : Int32))] [(.int (own_lat (nar .byte (cc2.toInt8.toInt32))))] _
      exact retN X707 hx (t := .char) Bd.returns (by simp) (hb hby d16_15) hr
    · show Q16i2 Z aa cs vf ab kb cc0 cc1 cc2 cc3 h0 n0 _ T707.heap _
      rw [e707]
      exact ⟨(congrArg (fun z => some (Value.int z)) ((congrArg (nar .char) (own_rt cc2 hp2)).trans (own_ncc cc2 hr2))), N707, rfl⟩
  · obtain ⟨cq708, kq708, q708a, q708b, q708c⟩ := isOf hZ e0 Ea
    obtain ⟨_, _, ⟨T708, L708, k708, n708⟩, -, X708, ⟨Lc708, hQ708, l708, y708, z708⟩, st708⟩ := X0.virtualBack hx hown (mvT hZ (H 69 _ rfl)) (mvT hZ (H 70 _ rfl)) (notFace_of_selects (args := #[]) (mvT hZ (H 72 _ rfl))) (mvT hZ (H 72 _ rfl)) (mvT hZ (H 71 _ rfl)) (by decide) (backOf (W := 0) (rm17u l Z a0 hw [] aa cs vf h0 n0 Z0 O0 Scs hcs Ssf hvf Sas Shs Sls Fc) hZ (H 73 _ rfl) (H 7 _ rfl) (by decide) (by decide)) q708a q708c (g := (mkF m 1 #[.val (.ref aa), .val (.int (2 : Int32))] [(.ref aa)])) rfl (by rw [hml]; rfl) (Steps.refl _) (argsL := []) (rest := []) (lenOf own_pd234 rfl) rfl (Nat.le_of_eq rfl) (hb hby d16_1) (fun _ _ => ⟨rfl, e0, (by decide : 0 + 0 ≤ _), (by decide : 0 + 0 ≤ _)⟩)
    dsimp only [Pt.U, Pt.locs, Pt.cells, Pt.slots] at X708 l708 y708 z708 st708 hQ708
    rw [l708, y708, z708] at X708
    obtain ⟨rfl, Nq708, e708⟩ := hQ708
    have N708 := Fr.app N0 Nq708
    obtain ⟨T709, X709, e709, st709⟩ := getF X708 hx hZ hown (host := "") (Or.inl (H 32 _ rfl)) Via.refl e708 Fv (g := (mkF m 17 #[.val (.ref aa), .val (.int (2 : Int32))] [(.ref aa)])) rfl rfl (hb hby d16_17)
    obtain ⟨_, _, ⟨T710, L710, k710, n710⟩, -, X710, ⟨Lc710, hQ710, l710, y710, z710⟩, st710⟩ := Jvm.LawKit.callS X709 hx hown (mvT hZ (H 74 _ rfl)) (mvT hZ (H 75 _ rfl)) (mvT hZ (H 21 _ rfl)) (mvT hZ (H 76 _ rfl)) (by decide) (backOf (W := 0) (rm18i2 l Z a0 hw [] ab cs vf kb cc0 cc1 cc2 cc3 h0 n0 Z0 O0 Scs hcs Ssf hvf Sas Shs Sls Va hr0 hr1 hr2 hr3) hZ (H 76 _ rfl) (H 21 _ rfl) (by decide) (by decide)) (g := (mkF m 21 #[.val (.ref aa), .val (.int (2 : Int32))] [(.int (2 : Int32)), (.ref ab)])) rfl (by rw [hml]; rfl) (argsL := [(.ref ab), (.int (2 : Int32))]) (rest := []) (lenOf own_pd171 rfl) rfl (Nat.le_of_eq rfl) (hb hby d16_21) (fun _ _ => ⟨rfl, e709, (by decide : 0 + 0 ≤ _), (by decide : 0 + 0 ≤ _)⟩)
    dsimp only [Pt.U, Pt.locs, Pt.cells, Pt.slots] at X710 l710 y710 z710 st710 hQ710
    rw [l710, y710, z710] at X710
    obtain ⟨rfl, Nq710, e710⟩ := hQ710
    have N710 := Fr.app N708 Nq710
    obtain ⟨fs, hr, hrun, hended, hW, hsame⟩ := X710.leave (v := some (.int (nar .char cc2))) (fun h => by rw [Bd.returns] at h; cases h)
    refine ⟨_, _, pre0 _ ?_, hrun, hended, _, _, rfl, ?_, ⟨_, rfl⟩, hW, hsame.mono (by decide) (by decide)⟩
    · show Sp p e below m s₁ 0 #[.val (.ref aa), .val (.int (2 : Int32))] [] _
      refine XS.aloadN X0.here hx rfl (hb hby d16_0) rfl rfl ?_
      refine st708.trans ?_
      show Sp p e below m T708 4 #[.val (.ref aa), .val (.int (2 : Int32))] [(.int (0 : Int32))] _
      refine XS.ifYes X708.here hx rfl (pc0 := 4) (pc' := 16) rfl (hb hby d16_4) rfl ((if0 _ _).trans (teq (by decide : ((0 : Int32) = (0 : Int32)))).1) (by decide) (by decide) ?_
      refine XS.aloadN X708.here hx rfl (hb hby d16_16) rfl rfl ?_
      refine st709 _ ?_
      show Sp p e below m T709 20 #[.val (.ref aa), .val (.int (2 : Int32))] [(.ref ab)] _
      refine XS.iloadN X709.here hx rfl (hb hby d16_20) rfl ?_
      refine st710 _ ?_
      show Sp p e below m T710 24 #[.val (.ref aa), .val (.int (2 : Int32))] [(.int cc2)] _
      exact retN X710 hx (t := .char) Bd.returns (by simp) (hb hby d16_24) hr
    · show Q16i2 Z aa cs vf ab kb cc0 cc1 cc2 cc3 h0 n0 _ T710.heap _
      rw [e710]
      exact ⟨(congrArg (fun z => some (Value.int z)) (own_ncc cc2 hr2)), N710, rfl⟩
theorem ef_18i3 (m : MethodId) (x0 : Addr) : entryFrame m #[(.ref x0), (.int (3 : Int32))] 2 = mkF m 0 #[.val (.ref x0), .val (.int (3 : Int32))] [] := by first | (simp [entryFrame, mkF, argsToLocals, Value.category]; done) | rfl
def Q18i3 (Z : State) (ab : Addr) (cs : Int32) (vf : Value) (kb : ClassId) (cc0 : Int32) (cc1 : Int32) (cc2 : Int32) (cc3 : Int32) (h0 : Heap) (n0 : Nat) (v : Option Value) (h : Heap) (L : List Loc) : Prop := v = some (.int cc3) ∧ Fr n0 L ∧ h = h0
theorem rm18i3 (l : Launch) (Z : State) (a0 : Array Value) (hw : ∀ d ∈ tables_1, d.before a0 Z = true) (ws : List Jvm.Cond) (ab : Addr) (cs : Int32) (vf : Value) (kb : ClassId) (cc0 : Int32) (cc1 : Int32) (cc2 : Int32) (cc3 : Int32) (h0 : Heap) (n0 : Nat) (Z0 : n0 ≤ h0.size) (O0 : Old Z n0 h0) (Scs : Sta Z Z.heap "java/lang/String" "COMPACT_STRINGS" "Z" (.int cs)) (hcs : ¬ cs = (0 : Int32)) (Ssf : Sta Z Z.heap "jdk/internal/util/Preconditions" "SIOOBE_FORMATTER" "Ljava/util/function/BiFunction;" vf) (hvf : vf.isRef = true) (Sas : Sta Z Z.heap "java/lang/StringUTF16" "$assertionsDisabled" "Z" (.int (1 : Int32))) (Shs : Sta Z Z.heap "java/lang/StringUTF16" "HI_BYTE_SHIFT" "I" (.int (0 : Int32))) (Sls : Sta Z Z.heap "java/lang/StringUTF16" "LO_BYTE_SHIFT" "I" (.int (8 : Int32))) (Vb : Arv Z h0 ab kb .byte (8 : Int32) [(.int (nar .byte ((cc0 >>> ((0 : Int32) &&& 31)).toInt8.toInt32))), (.int (nar .byte ((cc0 >>> ((8 : Int32) &&& 31)).toInt8.toInt32))), (.int (nar .byte ((cc1 >>> ((0 : Int32) &&& 31)).toInt8.toInt32))), (.int (nar .byte ((cc1 >>> ((8 : Int32) &&& 31)).toInt8.toInt32))), (.int (nar .byte ((cc2 >>> ((0 : Int32) &&& 31)).toInt8.toInt32))), (.int (nar .byte ((cc2 >>> ((8 : Int32) &&& 31)).toInt8.toInt32))), (.int (nar .byte ((cc3 >>> ((0 : Int32) &&& 31)).toInt8.toInt32))), (.int (nar .byte ((cc3 >>> ((8 : Int32) &&& 31)).toInt8.toInt32)))] (.int (0 : Int32))) (hr0 : 0 ≤ cc0.toInt ∧ cc0.toInt ≤ 65535) (hr1 : 0 ≤ cc1.toInt ∧ cc1.toInt ≤ 65535) (hr2 : 0 ≤ cc2.toInt ∧ cc2.toInt ≤ 65535) (hr3 : 0 ≤ cc3.toInt ∧ cc3.toInt ≤ 65535) :
    MetFree l (⟨"java/lang/StringUTF16", "charAt", "([BI)C"⟩ : MethodName) (head1 (Jvm.Cond.code (⟨"java/lang/StringUTF16", "charAt", "([BI)C"⟩ : MethodName) jdk_52_method_83_code 2 (some .char) :: ws) ({ frames := 3, cells := 0, slots := 0, locals := 40 } : Room)) (fun a U => a = #[(.ref ab), (.int (3 : Int32))] ∧ Z.Warmed39 U.vm ∧ U.heap = h0) (fun _ _ _ _ _ => True) (fun _ U o U' => ∃ v L, o = .returned v ∧ Q18i3 Z ab cs vf kb cc0 cc1 cc2 cc3 h0 n0 v U'.heap L ∧ FrameEnd U o U' L ({ frames := 3, cells := 0, slots := 0, locals := 40 } : Room).cells ({ frames := 3, cells := 0, slots := 0, locals := 40 } : Room).slots) := by
  refine MetFree.of_bodySF (plainFor_of_name own_pn23) hisR ?_
  intro p e s m args below meth c s₁ Bd hml0 hP hK
  have H := fun i c (h : tables_1[i]? = some c) => hw c (List.mem_of_getElem? h)
  obtain ⟨rfl, hZ, hh⟩ := hP
  have hx := Bd.exec
  have hby := Bd.bytes
  have hml : c.maxLocals = 2 := hml0
  have hown : s.vm.findClass "java/lang/StringUTF16" = some m.cls := findClass_of_methodNamed Bd.named
  have hnm := (name_of_methodNamed Bd.named Bd.method).1
  have X0 : Stand p l e ({ frames := 3, cells := 0, slots := 0, locals := 40 } : Room) s m #[(.ref ab), (.int (3 : Int32))] below meth c s₁ [] 0 0 := Stand.of_body Bd
  have e0 : s₁.heap = h0 := by rw [← hh, Bd.state]; rfl
  have N0 := Fr.nil n0
  have pre0 : ∀ t, Sp p e below m s₁ 0 #[.val (.ref ab), .val (.int (3 : Int32))] [] t → Steps p.tables e below (s₁.setTop (entryFrame m #[(.ref ab), (.int (3 : Int32))] 2)) t := fun t k => castTop (ef_18i3 m ab) k
  generalize s₁.setTop (entryFrame m #[(.ref ab), (.int (3 : Int32))] 2) = G0 at pre0 ⊢
  obtain ⟨_, _, ⟨T713, L713, k713, n713⟩, -, X713, ⟨Lc713, hQ713, l713, y713, z713⟩, st713⟩ := Jvm.LawKit.callS X0 hx hown (mvT hZ (H 77 _ rfl)) (mvT hZ (H 78 _ rfl)) (mvT hZ (H 21 _ rfl)) (mvT hZ (H 79 _ rfl)) (by decide) (backOf (W := 0) (rm19 l Z a0 hw [] (3 : Int32) ab cs vf kb [(.int (nar .byte ((cc0 >>> ((0 : Int32) &&& 31)).toInt8.toInt32))), (.int (nar .byte ((cc0 >>> ((8 : Int32) &&& 31)).toInt8.toInt32))), (.int (nar .byte ((cc1 >>> ((0 : Int32) &&& 31)).toInt8.toInt32))), (.int (nar .byte ((cc1 >>> ((8 : Int32) &&& 31)).toInt8.toInt32))), (.int (nar .byte ((cc2 >>> ((0 : Int32) &&& 31)).toInt8.toInt32))), (.int (nar .byte ((cc2 >>> ((8 : Int32) &&& 31)).toInt8.toInt32))), (.int (nar .byte ((cc3 >>> ((0 : Int32) &&& 31)).toInt8.toInt32))), (.int (nar .byte ((cc3 >>> ((8 : Int32) &&& 31)).toInt8.toInt32)))] h0 n0 Z0 O0 Scs hcs Ssf hvf Sas Shs Sls Vb (by decide) (by decide)) hZ (H 79 _ rfl) (H 21 _ rfl) (by decide) (by decide)) (g := (mkF m 2 #[.val (.ref ab), .val (.int (3 : Int32))] [(.ref ab), (.int (3 : Int32))])) rfl (by rw [hml]; rfl) (argsL := [(.int (3 : Int32)), (.ref ab)]) (rest := []) (lenOf own_pd227 rfl) rfl (Nat.le_of_eq rfl) (hb hby d18_2) (fun _ _ => ⟨rfl, e0, (by decide : 0 + 0 ≤ _), (by decide : 0 + 0 ≤ _)⟩)
  dsimp only [Pt.U, Pt.locs, Pt.cells, Pt.slots] at X713 l713 y713 z713 st713 hQ713
  rw [l713, y713, z713] at X713
  obtain ⟨rfl, Nq713, e713⟩ := hQ713
  have N713 := Fr.app N0 Nq713
  obtain ⟨_, _, ⟨T714, L714, k714, n714⟩, -, X714, ⟨Lc714, hQ714, l714, y714, z714⟩, st714⟩ := Jvm.LawKit.callS X713 hx hown (mvT hZ (H 58 _ rfl)) (mvT hZ (H 59 _ rfl)) (mvT hZ (H 21 _ rfl)) (mvT hZ (H 60 _ rfl)) (by decide) (backOf (W := 0) (rm14i3 l Z a0 hw [] ab cs vf kb cc0 cc1 cc2 cc3 h0 n0 Z0 O0 Scs hcs Ssf hvf Sas Shs Sls Vb hr0 hr1 hr2 hr3) hZ (H 60 _ rfl) (H 21 _ rfl) (by decide) (by decide)) (g := (mkF m 7 #[.val (.ref ab), .val (.int (3 : Int32))] [(.int (3 : Int32)), (.ref ab)])) rfl (by rw [hml]; rfl) (argsL := [(.ref ab), (.int (3 : Int32))]) (rest := []) (lenOf own_pd171 rfl) rfl (Nat.le_of_eq rfl) (hb hby d18_7) (fun _ _ => ⟨rfl, e713, (by decide : 0 + 0 ≤ _), (by decide : 0 + 0 ≤ _)⟩)
  dsimp only [Pt.U, Pt.locs, Pt.cells, Pt.slots] at X714 l714 y714 z714 st714 hQ714
  rw [l714, y714, z714] at X714
  obtain ⟨rfl, Nq714, e714⟩ := hQ714
  have N714 := Fr.app N713 Nq714
  obtain ⟨fs, hr, hrun, hended, hW, hsame⟩ := X714.leave (v := some (.int (nar .char cc3))) (fun h => by rw [Bd.returns] at h; cases h)
  refine ⟨_, _, pre0 _ ?_, hrun, hended, _, _, rfl, ?_, ⟨_, rfl⟩, hW, hsame.mono (by decide) (by decide)⟩
  · show Sp p e below m s₁ 0 #[.val (.ref ab), .val (.int (3 : Int32))] [] _
    refine XS.iloadN X0.here hx rfl (hb hby d18_0) rfl ?_
    refine XS.aloadN X0.here hx rfl (hb hby d18_1) rfl rfl ?_
    refine st713 _ ?_
    show Sp p e below m T713 5 #[.val (.ref ab), .val (.int (3 : Int32))] [] _
    refine XS.aloadN X713.here hx rfl (hb hby d18_5) rfl rfl ?_
    refine XS.iloadN X713.here hx rfl (hb hby d18_6) rfl ?_
    refine st714 _ ?_
    show Sp p e below m T714 10 #[.val (.ref ab), .val (.int (3 : Int32))] [(.int cc3)] _
    exact retN X714 hx (t := .char) Bd.returns (by simp) (hb hby d18_10) hr
  · show Q18i3 Z ab cs vf kb cc0 cc1 cc2 cc3 h0 n0 _ T714.heap _
    rw [e714]
    exact ⟨(congrArg (fun z => some (Value.int z)) (own_ncc cc3 hr3)), N714, rfl⟩
theorem ef_16i3 (m : MethodId) (x0 : Addr) : entryFrame m #[(.ref x0), (.int (3 : Int32))] 2 = mkF m 0 #[.val (.ref x0), .val (.int (3 : Int32))] [] := by first | (simp [entryFrame, mkF, argsToLocals, Value.category]; done) | rfl
def Q16i3 (Z : State) (aa : Addr) (cs : Int32) (vf : Value) (ab : Addr) (kb : ClassId) (cc0 : Int32) (cc1 : Int32) (cc2 : Int32) (cc3 : Int32) (h0 : Heap) (n0 : Nat) (v : Option Value) (h : Heap) (L : List Loc) : Prop := v = some (.int cc3) ∧ Fr n0 L ∧ h = h0
theorem rm16i3 (l : Launch) (Z : State) (a0 : Array Value) (hw : ∀ d ∈ tables_1, d.before a0 Z = true) (ws : List Jvm.Cond) (aa : Addr) (cs : Int32) (vf : Value) (ab : Addr) (kb : ClassId) (cc0 : Int32) (cc1 : Int32) (cc2 : Int32) (cc3 : Int32) (h0 : Heap) (n0 : Nat) (Z0 : n0 ≤ h0.size) (O0 : Old Z n0 h0) (Scs : Sta Z Z.heap "java/lang/String" "COMPACT_STRINGS" "Z" (.int cs)) (hcs : ¬ cs = (0 : Int32)) (Ssf : Sta Z Z.heap "jdk/internal/util/Preconditions" "SIOOBE_FORMATTER" "Ljava/util/function/BiFunction;" vf) (hvf : vf.isRef = true) (Sas : Sta Z Z.heap "java/lang/StringUTF16" "$assertionsDisabled" "Z" (.int (1 : Int32))) (Shs : Sta Z Z.heap "java/lang/StringUTF16" "HI_BYTE_SHIFT" "I" (.int (0 : Int32))) (Sls : Sta Z Z.heap "java/lang/StringUTF16" "LO_BYTE_SHIFT" "I" (.int (8 : Int32))) (Ea : Exa Z h0 aa "java/lang/String") (Fv : Fld Z h0 aa "java/lang/String" "value" "[B" (.ref ab)) (Hs : own_str Z h0 aa ab kb cc0 cc1 cc2 cc3) (hr0 : 0 ≤ cc0.toInt ∧ cc0.toInt ≤ 65535) (hr1 : 0 ≤ cc1.toInt ∧ cc1.toInt ≤ 65535) (hr2 : 0 ≤ cc2.toInt ∧ cc2.toInt ≤ 65535) (hr3 : 0 ≤ cc3.toInt ∧ cc3.toInt ≤ 65535) :
    MetFree l (⟨"java/lang/String", "charAt", "(I)C"⟩ : MethodName) (head1 (Jvm.Cond.code (⟨"java/lang/String", "charAt", "(I)C"⟩ : MethodName) jdk_42_method_56_code 2 (some .char) :: ws) ({ frames := 4, cells := 0, slots := 0, locals := 53 } : Room)) (fun a U => a = #[(.ref aa), (.int (3 : Int32))] ∧ Z.Warmed39 U.vm ∧ U.heap = h0) (fun _ _ _ _ _ => True) (fun _ U o U' => ∃ v L, o = .returned v ∧ Q16i3 Z aa cs vf ab kb cc0 cc1 cc2 cc3 h0 n0 v U'.heap L ∧ FrameEnd U o U' L ({ frames := 4, cells := 0, slots := 0, locals := 53 } : Room).cells ({ frames := 4, cells := 0, slots := 0, locals := 53 } : Room).slots) := by
  refine MetFree.of_bodySF (plainFor_of_name own_pn70) hisR ?_
  intro p e s m args below meth c s₁ Bd hml0 hP hK
  have H := fun i c (h : tables_1[i]? = some c) => hw c (List.mem_of_getElem? h)
  obtain ⟨rfl, hZ, hh⟩ := hP
  have hx := Bd.exec
  have hby := Bd.bytes
  have hml : c.maxLocals = 2 := hml0
  have hown : s.vm.findClass "java/lang/String" = some m.cls := findClass_of_methodNamed Bd.named
  have hnm := (name_of_methodNamed Bd.named Bd.method).1
  have X0 : Stand p l e ({ frames := 4, cells := 0, slots := 0, locals := 53 } : Room) s m #[(.ref aa), (.int (3 : Int32))] below meth c s₁ [] 0 0 := Stand.of_body Bd
  have e0 : s₁.heap = h0 := by rw [← hh, Bd.state]; rfl
  have N0 := Fr.nil n0
  have pre0 : ∀ t, Sp p e below m s₁ 0 #[.val (.ref aa), .val (.int (3 : Int32))] [] t → Steps p.tables e below (s₁.setTop (entryFrame m #[(.ref aa), (.int (3 : Int32))] 2)) t := fun t k => castTop (ef_16i3 m aa) k
  generalize s₁.setTop (entryFrame m #[(.ref aa), (.int (3 : Int32))] 2) = G0 at pre0 ⊢
  rcases Hs with ⟨Fc, Va, hp0, hp1, hp2, hp3⟩ | ⟨Fc, Va⟩
  · obtain ⟨cq721, kq721, q721a, q721b, q721c⟩ := isOf hZ e0 Ea
    obtain ⟨_, _, ⟨T721, L721, k721, n721⟩, -, X721, ⟨Lc721, hQ721, l721, y721, z721⟩, st721⟩ := X0.virtualBack hx hown (mvT hZ (H 69 _ rfl)) (mvT hZ (H 70 _ rfl)) (notFace_of_selects (args := #[]) (mvT hZ (H 72 _ rfl))) (mvT hZ (H 72 _ rfl)) (mvT hZ (H 71 _ rfl)) (by decide) (backOf (W := 0) (rm17 l Z a0 hw [] aa cs vf h0 n0 Z0 O0 Scs hcs Ssf hvf Sas Shs Sls Fc) hZ (H 73 _ rfl) (H 7 _ rfl) (by decide) (by decide)) q721a q721c (g := (mkF m 1 #[.val (.ref aa), .val (.int (3 : Int32))] [(.ref aa)])) rfl (by rw [hml]; rfl) (Steps.refl _) (argsL := []) (rest := []) (lenOf own_pd234 rfl) rfl (Nat.le_of_eq rfl) (hb hby d16_1) (fun _ _ => ⟨rfl, e0, (by decide : 0 + 0 ≤ _), (by decide : 0 + 0 ≤ _)⟩)
    dsimp only [Pt.U, Pt.locs, Pt.cells, Pt.slots] at X721 l721 y721 z721 st721 hQ721
    rw [l721, y721, z721] at X721
    obtain ⟨rfl, Nq721, e721⟩ := hQ721
    have N721 := Fr.app N0 Nq721
    obtain ⟨T722, X722, e722, st722⟩ := getF X721 hx hZ hown (host := "") (Or.inl (H 32 _ rfl)) Via.refl e721 Fv (g := (mkF m 8 #[.val (.ref aa), .val (.int (3 : Int32))] [(.ref aa)])) rfl rfl (hb hby d16_8)
    obtain ⟨_, _, ⟨T723, L723, k723, n723⟩, -, X723, ⟨Lc723, hQ723, l723, y723, z723⟩, st723⟩ := Jvm.LawKit.callS X722 hx hown (mvT hZ (H 91 _ rfl)) (mvT hZ (H 92 _ rfl)) (mvT hZ (H 93 _ rfl)) (mvT hZ (H 94 _ rfl)) (by decide) (backOf (W := 0) (rm23 l Z a0 hw [] ab (3 : Int32) cs vf kb (4 : Int32) [(.int (nar .byte (cc0.toInt8.toInt32))), (.int (nar .byte (cc1.toInt8.toInt32))), (.int (nar .byte (cc2.toInt8.toInt32))), (.int (nar .byte (cc3.toInt8.toInt32)))] (nar .byte (cc3.toInt8.toInt32)) h0 n0 Z0 O0 Scs hcs Ssf hvf Sas Shs Sls Va (by decide) (by decide) rfl) hZ (H 94 _ rfl) (H 93 _ rfl) (by decide) (by decide)) (g := (mkF m 12 #[.val (.ref aa), .val (.int (3 : Int32))] [(.int (3 : Int32)), (.ref ab)])) rfl (by rw [hml]; rfl) (argsL := [(.ref ab), (.int (3 : Int32))]) (rest := []) (lenOf own_pd171 rfl) rfl (Nat.le_of_eq rfl) (hb hby d16_12) (fun _ _ => ⟨rfl, e722, (by decide : 0 + 0 ≤ _), (by decide : 0 + 0 ≤ _)⟩)
    dsimp only [Pt.U, Pt.locs, Pt.cells, Pt.slots] at X723 l723 y723 z723 st723 hQ723
    rw [l723, y723, z723] at X723
    obtain ⟨rfl, Nq723, e723⟩ := hQ723
    have N723 := Fr.app N721 Nq723
    obtain ⟨fs, hr, hrun, hended, hW, hsame⟩ := X723.leave (v := some (.int (nar .char (own_lat (nar .byte (cc3.toInt8.toInt32)))))) (fun h => by rw [Bd.returns] at h; cases h)
    refine ⟨_, _, pre0 _ ?_, hrun, hended, _, _, rfl, ?_, ⟨_, rfl⟩, hW, hsame.mono (by decide) (by decide)⟩
    · show Sp p e below m s₁ 0 #[.val (.ref aa), .val (.int (3 : Int32))] [] _
      refine XS.aloadN X0.here hx rfl (hb hby d16_0) rfl rfl ?_
      refine st721.trans ?_
      show Sp p e below m T721 4 #[.val (.ref aa), .val (.int (3 : Int32))] [(.int (1 : Int32))] _
      refine XS.ifNo X721.here hx rfl (hb hby d16_4) rfl ((if0 _ _).trans (feq (by decide : ¬ ((1 : Int32) = (0 : Int32)))).1) ?_
      refine XS.aloadN X721.here hx rfl (hb hby d16_7) rfl rfl ?_
      refine st722 _ ?_
      show Sp p e below m T722 11 #[.val (.ref aa), .val (.int (3 : Int32))] [(.ref ab)] _
      refine XS.iloadN X722.here hx rfl (hb hby d16_11) rfl ?_
      refine st723 _ ?_
      show Sp p e below m T723 15 #[.val (.ref aa), .val (.int (3 : Int32))] [(.int (own_lat (nar .byte (cc3.toInt8.toInt32))))] _
      exact retN X723 hx (t := .char) Bd.returns (by simp) (hb hby d16_15) hr
    · show Q16i3 Z aa cs vf ab kb cc0 cc1 cc2 cc3 h0 n0 _ T723.heap _
      rw [e723]
      exact ⟨(congrArg (fun z => some (Value.int z)) ((congrArg (nar .char) (own_rt cc3 hp3)).trans (own_ncc cc3 hr3))), N723, rfl⟩
  · obtain ⟨cq724, kq724, q724a, q724b, q724c⟩ := isOf hZ e0 Ea
    obtain ⟨_, _, ⟨T724, L724, k724, n724⟩, -, X724, ⟨Lc724, hQ724, l724, y724, z724⟩, st724⟩ := X0.virtualBack hx hown (mvT hZ (H 69 _ rfl)) (mvT hZ (H 70 _ rfl)) (notFace_of_selects (args := #[]) (mvT hZ (H 72 _ rfl))) (mvT hZ (H 72 _ rfl)) (mvT hZ (H 71 _ rfl)) (by decide) (backOf (W := 0) (rm17u l Z a0 hw [] aa cs vf h0 n0 Z0 O0 Scs hcs Ssf hvf Sas Shs Sls Fc) hZ (H 73 _ rfl) (H 7 _ rfl) (by decide) (by decide)) q724a q724c (g := (mkF m 1 #[.val (.ref aa), .val (.int (3 : Int32))] [(.ref aa)])) rfl (by rw [hml]; rfl) (Steps.refl _) (argsL := []) (rest := []) (lenOf own_pd234 rfl) rfl (Nat.le_of_eq rfl) (hb hby d16_1) (fun _ _ => ⟨rfl, e0, (by decide : 0 + 0 ≤ _), (by decide : 0 + 0 ≤ _)⟩)
    dsimp only [Pt.U, Pt.locs, Pt.cells, Pt.slots] at X724 l724 y724 z724 st724 hQ724
    rw [l724, y724, z724] at X724
    obtain ⟨rfl, Nq724, e724⟩ := hQ724
    have N724 := Fr.app N0 Nq724
    obtain ⟨T725, X725, e725, st725⟩ := getF X724 hx hZ hown (host := "") (Or.inl (H 32 _ rfl)) Via.refl e724 Fv (g := (mkF m 17 #[.val (.ref aa), .val (.int (3 : Int32))] [(.ref aa)])) rfl rfl (hb hby d16_17)
    obtain ⟨_, _, ⟨T726, L726, k726, n726⟩, -, X726, ⟨Lc726, hQ726, l726, y726, z726⟩, st726⟩ := Jvm.LawKit.callS X725 hx hown (mvT hZ (H 74 _ rfl)) (mvT hZ (H 75 _ rfl)) (mvT hZ (H 21 _ rfl)) (mvT hZ (H 76 _ rfl)) (by decide) (backOf (W := 0) (rm18i3 l Z a0 hw [] ab cs vf kb cc0 cc1 cc2 cc3 h0 n0 Z0 O0 Scs hcs Ssf hvf Sas Shs Sls Va hr0 hr1 hr2 hr3) hZ (H 76 _ rfl) (H 21 _ rfl) (by decide) (by decide)) (g := (mkF m 21 #[.val (.ref aa), .val (.int (3 : Int32))] [(.int (3 : Int32)), (.ref ab)])) rfl (by rw [hml]; rfl) (argsL := [(.ref ab), (.int (3 : Int32))]) (rest := []) (lenOf own_pd171 rfl) rfl (Nat.le_of_eq rfl) (hb hby d16_21) (fun _ _ => ⟨rfl, e725, (by decide : 0 + 0 ≤ _), (by decide : 0 + 0 ≤ _)⟩)
    dsimp only [Pt.U, Pt.locs, Pt.cells, Pt.slots] at X726 l726 y726 z726 st726 hQ726
    rw [l726, y726, z726] at X726
    obtain ⟨rfl, Nq726, e726⟩ := hQ726
    have N726 := Fr.app N724 Nq726
    obtain ⟨fs, hr, hrun, hended, hW, hsame⟩ := X726.leave (v := some (.int (nar .char cc3))) (fun h => by rw [Bd.returns] at h; cases h)
    refine ⟨_, _, pre0 _ ?_, hrun, hended, _, _, rfl, ?_, ⟨_, rfl⟩, hW, hsame.mono (by decide) (by decide)⟩
    · show Sp p e below m s₁ 0 #[.val (.ref aa), .val (.int (3 : Int32))] [] _
      refine XS.aloadN X0.here hx rfl (hb hby d16_0) rfl rfl ?_
      refine st724.trans ?_
      show Sp p e below m T724 4 #[.val (.ref aa), .val (.int (3 : Int32))] [(.int (0 : Int32))] _
      refine XS.ifYes X724.here hx rfl (pc0 := 4) (pc' := 16) rfl (hb hby d16_4) rfl ((if0 _ _).trans (teq (by decide : ((0 : Int32) = (0 : Int32)))).1) (by decide) (by decide) ?_
      refine XS.aloadN X724.here hx rfl (hb hby d16_16) rfl rfl ?_
      refine st725 _ ?_
      show Sp p e below m T725 20 #[.val (.ref aa), .val (.int (3 : Int32))] [(.ref ab)] _
      refine XS.iloadN X725.here hx rfl (hb hby d16_20) rfl ?_
      refine st726 _ ?_
      show Sp p e below m T726 24 #[.val (.ref aa), .val (.int (3 : Int32))] [(.int cc3)] _
      exact retN X726 hx (t := .char) Bd.returns (by simp) (hb hby d16_24) hr
    · show Q16i3 Z aa cs vf ab kb cc0 cc1 cc2 cc3 h0 n0 _ T726.heap _
      rw [e726]
      exact ⟨(congrArg (fun z => some (Value.int z)) (own_ncc cc3 hr3)), N726, rfl⟩
theorem d8_0 : decode prog_43_method_4_code 0 = .ok (.iload_n 1, 1) := by decide +kernel
theorem d8_1 : decode prog_43_method_4_code 1 = .ok (.iload_n 2, 1) := by decide +kernel
theorem d8_2 : decode prog_43_method_4_code 2 = .ok (.if_icmp .ge 7, 3) := by decide +kernel
theorem d8_9 : decode prog_43_method_4_code 9 = .ok (.iconst 0, 1) := by decide +kernel
theorem d8_10 : decode prog_43_method_4_code 10 = .ok (.istore_n 3, 1) := by decide +kernel
theorem d8_11 : decode prog_43_method_4_code 11 = .ok (.iload_n 1, 1) := by decide +kernel
theorem d8_12 : decode prog_43_method_4_code 12 = .ok (.istore 4, 2) := by decide +kernel
theorem d8_14 : decode prog_43_method_4_code 14 = .ok (.iload_n 3, 1) := by decide +kernel
theorem d8_15 : decode prog_43_method_4_code 15 = .ok (.ifCond .eq 43, 3) := by decide +kernel
theorem d8_58 : decode prog_43_method_4_code 58 = .ok (.iload_n 3, 1) := by decide +kernel
theorem d8_59 : decode prog_43_method_4_code 59 = .ok (.ireturn, 1) := by decide +kernel
theorem own_pn257 : plainName "com/example/vestwright/vestwright/PlainNumber" = true := by first | (simp [plainName, overriddenIn]; done) | decide +kernel
theorem ef_8g (m : MethodId) (x0 : Addr) (x1 : Int32) (x2 : Int32) : entryFrame m #[(.ref x0), (.int x1), (.int x2)] 6 = mkF m 0 #[.val (.ref x0), .val (.int x1), .val (.int x2), .unset, .unset, .unset] [] := by first | (simp [entryFrame, mkF, argsToLocals, Value.category]; done) | rfl
def Q8g (Z : State) (aa : Addr) (pf : Int32) (pt : Int32) (h0 : Heap) (n0 : Nat) (v : Option Value) (h : Heap) (L : List Loc) : Prop := v = some (.int (0 : Int32)) ∧ Fr n0 L ∧ h = h0
theorem rm8g (l : Launch) (Z : State) (a0 : Array Value) (hw : ∀ d ∈ tables_1, d.before a0 Z = true) (ws : List Jvm.Cond) (aa : Addr) (pf : Int32) (pt : Int32) (h0 : Heap) (n0 : Nat) (Z0 : n0 ≤ h0.size) (hge : ¬ pf < pt) :
    MetFree l (⟨"com/example/vestwright/vestwright/PlainNumber", "isDigits", "(Ljava/lang/String;II)Z"⟩ : MethodName) (head1 (Jvm.Cond.code (⟨"com/example/vestwright/vestwright/PlainNumber", "isDigits", "(Ljava/lang/String;II)Z"⟩ : MethodName) prog_43_method_4_code 6 (some .boolean) :: ws) ({ frames := 0, cells := 0, slots := 0, locals := 0 } : Room)) (fun a U => a = #[(.ref aa), (.int pf), (.int pt)] ∧ Z.Warmed39 U.vm ∧ U.heap = h0) (fun _ _ _ _ _ => True) (fun _ U o U' => ∃ v L, o = .returned v ∧ Q8g Z aa pf pt h0 n0 v U'.heap L ∧ FrameEnd U o U' L ({ frames := 0, cells := 0, slots := 0, locals := 0 } : Room).cells ({ frames := 0, cells := 0, slots := 0, locals := 0 } : Room).slots) := by
  refine MetFree.of_bodySF (plainFor_of_name own_pn257) hisR ?_
  intro p e s m args below meth c s₁ Bd hml0 hP hK
  have H := fun i c (h : tables_1[i]? = some c) => hw c (List.mem_of_getElem? h)
  obtain ⟨rfl, hZ, hh⟩ := hP
  have hx := Bd.exec
  have hby := Bd.bytes
  have hml : c.maxLocals = 6 := hml0
  have hown : s.vm.findClass "com/example/vestwright/vestwright/PlainNumber" = some m.cls := findClass_of_methodNamed Bd.named
  have hnm := (name_of_methodNamed Bd.named Bd.method).1
  have X0 : Stand p l e ({ frames := 0, cells := 0, slots := 0, locals := 0 } : Room) s m #[(.ref aa), (.int pf), (.int pt)] below meth c s₁ [] 0 0 := Stand.of_body Bd
  have e0 : s₁.heap = h0 := by rw [← hh, Bd.state]; rfl
  have N0 := Fr.nil n0
  have pre0 : ∀ t, Sp p e below m s₁ 0 #[.val (.ref aa), .val (.int pf), .val (.int pt), .unset, .unset, .unset] [] t → Steps p.tables e below (s₁.setTop (entryFrame m #[(.ref aa), (.int pf), (.int pt)] 6)) t := fun t k => castTop (ef_8g m aa pf pt) k
  generalize s₁.setTop (entryFrame m #[(.ref aa), (.int pf), (.int pt)] 6) = G0 at pre0 ⊢
  obtain ⟨fs, hr, hrun, hended, hW, hsame⟩ := X0.leave (v := some (.int (0 : Int32))) (fun h => by rw [Bd.returns] at h; cases h)
  refine ⟨_, _, pre0 _ ?_, hrun, hended, _, _, rfl, ?_, ⟨_, rfl⟩, hW, hsame.mono (by decide) (by decide)⟩
  · show Sp p e below m s₁ 0 #[.val (.ref aa), .val (.int pf), .val (.int pt), .unset, .unset, .unset] [] _
    refine XS.iloadN X0.here hx rfl (hb hby d8_0) rfl ?_
    refine XS.iloadN X0.here hx rfl (hb hby d8_1) rfl ?_
    refine XS.icmpYes X0.here hx rfl (pc0 := 2) (pc' := 9) rfl (hb hby d8_2) rfl (flt (hge : ¬ (pf < pt))).2.1 (by decide) (by decide) ?_
    refine XS.iconst X0.here hx rfl (hb hby d8_9) ?_
    refine XS.istoreN X0.here hx rfl (hb hby d8_10) rfl (l' := #[.val (.ref aa), .val (.int pf), .val (.int pt), .val (.int (0 : Int32)), .unset, .unset]) rfl ?_
    refine XS.iloadN X0.here hx rfl (hb hby d8_11) rfl ?_
    refine XS.istore X0.here hx rfl (hb hby d8_12) rfl (l' := #[.val (.ref aa), .val (.int pf), .val (.int pt), .val (.int (0 : Int32)), .val (.int pf), .unset]) rfl ?_
    refine XS.iloadN X0.here hx rfl (hb hby d8_14) rfl ?_
    show Sp p e below m s₁ 15 #[.val (.ref aa), .val (.int pf), .val (.int pt), .val (.int (0 : Int32)), .val (.int pf), .unset] [(.int (0 : Int32))] _
    refine XS.ifYes X0.here hx rfl (pc0 := 15) (pc' := 58) rfl (hb hby d8_15) rfl ((if0 _ _).trans (teq (by decide : ((0 : Int32) = (0 : Int32)))).1) (by decide) (by decide) ?_
    refine XS.iloadN X0.here hx rfl (hb hby d8_58) rfl ?_
    exact retN X0 hx (t := .boolean) Bd.returns (by simp) (hb hby d8_59) hr
  · show Q8g Z aa pf pt h0 n0 _ s₁.heap _
    rw [e0]
    exact ⟨rfl, N0, rfl⟩
theorem d8_5 : decode prog_43_method_4_code 5 = .ok (.iconst 1, 1) := by decide +kernel
theorem d8_6 : decode prog_43_method_4_code 6 = .ok (.goto 4, 3) := by decide +kernel
theorem d8_18 : decode prog_43_method_4_code 18 = .ok (.iload 4, 2) := by decide +kernel
theorem d8_20 : decode prog_43_method_4_code 20 = .ok (.iload_n 2, 1) := by decide +kernel
theorem d8_21 : decode prog_43_method_4_code 21 = .ok (.if_icmp .ge 37, 3) := by decide +kernel
theorem d8_24 : decode prog_43_method_4_code 24 = .ok (.aload_n 0, 1) := by decide +kernel
theorem d8_25 : decode prog_43_method_4_code 25 = .ok (.iload 4, 2) := by decide +kernel
theorem d8_27 : decode prog_43_method_4_code 27 = .ok (.invokevirtual 55, 3) := by decide +kernel
theorem own_pd266 : parseMethodDescriptor "(I)C" = some ⟨[.int], some .char⟩ := by decide +kernel
theorem d8_30 : decode prog_43_method_4_code 30 = .ok (.istore 5, 2) := by decide +kernel
theorem d8_32 : decode prog_43_method_4_code 32 = .ok (.iload 5, 2) := by decide +kernel
theorem d8_34 : decode prog_43_method_4_code 34 = .ok (.bipush 48, 2) := by decide +kernel
theorem d8_36 : decode prog_43_method_4_code 36 = .ok (.if_icmp .lt 14, 3) := by decide +kernel
theorem d8_50 : decode prog_43_method_4_code 50 = .ok (.iconst 0, 1) := by decide +kernel
theorem d8_51 : decode prog_43_method_4_code 51 = .ok (.istore_n 3, 1) := by decide +kernel
theorem d8_52 : decode prog_43_method_4_code 52 = .ok (.iinc 4 1, 3) := by decide +kernel
theorem d8_55 : decode prog_43_method_4_code 55 = .ok (.goto (-41), 3) := by decide +kernel
theorem d8_39 : decode prog_43_method_4_code 39 = .ok (.iload 5, 2) := by decide +kernel
theorem d8_41 : decode prog_43_method_4_code 41 = .ok (.bipush 57, 2) := by decide +kernel
theorem d8_43 : decode prog_43_method_4_code 43 = .ok (.if_icmp .gt 7, 3) := by decide +kernel
theorem d8_46 : decode prog_43_method_4_code 46 = .ok (.iconst 1, 1) := by decide +kernel
theorem d8_47 : decode prog_43_method_4_code 47 = .ok (.goto 4, 3) := by decide +kernel
theorem ef_8f0t1 (m : MethodId) (x0 : Addr) : entryFrame m #[(.ref x0), (.int (0 : Int32)), (.int (1 : Int32))] 6 = mkF m 0 #[.val (.ref x0), .val (.int (0 : Int32)), .val (.int (1 : Int32)), .unset, .unset, .unset] [] := by first | (simp [entryFrame, mkF, argsToLocals, Value.category]; done) | rfl
def Q8f0t1 (Z : State) (aa : Addr) (cs : Int32) (vf : Value) (ab : Addr) (kb : ClassId) (cc0 : Int32) (cc1 : Int32) (cc2 : Int32) (cc3 : Int32) (h0 : Heap) (n0 : Nat) (v : Option Value) (h : Heap) (L : List Loc) : Prop := v = some (.int (own_dg cc0)) ∧ Fr n0 L ∧ h = h0
theorem rm8f0t1 (l : Launch) (Z : State) (a0 : Array Value) (hw : ∀ d ∈ tables_1, d.before a0 Z = true) (ws : List Jvm.Cond) (aa : Addr) (cs : Int32) (vf : Value) (ab : Addr) (kb : ClassId) (cc0 : Int32) (cc1 : Int32) (cc2 : Int32) (cc3 : Int32) (h0 : Heap) (n0 : Nat) (Z0 : n0 ≤ h0.size) (O0 : Old Z n0 h0) (Scs : Sta Z Z.heap "java/lang/String" "COMPACT_STRINGS" "Z" (.int cs)) (hcs : ¬ cs = (0 : Int32)) (Ssf : Sta Z Z.heap "jdk/internal/util/Preconditions" "SIOOBE_FORMATTER" "Ljava/util/function/BiFunction;" vf) (hvf : vf.isRef = true) (Sas : Sta Z Z.heap "java/lang/StringUTF16" "$assertionsDisabled" "Z" (.int (1 : Int32))) (Shs : Sta Z Z.heap "java/lang/StringUTF16" "HI_BYTE_SHIFT" "I" (.int (0 : Int32))) (Sls : Sta Z Z.heap "java/lang/StringUTF16" "LO_BYTE_SHIFT" "I" (.int (8 : Int32))) (Ea : Exa Z h0 aa "java/lang/String") (Fv : Fld Z h0 aa "java/lang/String" "value" "[B" (.ref ab)) (Hs : own_str Z h0 aa ab kb cc0 cc1 cc2 cc3) (hr0 : 0 ≤ cc0.toInt ∧ cc0.toInt ≤ 65535) (hr1 : 0 ≤ cc1.toInt ∧ cc1.toInt ≤ 65535) (hr2 : 0 ≤ cc2.toInt ∧ cc2.toInt ≤ 65535) (hr3 : 0 ≤ cc3.toInt ∧ cc3.toInt ≤ 65535) :
    MetFree l (⟨"com/example/vestwright/vestwright/PlainNumber", "isDigits", "(Ljava/lang/String;II)Z"⟩ : MethodName) (head1 (Jvm.Cond.code (⟨"com/example/vestwright/vestwright/PlainNumber", "isDigits", "(Ljava/lang/String;II)Z"⟩ : MethodName) prog_43_method_4_code 6 (some .boolean) :: ws) ({ frames := 5, cells := 0, slots := 0, locals := 66 } : Room)) (fun a U => a = #[(.ref aa), (.int (0 : Int32)), (.int (1 : Int32))] ∧ Z.Warmed39 U.vm ∧ U.heap = h0) (fun _ _ _ _ _ => True) (fun _ U o U' => ∃ v L, o = .returned v ∧ Q8f0t1 Z aa cs vf ab kb cc0 cc1 cc2 cc3 h0 n0 v U'.heap L ∧ FrameEnd U o U' L ({ frames := 5, cells := 0, slots := 0, locals := 66 } : Room).cells ({ frames := 5, cells := 0, slots := 0, locals := 66 } : Room).slots) := by
  refine MetFree.of_bodySF (plainFor_of_name own_pn257) hisR ?_
  intro p e s m args below meth c s₁ Bd hml0 hP hK
  have H := fun i c (h : tables_1[i]? = some c) => hw c (List.mem_of_getElem? h)
  obtain ⟨rfl, hZ, hh⟩ := hP
  have hx := Bd.exec
  have hby := Bd.bytes
  have hml : c.maxLocals = 6 := hml0
  have hown : s.vm.findClass "com/example/vestwright/vestwright/PlainNumber" = some m.cls := findClass_of_methodNamed Bd.named
  have hnm := (name_of_methodNamed Bd.named Bd.method).1
  have X0 : Stand p l e ({ frames := 5, cells := 0, slots := 0, locals := 66 } : Room) s m #[(.ref aa), (.int (0 : Int32)), (.int (1 : Int32))] below meth c s₁ [] 0 0 := Stand.of_body Bd
  have e0 : s₁.heap = h0 := by rw [← hh, Bd.state]; rfl
  have N0 := Fr.nil n0
  have pre0 : ∀ t, Sp p e below m s₁ 0 #[.val (.ref aa), .val (.int (0 : Int32)), .val (.int (1 : Int32)), .unset, .unset, .unset] [] t → Steps p.tables e below (s₁.setTop (entryFrame m #[(.ref aa), (.int (0 : Int32)), (.int (1 : Int32))] 6)) t := fun t k => castTop (ef_8f0t1 m aa) k
  generalize s₁.setTop (entryFrame m #[(.ref aa), (.int (0 : Int32)), (.int (1 : Int32))] 6) = G0 at pre0 ⊢
  obtain ⟨cq732, kq732, q732a, q732b, q732c⟩ := isOf hZ e0 Ea
  obtain ⟨_, _, ⟨T732, L732, k732, n732⟩, -, X732, ⟨Lc732, hQ732, l732, y732, z732⟩, st732⟩ := X0.virtualBack hx hown (mvT hZ (H 64 _ rfl)) (mvT hZ (H 65 _ rfl)) (notFace_of_selects (args := #[]) (mvT hZ (H 67 _ rfl))) (mvT hZ (H 67 _ rfl)) (mvT hZ (H 66 _ rfl)) (by decide) (backOf (W := 0) (rm16i0 l Z a0 hw [] aa cs vf ab kb cc0 cc1 cc2 cc3 h0 n0 Z0 O0 Scs hcs Ssf hvf Sas Shs Sls Ea Fv Hs hr0 hr1 hr2 hr3) hZ (H 68 _ rfl) (H 7 _ rfl) (by decide) (by decide)) q732a q732c (g := (mkF m 27 #[.val (.ref aa), .val (.int (0 : Int32)), .val (.int (1 : Int32)), .val (.int (1 : Int32)), .val (.int (0 : Int32)), .unset] [(.int (0 : Int32)), (.ref aa)])) rfl (by rw [hml]; rfl) (Steps.refl _) (argsL := [(.int (0 : Int32))]) (rest := []) (lenOf own_pd266 rfl) rfl (Nat.le_of_eq rfl) (hb hby d8_27) (fun _ _ => ⟨rfl, e0, (by decide : 0 + 0 ≤ _), (by decide : 0 + 0 ≤ _)⟩)
  dsimp only [Pt.U, Pt.locs, Pt.cells, Pt.slots] at X732 l732 y732 z732 st732 hQ732
  rw [l732, y732, z732] at X732
  obtain ⟨rfl, Nq732, e732⟩ := hQ732
  have N732 := Fr.app N0 Nq732
  have pre733 : ∀ t, Sp p e below m T732 36 #[.val (.ref aa), .val (.int (0 : Int32)), .val (.int (1 : Int32)), .val (.int (1 : Int32)), .val (.int (0 : Int32)), .val (.int cc0)] [(.int (48 : Int32)), (.int cc0)] t → SG p e below G0 t := by
    intro t k
    refine pre0 t ?_
    show Sp p e below m s₁ 0 #[.val (.ref aa), .val (.int (0 : Int32)), .val (.int (1 : Int32)), .unset, .unset, .unset] [] _
    refine XS.iloadN X0.here hx rfl (hb hby d8_0) rfl ?_
    refine XS.iloadN X0.here hx rfl (hb hby d8_1) rfl ?_
    refine XS.icmpNo X0.here hx rfl (hb hby d8_2) rfl (tlt (by decide : ((0 : Int32) < (1 : Int32)))).2.1 ?_
    refine XS.iconst X0.here hx rfl (hb hby d8_5) ?_
    refine XS.goto X0.here hx rfl (pc0 := 6) (pc' := 10) rfl (hb hby d8_6) (by decide) (by decide) ?_
    refine XS.istoreN X0.here hx rfl (hb hby d8_10) rfl (l' := #[.val (.ref aa), .val (.int (0 : Int32)), .val (.int (1 : Int32)), .val (.int (1 : Int32)), .unset, .unset]) rfl ?_
    refine XS.iloadN X0.here hx rfl (hb hby d8_11) rfl ?_
    refine XS.istore X0.here hx rfl (hb hby d8_12) rfl (l' := #[.val (.ref aa), .val (.int (0 : Int32)), .val (.int (1 : Int32)), .val (.int (1 : Int32)), .val (.int (0 : Int32)), .unset]) rfl ?_
    show Sp p e below m s₁ 14 #[.val (.ref aa), .val (.int (0 : Int32)), .val (.int (1 : Int32)), .val (.int (1 : Int32)), .val (.int (0 : Int32)), .unset] [] _
    refine XS.iloadN X0.here hx rfl (hb hby d8_14) rfl ?_
    refine XS.ifNo X0.here hx rfl (hb hby d8_15) rfl ((if0 _ _).trans (feq (by decide : ¬ ((1 : Int32) = (0 : Int32)))).1) ?_
    refine XS.iload X0.here hx rfl (hb hby d8_18) rfl ?_
    refine XS.iloadN X0.here hx rfl (hb hby d8_20) rfl ?_
    refine XS.icmpNo X0.here hx rfl (hb hby d8_21) rfl (tlt (by decide : ((0 : Int32) < (1 : Int32)))).2.1 ?_
    refine XS.aloadN X0.here hx rfl (hb hby d8_24) rfl rfl ?_
    refine XS.iload X0.here hx rfl (hb hby d8_25) rfl ?_
    refine st732.trans ?_
    show Sp p e below m T732 30 #[.val (.ref aa), .val (.int (0 : Int32)), .val (.int (1 : Int32)), .val (.int (1 : Int32)), .val (.int (0 : Int32)), .unset] [(.int cc0)] _
    refine XS.istore X732.here hx rfl (hb hby d8_30) rfl (l' := #[.val (.ref aa), .val (.int (0 : Int32)), .val (.int (1 : Int32)), .val (.int (1 : Int32)), .val (.int (0 : Int32)), .val (.int cc0)]) rfl ?_
    refine XS.iload X732.here hx rfl (hb hby d8_32) rfl ?_
    refine XS.bipush X732.here hx rfl (hb hby d8_34) ?_
    exact k
  by_cases hc36_734 : cc0 < (48 : Int32)
  · obtain ⟨fs, hr, hrun, hended, hW, hsame⟩ := X732.leave (v := some (.int (0 : Int32))) (fun h => by rw [Bd.returns] at h; cases h)
    refine ⟨_, _, pre733 _ ?_, hrun, hended, _, _, rfl, ?_, ⟨_, rfl⟩, hW, hsame.mono (by decide) (by decide)⟩
    · show Sp p e below m T732 36 #[.val (.ref aa), .val (.int (0 : Int32)), .val (.int (1 : Int32)), .val (.int (1 : Int32)), .val (.int (0 : Int32)), .val (.int cc0)] [(.int (48 : Int32)), (.int cc0)] _
      refine XS.icmpYes X732.here hx rfl (pc0 := 36) (pc' := 50) rfl (hb hby d8_36) rfl (tlt hc36_734).1 (by decide) (by decide) ?_
      refine XS.iconst X732.here hx rfl (hb hby d8_50) ?_
      refine XS.istoreN X732.here hx rfl (hb hby d8_51) rfl (l' := #[.val (.ref aa), .val (.int (0 : Int32)), .val (.int (1 : Int32)), .val (.int (0 : Int32)), .val (.int (0 : Int32)), .val (.int cc0)]) rfl ?_
      refine XS.iinc X732.here hx rfl (hb hby d8_52) rfl (l' := #[.val (.ref aa), .val (.int (0 : Int32)), .val (.int (1 : Int32)), .val (.int (0 : Int32)), .val (.int (1 : Int32)), .val (.int cc0)]) rfl ?_
      refine XS.goto X732.here hx rfl (pc0 := 55) (pc' := 14) rfl (hb hby d8_55) (by decide) (by decide) ?_
      show Sp p e below m T732 14 #[.val (.ref aa), .val (.int (0 : Int32)), .val (.int (1 : Int32)), .val (.int (0 : Int32)), .val (.int (1 : Int32)), .val (.int cc0)] [] _
      refine XS.iloadN X732.here hx rfl (hb hby d8_14) rfl ?_
      refine XS.ifYes X732.here hx rfl (pc0 := 15) (pc' := 58) rfl (hb hby d8_15) rfl ((if0 _ _).trans (teq (by decide : ((0 : Int32) = (0 : Int32)))).1) (by decide) (by decide) ?_
      refine XS.iloadN X732.here hx rfl (hb hby d8_58) rfl ?_
      exact retN X732 hx (t := .boolean) Bd.returns (by simp) (hb hby d8_59) hr
    · show Q8f0t1 Z aa cs vf ab kb cc0 cc1 cc2 cc3 h0 n0 _ T732.heap _
      rw [e732]
      exact ⟨(by simp [own_dg, hc36_734]), N732, rfl⟩
  · have pre735 : ∀ t, Sp p e below m T732 43 #[.val (.ref aa), .val (.int (0 : Int32)), .val (.int (1 : Int32)), .val (.int (1 : Int32)), .val (.int (0 : Int32)), .val (.int cc0)] [(.int (57 : Int32)), (.int cc0)] t → SG p e below G0 t := by
      intro t k
      refine pre733 t ?_
      show Sp p e below m T732 36 #[.val (.ref aa), .val (.int (0 : Int32)), .val (.int (1 : Int32)), .val (.int (1 : Int32)), .val (.int (0 : Int32)), .val (.int cc0)] [(.int (48 : Int32)), (.int cc0)] _
      refine XS.icmpNo X732.here hx rfl (hb hby d8_36) rfl (flt hc36_734).1 ?_
      refine XS.iload X732.here hx rfl (hb hby d8_39) rfl ?_
      refine XS.bipush X732.here hx rfl (hb hby d8_41) ?_
      exact k
    by_cases hc43_736 : (57 : Int32) < cc0
    · obtain ⟨fs, hr, hrun, hended, hW, hsame⟩ := X732.leave (v := some (.int (0 : Int32))) (fun h => by rw [Bd.returns] at h; cases h)
      refine ⟨_, _, pre735 _ ?_, hrun, hended, _, _, rfl, ?_, ⟨_, rfl⟩, hW, hsame.mono (by decide) (by decide)⟩
      · show Sp p e below m T732 43 #[.val (.ref aa), .val (.int (0 : Int32)), .val (.int (1 : Int32)), .val (.int (1 : Int32)), .val (.int (0 : Int32)), .val (.int cc0)] [(.int (57 : Int32)), (.int cc0)] _
        refine XS.icmpYes X732.here hx rfl (pc0 := 43) (pc' := 50) rfl (hb hby d8_43) rfl (tlt hc43_736).2.2.1 (by decide) (by decide) ?_
        refine XS.iconst X732.here hx rfl (hb hby d8_50) ?_
        show Sp p e below m T732 51 #[.val (.ref aa), .val (.int (0 : Int32)), .val (.int (1 : Int32)), .val (.int (1 : Int32)), .val (.int (0 : Int32)), .val (.int cc0)] [(.int (0 : Int32))] _
        refine XS.istoreN X732.here hx rfl (hb hby d8_51) rfl (l' := #[.val (.ref aa), .val (.int (0 : Int32)), .val (.int (1 : Int32)), .val (.int (0 : Int32)), .val (.int (0 : Int32)), .val (.int cc0)]) rfl ?_
        refine XS.iinc X732.here hx rfl (hb hby d8_52) rfl (l' := #[.val (.ref aa), .val (.int (0 : Int32)), .val (.int (1 : Int32)), .val (.int (0 : Int32)), .val (.int (1 : Int32)), .val (.int cc0)]) rfl ?_
        refine XS.goto X732.here hx rfl (pc0 := 55) (pc' := 14) rfl (hb hby d8_55) (by decide) (by decide) ?_
        refine XS.iloadN X732.here hx rfl (hb hby d8_14) rfl ?_
        refine XS.ifYes X732.here hx rfl (pc0 := 15) (pc' := 58) rfl (hb hby d8_15) rfl ((if0 _ _).trans (teq (by decide : ((0 : Int32) = (0 : Int32)))).1) (by decide) (by decide) ?_
        refine XS.iloadN X732.here hx rfl (hb hby d8_58) rfl ?_
        exact retN X732 hx (t := .boolean) Bd.returns (by simp) (hb hby d8_59) hr
      · show Q8f0t1 Z aa cs vf ab kb cc0 cc1 cc2 cc3 h0 n0 _ T732.heap _
        rw [e732]
        exact ⟨(by simp [own_dg, hc36_734, hc43_736]), N732, rfl⟩
    · obtain ⟨fs, hr, hrun, hended, hW, hsame⟩ := X732.leave (v := some (.int (1 : Int32))) (fun h => by rw [Bd.returns] at h; cases h)
      refine ⟨_, _, pre735 _ ?_, hrun, hended, _, _, rfl, ?_, ⟨_, rfl⟩, hW, hsame.mono (by decide) (by decide)⟩
      · show Sp p e below m T732 43 #[.val (.ref aa), .val (.int (0 : Int32)), .val (.int (1 : Int32)), .val (.int (1 : Int32)), .val (.int (0 : Int32)), .val (.int cc0)] [(.int (57 : Int32)), (.int cc0)] _
        refine XS.icmpNo X732.here hx rfl (hb hby d8_43) rfl (flt hc43_736).2.2.1 ?_
        refine XS.iconst X732.here hx rfl (hb hby d8_46) ?_
        show Sp p e below m T732 47 #[.val (.ref aa), .val (.int (0 : Int32)), .val (.int (1 : Int32)), .val (.int (1 : Int32)), .val (.int (0 : Int32)), .val (.int cc0)] [(.int (1 : Int32))] _
        refine XS.goto X732.here hx rfl (pc0 := 47) (pc' := 51) rfl (hb hby d8_47) (by decide) (by decide) ?_
        refine XS.istoreN X732.here hx rfl (hb hby d8_51) rfl (l' := #[.val (.ref aa), .val (.int (0 : Int32)), .val (.int (1 : Int32)), .val (.int (1 : Int32)), .val (.int (0 : Int32)), .val (.int cc0)]) rfl ?_
        refine XS.iinc X732.here hx rfl (hb hby d8_52) rfl (l' := #[.val (.ref aa), .val (.int (0 : Int32)), .val (.int (1 : Int32)), .val (.int (1 : Int32)), .val (.int (1 : Int32)), .val (.int cc0)]) rfl ?_
        refine XS.goto X732.here hx rfl (pc0 := 55) (pc' := 14) rfl (hb hby d8_55) (by decide) (by decide) ?_
        refine XS.iloadN X732.here hx rfl (hb hby d8_14) rfl ?_
        refine XS.ifNo X732.here hx rfl (hb hby d8_15) rfl ((if0 _ _).trans (feq (by decide : ¬ ((1 : Int32) = (0 : Int32)))).1) ?_
        refine XS.iload X732.here hx rfl (hb hby d8_18) rfl ?_
        refine XS.iloadN X732.here hx rfl (hb hby d8_20) rfl ?_
        show Sp p e below m T732 21 #[.val (.ref aa), .val (.int (0 : Int32)), .val (.int (1 : Int32)), .val (.int (1 : Int32)), .val (.int (1 : Int32)), .val (.int cc0)] [(.int (1 : Int32)), (.int (1 : Int32))] _
        refine XS.icmpYes X732.here hx rfl (pc0 := 21) (pc' := 58) rfl (hb hby d8_21) rfl (flt (by decide : ¬ ((1 : Int32) < (1 : Int32)))).2.1 (by decide) (by decide) ?_
        refine XS.iloadN X732.here hx rfl (hb hby d8_58) rfl ?_
        exact retN X732 hx (t := .boolean) Bd.returns (by simp) (hb hby d8_59) hr
      · show Q8f0t1 Z aa cs vf ab kb cc0 cc1 cc2 cc3 h0 n0 _ T732.heap _
        rw [e732]
        exact ⟨(by simp [own_dg, hc36_734, hc43_736]), N732, rfl⟩
theorem ef_8f0t2 (m : MethodId) (x0 : Addr) : entryFrame m #[(.ref x0), (.int (0 : Int32)), (.int (2 : Int32))] 6 = mkF m 0 #[.val (.ref x0), .val (.int (0 : Int32)), .val (.int (2 : Int32)), .unset, .unset, .unset] [] := by first | (simp [entryFrame, mkF, argsToLocals, Value.category]; done) | rfl
def Q8f0t2 (Z : State) (aa : Addr) (cs : Int32) (vf : Value) (ab : Addr) (kb : ClassId) (cc0 : Int32) (cc1 : Int32) (cc2 : Int32) (cc3 : Int32) (h0 : Heap) (n0 : Nat) (v : Option Value) (h : Heap) (L : List Loc) : Prop := v = some (.int (if own_dg cc0 = 0 then (0 : Int32) else (own_dg cc1))) ∧ Fr n0 L ∧ h = h0
theorem rm8f0t2 (l : Launch) (Z : State) (a0 : Array Value) (hw : ∀ d ∈ tables_1, d.before a0 Z = true) (ws : List Jvm.Cond) (aa : Addr) (cs : Int32) (vf : Value) (ab : Addr) (kb : ClassId) (cc0 : Int32) (cc1 : Int32) (cc2 : Int32) (cc3 : Int32) (h0 : Heap) (n0 : Nat) (Z0 : n0 ≤ h0.size) (O0 : Old Z n0 h0) (Scs : Sta Z Z.heap "java/lang/String" "COMPACT_STRINGS" "Z" (.int cs)) (hcs : ¬ cs = (0 : Int32)) (Ssf : Sta Z Z.heap "jdk/internal/util/Preconditions" "SIOOBE_FORMATTER" "Ljava/util/function/BiFunction;" vf) (hvf : vf.isRef = true) (Sas : Sta Z Z.heap "java/lang/StringUTF16" "$assertionsDisabled" "Z" (.int (1 : Int32))) (Shs : Sta Z Z.heap "java/lang/StringUTF16" "HI_BYTE_SHIFT" "I" (.int (0 : Int32))) (Sls : Sta Z Z.heap "java/lang/StringUTF16" "LO_BYTE_SHIFT" "I" (.int (8 : Int32))) (Ea : Exa Z h0 aa "java/lang/String") (Fv : Fld Z h0 aa "java/lang/String" "value" "[B" (.ref ab)) (Hs : own_str Z h0 aa ab kb cc0 cc1 cc2 cc3) (hr0 : 0 ≤ cc0.toInt ∧ cc0.toInt ≤ 65535) (hr1 : 0 ≤ cc1.toInt ∧ cc1.toInt ≤ 65535) (hr2 : 0 ≤ cc2.toInt ∧ cc2.toInt ≤ 65535) (hr3 : 0 ≤ cc3.toInt ∧ cc3.toInt ≤ 65535) :
    MetFree l (⟨"com/example/vestwright/vestwright/PlainNumber", "isDigits", "(Ljava/lang/String;II)Z"⟩ : MethodName) (head1 (Jvm.Cond.code (⟨"com/example/vestwright/vestwright/PlainNumber", "isDigits", "(Ljava/lang/String;II)Z"⟩ : MethodName) prog_43_method_4_code 6 (some .boolean) :: ws) ({ frames := 5, cells := 0, slots := 0, locals := 66 } : Room)) (fun a U => a = #[(.ref aa), (.int (0 : Int32)), (.int (2 : Int32))] ∧ Z.Warmed39 U.vm ∧ U.heap = h0) (fun _ _ _ _ _ => True) (fun _ U o U' => ∃ v L, o = .returned v ∧ Q8f0t2 Z aa cs vf ab kb cc0 cc1 cc2 cc3 h0 n0 v U'.heap L ∧ FrameEnd U o U' L ({ frames := 5, cells := 0, slots := 0, locals := 66 } : Room).cells ({ frames := 5, cells := 0, slots := 0, locals := 66 } : Room).slots) := by
  refine MetFree.of_bodySF (plainFor_of_name own_pn257) hisR ?_
  intro p e s m args below meth c s₁ Bd hml0 hP hK
  have H := fun i c (h : tables_1[i]? = some c) => hw c (List.mem_of_getElem? h)
  obtain ⟨rfl, hZ, hh⟩ := hP
  have hx := Bd.exec
  have hby := Bd.bytes
  have hml : c.maxLocals = 6 := hml0
  have hown : s.vm.findClass "com/example/vestwright/vestwright/PlainNumber" = some m.cls := findClass_of_methodNamed Bd.named
  have hnm := (name_of_methodNamed Bd.named Bd.method).1
  have X0 : Stand p l e ({ frames := 5, cells := 0, slots := 0, locals := 66 } : Room) s m #[(.ref aa), (.int (0 : Int32)), (.int (2 : Int32))] below meth c s₁ [] 0 0 := Stand.of_body Bd
  have e0 : s₁.heap = h0 := by rw [← hh, Bd.state]; rfl
  have N0 := Fr.nil n0
  have pre0 : ∀ t, Sp p e below m s₁ 0 #[.val (.ref aa), .val (.int (0 : Int32)), .val (.int (2 : Int32)), .unset, .unset, .unset] [] t → Steps p.tables e below (s₁.setTop (entryFrame m #[(.ref aa), (.int (0 : Int32)), (.int (2 : Int32))] 6)) t := fun t k => castTop (ef_8f0t2 m aa) k
  generalize s₁.setTop (entryFrame m #[(.ref aa), (.int (0 : Int32)), (.int (2 : Int32))] 6) = G0 at pre0 ⊢
  obtain ⟨cq747, kq747, q747a, q747b, q747c⟩ := isOf hZ e0 Ea
  obtain ⟨_, _, ⟨T747, L747, k747, n747⟩, -, X747, ⟨Lc747, hQ747, l747, y747, z747⟩, st747⟩ := X0.virtualBack hx hown (mvT hZ (H 64 _ rfl)) (mvT hZ (H 65 _ rfl)) (notFace_of_selects (args := #[]) (mvT hZ (H 67 _ rfl))) (mvT hZ (H 67 _ rfl)) (mvT hZ (H 66 _ rfl)) (by decide) (backOf (W := 0) (rm16i0 l Z a0 hw [] aa cs vf ab kb cc0 cc1 cc2 cc3 h0 n0 Z0 O0 Scs hcs Ssf hvf Sas Shs Sls Ea Fv Hs hr0 hr1 hr2 hr3) hZ (H 68 _ rfl) (H 7 _ rfl) (by decide) (by decide)) q747a q747c (g := (mkF m 27 #[.val (.ref aa), .val (.int (0 : Int32)), .val (.int (2 : Int32)), .val (.int (1 : Int32)), .val (.int (0 : Int32)), .unset] [(.int (0 : Int32)), (.ref aa)])) rfl (by rw [hml]; rfl) (Steps.refl _) (argsL := [(.int (0 : Int32))]) (rest := []) (lenOf own_pd266 rfl) rfl (Nat.le_of_eq rfl) (hb hby d8_27) (fun _ _ => ⟨rfl, e0, (by decide : 0 + 0 ≤ _), (by decide : 0 + 0 ≤ _)⟩)
  dsimp only [Pt.U, Pt.locs, Pt.cells, Pt.slots] at X747 l747 y747 z747 st747 hQ747
  rw [l747, y747, z747] at X747
  obtain ⟨rfl, Nq747, e747⟩ := hQ747
  have N747 := Fr.app N0 Nq747
  have pre748 : ∀ t, Sp p e below m T747 36 #[.val (.ref aa), .val (.int (0 : Int32)), .val (.int (2 : Int32)), .val (.int (1 : Int32)), .val (.int (0 : Int32)), .val (.int cc0)] [(.int (48 : Int32)), (.int cc0)] t → SG p e below G0 t := by
    intro t k
    refine pre0 t ?_
    show Sp p e below m s₁ 0 #[.val (.ref aa), .val (.int (0 : Int32)), .val (.int (2 : Int32)), .unset, .unset, .unset] [] _
    refine XS.iloadN X0.here hx rfl (hb hby d8_0) rfl ?_
    refine XS.iloadN X0.here hx rfl (hb hby d8_1) rfl ?_
    refine XS.icmpNo X0.here hx rfl (hb hby d8_2) rfl (tlt (by decide : ((0 : Int32) < (2 : Int32)))).2.1 ?_
    refine XS.iconst X0.here hx rfl (hb hby d8_5) ?_
    refine XS.goto X0.here hx rfl (pc0 := 6) (pc' := 10) rfl (hb hby d8_6) (by decide) (by decide) ?_
    refine XS.istoreN X0.here hx rfl (hb hby d8_10) rfl (l' := #[.val (.ref aa), .val (.int (0 : Int32)), .val (.int (2 : Int32)), .val (.int (1 : Int32)), .unset, .unset]) rfl ?_
    refine XS.iloadN X0.here hx rfl (hb hby d8_11) rfl ?_
    refine XS.istore X0.here hx rfl (hb hby d8_12) rfl (l' := #[.val (.ref aa), .val (.int (0 : Int32)), .val (.int (2 : Int32)), .val (.int (1 : Int32)), .val (.int (0 : Int32)), .unset]) rfl ?_
    show Sp p e below m s₁ 14 #[.val (.ref aa), .val (.int (0 : Int32)), .val (.int (2 : Int32)), .val (.int (1 : Int32)), .val (.int (0 : Int32)), .unset] [] _
    refine XS.iloadN X0.here hx rfl (hb hby d8_14) rfl ?_
    refine XS.ifNo X0.here hx rfl (hb hby d8_15) rfl ((if0 _ _).trans (feq (by decide : ¬ ((1 : Int32) = (0 : Int32)))).1) ?_
    refine XS.iload X0.here hx rfl (hb hby d8_18) rfl ?_
    refine XS.iloadN X0.here hx rfl (hb hby d8_20) rfl ?_
    refine XS.icmpNo X0.here hx rfl (hb hby d8_21) rfl (tlt (by decide : ((0 : Int32) < (2 : Int32)))).2.1 ?_
    refine XS.aloadN X0.here hx rfl (hb hby d8_24) rfl rfl ?_
    refine XS.iload X0.here hx rfl (hb hby d8_25) rfl ?_
    refine st747.trans ?_
    show Sp p e below m T747 30 #[.val (.ref aa), .val (.int (0 : Int32)), .val (.int (2 : Int32)), .val (.int (1 : Int32)), .val (.int (0 : Int32)), .unset] [(.int cc0)] _
    refine XS.istore X747.here hx rfl (hb hby d8_30) rfl (l' := #[.val (.ref aa), .val (.int (0 : Int32)), .val (.int (2 : Int32)), .val (.int (1 : Int32)), .val (.int (0 : Int32)), .val (.int cc0)]) rfl ?_
    refine XS.iload X747.here hx rfl (hb hby d8_32) rfl ?_
    refine XS.bipush X747.here hx rfl (hb hby d8_34) ?_
    exact k
  by_cases hc36_749 : cc0 < (48 : Int32)
  · obtain ⟨fs, hr, hrun, hended, hW, hsame⟩ := X747.leave (v := some (.int (0 : Int32))) (fun h => by rw [Bd.returns] at h; cases h)
    refine ⟨_, _, pre748 _ ?_, hrun, hended, _, _, rfl, ?_, ⟨_, rfl⟩, hW, hsame.mono (by decide) (by decide)⟩
    · show Sp p e below m T747 36 #[.val (.ref aa), .val (.int (0 : Int32)), .val (.int (2 : Int32)), .val (.int (1 : Int32)), .val (.int (0 : Int32)), .val (.int cc0)] [(.int (48 : Int32)), (.int cc0)] _
      refine XS.icmpYes X747.here hx rfl (pc0 := 36) (pc' := 50) rfl (hb hby d8_36) rfl (tlt hc36_749).1 (by decide) (by decide) ?_
      refine XS.iconst X747.here hx rfl (hb hby d8_50) ?_
      refine XS.istoreN X747.here hx rfl (hb hby d8_51) rfl (l' := #[.val (.ref aa), .val (.int (0 : Int32)), .val (.int (2 : Int32)), .val (.int (0 : Int32)), .val (.int (0 : Int32)), .val (.int cc0)]) rfl ?_
      refine XS.iinc X747.here hx rfl (hb hby d8_52) rfl (l' := #[.val (.ref aa), .val (.int (0 : Int32)), .val (.int (2 : Int32)), .val (.int (0 : Int32)), .val (.int (1 : Int32)), .val (.int cc0)]) rfl ?_
      refine XS.goto X747.here hx rfl (pc0 := 55) (pc' := 14) rfl (hb hby d8_55) (by decide) (by decide) ?_
      show Sp p e below m T747 14 #[.val (.ref aa), .val (.int (0 : Int32)), .val (.int (2 : Int32)), .val (.int (0 : Int32)), .val (.int (1 : Int32)), .val (.int cc0)] [] _
      refine XS.iloadN X747.here hx rfl (hb hby d8_14) rfl ?_
      refine XS.ifYes X747.here hx rfl (pc0 := 15) (pc' := 58) rfl (hb hby d8_15) rfl ((if0 _ _).trans (teq (by decide : ((0 : Int32) = (0 : Int32)))).1) (by decide) (by decide) ?_
      refine XS.iloadN X747.here hx rfl (hb hby d8_58) rfl ?_
      exact retN X747 hx (t := .boolean) Bd.returns (by simp) (hb hby d8_59) hr
    · show Q8f0t2 Z aa cs vf ab kb cc0 cc1 cc2 cc3 h0 n0 _ T747.heap _
      rw [e747]
      exact ⟨(by simp [own_dg, hc36_749]), N747, rfl⟩
  · have pre750 : ∀ t, Sp p e below m T747 43 #[.val (.ref aa), .val (.int (0 : Int32)), .val (.int (2 : Int32)), .val (.int (1 : Int32)), .val (.int (0 : Int32)), .val (.int cc0)] [(.int (57 : Int32)), (.int cc0)] t → SG p e below G0 t := by
      intro t k
      refine pre748 t ?_
      show Sp p e below m T747 36 #[.val (.ref aa), .val (.int (0 : Int32)), .val (.int (2 : Int32)), .val (.int (1 : Int32)), .val (.int (0 : Int32)), .val (.int cc0)] [(.int (48 : Int32)), (.int cc0)] _
      refine XS.icmpNo X747.here hx rfl (hb hby d8_36) rfl (flt hc36_749).1 ?_
      refine XS.iload X747.here hx rfl (hb hby d8_39) rfl ?_
      refine XS.bipush X747.here hx rfl (hb hby d8_41) ?_
      exact k
    by_cases hc43_751 : (57 : Int32) < cc0
    · obtain ⟨fs, hr, hrun, hended, hW, hsame⟩ := X747.leave (v := some (.int (0 : Int32))) (fun h => by rw [Bd.returns] at h; cases h)
      refine ⟨_, _, pre750 _ ?_, hrun, hended, _, _, rfl, ?_, ⟨_, rfl⟩, hW, hsame.mono (by decide) (by decide)⟩
      · show Sp p e below m T747 43 #[.val (.ref aa), .val (.int (0 : Int32)), .val (.int (2 : Int32)), .val (.int (1 : Int32)), .val (.int (0 : Int32)), .val (.int cc0)] [(.int (57 : Int32)), (.int cc0)] _
        refine XS.icmpYes X747.here hx rfl (pc0 := 43) (pc' := 50) rfl (hb hby d8_43) rfl (tlt hc43_751).2.2.1 (by decide) (by decide) ?_
        refine XS.iconst X747.here hx rfl (hb hby d8_50) ?_
        show Sp p e below m T747 51 #[.val (.ref aa), .val (.int (0 : Int32)), .val (.int (2 : Int32)), .val (.int (1 : Int32)), .val (.int (0 : Int32)), .val (.int cc0)] [(.int (0 : Int32))] _
        refine XS.istoreN X747.here hx rfl (hb hby d8_51) rfl (l' := #[.val (.ref aa), .val (.int (0 : Int32)), .val (.int (2 : Int32)), .val (.int (0 : Int32)), .val (.int (0 : Int32)), .val (.int cc0)]) rfl ?_
        refine XS.iinc X747.here hx rfl (hb hby d8_52) rfl (l' := #[.val (.ref aa), .val (.int (0 : Int32)), .val (.int (2 : Int32)), .val (.int (0 : Int32)), .val (.int (1 : Int32)), .val (.int cc0)]) rfl ?_
        refine XS.goto X747.here hx rfl (pc0 := 55) (pc' := 14) rfl (hb hby d8_55) (by decide) (by decide) ?_
        refine XS.iloadN X747.here hx rfl (hb hby d8_14) rfl ?_
        refine XS.ifYes X747.here hx rfl (pc0 := 15) (pc' := 58) rfl (hb hby d8_15) rfl ((if0 _ _).trans (teq (by decide : ((0 : Int32) = (0 : Int32)))).1) (by decide) (by decide) ?_
        refine XS.iloadN X747.here hx rfl (hb hby d8_58) rfl ?_
        exact retN X747 hx (t := .boolean) Bd.returns (by simp) (hb hby d8_59) hr
      · show Q8f0t2 Z aa cs vf ab kb cc0 cc1 cc2 cc3 h0 n0 _ T747.heap _
        rw [e747]
        exact ⟨(by simp [own_dg, hc36_749, hc43_751]), N747, rfl⟩
    · obtain ⟨cq752, kq752, q752a, q752b, q752c⟩ := isOf hZ e747 Ea
      obtain ⟨_, _, ⟨T752, L752, k752, n752⟩, -, X752, ⟨Lc752, hQ752, l752, y752, z752⟩, st752⟩ := X747.virtualBack hx hown (mvT hZ (H 64 _ rfl)) (mvT hZ (H 65 _ rfl)) (notFace_of_selects (args := #[]) (mvT hZ (H 67 _ rfl))) (mvT hZ (H 67 _ rfl)) (mvT hZ (H 66 _ rfl)) (by decide) (backOf (W := 0) (rm16i1 l Z a0 hw [] aa cs vf ab kb cc0 cc1 cc2 cc3 h0 n0 Z0 O0 Scs hcs Ssf hvf Sas Shs Sls Ea Fv Hs hr0 hr1 hr2 hr3) hZ (H 68 _ rfl) (H 7 _ rfl) (by decide) (by decide)) q752a q752c (g := (mkF m 27 #[.val (.ref aa), .val (.int (0 : Int32)), .val (.int (2 : Int32)), .val (.int (1 : Int32)), .val (.int (1 : Int32)), .val (.int cc0)] [(.int (1 : Int32)), (.ref aa)])) rfl (by rw [hml]; rfl) (Steps.refl _) (argsL := [(.int (1 : Int32))]) (rest := []) (lenOf own_pd266 rfl) rfl (Nat.le_of_eq rfl) (hb hby d8_27) (fun _ _ => ⟨rfl, e747, (by decide : 0 + 0 ≤ _), (by decide : 0 + 0 ≤ _)⟩)
      dsimp only [Pt.U, Pt.locs, Pt.cells, Pt.slots] at X752 l752 y752 z752 st752 hQ752
      rw [l752, y752, z752] at X752
      obtain ⟨rfl, Nq752, e752⟩ := hQ752
      have N752 := Fr.app N747 Nq752
      have pre753 : ∀ t, Sp p e below m T752 36 #[.val (.ref aa), .val (.int (0 : Int32)), .val (.int (2 : Int32)), .val (.int (1 : Int32)), .val (.int (1 : Int32)), .val (.int cc1)] [(.int (48 : Int32)), (.int cc1)] t → SG p e below G0 t := by
        intro t k
        refine pre750 t ?_
        show Sp p e below m T747 43 #[.val (.ref aa), .val (.int (0 : Int32)), .val (.int (2 : Int32)), .val (.int (1 : Int32)), .val (.int (0 : Int32)), .val (.int cc0)] [(.int (57 : Int32)), (.int cc0)] _
        refine XS.icmpNo X747.here hx rfl (hb hby d8_43) rfl (flt hc43_751).2.2.1 ?_
        refine XS.iconst X747.here hx rfl (hb hby d8_46) ?_
        show Sp p e below m T747 47 #[.val (.ref aa), .val (.int (0 : Int32)), .val (.int (2 : Int32)), .val (.int (1 : Int32)), .val (.int (0 : Int32)), .val (.int cc0)] [(.int (1 : Int32))] _
        refine XS.goto X747.here hx rfl (pc0 := 47) (pc' := 51) rfl (hb hby d8_47) (by decide) (by decide) ?_
        refine XS.istoreN X747.here hx rfl (hb hby d8_51) rfl (l' := #[.val (.ref aa), .val (.int (0 : Int32)), .val (.int (2 : Int32)), .val (.int (1 : Int32)), .val (.int (0 : Int32)), .val (.int cc0)]) rfl ?_
        refine XS.iinc X747.here hx rfl (hb hby d8_52) rfl (l' := #[.val (.ref aa), .val (.int (0 : Int32)), .val (.int (2 : Int32)), .val (.int (1 : Int32)), .val (.int (1 : Int32)), .val (.int cc0)]) rfl ?_
        refine XS.goto X747.here hx rfl (pc0 := 55) (pc' := 14) rfl (hb hby d8_55) (by decide) (by decide) ?_
        refine XS.iloadN X747.here hx rfl (hb hby d8_14) rfl ?_
        refine XS.ifNo X747.here hx rfl (hb hby d8_15) rfl ((if0 _ _).trans (feq (by decide : ¬ ((1 : Int32) = (0 : Int32)))).1) ?_
        refine XS.iload X747.here hx rfl (hb hby d8_18) rfl ?_
        refine XS.iloadN X747.here hx rfl (hb hby d8_20) rfl ?_
        show Sp p e below m T747 21 #[.val (.ref aa), .val (.int (0 : Int32)), .val (.int (2 : Int32)), .val (.int (1 : Int32)), .val (.int (1 : Int32)), .val (.int cc0)] [(.int (2 : Int32)), (.int (1 : Int32))] _
        refine XS.icmpNo X747.here hx rfl (hb hby d8_21) rfl (tlt (by decide : ((1 : Int32) < (2 : Int32)))).2.1 ?_
        refine XS.aloadN X747.here hx rfl (hb hby d8_24) rfl rfl ?_
        refine XS.iload X747.here hx rfl (hb hby d8_25) rfl ?_
        refine st752.trans ?_
        show Sp p e below m T752 30 #[.val (.ref aa), .val (.int (0 : Int32)), .val (.int (2 : Int32)), .val (.int (1 : Int32)), .val (.int (1 : Int32)), .val (.int cc0)] [(.int cc1)] _
        refine XS.istore X752.here hx rfl (hb hby d8_30) rfl (l' := #[.val (.ref aa), .val (.int (0 : Int32)), .val (.int (2 : Int32)), .val (.int (1 : Int32)), .val (.int (1 : Int32)), .val (.int cc1)]) rfl ?_
        refine XS.iload X752.here hx rfl (hb hby d8_32) rfl ?_
        refine XS.bipush X752.here hx rfl (hb hby d8_34) ?_
        exact k
      by_cases hc36_754 : cc1 < (48 : Int32)
      · obtain ⟨fs, hr, hrun, hended, hW, hsame⟩ := X752.leave (v := some (.int (0 : Int32))) (fun h => by rw [Bd.returns] at h; cases h)
        refine ⟨_, _, pre753 _ ?_, hrun, hended, _, _, rfl, ?_, ⟨_, rfl⟩, hW, hsame.mono (by decide) (by decide)⟩
        · show Sp p e below m T752 36 #[.val (.ref aa), .val (.int (0 : Int32)), .val (.int (2 : Int32)), .val (.int (1 : Int32)), .val (.int (1 : Int32)), .val (.int cc1)] [(.int (48 : Int32)), (.int cc1)] _
          refine XS.icmpYes X752.here hx rfl (pc0 := 36) (pc' := 50) rfl (hb hby d8_36) rfl (tlt hc36_754).1 (by decide) (by decide) ?_
          refine XS.iconst X752.here hx rfl (hb hby d8_50) ?_
          refine XS.istoreN X752.here hx rfl (hb hby d8_51) rfl (l' := #[.val (.ref aa), .val (.int (0 : Int32)), .val (.int (2 : Int32)), .val (.int (0 : Int32)), .val (.int (1 : Int32)), .val (.int cc1)]) rfl ?_
          refine XS.iinc X752.here hx rfl (hb hby d8_52) rfl (l' := #[.val (.ref aa), .val (.int (0 : Int32)), .val (.int (2 : Int32)), .val (.int (0 : Int32)), .val (.int (2 : Int32)), .val (.int cc1)]) rfl ?_
          refine XS.goto X752.here hx rfl (pc0 := 55) (pc' := 14) rfl (hb hby d8_55) (by decide) (by decide) ?_
          show Sp p e below m T752 14 #[.val (.ref aa), .val (.int (0 : Int32)), .val (.int (2 : Int32)), .val (.int (0 : Int32)), .val (.int (2 : Int32)), .val (.int cc1)] [] _
          refine XS.iloadN X752.here hx rfl (hb hby d8_14) rfl ?_
          refine XS.ifYes X752.here hx rfl (pc0 := 15) (pc' := 58) rfl (hb hby d8_15) rfl ((if0 _ _).trans (teq (by decide : ((0 : Int32) = (0 : Int32)))).1) (by decide) (by decide) ?_
          refine XS.iloadN X752.here hx rfl (hb hby d8_58) rfl ?_
          exact retN X752 hx (t := .boolean) Bd.returns (by simp) (hb hby d8_59) hr
        · show Q8f0t2 Z aa cs vf ab kb cc0 cc1 cc2 cc3 h0 n0 _ T752.heap _
          rw [e752]
          exact ⟨(by simp [own_dg, hc36_749, hc43_751, hc36_754]), N752, rfl⟩
      · have pre755 : ∀ t, Sp p e below m T752 43 #[.val (.ref aa), .val (.int (0 : Int32)), .val (.int (2 : Int32)), .val (.int (1 : Int32)), .val (.int (1 : Int32)), .val (.int cc1)] [(.int (57 : Int32)), (.int cc1)] t → SG p e below G0 t := by
          intro t k
          refine pre753 t ?_
          show Sp p e below m T752 36 #[.val (.ref aa), .val (.int (0 : Int32)), .val (.int (2 : Int32)), .val (.int (1 : Int32)), .val (.int (1 : Int32)), .val (.int cc1)] [(.int (48 : Int32)), (.int cc1)] _
          refine XS.icmpNo X752.here hx rfl (hb hby d8_36) rfl (flt hc36_754).1 ?_
          refine XS.iload X752.here hx rfl (hb hby d8_39) rfl ?_
          refine XS.bipush X752.here hx rfl (hb hby d8_41) ?_
          exact k
        by_cases hc43_756 : (57 : Int32) < cc1
        · obtain ⟨fs, hr, hrun, hended, hW, hsame⟩ := X752.leave (v := some (.int (0 : Int32))) (fun h => by rw [Bd.returns] at h; cases h)
          refine ⟨_, _, pre755 _ ?_, hrun, hended, _, _, rfl, ?_, ⟨_, rfl⟩, hW, hsame.mono (by decide) (by decide)⟩
          · show Sp p e below m T752 43 #[.val (.ref aa), .val (.int (0 : Int32)), .val (.int (2 : Int32)), .val (.int (1 : Int32)), .val (.int (1 : Int32)), .val (.int cc1)] [(.int (57 : Int32)), (.int cc1)] _
            refine XS.icmpYes X752.here hx rfl (pc0 := 43) (pc' := 50) rfl (hb hby d8_43) rfl (tlt hc43_756).2.2.1 (by decide) (by decide) ?_
            refine XS.iconst X752.here hx rfl (hb hby d8_50) ?_
            show Sp p e below m T752 51 #[.val (.ref aa), .val (.int (0 : Int32)), .val (.int (2 : Int32)), .val (.int (1 : Int32)), .val (.int (1 : Int32)), .val (.int cc1)] [(.int (0 : Int32))] _
            refine XS.istoreN X752.here hx rfl (hb hby d8_51) rfl (l' := #[.val (.ref aa), .val (.int (0 : Int32)), .val (.int (2 : Int32)), .val (.int (0 : Int32)), .val (.int (1 : Int32)), .val (.int cc1)]) rfl ?_
            refine XS.iinc X752.here hx rfl (hb hby d8_52) rfl (l' := #[.val (.ref aa), .val (.int (0 : Int32)), .val (.int (2 : Int32)), .val (.int (0 : Int32)), .val (.int (2 : Int32)), .val (.int cc1)]) rfl ?_
            refine XS.goto X752.here hx rfl (pc0 := 55) (pc' := 14) rfl (hb hby d8_55) (by decide) (by decide) ?_
            refine XS.iloadN X752.here hx rfl (hb hby d8_14) rfl ?_
            refine XS.ifYes X752.here hx rfl (pc0 := 15) (pc' := 58) rfl (hb hby d8_15) rfl ((if0 _ _).trans (teq (by decide : ((0 : Int32) = (0 : Int32)))).1) (by decide) (by decide) ?_
            refine XS.iloadN X752.here hx rfl (hb hby d8_58) rfl ?_
            exact retN X752 hx (t := .boolean) Bd.returns (by simp) (hb hby d8_59) hr
          · show Q8f0t2 Z aa cs vf ab kb cc0 cc1 cc2 cc3 h0 n0 _ T752.heap _
            rw [e752]
            exact ⟨(by simp [own_dg, hc36_749, hc43_751, hc36_754, hc43_756]), N752, rfl⟩
        · obtain ⟨fs, hr, hrun, hended, hW, hsame⟩ := X752.leave (v := some (.int (1 : Int32))) (fun h => by rw [Bd.returns] at h; cases h)
          refine ⟨_, _, pre755 _ ?_, hrun, hended, _, _, rfl, ?_, ⟨_, rfl⟩, hW, hsame.mono (by decide) (by decide)⟩
          · show Sp p e below m T752 43 #[.val (.ref aa), .val (.int (0 : Int32)), .val (.int (2 : Int32)), .val (.int (1 : Int32)), .val (.int (1 : Int32)), .val (.int cc1)] [(.int (57 : Int32)), (.int cc1)] _
            refine XS.icmpNo X752.here hx rfl (hb hby d8_43) rfl (flt hc43_756).2.2.1 ?_
            refine XS.iconst X752.here hx rfl (hb hby d8_46) ?_
            show Sp p e below m T752 47 #[.val (.ref aa), .val (.int (0 : Int32)), .val (.int (2 : Int32)), .val (.int (1 : Int32)), .val (.int (1 : Int32)), .val (.int cc1)] [(.int (1 : Int32))] _
            refine XS.goto X752.here hx rfl (pc0 := 47) (pc' := 51) rfl (hb hby d8_47) (by decide) (by decide) ?_
            refine XS.istoreN X752.here hx rfl (hb hby d8_51) rfl (l' := #[.val (.ref aa), .val (.int (0 : Int32)), .val (.int (2 : Int32)), .val (.int (1 : Int32)), .val (.int (1 : Int32)), .val (.int cc1)]) rfl ?_
            refine XS.iinc X752.here hx rfl (hb hby d8_52) rfl (l' := #[.val (.ref aa), .val (.int (0 : Int32)), .val (.int (2 : Int32)), .val (.int (1 : Int32)), .val (.int (2 : Int32)), .val (.int cc1)]) rfl ?_
            refine XS.goto X752.here hx rfl (pc0 := 55) (pc' := 14) rfl (hb hby d8_55) (by decide) (by decide) ?_
            refine XS.iloadN X752.here hx rfl (hb hby d8_14) rfl ?_
            refine XS.ifNo X752.here hx rfl (hb hby d8_15) rfl ((if0 _ _).trans (feq (by decide : ¬ ((1 : Int32) = (0 : Int32)))).1) ?_
            refine XS.iload X752.here hx rfl (hb hby d8_18) rfl ?_
            refine XS.iloadN X752.here hx rfl (hb hby d8_20) rfl ?_
            show Sp p e below m T752 21 #[.val (.ref aa), .val (.int (0 : Int32)), .val (.int (2 : Int32)), .val (.int (1 : Int32)), .val (.int (2 : Int32)), .val (.int cc1)] [(.int (2 : Int32)), (.int (2 : Int32))] _
            refine XS.icmpYes X752.here hx rfl (pc0 := 21) (pc' := 58) rfl (hb hby d8_21) rfl (flt (by decide : ¬ ((2 : Int32) < (2 : Int32)))).2.1 (by decide) (by decide) ?_
            refine XS.iloadN X752.here hx rfl (hb hby d8_58) rfl ?_
            exact retN X752 hx (t := .boolean) Bd.returns (by simp) (hb hby d8_59) hr
          · show Q8f0t2 Z aa cs vf ab kb cc0 cc1 cc2 cc3 h0 n0 _ T752.heap _
            rw [e752]
            exact ⟨(by simp [own_dg, hc36_749, hc43_751, hc36_754, hc43_756]), N752, rfl⟩
theorem ef_8f0t3 (m : MethodId) (x0 : Addr) : entryFrame m #[(.ref x0), (.int (0 : Int32)), (.int (3 : Int32))] 6 = mkF m 0 #[.val (.ref x0), .val (.int (0 : Int32)), .val (.int (3 : Int32)), .unset, .unset, .unset] [] := by first | (simp [entryFrame, mkF, argsToLocals, Value.category]; done) | rfl
def Q8f0t3 (Z : State) (aa : Addr) (cs : Int32) (vf : Value) (ab : Addr) (kb : ClassId) (cc0 : Int32) (cc1 : Int32) (cc2 : Int32) (cc3 : Int32) (h0 : Heap) (n0 : Nat) (v : Option Value) (h : Heap) (L : List Loc) : Prop := v = some (.int (if own_dg cc0 = 0 then (0 : Int32) else (if own_dg cc1 = 0 then (0 : Int32) else (own_dg cc2)))) ∧ Fr n0 L ∧ h = h0
theorem rm8f0t3 (l : Launch) (Z : State) (a0 : Array Value) (hw : ∀ d ∈ tables_1, d.before a0 Z = true) (ws : List Jvm.Cond) (aa : Addr) (cs : Int32) (vf : Value) (ab : Addr) (kb : ClassId) (cc0 : Int32) (cc1 : Int32) (cc2 : Int32) (cc3 : Int32) (h0 : Heap) (n0 : Nat) (Z0 : n0 ≤ h0.size) (O0 : Old Z n0 h0) (Scs : Sta Z Z.heap "java/lang/String" "COMPACT_STRINGS" "Z" (.int cs)) (hcs : ¬ cs = (0 : Int32)) (Ssf : Sta Z Z.heap "jdk/internal/util/Preconditions" "SIOOBE_FORMATTER" "Ljava/util/function/BiFunction;" vf) (hvf : vf.isRef = true) (Sas : Sta Z Z.heap "java/lang/StringUTF16" "$assertionsDisabled" "Z" (.int (1 : Int32))) (Shs : Sta Z Z.heap "java/lang/StringUTF16" "HI_BYTE_SHIFT" "I" (.int (0 : Int32))) (Sls : Sta Z Z.heap "java/lang/StringUTF16" "LO_BYTE_SHIFT" "I" (.int (8 : Int32))) (Ea : Exa Z h0 aa "java/lang/String") (Fv : Fld Z h0 aa "java/lang/String" "value" "[B" (.ref ab)) (Hs : own_str Z h0 aa ab kb cc0 cc1 cc2 cc3) (hr0 : 0 ≤ cc0.toInt ∧ cc0.toInt ≤ 65535) (hr1 : 0 ≤ cc1.toInt ∧ cc1.toInt ≤ 65535) (hr2 : 0 ≤ cc2.toInt ∧ cc2.toInt ≤ 65535) (hr3 : 0 ≤ cc3.toInt ∧ cc3.toInt ≤ 65535) :
    MetFree l (⟨"com/example/vestwright/vestwright/PlainNumber", "isDigits", "(Ljava/lang/String;II)Z"⟩ : MethodName) (head1 (Jvm.Cond.code (⟨"com/example/vestwright/vestwright/PlainNumber", "isDigits", "(Ljava/lang/String;II)Z"⟩ : MethodName) prog_43_method_4_code 6 (some .boolean) :: ws) ({ frames := 5, cells := 0, slots := 0, locals := 66 } : Room)) (fun a U => a = #[(.ref aa), (.int (0 : Int32)), (.int (3 : Int32))] ∧ Z.Warmed39 U.vm ∧ U.heap = h0) (fun _ _ _ _ _ => True) (fun _ U o U' => ∃ v L, o = .returned v ∧ Q8f0t3 Z aa cs vf ab kb cc0 cc1 cc2 cc3 h0 n0 v U'.heap L ∧ FrameEnd U o U' L ({ frames := 5, cells := 0, slots := 0, locals := 66 } : Room).cells ({ frames := 5, cells := 0, slots := 0, locals := 66 } : Room).slots) := by
  refine MetFree.of_bodySF (plainFor_of_name own_pn257) hisR ?_
  intro p e s m args below meth c s₁ Bd hml0 hP hK
  have H := fun i c (h : tables_1[i]? = some c) => hw c (List.mem_of_getElem? h)
  obtain ⟨rfl, hZ, hh⟩ := hP
  have hx := Bd.exec
  have hby := Bd.bytes
  have hml : c.maxLocals = 6 := hml0
  have hown : s.vm.findClass "com/example/vestwright/vestwright/PlainNumber" = some m.cls := findClass_of_methodNamed Bd.named
  have hnm := (name_of_methodNamed Bd.named Bd.method).1
  have X0 : Stand p l e ({ frames := 5, cells := 0, slots := 0, locals := 66 } : Room) s m #[(.ref aa), (.int (0 : Int32)), (.int (3 : Int32))] below meth c s₁ [] 0 0 := Stand.of_body Bd
  have e0 : s₁.heap = h0 := by rw [← hh, Bd.state]; rfl
  have N0 := Fr.nil n0
  have pre0 : ∀ t, Sp p e below m s₁ 0 #[.val (.ref aa), .val (.int (0 : Int32)), .val (.int (3 : Int32)), .unset, .unset, .unset] [] t → Steps p.tables e below (s₁.setTop (entryFrame m #[(.ref aa), (.int (0 : Int32)), (.int (3 : Int32))] 6)) t := fun t k => castTop (ef_8f0t3 m aa) k
  generalize s₁.setTop (entryFrame m #[(.ref aa), (.int (0 : Int32)), (.int (3 : Int32))] 6) = G0 at pre0 ⊢
  obtain ⟨cq772, kq772, q772a, q772b, q772c⟩ := isOf hZ e0 Ea
  obtain ⟨_, _, ⟨T772, L772, k772, n772⟩, -, X772, ⟨Lc772, hQ772, l772, y772, z772⟩, st772⟩ := X0.virtualBack hx hown (mvT hZ (H 64 _ rfl)) (mvT hZ (H 65 _ rfl)) (notFace_of_selects (args := #[]) (mvT hZ (H 67 _ rfl))) (mvT hZ (H 67 _ rfl)) (mvT hZ (H 66 _ rfl)) (by decide) (backOf (W := 0) (rm16i0 l Z a0 hw [] aa cs vf ab kb cc0 cc1 cc2 cc3 h0 n0 Z0 O0 Scs hcs Ssf hvf Sas Shs Sls Ea Fv Hs hr0 hr1 hr2 hr3) hZ (H 68 _ rfl) (H 7 _ rfl) (by decide) (by decide)) q772a q772c (g := (mkF m 27 #[.val (.ref aa), .val (.int (0 : Int32)), .val (.int (3 : Int32)), .val (.int (1 : Int32)), .val (.int (0 : Int32)), .unset] [(.int (0 : Int32)), (.ref aa)])) rfl (by rw [hml]; rfl) (Steps.refl _) (argsL := [(.int (0 : Int32))]) (rest := []) (lenOf own_pd266 rfl) rfl (Nat.le_of_eq rfl) (hb hby d8_27) (fun _ _ => ⟨rfl, e0, (by decide : 0 + 0 ≤ _), (by decide : 0 + 0 ≤ _)⟩)
  dsimp only [Pt.U, Pt.locs, Pt.cells, Pt.slots] at X772 l772 y772 z772 st772 hQ772
  rw [l772, y772, z772] at X772
  obtain ⟨rfl, Nq772, e772⟩ := hQ772
  have N772 := Fr.app N0 Nq772
  have pre773 : ∀ t, Sp p e below m T772 36 #[.val (.ref aa), .val (.int (0 : Int32)), .val (.int (3 : Int32)), .val (.int (1 : Int32)), .val (.int (0 : Int32)), .val (.int cc0)] [(.int (48 : Int32)), (.int cc0)] t → SG p e below G0 t := by
    intro t k
    refine pre0 t ?_
    show Sp p e below m s₁ 0 #[.val (.ref aa), .val (.int (0 : Int32)), .val (.int (3 : Int32)), .unset, .unset, .unset] [] _
    refine XS.iloadN X0.here hx rfl (hb hby d8_0) rfl ?_
    refine XS.iloadN X0.here hx rfl (hb hby d8_1) rfl ?_
    refine XS.icmpNo X0.here hx rfl (hb hby d8_2) rfl (tlt (by decide : ((0 : Int32) < (3 : Int32)))).2.1 ?_
    refine XS.iconst X0.here hx rfl (hb hby d8_5) ?_
    refine XS.goto X0.here hx rfl (pc0 := 6) (pc' := 10) rfl (hb hby d8_6) (by decide) (by decide) ?_
    refine XS.istoreN X0.here hx rfl (hb hby d8_10) rfl (l' := #[.val (.ref aa), .val (.int (0 : Int32)), .val (.int (3 : Int32)), .val (.int (1 : Int32)), .unset, .unset]) rfl ?_
    refine XS.iloadN X0.here hx rfl (hb hby d8_11) rfl ?_
    refine XS.istore X0.here hx rfl (hb hby d8_12) rfl (l' := #[.val (.ref aa), .val (.int (0 : Int32)), .val (.int (3 : Int32)), .val (.int (1 : Int32)), .val (.int (0 : Int32)), .unset]) rfl ?_
    show Sp p e below m s₁ 14 #[.val (.ref aa), .val (.int (0 : Int32)), .val (.int (3 : Int32)), .val (.int (1 : Int32)), .val (.int (0 : Int32)), .unset] [] _
    refine XS.iloadN X0.here hx rfl (hb hby d8_14) rfl ?_
    refine XS.ifNo X0.here hx rfl (hb hby d8_15) rfl ((if0 _ _).trans (feq (by decide : ¬ ((1 : Int32) = (0 : Int32)))).1) ?_
    refine XS.iload X0.here hx rfl (hb hby d8_18) rfl ?_
    refine XS.iloadN X0.here hx rfl (hb hby d8_20) rfl ?_
    refine XS.icmpNo X0.here hx rfl (hb hby d8_21) rfl (tlt (by decide : ((0 : Int32) < (3 : Int32)))).2.1 ?_
    refine XS.aloadN X0.here hx rfl (hb hby d8_24) rfl rfl ?_
    refine XS.iload X0.here hx rfl (hb hby d8_25) rfl ?_
    refine st772.trans ?_
    show Sp p e below m T772 30 #[.val (.ref aa), .val (.int (0 : Int32)), .val (.int (3 : Int32)), .val (.int (1 : Int32)), .val (.int (0 : Int32)), .unset] [(.int cc0)] _
    refine XS.istore X772.here hx rfl (hb hby d8_30) rfl (l' := #[.val (.ref aa), .val (.int (0 : Int32)), .val (.int (3 : Int32)), .val (.int (1 : Int32)), .val (.int (0 : Int32)), .val (.int cc0)]) rfl ?_
    refine XS.iload X772.here hx rfl (hb hby d8_32) rfl ?_
    refine XS.bipush X772.here hx rfl (hb hby d8_34) ?_
    exact k
  by_cases hc36_774 : cc0 < (48 : Int32)
  · obtain ⟨fs, hr, hrun, hended, hW, hsame⟩ := X772.leave (v := some (.int (0 : Int32))) (fun h => by rw [Bd.returns] at h; cases h)
    refine ⟨_, _, pre773 _ ?_, hrun, hended, _, _, rfl, ?_, ⟨_, rfl⟩, hW, hsame.mono (by decide) (by decide)⟩
    · show Sp p e below m T772 36 #[.val (.ref aa), .val (.int (0 : Int32)), .val (.int (3 : Int32)), .val (.int (1 : Int32)), .val (.int (0 : Int32)), .val (.int cc0)] [(.int (48 : Int32)), (.int cc0)] _
      refine XS.icmpYes X772.here hx rfl (pc0 := 36) (pc' := 50) rfl (hb hby d8_36) rfl (tlt hc36_774).1 (by decide) (by decide) ?_
      refine XS.iconst X772.here hx rfl (hb hby d8_50) ?_
      refine XS.istoreN X772.here hx rfl (hb hby d8_51) rfl (l' := #[.val (.ref aa), .val (.int (0 : Int32)), .val (.int (3 : Int32)), .val (.int (0 : Int32)), .val (.int (0 : Int32)), .val (.int cc0)]) rfl ?_
      refine XS.iinc X772.here hx rfl (hb hby d8_52) rfl (l' := #[.val (.ref aa), .val (.int (0 : Int32)), .val (.int (3 : Int32)), .val (.int (0 : Int32)), .val (.int (1 : Int32)), .val (.int cc0)]) rfl ?_
      refine XS.goto X772.here hx rfl (pc0 := 55) (pc' := 14) rfl (hb hby d8_55) (by decide) (by decide) ?_
      show Sp p e below m T772 14 #[.val (.ref aa), .val (.int (0 : Int32)), .val (.int (3 : Int32)), .val (.int (0 : Int32)), .val (.int (1 : Int32)), .val (.int cc0)] [] _
      refine XS.iloadN X772.here hx rfl (hb hby d8_14) rfl ?_
      refine XS.ifYes X772.here hx rfl (pc0 := 15) (pc' := 58) rfl (hb hby d8_15) rfl ((if0 _ _).trans (teq (by decide : ((0 : Int32) = (0 : Int32)))).1) (by decide) (by decide) ?_
      refine XS.iloadN X772.here hx rfl (hb hby d8_58) rfl ?_
      exact retN X772 hx (t := .boolean) Bd.returns (by simp) (hb hby d8_59) hr
    · show Q8f0t3 Z aa cs vf ab kb cc0 cc1 cc2 cc3 h0 n0 _ T772.heap _
      rw [e772]
      exact ⟨(by simp [own_dg, hc36_774]), N772, rfl⟩
  · have pre775 : ∀ t, Sp p e below m T772 43 #[.val (.ref aa), .val (.int (0 : Int32)), .val (.int (3 : Int32)), .val (.int (1 : Int32)), .val (.int (0 : Int32)), .val (.int cc0)] [(.int (57 : Int32)), (.int cc0)] t → SG p e below G0 t := by
      intro t k
      refine pre773 t ?_
      show Sp p e below m T772 36 #[.val (.ref aa), .val (.int (0 : Int32)), .val (.int (3 : Int32)), .val (.int (1 : Int32)), .val (.int (0 : Int32)), .val (.int cc0)] [(.int (48 : Int32)), (.int cc0)] _
      refine XS.icmpNo X772.here hx rfl (hb hby d8_36) rfl (flt hc36_774).1 ?_
      refine XS.iload X772.here hx rfl (hb hby d8_39) rfl ?_
      refine XS.bipush X772.here hx rfl (hb hby d8_41) ?_
      exact k
    by_cases hc43_776 : (57 : Int32) < cc0
    · obtain ⟨fs, hr, hrun, hended, hW, hsame⟩ := X772.leave (v := some (.int (0 : Int32))) (fun h => by rw [Bd.returns] at h; cases h)
      refine ⟨_, _, pre775 _ ?_, hrun, hended, _, _, rfl, ?_, ⟨_, rfl⟩, hW, hsame.mono (by decide) (by decide)⟩
      · show Sp p e below m T772 43 #[.val (.ref aa), .val (.int (0 : Int32)), .val (.int (3 : Int32)), .val (.int (1 : Int32)), .val (.int (0 : Int32)), .val (.int cc0)] [(.int (57 : Int32)), (.int cc0)] _
        refine XS.icmpYes X772.here hx rfl (pc0 := 43) (pc' := 50) rfl (hb hby d8_43) rfl (tlt hc43_776).2.2.1 (by decide) (by decide) ?_
        refine XS.iconst X772.here hx rfl (hb hby d8_50) ?_
        show Sp p e below m T772 51 #[.val (.ref aa), .val (.int (0 : Int32)), .val (.int (3 : Int32)), .val (.int (1 : Int32)), .val (.int (0 : Int32)), .val (.int cc0)] [(.int (0 : Int32))] _
        refine XS.istoreN X772.here hx rfl (hb hby d8_51) rfl (l' := #[.val (.ref aa), .val (.int (0 : Int32)), .val (.int (3 : Int32)), .val (.int (0 : Int32)), .val (.int (0 : Int32)), .val (.int cc0)]) rfl ?_
        refine XS.iinc X772.here hx rfl (hb hby d8_52) rfl (l' := #[.val (.ref aa), .val (.int (0 : Int32)), .val (.int (3 : Int32)), .val (.int (0 : Int32)), .val (.int (1 : Int32)), .val (.int cc0)]) rfl ?_
        refine XS.goto X772.here hx rfl (pc0 := 55) (pc' := 14) rfl (hb hby d8_55) (by decide) (by decide) ?_
        refine XS.iloadN X772.here hx rfl (hb hby d8_14) rfl ?_
        refine XS.ifYes X772.here hx rfl (pc0 := 15) (pc' := 58) rfl (hb hby d8_15) rfl ((if0 _ _).trans (teq (by decide : ((0 : Int32) = (0 : Int32)))).1) (by decide) (by decide) ?_
        refine XS.iloadN X772.here hx rfl (hb hby d8_58) rfl ?_
        exact retN X772 hx (t := .boolean) Bd.returns (by simp) (hb hby d8_59) hr
      · show Q8f0t3 Z aa cs vf ab kb cc0 cc1 cc2 cc3 h0 n0 _ T772.heap _
        rw [e772]
        exact ⟨(by simp [own_dg, hc36_774, hc43_776]), N772, rfl⟩
    · obtain ⟨cq777, kq777, q777a, q777b, q777c⟩ := isOf hZ e772 Ea
      obtain ⟨_, _, ⟨T777, L777, k777, n777⟩, -, X777, ⟨Lc777, hQ777, l777, y777, z777⟩, st777⟩ := X772.virtualBack hx hown (mvT hZ (H 64 _ rfl)) (mvT hZ (H 65 _ rfl)) (notFace_of_selects (args := #[]) (mvT hZ (H 67 _ rfl))) (mvT hZ (H 67 _ rfl)) (mvT hZ (H 66 _ rfl)) (by decide) (backOf (W := 0) (rm16i1 l Z a0 hw [] aa cs vf ab kb cc0 cc1 cc2 cc3 h0 n0 Z0 O0 Scs hcs Ssf hvf Sas Shs Sls Ea Fv Hs hr0 hr1 hr2 hr3) hZ (H 68 _ rfl) (H 7 _ rfl) (by decide) (by decide)) q777a q777c (g := (mkF m 27 #[.val (.ref aa), .val (.int (0 : Int32)), .val (.int (3 : Int32)), .val (.int (1 : Int32)), .val (.int (1 : Int32)), .val (.int cc0)] [(.int (1 : Int32)), (.ref aa)])) rfl (by rw [hml]; rfl) (Steps.refl _) (argsL := [(.int (1 : Int32))]) (rest := []) (lenOf own_pd266 rfl) rfl (Nat.le_of_eq rfl) (hb hby d8_27) (fun _ _ => ⟨rfl, e772, (by decide : 0 + 0 ≤ _), (by decide : 0 + 0 ≤ _)⟩)
      dsimp only [Pt.U, Pt.locs, Pt.cells, Pt.slots] at X777 l777 y777 z777 st777 hQ777
      rw [l777, y777, z777] at X777
      obtain ⟨rfl, Nq777, e777⟩ := hQ777
      have N777 := Fr.app N772 Nq777
      have pre778 : ∀ t, Sp p e below m T777 36 #[.val (.ref aa), .val (.int (0 : Int32)), .val (.int (3 : Int32)), .val (.int (1 : Int32)), .val (.int (1 : Int32)), .val (.int cc1)] [(.int (48 : Int32)), (.int cc1)] t → SG p e below G0 t := by
        intro t k
        refine pre775 t ?_
        show Sp p e below m T772 43 #[.val (.ref aa), .val (.int (0 : Int32)), .val (.int (3 : Int32)), .val (.int (1 : Int32)), .val (.int (0 : Int32)), .val (.int cc0)] [(.int (57 : Int32)), (.int cc0)] _
        refine XS.icmpNo X772.here hx rfl (hb hby d8_43) rfl (flt hc43_776).2.2.1 ?_
        refine XS.iconst X772.here hx rfl (hb hby d8_46) ?_
        show Sp p e below m T772 47 #[.val (.ref aa), .val (.int (0 : Int32)), .val (.int (3 : Int32)), .val (.int (1 : Int32)), .val (.int (0 : Int32)), .val (.int cc0)] [(.int (1 : Int32))] _
        refine XS.goto X772.here hx rfl (pc0 := 47) (pc' := 51) rfl (hb hby d8_47) (by decide) (by decide) ?_
        refine XS.istoreN X772.here hx rfl (hb hby d8_51) rfl (l' := #[.val (.ref aa), .val (.int (0 : Int32)), .val (.int (3 : Int32)), .val (.int (1 : Int32)), .val (.int (0 : Int32)), .val (.int cc0)]) rfl ?_
        refine XS.iinc X772.here hx rfl (hb hby d8_52) rfl (l' := #[.val (.ref aa), .val (.int (0 : Int32)), .val (.int (3 : Int32)), .val (.int (1 : Int32)), .val (.int (1 : Int32)), .val (.int cc0)]) rfl ?_
        refine XS.goto X772.here hx rfl (pc0 := 55) (pc' := 14) rfl (hb hby d8_55) (by decide) (by decide) ?_
        refine XS.iloadN X772.here hx rfl (hb hby d8_14) rfl ?_
        refine XS.ifNo X772.here hx rfl (hb hby d8_15) rfl ((if0 _ _).trans (feq (by decide : ¬ ((1 : Int32) = (0 : Int32)))).1) ?_
        refine XS.iload X772.here hx rfl (hb hby d8_18) rfl ?_
        refine XS.iloadN X772.here hx rfl (hb hby d8_20) rfl ?_
        show Sp p e below m T772 21 #[.val (.ref aa), .val (.int (0 : Int32)), .val (.int (3 : Int32)), .val (.int (1 : Int32)), .val (.int (1 : Int32)), .val (.int cc0)] [(.int (3 : Int32)), (.int (1 : Int32))] _
        refine XS.icmpNo X772.here hx rfl (hb hby d8_21) rfl (tlt (by decide : ((1 : Int32) < (3 : Int32)))).2.1 ?_
        refine XS.aloadN X772.here hx rfl (hb hby d8_24) rfl rfl ?_
        refine XS.iload X772.here hx rfl (hb hby d8_25) rfl ?_
        refine st777.trans ?_
        show Sp p e below m T777 30 #[.val (.ref aa), .val (.int (0 : Int32)), .val (.int (3 : Int32)), .val (.int (1 : Int32)), .val (.int (1 : Int32)), .val (.int cc0)] [(.int cc1)] _
        refine XS.istore X777.here hx rfl (hb hby d8_30) rfl (l' := #[.val (.ref aa), .val (.int (0 : Int32)), .val (.int (3 : Int32)), .val (.int (1 : Int32)), .val (.int (1 : Int32)), .val (.int cc1)]) rfl ?_
        refine XS.iload X777.here hx rfl (hb hby d8_32) rfl ?_
        refine XS.bipush X777.here hx rfl (hb hby d8_34) ?_
        exact k
      by_cases hc36_779 : cc1 < (48 : Int32)
      · obtain ⟨fs, hr, hrun, hended, hW, hsame⟩ := X777.leave (v := some (.int (0 : Int32))) (fun h => by rw [Bd.returns] at h; cases h)
        refine ⟨_, _, pre778 _ ?_, hrun, hended, _, _, rfl, ?_, ⟨_, rfl⟩, hW, hsame.mono (by decide) (by decide)⟩
        · show Sp p e below m T777 36 #[.val (.ref aa), .val (.int (0 : Int32)), .val (.int (3 : Int32)), .val (.int (1 : Int32)), .val (.int (1 : Int32)), .val (.int cc1)] [(.int (48 : Int32)), (.int cc1)] _
          refine XS.icmpYes X777.here hx rfl (pc0 := 36) (pc' := 50) rfl (hb hby d8_36) rfl (tlt hc36_779).1 (by decide) (by decide) ?_
          refine XS.iconst X777.here hx rfl (hb hby d8_50) ?_
          refine XS.istoreN X777.here hx rfl (hb hby d8_51) rfl (l' := #[.val (.ref aa), .val (.int (0 : Int32)), .val (.int (3 : Int32)), .val (.int (0 : Int32)), .val (.int (1 : Int32)), .val (.int cc1)]) rfl ?_
          refine XS.iinc X777.here hx rfl (hb hby d8_52) rfl (l' := #[.val (.ref aa), .val (.int (0 : Int32)), .val (.int (3 : Int32)), .val (.int (0 : Int32)), .val (.int (2 : Int32)), .val (.int cc1)]) rfl ?_
          refine XS.goto X777.here hx rfl (pc0 := 55) (pc' := 14) rfl (hb hby d8_55) (by decide) (by decide) ?_
          show Sp p e below m T777 14 #[.val (.ref aa), .val (.int (0 : Int32)), .val (.int (3 : Int32)), .val (.int (0 : Int32)), .val (.int (2 : Int32)), .val (.int cc1)] [] _
          refine XS.iloadN X777.here hx rfl (hb hby d8_14) rfl ?_
          refine XS.ifYes X777.here hx rfl (pc0 := 15) (pc' := 58) rfl (hb hby d8_15) rfl ((if0 _ _).trans (teq (by decide : ((0 : Int32) = (0 : Int32)))).1) (by decide) (by decide) ?_
          refine XS.iloadN X777.here hx rfl (hb hby d8_58) rfl ?_
          exact retN X777 hx (t := .boolean) Bd.returns (by simp) (hb hby d8_59) hr
        · show Q8f0t3 Z aa cs vf ab kb cc0 cc1 cc2 cc3 h0 n0 _ T777.heap _
          rw [e777]
          exact ⟨(by simp [own_dg, hc36_774, hc43_776, hc36_779]), N777, rfl⟩
      · have pre780 : ∀ t, Sp p e below m T777 43 #[.val (.ref aa), .val (.int (0 : Int32)), .val (.int (3 : Int32)), .val (.int (1 : Int32)), .val (.int (1 : Int32)), .val (.int cc1)] [(.int (57 : Int32)), (.int cc1)] t → SG p e below G0 t := by
          intro t k
          refine pre778 t ?_
          show Sp p e below m T777 36 #[.val (.ref aa), .val (.int (0 : Int32)), .val (.int (3 : Int32)), .val (.int (1 : Int32)), .val (.int (1 : Int32)), .val (.int cc1)] [(.int (48 : Int32)), (.int cc1)] _
          refine XS.icmpNo X777.here hx rfl (hb hby d8_36) rfl (flt hc36_779).1 ?_
          refine XS.iload X777.here hx rfl (hb hby d8_39) rfl ?_
          refine XS.bipush X777.here hx rfl (hb hby d8_41) ?_
          exact k
        by_cases hc43_781 : (57 : Int32) < cc1
        · obtain ⟨fs, hr, hrun, hended, hW, hsame⟩ := X777.leave (v := some (.int (0 : Int32))) (fun h => by rw [Bd.returns] at h; cases h)
          refine ⟨_, _, pre780 _ ?_, hrun, hended, _, _, rfl, ?_, ⟨_, rfl⟩, hW, hsame.mono (by decide) (by decide)⟩
          · show Sp p e below m T777 43 #[.val (.ref aa), .val (.int (0 : Int32)), .val (.int (3 : Int32)), .val (.int (1 : Int32)), .val (.int (1 : Int32)), .val (.int cc1)] [(.int (57 : Int32)), (.int cc1)] _
            refine XS.icmpYes X777.here hx rfl (pc0 := 43) (pc' := 50) rfl (hb hby d8_43) rfl (tlt hc43_781).2.2.1 (by decide) (by decide) ?_
            refine XS.iconst X777.here hx rfl (hb hby d8_50) ?_
            show Sp p e below m T777 51 #[.val (.ref aa), .val (.int (0 : Int32)), .val (.int (3 : Int32)), .val (.int (1 : Int32)), .val (.int (1 : Int32)), .val (.int cc1)] [(.int (0 : Int32))] _
            refine XS.istoreN X777.here hx rfl (hb hby d8_51) rfl (l' := #[.val (.ref aa), .val (.int (0 : Int32)), .val (.int (3 : Int32)), .val (.int (0 : Int32)), .val (.int (1 : Int32)), .val (.int cc1)]) rfl ?_
            refine XS.iinc X777.here hx rfl (hb hby d8_52) rfl (l' := #[.val (.ref aa), .val (.int (0 : Int32)), .val (.int (3 : Int32)), .val (.int (0 : Int32)), .val (.int (2 : Int32)), .val (.int cc1)]) rfl ?_
            refine XS.goto X777.here hx rfl (pc0 := 55) (pc' := 14) rfl (hb hby d8_55) (by decide) (by decide) ?_
            refine XS.iloadN X777.here hx rfl (hb hby d8_14) rfl ?_
            refine XS.ifYes X777.here hx rfl (pc0 := 15) (pc' := 58) rfl (hb hby d8_15) rfl ((if0 _ _).trans (teq (by decide : ((0 : Int32) = (0 : Int32)))).1) (by decide) (by decide) ?_
            refine XS.iloadN X777.here hx rfl (hb hby d8_58) rfl ?_
            exact retN X777 hx (t := .boolean) Bd.returns (by simp) (hb hby d8_59) hr
          · show Q8f0t3 Z aa cs vf ab kb cc0 cc1 cc2 cc3 h0 n0 _ T777.heap _
            rw [e777]
            exact ⟨(by simp [own_dg, hc36_774, hc43_776, hc36_779, hc43_781]), N777, rfl⟩
        · obtain ⟨cq782, kq782, q782a, q782b, q782c⟩ := isOf hZ e777 Ea
          obtain ⟨_, _, ⟨T782, L782, k782, n782⟩, -, X782, ⟨Lc782, hQ782, l782, y782, z782⟩, st782⟩ := X777.virtualBack hx hown (mvT hZ (H 64 _ rfl)) (mvT hZ (H 65 _ rfl)) (notFace_of_selects (args := #[]) (mvT hZ (H 67 _ rfl))) (mvT hZ (H 67 _ rfl)) (mvT hZ (H 66 _ rfl)) (by decide) (backOf (W := 0) (rm16i2 l Z a0 hw [] aa cs vf ab kb cc0 cc1 cc2 cc3 h0 n0 Z0 O0 Scs hcs Ssf hvf Sas Shs Sls Ea Fv Hs hr0 hr1 hr2 hr3) hZ (H 68 _ rfl) (H 7 _ rfl) (by decide) (by decide)) q782a q782c (g := (mkF m 27 #[.val (.ref aa), .val (.int (0 : Int32)), .val (.int (3 : Int32)), .val (.int (1 : Int32)), .val (.int (2 : Int32)), .val (.int cc1)] [(.int (2 : Int32)), (.ref aa)])) rfl (by rw [hml]; rfl) (Steps.refl _) (argsL := [(.int (2 : Int32))]) (rest := []) (lenOf own_pd266 rfl) rfl (Nat.le_of_eq rfl) (hb hby d8_27) (fun _ _ => ⟨rfl, e777, (by decide : 0 + 0 ≤ _), (by decide : 0 + 0 ≤ _)⟩)
          dsimp only [Pt.U, Pt.locs, Pt.cells, Pt.slots] at X782 l782 y782 z782 st782 hQ782
          rw [l782, y782, z782] at X782
          obtain ⟨rfl, Nq782, e782⟩ := hQ782
          have N782 := Fr.app N777 Nq782
          have pre783 : ∀ t, Sp p e below m T782 36 #[.val (.ref aa), .val (.int (0 : Int32)), .val (.int (3 : Int32)), .val (.int (1 : Int32)), .val (.int (2 : Int32)), .val (.int cc2)] [(.int (48 : Int32)), (.int cc2)] t → SG p e below G0 t := by
            intro t k
            refine pre780 t ?_
            show Sp p e below m T777 43 #[.val (.ref aa), .val (.int (0 : Int32)), .val (.int (3 : Int32)), .val (.int (1 : Int32)), .val (.int (1 : Int32)), .val (.int cc1)] [(.int (57 : Int32)), (.int cc1)] _
            refine XS.icmpNo X777.here hx rfl (hb hby d8_43) rfl (flt hc43_781).2.2.1 ?_
            refine XS.iconst X777.here hx rfl (hb hby d8_46) ?_
            show Sp p e below m T777 47 #[.val (.ref aa), .val (.int (0 : Int32)), .val (.int (3 : Int32)), .val (.int (1 : Int32)), .val (.int (1 : Int32)), .val (.int cc1)] [(.int (1 : Int32))] _
            refine XS.goto X777.here hx rfl (pc0 := 47) (pc' := 51) rfl (hb hby d8_47) (by decide) (by decide) ?_
            refine XS.istoreN X777.here hx rfl (hb hby d8_51) rfl (l' := #[.val (.ref aa), .val (.int (0 : Int32)), .val (.int (3 : Int32)), .val (.int (1 : Int32)), .val (.int (1 : Int32)), .val (.int cc1)]) rfl ?_
            refine XS.iinc X777.here hx rfl (hb hby d8_52) rfl (l' := #[.val (.ref aa), .val (.int (0 : Int32)), .val (.int (3 : Int32)), .val (.int (1 : Int32)), .val (.int (2 : Int32)), .val (.int cc1)]) rfl ?_
            refine XS.goto X777.here hx rfl (pc0 := 55) (pc' := 14) rfl (hb hby d8_55) (by decide) (by decide) ?_
            refine XS.iloadN X777.here hx rfl (hb hby d8_14) rfl ?_
            refine XS.ifNo X777.here hx rfl (hb hby d8_15) rfl ((if0 _ _).trans (feq (by decide : ¬ ((1 : Int32) = (0 : Int32)))).1) ?_
            refine XS.iload X777.here hx rfl (hb hby d8_18) rfl ?_
            refine XS.iloadN X777.here hx rfl (hb hby d8_20) rfl ?_
            show Sp p e below m T777 21 #[.val (.ref aa), .val (.int (0 : Int32)), .val (.int (3 : Int32)), .val (.int (1 : Int32)), .val (.int (2 : Int32)), .val (.int cc1)] [(.int (3 : Int32)), (.int (2 : Int32))] _
            refine XS.icmpNo X777.here hx rfl (hb hby d8_21) rfl (tlt (by decide : ((2 : Int32) < (3 : Int32)))).2.1 ?_
            refine XS.aloadN X777.here hx rfl (hb hby d8_24) rfl rfl ?_
            refine XS.iload X777.here hx rfl (hb hby d8_25) rfl ?_
            refine st782.trans ?_
            show Sp p e below m T782 30 #[.val (.ref aa), .val (.int (0 : Int32)), .val (.int (3 : Int32)), .val (.int (1 : Int32)), .val (.int (2 : Int32)), .val (.int cc1)] [(.int cc2)] _
            refine XS.istore X782.here hx rfl (hb hby d8_30) rfl (l' := #[.val (.ref aa), .val (.int (0 : Int32)), .val (.int (3 : Int32)), .val (.int (1 : Int32)), .val (.int (2 : Int32)), .val (.int cc2)]) rfl ?_
            refine XS.iload X782.here hx rfl (hb hby d8_32) rfl ?_
            refine XS.bipush X782.here hx rfl (hb hby d8_34) ?_
            exact k
          by_cases hc36_784 : cc2 < (48 : Int32)
          · obtain ⟨fs, hr, hrun, hended, hW, hsame⟩ := X782.leave (v := some (.int (0 : Int32))) (fun h => by rw [Bd.returns] at h; cases h)
            refine ⟨_, _, pre783 _ ?_, hrun, hended, _, _, rfl, ?_, ⟨_, rfl⟩, hW, hsame.mono (by decide) (by decide)⟩
            · show Sp p e below m T782 36 #[.val (.ref aa), .val (.int (0 : Int32)), .val (.int (3 : Int32)), .val (.int (1 : Int32)), .val (.int (2 : Int32)), .val (.int cc2)] [(.int (48 : Int32)), (.int cc2)] _
              refine XS.icmpYes X782.here hx rfl (pc0 := 36) (pc' := 50) rfl (hb hby d8_36) rfl (tlt hc36_784).1 (by decide) (by decide) ?_
              refine XS.iconst X782.here hx rfl (hb hby d8_50) ?_
              refine XS.istoreN X782.here hx rfl (hb hby d8_51) rfl (l' := #[.val (.ref aa), .val (.int (0 : Int32)), .val (.int (3 : Int32)), .val (.int (0 : Int32)), .val (.int (2 : Int32)), .val (.int cc2)]) rfl ?_
              refine XS.iinc X782.here hx rfl (hb hby d8_52) rfl (l' := #[.val (.ref aa), .val (.int (0 : Int32)), .val (.int (3 : Int32)), .val (.int (0 : Int32)), .val (.int (3 : Int32)), .val (.int cc2)]) rfl ?_
              refine XS.goto X782.here hx rfl (pc0 := 55) (pc' := 14) rfl (hb hby d8_55) (by decide) (by decide) ?_
              show Sp p e below m T782 14 #[.val (.ref aa), .val (.int (0 : Int32)), .val (.int (3 : Int32)), .val (.int (0 : Int32)), .val (.int (3 : Int32)), .val (.int cc2)] [] _
              refine XS.iloadN X782.here hx rfl (hb hby d8_14) rfl ?_
              refine XS.ifYes X782.here hx rfl (pc0 := 15) (pc' := 58) rfl (hb hby d8_15) rfl ((if0 _ _).trans (teq (by decide : ((0 : Int32) = (0 : Int32)))).1) (by decide) (by decide) ?_
              refine XS.iloadN X782.here hx rfl (hb hby d8_58) rfl ?_
              exact retN X782 hx (t := .boolean) Bd.returns (by simp) (hb hby d8_59) hr
            · show Q8f0t3 Z aa cs vf ab kb cc0 cc1 cc2 cc3 h0 n0 _ T782.heap _
              rw [e782]
              exact ⟨(by simp [own_dg, hc36_774, hc43_776, hc36_779, hc43_781, hc36_784]), N782, rfl⟩
          · have pre785 : ∀ t, Sp p e below m T782 43 #[.val (.ref aa), .val (.int (0 : Int32)), .val (.int (3 : Int32)), .val (.int (1 : Int32)), .val (.int (2 : Int32)), .val (.int cc2)] [(.int (57 : Int32)), (.int cc2)] t → SG p e below G0 t := by
              intro t k
              refine pre783 t ?_
              show Sp p e below m T782 36 #[.val (.ref aa), .val (.int (0 : Int32)), .val (.int (3 : Int32)), .val (.int (1 : Int32)), .val (.int (2 : Int32)), .val (.int cc2)] [(.int (48 : Int32)), (.int cc2)] _
              refine XS.icmpNo X782.here hx rfl (hb hby d8_36) rfl (flt hc36_784).1 ?_
              refine XS.iload X782.here hx rfl (hb hby d8_39) rfl ?_
              refine XS.bipush X782.here hx rfl (hb hby d8_41) ?_
              exact k
            by_cases hc43_786 : (57 : Int32) < cc2
            · obtain ⟨fs, hr, hrun, hended, hW, hsame⟩ := X782.leave (v := some (.int (0 : Int32))) (fun h => by rw [Bd.returns] at h; cases h)
              refine ⟨_, _, pre785 _ ?_, hrun, hended, _, _, rfl, ?_, ⟨_, rfl⟩, hW, hsame.mono (by decide) (by decide)⟩
              · show Sp p e below m T782 43 #[.val (.ref aa), .val (.int (0 : Int32)), .val (.int (3 : Int32)), .val (.int (1 : Int32)), .val (.int (2 : Int32)), .val (.int cc2)] [(.int (57 : Int32)), (.int cc2)] _
                refine XS.icmpYes X782.here hx rfl (pc0 := 43) (pc' := 50) rfl (hb hby d8_43) rfl (tlt hc43_786).2.2.1 (by decide) (by decide) ?_
                refine XS.iconst X782.here hx rfl (hb hby d8_50) ?_
                show Sp p e below m T782 51 #[.val (.ref aa), .val (.int (0 : Int32)), .val (.int (3 : Int32)), .val (.int (1 : Int32)), .val (.int (2 : Int32)), .val (.int cc2)] [(.int (0 : Int32))] _
                refine XS.istoreN X782.here hx rfl (hb hby d8_51) rfl (l' := #[.val (.ref aa), .val (.int (0 : Int32)), .val (.int (3 : Int32)), .val (.int (0 : Int32)), .val (.int (2 : Int32)), .val (.int cc2)]) rfl ?_
                refine XS.iinc X782.here hx rfl (hb hby d8_52) rfl (l' := #[.val (.ref aa), .val (.int (0 : Int32)), .val (.int (3 : Int32)), .val (.int (0 : Int32)), .val (.int (3 : Int32)), .val (.int cc2)]) rfl ?_
                refine XS.goto X782.here hx rfl (pc0 := 55) (pc' := 14) rfl (hb hby d8_55) (by decide) (by decide) ?_
                refine XS.iloadN X782.here hx rfl (hb hby d8_14) rfl ?_
                refine XS.ifYes X782.here hx rfl (pc0 := 15) (pc' := 58) rfl (hb hby d8_15) rfl ((if0 _ _).trans (teq (by decide : ((0 : Int32) = (0 : Int32)))).1) (by decide) (by decide) ?_
                refine XS.iloadN X782.here hx rfl (hb hby d8_58) rfl ?_
                exact retN X782 hx (t := .boolean) Bd.returns (by simp) (hb hby d8_59) hr
              · show Q8f0t3 Z aa cs vf ab kb cc0 cc1 cc2 cc3 h0 n0 _ T782.heap _
                rw [e782]
                exact ⟨(by simp [own_dg, hc36_774, hc43_776, hc36_779, hc43_781, hc36_784, hc43_786]), N782, rfl⟩
            · obtain ⟨fs, hr, hrun, hended, hW, hsame⟩ := X782.leave (v := some (.int (1 : Int32))) (fun h => by rw [Bd.returns] at h; cases h)
              refine ⟨_, _, pre785 _ ?_, hrun, hended, _, _, rfl, ?_, ⟨_, rfl⟩, hW, hsame.mono (by decide) (by decide)⟩
              · show Sp p e below m T782 43 #[.val (.ref aa), .val (.int (0 : Int32)), .val (.int (3 : Int32)), .val (.int (1 : Int32)), .val (.int (2 : Int32)), .val (.int cc2)] [(.int (57 : Int32)), (.int cc2)] _
                refine XS.icmpNo X782.here hx rfl (hb hby d8_43) rfl (flt hc43_786).2.2.1 ?_
                refine XS.iconst X782.here hx rfl (hb hby d8_46) ?_
                show Sp p e below m T782 47 #[.val (.ref aa), .val (.int (0 : Int32)), .val (.int (3 : Int32)), .val (.int (1 : Int32)), .val (.int (2 : Int32)), .val (.int cc2)] [(.int (1 : Int32))] _
                refine XS.goto X782.here hx rfl (pc0 := 47) (pc' := 51) rfl (hb hby d8_47) (by decide) (by decide) ?_
                refine XS.istoreN X782.here hx rfl (hb hby d8_51) rfl (l' := #[.val (.ref aa), .val (.int (0 : Int32)), .val (.int (3 : Int32)), .val (.int (1 : Int32)), .val (.int (2 : Int32)), .val (.int cc2)]) rfl ?_
                refine XS.iinc X782.here hx rfl (hb hby d8_52) rfl (l' := #[.val (.ref aa), .val (.int (0 : Int32)), .val (.int (3 : Int32)), .val (.int (1 : Int32)), .val (.int (3 : Int32)), .val (.int cc2)]) rfl ?_
                refine XS.goto X782.here hx rfl (pc0 := 55) (pc' := 14) rfl (hb hby d8_55) (by decide) (by decide) ?_
                refine XS.iloadN X782.here hx rfl (hb hby d8_14) rfl ?_
                refine XS.ifNo X782.here hx rfl (hb hby d8_15) rfl ((if0 _ _).trans (feq (by decide : ¬ ((1 : Int32) = (0 : Int32)))).1) ?_
                refine XS.iload X782.here hx rfl (hb hby d8_18) rfl ?_
                refine XS.iloadN X782.here hx rfl (hb hby d8_20) rfl ?_
                show Sp p e below m T782 21 #[.val (.ref aa), .val (.int (0 : Int32)), .val (.int (3 : Int32)), .val (.int (1 : Int32)), .val (.int (3 : Int32)), .val (.int cc2)] [(.int (3 : Int32)), (.int (3 : Int32))] _
                refine XS.icmpYes X782.here hx rfl (pc0 := 21) (pc' := 58) rfl (hb hby d8_21) rfl (flt (by decide : ¬ ((3 : Int32) < (3 : Int32)))).2.1 (by decide) (by decide) ?_
                refine XS.iloadN X782.here hx rfl (hb hby d8_58) rfl ?_
                exact retN X782 hx (t := .boolean) Bd.returns (by simp) (hb hby d8_59) hr
              · show Q8f0t3 Z aa cs vf ab kb cc0 cc1 cc2 cc3 h0 n0 _ T782.heap _
                rw [e782]
                exact ⟨(by simp [own_dg, hc36_774, hc43_776, hc36_779, hc43_781, hc36_784, hc43_786]), N782, rfl⟩
theorem ef_8f0t4 (m : MethodId) (x0 : Addr) : entryFrame m #[(.ref x0), (.int (0 : Int32)), (.int (4 : Int32))] 6 = mkF m 0 #[.val (.ref x0), .val (.int (0 : Int32)), .val (.int (4 : Int32)), .unset, .unset, .unset] [] := by first | (simp [entryFrame, mkF, argsToLocals, Value.category]; done) | rfl
def Q8f0t4 (Z : State) (aa : Addr) (cs : Int32) (vf : Value) (ab : Addr) (kb : ClassId) (cc0 : Int32) (cc1 : Int32) (cc2 : Int32) (cc3 : Int32) (h0 : Heap) (n0 : Nat) (v : Option Value) (h : Heap) (L : List Loc) : Prop := v = some (.int (if own_dg cc0 = 0 then (0 : Int32) else (if own_dg cc1 = 0 then (0 : Int32) else (if own_dg cc2 = 0 then (0 : Int32) else (own_dg cc3))))) ∧ Fr n0 L ∧ h = h0
theorem rm8f0t4 (l : Launch) (Z : State) (a0 : Array Value) (hw : ∀ d ∈ tables_1, d.before a0 Z = true) (ws : List Jvm.Cond) (aa : Addr) (cs : Int32) (vf : Value) (ab : Addr) (kb : ClassId) (cc0 : Int32) (cc1 : Int32) (cc2 : Int32) (cc3 : Int32) (h0 : Heap) (n0 : Nat) (Z0 : n0 ≤ h0.size) (O0 : Old Z n0 h0) (Scs : Sta Z Z.heap "java/lang/String" "COMPACT_STRINGS" "Z" (.int cs)) (hcs : ¬ cs = (0 : Int32)) (Ssf : Sta Z Z.heap "jdk/internal/util/Preconditions" "SIOOBE_FORMATTER" "Ljava/util/function/BiFunction;" vf) (hvf : vf.isRef = true) (Sas : Sta Z Z.heap "java/lang/StringUTF16" "$assertionsDisabled" "Z" (.int (1 : Int32))) (Shs : Sta Z Z.heap "java/lang/StringUTF16" "HI_BYTE_SHIFT" "I" (.int (0 : Int32))) (Sls : Sta Z Z.heap "java/lang/StringUTF16" "LO_BYTE_SHIFT" "I" (.int (8 : Int32))) (Ea : Exa Z h0 aa "java/lang/String") (Fv : Fld Z h0 aa "java/lang/String" "value" "[B" (.ref ab)) (Hs : own_str Z h0 aa ab kb cc0 cc1 cc2 cc3) (hr0 : 0 ≤ cc0.toInt ∧ cc0.toInt ≤ 65535) (hr1 : 0 ≤ cc1.toInt ∧ cc1.toInt ≤ 65535) (hr2 : 0 ≤ cc2.toInt ∧ cc2.toInt ≤ 65535) (hr3 : 0 ≤ cc3.toInt ∧ cc3.toInt ≤ 65535) :
    MetFree l (⟨"com/example/vestwright/vestwright/PlainNumber", "isDigits", "(Ljava/lang/String;II)Z"⟩ : MethodName) (head1 (Jvm.Cond.code (⟨"com/example/vestwright/vestwright/PlainNumber", "isDigits", "(Ljava/lang/String;II)Z"⟩ : MethodName) prog_43_method_4_code 6 (some .boolean) :: ws) ({ frames := 5, cells := 0, slots := 0, locals := 66 } : Room)) (fun a U => a = #[(.ref aa), (.int (0 : Int32)), (.int (4 : Int32))] ∧ Z.Warmed39 U.vm ∧ U.heap = h0) (fun _ _ _ _ _ => True) (fun _ U o U' => ∃ v L, o = .returned v ∧ Q8f0t4 Z aa cs vf ab kb cc0 cc1 cc2 cc3 h0 n0 v U'.heap L ∧ FrameEnd U o U' L ({ frames := 5, cells := 0, slots := 0, locals := 66 } : Room).cells ({ frames := 5, cells := 0, slots := 0, locals := 66 } : Room).slots) := by
  refine MetFree.of_bodySF (plainFor_of_name own_pn257) hisR ?_
  intro p e s m args below meth c s₁ Bd hml0 hP hK
  have H := fun i c (h : tables_1[i]? = some c) => hw c (List.mem_of_getElem? h)
  obtain ⟨rfl, hZ, hh⟩ := hP
  have hx := Bd.exec
  have hby := Bd.bytes
  have hml : c.maxLocals = 6 := hml0
  have hown : s.vm.findClass "com/example/vestwright/vestwright/PlainNumber" = some m.cls := findClass_of_methodNamed Bd.named
  have hnm := (name_of_methodNamed Bd.named Bd.method).1
  have X0 : Stand p l e ({ frames := 5, cells := 0, slots := 0, locals := 66 } : Room) s m #[(.ref aa), (.int (0 : Int32)), (.int (4 : Int32))] below meth c s₁ [] 0 0 := Stand.of_body Bd
  have e0 : s₁.heap = h0 := by rw [← hh, Bd.state]; rfl
  have N0 := Fr.nil n0
  have pre0 : ∀ t, Sp p e below m s₁ 0 #[.val (.ref aa), .val (.int (0 : Int32)), .val (.int (4 : Int32)), .unset, .unset, .unset] [] t → Steps p.tables e below (s₁.setTop (entryFrame m #[(.ref aa), (.int (0 : Int32)), (.int (4 : Int32))] 6)) t := fun t k => castTop (ef_8f0t4 m aa) k
  generalize s₁.setTop (entryFrame m #[(.ref aa), (.int (0 : Int32)), (.int (4 : Int32))] 6) = G0 at pre0 ⊢
  obtain ⟨cq807, kq807, q807a, q807b, q807c⟩ := isOf hZ e0 Ea
  obtain ⟨_, _, ⟨T807, L807, k807, n807⟩, -, X807, ⟨Lc807, hQ807, l807, y807, z807⟩, st807⟩ := X0.virtualBack hx hown (mvT hZ (H 64 _ rfl)) (mvT hZ (H 65 _ rfl)) (notFace_of_selects (args := #[]) (mvT hZ (H 67 _ rfl))) (mvT hZ (H 67 _ rfl)) (mvT hZ (H 66 _ rfl)) (by decide) (backOf (W := 0) (rm16i0 l Z a0 hw [] aa cs vf ab kb cc0 cc1 cc2 cc3 h0 n0 Z0 O0 Scs hcs Ssf hvf Sas Shs Sls Ea Fv Hs hr0 hr1 hr2 hr3) hZ (H 68 _ rfl) (H 7 _ rfl) (by decide) (by decide)) q807a q807c (g := (mkF m 27 #[.val (.ref aa), .val (.int (0 : Int32)), .val (.int (4 : Int32)), .val (.int (1 : Int32)), .val (.int (0 : Int32)), .unset] [(.int (0 : Int32)), (.ref aa)])) rfl (by rw [hml]; rfl) (Steps.refl _) (argsL := [(.int (0 : Int32))]) (rest := []) (lenOf own_pd266 rfl) rfl (Nat.le_of_eq rfl) (hb hby d8_27) (fun _ _ => ⟨rfl, e0, (by decide : 0 + 0 ≤ _), (by decide : 0 + 0 ≤ _)⟩)
  dsimp only [Pt.U, Pt.locs, Pt.cells, Pt.slots] at X807 l807 y807 z807 st807 hQ807
  rw [l807, y807, z807] at X807
  obtain ⟨rfl, Nq807, e807⟩ := hQ807
  have N807 := Fr.app N0 Nq807
  have pre808 : ∀ t, Sp p e below m T807 36 #[.val (.ref aa), .val (.int (0 : Int32)), .val (.int (4 : Int32)), .val (.int (1 : Int32)), .val (.int (0 : Int32)), .val (.int cc0)] [(.int (48 : Int32)), (.int cc0)] t → SG p e below G0 t := by
    intro t k
    refine pre0 t ?_
    show Sp p e below m s₁ 0 #[.val (.ref aa), .val (.int (0 : Int32)), .val (.int (4 : Int32)), .unset, .unset, .unset] [] _
    refine XS.iloadN X0.here hx rfl (hb hby d8_0) rfl ?_
    refine XS.iloadN X0.here hx rfl (hb hby d8_1) rfl ?_
    refine XS.icmpNo X0.here hx rfl (hb hby d8_2) rfl (tlt (by decide : ((0 : Int32) < (4 : Int32)))).2.1 ?_
    refine XS.iconst X0.here hx rfl (hb hby d8_5) ?_
    refine XS.goto X0.here hx rfl (pc0 := 6) (pc' := 10) rfl (hb hby d8_6) (by decide) (by decide) ?_
    refine XS.istoreN X0.here hx rfl (hb hby d8_10) rfl (l' := #[.val (.ref aa), .val (.int (0 : Int32)), .val (.int (4 : Int32)), .val (.int (1 : Int32)), .unset, .unset]) rfl ?_
    refine XS.iloadN X0.here hx rfl (hb hby d8_11) rfl ?_
    refine XS.istore X0.here hx rfl (hb hby d8_12) rfl (l' := #[.val (.ref aa), .val (.int (0 : Int32)), .val (.int (4 : Int32)), .val (.int (1 : Int32)), .val (.int (0 : Int32)), .unset]) rfl ?_
    show Sp p e below m s₁ 14 #[.val (.ref aa), .val (.int (0 : Int32)), .val (.int (4 : Int32)), .val (.int (1 : Int32)), .val (.int (0 : Int32)), .unset] [] _
    refine XS.iloadN X0.here hx rfl (hb hby d8_14) rfl ?_
    refine XS.ifNo X0.here hx rfl (hb hby d8_15) rfl ((if0 _ _).trans (feq (by decide : ¬ ((1 : Int32) = (0 : Int32)))).1) ?_
    refine XS.iload X0.here hx rfl (hb hby d8_18) rfl ?_
    refine XS.iloadN X0.here hx rfl (hb hby d8_20) rfl ?_
    refine XS.icmpNo X0.here hx rfl (hb hby d8_21) rfl (tlt (by decide : ((0 : Int32) < (4 : Int32)))).2.1 ?_
    refine XS.aloadN X0.here hx rfl (hb hby d8_24) rfl rfl ?_
    refine XS.iload X0.here hx rfl (hb hby d8_25) rfl ?_
    refine st807.trans ?_
    show Sp p e below m T807 30 #[.val (.ref aa), .val (.int (0 : Int32)), .val (.int (4 : Int32)), .val (.int (1 : Int32)), .val (.int (0 : Int32)), .unset] [(.int cc0)] _
    refine XS.istore X807.here hx rfl (hb hby d8_30) rfl (l' := #[.val (.ref aa), .val (.int (0 : Int32)), .val (.int (4 : Int32)), .val (.int (1 : Int32)), .val (.int (0 : Int32)), .val (.int cc0)]) rfl ?_
    refine XS.iload X807.here hx rfl (hb hby d8_32) rfl ?_
    refine XS.bipush X807.here hx rfl (hb hby d8_34) ?_
    exact k
  by_cases hc36_809 : cc0 < (48 : Int32)
  · obtain ⟨fs, hr, hrun, hended, hW, hsame⟩ := X807.leave (v := some (.int (0 : Int32))) (fun h => by rw [Bd.returns] at h; cases h)
    refine ⟨_, _, pre808 _ ?_, hrun, hended, _, _, rfl, ?_, ⟨_, rfl⟩, hW, hsame.mono (by decide) (by decide)⟩
    · show Sp p e below m T807 36 #[.val (.ref aa), .val (.int (0 : Int32)), .val (.int (4 : Int32)), .val (.int (1 : Int32)), .val (.int (0 : Int32)), .val (.int cc0)] [(.int (48 : Int32)), (.int cc0)] _
      refine XS.icmpYes X807.here hx rfl (pc0 := 36) (pc' := 50) rfl (hb hby d8_36) rfl (tlt hc36_809).1 (by decide) (by decide) ?_
      refine XS.iconst X807.here hx rfl (hb hby d8_50) ?_
      refine XS.istoreN X807.here hx rfl (hb hby d8_51) rfl (l' := #[.val (.ref aa), .val (.int (0 : Int32)), .val (.int (4 : Int32)), .val (.int (0 : Int32)), .val (.int (0 : Int32)), .val (.int cc0)]) rfl ?_
      refine XS.iinc X807.here hx rfl (hb hby d8_52) rfl (l' := #[.val (.ref aa), .val (.int (0 : Int32)), .val (.int (4 : Int32)), .val (.int (0 : Int32)), .val (.int (1 : Int32)), .val (.int cc0)]) rfl ?_
      refine XS.goto X807.here hx rfl (pc0 := 55) (pc' := 14) rfl (hb hby d8_55) (by decide) (by decide) ?_
      show Sp p e below m T807 14 #[.val (.ref aa), .val (.int (0 : Int32)), .val (.int (4 : Int32)), .val (.int (0 : Int32)), .val (.int (1 : Int32)), .val (.int cc0)] [] _
      refine XS.iloadN X807.here hx rfl (hb hby d8_14) rfl ?_
      refine XS.ifYes X807.here hx rfl (pc0 := 15) (pc' := 58) rfl (hb hby d8_15) rfl ((if0 _ _).trans (teq (by decide : ((0 : Int32) = (0 : Int32)))).1) (by decide) (by decide) ?_
      refine XS.iloadN X807.here hx rfl (hb hby d8_58) rfl ?_
      exact retN X807 hx (t := .boolean) Bd.returns (by simp) (hb hby d8_59) hr
    · show Q8f0t4 Z aa cs vf ab kb cc0 cc1 cc2 cc3 h0 n0 _ T807.heap _
      rw [e807]
      exact ⟨(by simp [own_dg, hc36_809]), N807, rfl⟩
  · have pre810 : ∀ t, Sp p e below m T807 43 #[.val (.ref aa), .val (.int (0 : Int32)), .val (.int (4 : Int32)), .val (.int (1 : Int32)), .val (.int (0 : Int32)), .val (.int cc0)] [(.int (57 : Int32)), (.int cc0)] t → SG p e below G0 t := by
      intro t k
      refine pre808 t ?_
      show Sp p e below m T807 36 #[.val (.ref aa), .val (.int (0 : Int32)), .val (.int (4 : Int32)), .val (.int (1 : Int32)), .val (.int (0 : Int32)), .val (.int cc0)] [(.int (48 : Int32)), (.int cc0)] _
      refine XS.icmpNo X807.here hx rfl (hb hby d8_36) rfl (flt hc36_809).1 ?_
      refine XS.iload X807.here hx rfl (hb hby d8_39) rfl ?_
      refine XS.bipush X807.here hx rfl (hb hby d8_41) ?_
      exact k
    by_cases hc43_811 : (57 : Int32) < cc0
    · obtain ⟨fs, hr, hrun, hended, hW, hsame⟩ := X807.leave (v := some (.int (0 : Int32))) (fun h => by rw [Bd.returns] at h; cases h)
      refine ⟨_, _, pre810 _ ?_, hrun, hended, _, _, rfl, ?_, ⟨_, rfl⟩, hW, hsame.mono (by decide) (by decide)⟩
      · show Sp p e below m T807 43 #[.val (.ref aa), .val (.int (0 : Int32)), .val (.int (4 : Int32)), .val (.int (1 : Int32)), .val (.int (0 : Int32)), .val (.int cc0)] [(.int (57 : Int32)), (.int cc0)] _
        refine XS.icmpYes X807.here hx rfl (pc0 := 43) (pc' := 50) rfl (hb hby d8_43) rfl (tlt hc43_811).2.2.1 (by decide) (by decide) ?_
        refine XS.iconst X807.here hx rfl (hb hby d8_50) ?_
        show Sp p e below m T807 51 #[.val (.ref aa), .val (.int (0 : Int32)), .val (.int (4 : Int32)), .val (.int (1 : Int32)), .val (.int (0 : Int32)), .val (.int cc0)] [(.int (0 : Int32))] _
        refine XS.istoreN X807.here hx rfl (hb hby d8_51) rfl (l' := #[.val (.ref aa), .val (.int (0 : Int32)), .val (.int (4 : Int32)), .val (.int (0 : Int32)), .val (.int (0 : Int32)), .val (.int cc0)]) rfl ?_
        refine XS.iinc X807.here hx rfl (hb hby d8_52) rfl (l' := #[.val (.ref aa), .val (.int (0 : Int32)), .val (.int (4 : Int32)), .val (.int (0 : Int32)), .val (.int (1 : Int32)), .val (.int cc0)]) rfl ?_
        refine XS.goto X807.here hx rfl (pc0 := 55) (pc' := 14) rfl (hb hby d8_55) (by decide) (by decide) ?_
        refine XS.iloadN X807.here hx rfl (hb hby d8_14) rfl ?_
        refine XS.ifYes X807.here hx rfl (pc0 := 15) (pc' := 58) rfl (hb hby d8_15) rfl ((if0 _ _).trans (teq (by decide : ((0 : Int32) = (0 : Int32)))).1) (by decide) (by decide) ?_
        refine XS.iloadN X807.here hx rfl (hb hby d8_58) rfl ?_
        exact retN X807 hx (t := .boolean) Bd.returns (by simp) (hb hby d8_59) hr
      · show Q8f0t4 Z aa cs vf ab kb cc0 cc1 cc2 cc3 h0 n0 _ T807.heap _
        rw [e807]
        exact ⟨(by simp [own_dg, hc36_809, hc43_811]), N807, rfl⟩
    · obtain ⟨cq812, kq812, q812a, q812b, q812c⟩ := isOf hZ e807 Ea
      obtain ⟨_, _, ⟨T812, L812, k812, n812⟩, -, X812, ⟨Lc812, hQ812, l812, y812, z812⟩, st812⟩ := X807.virtualBack hx hown (mvT hZ (H 64 _ rfl)) (mvT hZ (H 65 _ rfl)) (notFace_of_selects (args := #[]) (mvT hZ (H 67 _ rfl))) (mvT hZ (H 67 _ rfl)) (mvT hZ (H 66 _ rfl)) (by decide) (backOf (W := 0) (rm16i1 l Z a0 hw [] aa cs vf ab kb cc0 cc1 cc2 cc3 h0 n0 Z0 O0 Scs hcs Ssf hvf Sas Shs Sls Ea Fv Hs hr0 hr1 hr2 hr3) hZ (H 68 _ rfl) (H 7 _ rfl) (by decide) (by decide)) q812a q812c (g := (mkF m 27 #[.val (.ref aa), .val (.int (0 : Int32)), .val (.int (4 : Int32)), .val (.int (1 : Int32)), .val (.int (1 : Int32)), .val (.int cc0)] [(.int (1 : Int32)), (.ref aa)])) rfl (by rw [hml]; rfl) (Steps.refl _) (argsL := [(.int (1 : Int32))]) (rest := []) (lenOf own_pd266 rfl) rfl (Nat.le_of_eq rfl) (hb hby d8_27) (fun _ _ => ⟨rfl, e807, (by decide : 0 + 0 ≤ _), (by decide : 0 + 0 ≤ _)⟩)
      dsimp only [Pt.U, Pt.locs, Pt.cells, Pt.slots] at X812 l812 y812 z812 st812 hQ812
      rw [l812, y812, z812] at X812
      obtain ⟨rfl, Nq812, e812⟩ := hQ812
      have N812 := Fr.app N807 Nq812
      have pre813 : ∀ t, Sp p e below m T812 36 #[.val (.ref aa), .val (.int (0 : Int32)), .val (.int (4 : Int32)), .val (.int (1 : Int32)), .val (.int (1 : Int32)), .val (.int cc1)] [(.int (48 : Int32)), (.int cc1)] t → SG p e below G0 t := by
        intro t k
        refine pre810 t ?_
        show Sp p e below m T807 43 #[.val (.ref aa), .val (.int (0 : Int32)), .val (.int (4 : Int32)), .val (.int (1 : Int32)), .val (.int (0 : Int32)), .val (.int cc0)] [(.int (57 : Int32)), (.int cc0)] _
        refine XS.icmpNo X807.here hx rfl (hb hby d8_43) rfl (flt hc43_811).2.2.1 ?_
        refine XS.iconst X807.here hx rfl (hb hby d8_46) ?_
        show Sp p e below m T807 47 #[.val (.ref aa), .val (.int (0 : Int32)), .val (.int (4 : Int32)), .val (.int (1 : Int32)), .val (.int (0 : Int32)), .val (.int cc0)] [(.int (1 : Int32))] _
        refine XS.goto X807.here hx rfl (pc0 := 47) (pc' := 51) rfl (hb hby d8_47) (by decide) (by decide) ?_
        refine XS.istoreN X807.here hx rfl (hb hby d8_51) rfl (l' := #[.val (.ref aa), .val (.int (0 : Int32)), .val (.int (4 : Int32)), .val (.int (1 : Int32)), .val (.int (0 : Int32)), .val (.int cc0)]) rfl ?_
        refine XS.iinc X807.here hx rfl (hb hby d8_52) rfl (l' := #[.val (.ref aa), .val (.int (0 : Int32)), .val (.int (4 : Int32)), .val (.int (1 : Int32)), .val (.int (1 : Int32)), .val (.int cc0)]) rfl ?_
        refine XS.goto X807.here hx rfl (pc0 := 55) (pc' := 14) rfl (hb hby d8_55) (by decide) (by decide) ?_
        refine XS.iloadN X807.here hx rfl (hb hby d8_14) rfl ?_
        refine XS.ifNo X807.here hx rfl (hb hby d8_15) rfl ((if0 _ _).trans (feq (by decide : ¬ ((1 : Int32) = (0 : Int32)))).1) ?_
        refine XS.iload X807.here hx rfl (hb hby d8_18) rfl ?_
        refine XS.iloadN X807.here hx rfl (hb hby d8_20) rfl ?_
        show Sp p e below m T807 21 #[.val (.ref aa), .val (.int (0 : Int32)), .val (.int (4 : Int32)), .val (.int (1 : Int32)), .val (.int (1 : Int32)), .val (.int cc0)] [(.int (4 : Int32)), (.int (1 : Int32))] _
        refine XS.icmpNo X807.here hx rfl (hb hby d8_21) rfl (tlt (by decide : ((1 : Int32) < (4 : Int32)))).2.1 ?_
        refine XS.aloadN X807.here hx rfl (hb hby d8_24) rfl rfl ?_
        refine XS.iload X807.here hx rfl (hb hby d8_25) rfl ?_
        refine st812.trans ?_
        show Sp p e below m T812 30 #[.val (.ref aa), .val (.int (0 : Int32)), .val (.int (4 : Int32)), .val (.int (1 : Int32)), .val (.int (1 : Int32)), .val (.int cc0)] [(.int cc1)] _
        refine XS.istore X812.here hx rfl (hb hby d8_30) rfl (l' := #[.val (.ref aa), .val (.int (0 : Int32)), .val (.int (4 : Int32)), .val (.int (1 : Int32)), .val (.int (1 : Int32)), .val (.int cc1)]) rfl ?_
        refine XS.iload X812.here hx rfl (hb hby d8_32) rfl ?_
        refine XS.bipush X812.here hx rfl (hb hby d8_34) ?_
        exact k
      by_cases hc36_814 : cc1 < (48 : Int32)
      · obtain ⟨fs, hr, hrun, hended, hW, hsame⟩ := X812.leave (v := some (.int (0 : Int32))) (fun h => by rw [Bd.returns] at h; cases h)
        refine ⟨_, _, pre813 _ ?_, hrun, hended, _, _, rfl, ?_, ⟨_, rfl⟩, hW, hsame.mono (by decide) (by decide)⟩
        · show Sp p e below m T812 36 #[.val (.ref aa), .val (.int (0 : Int32)), .val (.int (4 : Int32)), .val (.int (1 : Int32)), .val (.int (1 : Int32)), .val (.int cc1)] [(.int (48 : Int32)), (.int cc1)] _
          refine XS.icmpYes X812.here hx rfl (pc0 := 36) (pc' := 50) rfl (hb hby d8_36) rfl (tlt hc36_814).1 (by decide) (by decide) ?_
          refine XS.iconst X812.here hx rfl (hb hby d8_50) ?_
          refine XS.istoreN X812.here hx rfl (hb hby d8_51) rfl (l' := #[.val (.ref aa), .val (.int (0 : Int32)), .val (.int (4 : Int32)), .val (.int (0 : Int32)), .val (.int (1 : Int32)), .val (.int cc1)]) rfl ?_
          refine XS.iinc X812.here hx rfl (hb hby d8_52) rfl (l' := #[.val (.ref aa), .val (.int (0 : Int32)), .val (.int (4 : Int32)), .val (.int (0 : Int32)), .val (.int (2 : Int32)), .val (.int cc1)]) rfl ?_
          refine XS.goto X812.here hx rfl (pc0 := 55) (pc' := 14) rfl (hb hby d8_55) (by decide) (by decide) ?_
          show Sp p e below m T812 14 #[.val (.ref aa), .val (.int (0 : Int32)), .val (.int (4 : Int32)), .val (.int (0 : Int32)), .val (.int (2 : Int32)), .val (.int cc1)] [] _
          refine XS.iloadN X812.here hx rfl (hb hby d8_14) rfl ?_
          refine XS.ifYes X812.here hx rfl (pc0 := 15) (pc' := 58) rfl (hb hby d8_15) rfl ((if0 _ _).trans (teq (by decide : ((0 : Int32) = (0 : Int32)))).1) (by decide) (by decide) ?_
          refine XS.iloadN X812.here hx rfl (hb hby d8_58) rfl ?_
          exact retN X812 hx (t := .boolean) Bd.returns (by simp) (hb hby d8_59) hr
        · show Q8f0t4 Z aa cs vf ab kb cc0 cc1 cc2 cc3 h0 n0 _ T812.heap _
          rw [e812]
          exact ⟨(by simp [own_dg, hc36_809, hc43_811, hc36_814]), N812, rfl⟩
      · have pre815 : ∀ t, Sp p e below m T812 43 #[.val (.ref aa), .val (.int (0 : Int32)), .val (.int (4 : Int32)), .val (.int (1 : Int32)), .val (.int (1 : Int32)), .val (.int cc1)] [(.int (57 : Int32)), (.int cc1)] t → SG p e below G0 t := by
          intro t k
          refine pre813 t ?_
          show Sp p e below m T812 36 #[.val (.ref aa), .val (.int (0 : Int32)), .val (.int (4 : Int32)), .val (.int (1 : Int32)), .val (.int (1 : Int32)), .val (.int cc1)] [(.int (48 : Int32)), (.int cc1)] _
          refine XS.icmpNo X812.here hx rfl (hb hby d8_36) rfl (flt hc36_814).1 ?_
          refine XS.iload X812.here hx rfl (hb hby d8_39) rfl ?_
          refine XS.bipush X812.here hx rfl (hb hby d8_41) ?_
          exact k
        by_cases hc43_816 : (57 : Int32) < cc1
        · obtain ⟨fs, hr, hrun, hended, hW, hsame⟩ := X812.leave (v := some (.int (0 : Int32))) (fun h => by rw [Bd.returns] at h; cases h)
          refine ⟨_, _, pre815 _ ?_, hrun, hended, _, _, rfl, ?_, ⟨_, rfl⟩, hW, hsame.mono (by decide) (by decide)⟩
          · show Sp p e below m T812 43 #[.val (.ref aa), .val (.int (0 : Int32)), .val (.int (4 : Int32)), .val (.int (1 : Int32)), .val (.int (1 : Int32)), .val (.int cc1)] [(.int (57 : Int32)), (.int cc1)] _
            refine XS.icmpYes X812.here hx rfl (pc0 := 43) (pc' := 50) rfl (hb hby d8_43) rfl (tlt hc43_816).2.2.1 (by decide) (by decide) ?_
            refine XS.iconst X812.here hx rfl (hb hby d8_50) ?_
            show Sp p e below m T812 51 #[.val (.ref aa), .val (.int (0 : Int32)), .val (.int (4 : Int32)), .val (.int (1 : Int32)), .val (.int (1 : Int32)), .val (.int cc1)] [(.int (0 : Int32))] _
            refine XS.istoreN X812.here hx rfl (hb hby d8_51) rfl (l' := #[.val (.ref aa), .val (.int (0 : Int32)), .val (.int (4 : Int32)), .val (.int (0 : Int32)), .val (.int (1 : Int32)), .val (.int cc1)]) rfl ?_
            refine XS.iinc X812.here hx rfl (hb hby d8_52) rfl (l' := #[.val (.ref aa), .val (.int (0 : Int32)), .val (.int (4 : Int32)), .val (.int (0 : Int32)), .val (.int (2 : Int32)), .val (.int cc1)]) rfl ?_
            refine XS.goto X812.here hx rfl (pc0 := 55) (pc' := 14) rfl (hb hby d8_55) (by decide) (by decide) ?_
            refine XS.iloadN X812.here hx rfl (hb hby d8_14) rfl ?_
            refine XS.ifYes X812.here hx rfl (pc0 := 15) (pc' := 58) rfl (hb hby d8_15) rfl ((if0 _ _).trans (teq (by decide : ((0 : Int32) = (0 : Int32)))).1) (by decide) (by decide) ?_
            refine XS.iloadN X812.here hx rfl (hb hby d8_58) rfl ?_
            exact retN X812 hx (t := .boolean) Bd.returns (by simp) (hb hby d8_59) hr
          · show Q8f0t4 Z aa cs vf ab kb cc0 cc1 cc2 cc3 h0 n0 _ T812.heap _
            rw [e812]
            exact ⟨(by simp [own_dg, hc36_809, hc43_811, hc36_814, hc43_816]), N812, rfl⟩
        · obtain ⟨cq817, kq817, q817a, q817b, q817c⟩ := isOf hZ e812 Ea
          obtain ⟨_, _, ⟨T817, L817, k817, n817⟩, -, X817, ⟨Lc817, hQ817, l817, y817, z817⟩, st817⟩ := X812.virtualBack hx hown (mvT hZ (H 64 _ rfl)) (mvT hZ (H 65 _ rfl)) (notFace_of_selects (args := #[]) (mvT hZ (H 67 _ rfl))) (mvT hZ (H 67 _ rfl)) (mvT hZ (H 66 _ rfl)) (by decide) (backOf (W := 0) (rm16i2 l Z a0 hw [] aa cs vf ab kb cc0 cc1 cc2 cc3 h0 n0 Z0 O0 Scs hcs Ssf hvf Sas Shs Sls Ea Fv Hs hr0 hr1 hr2 hr3) hZ (H 68 _ rfl) (H 7 _ rfl) (by decide) (by decide)) q817a q817c (g := (mkF m 27 #[.val (.ref aa), .val (.int (0 : Int32)), .val (.int (4 : Int32)), .val (.int (1 : Int32)), .val (.int (2 : Int32)), .val (.int cc1)] [(.int (2 : Int32)), (.ref aa)])) rfl (by rw [hml]; rfl) (Steps.refl _) (argsL := [(.int (2 : Int32))]) (rest := []) (lenOf own_pd266 rfl) rfl (Nat.le_of_eq rfl) (hb hby d8_27) (fun _ _ => ⟨rfl, e812, (by decide : 0 + 0 ≤ _), (by decide : 0 + 0 ≤ _)⟩)
          dsimp only [Pt.U, Pt.locs, Pt.cells, Pt.slots] at X817 l817 y817 z817 st817 hQ817
          rw [l817, y817, z817] at X817
          obtain ⟨rfl, Nq817, e817⟩ := hQ817
          have N817 := Fr.app N812 Nq817
          have pre818 : ∀ t, Sp p e below m T817 36 #[.val (.ref aa), .val (.int (0 : Int32)), .val (.int (4 : Int32)), .val (.int (1 : Int32)), .val (.int (2 : Int32)), .val (.int cc2)] [(.int (48 : Int32)), (.int cc2)] t → SG p e below G0 t := by
            intro t k
            refine pre815 t ?_
            show Sp p e below m T812 43 #[.val (.ref aa), .val (.int (0 : Int32)), .val (.int (4 : Int32)), .val (.int (1 : Int32)), .val (.int (1 : Int32)), .val (.int cc1)] [(.int (57 : Int32)), (.int cc1)] _
            refine XS.icmpNo X812.here hx rfl (hb hby d8_43) rfl (flt hc43_816).2.2.1 ?_
            refine XS.iconst X812.here hx rfl (hb hby d8_46) ?_
            show Sp p e below m T812 47 #[.val (.ref aa), .val (.int (0 : Int32)), .val (.int (4 : Int32)), .val (.int (1 : Int32)), .val (.int (1 : Int32)), .val (.int cc1)] [(.int (1 : Int32))] _
            refine XS.goto X812.here hx rfl (pc0 := 47) (pc' := 51) rfl (hb hby d8_47) (by decide) (by decide) ?_
            refine XS.istoreN X812.here hx rfl (hb hby d8_51) rfl (l' := #[.val (.ref aa), .val (.int (0 : Int32)), .val (.int (4 : Int32)), .val (.int (1 : Int32)), .val (.int (1 : Int32)), .val (.int cc1)]) rfl ?_
            refine XS.iinc X812.here hx rfl (hb hby d8_52) rfl (l' := #[.val (.ref aa), .val (.int (0 : Int32)), .val (.int (4 : Int32)), .val (.int (1 : Int32)), .val (.int (2 : Int32)), .val (.int cc1)]) rfl ?_
            refine XS.goto X812.here hx rfl (pc0 := 55) (pc' := 14) rfl (hb hby d8_55) (by decide) (by decide) ?_
            refine XS.iloadN X812.here hx rfl (hb hby d8_14) rfl ?_
            refine XS.ifNo X812.here hx rfl (hb hby d8_15) rfl ((if0 _ _).trans (feq (by decide : ¬ ((1 : Int32) = (0 : Int32)))).1) ?_
            refine XS.iload X812.here hx rfl (hb hby d8_18) rfl ?_
            refine XS.iloadN X812.here hx rfl (hb hby d8_20) rfl ?_
            show Sp p e below m T812 21 #[.val (.ref aa), .val (.int (0 : Int32)), .val (.int (4 : Int32)), .val (.int (1 : Int32)), .val (.int (2 : Int32)), .val (.int cc1)] [(.int (4 : Int32)), (.int (2 : Int32))] _
            refine XS.icmpNo X812.here hx rfl (hb hby d8_21) rfl (tlt (by decide : ((2 : Int32) < (4 : Int32)))).2.1 ?_
            refine XS.aloadN X812.here hx rfl (hb hby d8_24) rfl rfl ?_
            refine XS.iload X812.here hx rfl (hb hby d8_25) rfl ?_
            refine st817.trans ?_
            show Sp p e below m T817 30 #[.val (.ref aa), .val (.int (0 : Int32)), .val (.int (4 : Int32)), .val (.int (1 : Int32)), .val (.int (2 : Int32)), .val (.int cc1)] [(.int cc2)] _
            refine XS.istore X817.here hx rfl (hb hby d8_30) rfl (l' := #[.val (.ref aa), .val (.int (0 : Int32)), .val (.int (4 : Int32)), .val (.int (1 : Int32)), .val (.int (2 : Int32)), .val (.int cc2)]) rfl ?_
            refine XS.iload X817.here hx rfl (hb hby d8_32) rfl ?_
            refine XS.bipush X817.here hx rfl (hb hby d8_34) ?_
            exact k
          by_cases hc36_819 : cc2 < (48 : Int32)
          · obtain ⟨fs, hr, hrun, hended, hW, hsame⟩ := X817.leave (v := some (.int (0 : Int32))) (fun h => by rw [Bd.returns] at h; cases h)
            refine ⟨_, _, pre818 _ ?_, hrun, hended, _, _, rfl, ?_, ⟨_, rfl⟩, hW, hsame.mono (by decide) (by decide)⟩
            · show Sp p e below m T817 36 #[.val (.ref aa), .val (.int (0 : Int32)), .val (.int (4 : Int32)), .val (.int (1 : Int32)), .val (.int (2 : Int32)), .val (.int cc2)] [(.int (48 : Int32)), (.int cc2)] _
              refine XS.icmpYes X817.here hx rfl (pc0 := 36) (pc' := 50) rfl (hb hby d8_36) rfl (tlt hc36_819).1 (by decide) (by decide) ?_
              refine XS.iconst X817.here hx rfl (hb hby d8_50) ?_
              refine XS.istoreN X817.here hx rfl (hb hby d8_51) rfl (l' := #[.val (.ref aa), .val (.int (0 : Int32)), .val (.int (4 : Int32)), .val (.int (0 : Int32)), .val (.int (2 : Int32)), .val (.int cc2)]) rfl ?_
              refine XS.iinc X817.here hx rfl (hb hby d8_52) rfl (l' := #[.val (.ref aa), .val (.int (0 : Int32)), .val (.int (4 : Int32)), .val (.int (0 : Int32)), .val (.int (3 : Int32)), .val (.int cc2)]) rfl ?_
              refine XS.goto X817.here hx rfl (pc0 := 55) (pc' := 14) rfl (hb hby d8_55) (by decide) (by decide) ?_
              show Sp p e below m T817 14 #[.val (.ref aa), .val (.int (0 : Int32)), .val (.int (4 : Int32)), .val (.int (0 : Int32)), .val (.int (3 : Int32)), .val (.int cc2)] [] _
              refine XS.iloadN X817.here hx rfl (hb hby d8_14) rfl ?_
              refine XS.ifYes X817.here hx rfl (pc0 := 15) (pc' := 58) rfl (hb hby d8_15) rfl ((if0 _ _).trans (teq (by decide : ((0 : Int32) = (0 : Int32)))).1) (by decide) (by decide) ?_
              refine XS.iloadN X817.here hx rfl (hb hby d8_58) rfl ?_
              exact retN X817 hx (t := .boolean) Bd.returns (by simp) (hb hby d8_59) hr
            · show Q8f0t4 Z aa cs vf ab kb cc0 cc1 cc2 cc3 h0 n0 _ T817.heap _
              rw [e817]
              exact ⟨(by simp [own_dg, hc36_809, hc43_811, hc36_814, hc43_816, hc36_819]), N817, rfl⟩
          · have pre820 : ∀ t, Sp p e below m T817 43 #[.val (.ref aa), .val (.int (0 : Int32)), .val (.int (4 : Int32)), .val (.int (1 : Int32)), .val (.int (2 : Int32)), .val (.int cc2)] [(.int (57 : Int32)), (.int cc2)] t → SG p e below G0 t := by
              intro t k
              refine pre818 t ?_
              show Sp p e below m T817 36 #[.val (.ref aa), .val (.int (0 : Int32)), .val (.int (4 : Int32)), .val (.int (1 : Int32)), .val (.int (2 : Int32)), .val (.int cc2)] [(.int (48 : Int32)), (.int cc2)] _
              refine XS.icmpNo X817.here hx rfl (hb hby d8_36) rfl (flt hc36_819).1 ?_
              refine XS.iload X817.here hx rfl (hb hby d8_39) rfl ?_
              refine XS.bipush X817.here hx rfl (hb hby d8_41) ?_
              exact k
            by_cases hc43_821 : (57 : Int32) < cc2
            · obtain ⟨fs, hr, hrun, hended, hW, hsame⟩ := X817.leave (v := some (.int (0 : Int32))) (fun h => by rw [Bd.returns] at h; cases h)
              refine ⟨_, _, pre820 _ ?_, hrun, hended, _, _, rfl, ?_, ⟨_, rfl⟩, hW, hsame.mono (by decide) (by decide)⟩
              · show Sp p e below m T817 43 #[.val (.ref aa), .val (.int (0 : Int32)), .val (.int (4 : Int32)), .val (.int (1 : Int32)), .val (.int (2 : Int32)), .val (.int cc2)] [(.int (57 : Int32)), (.int cc2)] _
                refine XS.icmpYes X817.here hx rfl (pc0 := 43) (pc' := 50) rfl (hb hby d8_43) rfl (tlt hc43_821).2.2.1 (by decide) (by decide) ?_
                refine XS.iconst X817.here hx rfl (hb hby d8_50) ?_
                show Sp p e below m T817 51 #[.val (.ref aa), .val (.int (0 : Int32)), .val (.int (4 : Int32)), .val (.int (1 : Int32)), .val (.int (2 : Int32)), .val (.int cc2)] [(.int (0 : Int32))] _
                refine XS.istoreN X817.here hx rfl (hb hby d8_51) rfl (l' := #[.val (.ref aa), .val (.int (0 : Int32)), .val (.int (4 : Int32)), .val (.int (0 : Int32)), .val (.int (2 : Int32)), .val (.int cc2)]) rfl ?_
                refine XS.iinc X817.here hx rfl (hb hby d8_52) rfl (l' := #[.val (.ref aa), .val (.int (0 : Int32)), .val (.int (4 : Int32)), .val (.int (0 : Int32)), .val (.int (3 : Int32)), .val (.int cc2)]) rfl ?_
                refine XS.goto X817.here hx rfl (pc0 := 55) (pc' := 14) rfl (hb hby d8_55) (by decide) (by decide) ?_
                refine XS.iloadN X817.here hx rfl (hb hby d8_14) rfl ?_
                refine XS.ifYes X817.here hx rfl (pc0 := 15) (pc' := 58) rfl (hb hby d8_15) rfl ((if0 _ _).trans (teq (by decide : ((0 : Int32) = (0 : Int32)))).1) (by decide) (by decide) ?_
                refine XS.iloadN X817.here hx rfl (hb hby d8_58) rfl ?_
                exact retN X817 hx (t := .boolean) Bd.returns (by simp) (hb hby d8_59) hr
              · show Q8f0t4 Z aa cs vf ab kb cc0 cc1 cc2 cc3 h0 n0 _ T817.heap _
                rw [e817]
                exact ⟨(by simp [own_dg, hc36_809, hc43_811, hc36_814, hc43_816, hc36_819, hc43_821]), N817, rfl⟩
            · obtain ⟨cq822, kq822, q822a, q822b, q822c⟩ := isOf hZ e817 Ea
              obtain ⟨_, _, ⟨T822, L822, k822, n822⟩, -, X822, ⟨Lc822, hQ822, l822, y822, z822⟩, st822⟩ := X817.virtualBack hx hown (mvT hZ (H 64 _ rfl)) (mvT hZ (H 65 _ rfl)) (notFace_of_selects (args := #[]) (mvT hZ (H 67 _ rfl))) (mvT hZ (H 67 _ rfl)) (mvT hZ (H 66 _ rfl)) (by decide) (backOf (W := 0) (rm16i3 l Z a0 hw [] aa cs vf ab kb cc0 cc1 cc2 cc3 h0 n0 Z0 O0 Scs hcs Ssf hvf Sas Shs Sls Ea Fv Hs hr0 hr1 hr2 hr3) hZ (H 68 _ rfl) (H 7 _ rfl) (by decide) (by decide)) q822a q822c (g := (mkF m 27 #[.val (.ref aa), .val (.int (0 : Int32)), .val (.int (4 : Int32)), .val (.int (1 : Int32)), .val (.int (3 : Int32)), .val (.int cc2)] [(.int (3 : Int32)), (.ref aa)])) rfl (by rw [hml]; rfl) (Steps.refl _) (argsL := [(.int (3 : Int32))]) (rest := []) (lenOf own_pd266 rfl) rfl (Nat.le_of_eq rfl) (hb hby d8_27) (fun _ _ => ⟨rfl, e817, (by decide : 0 + 0 ≤ _), (by decide : 0 + 0 ≤ _)⟩)
              dsimp only [Pt.U, Pt.locs, Pt.cells, Pt.slots] at X822 l822 y822 z822 st822 hQ822
              rw [l822, y822, z822] at X822
              obtain ⟨rfl, Nq822, e822⟩ := hQ822
              have N822 := Fr.app N817 Nq822
              have pre823 : ∀ t, Sp p e below m T822 36 #[.val (.ref aa), .val (.int (0 : Int32)), .val (.int (4 : Int32)), .val (.int (1 : Int32)), .val (.int (3 : Int32)), .val (.int cc3)] [(.int (48 : Int32)), (.int cc3)] t → SG p e below G0 t := by
                intro t k
                refine pre820 t ?_
                show Sp p e below m T817 43 #[.val (.ref aa), .val (.int (0 : Int32)), .val (.int (4 : Int32)), .val (.int (1 : Int32)), .val (.int (2 : Int32)), .val (.int cc2)] [(.int (57 : Int32)), (.int cc2)] _
                refine XS.icmpNo X817.here hx rfl (hb hby d8_43) rfl (flt hc43_821).2.2.1 ?_
                refine XS.iconst X817.here hx rfl (hb hby d8_46) ?_
                show Sp p e below m T817 47 #[.val (.ref aa), .val (.int (0 : Int32)), .val (.int (4 : Int32)), .val (.int (1 : Int32)), .val (.int (2 : Int32)), .val (.int cc2)] [(.int (1 : Int32))] _
                refine XS.goto X817.here hx rfl (pc0 := 47) (pc' := 51) rfl (hb hby d8_47) (by decide) (by decide) ?_
                refine XS.istoreN X817.here hx rfl (hb hby d8_51) rfl (l' := #[.val (.ref aa), .val (.int (0 : Int32)), .val (.int (4 : Int32)), .val (.int (1 : Int32)), .val (.int (2 : Int32)), .val (.int cc2)]) rfl ?_
                refine XS.iinc X817.here hx rfl (hb hby d8_52) rfl (l' := #[.val (.ref aa), .val (.int (0 : Int32)), .val (.int (4 : Int32)), .val (.int (1 : Int32)), .val (.int (3 : Int32)), .val (.int cc2)]) rfl ?_
                refine XS.goto X817.here hx rfl (pc0 := 55) (pc' := 14) rfl (hb hby d8_55) (by decide) (by decide) ?_
                refine XS.iloadN X817.here hx rfl (hb hby d8_14) rfl ?_
                refine XS.ifNo X817.here hx rfl (hb hby d8_15) rfl ((if0 _ _).trans (feq (by decide : ¬ ((1 : Int32) = (0 : Int32)))).1) ?_
                refine XS.iload X817.here hx rfl (hb hby d8_18) rfl ?_
                refine XS.iloadN X817.here hx rfl (hb hby d8_20) rfl ?_
                show Sp p e below m T817 21 #[.val (.ref aa), .val (.int (0 : Int32)), .val (.int (4 : Int32)), .val (.int (1 : Int32)), .val (.int (3 : Int32)), .val (.int cc2)] [(.int (4 : Int32)), (.int (3 : Int32))] _
                refine XS.icmpNo X817.here hx rfl (hb hby d8_21) rfl (tlt (by decide : ((3 : Int32) < (4 : Int32)))).2.1 ?_
                refine XS.aloadN X817.here hx rfl (hb hby d8_24) rfl rfl ?_
                refine XS.iload X817.here hx rfl (hb hby d8_25) rfl ?_
                refine st822.trans ?_
                show Sp p e below m T822 30 #[.val (.ref aa), .val (.int (0 : Int32)), .val (.int (4 : Int32)), .val (.int (1 : Int32)), .val (.int (3 : Int32)), .val (.int cc2)] [(.int cc3)] _
                refine XS.istore X822.here hx rfl (hb hby d8_30) rfl (l' := #[.val (.ref aa), .val (.int (0 : Int32)), .val (.int (4 : Int32)), .val (.int (1 : Int32)), .val (.int (3 : Int32)), .val (.int cc3)]) rfl ?_
                refine XS.iload X822.here hx rfl (hb hby d8_32) rfl ?_
                refine XS.bipush X822.here hx rfl (hb hby d8_34) ?_
                exact k
              by_cases hc36_824 : cc3 < (48 : Int32)
              · obtain ⟨fs, hr, hrun, hended, hW, hsame⟩ := X822.leave (v := some (.int (0 : Int32))) (fun h => by rw [Bd.returns] at h; cases h)
                refine ⟨_, _, pre823 _ ?_, hrun, hended, _, _, rfl, ?_, ⟨_, rfl⟩, hW, hsame.mono (by decide) (by decide)⟩
                · show Sp p e below m T822 36 #[.val (.ref aa), .val (.int (0 : Int32)), .val (.int (4 : Int32)), .val (.int (1 : Int32)), .val (.int (3 : Int32)), .val (.int cc3)] [(.int (48 : Int32)), (.int cc3)] _
                  refine XS.icmpYes X822.here hx rfl (pc0 := 36) (pc' := 50) rfl (hb hby d8_36) rfl (tlt hc36_824).1 (by decide) (by decide) ?_
                  refine XS.iconst X822.here hx rfl (hb hby d8_50) ?_
                  refine XS.istoreN X822.here hx rfl (hb hby d8_51) rfl (l' := #[.val (.ref aa), .val (.int (0 : Int32)), .val (.int (4 : Int32)), .val (.int (0 : Int32)), .val (.int (3 : Int32)), .val (.int cc3)]) rfl ?_
                  refine XS.iinc X822.here hx rfl (hb hby d8_52) rfl (l' := #[.val (.ref aa), .val (.int (0 : Int32)), .val (.int (4 : Int32)), .val (.int (0 : Int32)), .val (.int (4 : Int32)), .val (.int cc3)]) rfl ?_
                  refine XS.goto X822.here hx rfl (pc0 := 55) (pc' := 14) rfl (hb hby d8_55) (by decide) (by decide) ?_
                  show Sp p e below m T822 14 #[.val (.ref aa), .val (.int (0 : Int32)), .val (.int (4 : Int32)), .val (.int (0 : Int32)), .val (.int (4 : Int32)), .val (.int cc3)] [] _
                  refine XS.iloadN X822.here hx rfl (hb hby d8_14) rfl ?_
                  refine XS.ifYes X822.here hx rfl (pc0 := 15) (pc' := 58) rfl (hb hby d8_15) rfl ((if0 _ _).trans (teq (by decide : ((0 : Int32) = (0 : Int32)))).1) (by decide) (by decide) ?_
                  refine XS.iloadN X822.here hx rfl (hb hby d8_58) rfl ?_
                  exact retN X822 hx (t := .boolean) Bd.returns (by simp) (hb hby d8_59) hr
                · show Q8f0t4 Z aa cs vf ab kb cc0 cc1 cc2 cc3 h0 n0 _ T822.heap _
                  rw [e822]
                  exact ⟨(by simp [own_dg, hc36_809, hc43_811, hc36_814, hc43_816, hc36_819, hc43_821, hc36_824]), N822, rfl⟩
              · have pre825 : ∀ t, Sp p e below m T822 43 #[.val (.ref aa), .val (.int (0 : Int32)), .val (.int (4 : Int32)), .val (.int (1 : Int32)), .val (.int (3 : Int32)), .val (.int cc3)] [(.int (57 : Int32)), (.int cc3)] t → SG p e below G0 t := by
                  intro t k
                  refine pre823 t ?_
                  show Sp p e below m T822 36 #[.val (.ref aa), .val (.int (0 : Int32)), .val (.int (4 : Int32)), .val (.int (1 : Int32)), .val (.int (3 : Int32)), .val (.int cc3)] [(.int (48 : Int32)), (.int cc3)] _
                  refine XS.icmpNo X822.here hx rfl (hb hby d8_36) rfl (flt hc36_824).1 ?_
                  refine XS.iload X822.here hx rfl (hb hby d8_39) rfl ?_
                  refine XS.bipush X822.here hx rfl (hb hby d8_41) ?_
                  exact k
                by_cases hc43_826 : (57 : Int32) < cc3
                · obtain ⟨fs, hr, hrun, hended, hW, hsame⟩ := X822.leave (v := some (.int (0 : Int32))) (fun h => by rw [Bd.returns] at h; cases h)
                  refine ⟨_, _, pre825 _ ?_, hrun, hended, _, _, rfl, ?_, ⟨_, rfl⟩, hW, hsame.mono (by decide) (by decide)⟩
                  · show Sp p e below m T822 43 #[.val (.ref aa), .val (.int (0 : Int32)), .val (.int (4 : Int32)), .val (.int (1 : Int32)), .val (.int (3 : Int32)), .val (.int cc3)] [(.int (57 : Int32)), (.int cc3)] _
                    refine XS.icmpYes X822.here hx rfl (pc0 := 43) (pc' := 50) rfl (hb hby d8_43) rfl (tlt hc43_826).2.2.1 (by decide) (by decide) ?_
                    refine XS.iconst X822.here hx rfl (hb hby d8_50) ?_
                    show Sp p e below m T822 51 #[.val (.ref aa), .val (.int (0 : Int32)), .val (.int (4 : Int32)), .val (.int (1 : Int32)), .val (.int (3 : Int32)), .val (.int cc3)] [(.int (0 : Int32))] _
                    refine XS.istoreN X822.here hx rfl (hb hby d8_51) rfl (l' := #[.val (.ref aa), .val (.int (0 : Int32)), .val (.int (4 : Int32)), .val (.int (0 : Int32)), .val (.int (3 : Int32)), .val (.int cc3)]) rfl ?_
                    refine XS.iinc X822.here hx rfl (hb hby d8_52) rfl (l' := #[.val (.ref aa), .val (.int (0 : Int32)), .val (.int (4 : Int32)), .val (.int (0 : Int32)), .val (.int (4 : Int32)), .val (.int cc3)]) rfl ?_
                    refine XS.goto X822.here hx rfl (pc0 := 55) (pc' := 14) rfl (hb hby d8_55) (by decide) (by decide) ?_
                    refine XS.iloadN X822.here hx rfl (hb hby d8_14) rfl ?_
                    refine XS.ifYes X822.here hx rfl (pc0 := 15) (pc' := 58) rfl (hb hby d8_15) rfl ((if0 _ _).trans (teq (by decide : ((0 : Int32) = (0 : Int32)))).1) (by decide) (by decide) ?_
                    refine XS.iloadN X822.here hx rfl (hb hby d8_58) rfl ?_
                    exact retN X822 hx (t := .boolean) Bd.returns (by simp) (hb hby d8_59) hr
                  · show Q8f0t4 Z aa cs vf ab kb cc0 cc1 cc2 cc3 h0 n0 _ T822.heap _
                    rw [e822]
                    exact ⟨(by simp [own_dg, hc36_809, hc43_811, hc36_814, hc43_816, hc36_819, hc43_821, hc36_824, hc43_826]), N822, rfl⟩
                · obtain ⟨fs, hr, hrun, hended, hW, hsame⟩ := X822.leave (v := some (.int (1 : Int32))) (fun h => by rw [Bd.returns] at h; cases h)
                  refine ⟨_, _, pre825 _ ?_, hrun, hended, _, _, rfl, ?_, ⟨_, rfl⟩, hW, hsame.mono (by decide) (by decide)⟩
                  · show Sp p e below m T822 43 #[.val (.ref aa), .val (.int (0 : Int32)), .val (.int (4 : Int32)), .val (.int (1 : Int32)), .val (.int (3 : Int32)), .val (.int cc3)] [(.int (57 : Int32)), (.int cc3)] _
                    refine XS.icmpNo X822.here hx rfl (hb hby d8_43) rfl (flt hc43_826).2.2.1 ?_
                    refine XS.iconst X822.here hx rfl (hb hby d8_46) ?_
                    show Sp p e below m T822 47 #[.val (.ref aa), .val (.int (0 : Int32)), .val (.int (4 : Int32)), .val (.int (1 : Int32)), .val (.int (3 : Int32)), .val (.int cc3)] [(.int (1 : Int32))] _
                    refine XS.goto X822.here hx rfl (pc0 := 47) (pc' := 51) rfl (hb hby d8_47) (by decide) (by decide) ?_
                    refine XS.istoreN X822.here hx rfl (hb hby d8_51) rfl (l' := #[.val (.ref aa), .val (.int (0 : Int32)), .val (.int (4 : Int32)), .val (.int (1 : Int32)), .val (.int (3 : Int32)), .val (.int cc3)]) rfl ?_
                    refine XS.iinc X822.here hx rfl (hb hby d8_52) rfl (l' := #[.val (.ref aa), .val (.int (0 : Int32)), .val (.int (4 : Int32)), .val (.int (1 : Int32)), .val (.int (4 : Int32)), .val (.int cc3)]) rfl ?_
                    refine XS.goto X822.here hx rfl (pc0 := 55) (pc' := 14) rfl (hb hby d8_55) (by decide) (by decide) ?_
                    refine XS.iloadN X822.here hx rfl (hb hby d8_14) rfl ?_
                    refine XS.ifNo X822.here hx rfl (hb hby d8_15) rfl ((if0 _ _).trans (feq (by decide : ¬ ((1 : Int32) = (0 : Int32)))).1) ?_
                    refine XS.iload X822.here hx rfl (hb hby d8_18) rfl ?_
                    refine XS.iloadN X822.here hx rfl (hb hby d8_20) rfl ?_
                    show Sp p e below m T822 21 #[.val (.ref aa), .val (.int (0 : Int32)), .val (.int (4 : Int32)), .val (.int (1 : Int32)), .val (.int (4 : Int32)), .val (.int cc3)] [(.int (4 : Int32)), (.int (4 : Int32))] _
                    refine XS.icmpYes X822.here hx rfl (pc0 := 21) (pc' := 58) rfl (hb hby d8_21) rfl (flt (by decide : ¬ ((4 : Int32) < (4 : Int32)))).2.1 (by decide) (by decide) ?_
                    refine XS.iloadN X822.here hx rfl (hb hby d8_58) rfl ?_
                    exact retN X822 hx (t := .boolean) Bd.returns (by simp) (hb hby d8_59) hr
                  · show Q8f0t4 Z aa cs vf ab kb cc0 cc1 cc2 cc3 h0 n0 _ T822.heap _
                    rw [e822]
                    exact ⟨(by simp [own_dg, hc36_809, hc43_811, hc36_814, hc43_816, hc36_819, hc43_821, hc36_824, hc43_826]), N822, rfl⟩
theorem ef_8f1t2 (m : MethodId) (x0 : Addr) : entryFrame m #[(.ref x0), (.int (1 : Int32)), (.int (2 : Int32))] 6 = mkF m 0 #[.val (.ref x0), .val (.int (1 : Int32)), .val (.int (2 : Int32)), .unset, .unset, .unset] [] := by first | (simp [entryFrame, mkF, argsToLocals, Value.category]; done) | rfl
def Q8f1t2 (Z : State) (aa : Addr) (cs : Int32) (vf : Value) (ab : Addr) (kb : ClassId) (cc0 : Int32) (cc1 : Int32) (cc2 : Int32) (cc3 : Int32) (h0 : Heap) (n0 : Nat) (v : Option Value) (h : Heap) (L : List Loc) : Prop := v = some (.int (own_dg cc1)) ∧ Fr n0 L ∧ h = h0
theorem rm8f1t2 (l : Launch) (Z : State) (a0 : Array Value) (hw : ∀ d ∈ tables_1, d.before a0 Z = true) (ws : List Jvm.Cond) (aa : Addr) (cs : Int32) (vf : Value) (ab : Addr) (kb : ClassId) (cc0 : Int32) (cc1 : Int32) (cc2 : Int32) (cc3 : Int32) (h0 : Heap) (n0 : Nat) (Z0 : n0 ≤ h0.size) (O0 : Old Z n0 h0) (Scs : Sta Z Z.heap "java/lang/String" "COMPACT_STRINGS" "Z" (.int cs)) (hcs : ¬ cs = (0 : Int32)) (Ssf : Sta Z Z.heap "jdk/internal/util/Preconditions" "SIOOBE_FORMATTER" "Ljava/util/function/BiFunction;" vf) (hvf : vf.isRef = true) (Sas : Sta Z Z.heap "java/lang/StringUTF16" "$assertionsDisabled" "Z" (.int (1 : Int32))) (Shs : Sta Z Z.heap "java/lang/StringUTF16" "HI_BYTE_SHIFT" "I" (.int (0 : Int32))) (Sls : Sta Z Z.heap "java/lang/StringUTF16" "LO_BYTE_SHIFT" "I" (.int (8 : Int32))) (Ea : Exa Z h0 aa "java/lang/String") (Fv : Fld Z h0 aa "java/lang/String" "value" "[B" (.ref ab)) (Hs : own_str Z h0 aa ab kb cc0 cc1 cc2 cc3) (hr0 : 0 ≤ cc0.toInt ∧ cc0.toInt ≤ 65535) (hr1 : 0 ≤ cc1.toInt ∧ cc1.toInt ≤ 65535) (hr2 : 0 ≤ cc2.toInt ∧ cc2.toInt ≤ 65535) (hr3 : 0 ≤ cc3.toInt ∧ cc3.toInt ≤ 65535) :
    MetFree l (⟨"com/example/vestwright/vestwright/PlainNumber", "isDigits", "(Ljava/lang/String;II)Z"⟩ : MethodName) (head1 (Jvm.Cond.code (⟨"com/example/vestwright/vestwright/PlainNumber", "isDigits", "(Ljava/lang/String;II)Z"⟩ : MethodName) prog_43_method_4_code 6 (some .boolean) :: ws) ({ frames := 5, cells := 0, slots := 0, locals := 66 } : Room)) (fun a U => a = #[(.ref aa), (.int (1 : Int32)), (.int (2 : Int32))] ∧ Z.Warmed39 U.vm ∧ U.heap = h0) (fun _ _ _ _ _ => True) (fun _ U o U' => ∃ v L, o = .returned v ∧ Q8f1t2 Z aa cs vf ab kb cc0 cc1 cc2 cc3 h0 n0 v U'.heap L ∧ FrameEnd U o U' L ({ frames := 5, cells := 0, slots := 0, locals := 66 } : Room).cells ({ frames := 5, cells := 0, slots := 0, locals := 66 } : Room).slots) := by
  refine MetFree.of_bodySF (plainFor_of_name own_pn257) hisR ?_
  intro p e s m args below meth c s₁ Bd hml0 hP hK
  have H := fun i c (h : tables_1[i]? = some c) => hw c (List.mem_of_getElem? h)
  obtain ⟨rfl, hZ, hh⟩ := hP
  have hx := Bd.exec
  have hby := Bd.bytes
  have hml : c.maxLocals = 6 := hml0
  have hown : s.vm.findClass "com/example/vestwright/vestwright/PlainNumber" = some m.cls := findClass_of_methodNamed Bd.named
  have hnm := (name_of_methodNamed Bd.named Bd.method).1
  have X0 : Stand p l e ({ frames := 5, cells := 0, slots := 0, locals := 66 } : Room) s m #[(.ref aa), (.int (1 : Int32)), (.int (2 : Int32))] below meth c s₁ [] 0 0 := Stand.of_body Bd
  have e0 : s₁.heap = h0 := by rw [← hh, Bd.state]; rfl
  have N0 := Fr.nil n0
  have pre0 : ∀ t, Sp p e below m s₁ 0 #[.val (.ref aa), .val (.int (1 : Int32)), .val (.int (2 : Int32)), .unset, .unset, .unset] [] t → Steps p.tables e below (s₁.setTop (entryFrame m #[(.ref aa), (.int (1 : Int32)), (.int (2 : Int32))] 6)) t := fun t k => castTop (ef_8f1t2 m aa) k
  generalize s₁.setTop (entryFrame m #[(.ref aa), (.int (1 : Int32)), (.int (2 : Int32))] 6) = G0 at pre0 ⊢
  obtain ⟨cq832, kq832, q832a, q832b, q832c⟩ := isOf hZ e0 Ea
  obtain ⟨_, _, ⟨T832, L832, k832, n832⟩, -, X832, ⟨Lc832, hQ832, l832, y832, z832⟩, st832⟩ := X0.virtualBack hx hown (mvT hZ (H 64 _ rfl)) (mvT hZ (H 65 _ rfl)) (notFace_of_selects (args := #[]) (mvT hZ (H 67 _ rfl))) (mvT hZ (H 67 _ rfl)) (mvT hZ (H 66 _ rfl)) (by decide) (backOf (W := 0) (rm16i1 l Z a0 hw [] aa cs vf ab kb cc0 cc1 cc2 cc3 h0 n0 Z0 O0 Scs hcs Ssf hvf Sas Shs Sls Ea Fv Hs hr0 hr1 hr2 hr3) hZ (H 68 _ rfl) (H 7 _ rfl) (by decide) (by decide)) q832a q832c (g := (mkF m 27 #[.val (.ref aa), .val (.int (1 : Int32)), .val (.int (2 : Int32)), .val (.int (1 : Int32)), .val (.int (1 : Int32)), .unset] [(.int (1 : Int32)), (.ref aa)])) rfl (by rw [hml]; rfl) (Steps.refl _) (argsL := [(.int (1 : Int32))]) (rest := []) (lenOf own_pd266 rfl) rfl (Nat.le_of_eq rfl) (hb hby d8_27) (fun _ _ => ⟨rfl, e0, (by decide : 0 + 0 ≤ _), (by decide : 0 + 0 ≤ _)⟩)
  dsimp only [Pt.U, Pt.locs, Pt.cells, Pt.slots] at X832 l832 y832 z832 st832 hQ832
  rw [l832, y832, z832] at X832
  obtain ⟨rfl, Nq832, e832⟩ := hQ832
  have N832 := Fr.app N0 Nq832
  have pre833 : ∀ t, Sp p e below m T832 36 #[.val (.ref aa), .val (.int (1 : Int32)), .val (.int (2 : Int32)), .val (.int (1 : Int32)), .val (.int (1 : Int32)), .val (.int cc1)] [(.int (48 : Int32)), (.int cc1)] t → SG p e below G0 t := by
    intro t k
    refine pre0 t ?_
    show Sp p e below m s₁ 0 #[.val (.ref aa), .val (.int (1 : Int32)), .val (.int (2 : Int32)), .unset, .unset, .unset] [] _
    refine XS.iloadN X0.here hx rfl (hb hby d8_0) rfl ?_
    refine XS.iloadN X0.here hx rfl (hb hby d8_1) rfl ?_
    refine XS.icmpNo X0.here hx rfl (hb hby d8_2) rfl (tlt (by decide : ((1 : Int32) < (2 : Int32)))).2.1 ?_
    refine XS.iconst X0.here hx rfl (hb hby d8_5) ?_
    refine XS.goto X0.here hx rfl (pc0 := 6) (pc' := 10) rfl (hb hby d8_6) (by decide) (by decide) ?_
    refine XS.istoreN X0.here hx rfl (hb hby d8_10) rfl (l' := #[.val (.ref aa), .val (.int (1 : Int32)), .val (.int (2 : Int32)), .val (.int (1 : Int32)), .unset, .unset]) rfl ?_
    refine XS.iloadN X0.here hx rfl (hb hby d8_11) rfl ?_
    refine XS.istore X0.here hx rfl (hb hby d8_12) rfl (l' := #[.val (.ref aa), .val (.int (1 : Int32)), .val (.int (2 : Int32)), .val (.int (1 : Int32)), .val (.int (1 : Int32)), .unset]) rfl ?_
    show Sp p e below m s₁ 14 #[.val (.ref aa), .val (.int (1 : Int32)), .val (.int (2 : Int32)), .val (.int (1 : Int32)), .val (.int (1 : Int32)), .unset] [] _
    refine XS.iloadN X0.here hx rfl (hb hby d8_14) rfl ?_
    refine XS.ifNo X0.here hx rfl (hb hby d8_15) rfl ((if0 _ _).trans (feq (by decide : ¬ ((1 : Int32) = (0 : Int32)))).1) ?_
    refine XS.iload X0.here hx rfl (hb hby d8_18) rfl ?_
    refine XS.iloadN X0.here hx rfl (hb hby d8_20) rfl ?_
    refine XS.icmpNo X0.here hx rfl (hb hby d8_21) rfl (tlt (by decide : ((1 : Int32) < (2 : Int32)))).2.1 ?_
    refine XS.aloadN X0.here hx rfl (hb hby d8_24) rfl rfl ?_
    refine XS.iload X0.here hx rfl (hb hby d8_25) rfl ?_
    refine st832.trans ?_
    show Sp p e below m T832 30 #[.val (.ref aa), .val (.int (1 : Int32)), .val (.int (2 : Int32)), .val (.int (1 : Int32)), .val (.int (1 : Int32)), .unset] [(.int cc1)] _
    refine XS.istore X832.here hx rfl (hb hby d8_30) rfl (l' := #[.val (.ref aa), .val (.int (1 : Int32)), .val (.int (2 : Int32)), .val (.int (1 : Int32)), .val (.int (1 : Int32)), .val (.int cc1)]) rfl ?_
    refine XS.iload X832.here hx rfl (hb hby d8_32) rfl ?_
    refine XS.bipush X832.here hx rfl (hb hby d8_34) ?_
    exact k
  by_cases hc36_834 : cc1 < (48 : Int32)
  · obtain ⟨fs, hr, hrun, hended, hW, hsame⟩ := X832.leave (v := some (.int (0 : Int32))) (fun h => by rw [Bd.returns] at h; cases h)
    refine ⟨_, _, pre833 _ ?_, hrun, hended, _, _, rfl, ?_, ⟨_, rfl⟩, hW, hsame.mono (by decide) (by decide)⟩
    · show Sp p e below m T832 36 #[.val (.ref aa), .val (.int (1 : Int32)), .val (.int (2 : Int32)), .val (.int (1 : Int32)), .val (.int (1 : Int32)), .val (.int cc1)] [(.int (48 : Int32)), (.int cc1)] _
      refine XS.icmpYes X832.here hx rfl (pc0 := 36) (pc' := 50) rfl (hb hby d8_36) rfl (tlt hc36_834).1 (by decide) (by decide) ?_
      refine XS.iconst X832.here hx rfl (hb hby d8_50) ?_
      refine XS.istoreN X832.here hx rfl (hb hby d8_51) rfl (l' := #[.val (.ref aa), .val (.int (1 : Int32)), .val (.int (2 : Int32)), .val (.int (0 : Int32)), .val (.int (1 : Int32)), .val (.int cc1)]) rfl ?_
      refine XS.iinc X832.here hx rfl (hb hby d8_52) rfl (l' := #[.val (.ref aa), .val (.int (1 : Int32)), .val (.int (2 : Int32)), .val (.int (0 : Int32)), .val (.int (2 : Int32)), .val (.int cc1)]) rfl ?_
      refine XS.goto X832.here hx rfl (pc0 := 55) (pc' := 14) rfl (hb hby d8_55) (by decide) (by decide) ?_
      show Sp p e below m T832 14 #[.val (.ref aa), .val (.int (1 : Int32)), .val (.int (2 : Int32)), .val (.int (0 : Int32)), .val (.int (2 : Int32)), .val (.int cc1)] [] _
      refine XS.iloadN X832.here hx rfl (hb hby d8_14) rfl ?_
      refine XS.ifYes X832.here hx rfl (pc0 := 15) (pc' := 58) rfl (hb hby d8_15) rfl ((if0 _ _).trans (teq (by decide : ((0 : Int32) = (0 : Int32)))).1) (by decide) (by decide) ?_
      refine XS.iloadN X832.here hx rfl (hb hby d8_58) rfl ?_
      exact retN X832 hx (t := .boolean) Bd.returns (by simp) (hb hby d8_59) hr
    · show Q8f1t2 Z aa cs vf ab kb cc0 cc1 cc2 cc3 h0 n0 _ T832.heap _
      rw [e832]
      exact ⟨(by simp [own_dg, hc36_834]), N832, rfl⟩
  · have pre835 : ∀ t, Sp p e below m T832 43 #[.val (.ref aa), .val (.int (1 : Int32)), .val (.int (2 : Int32)), .val (.int (1 : Int32)), .val (.int (1 : Int32)), .val (.int cc1)] [(.int (57 : Int32)), (.int cc1)] t → SG p e below G0 t := by
      intro t k
      refine pre833 t ?_
      show Sp p e below m T832 36 #[.val (.ref aa), .val (.int (1 : Int32)), .val (.int (2 : Int32)), .val (.int (1 : Int32)), .val (.int (1 : Int32)), .val (.int cc1)] [(.int (48 : Int32)), (.int cc1)] _
      refine XS.icmpNo X832.here hx rfl (hb hby d8_36) rfl (flt hc36_834).1 ?_
      refine XS.iload X832.here hx rfl (hb hby d8_39) rfl ?_
      refine XS.bipush X832.here hx rfl (hb hby d8_41) ?_
      exact k
    by_cases hc43_836 : (57 : Int32) < cc1
    · obtain ⟨fs, hr, hrun, hended, hW, hsame⟩ := X832.leave (v := some (.int (0 : Int32))) (fun h => by rw [Bd.returns] at h; cases h)
      refine ⟨_, _, pre835 _ ?_, hrun, hended, _, _, rfl, ?_, ⟨_, rfl⟩, hW, hsame.mono (by decide) (by decide)⟩
      · show Sp p e below m T832 43 #[.val (.ref aa), .val (.int (1 : Int32)), .val (.int (2 : Int32)), .val (.int (1 : Int32)), .val (.int (1 : Int32)), .val (.int cc1)] [(.int (57 : Int32)), (.int cc1)] _
        refine XS.icmpYes X832.here hx rfl (pc0 := 43) (pc' := 50) rfl (hb hby d8_43) rfl (tlt hc43_836).2.2.1 (by decide) (by decide) ?_
        refine XS.iconst X832.here hx rfl (hb hby d8_50) ?_
        show Sp p e below m T832 51 #[.val (.ref aa), .val (.int (1 : Int32)), .val (.int (2 : Int32)), .val (.int (1 : Int32)), .val (.int (1 : Int32)), .val (.int cc1)] [(.int (0 : Int32))] _
        refine XS.istoreN X832.here hx rfl (hb hby d8_51) rfl (l' := #[.val (.ref aa), .val (.int (1 : Int32)), .val (.int (2 : Int32)), .val (.int (0 : Int32)), .val (.int (1 : Int32)), .val (.int cc1)]) rfl ?_
        refine XS.iinc X832.here hx rfl (hb hby d8_52) rfl (l' := #[.val (.ref aa), .val (.int (1 : Int32)), .val (.int (2 : Int32)), .val (.int (0 : Int32)), .val (.int (2 : Int32)), .val (.int cc1)]) rfl ?_
        refine XS.goto X832.here hx rfl (pc0 := 55) (pc' := 14) rfl (hb hby d8_55) (by decide) (by decide) ?_
        refine XS.iloadN X832.here hx rfl (hb hby d8_14) rfl ?_
        refine XS.ifYes X832.here hx rfl (pc0 := 15) (pc' := 58) rfl (hb hby d8_15) rfl ((if0 _ _).trans (teq (by decide : ((0 : Int32) = (0 : Int32)))).1) (by decide) (by decide) ?_
        refine XS.iloadN X832.here hx rfl (hb hby d8_58) rfl ?_
        exact retN X832 hx (t := .boolean) Bd.returns (by simp) (hb hby d8_59) hr
      · show Q8f1t2 Z aa cs vf ab kb cc0 cc1 cc2 cc3 h0 n0 _ T832.heap _
        rw [e832]
        exact ⟨(by simp [own_dg, hc36_834, hc43_836]), N832, rfl⟩
    · obtain ⟨fs, hr, hrun, hended, hW, hsame⟩ := X832.leave (v := some (.int (1 : Int32))) (fun h => by rw [Bd.returns] at h; cases h)
      refine ⟨_, _, pre835 _ ?_, hrun, hended, _, _, rfl, ?_, ⟨_, rfl⟩, hW, hsame.mono (by decide) (by decide)⟩
      · show Sp p e below m T832 43 #[.val (.ref aa), .val (.int (1 : Int32)), .val (.int (2 : Int32)), .val (.int (1 : Int32)), .val (.int (1 : Int32)), .val (.int cc1)] [(.int (57 : Int32)), (.int cc1)] _
        refine XS.icmpNo X832.here hx rfl (hb hby d8_43) rfl (flt hc43_836).2.2.1 ?_
        refine XS.iconst X832.here hx rfl (hb hby d8_46) ?_
        show Sp p e below m T832 47 #[.val (.ref aa), .val (.int (1 : Int32)), .val (.int (2 : Int32)), .val (.int (1 : Int32)), .val (.int (1 : Int32)), .val (.int cc1)] [(.int (1 : Int32))] _
        refine XS.goto X832.here hx rfl (pc0 := 47) (pc' := 51) rfl (hb hby d8_47) (by decide) (by decide) ?_
        refine XS.istoreN X832.here hx rfl (hb hby d8_51) rfl (l' := #[.val (.ref aa), .val (.int (1 : Int32)), .val (.int (2 : Int32)), .val (.int (1 : Int32)), .val (.int (1 : Int32)), .val (.int cc1)]) rfl ?_
        refine XS.iinc X832.here hx rfl (hb hby d8_52) rfl (l' := #[.val (.ref aa), .val (.int (1 : Int32)), .val (.int (2 : Int32)), .val (.int (1 : Int32)), .val (.int (2 : Int32)), .val (.int cc1)]) rfl ?_
        refine XS.goto X832.here hx rfl (pc0 := 55) (pc' := 14) rfl (hb hby d8_55) (by decide) (by decide) ?_
        refine XS.iloadN X832.here hx rfl (hb hby d8_14) rfl ?_
        refine XS.ifNo X832.here hx rfl (hb hby d8_15) rfl ((if0 _ _).trans (feq (by decide : ¬ ((1 : Int32) = (0 : Int32)))).1) ?_
        refine XS.iload X832.here hx rfl (hb hby d8_18) rfl ?_
        refine XS.iloadN X832.here hx rfl (hb hby d8_20) rfl ?_
        show Sp p e below m T832 21 #[.val (.ref aa), .val (.int (1 : Int32)), .val (.int (2 : Int32)), .val (.int (1 : Int32)), .val (.int (2 : Int32)), .val (.int cc1)] [(.int (2 : Int32)), (.int (2 : Int32))] _
        refine XS.icmpYes X832.here hx rfl (pc0 := 21) (pc' := 58) rfl (hb hby d8_21) rfl (flt (by decide : ¬ ((2 : Int32) < (2 : Int32)))).2.1 (by decide) (by decide) ?_
        refine XS.iloadN X832.here hx rfl (hb hby d8_58) rfl ?_
        exact retN X832 hx (t := .boolean) Bd.returns (by simp) (hb hby d8_59) hr
      · show Q8f1t2 Z aa cs vf ab kb cc0 cc1 cc2 cc3 h0 n0 _ T832.heap _
        rw [e832]
        exact ⟨(by simp [own_dg, hc36_834, hc43_836]), N832, rfl⟩
theorem ef_8f1t3 (m : MethodId) (x0 : Addr) : entryFrame m #[(.ref x0), (.int (1 : Int32)), (.int (3 : Int32))] 6 = mkF m 0 #[.val (.ref x0), .val (.int (1 : Int32)), .val (.int (3 : Int32)), .unset, .unset, .unset] [] := by first | (simp [entryFrame, mkF, argsToLocals, Value.category]; done) | rfl
def Q8f1t3 (Z : State) (aa : Addr) (cs : Int32) (vf : Value) (ab : Addr) (kb : ClassId) (cc0 : Int32) (cc1 : Int32) (cc2 : Int32) (cc3 : Int32) (h0 : Heap) (n0 : Nat) (v : Option Value) (h : Heap) (L : List Loc) : Prop := v = some (.int (if own_dg cc1 = 0 then (0 : Int32) else (own_dg cc2))) ∧ Fr n0 L ∧ h = h0
theorem rm8f1t3 (l : Launch) (Z : State) (a0 : Array Value) (hw : ∀ d ∈ tables_1, d.before a0 Z = true) (ws : List Jvm.Cond) (aa : Addr) (cs : Int32) (vf : Value) (ab : Addr) (kb : ClassId) (cc0 : Int32) (cc1 : Int32) (cc2 : Int32) (cc3 : Int32) (h0 : Heap) (n0 : Nat) (Z0 : n0 ≤ h0.size) (O0 : Old Z n0 h0) (Scs : Sta Z Z.heap "java/lang/String" "COMPACT_STRINGS" "Z" (.int cs)) (hcs : ¬ cs = (0 : Int32)) (Ssf : Sta Z Z.heap "jdk/internal/util/Preconditions" "SIOOBE_FORMATTER" "Ljava/util/function/BiFunction;" vf) (hvf : vf.isRef = true) (Sas : Sta Z Z.heap "java/lang/StringUTF16" "$assertionsDisabled" "Z" (.int (1 : Int32))) (Shs : Sta Z Z.heap "java/lang/StringUTF16" "HI_BYTE_SHIFT" "I" (.int (0 : Int32))) (Sls : Sta Z Z.heap "java/lang/StringUTF16" "LO_BYTE_SHIFT" "I" (.int (8 : Int32))) (Ea : Exa Z h0 aa "java/lang/String") (Fv : Fld Z h0 aa "java/lang/String" "value" "[B" (.ref ab)) (Hs : own_str Z h0 aa ab kb cc0 cc1 cc2 cc3) (hr0 : 0 ≤ cc0.toInt ∧ cc0.toInt ≤ 65535) (hr1 : 0 ≤ cc1.toInt ∧ cc1.toInt ≤ 65535) (hr2 : 0 ≤ cc2.toInt ∧ cc2.toInt ≤ 65535) (hr3 : 0 ≤ cc3.toInt ∧ cc3.toInt ≤ 65535) :
    MetFree l (⟨"com/example/vestwright/vestwright/PlainNumber", "isDigits", "(Ljava/lang/String;II)Z"⟩ : MethodName) (head1 (Jvm.Cond.code (⟨"com/example/vestwright/vestwright/PlainNumber", "isDigits", "(Ljava/lang/String;II)Z"⟩ : MethodName) prog_43_method_4_code 6 (some .boolean) :: ws) ({ frames := 5, cells := 0, slots := 0, locals := 66 } : Room)) (fun a U => a = #[(.ref aa), (.int (1 : Int32)), (.int (3 : Int32))] ∧ Z.Warmed39 U.vm ∧ U.heap = h0) (fun _ _ _ _ _ => True) (fun _ U o U' => ∃ v L, o = .returned v ∧ Q8f1t3 Z aa cs vf ab kb cc0 cc1 cc2 cc3 h0 n0 v U'.heap L ∧ FrameEnd U o U' L ({ frames := 5, cells := 0, slots := 0, locals := 66 } : Room).cells ({ frames := 5, cells := 0, slots := 0, locals := 66 } : Room).slots) := by
  refine MetFree.of_bodySF (plainFor_of_name own_pn257) hisR ?_
  intro p e s m args below meth c s₁ Bd hml0 hP hK
  have H := fun i c (h : tables_1[i]? = some c) => hw c (List.mem_of_getElem? h)
  obtain ⟨rfl, hZ, hh⟩ := hP
  have hx := Bd.exec
  have hby := Bd.bytes
  have hml : c.maxLocals = 6 := hml0
  have hown : s.vm.findClass "com/example/vestwright/vestwright/PlainNumber" = some m.cls := findClass_of_methodNamed Bd.named
  have hnm := (name_of_methodNamed Bd.named Bd.method).1
  have X0 : Stand p l e ({ frames := 5, cells := 0, slots := 0, locals := 66 } : Room) s m #[(.ref aa), (.int (1 : Int32)), (.int (3 : Int32))] below meth c s₁ [] 0 0 := Stand.of_body Bd
  have e0 : s₁.heap = h0 := by rw [← hh, Bd.state]; rfl
  have N0 := Fr.nil n0
  have pre0 : ∀ t, Sp p e below m s₁ 0 #[.val (.ref aa), .val (.int (1 : Int32)), .val (.int (3 : Int32)), .unset, .unset, .unset] [] t → Steps p.tables e below (s₁.setTop (entryFrame m #[(.ref aa), (.int (1 : Int32)), (.int (3 : Int32))] 6)) t := fun t k => castTop (ef_8f1t3 m aa) k
  generalize s₁.setTop (entryFrame m #[(.ref aa), (.int (1 : Int32)), (.int (3 : Int32))] 6) = G0 at pre0 ⊢
  obtain ⟨cq847, kq847, q847a, q847b, q847c⟩ := isOf hZ e0 Ea
  obtain ⟨_, _, ⟨T847, L847, k847, n847⟩, -, X847, ⟨Lc847, hQ847, l847, y847, z847⟩, st847⟩ := X0.virtualBack hx hown (mvT hZ (H 64 _ rfl)) (mvT hZ (H 65 _ rfl)) (notFace_of_selects (args := #[]) (mvT hZ (H 67 _ rfl))) (mvT hZ (H 67 _ rfl)) (mvT hZ (H 66 _ rfl)) (by decide) (backOf (W := 0) (rm16i1 l Z a0 hw [] aa cs vf ab kb cc0 cc1 cc2 cc3 h0 n0 Z0 O0 Scs hcs Ssf hvf Sas Shs Sls Ea Fv Hs hr0 hr1 hr2 hr3) hZ (H 68 _ rfl) (H 7 _ rfl) (by decide) (by decide)) q847a q847c (g := (mkF m 27 #[.val (.ref aa), .val (.int (1 : Int32)), .val (.int (3 : Int32)), .val (.int (1 : Int32)), .val (.int (1 : Int32)), .unset] [(.int (1 : Int32)), (.ref aa)])) rfl (by rw [hml]; rfl) (Steps.refl _) (argsL := [(.int (1 : Int32))]) (rest := []) (lenOf own_pd266 rfl) rfl (Nat.le_of_eq rfl) (hb hby d8_27) (fun _ _ => ⟨rfl, e0, (by decide : 0 + 0 ≤ _), (by decide : 0 + 0 ≤ _)⟩)
  dsimp only [Pt.U, Pt.locs, Pt.cells, Pt.slots] at X847 l847 y847 z847 st847 hQ847
  rw [l847, y847, z847] at X847
  obtain ⟨rfl, Nq847, e847⟩ := hQ847
  have N847 := Fr.app N0 Nq847
  have pre848 : ∀ t, Sp p e below m T847 36 #[.val (.ref aa), .val (.int (1 : Int32)), .val (.int (3 : Int32)), .val (.int (1 : Int32)), .val (.int (1 : Int32)), .val (.int cc1)] [(.int (48 : Int32)), (.int cc1)] t → SG p e below G0 t := by
    intro t k
    refine pre0 t ?_
    show Sp p e below m s₁ 0 #[.val (.ref aa), .val (.int (1 : Int32)), .val (.int (3 : Int32)), .unset, .unset, .unset] [] _
    refine XS.iloadN X0.here hx rfl (hb hby d8_0) rfl ?_
    refine XS.iloadN X0.here hx rfl (hb hby d8_1) rfl ?_
    refine XS.icmpNo X0.here hx rfl (hb hby d8_2) rfl (tlt (by decide : ((1 : Int32) < (3 : Int32)))).2.1 ?_
    refine XS.iconst X0.here hx rfl (hb hby d8_5) ?_
    refine XS.goto X0.here hx rfl (pc0 := 6) (pc' := 10) rfl (hb hby d8_6) (by decide) (by decide) ?_
    refine XS.istoreN X0.here hx rfl (hb hby d8_10) rfl (l' := #[.val (.ref aa), .val (.int (1 : Int32)), .val (.int (3 : Int32)), .val (.int (1 : Int32)), .unset, .unset]) rfl ?_
    refine XS.iloadN X0.here hx rfl (hb hby d8_11) rfl ?_
    refine XS.istore X0.here hx rfl (hb hby d8_12) rfl (l' := #[.val (.ref aa), .val (.int (1 : Int32)), .val (.int (3 : Int32)), .val (.int (1 : Int32)), .val (.int (1 : Int32)), .unset]) rfl ?_
    show Sp p e below m s₁ 14 #[.val (.ref aa), .val (.int (1 : Int32)), .val (.int (3 : Int32)), .val (.int (1 : Int32)), .val (.int (1 : Int32)), .unset] [] _
    refine XS.iloadN X0.here hx rfl (hb hby d8_14) rfl ?_
    refine XS.ifNo X0.here hx rfl (hb hby d8_15) rfl ((if0 _ _).trans (feq (by decide : ¬ ((1 : Int32) = (0 : Int32)))).1) ?_
    refine XS.iload X0.here hx rfl (hb hby d8_18) rfl ?_
    refine XS.iloadN X0.here hx rfl (hb hby d8_20) rfl ?_
    refine XS.icmpNo X0.here hx rfl (hb hby d8_21) rfl (tlt (by decide : ((1 : Int32) < (3 : Int32)))).2.1 ?_
    refine XS.aloadN X0.here hx rfl (hb hby d8_24) rfl rfl ?_
    refine XS.iload X0.here hx rfl (hb hby d8_25) rfl ?_
    refine st847.trans ?_
    show Sp p e below m T847 30 #[.val (.ref aa), .val (.int (1 : Int32)), .val (.int (3 : Int32)), .val (.int (1 : Int32)), .val (.int (1 : Int32)), .unset] [(.int cc1)] _
    refine XS.istore X847.here hx rfl (hb hby d8_30) rfl (l' := #[.val (.ref aa), .val (.int (1 : Int32)), .val (.int (3 : Int32)), .val (.int (1 : Int32)), .val (.int (1 : Int32)), .val (.int cc1)]) rfl ?_
    refine XS.iload X847.here hx rfl (hb hby d8_32) rfl ?_
    refine XS.bipush X847.here hx rfl (hb hby d8_34) ?_
    exact k
  by_cases hc36_849 : cc1 < (48 : Int32)
  · obtain ⟨fs, hr, hrun, hended, hW, hsame⟩ := X847.leave (v := some (.int (0 : Int32))) (fun h => by rw [Bd.returns] at h; cases h)
    refine ⟨_, _, pre848 _ ?_, hrun, hended, _, _, rfl, ?_, ⟨_, rfl⟩, hW, hsame.mono (by decide) (by decide)⟩
    · show Sp p e below m T847 36 #[.val (.ref aa), .val (.int (1 : Int32)), .val (.int (3 : Int32)), .val (.int (1 : Int32)), .val (.int (1 : Int32)), .val (.int cc1)] [(.int (48 : Int32)), (.int cc1)] _
      refine XS.icmpYes X847.here hx rfl (pc0 := 36) (pc' := 50) rfl (hb hby d8_36) rfl (tlt hc36_849).1 (by decide) (by decide) ?_
      refine XS.iconst X847.here hx rfl (hb hby d8_50) ?_
      refine XS.istoreN X847.here hx rfl (hb hby d8_51) rfl (l' := #[.val (.ref aa), .val (.int (1 : Int32)), .val (.int (3 : Int32)), .val (.int (0 : Int32)), .val (.int (1 : Int32)), .val (.int cc1)]) rfl ?_
      refine XS.iinc X847.here hx rfl (hb hby d8_52) rfl (l' := #[.val (.ref aa), .val (.int (1 : Int32)), .val (.int (3 : Int32)), .val (.int (0 : Int32)), .val (.int (2 : Int32)), .val (.int cc1)]) rfl ?_
      refine XS.goto X847.here hx rfl (pc0 := 55) (pc' := 14) rfl (hb hby d8_55) (by decide) (by decide) ?_
      show Sp p e below m T847 14 #[.val (.ref aa), .val (.int (1 : Int32)), .val (.int (3 : Int32)), .val (.int (0 : Int32)), .val (.int (2 : Int32)), .val (.int cc1)] [] _
      refine XS.iloadN X847.here hx rfl (hb hby d8_14) rfl ?_
      refine XS.ifYes X847.here hx rfl (pc0 := 15) (pc' := 58) rfl (hb hby d8_15) rfl ((if0 _ _).trans (teq (by decide : ((0 : Int32) = (0 : Int32)))).1) (by decide) (by decide) ?_
      refine XS.iloadN X847.here hx rfl (hb hby d8_58) rfl ?_
      exact retN X847 hx (t := .boolean) Bd.returns (by simp) (hb hby d8_59) hr
    · show Q8f1t3 Z aa cs vf ab kb cc0 cc1 cc2 cc3 h0 n0 _ T847.heap _
      rw [e847]
      exact ⟨(by simp [own_dg, hc36_849]), N847, rfl⟩
  · have pre850 : ∀ t, Sp p e below m T847 43 #[.val (.ref aa), .val (.int (1 : Int32)), .val (.int (3 : Int32)), .val (.int (1 : Int32)), .val (.int (1 : Int32)), .val (.int cc1)] [(.int (57 : Int32)), (.int cc1)] t → SG p e below G0 t := by
      intro t k
      refine pre848 t ?_
      show Sp p e below m T847 36 #[.val (.ref aa), .val (.int (1 : Int32)), .val (.int (3 : Int32)), .val (.int (1 : Int32)), .val (.int (1 : Int32)), .val (.int cc1)] [(.int (48 : Int32)), (.int cc1)] _
      refine XS.icmpNo X847.here hx rfl (hb hby d8_36) rfl (flt hc36_849).1 ?_
      refine XS.iload X847.here hx rfl (hb hby d8_39) rfl ?_
      refine XS.bipush X847.here hx rfl (hb hby d8_41) ?_
      exact k
    by_cases hc43_851 : (57 : Int32) < cc1
    · obtain ⟨fs, hr, hrun, hended, hW, hsame⟩ := X847.leave (v := some (.int (0 : Int32))) (fun h => by rw [Bd.returns] at h; cases h)
      refine ⟨_, _, pre850 _ ?_, hrun, hended, _, _, rfl, ?_, ⟨_, rfl⟩, hW, hsame.mono (by decide) (by decide)⟩
      · show Sp p e below m T847 43 #[.val (.ref aa), .val (.int (1 : Int32)), .val (.int (3 : Int32)), .val (.int (1 : Int32)), .val (.int (1 : Int32)), .val (.int cc1)] [(.int (57 : Int32)), (.int cc1)] _
        refine XS.icmpYes X847.here hx rfl (pc0 := 43) (pc' := 50) rfl (hb hby d8_43) rfl (tlt hc43_851).2.2.1 (by decide) (by decide) ?_
        refine XS.iconst X847.here hx rfl (hb hby d8_50) ?_
        show Sp p e below m T847 51 #[.val (.ref aa), .val (.int (1 : Int32)), .val (.int (3 : Int32)), .val (.int (1 : Int32)), .val (.int (1 : Int32)), .val (.int cc1)] [(.int (0 : Int32))] _
        refine XS.istoreN X847.here hx rfl (hb hby d8_51) rfl (l' := #[.val (.ref aa), .val (.int (1 : Int32)), .val (.int (3 : Int32)), .val (.int (0 : Int32)), .val (.int (1 : Int32)), .val (.int cc1)]) rfl ?_
        refine XS.iinc X847.here hx rfl (hb hby d8_52) rfl (l' := #[.val (.ref aa), .val (.int (1 : Int32)), .val (.int (3 : Int32)), .val (.int (0 : Int32)), .val (.int (2 : Int32)), .val (.int cc1)]) rfl ?_
        refine XS.goto X847.here hx rfl (pc0 := 55) (pc' := 14) rfl (hb hby d8_55) (by decide) (by decide) ?_
        refine XS.iloadN X847.here hx rfl (hb hby d8_14) rfl ?_
        refine XS.ifYes X847.here hx rfl (pc0 := 15) (pc' := 58) rfl (hb hby d8_15) rfl ((if0 _ _).trans (teq (by decide : ((0 : Int32) = (0 : Int32)))).1) (by decide) (by decide) ?_
        refine XS.iloadN X847.here hx rfl (hb hby d8_58) rfl ?_
        exact retN X847 hx (t := .boolean) Bd.returns (by simp) (hb hby d8_59) hr
      · show Q8f1t3 Z aa cs vf ab kb cc0 cc1 cc2 cc3 h0 n0 _ T847.heap _
        rw [e847]
        exact ⟨(by simp [own_dg, hc36_849, hc43_851]), N847, rfl⟩
    · obtain ⟨cq852, kq852, q852a, q852b, q852c⟩ := isOf hZ e847 Ea
      obtain ⟨_, _, ⟨T852, L852, k852, n852⟩, -, X852, ⟨Lc852, hQ852, l852, y852, z852⟩, st852⟩ := X847.virtualBack hx hown (mvT hZ (H 64 _ rfl)) (mvT hZ (H 65 _ rfl)) (notFace_of_selects (args := #[]) (mvT hZ (H 67 _ rfl))) (mvT hZ (H 67 _ rfl)) (mvT hZ (H 66 _ rfl)) (by decide) (backOf (W := 0) (rm16i2 l Z a0 hw [] aa cs vf ab kb cc0 cc1 cc2 cc3 h0 n0 Z0 O0 Scs hcs Ssf hvf Sas Shs Sls Ea Fv Hs hr0 hr1 hr2 hr3) hZ (H 68 _ rfl) (H 7 _ rfl) (by decide) (by decide)) q852a q852c (g := (mkF m 27 #[.val (.ref aa), .val (.int (1 : Int32)), .val (.int (3 : Int32)), .val (.int (1 : Int32)), .val (.int (2 : Int32)), .val (.int cc1)] [(.int (2 : Int32)), (.ref aa)])) rfl (by rw [hml]; rfl) (Steps.refl _) (argsL := [(.int (2 : Int32))]) (rest := []) (lenOf own_pd266 rfl) rfl (Nat.le_of_eq rfl) (hb hby d8_27) (fun _ _ => ⟨rfl, e847, (by decide : 0 + 0 ≤ _), (by decide : 0 + 0 ≤ _)⟩)
      dsimp only [Pt.U, Pt.locs, Pt.cells, Pt.slots] at X852 l852 y852 z852 st852 hQ852
      rw [l852, y852, z852] at X852
      obtain ⟨rfl, Nq852, e852⟩ := hQ852
      have N852 := Fr.app N847 Nq852
      have pre853 : ∀ t, Sp p e below m T852 36 #[.val (.ref aa), .val (.int (1 : Int32)), .val (.int (3 : Int32)), .val (.int (1 : Int32)), .val (.int (2 : Int32)), .val (.int cc2)] [(.int (48 : Int32)), (.int cc2)] t → SG p e below G0 t := by
        intro t k
        refine pre850 t ?_
        show Sp p e below m T847 43 #[.val (.ref aa), .val (.int (1 : Int32)), .val (.int (3 : Int32)), .val (.int (1 : Int32)), .val (.int (1 : Int32)), .val (.int cc1)] [(.int (57 : Int32)), (.int cc1)] _
        refine XS.icmpNo X847.here hx rfl (hb hby d8_43) rfl (flt hc43_851).2.2.1 ?_
        refine XS.iconst X847.here hx rfl (hb hby d8_46) ?_
        show Sp p e below m T847 47 #[.val (.ref aa), .val (.int (1 : Int32)), .val (.int (3 : Int32)), .val (.int (1 : Int32)), .val (.int (1 : Int32)), .val (.int cc1)] [(.int (1 : Int32))] _
        refine XS.goto X847.here hx rfl (pc0 := 47) (pc' := 51) rfl (hb hby d8_47) (by decide) (by decide) ?_
        refine XS.istoreN X847.here hx rfl (hb hby d8_51) rfl (l' := #[.val (.ref aa), .val (.int (1 : Int32)), .val (.int (3 : Int32)), .val (.int (1 : Int32)), .val (.int (1 : Int32)), .val (.int cc1)]) rfl ?_
        refine XS.iinc X847.here hx rfl (hb hby d8_52) rfl (l' := #[.val (.ref aa), .val (.int (1 : Int32)), .val (.int (3 : Int32)), .val (.int (1 : Int32)), .val (.int (2 : Int32)), .val (.int cc1)]) rfl ?_
        refine XS.goto X847.here hx rfl (pc0 := 55) (pc' := 14) rfl (hb hby d8_55) (by decide) (by decide) ?_
        refine XS.iloadN X847.here hx rfl (hb hby d8_14) rfl ?_
        refine XS.ifNo X847.here hx rfl (hb hby d8_15) rfl ((if0 _ _).trans (feq (by decide : ¬ ((1 : Int32) = (0 : Int32)))).1) ?_
        refine XS.iload X847.here hx rfl (hb hby d8_18) rfl ?_
        refine XS.iloadN X847.here hx rfl (hb hby d8_20) rfl ?_
        show Sp p e below m T847 21 #[.val (.ref aa), .val (.int (1 : Int32)), .val (.int (3 : Int32)), .val (.int (1 : Int32)), .val (.int (2 : Int32)), .val (.int cc1)] [(.int (3 : Int32)), (.int (2 : Int32))] _
        refine XS.icmpNo X847.here hx rfl (hb hby d8_21) rfl (tlt (by decide : ((2 : Int32) < (3 : Int32)))).2.1 ?_
        refine XS.aloadN X847.here hx rfl (hb hby d8_24) rfl rfl ?_
        refine XS.iload X847.here hx rfl (hb hby d8_25) rfl ?_
        refine st852.trans ?_
        show Sp p e below m T852 30 #[.val (.ref aa), .val (.int (1 : Int32)), .val (.int (3 : Int32)), .val (.int (1 : Int32)), .val (.int (2 : Int32)), .val (.int cc1)] [(.int cc2)] _
        refine XS.istore X852.here hx rfl (hb hby d8_30) rfl (l' := #[.val (.ref aa), .val (.int (1 : Int32)), .val (.int (3 : Int32)), .val (.int (1 : Int32)), .val (.int (2 : Int32)), .val (.int cc2)]) rfl ?_
        refine XS.iload X852.here hx rfl (hb hby d8_32) rfl ?_
        refine XS.bipush X852.here hx rfl (hb hby d8_34) ?_
        exact k
      by_cases hc36_854 : cc2 < (48 : Int32)
      · obtain ⟨fs, hr, hrun, hended, hW, hsame⟩ := X852.leave (v := some (.int (0 : Int32))) (fun h => by rw [Bd.returns] at h; cases h)
        refine ⟨_, _, pre853 _ ?_, hrun, hended, _, _, rfl, ?_, ⟨_, rfl⟩, hW, hsame.mono (by decide) (by decide)⟩
        · show Sp p e below m T852 36 #[.val (.ref aa), .val (.int (1 : Int32)), .val (.int (3 : Int32)), .val (.int (1 : Int32)), .val (.int (2 : Int32)), .val (.int cc2)] [(.int (48 : Int32)), (.int cc2)] _
          refine XS.icmpYes X852.here hx rfl (pc0 := 36) (pc' := 50) rfl (hb hby d8_36) rfl (tlt hc36_854).1 (by decide) (by decide) ?_
          refine XS.iconst X852.here hx rfl (hb hby d8_50) ?_
          refine XS.istoreN X852.here hx rfl (hb hby d8_51) rfl (l' := #[.val (.ref aa), .val (.int (1 : Int32)), .val (.int (3 : Int32)), .val (.int (0 : Int32)), .val (.int (2 : Int32)), .val (.int cc2)]) rfl ?_
          refine XS.iinc X852.here hx rfl (hb hby d8_52) rfl (l' := #[.val (.ref aa), .val (.int (1 : Int32)), .val (.int (3 : Int32)), .val (.int (0 : Int32)), .val (.int (3 : Int32)), .val (.int cc2)]) rfl ?_
          refine XS.goto X852.here hx rfl (pc0 := 55) (pc' := 14) rfl (hb hby d8_55) (by decide) (by decide) ?_
          show Sp p e below m T852 14 #[.val (.ref aa), .val (.int (1 : Int32)), .val (.int (3 : Int32)), .val (.int (0 : Int32)), .val (.int (3 : Int32)), .val (.int cc2)] [] _
          refine XS.iloadN X852.here hx rfl (hb hby d8_14) rfl ?_
          refine XS.ifYes X852.here hx rfl (pc0 := 15) (pc' := 58) rfl (hb hby d8_15) rfl ((if0 _ _).trans (teq (by decide : ((0 : Int32) = (0 : Int32)))).1) (by decide) (by decide) ?_
          refine XS.iloadN X852.here hx rfl (hb hby d8_58) rfl ?_
          exact retN X852 hx (t := .boolean) Bd.returns (by simp) (hb hby d8_59) hr
        · show Q8f1t3 Z aa cs vf ab kb cc0 cc1 cc2 cc3 h0 n0 _ T852.heap _
          rw [e852]
          exact ⟨(by simp [own_dg, hc36_849, hc43_851, hc36_854]), N852, rfl⟩
      · have pre855 : ∀ t, Sp p e below m T852 43 #[.val (.ref aa), .val (.int (1 : Int32)), .val (.int (3 : Int32)), .val (.int (1 : Int32)), .val (.int (2 : Int32)), .val (.int cc2)] [(.int (57 : Int32)), (.int cc2)] t → SG p e below G0 t := by
          intro t k
          refine pre853 t ?_
          show Sp p e below m T852 36 #[.val (.ref aa), .val (.int (1 : Int32)), .val (.int (3 : Int32)), .val (.int (1 : Int32)), .val (.int (2 : Int32)), .val (.int cc2)] [(.int (48 : Int32)), (.int cc2)] _
          refine XS.icmpNo X852.here hx rfl (hb hby d8_36) rfl (flt hc36_854).1 ?_
          refine XS.iload X852.here hx rfl (hb hby d8_39) rfl ?_
          refine XS.bipush X852.here hx rfl (hb hby d8_41) ?_
          exact k
        by_cases hc43_856 : (57 : Int32) < cc2
        · obtain ⟨fs, hr, hrun, hended, hW, hsame⟩ := X852.leave (v := some (.int (0 : Int32))) (fun h => by rw [Bd.returns] at h; cases h)
          refine ⟨_, _, pre855 _ ?_, hrun, hended, _, _, rfl, ?_, ⟨_, rfl⟩, hW, hsame.mono (by decide) (by decide)⟩
          · show Sp p e below m T852 43 #[.val (.ref aa), .val (.int (1 : Int32)), .val (.int (3 : Int32)), .val (.int (1 : Int32)), .val (.int (2 : Int32)), .val (.int cc2)] [(.int (57 : Int32)), (.int cc2)] _
            refine XS.icmpYes X852.here hx rfl (pc0 := 43) (pc' := 50) rfl (hb hby d8_43) rfl (tlt hc43_856).2.2.1 (by decide) (by decide) ?_
            refine XS.iconst X852.here hx rfl (hb hby d8_50) ?_
            show Sp p e below m T852 51 #[.val (.ref aa), .val (.int (1 : Int32)), .val (.int (3 : Int32)), .val (.int (1 : Int32)), .val (.int (2 : Int32)), .val (.int cc2)] [(.int (0 : Int32))] _
            refine XS.istoreN X852.here hx rfl (hb hby d8_51) rfl (l' := #[.val (.ref aa), .val (.int (1 : Int32)), .val (.int (3 : Int32)), .val (.int (0 : Int32)), .val (.int (2 : Int32)), .val (.int cc2)]) rfl ?_
            refine XS.iinc X852.here hx rfl (hb hby d8_52) rfl (l' := #[.val (.ref aa), .val (.int (1 : Int32)), .val (.int (3 : Int32)), .val (.int (0 : Int32)), .val (.int (3 : Int32)), .val (.int cc2)]) rfl ?_
            refine XS.goto X852.here hx rfl (pc0 := 55) (pc' := 14) rfl (hb hby d8_55) (by decide) (by decide) ?_
            refine XS.iloadN X852.here hx rfl (hb hby d8_14) rfl ?_
            refine XS.ifYes X852.here hx rfl (pc0 := 15) (pc' := 58) rfl (hb hby d8_15) rfl ((if0 _ _).trans (teq (by decide : ((0 : Int32) = (0 : Int32)))).1) (by decide) (by decide) ?_
            refine XS.iloadN X852.here hx rfl (hb hby d8_58) rfl ?_
            exact retN X852 hx (t := .boolean) Bd.returns (by simp) (hb hby d8_59) hr
          · show Q8f1t3 Z aa cs vf ab kb cc0 cc1 cc2 cc3 h0 n0 _ T852.heap _
            rw [e852]
            exact ⟨(by simp [own_dg, hc36_849, hc43_851, hc36_854, hc43_856]), N852, rfl⟩
        · obtain ⟨fs, hr, hrun, hended, hW, hsame⟩ := X852.leave (v := some (.int (1 : Int32))) (fun h => by rw [Bd.returns] at h; cases h)
          refine ⟨_, _, pre855 _ ?_, hrun, hended, _, _, rfl, ?_, ⟨_, rfl⟩, hW, hsame.mono (by decide) (by decide)⟩
          · show Sp p e below m T852 43 #[.val (.ref aa), .val (.int (1 : Int32)), .val (.int (3 : Int32)), .val (.int (1 : Int32)), .val (.int (2 : Int32)), .val (.int cc2)] [(.int (57 : Int32)), (.int cc2)] _
            refine XS.icmpNo X852.here hx rfl (hb hby d8_43) rfl (flt hc43_856).2.2.1 ?_
            refine XS.iconst X852.here hx rfl (hb hby d8_46) ?_
            show Sp p e below m T852 47 #[.val (.ref aa), .val (.int (1 : Int32)), .val (.int (3 : Int32)), .val (.int (1 : Int32)), .val (.int (2 : Int32)), .val (.int cc2)] [(.int (1 : Int32))] _
            refine XS.goto X852.here hx rfl (pc0 := 47) (pc' := 51) rfl (hb hby d8_47) (by decide) (by decide) ?_
            refine XS.istoreN X852.here hx rfl (hb hby d8_51) rfl (l' := #[.val (.ref aa), .val (.int (1 : Int32)), .val (.int (3 : Int32)), .val (.int (1 : Int32)), .val (.int (2 : Int32)), .val (.int cc2)]) rfl ?_
            refine XS.iinc X852.here hx rfl (hb hby d8_52) rfl (l' := #[.val (.ref aa), .val (.int (1 : Int32)), .val (.int (3 : Int32)), .val (.int (1 : Int32)), .val (.int (3 : Int32)), .val (.int cc2)]) rfl ?_
            refine XS.goto X852.here hx rfl (pc0 := 55) (pc' := 14) rfl (hb hby d8_55) (by decide) (by decide) ?_
            refine XS.iloadN X852.here hx rfl (hb hby d8_14) rfl ?_
            refine XS.ifNo X852.here hx rfl (hb hby d8_15) rfl ((if0 _ _).trans (feq (by decide : ¬ ((1 : Int32) = (0 : Int32)))).1) ?_
            refine XS.iload X852.here hx rfl (hb hby d8_18) rfl ?_
            refine XS.iloadN X852.here hx rfl (hb hby d8_20) rfl ?_
            show Sp p e below m T852 21 #[.val (.ref aa), .val (.int (1 : Int32)), .val (.int (3 : Int32)), .val (.int (1 : Int32)), .val (.int (3 : Int32)), .val (.int cc2)] [(.int (3 : Int32)), (.int (3 : Int32))] _
            refine XS.icmpYes X852.here hx rfl (pc0 := 21) (pc' := 58) rfl (hb hby d8_21) rfl (flt (by decide : ¬ ((3 : Int32) < (3 : Int32)))).2.1 (by decide) (by decide) ?_
            refine XS.iloadN X852.here hx rfl (hb hby d8_58) rfl ?_
            exact retN X852 hx (t := .boolean) Bd.returns (by simp) (hb hby d8_59) hr
          · show Q8f1t3 Z aa cs vf ab kb cc0 cc1 cc2 cc3 h0 n0 _ T852.heap _
            rw [e852]
            exact ⟨(by simp [own_dg, hc36_849, hc43_851, hc36_854, hc43_856]), N852, rfl⟩
theorem ef_8f1t4 (m : MethodId) (x0 : Addr) : entryFrame m #[(.ref x0), (.int (1 : Int32)), (.int (4 : Int32))] 6 = mkF m 0 #[.val (.ref x0), .val (.int (1 : Int32)), .val (.int (4 : Int32)), .unset, .unset, .unset] [] := by first | (simp [entryFrame, mkF, argsToLocals, Value.category]; done) | rfl
def Q8f1t4 (Z : State) (aa : Addr) (cs : Int32) (vf : Value) (ab : Addr) (kb : ClassId) (cc0 : Int32) (cc1 : Int32) (cc2 : Int32) (cc3 : Int32) (h0 : Heap) (n0 : Nat) (v : Option Value) (h : Heap) (L : List Loc) : Prop := v = some (.int (if own_dg cc1 = 0 then (0 : Int32) else (if own_dg cc2 = 0 then (0 : Int32) else (own_dg cc3)))) ∧ Fr n0 L ∧ h = h0
theorem rm8f1t4 (l : Launch) (Z : State) (a0 : Array Value) (hw : ∀ d ∈ tables_1, d.before a0 Z = true) (ws : List Jvm.Cond) (aa : Addr) (cs : Int32) (vf : Value) (ab : Addr) (kb : ClassId) (cc0 : Int32) (cc1 : Int32) (cc2 : Int32) (cc3 : Int32) (h0 : Heap) (n0 : Nat) (Z0 : n0 ≤ h0.size) (O0 : Old Z n0 h0) (Scs : Sta Z Z.heap "java/lang/String" "COMPACT_STRINGS" "Z" (.int cs)) (hcs : ¬ cs = (0 : Int32)) (Ssf : Sta Z Z.heap "jdk/internal/util/Preconditions" "SIOOBE_FORMATTER" "Ljava/util/function/BiFunction;" vf) (hvf : vf.isRef = true) (Sas : Sta Z Z.heap "java/lang/StringUTF16" "$assertionsDisabled" "Z" (.int (1 : Int32))) (Shs : Sta Z Z.heap "java/lang/StringUTF16" "HI_BYTE_SHIFT" "I" (.int (0 : Int32))) (Sls : Sta Z Z.heap "java/lang/StringUTF16" "LO_BYTE_SHIFT" "I" (.int (8 : Int32))) (Ea : Exa Z h0 aa "java/lang/String") (Fv : Fld Z h0 aa "java/lang/String" "value" "[B" (.ref ab)) (Hs : own_str Z h0 aa ab kb cc0 cc1 cc2 cc3) (hr0 : 0 ≤ cc0.toInt ∧ cc0.toInt ≤ 65535) (hr1 : 0 ≤ cc1.toInt ∧ cc1.toInt ≤ 65535) (hr2 : 0 ≤ cc2.toInt ∧ cc2.toInt ≤ 65535) (hr3 : 0 ≤ cc3.toInt ∧ cc3.toInt ≤ 65535) :
    MetFree l (⟨"com/example/vestwright/vestwright/PlainNumber", "isDigits", "(Ljava/lang/String;II)Z"⟩ : MethodName) (head1 (Jvm.Cond.code (⟨"com/example/vestwright/vestwright/PlainNumber", "isDigits", "(Ljava/lang/String;II)Z"⟩ : MethodName) prog_43_method_4_code 6 (some .boolean) :: ws) ({ frames := 5, cells := 0, slots := 0, locals := 66 } : Room)) (fun a U => a = #[(.ref aa), (.int (1 : Int32)), (.int (4 : Int32))] ∧ Z.Warmed39 U.vm ∧ U.heap = h0) (fun _ _ _ _ _ => True) (fun _ U o U' => ∃ v L, o = .returned v ∧ Q8f1t4 Z aa cs vf ab kb cc0 cc1 cc2 cc3 h0 n0 v U'.heap L ∧ FrameEnd U o U' L ({ frames := 5, cells := 0, slots := 0, locals := 66 } : Room).cells ({ frames := 5, cells := 0, slots := 0, locals := 66 } : Room).slots) := by
  refine MetFree.of_bodySF (plainFor_of_name own_pn257) hisR ?_
  intro p e s m args below meth c s₁ Bd hml0 hP hK
  have H := fun i c (h : tables_1[i]? = some c) => hw c (List.mem_of_getElem? h)
  obtain ⟨rfl, hZ, hh⟩ := hP
  have hx := Bd.exec
  have hby := Bd.bytes
  have hml : c.maxLocals = 6 := hml0
  have hown : s.vm.findClass "com/example/vestwright/vestwright/PlainNumber" = some m.cls := findClass_of_methodNamed Bd.named
  have hnm := (name_of_methodNamed Bd.named Bd.method).1
  have X0 : Stand p l e ({ frames := 5, cells := 0, slots := 0, locals := 66 } : Room) s m #[(.ref aa), (.int (1 : Int32)), (.int (4 : Int32))] below meth c s₁ [] 0 0 := Stand.of_body Bd
  have e0 : s₁.heap = h0 := by rw [← hh, Bd.state]; rfl
  have N0 := Fr.nil n0
  have pre0 : ∀ t, Sp p e below m s₁ 0 #[.val (.ref aa), .val (.int (1 : Int32)), .val (.int (4 : Int32)), .unset, .unset, .unset] [] t → Steps p.tables e below (s₁.setTop (entryFrame m #[(.ref aa), (.int (1 : Int32)), (.int (4 : Int32))] 6)) t := fun t k => castTop (ef_8f1t4 m aa) k
  generalize s₁.setTop (entryFrame m #[(.ref aa), (.int (1 : Int32)), (.int (4 : Int32))] 6) = G0 at pre0 ⊢
  obtain ⟨cq872, kq872, q872a, q872b, q872c⟩ := isOf hZ e0 Ea
  obtain ⟨_, _, ⟨T872, L872, k872, n872⟩, -, X872, ⟨Lc872, hQ872, l872, y872, z872⟩, st872⟩ := X0.virtualBack hx hown (mvT hZ (H 64 _ rfl)) (mvT hZ (H 65 _ rfl)) (notFace_of_selects (args := #[]) (mvT hZ (H 67 _ rfl))) (mvT hZ (H 67 _ rfl)) (mvT hZ (H 66 _ rfl)) (by decide) (backOf (W := 0) (rm16i1 l Z a0 hw [] aa cs vf ab kb cc0 cc1 cc2 cc3 h0 n0 Z0 O0 Scs hcs Ssf hvf Sas Shs Sls Ea Fv Hs hr0 hr1 hr2 hr3) hZ (H 68 _ rfl) (H 7 _ rfl) (by decide) (by decide)) q872a q872c (g := (mkF m 27 #[.val (.ref aa), .val (.int (1 : Int32)), .val (.int (4 : Int32)), .val (.int (1 : Int32)), .val (.int (1 : Int32)), .unset] [(.int (1 : Int32)), (.ref aa)])) rfl (by rw [hml]; rfl) (Steps.refl _) (argsL := [(.int (1 : Int32))]) (rest := []) (lenOf own_pd266 rfl) rfl (Nat.le_of_eq rfl) (hb hby d8_27) (fun _ _ => ⟨rfl, e0, (by decide : 0 + 0 ≤ _), (by decide : 0 + 0 ≤ _)⟩)
  dsimp only [Pt.U, Pt.locs, Pt.cells, Pt.slots] at X872 l872 y872 z872 st872 hQ872
  rw [l872, y872, z872] at X872
  obtain ⟨rfl, Nq872, e872⟩ := hQ872
  have N872 := Fr.app N0 Nq872
  have pre873 : ∀ t, Sp p e below m T872 36 #[.val (.ref aa), .val (.int (1 : Int32)), .val (.int (4 : Int32)), .val (.int (1 : Int32)), .val (.int (1 : Int32)), .val (.int cc1)] [(.int (48 : Int32)), (.int cc1)] t → SG p e below G0 t := by
    intro t k
    refine pre0 t ?_
    show Sp p e below m s₁ 0 #[.val (.ref aa), .val (.int (1 : Int32)), .val (.int (4 : Int32)), .unset, .unset, .unset] [] _
    refine XS.iloadN X0.here hx rfl (hb hby d8_0) rfl ?_
    refine XS.iloadN X0.here hx rfl (hb hby d8_1) rfl ?_
    refine XS.icmpNo X0.here hx rfl (hb hby d8_2) rfl (tlt (by decide : ((1 : Int32) < (4 : Int32)))).2.1 ?_
    refine XS.iconst X0.here hx rfl (hb hby d8_5) ?_
    refine XS.goto X0.here hx rfl (pc0 := 6) (pc' := 10) rfl (hb hby d8_6) (by decide) (by decide) ?_
    refine XS.istoreN X0.here hx rfl (hb hby d8_10) rfl (l' := #[.val (.ref aa), .val (.int (1 : Int32)), .val (.int (4 : Int32)), .val (.int (1 : Int32)), .unset, .unset]) rfl ?_
    refine XS.iloadN X0.here hx rfl (hb hby d8_11) rfl ?_
    refine XS.istore X0.here hx rfl (hb hby d8_12) rfl (l' := #[.val (.ref aa), .val (.int (1 : Int32)), .val (.int (4 : Int32)), .val (.int (1 : Int32)), .val (.int (1 : Int32)), .unset]) rfl ?_
    show Sp p e below m s₁ 14 #[.val (.ref aa), .val (.int (1 : Int32)), .val (.int (4 : Int32)), .val (.int (1 : Int32)), .val (.int (1 : Int32)), .unset] [] _
    refine XS.iloadN X0.here hx rfl (hb hby d8_14) rfl ?_
    refine XS.ifNo X0.here hx rfl (hb hby d8_15) rfl ((if0 _ _).trans (feq (by decide : ¬ ((1 : Int32) = (0 : Int32)))).1) ?_
    refine XS.iload X0.here hx rfl (hb hby d8_18) rfl ?_
    refine XS.iloadN X0.here hx rfl (hb hby d8_20) rfl ?_
    refine XS.icmpNo X0.here hx rfl (hb hby d8_21) rfl (tlt (by decide : ((1 : Int32) < (4 : Int32)))).2.1 ?_
    refine XS.aloadN X0.here hx rfl (hb hby d8_24) rfl rfl ?_
    refine XS.iload X0.here hx rfl (hb hby d8_25) rfl ?_
    refine st872.trans ?_
    show Sp p e below m T872 30 #[.val (.ref aa), .val (.int (1 : Int32)), .val (.int (4 : Int32)), .val (.int (1 : Int32)), .val (.int (1 : Int32)), .unset] [(.int cc1)] _
    refine XS.istore X872.here hx rfl (hb hby d8_30) rfl (l' := #[.val (.ref aa), .val (.int (1 : Int32)), .val (.int (4 : Int32)), .val (.int (1 : Int32)), .val (.int (1 : Int32)), .val (.int cc1)]) rfl ?_
    refine XS.iload X872.here hx rfl (hb hby d8_32) rfl ?_
    refine XS.bipush X872.here hx rfl (hb hby d8_34) ?_
    exact k
  by_cases hc36_874 : cc1 < (48 : Int32)
  · obtain ⟨fs, hr, hrun, hended, hW, hsame⟩ := X872.leave (v := some (.int (0 : Int32))) (fun h => by rw [Bd.returns] at h; cases h)
    refine ⟨_, _, pre873 _ ?_, hrun, hended, _, _, rfl, ?_, ⟨_, rfl⟩, hW, hsame.mono (by decide) (by decide)⟩
    · show Sp p e below m T872 36 #[.val (.ref aa), .val (.int (1 : Int32)), .val (.int (4 : Int32)), .val (.int (1 : Int32)), .val (.int (1 : Int32)), .val (.int cc1)] [(.int (48 : Int32)), (.int cc1)] _
      refine XS.icmpYes X872.here hx rfl (pc0 := 36) (pc' := 50) rfl (hb hby d8_36) rfl (tlt hc36_874).1 (by decide) (by decide) ?_
      refine XS.iconst X872.here hx rfl (hb hby d8_50) ?_
      refine XS.istoreN X872.here hx rfl (hb hby d8_51) rfl (l' := #[.val (.ref aa), .val (.int (1 : Int32)), .val (.int (4 : Int32)), .val (.int (0 : Int32)), .val (.int (1 : Int32)), .val (.int cc1)]) rfl ?_
      refine XS.iinc X872.here hx rfl (hb hby d8_52) rfl (l' := #[.val (.ref aa), .val (.int (1 : Int32)), .val (.int (4 : Int32)), .val (.int (0 : Int32)), .val (.int (2 : Int32)), .val (.int cc1)]) rfl ?_
      refine XS.goto X872.here hx rfl (pc0 := 55) (pc' := 14) rfl (hb hby d8_55) (by decide) (by decide) ?_
      show Sp p e below m T872 14 #[.val (.ref aa), .val (.int (1 : Int32)), .val (.int (4 : Int32)), .val (.int (0 : Int32)), .val (.int (2 : Int32)), .val (.int cc1)] [] _
      refine XS.iloadN X872.here hx rfl (hb hby d8_14) rfl ?_
      refine XS.ifYes X872.here hx rfl (pc0 := 15) (pc' := 58) rfl (hb hby d8_15) rfl ((if0 _ _).trans (teq (by decide : ((0 : Int32) = (0 : Int32)))).1) (by decide) (by decide) ?_
      refine XS.iloadN X872.here hx rfl (hb hby d8_58) rfl ?_
      exact retN X872 hx (t := .boolean) Bd.returns (by simp) (hb hby d8_59) hr
    · show Q8f1t4 Z aa cs vf ab kb cc0 cc1 cc2 cc3 h0 n0 _ T872.heap _
      rw [e872]
      exact ⟨(by simp [own_dg, hc36_874]), N872, rfl⟩
  · have pre875 : ∀ t, Sp p e below m T872 43 #[.val (.ref aa), .val (.int (1 : Int32)), .val (.int (4 : Int32)), .val (.int (1 : Int32)), .val (.int (1 : Int32)), .val (.int cc1)] [(.int (57 : Int32)), (.int cc1)] t → SG p e below G0 t := by
      intro t k
      refine pre873 t ?_
      show Sp p e below m T872 36 #[.val (.ref aa), .val (.int (1 : Int32)), .val (.int (4 : Int32)), .val (.int (1 : Int32)), .val (.int (1 : Int32)), .val (.int cc1)] [(.int (48 : Int32)), (.int cc1)] _
      refine XS.icmpNo X872.here hx rfl (hb hby d8_36) rfl (flt hc36_874).1 ?_
      refine XS.iload X872.here hx rfl (hb hby d8_39) rfl ?_
      refine XS.bipush X872.here hx rfl (hb hby d8_41) ?_
      exact k
    by_cases hc43_876 : (57 : Int32) < cc1
    · obtain ⟨fs, hr, hrun, hended, hW, hsame⟩ := X872.leave (v := some (.int (0 : Int32))) (fun h => by rw [Bd.returns] at h; cases h)
      refine ⟨_, _, pre875 _ ?_, hrun, hended, _, _, rfl, ?_, ⟨_, rfl⟩, hW, hsame.mono (by decide) (by decide)⟩
      · show Sp p e below m T872 43 #[.val (.ref aa), .val (.int (1 : Int32)), .val (.int (4 : Int32)), .val (.int (1 : Int32)), .val (.int (1 : Int32)), .val (.int cc1)] [(.int (57 : Int32)), (.int cc1)] _
        refine XS.icmpYes X872.here hx rfl (pc0 := 43) (pc' := 50) rfl (hb hby d8_43) rfl (tlt hc43_876).2.2.1 (by decide) (by decide) ?_
        refine XS.iconst X872.here hx rfl (hb hby d8_50) ?_
        show Sp p e below m T872 51 #[.val (.ref aa), .val (.int (1 : Int32)), .val (.int (4 : Int32)), .val (.int (1 : Int32)), .val (.int (1 : Int32)), .val (.int cc1)] [(.int (0 : Int32))] _
        refine XS.istoreN X872.here hx rfl (hb hby d8_51) rfl (l' := #[.val (.ref aa), .val (.int (1 : Int32)), .val (.int (4 : Int32)), .val (.int (0 : Int32)), .val (.int (1 : Int32)), .val (.int cc1)]) rfl ?_
        refine XS.iinc X872.here hx rfl (hb hby d8_52) rfl (l' := #[.val (.ref aa), .val (.int (1 : Int32)), .val (.int (4 : Int32)), .val (.int (0 : Int32)), .val (.int (2 : Int32)), .val (.int cc1)]) rfl ?_
        refine XS.goto X872.here hx rfl (pc0 := 55) (pc' := 14) rfl (hb hby d8_55) (by decide) (by decide) ?_
        refine XS.iloadN X872.here hx rfl (hb hby d8_14) rfl ?_
        refine XS.ifYes X872.here hx rfl (pc0 := 15) (pc' := 58) rfl (hb hby d8_15) rfl ((if0 _ _).trans (teq (by decide : ((0 : Int32) = (0 : Int32)))).1) (by decide) (by decide) ?_
        refine XS.iloadN X872.here hx rfl (hb hby d8_58) rfl ?_
        exact retN X872 hx (t := .boolean) Bd.returns (by simp) (hb hby d8_59) hr
      · show Q8f1t4 Z aa cs vf ab kb cc0 cc1 cc2 cc3 h0 n0 _ T872.heap _
        rw [e872]
        exact ⟨(by simp [own_dg, hc36_874, hc43_876]), N872, rfl⟩
    · obtain ⟨cq877, kq877, q877a, q877b, q877c⟩ := isOf hZ e872 Ea
      obtain ⟨_, _, ⟨T877, L877, k877, n877⟩, -, X877, ⟨Lc877, hQ877, l877, y877, z877⟩, st877⟩ := X872.virtualBack hx hown (mvT hZ (H 64 _ rfl)) (mvT hZ (H 65 _ rfl)) (notFace_of_selects (args := #[]) (mvT hZ (H 67 _ rfl))) (mvT hZ (H 67 _ rfl)) (mvT hZ (H 66 _ rfl)) (by decide) (backOf (W := 0) (rm16i2 l Z a0 hw [] aa cs vf ab kb cc0 cc1 cc2 cc3 h0 n0 Z0 O0 Scs hcs Ssf hvf Sas Shs Sls Ea Fv Hs hr0 hr1 hr2 hr3) hZ (H 68 _ rfl) (H 7 _ rfl) (by decide) (by decide)) q877a q877c (g := (mkF m 27 #[.val (.ref aa), .val (.int (1 : Int32)), .val (.int (4 : Int32)), .val (.int (1 : Int32)), .val (.int (2 : Int32)), .val (.int cc1)] [(.int (2 : Int32)), (.ref aa)])) rfl (by rw [hml]; rfl) (Steps.refl _) (argsL := [(.int (2 : Int32))]) (rest := []) (lenOf own_pd266 rfl) rfl (Nat.le_of_eq rfl) (hb hby d8_27) (fun _ _ => ⟨rfl, e872, (by decide : 0 + 0 ≤ _), (by decide : 0 + 0 ≤ _)⟩)
      dsimp only [Pt.U, Pt.locs, Pt.cells, Pt.slots] at X877 l877 y877 z877 st877 hQ877
      rw [l877, y877, z877] at X877
      obtain ⟨rfl, Nq877, e877⟩ := hQ877
      have N877 := Fr.app N872 Nq877
      have pre878 : ∀ t, Sp p e below m T877 36 #[.val (.ref aa), .val (.int (1 : Int32)), .val (.int (4 : Int32)), .val (.int (1 : Int32)), .val (.int (2 : Int32)), .val (.int cc2)] [(.int (48 : Int32)), (.int cc2)] t → SG p e below G0 t := by
        intro t k
        refine pre875 t ?_
        show Sp p e below m T872 43 #[.val (.ref aa), .val (.int (1 : Int32)), .val (.int (4 : Int32)), .val (.int (1 : Int32)), .val (.int (1 : Int32)), .val (.int cc1)] [(.int (57 : Int32)), (.int cc1)] _
        refine XS.icmpNo X872.here hx rfl (hb hby d8_43) rfl (flt hc43_876).2.2.1 ?_
        refine XS.iconst X872.here hx rfl (hb hby d8_46) ?_
        show Sp p e below m T872 47 #[.val (.ref aa), .val (.int (1 : Int32)), .val (.int (4 : Int32)), .val (.int (1 : Int32)), .val (.int (1 : Int32)), .val (.int cc1)] [(.int (1 : Int32))] _
        refine XS.goto X872.here hx rfl (pc0 := 47) (pc' := 51) rfl (hb hby d8_47) (by decide) (by decide) ?_
        refine XS.istoreN X872.here hx rfl (hb hby d8_51) rfl (l' := #[.val (.ref aa), .val (.int (1 : Int32)), .val (.int (4 : Int32)), .val (.int (1 : Int32)), .val (.int (1 : Int32)), .val (.int cc1)]) rfl ?_
        refine XS.iinc X872.here hx rfl (hb hby d8_52) rfl (l' := #[.val (.ref aa), .val (.int (1 : Int32)), .val (.int (4 : Int32)), .val (.int (1 : Int32)), .val (.int (2 : Int32)), .val (.int cc1)]) rfl ?_
        refine XS.goto X872.here hx rfl (pc0 := 55) (pc' := 14) rfl (hb hby d8_55) (by decide) (by decide) ?_
        refine XS.iloadN X872.here hx rfl (hb hby d8_14) rfl ?_
        refine XS.ifNo X872.here hx rfl (hb hby d8_15) rfl ((if0 _ _).trans (feq (by decide : ¬ ((1 : Int32) = (0 : Int32)))).1) ?_
        refine XS.iload X872.here hx rfl (hb hby d8_18) rfl ?_
        refine XS.iloadN X872.here hx rfl (hb hby d8_20) rfl ?_
        show Sp p e below m T872 21 #[.val (.ref aa), .val (.int (1 : Int32)), .val (.int (4 : Int32)), .val (.int (1 : Int32)), .val (.int (2 : Int32)), .val (.int cc1)] [(.int (4 : Int32)), (.int (2 : Int32))] _
        refine XS.icmpNo X872.here hx rfl (hb hby d8_21) rfl (tlt (by decide : ((2 : Int32) < (4 : Int32)))).2.1 ?_
        refine XS.aloadN X872.here hx rfl (hb hby d8_24) rfl rfl ?_
        refine XS.iload X872.here hx rfl (hb hby d8_25) rfl ?_
        refine st877.trans ?_
        show Sp p e below m T877 30 #[.val (.ref aa), .val (.int (1 : Int32)), .val (.int (4 : Int32)), .val (.int (1 : Int32)), .val (.int (2 : Int32)), .val (.int cc1)] [(.int cc2)] _
        refine XS.istore X877.here hx rfl (hb hby d8_30) rfl (l' := #[.val (.ref aa), .val (.int (1 : Int32)), .val (.int (4 : Int32)), .val (.int (1 : Int32)), .val (.int (2 : Int32)), .val (.int cc2)]) rfl ?_
        refine XS.iload X877.here hx rfl (hb hby d8_32) rfl ?_
        refine XS.bipush X877.here hx rfl (hb hby d8_34) ?_
        exact k
      by_cases hc36_879 : cc2 < (48 : Int32)
      · obtain ⟨fs, hr, hrun, hended, hW, hsame⟩ := X877.leave (v := some (.int (0 : Int32))) (fun h => by rw [Bd.returns] at h; cases h)
        refine ⟨_, _, pre878 _ ?_, hrun, hended, _, _, rfl, ?_, ⟨_, rfl⟩, hW, hsame.mono (by decide) (by decide)⟩
        · show Sp p e below m T877 36 #[.val (.ref aa), .val (.int (1 : Int32)), .val (.int (4 : Int32)), .val (.int (1 : Int32)), .val (.int (2 : Int32)), .val (.int cc2)] [(.int (48 : Int32)), (.int cc2)] _
          refine XS.icmpYes X877.here hx rfl (pc0 := 36) (pc' := 50) rfl (hb hby d8_36) rfl (tlt hc36_879).1 (by decide) (by decide) ?_
          refine XS.iconst X877.here hx rfl (hb hby d8_50) ?_
          refine XS.istoreN X877.here hx rfl (hb hby d8_51) rfl (l' := #[.val (.ref aa), .val (.int (1 : Int32)), .val (.int (4 : Int32)), .val (.int (0 : Int32)), .val (.int (2 : Int32)), .val (.int cc2)]) rfl ?_
          refine XS.iinc X877.here hx rfl (hb hby d8_52) rfl (l' := #[.val (.ref aa), .val (.int (1 : Int32)), .val (.int (4 : Int32)), .val (.int (0 : Int32)), .val (.int (3 : Int32)), .val (.int cc2)]) rfl ?_
          refine XS.goto X877.here hx rfl (pc0 := 55) (pc' := 14) rfl (hb hby d8_55) (by decide) (by decide) ?_
          show Sp p e below m T877 14 #[.val (.ref aa), .val (.int (1 : Int32)), .val (.int (4 : Int32)), .val (.int (0 : Int32)), .val (.int (3 : Int32)), .val (.int cc2)] [] _
          refine XS.iloadN X877.here hx rfl (hb hby d8_14) rfl ?_
          refine XS.ifYes X877.here hx rfl (pc0 := 15) (pc' := 58) rfl (hb hby d8_15) rfl ((if0 _ _).trans (teq (by decide : ((0 : Int32) = (0 : Int32)))).1) (by decide) (by decide) ?_
          refine XS.iloadN X877.here hx rfl (hb hby d8_58) rfl ?_
          exact retN X877 hx (t := .boolean) Bd.returns (by simp) (hb hby d8_59) hr
        · show Q8f1t4 Z aa cs vf ab kb cc0 cc1 cc2 cc3 h0 n0 _ T877.heap _
          rw [e877]
          exact ⟨(by simp [own_dg, hc36_874, hc43_876, hc36_879]), N877, rfl⟩
      · have pre880 : ∀ t, Sp p e below m T877 43 #[.val (.ref aa), .val (.int (1 : Int32)), .val (.int (4 : Int32)), .val (.int (1 : Int32)), .val (.int (2 : Int32)), .val (.int cc2)] [(.int (57 : Int32)), (.int cc2)] t → SG p e below G0 t := by
          intro t k
          refine pre878 t ?_
          show Sp p e below m T877 36 #[.val (.ref aa), .val (.int (1 : Int32)), .val (.int (4 : Int32)), .val (.int (1 : Int32)), .val (.int (2 : Int32)), .val (.int cc2)] [(.int (48 : Int32)), (.int cc2)] _
          refine XS.icmpNo X877.here hx rfl (hb hby d8_36) rfl (flt hc36_879).1 ?_
          refine XS.iload X877.here hx rfl (hb hby d8_39) rfl ?_
          refine XS.bipush X877.here hx rfl (hb hby d8_41) ?_
          exact k
        by_cases hc43_881 : (57 : Int32) < cc2
        · obtain ⟨fs, hr, hrun, hended, hW, hsame⟩ := X877.leave (v := some (.int (0 : Int32))) (fun h => by rw [Bd.returns] at h; cases h)
          refine ⟨_, _, pre880 _ ?_, hrun, hended, _, _, rfl, ?_, ⟨_, rfl⟩, hW, hsame.mono (by decide) (by decide)⟩
          · show Sp p e below m T877 43 #[.val (.ref aa), .val (.int (1 : Int32)), .val (.int (4 : Int32)), .val (.int (1 : Int32)), .val (.int (2 : Int32)), .val (.int cc2)] [(.int (57 : Int32)), (.int cc2)] _
            refine XS.icmpYes X877.here hx rfl (pc0 := 43) (pc' := 50) rfl (hb hby d8_43) rfl (tlt hc43_881).2.2.1 (by decide) (by decide) ?_
            refine XS.iconst X877.here hx rfl (hb hby d8_50) ?_
            show Sp p e below m T877 51 #[.val (.ref aa), .val (.int (1 : Int32)), .val (.int (4 : Int32)), .val (.int (1 : Int32)), .val (.int (2 : Int32)), .val (.int cc2)] [(.int (0 : Int32))] _
            refine XS.istoreN X877.here hx rfl (hb hby d8_51) rfl (l' := #[.val (.ref aa), .val (.int (1 : Int32)), .val (.int (4 : Int32)), .val (.int (0 : Int32)), .val (.int (2 : Int32)), .val (.int cc2)]) rfl ?_
            refine XS.iinc X877.here hx rfl (hb hby d8_52) rfl (l' := #[.val (.ref aa), .val (.int (1 : Int32)), .val (.int (4 : Int32)), .val (.int (0 : Int32)), .val (.int (3 : Int32)), .val (.int cc2)]) rfl ?_
            refine XS.goto X877.here hx rfl (pc0 := 55) (pc' := 14) rfl (hb hby d8_55) (by decide) (by decide) ?_
            refine XS.iloadN X877.here hx rfl (hb hby d8_14) rfl ?_
            refine XS.ifYes X877.here hx rfl (pc0 := 15) (pc' := 58) rfl (hb hby d8_15) rfl ((if0 _ _).trans (teq (by decide : ((0 : Int32) = (0 : Int32)))).1) (by decide) (by decide) ?_
            refine XS.iloadN X877.here hx rfl (hb hby d8_58) rfl ?_
            exact retN X877 hx (t := .boolean) Bd.returns (by simp) (hb hby d8_59) hr
          · show Q8f1t4 Z aa cs vf ab kb cc0 cc1 cc2 cc3 h0 n0 _ T877.heap _
            rw [e877]
            exact ⟨(by simp [own_dg, hc36_874, hc43_876, hc36_879, hc43_881]), N877, rfl⟩
        · obtain ⟨cq882, kq882, q882a, q882b, q882c⟩ := isOf hZ e877 Ea
          obtain ⟨_, _, ⟨T882, L882, k882, n882⟩, -, X882, ⟨Lc882, hQ882, l882, y882, z882⟩, st882⟩ := X877.virtualBack hx hown (mvT hZ (H 64 _ rfl)) (mvT hZ (H 65 _ rfl)) (notFace_of_selects (args := #[]) (mvT hZ (H 67 _ rfl))) (mvT hZ (H 67 _ rfl)) (mvT hZ (H 66 _ rfl)) (by decide) (backOf (W := 0) (rm16i3 l Z a0 hw [] aa cs vf ab kb cc0 cc1 cc2 cc3 h0 n0 Z0 O0 Scs hcs Ssf hvf Sas Shs Sls Ea Fv Hs hr0 hr1 hr2 hr3) hZ (H 68 _ rfl) (H 7 _ rfl) (by decide) (by decide)) q882a q882c (g := (mkF m 27 #[.val (.ref aa), .val (.int (1 : Int32)), .val (.int (4 : Int32)), .val (.int (1 : Int32)), .val (.int (3 : Int32)), .val (.int cc2)] [(.int (3 : Int32)), (.ref aa)])) rfl (by rw [hml]; rfl) (Steps.refl _) (argsL := [(.int (3 : Int32))]) (rest := []) (lenOf own_pd266 rfl) rfl (Nat.le_of_eq rfl) (hb hby d8_27) (fun _ _ => ⟨rfl, e877, (by decide : 0 + 0 ≤ _), (by decide : 0 + 0 ≤ _)⟩)
          dsimp only [Pt.U, Pt.locs, Pt.cells, Pt.slots] at X882 l882 y882 z882 st882 hQ882
          rw [l882, y882, z882] at X882
          obtain ⟨rfl, Nq882, e882⟩ := hQ882
          have N882 := Fr.app N877 Nq882
          have pre883 : ∀ t, Sp p e below m T882 36 #[.val (.ref aa), .val (.int (1 : Int32)), .val (.int (4 : Int32)), .val (.int (1 : Int32)), .val (.int (3 : Int32)), .val (.int cc3)] [(.int (48 : Int32)), (.int cc3)] t → SG p e below G0 t := by
            intro t k
            refine pre880 t ?_
            show Sp p e below m T877 43 #[.val (.ref aa), .val (.int (1 : Int32)), .val (.int (4 : Int32)), .val (.int (1 : Int32)), .val (.int (2 : Int32)), .val (.int cc2)] [(.int (57 : Int32)), (.int cc2)] _
            refine XS.icmpNo X877.here hx rfl (hb hby d8_43) rfl (flt hc43_881).2.2.1 ?_
            refine XS.iconst X877.here hx rfl (hb hby d8_46) ?_
            show Sp p e below m T877 47 #[.val (.ref aa), .val (.int (1 : Int32)), .val (.int (4 : Int32)), .val (.int (1 : Int32)), .val (.int (2 : Int32)), .val (.int cc2)] [(.int (1 : Int32))] _
            refine XS.goto X877.here hx rfl (pc0 := 47) (pc' := 51) rfl (hb hby d8_47) (by decide) (by decide) ?_
            refine XS.istoreN X877.here hx rfl (hb hby d8_51) rfl (l' := #[.val (.ref aa), .val (.int (1 : Int32)), .val (.int (4 : Int32)), .val (.int (1 : Int32)), .val (.int (2 : Int32)), .val (.int cc2)]) rfl ?_
            refine XS.iinc X877.here hx rfl (hb hby d8_52) rfl (l' := #[.val (.ref aa), .val (.int (1 : Int32)), .val (.int (4 : Int32)), .val (.int (1 : Int32)), .val (.int (3 : Int32)), .val (.int cc2)]) rfl ?_
            refine XS.goto X877.here hx rfl (pc0 := 55) (pc' := 14) rfl (hb hby d8_55) (by decide) (by decide) ?_
            refine XS.iloadN X877.here hx rfl (hb hby d8_14) rfl ?_
            refine XS.ifNo X877.here hx rfl (hb hby d8_15) rfl ((if0 _ _).trans (feq (by decide : ¬ ((1 : Int32) = (0 : Int32)))).1) ?_
            refine XS.iload X877.here hx rfl (hb hby d8_18) rfl ?_
            refine XS.iloadN X877.here hx rfl (hb hby d8_20) rfl ?_
            show Sp p e below m T877 21 #[.val (.ref aa), .val (.int (1 : Int32)), .val (.int (4 : Int32)), .val (.int (1 : Int32)), .val (.int (3 : Int32)), .val (.int cc2)] [(.int (4 : Int32)), (.int (3 : Int32))] _
            refine XS.icmpNo X877.here hx rfl (hb hby d8_21) rfl (tlt (by decide : ((3 : Int32) < (4 : Int32)))).2.1 ?_
            refine XS.aloadN X877.here hx rfl (hb hby d8_24) rfl rfl ?_
            refine XS.iload X877.here hx rfl (hb hby d8_25) rfl ?_
            refine st882.trans ?_
            show Sp p e below m T882 30 #[.val (.ref aa), .val (.int (1 : Int32)), .val (.int (4 : Int32)), .val (.int (1 : Int32)), .val (.int (3 : Int32)), .val (.int cc2)] [(.int cc3)] _
            refine XS.istore X882.here hx rfl (hb hby d8_30) rfl (l' := #[.val (.ref aa), .val (.int (1 : Int32)), .val (.int (4 : Int32)), .val (.int (1 : Int32)), .val (.int (3 : Int32)), .val (.int cc3)]) rfl ?_
            refine XS.iload X882.here hx rfl (hb hby d8_32) rfl ?_
            refine XS.bipush X882.here hx rfl (hb hby d8_34) ?_
            exact k
          by_cases hc36_884 : cc3 < (48 : Int32)
          · obtain ⟨fs, hr, hrun, hended, hW, hsame⟩ := X882.leave (v := some (.int (0 : Int32))) (fun h => by rw [Bd.returns] at h; cases h)
            refine ⟨_, _, pre883 _ ?_, hrun, hended, _, _, rfl, ?_, ⟨_, rfl⟩, hW, hsame.mono (by decide) (by decide)⟩
            · show Sp p e below m T882 36 #[.val (.ref aa), .val (.int (1 : Int32)), .val (.int (4 : Int32)), .val (.int (1 : Int32)), .val (.int (3 : Int32)), .val (.int cc3)] [(.int (48 : Int32)), (.int cc3)] _
              refine XS.icmpYes X882.here hx rfl (pc0 := 36) (pc' := 50) rfl (hb hby d8_36) rfl (tlt hc36_884).1 (by decide) (by decide) ?_
              refine XS.iconst X882.here hx rfl (hb hby d8_50) ?_
              refine XS.istoreN X882.here hx rfl (hb hby d8_51) rfl (l' := #[.val (.ref aa), .val (.int (1 : Int32)), .val (.int (4 : Int32)), .val (.int (0 : Int32)), .val (.int (3 : Int32)), .val (.int cc3)]) rfl ?_
              refine XS.iinc X882.here hx rfl (hb hby d8_52) rfl (l' := #[.val (.ref aa), .val (.int (1 : Int32)), .val (.int (4 : Int32)), .val (.int (0 : Int32)), .val (.int (4 : Int32)), .val (.int cc3)]) rfl ?_
              refine XS.goto X882.here hx rfl (pc0 := 55) (pc' := 14) rfl (hb hby d8_55) (by decide) (by decide) ?_
              show Sp p e below m T882 14 #[.val (.ref aa), .val (.int (1 : Int32)), .val (.int (4 : Int32)), .val (.int (0 : Int32)), .val (.int (4 : Int32)), .val (.int cc3)] [] _
              refine XS.iloadN X882.here hx rfl (hb hby d8_14) rfl ?_
              refine XS.ifYes X882.here hx rfl (pc0 := 15) (pc' := 58) rfl (hb hby d8_15) rfl ((if0 _ _).trans (teq (by decide : ((0 : Int32) = (0 : Int32)))).1) (by decide) (by decide) ?_
              refine XS.iloadN X882.here hx rfl (hb hby d8_58) rfl ?_
              exact retN X882 hx (t := .boolean) Bd.returns (by simp) (hb hby d8_59) hr
            · show Q8f1t4 Z aa cs vf ab kb cc0 cc1 cc2 cc3 h0 n0 _ T882.heap _
              rw [e882]
              exact ⟨(by simp [own_dg, hc36_874, hc43_876, hc36_879, hc43_881, hc36_884]), N882, rfl⟩
          · have pre885 : ∀ t, Sp p e below m T882 43 #[.val (.ref aa), .val (.int (1 : Int32)), .val (.int (4 : Int32)), .val (.int (1 : Int32)), .val (.int (3 : Int32)), .val (.int cc3)] [(.int (57 : Int32)), (.int cc3)] t → SG p e below G0 t := by
              intro t k
              refine pre883 t ?_
              show Sp p e below m T882 36 #[.val (.ref aa), .val (.int (1 : Int32)), .val (.int (4 : Int32)), .val (.int (1 : Int32)), .val (.int (3 : Int32)), .val (.int cc3)] [(.int (48 : Int32)), (.int cc3)] _
              refine XS.icmpNo X882.here hx rfl (hb hby d8_36) rfl (flt hc36_884).1 ?_
              refine XS.iload X882.here hx rfl (hb hby d8_39) rfl ?_
              refine XS.bipush X882.here hx rfl (hb hby d8_41) ?_
              exact k
            by_cases hc43_886 : (57 : Int32) < cc3
            · obtain ⟨fs, hr, hrun, hended, hW, hsame⟩ := X882.leave (v := some (.int (0 : Int32))) (fun h => by rw [Bd.returns] at h; cases h)
              refine ⟨_, _, pre885 _ ?_, hrun, hended, _, _, rfl, ?_, ⟨_, rfl⟩, hW, hsame.mono (by decide) (by decide)⟩
              · show Sp p e below m T882 43 #[.val (.ref aa), .val (.int (1 : Int32)), .val (.int (4 : Int32)), .val (.int (1 : Int32)), .val (.int (3 : Int32)), .val (.int cc3)] [(.int (57 : Int32)), (.int cc3)] _
                refine XS.icmpYes X882.here hx rfl (pc0 := 43) (pc' := 50) rfl (hb hby d8_43) rfl (tlt hc43_886).2.2.1 (by decide) (by decide) ?_
                refine XS.iconst X882.here hx rfl (hb hby d8_50) ?_
                show Sp p e below m T882 51 #[.val (.ref aa), .val (.int (1 : Int32)), .val (.int (4 : Int32)), .val (.int (1 : Int32)), .val (.int (3 : Int32)), .val (.int cc3)] [(.int (0 : Int32))] _
                refine XS.istoreN X882.here hx rfl (hb hby d8_51) rfl (l' := #[.val (.ref aa), .val (.int (1 : Int32)), .val (.int (4 : Int32)), .val (.int (0 : Int32)), .val (.int (3 : Int32)), .val (.int cc3)]) rfl ?_
                refine XS.iinc X882.here hx rfl (hb hby d8_52) rfl (l' := #[.val (.ref aa), .val (.int (1 : Int32)), .val (.int (4 : Int32)), .val (.int (0 : Int32)), .val (.int (4 : Int32)), .val (.int cc3)]) rfl ?_
                refine XS.goto X882.here hx rfl (pc0 := 55) (pc' := 14) rfl (hb hby d8_55) (by decide) (by decide) ?_
                refine XS.iloadN X882.here hx rfl (hb hby d8_14) rfl ?_
                refine XS.ifYes X882.here hx rfl (pc0 := 15) (pc' := 58) rfl (hb hby d8_15) rfl ((if0 _ _).trans (teq (by decide : ((0 : Int32) = (0 : Int32)))).1) (by decide) (by decide) ?_
                refine XS.iloadN X882.here hx rfl (hb hby d8_58) rfl ?_
                exact retN X882 hx (t := .boolean) Bd.returns (by simp) (hb hby d8_59) hr
              · show Q8f1t4 Z aa cs vf ab kb cc0 cc1 cc2 cc3 h0 n0 _ T882.heap _
                rw [e882]
                exact ⟨(by simp [own_dg, hc36_874, hc43_876, hc36_879, hc43_881, hc36_884, hc43_886]), N882, rfl⟩
            · obtain ⟨fs, hr, hrun, hended, hW, hsame⟩ := X882.leave (v := some (.int (1 : Int32))) (fun h => by rw [Bd.returns] at h; cases h)
              refine ⟨_, _, pre885 _ ?_, hrun, hended, _, _, rfl, ?_, ⟨_, rfl⟩, hW, hsame.mono (by decide) (by decide)⟩
              · show Sp p e below m T882 43 #[.val (.ref aa), .val (.int (1 : Int32)), .val (.int (4 : Int32)), .val (.int (1 : Int32)), .val (.int (3 : Int32)), .val (.int cc3)] [(.int (57 : Int32)), (.int cc3)] _
                refine XS.icmpNo X882.here hx rfl (hb hby d8_43) rfl (flt hc43_886).2.2.1 ?_
                refine XS.iconst X882.here hx rfl (hb hby d8_46) ?_
                show Sp p e below m T882 47 #[.val (.ref aa), .val (.int (1 : Int32)), .val (.int (4 : Int32)), .val (.int (1 : Int32)), .val (.int (3 : Int32)), .val (.int cc3)] [(.int (1 : Int32))] _
                refine XS.goto X882.here hx rfl (pc0 := 47) (pc' := 51) rfl (hb hby d8_47) (by decide) (by decide) ?_
                refine XS.istoreN X882.here hx rfl (hb hby d8_51) rfl (l' := #[.val (.ref aa), .val (.int (1 : Int32)), .val (.int (4 : Int32)), .val (.int (1 : Int32)), .val (.int (3 : Int32)), .val (.int cc3)]) rfl ?_
                refine XS.iinc X882.here hx rfl (hb hby d8_52) rfl (l' := #[.val (.ref aa), .val (.int (1 : Int32)), .val (.int (4 : Int32)), .val (.int (1 : Int32)), .val (.int (4 : Int32)), .val (.int cc3)]) rfl ?_
                refine XS.goto X882.here hx rfl (pc0 := 55) (pc' := 14) rfl (hb hby d8_55) (by decide) (by decide) ?_
                refine XS.iloadN X882.here hx rfl (hb hby d8_14) rfl ?_
                refine XS.ifNo X882.here hx rfl (hb hby d8_15) rfl ((if0 _ _).trans (feq (by decide : ¬ ((1 : Int32) = (0 : Int32)))).1) ?_
                refine XS.iload X882.here hx rfl (hb hby d8_18) rfl ?_
                refine XS.iloadN X882.here hx rfl (hb hby d8_20) rfl ?_
                show Sp p e below m T882 21 #[.val (.ref aa), .val (.int (1 : Int32)), .val (.int (4 : Int32)), .val (.int (1 : Int32)), .val (.int (4 : Int32)), .val (.int cc3)] [(.int (4 : Int32)), (.int (4 : Int32))] _
                refine XS.icmpYes X882.here hx rfl (pc0 := 21) (pc' := 58) rfl (hb hby d8_21) rfl (flt (by decide : ¬ ((4 : Int32) < (4 : Int32)))).2.1 (by decide) (by decide) ?_
                refine XS.iloadN X882.here hx rfl (hb hby d8_58) rfl ?_
                exact retN X882 hx (t := .boolean) Bd.returns (by simp) (hb hby d8_59) hr
              · show Q8f1t4 Z aa cs vf ab kb cc0 cc1 cc2 cc3 h0 n0 _ T882.heap _
                rw [e882]
                exact ⟨(by simp [own_dg, hc36_874, hc43_876, hc36_879, hc43_881, hc36_884, hc43_886]), N882, rfl⟩
theorem ef_8f2t3 (m : MethodId) (x0 : Addr) : entryFrame m #[(.ref x0), (.int (2 : Int32)), (.int (3 : Int32))] 6 = mkF m 0 #[.val (.ref x0), .val (.int (2 : Int32)), .val (.int (3 : Int32)), .unset, .unset, .unset] [] := by first | (simp [entryFrame, mkF, argsToLocals, Value.category]; done) | rfl
def Q8f2t3 (Z : State) (aa : Addr) (cs : Int32) (vf : Value) (ab : Addr) (kb : ClassId) (cc0 : Int32) (cc1 : Int32) (cc2 : Int32) (cc3 : Int32) (h0 : Heap) (n0 : Nat) (v : Option Value) (h : Heap) (L : List Loc) : Prop := v = some (.int (own_dg cc2)) ∧ Fr n0 L ∧ h = h0
theorem rm8f2t3 (l : Launch) (Z : State) (a0 : Array Value) (hw : ∀ d ∈ tables_1, d.before a0 Z = true) (ws : List Jvm.Cond) (aa : Addr) (cs : Int32) (vf : Value) (ab : Addr) (kb : ClassId) (cc0 : Int32) (cc1 : Int32) (cc2 : Int32) (cc3 : Int32) (h0 : Heap) (n0 : Nat) (Z0 : n0 ≤ h0.size) (O0 : Old Z n0 h0) (Scs : Sta Z Z.heap "java/lang/String" "COMPACT_STRINGS" "Z" (.int cs)) (hcs : ¬ cs = (0 : Int32)) (Ssf : Sta Z Z.heap "jdk/internal/util/Preconditions" "SIOOBE_FORMATTER" "Ljava/util/function/BiFunction;" vf) (hvf : vf.isRef = true) (Sas : Sta Z Z.heap "java/lang/StringUTF16" "$assertionsDisabled" "Z" (.int (1 : Int32))) (Shs : Sta Z Z.heap "java/lang/StringUTF16" "HI_BYTE_SHIFT" "I" (.int (0 : Int32))) (Sls : Sta Z Z.heap "java/lang/StringUTF16" "LO_BYTE_SHIFT" "I" (.int (8 : Int32))) (Ea : Exa Z h0 aa "java/lang/String") (Fv : Fld Z h0 aa "java/lang/String" "value" "[B" (.ref ab)) (Hs : own_str Z h0 aa ab kb cc0 cc1 cc2 cc3) (hr0 : 0 ≤ cc0.toInt ∧ cc0.toInt ≤ 65535) (hr1 : 0 ≤ cc1.toInt ∧ cc1.toInt ≤ 65535) (hr2 : 0 ≤ cc2.toInt ∧ cc2.toInt ≤ 65535) (hr3 : 0 ≤ cc3.toInt ∧ cc3.toInt ≤ 65535) :
    MetFree l (⟨"com/example/vestwright/vestwright/PlainNumber", "isDigits", "(Ljava/lang/String;II)Z"⟩ : MethodName) (head1 (Jvm.Cond.code (⟨"com/example/vestwright/vestwright/PlainNumber", "isDigits", "(Ljava/lang/String;II)Z"⟩ : MethodName) prog_43_method_4_code 6 (some .boolean) :: ws) ({ frames := 5, cells := 0, slots := 0, locals := 66 } : Room)) (fun a U => a = #[(.ref aa), (.int (2 : Int32)), (.int (3 : Int32))] ∧ Z.Warmed39 U.vm ∧ U.heap = h0) (fun _ _ _ _ _ => True) (fun _ U o U' => ∃ v L, o = .returned v ∧ Q8f2t3 Z aa cs vf ab kb cc0 cc1 cc2 cc3 h0 n0 v U'.heap L ∧ FrameEnd U o U' L ({ frames := 5, cells := 0, slots := 0, locals := 66 } : Room).cells ({ frames := 5, cells := 0, slots := 0, locals := 66 } : Room).slots) := by
  refine MetFree.of_bodySF (plainFor_of_name own_pn257) hisR ?_
  intro p e s m args below meth c s₁ Bd hml0 hP hK
  have H := fun i c (h : tables_1[i]? = some c) => hw c (List.mem_of_getElem? h)
  obtain ⟨rfl, hZ, hh⟩ := hP
  have hx := Bd.exec
  have hby := Bd.bytes
  have hml : c.maxLocals = 6 := hml0
  have hown : s.vm.findClass "com/example/vestwright/vestwright/PlainNumber" = some m.cls := findClass_of_methodNamed Bd.named
  have hnm := (name_of_methodNamed Bd.named Bd.method).1
  have X0 : Stand p l e ({ frames := 5, cells := 0, slots := 0, locals := 66 } : Room) s m #[(.ref aa), (.int (2 : Int32)), (.int (3 : Int32))] below meth c s₁ [] 0 0 := Stand.of_body Bd
  have e0 : s₁.heap = h0 := by rw [← hh, Bd.state]; rfl
  have N0 := Fr.nil n0
  have pre0 : ∀ t, Sp p e below m s₁ 0 #[.val (.ref aa), .val (.int (2 : Int32)), .val (.int (3 : Int32)), .unset, .unset, .unset] [] t → Steps p.tables e below (s₁.setTop (entryFrame m #[(.ref aa), (.int (2 : Int32)), (.int (3 : Int32))] 6)) t := fun t k => castTop (ef_8f2t3 m aa) k
  generalize s₁.setTop (entryFrame m #[(.ref aa), (.int (2 : Int32)), (.int (3 : Int32))] 6) = G0 at pre0 ⊢
  obtain ⟨cq892, kq892, q892a, q892b, q892c⟩ := isOf hZ e0 Ea
  obtain ⟨_, _, ⟨T892, L892, k892, n892⟩, -, X892, ⟨Lc892, hQ892, l892, y892, z892⟩, st892⟩ := X0.virtualBack hx hown (mvT hZ (H 64 _ rfl)) (mvT hZ (H 65 _ rfl)) (notFace_of_selects (args := #[]) (mvT hZ (H 67 _ rfl))) (mvT hZ (H 67 _ rfl)) (mvT hZ (H 66 _ rfl)) (by decide) (backOf (W := 0) (rm16i2 l Z a0 hw [] aa cs vf ab kb cc0 cc1 cc2 cc3 h0 n0 Z0 O0 Scs hcs Ssf hvf Sas Shs Sls Ea Fv Hs hr0 hr1 hr2 hr3) hZ (H 68 _ rfl) (H 7 _ rfl) (by decide) (by decide)) q892a q892c (g := (mkF m 27 #[.val (.ref aa), .val (.int (2 : Int32)), .val (.int (3 : Int32)), .val (.int (1 : Int32)), .val (.int (2 : Int32)), .unset] [(.int (2 : Int32)), (.ref aa)])) rfl (by rw [hml]; rfl) (Steps.refl _) (argsL := [(.int (2 : Int32))]) (rest := []) (lenOf own_pd266 rfl) rfl (Nat.le_of_eq rfl) (hb hby d8_27) (fun _ _ => ⟨rfl, e0, (by decide : 0 + 0 ≤ _), (by decide : 0 + 0 ≤ _)⟩)
  dsimp only [Pt.U, Pt.locs, Pt.cells, Pt.slots] at X892 l892 y892 z892 st892 hQ892
  rw [l892, y892, z892] at X892
  obtain ⟨rfl, Nq892, e892⟩ := hQ892
  have N892 := Fr.app N0 Nq892
  have pre893 : ∀ t, Sp p e below m T892 36 #[.val (.ref aa), .val (.int (2 : Int32)), .val (.int (3 : Int32)), .val (.int (1 : Int32)), .val (.int (2 : Int32)), .val (.int cc2)] [(.int (48 : Int32)), (.int cc2)] t → SG p e below G0 t := by
    intro t k
    refine pre0 t ?_
    show Sp p e below m s₁ 0 #[.val (.ref aa), .val (.int (2 : Int32)), .val (.int (3 : Int32)), .unset, .unset, .unset] [] _
    refine XS.iloadN X0.here hx rfl (hb hby d8_0) rfl ?_
    refine XS.iloadN X0.here hx rfl (hb hby d8_1) rfl ?_
    refine XS.icmpNo X0.here hx rfl (hb hby d8_2) rfl (tlt (by decide : ((2 : Int32) < (3 : Int32)))).2.1 ?_
    refine XS.iconst X0.here hx rfl (hb hby d8_5) ?_
    refine XS.goto X0.here hx rfl (pc0 := 6) (pc' := 10) rfl (hb hby d8_6) (by decide) (by decide) ?_
    refine XS.istoreN X0.here hx rfl (hb hby d8_10) rfl (l' := #[.val (.ref aa), .val (.int (2 : Int32)), .val (.int (3 : Int32)), .val (.int (1 : Int32)), .unset, .unset]) rfl ?_
    refine XS.iloadN X0.here hx rfl (hb hby d8_11) rfl ?_
    refine XS.istore X0.here hx rfl (hb hby d8_12) rfl (l' := #[.val (.ref aa), .val (.int (2 : Int32)), .val (.int (3 : Int32)), .val (.int (1 : Int32)), .val (.int (2 : Int32)), .unset]) rfl ?_
    show Sp p e below m s₁ 14 #[.val (.ref aa), .val (.int (2 : Int32)), .val (.int (3 : Int32)), .val (.int (1 : Int32)), .val (.int (2 : Int32)), .unset] [] _
    refine XS.iloadN X0.here hx rfl (hb hby d8_14) rfl ?_
    refine XS.ifNo X0.here hx rfl (hb hby d8_15) rfl ((if0 _ _).trans (feq (by decide : ¬ ((1 : Int32) = (0 : Int32)))).1) ?_
    refine XS.iload X0.here hx rfl (hb hby d8_18) rfl ?_
    refine XS.iloadN X0.here hx rfl (hb hby d8_20) rfl ?_
    refine XS.icmpNo X0.here hx rfl (hb hby d8_21) rfl (tlt (by decide : ((2 : Int32) < (3 : Int32)))).2.1 ?_
    refine XS.aloadN X0.here hx rfl (hb hby d8_24) rfl rfl ?_
    refine XS.iload X0.here hx rfl (hb hby d8_25) rfl ?_
    refine st892.trans ?_
    show Sp p e below m T892 30 #[.val (.ref aa), .val (.int (2 : Int32)), .val (.int (3 : Int32)), .val (.int (1 : Int32)), .val (.int (2 : Int32)), .unset] [(.int cc2)] _
    refine XS.istore X892.here hx rfl (hb hby d8_30) rfl (l' := #[.val (.ref aa), .val (.int (2 : Int32)), .val (.int (3 : Int32)), .val (.int (1 : Int32)), .val (.int (2 : Int32)), .val (.int cc2)]) rfl ?_
    refine XS.iload X892.here hx rfl (hb hby d8_32) rfl ?_
    refine XS.bipush X892.here hx rfl (hb hby d8_34) ?_
    exact k
  by_cases hc36_894 : cc2 < (48 : Int32)
  · obtain ⟨fs, hr, hrun, hended, hW, hsame⟩ := X892.leave (v := some (.int (0 : Int32))) (fun h => by rw [Bd.returns] at h; cases h)
    refine ⟨_, _, pre893 _ ?_, hrun, hended, _, _, rfl, ?_, ⟨_, rfl⟩, hW, hsame.mono (by decide) (by decide)⟩
    · show Sp p e below m T892 36 #[.val (.ref aa), .val (.int (2 : Int32)), .val (.int (3 : Int32)), .val (.int (1 : Int32)), .val (.int (2 : Int32)), .val (.int cc2)] [(.int (48 : Int32)), (.int cc2)] _
      refine XS.icmpYes X892.here hx rfl (pc0 := 36) (pc' := 50) rfl (hb hby d8_36) rfl (tlt hc36_894).1 (by decide) (by decide) ?_
      refine XS.iconst X892.here hx rfl (hb hby d8_50) ?_
      refine XS.istoreN X892.here hx rfl (hb hby d8_51) rfl (l' := #[.val (.ref aa), .val (.int (2 : Int32)), .val (.int (3 : Int32)), .val (.int (0 : Int32)), .val (.int (2 : Int32)), .val (.int cc2)]) rfl ?_
      refine XS.iinc X892.here hx rfl (hb hby d8_52) rfl (l' := #[.val (.ref aa), .val (.int (2 : Int32)), .val (.int (3 : Int32)), .val (.int (0 : Int32)), .val (.int (3 : Int32)), .val (.int cc2)]) rfl ?_
      refine XS.goto X892.here hx rfl (pc0 := 55) (pc' := 14) rfl (hb hby d8_55) (by decide) (by decide) ?_
      show Sp p e below m T892 14 #[.val (.ref aa), .val (.int (2 : Int32)), .val (.int (3 : Int32)), .val (.int (0 : Int32)), .val (.int (3 : Int32)), .val (.int cc2)] [] _
      refine XS.iloadN X892.here hx rfl (hb hby d8_14) rfl ?_
      refine XS.ifYes X892.here hx rfl (pc0 := 15) (pc' := 58) rfl (hb hby d8_15) rfl ((if0 _ _).trans (teq (by decide : ((0 : Int32) = (0 : Int32)))).1) (by decide) (by decide) ?_
      refine XS.iloadN X892.here hx rfl (hb hby d8_58) rfl ?_
      exact retN X892 hx (t := .boolean) Bd.returns (by simp) (hb hby d8_59) hr
    · show Q8f2t3 Z aa cs vf ab kb cc0 cc1 cc2 cc3 h0 n0 _ T892.heap _
      rw [e892]
      exact ⟨(by simp [own_dg, hc36_894]), N892, rfl⟩
  · have pre895 : ∀ t, Sp p e below m T892 43 #[.val (.ref aa), .val (.int (2 : Int32)), .val (.int (3 : Int32)), .val (.int (1 : Int32)), .val (.int (2 : Int32)), .val (.int cc2)] [(.int (57 : Int32)), (.int cc2)] t → SG p e below G0 t := by
      intro t k
      refine pre893 t ?_
      show Sp p e below m T892 36 #[.val (.ref aa), .val (.int (2 : Int32)), .val (.int (3 : Int32)), .val (.int (1 : Int32)), .val (.int (2 : Int32)), .val (.int cc2)] [(.int (48 : Int32)), (.int cc2)] _
      refine XS.icmpNo X892.here hx rfl (hb hby d8_36) rfl (flt hc36_894).1 ?_
      refine XS.iload X892.here hx rfl (hb hby d8_39) rfl ?_
      refine XS.bipush X892.here hx rfl (hb hby d8_41) ?_
      exact k
    by_cases hc43_896 : (57 : Int32) < cc2
    · obtain ⟨fs, hr, hrun, hended, hW, hsame⟩ := X892.leave (v := some (.int (0 : Int32))) (fun h => by rw [Bd.returns] at h; cases h)
      refine ⟨_, _, pre895 _ ?_, hrun, hended, _, _, rfl, ?_, ⟨_, rfl⟩, hW, hsame.mono (by decide) (by decide)⟩
      · show Sp p e below m T892 43 #[.val (.ref aa), .val (.int (2 : Int32)), .val (.int (3 : Int32)), .val (.int (1 : Int32)), .val (.int (2 : Int32)), .val (.int cc2)] [(.int (57 : Int32)), (.int cc2)] _
        refine XS.icmpYes X892.here hx rfl (pc0 := 43) (pc' := 50) rfl (hb hby d8_43) rfl (tlt hc43_896).2.2.1 (by decide) (by decide) ?_
        refine XS.iconst X892.here hx rfl (hb hby d8_50) ?_
        show Sp p e below m T892 51 #[.val (.ref aa), .val (.int (2 : Int32)), .val (.int (3 : Int32)), .val (.int (1 : Int32)), .val (.int (2 : Int32)), .val (.int cc2)] [(.int (0 : Int32))] _
        refine XS.istoreN X892.here hx rfl (hb hby d8_51) rfl (l' := #[.val (.ref aa), .val (.int (2 : Int32)), .val (.int (3 : Int32)), .val (.int (0 : Int32)), .val (.int (2 : Int32)), .val (.int cc2)]) rfl ?_
        refine XS.iinc X892.here hx rfl (hb hby d8_52) rfl (l' := #[.val (.ref aa), .val (.int (2 : Int32)), .val (.int (3 : Int32)), .val (.int (0 : Int32)), .val (.int (3 : Int32)), .val (.int cc2)]) rfl ?_
        refine XS.goto X892.here hx rfl (pc0 := 55) (pc' := 14) rfl (hb hby d8_55) (by decide) (by decide) ?_
        refine XS.iloadN X892.here hx rfl (hb hby d8_14) rfl ?_
        refine XS.ifYes X892.here hx rfl (pc0 := 15) (pc' := 58) rfl (hb hby d8_15) rfl ((if0 _ _).trans (teq (by decide : ((0 : Int32) = (0 : Int32)))).1) (by decide) (by decide) ?_
        refine XS.iloadN X892.here hx rfl (hb hby d8_58) rfl ?_
        exact retN X892 hx (t := .boolean) Bd.returns (by simp) (hb hby d8_59) hr
      · show Q8f2t3 Z aa cs vf ab kb cc0 cc1 cc2 cc3 h0 n0 _ T892.heap _
        rw [e892]
        exact ⟨(by simp [own_dg, hc36_894, hc43_896]), N892, rfl⟩
    · obtain ⟨fs, hr, hrun, hended, hW, hsame⟩ := X892.leave (v := some (.int (1 : Int32))) (fun h => by rw [Bd.returns] at h; cases h)
      refine ⟨_, _, pre895 _ ?_, hrun, hended, _, _, rfl, ?_, ⟨_, rfl⟩, hW, hsame.mono (by decide) (by decide)⟩
      · show Sp p e below m T892 43 #[.val (.ref aa), .val (.int (2 : Int32)), .val (.int (3 : Int32)), .val (.int (1 : Int32)), .val (.int (2 : Int32)), .val (.int cc2)] [(.int (57 : Int32)), (.int cc2)] _
        refine XS.icmpNo X892.here hx rfl (hb hby d8_43) rfl (flt hc43_896).2.2.1 ?_
        refine XS.iconst X892.here hx rfl (hb hby d8_46) ?_
        show Sp p e below m T892 47 #[.val (.ref aa), .val (.int (2 : Int32)), .val (.int (3 : Int32)), .val (.int (1 : Int32)), .val (.int (2 : Int32)), .val (.int cc2)] [(.int (1 : Int32))] _
        refine XS.goto X892.here hx rfl (pc0 := 47) (pc' := 51) rfl (hb hby d8_47) (by decide) (by decide) ?_
        refine XS.istoreN X892.here hx rfl (hb hby d8_51) rfl (l' := #[.val (.ref aa), .val (.int (2 : Int32)), .val (.int (3 : Int32)), .val (.int (1 : Int32)), .val (.int (2 : Int32)), .val (.int cc2)]) rfl ?_
        refine XS.iinc X892.here hx rfl (hb hby d8_52) rfl (l' := #[.val (.ref aa), .val (.int (2 : Int32)), .val (.int (3 : Int32)), .val (.int (1 : Int32)), .val (.int (3 : Int32)), .val (.int cc2)]) rfl ?_
        refine XS.goto X892.here hx rfl (pc0 := 55) (pc' := 14) rfl (hb hby d8_55) (by decide) (by decide) ?_
        refine XS.iloadN X892.here hx rfl (hb hby d8_14) rfl ?_
        refine XS.ifNo X892.here hx rfl (hb hby d8_15) rfl ((if0 _ _).trans (feq (by decide : ¬ ((1 : Int32) = (0 : Int32)))).1) ?_
        refine XS.iload X892.here hx rfl (hb hby d8_18) rfl ?_
        refine XS.iloadN X892.here hx rfl (hb hby d8_20) rfl ?_
        show Sp p e below m T892 21 #[.val (.ref aa), .val (.int (2 : Int32)), .val (.int (3 : Int32)), .val (.int (1 : Int32)), .val (.int (3 : Int32)), .val (.int cc2)] [(.int (3 : Int32)), (.int (3 : Int32))] _
        refine XS.icmpYes X892.here hx rfl (pc0 := 21) (pc' := 58) rfl (hb hby d8_21) rfl (flt (by decide : ¬ ((3 : Int32) < (3 : Int32)))).2.1 (by decide) (by decide) ?_
        refine XS.iloadN X892.here hx rfl (hb hby d8_58) rfl ?_
        exact retN X892 hx (t := .boolean) Bd.returns (by simp) (hb hby d8_59) hr
      · show Q8f2t3 Z aa cs vf ab kb cc0 cc1 cc2 cc3 h0 n0 _ T892.heap _
        rw [e892]
        exact ⟨(by simp [own_dg, hc36_894, hc43_896]), N892, rfl⟩
theorem ef_8f2t4 (m : MethodId) (x0 : Addr) : entryFrame m #[(.ref x0), (.int (2 : Int32)), (.int (4 : Int32))] 6 = mkF m 0 #[.val (.ref x0), .val (.int (2 : Int32)), .val (.int (4 : Int32)), .unset, .unset, .unset] [] := by first | (simp [entryFrame, mkF, argsToLocals, Value.category]; done) | rfl
def Q8f2t4 (Z : State) (aa : Addr) (cs : Int32) (vf : Value) (ab : Addr) (kb : ClassId) (cc0 : Int32) (cc1 : Int32) (cc2 : Int32) (cc3 : Int32) (h0 : Heap) (n0 : Nat) (v : Option Value) (h : Heap) (L : List Loc) : Prop := v = some (.int (if own_dg cc2 = 0 then (0 : Int32) else (own_dg cc3))) ∧ Fr n0 L ∧ h = h0
theorem rm8f2t4 (l : Launch) (Z : State) (a0 : Array Value) (hw : ∀ d ∈ tables_1, d.before a0 Z = true) (ws : List Jvm.Cond) (aa : Addr) (cs : Int32) (vf : Value) (ab : Addr) (kb : ClassId) (cc0 : Int32) (cc1 : Int32) (cc2 : Int32) (cc3 : Int32) (h0 : Heap) (n0 : Nat) (Z0 : n0 ≤ h0.size) (O0 : Old Z n0 h0) (Scs : Sta Z Z.heap "java/lang/String" "COMPACT_STRINGS" "Z" (.int cs)) (hcs : ¬ cs = (0 : Int32)) (Ssf : Sta Z Z.heap "jdk/internal/util/Preconditions" "SIOOBE_FORMATTER" "Ljava/util/function/BiFunction;" vf) (hvf : vf.isRef = true) (Sas : Sta Z Z.heap "java/lang/StringUTF16" "$assertionsDisabled" "Z" (.int (1 : Int32))) (Shs : Sta Z Z.heap "java/lang/StringUTF16" "HI_BYTE_SHIFT" "I" (.int (0 : Int32))) (Sls : Sta Z Z.heap "java/lang/StringUTF16" "LO_BYTE_SHIFT" "I" (.int (8 : Int32))) (Ea : Exa Z h0 aa "java/lang/String") (Fv : Fld Z h0 aa "java/lang/String" "value" "[B" (.ref ab)) (Hs : own_str Z h0 aa ab kb cc0 cc1 cc2 cc3) (hr0 : 0 ≤ cc0.toInt ∧ cc0.toInt ≤ 65535) (hr1 : 0 ≤ cc1.toInt ∧ cc1.toInt ≤ 65535) (hr2 : 0 ≤ cc2.toInt ∧ cc2.toInt ≤ 65535) (hr3 : 0 ≤ cc3.toInt ∧ cc3.toInt ≤ 65535) :
    MetFree l (⟨"com/example/vestwright/vestwright/PlainNumber", "isDigits", "(Ljava/lang/String;II)Z"⟩ : MethodName) (head1 (Jvm.Cond.code (⟨"com/example/vestwright/vestwright/PlainNumber", "isDigits", "(Ljava/lang/String;II)Z"⟩ : MethodName) prog_43_method_4_code 6 (some .boolean) :: ws) ({ frames := 5, cells := 0, slots := 0, locals := 66 } : Room)) (fun a U => a = #[(.ref aa), (.int (2 : Int32)), (.int (4 : Int32))] ∧ Z.Warmed39 U.vm ∧ U.heap = h0) (fun _ _ _ _ _ => True) (fun _ U o U' => ∃ v L, o = .returned v ∧ Q8f2t4 Z aa cs vf ab kb cc0 cc1 cc2 cc3 h0 n0 v U'.heap L ∧ FrameEnd U o U' L ({ frames := 5, cells := 0, slots := 0, locals := 66 } : Room).cells ({ frames := 5, cells := 0, slots := 0, locals := 66 } : Room).slots) := by
  refine MetFree.of_bodySF (plainFor_of_name own_pn257) hisR ?_
  intro p e s m args below meth c s₁ Bd hml0 hP hK
  have H := fun i c (h : tables_1[i]? = some c) => hw c (List.mem_of_getElem? h)
  obtain ⟨rfl, hZ, hh⟩ := hP
  have hx := Bd.exec
  have hby := Bd.bytes
  have hml : c.maxLocals = 6 := hml0
  have hown : s.vm.findClass "com/example/vestwright/vestwright/PlainNumber" = some m.cls := findClass_of_methodNamed Bd.named
  have hnm := (name_of_methodNamed Bd.named Bd.method).1
  have X0 : Stand p l e ({ frames := 5, cells := 0, slots := 0, locals := 66 } : Room) s m #[(.ref aa), (.int (2 : Int32)), (.int (4 : Int32))] below meth c s₁ [] 0 0 := Stand.of_body Bd
  have e0 : s₁.heap = h0 := by rw [← hh, Bd.state]; rfl
  have N0 := Fr.nil n0
  have pre0 : ∀ t, Sp p e below m s₁ 0 #[.val (.ref aa), .val (.int (2 : Int32)), .val (.int (4 : Int32)), .unset, .unset, .unset] [] t → Steps p.tables e below (s₁.setTop (entryFrame m #[(.ref aa), (.int (2 : Int32)), (.int (4 : Int32))] 6)) t := fun t k => castTop (ef_8f2t4 m aa) k
  generalize s₁.setTop (entryFrame m #[(.ref aa), (.int (2 : Int32)), (.int (4 : Int32))] 6) = G0 at pre0 ⊢
  obtain ⟨cq907, kq907, q907a, q907b, q907c⟩ := isOf hZ e0 Ea
  obtain ⟨_, _, ⟨T907, L907, k907, n907⟩, -, X907, ⟨Lc907, hQ907, l907, y907, z907⟩, st907⟩ := X0.virtualBack hx hown (mvT hZ (H 64 _ rfl)) (mvT hZ (H 65 _ rfl)) (notFace_of_selects (args := #[]) (mvT hZ (H 67 _ rfl))) (mvT hZ (H 67 _ rfl)) (mvT hZ (H 66 _ rfl)) (by decide) (backOf (W := 0) (rm16i2 l Z a0 hw [] aa cs vf ab kb cc0 cc1 cc2 cc3 h0 n0 Z0 O0 Scs hcs Ssf hvf Sas Shs Sls Ea Fv Hs hr0 hr1 hr2 hr3) hZ (H 68 _ rfl) (H 7 _ rfl) (by decide) (by decide)) q907a q907c (g := (mkF m 27 #[.val (.ref aa), .val (.int (2 : Int32)), .val (.int (4 : Int32)), .val (.int (1 : Int32)), .val (.int (2 : Int32)), .unset] [(.int (2 : Int32)), (.ref aa)])) rfl (by rw [hml]; rfl) (Steps.refl _) (argsL := [(.int (2 : Int32))]) (rest := []) (lenOf own_pd266 rfl) rfl (Nat.le_of_eq rfl) (hb hby d8_27) (fun _ _ => ⟨rfl, e0, (by decide : 0 + 0 ≤ _), (by decide : 0 + 0 ≤ _)⟩)
  dsimp only [Pt.U, Pt.locs, Pt.cells, Pt.slots] at X907 l907 y907 z907 st907 hQ907
  rw [l907, y907, z907] at X907
  obtain ⟨rfl, Nq907, e907⟩ := hQ907
  have N907 := Fr.app N0 Nq907
  have pre908 : ∀ t, Sp p e below m T907 36 #[.val (.ref aa), .val (.int (2 : Int32)), .val (.int (4 : Int32)), .val (.int (1 : Int32)), .val (.int (2 : Int32)), .val (.int cc2)] [(.int (48 : Int32)), (.int cc2)] t → SG p e below G0 t := by
    intro t k
    refine pre0 t ?_
    show Sp p e below m s₁ 0 #[.val (.ref aa), .val (.int (2 : Int32)), .val (.int (4 : Int32)), .unset, .unset, .unset] [] _
    refine XS.iloadN X0.here hx rfl (hb hby d8_0) rfl ?_
    refine XS.iloadN X0.here hx rfl (hb hby d8_1) rfl ?_
    refine XS.icmpNo X0.here hx rfl (hb hby d8_2) rfl (tlt (by decide : ((2 : Int32) < (4 : Int32)))).2.1 ?_
    refine XS.iconst X0.here hx rfl (hb hby d8_5) ?_
    refine XS.goto X0.here hx rfl (pc0 := 6) (pc' := 10) rfl (hb hby d8_6) (by decide) (by decide) ?_
    refine XS.istoreN X0.here hx rfl (hb hby d8_10) rfl (l' := #[.val (.ref aa), .val (.int (2 : Int32)), .val (.int (4 : Int32)), .val (.int (1 : Int32)), .unset, .unset]) rfl ?_
    refine XS.iloadN X0.here hx rfl (hb hby d8_11) rfl ?_
    refine XS.istore X0.here hx rfl (hb hby d8_12) rfl (l' := #[.val (.ref aa), .val (.int (2 : Int32)), .val (.int (4 : Int32)), .val (.int (1 : Int32)), .val (.int (2 : Int32)), .unset]) rfl ?_
    show Sp p e below m s₁ 14 #[.val (.ref aa), .val (.int (2 : Int32)), .val (.int (4 : Int32)), .val (.int (1 : Int32)), .val (.int (2 : Int32)), .unset] [] _
    refine XS.iloadN X0.here hx rfl (hb hby d8_14) rfl ?_
    refine XS.ifNo X0.here hx rfl (hb hby d8_15) rfl ((if0 _ _).trans (feq (by decide : ¬ ((1 : Int32) = (0 : Int32)))).1) ?_
    refine XS.iload X0.here hx rfl (hb hby d8_18) rfl ?_
    refine XS.iloadN X0.here hx rfl (hb hby d8_20) rfl ?_
    refine XS.icmpNo X0.here hx rfl (hb hby d8_21) rfl (tlt (by decide : ((2 : Int32) < (4 : Int32)))).2.1 ?_
    refine XS.aloadN X0.here hx rfl (hb hby d8_24) rfl rfl ?_
    refine XS.iload X0.here hx rfl (hb hby d8_25) rfl ?_
    refine st907.trans ?_
    show Sp p e below m T907 30 #[.val (.ref aa), .val (.int (2 : Int32)), .val (.int (4 : Int32)), .val (.int (1 : Int32)), .val (.int (2 : Int32)), .unset] [(.int cc2)] _
    refine XS.istore X907.here hx rfl (hb hby d8_30) rfl (l' := #[.val (.ref aa), .val (.int (2 : Int32)), .val (.int (4 : Int32)), .val (.int (1 : Int32)), .val (.int (2 : Int32)), .val (.int cc2)]) rfl ?_
    refine XS.iload X907.here hx rfl (hb hby d8_32) rfl ?_
    refine XS.bipush X907.here hx rfl (hb hby d8_34) ?_
    exact k
  by_cases hc36_909 : cc2 < (48 : Int32)
  · obtain ⟨fs, hr, hrun, hended, hW, hsame⟩ := X907.leave (v := some (.int (0 : Int32))) (fun h => by rw [Bd.returns] at h; cases h)
    refine ⟨_, _, pre908 _ ?_, hrun, hended, _, _, rfl, ?_, ⟨_, rfl⟩, hW, hsame.mono (by decide) (by decide)⟩
    · show Sp p e below m T907 36 #[.val (.ref aa), .val (.int (2 : Int32)), .val (.int (4 : Int32)), .val (.int (1 : Int32)), .val (.int (2 : Int32)), .val (.int cc2)] [(.int (48 : Int32)), (.int cc2)] _
      refine XS.icmpYes X907.here hx rfl (pc0 := 36) (pc' := 50) rfl (hb hby d8_36) rfl (tlt hc36_909).1 (by decide) (by decide) ?_
      refine XS.iconst X907.here hx rfl (hb hby d8_50) ?_
      refine XS.istoreN X907.here hx rfl (hb hby d8_51) rfl (l' := #[.val (.ref aa), .val (.int (2 : Int32)), .val (.int (4 : Int32)), .val (.int (0 : Int32)), .val (.int (2 : Int32)), .val (.int cc2)]) rfl ?_
      refine XS.iinc X907.here hx rfl (hb hby d8_52) rfl (l' := #[.val (.ref aa), .val (.int (2 : Int32)), .val (.int (4 : Int32)), .val (.int (0 : Int32)), .val (.int (3 : Int32)), .val (.int cc2)]) rfl ?_
      refine XS.goto X907.here hx rfl (pc0 := 55) (pc' := 14) rfl (hb hby d8_55) (by decide) (by decide) ?_
      show Sp p e below m T907 14 #[.val (.ref aa), .val (.int (2 : Int32)), .val (.int (4 : Int32)), .val (.int (0 : Int32)), .val (.int (3 : Int32)), .val (.int cc2)] [] _
      refine XS.iloadN X907.here hx rfl (hb hby d8_14) rfl ?_
      refine XS.ifYes X907.here hx rfl (pc0 := 15) (pc' := 58) rfl (hb hby d8_15) rfl ((if0 _ _).trans (teq (by decide : ((0 : Int32) = (0 : Int32)))).1) (by decide) (by decide) ?_
      refine XS.iloadN X907.here hx rfl (hb hby d8_58) rfl ?_
      exact retN X907 hx (t := .boolean) Bd.returns (by simp) (hb hby d8_59) hr
    · show Q8f2t4 Z aa cs vf ab kb cc0 cc1 cc2 cc3 h0 n0 _ T907.heap _
      rw [e907]
      exact ⟨(by simp [own_dg, hc36_909]), N907, rfl⟩
  · have pre910 : ∀ t, Sp p e below m T907 43 #[.val (.ref aa), .val (.int (2 : Int32)), .val (.int (4 : Int32)), .val (.int (1 : Int32)), .val (.int (2 : Int32)), .val (.int cc2)] [(.int (57 : Int32)), (.int cc2)] t → SG p e below G0 t := by
      intro t k
      refine pre908 t ?_
      show Sp p e below m T907 36 #[.val (.ref aa), .val (.int (2 : Int32)), .val (.int (4 : Int32)), .val (.int (1 : Int32)), .val (.int (2 : Int32)), .val (.int cc2)] [(.int (48 : Int32)), (.int cc2)] _
      refine XS.icmpNo X907.here hx rfl (hb hby d8_36) rfl (flt hc36_909).1 ?_
      refine XS.iload X907.here hx rfl (hb hby d8_39) rfl ?_
      refine XS.bipush X907.here hx rfl (hb hby d8_41) ?_
      exact k
    by_cases hc43_911 : (57 : Int32) < cc2
    · obtain ⟨fs, hr, hrun, hended, hW, hsame⟩ := X907.leave (v := some (.int (0 : Int32))) (fun h => by rw [Bd.returns] at h; cases h)
      refine ⟨_, _, pre910 _ ?_, hrun, hended, _, _, rfl, ?_, ⟨_, rfl⟩, hW, hsame.mono (by decide) (by decide)⟩
      · show Sp p e below m T907 43 #[.val (.ref aa), .val (.int (2 : Int32)), .val (.int (4 : Int32)), .val (.int (1 : Int32)), .val (.int (2 : Int32)), .val (.int cc2)] [(.int (57 : Int32)), (.int cc2)] _
        refine XS.icmpYes X907.here hx rfl (pc0 := 43) (pc' := 50) rfl (hb hby d8_43) rfl (tlt hc43_911).2.2.1 (by decide) (by decide) ?_
        refine XS.iconst X907.here hx rfl (hb hby d8_50) ?_
        show Sp p e below m T907 51 #[.val (.ref aa), .val (.int (2 : Int32)), .val (.int (4 : Int32)), .val (.int (1 : Int32)), .val (.int (2 : Int32)), .val (.int cc2)] [(.int (0 : Int32))] _
        refine XS.istoreN X907.here hx rfl (hb hby d8_51) rfl (l' := #[.val (.ref aa), .val (.int (2 : Int32)), .val (.int (4 : Int32)), .val (.int (0 : Int32)), .val (.int (2 : Int32)), .val (.int cc2)]) rfl ?_
        refine XS.iinc X907.here hx rfl (hb hby d8_52) rfl (l' := #[.val (.ref aa), .val (.int (2 : Int32)), .val (.int (4 : Int32)), .val (.int (0 : Int32)), .val (.int (3 : Int32)), .val (.int cc2)]) rfl ?_
        refine XS.goto X907.here hx rfl (pc0 := 55) (pc' := 14) rfl (hb hby d8_55) (by decide) (by decide) ?_
        refine XS.iloadN X907.here hx rfl (hb hby d8_14) rfl ?_
        refine XS.ifYes X907.here hx rfl (pc0 := 15) (pc' := 58) rfl (hb hby d8_15) rfl ((if0 _ _).trans (teq (by decide : ((0 : Int32) = (0 : Int32)))).1) (by decide) (by decide) ?_
        refine XS.iloadN X907.here hx rfl (hb hby d8_58) rfl ?_
        exact retN X907 hx (t := .boolean) Bd.returns (by simp) (hb hby d8_59) hr
      · show Q8f2t4 Z aa cs vf ab kb cc0 cc1 cc2 cc3 h0 n0 _ T907.heap _
        rw [e907]
        exact ⟨(by simp [own_dg, hc36_909, hc43_911]), N907, rfl⟩
    · obtain ⟨cq912, kq912, q912a, q912b, q912c⟩ := isOf hZ e907 Ea
      obtain ⟨_, _, ⟨T912, L912, k912, n912⟩, -, X912, ⟨Lc912, hQ912, l912, y912, z912⟩, st912⟩ := X907.virtualBack hx hown (mvT hZ (H 64 _ rfl)) (mvT hZ (H 65 _ rfl)) (notFace_of_selects (args := #[]) (mvT hZ (H 67 _ rfl))) (mvT hZ (H 67 _ rfl)) (mvT hZ (H 66 _ rfl)) (by decide) (backOf (W := 0) (rm16i3 l Z a0 hw [] aa cs vf ab kb cc0 cc1 cc2 cc3 h0 n0 Z0 O0 Scs hcs Ssf hvf Sas Shs Sls Ea Fv Hs hr0 hr1 hr2 hr3) hZ (H 68 _ rfl) (H 7 _ rfl) (by decide) (by decide)) q912a q912c (g := (mkF m 27 #[.val (.ref aa), .val (.int (2 : Int32)), .val (.int (4 : Int32)), .val (.int (1 : Int32)), .val (.int (3 : Int32)), .val (.int cc2)] [(.int (3 : Int32)), (.ref aa)])) rfl (by rw [hml]; rfl) (Steps.refl _) (argsL := [(.int (3 : Int32))]) (rest := []) (lenOf own_pd266 rfl) rfl (Nat.le_of_eq rfl) (hb hby d8_27) (fun _ _ => ⟨rfl, e907, (by decide : 0 + 0 ≤ _), (by decide : 0 + 0 ≤ _)⟩)
      dsimp only [Pt.U, Pt.locs, Pt.cells, Pt.slots] at X912 l912 y912 z912 st912 hQ912
      rw [l912, y912, z912] at X912
      obtain ⟨rfl, Nq912, e912⟩ := hQ912
      have N912 := Fr.app N907 Nq912
      have pre913 : ∀ t, Sp p e below m T912 36 #[.val (.ref aa), .val (.int (2 : Int32)), .val (.int (4 : Int32)), .val (.int (1 : Int32)), .val (.int (3 : Int32)), .val (.int cc3)] [(.int (48 : Int32)), (.int cc3)] t → SG p e below G0 t := by
        intro t k
        refine pre910 t ?_
        show Sp p e below m T907 43 #[.val (.ref aa), .val (.int (2 : Int32)), .val (.int (4 : Int32)), .val (.int (1 : Int32)), .val (.int (2 : Int32)), .val (.int cc2)] [(.int (57 : Int32)), (.int cc2)] _
        refine XS.icmpNo X907.here hx rfl (hb hby d8_43) rfl (flt hc43_911).2.2.1 ?_
        refine XS.iconst X907.here hx rfl (hb hby d8_46) ?_
        show Sp p e below m T907 47 #[.val (.ref aa), .val (.int (2 : Int32)), .val (.int (4 : Int32)), .val (.int (1 : Int32)), .val (.int (2 : Int32)), .val (.int cc2)] [(.int (1 : Int32))] _
        refine XS.goto X907.here hx rfl (pc0 := 47) (pc' := 51) rfl (hb hby d8_47) (by decide) (by decide) ?_
        refine XS.istoreN X907.here hx rfl (hb hby d8_51) rfl (l' := #[.val (.ref aa), .val (.int (2 : Int32)), .val (.int (4 : Int32)), .val (.int (1 : Int32)), .val (.int (2 : Int32)), .val (.int cc2)]) rfl ?_
        refine XS.iinc X907.here hx rfl (hb hby d8_52) rfl (l' := #[.val (.ref aa), .val (.int (2 : Int32)), .val (.int (4 : Int32)), .val (.int (1 : Int32)), .val (.int (3 : Int32)), .val (.int cc2)]) rfl ?_
        refine XS.goto X907.here hx rfl (pc0 := 55) (pc' := 14) rfl (hb hby d8_55) (by decide) (by decide) ?_
        refine XS.iloadN X907.here hx rfl (hb hby d8_14) rfl ?_
        refine XS.ifNo X907.here hx rfl (hb hby d8_15) rfl ((if0 _ _).trans (feq (by decide : ¬ ((1 : Int32) = (0 : Int32)))).1) ?_
        refine XS.iload X907.here hx rfl (hb hby d8_18) rfl ?_
        refine XS.iloadN X907.here hx rfl (hb hby d8_20) rfl ?_
        show Sp p e below m T907 21 #[.val (.ref aa), .val (.int (2 : Int32)), .val (.int (4 : Int32)), .val (.int (1 : Int32)), .val (.int (3 : Int32)), .val (.int cc2)] [(.int (4 : Int32)), (.int (3 : Int32))] _
        refine XS.icmpNo X907.here hx rfl (hb hby d8_21) rfl (tlt (by decide : ((3 : Int32) < (4 : Int32)))).2.1 ?_
        refine XS.aloadN X907.here hx rfl (hb hby d8_24) rfl rfl ?_
        refine XS.iload X907.here hx rfl (hb hby d8_25) rfl ?_
        refine st912.trans ?_
        show Sp p e below m T912 30 #[.val (.ref aa), .val (.int (2 : Int32)), .val (.int (4 : Int32)), .val (.int (1 : Int32)), .val (.int (3 : Int32)), .val (.int cc2)] [(.int cc3)] _
        refine XS.istore X912.here hx rfl (hb hby d8_30) rfl (l' := #[.val (.ref aa), .val (.int (2 : Int32)), .val (.int (4 : Int32)), .val (.int (1 : Int32)), .val (.int (3 : Int32)), .val (.int cc3)]) rfl ?_
        refine XS.iload X912.here hx rfl (hb hby d8_32) rfl ?_
        refine XS.bipush X912.here hx rfl (hb hby d8_34) ?_
        exact k
      by_cases hc36_914 : cc3 < (48 : Int32)
      · obtain ⟨fs, hr, hrun, hended, hW, hsame⟩ := X912.leave (v := some (.int (0 : Int32))) (fun h => by rw [Bd.returns] at h; cases h)
        refine ⟨_, _, pre913 _ ?_, hrun, hended, _, _, rfl, ?_, ⟨_, rfl⟩, hW, hsame.mono (by decide) (by decide)⟩
        · show Sp p e below m T912 36 #[.val (.ref aa), .val (.int (2 : Int32)), .val (.int (4 : Int32)), .val (.int (1 : Int32)), .val (.int (3 : Int32)), .val (.int cc3)] [(.int (48 : Int32)), (.int cc3)] _
          refine XS.icmpYes X912.here hx rfl (pc0 := 36) (pc' := 50) rfl (hb hby d8_36) rfl (tlt hc36_914).1 (by decide) (by decide) ?_
          refine XS.iconst X912.here hx rfl (hb hby d8_50) ?_
          refine XS.istoreN X912.here hx rfl (hb hby d8_51) rfl (l' := #[.val (.ref aa), .val (.int (2 : Int32)), .val (.int (4 : Int32)), .val (.int (0 : Int32)), .val (.int (3 : Int32)), .val (.int cc3)]) rfl ?_
          refine XS.iinc X912.here hx rfl (hb hby d8_52) rfl (l' := #[.val (.ref aa), .val (.int (2 : Int32)), .val (.int (4 : Int32)), .val (.int (0 : Int32)), .val (.int (4 : Int32)), .val (.int cc3)]) rfl ?_
          refine XS.goto X912.here hx rfl (pc0 := 55) (pc' := 14) rfl (hb hby d8_55) (by decide) (by decide) ?_
          show Sp p e below m T912 14 #[.val (.ref aa), .val (.int (2 : Int32)), .val (.int (4 : Int32)), .val (.int (0 : Int32)), .val (.int (4 : Int32)), .val (.int cc3)] [] _
          refine XS.iloadN X912.here hx rfl (hb hby d8_14) rfl ?_
          refine XS.ifYes X912.here hx rfl (pc0 := 15) (pc' := 58) rfl (hb hby d8_15) rfl ((if0 _ _).trans (teq (by decide : ((0 : Int32) = (0 : Int32)))).1) (by decide) (by decide) ?_
          refine XS.iloadN X912.here hx rfl (hb hby d8_58) rfl ?_
          exact retN X912 hx (t := .boolean) Bd.returns (by simp) (hb hby d8_59) hr
        · show Q8f2t4 Z aa cs vf ab kb cc0 cc1 cc2 cc3 h0 n0 _ T912.heap _
          rw [e912]
          exact ⟨(by simp [own_dg, hc36_909, hc43_911, hc36_914]), N912, rfl⟩
      · have pre915 : ∀ t, Sp p e below m T912 43 #[.val (.ref aa), .val (.int (2 : Int32)), .val (.int (4 : Int32)), .val (.int (1 : Int32)), .val (.int (3 : Int32)), .val (.int cc3)] [(.int (57 : Int32)), (.int cc3)] t → SG p e below G0 t := by
          intro t k
          refine pre913 t ?_
          show Sp p e below m T912 36 #[.val (.ref aa), .val (.int (2 : Int32)), .val (.int (4 : Int32)), .val (.int (1 : Int32)), .val (.int (3 : Int32)), .val (.int cc3)] [(.int (48 : Int32)), (.int cc3)] _
          refine XS.icmpNo X912.here hx rfl (hb hby d8_36) rfl (flt hc36_914).1 ?_
          refine XS.iload X912.here hx rfl (hb hby d8_39) rfl ?_
          refine XS.bipush X912.here hx rfl (hb hby d8_41) ?_
          exact k
        by_cases hc43_916 : (57 : Int32) < cc3
        · obtain ⟨fs, hr, hrun, hended, hW, hsame⟩ := X912.leave (v := some (.int (0 : Int32))) (fun h => by rw [Bd.returns] at h; cases h)
          refine ⟨_, _, pre915 _ ?_, hrun, hended, _, _, rfl, ?_, ⟨_, rfl⟩, hW, hsame.mono (by decide) (by decide)⟩
          · show Sp p e below m T912 43 #[.val (.ref aa), .val (.int (2 : Int32)), .val (.int (4 : Int32)), .val (.int (1 : Int32)), .val (.int (3 : Int32)), .val (.int cc3)] [(.int (57 : Int32)), (.int cc3)] _
            refine XS.icmpYes X912.here hx rfl (pc0 := 43) (pc' := 50) rfl (hb hby d8_43) rfl (tlt hc43_916).2.2.1 (by decide) (by decide) ?_
            refine XS.iconst X912.here hx rfl (hb hby d8_50) ?_
            show Sp p e below m T912 51 #[.val (.ref aa), .val (.int (2 : Int32)), .val (.int (4 : Int32)), .val (.int (1 : Int32)), .val (.int (3 : Int32)), .val (.int cc3)] [(.int (0 : Int32))] _
            refine XS.istoreN X912.here hx rfl (hb hby d8_51) rfl (l' := #[.val (.ref aa), .val (.int (2 : Int32)), .val (.int (4 : Int32)), .val (.int (0 : Int32)), .val (.int (3 : Int32)), .val (.int cc3)]) rfl ?_
            refine XS.iinc X912.here hx rfl (hb hby d8_52) rfl (l' := #[.val (.ref aa), .val (.int (2 : Int32)), .val (.int (4 : Int32)), .val (.int (0 : Int32)), .val (.int (4 : Int32)), .val (.int cc3)]) rfl ?_
            refine XS.goto X912.here hx rfl (pc0 := 55) (pc' := 14) rfl (hb hby d8_55) (by decide) (by decide) ?_
            refine XS.iloadN X912.here hx rfl (hb hby d8_14) rfl ?_
            refine XS.ifYes X912.here hx rfl (pc0 := 15) (pc' := 58) rfl (hb hby d8_15) rfl ((if0 _ _).trans (teq (by decide : ((0 : Int32) = (0 : Int32)))).1) (by decide) (by decide) ?_
            refine XS.iloadN X912.here hx rfl (hb hby d8_58) rfl ?_
            exact retN X912 hx (t := .boolean) Bd.returns (by simp) (hb hby d8_59) hr
          · show Q8f2t4 Z aa cs vf ab kb cc0 cc1 cc2 cc3 h0 n0 _ T912.heap _
            rw [e912]
            exact ⟨(by simp [own_dg, hc36_909, hc43_911, hc36_914, hc43_916]), N912, rfl⟩
        · obtain ⟨fs, hr, hrun, hended, hW, hsame⟩ := X912.leave (v := some (.int (1 : Int32))) (fun h => by rw [Bd.returns] at h; cases h)
          refine ⟨_, _, pre915 _ ?_, hrun, hended, _, _, rfl, ?_, ⟨_, rfl⟩, hW, hsame.mono (by decide) (by decide)⟩
          · show Sp p e below m T912 43 #[.val (.ref aa), .val (.int (2 : Int32)), .val (.int (4 : Int32)), .val (.int (1 : Int32)), .val (.int (3 : Int32)), .val (.int cc3)] [(.int (57 : Int32)), (.int cc3)] _
            refine XS.icmpNo X912.here hx rfl (hb hby d8_43) rfl (flt hc43_916).2.2.1 ?_
            refine XS.iconst X912.here hx rfl (hb hby d8_46) ?_
            show Sp p e below m T912 47 #[.val (.ref aa), .val (.int (2 : Int32)), .val (.int (4 : Int32)), .val (.int (1 : Int32)), .val (.int (3 : Int32)), .val (.int cc3)] [(.int (1 : Int32))] _
            refine XS.goto X912.here hx rfl (pc0 := 47) (pc' := 51) rfl (hb hby d8_47) (by decide) (by decide) ?_
            refine XS.istoreN X912.here hx rfl (hb hby d8_51) rfl (l' := #[.val (.ref aa), .val (.int (2 : Int32)), .val (.int (4 : Int32)), .val (.int (1 : Int32)), .val (.int (3 : Int32)), .val (.int cc3)]) rfl ?_
            refine XS.iinc X912.here hx rfl (hb hby d8_52) rfl (l' := #[.val (.ref aa), .val (.int (2 : Int32)), .val (.int (4 : Int32)), .val (.int (1 : Int32)), .val (.int (4 : Int32)), .val (.int cc3)]) rfl ?_
            refine XS.goto X912.here hx rfl (pc0 := 55) (pc' := 14) rfl (hb hby d8_55) (by decide) (by decide) ?_
            refine XS.iloadN X912.here hx rfl (hb hby d8_14) rfl ?_
            refine XS.ifNo X912.here hx rfl (hb hby d8_15) rfl ((if0 _ _).trans (feq (by decide : ¬ ((1 : Int32) = (0 : Int32)))).1) ?_
            refine XS.iload X912.here hx rfl (hb hby d8_18) rfl ?_
            refine XS.iloadN X912.here hx rfl (hb hby d8_20) rfl ?_
            show Sp p e below m T912 21 #[.val (.ref aa), .val (.int (2 : Int32)), .val (.int (4 : Int32)), .val (.int (1 : Int32)), .val (.int (4 : Int32)), .val (.int cc3)] [(.int (4 : Int32)), (.int (4 : Int32))] _
            refine XS.icmpYes X912.here hx rfl (pc0 := 21) (pc' := 58) rfl (hb hby d8_21) rfl (flt (by decide : ¬ ((4 : Int32) < (4 : Int32)))).2.1 (by decide) (by decide) ?_
            refine XS.iloadN X912.here hx rfl (hb hby d8_58) rfl ?_
            exact retN X912 hx (t := .boolean) Bd.returns (by simp) (hb hby d8_59) hr
          · show Q8f2t4 Z aa cs vf ab kb cc0 cc1 cc2 cc3 h0 n0 _ T912.heap _
            rw [e912]
            exact ⟨(by simp [own_dg, hc36_909, hc43_911, hc36_914, hc43_916]), N912, rfl⟩
theorem ef_8f3t4 (m : MethodId) (x0 : Addr) : entryFrame m #[(.ref x0), (.int (3 : Int32)), (.int (4 : Int32))] 6 = mkF m 0 #[.val (.ref x0), .val (.int (3 : Int32)), .val (.int (4 : Int32)), .unset, .unset, .unset] [] := by first | (simp [entryFrame, mkF, argsToLocals, Value.category]; done) | rfl
def Q8f3t4 (Z : State) (aa : Addr) (cs : Int32) (vf : Value) (ab : Addr) (kb : ClassId) (cc0 : Int32) (cc1 : Int32) (cc2 : Int32) (cc3 : Int32) (h0 : Heap) (n0 : Nat) (v : Option Value) (h : Heap) (L : List Loc) : Prop := v = some (.int (own_dg cc3)) ∧ Fr n0 L ∧ h = h0
theorem rm8f3t4 (l : Launch) (Z : State) (a0 : Array Value) (hw : ∀ d ∈ tables_1, d.before a0 Z = true) (ws : List Jvm.Cond) (aa : Addr) (cs : Int32) (vf : Value) (ab : Addr) (kb : ClassId) (cc0 : Int32) (cc1 : Int32) (cc2 : Int32) (cc3 : Int32) (h0 : Heap) (n0 : Nat) (Z0 : n0 ≤ h0.size) (O0 : Old Z n0 h0) (Scs : Sta Z Z.heap "java/lang/String" "COMPACT_STRINGS" "Z" (.int cs)) (hcs : ¬ cs = (0 : Int32)) (Ssf : Sta Z Z.heap "jdk/internal/util/Preconditions" "SIOOBE_FORMATTER" "Ljava/util/function/BiFunction;" vf) (hvf : vf.isRef = true) (Sas : Sta Z Z.heap "java/lang/StringUTF16" "$assertionsDisabled" "Z" (.int (1 : Int32))) (Shs : Sta Z Z.heap "java/lang/StringUTF16" "HI_BYTE_SHIFT" "I" (.int (0 : Int32))) (Sls : Sta Z Z.heap "java/lang/StringUTF16" "LO_BYTE_SHIFT" "I" (.int (8 : Int32))) (Ea : Exa Z h0 aa "java/lang/String") (Fv : Fld Z h0 aa "java/lang/String" "value" "[B" (.ref ab)) (Hs : own_str Z h0 aa ab kb cc0 cc1 cc2 cc3) (hr0 : 0 ≤ cc0.toInt ∧ cc0.toInt ≤ 65535) (hr1 : 0 ≤ cc1.toInt ∧ cc1.toInt ≤ 65535) (hr2 : 0 ≤ cc2.toInt ∧ cc2.toInt ≤ 65535) (hr3 : 0 ≤ cc3.toInt ∧ cc3.toInt ≤ 65535) :
    MetFree l (⟨"com/example/vestwright/vestwright/PlainNumber", "isDigits", "(Ljava/lang/String;II)Z"⟩ : MethodName) (head1 (Jvm.Cond.code (⟨"com/example/vestwright/vestwright/PlainNumber", "isDigits", "(Ljava/lang/String;II)Z"⟩ : MethodName) prog_43_method_4_code 6 (some .boolean) :: ws) ({ frames := 5, cells := 0, slots := 0, locals := 66 } : Room)) (fun a U => a = #[(.ref aa), (.int (3 : Int32)), (.int (4 : Int32))] ∧ Z.Warmed39 U.vm ∧ U.heap = h0) (fun _ _ _ _ _ => True) (fun _ U o U' => ∃ v L, o = .returned v ∧ Q8f3t4 Z aa cs vf ab kb cc0 cc1 cc2 cc3 h0 n0 v U'.heap L ∧ FrameEnd U o U' L ({ frames := 5, cells := 0, slots := 0, locals := 66 } : Room).cells ({ frames := 5, cells := 0, slots := 0, locals := 66 } : Room).slots) := by
  refine MetFree.of_bodySF (plainFor_of_name own_pn257) hisR ?_
  intro p e s m args below meth c s₁ Bd hml0 hP hK
  have H := fun i c (h : tables_1[i]? = some c) => hw c (List.mem_of_getElem? h)
  obtain ⟨rfl, hZ, hh⟩ := hP
  have hx := Bd.exec
  have hby := Bd.bytes
  have hml : c.maxLocals = 6 := hml0
  have hown : s.vm.findClass "com/example/vestwright/vestwright/PlainNumber" = some m.cls := findClass_of_methodNamed Bd.named
  have hnm := (name_of_methodNamed Bd.named Bd.method).1
  have X0 : Stand p l e ({ frames := 5, cells := 0, slots := 0, locals := 66 } : Room) s m #[(.ref aa), (.int (3 : Int32)), (.int (4 : Int32))] below meth c s₁ [] 0 0 := Stand.of_body Bd
  have e0 : s₁.heap = h0 := by rw [← hh, Bd.state]; rfl
  have N0 := Fr.nil n0
  have pre0 : ∀ t, Sp p e below m s₁ 0 #[.val (.ref aa), .val (.int (3 : Int32)), .val (.int (4 : Int32)), .unset, .unset, .unset] [] t → Steps p.tables e below (s₁.setTop (entryFrame m #[(.ref aa), (.int (3 : Int32)), (.int (4 : Int32))] 6)) t := fun t k => castTop (ef_8f3t4 m aa) k
  generalize s₁.setTop (entryFrame m #[(.ref aa), (.int (3 : Int32)), (.int (4 : Int32))] 6) = G0 at pre0 ⊢
  obtain ⟨cq922, kq922, q922a, q922b, q922c⟩ := isOf hZ e0 Ea
  obtain ⟨_, _, ⟨T922, L922, k922, n922⟩, -, X922, ⟨Lc922, hQ922, l922, y922, z922⟩, st922⟩ := X0.virtualBack hx hown (mvT hZ (H 64 _ rfl)) (mvT hZ (H 65 _ rfl)) (notFace_of_selects (args := #[]) (mvT hZ (H 67 _ rfl))) (mvT hZ (H 67 _ rfl)) (mvT hZ (H 66 _ rfl)) (by decide) (backOf (W := 0) (rm16i3 l Z a0 hw [] aa cs vf ab kb cc0 cc1 cc2 cc3 h0 n0 Z0 O0 Scs hcs Ssf hvf Sas Shs Sls Ea Fv Hs hr0 hr1 hr2 hr3) hZ (H 68 _ rfl) (H 7 _ rfl) (by decide) (by decide)) q922a q922c (g := (mkF m 27 #[.val (.ref aa), .val (.int (3 : Int32)), .val (.int (4 : Int32)), .val (.int (1 : Int32)), .val (.int (3 : Int32)), .unset] [(.int (3 : Int32)), (.ref aa)])) rfl (by rw [hml]; rfl) (Steps.refl _) (argsL := [(.int (3 : Int32))]) (rest := []) (lenOf own_pd266 rfl) rfl (Nat.le_of_eq rfl) (hb hby d8_27) (fun _ _ => ⟨rfl, e0, (by decide : 0 + 0 ≤ _), (by decide : 0 + 0 ≤ _)⟩)
  dsimp only [Pt.U, Pt.locs, Pt.cells, Pt.slots] at X922 l922 y922 z922 st922 hQ922
  rw [l922, y922, z922] at X922
  obtain ⟨rfl, Nq922, e922⟩ := hQ922
  have N922 := Fr.app N0 Nq922
  have pre923 : ∀ t, Sp p e below m T922 36 #[.val (.ref aa), .val (.int (3 : Int32)), .val (.int (4 : Int32)), .val (.int (1 : Int32)), .val (.int (3 : Int32)), .val (.int cc3)] [(.int (48 : Int32)), (.int cc3)] t → SG p e below G0 t := by
    intro t k
    refine pre0 t ?_
    show Sp p e below m s₁ 0 #[.val (.ref aa), .val (.int (3 : Int32)), .val (.int (4 : Int32)), .unset, .unset, .unset] [] _
    refine XS.iloadN X0.here hx rfl (hb hby d8_0) rfl ?_
    refine XS.iloadN X0.here hx rfl (hb hby d8_1) rfl ?_
    refine XS.icmpNo X0.here hx rfl (hb hby d8_2) rfl (tlt (by decide : ((3 : Int32) < (4 : Int32)))).2.1 ?_
    refine XS.iconst X0.here hx rfl (hb hby d8_5) ?_
    refine XS.goto X0.here hx rfl (pc0 := 6) (pc' := 10) rfl (hb hby d8_6) (by decide) (by decide) ?_
    refine XS.istoreN X0.here hx rfl (hb hby d8_10) rfl (l' := #[.val (.ref aa), .val (.int (3 : Int32)), .val (.int (4 : Int32)), .val (.int (1 : Int32)), .unset, .unset]) rfl ?_
    refine XS.iloadN X0.here hx rfl (hb hby d8_11) rfl ?_
    refine XS.istore X0.here hx rfl (hb hby d8_12) rfl (l' := #[.val (.ref aa), .val (.int (3 : Int32)), .val (.int (4 : Int32)), .val (.int (1 : Int32)), .val (.int (3 : Int32)), .unset]) rfl ?_
    show Sp p e below m s₁ 14 #[.val (.ref aa), .val (.int (3 : Int32)), .val (.int (4 : Int32)), .val (.int (1 : Int32)), .val (.int (3 : Int32)), .unset] [] _
    refine XS.iloadN X0.here hx rfl (hb hby d8_14) rfl ?_
    refine XS.ifNo X0.here hx rfl (hb hby d8_15) rfl ((if0 _ _).trans (feq (by decide : ¬ ((1 : Int32) = (0 : Int32)))).1) ?_
    refine XS.iload X0.here hx rfl (hb hby d8_18) rfl ?_
    refine XS.iloadN X0.here hx rfl (hb hby d8_20) rfl ?_
    refine XS.icmpNo X0.here hx rfl (hb hby d8_21) rfl (tlt (by decide : ((3 : Int32) < (4 : Int32)))).2.1 ?_
    refine XS.aloadN X0.here hx rfl (hb hby d8_24) rfl rfl ?_
    refine XS.iload X0.here hx rfl (hb hby d8_25) rfl ?_
    refine st922.trans ?_
    show Sp p e below m T922 30 #[.val (.ref aa), .val (.int (3 : Int32)), .val (.int (4 : Int32)), .val (.int (1 : Int32)), .val (.int (3 : Int32)), .unset] [(.int cc3)] _
    refine XS.istore X922.here hx rfl (hb hby d8_30) rfl (l' := #[.val (.ref aa), .val (.int (3 : Int32)), .val (.int (4 : Int32)), .val (.int (1 : Int32)), .val (.int (3 : Int32)), .val (.int cc3)]) rfl ?_
    refine XS.iload X922.here hx rfl (hb hby d8_32) rfl ?_
    refine XS.bipush X922.here hx rfl (hb hby d8_34) ?_
    exact k
  by_cases hc36_924 : cc3 < (48 : Int32)
  · obtain ⟨fs, hr, hrun, hended, hW, hsame⟩ := X922.leave (v := some (.int (0 : Int32))) (fun h => by rw [Bd.returns] at h; cases h)
    refine ⟨_, _, pre923 _ ?_, hrun, hended, _, _, rfl, ?_, ⟨_, rfl⟩, hW, hsame.mono (by decide) (by decide)⟩
    · show Sp p e below m T922 36 #[.val (.ref aa), .val (.int (3 : Int32)), .val (.int (4 : Int32)), .val (.int (1 : Int32)), .val (.int (3 : Int32)), .val (.int cc3)] [(.int (48 : Int32)), (.int cc3)] _
      refine XS.icmpYes X922.here hx rfl (pc0 := 36) (pc' := 50) rfl (hb hby d8_36) rfl (tlt hc36_924).1 (by decide) (by decide) ?_
      refine XS.iconst X922.here hx rfl (hb hby d8_50) ?_
      refine XS.istoreN X922.here hx rfl (hb hby d8_51) rfl (l' := #[.val (.ref aa), .val (.int (3 : Int32)), .val (.int (4 : Int32)), .val (.int (0 : Int32)), .val (.int (3 : Int32)), .val (.int cc3)]) rfl ?_
      refine XS.iinc X922.here hx rfl (hb hby d8_52) rfl (l' := #[.val (.ref aa), .val (.int (3 : Int32)), .val (.int (4 : Int32)), .val (.int (0 : Int32)), .val (.int (4 : Int32)), .val (.int cc3)]) rfl ?_
      refine XS.goto X922.here hx rfl (pc0 := 55) (pc' := 14) rfl (hb hby d8_55) (by decide) (by decide) ?_
      show Sp p e below m T922 14 #[.val (.ref aa), .val (.int (3 : Int32)), .val (.int (4 : Int32)), .val (.int (0 : Int32)), .val (.int (4 : Int32)), .val (.int cc3)] [] _
      refine XS.iloadN X922.here hx rfl (hb hby d8_14) rfl ?_
      refine XS.ifYes X922.here hx rfl (pc0 := 15) (pc' := 58) rfl (hb hby d8_15) rfl ((if0 _ _).trans (teq (by decide : ((0 : Int32) = (0 : Int32)))).1) (by decide) (by decide) ?_
      refine XS.iloadN X922.here hx rfl (hb hby d8_58) rfl ?_
      exact retN X922 hx (t := .boolean) Bd.returns (by simp) (hb hby d8_59) hr
    · show Q8f3t4 Z aa cs vf ab kb cc0 cc1 cc2 cc3 h0 n0 _ T922.heap _
      rw [e922]
      exact ⟨(by simp [own_dg, hc36_924]), N922, rfl⟩
  · have pre925 : ∀ t, Sp p e below m T922 43 #[.val (.ref aa), .val (.int (3 : Int32)), .val (.int (4 : Int32)), .val (.int (1 : Int32)), .val (.int (3 : Int32)), .val (.int cc3)] [(.int (57 : Int32)), (.int cc3)] t → SG p e below G0 t := by
      intro t k
      refine pre923 t ?_
      show Sp p e below m T922 36 #[.val (.ref aa), .val (.int (3 : Int32)), .val (.int (4 : Int32)), .val (.int (1 : Int32)), .val (.int (3 : Int32)), .val (.int cc3)] [(.int (48 : Int32)), (.int cc3)] _
      refine XS.icmpNo X922.here hx rfl (hb hby d8_36) rfl (flt hc36_924).1 ?_
      refine XS.iload X922.here hx rfl (hb hby d8_39) rfl ?_
      refine XS.bipush X922.here hx rfl (hb hby d8_41) ?_
      exact k
    by_cases hc43_926 : (57 : Int32) < cc3
    · obtain ⟨fs, hr, hrun, hended, hW, hsame⟩ := X922.leave (v := some (.int (0 : Int32))) (fun h => by rw [Bd.returns] at h; cases h)
      refine ⟨_, _, pre925 _ ?_, hrun, hended, _, _, rfl, ?_, ⟨_, rfl⟩, hW, hsame.mono (by decide) (by decide)⟩
      · show Sp p e below m T922 43 #[.val (.ref aa), .val (.int (3 : Int32)), .val (.int (4 : Int32)), .val (.int (1 : Int32)), .val (.int (3 : Int32)), .val (.int cc3)] [(.int (57 : Int32)), (.int cc3)] _
        refine XS.icmpYes X922.here hx rfl (pc0 := 43) (pc' := 50) rfl (hb hby d8_43) rfl (tlt hc43_926).2.2.1 (by decide) (by decide) ?_
        refine XS.iconst X922.here hx rfl (hb hby d8_50) ?_
        show Sp p e below m T922 51 #[.val (.ref aa), .val (.int (3 : Int32)), .val (.int (4 : Int32)), .val (.int (1 : Int32)), .val (.int (3 : Int32)), .val (.int cc3)] [(.int (0 : Int32))] _
        refine XS.istoreN X922.here hx rfl (hb hby d8_51) rfl (l' := #[.val (.ref aa), .val (.int (3 : Int32)), .val (.int (4 : Int32)), .val (.int (0 : Int32)), .val (.int (3 : Int32)), .val (.int cc3)]) rfl ?_
        refine XS.iinc X922.here hx rfl (hb hby d8_52) rfl (l' := #[.val (.ref aa), .val (.int (3 : Int32)), .val (.int (4 : Int32)), .val (.int (0 : Int32)), .val (.int (4 : Int32)), .val (.int cc3)]) rfl ?_
        refine XS.goto X922.here hx rfl (pc0 := 55) (pc' := 14) rfl (hb hby d8_55) (by decide) (by decide) ?_
        refine XS.iloadN X922.here hx rfl (hb hby d8_14) rfl ?_
        refine XS.ifYes X922.here hx rfl (pc0 := 15) (pc' := 58) rfl (hb hby d8_15) rfl ((if0 _ _).trans (teq (by decide : ((0 : Int32) = (0 : Int32)))).1) (by decide) (by decide) ?_
        refine XS.iloadN X922.here hx rfl (hb hby d8_58) rfl ?_
        exact retN X922 hx (t := .boolean) Bd.returns (by simp) (hb hby d8_59) hr
      · show Q8f3t4 Z aa cs vf ab kb cc0 cc1 cc2 cc3 h0 n0 _ T922.heap _
        rw [e922]
        exact ⟨(by simp [own_dg, hc36_924, hc43_926]), N922, rfl⟩
    · obtain ⟨fs, hr, hrun, hended, hW, hsame⟩ := X922.leave (v := some (.int (1 : Int32))) (fun h => by rw [Bd.returns] at h; cases h)
      refine ⟨_, _, pre925 _ ?_, hrun, hended, _, _, rfl, ?_, ⟨_, rfl⟩, hW, hsame.mono (by decide) (by decide)⟩
      · show Sp p e below m T922 43 #[.val (.ref aa), .val (.int (3 : Int32)), .val (.int (4 : Int32)), .val (.int (1 : Int32)), .val (.int (3 : Int32)), .val (.int cc3)] [(.int (57 : Int32)), (.int cc3)] _
        refine XS.icmpNo X922.here hx rfl (hb hby d8_43) rfl (flt hc43_926).2.2.1 ?_
        refine XS.iconst X922.here hx rfl (hb hby d8_46) ?_
        show Sp p e below m T922 47 #[.val (.ref aa), .val (.int (3 : Int32)), .val (.int (4 : Int32)), .val (.int (1 : Int32)), .val (.int (3 : Int32)), .val (.int cc3)] [(.int (1 : Int32))] _
        refine XS.goto X922.here hx rfl (pc0 := 47) (pc' := 51) rfl (hb hby d8_47) (by decide) (by decide) ?_
        refine XS.istoreN X922.here hx rfl (hb hby d8_51) rfl (l' := #[.val (.ref aa), .val (.int (3 : Int32)), .val (.int (4 : Int32)), .val (.int (1 : Int32)), .val (.int (3 : Int32)), .val (.int cc3)]) rfl ?_
        refine XS.iinc X922.here hx rfl (hb hby d8_52) rfl (l' := #[.val (.ref aa), .val (.int (3 : Int32)), .val (.int (4 : Int32)), .val (.int (1 : Int32)), .val (.int (4 : Int32)), .val (.int cc3)]) rfl ?_
        refine XS.goto X922.here hx rfl (pc0 := 55) (pc' := 14) rfl (hb hby d8_55) (by decide) (by decide) ?_
        refine XS.iloadN X922.here hx rfl (hb hby d8_14) rfl ?_
        refine XS.ifNo X922.here hx rfl (hb hby d8_15) rfl ((if0 _ _).trans (feq (by decide : ¬ ((1 : Int32) = (0 : Int32)))).1) ?_
        refine XS.iload X922.here hx rfl (hb hby d8_18) rfl ?_
        refine XS.iloadN X922.here hx rfl (hb hby d8_20) rfl ?_
        show Sp p e below m T922 21 #[.val (.ref aa), .val (.int (3 : Int32)), .val (.int (4 : Int32)), .val (.int (1 : Int32)), .val (.int (4 : Int32)), .val (.int cc3)] [(.int (4 : Int32)), (.int (4 : Int32))] _
        refine XS.icmpYes X922.here hx rfl (pc0 := 21) (pc' := 58) rfl (hb hby d8_21) rfl (flt (by decide : ¬ ((4 : Int32) < (4 : Int32)))).2.1 (by decide) (by decide) ?_
        refine XS.iloadN X922.here hx rfl (hb hby d8_58) rfl ?_
        exact retN X922 hx (t := .boolean) Bd.returns (by simp) (hb hby d8_59) hr
      · show Q8f3t4 Z aa cs vf ab kb cc0 cc1 cc2 cc3 h0 n0 _ T922.heap _
        rw [e922]
        exact ⟨(by simp [own_dg, hc36_924, hc43_926]), N922, rfl⟩
theorem d15_0 : decode method_4_code 0 = .ok (.iload_n 1, 1) := by decide +kernel
theorem d15_1 : decode method_4_code 1 = .ok (.iload_n 2, 1) := by decide +kernel
theorem d15_2 : decode method_4_code 2 = .ok (.if_icmp .lt 20, 3) := by decide +kernel
theorem d15_22 : decode method_4_code 22 = .ok (.iconst 1, 1) := by decide +kernel
theorem d15_23 : decode method_4_code 23 = .ok (.goto 4, 3) := by decide +kernel
theorem d15_27 : decode method_4_code 27 = .ok (.ireturn, 1) := by decide +kernel
theorem d15_5 : decode method_4_code 5 = .ok (.iload_n 1, 1) := by decide +kernel
theorem d15_6 : decode method_4_code 6 = .ok (.iload_n 3, 1) := by decide +kernel
theorem d15_7 : decode method_4_code 7 = .ok (.if_icmp .ge 15, 3) := by decide +kernel
theorem d15_10 : decode method_4_code 10 = .ok (.iload_n 0, 1) := by decide +kernel
theorem d15_11 : decode method_4_code 11 = .ok (.bipush 48, 2) := by decide +kernel
theorem d15_13 : decode method_4_code 13 = .ok (.if_icmp .lt 13, 3) := by decide +kernel
theorem d15_26 : decode method_4_code 26 = .ok (.iconst 0, 1) := by decide +kernel
theorem d15_16 : decode method_4_code 16 = .ok (.iload_n 0, 1) := by decide +kernel
theorem d15_17 : decode method_4_code 17 = .ok (.bipush 57, 2) := by decide +kernel
theorem d15_19 : decode method_4_code 19 = .ok (.if_icmp .gt 7, 3) := by decide +kernel
theorem own_pn296 : plainName "com/example/vestwright/vestwright/PlainNumberIsDigitsPinLaw" = true := by first | (simp [plainName, overriddenIn]; done) | decide +kernel
theorem ef_15 (m : MethodId) (x0 : Int32) (x1 : Int32) (x2 : Int32) (x3 : Int32) : entryFrame m #[(.int x0), (.int x1), (.int x2), (.int x3)] 4 = mkF m 0 #[.val (.int x0), .val (.int x1), .val (.int x2), .val (.int x3)] [] := by first | (simp [entryFrame, mkF, argsToLocals, Value.category]; done) | rfl
def Q15 (Z : State) (pc_ : Int32) (pi : Int32) (pf : Int32) (pt : Int32) (h0 : Heap) (n0 : Nat) (v : Option Value) (h : Heap) (L : List Loc) : Prop := v = some (.int (own_ok pc_ pi pf pt)) ∧ Fr n0 L ∧ h = h0
theorem rm15 (l : Launch) (Z : State) (a0 : Array Value) (hw : ∀ d ∈ tables_1, d.before a0 Z = true) (ws : List Jvm.Cond) (pc_ : Int32) (pi : Int32) (pf : Int32) (pt : Int32) (h0 : Heap) (n0 : Nat) (Z0 : n0 ≤ h0.size) :
    MetFree l (⟨"com/example/vestwright/vestwright/PlainNumberIsDigitsPinLaw", "ok", "(CIII)Z"⟩ : MethodName) (head1 (Jvm.Cond.code (⟨"com/example/vestwright/vestwright/PlainNumberIsDigitsPinLaw", "ok", "(CIII)Z"⟩ : MethodName) method_4_code 4 (some .boolean) :: ws) ({ frames := 0, cells := 0, slots := 0, locals := 0 } : Room)) (fun a U => a = #[(.int pc_), (.int pi), (.int pf), (.int pt)] ∧ Z.Warmed39 U.vm ∧ U.heap = h0) (fun _ _ _ _ _ => True) (fun _ U o U' => ∃ v L, o = .returned v ∧ Q15 Z pc_ pi pf pt h0 n0 v U'.heap L ∧ FrameEnd U o U' L ({ frames := 0, cells := 0, slots := 0, locals := 0 } : Room).cells ({ frames := 0, cells := 0, slots := 0, locals := 0 } : Room).slots) := by
  refine MetFree.of_bodySF (plainFor_of_name own_pn296) hisR ?_
  intro p e s m args below meth c s₁ Bd hml0 hP hK
  have H := fun i c (h : tables_1[i]? = some c) => hw c (List.mem_of_getElem? h)
  obtain ⟨rfl, hZ, hh⟩ := hP
  have hx := Bd.exec
  have hby := Bd.bytes
  have hml : c.maxLocals = 4 := hml0
  have hown : s.vm.findClass "com/example/vestwright/vestwright/PlainNumberIsDigitsPinLaw" = some m.cls := findClass_of_methodNamed Bd.named
  have hnm := (name_of_methodNamed Bd.named Bd.method).1
  have X0 : Stand p l e ({ frames := 0, cells := 0, slots := 0, locals := 0 } : Room) s m #[(.int pc_), (.int pi), (.int pf), (.int pt)] below meth c s₁ [] 0 0 := Stand.of_body Bd
  have e0 : s₁.heap = h0 := by rw [← hh, Bd.state]; rfl
  have N0 := Fr.nil n0
  have pre0 : ∀ t, Sp p e below m s₁ 0 #[.val (.int pc_), .val (.int pi), .val (.int pf), .val (.int pt)] [] t → Steps p.tables e below (s₁.setTop (entryFrame m #[(.int pc_), (.int pi), (.int pf), (.int pt)] 4)) t := fun t k => castTop (ef_15 m pc_ pi pf pt) k
  generalize s₁.setTop (entryFrame m #[(.int pc_), (.int pi), (.int pf), (.int pt)] 4) = G0 at pre0 ⊢
  have pre935 : ∀ t, Sp p e below m s₁ 2 #[.val (.int pc_), .val (.int pi), .val (.int pf), .val (.int pt)] [(.int pf), (.int pi)] t → SG p e below G0 t := by
    intro t k
    refine pre0 t ?_
    show Sp p e below m s₁ 0 #[.val (.int pc_), .val (.int pi), .val (.int pf), .val (.int pt)] [] _
    refine XS.iloadN X0.here hx rfl (hb hby d15_0) rfl ?_
    refine XS.iloadN X0.here hx rfl (hb hby d15_1) rfl ?_
    exact k
  by_cases hc2_936 : pi < pf
  · obtain ⟨fs, hr, hrun, hended, hW, hsame⟩ := X0.leave (v := some (.int (1 : Int32))) (fun h => by rw [Bd.returns] at h; cases h)
    refine ⟨_, _, pre935 _ ?_, hrun, hended, _, _, rfl, ?_, ⟨_, rfl⟩, hW, hsame.mono (by decide) (by decide)⟩
    · show Sp p e below m s₁ 2 #[.val (.int pc_), .val (.int pi), .val (.int pf), .val (.int pt)] [(.int pf), (.int pi)] _
      refine XS.icmpYes X0.here hx rfl (pc0 := 2) (pc' := 22) rfl (hb hby d15_2) rfl (tlt hc2_936).1 (by decide) (by decide) ?_
      refine XS.iconst X0.here hx rfl (hb hby d15_22) ?_
      refine XS.goto X0.here hx rfl (pc0 := 23) (pc' := 27) rfl (hb hby d15_23) (by decide) (by decide) ?_
      exact retN X0 hx (t := .boolean) Bd.returns (by simp) (hb hby d15_27) hr
    · show Q15 Z pc_ pi pf pt h0 n0 _ s₁.heap _
      rw [e0]
      exact ⟨(by simp [own_ok, own_dg, hc2_936]), N0, rfl⟩
  · have pre937 : ∀ t, Sp p e below m s₁ 7 #[.val (.int pc_), .val (.int pi), .val (.int pf), .val (.int pt)] [(.int pt), (.int pi)] t → SG p e below G0 t := by
      intro t k
      refine pre935 t ?_
      show Sp p e below m s₁ 2 #[.val (.int pc_), .val (.int pi), .val (.int pf), .val (.int pt)] [(.int pf), (.int pi)] _
      refine XS.icmpNo X0.here hx rfl (hb hby d15_2) rfl (flt hc2_936).1 ?_
      refine XS.iloadN X0.here hx rfl (hb hby d15_5) rfl ?_
      refine XS.iloadN X0.here hx rfl (hb hby d15_6) rfl ?_
      exact k
    by_cases hc7_938 : pi < pt
    · have pre939 : ∀ t, Sp p e below m s₁ 13 #[.val (.int pc_), .val (.int pi), .val (.int pf), .val (.int pt)] [(.int (48 : Int32)), (.int pc_)] t → SG p e below G0 t := by
        intro t k
        refine pre937 t ?_
        show Sp p e below m s₁ 7 #[.val (.int pc_), .val (.int pi), .val (.int pf), .val (.int pt)] [(.int pt), (.int pi)] _
        refine XS.icmpNo X0.here hx rfl (hb hby d15_7) rfl (tlt hc7_938).2.1 ?_
        refine XS.iloadN X0.here hx rfl (hb hby d15_10) rfl ?_
        refine XS.bipush X0.here hx rfl (hb hby d15_11) ?_
        exact k
      by_cases hc13_940 : pc_ < (48 : Int32)
      · obtain ⟨fs, hr, hrun, hended, hW, hsame⟩ := X0.leave (v := some (.int (0 : Int32))) (fun h => by rw [Bd.returns] at h; cases h)
        refine ⟨_, _, pre939 _ ?_, hrun, hended, _, _, rfl, ?_, ⟨_, rfl⟩, hW, hsame.mono (by decide) (by decide)⟩
        · show Sp p e below m s₁ 13 #[.val (.int pc_), .val (.int pi), .val (.int pf), .val (.int pt)] [(.int (48 : Int32)), (.int pc_)] _
          refine XS.icmpYes X0.here hx rfl (pc0 := 13) (pc' := 26) rfl (hb hby d15_13) rfl (tlt hc13_940).1 (by decide) (by decide) ?_
          refine XS.iconst X0.here hx rfl (hb hby d15_26) ?_
          exact retN X0 hx (t := .boolean) Bd.returns (by simp) (hb hby d15_27) hr
        · show Q15 Z pc_ pi pf pt h0 n0 _ s₁.heap _
          rw [e0]
          exact ⟨(by simp [own_ok, own_dg, hc2_936, hc7_938, hc13_940]), N0, rfl⟩
      · have pre941 : ∀ t, Sp p e below m s₁ 19 #[.val (.int pc_), .val (.int pi), .val (.int pf), .val (.int pt)] [(.int (57 : Int32)), (.int pc_)] t → SG p e below G0 t := by
          intro t k
          refine pre939 t ?_
          show Sp p e below m s₁ 13 #[.val (.int pc_), .val (.int pi), .val (.int pf), .val (.int pt)] [(.int (48 : Int32)), (.int pc_)] _
          refine XS.icmpNo X0.here hx rfl (hb hby d15_13) rfl (flt hc13_940).1 ?_
          refine XS.iloadN X0.here hx rfl (hb hby d15_16) rfl ?_
          refine XS.bipush X0.here hx rfl (hb hby d15_17) ?_
          exact k
        by_cases hc19_942 : (57 : Int32) < pc_
        · obtain ⟨fs, hr, hrun, hended, hW, hsame⟩ := X0.leave (v := some (.int (0 : Int32))) (fun h => by rw [Bd.returns] at h; cases h)
          refine ⟨_, _, pre941 _ ?_, hrun, hended, _, _, rfl, ?_, ⟨_, rfl⟩, hW, hsame.mono (by decide) (by decide)⟩
          · show Sp p e below m s₁ 19 #[.val (.int pc_), .val (.int pi), .val (.int pf), .val (.int pt)] [(.int (57 : Int32)), (.int pc_)] _
            refine XS.icmpYes X0.here hx rfl (pc0 := 19) (pc' := 26) rfl (hb hby d15_19) rfl (tlt hc19_942).2.2.1 (by decide) (by decide) ?_
            refine XS.iconst X0.here hx rfl (hb hby d15_26) ?_
            exact retN X0 hx (t := .boolean) Bd.returns (by simp) (hb hby d15_27) hr
          · show Q15 Z pc_ pi pf pt h0 n0 _ s₁.heap _
            rw [e0]
            exact ⟨(by simp [own_ok, own_dg, hc2_936, hc7_938, hc13_940, hc19_942]), N0, rfl⟩
        · obtain ⟨fs, hr, hrun, hended, hW, hsame⟩ := X0.leave (v := some (.int (1 : Int32))) (fun h => by rw [Bd.returns] at h; cases h)
          refine ⟨_, _, pre941 _ ?_, hrun, hended, _, _, rfl, ?_, ⟨_, rfl⟩, hW, hsame.mono (by decide) (by decide)⟩
          · show Sp p e below m s₁ 19 #[.val (.int pc_), .val (.int pi), .val (.int pf), .val (.int pt)] [(.int (57 : Int32)), (.int pc_)] _
            refine XS.icmpNo X0.here hx rfl (hb hby d15_19) rfl (flt hc19_942).2.2.1 ?_
            refine XS.iconst X0.here hx rfl (hb hby d15_22) ?_
            refine XS.goto X0.here hx rfl (pc0 := 23) (pc' := 27) rfl (hb hby d15_23) (by decide) (by decide) ?_
            exact retN X0 hx (t := .boolean) Bd.returns (by simp) (hb hby d15_27) hr
          · show Q15 Z pc_ pi pf pt h0 n0 _ s₁.heap _
            rw [e0]
            exact ⟨(by simp [own_ok, own_dg, hc2_936, hc7_938, hc13_940, hc19_942]), N0, rfl⟩
    · obtain ⟨fs, hr, hrun, hended, hW, hsame⟩ := X0.leave (v := some (.int (1 : Int32))) (fun h => by rw [Bd.returns] at h; cases h)
      refine ⟨_, _, pre937 _ ?_, hrun, hended, _, _, rfl, ?_, ⟨_, rfl⟩, hW, hsame.mono (by decide) (by decide)⟩
      · show Sp p e below m s₁ 7 #[.val (.int pc_), .val (.int pi), .val (.int pf), .val (.int pt)] [(.int pt), (.int pi)] _
        refine XS.icmpYes X0.here hx rfl (pc0 := 7) (pc' := 22) rfl (hb hby d15_7) rfl (flt hc7_938).2.1 (by decide) (by decide) ?_
        refine XS.iconst X0.here hx rfl (hb hby d15_22) ?_
        refine XS.goto X0.here hx rfl (pc0 := 23) (pc' := 27) rfl (hb hby d15_23) (by decide) (by decide) ?_
        show Sp p e below m s₁ 27 #[.val (.int pc_), .val (.int pi), .val (.int pf), .val (.int pt)] [(.int (1 : Int32))] _
        exact retN X0 hx (t := .boolean) Bd.returns (by simp) (hb hby d15_27) hr
      · show Q15 Z pc_ pi pf pt h0 n0 _ s₁.heap _
        rw [e0]
        exact ⟨(by simp [own_ok, own_dg, hc2_936, hc7_938]), N0, rfl⟩
theorem d1_0 : decode method_3_code 0 = .ok (.iload_n 0, 1) := by decide +kernel
theorem d1_1 : decode method_3_code 1 = .ok (.iconst 1, 1) := by decide +kernel
theorem d1_2 : decode method_3_code 2 = .ok (.iand, 1) := by decide +kernel
theorem d1_3 : decode method_3_code 3 = .ok (.ifCond .ne 17, 3) := by decide +kernel
theorem d1_6 : decode method_3_code 6 = .ok (.bipush 47, 2) := by decide +kernel
theorem d1_8 : decode method_3_code 8 = .ok (.iload_n 0, 1) := by decide +kernel
theorem d1_9 : decode method_3_code 9 = .ok (.iconst 1, 1) := by decide +kernel
theorem d1_10 : decode method_3_code 10 = .ok (.iushr, 1) := by decide +kernel
theorem d1_11 : decode method_3_code 11 = .ok (.bipush 15, 2) := by decide +kernel
theorem d1_13 : decode method_3_code 13 = .ok (.iand, 1) := by decide +kernel
theorem d1_14 : decode method_3_code 14 = .ok (.bipush 12, 2) := by decide +kernel
theorem d1_16 : decode method_3_code 16 = .ok (.irem, 1) := by decide +kernel
theorem d1_17 : decode method_3_code 17 = .ok (.iadd, 1) := by decide +kernel
theorem d1_18 : decode method_3_code 18 = .ok (.i2c, 1) := by decide +kernel
theorem d1_19 : decode method_3_code 19 = .ok (.ireturn, 1) := by decide +kernel
theorem d1_20 : decode method_3_code 20 = .ok (.iload_n 0, 1) := by decide +kernel
theorem d1_21 : decode method_3_code 21 = .ok (.iconst 1, 1) := by decide +kernel
theorem d1_22 : decode method_3_code 22 = .ok (.iushr, 1) := by decide +kernel
theorem d1_23 : decode method_3_code 23 = .ok (.i2c, 1) := by decide +kernel
theorem d1_24 : decode method_3_code 24 = .ok (.ireturn, 1) := by decide +kernel
theorem ef_1 (m : MethodId) (x0 : Int32) : entryFrame m #[(.int x0)] 1 = mkF m 0 #[.val (.int x0)] [] := by first | (simp [entryFrame, mkF, argsToLocals, Value.category]; done) | rfl
def Q1 (Z : State) (pv : Int32) (h0 : Heap) (n0 : Nat) (v : Option Value) (h : Heap) (L : List Loc) : Prop := ∃ (rv : Int32), v = some (.int rv) ∧ Fr n0 L ∧ h = h0
theorem rm1 (l : Launch) (Z : State) (a0 : Array Value) (hw : ∀ d ∈ tables_1, d.before a0 Z = true) (ws : List Jvm.Cond) (pv : Int32) (h0 : Heap) (n0 : Nat) (Z0 : n0 ≤ h0.size) :
    MetFree l (⟨"com/example/vestwright/vestwright/PlainNumberIsDigitsPinLaw", "pick", "(I)C"⟩ : MethodName) (head1 (Jvm.Cond.code (⟨"com/example/vestwright/vestwright/PlainNumberIsDigitsPinLaw", "pick", "(I)C"⟩ : MethodName) method_3_code 1 (some .char) :: ws) ({ frames := 0, cells := 0, slots := 0, locals := 0 } : Room)) (fun a U => a = #[(.int pv)] ∧ Z.Warmed39 U.vm ∧ U.heap = h0) (fun _ _ _ _ _ => True) (fun _ U o U' => ∃ v L, o = .returned v ∧ Q1 Z pv h0 n0 v U'.heap L ∧ FrameEnd U o U' L ({ frames := 0, cells := 0, slots := 0, locals := 0 } : Room).cells ({ frames := 0, cells := 0, slots := 0, locals := 0 } : Room).slots) := by
  refine MetFree.of_bodySF (plainFor_of_name own_pn296) hisR ?_
  intro p e s m args below meth c s₁ Bd hml0 hP hK
  have H := fun i c (h : tables_1[i]? = some c) => hw c (List.mem_of_getElem? h)
  obtain ⟨rfl, hZ, hh⟩ := hP
  have hx := Bd.exec
  have hby := Bd.bytes
  have hml : c.maxLocals = 1 := hml0
  have hown : s.vm.findClass "com/example/vestwright/vestwright/PlainNumberIsDigitsPinLaw" = some m.cls := findClass_of_methodNamed Bd.named
  have hnm := (name_of_methodNamed Bd.named Bd.method).1
  have X0 : Stand p l e ({ frames := 0, cells := 0, slots := 0, locals := 0 } : Room) s m #[(.int pv)] below meth c s₁ [] 0 0 := Stand.of_body Bd
  have e0 : s₁.heap = h0 := by rw [← hh, Bd.state]; rfl
  have N0 := Fr.nil n0
  have pre0 : ∀ t, Sp p e below m s₁ 0 #[.val (.int pv)] [] t → Steps p.tables e below (s₁.setTop (entryFrame m #[(.int pv)] 1)) t := fun t k => castTop (ef_1 m pv) k
  generalize s₁.setTop (entryFrame m #[(.int pv)] 1) = G0 at pre0 ⊢
  have pre945 : ∀ t, Sp p e below m s₁ 3 #[.val (.int pv)] [(.int (pv &&& (1 : Int32)))] t → SG p e below G0 t := by
    intro t k
    refine pre0 t ?_
    show Sp p e below m s₁ 0 #[.val (.int pv)] [] _
    refine XS.iloadN X0.here hx rfl (hb hby d1_0) rfl ?_
    refine XS.iconst X0.here hx rfl (hb hby d1_1) ?_
    refine XS.iand X0.here hx rfl (hb hby d1_2) rfl ?_
    exact k
  by_cases hc3_946 : (pv &&& (1 : Int32)) = (0 : Int32)
  · obtain ⟨fs, hr, hrun, hended, hW, hsame⟩ := X0.leave (v := some (.int (nar .char (((47 : Int32) + ((((pv.toUInt32 >>> ((1 : Int32) &&& 31).toUInt32).toInt32) &&& (15 : Int32)) % (12 : Int32))).toUInt32.toUInt16.toUInt32.toInt32)))) (fun h => by rw [Bd.returns] at h; cases h)
    refine ⟨_, _, pre945 _ ?_, hrun, hended, _, _, rfl, ?_, ⟨_, rfl⟩, hW, hsame.mono (by decide) (by decide)⟩
    · show Sp p e below m s₁ 3 #[.val (.int pv)] [(.int (pv &&& (1 : Int32)))] _
      refine XS.ifNo X0.here hx rfl (hb hby d1_3) rfl ((if0 _ _).trans (teq hc3_946).2) ?_
      refine XS.bipush X0.here hx rfl (hb hby d1_6) ?_
      refine XS.iloadN X0.here hx rfl (hb hby d1_8) rfl ?_
      refine XS.iconst X0.here hx rfl (hb hby d1_9) ?_
      refine XS.iushr X0.here hx rfl (hb hby d1_10) rfl ?_
      show Sp p e below m s₁ 11 #[.val (.int pv)] [(.int ((pv.toUInt32 >>> ((1 : Int32) &&& 31).toUInt32).toInt32)), (.int (47 : Int32))] _
      refine XS.bipush X0.here hx rfl (hb hby d1_11) ?_
      refine XS.iand X0.here hx rfl (hb hby d1_13) rfl ?_
      refine XS.bipush X0.here hx rfl (hb hby d1_14) ?_
      refine iremM X0 hx rfl (hb hby d1_16) rfl (by decide) ?_
      show Sp p e below m s₁ 17 #[.val (.int pv)] [(.int ((((pv.toUInt32 >>> ((1 : Int32) &&& 31).toUInt32).toInt32) &&& (15 : Int32)) % (12 : Int32))), (.int (47 : Int32))] _
      refine XS.iadd X0.here hx rfl (hb hby d1_17) rfl ?_
      refine XS.i2c X0.here hx rfl (hb hby d1_18) rfl ?_
      exact retN X0 hx (t := .char) Bd.returns (by simp) (hb hby d1_19) hr
    · show Q1 Z pv h0 n0 _ s₁.heap _
      rw [e0]
      exact ⟨(nar .char (((47 : Int32) + ((((pv.toUInt32 >>> ((1 : Int32) &&& 31).toUInt32).toInt32) &&& (15 : Int32)) % (12 : Int32))).toUInt32.toUInt16.toUInt32.toInt32)), rfl, N0, rfl⟩
  · obtain ⟨fs, hr, hrun, hended, hW, hsame⟩ := X0.leave (v := some (.int (nar .char (((pv.toUInt32 >>> ((1 : Int32) &&& 31).toUInt32).toInt32).toUInt32.toUInt16.toUInt32.toInt32)))) (fun h => by rw [Bd.returns] at h; cases h)
    refine ⟨_, _, pre945 _ ?_, hrun, hended, _, _, rfl, ?_, ⟨_, rfl⟩, hW, hsame.mono (by decide) (by decide)⟩
    · show Sp p e below m s₁ 3 #[.val (.int pv)] [(.int (pv &&& (1 : Int32)))] _
      refine XS.ifYes X0.here hx rfl (pc0 := 3) (pc' := 20) rfl (hb hby d1_3) rfl ((if0 _ _).trans (feq hc3_946).2) (by decide) (by decide) ?_
      refine XS.iloadN X0.here hx rfl (hb hby d1_20) rfl ?_
      refine XS.iconst X0.here hx rfl (hb hby d1_21) ?_
      refine XS.iushr X0.here hx rfl (hb hby d1_22) rfl ?_
      refine XS.i2c X0.here hx rfl (hb hby d1_23) rfl ?_
      show Sp p e below m s₁ 24 #[.val (.int pv)] [(.int (((pv.toUInt32 >>> ((1 : Int32) &&& 31).toUInt32).toInt32).toUInt32.toUInt16.toUInt32.toInt32))] _
      exact retN X0 hx (t := .char) Bd.returns (by simp) (hb hby d1_24) hr
    · show Q1 Z pv h0 n0 _ s₁.heap _
      rw [e0]
      exact ⟨(nar .char (((pv.toUInt32 >>> ((1 : Int32) &&& 31).toUInt32).toInt32).toUInt32.toUInt16.toUInt32.toInt32)), rfl, N0, rfl⟩
theorem own_fin01 {cc0 cc1 cc2 cc3 v : Int32} (hv : v = if own_ok cc0 0 0 1 = 0 then 0 else if own_ok cc1 1 0 1 = 0 then 0 else if own_ok cc2 2 0 1 = 0 then 0 else if own_ok cc3 3 0 1 = 0 then 0 else 1) : (own_dg cc0) = v := by
  subst hv
  rcases own_dg01 cc0 with h0 | h0
  all_goals simp [own_ok, *]
theorem own_fin02 {cc0 cc1 cc2 cc3 v : Int32} (hv : v = if own_ok cc0 0 0 2 = 0 then 0 else if own_ok cc1 1 0 2 = 0 then 0 else if own_ok cc2 2 0 2 = 0 then 0 else if own_ok cc3 3 0 2 = 0 then 0 else 1) : (if own_dg cc0 = 0 then (0 : Int32) else (own_dg cc1)) = v := by
  subst hv
  rcases own_dg01 cc0 with h0 | h0 <;> rcases own_dg01 cc1 with h1 | h1
  all_goals simp [own_ok, *]
theorem own_fin03 {cc0 cc1 cc2 cc3 v : Int32} (hv : v = if own_ok cc0 0 0 3 = 0 then 0 else if own_ok cc1 1 0 3 = 0 then 0 else if own_ok cc2 2 0 3 = 0 then 0 else if own_ok cc3 3 0 3 = 0 then 0 else 1) : (if own_dg cc0 = 0 then (0 : Int32) else (if own_dg cc1 = 0 then (0 : Int32) else (own_dg cc2))) = v := by
  subst hv
  rcases own_dg01 cc0 with h0 | h0 <;> rcases own_dg01 cc1 with h1 | h1 <;> rcases own_dg01 cc2 with h2 | h2
  all_goals simp [own_ok, *]
theorem own_fin04 {cc0 cc1 cc2 cc3 v : Int32} (hv : v = if own_ok cc0 0 0 4 = 0 then 0 else if own_ok cc1 1 0 4 = 0 then 0 else if own_ok cc2 2 0 4 = 0 then 0 else if own_ok cc3 3 0 4 = 0 then 0 else 1) : (if own_dg cc0 = 0 then (0 : Int32) else (if own_dg cc1 = 0 then (0 : Int32) else (if own_dg cc2 = 0 then (0 : Int32) else (own_dg cc3)))) = v := by
  subst hv
  rcases own_dg01 cc0 with h0 | h0 <;> rcases own_dg01 cc1 with h1 | h1 <;> rcases own_dg01 cc2 with h2 | h2 <;> rcases own_dg01 cc3 with h3 | h3
  all_goals simp [own_ok, *]
theorem own_fin12 {cc0 cc1 cc2 cc3 v : Int32} (hv : v = if own_ok cc0 0 1 2 = 0 then 0 else if own_ok cc1 1 1 2 = 0 then 0 else if own_ok cc2 2 1 2 = 0 then 0 else if own_ok cc3 3 1 2 = 0 then 0 else 1) : (own_dg cc1) = v := by
  subst hv
  rcases own_dg01 cc1 with h1 | h1
  all_goals simp [own_ok, *]
theorem own_fin13 {cc0 cc1 cc2 cc3 v : Int32} (hv : v = if own_ok cc0 0 1 3 = 0 then 0 else if own_ok cc1 1 1 3 = 0 then 0 else if own_ok cc2 2 1 3 = 0 then 0 else if own_ok cc3 3 1 3 = 0 then 0 else 1) : (if own_dg cc1 = 0 then (0 : Int32) else (own_dg cc2)) = v := by
  subst hv
  rcases own_dg01 cc1 with h1 | h1 <;> rcases own_dg01 cc2 with h2 | h2
  all_goals simp [own_ok, *]
theorem own_fin14 {cc0 cc1 cc2 cc3 v : Int32} (hv : v = if own_ok cc0 0 1 4 = 0 then 0 else if own_ok cc1 1 1 4 = 0 then 0 else if own_ok cc2 2 1 4 = 0 then 0 else if own_ok cc3 3 1 4 = 0 then 0 else 1) : (if own_dg cc1 = 0 then (0 : Int32) else (if own_dg cc2 = 0 then (0 : Int32) else (own_dg cc3))) = v := by
  subst hv
  rcases own_dg01 cc1 with h1 | h1 <;> rcases own_dg01 cc2 with h2 | h2 <;> rcases own_dg01 cc3 with h3 | h3
  all_goals simp [own_ok, *]
theorem own_fin23 {cc0 cc1 cc2 cc3 v : Int32} (hv : v = if own_ok cc0 0 2 3 = 0 then 0 else if own_ok cc1 1 2 3 = 0 then 0 else if own_ok cc2 2 2 3 = 0 then 0 else if own_ok cc3 3 2 3 = 0 then 0 else 1) : (own_dg cc2) = v := by
  subst hv
  rcases own_dg01 cc2 with h2 | h2
  all_goals simp [own_ok, *]
theorem own_fin24 {cc0 cc1 cc2 cc3 v : Int32} (hv : v = if own_ok cc0 0 2 4 = 0 then 0 else if own_ok cc1 1 2 4 = 0 then 0 else if own_ok cc2 2 2 4 = 0 then 0 else if own_ok cc3 3 2 4 = 0 then 0 else 1) : (if own_dg cc2 = 0 then (0 : Int32) else (own_dg cc3)) = v := by
  subst hv
  rcases own_dg01 cc2 with h2 | h2 <;> rcases own_dg01 cc3 with h3 | h3
  all_goals simp [own_ok, *]
theorem own_fin34 {cc0 cc1 cc2 cc3 v : Int32} (hv : v = if own_ok cc0 0 3 4 = 0 then 0 else if own_ok cc1 1 3 4 = 0 then 0 else if own_ok cc2 2 3 4 = 0 then 0 else if own_ok cc3 3 3 4 = 0 then 0 else 1) : (own_dg cc3) = v := by
  subst hv
  rcases own_dg01 cc3 with h3 | h3
  all_goals simp [own_ok, *]
theorem own_ft {a b : Int32} (h1 : 0 ≤ a.toInt ∧ a.toInt < 5) (h2 : 0 ≤ b.toInt ∧ b.toInt < 5) : ¬ a < b ∨ (a = 0 ∧ b = 1) ∨ (a = 0 ∧ b = 2) ∨ (a = 0 ∧ b = 3) ∨ (a = 0 ∧ b = 4) ∨ (a = 1 ∧ b = 2) ∨ (a = 1 ∧ b = 3) ∨ (a = 1 ∧ b = 4) ∨ (a = 2 ∧ b = 3) ∨ (a = 2 ∧ b = 4) ∨ (a = 3 ∧ b = 4) := by
  simp only [Int32.lt_iff_toInt_lt, ← Int32.toInt_inj, show (0 : Int32).toInt = 0 from rfl, show (1 : Int32).toInt = 1 from rfl, show (2 : Int32).toInt = 2 from rfl, show (3 : Int32).toInt = 3 from rfl, show (4 : Int32).toInt = 4 from rfl]
  omega
theorem own_r5 (x : Int32) : 0 ≤ ((x &&& 7) % 5).toInt ∧ ((x &&& 7) % 5).toInt < 5 := by
  have h1 := c_and x 7 (by decide)
  have h2 := (c_iremV (x &&& 7) 5).1 h1.1 (by decide)
  exact ⟨h2.1, h2.2.1⟩
theorem own_mx (a b : Int32) : ¬ (if a < b then b else a) < b := by
  by_cases h : a < b
  · rw [if_pos h]; exact fun q => Int32.lt_irrefl q
  · rw [if_neg h]; exact h
theorem d9_0 : decode jdk_29_method_65_code 0 = .ok (.iload_n 0, 1) := by decide +kernel
theorem d9_1 : decode jdk_29_method_65_code 1 = .ok (.iload_n 1, 1) := by decide +kernel
theorem d9_2 : decode jdk_29_method_65_code 2 = .ok (.if_icmp .lt 7, 3) := by decide +kernel
theorem d9_9 : decode jdk_29_method_65_code 9 = .ok (.iload_n 1, 1) := by decide +kernel
theorem d9_10 : decode jdk_29_method_65_code 10 = .ok (.ireturn, 1) := by decide +kernel
theorem d9_5 : decode jdk_29_method_65_code 5 = .ok (.iload_n 0, 1) := by decide +kernel
theorem d9_6 : decode jdk_29_method_65_code 6 = .ok (.goto 4, 3) := by decide +kernel
theorem ef_9 (m : MethodId) (x0 : Int32) (x1 : Int32) : entryFrame m #[(.int x0), (.int x1)] 2 = mkF m 0 #[.val (.int x0), .val (.int x1)] [] := by first | (simp [entryFrame, mkF, argsToLocals, Value.category]; done) | rfl
def Q9 (Z : State) (pa : Int32) (pb : Int32) (h0 : Heap) (n0 : Nat) (v : Option Value) (h : Heap) (L : List Loc) : Prop := v = some (.int (if pa < pb then pb else pa)) ∧ Fr n0 L ∧ h = h0
theorem rm9 (l : Launch) (Z : State) (a0 : Array Value) (hw : ∀ d ∈ tables_1, d.before a0 Z = true) (ws : List Jvm.Cond) (pa : Int32) (pb : Int32) (h0 : Heap) (n0 : Nat) (Z0 : n0 ≤ h0.size) :
    MetFree l (⟨"java/lang/Math", "max", "(II)I"⟩ : MethodName) (head1 (Jvm.Cond.code (⟨"java/lang/Math", "max", "(II)I"⟩ : MethodName) jdk_29_method_65_code 2 (some .int) :: ws) ({ frames := 0, cells := 0, slots := 0, locals := 0 } : Room)) (fun a U => a = #[(.int pa), (.int pb)] ∧ Z.Warmed39 U.vm ∧ U.heap = h0) (fun _ _ _ _ _ => True) (fun _ U o U' => ∃ v L, o = .returned v ∧ Q9 Z pa pb h0 n0 v U'.heap L ∧ FrameEnd U o U' L ({ frames := 0, cells := 0, slots := 0, locals := 0 } : Room).cells ({ frames := 0, cells := 0, slots := 0, locals := 0 } : Room).slots) := by
  refine MetFree.of_bodySF (Jvm.Free.JP.mathPlain rfl (by decide +kernel)) hisR ?_
  intro p e s m args below meth c s₁ Bd hml0 hP hK
  have H := fun i c (h : tables_1[i]? = some c) => hw c (List.mem_of_getElem? h)
  obtain ⟨rfl, hZ, hh⟩ := hP
  have hx := Bd.exec
  have hby := Bd.bytes
  have hml : c.maxLocals = 2 := hml0
  have hown : s.vm.findClass "java/lang/Math" = some m.cls := findClass_of_methodNamed Bd.named
  have hnm := (name_of_methodNamed Bd.named Bd.method).1
  have X0 : Stand p l e ({ frames := 0, cells := 0, slots := 0, locals := 0 } : Room) s m #[(.int pa), (.int pb)] below meth c s₁ [] 0 0 := Stand.of_body Bd
  have e0 : s₁.heap = h0 := by rw [← hh, Bd.state]; rfl
  have N0 := Fr.nil n0
  have pre0 : ∀ t, Sp p e below m s₁ 0 #[.val (.int pa), .val (.int pb)] [] t → Steps p.tables e below (s₁.setTop (entryFrame m #[(.int pa), (.int pb)] 2)) t := fun t k => castTop (ef_9 m pa pb) k
  generalize s₁.setTop (entryFrame m #[(.int pa), (.int pb)] 2) = G0 at pre0 ⊢
  have pre949 : ∀ t, Sp p e below m s₁ 2 #[.val (.int pa), .val (.int pb)] [(.int pb), (.int pa)] t → SG p e below G0 t := by
    intro t k
    refine pre0 t ?_
    show Sp p e below m s₁ 0 #[.val (.int pa), .val (.int pb)] [] _
    refine XS.iloadN X0.here hx rfl (hb hby d9_0) rfl ?_
    refine XS.iloadN X0.here hx rfl (hb hby d9_1) rfl ?_
    exact k
  by_cases hc2_950 : pa < pb
  · obtain ⟨fs, hr, hrun, hended, hW, hsame⟩ := X0.leave (v := some (.int pb)) (fun h => by rw [Bd.returns] at h; cases h)
    refine ⟨_, _, pre949 _ ?_, hrun, hended, _, _, rfl, ?_, ⟨_, rfl⟩, hW, hsame.mono (by decide) (by decide)⟩
    · show Sp p e below m s₁ 2 #[.val (.int pa), .val (.int pb)] [(.int pb), (.int pa)] _
      refine XS.icmpYes X0.here hx rfl (pc0 := 2) (pc' := 9) rfl (hb hby d9_2) rfl (tlt hc2_950).1 (by decide) (by decide) ?_
      refine XS.iloadN X0.here hx rfl (hb hby d9_9) rfl ?_
      exact retI X0 hx Bd.returns (hb hby d9_10) hr
    · show Q9 Z pa pb h0 n0 _ s₁.heap _
      rw [e0]
      exact ⟨(by rw [if_pos hc2_950]), N0, rfl⟩
  · obtain ⟨fs, hr, hrun, hended, hW, hsame⟩ := X0.leave (v := some (.int pa)) (fun h => by rw [Bd.returns] at h; cases h)
    refine ⟨_, _, pre949 _ ?_, hrun, hended, _, _, rfl, ?_, ⟨_, rfl⟩, hW, hsame.mono (by decide) (by decide)⟩
    · show Sp p e below m s₁ 2 #[.val (.int pa), .val (.int pb)] [(.int pb), (.int pa)] _
      refine XS.icmpNo X0.here hx rfl (hb hby d9_2) rfl (flt hc2_950).1 ?_
      refine XS.iloadN X0.here hx rfl (hb hby d9_5) rfl ?_
      refine XS.goto X0.here hx rfl (pc0 := 6) (pc' := 10) rfl (hb hby d9_6) (by decide) (by decide) ?_
      exact retI X0 hx Bd.returns (hb hby d9_10) hr
    · show Q9 Z pa pb h0 n0 _ s₁.heap _
      rw [e0]
      exact ⟨(by rw [if_neg hc2_950]), N0, rfl⟩
theorem own_pd324 : parseMethodDescriptor "([C)V" = some ⟨[(.array .char)], none⟩ := by decide +kernel
theorem own_pd325 : parseMethodDescriptor "(II)I" = some ⟨[.int, .int], some .int⟩ := by decide +kernel
theorem own_pd326 : parseMethodDescriptor "(Ljava/lang/String;II)Z" = some ⟨[(.object "java/lang/String"), .int, .int], some .boolean⟩ := by decide +kernel
theorem own_pd327 : parseMethodDescriptor "(CIII)Z" = some ⟨[.char, .int, .int, .int], some .boolean⟩ := by decide +kernel
theorem ef_0 (m : MethodId) (x0 : Int32) (x1 : Int32) (x2 : Int32) (x3 : Int32) (x4 : Int32) (x5 : Int32) : entryFrame m #[(.int x0), (.int x1), (.int x2), (.int x3), (.int x4), (.int x5)] maxLocals = mkF m 0 #[.val (.int x0), .val (.int x1), .val (.int x2), .val (.int x3), .val (.int x4), .val (.int x5), .unset, .unset, .unset, .unset, .unset] [] := by first | (simp [entryFrame, mkF, argsToLocals, Value.category, maxLocals]; done) | rfl
def Q0 (Z : State) (p0 : Int32) (p1 : Int32) (p2 : Int32) (p3 : Int32) (p4 : Int32) (p5 : Int32) (cs : Int32) (vf : Value) (h0 : Heap) (n0 : Nat) (v : Option Value) (h : Heap) (L : List Loc) : Prop := v = some (.int (1 : Int32)) ∧ Fr n0 L
theorem rm0 (l : Launch) (Z : State) (a0 : Array Value) (hw : ∀ d ∈ tables_1, d.before a0 Z = true) (ws : List Jvm.Cond) (p0 : Int32) (p1 : Int32) (p2 : Int32) (p3 : Int32) (p4 : Int32) (p5 : Int32) (cs : Int32) (vf : Value) (h0 : Heap) (n0 : Nat) (Z0 : n0 ≤ h0.size) (O0 : Old Z n0 h0) (Scs : Sta Z Z.heap "java/lang/String" "COMPACT_STRINGS" "Z" (.int cs)) (hcs : ¬ cs = (0 : Int32)) (Ssf : Sta Z Z.heap "jdk/internal/util/Preconditions" "SIOOBE_FORMATTER" "Ljava/util/function/BiFunction;" vf) (hvf : vf.isRef = true) (Sas : Sta Z Z.heap "java/lang/StringUTF16" "$assertionsDisabled" "Z" (.int (1 : Int32))) (Shs : Sta Z Z.heap "java/lang/StringUTF16" "HI_BYTE_SHIFT" "I" (.int (0 : Int32))) (Sls : Sta Z Z.heap "java/lang/StringUTF16" "LO_BYTE_SHIFT" "I" (.int (8 : Int32))) :
    MetFree l x (head1 (Jvm.Cond.code x code maxLocals ret :: ws) room_1) (fun a U => a = #[(.int p0), (.int p1), (.int p2), (.int p3), (.int p4), (.int p5)] ∧ Z.Warmed39 U.vm ∧ U.heap = h0) (fun _ _ _ _ _ => True) (fun _ U o U' => ∃ v L, o = .returned v ∧ Q0 Z p0 p1 p2 p3 p4 p5 cs vf h0 n0 v U'.heap L ∧ FrameEnd U o U' L room_1.cells room_1.slots) := by
  refine MetFree.of_bodySF (plainFor_of_name own_pn296) hisR ?_
  intro p e s m args below meth c s₁ Bd hml0 hP hK
  have H := fun i c (h : tables_1[i]? = some c) => hw c (List.mem_of_getElem? h)
  obtain ⟨rfl, hZ, hh⟩ := hP
  have hx := Bd.exec
  have hby := Bd.bytes
  have hml : c.maxLocals = 11 := hml0
  have hown : s.vm.findClass "com/example/vestwright/vestwright/PlainNumberIsDigitsPinLaw" = some m.cls := findClass_of_methodNamed Bd.named
  have hnm := (name_of_methodNamed Bd.named Bd.method).1
  have X0 : Stand p l e room_1 s m #[(.int p0), (.int p1), (.int p2), (.int p3), (.int p4), (.int p5)] below meth c s₁ [] 0 0 := Stand.of_body Bd
  have e0 : s₁.heap = h0 := by rw [← hh, Bd.state]; rfl
  have N0 := Fr.nil n0
  have pre0 : ∀ t, Sp p e below m s₁ 0 #[.val (.int p0), .val (.int p1), .val (.int p2), .val (.int p3), .val (.int p4), .val (.int p5), .unset, .unset, .unset, .unset, .unset] [] t → Steps p.tables e below (s₁.setTop (entryFrame m #[(.int p0), (.int p1), (.int p2), (.int p3), (.int p4), (.int p5)] maxLocals)) t := fun t k => castTop (ef_0 m p0 p1 p2 p3 p4 p5) k
  generalize s₁.setTop (entryFrame m #[(.int p0), (.int p1), (.int p2), (.int p3), (.int p4), (.int p5)] maxLocals) = G0 at pre0 ⊢
  obtain ⟨T951, h951, k951, X951, e951, E951, A951, st951⟩ := newP X0 hx hZ (H 0 _ rfl) e0 (g := (mkF m 1 #[.val (.int p0), .val (.int p1), .val (.int p2), .val (.int p3), .val (.int p4), .val (.int p5), .unset, .unset, .unset, .unset, .unset] [(.int (4 : Int32))])) rfl (hb hby at_1) rfl (by decide) (cap := 4) (by decide) (by decide) (by decide) (by decide)
  obtain ⟨b951, g951⟩ : ∃ z, z = h0.size := ⟨_, rfl⟩
  rw [← g951] at A951 st951
  have g_b951 : n0 ≤ b951 := Nat.le_trans Z0 (Nat.le_of_eq g951.symm)
  have sz_b951 : h0.size ≤ b951 := Nat.le_of_eq g951.symm
  have Zs951 : n0 ≤ h951.size := Nat.le_trans Z0 E951.1
  have KK951 : Keep h0 h951 [] := (Keep.refl h0 _).ext E951
  have O951 := O0.ext E951
  have f952 := (Scs.ext O0.2).ext E951
  have f953 := (Ssf.ext O0.2).ext E951
  have f954 := (Sas.ext O0.2).ext E951
  have f955 := (Shs.ext O0.2).ext E951
  have f956 := (Sls.ext O0.2).ext E951
  have V951 : Arv Z h951 b951 k951 .char (4 : Int32) [(.int (0 : Int32)), (.int (0 : Int32)), (.int (0 : Int32)), (.int (0 : Int32))] (.int (0 : Int32)) := (Arv.new A951 (by decide)).pad (pad_rep [] (.int (0 : Int32)) 4)
  obtain ⟨_, _, ⟨T957, L957, k957, n957⟩, -, X957, ⟨Lc957, hQ957, l957, y957, z957⟩, st957⟩ := Jvm.LawKit.callS X951 hx hown (mvT hZ (H 1 _ rfl)) (mvT hZ (H 2 _ rfl)) (mvT hZ (H 3 _ rfl)) (mvT hZ (H 4 _ rfl)) (by decide) (backOf (W := 3) (rm1 l Z a0 hw [] p0  h951 n0 Zs951 ) hZ (H 4 _ rfl) (H 3 _ rfl) (by decide) (by decide)) (g := (mkF m 6 #[.val (.int p0), .val (.int p1), .val (.int p2), .val (.int p3), .val (.int p4), .val (.int p5), .unset, .unset, .unset, .unset, .unset] [(.int p0), (.int (0 : Int32)), (.ref b951), (.ref b951)])) rfl (by rw [hml]; rfl) (argsL := [(.int p0)]) (rest := [(.int (0 : Int32)), (.ref b951), (.ref b951)]) (lenOf own_pd266 rfl) rfl (Nat.le_of_eq rfl) (hb hby at_6) (fun _ _ => ⟨rfl, e951, (by decide : 1 + 0 ≤ _), (by decide : 4 + 0 ≤ _)⟩)
  dsimp only [Pt.U, Pt.locs, Pt.cells, Pt.slots] at X957 l957 y957 z957 st957 hQ957
  rw [l957, y957, z957] at X957
  obtain ⟨rrv_957, rfl, Nq957, e957⟩ := hQ957
  have N957 := Fr.app N0 Nq957
  obtain ⟨cl958, Ar958, q958, S958, N958, H958, G958⟩ := id V951
  have hin958 : ¬ ((0 : Int32) < 0 ∨ cl958.slots.size ≤ ((0 : Int32)).toNatClampNeg) := inb_of S958 ⟨by decide, by decide⟩
  obtain ⟨T959, h959, X959, e959, W959, st959⟩ := stC X957 hx hZ e957 Ar958 (j := (0 : Int32)) hin958 (g := (mkF m 9 #[.val (.int p0), .val (.int p1), .val (.int p2), .val (.int p3), .val (.int p4), .val (.int p5), .unset, .unset, .unset, .unset, .unset] [(.int rrv_957), (.int (0 : Int32)), (.ref b951), (.ref b951)])) rfl rfl (hb hby at_9)
  have V959 : Arv Z h959 b951 k951 .char (4 : Int32) [(.int (nar .char rrv_957)), (.int (0 : Int32)), (.int (0 : Int32)), (.int (0 : Int32))] (.int (0 : Int32)) := Arv.set Ar958 q958 S958 N958 H958 G958 (fits_nar_char rrv_957) W959 0 rfl (Nat.le_of_ble_eq_true rfl)
  have N959 := Fr.snoc X959 N957 g_b951
  have Zs959 : n0 ≤ h959.size := Nat.le_trans Zs951 (Keep.of_wr W959).1
  have KK959 : Keep h0 h959 [] := KK951.wr W959 (Or.inr sz_b951)
  have O959 := O951.wr W959 g_b951
  have f960 := f952.wr W959
  have f961 := f953.wr W959
  have f962 := f954.wr W959
  have f963 := f955.wr W959
  have f964 := f956.wr W959
  have pre965 : ∀ t, Sp p e below m T959 10 #[.val (.int p0), .val (.int p1), .val (.int p2), .val (.int p3), .val (.int p4), .val (.int p5), .unset, .unset, .unset, .unset, .unset] [(.ref b951)] t → SG p e below G0 t := by
    intro t k
    refine pre0 t ?_
    show Sp p e below m s₁ 0 #[.val (.int p0), .val (.int p1), .val (.int p2), .val (.int p3), .val (.int p4), .val (.int p5), .unset, .unset, .unset, .unset, .unset] [] _
    refine XS.iconst X0.here hx rfl (hb hby at_0) ?_
    refine st951 _ ?_
    show Sp p e below m T951 3 #[.val (.int p0), .val (.int p1), .val (.int p2), .val (.int p3), .val (.int p4), .val (.int p5), .unset, .unset, .unset, .unset, .unset] [(.ref b951)] _
    refine XS.dup X951.here hx rfl (hb hby at_3) rfl rfl ?_
    refine XS.iconst X951.here hx rfl (hb hby at_4) ?_
    refine XS.iloadN X951.here hx rfl (hb hby at_5) rfl ?_
    refine st957 _ ?_
    show Sp p e below m T957 9 #[.val (.int p0), .val (.int p1), .val (.int p2), .val (.int p3), .val (.int p4), .val (.int p5), .unset, .unset, .unset, .unset, .unset] [(.int rrv_957), (.int (0 : Int32)), (.ref b951), (.ref b951)] _
    refine st959 _ ?_
    exact k
  obtain ⟨c0, he966⟩ : ∃ z : Int32, z = (nar .char rrv_957) := ⟨_, rfl⟩
  rw [← he966] at V959
  have hb0 : 0 ≤ c0.toInt ∧ c0.toInt ≤ 65535 := by rw [he966]; exact own_nc _
  obtain ⟨_, _, ⟨T967, L967, k967, n967⟩, -, X967, ⟨Lc967, hQ967, l967, y967, z967⟩, st967⟩ := Jvm.LawKit.callS X959 hx hown (mvT hZ (H 1 _ rfl)) (mvT hZ (H 2 _ rfl)) (mvT hZ (H 3 _ rfl)) (mvT hZ (H 4 _ rfl)) (by decide) (backOf (W := 3) (rm1 l Z a0 hw [] p1  h959 n0 Zs959 ) hZ (H 4 _ rfl) (H 3 _ rfl) (by decide) (by decide)) (g := (mkF m 13 #[.val (.int p0), .val (.int p1), .val (.int p2), .val (.int p3), .val (.int p4), .val (.int p5), .unset, .unset, .unset, .unset, .unset] [(.int p1), (.int (1 : Int32)), (.ref b951), (.ref b951)])) rfl (by rw [hml]; rfl) (argsL := [(.int p1)]) (rest := [(.int (1 : Int32)), (.ref b951), (.ref b951)]) (lenOf own_pd266 rfl) rfl (Nat.le_of_eq rfl) (hb hby at_13) (fun _ _ => ⟨rfl, e959, (by decide : 1 + 0 ≤ _), (by decide : 4 + 0 ≤ _)⟩)
  dsimp only [Pt.U, Pt.locs, Pt.cells, Pt.slots] at X967 l967 y967 z967 st967 hQ967
  rw [l967, y967, z967] at X967
  obtain ⟨rrv_967, rfl, Nq967, e967⟩ := hQ967
  have N967 := Fr.app N959 Nq967
  obtain ⟨cl968, Ar968, q968, S968, N968, H968, G968⟩ := id V959
  have hin968 : ¬ ((1 : Int32) < 0 ∨ cl968.slots.size ≤ ((1 : Int32)).toNatClampNeg) := inb_of S968 ⟨by decide, by decide⟩
  obtain ⟨T969, h969, X969, e969, W969, st969⟩ := stC X967 hx hZ e967 Ar968 (j := (1 : Int32)) hin968 (g := (mkF m 16 #[.val (.int p0), .val (.int p1), .val (.int p2), .val (.int p3), .val (.int p4), .val (.int p5), .unset, .unset, .unset, .unset, .unset] [(.int rrv_967), (.int (1 : Int32)), (.ref b951), (.ref b951)])) rfl rfl (hb hby at_16)
  have V969 : Arv Z h969 b951 k951 .char (4 : Int32) [(.int c0), (.int (nar .char rrv_967)), (.int (0 : Int32)), (.int (0 : Int32))] (.int (0 : Int32)) := Arv.set Ar968 q968 S968 N968 H968 G968 (fits_nar_char rrv_967) W969 1 rfl (Nat.le_of_ble_eq_true rfl)
  have N969 := Fr.snoc X969 N967 g_b951
  have Zs969 : n0 ≤ h969.size := Nat.le_trans Zs959 (Keep.of_wr W969).1
  have KK969 : Keep h0 h969 [] := KK959.wr W969 (Or.inr sz_b951)
  have O969 := O959.wr W969 g_b951
  have f970 := f960.wr W969
  have f971 := f961.wr W969
  have f972 := f962.wr W969
  have f973 := f963.wr W969
  have f974 := f964.wr W969
  have pre975 : ∀ t, Sp p e below m T969 17 #[.val (.int p0), .val (.int p1), .val (.int p2), .val (.int p3), .val (.int p4), .val (.int p5), .unset, .unset, .unset, .unset, .unset] [(.ref b951)] t → SG p e below G0 t := by
    intro t k
    refine pre965 t ?_
    show Sp p e below m T959 10 #[.val (.int p0), .val (.int p1), .val (.int p2), .val (.int p3), .val (.int p4), .val (.int p5), .unset, .unset, .unset, .unset, .unset] [(.ref b951)] _
    refine XS.dup X959.here hx rfl (hb hby at_10) rfl rfl ?_
    refine XS.iconst X959.here hx rfl (hb hby at_11) ?_
    refine XS.iloadN X959.here hx rfl (hb hby at_12) rfl ?_
    refine st967 _ ?_
    show Sp p e below m T967 16 #[.val (.int p0), .val (.int p1), .val (.int p2), .val (.int p3), .val (.int p4), .val (.int p5), .unset, .unset, .unset, .unset, .unset] [(.int rrv_967), (.int (1 : Int32)), (.ref b951), (.ref b951)] _
    refine st969 _ ?_
    exact k
  obtain ⟨c1, he976⟩ : ∃ z : Int32, z = (nar .char rrv_967) := ⟨_, rfl⟩
  rw [← he976] at V969
  have hb1 : 0 ≤ c1.toInt ∧ c1.toInt ≤ 65535 := by rw [he976]; exact own_nc _
  obtain ⟨_, _, ⟨T977, L977, k977, n977⟩, -, X977, ⟨Lc977, hQ977, l977, y977, z977⟩, st977⟩ := Jvm.LawKit.callS X969 hx hown (mvT hZ (H 1 _ rfl)) (mvT hZ (H 2 _ rfl)) (mvT hZ (H 3 _ rfl)) (mvT hZ (H 4 _ rfl)) (by decide) (backOf (W := 3) (rm1 l Z a0 hw [] p2  h969 n0 Zs969 ) hZ (H 4 _ rfl) (H 3 _ rfl) (by decide) (by decide)) (g := (mkF m 20 #[.val (.int p0), .val (.int p1), .val (.int p2), .val (.int p3), .val (.int p4), .val (.int p5), .unset, .unset, .unset, .unset, .unset] [(.int p2), (.int (2 : Int32)), (.ref b951), (.ref b951)])) rfl (by rw [hml]; rfl) (argsL := [(.int p2)]) (rest := [(.int (2 : Int32)), (.ref b951), (.ref b951)]) (lenOf own_pd266 rfl) rfl (Nat.le_of_eq rfl) (hb hby at_20) (fun _ _ => ⟨rfl, e969, (by decide : 1 + 0 ≤ _), (by decide : 4 + 0 ≤ _)⟩)
  dsimp only [Pt.U, Pt.locs, Pt.cells, Pt.slots] at X977 l977 y977 z977 st977 hQ977
  rw [l977, y977, z977] at X977
  obtain ⟨rrv_977, rfl, Nq977, e977⟩ := hQ977
  have N977 := Fr.app N969 Nq977
  obtain ⟨cl978, Ar978, q978, S978, N978, H978, G978⟩ := id V969
  have hin978 : ¬ ((2 : Int32) < 0 ∨ cl978.slots.size ≤ ((2 : Int32)).toNatClampNeg) := inb_of S978 ⟨by decide, by decide⟩
  obtain ⟨T979, h979, X979, e979, W979, st979⟩ := stC X977 hx hZ e977 Ar978 (j := (2 : Int32)) hin978 (g := (mkF m 23 #[.val (.int p0), .val (.int p1), .val (.int p2), .val (.int p3), .val (.int p4), .val (.int p5), .unset, .unset, .unset, .unset, .unset] [(.int rrv_977), (.int (2 : Int32)), (.ref b951), (.ref b951)])) rfl rfl (hb hby at_23)
  have V979 : Arv Z h979 b951 k951 .char (4 : Int32) [(.int c0), (.int c1), (.int (nar .char rrv_977)), (.int (0 : Int32))] (.int (0 : Int32)) := Arv.set Ar978 q978 S978 N978 H978 G978 (fits_nar_char rrv_977) W979 2 rfl (Nat.le_of_ble_eq_true rfl)
  have N979 := Fr.snoc X979 N977 g_b951
  have Zs979 : n0 ≤ h979.size := Nat.le_trans Zs969 (Keep.of_wr W979).1
  have KK979 : Keep h0 h979 [] := KK969.wr W979 (Or.inr sz_b951)
  have O979 := O969.wr W979 g_b951
  have f980 := f970.wr W979
  have f981 := f971.wr W979
  have f982 := f972.wr W979
  have f983 := f973.wr W979
  have f984 := f974.wr W979
  have pre985 : ∀ t, Sp p e below m T979 24 #[.val (.int p0), .val (.int p1), .val (.int p2), .val (.int p3), .val (.int p4), .val (.int p5), .unset, .unset, .unset, .unset, .unset] [(.ref b951)] t → SG p e below G0 t := by
    intro t k
    refine pre975 t ?_
    show Sp p e below m T969 17 #[.val (.int p0), .val (.int p1), .val (.int p2), .val (.int p3), .val (.int p4), .val (.int p5), .unset, .unset, .unset, .unset, .unset] [(.ref b951)] _
    refine XS.dup X969.here hx rfl (hb hby at_17) rfl rfl ?_
    refine XS.iconst X969.here hx rfl (hb hby at_18) ?_
    refine XS.iloadN X969.here hx rfl (hb hby at_19) rfl ?_
    refine st977 _ ?_
    show Sp p e below m T977 23 #[.val (.int p0), .val (.int p1), .val (.int p2), .val (.int p3), .val (.int p4), .val (.int p5), .unset, .unset, .unset, .unset, .unset] [(.int rrv_977), (.int (2 : Int32)), (.ref b951), (.ref b951)] _
    refine st979 _ ?_
    exact k
  obtain ⟨c2, he986⟩ : ∃ z : Int32, z = (nar .char rrv_977) := ⟨_, rfl⟩
  rw [← he986] at V979
  have hb2 : 0 ≤ c2.toInt ∧ c2.toInt ≤ 65535 := by rw [he986]; exact own_nc _
  obtain ⟨_, _, ⟨T987, L987, k987, n987⟩, -, X987, ⟨Lc987, hQ987, l987, y987, z987⟩, st987⟩ := Jvm.LawKit.callS X979 hx hown (mvT hZ (H 1 _ rfl)) (mvT hZ (H 2 _ rfl)) (mvT hZ (H 3 _ rfl)) (mvT hZ (H 4 _ rfl)) (by decide) (backOf (W := 3) (rm1 l Z a0 hw [] p3  h979 n0 Zs979 ) hZ (H 4 _ rfl) (H 3 _ rfl) (by decide) (by decide)) (g := (mkF m 27 #[.val (.int p0), .val (.int p1), .val (.int p2), .val (.int p3), .val (.int p4), .val (.int p5), .unset, .unset, .unset, .unset, .unset] [(.int p3), (.int (3 : Int32)), (.ref b951), (.ref b951)])) rfl (by rw [hml]; rfl) (argsL := [(.int p3)]) (rest := [(.int (3 : Int32)), (.ref b951), (.ref b951)]) (lenOf own_pd266 rfl) rfl (Nat.le_of_eq rfl) (hb hby at_27) (fun _ _ => ⟨rfl, e979, (by decide : 1 + 0 ≤ _), (by decide : 4 + 0 ≤ _)⟩)
  dsimp only [Pt.U, Pt.locs, Pt.cells, Pt.slots] at X987 l987 y987 z987 st987 hQ987
  rw [l987, y987, z987] at X987
  obtain ⟨rrv_987, rfl, Nq987, e987⟩ := hQ987
  have N987 := Fr.app N979 Nq987
  obtain ⟨cl988, Ar988, q988, S988, N988, H988, G988⟩ := id V979
  have hin988 : ¬ ((3 : Int32) < 0 ∨ cl988.slots.size ≤ ((3 : Int32)).toNatClampNeg) := inb_of S988 ⟨by decide, by decide⟩
  obtain ⟨T989, h989, X989, e989, W989, st989⟩ := stC X987 hx hZ e987 Ar988 (j := (3 : Int32)) hin988 (g := (mkF m 30 #[.val (.int p0), .val (.int p1), .val (.int p2), .val (.int p3), .val (.int p4), .val (.int p5), .unset, .unset, .unset, .unset, .unset] [(.int rrv_987), (.int (3 : Int32)), (.ref b951), (.ref b951)])) rfl rfl (hb hby at_30)
  have V989 : Arv Z h989 b951 k951 .char (4 : Int32) [(.int c0), (.int c1), (.int c2), (.int (nar .char rrv_987))] (.int (0 : Int32)) := Arv.set Ar988 q988 S988 N988 H988 G988 (fits_nar_char rrv_987) W989 3 rfl (Nat.le_of_ble_eq_true rfl)
  have N989 := Fr.snoc X989 N987 g_b951
  have Zs989 : n0 ≤ h989.size := Nat.le_trans Zs979 (Keep.of_wr W989).1
  have KK989 : Keep h0 h989 [] := KK979.wr W989 (Or.inr sz_b951)
  have O989 := O979.wr W989 g_b951
  have f990 := f980.wr W989
  have f991 := f981.wr W989
  have f992 := f982.wr W989
  have f993 := f983.wr W989
  have f994 := f984.wr W989
  have pre995 : ∀ t, Sp p e below m T989 31 #[.val (.int p0), .val (.int p1), .val (.int p2), .val (.int p3), .val (.int p4), .val (.int p5), .unset, .unset, .unset, .unset, .unset] [(.ref b951)] t → SG p e below G0 t := by
    intro t k
    refine pre985 t ?_
    show Sp p e below m T979 24 #[.val (.int p0), .val (.int p1), .val (.int p2), .val (.int p3), .val (.int p4), .val (.int p5), .unset, .unset, .unset, .unset, .unset] [(.ref b951)] _
    refine XS.dup X979.here hx rfl (hb hby at_24) rfl rfl ?_
    refine XS.iconst X979.here hx rfl (hb hby at_25) ?_
    refine XS.iloadN X979.here hx rfl (hb hby at_26) rfl ?_
    refine st987 _ ?_
    show Sp p e below m T987 30 #[.val (.int p0), .val (.int p1), .val (.int p2), .val (.int p3), .val (.int p4), .val (.int p5), .unset, .unset, .unset, .unset, .unset] [(.int rrv_987), (.int (3 : Int32)), (.ref b951), (.ref b951)] _
    refine st989 _ ?_
    exact k
  obtain ⟨c3, he996⟩ : ∃ z : Int32, z = (nar .char rrv_987) := ⟨_, rfl⟩
  rw [← he996] at V989
  have hb3 : 0 ≤ c3.toInt ∧ c3.toInt ≤ 65535 := by rw [he996]; exact own_nc _
  obtain ⟨T997, h997, X997, e997, E997, A997, D997, -, st997⟩ := newO X989 hx hZ hown (H 5 _ rfl) (H 6 _ rfl) (H 7 _ rfl) e989 (g := (mkF m 33 #[.val (.int p0), .val (.int p1), .val (.int p2), .val (.int p3), .val (.int p4), .val (.int p5), .val (.ref b951), .unset, .unset, .unset, .unset] [])) rfl (hb hby at_33) (by decide) (by decide)
  obtain ⟨b997, g997⟩ : ∃ z, z = h989.size := ⟨_, rfl⟩
  rw [← g997] at A997 D997 st997
  have g_b997 : n0 ≤ b997 := Nat.le_trans Zs989 (Nat.le_of_eq g997.symm)
  have sz_b997 : h0.size ≤ b997 := Nat.le_trans KK989.1 (Nat.le_of_eq g997.symm)
  have lt_b951_b997 : b951 < b997 := Nat.lt_of_lt_of_le V989.lt (Nat.le_of_eq g997.symm)
  have ne_b951_b997 : b951 ≠ b997 := Nat.ne_of_lt lt_b951_b997
  have Zs997 : n0 ≤ h997.size := Nat.le_trans Zs989 E997.1
  have KK997 : Keep h0 h997 [] := KK989.ext E997
  have O997 := O989.ext E997
  have f998 := f990.ext E997
  have f999 := f991.ext E997
  have f1000 := f992.ext E997
  have f1001 := f993.ext E997
  have f1002 := f994.ext E997
  have f1003 := V989.ext E997
  have f1004 : Fld Z h997 b997 "java/lang/String" "coder" "B" (.int (0 : Int32)) := D997 (Or.inr (H 31 _ rfl)) (ty := .byte) (by decide)
  have f1005 : Fld Z h997 b997 "java/lang/String" "value" "[B" .null := D997 (Or.inr (H 33 _ rfl)) (ty := (.array .byte)) (by decide)
  obtain ⟨_, _, ⟨T1006, L1006, k1006, n1006⟩, -, X1006, ⟨Lc1006, hQ1006, l1006, y1006, z1006⟩, st1006⟩ := X997.specialBack hx (y := (⟨"java/lang/String", "<init>", "([C)V"⟩ : MethodName)) rfl hown (mvT hZ (H 8 _ rfl)) (mvT hZ (H 9 _ rfl)) (mvT hZ (H 10 _ rfl)) (by decide) (backOf (W := 1) (rm2s l Z a0 hw [] b997 b951 cs vf k951 c0 c1 c2 c3 h997 n0 Zs997 O997 Scs hcs Ssf hvf Sas Shs Sls A997 f1005 f1004 g_b997 f1003 (Ne.symm ne_b951_b997) hb0 hb1 hb2 hb3) hZ (H 10 _ rfl) (H 7 _ rfl) (by decide) (by decide)) (g := (mkF m 39 #[.val (.int p0), .val (.int p1), .val (.int p2), .val (.int p3), .val (.int p4), .val (.int p5), .val (.ref b951), .unset, .unset, .unset, .unset] [(.ref b951), (.ref b997), (.ref b997)])) rfl (by rw [hml]; rfl) (Steps.refl _) (a := b997) (argsL := [(.ref b951)]) (rest := [(.ref b997)]) (lenOf own_pd324 rfl) rfl (Nat.le_of_eq rfl) (hb hby at_39) (fun _ _ => ⟨rfl, e997, (by decide : 2 + 2 ≤ _), (by decide : 8 + 12 ≤ _)⟩)
  dsimp only [Pt.U, Pt.locs, Pt.cells, Pt.slots] at X1006 l1006 y1006 z1006 st1006 hQ1006
  rw [l1006, y1006, z1006] at X1006
  obtain ⟨rrb_1006, rrk_1006, rfl, Nq1006, K1006, p1006_0, p1006_1, p1006_2⟩ := hQ1006
  have N1006 := Fr.app N989 Nq1006
  have Zs1006 : n0 ≤ T1006.heap.size := Nat.le_trans Zs997 K1006.1
  have KK1006 : Keep h0 T1006.heap [] := KK997.trans K1006 (allS (Or.inr sz_b997) all0)
  have O1006 := O997.keep K1006 (allS g_b997 all0)
  have f1007 := Scs.ext O1006.2
  have f1008 := Ssf.ext O1006.2
  have f1009 := Sas.ext O1006.2
  have f1010 := Shs.ext O1006.2
  have f1011 := Sls.ext O1006.2
  have f1012 := f1003.keep K1006 (ninS ne_b951_b997 nin0)
  have f1013 := A997.keep K1006
  have pre1014 : ∀ t, Sp p e below m T1006 44 #[.val (.int p0), .val (.int p1), .val (.int p2), .val (.int p3), .val (.int p4), .val (.int p5), .val (.ref b951), .val (.ref b997), .unset, .unset, .unset] [] t → SG p e below G0 t := by
    intro t k
    refine pre995 t ?_
    show Sp p e below m T989 31 #[.val (.int p0), .val (.int p1), .val (.int p2), .val (.int p3), .val (.int p4), .val (.int p5), .unset, .unset, .unset, .unset, .unset] [(.ref b951)] _
    refine XS.astore X989.here hx rfl (hb hby at_31) rfl rfl (l' := #[.val (.int p0), .val (.int p1), .val (.int p2), .val (.int p3), .val (.int p4), .val (.int p5), .val (.ref b951), .unset, .unset, .unset, .unset]) rfl ?_
    refine st997 _ ?_
    show Sp p e below m T997 36 #[.val (.int p0), .val (.int p1), .val (.int p2), .val (.int p3), .val (.int p4), .val (.int p5), .val (.ref b951), .unset, .unset, .unset, .unset] [(.ref b997)] _
    refine XS.dup X997.here hx rfl (hb hby at_36) rfl rfl ?_
    refine XS.aload X997.here hx rfl (hb hby at_37) rfl rfl ?_
    refine st1006.trans ?_
    show Sp p e below m T1006 42 #[.val (.int p0), .val (.int p1), .val (.int p2), .val (.int p3), .val (.int p4), .val (.int p5), .val (.ref b951), .unset, .unset, .unset, .unset] [(.ref b997)] _
    refine XS.astore X1006.here hx rfl (hb hby at_42) rfl rfl (l' := #[.val (.int p0), .val (.int p1), .val (.int p2), .val (.int p3), .val (.int p4), .val (.int p5), .val (.ref b951), .val (.ref b997), .unset, .unset, .unset]) rfl ?_
    exact k
  obtain ⟨Tm1020, lm1020, vf_, vt_, Xm1020, em1020, Nm1020, hv1022, pre1021⟩ : ∃ (Tm1020 : State) (lm1020 : List Loc) (vf_ : Int32) (vt_ : Int32), Stand p l e room_1 s m #[(.int p0), (.int p1), (.int p2), (.int p3), (.int p4), (.int p5)] below meth c Tm1020 lm1020 4 20 ∧ Tm1020.heap = T1006.heap ∧ Fr n0 lm1020 ∧ (¬ vf_ < vt_ ∨ (vf_ = 0 ∧ vt_ = 1) ∨ (vf_ = 0 ∧ vt_ = 2) ∨ (vf_ = 0 ∧ vt_ = 3) ∨ (vf_ = 0 ∧ vt_ = 4) ∨ (vf_ = 1 ∧ vt_ = 2) ∨ (vf_ = 1 ∧ vt_ = 3) ∨ (vf_ = 1 ∧ vt_ = 4) ∨ (vf_ = 2 ∧ vt_ = 3) ∨ (vf_ = 2 ∧ vt_ = 4) ∨ (vf_ = 3 ∧ vt_ = 4)) ∧ ∀ t, Sp p e below m Tm1020 91 #[.val (.int p0), .val (.int p1), .val (.int p2), .val (.int p3), .val (.int p4), .val (.int p5), .val (.ref b951), .val (.ref b997), .val (.int vf_), .val (.int vt_), .unset] [] t → SG p e below G0 t := by
    have pre1015 : ∀ t, Sp p e below m T1006 48 #[.val (.int p0), .val (.int p1), .val (.int p2), .val (.int p3), .val (.int p4), .val (.int p5), .val (.ref b951), .val (.ref b997), .unset, .unset, .unset] [(.int (p4 &&& (1 : Int32)))] t → SG p e below G0 t := by
      intro t k
      refine pre1014 t ?_
      show Sp p e below m T1006 44 #[.val (.int p0), .val (.int p1), .val (.int p2), .val (.int p3), .val (.int p4), .val (.int p5), .val (.ref b951), .val (.ref b997), .unset, .unset, .unset] [] _
      refine XS.iload X1006.here hx rfl (hb hby at_44) rfl ?_
      refine XS.iconst X1006.here hx rfl (hb hby at_46) ?_
      refine XS.iand X1006.here hx rfl (hb hby at_47) rfl ?_
      exact k
    by_cases hc48_1016 : (p4 &&& (1 : Int32)) = (0 : Int32)
    · have pre1017 : ∀ t, Sp p e below m T1006 91 #[.val (.int p0), .val (.int p1), .val (.int p2), .val (.int p3), .val (.int p4), .val (.int p5), .val (.ref b951), .val (.ref b997), .val (.int ((((p4.toUInt32 >>> ((1 : Int32) &&& 31).toUInt32).toInt32) &&& (7 : Int32)) % (5 : Int32))), .val (.int ((((p4.toUInt32 >>> ((4 : Int32) &&& 31).toUInt32).toInt32) &&& (7 : Int32)) % (5 : Int32))), .unset] [] t → SG p e below G0 t := by
        intro t k
        refine pre1015 t ?_
        show Sp p e below m T1006 48 #[.val (.int p0), .val (.int p1), .val (.int p2), .val (.int p3), .val (.int p4), .val (.int p5), .val (.ref b951), .val (.ref b997), .unset, .unset, .unset] [(.int (p4 &&& (1 : Int32)))] _
        refine XS.ifNo X1006.here hx rfl (hb hby at_48) rfl ((if0 _ _).trans (teq hc48_1016).2) ?_
        refine XS.iload X1006.here hx rfl (hb hby at_51) rfl ?_
        refine XS.iconst X1006.here hx rfl (hb hby at_53) ?_
        refine XS.iushr X1006.here hx rfl (hb hby at_54) rfl ?_
        refine XS.bipush X1006.here hx rfl (hb hby at_55) ?_
        show Sp p e below m T1006 57 #[.val (.int p0), .val (.int p1), .val (.int p2), .val (.int p3), .val (.int p4), .val (.int p5), .val (.ref b951), .val (.ref b997), .unset, .unset, .unset] [(.int (7 : Int32)), (.int ((p4.toUInt32 >>> ((1 : Int32) &&& 31).toUInt32).toInt32))] _
        refine XS.iand X1006.here hx rfl (hb hby at_57) rfl ?_
        refine XS.iconst X1006.here hx rfl (hb hby at_58) ?_
        refine iremM X1006 hx rfl (hb hby at_59) rfl (by decide) ?_
        show Sp p e below m T1006 60 #[.val (.int p0), .val (.int p1), .val (.int p2), .val (.int p3), .val (.int p4), .val (.int p5), .val (.ref b951), .val (.ref b997), .unset, .unset, .unset] [(.int ((((p4.toUInt32 >>> ((1 : Int32) &&& 31).toUInt32).toInt32) &&& (7 : Int32)) % (5 : Int32)))] _
        refine XS.istore X1006.here hx rfl (hb hby at_60) rfl (l' := #[.val (.int p0), .val (.int p1), .val (.int p2), .val (.int p3), .val (.int p4), .val (.int p5), .val (.ref b951), .val (.ref b997), .val (.int ((((p4.toUInt32 >>> ((1 : Int32) &&& 31).toUInt32).toInt32) &&& (7 : Int32)) % (5 : Int32))), .unset, .unset]) rfl ?_
        refine XS.iload X1006.here hx rfl (hb hby at_62) rfl ?_
        refine XS.iconst X1006.here hx rfl (hb hby at_64) ?_
        refine XS.iushr X1006.here hx rfl (hb hby at_65) rfl ?_
        refine XS.bipush X1006.here hx rfl (hb hby at_66) ?_
        refine XS.iand X1006.here hx rfl (hb hby at_68) rfl ?_
        refine XS.iconst X1006.here hx rfl (hb hby at_69) ?_
        refine iremM X1006 hx rfl (hb hby at_70) rfl (by decide) ?_
        show Sp p e below m T1006 71 #[.val (.int p0), .val (.int p1), .val (.int p2), .val (.int p3), .val (.int p4), .val (.int p5), .val (.ref b951), .val (.ref b997), .val (.int ((((p4.toUInt32 >>> ((1 : Int32) &&& 31).toUInt32).toInt32) &&& (7 : Int32)) % (5 : Int32))), .unset, .unset] [(.int ((((p4.toUInt32 >>> ((4 : Int32) &&& 31).toUInt32).toInt32) &&& (7 : Int32)) % (5 : Int32)))] _
        refine XS.istore X1006.here hx rfl (hb hby at_71) rfl (l' := #[.val (.int p0), .val (.int p1), .val (.int p2), .val (.int p3), .val (.int p4), .val (.int p5), .val (.ref b951), .val (.ref b997), .val (.int ((((p4.toUInt32 >>> ((1 : Int32) &&& 31).toUInt32).toInt32) &&& (7 : Int32)) % (5 : Int32))), .val (.int ((((p4.toUInt32 >>> ((4 : Int32) &&& 31).toUInt32).toInt32) &&& (7 : Int32)) % (5 : Int32))), .unset]) rfl ?_
        refine XS.goto X1006.here hx rfl (pc0 := 73) (pc' := 91) rfl (hb hby at_73) (by decide) (by decide) ?_
        exact k
      exact ⟨T1006, _, ((((p4.toUInt32 >>> ((1 : Int32) &&& 31).toUInt32).toInt32) &&& (7 : Int32)) % (5 : Int32)), ((((p4.toUInt32 >>> ((4 : Int32) &&& 31).toUInt32).toInt32) &&& (7 : Int32)) % (5 : Int32)), X1006, rfl, N1006, (by exact own_ft (own_r5 _) (own_r5 _)), pre1017⟩
    · obtain ⟨_, _, ⟨T1018, L1018, k1018, n1018⟩, -, X1018, ⟨Lc1018, hQ1018, l1018, y1018, z1018⟩, st1018⟩ := Jvm.LawKit.callS X1006 hx hown (mvT hZ (H 38 _ rfl)) (mvT hZ (H 39 _ rfl)) (mvT hZ (H 40 _ rfl)) (mvT hZ (H 41 _ rfl)) (by decide) (backOf (W := 0) (rm9 l Z a0 hw [] p5 (p4 >>> ((1 : Int32) &&& 31))  T1006.heap n0 Zs1006 ) hZ (H 41 _ rfl) (H 40 _ rfl) (by decide) (by decide)) (g := (mkF m 86 #[.val (.int p0), .val (.int p1), .val (.int p2), .val (.int p3), .val (.int p4), .val (.int p5), .val (.ref b951), .val (.ref b997), .unset, .val (.int (p4 >>> ((1 : Int32) &&& 31))), .unset] [(.int (p4 >>> ((1 : Int32) &&& 31))), (.int p5)])) rfl (by rw [hml]; rfl) (argsL := [(.int p5), (.int (p4 >>> ((1 : Int32) &&& 31)))]) (rest := []) (lenOf own_pd325 rfl) rfl (Nat.le_of_eq rfl) (hb hby at_86) (fun _ _ => ⟨rfl, rfl, (by decide : 4 + 0 ≤ _), (by decide : 20 + 0 ≤ _)⟩)
      dsimp only [Pt.U, Pt.locs, Pt.cells, Pt.slots] at X1018 l1018 y1018 z1018 st1018 hQ1018
      rw [l1018, y1018, z1018] at X1018
      obtain ⟨rfl, Nq1018, e1018⟩ := hQ1018
      have N1018 := Fr.app N1006 Nq1018
      have pre1019 : ∀ t, Sp p e below m T1018 91 #[.val (.int p0), .val (.int p1), .val (.int p2), .val (.int p3), .val (.int p4), .val (.int p5), .val (.ref b951), .val (.ref b997), .val (.int (if p5 < (p4 >>> ((1 : Int32) &&& 31)) then (p4 >>> ((1 : Int32) &&& 31)) else p5)), .val (.int (p4 >>> ((1 : Int32) &&& 31))), .unset] [] t → SG p e below G0 t := by
        intro t k
        refine pre1015 t ?_
        show Sp p e below m T1006 48 #[.val (.int p0), .val (.int p1), .val (.int p2), .val (.int p3), .val (.int p4), .val (.int p5), .val (.ref b951), .val (.ref b997), .unset, .unset, .unset] [(.int (p4 &&& (1 : Int32)))] _
        refine XS.ifYes X1006.here hx rfl (pc0 := 48) (pc' := 76) rfl (hb hby at_48) rfl ((if0 _ _).trans (feq hc48_1016).2) (by decide) (by decide) ?_
        refine XS.iload X1006.here hx rfl (hb hby at_76) rfl ?_
        refine XS.iconst X1006.here hx rfl (hb hby at_78) ?_
        refine XS.ishr X1006.here hx rfl (hb hby at_79) rfl ?_
        refine XS.istore X1006.here hx rfl (hb hby at_80) rfl (l' := #[.val (.int p0), .val (.int p1), .val (.int p2), .val (.int p3), .val (.int p4), .val (.int p5), .val (.ref b951), .val (.ref b997), .unset, .val (.int (p4 >>> ((1 : Int32) &&& 31))), .unset]) rfl ?_
        show Sp p e below m T1006 82 #[.val (.int p0), .val (.int p1), .val (.int p2), .val (.int p3), .val (.int p4), .val (.int p5), .val (.ref b951), .val (.ref b997), .unset, .val (.int (p4 >>> ((1 : Int32) &&& 31))), .unset] [] _
        refine XS.iload X1006.here hx rfl (hb hby at_82) rfl ?_
        refine XS.iload X1006.here hx rfl (hb hby at_84) rfl ?_
        refine st1018 _ ?_
        show Sp p e below m T1018 89 #[.val (.int p0), .val (.int p1), .val (.int p2), .val (.int p3), .val (.int p4), .val (.int p5), .val (.ref b951), .val (.ref b997), .unset, .val (.int (p4 >>> ((1 : Int32) &&& 31))), .unset] [(.int (if p5 < (p4 >>> ((1 : Int32) &&& 31)) then (p4 >>> ((1 : Int32) &&& 31)) else p5))] _
        refine XS.istore X1018.here hx rfl (hb hby at_89) rfl (l' := #[.val (.int p0), .val (.int p1), .val (.int p2), .val (.int p3), .val (.int p4), .val (.int p5), .val (.ref b951), .val (.ref b997), .val (.int (if p5 < (p4 >>> ((1 : Int32) &&& 31)) then (p4 >>> ((1 : Int32) &&& 31)) else p5)), .val (.int (p4 >>> ((1 : Int32) &&& 31))), .unset]) rfl ?_
        exact k
      exact ⟨T1018, _, (if p5 < (p4 >>> ((1 : Int32) &&& 31)) then (p4 >>> ((1 : Int32) &&& 31)) else p5), (p4 >>> ((1 : Int32) &&& 31)), X1018, e1018, N1018, (by exact Or.inl (own_mx _ _)), pre1019⟩
  rcases hv1022 with hge | ⟨hf01, ht01⟩ | ⟨hf02, ht02⟩ | ⟨hf03, ht03⟩ | ⟨hf04, ht04⟩ | ⟨hf12, ht12⟩ | ⟨hf13, ht13⟩ | ⟨hf14, ht14⟩ | ⟨hf23, ht23⟩ | ⟨hf24, ht24⟩ | ⟨hf34, ht34⟩
  · obtain ⟨_, _, ⟨T1023, L1023, k1023, n1023⟩, -, X1023, ⟨Lc1023, hQ1023, l1023, y1023, z1023⟩, st1023⟩ := Jvm.LawKit.callS Xm1020 hx hown (mvT hZ (H 34 _ rfl)) (mvT hZ (H 35 _ rfl)) (mvT hZ (H 36 _ rfl)) (mvT hZ (H 37 _ rfl)) (by decide) (backOf (W := 0) (rm8g l Z a0 hw [] b997 vf_ vt_  T1006.heap n0 Zs1006 hge) hZ (H 37 _ rfl) (H 36 _ rfl) (by decide) (by decide)) (g := (mkF m 171 #[.val (.int p0), .val (.int p1), .val (.int p2), .val (.int p3), .val (.int p4), .val (.int p5), .val (.ref b951), .val (.ref b997), .val (.int vf_), .val (.int vt_), .val (.int (0 : Int32))] [(.int vt_), (.int vf_), (.ref b997)])) rfl (by rw [hml]; rfl) (argsL := [(.ref b997), (.int vf_), (.int vt_)]) (rest := []) (lenOf own_pd326 rfl) rfl (Nat.le_of_eq rfl) (hb hby at_171) (fun _ _ => ⟨rfl, em1020, (by decide : 4 + 0 ≤ _), (by decide : 20 + 0 ≤ _)⟩)
    dsimp only [Pt.U, Pt.locs, Pt.cells, Pt.slots] at X1023 l1023 y1023 z1023 st1023 hQ1023
    rw [l1023, y1023, z1023] at X1023
    obtain ⟨rfl, Nq1023, e1023⟩ := hQ1023
    have N1023 := Fr.app Nm1020 Nq1023
    obtain ⟨fs, hr, hrun, hended, hW, hsame⟩ := X1023.leave (v := some (.int (1 : Int32))) (fun h => by rw [Bd.returns] at h; cases h)
    refine ⟨_, _, pre1021 _ ?_, hrun, hended, _, _, rfl, ?_, ⟨_, rfl⟩, hW, hsame.mono (by decide) (by decide)⟩
    · show Sp p e below m Tm1020 91 #[.val (.int p0), .val (.int p1), .val (.int p2), .val (.int p3), .val (.int p4), .val (.int p5), .val (.ref b951), .val (.ref b997), .val (.int vf_), .val (.int vt_), .unset] [] _
      refine XS.iload Xm1020.here hx rfl (hb hby at_91) rfl ?_
      refine XS.iload Xm1020.here hx rfl (hb hby at_93) rfl ?_
      refine XS.icmpYes Xm1020.here hx rfl (pc0 := 95) (pc' := 162) rfl (hb hby at_95) rfl (flt (hge : ¬ (vf_ < vt_))).2.1 (by decide) (by decide) ?_
      refine XS.iconst Xm1020.here hx rfl (hb hby at_162) ?_
      refine XS.istore Xm1020.here hx rfl (hb hby at_163) rfl (l' := #[.val (.int p0), .val (.int p1), .val (.int p2), .val (.int p3), .val (.int p4), .val (.int p5), .val (.ref b951), .val (.ref b997), .val (.int vf_), .val (.int vt_), .val (.int (0 : Int32))]) rfl ?_
      refine XS.aload Xm1020.here hx rfl (hb hby at_165) rfl rfl ?_
      refine XS.iload Xm1020.here hx rfl (hb hby at_167) rfl ?_
      refine XS.iload Xm1020.here hx rfl (hb hby at_169) rfl ?_
      show Sp p e below m Tm1020 171 #[.val (.int p0), .val (.int p1), .val (.int p2), .val (.int p3), .val (.int p4), .val (.int p5), .val (.ref b951), .val (.ref b997), .val (.int vf_), .val (.int vt_), .val (.int (0 : Int32))] [(.int vt_), (.int vf_), (.ref b997)] _
      refine st1023 _ ?_
      show Sp p e below m T1023 174 #[.val (.int p0), .val (.int p1), .val (.int p2), .val (.int p3), .val (.int p4), .val (.int p5), .val (.ref b951), .val (.ref b997), .val (.int vf_), .val (.int vt_), .val (.int (0 : Int32))] [(.int (0 : Int32))] _
      refine XS.iload X1023.here hx rfl (hb hby at_174) rfl ?_
      refine XS.icmpNo X1023.here hx rfl (hb hby at_176) rfl (teq (by decide : ((0 : Int32) = (0 : Int32)))).2 ?_
      refine XS.iconst X1023.here hx rfl (hb hby at_179) ?_
      refine XS.goto X1023.here hx rfl (pc0 := 180) (pc' := 184) rfl (hb hby at_180) (by decide) (by decide) ?_
      exact retN X1023 hx (t := .boolean) Bd.returns (by simp) (hb hby at_184) hr
    · show Q0 Z p0 p1 p2 p3 p4 p5 cs vf h0 n0 _ T1023.heap _
      rw [e1023]
      exact ⟨rfl, N1023⟩
  · rw [hf01, ht01] at pre1021
    obtain ⟨Tm1046, lm1046, v163_1045, Xm1046, em1046, Nm1046, hv1048, pre1047⟩ : ∃ (Tm1046 : State) (lm1046 : List Loc) (v163_1045 : Int32), Stand p l e room_1 s m #[(.int p0), (.int p1), (.int p2), (.int p3), (.int p4), (.int p5)] below meth c Tm1046 lm1046 4 20 ∧ Tm1046.heap = T1006.heap ∧ Fr n0 lm1046 ∧ (v163_1045 = if own_ok c0 0 0 1 = 0 then 0 else if own_ok c1 1 0 1 = 0 then 0 else if own_ok c2 2 0 1 = 0 then 0 else if own_ok c3 3 0 1 = 0 then 0 else 1) ∧ ∀ t, Sp p e below m Tm1046 163 #[.val (.int p0), .val (.int p1), .val (.int p2), .val (.int p3), .val (.int p4), .val (.int p5), .val (.ref b951), .val (.ref b997), .val (.int (0 : Int32)), .val (.int (1 : Int32)), .unset] [(.int v163_1045)] t → SG p e below G0 t := by
      obtain ⟨cl1024, Ar1024, -, S1024, -, H1024, -⟩ := id f1012
      have hin1024 : ¬ ((0 : Int32) < 0 ∨ cl1024.slots.size ≤ ((0 : Int32)).toNatClampNeg) := inb_of S1024 ⟨by decide, by decide⟩
      have hat1024 : cl1024.slots[((0 : Int32)).toNatClampNeg]? = some (.int c0) := H1024.at hin1024 rfl
      obtain ⟨_, _, ⟨T1025, L1025, k1025, n1025⟩, -, X1025, ⟨Lc1025, hQ1025, l1025, y1025, z1025⟩, st1025⟩ := Jvm.LawKit.callS Xm1020 hx hown (mvT hZ (H 61 _ rfl)) (mvT hZ (H 62 _ rfl)) (mvT hZ (H 3 _ rfl)) (mvT hZ (H 63 _ rfl)) (by decide) (backOf (W := 0) (rm15 l Z a0 hw [] c0 (0 : Int32) (0 : Int32) (1 : Int32)  T1006.heap n0 Zs1006 ) hZ (H 63 _ rfl) (H 3 _ rfl) (by decide) (by decide)) (g := (mkF m 107 #[.val (.int p0), .val (.int p1), .val (.int p2), .val (.int p3), .val (.int p4), .val (.int p5), .val (.ref b951), .val (.ref b997), .val (.int (0 : Int32)), .val (.int (1 : Int32)), .unset] [(.int (1 : Int32)), (.int (0 : Int32)), (.int (0 : Int32)), (.int c0)])) rfl (by rw [hml]; rfl) (argsL := [(.int c0), (.int (0 : Int32)), (.int (0 : Int32)), (.int (1 : Int32))]) (rest := []) (lenOf own_pd327 rfl) rfl (Nat.le_of_eq rfl) (hb hby at_107) (fun _ _ => ⟨rfl, em1020, (by decide : 4 + 0 ≤ _), (by decide : 20 + 0 ≤ _)⟩)
      dsimp only [Pt.U, Pt.locs, Pt.cells, Pt.slots] at X1025 l1025 y1025 z1025 st1025 hQ1025
      rw [l1025, y1025, z1025] at X1025
      obtain ⟨rfl, Nq1025, e1025⟩ := hQ1025
      have N1025 := Fr.app Nm1020 Nq1025
      have pre1026 : ∀ t, Sp p e below m T1025 110 #[.val (.int p0), .val (.int p1), .val (.int p2), .val (.int p3), .val (.int p4), .val (.int p5), .val (.ref b951), .val (.ref b997), .val (.int (0 : Int32)), .val (.int (1 : Int32)), .unset] [(.int (own_ok c0 (0 : Int32) (0 : Int32) (1 : Int32)))] t → SG p e below G0 t := by
        intro t k
        refine pre1021 t ?_
        show Sp p e below m Tm1020 91 #[.val (.int p0), .val (.int p1), .val (.int p2), .val (.int p3), .val (.int p4), .val (.int p5), .val (.ref b951), .val (.ref b997), .val (.int (0 : Int32)), .val (.int (1 : Int32)), .unset] [] _
        refine XS.iload Xm1020.here hx rfl (hb hby at_91) rfl ?_
        refine XS.iload Xm1020.here hx rfl (hb hby at_93) rfl ?_
        refine XS.icmpNo Xm1020.here hx rfl (hb hby at_95) rfl (tlt (by decide : ((0 : Int32) < (1 : Int32)))).2.1 ?_
        refine XS.aload Xm1020.here hx rfl (hb hby at_98) rfl rfl ?_
        refine XS.iconst Xm1020.here hx rfl (hb hby at_100) ?_
        refine Xm1020.caload hx (j := (0 : Int32)) (v := (.int c0)) (by rw [em1020]; exact Ar1024.1) (State.isArrayOf_alike hZ.alike Ar1024.2.1) Ar1024.2.2 hin1024 hat1024 (g := (mkF m 101 #[.val (.int p0), .val (.int p1), .val (.int p2), .val (.int p3), .val (.int p4), .val (.int p5), .val (.ref b951), .val (.ref b997), .val (.int (0 : Int32)), .val (.int (1 : Int32)), .unset] [(.int (0 : Int32)), (.ref b951)])) rfl rfl (hb hby at_101) _ ?_
        show Sp p e below m Tm1020 102 #[.val (.int p0), .val (.int p1), .val (.int p2), .val (.int p3), .val (.int p4), .val (.int p5), .val (.ref b951), .val (.ref b997), .val (.int (0 : Int32)), .val (.int (1 : Int32)), .unset] [(.int c0)] _
        refine XS.iconst Xm1020.here hx rfl (hb hby at_102) ?_
        refine XS.iload Xm1020.here hx rfl (hb hby at_103) rfl ?_
        refine XS.iload Xm1020.here hx rfl (hb hby at_105) rfl ?_
        refine st1025 _ ?_
        exact k
      by_cases hc110_1027 : (own_ok c0 (0 : Int32) (0 : Int32) (1 : Int32)) = (0 : Int32)
      · have pre1028 : ∀ t, Sp p e below m T1025 163 #[.val (.int p0), .val (.int p1), .val (.int p2), .val (.int p3), .val (.int p4), .val (.int p5), .val (.ref b951), .val (.ref b997), .val (.int (0 : Int32)), .val (.int (1 : Int32)), .unset] [(.int (0 : Int32))] t → SG p e below G0 t := by
          intro t k
          refine pre1026 t ?_
          show Sp p e below m T1025 110 #[.val (.int p0), .val (.int p1), .val (.int p2), .val (.int p3), .val (.int p4), .val (.int p5), .val (.ref b951), .val (.ref b997), .val (.int (0 : Int32)), .val (.int (1 : Int32)), .unset] [(.int (own_ok c0 (0 : Int32) (0 : Int32) (1 : Int32)))] _
          refine XS.ifYes X1025.here hx rfl (pc0 := 110) (pc' := 162) rfl (hb hby at_110) rfl ((if0 _ _).trans (teq hc110_1027).1) (by decide) (by decide) ?_
          refine XS.iconst X1025.here hx rfl (hb hby at_162) ?_
          exact k
        exact ⟨T1025, _, (0 : Int32), X1025, e1025, N1025, (by simp [hc110_1027]), pre1028⟩
      · obtain ⟨cl1029, Ar1029, -, S1029, -, H1029, -⟩ := id f1012
        have hin1029 : ¬ ((1 : Int32) < 0 ∨ cl1029.slots.size ≤ ((1 : Int32)).toNatClampNeg) := inb_of S1029 ⟨by decide, by decide⟩
        have hat1029 : cl1029.slots[((1 : Int32)).toNatClampNeg]? = some (.int c1) := H1029.at hin1029 rfl
        obtain ⟨_, _, ⟨T1030, L1030, k1030, n1030⟩, -, X1030, ⟨Lc1030, hQ1030, l1030, y1030, z1030⟩, st1030⟩ := Jvm.LawKit.callS X1025 hx hown (mvT hZ (H 61 _ rfl)) (mvT hZ (H 62 _ rfl)) (mvT hZ (H 3 _ rfl)) (mvT hZ (H 63 _ rfl)) (by decide) (backOf (W := 0) (rm15 l Z a0 hw [] c1 (1 : Int32) (0 : Int32) (1 : Int32)  T1006.heap n0 Zs1006 ) hZ (H 63 _ rfl) (H 3 _ rfl) (by decide) (by decide)) (g := (mkF m 122 #[.val (.int p0), .val (.int p1), .val (.int p2), .val (.int p3), .val (.int p4), .val (.int p5), .val (.ref b951), .val (.ref b997), .val (.int (0 : Int32)), .val (.int (1 : Int32)), .unset] [(.int (1 : Int32)), (.int (0 : Int32)), (.int (1 : Int32)), (.int c1)])) rfl (by rw [hml]; rfl) (argsL := [(.int c1), (.int (1 : Int32)), (.int (0 : Int32)), (.int (1 : Int32))]) (rest := []) (lenOf own_pd327 rfl) rfl (Nat.le_of_eq rfl) (hb hby at_122) (fun _ _ => ⟨rfl, e1025, (by decide : 4 + 0 ≤ _), (by decide : 20 + 0 ≤ _)⟩)
        dsimp only [Pt.U, Pt.locs, Pt.cells, Pt.slots] at X1030 l1030 y1030 z1030 st1030 hQ1030
        rw [l1030, y1030, z1030] at X1030
        obtain ⟨rfl, Nq1030, e1030⟩ := hQ1030
        have N1030 := Fr.app N1025 Nq1030
        have pre1031 : ∀ t, Sp p e below m T1030 125 #[.val (.int p0), .val (.int p1), .val (.int p2), .val (.int p3), .val (.int p4), .val (.int p5), .val (.ref b951), .val (.ref b997), .val (.int (0 : Int32)), .val (.int (1 : Int32)), .unset] [(.int (own_ok c1 (1 : Int32) (0 : Int32) (1 : Int32)))] t → SG p e below G0 t := by
          intro t k
          refine pre1026 t ?_
          show Sp p e below m T1025 110 #[.val (.int p0), .val (.int p1), .val (.int p2), .val (.int p3), .val (.int p4), .val (.int p5), .val (.ref b951), .val (.ref b997), .val (.int (0 : Int32)), .val (.int (1 : Int32)), .unset] [(.int (own_ok c0 (0 : Int32) (0 : Int32) (1 : Int32)))] _
          refine XS.ifNo X1025.here hx rfl (hb hby at_110) rfl ((if0 _ _).trans (feq hc110_1027).1) ?_
          refine XS.aload X1025.here hx rfl (hb hby at_113) rfl rfl ?_
          refine XS.iconst X1025.here hx rfl (hb hby at_115) ?_
          refine X1025.caload hx (j := (1 : Int32)) (v := (.int c1)) (by rw [e1025]; exact Ar1029.1) (State.isArrayOf_alike hZ.alike Ar1029.2.1) Ar1029.2.2 hin1029 hat1029 (g := (mkF m 116 #[.val (.int p0), .val (.int p1), .val (.int p2), .val (.int p3), .val (.int p4), .val (.int p5), .val (.ref b951), .val (.ref b997), .val (.int (0 : Int32)), .val (.int (1 : Int32)), .unset] [(.int (1 : Int32)), (.ref b951)])) rfl rfl (hb hby at_116) _ ?_
          show Sp p e below m T1025 117 #[.val (.int p0), .val (.int p1), .val (.int p2), .val (.int p3), .val (.int p4), .val (.int p5), .val (.ref b951), .val (.ref b997), .val (.int (0 : Int32)), .val (.int (1 : Int32)), .unset] [(.int c1)] _
          refine XS.iconst X1025.here hx rfl (hb hby at_117) ?_
          refine XS.iload X1025.here hx rfl (hb hby at_118) rfl ?_
          refine XS.iload X1025.here hx rfl (hb hby at_120) rfl ?_
          refine st1030 _ ?_
          exact k
        by_cases hc125_1032 : (own_ok c1 (1 : Int32) (0 : Int32) (1 : Int32)) = (0 : Int32)
        · have pre1033 : ∀ t, Sp p e below m T1030 163 #[.val (.int p0), .val (.int p1), .val (.int p2), .val (.int p3), .val (.int p4), .val (.int p5), .val (.ref b951), .val (.ref b997), .val (.int (0 : Int32)), .val (.int (1 : Int32)), .unset] [(.int (0 : Int32))] t → SG p e below G0 t := by
            intro t k
            refine pre1031 t ?_
            show Sp p e below m T1030 125 #[.val (.int p0), .val (.int p1), .val (.int p2), .val (.int p3), .val (.int p4), .val (.int p5), .val (.ref b951), .val (.ref b997), .val (.int (0 : Int32)), .val (.int (1 : Int32)), .unset] [(.int (own_ok c1 (1 : Int32) (0 : Int32) (1 : Int32)))] _
            refine XS.ifYes X1030.here hx rfl (pc0 := 125) (pc' := 162) rfl (hb hby at_125) rfl ((if0 _ _).trans (teq hc125_1032).1) (by decide) (by decide) ?_
            refine XS.iconst X1030.here hx rfl (hb hby at_162) ?_
            exact k
          exact ⟨T1030, _, (0 : Int32), X1030, e1030, N1030, (by simp [hc110_1027, hc125_1032]), pre1033⟩
        · obtain ⟨cl1034, Ar1034, -, S1034, -, H1034, -⟩ := id f1012
          have hin1034 : ¬ ((2 : Int32) < 0 ∨ cl1034.slots.size ≤ ((2 : Int32)).toNatClampNeg) := inb_of S1034 ⟨by decide, by decide⟩
          have hat1034 : cl1034.slots[((2 : Int32)).toNatClampNeg]? = some (.int c2) := H1034.at hin1034 rfl
          obtain ⟨_, _, ⟨T1035, L1035, k1035, n1035⟩, -, X1035, ⟨Lc1035, hQ1035, l1035, y1035, z1035⟩, st1035⟩ := Jvm.LawKit.callS X1030 hx hown (mvT hZ (H 61 _ rfl)) (mvT hZ (H 62 _ rfl)) (mvT hZ (H 3 _ rfl)) (mvT hZ (H 63 _ rfl)) (by decide) (backOf (W := 0) (rm15 l Z a0 hw [] c2 (2 : Int32) (0 : Int32) (1 : Int32)  T1006.heap n0 Zs1006 ) hZ (H 63 _ rfl) (H 3 _ rfl) (by decide) (by decide)) (g := (mkF m 137 #[.val (.int p0), .val (.int p1), .val (.int p2), .val (.int p3), .val (.int p4), .val (.int p5), .val (.ref b951), .val (.ref b997), .val (.int (0 : Int32)), .val (.int (1 : Int32)), .unset] [(.int (1 : Int32)), (.int (0 : Int32)), (.int (2 : Int32)), (.int c2)])) rfl (by rw [hml]; rfl) (argsL := [(.int c2), (.int (2 : Int32)), (.int (0 : Int32)), (.int (1 : Int32))]) (rest := []) (lenOf own_pd327 rfl) rfl (Nat.le_of_eq rfl) (hb hby at_137) (fun _ _ => ⟨rfl, e1030, (by decide : 4 + 0 ≤ _), (by decide : 20 + 0 ≤ _)⟩)
          dsimp only [Pt.U, Pt.locs, Pt.cells, Pt.slots] at X1035 l1035 y1035 z1035 st1035 hQ1035
          rw [l1035, y1035, z1035] at X1035
          obtain ⟨rfl, Nq1035, e1035⟩ := hQ1035
          have N1035 := Fr.app N1030 Nq1035
          have pre1036 : ∀ t, Sp p e below m T1035 140 #[.val (.int p0), .val (.int p1), .val (.int p2), .val (.int p3), .val (.int p4), .val (.int p5), .val (.ref b951), .val (.ref b997), .val (.int (0 : Int32)), .val (.int (1 : Int32)), .unset] [(.int (own_ok c2 (2 : Int32) (0 : Int32) (1 : Int32)))] t → SG p e below G0 t := by
            intro t k
            refine pre1031 t ?_
            show Sp p e below m T1030 125 #[.val (.int p0), .val (.int p1), .val (.int p2), .val (.int p3), .val (.int p4), .val (.int p5), .val (.ref b951), .val (.ref b997), .val (.int (0 : Int32)), .val (.int (1 : Int32)), .unset] [(.int (own_ok c1 (1 : Int32) (0 : Int32) (1 : Int32)))] _
            refine XS.ifNo X1030.here hx rfl (hb hby at_125) rfl ((if0 _ _).trans (feq hc125_1032).1) ?_
            refine XS.aload X1030.here hx rfl (hb hby at_128) rfl rfl ?_
            refine XS.iconst X1030.here hx rfl (hb hby at_130) ?_
            refine X1030.caload hx (j := (2 : Int32)) (v := (.int c2)) (by rw [e1030]; exact Ar1034.1) (State.isArrayOf_alike hZ.alike Ar1034.2.1) Ar1034.2.2 hin1034 hat1034 (g := (mkF m 131 #[.val (.int p0), .val (.int p1), .val (.int p2), .val (.int p3), .val (.int p4), .val (.int p5), .val (.ref b951), .val (.ref b997), .val (.int (0 : Int32)), .val (.int (1 : Int32)), .unset] [(.int (2 : Int32)), (.ref b951)])) rfl rfl (hb hby at_131) _ ?_
            show Sp p e below m T1030 132 #[.val (.int p0), .val (.int p1), .val (.int p2), .val (.int p3), .val (.int p4), .val (.int p5), .val (.ref b951), .val (.ref b997), .val (.int (0 : Int32)), .val (.int (1 : Int32)), .unset] [(.int c2)] _
            refine XS.iconst X1030.here hx rfl (hb hby at_132) ?_
            refine XS.iload X1030.here hx rfl (hb hby at_133) rfl ?_
            refine XS.iload X1030.here hx rfl (hb hby at_135) rfl ?_
            refine st1035 _ ?_
            exact k
          by_cases hc140_1037 : (own_ok c2 (2 : Int32) (0 : Int32) (1 : Int32)) = (0 : Int32)
          · have pre1038 : ∀ t, Sp p e below m T1035 163 #[.val (.int p0), .val (.int p1), .val (.int p2), .val (.int p3), .val (.int p4), .val (.int p5), .val (.ref b951), .val (.ref b997), .val (.int (0 : Int32)), .val (.int (1 : Int32)), .unset] [(.int (0 : Int32))] t → SG p e below G0 t := by
              intro t k
              refine pre1036 t ?_
              show Sp p e below m T1035 140 #[.val (.int p0), .val (.int p1), .val (.int p2), .val (.int p3), .val (.int p4), .val (.int p5), .val (.ref b951), .val (.ref b997), .val (.int (0 : Int32)), .val (.int (1 : Int32)), .unset] [(.int (own_ok c2 (2 : Int32) (0 : Int32) (1 : Int32)))] _
              refine XS.ifYes X1035.here hx rfl (pc0 := 140) (pc' := 162) rfl (hb hby at_140) rfl ((if0 _ _).trans (teq hc140_1037).1) (by decide) (by decide) ?_
              refine XS.iconst X1035.here hx rfl (hb hby at_162) ?_
              exact k
            exact ⟨T1035, _, (0 : Int32), X1035, e1035, N1035, (by simp [hc110_1027, hc125_1032, hc140_1037]), pre1038⟩
          · obtain ⟨cl1039, Ar1039, -, S1039, -, H1039, -⟩ := id f1012
            have hin1039 : ¬ ((3 : Int32) < 0 ∨ cl1039.slots.size ≤ ((3 : Int32)).toNatClampNeg) := inb_of S1039 ⟨by decide, by decide⟩
            have hat1039 : cl1039.slots[((3 : Int32)).toNatClampNeg]? = some (.int c3) := H1039.at hin1039 rfl
            obtain ⟨_, _, ⟨T1040, L1040, k1040, n1040⟩, -, X1040, ⟨Lc1040, hQ1040, l1040, y1040, z1040⟩, st1040⟩ := Jvm.LawKit.callS X1035 hx hown (mvT hZ (H 61 _ rfl)) (mvT hZ (H 62 _ rfl)) (mvT hZ (H 3 _ rfl)) (mvT hZ (H 63 _ rfl)) (by decide) (backOf (W := 0) (rm15 l Z a0 hw [] c3 (3 : Int32) (0 : Int32) (1 : Int32)  T1006.heap n0 Zs1006 ) hZ (H 63 _ rfl) (H 3 _ rfl) (by decide) (by decide)) (g := (mkF m 152 #[.val (.int p0), .val (.int p1), .val (.int p2), .val (.int p3), .val (.int p4), .val (.int p5), .val (.ref b951), .val (.ref b997), .val (.int (0 : Int32)), .val (.int (1 : Int32)), .unset] [(.int (1 : Int32)), (.int (0 : Int32)), (.int (3 : Int32)), (.int c3)])) rfl (by rw [hml]; rfl) (argsL := [(.int c3), (.int (3 : Int32)), (.int (0 : Int32)), (.int (1 : Int32))]) (rest := []) (lenOf own_pd327 rfl) rfl (Nat.le_of_eq rfl) (hb hby at_152) (fun _ _ => ⟨rfl, e1035, (by decide : 4 + 0 ≤ _), (by decide : 20 + 0 ≤ _)⟩)
            dsimp only [Pt.U, Pt.locs, Pt.cells, Pt.slots] at X1040 l1040 y1040 z1040 st1040 hQ1040
            rw [l1040, y1040, z1040] at X1040
            obtain ⟨rfl, Nq1040, e1040⟩ := hQ1040
            have N1040 := Fr.app N1035 Nq1040
            have pre1041 : ∀ t, Sp p e below m T1040 155 #[.val (.int p0), .val (.int p1), .val (.int p2), .val (.int p3), .val (.int p4), .val (.int p5), .val (.ref b951), .val (.ref b997), .val (.int (0 : Int32)), .val (.int (1 : Int32)), .unset] [(.int (own_ok c3 (3 : Int32) (0 : Int32) (1 : Int32)))] t → SG p e below G0 t := by
              intro t k
              refine pre1036 t ?_
              show Sp p e below m T1035 140 #[.val (.int p0), .val (.int p1), .val (.int p2), .val (.int p3), .val (.int p4), .val (.int p5), .val (.ref b951), .val (.ref b997), .val (.int (0 : Int32)), .val (.int (1 : Int32)), .unset] [(.int (own_ok c2 (2 : Int32) (0 : Int32) (1 : Int32)))] _
              refine XS.ifNo X1035.here hx rfl (hb hby at_140) rfl ((if0 _ _).trans (feq hc140_1037).1) ?_
              refine XS.aload X1035.here hx rfl (hb hby at_143) rfl rfl ?_
              refine XS.iconst X1035.here hx rfl (hb hby at_145) ?_
              refine X1035.caload hx (j := (3 : Int32)) (v := (.int c3)) (by rw [e1035]; exact Ar1039.1) (State.isArrayOf_alike hZ.alike Ar1039.2.1) Ar1039.2.2 hin1039 hat1039 (g := (mkF m 146 #[.val (.int p0), .val (.int p1), .val (.int p2), .val (.int p3), .val (.int p4), .val (.int p5), .val (.ref b951), .val (.ref b997), .val (.int (0 : Int32)), .val (.int (1 : Int32)), .unset] [(.int (3 : Int32)), (.ref b951)])) rfl rfl (hb hby at_146) _ ?_
              show Sp p e below m T1035 147 #[.val (.int p0), .val (.int p1), .val (.int p2), .val (.int p3), .val (.int p4), .val (.int p5), .val (.ref b951), .val (.ref b997), .val (.int (0 : Int32)), .val (.int (1 : Int32)), .unset] [(.int c3)] _
              refine XS.iconst X1035.here hx rfl (hb hby at_147) ?_
              refine XS.iload X1035.here hx rfl (hb hby at_148) rfl ?_
              refine XS.iload X1035.here hx rfl (hb hby at_150) rfl ?_
              refine st1040 _ ?_
              exact k
            by_cases hc155_1042 : (own_ok c3 (3 : Int32) (0 : Int32) (1 : Int32)) = (0 : Int32)
            · have pre1043 : ∀ t, Sp p e below m T1040 163 #[.val (.int p0), .val (.int p1), .val (.int p2), .val (.int p3), .val (.int p4), .val (.int p5), .val (.ref b951), .val (.ref b997), .val (.int (0 : Int32)), .val (.int (1 : Int32)), .unset] [(.int (0 : Int32))] t → SG p e below G0 t := by
                intro t k
                refine pre1041 t ?_
                show Sp p e below m T1040 155 #[.val (.int p0), .val (.int p1), .val (.int p2), .val (.int p3), .val (.int p4), .val (.int p5), .val (.ref b951), .val (.ref b997), .val (.int (0 : Int32)), .val (.int (1 : Int32)), .unset] [(.int (own_ok c3 (3 : Int32) (0 : Int32) (1 : Int32)))] _
                refine XS.ifYes X1040.here hx rfl (pc0 := 155) (pc' := 162) rfl (hb hby at_155) rfl ((if0 _ _).trans (teq hc155_1042).1) (by decide) (by decide) ?_
                refine XS.iconst X1040.here hx rfl (hb hby at_162) ?_
                exact k
              exact ⟨T1040, _, (0 : Int32), X1040, e1040, N1040, (by simp [hc110_1027, hc125_1032, hc140_1037, hc155_1042]), pre1043⟩
            · have pre1044 : ∀ t, Sp p e below m T1040 163 #[.val (.int p0), .val (.int p1), .val (.int p2), .val (.int p3), .val (.int p4), .val (.int p5), .val (.ref b951), .val (.ref b997), .val (.int (0 : Int32)), .val (.int (1 : Int32)), .unset] [(.int (1 : Int32))] t → SG p e below G0 t := by
                intro t k
                refine pre1041 t ?_
                show Sp p e below m T1040 155 #[.val (.int p0), .val (.int p1), .val (.int p2), .val (.int p3), .val (.int p4), .val (.int p5), .val (.ref b951), .val (.ref b997), .val (.int (0 : Int32)), .val (.int (1 : Int32)), .unset] [(.int (own_ok c3 (3 : Int32) (0 : Int32) (1 : Int32)))] _
                refine XS.ifNo X1040.here hx rfl (hb hby at_155) rfl ((if0 _ _).trans (feq hc155_1042).1) ?_
                refine XS.iconst X1040.here hx rfl (hb hby at_158) ?_
                refine XS.goto X1040.here hx rfl (pc0 := 159) (pc' := 163) rfl (hb hby at_159) (by decide) (by decide) ?_
                exact k
              exact ⟨T1040, _, (1 : Int32), X1040, e1040, N1040, (by simp [hc110_1027, hc125_1032, hc140_1037, hc155_1042]), pre1044⟩
    obtain ⟨_, _, ⟨T1049, L1049, k1049, n1049⟩, -, X1049, ⟨Lc1049, hQ1049, l1049, y1049, z1049⟩, st1049⟩ := Jvm.LawKit.callS Xm1046 hx hown (mvT hZ (H 34 _ rfl)) (mvT hZ (H 35 _ rfl)) (mvT hZ (H 36 _ rfl)) (mvT hZ (H 37 _ rfl)) (by decide) (backOf (W := 0) (rm8f0t1 l Z a0 hw [] b997 cs vf rrb_1006 rrk_1006 c0 c1 c2 c3 T1006.heap n0 Zs1006 O1006 Scs hcs Ssf hvf Sas Shs Sls p1006_0 p1006_1 p1006_2 hb0 hb1 hb2 hb3) hZ (H 37 _ rfl) (H 36 _ rfl) (by decide) (by decide)) (g := (mkF m 171 #[.val (.int p0), .val (.int p1), .val (.int p2), .val (.int p3), .val (.int p4), .val (.int p5), .val (.ref b951), .val (.ref b997), .val (.int (0 : Int32)), .val (.int (1 : Int32)), .val (.int v163_1045)] [(.int (1 : Int32)), (.int (0 : Int32)), (.ref b997)])) rfl (by rw [hml]; rfl) (argsL := [(.ref b997), (.int (0 : Int32)), (.int (1 : Int32))]) (rest := []) (lenOf own_pd326 rfl) rfl (Nat.le_of_eq rfl) (hb hby at_171) (fun _ _ => ⟨rfl, em1046, (by decide : 4 + 0 ≤ _), (by decide : 20 + 0 ≤ _)⟩)
    dsimp only [Pt.U, Pt.locs, Pt.cells, Pt.slots] at X1049 l1049 y1049 z1049 st1049 hQ1049
    rw [l1049, y1049, z1049] at X1049
    obtain ⟨rfl, Nq1049, e1049⟩ := hQ1049
    have N1049 := Fr.app Nm1046 Nq1049
    obtain ⟨fs, hr, hrun, hended, hW, hsame⟩ := X1049.leave (v := some (.int (1 : Int32))) (fun h => by rw [Bd.returns] at h; cases h)
    refine ⟨_, _, pre1047 _ ?_, hrun, hended, _, _, rfl, ?_, ⟨_, rfl⟩, hW, hsame.mono (by decide) (by decide)⟩
    · show Sp p e below m Tm1046 163 #[.val (.int p0), .val (.int p1), .val (.int p2), .val (.int p3), .val (.int p4), .val (.int p5), .val (.ref b951), .val (.ref b997), .val (.int (0 : Int32)), .val (.int (1 : Int32)), .unset] [(.int v163_1045)] _
      refine XS.istore Xm1046.here hx rfl (hb hby at_163) rfl (l' := #[.val (.int p0), .val (.int p1), .val (.int p2), .val (.int p3), .val (.int p4), .val (.int p5), .val (.ref b951), .val (.ref b997), .val (.int (0 : Int32)), .val (.int (1 : Int32)), .val (.int v163_1045)]) rfl ?_
      refine XS.aload Xm1046.here hx rfl (hb hby at_165) rfl rfl ?_
      refine XS.iload Xm1046.here hx rfl (hb hby at_167) rfl ?_
      refine XS.iload Xm1046.here hx rfl (hb hby at_169) rfl ?_
      refine st1049 _ ?_
      show Sp p e below m T1049 174 #[.val (.int p0), .val (.int p1), .val (.int p2), .val (.int p3), .val (.int p4), .val (.int p5), .val (.ref b951), .val (.ref b997), .val (.int (0 : Int32)), .val (.int (1 : Int32)), .val (.int v163_1045)] [(.int (own_dg c0))] _
      refine XS.iload X1049.here hx rfl (hb hby at_174) rfl ?_
      refine XS.icmpNo X1049.here hx rfl (hb hby at_176) rfl (teq (own_fin01 hv1048 : ((own_dg c0) = v163_1045))).2 ?_
      refine XS.iconst X1049.here hx rfl (hb hby at_179) ?_
      refine XS.goto X1049.here hx rfl (pc0 := 180) (pc' := 184) rfl (hb hby at_180) (by decide) (by decide) ?_
      exact retN X1049 hx (t := .boolean) Bd.returns (by simp) (hb hby at_184) hr
    · show Q0 Z p0 p1 p2 p3 p4 p5 cs vf h0 n0 _ T1049.heap _
      rw [e1049]
      exact ⟨rfl, N1049⟩
  · rw [hf02, ht02] at pre1021
    obtain ⟨Tm1072, lm1072, v163_1071, Xm1072, em1072, Nm1072, hv1074, pre1073⟩ : ∃ (Tm1072 : State) (lm1072 : List Loc) (v163_1071 : Int32), Stand p l e room_1 s m #[(.int p0), (.int p1), (.int p2), (.int p3), (.int p4), (.int p5)] below meth c Tm1072 lm1072 4 20 ∧ Tm1072.heap = T1006.heap ∧ Fr n0 lm1072 ∧ (v163_1071 = if own_ok c0 0 0 2 = 0 then 0 else if own_ok c1 1 0 2 = 0 then 0 else if own_ok c2 2 0 2 = 0 then 0 else if own_ok c3 3 0 2 = 0 then 0 else 1) ∧ ∀ t, Sp p e below m Tm1072 163 #[.val (.int p0), .val (.int p1), .val (.int p2), .val (.int p3), .val (.int p4), .val (.int p5), .val (.ref b951), .val (.ref b997), .val (.int (0 : Int32)), .val (.int (2 : Int32)), .unset] [(.int v163_1071)] t → SG p e below G0 t := by
      obtain ⟨cl1050, Ar1050, -, S1050, -, H1050, -⟩ := id f1012
      have hin1050 : ¬ ((0 : Int32) < 0 ∨ cl1050.slots.size ≤ ((0 : Int32)).toNatClampNeg) := inb_of S1050 ⟨by decide, by decide⟩
      have hat1050 : cl1050.slots[((0 : Int32)).toNatClampNeg]? = some (.int c0) := H1050.at hin1050 rfl
      obtain ⟨_, _, ⟨T1051, L1051, k1051, n1051⟩, -, X1051, ⟨Lc1051, hQ1051, l1051, y1051, z1051⟩, st1051⟩ := Jvm.LawKit.callS Xm1020 hx hown (mvT hZ (H 61 _ rfl)) (mvT hZ (H 62 _ rfl)) (mvT hZ (H 3 _ rfl)) (mvT hZ (H 63 _ rfl)) (by decide) (backOf (W := 0) (rm15 l Z a0 hw [] c0 (0 : Int32) (0 : Int32) (2 : Int32)  T1006.heap n0 Zs1006 ) hZ (H 63 _ rfl) (H 3 _ rfl) (by decide) (by decide)) (g := (mkF m 107 #[.val (.int p0), .val (.int p1), .val (.int p2), .val (.int p3), .val (.int p4), .val (.int p5), .val (.ref b951), .val (.ref b997), .val (.int (0 : Int32)), .val (.int (2 : Int32)), .unset] [(.int (2 : Int32)), (.int (0 : Int32)), (.int (0 : Int32)), (.int c0)])) rfl (by rw [hml]; rfl) (argsL := [(.int c0), (.int (0 : Int32)), (.int (0 : Int32)), (.int (2 : Int32))]) (rest := []) (lenOf own_pd327 rfl) rfl (Nat.le_of_eq rfl) (hb hby at_107) (fun _ _ => ⟨rfl, em1020, (by decide : 4 + 0 ≤ _), (by decide : 20 + 0 ≤ _)⟩)
      dsimp only [Pt.U, Pt.locs, Pt.cells, Pt.slots] at X1051 l1051 y1051 z1051 st1051 hQ1051
      rw [l1051, y1051, z1051] at X1051
      obtain ⟨rfl, Nq1051, e1051⟩ := hQ1051
      have N1051 := Fr.app Nm1020 Nq1051
      have pre1052 : ∀ t, Sp p e below m T1051 110 #[.val (.int p0), .val (.int p1), .val (.int p2), .val (.int p3), .val (.int p4), .val (.int p5), .val (.ref b951), .val (.ref b997), .val (.int (0 : Int32)), .val (.int (2 : Int32)), .unset] [(.int (own_ok c0 (0 : Int32) (0 : Int32) (2 : Int32)))] t → SG p e below G0 t := by
        intro t k
        refine pre1021 t ?_
        show Sp p e below m Tm1020 91 #[.val (.int p0), .val (.int p1), .val (.int p2), .val (.int p3), .val (.int p4), .val (.int p5), .val (.ref b951), .val (.ref b997), .val (.int (0 : Int32)), .val (.int (2 : Int32)), .unset] [] _
        refine XS.iload Xm1020.here hx rfl (hb hby at_91) rfl ?_
        refine XS.iload Xm1020.here hx rfl (hb hby at_93) rfl ?_
        refine XS.icmpNo Xm1020.here hx rfl (hb hby at_95) rfl (tlt (by decide : ((0 : Int32) < (2 : Int32)))).2.1 ?_
        refine XS.aload Xm1020.here hx rfl (hb hby at_98) rfl rfl ?_
        refine XS.iconst Xm1020.here hx rfl (hb hby at_100) ?_
        refine Xm1020.caload hx (j := (0 : Int32)) (v := (.int c0)) (by rw [em1020]; exact Ar1050.1) (State.isArrayOf_alike hZ.alike Ar1050.2.1) Ar1050.2.2 hin1050 hat1050 (g := (mkF m 101 #[.val (.int p0), .val (.int p1), .val (.int p2), .val (.int p3), .val (.int p4), .val (.int p5), .val (.ref b951), .val (.ref b997), .val (.int (0 : Int32)), .val (.int (2 : Int32)), .unset] [(.int (0 : Int32)), (.ref b951)])) rfl rfl (hb hby at_101) _ ?_
        show Sp p e below m Tm1020 102 #[.val (.int p0), .val (.int p1), .val (.int p2), .val (.int p3), .val (.int p4), .val (.int p5), .val (.ref b951), .val (.ref b997), .val (.int (0 : Int32)), .val (.int (2 : Int32)), .unset] [(.int c0)] _
        refine XS.iconst Xm1020.here hx rfl (hb hby at_102) ?_
        refine XS.iload Xm1020.here hx rfl (hb hby at_103) rfl ?_
        refine XS.iload Xm1020.here hx rfl (hb hby at_105) rfl ?_
        refine st1051 _ ?_
        exact k
      by_cases hc110_1053 : (own_ok c0 (0 : Int32) (0 : Int32) (2 : Int32)) = (0 : Int32)
      · have pre1054 : ∀ t, Sp p e below m T1051 163 #[.val (.int p0), .val (.int p1), .val (.int p2), .val (.int p3), .val (.int p4), .val (.int p5), .val (.ref b951), .val (.ref b997), .val (.int (0 : Int32)), .val (.int (2 : Int32)), .unset] [(.int (0 : Int32))] t → SG p e below G0 t := by
          intro t k
          refine pre1052 t ?_
          show Sp p e below m T1051 110 #[.val (.int p0), .val (.int p1), .val (.int p2), .val (.int p3), .val (.int p4), .val (.int p5), .val (.ref b951), .val (.ref b997), .val (.int (0 : Int32)), .val (.int (2 : Int32)), .unset] [(.int (own_ok c0 (0 : Int32) (0 : Int32) (2 : Int32)))] _
          refine XS.ifYes X1051.here hx rfl (pc0 := 110) (pc' := 162) rfl (hb hby at_110) rfl ((if0 _ _).trans (teq hc110_1053).1) (by decide) (by decide) ?_
          refine XS.iconst X1051.here hx rfl (hb hby at_162) ?_
          exact k
        exact ⟨T1051, _, (0 : Int32), X1051, e1051, N1051, (by simp [hc110_1053]), pre1054⟩
      · obtain ⟨cl1055, Ar1055, -, S1055, -, H1055, -⟩ := id f1012
        have hin1055 : ¬ ((1 : Int32) < 0 ∨ cl1055.slots.size ≤ ((1 : Int32)).toNatClampNeg) := inb_of S1055 ⟨by decide, by decide⟩
        have hat1055 : cl1055.slots[((1 : Int32)).toNatClampNeg]? = some (.int c1) := H1055.at hin1055 rfl
        obtain ⟨_, _, ⟨T1056, L1056, k1056, n1056⟩, -, X1056, ⟨Lc1056, hQ1056, l1056, y1056, z1056⟩, st1056⟩ := Jvm.LawKit.callS X1051 hx hown (mvT hZ (H 61 _ rfl)) (mvT hZ (H 62 _ rfl)) (mvT hZ (H 3 _ rfl)) (mvT hZ (H 63 _ rfl)) (by decide) (backOf (W := 0) (rm15 l Z a0 hw [] c1 (1 : Int32) (0 : Int32) (2 : Int32)  T1006.heap n0 Zs1006 ) hZ (H 63 _ rfl) (H 3 _ rfl) (by decide) (by decide)) (g := (mkF m 122 #[.val (.int p0), .val (.int p1), .val (.int p2), .val (.int p3), .val (.int p4), .val (.int p5), .val (.ref b951), .val (.ref b997), .val (.int (0 : Int32)), .val (.int (2 : Int32)), .unset] [(.int (2 : Int32)), (.int (0 : Int32)), (.int (1 : Int32)), (.int c1)])) rfl (by rw [hml]; rfl) (argsL := [(.int c1), (.int (1 : Int32)), (.int (0 : Int32)), (.int (2 : Int32))]) (rest := []) (lenOf own_pd327 rfl) rfl (Nat.le_of_eq rfl) (hb hby at_122) (fun _ _ => ⟨rfl, e1051, (by decide : 4 + 0 ≤ _), (by decide : 20 + 0 ≤ _)⟩)
        dsimp only [Pt.U, Pt.locs, Pt.cells, Pt.slots] at X1056 l1056 y1056 z1056 st1056 hQ1056
        rw [l1056, y1056, z1056] at X1056
        obtain ⟨rfl, Nq1056, e1056⟩ := hQ1056
        have N1056 := Fr.app N1051 Nq1056
        have pre1057 : ∀ t, Sp p e below m T1056 125 #[.val (.int p0), .val (.int p1), .val (.int p2), .val (.int p3), .val (.int p4), .val (.int p5), .val (.ref b951), .val (.ref b997), .val (.int (0 : Int32)), .val (.int (2 : Int32)), .unset] [(.int (own_ok c1 (1 : Int32) (0 : Int32) (2 : Int32)))] t → SG p e below G0 t := by
          intro t k
          refine pre1052 t ?_
          show Sp p e below m T1051 110 #[.val (.int p0), .val (.int p1), .val (.int p2), .val (.int p3), .val (.int p4), .val (.int p5), .val (.ref b951), .val (.ref b997), .val (.int (0 : Int32)), .val (.int (2 : Int32)), .unset] [(.int (own_ok c0 (0 : Int32) (0 : Int32) (2 : Int32)))] _
          refine XS.ifNo X1051.here hx rfl (hb hby at_110) rfl ((if0 _ _).trans (feq hc110_1053).1) ?_
          refine XS.aload X1051.here hx rfl (hb hby at_113) rfl rfl ?_
          refine XS.iconst X1051.here hx rfl (hb hby at_115) ?_
          refine X1051.caload hx (j := (1 : Int32)) (v := (.int c1)) (by rw [e1051]; exact Ar1055.1) (State.isArrayOf_alike hZ.alike Ar1055.2.1) Ar1055.2.2 hin1055 hat1055 (g := (mkF m 116 #[.val (.int p0), .val (.int p1), .val (.int p2), .val (.int p3), .val (.int p4), .val (.int p5), .val (.ref b951), .val (.ref b997), .val (.int (0 : Int32)), .val (.int (2 : Int32)), .unset] [(.int (1 : Int32)), (.ref b951)])) rfl rfl (hb hby at_116) _ ?_
          show Sp p e below m T1051 117 #[.val (.int p0), .val (.int p1), .val (.int p2), .val (.int p3), .val (.int p4), .val (.int p5), .val (.ref b951), .val (.ref b997), .val (.int (0 : Int32)), .val (.int (2 : Int32)), .unset] [(.int c1)] _
          refine XS.iconst X1051.here hx rfl (hb hby at_117) ?_
          refine XS.iload X1051.here hx rfl (hb hby at_118) rfl ?_
          refine XS.iload X1051.here hx rfl (hb hby at_120) rfl ?_
          refine st1056 _ ?_
          exact k
        by_cases hc125_1058 : (own_ok c1 (1 : Int32) (0 : Int32) (2 : Int32)) = (0 : Int32)
        · have pre1059 : ∀ t, Sp p e below m T1056 163 #[.val (.int p0), .val (.int p1), .val (.int p2), .val (.int p3), .val (.int p4), .val (.int p5), .val (.ref b951), .val (.ref b997), .val (.int (0 : Int32)), .val (.int (2 : Int32)), .unset] [(.int (0 : Int32))] t → SG p e below G0 t := by
            intro t k
            refine pre1057 t ?_
            show Sp p e below m T1056 125 #[.val (.int p0), .val (.int p1), .val (.int p2), .val (.int p3), .val (.int p4), .val (.int p5), .val (.ref b951), .val (.ref b997), .val (.int (0 : Int32)), .val (.int (2 : Int32)), .unset] [(.int (own_ok c1 (1 : Int32) (0 : Int32) (2 : Int32)))] _
            refine XS.ifYes X1056.here hx rfl (pc0 := 125) (pc' := 162) rfl (hb hby at_125) rfl ((if0 _ _).trans (teq hc125_1058).1) (by decide) (by decide) ?_
            refine XS.iconst X1056.here hx rfl (hb hby at_162) ?_
            exact k
          exact ⟨T1056, _, (0 : Int32), X1056, e1056, N1056, (by simp [hc110_1053, hc125_1058]), pre1059⟩
        · obtain ⟨cl1060, Ar1060, -, S1060, -, H1060, -⟩ := id f1012
          have hin1060 : ¬ ((2 : Int32) < 0 ∨ cl1060.slots.size ≤ ((2 : Int32)).toNatClampNeg) := inb_of S1060 ⟨by decide, by decide⟩
          have hat1060 : cl1060.slots[((2 : Int32)).toNatClampNeg]? = some (.int c2) := H1060.at hin1060 rfl
          obtain ⟨_, _, ⟨T1061, L1061, k1061, n1061⟩, -, X1061, ⟨Lc1061, hQ1061, l1061, y1061, z1061⟩, st1061⟩ := Jvm.LawKit.callS X1056 hx hown (mvT hZ (H 61 _ rfl)) (mvT hZ (H 62 _ rfl)) (mvT hZ (H 3 _ rfl)) (mvT hZ (H 63 _ rfl)) (by decide) (backOf (W := 0) (rm15 l Z a0 hw [] c2 (2 : Int32) (0 : Int32) (2 : Int32)  T1006.heap n0 Zs1006 ) hZ (H 63 _ rfl) (H 3 _ rfl) (by decide) (by decide)) (g := (mkF m 137 #[.val (.int p0), .val (.int p1), .val (.int p2), .val (.int p3), .val (.int p4), .val (.int p5), .val (.ref b951), .val (.ref b997), .val (.int (0 : Int32)), .val (.int (2 : Int32)), .unset] [(.int (2 : Int32)), (.int (0 : Int32)), (.int (2 : Int32)), (.int c2)])) rfl (by rw [hml]; rfl) (argsL := [(.int c2), (.int (2 : Int32)), (.int (0 : Int32)), (.int (2 : Int32))]) (rest := []) (lenOf own_pd327 rfl) rfl (Nat.le_of_eq rfl) (hb hby at_137) (fun _ _ => ⟨rfl, e1056, (by decide : 4 + 0 ≤ _), (by decide : 20 + 0 ≤ _)⟩)
          dsimp only [Pt.U, Pt.locs, Pt.cells, Pt.slots] at X1061 l1061 y1061 z1061 st1061 hQ1061
          rw [l1061, y1061, z1061] at X1061
          obtain ⟨rfl, Nq1061, e1061⟩ := hQ1061
          have N1061 := Fr.app N1056 Nq1061
          have pre1062 : ∀ t, Sp p e below m T1061 140 #[.val (.int p0), .val (.int p1), .val (.int p2), .val (.int p3), .val (.int p4), .val (.int p5), .val (.ref b951), .val (.ref b997), .val (.int (0 : Int32)), .val (.int (2 : Int32)), .unset] [(.int (own_ok c2 (2 : Int32) (0 : Int32) (2 : Int32)))] t → SG p e below G0 t := by
            intro t k
            refine pre1057 t ?_
            show Sp p e below m T1056 125 #[.val (.int p0), .val (.int p1), .val (.int p2), .val (.int p3), .val (.int p4), .val (.int p5), .val (.ref b951), .val (.ref b997), .val (.int (0 : Int32)), .val (.int (2 : Int32)), .unset] [(.int (own_ok c1 (1 : Int32) (0 : Int32) (2 : Int32)))] _
            refine XS.ifNo X1056.here hx rfl (hb hby at_125) rfl ((if0 _ _).trans (feq hc125_1058).1) ?_
            refine XS.aload X1056.here hx rfl (hb hby at_128) rfl rfl ?_
            refine XS.iconst X1056.here hx rfl (hb hby at_130) ?_
            refine X1056.caload hx (j := (2 : Int32)) (v := (.int c2)) (by rw [e1056]; exact Ar1060.1) (State.isArrayOf_alike hZ.alike Ar1060.2.1) Ar1060.2.2 hin1060 hat1060 (g := (mkF m 131 #[.val (.int p0), .val (.int p1), .val (.int p2), .val (.int p3), .val (.int p4), .val (.int p5), .val (.ref b951), .val (.ref b997), .val (.int (0 : Int32)), .val (.int (2 : Int32)), .unset] [(.int (2 : Int32)), (.ref b951)])) rfl rfl (hb hby at_131) _ ?_
            show Sp p e below m T1056 132 #[.val (.int p0), .val (.int p1), .val (.int p2), .val (.int p3), .val (.int p4), .val (.int p5), .val (.ref b951), .val (.ref b997), .val (.int (0 : Int32)), .val (.int (2 : Int32)), .unset] [(.int c2)] _
            refine XS.iconst X1056.here hx rfl (hb hby at_132) ?_
            refine XS.iload X1056.here hx rfl (hb hby at_133) rfl ?_
            refine XS.iload X1056.here hx rfl (hb hby at_135) rfl ?_
            refine st1061 _ ?_
            exact k
          by_cases hc140_1063 : (own_ok c2 (2 : Int32) (0 : Int32) (2 : Int32)) = (0 : Int32)
          · have pre1064 : ∀ t, Sp p e below m T1061 163 #[.val (.int p0), .val (.int p1), .val (.int p2), .val (.int p3), .val (.int p4), .val (.int p5), .val (.ref b951), .val (.ref b997), .val (.int (0 : Int32)), .val (.int (2 : Int32)), .unset] [(.int (0 : Int32))] t → SG p e below G0 t := by
              intro t k
              refine pre1062 t ?_
              show Sp p e below m T1061 140 #[.val (.int p0), .val (.int p1), .val (.int p2), .val (.int p3), .val (.int p4), .val (.int p5), .val (.ref b951), .val (.ref b997), .val (.int (0 : Int32)), .val (.int (2 : Int32)), .unset] [(.int (own_ok c2 (2 : Int32) (0 : Int32) (2 : Int32)))] _
              refine XS.ifYes X1061.here hx rfl (pc0 := 140) (pc' := 162) rfl (hb hby at_140) rfl ((if0 _ _).trans (teq hc140_1063).1) (by decide) (by decide) ?_
              refine XS.iconst X1061.here hx rfl (hb hby at_162) ?_
              exact k
            exact ⟨T1061, _, (0 : Int32), X1061, e1061, N1061, (by simp [hc110_1053, hc125_1058, hc140_1063]), pre1064⟩
          · obtain ⟨cl1065, Ar1065, -, S1065, -, H1065, -⟩ := id f1012
            have hin1065 : ¬ ((3 : Int32) < 0 ∨ cl1065.slots.size ≤ ((3 : Int32)).toNatClampNeg) := inb_of S1065 ⟨by decide, by decide⟩
            have hat1065 : cl1065.slots[((3 : Int32)).toNatClampNeg]? = some (.int c3) := H1065.at hin1065 rfl
            obtain ⟨_, _, ⟨T1066, L1066, k1066, n1066⟩, -, X1066, ⟨Lc1066, hQ1066, l1066, y1066, z1066⟩, st1066⟩ := Jvm.LawKit.callS X1061 hx hown (mvT hZ (H 61 _ rfl)) (mvT hZ (H 62 _ rfl)) (mvT hZ (H 3 _ rfl)) (mvT hZ (H 63 _ rfl)) (by decide) (backOf (W := 0) (rm15 l Z a0 hw [] c3 (3 : Int32) (0 : Int32) (2 : Int32)  T1006.heap n0 Zs1006 ) hZ (H 63 _ rfl) (H 3 _ rfl) (by decide) (by decide)) (g := (mkF m 152 #[.val (.int p0), .val (.int p1), .val (.int p2), .val (.int p3), .val (.int p4), .val (.int p5), .val (.ref b951), .val (.ref b997), .val (.int (0 : Int32)), .val (.int (2 : Int32)), .unset] [(.int (2 : Int32)), (.int (0 : Int32)), (.int (3 : Int32)), (.int c3)])) rfl (by rw [hml]; rfl) (argsL := [(.int c3), (.int (3 : Int32)), (.int (0 : Int32)), (.int (2 : Int32))]) (rest := []) (lenOf own_pd327 rfl) rfl (Nat.le_of_eq rfl) (hb hby at_152) (fun _ _ => ⟨rfl, e1061, (by decide : 4 + 0 ≤ _), (by decide : 20 + 0 ≤ _)⟩)
            dsimp only [Pt.U, Pt.locs, Pt.cells, Pt.slots] at X1066 l1066 y1066 z1066 st1066 hQ1066
            rw [l1066, y1066, z1066] at X1066
            obtain ⟨rfl, Nq1066, e1066⟩ := hQ1066
            have N1066 := Fr.app N1061 Nq1066
            have pre1067 : ∀ t, Sp p e below m T1066 155 #[.val (.int p0), .val (.int p1), .val (.int p2), .val (.int p3), .val (.int p4), .val (.int p5), .val (.ref b951), .val (.ref b997), .val (.int (0 : Int32)), .val (.int (2 : Int32)), .unset] [(.int (own_ok c3 (3 : Int32) (0 : Int32) (2 : Int32)))] t → SG p e below G0 t := by
              intro t k
              refine pre1062 t ?_
              show Sp p e below m T1061 140 #[.val (.int p0), .val (.int p1), .val (.int p2), .val (.int p3), .val (.int p4), .val (.int p5), .val (.ref b951), .val (.ref b997), .val (.int (0 : Int32)), .val (.int (2 : Int32)), .unset] [(.int (own_ok c2 (2 : Int32) (0 : Int32) (2 : Int32)))] _
              refine XS.ifNo X1061.here hx rfl (hb hby at_140) rfl ((if0 _ _).trans (feq hc140_1063).1) ?_
              refine XS.aload X1061.here hx rfl (hb hby at_143) rfl rfl ?_
              refine XS.iconst X1061.here hx rfl (hb hby at_145) ?_
              refine X1061.caload hx (j := (3 : Int32)) (v := (.int c3)) (by rw [e1061]; exact Ar1065.1) (State.isArrayOf_alike hZ.alike Ar1065.2.1) Ar1065.2.2 hin1065 hat1065 (g := (mkF m 146 #[.val (.int p0), .val (.int p1), .val (.int p2), .val (.int p3), .val (.int p4), .val (.int p5), .val (.ref b951), .val (.ref b997), .val (.int (0 : Int32)), .val (.int (2 : Int32)), .unset] [(.int (3 : Int32)), (.ref b951)])) rfl rfl (hb hby at_146) _ ?_
              show Sp p e below m T1061 147 #[.val (.int p0), .val (.int p1), .val (.int p2), .val (.int p3), .val (.int p4), .val (.int p5), .val (.ref b951), .val (.ref b997), .val (.int (0 : Int32)), .val (.int (2 : Int32)), .unset] [(.int c3)] _
              refine XS.iconst X1061.here hx rfl (hb hby at_147) ?_
              refine XS.iload X1061.here hx rfl (hb hby at_148) rfl ?_
              refine XS.iload X1061.here hx rfl (hb hby at_150) rfl ?_
              refine st1066 _ ?_
              exact k
            by_cases hc155_1068 : (own_ok c3 (3 : Int32) (0 : Int32) (2 : Int32)) = (0 : Int32)
            · have pre1069 : ∀ t, Sp p e below m T1066 163 #[.val (.int p0), .val (.int p1), .val (.int p2), .val (.int p3), .val (.int p4), .val (.int p5), .val (.ref b951), .val (.ref b997), .val (.int (0 : Int32)), .val (.int (2 : Int32)), .unset] [(.int (0 : Int32))] t → SG p e below G0 t := by
                intro t k
                refine pre1067 t ?_
                show Sp p e below m T1066 155 #[.val (.int p0), .val (.int p1), .val (.int p2), .val (.int p3), .val (.int p4), .val (.int p5), .val (.ref b951), .val (.ref b997), .val (.int (0 : Int32)), .val (.int (2 : Int32)), .unset] [(.int (own_ok c3 (3 : Int32) (0 : Int32) (2 : Int32)))] _
                refine XS.ifYes X1066.here hx rfl (pc0 := 155) (pc' := 162) rfl (hb hby at_155) rfl ((if0 _ _).trans (teq hc155_1068).1) (by decide) (by decide) ?_
                refine XS.iconst X1066.here hx rfl (hb hby at_162) ?_
                exact k
              exact ⟨T1066, _, (0 : Int32), X1066, e1066, N1066, (by simp [hc110_1053, hc125_1058, hc140_1063, hc155_1068]), pre1069⟩
            · have pre1070 : ∀ t, Sp p e below m T1066 163 #[.val (.int p0), .val (.int p1), .val (.int p2), .val (.int p3), .val (.int p4), .val (.int p5), .val (.ref b951), .val (.ref b997), .val (.int (0 : Int32)), .val (.int (2 : Int32)), .unset] [(.int (1 : Int32))] t → SG p e below G0 t := by
                intro t k
                refine pre1067 t ?_
                show Sp p e below m T1066 155 #[.val (.int p0), .val (.int p1), .val (.int p2), .val (.int p3), .val (.int p4), .val (.int p5), .val (.ref b951), .val (.ref b997), .val (.int (0 : Int32)), .val (.int (2 : Int32)), .unset] [(.int (own_ok c3 (3 : Int32) (0 : Int32) (2 : Int32)))] _
                refine XS.ifNo X1066.here hx rfl (hb hby at_155) rfl ((if0 _ _).trans (feq hc155_1068).1) ?_
                refine XS.iconst X1066.here hx rfl (hb hby at_158) ?_
                refine XS.goto X1066.here hx rfl (pc0 := 159) (pc' := 163) rfl (hb hby at_159) (by decide) (by decide) ?_
                exact k
              exact ⟨T1066, _, (1 : Int32), X1066, e1066, N1066, (by simp [hc110_1053, hc125_1058, hc140_1063, hc155_1068]), pre1070⟩
    obtain ⟨_, _, ⟨T1075, L1075, k1075, n1075⟩, -, X1075, ⟨Lc1075, hQ1075, l1075, y1075, z1075⟩, st1075⟩ := Jvm.LawKit.callS Xm1072 hx hown (mvT hZ (H 34 _ rfl)) (mvT hZ (H 35 _ rfl)) (mvT hZ (H 36 _ rfl)) (mvT hZ (H 37 _ rfl)) (by decide) (backOf (W := 0) (rm8f0t2 l Z a0 hw [] b997 cs vf rrb_1006 rrk_1006 c0 c1 c2 c3 T1006.heap n0 Zs1006 O1006 Scs hcs Ssf hvf Sas Shs Sls p1006_0 p1006_1 p1006_2 hb0 hb1 hb2 hb3) hZ (H 37 _ rfl) (H 36 _ rfl) (by decide) (by decide)) (g := (mkF m 171 #[.val (.int p0), .val (.int p1), .val (.int p2), .val (.int p3), .val (.int p4), .val (.int p5), .val (.ref b951), .val (.ref b997), .val (.int (0 : Int32)), .val (.int (2 : Int32)), .val (.int v163_1071)] [(.int (2 : Int32)), (.int (0 : Int32)), (.ref b997)])) rfl (by rw [hml]; rfl) (argsL := [(.ref b997), (.int (0 : Int32)), (.int (2 : Int32))]) (rest := []) (lenOf own_pd326 rfl) rfl (Nat.le_of_eq rfl) (hb hby at_171) (fun _ _ => ⟨rfl, em1072, (by decide : 4 + 0 ≤ _), (by decide : 20 + 0 ≤ _)⟩)
    dsimp only [Pt.U, Pt.locs, Pt.cells, Pt.slots] at X1075 l1075 y1075 z1075 st1075 hQ1075
    rw [l1075, y1075, z1075] at X1075
    obtain ⟨rfl, Nq1075, e1075⟩ := hQ1075
    have N1075 := Fr.app Nm1072 Nq1075
    obtain ⟨fs, hr, hrun, hended, hW, hsame⟩ := X1075.leave (v := some (.int (1 : Int32))) (fun h => by rw [Bd.returns] at h; cases h)
    refine ⟨_, _, pre1073 _ ?_, hrun, hended, _, _, rfl, ?_, ⟨_, rfl⟩, hW, hsame.mono (by decide) (by decide)⟩
    · show Sp p e below m Tm1072 163 #[.val (.int p0), .val (.int p1), .val (.int p2), .val (.int p3), .val (.int p4), .val (.int p5), .val (.ref b951), .val (.ref b997), .val (.int (0 : Int32)), .val (.int (2 : Int32)), .unset] [(.int v163_1071)] _
      refine XS.istore Xm1072.here hx rfl (hb hby at_163) rfl (l' := #[.val (.int p0), .val (.int p1), .val (.int p2), .val (.int p3), .val (.int p4), .val (.int p5), .val (.ref b951), .val (.ref b997), .val (.int (0 : Int32)), .val (.int (2 : Int32)), .val (.int v163_1071)]) rfl ?_
      refine XS.aload Xm1072.here hx rfl (hb hby at_165) rfl rfl ?_
      refine XS.iload Xm1072.here hx rfl (hb hby at_167) rfl ?_
      refine XS.iload Xm1072.here hx rfl (hb hby at_169) rfl ?_
      refine st1075 _ ?_
      show Sp p e below m T1075 174 #[.val (.int p0), .val (.int p1), .val (.int p2), .val (.int p3), .val (.int p4), .val (.int p5), .val (.ref b951), .val (.ref b997), .val (.int (0 : Int32)), .val (.int (2 : Int32)), .val (.int v163_1071)] [(.int (if own_dg c0 = 0 then (0 : Int32) else (own_dg c1)))] _
      refine XS.iload X1075.here hx rfl (hb hby at_174) rfl ?_
      refine XS.icmpNo X1075.here hx rfl (hb hby at_176) rfl (teq (own_fin02 hv1074 : ((if own_dg c0 = 0 then (0 : Int32) else (own_dg c1)) = v163_1071))).2 ?_
      refine XS.iconst X1075.here hx rfl (hb hby at_179) ?_
      refine XS.goto X1075.here hx rfl (pc0 := 180) (pc' := 184) rfl (hb hby at_180) (by decide) (by decide) ?_
      exact retN X1075 hx (t := .boolean) Bd.returns (by simp) (hb hby at_184) hr
    · show Q0 Z p0 p1 p2 p3 p4 p5 cs vf h0 n0 _ T1075.heap _
      rw [e1075]
      exact ⟨rfl, N1075⟩
  · rw [hf03, ht03] at pre1021
    obtain ⟨Tm1098, lm1098, v163_1097, Xm1098, em1098, Nm1098, hv1100, pre1099⟩ : ∃ (Tm1098 : State) (lm1098 : List Loc) (v163_1097 : Int32), Stand p l e room_1 s m #[(.int p0), (.int p1), (.int p2), (.int p3), (.int p4), (.int p5)] below meth c Tm1098 lm1098 4 20 ∧ Tm1098.heap = T1006.heap ∧ Fr n0 lm1098 ∧ (v163_1097 = if own_ok c0 0 0 3 = 0 then 0 else if own_ok c1 1 0 3 = 0 then 0 else if own_ok c2 2 0 3 = 0 then 0 else if own_ok c3 3 0 3 = 0 then 0 else 1) ∧ ∀ t, Sp p e below m Tm1098 163 #[.val (.int p0), .val (.int p1), .val (.int p2), .val (.int p3), .val (.int p4), .val (.int p5), .val (.ref b951), .val (.ref b997), .val (.int (0 : Int32)), .val (.int (3 : Int32)), .unset] [(.int v163_1097)] t → SG p e below G0 t := by
      obtain ⟨cl1076, Ar1076, -, S1076, -, H1076, -⟩ := id f1012
      have hin1076 : ¬ ((0 : Int32) < 0 ∨ cl1076.slots.size ≤ ((0 : Int32)).toNatClampNeg) := inb_of S1076 ⟨by decide, by decide⟩
      have hat1076 : cl1076.slots[((0 : Int32)).toNatClampNeg]? = some (.int c0) := H1076.at hin1076 rfl
      obtain ⟨_, _, ⟨T1077, L1077, k1077, n1077⟩, -, X1077, ⟨Lc1077, hQ1077, l1077, y1077, z1077⟩, st1077⟩ := Jvm.LawKit.callS Xm1020 hx hown (mvT hZ (H 61 _ rfl)) (mvT hZ (H 62 _ rfl)) (mvT hZ (H 3 _ rfl)) (mvT hZ (H 63 _ rfl)) (by decide) (backOf (W := 0) (rm15 l Z a0 hw [] c0 (0 : Int32) (0 : Int32) (3 : Int32)  T1006.heap n0 Zs1006 ) hZ (H 63 _ rfl) (H 3 _ rfl) (by decide) (by decide)) (g := (mkF m 107 #[.val (.int p0), .val (.int p1), .val (.int p2), .val (.int p3), .val (.int p4), .val (.int p5), .val (.ref b951), .val (.ref b997), .val (.int (0 : Int32)), .val (.int (3 : Int32)), .unset] [(.int (3 : Int32)), (.int (0 : Int32)), (.int (0 : Int32)), (.int c0)])) rfl (by rw [hml]; rfl) (argsL := [(.int c0), (.int (0 : Int32)), (.int (0 : Int32)), (.int (3 : Int32))]) (rest := []) (lenOf own_pd327 rfl) rfl (Nat.le_of_eq rfl) (hb hby at_107) (fun _ _ => ⟨rfl, em1020, (by decide : 4 + 0 ≤ _), (by decide : 20 + 0 ≤ _)⟩)
      dsimp only [Pt.U, Pt.locs, Pt.cells, Pt.slots] at X1077 l1077 y1077 z1077 st1077 hQ1077
      rw [l1077, y1077, z1077] at X1077
      obtain ⟨rfl, Nq1077, e1077⟩ := hQ1077
      have N1077 := Fr.app Nm1020 Nq1077
      have pre1078 : ∀ t, Sp p e below m T1077 110 #[.val (.int p0), .val (.int p1), .val (.int p2), .val (.int p3), .val (.int p4), .val (.int p5), .val (.ref b951), .val (.ref b997), .val (.int (0 : Int32)), .val (.int (3 : Int32)), .unset] [(.int (own_ok c0 (0 : Int32) (0 : Int32) (3 : Int32)))] t → SG p e below G0 t := by
        intro t k
        refine pre1021 t ?_
        show Sp p e below m Tm1020 91 #[.val (.int p0), .val (.int p1), .val (.int p2), .val (.int p3), .val (.int p4), .val (.int p5), .val (.ref b951), .val (.ref b997), .val (.int (0 : Int32)), .val (.int (3 : Int32)), .unset] [] _
        refine XS.iload Xm1020.here hx rfl (hb hby at_91) rfl ?_
        refine XS.iload Xm1020.here hx rfl (hb hby at_93) rfl ?_
        refine XS.icmpNo Xm1020.here hx rfl (hb hby at_95) rfl (tlt (by decide : ((0 : Int32) < (3 : Int32)))).2.1 ?_
        refine XS.aload Xm1020.here hx rfl (hb hby at_98) rfl rfl ?_
        refine XS.iconst Xm1020.here hx rfl (hb hby at_100) ?_
        refine Xm1020.caload hx (j := (0 : Int32)) (v := (.int c0)) (by rw [em1020]; exact Ar1076.1) (State.isArrayOf_alike hZ.alike Ar1076.2.1) Ar1076.2.2 hin1076 hat1076 (g := (mkF m 101 #[.val (.int p0), .val (.int p1), .val (.int p2), .val (.int p3), .val (.int p4), .val (.int p5), .val (.ref b951), .val (.ref b997), .val (.int (0 : Int32)), .val (.int (3 : Int32)), .unset] [(.int (0 : Int32)), (.ref b951)])) rfl rfl (hb hby at_101) _ ?_
        show Sp p e below m Tm1020 102 #[.val (.int p0), .val (.int p1), .val (.int p2), .val (.int p3), .val (.int p4), .val (.int p5), .val (.ref b951), .val (.ref b997), .val (.int (0 : Int32)), .val (.int (3 : Int32)), .unset] [(.int c0)] _
        refine XS.iconst Xm1020.here hx rfl (hb hby at_102) ?_
        refine XS.iload Xm1020.here hx rfl (hb hby at_103) rfl ?_
        refine XS.iload Xm1020.here hx rfl (hb hby at_105) rfl ?_
        refine st1077 _ ?_
        exact k
      by_cases hc110_1079 : (own_ok c0 (0 : Int32) (0 : Int32) (3 : Int32)) = (0 : Int32)
      · have pre1080 : ∀ t, Sp p e below m T1077 163 #[.val (.int p0), .val (.int p1), .val (.int p2), .val (.int p3), .val (.int p4), .val (.int p5), .val (.ref b951), .val (.ref b997), .val (.int (0 : Int32)), .val (.int (3 : Int32)), .unset] [(.int (0 : Int32))] t → SG p e below G0 t := by
          intro t k
          refine pre1078 t ?_
          show Sp p e below m T1077 110 #[.val (.int p0), .val (.int p1), .val (.int p2), .val (.int p3), .val (.int p4), .val (.int p5), .val (.ref b951), .val (.ref b997), .val (.int (0 : Int32)), .val (.int (3 : Int32)), .unset] [(.int (own_ok c0 (0 : Int32) (0 : Int32) (3 : Int32)))] _
          refine XS.ifYes X1077.here hx rfl (pc0 := 110) (pc' := 162) rfl (hb hby at_110) rfl ((if0 _ _).trans (teq hc110_1079).1) (by decide) (by decide) ?_
          refine XS.iconst X1077.here hx rfl (hb hby at_162) ?_
          exact k
        exact ⟨T1077, _, (0 : Int32), X1077, e1077, N1077, (by simp [hc110_1079]), pre1080⟩
      · obtain ⟨cl1081, Ar1081, -, S1081, -, H1081, -⟩ := id f1012
        have hin1081 : ¬ ((1 : Int32) < 0 ∨ cl1081.slots.size ≤ ((1 : Int32)).toNatClampNeg) := inb_of S1081 ⟨by decide, by decide⟩
        have hat1081 : cl1081.slots[((1 : Int32)).toNatClampNeg]? = some (.int c1) := H1081.at hin1081 rfl
        obtain ⟨_, _, ⟨T1082, L1082, k1082, n1082⟩, -, X1082, ⟨Lc1082, hQ1082, l1082, y1082, z1082⟩, st1082⟩ := Jvm.LawKit.callS X1077 hx hown (mvT hZ (H 61 _ rfl)) (mvT hZ (H 62 _ rfl)) (mvT hZ (H 3 _ rfl)) (mvT hZ (H 63 _ rfl)) (by decide) (backOf (W := 0) (rm15 l Z a0 hw [] c1 (1 : Int32) (0 : Int32) (3 : Int32)  T1006.heap n0 Zs1006 ) hZ (H 63 _ rfl) (H 3 _ rfl) (by decide) (by decide)) (g := (mkF m 122 #[.val (.int p0), .val (.int p1), .val (.int p2), .val (.int p3), .val (.int p4), .val (.int p5), .val (.ref b951), .val (.ref b997), .val (.int (0 : Int32)), .val (.int (3 : Int32)), .unset] [(.int (3 : Int32)), (.int (0 : Int32)), (.int (1 : Int32)), (.int c1)])) rfl (by rw [hml]; rfl) (argsL := [(.int c1), (.int (1 : Int32)), (.int (0 : Int32)), (.int (3 : Int32))]) (rest := []) (lenOf own_pd327 rfl) rfl (Nat.le_of_eq rfl) (hb hby at_122) (fun _ _ => ⟨rfl, e1077, (by decide : 4 + 0 ≤ _), (by decide : 20 + 0 ≤ _)⟩)
        dsimp only [Pt.U, Pt.locs, Pt.cells, Pt.slots] at X1082 l1082 y1082 z1082 st1082 hQ1082
        rw [l1082, y1082, z1082] at X1082
        obtain ⟨rfl, Nq1082, e1082⟩ := hQ1082
        have N1082 := Fr.app N1077 Nq1082
        have pre1083 : ∀ t, Sp p e below m T1082 125 #[.val (.int p0), .val (.int p1), .val (.int p2), .val (.int p3), .val (.int p4), .val (.int p5), .val (.ref b951), .val (.ref b997), .val (.int (0 : Int32)), .val (.int (3 : Int32)), .unset] [(.int (own_ok c1 (1 : Int32) (0 : Int32) (3 : Int32)))] t → SG p e below G0 t := by
          intro t k
          refine pre1078 t ?_
          show Sp p e below m T1077 110 #[.val (.int p0), .val (.int p1), .val (.int p2), .val (.int p3), .val (.int p4), .val (.int p5), .val (.ref b951), .val (.ref b997), .val (.int (0 : Int32)), .val (.int (3 : Int32)), .unset] [(.int (own_ok c0 (0 : Int32) (0 : Int32) (3 : Int32)))] _
          refine XS.ifNo X1077.here hx rfl (hb hby at_110) rfl ((if0 _ _).trans (feq hc110_1079).1) ?_
          refine XS.aload X1077.here hx rfl (hb hby at_113) rfl rfl ?_
          refine XS.iconst X1077.here hx rfl (hb hby at_115) ?_
          refine X1077.caload hx (j := (1 : Int32)) (v := (.int c1)) (by rw [e1077]; exact Ar1081.1) (State.isArrayOf_alike hZ.alike Ar1081.2.1) Ar1081.2.2 hin1081 hat1081 (g := (mkF m 116 #[.val (.int p0), .val (.int p1), .val (.int p2), .val (.int p3), .val (.int p4), .val (.int p5), .val (.ref b951), .val (.ref b997), .val (.int (0 : Int32)), .val (.int (3 : Int32)), .unset] [(.int (1 : Int32)), (.ref b951)])) rfl rfl (hb hby at_116) _ ?_
          show Sp p e below m T1077 117 #[.val (.int p0), .val (.int p1), .val (.int p2), .val (.int p3), .val (.int p4), .val (.int p5), .val (.ref b951), .val (.ref b997), .val (.int (0 : Int32)), .val (.int (3 : Int32)), .unset] [(.int c1)] _
          refine XS.iconst X1077.here hx rfl (hb hby at_117) ?_
          refine XS.iload X1077.here hx rfl (hb hby at_118) rfl ?_
          refine XS.iload X1077.here hx rfl (hb hby at_120) rfl ?_
          refine st1082 _ ?_
          exact k
        by_cases hc125_1084 : (own_ok c1 (1 : Int32) (0 : Int32) (3 : Int32)) = (0 : Int32)
        · have pre1085 : ∀ t, Sp p e below m T1082 163 #[.val (.int p0), .val (.int p1), .val (.int p2), .val (.int p3), .val (.int p4), .val (.int p5), .val (.ref b951), .val (.ref b997), .val (.int (0 : Int32)), .val (.int (3 : Int32)), .unset] [(.int (0 : Int32))] t → SG p e below G0 t := by
            intro t k
            refine pre1083 t ?_
            show Sp p e below m T1082 125 #[.val (.int p0), .val (.int p1), .val (.int p2), .val (.int p3), .val (.int p4), .val (.int p5), .val (.ref b951), .val (.ref b997), .val (.int (0 : Int32)), .val (.int (3 : Int32)), .unset] [(.int (own_ok c1 (1 : Int32) (0 : Int32) (3 : Int32)))] _
            refine XS.ifYes X1082.here hx rfl (pc0 := 125) (pc' := 162) rfl (hb hby at_125) rfl ((if0 _ _).trans (teq hc125_1084).1) (by decide) (by decide) ?_
            refine XS.iconst X1082.here hx rfl (hb hby at_162) ?_
            exact k
          exact ⟨T1082, _, (0 : Int32), X1082, e1082, N1082, (by simp [hc110_1079, hc125_1084]), pre1085⟩
        · obtain ⟨cl1086, Ar1086, -, S1086, -, H1086, -⟩ := id f1012
          have hin1086 : ¬ ((2 : Int32) < 0 ∨ cl1086.slots.size ≤ ((2 : Int32)).toNatClampNeg) := inb_of S1086 ⟨by decide, by decide⟩
          have hat1086 : cl1086.slots[((2 : Int32)).toNatClampNeg]? = some (.int c2) := H1086.at hin1086 rfl
          obtain ⟨_, _, ⟨T1087, L1087, k1087, n1087⟩, -, X1087, ⟨Lc1087, hQ1087, l1087, y1087, z1087⟩, st1087⟩ := Jvm.LawKit.callS X1082 hx hown (mvT hZ (H 61 _ rfl)) (mvT hZ (H 62 _ rfl)) (mvT hZ (H 3 _ rfl)) (mvT hZ (H 63 _ rfl)) (by decide) (backOf (W := 0) (rm15 l Z a0 hw [] c2 (2 : Int32) (0 : Int32) (3 : Int32)  T1006.heap n0 Zs1006 ) hZ (H 63 _ rfl) (H 3 _ rfl) (by decide) (by decide)) (g := (mkF m 137 #[.val (.int p0), .val (.int p1), .val (.int p2), .val (.int p3), .val (.int p4), .val (.int p5), .val (.ref b951), .val (.ref b997), .val (.int (0 : Int32)), .val (.int (3 : Int32)), .unset] [(.int (3 : Int32)), (.int (0 : Int32)), (.int (2 : Int32)), (.int c2)])) rfl (by rw [hml]; rfl) (argsL := [(.int c2), (.int (2 : Int32)), (.int (0 : Int32)), (.int (3 : Int32))]) (rest := []) (lenOf own_pd327 rfl) rfl (Nat.le_of_eq rfl) (hb hby at_137) (fun _ _ => ⟨rfl, e1082, (by decide : 4 + 0 ≤ _), (by decide : 20 + 0 ≤ _)⟩)
          dsimp only [Pt.U, Pt.locs, Pt.cells, Pt.slots] at X1087 l1087 y1087 z1087 st1087 hQ1087
          rw [l1087, y1087, z1087] at X1087
          obtain ⟨rfl, Nq1087, e1087⟩ := hQ1087
          have N1087 := Fr.app N1082 Nq1087
          have pre1088 : ∀ t, Sp p e below m T1087 140 #[.val (.int p0), .val (.int p1), .val (.int p2), .val (.int p3), .val (.int p4), .val (.int p5), .val (.ref b951), .val (.ref b997), .val (.int (0 : Int32)), .val (.int (3 : Int32)), .unset] [(.int (own_ok c2 (2 : Int32) (0 : Int32) (3 : Int32)))] t → SG p e below G0 t := by
            intro t k
            refine pre1083 t ?_
            show Sp p e below m T1082 125 #[.val (.int p0), .val (.int p1), .val (.int p2), .val (.int p3), .val (.int p4), .val (.int p5), .val (.ref b951), .val (.ref b997), .val (.int (0 : Int32)), .val (.int (3 : Int32)), .unset] [(.int (own_ok c1 (1 : Int32) (0 : Int32) (3 : Int32)))] _
            refine XS.ifNo X1082.here hx rfl (hb hby at_125) rfl ((if0 _ _).trans (feq hc125_1084).1) ?_
            refine XS.aload X1082.here hx rfl (hb hby at_128) rfl rfl ?_
            refine XS.iconst X1082.here hx rfl (hb hby at_130) ?_
            refine X1082.caload hx (j := (2 : Int32)) (v := (.int c2)) (by rw [e1082]; exact Ar1086.1) (State.isArrayOf_alike hZ.alike Ar1086.2.1) Ar1086.2.2 hin1086 hat1086 (g := (mkF m 131 #[.val (.int p0), .val (.int p1), .val (.int p2), .val (.int p3), .val (.int p4), .val (.int p5), .val (.ref b951), .val (.ref b997), .val (.int (0 : Int32)), .val (.int (3 : Int32)), .unset] [(.int (2 : Int32)), (.ref b951)])) rfl rfl (hb hby at_131) _ ?_
            show Sp p e below m T1082 132 #[.val (.int p0), .val (.int p1), .val (.int p2), .val (.int p3), .val (.int p4), .val (.int p5), .val (.ref b951), .val (.ref b997), .val (.int (0 : Int32)), .val (.int (3 : Int32)), .unset] [(.int c2)] _
            refine XS.iconst X1082.here hx rfl (hb hby at_132) ?_
            refine XS.iload X1082.here hx rfl (hb hby at_133) rfl ?_
            refine XS.iload X1082.here hx rfl (hb hby at_135) rfl ?_
            refine st1087 _ ?_
            exact k
          by_cases hc140_1089 : (own_ok c2 (2 : Int32) (0 : Int32) (3 : Int32)) = (0 : Int32)
          · have pre1090 : ∀ t, Sp p e below m T1087 163 #[.val (.int p0), .val (.int p1), .val (.int p2), .val (.int p3), .val (.int p4), .val (.int p5), .val (.ref b951), .val (.ref b997), .val (.int (0 : Int32)), .val (.int (3 : Int32)), .unset] [(.int (0 : Int32))] t → SG p e below G0 t := by
              intro t k
              refine pre1088 t ?_
              show Sp p e below m T1087 140 #[.val (.int p0), .val (.int p1), .val (.int p2), .val (.int p3), .val (.int p4), .val (.int p5), .val (.ref b951), .val (.ref b997), .val (.int (0 : Int32)), .val (.int (3 : Int32)), .unset] [(.int (own_ok c2 (2 : Int32) (0 : Int32) (3 : Int32)))] _
              refine XS.ifYes X1087.here hx rfl (pc0 := 140) (pc' := 162) rfl (hb hby at_140) rfl ((if0 _ _).trans (teq hc140_1089).1) (by decide) (by decide) ?_
              refine XS.iconst X1087.here hx rfl (hb hby at_162) ?_
              exact k
            exact ⟨T1087, _, (0 : Int32), X1087, e1087, N1087, (by simp [hc110_1079, hc125_1084, hc140_1089]), pre1090⟩
          · obtain ⟨cl1091, Ar1091, -, S1091, -, H1091, -⟩ := id f1012
            have hin1091 : ¬ ((3 : Int32) < 0 ∨ cl1091.slots.size ≤ ((3 : Int32)).toNatClampNeg) := inb_of S1091 ⟨by decide, by decide⟩
            have hat1091 : cl1091.slots[((3 : Int32)).toNatClampNeg]? = some (.int c3) := H1091.at hin1091 rfl
            obtain ⟨_, _, ⟨T1092, L1092, k1092, n1092⟩, -, X1092, ⟨Lc1092, hQ1092, l1092, y1092, z1092⟩, st1092⟩ := Jvm.LawKit.callS X1087 hx hown (mvT hZ (H 61 _ rfl)) (mvT hZ (H 62 _ rfl)) (mvT hZ (H 3 _ rfl)) (mvT hZ (H 63 _ rfl)) (by decide) (backOf (W := 0) (rm15 l Z a0 hw [] c3 (3 : Int32) (0 : Int32) (3 : Int32)  T1006.heap n0 Zs1006 ) hZ (H 63 _ rfl) (H 3 _ rfl) (by decide) (by decide)) (g := (mkF m 152 #[.val (.int p0), .val (.int p1), .val (.int p2), .val (.int p3), .val (.int p4), .val (.int p5), .val (.ref b951), .val (.ref b997), .val (.int (0 : Int32)), .val (.int (3 : Int32)), .unset] [(.int (3 : Int32)), (.int (0 : Int32)), (.int (3 : Int32)), (.int c3)])) rfl (by rw [hml]; rfl) (argsL := [(.int c3), (.int (3 : Int32)), (.int (0 : Int32)), (.int (3 : Int32))]) (rest := []) (lenOf own_pd327 rfl) rfl (Nat.le_of_eq rfl) (hb hby at_152) (fun _ _ => ⟨rfl, e1087, (by decide : 4 + 0 ≤ _), (by decide : 20 + 0 ≤ _)⟩)
            dsimp only [Pt.U, Pt.locs, Pt.cells, Pt.slots] at X1092 l1092 y1092 z1092 st1092 hQ1092
            rw [l1092, y1092, z1092] at X1092
            obtain ⟨rfl, Nq1092, e1092⟩ := hQ1092
            have N1092 := Fr.app N1087 Nq1092
            have pre1093 : ∀ t, Sp p e below m T1092 155 #[.val (.int p0), .val (.int p1), .val (.int p2), .val (.int p3), .val (.int p4), .val (.int p5), .val (.ref b951), .val (.ref b997), .val (.int (0 : Int32)), .val (.int (3 : Int32)), .unset] [(.int (own_ok c3 (3 : Int32) (0 : Int32) (3 : Int32)))] t → SG p e below G0 t := by
              intro t k
              refine pre1088 t ?_
              show Sp p e below m T1087 140 #[.val (.int p0), .val (.int p1), .val (.int p2), .val (.int p3), .val (.int p4), .val (.int p5), .val (.ref b951), .val (.ref b997), .val (.int (0 : Int32)), .val (.int (3 : Int32)), .unset] [(.int (own_ok c2 (2 : Int32) (0 : Int32) (3 : Int32)))] _
              refine XS.ifNo X1087.here hx rfl (hb hby at_140) rfl ((if0 _ _).trans (feq hc140_1089).1) ?_
              refine XS.aload X1087.here hx rfl (hb hby at_143) rfl rfl ?_
              refine XS.iconst X1087.here hx rfl (hb hby at_145) ?_
              refine X1087.caload hx (j := (3 : Int32)) (v := (.int c3)) (by rw [e1087]; exact Ar1091.1) (State.isArrayOf_alike hZ.alike Ar1091.2.1) Ar1091.2.2 hin1091 hat1091 (g := (mkF m 146 #[.val (.int p0), .val (.int p1), .val (.int p2), .val (.int p3), .val (.int p4), .val (.int p5), .val (.ref b951), .val (.ref b997), .val (.int (0 : Int32)), .val (.int (3 : Int32)), .unset] [(.int (3 : Int32)), (.ref b951)])) rfl rfl (hb hby at_146) _ ?_
              show Sp p e below m T1087 147 #[.val (.int p0), .val (.int p1), .val (.int p2), .val (.int p3), .val (.int p4), .val (.int p5), .val (.ref b951), .val (.ref b997), .val (.int (0 : Int32)), .val (.int (3 : Int32)), .unset] [(.int c3)] _
              refine XS.iconst X1087.here hx rfl (hb hby at_147) ?_
              refine XS.iload X1087.here hx rfl (hb hby at_148) rfl ?_
              refine XS.iload X1087.here hx rfl (hb hby at_150) rfl ?_
              refine st1092 _ ?_
              exact k
            by_cases hc155_1094 : (own_ok c3 (3 : Int32) (0 : Int32) (3 : Int32)) = (0 : Int32)
            · have pre1095 : ∀ t, Sp p e below m T1092 163 #[.val (.int p0), .val (.int p1), .val (.int p2), .val (.int p3), .val (.int p4), .val (.int p5), .val (.ref b951), .val (.ref b997), .val (.int (0 : Int32)), .val (.int (3 : Int32)), .unset] [(.int (0 : Int32))] t → SG p e below G0 t := by
                intro t k
                refine pre1093 t ?_
                show Sp p e below m T1092 155 #[.val (.int p0), .val (.int p1), .val (.int p2), .val (.int p3), .val (.int p4), .val (.int p5), .val (.ref b951), .val (.ref b997), .val (.int (0 : Int32)), .val (.int (3 : Int32)), .unset] [(.int (own_ok c3 (3 : Int32) (0 : Int32) (3 : Int32)))] _
                refine XS.ifYes X1092.here hx rfl (pc0 := 155) (pc' := 162) rfl (hb hby at_155) rfl ((if0 _ _).trans (teq hc155_1094).1) (by decide) (by decide) ?_
                refine XS.iconst X1092.here hx rfl (hb hby at_162) ?_
                exact k
              exact ⟨T1092, _, (0 : Int32), X1092, e1092, N1092, (by simp [hc110_1079, hc125_1084, hc140_1089, hc155_1094]), pre1095⟩
            · have pre1096 : ∀ t, Sp p e below m T1092 163 #[.val (.int p0), .val (.int p1), .val (.int p2), .val (.int p3), .val (.int p4), .val (.int p5), .val (.ref b951), .val (.ref b997), .val (.int (0 : Int32)), .val (.int (3 : Int32)), .unset] [(.int (1 : Int32))] t → SG p e below G0 t := by
                intro t k
                refine pre1093 t ?_
                show Sp p e below m T1092 155 #[.val (.int p0), .val (.int p1), .val (.int p2), .val (.int p3), .val (.int p4), .val (.int p5), .val (.ref b951), .val (.ref b997), .val (.int (0 : Int32)), .val (.int (3 : Int32)), .unset] [(.int (own_ok c3 (3 : Int32) (0 : Int32) (3 : Int32)))] _
                refine XS.ifNo X1092.here hx rfl (hb hby at_155) rfl ((if0 _ _).trans (feq hc155_1094).1) ?_
                refine XS.iconst X1092.here hx rfl (hb hby at_158) ?_
                refine XS.goto X1092.here hx rfl (pc0 := 159) (pc' := 163) rfl (hb hby at_159) (by decide) (by decide) ?_
                exact k
              exact ⟨T1092, _, (1 : Int32), X1092, e1092, N1092, (by simp [hc110_1079, hc125_1084, hc140_1089, hc155_1094]), pre1096⟩
    obtain ⟨_, _, ⟨T1101, L1101, k1101, n1101⟩, -, X1101, ⟨Lc1101, hQ1101, l1101, y1101, z1101⟩, st1101⟩ := Jvm.LawKit.callS Xm1098 hx hown (mvT hZ (H 34 _ rfl)) (mvT hZ (H 35 _ rfl)) (mvT hZ (H 36 _ rfl)) (mvT hZ (H 37 _ rfl)) (by decide) (backOf (W := 0) (rm8f0t3 l Z a0 hw [] b997 cs vf rrb_1006 rrk_1006 c0 c1 c2 c3 T1006.heap n0 Zs1006 O1006 Scs hcs Ssf hvf Sas Shs Sls p1006_0 p1006_1 p1006_2 hb0 hb1 hb2 hb3) hZ (H 37 _ rfl) (H 36 _ rfl) (by decide) (by decide)) (g := (mkF m 171 #[.val (.int p0), .val (.int p1), .val (.int p2), .val (.int p3), .val (.int p4), .val (.int p5), .val (.ref b951), .val (.ref b997), .val (.int (0 : Int32)), .val (.int (3 : Int32)), .val (.int v163_1097)] [(.int (3 : Int32)), (.int (0 : Int32)), (.ref b997)])) rfl (by rw [hml]; rfl) (argsL := [(.ref b997), (.int (0 : Int32)), (.int (3 : Int32))]) (rest := []) (lenOf own_pd326 rfl) rfl (Nat.le_of_eq rfl) (hb hby at_171) (fun _ _ => ⟨rfl, em1098, (by decide : 4 + 0 ≤ _), (by decide : 20 + 0 ≤ _)⟩)
    dsimp only [Pt.U, Pt.locs, Pt.cells, Pt.slots] at X1101 l1101 y1101 z1101 st1101 hQ1101
    rw [l1101, y1101, z1101] at X1101
    obtain ⟨rfl, Nq1101, e1101⟩ := hQ1101
    have N1101 := Fr.app Nm1098 Nq1101
    obtain ⟨fs, hr, hrun, hended, hW, hsame⟩ := X1101.leave (v := some (.int (1 : Int32))) (fun h => by rw [Bd.returns] at h; cases h)
    refine ⟨_, _, pre1099 _ ?_, hrun, hended, _, _, rfl, ?_, ⟨_, rfl⟩, hW, hsame.mono (by decide) (by decide)⟩
    · show Sp p e below m Tm1098 163 #[.val (.int p0), .val (.int p1), .val (.int p2), .val (.int p3), .val (.int p4), .val (.int p5), .val (.ref b951), .val (.ref b997), .val (.int (0 : Int32)), .val (.int (3 : Int32)), .unset] [(.int v163_1097)] _
      refine XS.istore Xm1098.here hx rfl (hb hby at_163) rfl (l' := #[.val (.int p0), .val (.int p1), .val (.int p2), .val (.int p3), .val (.int p4), .val (.int p5), .val (.ref b951), .val (.ref b997), .val (.int (0 : Int32)), .val (.int (3 : Int32)), .val (.int v163_1097)]) rfl ?_
      refine XS.aload Xm1098.here hx rfl (hb hby at_165) rfl rfl ?_
      refine XS.iload Xm1098.here hx rfl (hb hby at_167) rfl ?_
      refine XS.iload Xm1098.here hx rfl (hb hby at_169) rfl ?_
      refine st1101 _ ?_
      show Sp p e below m T1101 174 #[.val (.int p0), .val (.int p1), .val (.int p2), .val (.int p3), .val (.int p4), .val (.int p5), .val (.ref b951), .val (.ref b997), .val (.int (0 : Int32)), .val (.int (3 : Int32)), .val (.int v163_1097)] [(.int (if own_dg c0 = 0 then (0 : Int32) else (if own_dg c1 = 0 then (0 : Int32) else (own_dg c2))))] _
      refine XS.iload X1101.here hx rfl (hb hby at_174) rfl ?_
      refine XS.icmpNo X1101.here hx rfl (hb hby at_176) rfl (teq (own_fin03 hv1100 : ((if own_dg c0 = 0 then (0 : Int32) else (if own_dg c1 = 0 then (0 : Int32) else (own_dg c2))) = v163_1097))).2 ?_
      refine XS.iconst X1101.here hx rfl (hb hby at_179) ?_
      refine XS.goto X1101.here hx rfl (pc0 := 180) (pc' := 184) rfl (hb hby at_180) (by decide) (by decide) ?_
      exact retN X1101 hx (t := .boolean) Bd.returns (by simp) (hb hby at_184) hr
    · show Q0 Z p0 p1 p2 p3 p4 p5 cs vf h0 n0 _ T1101.heap _
      rw [e1101]
      exact ⟨rfl, N1101⟩
  · rw [hf04, ht04] at pre1021
    obtain ⟨Tm1124, lm1124, v163_1123, Xm1124, em1124, Nm1124, hv1126, pre1125⟩ : ∃ (Tm1124 : State) (lm1124 : List Loc) (v163_1123 : Int32), Stand p l e room_1 s m #[(.int p0), (.int p1), (.int p2), (.int p3), (.int p4), (.int p5)] below meth c Tm1124 lm1124 4 20 ∧ Tm1124.heap = T1006.heap ∧ Fr n0 lm1124 ∧ (v163_1123 = if own_ok c0 0 0 4 = 0 then 0 else if own_ok c1 1 0 4 = 0 then 0 else if own_ok c2 2 0 4 = 0 then 0 else if own_ok c3 3 0 4 = 0 then 0 else 1) ∧ ∀ t, Sp p e below m Tm1124 163 #[.val (.int p0), .val (.int p1), .val (.int p2), .val (.int p3), .val (.int p4), .val (.int p5), .val (.ref b951), .val (.ref b997), .val (.int (0 : Int32)), .val (.int (4 : Int32)), .unset] [(.int v163_1123)] t → SG p e below G0 t := by
      obtain ⟨cl1102, Ar1102, -, S1102, -, H1102, -⟩ := id f1012
      have hin1102 : ¬ ((0 : Int32) < 0 ∨ cl1102.slots.size ≤ ((0 : Int32)).toNatClampNeg) := inb_of S1102 ⟨by decide, by decide⟩
      have hat1102 : cl1102.slots[((0 : Int32)).toNatClampNeg]? = some (.int c0) := H1102.at hin1102 rfl
      obtain ⟨_, _, ⟨T1103, L1103, k1103, n1103⟩, -, X1103, ⟨Lc1103, hQ1103, l1103, y1103, z1103⟩, st1103⟩ := Jvm.LawKit.callS Xm1020 hx hown (mvT hZ (H 61 _ rfl)) (mvT hZ (H 62 _ rfl)) (mvT hZ (H 3 _ rfl)) (mvT hZ (H 63 _ rfl)) (by decide) (backOf (W := 0) (rm15 l Z a0 hw [] c0 (0 : Int32) (0 : Int32) (4 : Int32)  T1006.heap n0 Zs1006 ) hZ (H 63 _ rfl) (H 3 _ rfl) (by decide) (by decide)) (g := (mkF m 107 #[.val (.int p0), .val (.int p1), .val (.int p2), .val (.int p3), .val (.int p4), .val (.int p5), .val (.ref b951), .val (.ref b997), .val (.int (0 : Int32)), .val (.int (4 : Int32)), .unset] [(.int (4 : Int32)), (.int (0 : Int32)), (.int (0 : Int32)), (.int c0)])) rfl (by rw [hml]; rfl) (argsL := [(.int c0), (.int (0 : Int32)), (.int (0 : Int32)), (.int (4 : Int32))]) (rest := []) (lenOf own_pd327 rfl) rfl (Nat.le_of_eq rfl) (hb hby at_107) (fun _ _ => ⟨rfl, em1020, (by decide : 4 + 0 ≤ _), (by decide : 20 + 0 ≤ _)⟩)
      dsimp only [Pt.U, Pt.locs, Pt.cells, Pt.slots] at X1103 l1103 y1103 z1103 st1103 hQ1103
      rw [l1103, y1103, z1103] at X1103
      obtain ⟨rfl, Nq1103, e1103⟩ := hQ1103
      have N1103 := Fr.app Nm1020 Nq1103
      have pre1104 : ∀ t, Sp p e below m T1103 110 #[.val (.int p0), .val (.int p1), .val (.int p2), .val (.int p3), .val (.int p4), .val (.int p5), .val (.ref b951), .val (.ref b997), .val (.int (0 : Int32)), .val (.int (4 : Int32)), .unset] [(.int (own_ok c0 (0 : Int32) (0 : Int32) (4 : Int32)))] t → SG p e below G0 t := by
        intro t k
        refine pre1021 t ?_
        show Sp p e below m Tm1020 91 #[.val (.int p0), .val (.int p1), .val (.int p2), .val (.int p3), .val (.int p4), .val (.int p5), .val (.ref b951), .val (.ref b997), .val (.int (0 : Int32)), .val (.int (4 : Int32)), .unset] [] _
        refine XS.iload Xm1020.here hx rfl (hb hby at_91) rfl ?_
        refine XS.iload Xm1020.here hx rfl (hb hby at_93) rfl ?_
        refine XS.icmpNo Xm1020.here hx rfl (hb hby at_95) rfl (tlt (by decide : ((0 : Int32) < (4 : Int32)))).2.1 ?_
        refine XS.aload Xm1020.here hx rfl (hb hby at_98) rfl rfl ?_
        refine XS.iconst Xm1020.here hx rfl (hb hby at_100) ?_
        refine Xm1020.caload hx (j := (0 : Int32)) (v := (.int c0)) (by rw [em1020]; exact Ar1102.1) (State.isArrayOf_alike hZ.alike Ar1102.2.1) Ar1102.2.2 hin1102 hat1102 (g := (mkF m 101 #[.val (.int p0), .val (.int p1), .val (.int p2), .val (.int p3), .val (.int p4), .val (.int p5), .val (.ref b951), .val (.ref b997), .val (.int (0 : Int32)), .val (.int (4 : Int32)), .unset] [(.int (0 : Int32)), (.ref b951)])) rfl rfl (hb hby at_101) _ ?_
        show Sp p e below m Tm1020 102 #[.val (.int p0), .val (.int p1), .val (.int p2), .val (.int p3), .val (.int p4), .val (.int p5), .val (.ref b951), .val (.ref b997), .val (.int (0 : Int32)), .val (.int (4 : Int32)), .unset] [(.int c0)] _
        refine XS.iconst Xm1020.here hx rfl (hb hby at_102) ?_
        refine XS.iload Xm1020.here hx rfl (hb hby at_103) rfl ?_
        refine XS.iload Xm1020.here hx rfl (hb hby at_105) rfl ?_
        refine st1103 _ ?_
        exact k
      by_cases hc110_1105 : (own_ok c0 (0 : Int32) (0 : Int32) (4 : Int32)) = (0 : Int32)
      · have pre1106 : ∀ t, Sp p e below m T1103 163 #[.val (.int p0), .val (.int p1), .val (.int p2), .val (.int p3), .val (.int p4), .val (.int p5), .val (.ref b951), .val (.ref b997), .val (.int (0 : Int32)), .val (.int (4 : Int32)), .unset] [(.int (0 : Int32))] t → SG p e below G0 t := by
          intro t k
          refine pre1104 t ?_
          show Sp p e below m T1103 110 #[.val (.int p0), .val (.int p1), .val (.int p2), .val (.int p3), .val (.int p4), .val (.int p5), .val (.ref b951), .val (.ref b997), .val (.int (0 : Int32)), .val (.int (4 : Int32)), .unset] [(.int (own_ok c0 (0 : Int32) (0 : Int32) (4 : Int32)))] _
          refine XS.ifYes X1103.here hx rfl (pc0 := 110) (pc' := 162) rfl (hb hby at_110) rfl ((if0 _ _).trans (teq hc110_1105).1) (by decide) (by decide) ?_
          refine XS.iconst X1103.here hx rfl (hb hby at_162) ?_
          exact k
        exact ⟨T1103, _, (0 : Int32), X1103, e1103, N1103, (by simp [hc110_1105]), pre1106⟩
      · obtain ⟨cl1107, Ar1107, -, S1107, -, H1107, -⟩ := id f1012
        have hin1107 : ¬ ((1 : Int32) < 0 ∨ cl1107.slots.size ≤ ((1 : Int32)).toNatClampNeg) := inb_of S1107 ⟨by decide, by decide⟩
        have hat1107 : cl1107.slots[((1 : Int32)).toNatClampNeg]? = some (.int c1) := H1107.at hin1107 rfl
        obtain ⟨_, _, ⟨T1108, L1108, k1108, n1108⟩, -, X1108, ⟨Lc1108, hQ1108, l1108, y1108, z1108⟩, st1108⟩ := Jvm.LawKit.callS X1103 hx hown (mvT hZ (H 61 _ rfl)) (mvT hZ (H 62 _ rfl)) (mvT hZ (H 3 _ rfl)) (mvT hZ (H 63 _ rfl)) (by decide) (backOf (W := 0) (rm15 l Z a0 hw [] c1 (1 : Int32) (0 : Int32) (4 : Int32)  T1006.heap n0 Zs1006 ) hZ (H 63 _ rfl) (H 3 _ rfl) (by decide) (by decide)) (g := (mkF m 122 #[.val (.int p0), .val (.int p1), .val (.int p2), .val (.int p3), .val (.int p4), .val (.int p5), .val (.ref b951), .val (.ref b997), .val (.int (0 : Int32)), .val (.int (4 : Int32)), .unset] [(.int (4 : Int32)), (.int (0 : Int32)), (.int (1 : Int32)), (.int c1)])) rfl (by rw [hml]; rfl) (argsL := [(.int c1), (.int (1 : Int32)), (.int (0 : Int32)), (.int (4 : Int32))]) (rest := []) (lenOf own_pd327 rfl) rfl (Nat.le_of_eq rfl) (hb hby at_122) (fun _ _ => ⟨rfl, e1103, (by decide : 4 + 0 ≤ _), (by decide : 20 + 0 ≤ _)⟩)
        dsimp only [Pt.U, Pt.locs, Pt.cells, Pt.slots] at X1108 l1108 y1108 z1108 st1108 hQ1108
        rw [l1108, y1108, z1108] at X1108
        obtain ⟨rfl, Nq1108, e1108⟩ := hQ1108
        have N1108 := Fr.app N1103 Nq1108
        have pre1109 : ∀ t, Sp p e below m T1108 125 #[.val (.int p0), .val (.int p1), .val (.int p2), .val (.int p3), .val (.int p4), .val (.int p5), .val (.ref b951), .val (.ref b997), .val (.int (0 : Int32)), .val (.int (4 : Int32)), .unset] [(.int (own_ok c1 (1 : Int32) (0 : Int32) (4 : Int32)))] t → SG p e below G0 t := by
          intro t k
          refine pre1104 t ?_
          show Sp p e below m T1103 110 #[.val (.int p0), .val (.int p1), .val (.int p2), .val (.int p3), .val (.int p4), .val (.int p5), .val (.ref b951), .val (.ref b997), .val (.int (0 : Int32)), .val (.int (4 : Int32)), .unset] [(.int (own_ok c0 (0 : Int32) (0 : Int32) (4 : Int32)))] _
          refine XS.ifNo X1103.here hx rfl (hb hby at_110) rfl ((if0 _ _).trans (feq hc110_1105).1) ?_
          refine XS.aload X1103.here hx rfl (hb hby at_113) rfl rfl ?_
          refine XS.iconst X1103.here hx rfl (hb hby at_115) ?_
          refine X1103.caload hx (j := (1 : Int32)) (v := (.int c1)) (by rw [e1103]; exact Ar1107.1) (State.isArrayOf_alike hZ.alike Ar1107.2.1) Ar1107.2.2 hin1107 hat1107 (g := (mkF m 116 #[.val (.int p0), .val (.int p1), .val (.int p2), .val (.int p3), .val (.int p4), .val (.int p5), .val (.ref b951), .val (.ref b997), .val (.int (0 : Int32)), .val (.int (4 : Int32)), .unset] [(.int (1 : Int32)), (.ref b951)])) rfl rfl (hb hby at_116) _ ?_
          show Sp p e below m T1103 117 #[.val (.int p0), .val (.int p1), .val (.int p2), .val (.int p3), .val (.int p4), .val (.int p5), .val (.ref b951), .val (.ref b997), .val (.int (0 : Int32)), .val (.int (4 : Int32)), .unset] [(.int c1)] _
          refine XS.iconst X1103.here hx rfl (hb hby at_117) ?_
          refine XS.iload X1103.here hx rfl (hb hby at_118) rfl ?_
          refine XS.iload X1103.here hx rfl (hb hby at_120) rfl ?_
          refine st1108 _ ?_
          exact k
        by_cases hc125_1110 : (own_ok c1 (1 : Int32) (0 : Int32) (4 : Int32)) = (0 : Int32)
        · have pre1111 : ∀ t, Sp p e below m T1108 163 #[.val (.int p0), .val (.int p1), .val (.int p2), .val (.int p3), .val (.int p4), .val (.int p5), .val (.ref b951), .val (.ref b997), .val (.int (0 : Int32)), .val (.int (4 : Int32)), .unset] [(.int (0 : Int32))] t → SG p e below G0 t := by
            intro t k
            refine pre1109 t ?_
            show Sp p e below m T1108 125 #[.val (.int p0), .val (.int p1), .val (.int p2), .val (.int p3), .val (.int p4), .val (.int p5), .val (.ref b951), .val (.ref b997), .val (.int (0 : Int32)), .val (.int (4 : Int32)), .unset] [(.int (own_ok c1 (1 : Int32) (0 : Int32) (4 : Int32)))] _
            refine XS.ifYes X1108.here hx rfl (pc0 := 125) (pc' := 162) rfl (hb hby at_125) rfl ((if0 _ _).trans (teq hc125_1110).1) (by decide) (by decide) ?_
            refine XS.iconst X1108.here hx rfl (hb hby at_162) ?_
            exact k
          exact ⟨T1108, _, (0 : Int32), X1108, e1108, N1108, (by simp [hc110_1105, hc125_1110]), pre1111⟩
        · obtain ⟨cl1112, Ar1112, -, S1112, -, H1112, -⟩ := id f1012
          have hin1112 : ¬ ((2 : Int32) < 0 ∨ cl1112.slots.size ≤ ((2 : Int32)).toNatClampNeg) := inb_of S1112 ⟨by decide, by decide⟩
          have hat1112 : cl1112.slots[((2 : Int32)).toNatClampNeg]? = some (.int c2) := H1112.at hin1112 rfl
          obtain ⟨_, _, ⟨T1113, L1113, k1113, n1113⟩, -, X1113, ⟨Lc1113, hQ1113, l1113, y1113, z1113⟩, st1113⟩ := Jvm.LawKit.callS X1108 hx hown (mvT hZ (H 61 _ rfl)) (mvT hZ (H 62 _ rfl)) (mvT hZ (H 3 _ rfl)) (mvT hZ (H 63 _ rfl)) (by decide) (backOf (W := 0) (rm15 l Z a0 hw [] c2 (2 : Int32) (0 : Int32) (4 : Int32)  T1006.heap n0 Zs1006 ) hZ (H 63 _ rfl) (H 3 _ rfl) (by decide) (by decide)) (g := (mkF m 137 #[.val (.int p0), .val (.int p1), .val (.int p2), .val (.int p3), .val (.int p4), .val (.int p5), .val (.ref b951), .val (.ref b997), .val (.int (0 : Int32)), .val (.int (4 : Int32)), .unset] [(.int (4 : Int32)), (.int (0 : Int32)), (.int (2 : Int32)), (.int c2)])) rfl (by rw [hml]; rfl) (argsL := [(.int c2), (.int (2 : Int32)), (.int (0 : Int32)), (.int (4 : Int32))]) (rest := []) (lenOf own_pd327 rfl) rfl (Nat.le_of_eq rfl) (hb hby at_137) (fun _ _ => ⟨rfl, e1108, (by decide : 4 + 0 ≤ _), (by decide : 20 + 0 ≤ _)⟩)
          dsimp only [Pt.U, Pt.locs, Pt.cells, Pt.slots] at X1113 l1113 y1113 z1113 st1113 hQ1113
          rw [l1113, y1113, z1113] at X1113
          obtain ⟨rfl, Nq1113, e1113⟩ := hQ1113
          have N1113 := Fr.app N1108 Nq1113
          have pre1114 : ∀ t, Sp p e below m T1113 140 #[.val (.int p0), .val (.int p1), .val (.int p2), .val (.int p3), .val (.int p4), .val (.int p5), .val (.ref b951), .val (.ref b997), .val (.int (0 : Int32)), .val (.int (4 : Int32)), .unset] [(.int (own_ok c2 (2 : Int32) (0 : Int32) (4 : Int32)))] t → SG p e below G0 t := by
            intro t k
            refine pre1109 t ?_
            show Sp p e below m T1108 125 #[.val (.int p0), .val (.int p1), .val (.int p2), .val (.int p3), .val (.int p4), .val (.int p5), .val (.ref b951), .val (.ref b997), .val (.int (0 : Int32)), .val (.int (4 : Int32)), .unset] [(.int (own_ok c1 (1 : Int32) (0 : Int32) (4 : Int32)))] _
            refine XS.ifNo X1108.here hx rfl (hb hby at_125) rfl ((if0 _ _).trans (feq hc125_1110).1) ?_
            refine XS.aload X1108.here hx rfl (hb hby at_128) rfl rfl ?_
            refine XS.iconst X1108.here hx rfl (hb hby at_130) ?_
            refine X1108.caload hx (j := (2 : Int32)) (v := (.int c2)) (by rw [e1108]; exact Ar1112.1) (State.isArrayOf_alike hZ.alike Ar1112.2.1) Ar1112.2.2 hin1112 hat1112 (g := (mkF m 131 #[.val (.int p0), .val (.int p1), .val (.int p2), .val (.int p3), .val (.int p4), .val (.int p5), .val (.ref b951), .val (.ref b997), .val (.int (0 : Int32)), .val (.int (4 : Int32)), .unset] [(.int (2 : Int32)), (.ref b951)])) rfl rfl (hb hby at_131) _ ?_
            show Sp p e below m T1108 132 #[.val (.int p0), .val (.int p1), .val (.int p2), .val (.int p3), .val (.int p4), .val (.int p5), .val (.ref b951), .val (.ref b997), .val (.int (0 : Int32)), .val (.int (4 : Int32)), .unset] [(.int c2)] _
            refine XS.iconst X1108.here hx rfl (hb hby at_132) ?_
            refine XS.iload X1108.here hx rfl (hb hby at_133) rfl ?_
            refine XS.iload X1108.here hx rfl (hb hby at_135) rfl ?_
            refine st1113 _ ?_
            exact k
          by_cases hc140_1115 : (own_ok c2 (2 : Int32) (0 : Int32) (4 : Int32)) = (0 : Int32)
          · have pre1116 : ∀ t, Sp p e below m T1113 163 #[.val (.int p0), .val (.int p1), .val (.int p2), .val (.int p3), .val (.int p4), .val (.int p5), .val (.ref b951), .val (.ref b997), .val (.int (0 : Int32)), .val (.int (4 : Int32)), .unset] [(.int (0 : Int32))] t → SG p e below G0 t := by
              intro t k
              refine pre1114 t ?_
              show Sp p e below m T1113 140 #[.val (.int p0), .val (.int p1), .val (.int p2), .val (.int p3), .val (.int p4), .val (.int p5), .val (.ref b951), .val (.ref b997), .val (.int (0 : Int32)), .val (.int (4 : Int32)), .unset] [(.int (own_ok c2 (2 : Int32) (0 : Int32) (4 : Int32)))] _
              refine XS.ifYes X1113.here hx rfl (pc0 := 140) (pc' := 162) rfl (hb hby at_140) rfl ((if0 _ _).trans (teq hc140_1115).1) (by decide) (by decide) ?_
              refine XS.iconst X1113.here hx rfl (hb hby at_162) ?_
              exact k
            exact ⟨T1113, _, (0 : Int32), X1113, e1113, N1113, (by simp [hc110_1105, hc125_1110, hc140_1115]), pre1116⟩
          · obtain ⟨cl1117, Ar1117, -, S1117, -, H1117, -⟩ := id f1012
            have hin1117 : ¬ ((3 : Int32) < 0 ∨ cl1117.slots.size ≤ ((3 : Int32)).toNatClampNeg) := inb_of S1117 ⟨by decide, by decide⟩
            have hat1117 : cl1117.slots[((3 : Int32)).toNatClampNeg]? = some (.int c3) := H1117.at hin1117 rfl
            obtain ⟨_, _, ⟨T1118, L1118, k1118, n1118⟩, -, X1118, ⟨Lc1118, hQ1118, l1118, y1118, z1118⟩, st1118⟩ := Jvm.LawKit.callS X1113 hx hown (mvT hZ (H 61 _ rfl)) (mvT hZ (H 62 _ rfl)) (mvT hZ (H 3 _ rfl)) (mvT hZ (H 63 _ rfl)) (by decide) (backOf (W := 0) (rm15 l Z a0 hw [] c3 (3 : Int32) (0 : Int32) (4 : Int32)  T1006.heap n0 Zs1006 ) hZ (H 63 _ rfl) (H 3 _ rfl) (by decide) (by decide)) (g := (mkF m 152 #[.val (.int p0), .val (.int p1), .val (.int p2), .val (.int p3), .val (.int p4), .val (.int p5), .val (.ref b951), .val (.ref b997), .val (.int (0 : Int32)), .val (.int (4 : Int32)), .unset] [(.int (4 : Int32)), (.int (0 : Int32)), (.int (3 : Int32)), (.int c3)])) rfl (by rw [hml]; rfl) (argsL := [(.int c3), (.int (3 : Int32)), (.int (0 : Int32)), (.int (4 : Int32))]) (rest := []) (lenOf own_pd327 rfl) rfl (Nat.le_of_eq rfl) (hb hby at_152) (fun _ _ => ⟨rfl, e1113, (by decide : 4 + 0 ≤ _), (by decide : 20 + 0 ≤ _)⟩)
            dsimp only [Pt.U, Pt.locs, Pt.cells, Pt.slots] at X1118 l1118 y1118 z1118 st1118 hQ1118
            rw [l1118, y1118, z1118] at X1118
            obtain ⟨rfl, Nq1118, e1118⟩ := hQ1118
            have N1118 := Fr.app N1113 Nq1118
            have pre1119 : ∀ t, Sp p e below m T1118 155 #[.val (.int p0), .val (.int p1), .val (.int p2), .val (.int p3), .val (.int p4), .val (.int p5), .val (.ref b951), .val (.ref b997), .val (.int (0 : Int32)), .val (.int (4 : Int32)), .unset] [(.int (own_ok c3 (3 : Int32) (0 : Int32) (4 : Int32)))] t → SG p e below G0 t := by
              intro t k
              refine pre1114 t ?_
              show Sp p e below m T1113 140 #[.val (.int p0), .val (.int p1), .val (.int p2), .val (.int p3), .val (.int p4), .val (.int p5), .val (.ref b951), .val (.ref b997), .val (.int (0 : Int32)), .val (.int (4 : Int32)), .unset] [(.int (own_ok c2 (2 : Int32) (0 : Int32) (4 : Int32)))] _
              refine XS.ifNo X1113.here hx rfl (hb hby at_140) rfl ((if0 _ _).trans (feq hc140_1115).1) ?_
              refine XS.aload X1113.here hx rfl (hb hby at_143) rfl rfl ?_
              refine XS.iconst X1113.here hx rfl (hb hby at_145) ?_
              refine X1113.caload hx (j := (3 : Int32)) (v := (.int c3)) (by rw [e1113]; exact Ar1117.1) (State.isArrayOf_alike hZ.alike Ar1117.2.1) Ar1117.2.2 hin1117 hat1117 (g := (mkF m 146 #[.val (.int p0), .val (.int p1), .val (.int p2), .val (.int p3), .val (.int p4), .val (.int p5), .val (.ref b951), .val (.ref b997), .val (.int (0 : Int32)), .val (.int (4 : Int32)), .unset] [(.int (3 : Int32)), (.ref b951)])) rfl rfl (hb hby at_146) _ ?_
              show Sp p e below m T1113 147 #[.val (.int p0), .val (.int p1), .val (.int p2), .val (.int p3), .val (.int p4), .val (.int p5), .val (.ref b951), .val (.ref b997), .val (.int (0 : Int32)), .val (.int (4 : Int32)), .unset] [(.int c3)] _
              refine XS.iconst X1113.here hx rfl (hb hby at_147) ?_
              refine XS.iload X1113.here hx rfl (hb hby at_148) rfl ?_
              refine XS.iload X1113.here hx rfl (hb hby at_150) rfl ?_
              refine st1118 _ ?_
              exact k
            by_cases hc155_1120 : (own_ok c3 (3 : Int32) (0 : Int32) (4 : Int32)) = (0 : Int32)
            · have pre1121 : ∀ t, Sp p e below m T1118 163 #[.val (.int p0), .val (.int p1), .val (.int p2), .val (.int p3), .val (.int p4), .val (.int p5), .val (.ref b951), .val (.ref b997), .val (.int (0 : Int32)), .val (.int (4 : Int32)), .unset] [(.int (0 : Int32))] t → SG p e below G0 t := by
                intro t k
                refine pre1119 t ?_
                show Sp p e below m T1118 155 #[.val (.int p0), .val (.int p1), .val (.int p2), .val (.int p3), .val (.int p4), .val (.int p5), .val (.ref b951), .val (.ref b997), .val (.int (0 : Int32)), .val (.int (4 : Int32)), .unset] [(.int (own_ok c3 (3 : Int32) (0 : Int32) (4 : Int32)))] _
                refine XS.ifYes X1118.here hx rfl (pc0 := 155) (pc' := 162) rfl (hb hby at_155) rfl ((if0 _ _).trans (teq hc155_1120).1) (by decide) (by decide) ?_
                refine XS.iconst X1118.here hx rfl (hb hby at_162) ?_
                exact k
              exact ⟨T1118, _, (0 : Int32), X1118, e1118, N1118, (by simp [hc110_1105, hc125_1110, hc140_1115, hc155_1120]), pre1121⟩
            · have pre1122 : ∀ t, Sp p e below m T1118 163 #[.val (.int p0), .val (.int p1), .val (.int p2), .val (.int p3), .val (.int p4), .val (.int p5), .val (.ref b951), .val (.ref b997), .val (.int (0 : Int32)), .val (.int (4 : Int32)), .unset] [(.int (1 : Int32))] t → SG p e below G0 t := by
                intro t k
                refine pre1119 t ?_
                show Sp p e below m T1118 155 #[.val (.int p0), .val (.int p1), .val (.int p2), .val (.int p3), .val (.int p4), .val (.int p5), .val (.ref b951), .val (.ref b997), .val (.int (0 : Int32)), .val (.int (4 : Int32)), .unset] [(.int (own_ok c3 (3 : Int32) (0 : Int32) (4 : Int32)))] _
                refine XS.ifNo X1118.here hx rfl (hb hby at_155) rfl ((if0 _ _).trans (feq hc155_1120).1) ?_
                refine XS.iconst X1118.here hx rfl (hb hby at_158) ?_
                refine XS.goto X1118.here hx rfl (pc0 := 159) (pc' := 163) rfl (hb hby at_159) (by decide) (by decide) ?_
                exact k
              exact ⟨T1118, _, (1 : Int32), X1118, e1118, N1118, (by simp [hc110_1105, hc125_1110, hc140_1115, hc155_1120]), pre1122⟩
    obtain ⟨_, _, ⟨T1127, L1127, k1127, n1127⟩, -, X1127, ⟨Lc1127, hQ1127, l1127, y1127, z1127⟩, st1127⟩ := Jvm.LawKit.callS Xm1124 hx hown (mvT hZ (H 34 _ rfl)) (mvT hZ (H 35 _ rfl)) (mvT hZ (H 36 _ rfl)) (mvT hZ (H 37 _ rfl)) (by decide) (backOf (W := 0) (rm8f0t4 l Z a0 hw [] b997 cs vf rrb_1006 rrk_1006 c0 c1 c2 c3 T1006.heap n0 Zs1006 O1006 Scs hcs Ssf hvf Sas Shs Sls p1006_0 p1006_1 p1006_2 hb0 hb1 hb2 hb3) hZ (H 37 _ rfl) (H 36 _ rfl) (by decide) (by decide)) (g := (mkF m 171 #[.val (.int p0), .val (.int p1), .val (.int p2), .val (.int p3), .val (.int p4), .val (.int p5), .val (.ref b951), .val (.ref b997), .val (.int (0 : Int32)), .val (.int (4 : Int32)), .val (.int v163_1123)] [(.int (4 : Int32)), (.int (0 : Int32)), (.ref b997)])) rfl (by rw [hml]; rfl) (argsL := [(.ref b997), (.int (0 : Int32)), (.int (4 : Int32))]) (rest := []) (lenOf own_pd326 rfl) rfl (Nat.le_of_eq rfl) (hb hby at_171) (fun _ _ => ⟨rfl, em1124, (by decide : 4 + 0 ≤ _), (by decide : 20 + 0 ≤ _)⟩)
    dsimp only [Pt.U, Pt.locs, Pt.cells, Pt.slots] at X1127 l1127 y1127 z1127 st1127 hQ1127
    rw [l1127, y1127, z1127] at X1127
    obtain ⟨rfl, Nq1127, e1127⟩ := hQ1127
    have N1127 := Fr.app Nm1124 Nq1127
    obtain ⟨fs, hr, hrun, hended, hW, hsame⟩ := X1127.leave (v := some (.int (1 : Int32))) (fun h => by rw [Bd.returns] at h; cases h)
    refine ⟨_, _, pre1125 _ ?_, hrun, hended, _, _, rfl, ?_, ⟨_, rfl⟩, hW, hsame.mono (by decide) (by decide)⟩
    · show Sp p e below m Tm1124 163 #[.val (.int p0), .val (.int p1), .val (.int p2), .val (.int p3), .val (.int p4), .val (.int p5), .val (.ref b951), .val (.ref b997), .val (.int (0 : Int32)), .val (.int (4 : Int32)), .unset] [(.int v163_1123)] _
      refine XS.istore Xm1124.here hx rfl (hb hby at_163) rfl (l' := #[.val (.int p0), .val (.int p1), .val (.int p2), .val (.int p3), .val (.int p4), .val (.int p5), .val (.ref b951), .val (.ref b997), .val (.int (0 : Int32)), .val (.int (4 : Int32)), .val (.int v163_1123)]) rfl ?_
      refine XS.aload Xm1124.here hx rfl (hb hby at_165) rfl rfl ?_
      refine XS.iload Xm1124.here hx rfl (hb hby at_167) rfl ?_
      refine XS.iload Xm1124.here hx rfl (hb hby at_169) rfl ?_
      refine st1127 _ ?_
      show Sp p e below m T1127 174 #[.val (.int p0), .val (.int p1), .val (.int p2), .val (.int p3), .val (.int p4), .val (.int p5), .val (.ref b951), .val (.ref b997), .val (.int (0 : Int32)), .val (.int (4 : Int32)), .val (.int v163_1123)] [(.int (if own_dg c0 = 0 then (0 : Int32) else (if own_dg c1 = 0 then (0 : Int32) else (if own_dg c2 = 0 then (0 : Int32) else (own_dg c3)))))] _
      refine XS.iload X1127.here hx rfl (hb hby at_174) rfl ?_
      refine XS.icmpNo X1127.here hx rfl (hb hby at_176) rfl (teq (own_fin04 hv1126 : ((if own_dg c0 = 0 then (0 : Int32) else (if own_dg c1 = 0 then (0 : Int32) else (if own_dg c2 = 0 then (0 : Int32) else (own_dg c3)))) = v163_1123))).2 ?_
      refine XS.iconst X1127.here hx rfl (hb hby at_179) ?_
      refine XS.goto X1127.here hx rfl (pc0 := 180) (pc' := 184) rfl (hb hby at_180) (by decide) (by decide) ?_
      exact retN X1127 hx (t := .boolean) Bd.returns (by simp) (hb hby at_184) hr
    · show Q0 Z p0 p1 p2 p3 p4 p5 cs vf h0 n0 _ T1127.heap _
      rw [e1127]
      exact ⟨rfl, N1127⟩
  · rw [hf12, ht12] at pre1021
    obtain ⟨Tm1150, lm1150, v163_1149, Xm1150, em1150, Nm1150, hv1152, pre1151⟩ : ∃ (Tm1150 : State) (lm1150 : List Loc) (v163_1149 : Int32), Stand p l e room_1 s m #[(.int p0), (.int p1), (.int p2), (.int p3), (.int p4), (.int p5)] below meth c Tm1150 lm1150 4 20 ∧ Tm1150.heap = T1006.heap ∧ Fr n0 lm1150 ∧ (v163_1149 = if own_ok c0 0 1 2 = 0 then 0 else if own_ok c1 1 1 2 = 0 then 0 else if own_ok c2 2 1 2 = 0 then 0 else if own_ok c3 3 1 2 = 0 then 0 else 1) ∧ ∀ t, Sp p e below m Tm1150 163 #[.val (.int p0), .val (.int p1), .val (.int p2), .val (.int p3), .val (.int p4), .val (.int p5), .val (.ref b951), .val (.ref b997), .val (.int (1 : Int32)), .val (.int (2 : Int32)), .unset] [(.int v163_1149)] t → SG p e below G0 t := by
      obtain ⟨cl1128, Ar1128, -, S1128, -, H1128, -⟩ := id f1012
      have hin1128 : ¬ ((0 : Int32) < 0 ∨ cl1128.slots.size ≤ ((0 : Int32)).toNatClampNeg) := inb_of S1128 ⟨by decide, by decide⟩
      have hat1128 : cl1128.slots[((0 : Int32)).toNatClampNeg]? = some (.int c0) := H1128.at hin1128 rfl
      obtain ⟨_, _, ⟨T1129, L1129, k1129, n1129⟩, -, X1129, ⟨Lc1129, hQ1129, l1129, y1129, z1129⟩, st1129⟩ := Jvm.LawKit.callS Xm1020 hx hown (mvT hZ (H 61 _ rfl)) (mvT hZ (H 62 _ rfl)) (mvT hZ (H 3 _ rfl)) (mvT hZ (H 63 _ rfl)) (by decide) (backOf (W := 0) (rm15 l Z a0 hw [] c0 (0 : Int32) (1 : Int32) (2 : Int32)  T1006.heap n0 Zs1006 ) hZ (H 63 _ rfl) (H 3 _ rfl) (by decide) (by decide)) (g := (mkF m 107 #[.val (.int p0), .val (.int p1), .val (.int p2), .val (.int p3), .val (.int p4), .val (.int p5), .val (.ref b951), .val (.ref b997), .val (.int (1 : Int32)), .val (.int (2 : Int32)), .unset] [(.int (2 : Int32)), (.int (1 : Int32)), (.int (0 : Int32)), (.int c0)])) rfl (by rw [hml]; rfl) (argsL := [(.int c0), (.int (0 : Int32)), (.int (1 : Int32)), (.int (2 : Int32))]) (rest := []) (lenOf own_pd327 rfl) rfl (Nat.le_of_eq rfl) (hb hby at_107) (fun _ _ => ⟨rfl, em1020, (by decide : 4 + 0 ≤ _), (by decide : 20 + 0 ≤ _)⟩)
      dsimp only [Pt.U, Pt.locs, Pt.cells, Pt.slots] at X1129 l1129 y1129 z1129 st1129 hQ1129
      rw [l1129, y1129, z1129] at X1129
      obtain ⟨rfl, Nq1129, e1129⟩ := hQ1129
      have N1129 := Fr.app Nm1020 Nq1129
      have pre1130 : ∀ t, Sp p e below m T1129 110 #[.val (.int p0), .val (.int p1), .val (.int p2), .val (.int p3), .val (.int p4), .val (.int p5), .val (.ref b951), .val (.ref b997), .val (.int (1 : Int32)), .val (.int (2 : Int32)), .unset] [(.int (own_ok c0 (0 : Int32) (1 : Int32) (2 : Int32)))] t → SG p e below G0 t := by
        intro t k
        refine pre1021 t ?_
        show Sp p e below m Tm1020 91 #[.val (.int p0), .val (.int p1), .val (.int p2), .val (.int p3), .val (.int p4), .val (.int p5), .val (.ref b951), .val (.ref b997), .val (.int (1 : Int32)), .val (.int (2 : Int32)), .unset] [] _
        refine XS.iload Xm1020.here hx rfl (hb hby at_91) rfl ?_
        refine XS.iload Xm1020.here hx rfl (hb hby at_93) rfl ?_
        refine XS.icmpNo Xm1020.here hx rfl (hb hby at_95) rfl (tlt (by decide : ((1 : Int32) < (2 : Int32)))).2.1 ?_
        refine XS.aload Xm1020.here hx rfl (hb hby at_98) rfl rfl ?_
        refine XS.iconst Xm1020.here hx rfl (hb hby at_100) ?_
        refine Xm1020.caload hx (j := (0 : Int32)) (v := (.int c0)) (by rw [em1020]; exact Ar1128.1) (State.isArrayOf_alike hZ.alike Ar1128.2.1) Ar1128.2.2 hin1128 hat1128 (g := (mkF m 101 #[.val (.int p0), .val (.int p1), .val (.int p2), .val (.int p3), .val (.int p4), .val (.int p5), .val (.ref b951), .val (.ref b997), .val (.int (1 : Int32)), .val (.int (2 : Int32)), .unset] [(.int (0 : Int32)), (.ref b951)])) rfl rfl (hb hby at_101) _ ?_
        show Sp p e below m Tm1020 102 #[.val (.int p0), .val (.int p1), .val (.int p2), .val (.int p3), .val (.int p4), .val (.int p5), .val (.ref b951), .val (.ref b997), .val (.int (1 : Int32)), .val (.int (2 : Int32)), .unset] [(.int c0)] _
        refine XS.iconst Xm1020.here hx rfl (hb hby at_102) ?_
        refine XS.iload Xm1020.here hx rfl (hb hby at_103) rfl ?_
        refine XS.iload Xm1020.here hx rfl (hb hby at_105) rfl ?_
        refine st1129 _ ?_
        exact k
      by_cases hc110_1131 : (own_ok c0 (0 : Int32) (1 : Int32) (2 : Int32)) = (0 : Int32)
      · have pre1132 : ∀ t, Sp p e below m T1129 163 #[.val (.int p0), .val (.int p1), .val (.int p2), .val (.int p3), .val (.int p4), .val (.int p5), .val (.ref b951), .val (.ref b997), .val (.int (1 : Int32)), .val (.int (2 : Int32)), .unset] [(.int (0 : Int32))] t → SG p e below G0 t := by
          intro t k
          refine pre1130 t ?_
          show Sp p e below m T1129 110 #[.val (.int p0), .val (.int p1), .val (.int p2), .val (.int p3), .val (.int p4), .val (.int p5), .val (.ref b951), .val (.ref b997), .val (.int (1 : Int32)), .val (.int (2 : Int32)), .unset] [(.int (own_ok c0 (0 : Int32) (1 : Int32) (2 : Int32)))] _
          refine XS.ifYes X1129.here hx rfl (pc0 := 110) (pc' := 162) rfl (hb hby at_110) rfl ((if0 _ _).trans (teq hc110_1131).1) (by decide) (by decide) ?_
          refine XS.iconst X1129.here hx rfl (hb hby at_162) ?_
          exact k
        exact ⟨T1129, _, (0 : Int32), X1129, e1129, N1129, (by simp [hc110_1131]), pre1132⟩
      · obtain ⟨cl1133, Ar1133, -, S1133, -, H1133, -⟩ := id f1012
        have hin1133 : ¬ ((1 : Int32) < 0 ∨ cl1133.slots.size ≤ ((1 : Int32)).toNatClampNeg) := inb_of S1133 ⟨by decide, by decide⟩
        have hat1133 : cl1133.slots[((1 : Int32)).toNatClampNeg]? = some (.int c1) := H1133.at hin1133 rfl
        obtain ⟨_, _, ⟨T1134, L1134, k1134, n1134⟩, -, X1134, ⟨Lc1134, hQ1134, l1134, y1134, z1134⟩, st1134⟩ := Jvm.LawKit.callS X1129 hx hown (mvT hZ (H 61 _ rfl)) (mvT hZ (H 62 _ rfl)) (mvT hZ (H 3 _ rfl)) (mvT hZ (H 63 _ rfl)) (by decide) (backOf (W := 0) (rm15 l Z a0 hw [] c1 (1 : Int32) (1 : Int32) (2 : Int32)  T1006.heap n0 Zs1006 ) hZ (H 63 _ rfl) (H 3 _ rfl) (by decide) (by decide)) (g := (mkF m 122 #[.val (.int p0), .val (.int p1), .val (.int p2), .val (.int p3), .val (.int p4), .val (.int p5), .val (.ref b951), .val (.ref b997), .val (.int (1 : Int32)), .val (.int (2 : Int32)), .unset] [(.int (2 : Int32)), (.int (1 : Int32)), (.int (1 : Int32)), (.int c1)])) rfl (by rw [hml]; rfl) (argsL := [(.int c1), (.int (1 : Int32)), (.int (1 : Int32)), (.int (2 : Int32))]) (rest := []) (lenOf own_pd327 rfl) rfl (Nat.le_of_eq rfl) (hb hby at_122) (fun _ _ => ⟨rfl, e1129, (by decide : 4 + 0 ≤ _), (by decide : 20 + 0 ≤ _)⟩)
        dsimp only [Pt.U, Pt.locs, Pt.cells, Pt.slots] at X1134 l1134 y1134 z1134 st1134 hQ1134
        rw [l1134, y1134, z1134] at X1134
        obtain ⟨rfl, Nq1134, e1134⟩ := hQ1134
        have N1134 := Fr.app N1129 Nq1134
        have pre1135 : ∀ t, Sp p e below m T1134 125 #[.val (.int p0), .val (.int p1), .val (.int p2), .val (.int p3), .val (.int p4), .val (.int p5), .val (.ref b951), .val (.ref b997), .val (.int (1 : Int32)), .val (.int (2 : Int32)), .unset] [(.int (own_ok c1 (1 : Int32) (1 : Int32) (2 : Int32)))] t → SG p e below G0 t := by
          intro t k
          refine pre1130 t ?_
          show Sp p e below m T1129 110 #[.val (.int p0), .val (.int p1), .val (.int p2), .val (.int p3), .val (.int p4), .val (.int p5), .val (.ref b951), .val (.ref b997), .val (.int (1 : Int32)), .val (.int (2 : Int32)), .unset] [(.int (own_ok c0 (0 : Int32) (1 : Int32) (2 : Int32)))] _
          refine XS.ifNo X1129.here hx rfl (hb hby at_110) rfl ((if0 _ _).trans (feq hc110_1131).1) ?_
          refine XS.aload X1129.here hx rfl (hb hby at_113) rfl rfl ?_
          refine XS.iconst X1129.here hx rfl (hb hby at_115) ?_
          refine X1129.caload hx (j := (1 : Int32)) (v := (.int c1)) (by rw [e1129]; exact Ar1133.1) (State.isArrayOf_alike hZ.alike Ar1133.2.1) Ar1133.2.2 hin1133 hat1133 (g := (mkF m 116 #[.val (.int p0), .val (.int p1), .val (.int p2), .val (.int p3), .val (.int p4), .val (.int p5), .val (.ref b951), .val (.ref b997), .val (.int (1 : Int32)), .val (.int (2 : Int32)), .unset] [(.int (1 : Int32)), (.ref b951)])) rfl rfl (hb hby at_116) _ ?_
          show Sp p e below m T1129 117 #[.val (.int p0), .val (.int p1), .val (.int p2), .val (.int p3), .val (.int p4), .val (.int p5), .val (.ref b951), .val (.ref b997), .val (.int (1 : Int32)), .val (.int (2 : Int32)), .unset] [(.int c1)] _
          refine XS.iconst X1129.here hx rfl (hb hby at_117) ?_
          refine XS.iload X1129.here hx rfl (hb hby at_118) rfl ?_
          refine XS.iload X1129.here hx rfl (hb hby at_120) rfl ?_
          refine st1134 _ ?_
          exact k
        by_cases hc125_1136 : (own_ok c1 (1 : Int32) (1 : Int32) (2 : Int32)) = (0 : Int32)
        · have pre1137 : ∀ t, Sp p e below m T1134 163 #[.val (.int p0), .val (.int p1), .val (.int p2), .val (.int p3), .val (.int p4), .val (.int p5), .val (.ref b951), .val (.ref b997), .val (.int (1 : Int32)), .val (.int (2 : Int32)), .unset] [(.int (0 : Int32))] t → SG p e below G0 t := by
            intro t k
            refine pre1135 t ?_
            show Sp p e below m T1134 125 #[.val (.int p0), .val (.int p1), .val (.int p2), .val (.int p3), .val (.int p4), .val (.int p5), .val (.ref b951), .val (.ref b997), .val (.int (1 : Int32)), .val (.int (2 : Int32)), .unset] [(.int (own_ok c1 (1 : Int32) (1 : Int32) (2 : Int32)))] _
            refine XS.ifYes X1134.here hx rfl (pc0 := 125) (pc' := 162) rfl (hb hby at_125) rfl ((if0 _ _).trans (teq hc125_1136).1) (by decide) (by decide) ?_
            refine XS.iconst X1134.here hx rfl (hb hby at_162) ?_
            exact k
          exact ⟨T1134, _, (0 : Int32), X1134, e1134, N1134, (by simp [hc110_1131, hc125_1136]), pre1137⟩
        · obtain ⟨cl1138, Ar1138, -, S1138, -, H1138, -⟩ := id f1012
          have hin1138 : ¬ ((2 : Int32) < 0 ∨ cl1138.slots.size ≤ ((2 : Int32)).toNatClampNeg) := inb_of S1138 ⟨by decide, by decide⟩
          have hat1138 : cl1138.slots[((2 : Int32)).toNatClampNeg]? = some (.int c2) := H1138.at hin1138 rfl
          obtain ⟨_, _, ⟨T1139, L1139, k1139, n1139⟩, -, X1139, ⟨Lc1139, hQ1139, l1139, y1139, z1139⟩, st1139⟩ := Jvm.LawKit.callS X1134 hx hown (mvT hZ (H 61 _ rfl)) (mvT hZ (H 62 _ rfl)) (mvT hZ (H 3 _ rfl)) (mvT hZ (H 63 _ rfl)) (by decide) (backOf (W := 0) (rm15 l Z a0 hw [] c2 (2 : Int32) (1 : Int32) (2 : Int32)  T1006.heap n0 Zs1006 ) hZ (H 63 _ rfl) (H 3 _ rfl) (by decide) (by decide)) (g := (mkF m 137 #[.val (.int p0), .val (.int p1), .val (.int p2), .val (.int p3), .val (.int p4), .val (.int p5), .val (.ref b951), .val (.ref b997), .val (.int (1 : Int32)), .val (.int (2 : Int32)), .unset] [(.int (2 : Int32)), (.int (1 : Int32)), (.int (2 : Int32)), (.int c2)])) rfl (by rw [hml]; rfl) (argsL := [(.int c2), (.int (2 : Int32)), (.int (1 : Int32)), (.int (2 : Int32))]) (rest := []) (lenOf own_pd327 rfl) rfl (Nat.le_of_eq rfl) (hb hby at_137) (fun _ _ => ⟨rfl, e1134, (by decide : 4 + 0 ≤ _), (by decide : 20 + 0 ≤ _)⟩)
          dsimp only [Pt.U, Pt.locs, Pt.cells, Pt.slots] at X1139 l1139 y1139 z1139 st1139 hQ1139
          rw [l1139, y1139, z1139] at X1139
          obtain ⟨rfl, Nq1139, e1139⟩ := hQ1139
          have N1139 := Fr.app N1134 Nq1139
          have pre1140 : ∀ t, Sp p e below m T1139 140 #[.val (.int p0), .val (.int p1), .val (.int p2), .val (.int p3), .val (.int p4), .val (.int p5), .val (.ref b951), .val (.ref b997), .val (.int (1 : Int32)), .val (.int (2 : Int32)), .unset] [(.int (own_ok c2 (2 : Int32) (1 : Int32) (2 : Int32)))] t → SG p e below G0 t := by
            intro t k
            refine pre1135 t ?_
            show Sp p e below m T1134 125 #[.val (.int p0), .val (.int p1), .val (.int p2), .val (.int p3), .val (.int p4), .val (.int p5), .val (.ref b951), .val (.ref b997), .val (.int (1 : Int32)), .val (.int (2 : Int32)), .unset] [(.int (own_ok c1 (1 : Int32) (1 : Int32) (2 : Int32)))] _
            refine XS.ifNo X1134.here hx rfl (hb hby at_125) rfl ((if0 _ _).trans (feq hc125_1136).1) ?_
            refine XS.aload X1134.here hx rfl (hb hby at_128) rfl rfl ?_
            refine XS.iconst X1134.here hx rfl (hb hby at_130) ?_
            refine X1134.caload hx (j := (2 : Int32)) (v := (.int c2)) (by rw [e1134]; exact Ar1138.1) (State.isArrayOf_alike hZ.alike Ar1138.2.1) Ar1138.2.2 hin1138 hat1138 (g := (mkF m 131 #[.val (.int p0), .val (.int p1), .val (.int p2), .val (.int p3), .val (.int p4), .val (.int p5), .val (.ref b951), .val (.ref b997), .val (.int (1 : Int32)), .val (.int (2 : Int32)), .unset] [(.int (2 : Int32)), (.ref b951)])) rfl rfl (hb hby at_131) _ ?_
            show Sp p e below m T1134 132 #[.val (.int p0), .val (.int p1), .val (.int p2), .val (.int p3), .val (.int p4), .val (.int p5), .val (.ref b951), .val (.ref b997), .val (.int (1 : Int32)), .val (.int (2 : Int32)), .unset] [(.int c2)] _
            refine XS.iconst X1134.here hx rfl (hb hby at_132) ?_
            refine XS.iload X1134.here hx rfl (hb hby at_133) rfl ?_
            refine XS.iload X1134.here hx rfl (hb hby at_135) rfl ?_
            refine st1139 _ ?_
            exact k
          by_cases hc140_1141 : (own_ok c2 (2 : Int32) (1 : Int32) (2 : Int32)) = (0 : Int32)
          · have pre1142 : ∀ t, Sp p e below m T1139 163 #[.val (.int p0), .val (.int p1), .val (.int p2), .val (.int p3), .val (.int p4), .val (.int p5), .val (.ref b951), .val (.ref b997), .val (.int (1 : Int32)), .val (.int (2 : Int32)), .unset] [(.int (0 : Int32))] t → SG p e below G0 t := by
              intro t k
              refine pre1140 t ?_
              show Sp p e below m T1139 140 #[.val (.int p0), .val (.int p1), .val (.int p2), .val (.int p3), .val (.int p4), .val (.int p5), .val (.ref b951), .val (.ref b997), .val (.int (1 : Int32)), .val (.int (2 : Int32)), .unset] [(.int (own_ok c2 (2 : Int32) (1 : Int32) (2 : Int32)))] _
              refine XS.ifYes X1139.here hx rfl (pc0 := 140) (pc' := 162) rfl (hb hby at_140) rfl ((if0 _ _).trans (teq hc140_1141).1) (by decide) (by decide) ?_
              refine XS.iconst X1139.here hx rfl (hb hby at_162) ?_
              exact k
            exact ⟨T1139, _, (0 : Int32), X1139, e1139, N1139, (by simp [hc110_1131, hc125_1136, hc140_1141]), pre1142⟩
          · obtain ⟨cl1143, Ar1143, -, S1143, -, H1143, -⟩ := id f1012
            have hin1143 : ¬ ((3 : Int32) < 0 ∨ cl1143.slots.size ≤ ((3 : Int32)).toNatClampNeg) := inb_of S1143 ⟨by decide, by decide⟩
            have hat1143 : cl1143.slots[((3 : Int32)).toNatClampNeg]? = some (.int c3) := H1143.at hin1143 rfl
            obtain ⟨_, _, ⟨T1144, L1144, k1144, n1144⟩, -, X1144, ⟨Lc1144, hQ1144, l1144, y1144, z1144⟩, st1144⟩ := Jvm.LawKit.callS X1139 hx hown (mvT hZ (H 61 _ rfl)) (mvT hZ (H 62 _ rfl)) (mvT hZ (H 3 _ rfl)) (mvT hZ (H 63 _ rfl)) (by decide) (backOf (W := 0) (rm15 l Z a0 hw [] c3 (3 : Int32) (1 : Int32) (2 : Int32)  T1006.heap n0 Zs1006 ) hZ (H 63 _ rfl) (H 3 _ rfl) (by decide) (by decide)) (g := (mkF m 152 #[.val (.int p0), .val (.int p1), .val (.int p2), .val (.int p3), .val (.int p4), .val (.int p5), .val (.ref b951), .val (.ref b997), .val (.int (1 : Int32)), .val (.int (2 : Int32)), .unset] [(.int (2 : Int32)), (.int (1 : Int32)), (.int (3 : Int32)), (.int c3)])) rfl (by rw [hml]; rfl) (argsL := [(.int c3), (.int (3 : Int32)), (.int (1 : Int32)), (.int (2 : Int32))]) (rest := []) (lenOf own_pd327 rfl) rfl (Nat.le_of_eq rfl) (hb hby at_152) (fun _ _ => ⟨rfl, e1139, (by decide : 4 + 0 ≤ _), (by decide : 20 + 0 ≤ _)⟩)
            dsimp only [Pt.U, Pt.locs, Pt.cells, Pt.slots] at X1144 l1144 y1144 z1144 st1144 hQ1144
            rw [l1144, y1144, z1144] at X1144
            obtain ⟨rfl, Nq1144, e1144⟩ := hQ1144
            have N1144 := Fr.app N1139 Nq1144
            have pre1145 : ∀ t, Sp p e below m T1144 155 #[.val (.int p0), .val (.int p1), .val (.int p2), .val (.int p3), .val (.int p4), .val (.int p5), .val (.ref b951), .val (.ref b997), .val (.int (1 : Int32)), .val (.int (2 : Int32)), .unset] [(.int (own_ok c3 (3 : Int32) (1 : Int32) (2 : Int32)))] t → SG p e below G0 t := by
              intro t k
              refine pre1140 t ?_
              show Sp p e below m T1139 140 #[.val (.int p0), .val (.int p1), .val (.int p2), .val (.int p3), .val (.int p4), .val (.int p5), .val (.ref b951), .val (.ref b997), .val (.int (1 : Int32)), .val (.int (2 : Int32)), .unset] [(.int (own_ok c2 (2 : Int32) (1 : Int32) (2 : Int32)))] _
              refine XS.ifNo X1139.here hx rfl (hb hby at_140) rfl ((if0 _ _).trans (feq hc140_1141).1) ?_
              refine XS.aload X1139.here hx rfl (hb hby at_143) rfl rfl ?_
              refine XS.iconst X1139.here hx rfl (hb hby at_145) ?_
              refine X1139.caload hx (j := (3 : Int32)) (v := (.int c3)) (by rw [e1139]; exact Ar1143.1) (State.isArrayOf_alike hZ.alike Ar1143.2.1) Ar1143.2.2 hin1143 hat1143 (g := (mkF m 146 #[.val (.int p0), .val (.int p1), .val (.int p2), .val (.int p3), .val (.int p4), .val (.int p5), .val (.ref b951), .val (.ref b997), .val (.int (1 : Int32)), .val (.int (2 : Int32)), .unset] [(.int (3 : Int32)), (.ref b951)])) rfl rfl (hb hby at_146) _ ?_
              show Sp p e below m T1139 147 #[.val (.int p0), .val (.int p1), .val (.int p2), .val (.int p3), .val (.int p4), .val (.int p5), .val (.ref b951), .val (.ref b997), .val (.int (1 : Int32)), .val (.int (2 : Int32)), .unset] [(.int c3)] _
              refine XS.iconst X1139.here hx rfl (hb hby at_147) ?_
              refine XS.iload X1139.here hx rfl (hb hby at_148) rfl ?_
              refine XS.iload X1139.here hx rfl (hb hby at_150) rfl ?_
              refine st1144 _ ?_
              exact k
            by_cases hc155_1146 : (own_ok c3 (3 : Int32) (1 : Int32) (2 : Int32)) = (0 : Int32)
            · have pre1147 : ∀ t, Sp p e below m T1144 163 #[.val (.int p0), .val (.int p1), .val (.int p2), .val (.int p3), .val (.int p4), .val (.int p5), .val (.ref b951), .val (.ref b997), .val (.int (1 : Int32)), .val (.int (2 : Int32)), .unset] [(.int (0 : Int32))] t → SG p e below G0 t := by
                intro t k
                refine pre1145 t ?_
                show Sp p e below m T1144 155 #[.val (.int p0), .val (.int p1), .val (.int p2), .val (.int p3), .val (.int p4), .val (.int p5), .val (.ref b951), .val (.ref b997), .val (.int (1 : Int32)), .val (.int (2 : Int32)), .unset] [(.int (own_ok c3 (3 : Int32) (1 : Int32) (2 : Int32)))] _
                refine XS.ifYes X1144.here hx rfl (pc0 := 155) (pc' := 162) rfl (hb hby at_155) rfl ((if0 _ _).trans (teq hc155_1146).1) (by decide) (by decide) ?_
                refine XS.iconst X1144.here hx rfl (hb hby at_162) ?_
                exact k
              exact ⟨T1144, _, (0 : Int32), X1144, e1144, N1144, (by simp [hc110_1131, hc125_1136, hc140_1141, hc155_1146]), pre1147⟩
            · have pre1148 : ∀ t, Sp p e below m T1144 163 #[.val (.int p0), .val (.int p1), .val (.int p2), .val (.int p3), .val (.int p4), .val (.int p5), .val (.ref b951), .val (.ref b997), .val (.int (1 : Int32)), .val (.int (2 : Int32)), .unset] [(.int (1 : Int32))] t → SG p e below G0 t := by
                intro t k
                refine pre1145 t ?_
                show Sp p e below m T1144 155 #[.val (.int p0), .val (.int p1), .val (.int p2), .val (.int p3), .val (.int p4), .val (.int p5), .val (.ref b951), .val (.ref b997), .val (.int (1 : Int32)), .val (.int (2 : Int32)), .unset] [(.int (own_ok c3 (3 : Int32) (1 : Int32) (2 : Int32)))] _
                refine XS.ifNo X1144.here hx rfl (hb hby at_155) rfl ((if0 _ _).trans (feq hc155_1146).1) ?_
                refine XS.iconst X1144.here hx rfl (hb hby at_158) ?_
                refine XS.goto X1144.here hx rfl (pc0 := 159) (pc' := 163) rfl (hb hby at_159) (by decide) (by decide) ?_
                exact k
              exact ⟨T1144, _, (1 : Int32), X1144, e1144, N1144, (by simp [hc110_1131, hc125_1136, hc140_1141, hc155_1146]), pre1148⟩
    obtain ⟨_, _, ⟨T1153, L1153, k1153, n1153⟩, -, X1153, ⟨Lc1153, hQ1153, l1153, y1153, z1153⟩, st1153⟩ := Jvm.LawKit.callS Xm1150 hx hown (mvT hZ (H 34 _ rfl)) (mvT hZ (H 35 _ rfl)) (mvT hZ (H 36 _ rfl)) (mvT hZ (H 37 _ rfl)) (by decide) (backOf (W := 0) (rm8f1t2 l Z a0 hw [] b997 cs vf rrb_1006 rrk_1006 c0 c1 c2 c3 T1006.heap n0 Zs1006 O1006 Scs hcs Ssf hvf Sas Shs Sls p1006_0 p1006_1 p1006_2 hb0 hb1 hb2 hb3) hZ (H 37 _ rfl) (H 36 _ rfl) (by decide) (by decide)) (g := (mkF m 171 #[.val (.int p0), .val (.int p1), .val (.int p2), .val (.int p3), .val (.int p4), .val (.int p5), .val (.ref b951), .val (.ref b997), .val (.int (1 : Int32)), .val (.int (2 : Int32)), .val (.int v163_1149)] [(.int (2 : Int32)), (.int (1 : Int32)), (.ref b997)])) rfl (by rw [hml]; rfl) (argsL := [(.ref b997), (.int (1 : Int32)), (.int (2 : Int32))]) (rest := []) (lenOf own_pd326 rfl) rfl (Nat.le_of_eq rfl) (hb hby at_171) (fun _ _ => ⟨rfl, em1150, (by decide : 4 + 0 ≤ _), (by decide : 20 + 0 ≤ _)⟩)
    dsimp only [Pt.U, Pt.locs, Pt.cells, Pt.slots] at X1153 l1153 y1153 z1153 st1153 hQ1153
    rw [l1153, y1153, z1153] at X1153
    obtain ⟨rfl, Nq1153, e1153⟩ := hQ1153
    have N1153 := Fr.app Nm1150 Nq1153
    obtain ⟨fs, hr, hrun, hended, hW, hsame⟩ := X1153.leave (v := some (.int (1 : Int32))) (fun h => by rw [Bd.returns] at h; cases h)
    refine ⟨_, _, pre1151 _ ?_, hrun, hended, _, _, rfl, ?_, ⟨_, rfl⟩, hW, hsame.mono (by decide) (by decide)⟩
    · show Sp p e below m Tm1150 163 #[.val (.int p0), .val (.int p1), .val (.int p2), .val (.int p3), .val (.int p4), .val (.int p5), .val (.ref b951), .val (.ref b997), .val (.int (1 : Int32)), .val (.int (2 : Int32)), .unset] [(.int v163_1149)] _
      refine XS.istore Xm1150.here hx rfl (hb hby at_163) rfl (l' := #[.val (.int p0), .val (.int p1), .val (.int p2), .val (.int p3), .val (.int p4), .val (.int p5), .val (.ref b951), .val (.ref b997), .val (.int (1 : Int32)), .val (.int (2 : Int32)), .val (.int v163_1149)]) rfl ?_
      refine XS.aload Xm1150.here hx rfl (hb hby at_165) rfl rfl ?_
      refine XS.iload Xm1150.here hx rfl (hb hby at_167) rfl ?_
      refine XS.iload Xm1150.here hx rfl (hb hby at_169) rfl ?_
      refine st1153 _ ?_
      show Sp p e below m T1153 174 #[.val (.int p0), .val (.int p1), .val (.int p2), .val (.int p3), .val (.int p4), .val (.int p5), .val (.ref b951), .val (.ref b997), .val (.int (1 : Int32)), .val (.int (2 : Int32)), .val (.int v163_1149)] [(.int (own_dg c1))] _
      refine XS.iload X1153.here hx rfl (hb hby at_174) rfl ?_
      refine XS.icmpNo X1153.here hx rfl (hb hby at_176) rfl (teq (own_fin12 hv1152 : ((own_dg c1) = v163_1149))).2 ?_
      refine XS.iconst X1153.here hx rfl (hb hby at_179) ?_
      refine XS.goto X1153.here hx rfl (pc0 := 180) (pc' := 184) rfl (hb hby at_180) (by decide) (by decide) ?_
      exact retN X1153 hx (t := .boolean) Bd.returns (by simp) (hb hby at_184) hr
    · show Q0 Z p0 p1 p2 p3 p4 p5 cs vf h0 n0 _ T1153.heap _
      rw [e1153]
      exact ⟨rfl, N1153⟩
  · rw [hf13, ht13] at pre1021
    obtain ⟨Tm1176, lm1176, v163_1175, Xm1176, em1176, Nm1176, hv1178, pre1177⟩ : ∃ (Tm1176 : State) (lm1176 : List Loc) (v163_1175 : Int32), Stand p l e room_1 s m #[(.int p0), (.int p1), (.int p2), (.int p3), (.int p4), (.int p5)] below meth c Tm1176 lm1176 4 20 ∧ Tm1176.heap = T1006.heap ∧ Fr n0 lm1176 ∧ (v163_1175 = if own_ok c0 0 1 3 = 0 then 0 else if own_ok c1 1 1 3 = 0 then 0 else if own_ok c2 2 1 3 = 0 then 0 else if own_ok c3 3 1 3 = 0 then 0 else 1) ∧ ∀ t, Sp p e below m Tm1176 163 #[.val (.int p0), .val (.int p1), .val (.int p2), .val (.int p3), .val (.int p4), .val (.int p5), .val (.ref b951), .val (.ref b997), .val (.int (1 : Int32)), .val (.int (3 : Int32)), .unset] [(.int v163_1175)] t → SG p e below G0 t := by
      obtain ⟨cl1154, Ar1154, -, S1154, -, H1154, -⟩ := id f1012
      have hin1154 : ¬ ((0 : Int32) < 0 ∨ cl1154.slots.size ≤ ((0 : Int32)).toNatClampNeg) := inb_of S1154 ⟨by decide, by decide⟩
      have hat1154 : cl1154.slots[((0 : Int32)).toNatClampNeg]? = some (.int c0) := H1154.at hin1154 rfl
      obtain ⟨_, _, ⟨T1155, L1155, k1155, n1155⟩, -, X1155, ⟨Lc1155, hQ1155, l1155, y1155, z1155⟩, st1155⟩ := Jvm.LawKit.callS Xm1020 hx hown (mvT hZ (H 61 _ rfl)) (mvT hZ (H 62 _ rfl)) (mvT hZ (H 3 _ rfl)) (mvT hZ (H 63 _ rfl)) (by decide) (backOf (W := 0) (rm15 l Z a0 hw [] c0 (0 : Int32) (1 : Int32) (3 : Int32)  T1006.heap n0 Zs1006 ) hZ (H 63 _ rfl) (H 3 _ rfl) (by decide) (by decide)) (g := (mkF m 107 #[.val (.int p0), .val (.int p1), .val (.int p2), .val (.int p3), .val (.int p4), .val (.int p5), .val (.ref b951), .val (.ref b997), .val (.int (1 : Int32)), .val (.int (3 : Int32)), .unset] [(.int (3 : Int32)), (.int (1 : Int32)), (.int (0 : Int32)), (.int c0)])) rfl (by rw [hml]; rfl) (argsL := [(.int c0), (.int (0 : Int32)), (.int (1 : Int32)), (.int (3 : Int32))]) (rest := []) (lenOf own_pd327 rfl) rfl (Nat.le_of_eq rfl) (hb hby at_107) (fun _ _ => ⟨rfl, em1020, (by decide : 4 + 0 ≤ _), (by decide : 20 + 0 ≤ _)⟩)
      dsimp only [Pt.U, Pt.locs, Pt.cells, Pt.slots] at X1155 l1155 y1155 z1155 st1155 hQ1155
      rw [l1155, y1155, z1155] at X1155
      obtain ⟨rfl, Nq1155, e1155⟩ := hQ1155
      have N1155 := Fr.app Nm1020 Nq1155
      have pre1156 : ∀ t, Sp p e below m T1155 110 #[.val (.int p0), .val (.int p1), .val (.int p2), .val (.int p3), .val (.int p4), .val (.int p5), .val (.ref b951), .val (.ref b997), .val (.int (1 : Int32)), .val (.int (3 : Int32)), .unset] [(.int (own_ok c0 (0 : Int32) (1 : Int32) (3 : Int32)))] t → SG p e below G0 t := by
        intro t k
        refine pre1021 t ?_
        show Sp p e below m Tm1020 91 #[.val (.int p0), .val (.int p1), .val (.int p2), .val (.int p3), .val (.int p4), .val (.int p5), .val (.ref b951), .val (.ref b997), .val (.int (1 : Int32)), .val (.int (3 : Int32)), .unset] [] _
        refine XS.iload Xm1020.here hx rfl (hb hby at_91) rfl ?_
        refine XS.iload Xm1020.here hx rfl (hb hby at_93) rfl ?_
        refine XS.icmpNo Xm1020.here hx rfl (hb hby at_95) rfl (tlt (by decide : ((1 : Int32) < (3 : Int32)))).2.1 ?_
        refine XS.aload Xm1020.here hx rfl (hb hby at_98) rfl rfl ?_
        refine XS.iconst Xm1020.here hx rfl (hb hby at_100) ?_
        refine Xm1020.caload hx (j := (0 : Int32)) (v := (.int c0)) (by rw [em1020]; exact Ar1154.1) (State.isArrayOf_alike hZ.alike Ar1154.2.1) Ar1154.2.2 hin1154 hat1154 (g := (mkF m 101 #[.val (.int p0), .val (.int p1), .val (.int p2), .val (.int p3), .val (.int p4), .val (.int p5), .val (.ref b951), .val (.ref b997), .val (.int (1 : Int32)), .val (.int (3 : Int32)), .unset] [(.int (0 : Int32)), (.ref b951)])) rfl rfl (hb hby at_101) _ ?_
        show Sp p e below m Tm1020 102 #[.val (.int p0), .val (.int p1), .val (.int p2), .val (.int p3), .val (.int p4), .val (.int p5), .val (.ref b951), .val (.ref b997), .val (.int (1 : Int32)), .val (.int (3 : Int32)), .unset] [(.int c0)] _
        refine XS.iconst Xm1020.here hx rfl (hb hby at_102) ?_
        refine XS.iload Xm1020.here hx rfl (hb hby at_103) rfl ?_
        refine XS.iload Xm1020.here hx rfl (hb hby at_105) rfl ?_
        refine st1155 _ ?_
        exact k
      by_cases hc110_1157 : (own_ok c0 (0 : Int32) (1 : Int32) (3 : Int32)) = (0 : Int32)
      · have pre1158 : ∀ t, Sp p e below m T1155 163 #[.val (.int p0), .val (.int p1), .val (.int p2), .val (.int p3), .val (.int p4), .val (.int p5), .val (.ref b951), .val (.ref b997), .val (.int (1 : Int32)), .val (.int (3 : Int32)), .unset] [(.int (0 : Int32))] t → SG p e below G0 t := by
          intro t k
          refine pre1156 t ?_
          show Sp p e below m T1155 110 #[.val (.int p0), .val (.int p1), .val (.int p2), .val (.int p3), .val (.int p4), .val (.int p5), .val (.ref b951), .val (.ref b997), .val (.int (1 : Int32)), .val (.int (3 : Int32)), .unset] [(.int (own_ok c0 (0 : Int32) (1 : Int32) (3 : Int32)))] _
          refine XS.ifYes X1155.here hx rfl (pc0 := 110) (pc' := 162) rfl (hb hby at_110) rfl ((if0 _ _).trans (teq hc110_1157).1) (by decide) (by decide) ?_
          refine XS.iconst X1155.here hx rfl (hb hby at_162) ?_
          exact k
        exact ⟨T1155, _, (0 : Int32), X1155, e1155, N1155, (by simp [hc110_1157]), pre1158⟩
      · obtain ⟨cl1159, Ar1159, -, S1159, -, H1159, -⟩ := id f1012
        have hin1159 : ¬ ((1 : Int32) < 0 ∨ cl1159.slots.size ≤ ((1 : Int32)).toNatClampNeg) := inb_of S1159 ⟨by decide, by decide⟩
        have hat1159 : cl1159.slots[((1 : Int32)).toNatClampNeg]? = some (.int c1) := H1159.at hin1159 rfl
        obtain ⟨_, _, ⟨T1160, L1160, k1160, n1160⟩, -, X1160, ⟨Lc1160, hQ1160, l1160, y1160, z1160⟩, st1160⟩ := Jvm.LawKit.callS X1155 hx hown (mvT hZ (H 61 _ rfl)) (mvT hZ (H 62 _ rfl)) (mvT hZ (H 3 _ rfl)) (mvT hZ (H 63 _ rfl)) (by decide) (backOf (W := 0) (rm15 l Z a0 hw [] c1 (1 : Int32) (1 : Int32) (3 : Int32)  T1006.heap n0 Zs1006 ) hZ (H 63 _ rfl) (H 3 _ rfl) (by decide) (by decide)) (g := (mkF m 122 #[.val (.int p0), .val (.int p1), .val (.int p2), .val (.int p3), .val (.int p4), .val (.int p5), .val (.ref b951), .val (.ref b997), .val (.int (1 : Int32)), .val (.int (3 : Int32)), .unset] [(.int (3 : Int32)), (.int (1 : Int32)), (.int (1 : Int32)), (.int c1)])) rfl (by rw [hml]; rfl) (argsL := [(.int c1), (.int (1 : Int32)), (.int (1 : Int32)), (.int (3 : Int32))]) (rest := []) (lenOf own_pd327 rfl) rfl (Nat.le_of_eq rfl) (hb hby at_122) (fun _ _ => ⟨rfl, e1155, (by decide : 4 + 0 ≤ _), (by decide : 20 + 0 ≤ _)⟩)
        dsimp only [Pt.U, Pt.locs, Pt.cells, Pt.slots] at X1160 l1160 y1160 z1160 st1160 hQ1160
        rw [l1160, y1160, z1160] at X1160
        obtain ⟨rfl, Nq1160, e1160⟩ := hQ1160
        have N1160 := Fr.app N1155 Nq1160
        have pre1161 : ∀ t, Sp p e below m T1160 125 #[.val (.int p0), .val (.int p1), .val (.int p2), .val (.int p3), .val (.int p4), .val (.int p5), .val (.ref b951), .val (.ref b997), .val (.int (1 : Int32)), .val (.int (3 : Int32)), .unset] [(.int (own_ok c1 (1 : Int32) (1 : Int32) (3 : Int32)))] t → SG p e below G0 t := by
          intro t k
          refine pre1156 t ?_
          show Sp p e below m T1155 110 #[.val (.int p0), .val (.int p1), .val (.int p2), .val (.int p3), .val (.int p4), .val (.int p5), .val (.ref b951), .val (.ref b997), .val (.int (1 : Int32)), .val (.int (3 : Int32)), .unset] [(.int (own_ok c0 (0 : Int32) (1 : Int32) (3 : Int32)))] _
          refine XS.ifNo X1155.here hx rfl (hb hby at_110) rfl ((if0 _ _).trans (feq hc110_1157).1) ?_
          refine XS.aload X1155.here hx rfl (hb hby at_113) rfl rfl ?_
          refine XS.iconst X1155.here hx rfl (hb hby at_115) ?_
          refine X1155.caload hx (j := (1 : Int32)) (v := (.int c1)) (by rw [e1155]; exact Ar1159.1) (State.isArrayOf_alike hZ.alike Ar1159.2.1) Ar1159.2.2 hin1159 hat1159 (g := (mkF m 116 #[.val (.int p0), .val (.int p1), .val (.int p2), .val (.int p3), .val (.int p4), .val (.int p5), .val (.ref b951), .val (.ref b997), .val (.int (1 : Int32)), .val (.int (3 : Int32)), .unset] [(.int (1 : Int32)), (.ref b951)])) rfl rfl (hb hby at_116) _ ?_
          show Sp p e below m T1155 117 #[.val (.int p0), .val (.int p1), .val (.int p2), .val (.int p3), .val (.int p4), .val (.int p5), .val (.ref b951), .val (.ref b997), .val (.int (1 : Int32)), .val (.int (3 : Int32)), .unset] [(.int c1)] _
          refine XS.iconst X1155.here hx rfl (hb hby at_117) ?_
          refine XS.iload X1155.here hx rfl (hb hby at_118) rfl ?_
          refine XS.iload X1155.here hx rfl (hb hby at_120) rfl ?_
          refine st1160 _ ?_
          exact k
        by_cases hc125_1162 : (own_ok c1 (1 : Int32) (1 : Int32) (3 : Int32)) = (0 : Int32)
        · have pre1163 : ∀ t, Sp p e below m T1160 163 #[.val (.int p0), .val (.int p1), .val (.int p2), .val (.int p3), .val (.int p4), .val (.int p5), .val (.ref b951), .val (.ref b997), .val (.int (1 : Int32)), .val (.int (3 : Int32)), .unset] [(.int (0 : Int32))] t → SG p e below G0 t := by
            intro t k
            refine pre1161 t ?_
            show Sp p e below m T1160 125 #[.val (.int p0), .val (.int p1), .val (.int p2), .val (.int p3), .val (.int p4), .val (.int p5), .val (.ref b951), .val (.ref b997), .val (.int (1 : Int32)), .val (.int (3 : Int32)), .unset] [(.int (own_ok c1 (1 : Int32) (1 : Int32) (3 : Int32)))] _
            refine XS.ifYes X1160.here hx rfl (pc0 := 125) (pc' := 162) rfl (hb hby at_125) rfl ((if0 _ _).trans (teq hc125_1162).1) (by decide) (by decide) ?_
            refine XS.iconst X1160.here hx rfl (hb hby at_162) ?_
            exact k
          exact ⟨T1160, _, (0 : Int32), X1160, e1160, N1160, (by simp [hc110_1157, hc125_1162]), pre1163⟩
        · obtain ⟨cl1164, Ar1164, -, S1164, -, H1164, -⟩ := id f1012
          have hin1164 : ¬ ((2 : Int32) < 0 ∨ cl1164.slots.size ≤ ((2 : Int32)).toNatClampNeg) := inb_of S1164 ⟨by decide, by decide⟩
          have hat1164 : cl1164.slots[((2 : Int32)).toNatClampNeg]? = some (.int c2) := H1164.at hin1164 rfl
          obtain ⟨_, _, ⟨T1165, L1165, k1165, n1165⟩, -, X1165, ⟨Lc1165, hQ1165, l1165, y1165, z1165⟩, st1165⟩ := Jvm.LawKit.callS X1160 hx hown (mvT hZ (H 61 _ rfl)) (mvT hZ (H 62 _ rfl)) (mvT hZ (H 3 _ rfl)) (mvT hZ (H 63 _ rfl)) (by decide) (backOf (W := 0) (rm15 l Z a0 hw [] c2 (2 : Int32) (1 : Int32) (3 : Int32)  T1006.heap n0 Zs1006 ) hZ (H 63 _ rfl) (H 3 _ rfl) (by decide) (by decide)) (g := (mkF m 137 #[.val (.int p0), .val (.int p1), .val (.int p2), .val (.int p3), .val (.int p4), .val (.int p5), .val (.ref b951), .val (.ref b997), .val (.int (1 : Int32)), .val (.int (3 : Int32)), .unset] [(.int (3 : Int32)), (.int (1 : Int32)), (.int (2 : Int32)), (.int c2)])) rfl (by rw [hml]; rfl) (argsL := [(.int c2), (.int (2 : Int32)), (.int (1 : Int32)), (.int (3 : Int32))]) (rest := []) (lenOf own_pd327 rfl) rfl (Nat.le_of_eq rfl) (hb hby at_137) (fun _ _ => ⟨rfl, e1160, (by decide : 4 + 0 ≤ _), (by decide : 20 + 0 ≤ _)⟩)
          dsimp only [Pt.U, Pt.locs, Pt.cells, Pt.slots] at X1165 l1165 y1165 z1165 st1165 hQ1165
          rw [l1165, y1165, z1165] at X1165
          obtain ⟨rfl, Nq1165, e1165⟩ := hQ1165
          have N1165 := Fr.app N1160 Nq1165
          have pre1166 : ∀ t, Sp p e below m T1165 140 #[.val (.int p0), .val (.int p1), .val (.int p2), .val (.int p3), .val (.int p4), .val (.int p5), .val (.ref b951), .val (.ref b997), .val (.int (1 : Int32)), .val (.int (3 : Int32)), .unset] [(.int (own_ok c2 (2 : Int32) (1 : Int32) (3 : Int32)))] t → SG p e below G0 t := by
            intro t k
            refine pre1161 t ?_
            show Sp p e below m T1160 125 #[.val (.int p0), .val (.int p1), .val (.int p2), .val (.int p3), .val (.int p4), .val (.int p5), .val (.ref b951), .val (.ref b997), .val (.int (1 : Int32)), .val (.int (3 : Int32)), .unset] [(.int (own_ok c1 (1 : Int32) (1 : Int32) (3 : Int32)))] _
            refine XS.ifNo X1160.here hx rfl (hb hby at_125) rfl ((if0 _ _).trans (feq hc125_1162).1) ?_
            refine XS.aload X1160.here hx rfl (hb hby at_128) rfl rfl ?_
            refine XS.iconst X1160.here hx rfl (hb hby at_130) ?_
            refine X1160.caload hx (j := (2 : Int32)) (v := (.int c2)) (by rw [e1160]; exact Ar1164.1) (State.isArrayOf_alike hZ.alike Ar1164.2.1) Ar1164.2.2 hin1164 hat1164 (g := (mkF m 131 #[.val (.int p0), .val (.int p1), .val (.int p2), .val (.int p3), .val (.int p4), .val (.int p5), .val (.ref b951), .val (.ref b997), .val (.int (1 : Int32)), .val (.int (3 : Int32)), .unset] [(.int (2 : Int32)), (.ref b951)])) rfl rfl (hb hby at_131) _ ?_
            show Sp p e below m T1160 132 #[.val (.int p0), .val (.int p1), .val (.int p2), .val (.int p3), .val (.int p4), .val (.int p5), .val (.ref b951), .val (.ref b997), .val (.int (1 : Int32)), .val (.int (3 : Int32)), .unset] [(.int c2)] _
            refine XS.iconst X1160.here hx rfl (hb hby at_132) ?_
            refine XS.iload X1160.here hx rfl (hb hby at_133) rfl ?_
            refine XS.iload X1160.here hx rfl (hb hby at_135) rfl ?_
            refine st1165 _ ?_
            exact k
          by_cases hc140_1167 : (own_ok c2 (2 : Int32) (1 : Int32) (3 : Int32)) = (0 : Int32)
          · have pre1168 : ∀ t, Sp p e below m T1165 163 #[.val (.int p0), .val (.int p1), .val (.int p2), .val (.int p3), .val (.int p4), .val (.int p5), .val (.ref b951), .val (.ref b997), .val (.int (1 : Int32)), .val (.int (3 : Int32)), .unset] [(.int (0 : Int32))] t → SG p e below G0 t := by
              intro t k
              refine pre1166 t ?_
              show Sp p e below m T1165 140 #[.val (.int p0), .val (.int p1), .val (.int p2), .val (.int p3), .val (.int p4), .val (.int p5), .val (.ref b951), .val (.ref b997), .val (.int (1 : Int32)), .val (.int (3 : Int32)), .unset] [(.int (own_ok c2 (2 : Int32) (1 : Int32) (3 : Int32)))] _
              refine XS.ifYes X1165.here hx rfl (pc0 := 140) (pc' := 162) rfl (hb hby at_140) rfl ((if0 _ _).trans (teq hc140_1167).1) (by decide) (by decide) ?_
              refine XS.iconst X1165.here hx rfl (hb hby at_162) ?_
              exact k
            exact ⟨T1165, _, (0 : Int32), X1165, e1165, N1165, (by simp [hc110_1157, hc125_1162, hc140_1167]), pre1168⟩
          · obtain ⟨cl1169, Ar1169, -, S1169, -, H1169, -⟩ := id f1012
            have hin1169 : ¬ ((3 : Int32) < 0 ∨ cl1169.slots.size ≤ ((3 : Int32)).toNatClampNeg) := inb_of S1169 ⟨by decide, by decide⟩
            have hat1169 : cl1169.slots[((3 : Int32)).toNatClampNeg]? = some (.int c3) := H1169.at hin1169 rfl
            obtain ⟨_, _, ⟨T1170, L1170, k1170, n1170⟩, -, X1170, ⟨Lc1170, hQ1170, l1170, y1170, z1170⟩, st1170⟩ := Jvm.LawKit.callS X1165 hx hown (mvT hZ (H 61 _ rfl)) (mvT hZ (H 62 _ rfl)) (mvT hZ (H 3 _ rfl)) (mvT hZ (H 63 _ rfl)) (by decide) (backOf (W := 0) (rm15 l Z a0 hw [] c3 (3 : Int32) (1 : Int32) (3 : Int32)  T1006.heap n0 Zs1006 ) hZ (H 63 _ rfl) (H 3 _ rfl) (by decide) (by decide)) (g := (mkF m 152 #[.val (.int p0), .val (.int p1), .val (.int p2), .val (.int p3), .val (.int p4), .val (.int p5), .val (.ref b951), .val (.ref b997), .val (.int (1 : Int32)), .val (.int (3 : Int32)), .unset] [(.int (3 : Int32)), (.int (1 : Int32)), (.int (3 : Int32)), (.int c3)])) rfl (by rw [hml]; rfl) (argsL := [(.int c3), (.int (3 : Int32)), (.int (1 : Int32)), (.int (3 : Int32))]) (rest := []) (lenOf own_pd327 rfl) rfl (Nat.le_of_eq rfl) (hb hby at_152) (fun _ _ => ⟨rfl, e1165, (by decide : 4 + 0 ≤ _), (by decide : 20 + 0 ≤ _)⟩)
            dsimp only [Pt.U, Pt.locs, Pt.cells, Pt.slots] at X1170 l1170 y1170 z1170 st1170 hQ1170
            rw [l1170, y1170, z1170] at X1170
            obtain ⟨rfl, Nq1170, e1170⟩ := hQ1170
            have N1170 := Fr.app N1165 Nq1170
            have pre1171 : ∀ t, Sp p e below m T1170 155 #[.val (.int p0), .val (.int p1), .val (.int p2), .val (.int p3), .val (.int p4), .val (.int p5), .val (.ref b951), .val (.ref b997), .val (.int (1 : Int32)), .val (.int (3 : Int32)), .unset] [(.int (own_ok c3 (3 : Int32) (1 : Int32) (3 : Int32)))] t → SG p e below G0 t := by
              intro t k
              refine pre1166 t ?_
              show Sp p e below m T1165 140 #[.val (.int p0), .val (.int p1), .val (.int p2), .val (.int p3), .val (.int p4), .val (.int p5), .val (.ref b951), .val (.ref b997), .val (.int (1 : Int32)), .val (.int (3 : Int32)), .unset] [(.int (own_ok c2 (2 : Int32) (1 : Int32) (3 : Int32)))] _
              refine XS.ifNo X1165.here hx rfl (hb hby at_140) rfl ((if0 _ _).trans (feq hc140_1167).1) ?_
              refine XS.aload X1165.here hx rfl (hb hby at_143) rfl rfl ?_
              refine XS.iconst X1165.here hx rfl (hb hby at_145) ?_
              refine X1165.caload hx (j := (3 : Int32)) (v := (.int c3)) (by rw [e1165]; exact Ar1169.1) (State.isArrayOf_alike hZ.alike Ar1169.2.1) Ar1169.2.2 hin1169 hat1169 (g := (mkF m 146 #[.val (.int p0), .val (.int p1), .val (.int p2), .val (.int p3), .val (.int p4), .val (.int p5), .val (.ref b951), .val (.ref b997), .val (.int (1 : Int32)), .val (.int (3 : Int32)), .unset] [(.int (3 : Int32)), (.ref b951)])) rfl rfl (hb hby at_146) _ ?_
              show Sp p e below m T1165 147 #[.val (.int p0), .val (.int p1), .val (.int p2), .val (.int p3), .val (.int p4), .val (.int p5), .val (.ref b951), .val (.ref b997), .val (.int (1 : Int32)), .val (.int (3 : Int32)), .unset] [(.int c3)] _
              refine XS.iconst X1165.here hx rfl (hb hby at_147) ?_
              refine XS.iload X1165.here hx rfl (hb hby at_148) rfl ?_
              refine XS.iload X1165.here hx rfl (hb hby at_150) rfl ?_
              refine st1170 _ ?_
              exact k
            by_cases hc155_1172 : (own_ok c3 (3 : Int32) (1 : Int32) (3 : Int32)) = (0 : Int32)
            · have pre1173 : ∀ t, Sp p e below m T1170 163 #[.val (.int p0), .val (.int p1), .val (.int p2), .val (.int p3), .val (.int p4), .val (.int p5), .val (.ref b951), .val (.ref b997), .val (.int (1 : Int32)), .val (.int (3 : Int32)), .unset] [(.int (0 : Int32))] t → SG p e below G0 t := by
                intro t k
                refine pre1171 t ?_
                show Sp p e below m T1170 155 #[.val (.int p0), .val (.int p1), .val (.int p2), .val (.int p3), .val (.int p4), .val (.int p5), .val (.ref b951), .val (.ref b997), .val (.int (1 : Int32)), .val (.int (3 : Int32)), .unset] [(.int (own_ok c3 (3 : Int32) (1 : Int32) (3 : Int32)))] _
                refine XS.ifYes X1170.here hx rfl (pc0 := 155) (pc' := 162) rfl (hb hby at_155) rfl ((if0 _ _).trans (teq hc155_1172).1) (by decide) (by decide) ?_
                refine XS.iconst X1170.here hx rfl (hb hby at_162) ?_
                exact k
              exact ⟨T1170, _, (0 : Int32), X1170, e1170, N1170, (by simp [hc110_1157, hc125_1162, hc140_1167, hc155_1172]), pre1173⟩
            · have pre1174 : ∀ t, Sp p e below m T1170 163 #[.val (.int p0), .val (.int p1), .val (.int p2), .val (.int p3), .val (.int p4), .val (.int p5), .val (.ref b951), .val (.ref b997), .val (.int (1 : Int32)), .val (.int (3 : Int32)), .unset] [(.int (1 : Int32))] t → SG p e below G0 t := by
                intro t k
                refine pre1171 t ?_
                show Sp p e below m T1170 155 #[.val (.int p0), .val (.int p1), .val (.int p2), .val (.int p3), .val (.int p4), .val (.int p5), .val (.ref b951), .val (.ref b997), .val (.int (1 : Int32)), .val (.int (3 : Int32)), .unset] [(.int (own_ok c3 (3 : Int32) (1 : Int32) (3 : Int32)))] _
                refine XS.ifNo X1170.here hx rfl (hb hby at_155) rfl ((if0 _ _).trans (feq hc155_1172).1) ?_
                refine XS.iconst X1170.here hx rfl (hb hby at_158) ?_
                refine XS.goto X1170.here hx rfl (pc0 := 159) (pc' := 163) rfl (hb hby at_159) (by decide) (by decide) ?_
                exact k
              exact ⟨T1170, _, (1 : Int32), X1170, e1170, N1170, (by simp [hc110_1157, hc125_1162, hc140_1167, hc155_1172]), pre1174⟩
    obtain ⟨_, _, ⟨T1179, L1179, k1179, n1179⟩, -, X1179, ⟨Lc1179, hQ1179, l1179, y1179, z1179⟩, st1179⟩ := Jvm.LawKit.callS Xm1176 hx hown (mvT hZ (H 34 _ rfl)) (mvT hZ (H 35 _ rfl)) (mvT hZ (H 36 _ rfl)) (mvT hZ (H 37 _ rfl)) (by decide) (backOf (W := 0) (rm8f1t3 l Z a0 hw [] b997 cs vf rrb_1006 rrk_1006 c0 c1 c2 c3 T1006.heap n0 Zs1006 O1006 Scs hcs Ssf hvf Sas Shs Sls p1006_0 p1006_1 p1006_2 hb0 hb1 hb2 hb3) hZ (H 37 _ rfl) (H 36 _ rfl) (by decide) (by decide)) (g := (mkF m 171 #[.val (.int p0), .val (.int p1), .val (.int p2), .val (.int p3), .val (.int p4), .val (.int p5), .val (.ref b951), .val (.ref b997), .val (.int (1 : Int32)), .val (.int (3 : Int32)), .val (.int v163_1175)] [(.int (3 : Int32)), (.int (1 : Int32)), (.ref b997)])) rfl (by rw [hml]; rfl) (argsL := [(.ref b997), (.int (1 : Int32)), (.int (3 : Int32))]) (rest := []) (lenOf own_pd326 rfl) rfl (Nat.le_of_eq rfl) (hb hby at_171) (fun _ _ => ⟨rfl, em1176, (by decide : 4 + 0 ≤ _), (by decide : 20 + 0 ≤ _)⟩)
    dsimp only [Pt.U, Pt.locs, Pt.cells, Pt.slots] at X1179 l1179 y1179 z1179 st1179 hQ1179
    rw [l1179, y1179, z1179] at X1179
    obtain ⟨rfl, Nq1179, e1179⟩ := hQ1179
    have N1179 := Fr.app Nm1176 Nq1179
    obtain ⟨fs, hr, hrun, hended, hW, hsame⟩ := X1179.leave (v := some (.int (1 : Int32))) (fun h => by rw [Bd.returns] at h; cases h)
    refine ⟨_, _, pre1177 _ ?_, hrun, hended, _, _, rfl, ?_, ⟨_, rfl⟩, hW, hsame.mono (by decide) (by decide)⟩
    · show Sp p e below m Tm1176 163 #[.val (.int p0), .val (.int p1), .val (.int p2), .val (.int p3), .val (.int p4), .val (.int p5), .val (.ref b951), .val (.ref b997), .val (.int (1 : Int32)), .val (.int (3 : Int32)), .unset] [(.int v163_1175)] _
      refine XS.istore Xm1176.here hx rfl (hb hby at_163) rfl (l' := #[.val (.int p0), .val (.int p1), .val (.int p2), .val (.int p3), .val (.int p4), .val (.int p5), .val (.ref b951), .val (.ref b997), .val (.int (1 : Int32)), .val (.int (3 : Int32)), .val (.int v163_1175)]) rfl ?_
      refine XS.aload Xm1176.here hx rfl (hb hby at_165) rfl rfl ?_
      refine XS.iload Xm1176.here hx rfl (hb hby at_167) rfl ?_
      refine XS.iload Xm1176.here hx rfl (hb hby at_169) rfl ?_
      refine st1179 _ ?_
      show Sp p e below m T1179 174 #[.val (.int p0), .val (.int p1), .val (.int p2), .val (.int p3), .val (.int p4), .val (.int p5), .val (.ref b951), .val (.ref b997), .val (.int (1 : Int32)), .val (.int (3 : Int32)), .val (.int v163_1175)] [(.int (if own_dg c1 = 0 then (0 : Int32) else (own_dg c2)))] _
      refine XS.iload X1179.here hx rfl (hb hby at_174) rfl ?_
      refine XS.icmpNo X1179.here hx rfl (hb hby at_176) rfl (teq (own_fin13 hv1178 : ((if own_dg c1 = 0 then (0 : Int32) else (own_dg c2)) = v163_1175))).2 ?_
      refine XS.iconst X1179.here hx rfl (hb hby at_179) ?_
      refine XS.goto X1179.here hx rfl (pc0 := 180) (pc' := 184) rfl (hb hby at_180) (by decide) (by decide) ?_
      exact retN X1179 hx (t := .boolean) Bd.returns (by simp) (hb hby at_184) hr
    · show Q0 Z p0 p1 p2 p3 p4 p5 cs vf h0 n0 _ T1179.heap _
      rw [e1179]
      exact ⟨rfl, N1179⟩
  · rw [hf14, ht14] at pre1021
    obtain ⟨Tm1202, lm1202, v163_1201, Xm1202, em1202, Nm1202, hv1204, pre1203⟩ : ∃ (Tm1202 : State) (lm1202 : List Loc) (v163_1201 : Int32), Stand p l e room_1 s m #[(.int p0), (.int p1), (.int p2), (.int p3), (.int p4), (.int p5)] below meth c Tm1202 lm1202 4 20 ∧ Tm1202.heap = T1006.heap ∧ Fr n0 lm1202 ∧ (v163_1201 = if own_ok c0 0 1 4 = 0 then 0 else if own_ok c1 1 1 4 = 0 then 0 else if own_ok c2 2 1 4 = 0 then 0 else if own_ok c3 3 1 4 = 0 then 0 else 1) ∧ ∀ t, Sp p e below m Tm1202 163 #[.val (.int p0), .val (.int p1), .val (.int p2), .val (.int p3), .val (.int p4), .val (.int p5), .val (.ref b951), .val (.ref b997), .val (.int (1 : Int32)), .val (.int (4 : Int32)), .unset] [(.int v163_1201)] t → SG p e below G0 t := by
      obtain ⟨cl1180, Ar1180, -, S1180, -, H1180, -⟩ := id f1012
      have hin1180 : ¬ ((0 : Int32) < 0 ∨ cl1180.slots.size ≤ ((0 : Int32)).toNatClampNeg) := inb_of S1180 ⟨by decide, by decide⟩
      have hat1180 : cl1180.slots[((0 : Int32)).toNatClampNeg]? = some (.int c0) := H1180.at hin1180 rfl
      obtain ⟨_, _, ⟨T1181, L1181, k1181, n1181⟩, -, X1181, ⟨Lc1181, hQ1181, l1181, y1181, z1181⟩, st1181⟩ := Jvm.LawKit.callS Xm1020 hx hown (mvT hZ (H 61 _ rfl)) (mvT hZ (H 62 _ rfl)) (mvT hZ (H 3 _ rfl)) (mvT hZ (H 63 _ rfl)) (by decide) (backOf (W := 0) (rm15 l Z a0 hw [] c0 (0 : Int32) (1 : Int32) (4 : Int32)  T1006.heap n0 Zs1006 ) hZ (H 63 _ rfl) (H 3 _ rfl) (by decide) (by decide)) (g := (mkF m 107 #[.val (.int p0), .val (.int p1), .val (.int p2), .val (.int p3), .val (.int p4), .val (.int p5), .val (.ref b951), .val (.ref b997), .val (.int (1 : Int32)), .val (.int (4 : Int32)), .unset] [(.int (4 : Int32)), (.int (1 : Int32)), (.int (0 : Int32)), (.int c0)])) rfl (by rw [hml]; rfl) (argsL := [(.int c0), (.int (0 : Int32)), (.int (1 : Int32)), (.int (4 : Int32))]) (rest := []) (lenOf own_pd327 rfl) rfl (Nat.le_of_eq rfl) (hb hby at_107) (fun _ _ => ⟨rfl, em1020, (by decide : 4 + 0 ≤ _), (by decide : 20 + 0 ≤ _)⟩)
      dsimp only [Pt.U, Pt.locs, Pt.cells, Pt.slots] at X1181 l1181 y1181 z1181 st1181 hQ1181
      rw [l1181, y1181, z1181] at X1181
      obtain ⟨rfl, Nq1181, e1181⟩ := hQ1181
      have N1181 := Fr.app Nm1020 Nq1181
      have pre1182 : ∀ t, Sp p e below m T1181 110 #[.val (.int p0), .val (.int p1), .val (.int p2), .val (.int p3), .val (.int p4), .val (.int p5), .val (.ref b951), .val (.ref b997), .val (.int (1 : Int32)), .val (.int (4 : Int32)), .unset] [(.int (own_ok c0 (0 : Int32) (1 : Int32) (4 : Int32)))] t → SG p e below G0 t := by
        intro t k
        refine pre1021 t ?_
        show Sp p e below m Tm1020 91 #[.val (.int p0), .val (.int p1), .val (.int p2), .val (.int p3), .val (.int p4), .val (.int p5), .val (.ref b951), .val (.ref b997), .val (.int (1 : Int32)), .val (.int (4 : Int32)), .unset] [] _
        refine XS.iload Xm1020.here hx rfl (hb hby at_91) rfl ?_
        refine XS.iload Xm1020.here hx rfl (hb hby at_93) rfl ?_
        refine XS.icmpNo Xm1020.here hx rfl (hb hby at_95) rfl (tlt (by decide : ((1 : Int32) < (4 : Int32)))).2.1 ?_
        refine XS.aload Xm1020.here hx rfl (hb hby at_98) rfl rfl ?_
        refine XS.iconst Xm1020.here hx rfl (hb hby at_100) ?_
        refine Xm1020.caload hx (j := (0 : Int32)) (v := (.int c0)) (by rw [em1020]; exact Ar1180.1) (State.isArrayOf_alike hZ.alike Ar1180.2.1) Ar1180.2.2 hin1180 hat1180 (g := (mkF m 101 #[.val (.int p0), .val (.int p1), .val (.int p2), .val (.int p3), .val (.int p4), .val (.int p5), .val (.ref b951), .val (.ref b997), .val (.int (1 : Int32)), .val (.int (4 : Int32)), .unset] [(.int (0 : Int32)), (.ref b951)])) rfl rfl (hb hby at_101) _ ?_
        show Sp p e below m Tm1020 102 #[.val (.int p0), .val (.int p1), .val (.int p2), .val (.int p3), .val (.int p4), .val (.int p5), .val (.ref b951), .val (.ref b997), .val (.int (1 : Int32)), .val (.int (4 : Int32)), .unset] [(.int c0)] _
        refine XS.iconst Xm1020.here hx rfl (hb hby at_102) ?_
        refine XS.iload Xm1020.here hx rfl (hb hby at_103) rfl ?_
        refine XS.iload Xm1020.here hx rfl (hb hby at_105) rfl ?_
        refine st1181 _ ?_
        exact k
      by_cases hc110_1183 : (own_ok c0 (0 : Int32) (1 : Int32) (4 : Int32)) = (0 : Int32)
      · have pre1184 : ∀ t, Sp p e below m T1181 163 #[.val (.int p0), .val (.int p1), .val (.int p2), .val (.int p3), .val (.int p4), .val (.int p5), .val (.ref b951), .val (.ref b997), .val (.int (1 : Int32)), .val (.int (4 : Int32)), .unset] [(.int (0 : Int32))] t → SG p e below G0 t := by
          intro t k
          refine pre1182 t ?_
          show Sp p e below m T1181 110 #[.val (.int p0), .val (.int p1), .val (.int p2), .val (.int p3), .val (.int p4), .val (.int p5), .val (.ref b951), .val (.ref b997), .val (.int (1 : Int32)), .val (.int (4 : Int32)), .unset] [(.int (own_ok c0 (0 : Int32) (1 : Int32) (4 : Int32)))] _
          refine XS.ifYes X1181.here hx rfl (pc0 := 110) (pc' := 162) rfl (hb hby at_110) rfl ((if0 _ _).trans (teq hc110_1183).1) (by decide) (by decide) ?_
          refine XS.iconst X1181.here hx rfl (hb hby at_162) ?_
          exact k
        exact ⟨T1181, _, (0 : Int32), X1181, e1181, N1181, (by simp [hc110_1183]), pre1184⟩
      · obtain ⟨cl1185, Ar1185, -, S1185, -, H1185, -⟩ := id f1012
        have hin1185 : ¬ ((1 : Int32) < 0 ∨ cl1185.slots.size ≤ ((1 : Int32)).toNatClampNeg) := inb_of S1185 ⟨by decide, by decide⟩
        have hat1185 : cl1185.slots[((1 : Int32)).toNatClampNeg]? = some (.int c1) := H1185.at hin1185 rfl
        obtain ⟨_, _, ⟨T1186, L1186, k1186, n1186⟩, -, X1186, ⟨Lc1186, hQ1186, l1186, y1186, z1186⟩, st1186⟩ := Jvm.LawKit.callS X1181 hx hown (mvT hZ (H 61 _ rfl)) (mvT hZ (H 62 _ rfl)) (mvT hZ (H 3 _ rfl)) (mvT hZ (H 63 _ rfl)) (by decide) (backOf (W := 0) (rm15 l Z a0 hw [] c1 (1 : Int32) (1 : Int32) (4 : Int32)  T1006.heap n0 Zs1006 ) hZ (H 63 _ rfl) (H 3 _ rfl) (by decide) (by decide)) (g := (mkF m 122 #[.val (.int p0), .val (.int p1), .val (.int p2), .val (.int p3), .val (.int p4), .val (.int p5), .val (.ref b951), .val (.ref b997), .val (.int (1 : Int32)), .val (.int (4 : Int32)), .unset] [(.int (4 : Int32)), (.int (1 : Int32)), (.int (1 : Int32)), (.int c1)])) rfl (by rw [hml]; rfl) (argsL := [(.int c1), (.int (1 : Int32)), (.int (1 : Int32)), (.int (4 : Int32))]) (rest := []) (lenOf own_pd327 rfl) rfl (Nat.le_of_eq rfl) (hb hby at_122) (fun _ _ => ⟨rfl, e1181, (by decide : 4 + 0 ≤ _), (by decide : 20 + 0 ≤ _)⟩)
        dsimp only [Pt.U, Pt.locs, Pt.cells, Pt.slots] at X1186 l1186 y1186 z1186 st1186 hQ1186
        rw [l1186, y1186, z1186] at X1186
        obtain ⟨rfl, Nq1186, e1186⟩ := hQ1186
        have N1186 := Fr.app N1181 Nq1186
        have pre1187 : ∀ t, Sp p e below m T1186 125 #[.val (.int p0), .val (.int p1), .val (.int p2), .val (.int p3), .val (.int p4), .val (.int p5), .val (.ref b951), .val (.ref b997), .val (.int (1 : Int32)), .val (.int (4 : Int32)), .unset] [(.int (own_ok c1 (1 : Int32) (1 : Int32) (4 : Int32)))] t → SG p e below G0 t := by
          intro t k
          refine pre1182 t ?_
          show Sp p e below m T1181 110 #[.val (.int p0), .val (.int p1), .val (.int p2), .val (.int p3), .val (.int p4), .val (.int p5), .val (.ref b951), .val (.ref b997), .val (.int (1 : Int32)), .val (.int (4 : Int32)), .unset] [(.int (own_ok c0 (0 : Int32) (1 : Int32) (4 : Int32)))] _
          refine XS.ifNo X1181.here hx rfl (hb hby at_110) rfl ((if0 _ _).trans (feq hc110_1183).1) ?_
          refine XS.aload X1181.here hx rfl (hb hby at_113) rfl rfl ?_
          refine XS.iconst X1181.here hx rfl (hb hby at_115) ?_
          refine X1181.caload hx (j := (1 : Int32)) (v := (.int c1)) (by rw [e1181]; exact Ar1185.1) (State.isArrayOf_alike hZ.alike Ar1185.2.1) Ar1185.2.2 hin1185 hat1185 (g := (mkF m 116 #[.val (.int p0), .val (.int p1), .val (.int p2), .val (.int p3), .val (.int p4), .val (.int p5), .val (.ref b951), .val (.ref b997), .val (.int (1 : Int32)), .val (.int (4 : Int32)), .unset] [(.int (1 : Int32)), (.ref b951)])) rfl rfl (hb hby at_116) _ ?_
          show Sp p e below m T1181 117 #[.val (.int p0), .val (.int p1), .val (.int p2), .val (.int p3), .val (.int p4), .val (.int p5), .val (.ref b951), .val (.ref b997), .val (.int (1 : Int32)), .val (.int (4 : Int32)), .unset] [(.int c1)] _
          refine XS.iconst X1181.here hx rfl (hb hby at_117) ?_
          refine XS.iload X1181.here hx rfl (hb hby at_118) rfl ?_
          refine XS.iload X1181.here hx rfl (hb hby at_120) rfl ?_
          refine st1186 _ ?_
          exact k
        by_cases hc125_1188 : (own_ok c1 (1 : Int32) (1 : Int32) (4 : Int32)) = (0 : Int32)
        · have pre1189 : ∀ t, Sp p e below m T1186 163 #[.val (.int p0), .val (.int p1), .val (.int p2), .val (.int p3), .val (.int p4), .val (.int p5), .val (.ref b951), .val (.ref b997), .val (.int (1 : Int32)), .val (.int (4 : Int32)), .unset] [(.int (0 : Int32))] t → SG p e below G0 t := by
            intro t k
            refine pre1187 t ?_
            show Sp p e below m T1186 125 #[.val (.int p0), .val (.int p1), .val (.int p2), .val (.int p3), .val (.int p4), .val (.int p5), .val (.ref b951), .val (.ref b997), .val (.int (1 : Int32)), .val (.int (4 : Int32)), .unset] [(.int (own_ok c1 (1 : Int32) (1 : Int32) (4 : Int32)))] _
            refine XS.ifYes X1186.here hx rfl (pc0 := 125) (pc' := 162) rfl (hb hby at_125) rfl ((if0 _ _).trans (teq hc125_1188).1) (by decide) (by decide) ?_
            refine XS.iconst X1186.here hx rfl (hb hby at_162) ?_
            exact k
          exact ⟨T1186, _, (0 : Int32), X1186, e1186, N1186, (by simp [hc110_1183, hc125_1188]), pre1189⟩
        · obtain ⟨cl1190, Ar1190, -, S1190, -, H1190, -⟩ := id f1012
          have hin1190 : ¬ ((2 : Int32) < 0 ∨ cl1190.slots.size ≤ ((2 : Int32)).toNatClampNeg) := inb_of S1190 ⟨by decide, by decide⟩
          have hat1190 : cl1190.slots[((2 : Int32)).toNatClampNeg]? = some (.int c2) := H1190.at hin1190 rfl
          obtain ⟨_, _, ⟨T1191, L1191, k1191, n1191⟩, -, X1191, ⟨Lc1191, hQ1191, l1191, y1191, z1191⟩, st1191⟩ := Jvm.LawKit.callS X1186 hx hown (mvT hZ (H 61 _ rfl)) (mvT hZ (H 62 _ rfl)) (mvT hZ (H 3 _ rfl)) (mvT hZ (H 63 _ rfl)) (by decide) (backOf (W := 0) (rm15 l Z a0 hw [] c2 (2 : Int32) (1 : Int32) (4 : Int32)  T1006.heap n0 Zs1006 ) hZ (H 63 _ rfl) (H 3 _ rfl) (by decide) (by decide)) (g := (mkF m 137 #[.val (.int p0), .val (.int p1), .val (.int p2), .val (.int p3), .val (.int p4), .val (.int p5), .val (.ref b951), .val (.ref b997), .val (.int (1 : Int32)), .val (.int (4 : Int32)), .unset] [(.int (4 : Int32)), (.int (1 : Int32)), (.int (2 : Int32)), (.int c2)])) rfl (by rw [hml]; rfl) (argsL := [(.int c2), (.int (2 : Int32)), (.int (1 : Int32)), (.int (4 : Int32))]) (rest := []) (lenOf own_pd327 rfl) rfl (Nat.le_of_eq rfl) (hb hby at_137) (fun _ _ => ⟨rfl, e1186, (by decide : 4 + 0 ≤ _), (by decide : 20 + 0 ≤ _)⟩)
          dsimp only [Pt.U, Pt.locs, Pt.cells, Pt.slots] at X1191 l1191 y1191 z1191 st1191 hQ1191
          rw [l1191, y1191, z1191] at X1191
          obtain ⟨rfl, Nq1191, e1191⟩ := hQ1191
          have N1191 := Fr.app N1186 Nq1191
          have pre1192 : ∀ t, Sp p e below m T1191 140 #[.val (.int p0), .val (.int p1), .val (.int p2), .val (.int p3), .val (.int p4), .val (.int p5), .val (.ref b951), .val (.ref b997), .val (.int (1 : Int32)), .val (.int (4 : Int32)), .unset] [(.int (own_ok c2 (2 : Int32) (1 : Int32) (4 : Int32)))] t → SG p e below G0 t := by
            intro t k
            refine pre1187 t ?_
            show Sp p e below m T1186 125 #[.val (.int p0), .val (.int p1), .val (.int p2), .val (.int p3), .val (.int p4), .val (.int p5), .val (.ref b951), .val (.ref b997), .val (.int (1 : Int32)), .val (.int (4 : Int32)), .unset] [(.int (own_ok c1 (1 : Int32) (1 : Int32) (4 : Int32)))] _
            refine XS.ifNo X1186.here hx rfl (hb hby at_125) rfl ((if0 _ _).trans (feq hc125_1188).1) ?_
            refine XS.aload X1186.here hx rfl (hb hby at_128) rfl rfl ?_
            refine XS.iconst X1186.here hx rfl (hb hby at_130) ?_
            refine X1186.caload hx (j := (2 : Int32)) (v := (.int c2)) (by rw [e1186]; exact Ar1190.1) (State.isArrayOf_alike hZ.alike Ar1190.2.1) Ar1190.2.2 hin1190 hat1190 (g := (mkF m 131 #[.val (.int p0), .val (.int p1), .val (.int p2), .val (.int p3), .val (.int p4), .val (.int p5), .val (.ref b951), .val (.ref b997), .val (.int (1 : Int32)), .val (.int (4 : Int32)), .unset] [(.int (2 : Int32)), (.ref b951)])) rfl rfl (hb hby at_131) _ ?_
            show Sp p e below m T1186 132 #[.val (.int p0), .val (.int p1), .val (.int p2), .val (.int p3), .val (.int p4), .val (.int p5), .val (.ref b951), .val (.ref b997), .val (.int (1 : Int32)), .val (.int (4 : Int32)), .unset] [(.int c2)] _
            refine XS.iconst X1186.here hx rfl (hb hby at_132) ?_
            refine XS.iload X1186.here hx rfl (hb hby at_133) rfl ?_
            refine XS.iload X1186.here hx rfl (hb hby at_135) rfl ?_
            refine st1191 _ ?_
            exact k
          by_cases hc140_1193 : (own_ok c2 (2 : Int32) (1 : Int32) (4 : Int32)) = (0 : Int32)
          · have pre1194 : ∀ t, Sp p e below m T1191 163 #[.val (.int p0), .val (.int p1), .val (.int p2), .val (.int p3), .val (.int p4), .val (.int p5), .val (.ref b951), .val (.ref b997), .val (.int (1 : Int32)), .val (.int (4 : Int32)), .unset] [(.int (0 : Int32))] t → SG p e below G0 t := by
              intro t k
              refine pre1192 t ?_
              show Sp p e below m T1191 140 #[.val (.int p0), .val (.int p1), .val (.int p2), .val (.int p3), .val (.int p4), .val (.int p5), .val (.ref b951), .val (.ref b997), .val (.int (1 : Int32)), .val (.int (4 : Int32)), .unset] [(.int (own_ok c2 (2 : Int32) (1 : Int32) (4 : Int32)))] _
              refine XS.ifYes X1191.here hx rfl (pc0 := 140) (pc' := 162) rfl (hb hby at_140) rfl ((if0 _ _).trans (teq hc140_1193).1) (by decide) (by decide) ?_
              refine XS.iconst X1191.here hx rfl (hb hby at_162) ?_
              exact k
            exact ⟨T1191, _, (0 : Int32), X1191, e1191, N1191, (by simp [hc110_1183, hc125_1188, hc140_1193]), pre1194⟩
          · obtain ⟨cl1195, Ar1195, -, S1195, -, H1195, -⟩ := id f1012
            have hin1195 : ¬ ((3 : Int32) < 0 ∨ cl1195.slots.size ≤ ((3 : Int32)).toNatClampNeg) := inb_of S1195 ⟨by decide, by decide⟩
            have hat1195 : cl1195.slots[((3 : Int32)).toNatClampNeg]? = some (.int c3) := H1195.at hin1195 rfl
            obtain ⟨_, _, ⟨T1196, L1196, k1196, n1196⟩, -, X1196, ⟨Lc1196, hQ1196, l1196, y1196, z1196⟩, st1196⟩ := Jvm.LawKit.callS X1191 hx hown (mvT hZ (H 61 _ rfl)) (mvT hZ (H 62 _ rfl)) (mvT hZ (H 3 _ rfl)) (mvT hZ (H 63 _ rfl)) (by decide) (backOf (W := 0) (rm15 l Z a0 hw [] c3 (3 : Int32) (1 : Int32) (4 : Int32)  T1006.heap n0 Zs1006 ) hZ (H 63 _ rfl) (H 3 _ rfl) (by decide) (by decide)) (g := (mkF m 152 #[.val (.int p0), .val (.int p1), .val (.int p2), .val (.int p3), .val (.int p4), .val (.int p5), .val (.ref b951), .val (.ref b997), .val (.int (1 : Int32)), .val (.int (4 : Int32)), .unset] [(.int (4 : Int32)), (.int (1 : Int32)), (.int (3 : Int32)), (.int c3)])) rfl (by rw [hml]; rfl) (argsL := [(.int c3), (.int (3 : Int32)), (.int (1 : Int32)), (.int (4 : Int32))]) (rest := []) (lenOf own_pd327 rfl) rfl (Nat.le_of_eq rfl) (hb hby at_152) (fun _ _ => ⟨rfl, e1191, (by decide : 4 + 0 ≤ _), (by decide : 20 + 0 ≤ _)⟩)
            dsimp only [Pt.U, Pt.locs, Pt.cells, Pt.slots] at X1196 l1196 y1196 z1196 st1196 hQ1196
            rw [l1196, y1196, z1196] at X1196
            obtain ⟨rfl, Nq1196, e1196⟩ := hQ1196
            have N1196 := Fr.app N1191 Nq1196
            have pre1197 : ∀ t, Sp p e below m T1196 155 #[.val (.int p0), .val (.int p1), .val (.int p2), .val (.int p3), .val (.int p4), .val (.int p5), .val (.ref b951), .val (.ref b997), .val (.int (1 : Int32)), .val (.int (4 : Int32)), .unset] [(.int (own_ok c3 (3 : Int32) (1 : Int32) (4 : Int32)))] t → SG p e below G0 t := by
              intro t k
              refine pre1192 t ?_
              show Sp p e below m T1191 140 #[.val (.int p0), .val (.int p1), .val (.int p2), .val (.int p3), .val (.int p4), .val (.int p5), .val (.ref b951), .val (.ref b997), .val (.int (1 : Int32)), .val (.int (4 : Int32)), .unset] [(.int (own_ok c2 (2 : Int32) (1 : Int32) (4 : Int32)))] _
              refine XS.ifNo X1191.here hx rfl (hb hby at_140) rfl ((if0 _ _).trans (feq hc140_1193).1) ?_
              refine XS.aload X1191.here hx rfl (hb hby at_143) rfl rfl ?_
              refine XS.iconst X1191.here hx rfl (hb hby at_145) ?_
              refine X1191.caload hx (j := (3 : Int32)) (v := (.int c3)) (by rw [e1191]; exact Ar1195.1) (State.isArrayOf_alike hZ.alike Ar1195.2.1) Ar1195.2.2 hin1195 hat1195 (g := (mkF m 146 #[.val (.int p0), .val (.int p1), .val (.int p2), .val (.int p3), .val (.int p4), .val (.int p5), .val (.ref b951), .val (.ref b997), .val (.int (1 : Int32)), .val (.int (4 : Int32)), .unset] [(.int (3 : Int32)), (.ref b951)])) rfl rfl (hb hby at_146) _ ?_
              show Sp p e below m T1191 147 #[.val (.int p0), .val (.int p1), .val (.int p2), .val (.int p3), .val (.int p4), .val (.int p5), .val (.ref b951), .val (.ref b997), .val (.int (1 : Int32)), .val (.int (4 : Int32)), .unset] [(.int c3)] _
              refine XS.iconst X1191.here hx rfl (hb hby at_147) ?_
              refine XS.iload X1191.here hx rfl (hb hby at_148) rfl ?_
              refine XS.iload X1191.here hx rfl (hb hby at_150) rfl ?_
              refine st1196 _ ?_
              exact k
            by_cases hc155_1198 : (own_ok c3 (3 : Int32) (1 : Int32) (4 : Int32)) = (0 : Int32)
            · have pre1199 : ∀ t, Sp p e below m T1196 163 #[.val (.int p0), .val (.int p1), .val (.int p2), .val (.int p3), .val (.int p4), .val (.int p5), .val (.ref b951), .val (.ref b997), .val (.int (1 : Int32)), .val (.int (4 : Int32)), .unset] [(.int (0 : Int32))] t → SG p e below G0 t := by
                intro t k
                refine pre1197 t ?_
                show Sp p e below m T1196 155 #[.val (.int p0), .val (.int p1), .val (.int p2), .val (.int p3), .val (.int p4), .val (.int p5), .val (.ref b951), .val (.ref b997), .val (.int (1 : Int32)), .val (.int (4 : Int32)), .unset] [(.int (own_ok c3 (3 : Int32) (1 : Int32) (4 : Int32)))] _
                refine XS.ifYes X1196.here hx rfl (pc0 := 155) (pc' := 162) rfl (hb hby at_155) rfl ((if0 _ _).trans (teq hc155_1198).1) (by decide) (by decide) ?_
                refine XS.iconst X1196.here hx rfl (hb hby at_162) ?_
                exact k
              exact ⟨T1196, _, (0 : Int32), X1196, e1196, N1196, (by simp [hc110_1183, hc125_1188, hc140_1193, hc155_1198]), pre1199⟩
            · have pre1200 : ∀ t, Sp p e below m T1196 163 #[.val (.int p0), .val (.int p1), .val (.int p2), .val (.int p3), .val (.int p4), .val (.int p5), .val (.ref b951), .val (.ref b997), .val (.int (1 : Int32)), .val (.int (4 : Int32)), .unset] [(.int (1 : Int32))] t → SG p e below G0 t := by
                intro t k
                refine pre1197 t ?_
                show Sp p e below m T1196 155 #[.val (.int p0), .val (.int p1), .val (.int p2), .val (.int p3), .val (.int p4), .val (.int p5), .val (.ref b951), .val (.ref b997), .val (.int (1 : Int32)), .val (.int (4 : Int32)), .unset] [(.int (own_ok c3 (3 : Int32) (1 : Int32) (4 : Int32)))] _
                refine XS.ifNo X1196.here hx rfl (hb hby at_155) rfl ((if0 _ _).trans (feq hc155_1198).1) ?_
                refine XS.iconst X1196.here hx rfl (hb hby at_158) ?_
                refine XS.goto X1196.here hx rfl (pc0 := 159) (pc' := 163) rfl (hb hby at_159) (by decide) (by decide) ?_
                exact k
              exact ⟨T1196, _, (1 : Int32), X1196, e1196, N1196, (by simp [hc110_1183, hc125_1188, hc140_1193, hc155_1198]), pre1200⟩
    obtain ⟨_, _, ⟨T1205, L1205, k1205, n1205⟩, -, X1205, ⟨Lc1205, hQ1205, l1205, y1205, z1205⟩, st1205⟩ := Jvm.LawKit.callS Xm1202 hx hown (mvT hZ (H 34 _ rfl)) (mvT hZ (H 35 _ rfl)) (mvT hZ (H 36 _ rfl)) (mvT hZ (H 37 _ rfl)) (by decide) (backOf (W := 0) (rm8f1t4 l Z a0 hw [] b997 cs vf rrb_1006 rrk_1006 c0 c1 c2 c3 T1006.heap n0 Zs1006 O1006 Scs hcs Ssf hvf Sas Shs Sls p1006_0 p1006_1 p1006_2 hb0 hb1 hb2 hb3) hZ (H 37 _ rfl) (H 36 _ rfl) (by decide) (by decide)) (g := (mkF m 171 #[.val (.int p0), .val (.int p1), .val (.int p2), .val (.int p3), .val (.int p4), .val (.int p5), .val (.ref b951), .val (.ref b997), .val (.int (1 : Int32)), .val (.int (4 : Int32)), .val (.int v163_1201)] [(.int (4 : Int32)), (.int (1 : Int32)), (.ref b997)])) rfl (by rw [hml]; rfl) (argsL := [(.ref b997), (.int (1 : Int32)), (.int (4 : Int32))]) (rest := []) (lenOf own_pd326 rfl) rfl (Nat.le_of_eq rfl) (hb hby at_171) (fun _ _ => ⟨rfl, em1202, (by decide : 4 + 0 ≤ _), (by decide : 20 + 0 ≤ _)⟩)
    dsimp only [Pt.U, Pt.locs, Pt.cells, Pt.slots] at X1205 l1205 y1205 z1205 st1205 hQ1205
    rw [l1205, y1205, z1205] at X1205
    obtain ⟨rfl, Nq1205, e1205⟩ := hQ1205
    have N1205 := Fr.app Nm1202 Nq1205
    obtain ⟨fs, hr, hrun, hended, hW, hsame⟩ := X1205.leave (v := some (.int (1 : Int32))) (fun h => by rw [Bd.returns] at h; cases h)
    refine ⟨_, _, pre1203 _ ?_, hrun, hended, _, _, rfl, ?_, ⟨_, rfl⟩, hW, hsame.mono (by decide) (by decide)⟩
    · show Sp p e below m Tm1202 163 #[.val (.int p0), .val (.int p1), .val (.int p2), .val (.int p3), .val (.int p4), .val (.int p5), .val (.ref b951), .val (.ref b997), .val (.int (1 : Int32)), .val (.int (4 : Int32)), .unset] [(.int v163_1201)] _
      refine XS.istore Xm1202.here hx rfl (hb hby at_163) rfl (l' := #[.val (.int p0), .val (.int p1), .val (.int p2), .val (.int p3), .val (.int p4), .val (.int p5), .val (.ref b951), .val (.ref b997), .val (.int (1 : Int32)), .val (.int (4 : Int32)), .val (.int v163_1201)]) rfl ?_
      refine XS.aload Xm1202.here hx rfl (hb hby at_165) rfl rfl ?_
      refine XS.iload Xm1202.here hx rfl (hb hby at_167) rfl ?_
      refine XS.iload Xm1202.here hx rfl (hb hby at_169) rfl ?_
      refine st1205 _ ?_
      show Sp p e below m T1205 174 #[.val (.int p0), .val (.int p1), .val (.int p2), .val (.int p3), .val (.int p4), .val (.int p5), .val (.ref b951), .val (.ref b997), .val (.int (1 : Int32)), .val (.int (4 : Int32)), .val (.int v163_1201)] [(.int (if own_dg c1 = 0 then (0 : Int32) else (if own_dg c2 = 0 then (0 : Int32) else (own_dg c3))))] _
      refine XS.iload X1205.here hx rfl (hb hby at_174) rfl ?_
      refine XS.icmpNo X1205.here hx rfl (hb hby at_176) rfl (teq (own_fin14 hv1204 : ((if own_dg c1 = 0 then (0 : Int32) else (if own_dg c2 = 0 then (0 : Int32) else (own_dg c3))) = v163_1201))).2 ?_
      refine XS.iconst X1205.here hx rfl (hb hby at_179) ?_
      refine XS.goto X1205.here hx rfl (pc0 := 180) (pc' := 184) rfl (hb hby at_180) (by decide) (by decide) ?_
      exact retN X1205 hx (t := .boolean) Bd.returns (by simp) (hb hby at_184) hr
    · show Q0 Z p0 p1 p2 p3 p4 p5 cs vf h0 n0 _ T1205.heap _
      rw [e1205]
      exact ⟨rfl, N1205⟩
  · rw [hf23, ht23] at pre1021
    obtain ⟨Tm1228, lm1228, v163_1227, Xm1228, em1228, Nm1228, hv1230, pre1229⟩ : ∃ (Tm1228 : State) (lm1228 : List Loc) (v163_1227 : Int32), Stand p l e room_1 s m #[(.int p0), (.int p1), (.int p2), (.int p3), (.int p4), (.int p5)] below meth c Tm1228 lm1228 4 20 ∧ Tm1228.heap = T1006.heap ∧ Fr n0 lm1228 ∧ (v163_1227 = if own_ok c0 0 2 3 = 0 then 0 else if own_ok c1 1 2 3 = 0 then 0 else if own_ok c2 2 2 3 = 0 then 0 else if own_ok c3 3 2 3 = 0 then 0 else 1) ∧ ∀ t, Sp p e below m Tm1228 163 #[.val (.int p0), .val (.int p1), .val (.int p2), .val (.int p3), .val (.int p4), .val (.int p5), .val (.ref b951), .val (.ref b997), .val (.int (2 : Int32)), .val (.int (3 : Int32)), .unset] [(.int v163_1227)] t → SG p e below G0 t := by
      obtain ⟨cl1206, Ar1206, -, S1206, -, H1206, -⟩ := id f1012
      have hin1206 : ¬ ((0 : Int32) < 0 ∨ cl1206.slots.size ≤ ((0 : Int32)).toNatClampNeg) := inb_of S1206 ⟨by decide, by decide⟩
      have hat1206 : cl1206.slots[((0 : Int32)).toNatClampNeg]? = some (.int c0) := H1206.at hin1206 rfl
      obtain ⟨_, _, ⟨T1207, L1207, k1207, n1207⟩, -, X1207, ⟨Lc1207, hQ1207, l1207, y1207, z1207⟩, st1207⟩ := Jvm.LawKit.callS Xm1020 hx hown (mvT hZ (H 61 _ rfl)) (mvT hZ (H 62 _ rfl)) (mvT hZ (H 3 _ rfl)) (mvT hZ (H 63 _ rfl)) (by decide) (backOf (W := 0) (rm15 l Z a0 hw [] c0 (0 : Int32) (2 : Int32) (3 : Int32)  T1006.heap n0 Zs1006 ) hZ (H 63 _ rfl) (H 3 _ rfl) (by decide) (by decide)) (g := (mkF m 107 #[.val (.int p0), .val (.int p1), .val (.int p2), .val (.int p3), .val (.int p4), .val (.int p5), .val (.ref b951), .val (.ref b997), .val (.int (2 : Int32)), .val (.int (3 : Int32)), .unset] [(.int (3 : Int32)), (.int (2 : Int32)), (.int (0 : Int32)), (.int c0)])) rfl (by rw [hml]; rfl) (argsL := [(.int c0), (.int (0 : Int32)), (.int (2 : Int32)), (.int (3 : Int32))]) (rest := []) (lenOf own_pd327 rfl) rfl (Nat.le_of_eq rfl) (hb hby at_107) (fun _ _ => ⟨rfl, em1020, (by decide : 4 + 0 ≤ _), (by decide : 20 + 0 ≤ _)⟩)
      dsimp only [Pt.U, Pt.locs, Pt.cells, Pt.slots] at X1207 l1207 y1207 z1207 st1207 hQ1207
      rw [l1207, y1207, z1207] at X1207
      obtain ⟨rfl, Nq1207, e1207⟩ := hQ1207
      have N1207 := Fr.app Nm1020 Nq1207
      have pre1208 : ∀ t, Sp p e below m T1207 110 #[.val (.int p0), .val (.int p1), .val (.int p2), .val (.int p3), .val (.int p4), .val (.int p5), .val (.ref b951), .val (.ref b997), .val (.int (2 : Int32)), .val (.int (3 : Int32)), .unset] [(.int (own_ok c0 (0 : Int32) (2 : Int32) (3 : Int32)))] t → SG p e below G0 t := by
        intro t k
        refine pre1021 t ?_
        show Sp p e below m Tm1020 91 #[.val (.int p0), .val (.int p1), .val (.int p2), .val (.int p3), .val (.int p4), .val (.int p5), .val (.ref b951), .val (.ref b997), .val (.int (2 : Int32)), .val (.int (3 : Int32)), .unset] [] _
        refine XS.iload Xm1020.here hx rfl (hb hby at_91) rfl ?_
        refine XS.iload Xm1020.here hx rfl (hb hby at_93) rfl ?_
        refine XS.icmpNo Xm1020.here hx rfl (hb hby at_95) rfl (tlt (by decide : ((2 : Int32) < (3 : Int32)))).2.1 ?_
        refine XS.aload Xm1020.here hx rfl (hb hby at_98) rfl rfl ?_
        refine XS.iconst Xm1020.here hx rfl (hb hby at_100) ?_
        refine Xm1020.caload hx (j := (0 : Int32)) (v := (.int c0)) (by rw [em1020]; exact Ar1206.1) (State.isArrayOf_alike hZ.alike Ar1206.2.1) Ar1206.2.2 hin1206 hat1206 (g := (mkF m 101 #[.val (.int p0), .val (.int p1), .val (.int p2), .val (.int p3), .val (.int p4), .val (.int p5), .val (.ref b951), .val (.ref b997), .val (.int (2 : Int32)), .val (.int (3 : Int32)), .unset] [(.int (0 : Int32)), (.ref b951)])) rfl rfl (hb hby at_101) _ ?_
        show Sp p e below m Tm1020 102 #[.val (.int p0), .val (.int p1), .val (.int p2), .val (.int p3), .val (.int p4), .val (.int p5), .val (.ref b951), .val (.ref b997), .val (.int (2 : Int32)), .val (.int (3 : Int32)), .unset] [(.int c0)] _
        refine XS.iconst Xm1020.here hx rfl (hb hby at_102) ?_
        refine XS.iload Xm1020.here hx rfl (hb hby at_103) rfl ?_
        refine XS.iload Xm1020.here hx rfl (hb hby at_105) rfl ?_
        refine st1207 _ ?_
        exact k
      by_cases hc110_1209 : (own_ok c0 (0 : Int32) (2 : Int32) (3 : Int32)) = (0 : Int32)
      · have pre1210 : ∀ t, Sp p e below m T1207 163 #[.val (.int p0), .val (.int p1), .val (.int p2), .val (.int p3), .val (.int p4), .val (.int p5), .val (.ref b951), .val (.ref b997), .val (.int (2 : Int32)), .val (.int (3 : Int32)), .unset] [(.int (0 : Int32))] t → SG p e below G0 t := by
          intro t k
          refine pre1208 t ?_
          show Sp p e below m T1207 110 #[.val (.int p0), .val (.int p1), .val (.int p2), .val (.int p3), .val (.int p4), .val (.int p5), .val (.ref b951), .val (.ref b997), .val (.int (2 : Int32)), .val (.int (3 : Int32)), .unset] [(.int (own_ok c0 (0 : Int32) (2 : Int32) (3 : Int32)))] _
          refine XS.ifYes X1207.here hx rfl (pc0 := 110) (pc' := 162) rfl (hb hby at_110) rfl ((if0 _ _).trans (teq hc110_1209).1) (by decide) (by decide) ?_
          refine XS.iconst X1207.here hx rfl (hb hby at_162) ?_
          exact k
        exact ⟨T1207, _, (0 : Int32), X1207, e1207, N1207, (by simp [hc110_1209]), pre1210⟩
      · obtain ⟨cl1211, Ar1211, -, S1211, -, H1211, -⟩ := id f1012
        have hin1211 : ¬ ((1 : Int32) < 0 ∨ cl1211.slots.size ≤ ((1 : Int32)).toNatClampNeg) := inb_of S1211 ⟨by decide, by decide⟩
        have hat1211 : cl1211.slots[((1 : Int32)).toNatClampNeg]? = some (.int c1) := H1211.at hin1211 rfl
        obtain ⟨_, _, ⟨T1212, L1212, k1212, n1212⟩, -, X1212, ⟨Lc1212, hQ1212, l1212, y1212, z1212⟩, st1212⟩ := Jvm.LawKit.callS X1207 hx hown (mvT hZ (H 61 _ rfl)) (mvT hZ (H 62 _ rfl)) (mvT hZ (H 3 _ rfl)) (mvT hZ (H 63 _ rfl)) (by decide) (backOf (W := 0) (rm15 l Z a0 hw [] c1 (1 : Int32) (2 : Int32) (3 : Int32)  T1006.heap n0 Zs1006 ) hZ (H 63 _ rfl) (H 3 _ rfl) (by decide) (by decide)) (g := (mkF m 122 #[.val (.int p0), .val (.int p1), .val (.int p2), .val (.int p3), .val (.int p4), .val (.int p5), .val (.ref b951), .val (.ref b997), .val (.int (2 : Int32)), .val (.int (3 : Int32)), .unset] [(.int (3 : Int32)), (.int (2 : Int32)), (.int (1 : Int32)), (.int c1)])) rfl (by rw [hml]; rfl) (argsL := [(.int c1), (.int (1 : Int32)), (.int (2 : Int32)), (.int (3 : Int32))]) (rest := []) (lenOf own_pd327 rfl) rfl (Nat.le_of_eq rfl) (hb hby at_122) (fun _ _ => ⟨rfl, e1207, (by decide : 4 + 0 ≤ _), (by decide : 20 + 0 ≤ _)⟩)
        dsimp only [Pt.U, Pt.locs, Pt.cells, Pt.slots] at X1212 l1212 y1212 z1212 st1212 hQ1212
        rw [l1212, y1212, z1212] at X1212
        obtain ⟨rfl, Nq1212, e1212⟩ := hQ1212
        have N1212 := Fr.app N1207 Nq1212
        have pre1213 : ∀ t, Sp p e below m T1212 125 #[.val (.int p0), .val (.int p1), .val (.int p2), .val (.int p3), .val (.int p4), .val (.int p5), .val (.ref b951), .val (.ref b997), .val (.int (2 : Int32)), .val (.int (3 : Int32)), .unset] [(.int (own_ok c1 (1 : Int32) (2 : Int32) (3 : Int32)))] t → SG p e below G0 t := by
          intro t k
          refine pre1208 t ?_
          show Sp p e below m T1207 110 #[.val (.int p0), .val (.int p1), .val (.int p2), .val (.int p3), .val (.int p4), .val (.int p5), .val (.ref b951), .val (.ref b997), .val (.int (2 : Int32)), .val (.int (3 : Int32)), .unset] [(.int (own_ok c0 (0 : Int32) (2 : Int32) (3 : Int32)))] _
          refine XS.ifNo X1207.here hx rfl (hb hby at_110) rfl ((if0 _ _).trans (feq hc110_1209).1) ?_
          refine XS.aload X1207.here hx rfl (hb hby at_113) rfl rfl ?_
          refine XS.iconst X1207.here hx rfl (hb hby at_115) ?_
          refine X1207.caload hx (j := (1 : Int32)) (v := (.int c1)) (by rw [e1207]; exact Ar1211.1) (State.isArrayOf_alike hZ.alike Ar1211.2.1) Ar1211.2.2 hin1211 hat1211 (g := (mkF m 116 #[.val (.int p0), .val (.int p1), .val (.int p2), .val (.int p3), .val (.int p4), .val (.int p5), .val (.ref b951), .val (.ref b997), .val (.int (2 : Int32)), .val (.int (3 : Int32)), .unset] [(.int (1 : Int32)), (.ref b951)])) rfl rfl (hb hby at_116) _ ?_
          show Sp p e below m T1207 117 #[.val (.int p0), .val (.int p1), .val (.int p2), .val (.int p3), .val (.int p4), .val (.int p5), .val (.ref b951), .val (.ref b997), .val (.int (2 : Int32)), .val (.int (3 : Int32)), .unset] [(.int c1)] _
          refine XS.iconst X1207.here hx rfl (hb hby at_117) ?_
          refine XS.iload X1207.here hx rfl (hb hby at_118) rfl ?_
          refine XS.iload X1207.here hx rfl (hb hby at_120) rfl ?_
          refine st1212 _ ?_
          exact k
        by_cases hc125_1214 : (own_ok c1 (1 : Int32) (2 : Int32) (3 : Int32)) = (0 : Int32)
        · have pre1215 : ∀ t, Sp p e below m T1212 163 #[.val (.int p0), .val (.int p1), .val (.int p2), .val (.int p3), .val (.int p4), .val (.int p5), .val (.ref b951), .val (.ref b997), .val (.int (2 : Int32)), .val (.int (3 : Int32)), .unset] [(.int (0 : Int32))] t → SG p e below G0 t := by
            intro t k
            refine pre1213 t ?_
            show Sp p e below m T1212 125 #[.val (.int p0), .val (.int p1), .val (.int p2), .val (.int p3), .val (.int p4), .val (.int p5), .val (.ref b951), .val (.ref b997), .val (.int (2 : Int32)), .val (.int (3 : Int32)), .unset] [(.int (own_ok c1 (1 : Int32) (2 : Int32) (3 : Int32)))] _
            refine XS.ifYes X1212.here hx rfl (pc0 := 125) (pc' := 162) rfl (hb hby at_125) rfl ((if0 _ _).trans (teq hc125_1214).1) (by decide) (by decide) ?_
            refine XS.iconst X1212.here hx rfl (hb hby at_162) ?_
            exact k
          exact ⟨T1212, _, (0 : Int32), X1212, e1212, N1212, (by simp [hc110_1209, hc125_1214]), pre1215⟩
        · obtain ⟨cl1216, Ar1216, -, S1216, -, H1216, -⟩ := id f1012
          have hin1216 : ¬ ((2 : Int32) < 0 ∨ cl1216.slots.size ≤ ((2 : Int32)).toNatClampNeg) := inb_of S1216 ⟨by decide, by decide⟩
          have hat1216 : cl1216.slots[((2 : Int32)).toNatClampNeg]? = some (.int c2) := H1216.at hin1216 rfl
          obtain ⟨_, _, ⟨T1217, L1217, k1217, n1217⟩, -, X1217, ⟨Lc1217, hQ1217, l1217, y1217, z1217⟩, st1217⟩ := Jvm.LawKit.callS X1212 hx hown (mvT hZ (H 61 _ rfl)) (mvT hZ (H 62 _ rfl)) (mvT hZ (H 3 _ rfl)) (mvT hZ (H 63 _ rfl)) (by decide) (backOf (W := 0) (rm15 l Z a0 hw [] c2 (2 : Int32) (2 : Int32) (3 : Int32)  T1006.heap n0 Zs1006 ) hZ (H 63 _ rfl) (H 3 _ rfl) (by decide) (by decide)) (g := (mkF m 137 #[.val (.int p0), .val (.int p1), .val (.int p2), .val (.int p3), .val (.int p4), .val (.int p5), .val (.ref b951), .val (.ref b997), .val (.int (2 : Int32)), .val (.int (3 : Int32)), .unset] [(.int (3 : Int32)), (.int (2 : Int32)), (.int (2 : Int32)), (.int c2)])) rfl (by rw [hml]; rfl) (argsL := [(.int c2), (.int (2 : Int32)), (.int (2 : Int32)), (.int (3 : Int32))]) (rest := []) (lenOf own_pd327 rfl) rfl (Nat.le_of_eq rfl) (hb hby at_137) (fun _ _ => ⟨rfl, e1212, (by decide : 4 + 0 ≤ _), (by decide : 20 + 0 ≤ _)⟩)
          dsimp only [Pt.U, Pt.locs, Pt.cells, Pt.slots] at X1217 l1217 y1217 z1217 st1217 hQ1217
          rw [l1217, y1217, z1217] at X1217
          obtain ⟨rfl, Nq1217, e1217⟩ := hQ1217
          have N1217 := Fr.app N1212 Nq1217
          have pre1218 : ∀ t, Sp p e below m T1217 140 #[.val (.int p0), .val (.int p1), .val (.int p2), .val (.int p3), .val (.int p4), .val (.int p5), .val (.ref b951), .val (.ref b997), .val (.int (2 : Int32)), .val (.int (3 : Int32)), .unset] [(.int (own_ok c2 (2 : Int32) (2 : Int32) (3 : Int32)))] t → SG p e below G0 t := by
            intro t k
            refine pre1213 t ?_
            show Sp p e below m T1212 125 #[.val (.int p0), .val (.int p1), .val (.int p2), .val (.int p3), .val (.int p4), .val (.int p5), .val (.ref b951), .val (.ref b997), .val (.int (2 : Int32)), .val (.int (3 : Int32)), .unset] [(.int (own_ok c1 (1 : Int32) (2 : Int32) (3 : Int32)))] _
            refine XS.ifNo X1212.here hx rfl (hb hby at_125) rfl ((if0 _ _).trans (feq hc125_1214).1) ?_
            refine XS.aload X1212.here hx rfl (hb hby at_128) rfl rfl ?_
            refine XS.iconst X1212.here hx rfl (hb hby at_130) ?_
            refine X1212.caload hx (j := (2 : Int32)) (v := (.int c2)) (by rw [e1212]; exact Ar1216.1) (State.isArrayOf_alike hZ.alike Ar1216.2.1) Ar1216.2.2 hin1216 hat1216 (g := (mkF m 131 #[.val (.int p0), .val (.int p1), .val (.int p2), .val (.int p3), .val (.int p4), .val (.int p5), .val (.ref b951), .val (.ref b997), .val (.int (2 : Int32)), .val (.int (3 : Int32)), .unset] [(.int (2 : Int32)), (.ref b951)])) rfl rfl (hb hby at_131) _ ?_
            show Sp p e below m T1212 132 #[.val (.int p0), .val (.int p1), .val (.int p2), .val (.int p3), .val (.int p4), .val (.int p5), .val (.ref b951), .val (.ref b997), .val (.int (2 : Int32)), .val (.int (3 : Int32)), .unset] [(.int c2)] _
            refine XS.iconst X1212.here hx rfl (hb hby at_132) ?_
            refine XS.iload X1212.here hx rfl (hb hby at_133) rfl ?_
            refine XS.iload X1212.here hx rfl (hb hby at_135) rfl ?_
            refine st1217 _ ?_
            exact k
          by_cases hc140_1219 : (own_ok c2 (2 : Int32) (2 : Int32) (3 : Int32)) = (0 : Int32)
          · have pre1220 : ∀ t, Sp p e below m T1217 163 #[.val (.int p0), .val (.int p1), .val (.int p2), .val (.int p3), .val (.int p4), .val (.int p5), .val (.ref b951), .val (.ref b997), .val (.int (2 : Int32)), .val (.int (3 : Int32)), .unset] [(.int (0 : Int32))] t → SG p e below G0 t := by
              intro t k
              refine pre1218 t ?_
              show Sp p e below m T1217 140 #[.val (.int p0), .val (.int p1), .val (.int p2), .val (.int p3), .val (.int p4), .val (.int p5), .val (.ref b951), .val (.ref b997), .val (.int (2 : Int32)), .val (.int (3 : Int32)), .unset] [(.int (own_ok c2 (2 : Int32) (2 : Int32) (3 : Int32)))] _
              refine XS.ifYes X1217.here hx rfl (pc0 := 140) (pc' := 162) rfl (hb hby at_140) rfl ((if0 _ _).trans (teq hc140_1219).1) (by decide) (by decide) ?_
              refine XS.iconst X1217.here hx rfl (hb hby at_162) ?_
              exact k
            exact ⟨T1217, _, (0 : Int32), X1217, e1217, N1217, (by simp [hc110_1209, hc125_1214, hc140_1219]), pre1220⟩
          · obtain ⟨cl1221, Ar1221, -, S1221, -, H1221, -⟩ := id f1012
            have hin1221 : ¬ ((3 : Int32) < 0 ∨ cl1221.slots.size ≤ ((3 : Int32)).toNatClampNeg) := inb_of S1221 ⟨by decide, by decide⟩
            have hat1221 : cl1221.slots[((3 : Int32)).toNatClampNeg]? = some (.int c3) := H1221.at hin1221 rfl
            obtain ⟨_, _, ⟨T1222, L1222, k1222, n1222⟩, -, X1222, ⟨Lc1222, hQ1222, l1222, y1222, z1222⟩, st1222⟩ := Jvm.LawKit.callS X1217 hx hown (mvT hZ (H 61 _ rfl)) (mvT hZ (H 62 _ rfl)) (mvT hZ (H 3 _ rfl)) (mvT hZ (H 63 _ rfl)) (by decide) (backOf (W := 0) (rm15 l Z a0 hw [] c3 (3 : Int32) (2 : Int32) (3 : Int32)  T1006.heap n0 Zs1006 ) hZ (H 63 _ rfl) (H 3 _ rfl) (by decide) (by decide)) (g := (mkF m 152 #[.val (.int p0), .val (.int p1), .val (.int p2), .val (.int p3), .val (.int p4), .val (.int p5), .val (.ref b951), .val (.ref b997), .val (.int (2 : Int32)), .val (.int (3 : Int32)), .unset] [(.int (3 : Int32)), (.int (2 : Int32)), (.int (3 : Int32)), (.int c3)])) rfl (by rw [hml]; rfl) (argsL := [(.int c3), (.int (3 : Int32)), (.int (2 : Int32)), (.int (3 : Int32))]) (rest := []) (lenOf own_pd327 rfl) rfl (Nat.le_of_eq rfl) (hb hby at_152) (fun _ _ => ⟨rfl, e1217, (by decide : 4 + 0 ≤ _), (by decide : 20 + 0 ≤ _)⟩)
            dsimp only [Pt.U, Pt.locs, Pt.cells, Pt.slots] at X1222 l1222 y1222 z1222 st1222 hQ1222
            rw [l1222, y1222, z1222] at X1222
            obtain ⟨rfl, Nq1222, e1222⟩ := hQ1222
            have N1222 := Fr.app N1217 Nq1222
            have pre1223 : ∀ t, Sp p e below m T1222 155 #[.val (.int p0), .val (.int p1), .val (.int p2), .val (.int p3), .val (.int p4), .val (.int p5), .val (.ref b951), .val (.ref b997), .val (.int (2 : Int32)), .val (.int (3 : Int32)), .unset] [(.int (own_ok c3 (3 : Int32) (2 : Int32) (3 : Int32)))] t → SG p e below G0 t := by
              intro t k
              refine pre1218 t ?_
              show Sp p e below m T1217 140 #[.val (.int p0), .val (.int p1), .val (.int p2), .val (.int p3), .val (.int p4), .val (.int p5), .val (.ref b951), .val (.ref b997), .val (.int (2 : Int32)), .val (.int (3 : Int32)), .unset] [(.int (own_ok c2 (2 : Int32) (2 : Int32) (3 : Int32)))] _
              refine XS.ifNo X1217.here hx rfl (hb hby at_140) rfl ((if0 _ _).trans (feq hc140_1219).1) ?_
              refine XS.aload X1217.here hx rfl (hb hby at_143) rfl rfl ?_
              refine XS.iconst X1217.here hx rfl (hb hby at_145) ?_
              refine X1217.caload hx (j := (3 : Int32)) (v := (.int c3)) (by rw [e1217]; exact Ar1221.1) (State.isArrayOf_alike hZ.alike Ar1221.2.1) Ar1221.2.2 hin1221 hat1221 (g := (mkF m 146 #[.val (.int p0), .val (.int p1), .val (.int p2), .val (.int p3), .val (.int p4), .val (.int p5), .val (.ref b951), .val (.ref b997), .val (.int (2 : Int32)), .val (.int (3 : Int32)), .unset] [(.int (3 : Int32)), (.ref b951)])) rfl rfl (hb hby at_146) _ ?_
              show Sp p e below m T1217 147 #[.val (.int p0), .val (.int p1), .val (.int p2), .val (.int p3), .val (.int p4), .val (.int p5), .val (.ref b951), .val (.ref b997), .val (.int (2 : Int32)), .val (.int (3 : Int32)), .unset] [(.int c3)] _
              refine XS.iconst X1217.here hx rfl (hb hby at_147) ?_
              refine XS.iload X1217.here hx rfl (hb hby at_148) rfl ?_
              refine XS.iload X1217.here hx rfl (hb hby at_150) rfl ?_
              refine st1222 _ ?_
              exact k
            by_cases hc155_1224 : (own_ok c3 (3 : Int32) (2 : Int32) (3 : Int32)) = (0 : Int32)
            · have pre1225 : ∀ t, Sp p e below m T1222 163 #[.val (.int p0), .val (.int p1), .val (.int p2), .val (.int p3), .val (.int p4), .val (.int p5), .val (.ref b951), .val (.ref b997), .val (.int (2 : Int32)), .val (.int (3 : Int32)), .unset] [(.int (0 : Int32))] t → SG p e below G0 t := by
                intro t k
                refine pre1223 t ?_
                show Sp p e below m T1222 155 #[.val (.int p0), .val (.int p1), .val (.int p2), .val (.int p3), .val (.int p4), .val (.int p5), .val (.ref b951), .val (.ref b997), .val (.int (2 : Int32)), .val (.int (3 : Int32)), .unset] [(.int (own_ok c3 (3 : Int32) (2 : Int32) (3 : Int32)))] _
                refine XS.ifYes X1222.here hx rfl (pc0 := 155) (pc' := 162) rfl (hb hby at_155) rfl ((if0 _ _).trans (teq hc155_1224).1) (by decide) (by decide) ?_
                refine XS.iconst X1222.here hx rfl (hb hby at_162) ?_
                exact k
              exact ⟨T1222, _, (0 : Int32), X1222, e1222, N1222, (by simp [hc110_1209, hc125_1214, hc140_1219, hc155_1224]), pre1225⟩
            · have pre1226 : ∀ t, Sp p e below m T1222 163 #[.val (.int p0), .val (.int p1), .val (.int p2), .val (.int p3), .val (.int p4), .val (.int p5), .val (.ref b951), .val (.ref b997), .val (.int (2 : Int32)), .val (.int (3 : Int32)), .unset] [(.int (1 : Int32))] t → SG p e below G0 t := by
                intro t k
                refine pre1223 t ?_
                show Sp p e below m T1222 155 #[.val (.int p0), .val (.int p1), .val (.int p2), .val (.int p3), .val (.int p4), .val (.int p5), .val (.ref b951), .val (.ref b997), .val (.int (2 : Int32)), .val (.int (3 : Int32)), .unset] [(.int (own_ok c3 (3 : Int32) (2 : Int32) (3 : Int32)))] _
                refine XS.ifNo X1222.here hx rfl (hb hby at_155) rfl ((if0 _ _).trans (feq hc155_1224).1) ?_
                refine XS.iconst X1222.here hx rfl (hb hby at_158) ?_
                refine XS.goto X1222.here hx rfl (pc0 := 159) (pc' := 163) rfl (hb hby at_159) (by decide) (by decide) ?_
                exact k
              exact ⟨T1222, _, (1 : Int32), X1222, e1222, N1222, (by simp [hc110_1209, hc125_1214, hc140_1219, hc155_1224]), pre1226⟩
    obtain ⟨_, _, ⟨T1231, L1231, k1231, n1231⟩, -, X1231, ⟨Lc1231, hQ1231, l1231, y1231, z1231⟩, st1231⟩ := Jvm.LawKit.callS Xm1228 hx hown (mvT hZ (H 34 _ rfl)) (mvT hZ (H 35 _ rfl)) (mvT hZ (H 36 _ rfl)) (mvT hZ (H 37 _ rfl)) (by decide) (backOf (W := 0) (rm8f2t3 l Z a0 hw [] b997 cs vf rrb_1006 rrk_1006 c0 c1 c2 c3 T1006.heap n0 Zs1006 O1006 Scs hcs Ssf hvf Sas Shs Sls p1006_0 p1006_1 p1006_2 hb0 hb1 hb2 hb3) hZ (H 37 _ rfl) (H 36 _ rfl) (by decide) (by decide)) (g := (mkF m 171 #[.val (.int p0), .val (.int p1), .val (.int p2), .val (.int p3), .val (.int p4), .val (.int p5), .val (.ref b951), .val (.ref b997), .val (.int (2 : Int32)), .val (.int (3 : Int32)), .val (.int v163_1227)] [(.int (3 : Int32)), (.int (2 : Int32)), (.ref b997)])) rfl (by rw [hml]; rfl) (argsL := [(.ref b997), (.int (2 : Int32)), (.int (3 : Int32))]) (rest := []) (lenOf own_pd326 rfl) rfl (Nat.le_of_eq rfl) (hb hby at_171) (fun _ _ => ⟨rfl, em1228, (by decide : 4 + 0 ≤ _), (by decide : 20 + 0 ≤ _)⟩)
    dsimp only [Pt.U, Pt.locs, Pt.cells, Pt.slots] at X1231 l1231 y1231 z1231 st1231 hQ1231
    rw [l1231, y1231, z1231] at X1231
    obtain ⟨rfl, Nq1231, e1231⟩ := hQ1231
    have N1231 := Fr.app Nm1228 Nq1231
    obtain ⟨fs, hr, hrun, hended, hW, hsame⟩ := X1231.leave (v := some (.int (1 : Int32))) (fun h => by rw [Bd.returns] at h; cases h)
    refine ⟨_, _, pre1229 _ ?_, hrun, hended, _, _, rfl, ?_, ⟨_, rfl⟩, hW, hsame.mono (by decide) (by decide)⟩
    · show Sp p e below m Tm1228 163 #[.val (.int p0), .val (.int p1), .val (.int p2), .val (.int p3), .val (.int p4), .val (.int p5), .val (.ref b951), .val (.ref b997), .val (.int (2 : Int32)), .val (.int (3 : Int32)), .unset] [(.int v163_1227)] _
      refine XS.istore Xm1228.here hx rfl (hb hby at_163) rfl (l' := #[.val (.int p0), .val (.int p1), .val (.int p2), .val (.int p3), .val (.int p4), .val (.int p5), .val (.ref b951), .val (.ref b997), .val (.int (2 : Int32)), .val (.int (3 : Int32)), .val (.int v163_1227)]) rfl ?_
      refine XS.aload Xm1228.here hx rfl (hb hby at_165) rfl rfl ?_
      refine XS.iload Xm1228.here hx rfl (hb hby at_167) rfl ?_
      refine XS.iload Xm1228.here hx rfl (hb hby at_169) rfl ?_
      refine st1231 _ ?_
      show Sp p e below m T1231 174 #[.val (.int p0), .val (.int p1), .val (.int p2), .val (.int p3), .val (.int p4), .val (.int p5), .val (.ref b951), .val (.ref b997), .val (.int (2 : Int32)), .val (.int (3 : Int32)), .val (.int v163_1227)] [(.int (own_dg c2))] _
      refine XS.iload X1231.here hx rfl (hb hby at_174) rfl ?_
      refine XS.icmpNo X1231.here hx rfl (hb hby at_176) rfl (teq (own_fin23 hv1230 : ((own_dg c2) = v163_1227))).2 ?_
      refine XS.iconst X1231.here hx rfl (hb hby at_179) ?_
      refine XS.goto X1231.here hx rfl (pc0 := 180) (pc' := 184) rfl (hb hby at_180) (by decide) (by decide) ?_
      exact retN X1231 hx (t := .boolean) Bd.returns (by simp) (hb hby at_184) hr
    · show Q0 Z p0 p1 p2 p3 p4 p5 cs vf h0 n0 _ T1231.heap _
      rw [e1231]
      exact ⟨rfl, N1231⟩
  · rw [hf24, ht24] at pre1021
    obtain ⟨Tm1254, lm1254, v163_1253, Xm1254, em1254, Nm1254, hv1256, pre1255⟩ : ∃ (Tm1254 : State) (lm1254 : List Loc) (v163_1253 : Int32), Stand p l e room_1 s m #[(.int p0), (.int p1), (.int p2), (.int p3), (.int p4), (.int p5)] below meth c Tm1254 lm1254 4 20 ∧ Tm1254.heap = T1006.heap ∧ Fr n0 lm1254 ∧ (v163_1253 = if own_ok c0 0 2 4 = 0 then 0 else if own_ok c1 1 2 4 = 0 then 0 else if own_ok c2 2 2 4 = 0 then 0 else if own_ok c3 3 2 4 = 0 then 0 else 1) ∧ ∀ t, Sp p e below m Tm1254 163 #[.val (.int p0), .val (.int p1), .val (.int p2), .val (.int p3), .val (.int p4), .val (.int p5), .val (.ref b951), .val (.ref b997), .val (.int (2 : Int32)), .val (.int (4 : Int32)), .unset] [(.int v163_1253)] t → SG p e below G0 t := by
      obtain ⟨cl1232, Ar1232, -, S1232, -, H1232, -⟩ := id f1012
      have hin1232 : ¬ ((0 : Int32) < 0 ∨ cl1232.slots.size ≤ ((0 : Int32)).toNatClampNeg) := inb_of S1232 ⟨by decide, by decide⟩
      have hat1232 : cl1232.slots[((0 : Int32)).toNatClampNeg]? = some (.int c0) := H1232.at hin1232 rfl
      obtain ⟨_, _, ⟨T1233, L1233, k1233, n1233⟩, -, X1233, ⟨Lc1233, hQ1233, l1233, y1233, z1233⟩, st1233⟩ := Jvm.LawKit.callS Xm1020 hx hown (mvT hZ (H 61 _ rfl)) (mvT hZ (H 62 _ rfl)) (mvT hZ (H 3 _ rfl)) (mvT hZ (H 63 _ rfl)) (by decide) (backOf (W := 0) (rm15 l Z a0 hw [] c0 (0 : Int32) (2 : Int32) (4 : Int32)  T1006.heap n0 Zs1006 ) hZ (H 63 _ rfl) (H 3 _ rfl) (by decide) (by decide)) (g := (mkF m 107 #[.val (.int p0), .val (.int p1), .val (.int p2), .val (.int p3), .val (.int p4), .val (.int p5), .val (.ref b951), .val (.ref b997), .val (.int (2 : Int32)), .val (.int (4 : Int32)), .unset] [(.int (4 : Int32)), (.int (2 : Int32)), (.int (0 : Int32)), (.int c0)])) rfl (by rw [hml]; rfl) (argsL := [(.int c0), (.int (0 : Int32)), (.int (2 : Int32)), (.int (4 : Int32))]) (rest := []) (lenOf own_pd327 rfl) rfl (Nat.le_of_eq rfl) (hb hby at_107) (fun _ _ => ⟨rfl, em1020, (by decide : 4 + 0 ≤ _), (by decide : 20 + 0 ≤ _)⟩)
      dsimp only [Pt.U, Pt.locs, Pt.cells, Pt.slots] at X1233 l1233 y1233 z1233 st1233 hQ1233
      rw [l1233, y1233, z1233] at X1233
      obtain ⟨rfl, Nq1233, e1233⟩ := hQ1233
      have N1233 := Fr.app Nm1020 Nq1233
      have pre1234 : ∀ t, Sp p e below m T1233 110 #[.val (.int p0), .val (.int p1), .val (.int p2), .val (.int p3), .val (.int p4), .val (.int p5), .val (.ref b951), .val (.ref b997), .val (.int (2 : Int32)), .val (.int (4 : Int32)), .unset] [(.int (own_ok c0 (0 : Int32) (2 : Int32) (4 : Int32)))] t → SG p e below G0 t := by
        intro t k
        refine pre1021 t ?_
        show Sp p e below m Tm1020 91 #[.val (.int p0), .val (.int p1), .val (.int p2), .val (.int p3), .val (.int p4), .val (.int p5), .val (.ref b951), .val (.ref b997), .val (.int (2 : Int32)), .val (.int (4 : Int32)), .unset] [] _
        refine XS.iload Xm1020.here hx rfl (hb hby at_91) rfl ?_
        refine XS.iload Xm1020.here hx rfl (hb hby at_93) rfl ?_
        refine XS.icmpNo Xm1020.here hx rfl (hb hby at_95) rfl (tlt (by decide : ((2 : Int32) < (4 : Int32)))).2.1 ?_
        refine XS.aload Xm1020.here hx rfl (hb hby at_98) rfl rfl ?_
        refine XS.iconst Xm1020.here hx rfl (hb hby at_100) ?_
        refine Xm1020.caload hx (j := (0 : Int32)) (v := (.int c0)) (by rw [em1020]; exact Ar1232.1) (State.isArrayOf_alike hZ.alike Ar1232.2.1) Ar1232.2.2 hin1232 hat1232 (g := (mkF m 101 #[.val (.int p0), .val (.int p1), .val (.int p2), .val (.int p3), .val (.int p4), .val (.int p5), .val (.ref b951), .val (.ref b997), .val (.int (2 : Int32)), .val (.int (4 : Int32)), .unset] [(.int (0 : Int32)), (.ref b951)])) rfl rfl (hb hby at_101) _ ?_
        show Sp p e below m Tm1020 102 #[.val (.int p0), .val (.int p1), .val (.int p2), .val (.int p3), .val (.int p4), .val (.int p5), .val (.ref b951), .val (.ref b997), .val (.int (2 : Int32)), .val (.int (4 : Int32)), .unset] [(.int c0)] _
        refine XS.iconst Xm1020.here hx rfl (hb hby at_102) ?_
        refine XS.iload Xm1020.here hx rfl (hb hby at_103) rfl ?_
        refine XS.iload Xm1020.here hx rfl (hb hby at_105) rfl ?_
        refine st1233 _ ?_
        exact k
      by_cases hc110_1235 : (own_ok c0 (0 : Int32) (2 : Int32) (4 : Int32)) = (0 : Int32)
      · have pre1236 : ∀ t, Sp p e below m T1233 163 #[.val (.int p0), .val (.int p1), .val (.int p2), .val (.int p3), .val (.int p4), .val (.int p5), .val (.ref b951), .val (.ref b997), .val (.int (2 : Int32)), .val (.int (4 : Int32)), .unset] [(.int (0 : Int32))] t → SG p e below G0 t := by
          intro t k
          refine pre1234 t ?_
          show Sp p e below m T1233 110 #[.val (.int p0), .val (.int p1), .val (.int p2), .val (.int p3), .val (.int p4), .val (.int p5), .val (.ref b951), .val (.ref b997), .val (.int (2 : Int32)), .val (.int (4 : Int32)), .unset] [(.int (own_ok c0 (0 : Int32) (2 : Int32) (4 : Int32)))] _
          refine XS.ifYes X1233.here hx rfl (pc0 := 110) (pc' := 162) rfl (hb hby at_110) rfl ((if0 _ _).trans (teq hc110_1235).1) (by decide) (by decide) ?_
          refine XS.iconst X1233.here hx rfl (hb hby at_162) ?_
          exact k
        exact ⟨T1233, _, (0 : Int32), X1233, e1233, N1233, (by simp [hc110_1235]), pre1236⟩
      · obtain ⟨cl1237, Ar1237, -, S1237, -, H1237, -⟩ := id f1012
        have hin1237 : ¬ ((1 : Int32) < 0 ∨ cl1237.slots.size ≤ ((1 : Int32)).toNatClampNeg) := inb_of S1237 ⟨by decide, by decide⟩
        have hat1237 : cl1237.slots[((1 : Int32)).toNatClampNeg]? = some (.int c1) := H1237.at hin1237 rfl
        obtain ⟨_, _, ⟨T1238, L1238, k1238, n1238⟩, -, X1238, ⟨Lc1238, hQ1238, l1238, y1238, z1238⟩, st1238⟩ := Jvm.LawKit.callS X1233 hx hown (mvT hZ (H 61 _ rfl)) (mvT hZ (H 62 _ rfl)) (mvT hZ (H 3 _ rfl)) (mvT hZ (H 63 _ rfl)) (by decide) (backOf (W := 0) (rm15 l Z a0 hw [] c1 (1 : Int32) (2 : Int32) (4 : Int32)  T1006.heap n0 Zs1006 ) hZ (H 63 _ rfl) (H 3 _ rfl) (by decide) (by decide)) (g := (mkF m 122 #[.val (.int p0), .val (.int p1), .val (.int p2), .val (.int p3), .val (.int p4), .val (.int p5), .val (.ref b951), .val (.ref b997), .val (.int (2 : Int32)), .val (.int (4 : Int32)), .unset] [(.int (4 : Int32)), (.int (2 : Int32)), (.int (1 : Int32)), (.int c1)])) rfl (by rw [hml]; rfl) (argsL := [(.int c1), (.int (1 : Int32)), (.int (2 : Int32)), (.int (4 : Int32))]) (rest := []) (lenOf own_pd327 rfl) rfl (Nat.le_of_eq rfl) (hb hby at_122) (fun _ _ => ⟨rfl, e1233, (by decide : 4 + 0 ≤ _), (by decide : 20 + 0 ≤ _)⟩)
        dsimp only [Pt.U, Pt.locs, Pt.cells, Pt.slots] at X1238 l1238 y1238 z1238 st1238 hQ1238
        rw [l1238, y1238, z1238] at X1238
        obtain ⟨rfl, Nq1238, e1238⟩ := hQ1238
        have N1238 := Fr.app N1233 Nq1238
        have pre1239 : ∀ t, Sp p e below m T1238 125 #[.val (.int p0), .val (.int p1), .val (.int p2), .val (.int p3), .val (.int p4), .val (.int p5), .val (.ref b951), .val (.ref b997), .val (.int (2 : Int32)), .val (.int (4 : Int32)), .unset] [(.int (own_ok c1 (1 : Int32) (2 : Int32) (4 : Int32)))] t → SG p e below G0 t := by
          intro t k
          refine pre1234 t ?_
          show Sp p e below m T1233 110 #[.val (.int p0), .val (.int p1), .val (.int p2), .val (.int p3), .val (.int p4), .val (.int p5), .val (.ref b951), .val (.ref b997), .val (.int (2 : Int32)), .val (.int (4 : Int32)), .unset] [(.int (own_ok c0 (0 : Int32) (2 : Int32) (4 : Int32)))] _
          refine XS.ifNo X1233.here hx rfl (hb hby at_110) rfl ((if0 _ _).trans (feq hc110_1235).1) ?_
          refine XS.aload X1233.here hx rfl (hb hby at_113) rfl rfl ?_
          refine XS.iconst X1233.here hx rfl (hb hby at_115) ?_
          refine X1233.caload hx (j := (1 : Int32)) (v := (.int c1)) (by rw [e1233]; exact Ar1237.1) (State.isArrayOf_alike hZ.alike Ar1237.2.1) Ar1237.2.2 hin1237 hat1237 (g := (mkF m 116 #[.val (.int p0), .val (.int p1), .val (.int p2), .val (.int p3), .val (.int p4), .val (.int p5), .val (.ref b951), .val (.ref b997), .val (.int (2 : Int32)), .val (.int (4 : Int32)), .unset] [(.int (1 : Int32)), (.ref b951)])) rfl rfl (hb hby at_116) _ ?_
          show Sp p e below m T1233 117 #[.val (.int p0), .val (.int p1), .val (.int p2), .val (.int p3), .val (.int p4), .val (.int p5), .val (.ref b951), .val (.ref b997), .val (.int (2 : Int32)), .val (.int (4 : Int32)), .unset] [(.int c1)] _
          refine XS.iconst X1233.here hx rfl (hb hby at_117) ?_
          refine XS.iload X1233.here hx rfl (hb hby at_118) rfl ?_
          refine XS.iload X1233.here hx rfl (hb hby at_120) rfl ?_
          refine st1238 _ ?_
          exact k
        by_cases hc125_1240 : (own_ok c1 (1 : Int32) (2 : Int32) (4 : Int32)) = (0 : Int32)
        · have pre1241 : ∀ t, Sp p e below m T1238 163 #[.val (.int p0), .val (.int p1), .val (.int p2), .val (.int p3), .val (.int p4), .val (.int p5), .val (.ref b951), .val (.ref b997), .val (.int (2 : Int32)), .val (.int (4 : Int32)), .unset] [(.int (0 : Int32))] t → SG p e below G0 t := by
            intro t k
            refine pre1239 t ?_
            show Sp p e below m T1238 125 #[.val (.int p0), .val (.int p1), .val (.int p2), .val (.int p3), .val (.int p4), .val (.int p5), .val (.ref b951), .val (.ref b997), .val (.int (2 : Int32)), .val (.int (4 : Int32)), .unset] [(.int (own_ok c1 (1 : Int32) (2 : Int32) (4 : Int32)))] _
            refine XS.ifYes X1238.here hx rfl (pc0 := 125) (pc' := 162) rfl (hb hby at_125) rfl ((if0 _ _).trans (teq hc125_1240).1) (by decide) (by decide) ?_
            refine XS.iconst X1238.here hx rfl (hb hby at_162) ?_
            exact k
          exact ⟨T1238, _, (0 : Int32), X1238, e1238, N1238, (by simp [hc110_1235, hc125_1240]), pre1241⟩
        · obtain ⟨cl1242, Ar1242, -, S1242, -, H1242, -⟩ := id f1012
          have hin1242 : ¬ ((2 : Int32) < 0 ∨ cl1242.slots.size ≤ ((2 : Int32)).toNatClampNeg) := inb_of S1242 ⟨by decide, by decide⟩
          have hat1242 : cl1242.slots[((2 : Int32)).toNatClampNeg]? = some (.int c2) := H1242.at hin1242 rfl
          obtain ⟨_, _, ⟨T1243, L1243, k1243, n1243⟩, -, X1243, ⟨Lc1243, hQ1243, l1243, y1243, z1243⟩, st1243⟩ := Jvm.LawKit.callS X1238 hx hown (mvT hZ (H 61 _ rfl)) (mvT hZ (H 62 _ rfl)) (mvT hZ (H 3 _ rfl)) (mvT hZ (H 63 _ rfl)) (by decide) (backOf (W := 0) (rm15 l Z a0 hw [] c2 (2 : Int32) (2 : Int32) (4 : Int32)  T1006.heap n0 Zs1006 ) hZ (H 63 _ rfl) (H 3 _ rfl) (by decide) (by decide)) (g := (mkF m 137 #[.val (.int p0), .val (.int p1), .val (.int p2), .val (.int p3), .val (.int p4), .val (.int p5), .val (.ref b951), .val (.ref b997), .val (.int (2 : Int32)), .val (.int (4 : Int32)), .unset] [(.int (4 : Int32)), (.int (2 : Int32)), (.int (2 : Int32)), (.int c2)])) rfl (by rw [hml]; rfl) (argsL := [(.int c2), (.int (2 : Int32)), (.int (2 : Int32)), (.int (4 : Int32))]) (rest := []) (lenOf own_pd327 rfl) rfl (Nat.le_of_eq rfl) (hb hby at_137) (fun _ _ => ⟨rfl, e1238, (by decide : 4 + 0 ≤ _), (by decide : 20 + 0 ≤ _)⟩)
          dsimp only [Pt.U, Pt.locs, Pt.cells, Pt.slots] at X1243 l1243 y1243 z1243 st1243 hQ1243
          rw [l1243, y1243, z1243] at X1243
          obtain ⟨rfl, Nq1243, e1243⟩ := hQ1243
          have N1243 := Fr.app N1238 Nq1243
          have pre1244 : ∀ t, Sp p e below m T1243 140 #[.val (.int p0), .val (.int p1), .val (.int p2), .val (.int p3), .val (.int p4), .val (.int p5), .val (.ref b951), .val (.ref b997), .val (.int (2 : Int32)), .val (.int (4 : Int32)), .unset] [(.int (own_ok c2 (2 : Int32) (2 : Int32) (4 : Int32)))] t → SG p e below G0 t := by
            intro t k
            refine pre1239 t ?_
            show Sp p e below m T1238 125 #[.val (.int p0), .val (.int p1), .val (.int p2), .val (.int p3), .val (.int p4), .val (.int p5), .val (.ref b951), .val (.ref b997), .val (.int (2 : Int32)), .val (.int (4 : Int32)), .unset] [(.int (own_ok c1 (1 : Int32) (2 : Int32) (4 : Int32)))] _
            refine XS.ifNo X1238.here hx rfl (hb hby at_125) rfl ((if0 _ _).trans (feq hc125_1240).1) ?_
            refine XS.aload X1238.here hx rfl (hb hby at_128) rfl rfl ?_
            refine XS.iconst X1238.here hx rfl (hb hby at_130) ?_
            refine X1238.caload hx (j := (2 : Int32)) (v := (.int c2)) (by rw [e1238]; exact Ar1242.1) (State.isArrayOf_alike hZ.alike Ar1242.2.1) Ar1242.2.2 hin1242 hat1242 (g := (mkF m 131 #[.val (.int p0), .val (.int p1), .val (.int p2), .val (.int p3), .val (.int p4), .val (.int p5), .val (.ref b951), .val (.ref b997), .val (.int (2 : Int32)), .val (.int (4 : Int32)), .unset] [(.int (2 : Int32)), (.ref b951)])) rfl rfl (hb hby at_131) _ ?_
            show Sp p e below m T1238 132 #[.val (.int p0), .val (.int p1), .val (.int p2), .val (.int p3), .val (.int p4), .val (.int p5), .val (.ref b951), .val (.ref b997), .val (.int (2 : Int32)), .val (.int (4 : Int32)), .unset] [(.int c2)] _
            refine XS.iconst X1238.here hx rfl (hb hby at_132) ?_
            refine XS.iload X1238.here hx rfl (hb hby at_133) rfl ?_
            refine XS.iload X1238.here hx rfl (hb hby at_135) rfl ?_
            refine st1243 _ ?_
            exact k
          by_cases hc140_1245 : (own_ok c2 (2 : Int32) (2 : Int32) (4 : Int32)) = (0 : Int32)
          · have pre1246 : ∀ t, Sp p e below m T1243 163 #[.val (.int p0), .val (.int p1), .val (.int p2), .val (.int p3), .val (.int p4), .val (.int p5), .val (.ref b951), .val (.ref b997), .val (.int (2 : Int32)), .val (.int (4 : Int32)), .unset] [(.int (0 : Int32))] t → SG p e below G0 t := by
              intro t k
              refine pre1244 t ?_
              show Sp p e below m T1243 140 #[.val (.int p0), .val (.int p1), .val (.int p2), .val (.int p3), .val (.int p4), .val (.int p5), .val (.ref b951), .val (.ref b997), .val (.int (2 : Int32)), .val (.int (4 : Int32)), .unset] [(.int (own_ok c2 (2 : Int32) (2 : Int32) (4 : Int32)))] _
              refine XS.ifYes X1243.here hx rfl (pc0 := 140) (pc' := 162) rfl (hb hby at_140) rfl ((if0 _ _).trans (teq hc140_1245).1) (by decide) (by decide) ?_
              refine XS.iconst X1243.here hx rfl (hb hby at_162) ?_
              exact k
            exact ⟨T1243, _, (0 : Int32), X1243, e1243, N1243, (by simp [hc110_1235, hc125_1240, hc140_1245]), pre1246⟩
          · obtain ⟨cl1247, Ar1247, -, S1247, -, H1247, -⟩ := id f1012
            have hin1247 : ¬ ((3 : Int32) < 0 ∨ cl1247.slots.size ≤ ((3 : Int32)).toNatClampNeg) := inb_of S1247 ⟨by decide, by decide⟩
            have hat1247 : cl1247.slots[((3 : Int32)).toNatClampNeg]? = some (.int c3) := H1247.at hin1247 rfl
            obtain ⟨_, _, ⟨T1248, L1248, k1248, n1248⟩, -, X1248, ⟨Lc1248, hQ1248, l1248, y1248, z1248⟩, st1248⟩ := Jvm.LawKit.callS X1243 hx hown (mvT hZ (H 61 _ rfl)) (mvT hZ (H 62 _ rfl)) (mvT hZ (H 3 _ rfl)) (mvT hZ (H 63 _ rfl)) (by decide) (backOf (W := 0) (rm15 l Z a0 hw [] c3 (3 : Int32) (2 : Int32) (4 : Int32)  T1006.heap n0 Zs1006 ) hZ (H 63 _ rfl) (H 3 _ rfl) (by decide) (by decide)) (g := (mkF m 152 #[.val (.int p0), .val (.int p1), .val (.int p2), .val (.int p3), .val (.int p4), .val (.int p5), .val (.ref b951), .val (.ref b997), .val (.int (2 : Int32)), .val (.int (4 : Int32)), .unset] [(.int (4 : Int32)), (.int (2 : Int32)), (.int (3 : Int32)), (.int c3)])) rfl (by rw [hml]; rfl) (argsL := [(.int c3), (.int (3 : Int32)), (.int (2 : Int32)), (.int (4 : Int32))]) (rest := []) (lenOf own_pd327 rfl) rfl (Nat.le_of_eq rfl) (hb hby at_152) (fun _ _ => ⟨rfl, e1243, (by decide : 4 + 0 ≤ _), (by decide : 20 + 0 ≤ _)⟩)
            dsimp only [Pt.U, Pt.locs, Pt.cells, Pt.slots] at X1248 l1248 y1248 z1248 st1248 hQ1248
            rw [l1248, y1248, z1248] at X1248
            obtain ⟨rfl, Nq1248, e1248⟩ := hQ1248
            have N1248 := Fr.app N1243 Nq1248
            have pre1249 : ∀ t, Sp p e below m T1248 155 #[.val (.int p0), .val (.int p1), .val (.int p2), .val (.int p3), .val (.int p4), .val (.int p5), .val (.ref b951), .val (.ref b997), .val (.int (2 : Int32)), .val (.int (4 : Int32)), .unset] [(.int (own_ok c3 (3 : Int32) (2 : Int32) (4 : Int32)))] t → SG p e below G0 t := by
              intro t k
              refine pre1244 t ?_
              show Sp p e below m T1243 140 #[.val (.int p0), .val (.int p1), .val (.int p2), .val (.int p3), .val (.int p4), .val (.int p5), .val (.ref b951), .val (.ref b997), .val (.int (2 : Int32)), .val (.int (4 : Int32)), .unset] [(.int (own_ok c2 (2 : Int32) (2 : Int32) (4 : Int32)))] _
              refine XS.ifNo X1243.here hx rfl (hb hby at_140) rfl ((if0 _ _).trans (feq hc140_1245).1) ?_
              refine XS.aload X1243.here hx rfl (hb hby at_143) rfl rfl ?_
              refine XS.iconst X1243.here hx rfl (hb hby at_145) ?_
              refine X1243.caload hx (j := (3 : Int32)) (v := (.int c3)) (by rw [e1243]; exact Ar1247.1) (State.isArrayOf_alike hZ.alike Ar1247.2.1) Ar1247.2.2 hin1247 hat1247 (g := (mkF m 146 #[.val (.int p0), .val (.int p1), .val (.int p2), .val (.int p3), .val (.int p4), .val (.int p5), .val (.ref b951), .val (.ref b997), .val (.int (2 : Int32)), .val (.int (4 : Int32)), .unset] [(.int (3 : Int32)), (.ref b951)])) rfl rfl (hb hby at_146) _ ?_
              show Sp p e below m T1243 147 #[.val (.int p0), .val (.int p1), .val (.int p2), .val (.int p3), .val (.int p4), .val (.int p5), .val (.ref b951), .val (.ref b997), .val (.int (2 : Int32)), .val (.int (4 : Int32)), .unset] [(.int c3)] _
              refine XS.iconst X1243.here hx rfl (hb hby at_147) ?_
              refine XS.iload X1243.here hx rfl (hb hby at_148) rfl ?_
              refine XS.iload X1243.here hx rfl (hb hby at_150) rfl ?_
              refine st1248 _ ?_
              exact k
            by_cases hc155_1250 : (own_ok c3 (3 : Int32) (2 : Int32) (4 : Int32)) = (0 : Int32)
            · have pre1251 : ∀ t, Sp p e below m T1248 163 #[.val (.int p0), .val (.int p1), .val (.int p2), .val (.int p3), .val (.int p4), .val (.int p5), .val (.ref b951), .val (.ref b997), .val (.int (2 : Int32)), .val (.int (4 : Int32)), .unset] [(.int (0 : Int32))] t → SG p e below G0 t := by
                intro t k
                refine pre1249 t ?_
                show Sp p e below m T1248 155 #[.val (.int p0), .val (.int p1), .val (.int p2), .val (.int p3), .val (.int p4), .val (.int p5), .val (.ref b951), .val (.ref b997), .val (.int (2 : Int32)), .val (.int (4 : Int32)), .unset] [(.int (own_ok c3 (3 : Int32) (2 : Int32) (4 : Int32)))] _
                refine XS.ifYes X1248.here hx rfl (pc0 := 155) (pc' := 162) rfl (hb hby at_155) rfl ((if0 _ _).trans (teq hc155_1250).1) (by decide) (by decide) ?_
                refine XS.iconst X1248.here hx rfl (hb hby at_162) ?_
                exact k
              exact ⟨T1248, _, (0 : Int32), X1248, e1248, N1248, (by simp [hc110_1235, hc125_1240, hc140_1245, hc155_1250]), pre1251⟩
            · have pre1252 : ∀ t, Sp p e below m T1248 163 #[.val (.int p0), .val (.int p1), .val (.int p2), .val (.int p3), .val (.int p4), .val (.int p5), .val (.ref b951), .val (.ref b997), .val (.int (2 : Int32)), .val (.int (4 : Int32)), .unset] [(.int (1 : Int32))] t → SG p e below G0 t := by
                intro t k
                refine pre1249 t ?_
                show Sp p e below m T1248 155 #[.val (.int p0), .val (.int p1), .val (.int p2), .val (.int p3), .val (.int p4), .val (.int p5), .val (.ref b951), .val (.ref b997), .val (.int (2 : Int32)), .val (.int (4 : Int32)), .unset] [(.int (own_ok c3 (3 : Int32) (2 : Int32) (4 : Int32)))] _
                refine XS.ifNo X1248.here hx rfl (hb hby at_155) rfl ((if0 _ _).trans (feq hc155_1250).1) ?_
                refine XS.iconst X1248.here hx rfl (hb hby at_158) ?_
                refine XS.goto X1248.here hx rfl (pc0 := 159) (pc' := 163) rfl (hb hby at_159) (by decide) (by decide) ?_
                exact k
              exact ⟨T1248, _, (1 : Int32), X1248, e1248, N1248, (by simp [hc110_1235, hc125_1240, hc140_1245, hc155_1250]), pre1252⟩
    obtain ⟨_, _, ⟨T1257, L1257, k1257, n1257⟩, -, X1257, ⟨Lc1257, hQ1257, l1257, y1257, z1257⟩, st1257⟩ := Jvm.LawKit.callS Xm1254 hx hown (mvT hZ (H 34 _ rfl)) (mvT hZ (H 35 _ rfl)) (mvT hZ (H 36 _ rfl)) (mvT hZ (H 37 _ rfl)) (by decide) (backOf (W := 0) (rm8f2t4 l Z a0 hw [] b997 cs vf rrb_1006 rrk_1006 c0 c1 c2 c3 T1006.heap n0 Zs1006 O1006 Scs hcs Ssf hvf Sas Shs Sls p1006_0 p1006_1 p1006_2 hb0 hb1 hb2 hb3) hZ (H 37 _ rfl) (H 36 _ rfl) (by decide) (by decide)) (g := (mkF m 171 #[.val (.int p0), .val (.int p1), .val (.int p2), .val (.int p3), .val (.int p4), .val (.int p5), .val (.ref b951), .val (.ref b997), .val (.int (2 : Int32)), .val (.int (4 : Int32)), .val (.int v163_1253)] [(.int (4 : Int32)), (.int (2 : Int32)), (.ref b997)])) rfl (by rw [hml]; rfl) (argsL := [(.ref b997), (.int (2 : Int32)), (.int (4 : Int32))]) (rest := []) (lenOf own_pd326 rfl) rfl (Nat.le_of_eq rfl) (hb hby at_171) (fun _ _ => ⟨rfl, em1254, (by decide : 4 + 0 ≤ _), (by decide : 20 + 0 ≤ _)⟩)
    dsimp only [Pt.U, Pt.locs, Pt.cells, Pt.slots] at X1257 l1257 y1257 z1257 st1257 hQ1257
    rw [l1257, y1257, z1257] at X1257
    obtain ⟨rfl, Nq1257, e1257⟩ := hQ1257
    have N1257 := Fr.app Nm1254 Nq1257
    obtain ⟨fs, hr, hrun, hended, hW, hsame⟩ := X1257.leave (v := some (.int (1 : Int32))) (fun h => by rw [Bd.returns] at h; cases h)
    refine ⟨_, _, pre1255 _ ?_, hrun, hended, _, _, rfl, ?_, ⟨_, rfl⟩, hW, hsame.mono (by decide) (by decide)⟩
    · show Sp p e below m Tm1254 163 #[.val (.int p0), .val (.int p1), .val (.int p2), .val (.int p3), .val (.int p4), .val (.int p5), .val (.ref b951), .val (.ref b997), .val (.int (2 : Int32)), .val (.int (4 : Int32)), .unset] [(.int v163_1253)] _
      refine XS.istore Xm1254.here hx rfl (hb hby at_163) rfl (l' := #[.val (.int p0), .val (.int p1), .val (.int p2), .val (.int p3), .val (.int p4), .val (.int p5), .val (.ref b951), .val (.ref b997), .val (.int (2 : Int32)), .val (.int (4 : Int32)), .val (.int v163_1253)]) rfl ?_
      refine XS.aload Xm1254.here hx rfl (hb hby at_165) rfl rfl ?_
      refine XS.iload Xm1254.here hx rfl (hb hby at_167) rfl ?_
      refine XS.iload Xm1254.here hx rfl (hb hby at_169) rfl ?_
      refine st1257 _ ?_
      show Sp p e below m T1257 174 #[.val (.int p0), .val (.int p1), .val (.int p2), .val (.int p3), .val (.int p4), .val (.int p5), .val (.ref b951), .val (.ref b997), .val (.int (2 : Int32)), .val (.int (4 : Int32)), .val (.int v163_1253)] [(.int (if own_dg c2 = 0 then (0 : Int32) else (own_dg c3)))] _
      refine XS.iload X1257.here hx rfl (hb hby at_174) rfl ?_
      refine XS.icmpNo X1257.here hx rfl (hb hby at_176) rfl (teq (own_fin24 hv1256 : ((if own_dg c2 = 0 then (0 : Int32) else (own_dg c3)) = v163_1253))).2 ?_
      refine XS.iconst X1257.here hx rfl (hb hby at_179) ?_
      refine XS.goto X1257.here hx rfl (pc0 := 180) (pc' := 184) rfl (hb hby at_180) (by decide) (by decide) ?_
      exact retN X1257 hx (t := .boolean) Bd.returns (by simp) (hb hby at_184) hr
    · show Q0 Z p0 p1 p2 p3 p4 p5 cs vf h0 n0 _ T1257.heap _
      rw [e1257]
      exact ⟨rfl, N1257⟩
  · rw [hf34, ht34] at pre1021
    obtain ⟨Tm1280, lm1280, v163_1279, Xm1280, em1280, Nm1280, hv1282, pre1281⟩ : ∃ (Tm1280 : State) (lm1280 : List Loc) (v163_1279 : Int32), Stand p l e room_1 s m #[(.int p0), (.int p1), (.int p2), (.int p3), (.int p4), (.int p5)] below meth c Tm1280 lm1280 4 20 ∧ Tm1280.heap = T1006.heap ∧ Fr n0 lm1280 ∧ (v163_1279 = if own_ok c0 0 3 4 = 0 then 0 else if own_ok c1 1 3 4 = 0 then 0 else if own_ok c2 2 3 4 = 0 then 0 else if own_ok c3 3 3 4 = 0 then 0 else 1) ∧ ∀ t, Sp p e below m Tm1280 163 #[.val (.int p0), .val (.int p1), .val (.int p2), .val (.int p3), .val (.int p4), .val (.int p5), .val (.ref b951), .val (.ref b997), .val (.int (3 : Int32)), .val (.int (4 : Int32)), .unset] [(.int v163_1279)] t → SG p e below G0 t := by
      obtain ⟨cl1258, Ar1258, -, S1258, -, H1258, -⟩ := id f1012
      have hin1258 : ¬ ((0 : Int32) < 0 ∨ cl1258.slots.size ≤ ((0 : Int32)).toNatClampNeg) := inb_of S1258 ⟨by decide, by decide⟩
      have hat1258 : cl1258.slots[((0 : Int32)).toNatClampNeg]? = some (.int c0) := H1258.at hin1258 rfl
      obtain ⟨_, _, ⟨T1259, L1259, k1259, n1259⟩, -, X1259, ⟨Lc1259, hQ1259, l1259, y1259, z1259⟩, st1259⟩ := Jvm.LawKit.callS Xm1020 hx hown (mvT hZ (H 61 _ rfl)) (mvT hZ (H 62 _ rfl)) (mvT hZ (H 3 _ rfl)) (mvT hZ (H 63 _ rfl)) (by decide) (backOf (W := 0) (rm15 l Z a0 hw [] c0 (0 : Int32) (3 : Int32) (4 : Int32)  T1006.heap n0 Zs1006 ) hZ (H 63 _ rfl) (H 3 _ rfl) (by decide) (by decide)) (g := (mkF m 107 #[.val (.int p0), .val (.int p1), .val (.int p2), .val (.int p3), .val (.int p4), .val (.int p5), .val (.ref b951), .val (.ref b997), .val (.int (3 : Int32)), .val (.int (4 : Int32)), .unset] [(.int (4 : Int32)), (.int (3 : Int32)), (.int (0 : Int32)), (.int c0)])) rfl (by rw [hml]; rfl) (argsL := [(.int c0), (.int (0 : Int32)), (.int (3 : Int32)), (.int (4 : Int32))]) (rest := []) (lenOf own_pd327 rfl) rfl (Nat.le_of_eq rfl) (hb hby at_107) (fun _ _ => ⟨rfl, em1020, (by decide : 4 + 0 ≤ _), (by decide : 20 + 0 ≤ _)⟩)
      dsimp only [Pt.U, Pt.locs, Pt.cells, Pt.slots] at X1259 l1259 y1259 z1259 st1259 hQ1259
      rw [l1259, y1259, z1259] at X1259
      obtain ⟨rfl, Nq1259, e1259⟩ := hQ1259
      have N1259 := Fr.app Nm1020 Nq1259
      have pre1260 : ∀ t, Sp p e below m T1259 110 #[.val (.int p0), .val (.int p1), .val (.int p2), .val (.int p3), .val (.int p4), .val (.int p5), .val (.ref b951), .val (.ref b997), .val (.int (3 : Int32)), .val (.int (4 : Int32)), .unset] [(.int (own_ok c0 (0 : Int32) (3 : Int32) (4 : Int32)))] t → SG p e below G0 t := by
        intro t k
        refine pre1021 t ?_
        show Sp p e below m Tm1020 91 #[.val (.int p0), .val (.int p1), .val (.int p2), .val (.int p3), .val (.int p4), .val (.int p5), .val (.ref b951), .val (.ref b997), .val (.int (3 : Int32)), .val (.int (4 : Int32)), .unset] [] _
        refine XS.iload Xm1020.here hx rfl (hb hby at_91) rfl ?_
        refine XS.iload Xm1020.here hx rfl (hb hby at_93) rfl ?_
        refine XS.icmpNo Xm1020.here hx rfl (hb hby at_95) rfl (tlt (by decide : ((3 : Int32) < (4 : Int32)))).2.1 ?_
        refine XS.aload Xm1020.here hx rfl (hb hby at_98) rfl rfl ?_
        refine XS.iconst Xm1020.here hx rfl (hb hby at_100) ?_
        refine Xm1020.caload hx (j := (0 : Int32)) (v := (.int c0)) (by rw [em1020]; exact Ar1258.1) (State.isArrayOf_alike hZ.alike Ar1258.2.1) Ar1258.2.2 hin1258 hat1258 (g := (mkF m 101 #[.val (.int p0), .val (.int p1), .val (.int p2), .val (.int p3), .val (.int p4), .val (.int p5), .val (.ref b951), .val (.ref b997), .val (.int (3 : Int32)), .val (.int (4 : Int32)), .unset] [(.int (0 : Int32)), (.ref b951)])) rfl rfl (hb hby at_101) _ ?_
        show Sp p e below m Tm1020 102 #[.val (.int p0), .val (.int p1), .val (.int p2), .val (.int p3), .val (.int p4), .val (.int p5), .val (.ref b951), .val (.ref b997), .val (.int (3 : Int32)), .val (.int (4 : Int32)), .unset] [(.int c0)] _
        refine XS.iconst Xm1020.here hx rfl (hb hby at_102) ?_
        refine XS.iload Xm1020.here hx rfl (hb hby at_103) rfl ?_
        refine XS.iload Xm1020.here hx rfl (hb hby at_105) rfl ?_
        refine st1259 _ ?_
        exact k
      by_cases hc110_1261 : (own_ok c0 (0 : Int32) (3 : Int32) (4 : Int32)) = (0 : Int32)
      · have pre1262 : ∀ t, Sp p e below m T1259 163 #[.val (.int p0), .val (.int p1), .val (.int p2), .val (.int p3), .val (.int p4), .val (.int p5), .val (.ref b951), .val (.ref b997), .val (.int (3 : Int32)), .val (.int (4 : Int32)), .unset] [(.int (0 : Int32))] t → SG p e below G0 t := by
          intro t k
          refine pre1260 t ?_
          show Sp p e below m T1259 110 #[.val (.int p0), .val (.int p1), .val (.int p2), .val (.int p3), .val (.int p4), .val (.int p5), .val (.ref b951), .val (.ref b997), .val (.int (3 : Int32)), .val (.int (4 : Int32)), .unset] [(.int (own_ok c0 (0 : Int32) (3 : Int32) (4 : Int32)))] _
          refine XS.ifYes X1259.here hx rfl (pc0 := 110) (pc' := 162) rfl (hb hby at_110) rfl ((if0 _ _).trans (teq hc110_1261).1) (by decide) (by decide) ?_
          refine XS.iconst X1259.here hx rfl (hb hby at_162) ?_
          exact k
        exact ⟨T1259, _, (0 : Int32), X1259, e1259, N1259, (by simp [hc110_1261]), pre1262⟩
      · obtain ⟨cl1263, Ar1263, -, S1263, -, H1263, -⟩ := id f1012
        have hin1263 : ¬ ((1 : Int32) < 0 ∨ cl1263.slots.size ≤ ((1 : Int32)).toNatClampNeg) := inb_of S1263 ⟨by decide, by decide⟩
        have hat1263 : cl1263.slots[((1 : Int32)).toNatClampNeg]? = some (.int c1) := H1263.at hin1263 rfl
        obtain ⟨_, _, ⟨T1264, L1264, k1264, n1264⟩, -, X1264, ⟨Lc1264, hQ1264, l1264, y1264, z1264⟩, st1264⟩ := Jvm.LawKit.callS X1259 hx hown (mvT hZ (H 61 _ rfl)) (mvT hZ (H 62 _ rfl)) (mvT hZ (H 3 _ rfl)) (mvT hZ (H 63 _ rfl)) (by decide) (backOf (W := 0) (rm15 l Z a0 hw [] c1 (1 : Int32) (3 : Int32) (4 : Int32)  T1006.heap n0 Zs1006 ) hZ (H 63 _ rfl) (H 3 _ rfl) (by decide) (by decide)) (g := (mkF m 122 #[.val (.int p0), .val (.int p1), .val (.int p2), .val (.int p3), .val (.int p4), .val (.int p5), .val (.ref b951), .val (.ref b997), .val (.int (3 : Int32)), .val (.int (4 : Int32)), .unset] [(.int (4 : Int32)), (.int (3 : Int32)), (.int (1 : Int32)), (.int c1)])) rfl (by rw [hml]; rfl) (argsL := [(.int c1), (.int (1 : Int32)), (.int (3 : Int32)), (.int (4 : Int32))]) (rest := []) (lenOf own_pd327 rfl) rfl (Nat.le_of_eq rfl) (hb hby at_122) (fun _ _ => ⟨rfl, e1259, (by decide : 4 + 0 ≤ _), (by decide : 20 + 0 ≤ _)⟩)
        dsimp only [Pt.U, Pt.locs, Pt.cells, Pt.slots] at X1264 l1264 y1264 z1264 st1264 hQ1264
        rw [l1264, y1264, z1264] at X1264
        obtain ⟨rfl, Nq1264, e1264⟩ := hQ1264
        have N1264 := Fr.app N1259 Nq1264
        have pre1265 : ∀ t, Sp p e below m T1264 125 #[.val (.int p0), .val (.int p1), .val (.int p2), .val (.int p3), .val (.int p4), .val (.int p5), .val (.ref b951), .val (.ref b997), .val (.int (3 : Int32)), .val (.int (4 : Int32)), .unset] [(.int (own_ok c1 (1 : Int32) (3 : Int32) (4 : Int32)))] t → SG p e below G0 t := by
          intro t k
          refine pre1260 t ?_
          show Sp p e below m T1259 110 #[.val (.int p0), .val (.int p1), .val (.int p2), .val (.int p3), .val (.int p4), .val (.int p5), .val (.ref b951), .val (.ref b997), .val (.int (3 : Int32)), .val (.int (4 : Int32)), .unset] [(.int (own_ok c0 (0 : Int32) (3 : Int32) (4 : Int32)))] _
          refine XS.ifNo X1259.here hx rfl (hb hby at_110) rfl ((if0 _ _).trans (feq hc110_1261).1) ?_
          refine XS.aload X1259.here hx rfl (hb hby at_113) rfl rfl ?_
          refine XS.iconst X1259.here hx rfl (hb hby at_115) ?_
          refine X1259.caload hx (j := (1 : Int32)) (v := (.int c1)) (by rw [e1259]; exact Ar1263.1) (State.isArrayOf_alike hZ.alike Ar1263.2.1) Ar1263.2.2 hin1263 hat1263 (g := (mkF m 116 #[.val (.int p0), .val (.int p1), .val (.int p2), .val (.int p3), .val (.int p4), .val (.int p5), .val (.ref b951), .val (.ref b997), .val (.int (3 : Int32)), .val (.int (4 : Int32)), .unset] [(.int (1 : Int32)), (.ref b951)])) rfl rfl (hb hby at_116) _ ?_
          show Sp p e below m T1259 117 #[.val (.int p0), .val (.int p1), .val (.int p2), .val (.int p3), .val (.int p4), .val (.int p5), .val (.ref b951), .val (.ref b997), .val (.int (3 : Int32)), .val (.int (4 : Int32)), .unset] [(.int c1)] _
          refine XS.iconst X1259.here hx rfl (hb hby at_117) ?_
          refine XS.iload X1259.here hx rfl (hb hby at_118) rfl ?_
          refine XS.iload X1259.here hx rfl (hb hby at_120) rfl ?_
          refine st1264 _ ?_
          exact k
        by_cases hc125_1266 : (own_ok c1 (1 : Int32) (3 : Int32) (4 : Int32)) = (0 : Int32)
        · have pre1267 : ∀ t, Sp p e below m T1264 163 #[.val (.int p0), .val (.int p1), .val (.int p2), .val (.int p3), .val (.int p4), .val (.int p5), .val (.ref b951), .val (.ref b997), .val (.int (3 : Int32)), .val (.int (4 : Int32)), .unset] [(.int (0 : Int32))] t → SG p e below G0 t := by
            intro t k
            refine pre1265 t ?_
            show Sp p e below m T1264 125 #[.val (.int p0), .val (.int p1), .val (.int p2), .val (.int p3), .val (.int p4), .val (.int p5), .val (.ref b951), .val (.ref b997), .val (.int (3 : Int32)), .val (.int (4 : Int32)), .unset] [(.int (own_ok c1 (1 : Int32) (3 : Int32) (4 : Int32)))] _
            refine XS.ifYes X1264.here hx rfl (pc0 := 125) (pc' := 162) rfl (hb hby at_125) rfl ((if0 _ _).trans (teq hc125_1266).1) (by decide) (by decide) ?_
            refine XS.iconst X1264.here hx rfl (hb hby at_162) ?_
            exact k
          exact ⟨T1264, _, (0 : Int32), X1264, e1264, N1264, (by simp [hc110_1261, hc125_1266]), pre1267⟩
        · obtain ⟨cl1268, Ar1268, -, S1268, -, H1268, -⟩ := id f1012
          have hin1268 : ¬ ((2 : Int32) < 0 ∨ cl1268.slots.size ≤ ((2 : Int32)).toNatClampNeg) := inb_of S1268 ⟨by decide, by decide⟩
          have hat1268 : cl1268.slots[((2 : Int32)).toNatClampNeg]? = some (.int c2) := H1268.at hin1268 rfl
          obtain ⟨_, _, ⟨T1269, L1269, k1269, n1269⟩, -, X1269, ⟨Lc1269, hQ1269, l1269, y1269, z1269⟩, st1269⟩ := Jvm.LawKit.callS X1264 hx hown (mvT hZ (H 61 _ rfl)) (mvT hZ (H 62 _ rfl)) (mvT hZ (H 3 _ rfl)) (mvT hZ (H 63 _ rfl)) (by decide) (backOf (W := 0) (rm15 l Z a0 hw [] c2 (2 : Int32) (3 : Int32) (4 : Int32)  T1006.heap n0 Zs1006 ) hZ (H 63 _ rfl) (H 3 _ rfl) (by decide) (by decide)) (g := (mkF m 137 #[.val (.int p0), .val (.int p1), .val (.int p2), .val (.int p3), .val (.int p4), .val (.int p5), .val (.ref b951), .val (.ref b997), .val (.int (3 : Int32)), .val (.int (4 : Int32)), .unset] [(.int (4 : Int32)), (.int (3 : Int32)), (.int (2 : Int32)), (.int c2)])) rfl (by rw [hml]; rfl) (argsL := [(.int c2), (.int (2 : Int32)), (.int (3 : Int32)), (.int (4 : Int32))]) (rest := []) (lenOf own_pd327 rfl) rfl (Nat.le_of_eq rfl) (hb hby at_137) (fun _ _ => ⟨rfl, e1264, (by decide : 4 + 0 ≤ _), (by decide : 20 + 0 ≤ _)⟩)
          dsimp only [Pt.U, Pt.locs, Pt.cells, Pt.slots] at X1269 l1269 y1269 z1269 st1269 hQ1269
          rw [l1269, y1269, z1269] at X1269
          obtain ⟨rfl, Nq1269, e1269⟩ := hQ1269
          have N1269 := Fr.app N1264 Nq1269
          have pre1270 : ∀ t, Sp p e below m T1269 140 #[.val (.int p0), .val (.int p1), .val (.int p2), .val (.int p3), .val (.int p4), .val (.int p5), .val (.ref b951), .val (.ref b997), .val (.int (3 : Int32)), .val (.int (4 : Int32)), .unset] [(.int (own_ok c2 (2 : Int32) (3 : Int32) (4 : Int32)))] t → SG p e below G0 t := by
            intro t k
            refine pre1265 t ?_
            show Sp p e below m T1264 125 #[.val (.int p0), .val (.int p1), .val (.int p2), .val (.int p3), .val (.int p4), .val (.int p5), .val (.ref b951), .val (.ref b997), .val (.int (3 : Int32)), .val (.int (4 : Int32)), .unset] [(.int (own_ok c1 (1 : Int32) (3 : Int32) (4 : Int32)))] _
            refine XS.ifNo X1264.here hx rfl (hb hby at_125) rfl ((if0 _ _).trans (feq hc125_1266).1) ?_
            refine XS.aload X1264.here hx rfl (hb hby at_128) rfl rfl ?_
            refine XS.iconst X1264.here hx rfl (hb hby at_130) ?_
            refine X1264.caload hx (j := (2 : Int32)) (v := (.int c2)) (by rw [e1264]; exact Ar1268.1) (State.isArrayOf_alike hZ.alike Ar1268.2.1) Ar1268.2.2 hin1268 hat1268 (g := (mkF m 131 #[.val (.int p0), .val (.int p1), .val (.int p2), .val (.int p3), .val (.int p4), .val (.int p5), .val (.ref b951), .val (.ref b997), .val (.int (3 : Int32)), .val (.int (4 : Int32)), .unset] [(.int (2 : Int32)), (.ref b951)])) rfl rfl (hb hby at_131) _ ?_
            show Sp p e below m T1264 132 #[.val (.int p0), .val (.int p1), .val (.int p2), .val (.int p3), .val (.int p4), .val (.int p5), .val (.ref b951), .val (.ref b997), .val (.int (3 : Int32)), .val (.int (4 : Int32)), .unset] [(.int c2)] _
            refine XS.iconst X1264.here hx rfl (hb hby at_132) ?_
            refine XS.iload X1264.here hx rfl (hb hby at_133) rfl ?_
            refine XS.iload X1264.here hx rfl (hb hby at_135) rfl ?_
            refine st1269 _ ?_
            exact k
          by_cases hc140_1271 : (own_ok c2 (2 : Int32) (3 : Int32) (4 : Int32)) = (0 : Int32)
          · have pre1272 : ∀ t, Sp p e below m T1269 163 #[.val (.int p0), .val (.int p1), .val (.int p2), .val (.int p3), .val (.int p4), .val (.int p5), .val (.ref b951), .val (.ref b997), .val (.int (3 : Int32)), .val (.int (4 : Int32)), .unset] [(.int (0 : Int32))] t → SG p e below G0 t := by
              intro t k
              refine pre1270 t ?_
              show Sp p e below m T1269 140 #[.val (.int p0), .val (.int p1), .val (.int p2), .val (.int p3), .val (.int p4), .val (.int p5), .val (.ref b951), .val (.ref b997), .val (.int (3 : Int32)), .val (.int (4 : Int32)), .unset] [(.int (own_ok c2 (2 : Int32) (3 : Int32) (4 : Int32)))] _
              refine XS.ifYes X1269.here hx rfl (pc0 := 140) (pc' := 162) rfl (hb hby at_140) rfl ((if0 _ _).trans (teq hc140_1271).1) (by decide) (by decide) ?_
              refine XS.iconst X1269.here hx rfl (hb hby at_162) ?_
              exact k
            exact ⟨T1269, _, (0 : Int32), X1269, e1269, N1269, (by simp [hc110_1261, hc125_1266, hc140_1271]), pre1272⟩
          · obtain ⟨cl1273, Ar1273, -, S1273, -, H1273, -⟩ := id f1012
            have hin1273 : ¬ ((3 : Int32) < 0 ∨ cl1273.slots.size ≤ ((3 : Int32)).toNatClampNeg) := inb_of S1273 ⟨by decide, by decide⟩
            have hat1273 : cl1273.slots[((3 : Int32)).toNatClampNeg]? = some (.int c3) := H1273.at hin1273 rfl
            obtain ⟨_, _, ⟨T1274, L1274, k1274, n1274⟩, -, X1274, ⟨Lc1274, hQ1274, l1274, y1274, z1274⟩, st1274⟩ := Jvm.LawKit.callS X1269 hx hown (mvT hZ (H 61 _ rfl)) (mvT hZ (H 62 _ rfl)) (mvT hZ (H 3 _ rfl)) (mvT hZ (H 63 _ rfl)) (by decide) (backOf (W := 0) (rm15 l Z a0 hw [] c3 (3 : Int32) (3 : Int32) (4 : Int32)  T1006.heap n0 Zs1006 ) hZ (H 63 _ rfl) (H 3 _ rfl) (by decide) (by decide)) (g := (mkF m 152 #[.val (.int p0), .val (.int p1), .val (.int p2), .val (.int p3), .val (.int p4), .val (.int p5), .val (.ref b951), .val (.ref b997), .val (.int (3 : Int32)), .val (.int (4 : Int32)), .unset] [(.int (4 : Int32)), (.int (3 : Int32)), (.int (3 : Int32)), (.int c3)])) rfl (by rw [hml]; rfl) (argsL := [(.int c3), (.int (3 : Int32)), (.int (3 : Int32)), (.int (4 : Int32))]) (rest := []) (lenOf own_pd327 rfl) rfl (Nat.le_of_eq rfl) (hb hby at_152) (fun _ _ => ⟨rfl, e1269, (by decide : 4 + 0 ≤ _), (by decide : 20 + 0 ≤ _)⟩)
            dsimp only [Pt.U, Pt.locs, Pt.cells, Pt.slots] at X1274 l1274 y1274 z1274 st1274 hQ1274
            rw [l1274, y1274, z1274] at X1274
            obtain ⟨rfl, Nq1274, e1274⟩ := hQ1274
            have N1274 := Fr.app N1269 Nq1274
            have pre1275 : ∀ t, Sp p e below m T1274 155 #[.val (.int p0), .val (.int p1), .val (.int p2), .val (.int p3), .val (.int p4), .val (.int p5), .val (.ref b951), .val (.ref b997), .val (.int (3 : Int32)), .val (.int (4 : Int32)), .unset] [(.int (own_ok c3 (3 : Int32) (3 : Int32) (4 : Int32)))] t → SG p e below G0 t := by
              intro t k
              refine pre1270 t ?_
              show Sp p e below m T1269 140 #[.val (.int p0), .val (.int p1), .val (.int p2), .val (.int p3), .val (.int p4), .val (.int p5), .val (.ref b951), .val (.ref b997), .val (.int (3 : Int32)), .val (.int (4 : Int32)), .unset] [(.int (own_ok c2 (2 : Int32) (3 : Int32) (4 : Int32)))] _
              refine XS.ifNo X1269.here hx rfl (hb hby at_140) rfl ((if0 _ _).trans (feq hc140_1271).1) ?_
              refine XS.aload X1269.here hx rfl (hb hby at_143) rfl rfl ?_
              refine XS.iconst X1269.here hx rfl (hb hby at_145) ?_
              refine X1269.caload hx (j := (3 : Int32)) (v := (.int c3)) (by rw [e1269]; exact Ar1273.1) (State.isArrayOf_alike hZ.alike Ar1273.2.1) Ar1273.2.2 hin1273 hat1273 (g := (mkF m 146 #[.val (.int p0), .val (.int p1), .val (.int p2), .val (.int p3), .val (.int p4), .val (.int p5), .val (.ref b951), .val (.ref b997), .val (.int (3 : Int32)), .val (.int (4 : Int32)), .unset] [(.int (3 : Int32)), (.ref b951)])) rfl rfl (hb hby at_146) _ ?_
              show Sp p e below m T1269 147 #[.val (.int p0), .val (.int p1), .val (.int p2), .val (.int p3), .val (.int p4), .val (.int p5), .val (.ref b951), .val (.ref b997), .val (.int (3 : Int32)), .val (.int (4 : Int32)), .unset] [(.int c3)] _
              refine XS.iconst X1269.here hx rfl (hb hby at_147) ?_
              refine XS.iload X1269.here hx rfl (hb hby at_148) rfl ?_
              refine XS.iload X1269.here hx rfl (hb hby at_150) rfl ?_
              refine st1274 _ ?_
              exact k
            by_cases hc155_1276 : (own_ok c3 (3 : Int32) (3 : Int32) (4 : Int32)) = (0 : Int32)
            · have pre1277 : ∀ t, Sp p e below m T1274 163 #[.val (.int p0), .val (.int p1), .val (.int p2), .val (.int p3), .val (.int p4), .val (.int p5), .val (.ref b951), .val (.ref b997), .val (.int (3 : Int32)), .val (.int (4 : Int32)), .unset] [(.int (0 : Int32))] t → SG p e below G0 t := by
                intro t k
                refine pre1275 t ?_
                show Sp p e below m T1274 155 #[.val (.int p0), .val (.int p1), .val (.int p2), .val (.int p3), .val (.int p4), .val (.int p5), .val (.ref b951), .val (.ref b997), .val (.int (3 : Int32)), .val (.int (4 : Int32)), .unset] [(.int (own_ok c3 (3 : Int32) (3 : Int32) (4 : Int32)))] _
                refine XS.ifYes X1274.here hx rfl (pc0 := 155) (pc' := 162) rfl (hb hby at_155) rfl ((if0 _ _).trans (teq hc155_1276).1) (by decide) (by decide) ?_
                refine XS.iconst X1274.here hx rfl (hb hby at_162) ?_
                exact k
              exact ⟨T1274, _, (0 : Int32), X1274, e1274, N1274, (by simp [hc110_1261, hc125_1266, hc140_1271, hc155_1276]), pre1277⟩
            · have pre1278 : ∀ t, Sp p e below m T1274 163 #[.val (.int p0), .val (.int p1), .val (.int p2), .val (.int p3), .val (.int p4), .val (.int p5), .val (.ref b951), .val (.ref b997), .val (.int (3 : Int32)), .val (.int (4 : Int32)), .unset] [(.int (1 : Int32))] t → SG p e below G0 t := by
                intro t k
                refine pre1275 t ?_
                show Sp p e below m T1274 155 #[.val (.int p0), .val (.int p1), .val (.int p2), .val (.int p3), .val (.int p4), .val (.int p5), .val (.ref b951), .val (.ref b997), .val (.int (3 : Int32)), .val (.int (4 : Int32)), .unset] [(.int (own_ok c3 (3 : Int32) (3 : Int32) (4 : Int32)))] _
                refine XS.ifNo X1274.here hx rfl (hb hby at_155) rfl ((if0 _ _).trans (feq hc155_1276).1) ?_
                refine XS.iconst X1274.here hx rfl (hb hby at_158) ?_
                refine XS.goto X1274.here hx rfl (pc0 := 159) (pc' := 163) rfl (hb hby at_159) (by decide) (by decide) ?_
                exact k
              exact ⟨T1274, _, (1 : Int32), X1274, e1274, N1274, (by simp [hc110_1261, hc125_1266, hc140_1271, hc155_1276]), pre1278⟩
    obtain ⟨_, _, ⟨T1283, L1283, k1283, n1283⟩, -, X1283, ⟨Lc1283, hQ1283, l1283, y1283, z1283⟩, st1283⟩ := Jvm.LawKit.callS Xm1280 hx hown (mvT hZ (H 34 _ rfl)) (mvT hZ (H 35 _ rfl)) (mvT hZ (H 36 _ rfl)) (mvT hZ (H 37 _ rfl)) (by decide) (backOf (W := 0) (rm8f3t4 l Z a0 hw [] b997 cs vf rrb_1006 rrk_1006 c0 c1 c2 c3 T1006.heap n0 Zs1006 O1006 Scs hcs Ssf hvf Sas Shs Sls p1006_0 p1006_1 p1006_2 hb0 hb1 hb2 hb3) hZ (H 37 _ rfl) (H 36 _ rfl) (by decide) (by decide)) (g := (mkF m 171 #[.val (.int p0), .val (.int p1), .val (.int p2), .val (.int p3), .val (.int p4), .val (.int p5), .val (.ref b951), .val (.ref b997), .val (.int (3 : Int32)), .val (.int (4 : Int32)), .val (.int v163_1279)] [(.int (4 : Int32)), (.int (3 : Int32)), (.ref b997)])) rfl (by rw [hml]; rfl) (argsL := [(.ref b997), (.int (3 : Int32)), (.int (4 : Int32))]) (rest := []) (lenOf own_pd326 rfl) rfl (Nat.le_of_eq rfl) (hb hby at_171) (fun _ _ => ⟨rfl, em1280, (by decide : 4 + 0 ≤ _), (by decide : 20 + 0 ≤ _)⟩)
    dsimp only [Pt.U, Pt.locs, Pt.cells, Pt.slots] at X1283 l1283 y1283 z1283 st1283 hQ1283
    rw [l1283, y1283, z1283] at X1283
    obtain ⟨rfl, Nq1283, e1283⟩ := hQ1283
    have N1283 := Fr.app Nm1280 Nq1283
    obtain ⟨fs, hr, hrun, hended, hW, hsame⟩ := X1283.leave (v := some (.int (1 : Int32))) (fun h => by rw [Bd.returns] at h; cases h)
    refine ⟨_, _, pre1281 _ ?_, hrun, hended, _, _, rfl, ?_, ⟨_, rfl⟩, hW, hsame.mono (by decide) (by decide)⟩
    · show Sp p e below m Tm1280 163 #[.val (.int p0), .val (.int p1), .val (.int p2), .val (.int p3), .val (.int p4), .val (.int p5), .val (.ref b951), .val (.ref b997), .val (.int (3 : Int32)), .val (.int (4 : Int32)), .unset] [(.int v163_1279)] _
      refine XS.istore Xm1280.here hx rfl (hb hby at_163) rfl (l' := #[.val (.int p0), .val (.int p1), .val (.int p2), .val (.int p3), .val (.int p4), .val (.int p5), .val (.ref b951), .val (.ref b997), .val (.int (3 : Int32)), .val (.int (4 : Int32)), .val (.int v163_1279)]) rfl ?_
      refine XS.aload Xm1280.here hx rfl (hb hby at_165) rfl rfl ?_
      refine XS.iload Xm1280.here hx rfl (hb hby at_167) rfl ?_
      refine XS.iload Xm1280.here hx rfl (hb hby at_169) rfl ?_
      refine st1283 _ ?_
      show Sp p e below m T1283 174 #[.val (.int p0), .val (.int p1), .val (.int p2), .val (.int p3), .val (.int p4), .val (.int p5), .val (.ref b951), .val (.ref b997), .val (.int (3 : Int32)), .val (.int (4 : Int32)), .val (.int v163_1279)] [(.int (own_dg c3))] _
      refine XS.iload X1283.here hx rfl (hb hby at_174) rfl ?_
      refine XS.icmpNo X1283.here hx rfl (hb hby at_176) rfl (teq (own_fin34 hv1282 : ((own_dg c3) = v163_1279))).2 ?_
      refine XS.iconst X1283.here hx rfl (hb hby at_179) ?_
      refine XS.goto X1283.here hx rfl (pc0 := 180) (pc' := 184) rfl (hb hby at_180) (by decide) (by decide) ?_
      exact retN X1283 hx (t := .boolean) Bd.returns (by simp) (hb hby at_184) hr
    · show Q0 Z p0 p1 p2 p3 p4 p5 cs vf h0 n0 _ T1283.heap _
      rw [e1283]
      exact ⟨rfl, N1283⟩
theorem comes_1 {Post : Tables → Env → Array Value → State → Outcome → State → Prop} (hpost : ∀ tb e args s v u, (limb_1_1.after args s (.returned v) u = true ∧ limb_1_2.after args s (.returned v) u = true ∧ True) → FrameEnd s (.returned v) u (Jvm.fieldLocs frame_1_writes args s ++ Jvm.arrayLocs frame_1_arrays args s ++ Jvm.staticLocs frame_1_statics s) 16 128 → Post tb e args s (.returned v) u) :
    ArmFor flags0 classFile x code maxLocals ret World_1 tables_1 room_1 Calls_1 rest_1 Pre_1 Post := by
  intro l hfl _ _ p e ha hc hk s m args below hf hA hF happ hP
  obtain ⟨hcalls, hrest, hpre⟩ := hP
  obtain ⟨-, -, -, hnamed, -, -, -, hat⟩ := (Spec.applies_iff hf).mp happ
  obtain ⟨hg, hn⟩ := and_e (Cond.before_iff.mp (show (Jvm.Cond.and given_1 narrow_1).before args s = true from hpre))
  obtain ⟨hcount, ga0⟩ := and_e hg
  obtain ⟨gi0, ga1⟩ := and_e ga0
  obtain ⟨gi1, ga2⟩ := and_e ga1
  obtain ⟨gi2, ga3⟩ := and_e ga2
  obtain ⟨gi3, ga4⟩ := and_e ga3
  obtain ⟨gi4, ga5⟩ := and_e ga4
  have gi5 := ga5
  obtain ⟨w0, w1, w2, w3, w4, w5, rfl⟩ : ∃ w0 w1 w2 w3 w4 w5 : Value, args = #[w0, w1, w2, w3, w4, w5] := by
    have hs : args.size = 6 := by simpa [Cond.value, given_1] using hcount
    obtain ⟨L⟩ := args
    match L, hs with
    | [w0, w1, w2, w3, w4, w5], _ => exact ⟨w0, w1, w2, w3, w4, w5, rfl⟩
  have hw := fun d (hd : d ∈ tables_1) => atoms_spec (ws := Jvm.Cond.code x code maxLocals ret :: tables_1) hat d (List.mem_cons_of_mem _ hd)
  have hfit : Fit s := fun {y c} hc i hi => by
    obtain ⟨ha, rfl⟩ := Array.getElem?_eq_some_iff.mp hc
    have q := List.all_eq_true.mp ((Array.all_eq_true_iff_forall_mem.mp hF) _ (Array.getElem_mem ha)) i (List.mem_range.mpr hi)
    simpa [Array.getElem?_eq_getElem hi] using q
  obtain ⟨hsets, hown0⟩ := atoms_of _ (rest_1_c_eq ▸ (show rest_1_c.before _ s = true from hrest))
  have hr0 := Cond.before_iff.mp hown0
  obtain ⟨i0, ei0⟩ := is_v gi0
  obtain rfl : w0 = (.int i0) := Option.some.inj ei0
  obtain ⟨i1, ei1⟩ := is_v gi1
  obtain rfl : w1 = (.int i1) := Option.some.inj ei1
  obtain ⟨i2, ei2⟩ := is_v gi2
  obtain rfl : w2 = (.int i2) := Option.some.inj ei2
  obtain ⟨i3, ei3⟩ := is_v gi3
  obtain rfl : w3 = (.int i3) := Option.some.inj ei3
  obtain ⟨i4, ei4⟩ := is_v gi4
  obtain rfl : w4 = (.int i4) := Option.some.inj ei4
  obtain ⟨i5, ei5⟩ := is_v gi5
  obtain rfl : w5 = (.int i5) := Option.some.inj ei5
  obtain ⟨cs, evcs⟩ := is_v (Cond.before_iff.mp (hsets _ (List.mem_of_getElem? (i := 1) rfl)))
  have Scs := Sta.start evcs (Or.inl (hsets _ (List.mem_of_getElem? (i := 0) rfl)))
  have hcs : ¬ cs = (0 : Int32) := gotF (Cond.eq_ints evcs (Term.int_eval 0)) (not_v (Cond.before_iff.mp (hsets _ (List.mem_of_getElem? (i := 2) rfl))))
  obtain ⟨vf, evf, hvf⟩ := isR_v (Cond.before_iff.mp (hsets _ (List.mem_of_getElem? (i := 8) rfl)))
  have Ssf := Sta.start evf (Or.inl (hsets _ (List.mem_of_getElem? (i := 7) rfl)))
  have Sas := Sta.start (own_eqi (Cond.before_iff.mp (hsets _ (List.mem_of_getElem? (i := 12) rfl)))) (Or.inl (hsets _ (List.mem_of_getElem? (i := 11) rfl)))
  have Shs := Sta.start (own_eqi (Cond.before_iff.mp (hsets _ (List.mem_of_getElem? (i := 15) rfl)))) (Or.inl (hsets _ (List.mem_of_getElem? (i := 14) rfl)))
  have Sls := Sta.start (own_eqi (Cond.before_iff.mp (hsets _ (List.mem_of_getElem? (i := 18) rfl)))) (Or.inl (hsets _ (List.mem_of_getElem? (i := 17) rfl)))
  obtain ⟨n, o, h1, h2, h3, _, L, rfl, ⟨rfl, N⟩, hq⟩ := rm0 l s _ hw tables_1 i0 i1 i2 i3 i4 i5 cs vf s.heap s.heap.size (Nat.le_refl _) (Old.start s) Scs hcs Ssf hvf Sas Shs Sls p e ha hc hk s m _ below hf ((Spec.applies_iff_loose hf).mp happ).1 ⟨rfl, State.Warmed39.refl s, rfl⟩ trivial
  refine ⟨n, _, h1, h2, h3, hpost _ _ _ _ _ _ ⟨Cond.after_iff.mpr rfl, Cond.after_iff.mpr (eq_i res_at (Term.int_eval (1)) rfl), trivial⟩ ⟨hq.1, hq.2.1, (hq.2.2.sift fun y hy => Or.inr (N y hy)).mono (by decide) (by decide)⟩⟩
theorem main_1_1 : Claimed_1_1 := comes_1 fun _ _ _ _ _ _ h hF => ⟨h.1, hF⟩
theorem main_1_2 : Claimed_1_2 := comes_1 fun _ _ _ _ _ _ h hF => ⟨h.2.1, hF⟩
end Jvm.Pilot.@@N@@
namespace Jvm.Pilot.@@N@@
open Jvm Jvm.ClassFile Sem Op Lib Jvm.Free Jvm.Stand Jvm.Pilot.@@N@@.Jvm.D
/-! MADE BY PROGRAM (witnessworld.py) out of the Statement's table words and the real class files: 21 classes; the members and pool entries that the words name. The judged class is class 1, her method 1. -/
namespace start1
open Jvm.ClassFile
def u (s : String) : CpInfo := .utf8 (stringToUtf16 s)
/-- a pool by its gaps: so many unusable entries, then the entry; so many at the end -/
def gap : Nat → List CpInfo → List CpInfo
  | 0, r => r
  | n + 1, r => .unusable :: gap n r
def poolList (es : List (Nat × CpInfo)) (last : Nat) : List CpInfo := es.foldr (fun e r => gap e.1 (e.2 :: r)) (gap last [])
def pool (es : List (Nat × CpInfo)) (last : Nat) : Array CpInfo := ⟨poolList es last⟩
def fileOf (pool : Array CpInfo) (this : Nat) (attrs : Array Attribute := #[]) (ms : Array MethodInfo := #[]) (fl : Nat := 33) (sup : Nat := 0) (ifs : Array Nat := #[]) (fds : Array FieldInfo := #[]) : ClassFile where
  minorVersion := 0
  majorVersion := 65
  constantPool := pool
  accessFlags := fl
  thisClass := this
  superClass := sup
  interfaces := ifs
  fields := fds
  methods := ms
  attributes := attrs
def plain (name : String) (sup : Option ClassId) : Class where
  name := name
  kind := .ordinary
  loader := none
  accessFlags := 33
  super := sup
  interfaces := #[]
  cf := none
  fields := #[]
  methods := #[]
  instanceTypes := #[]
  staticTypes := #[]
  resolved := #[]
  callSites := []
  init := .initialized
  statics := none
  mirror := none

def pool0 : Array CpInfo := pool [(5, u "<init>"), (0, u "()V"), (1, .class_ 10), (1, u "java/lang/Object")] 113

def k0c0 : Code := { maxStack := 0, maxLocals := 1, code := object_method_1_code, exceptionTable := #[], attributes := #[] }
def k0m0 : Method := { name := "<init>", desc := "()V", sig := { parameters := [], returnType := none }, accessFlags := 1, code := some k0c0 }
/-- java/lang/Object -/
def k0 : Class := { plain "java/lang/Object" none with
  accessFlags := 33
  interfaces := #[]
  cf := some (fileOf pool0 8 #[] #[{ accessFlags := 1, nameIndex := 5, descriptorIndex := 6, attributes := #[] }] 33 0 #[] #[])
  fields := #[]
  methods := #[k0m0]
  instanceTypes := #[]
  staticTypes := #[]
  resolved := Array.replicate 124 none
  statics := none }

def pool1 : Array CpInfo := pool [(2, .class_ 4), (1, u "java/lang/Object"), (0, u "<init>"), (0, u "()V"), (0, .methodref 8 9), (0, .class_ 10), (0, .nameAndType 11 12), (0, u "com/example/vestwright/vestwright/PlainNumberIsDigitsPinLaw"), (0, u "pick"), (0, u "(I)C"), (0, .class_ 14), (0, u "java/lang/String"), (0, .methodref 13 16), (0, .nameAndType 5 17), (0, u "([C)V"), (0, .methodref 19 20), (0, .class_ 21), (0, .nameAndType 22 23), (0, u "java/lang/Math"), (0, u "max"), (0, u "(II)I"), (0, .methodref 8 25), (0, .nameAndType 26 27), (0, u "ok"), (0, u "(CIII)Z"), (0, .methodref 29 30), (0, .class_ 31), (0, .nameAndType 32 33), (0, u "com/example/vestwright/vestwright/PlainNumber"), (0, u "isDigits"), (0, u "(Ljava/lang/String;II)Z"), (2, u "law"), (0, u "(IIIIII)Z")] 5

def k1m0 : Method := { name := "<init>", desc := "()V", sig := { parameters := [], returnType := none }, accessFlags := 1, code := none }
def k1c1 : Code := { maxStack := 4, maxLocals := 11, code := code, exceptionTable := #[], attributes := #[] }
def k1m1 : Method := { name := "law", desc := "(IIIIII)Z", sig := { parameters := [.int, .int, .int, .int, .int, .int], returnType := some .boolean }, accessFlags := 9, code := some k1c1 }
def k1c2 : Code := { maxStack := 3, maxLocals := 1, code := method_3_code, exceptionTable := #[], attributes := #[] }
def k1m2 : Method := { name := "pick", desc := "(I)C", sig := { parameters := [.int], returnType := some .char }, accessFlags := 10, code := some k1c2 }
def k1c3 : Code := { maxStack := 2, maxLocals := 4, code := method_4_code, exceptionTable := #[], attributes := #[] }
def k1m3 : Method := { name := "ok", desc := "(CIII)Z", sig := { parameters := [.char, .int, .int, .int], returnType := some .boolean }, accessFlags := 10, code := some k1c3 }
/-- com/example/vestwright/vestwright/PlainNumberIsDigitsPinLaw -/
def k1 : Class := { plain "com/example/vestwright/vestwright/PlainNumberIsDigitsPinLaw" (some 0) with
  accessFlags := 49
  interfaces := #[]
  cf := some (fileOf pool1 8 #[] #[{ accessFlags := 1, nameIndex := 5, descriptorIndex := 6, attributes := #[] }, { accessFlags := 9, nameIndex := 36, descriptorIndex := 37, attributes := #[] }, { accessFlags := 10, nameIndex := 11, descriptorIndex := 12, attributes := #[] }, { accessFlags := 10, nameIndex := 26, descriptorIndex := 27, attributes := #[] }] 49 2 #[] #[])
  fields := #[]
  methods := #[k1m0, k1m1, k1m2, k1m3]
  instanceTypes := #[]
  staticTypes := #[]
  resolved := Array.replicate 43 none
  statics := none }

def pool2 : Array CpInfo := pool [(1, .class_ 2), (0, u "java/io/Serializable"), (0, .class_ 4), (0, u "java/lang/Object")] 2

/-- java/io/Serializable -/
def k2 : Class := { plain "java/io/Serializable" (some 0) with
  accessFlags := 1537
  interfaces := #[]
  cf := some (fileOf pool2 1 #[] #[] 1537 3 #[] #[])
  fields := #[]
  methods := #[]
  instanceTypes := #[]
  staticTypes := #[]
  resolved := Array.replicate 7 none
  statics := none }

def pool3 : Array CpInfo := pool [(1, .class_ 2), (0, u "java/lang/Comparable"), (0, .class_ 4), (0, u "java/lang/Object")] 7

/-- java/lang/Comparable -/
def k3 : Class := { plain "java/lang/Comparable" (some 0) with
  accessFlags := 1537
  interfaces := #[]
  cf := some (fileOf pool3 1 #[] #[] 1537 3 #[] #[])
  fields := #[]
  methods := #[]
  instanceTypes := #[]
  staticTypes := #[]
  resolved := Array.replicate 12 none
  statics := none }

def pool4 : Array CpInfo := pool [(2, .class_ 4), (1, u "java/lang/CharSequence"), (42, .class_ 48), (0, u "java/lang/CharSequence$1CodePointIterator"), (10, .class_ 60), (0, u "java/lang/CharSequence$1CharIterator"), (5, .class_ 67), (0, u "java/lang/Object")] 63

/-- java/lang/CharSequence -/
def k4 : Class := { plain "java/lang/CharSequence" (some 0) with
  accessFlags := 1537
  interfaces := #[]
  cf := some (fileOf pool4 2 #[.nestMembers #[47, 59]] #[] 1537 66 #[] #[])
  fields := #[]
  methods := #[]
  instanceTypes := #[]
  staticTypes := #[]
  resolved := Array.replicate 131 none
  statics := none }

def pool5 : Array CpInfo := pool [(1, .class_ 2), (0, u "java/lang/constant/Constable"), (0, .class_ 4), (0, u "java/lang/Object")] 6

/-- java/lang/constant/Constable -/
def k5 : Class := { plain "java/lang/constant/Constable" (some 0) with
  accessFlags := 1537
  interfaces := #[]
  cf := some (fileOf pool5 1 #[] #[] 1537 3 #[] #[])
  fields := #[]
  methods := #[]
  instanceTypes := #[]
  staticTypes := #[]
  resolved := Array.replicate 11 none
  statics := none }

def pool6 : Array CpInfo := pool [(1, .class_ 2), (0, u "java/lang/constant/ConstantDesc"), (0, .class_ 4), (0, u "java/lang/Object")] 32

/-- java/lang/constant/ConstantDesc -/
def k6 : Class := { plain "java/lang/constant/ConstantDesc" (some 0) with
  accessFlags := 1537
  interfaces := #[]
  cf := some (fileOf pool6 1 #[] #[] 1537 3 #[] #[])
  fields := #[]
  methods := #[]
  instanceTypes := #[]
  staticTypes := #[]
  resolved := Array.replicate 37 none
  statics := none }

def pool7 : Array CpInfo := pool [(1, .methodref 2 3), (0, .class_ 4), (0, .nameAndType 5 6), (0, u "java/lang/Object"), (0, u "<init>"), (0, u "()V"), (2, .fieldref 10 11), (0, .class_ 12), (0, .nameAndType 13 14), (0, u "java/lang/String"), (0, u "value"), (0, u "[B"), (0, .fieldref 10 16), (0, .nameAndType 17 18), (0, u "coder"), (0, u "B"), (2, u "hash"), (0, u "I"), (2, u "hashIsZero"), (0, u "Z"), (0, .methodref 10 28), (0, .nameAndType 5 29), (0, u "([CIILjava/lang/Void;)V"), (8, .fieldref 10 39), (0, .nameAndType 40 26), (0, u "COMPACT_STRINGS"), (1, .class_ 44), (1, u "java/lang/StringUTF16"), (0, u "compress"), (1, .methodref 42 48), (0, .nameAndType 49 50), (0, u "coderFromArrayLen"), (0, u "([BI)B"), (56, .class_ 109), (1, u "java/lang/StringLatin1"), (32, u "()Z"), (34, .methodref 42 178), (0, .nameAndType 45 179), (0, u "([CII)[B"), (183, u "([BI)C"), (27, u "(II)V"), (35, u "(I)C"), (64, .methodref 10 493), (0, .nameAndType 494 142), (0, u "isLatin1"), (0, .methodref 107 496), (0, .nameAndType 497 363), (0, u "charAt"), (0, .methodref 42 496), (2, u "checkIndex"), (73, .class_ 576), (0, u "java/lang/CharSequence"), (22, u "CASE_INSENSITIVE_ORDER"), (0, u "Ljava/util/Comparator;"), (409, u "([C)V"), (42, .fieldref 1054 1055), (0, .class_ 1056), (0, .nameAndType 1057 1058), (0, u "jdk/internal/util/Preconditions"), (0, u "SIOOBE_FORMATTER"), (0, u "Ljava/util/function/BiFunction;"), (0, .methodref 1054 1060), (0, .nameAndType 501 1061), (0, u "(IILjava/util/function/BiFunction;)I"), (39, u "serialPersistentFields"), (0, u "[Ljava/io/ObjectStreamField;"), (0, .class_ 1104), (0, u "java/lang/String$CaseInsensitiveComparator"), (1, .class_ 1107), (0, u "java/io/Serializable"), (0, .class_ 1109), (0, u "java/lang/Comparable"), (0, .class_ 1111), (0, u "java/lang/constant/Constable"), (0, .class_ 1113), (0, u "java/lang/constant/ConstantDesc"), (2, u "serialVersionUID"), (0, u "J"), (3, u "REPL"), (0, u "C"), (2, u "LATIN1"), (1, u "UTF16")] 323

def k7m0 : Method := { name := "<init>", desc := "()V", sig := { parameters := [], returnType := none }, accessFlags := 1, code := none }
def k7c1 : Code := { maxStack := 5, maxLocals := 2, code := jdk_42_method_3_code, exceptionTable := #[], attributes := #[] }
def k7m1 : Method := { name := "<init>", desc := "([C)V", sig := { parameters := [(.array .char)], returnType := none }, accessFlags := 1, code := some k7c1 }
def k7c2 : Code := { maxStack := 2, maxLocals := 2, code := jdk_42_method_56_code, exceptionTable := #[], attributes := #[] }
def k7m2 : Method := { name := "charAt", desc := "(I)C", sig := { parameters := [.int], returnType := some .char }, accessFlags := 1, code := some k7c2 }
def k7c3 : Code := { maxStack := 4, maxLocals := 6, code := jdk_42_method_149_code, exceptionTable := #[], attributes := #[] }
def k7m3 : Method := { name := "<init>", desc := "([CIILjava/lang/Void;)V", sig := { parameters := [(.array .char), .int, .int, (.object "java/lang/Void")], returnType := none }, accessFlags := 2, code := some k7c3 }
def k7c4 : Code := { maxStack := 1, maxLocals := 1, code := jdk_42_method_154_code, exceptionTable := #[], attributes := #[] }
def k7m4 : Method := { name := "isLatin1", desc := "()Z", sig := { parameters := [], returnType := some .boolean }, accessFlags := 0, code := some k7c4 }
def k7c5 : Code := { maxStack := 3, maxLocals := 2, code := jdk_42_method_155_code, exceptionTable := #[], attributes := #[] }
def k7m5 : Method := { name := "checkIndex", desc := "(II)V", sig := { parameters := [.int, .int], returnType := none }, accessFlags := 8, code := some k7c5 }
/-- java/lang/String -/
def k7 : Class := { plain "java/lang/String" (some 0) with
  accessFlags := 49
  interfaces := #[2, 3, 4, 5, 6]
  cf := some (fileOf pool7 10 #[.nestMembers #[1103]] #[{ accessFlags := 1, nameIndex := 5, descriptorIndex := 6, attributes := #[] }, { accessFlags := 1, nameIndex := 5, descriptorIndex := 1010, attributes := #[] }, { accessFlags := 1, nameIndex := 497, descriptorIndex := 427, attributes := #[] }, { accessFlags := 2, nameIndex := 5, descriptorIndex := 29, attributes := #[] }, { accessFlags := 0, nameIndex := 494, descriptorIndex := 142, attributes := #[] }, { accessFlags := 8, nameIndex := 501, descriptorIndex := 391, attributes := #[] }] 49 2 #[1106, 1108, 575, 1110, 1112] #[{ accessFlags := 18, nameIndex := 13, descriptorIndex := 14, attributes := #[] }, { accessFlags := 18, nameIndex := 17, descriptorIndex := 18, attributes := #[] }, { accessFlags := 2, nameIndex := 21, descriptorIndex := 22, attributes := #[] }, { accessFlags := 2, nameIndex := 25, descriptorIndex := 26, attributes := #[] }, { accessFlags := 26, nameIndex := 1116, descriptorIndex := 1117, attributes := #[] }, { accessFlags := 24, nameIndex := 40, descriptorIndex := 26, attributes := #[] }, { accessFlags := 26, nameIndex := 1101, descriptorIndex := 1102, attributes := #[] }, { accessFlags := 26, nameIndex := 1121, descriptorIndex := 1122, attributes := #[] }, { accessFlags := 25, nameIndex := 599, descriptorIndex := 600, attributes := #[] }, { accessFlags := 24, nameIndex := 1125, descriptorIndex := 18, attributes := #[] }, { accessFlags := 24, nameIndex := 1127, descriptorIndex := 18, attributes := #[] }])
  fields := #[{ name := "value", type := (.array .byte), accessFlags := 18, slot := 0, constantValue := 0 }, { name := "coder", type := .byte, accessFlags := 18, slot := 1, constantValue := 0 }, { name := "hash", type := .int, accessFlags := 2, slot := 2, constantValue := 0 }, { name := "hashIsZero", type := .boolean, accessFlags := 2, slot := 3, constantValue := 0 }, { name := "serialVersionUID", type := .long, accessFlags := 26, slot := 0, constantValue := 0 }, { name := "COMPACT_STRINGS", type := .boolean, accessFlags := 24, slot := 1, constantValue := 0 }, { name := "serialPersistentFields", type := (.array (.object "java/io/ObjectStreamField")), accessFlags := 26, slot := 2, constantValue := 0 }, { name := "REPL", type := .char, accessFlags := 26, slot := 3, constantValue := 0 }, { name := "CASE_INSENSITIVE_ORDER", type := (.object "java/util/Comparator"), accessFlags := 25, slot := 4, constantValue := 0 }, { name := "LATIN1", type := .byte, accessFlags := 24, slot := 5, constantValue := 0 }, { name := "UTF16", type := .byte, accessFlags := 24, slot := 6, constantValue := 0 }]
  methods := #[k7m0, k7m1, k7m2, k7m3, k7m4, k7m5]
  instanceTypes := #[(.array .byte), .byte, .int, .boolean]
  staticTypes := #[.long, .boolean, (.array (.object "java/io/ObjectStreamField")), .char, (.object "java/util/Comparator"), .byte, .byte]
  resolved := Array.replicate 1451 none
  statics := some 0 }

def pool8 : Array CpInfo := pool [(3, .class_ 4), (0, u "java/lang/String"), (1, .class_ 8), (1, u "java/lang/Object"), (0, u "<init>"), (0, u "()V"), (0, .methodref 12 13), (0, .class_ 14), (0, .nameAndType 15 16), (0, u "java/lang/StringUTF16"), (0, u "newBytesLength"), (0, u "(I)I"), (3, .integer 1073741823), (23, .fieldref 12 45), (0, .nameAndType 46 47), (0, u "$assertionsDisabled"), (0, u "Z"), (0, .methodref 12 49), (0, .nameAndType 50 51), (0, u "length"), (0, u "([B)I"), (7, .fieldref 12 60), (0, .nameAndType 61 62), (0, u "HI_BYTE_SHIFT"), (0, u "I"), (0, .fieldref 12 64), (0, .nameAndType 65 62), (0, u "LO_BYTE_SHIFT"), (1, .methodref 12 68), (0, .nameAndType 69 70), (0, u "checkIndex"), (0, u "(I[B)V"), (0, .methodref 12 72), (0, .nameAndType 73 74), (0, u "getChar"), (0, u "([BI)C"), (32, .methodref 12 108), (0, .nameAndType 109 110), (0, u "newBytesFor"), (0, u "(I)[B"), (0, .methodref 12 112), (0, .nameAndType 113 114), (0, u "putChar"), (0, u "([BII)V"), (0, .methodref 12 116), (0, .nameAndType 117 118), (0, u "compress"), (0, u "([CI[BII)I"), (0, .methodref 12 120), (0, .nameAndType 121 122), (0, u "toBytes"), (0, u "([CII)[B"), (138, u "coderFromArrayLen"), (0, u "([BI)B"), (106, .class_ 371), (1, u "java/lang/StringUTF16$LinesSpliterator"), (20, u "charAt"), (21, .methodref 3 415), (0, .nameAndType 69 416), (0, u "(II)V"), (13, u "MAX_LENGTH"), (196, .class_ 628), (0, u "java/lang/StringUTF16$CodePointsSpliterator"), (0, .class_ 630), (0, u "java/lang/StringUTF16$CharsSpliterator")] 4

def k8m0 : Method := { name := "<init>", desc := "()V", sig := { parameters := [], returnType := none }, accessFlags := 0, code := none }
def k8c1 : Code := { maxStack := 1, maxLocals := 1, code := jdk_52_method_2_code, exceptionTable := #[], attributes := #[] }
def k8m1 : Method := { name := "newBytesFor", desc := "(I)[B", sig := { parameters := [.int], returnType := some (.array .byte) }, accessFlags := 9, code := some k8c1 }
def k8c2 : Code := { maxStack := 4, maxLocals := 1, code := jdk_52_method_3_code, exceptionTable := #[], attributes := #[] }
def k8m2 : Method := { name := "newBytesLength", desc := "(I)I", sig := { parameters := [.int], returnType := some .int }, accessFlags := 9, code := some k8c2 }
def k8c3 : Code := { maxStack := 4, maxLocals := 3, code := jdk_52_method_4_code, exceptionTable := #[], attributes := #[] }
def k8m3 : Method := { name := "putChar", desc := "([BII)V", sig := { parameters := [(.array .byte), .int, .int], returnType := none }, accessFlags := 8, code := some k8c3 }
def k8c4 : Code := { maxStack := 3, maxLocals := 2, code := jdk_52_method_5_code, exceptionTable := #[], attributes := #[] }
def k8m4 : Method := { name := "getChar", desc := "([BI)C", sig := { parameters := [(.array .byte), .int], returnType := some .char }, accessFlags := 8, code := some k8c4 }
def k8c5 : Code := { maxStack := 2, maxLocals := 1, code := jdk_52_method_6_code, exceptionTable := #[], attributes := #[] }
def k8m5 : Method := { name := "length", desc := "([B)I", sig := { parameters := [(.array .byte)], returnType := some .int }, accessFlags := 9, code := some k8c5 }
def k8c6 : Code := { maxStack := 4, maxLocals := 5, code := jdk_52_method_14_code, exceptionTable := #[], attributes := #[] }
def k8m6 : Method := { name := "toBytes", desc := "([CII)[B", sig := { parameters := [(.array .char), .int, .int], returnType := some (.array .byte) }, accessFlags := 9, code := some k8c6 }
def k8c7 : Code := { maxStack := 2, maxLocals := 2, code := jdk_52_method_15_code, exceptionTable := #[], attributes := #[] }
def k8m7 : Method := { name := "coderFromArrayLen", desc := "([BI)B", sig := { parameters := [(.array .byte), .int], returnType := some .byte }, accessFlags := 8, code := some k8c7 }
def k8c8 : Code := { maxStack := 5, maxLocals := 6, code := jdk_52_method_16_code, exceptionTable := #[], attributes := #[] }
def k8m8 : Method := { name := "compress", desc := "([CII)[B", sig := { parameters := [(.array .char), .int, .int], returnType := some (.array .byte) }, accessFlags := 9, code := some k8c8 }
def k8c9 : Code := { maxStack := 3, maxLocals := 7, code := jdk_52_method_21_code, exceptionTable := #[], attributes := #[] }
def k8m9 : Method := { name := "compress", desc := "([CI[BII)I", sig := { parameters := [(.array .char), .int, (.array .byte), .int, .int], returnType := some .int }, accessFlags := 9, code := some k8c9 }
def k8c10 : Code := { maxStack := 2, maxLocals := 2, code := jdk_52_method_83_code, exceptionTable := #[], attributes := #[] }
def k8m10 : Method := { name := "charAt", desc := "([BI)C", sig := { parameters := [(.array .byte), .int], returnType := some .char }, accessFlags := 9, code := some k8c10 }
def k8c11 : Code := { maxStack := 2, maxLocals := 2, code := jdk_52_method_91_code, exceptionTable := #[], attributes := #[] }
def k8m11 : Method := { name := "checkIndex", desc := "(I[B)V", sig := { parameters := [.int, (.array .byte)], returnType := none }, accessFlags := 9, code := some k8c11 }
/-- java/lang/StringUTF16 -/
def k8 : Class := { plain "java/lang/StringUTF16" (some 0) with
  accessFlags := 48
  interfaces := #[]
  cf := some (fileOf pool8 12 #[.nestMembers #[627, 629, 369]] #[{ accessFlags := 0, nameIndex := 9, descriptorIndex := 10, attributes := #[] }, { accessFlags := 9, nameIndex := 109, descriptorIndex := 110, attributes := #[] }, { accessFlags := 9, nameIndex := 15, descriptorIndex := 16, attributes := #[] }, { accessFlags := 8, nameIndex := 113, descriptorIndex := 114, attributes := #[] }, { accessFlags := 8, nameIndex := 73, descriptorIndex := 74, attributes := #[] }, { accessFlags := 9, nameIndex := 50, descriptorIndex := 51, attributes := #[] }, { accessFlags := 9, nameIndex := 121, descriptorIndex := 122, attributes := #[] }, { accessFlags := 8, nameIndex := 261, descriptorIndex := 262, attributes := #[] }, { accessFlags := 9, nameIndex := 117, descriptorIndex := 122, attributes := #[] }, { accessFlags := 9, nameIndex := 117, descriptorIndex := 118, attributes := #[] }, { accessFlags := 9, nameIndex := 392, descriptorIndex := 74, attributes := #[] }, { accessFlags := 9, nameIndex := 69, descriptorIndex := 70, attributes := #[] }] 48 6 #[] #[{ accessFlags := 26, nameIndex := 61, descriptorIndex := 62, attributes := #[] }, { accessFlags := 26, nameIndex := 65, descriptorIndex := 62, attributes := #[] }, { accessFlags := 24, nameIndex := 430, descriptorIndex := 62, attributes := #[] }, { accessFlags := 4120, nameIndex := 46, descriptorIndex := 47, attributes := #[] }])
  fields := #[{ name := "HI_BYTE_SHIFT", type := .int, accessFlags := 26, slot := 0, constantValue := 0 }, { name := "LO_BYTE_SHIFT", type := .int, accessFlags := 26, slot := 1, constantValue := 0 }, { name := "MAX_LENGTH", type := .int, accessFlags := 24, slot := 2, constantValue := 0 }, { name := "$assertionsDisabled", type := .boolean, accessFlags := 4120, slot := 3, constantValue := 0 }]
  methods := #[k8m0, k8m1, k8m2, k8m3, k8m4, k8m5, k8m6, k8m7, k8m8, k8m9, k8m10, k8m11]
  instanceTypes := #[]
  staticTypes := #[.int, .int, .int, .boolean]
  resolved := Array.replicate 635 none
  statics := some 1 }

def pool9 : Array CpInfo := pool [(2, .class_ 4), (1, u "java/lang/Object"), (0, u "<init>"), (0, u "()V"), (1, .class_ 10), (1, u "com/example/vestwright/vestwright/PlainNumber"), (28, .class_ 41), (1, u "java/lang/String"), (4, u "isDigits"), (0, u "(Ljava/lang/String;II)Z"), (7, .methodref 39 56), (0, .nameAndType 57 58), (0, u "charAt"), (0, u "(I)C"), (9, u "MOST_YEARS_DIGITS"), (0, u "I")] 28

def k9m0 : Method := { name := "<init>", desc := "()V", sig := { parameters := [], returnType := none }, accessFlags := 2, code := none }
def k9c1 : Code := { maxStack := 2, maxLocals := 6, code := prog_43_method_4_code, exceptionTable := #[], attributes := #[] }
def k9m1 : Method := { name := "isDigits", desc := "(Ljava/lang/String;II)Z", sig := { parameters := [(.object "java/lang/String"), .int, .int], returnType := some .boolean }, accessFlags := 8, code := some k9c1 }
/-- com/example/vestwright/vestwright/PlainNumber -/
def k9 : Class := { plain "com/example/vestwright/vestwright/PlainNumber" (some 0) with
  accessFlags := 32
  interfaces := #[]
  cf := some (fileOf pool9 8 #[] #[{ accessFlags := 2, nameIndex := 5, descriptorIndex := 6, attributes := #[] }, { accessFlags := 8, nameIndex := 46, descriptorIndex := 47, attributes := #[] }] 32 2 #[] #[{ accessFlags := 26, nameIndex := 68, descriptorIndex := 69, attributes := #[] }])
  fields := #[{ name := "MOST_YEARS_DIGITS", type := .int, accessFlags := 26, slot := 0, constantValue := 0 }]
  methods := #[k9m0, k9m1]
  instanceTypes := #[]
  staticTypes := #[.int]
  resolved := Array.replicate 98 none
  statics := none }

def pool10 : Array CpInfo := pool [(1, .class_ 2), (0, u "java/lang/Math"), (1, .class_ 6), (1, u "java/lang/Object"), (0, u "<init>"), (0, u "()V"), (89, .class_ 100), (1, u "java/lang/Math$RandomNumberGeneratorHolder"), (71, u "negativeZeroFloatBits"), (0, u "J"), (2, u "negativeZeroDoubleBits"), (21, u "max"), (46, u "$assertionsDisabled"), (0, u "Z"), (88, u "(II)I"), (2, u "twoToTheDoubleScaleDown"), (0, u "D"), (4, u "twoToTheDoubleScaleUp"), (9, u "E"), (3, u "PI"), (2, u "TAU"), (2, u "DEGREES_TO_RADIANS"), (0, u "RADIANS_TO_DEGREES")] 94

def k10m0 : Method := { name := "<init>", desc := "()V", sig := { parameters := [], returnType := none }, accessFlags := 2, code := none }
def k10c1 : Code := { maxStack := 2, maxLocals := 2, code := jdk_29_method_65_code, exceptionTable := #[], attributes := #[] }
def k10m1 : Method := { name := "max", desc := "(II)I", sig := { parameters := [.int, .int], returnType := some .int }, accessFlags := 9, code := some k10c1 }
/-- java/lang/Math -/
def k10 : Class := { plain "java/lang/Math" (some 0) with
  accessFlags := 49
  interfaces := #[]
  cf := some (fileOf pool10 1 #[.nestMembers #[98]] #[{ accessFlags := 2, nameIndex := 7, descriptorIndex := 8, attributes := #[] }, { accessFlags := 9, nameIndex := 198, descriptorIndex := 335, attributes := #[] }] 49 4 #[] #[{ accessFlags := 25, nameIndex := 354, descriptorIndex := 339, attributes := #[] }, { accessFlags := 25, nameIndex := 358, descriptorIndex := 339, attributes := #[] }, { accessFlags := 25, nameIndex := 361, descriptorIndex := 339, attributes := #[] }, { accessFlags := 26, nameIndex := 364, descriptorIndex := 339, attributes := #[] }, { accessFlags := 26, nameIndex := 365, descriptorIndex := 339, attributes := #[] }, { accessFlags := 26, nameIndex := 172, descriptorIndex := 173, attributes := #[] }, { accessFlags := 26, nameIndex := 176, descriptorIndex := 173, attributes := #[] }, { accessFlags := 8, nameIndex := 344, descriptorIndex := 339, attributes := #[] }, { accessFlags := 8, nameIndex := 338, descriptorIndex := 339, attributes := #[] }, { accessFlags := 4120, nameIndex := 245, descriptorIndex := 246, attributes := #[] }])
  fields := #[{ name := "E", type := .double, accessFlags := 25, slot := 0, constantValue := 0 }, { name := "PI", type := .double, accessFlags := 25, slot := 1, constantValue := 0 }, { name := "TAU", type := .double, accessFlags := 25, slot := 2, constantValue := 0 }, { name := "DEGREES_TO_RADIANS", type := .double, accessFlags := 26, slot := 3, constantValue := 0 }, { name := "RADIANS_TO_DEGREES", type := .double, accessFlags := 26, slot := 4, constantValue := 0 }, { name := "negativeZeroFloatBits", type := .long, accessFlags := 26, slot := 5, constantValue := 0 }, { name := "negativeZeroDoubleBits", type := .long, accessFlags := 26, slot := 6, constantValue := 0 }, { name := "twoToTheDoubleScaleUp", type := .double, accessFlags := 8, slot := 7, constantValue := 0 }, { name := "twoToTheDoubleScaleDown", type := .double, accessFlags := 8, slot := 8, constantValue := 0 }, { name := "$assertionsDisabled", type := .boolean, accessFlags := 4120, slot := 9, constantValue := 0 }]
  methods := #[k10m0, k10m1]
  instanceTypes := #[]
  staticTypes := #[.double, .double, .double, .double, .double, .long, .long, .double, .double, .boolean]
  resolved := Array.replicate 460 none
  statics := none }

def pool11 : Array CpInfo := pool [(2, .class_ 4), (1, u "java/lang/Object"), (0, u "<init>"), (0, u "()V"), (17, .class_ 26), (1, u "jdk/internal/util/Preconditions"), (6, u "checkIndex"), (21, .class_ 56), (0, u "jdk/internal/util/Preconditions$4"), (57, .class_ 115), (0, u "jdk/internal/util/Preconditions$1"), (7, u "SIOOBE_FORMATTER"), (0, u "Ljava/util/function/BiFunction;"), (0, .class_ 126), (0, u "jdk/internal/util/Preconditions$2"), (3, u "AIOOBE_FORMATTER"), (0, .class_ 132), (0, u "jdk/internal/util/Preconditions$3"), (3, u "IOOBE_FORMATTER"), (41, u "(IILjava/util/function/BiFunction;)I")] 15

def k11m0 : Method := { name := "<init>", desc := "()V", sig := { parameters := [], returnType := none }, accessFlags := 1, code := none }
def k11c1 : Code := { maxStack := 3, maxLocals := 3, code := jdk_41_method_11_code, exceptionTable := #[], attributes := #[] }
def k11m1 : Method := { name := "checkIndex", desc := "(IILjava/util/function/BiFunction;)I", sig := { parameters := [.int, .int, (.object "java/util/function/BiFunction")], returnType := some .int }, accessFlags := 9, code := some k11c1 }
/-- jdk/internal/util/Preconditions -/
def k11 : Class := { plain "jdk/internal/util/Preconditions" (some 0) with
  accessFlags := 33
  interfaces := #[]
  cf := some (fileOf pool11 24 #[.nestMembers #[55, 131, 125, 114]] #[{ accessFlags := 1, nameIndex := 5, descriptorIndex := 6, attributes := #[] }, { accessFlags := 9, nameIndex := 33, descriptorIndex := 178, attributes := #[] }] 33 2 #[] #[{ accessFlags := 25, nameIndex := 123, descriptorIndex := 124, attributes := #[] }, { accessFlags := 25, nameIndex := 130, descriptorIndex := 124, attributes := #[] }, { accessFlags := 25, nameIndex := 136, descriptorIndex := 124, attributes := #[] }])
  fields := #[{ name := "SIOOBE_FORMATTER", type := (.object "java/util/function/BiFunction"), accessFlags := 25, slot := 0, constantValue := 0 }, { name := "AIOOBE_FORMATTER", type := (.object "java/util/function/BiFunction"), accessFlags := 25, slot := 1, constantValue := 0 }, { name := "IOOBE_FORMATTER", type := (.object "java/util/function/BiFunction"), accessFlags := 25, slot := 2, constantValue := 0 }]
  methods := #[k11m0, k11m1]
  instanceTypes := #[]
  staticTypes := #[(.object "java/util/function/BiFunction"), (.object "java/util/function/BiFunction"), (.object "java/util/function/BiFunction")]
  resolved := Array.replicate 194 none
  statics := some 2 }

def pool12 : Array CpInfo := pool [(1, .class_ 2), (0, u "java/lang/String"), (1, .class_ 6), (1, u "java/lang/Object"), (0, u "<init>"), (0, u "()V"), (0, .methodref 1 10), (0, .nameAndType 11 12), (0, u "checkIndex"), (0, u "(II)V"), (1, .class_ 16), (1, u "java/lang/StringLatin1"), (36, u "([BI)C"), (67, u "$assertionsDisabled"), (0, u "Z"), (98, .class_ 223), (1, u "java/lang/StringLatin1$LinesSpliterator"), (28, u "charAt"), (137, .class_ 391), (0, u "java/lang/StringLatin1$CharsSpliterator")] 3

def k12m0 : Method := { name := "<init>", desc := "()V", sig := { parameters := [], returnType := none }, accessFlags := 0, code := none }
def k12c1 : Code := { maxStack := 2, maxLocals := 2, code := jdk_43_method_2_code, exceptionTable := #[], attributes := #[] }
def k12m1 : Method := { name := "charAt", desc := "([BI)C", sig := { parameters := [(.array .byte), .int], returnType := some .char }, accessFlags := 9, code := some k12c1 }
/-- java/lang/StringLatin1 -/
def k12 : Class := { plain "java/lang/StringLatin1" (some 0) with
  accessFlags := 48
  interfaces := #[]
  cf := some (fileOf pool12 14 #[.nestMembers #[390, 221]] #[{ accessFlags := 0, nameIndex := 7, descriptorIndex := 8, attributes := #[] }, { accessFlags := 9, nameIndex := 252, descriptorIndex := 53, attributes := #[] }] 48 4 #[] #[{ accessFlags := 4120, nameIndex := 121, descriptorIndex := 122, attributes := #[] }])
  fields := #[{ name := "$assertionsDisabled", type := .boolean, accessFlags := 4120, slot := 0, constantValue := 0 }]
  methods := #[k12m0, k12m1]
  instanceTypes := #[]
  staticTypes := #[.boolean]
  resolved := Array.replicate 395 none
  statics := none }

def pool13 : Array CpInfo := pool [(9, u "<init>"), (6, .class_ 18), (1, u "java/lang/Object"), (0, u "()V"), (1, .class_ 23), (1, u "jdk/internal/util/ArraysSupport"), (0, u "LOG2_ARRAY_LONG_INDEX_SCALE"), (0, u "I"), (2, u "U"), (0, u "Ljdk/internal/misc/Unsafe;"), (8, u "BIG_ENDIAN"), (0, u "Z"), (8, u "LOG2_BYTE_BIT_SIZE"), (4, u "LOG2_ARRAY_INT_INDEX_SCALE"), (54, u "JLA"), (0, u "Ljdk/internal/access/JavaLangAccess;"), (11, u "LOG2_ARRAY_BOOLEAN_INDEX_SCALE"), (9, u "LOG2_ARRAY_BYTE_INDEX_SCALE"), (5, u "LOG2_ARRAY_CHAR_INDEX_SCALE"), (5, u "LOG2_ARRAY_SHORT_INDEX_SCALE"), (18, u "LOG2_ARRAY_FLOAT_INDEX_SCALE"), (24, u "LOG2_ARRAY_DOUBLE_INDEX_SCALE"), (89, u "T_BOOLEAN"), (2, u "T_CHAR"), (1, u "T_FLOAT"), (1, u "T_DOUBLE"), (1, u "T_BYTE"), (1, u "T_SHORT"), (1, u "T_INT"), (1, u "T_LONG"), (1, u "SOFT_MAX_ARRAY_LENGTH")] 83

def k13m0 : Method := { name := "<init>", desc := "()V", sig := { parameters := [], returnType := none }, accessFlags := 2, code := none }
/-- jdk/internal/util/ArraysSupport -/
def k13 : Class := { plain "jdk/internal/util/ArraysSupport" (some 0) with
  accessFlags := 33
  interfaces := #[]
  cf := some (fileOf pool13 21 #[] #[{ accessFlags := 2, nameIndex := 9, descriptorIndex := 19, attributes := #[] }] 33 16 #[] #[{ accessFlags := 24, nameIndex := 28, descriptorIndex := 29, attributes := #[] }, { accessFlags := 26, nameIndex := 38, descriptorIndex := 39, attributes := #[] }, { accessFlags := 25, nameIndex := 121, descriptorIndex := 25, attributes := #[] }, { accessFlags := 25, nameIndex := 131, descriptorIndex := 25, attributes := #[] }, { accessFlags := 25, nameIndex := 137, descriptorIndex := 25, attributes := #[] }, { accessFlags := 25, nameIndex := 143, descriptorIndex := 25, attributes := #[] }, { accessFlags := 25, nameIndex := 53, descriptorIndex := 25, attributes := #[] }, { accessFlags := 25, nameIndex := 24, descriptorIndex := 25, attributes := #[] }, { accessFlags := 25, nameIndex := 162, descriptorIndex := 25, attributes := #[] }, { accessFlags := 25, nameIndex := 187, descriptorIndex := 25, attributes := #[] }, { accessFlags := 26, nameIndex := 48, descriptorIndex := 25, attributes := #[] }, { accessFlags := 25, nameIndex := 277, descriptorIndex := 25, attributes := #[] }, { accessFlags := 25, nameIndex := 280, descriptorIndex := 25, attributes := #[] }, { accessFlags := 25, nameIndex := 282, descriptorIndex := 25, attributes := #[] }, { accessFlags := 25, nameIndex := 284, descriptorIndex := 25, attributes := #[] }, { accessFlags := 25, nameIndex := 286, descriptorIndex := 25, attributes := #[] }, { accessFlags := 25, nameIndex := 288, descriptorIndex := 25, attributes := #[] }, { accessFlags := 25, nameIndex := 290, descriptorIndex := 25, attributes := #[] }, { accessFlags := 25, nameIndex := 292, descriptorIndex := 25, attributes := #[] }, { accessFlags := 26, nameIndex := 108, descriptorIndex := 109, attributes := #[] }, { accessFlags := 25, nameIndex := 294, descriptorIndex := 25, attributes := #[] }])
  fields := #[{ name := "U", type := (.object "jdk/internal/misc/Unsafe"), accessFlags := 24, slot := 0, constantValue := 0 }, { name := "BIG_ENDIAN", type := .boolean, accessFlags := 26, slot := 1, constantValue := 0 }, { name := "LOG2_ARRAY_BOOLEAN_INDEX_SCALE", type := .int, accessFlags := 25, slot := 2, constantValue := 0 }, { name := "LOG2_ARRAY_BYTE_INDEX_SCALE", type := .int, accessFlags := 25, slot := 3, constantValue := 0 }, { name := "LOG2_ARRAY_CHAR_INDEX_SCALE", type := .int, accessFlags := 25, slot := 4, constantValue := 0 }, { name := "LOG2_ARRAY_SHORT_INDEX_SCALE", type := .int, accessFlags := 25, slot := 5, constantValue := 0 }, { name := "LOG2_ARRAY_INT_INDEX_SCALE", type := .int, accessFlags := 25, slot := 6, constantValue := 0 }, { name := "LOG2_ARRAY_LONG_INDEX_SCALE", type := .int, accessFlags := 25, slot := 7, constantValue := 0 }, { name := "LOG2_ARRAY_FLOAT_INDEX_SCALE", type := .int, accessFlags := 25, slot := 8, constantValue := 0 }, { name := "LOG2_ARRAY_DOUBLE_INDEX_SCALE", type := .int, accessFlags := 25, slot := 9, constantValue := 0 }, { name := "LOG2_BYTE_BIT_SIZE", type := .int, accessFlags := 26, slot := 10, constantValue := 0 }, { name := "T_BOOLEAN", type := .int, accessFlags := 25, slot := 11, constantValue := 0 }, { name := "T_CHAR", type := .int, accessFlags := 25, slot := 12, constantValue := 0 }, { name := "T_FLOAT", type := .int, accessFlags := 25, slot := 13, constantValue := 0 }, { name := "T_DOUBLE", type := .int, accessFlags := 25, slot := 14, constantValue := 0 }, { name := "T_BYTE", type := .int, accessFlags := 25, slot := 15, constantValue := 0 }, { name := "T_SHORT", type := .int, accessFlags := 25, slot := 16, constantValue := 0 }, { name := "T_INT", type := .int, accessFlags := 25, slot := 17, constantValue := 0 }, { name := "T_LONG", type := .int, accessFlags := 25, slot := 18, constantValue := 0 }, { name := "JLA", type := (.object "jdk/internal/access/JavaLangAccess"), accessFlags := 26, slot := 19, constantValue := 0 }, { name := "SOFT_MAX_ARRAY_LENGTH", type := .int, accessFlags := 25, slot := 20, constantValue := 0 }]
  methods := #[k13m0]
  instanceTypes := #[]
  staticTypes := #[(.object "jdk/internal/misc/Unsafe"), .boolean, .int, .int, .int, .int, .int, .int, .int, .int, .int, .int, .int, .int, .int, .int, .int, .int, .int, (.object "jdk/internal/access/JavaLangAccess"), .int]
  resolved := Array.replicate 378 none
  statics := none }

def pool14 : Array CpInfo := pool [(1, u "java/lang/Cloneable"), (0, .class_ 1), (0, u "java/lang/Object"), (0, .class_ 3)] 3

/-- java/lang/Cloneable -/
def k14 : Class := { plain "java/lang/Cloneable" (some 0) with
  accessFlags := 1537
  interfaces := #[]
  cf := some (fileOf pool14 2 #[] #[] 1537 4 #[] #[])
  fields := #[]
  methods := #[]
  instanceTypes := #[]
  staticTypes := #[]
  resolved := Array.replicate 8 none
  statics := none }

/-- the primitive byte -/
def k15 : Class := { plain "byte" none with kind := .primitive 'B', accessFlags := 0x411 }
/-- [B -/
def k16 : Class := { plain "[B" (some 0) with kind := .array 15 .byte, interfaces := #[14, 2], accessFlags := 1041 }

/-- the primitive char -/
def k17 : Class := { plain "char" none with kind := .primitive 'C', accessFlags := 0x411 }
/-- [C -/
def k18 : Class := { plain "[C" (some 0) with kind := .array 17 .char, interfaces := #[14, 2], accessFlags := 1041 }

/-- the primitive int -/
def k19 : Class := { plain "int" none with kind := .primitive 'I', accessFlags := 0x411 }
/-- [I -/
def k20 : Class := { plain "[I" (some 0) with kind := .array 19 .int, interfaces := #[14, 2], accessFlags := 1041 }

def heap : Heap := #[{ cls := 7, slots := #[.long 0, .int 1, .null, .int 0, .null, .int 0, .int 0], vm := .statics 7 },
  { cls := 8, slots := #[.int 0, .int 8, .int 0, .int 1], vm := .statics 8 },
  { cls := 11, slots := #[.null, .null, .null], vm := .statics 11 }]
def classes : Array Class := #[k0, k1, k2, k3, k4, k5, k6, k7, k8, k9, k10, k11, k12, k13, k14, k15, k16, k17, k18, k19, k20]
def interned : List (Array UInt16 × Addr) := []
def slotsUsed : Nat := 14
def theMethod : MethodId := ⟨1, 1⟩
def args0 : Array Value := #[.int 5, .int 3, .int 4, .int 9, .int 8, .int 2]
def aboutOver (below : List Frame) : State where
  vm := { classes := classes, interned := interned.toArray }
  heap := heap
  slotsUsed := slotsUsed
  threads := #[{ frames := .invoking theMethod args0 :: below }]
def below0 : List Frame := [.native { method := ⟨0, 0⟩, args := #[] }]
def about1 : State := aboutOver below0
def p0 : Program := .bare "" "" ""
def e0 : Env := launch0.env 0 0 0
theorem w_frames : about1.frames = Frame.invoking theMethod args0 :: below0 := rfl
set_option maxRecDepth 65536 in
theorem w_args : argsFit about1.vm theMethod args0 = true := by decide +kernel
set_option maxRecDepth 65536 in
theorem w_heap : heapFits about1 = true := by decide +kernel
set_option maxRecDepth 65536 in
theorem w_runnable : about1.curStatus? = some .runnable := by decide +kernel
set_option maxRecDepth 65536 in
theorem w_alone : about1.alone = true := by decide +kernel
set_option maxRecDepth 65536 in
theorem w_named : about1.methodNamed? x = some theMethod := by decide +kernel
set_option maxRecDepth 65536 in
theorem w_hears : about1.hears theMethod below0 = true := by decide +kernel
set_option maxRecDepth 65536 in
theorem w_ripe : about1.ripe theMethod args0 below0 = true := by decide +kernel
theorem w_running : about1.status = .running := rfl
set_option maxRecDepth 65536 in
theorem w_room : about1.hasRoom e0.platform room_1 = true :=
  launch0.hasRoom_least _ room_1 (by decide +kernel) (by decide +kernel) (by decide +kernel) (by decide +kernel) (by decide +kernel) (by decide +kernel)
theorem allAtoms_all (ts : List Jvm.Cond) (a : Array Jvm.Value) (st : Jvm.State) : (allAtoms ts).before a st = ts.all (fun c => c.before a st) := by
  induction ts with
  | nil => rfl
  | cons c t ih =>
    show (Jvm.Cond.and c (allAtoms t)).before a st = _
    rw [Jvm.Cond.before_and, ih, List.all_cons]
def words1 : List Jvm.Cond := Jvm.Cond.code x code maxLocals ret :: tables_1
/-- a 'code' word, met by the world's own term for the bytes: nothing is compared byte by byte -/
theorem code_word {y : MethodName} {bytes : ByteArray} {mx : Nat} {rt : Option FieldType} {a : Array Value} {s : State} {m : MethodId} {meth : Method} {c : Code} (h1 : s.methodNamed? y = some m) (h2 : s.vm.method? m = some meth) (h3 : meth.code = some c) (h4 : c.code = bytes)
    (h5 : (c.maxLocals == mx && c.exceptionTable.isEmpty && decide (c.maxStack ≤ mostOperands) && decide (meth.sig.returnType = rt) && !meth.locks && decide (parseMethodDescriptor y.desc = some meth.sig)) = true) : (Jvm.Cond.code y bytes mx rt).before a s = true := by
  simp only [Bool.and_eq_true, beq_iff_eq, Bool.not_eq_true', decide_eq_true_eq] at h5
  obtain ⟨⟨⟨⟨⟨g1, g2⟩, g3⟩, g4⟩, g5⟩, g6⟩ := h5
  simp [Cond.before, Cond.holds, Cond.value, h1, h2, h3, h4, g1, g2, g3, g4, g5, g6]
def isCode : Jvm.Cond → Bool
  | .code _ _ _ _ => true
  | _ => false
theorem all_split {L : List Jvm.Cond} {P : Jvm.Cond → Bool} (h1 : L.all (fun c => isCode c || P c) = true) (h2 : ∀ c ∈ L.filter isCode, P c = true) : L.all P = true := by
  refine List.all_eq_true.mpr fun c hc => ?_
  have h := List.all_eq_true.mp h1 c hc
  rcases Bool.eq_false_or_eq_true (isCode c) with hi | hi
  · exact h2 c (List.mem_filter.mpr ⟨hc, hi⟩)
  · simpa [hi] using h
set_option maxRecDepth 65536 in
theorem w_c0 : (Jvm.Cond.code x code maxLocals ret).before args0 about1 = true := code_word (m := ⟨1, 1⟩) (meth := k1m1) (c := k1c1) (by decide +kernel) rfl rfl rfl (by decide +kernel)
set_option maxRecDepth 65536 in
theorem w_c1 : (Jvm.Cond.code ({ cls := "com/example/vestwright/vestwright/PlainNumberIsDigitsPinLaw", name := "pick", desc := "(I)C" } : Jvm.MethodName) method_3_code (1 : Nat) (Option.some Jvm.ClassFile.FieldType.char)).before args0 about1 = true := code_word (m := ⟨1, 2⟩) (meth := k1m2) (c := k1c2) (by decide +kernel) rfl rfl rfl (by decide +kernel)
set_option maxRecDepth 65536 in
theorem w_c2 : (Jvm.Cond.code ({ cls := "java/lang/String", name := "<init>", desc := "([C)V" } : Jvm.MethodName) jdk_42_method_3_code (2 : Nat) (Option.none : Option Jvm.ClassFile.FieldType)).before args0 about1 = true := code_word (m := ⟨7, 1⟩) (meth := k7m1) (c := k7c1) (by decide +kernel) rfl rfl rfl (by decide +kernel)
set_option maxRecDepth 65536 in
theorem w_c3 : (Jvm.Cond.code ({ cls := "java/lang/String", name := "<init>", desc := "([CIILjava/lang/Void;)V" } : Jvm.MethodName) jdk_42_method_149_code (6 : Nat) (Option.none : Option Jvm.ClassFile.FieldType)).before args0 about1 = true := code_word (m := ⟨7, 3⟩) (meth := k7m3) (c := k7c3) (by decide +kernel) rfl rfl rfl (by decide +kernel)
set_option maxRecDepth 65536 in
theorem w_c4 : (Jvm.Cond.code ({ cls := "java/lang/Object", name := "<init>", desc := "()V" } : Jvm.MethodName) object_method_1_code (1 : Nat) (Option.none : Option Jvm.ClassFile.FieldType)).before args0 about1 = true := code_word (m := ⟨0, 0⟩) (meth := k0m0) (c := k0c0) (by decide +kernel) rfl rfl rfl (by decide +kernel)
set_option maxRecDepth 65536 in
theorem w_c5 : (Jvm.Cond.code ({ cls := "java/lang/StringUTF16", name := "compress", desc := "([CII)[B" } : Jvm.MethodName) jdk_52_method_16_code (6 : Nat) (Option.some (Jvm.ClassFile.FieldType.array Jvm.ClassFile.FieldType.byte))).before args0 about1 = true := code_word (m := ⟨8, 8⟩) (meth := k8m8) (c := k8c8) (by decide +kernel) rfl rfl rfl (by decide +kernel)
set_option maxRecDepth 65536 in
theorem w_c6 : (Jvm.Cond.code ({ cls := "java/lang/StringUTF16", name := "compress", desc := "([CI[BII)I" } : Jvm.MethodName) jdk_52_method_21_code (7 : Nat) (Option.some Jvm.ClassFile.FieldType.int)).before args0 about1 = true := code_word (m := ⟨8, 9⟩) (meth := k8m9) (c := k8c9) (by decide +kernel) rfl rfl rfl (by decide +kernel)
set_option maxRecDepth 65536 in
theorem w_c7 : (Jvm.Cond.code ({ cls := "java/lang/StringUTF16", name := "coderFromArrayLen", desc := "([BI)B" } : Jvm.MethodName) jdk_52_method_15_code (2 : Nat) (Option.some Jvm.ClassFile.FieldType.byte)).before args0 about1 = true := code_word (m := ⟨8, 7⟩) (meth := k8m7) (c := k8c7) (by decide +kernel) rfl rfl rfl (by decide +kernel)
set_option maxRecDepth 65536 in
theorem w_c8 : (Jvm.Cond.code ({ cls := "com/example/vestwright/vestwright/PlainNumber", name := "isDigits", desc := "(Ljava/lang/String;II)Z" } : Jvm.MethodName) prog_43_method_4_code (6 : Nat) (Option.some Jvm.ClassFile.FieldType.boolean)).before args0 about1 = true := code_word (m := ⟨9, 1⟩) (meth := k9m1) (c := k9c1) (by decide +kernel) rfl rfl rfl (by decide +kernel)
set_option maxRecDepth 65536 in
theorem w_c9 : (Jvm.Cond.code ({ cls := "java/lang/Math", name := "max", desc := "(II)I" } : Jvm.MethodName) jdk_29_method_65_code (2 : Nat) (Option.some Jvm.ClassFile.FieldType.int)).before args0 about1 = true := code_word (m := ⟨10, 1⟩) (meth := k10m1) (c := k10c1) (by decide +kernel) rfl rfl rfl (by decide +kernel)
set_option maxRecDepth 65536 in
theorem w_c10 : (Jvm.Cond.code ({ cls := "java/lang/StringUTF16", name := "toBytes", desc := "([CII)[B" } : Jvm.MethodName) jdk_52_method_14_code (5 : Nat) (Option.some (Jvm.ClassFile.FieldType.array Jvm.ClassFile.FieldType.byte))).before args0 about1 = true := code_word (m := ⟨8, 6⟩) (meth := k8m6) (c := k8c6) (by decide +kernel) rfl rfl rfl (by decide +kernel)
set_option maxRecDepth 65536 in
theorem w_c11 : (Jvm.Cond.code ({ cls := "java/lang/StringUTF16", name := "newBytesFor", desc := "(I)[B" } : Jvm.MethodName) jdk_52_method_2_code (1 : Nat) (Option.some (Jvm.ClassFile.FieldType.array Jvm.ClassFile.FieldType.byte))).before args0 about1 = true := code_word (m := ⟨8, 1⟩) (meth := k8m1) (c := k8c1) (by decide +kernel) rfl rfl rfl (by decide +kernel)
set_option maxRecDepth 65536 in
theorem w_c12 : (Jvm.Cond.code ({ cls := "java/lang/StringUTF16", name := "newBytesLength", desc := "(I)I" } : Jvm.MethodName) jdk_52_method_3_code (1 : Nat) (Option.some Jvm.ClassFile.FieldType.int)).before args0 about1 = true := code_word (m := ⟨8, 2⟩) (meth := k8m2) (c := k8c2) (by decide +kernel) rfl rfl rfl (by decide +kernel)
set_option maxRecDepth 65536 in
theorem w_c13 : (Jvm.Cond.code ({ cls := "java/lang/StringUTF16", name := "putChar", desc := "([BII)V" } : Jvm.MethodName) jdk_52_method_4_code (3 : Nat) (Option.none : Option Jvm.ClassFile.FieldType)).before args0 about1 = true := code_word (m := ⟨8, 3⟩) (meth := k8m3) (c := k8c3) (by decide +kernel) rfl rfl rfl (by decide +kernel)
set_option maxRecDepth 65536 in
theorem w_c14 : (Jvm.Cond.code ({ cls := "java/lang/StringUTF16", name := "getChar", desc := "([BI)C" } : Jvm.MethodName) jdk_52_method_5_code (2 : Nat) (Option.some Jvm.ClassFile.FieldType.char)).before args0 about1 = true := code_word (m := ⟨8, 4⟩) (meth := k8m4) (c := k8c4) (by decide +kernel) rfl rfl rfl (by decide +kernel)
set_option maxRecDepth 65536 in
theorem w_c15 : (Jvm.Cond.code ({ cls := "com/example/vestwright/vestwright/PlainNumberIsDigitsPinLaw", name := "ok", desc := "(CIII)Z" } : Jvm.MethodName) method_4_code (4 : Nat) (Option.some Jvm.ClassFile.FieldType.boolean)).before args0 about1 = true := code_word (m := ⟨1, 3⟩) (meth := k1m3) (c := k1c3) (by decide +kernel) rfl rfl rfl (by decide +kernel)
set_option maxRecDepth 65536 in
theorem w_c16 : (Jvm.Cond.code ({ cls := "java/lang/String", name := "charAt", desc := "(I)C" } : Jvm.MethodName) jdk_42_method_56_code (2 : Nat) (Option.some Jvm.ClassFile.FieldType.char)).before args0 about1 = true := code_word (m := ⟨7, 2⟩) (meth := k7m2) (c := k7c2) (by decide +kernel) rfl rfl rfl (by decide +kernel)
set_option maxRecDepth 65536 in
theorem w_c17 : (Jvm.Cond.code ({ cls := "java/lang/String", name := "isLatin1", desc := "()Z" } : Jvm.MethodName) jdk_42_method_154_code (1 : Nat) (Option.some Jvm.ClassFile.FieldType.boolean)).before args0 about1 = true := code_word (m := ⟨7, 4⟩) (meth := k7m4) (c := k7c4) (by decide +kernel) rfl rfl rfl (by decide +kernel)
set_option maxRecDepth 65536 in
theorem w_c18 : (Jvm.Cond.code ({ cls := "java/lang/StringUTF16", name := "charAt", desc := "([BI)C" } : Jvm.MethodName) jdk_52_method_83_code (2 : Nat) (Option.some Jvm.ClassFile.FieldType.char)).before args0 about1 = true := code_word (m := ⟨8, 10⟩) (meth := k8m10) (c := k8c10) (by decide +kernel) rfl rfl rfl (by decide +kernel)
set_option maxRecDepth 65536 in
theorem w_c19 : (Jvm.Cond.code ({ cls := "java/lang/StringUTF16", name := "checkIndex", desc := "(I[B)V" } : Jvm.MethodName) jdk_52_method_91_code (2 : Nat) (Option.none : Option Jvm.ClassFile.FieldType)).before args0 about1 = true := code_word (m := ⟨8, 11⟩) (meth := k8m11) (c := k8c11) (by decide +kernel) rfl rfl rfl (by decide +kernel)
set_option maxRecDepth 65536 in
theorem w_c20 : (Jvm.Cond.code ({ cls := "java/lang/StringUTF16", name := "length", desc := "([B)I" } : Jvm.MethodName) jdk_52_method_6_code (1 : Nat) (Option.some Jvm.ClassFile.FieldType.int)).before args0 about1 = true := code_word (m := ⟨8, 5⟩) (meth := k8m5) (c := k8c5) (by decide +kernel) rfl rfl rfl (by decide +kernel)
set_option maxRecDepth 65536 in
theorem w_c21 : (Jvm.Cond.code ({ cls := "java/lang/String", name := "checkIndex", desc := "(II)V" } : Jvm.MethodName) jdk_42_method_155_code (2 : Nat) (Option.none : Option Jvm.ClassFile.FieldType)).before args0 about1 = true := code_word (m := ⟨7, 5⟩) (meth := k7m5) (c := k7c5) (by decide +kernel) rfl rfl rfl (by decide +kernel)
set_option maxRecDepth 65536 in
theorem w_c22 : (Jvm.Cond.code ({ cls := "jdk/internal/util/Preconditions", name := "checkIndex", desc := "(IILjava/util/function/BiFunction;)I" } : Jvm.MethodName) jdk_41_method_11_code (3 : Nat) (Option.some Jvm.ClassFile.FieldType.int)).before args0 about1 = true := code_word (m := ⟨11, 1⟩) (meth := k11m1) (c := k11c1) (by decide +kernel) rfl rfl rfl (by decide +kernel)
set_option maxRecDepth 65536 in
theorem w_c23 : (Jvm.Cond.code ({ cls := "java/lang/StringLatin1", name := "charAt", desc := "([BI)C" } : Jvm.MethodName) jdk_43_method_2_code (2 : Nat) (Option.some Jvm.ClassFile.FieldType.char)).before args0 about1 = true := code_word (m := ⟨12, 1⟩) (meth := k12m1) (c := k12c1) (by decide +kernel) rfl rfl rfl (by decide +kernel)
def codes1 : List Jvm.Cond := [Jvm.Cond.code x code maxLocals ret, Jvm.Cond.code ({ cls := "com/example/vestwright/vestwright/PlainNumberIsDigitsPinLaw", name := "pick", desc := "(I)C" } : Jvm.MethodName) method_3_code (1 : Nat) (Option.some Jvm.ClassFile.FieldType.char), Jvm.Cond.code ({ cls := "java/lang/String", name := "<init>", desc := "([C)V" } : Jvm.MethodName) jdk_42_method_3_code (2 : Nat) (Option.none : Option Jvm.ClassFile.FieldType), Jvm.Cond.code ({ cls := "java/lang/String", name := "<init>", desc := "([CIILjava/lang/Void;)V" } : Jvm.MethodName) jdk_42_method_149_code (6 : Nat) (Option.none : Option Jvm.ClassFile.FieldType), Jvm.Cond.code ({ cls := "java/lang/Object", name := "<init>", desc := "()V" } : Jvm.MethodName) object_method_1_code (1 : Nat) (Option.none : Option Jvm.ClassFile.FieldType), Jvm.Cond.code ({ cls := "java/lang/StringUTF16", name := "compress", desc := "([CII)[B" } : Jvm.MethodName) jdk_52_method_16_code (6 : Nat) (Option.some (Jvm.ClassFile.FieldType.array Jvm.ClassFile.FieldType.byte)), Jvm.Cond.code ({ cls := "java/lang/StringUTF16", name := "compress", desc := "([CI[BII)I" } : Jvm.MethodName) jdk_52_method_21_code (7 : Nat) (Option.some Jvm.ClassFile.FieldType.int), Jvm.Cond.code ({ cls := "java/lang/StringUTF16", name := "coderFromArrayLen", desc := "([BI)B" } : Jvm.MethodName) jdk_52_method_15_code (2 : Nat) (Option.some Jvm.ClassFile.FieldType.byte), Jvm.Cond.code ({ cls := "com/example/vestwright/vestwright/PlainNumber", name := "isDigits", desc := "(Ljava/lang/String;II)Z" } : Jvm.MethodName) prog_43_method_4_code (6 : Nat) (Option.some Jvm.ClassFile.FieldType.boolean), Jvm.Cond.code ({ cls := "java/lang/Math", name := "max", desc := "(II)I" } : Jvm.MethodName) jdk_29_method_65_code (2 : Nat) (Option.some Jvm.ClassFile.FieldType.int), Jvm.Cond.code ({ cls := "java/lang/StringUTF16", name := "toBytes", desc := "([CII)[B" } : Jvm.MethodName) jdk_52_method_14_code (5 : Nat) (Option.some (Jvm.ClassFile.FieldType.array Jvm.ClassFile.FieldType.byte)), Jvm.Cond.code ({ cls := "java/lang/StringUTF16", name := "newBytesFor", desc := "(I)[B" } : Jvm.MethodName) jdk_52_method_2_code (1 : Nat) (Option.some (Jvm.ClassFile.FieldType.array Jvm.ClassFile.FieldType.byte)), Jvm.Cond.code ({ cls := "java/lang/StringUTF16", name := "newBytesLength", desc := "(I)I" } : Jvm.MethodName) jdk_52_method_3_code (1 : Nat) (Option.some Jvm.ClassFile.FieldType.int), Jvm.Cond.code ({ cls := "java/lang/StringUTF16", name := "putChar", desc := "([BII)V" } : Jvm.MethodName) jdk_52_method_4_code (3 : Nat) (Option.none : Option Jvm.ClassFile.FieldType), Jvm.Cond.code ({ cls := "java/lang/StringUTF16", name := "getChar", desc := "([BI)C" } : Jvm.MethodName) jdk_52_method_5_code (2 : Nat) (Option.some Jvm.ClassFile.FieldType.char), Jvm.Cond.code ({ cls := "com/example/vestwright/vestwright/PlainNumberIsDigitsPinLaw", name := "ok", desc := "(CIII)Z" } : Jvm.MethodName) method_4_code (4 : Nat) (Option.some Jvm.ClassFile.FieldType.boolean), Jvm.Cond.code ({ cls := "java/lang/String", name := "charAt", desc := "(I)C" } : Jvm.MethodName) jdk_42_method_56_code (2 : Nat) (Option.some Jvm.ClassFile.FieldType.char), Jvm.Cond.code ({ cls := "java/lang/String", name := "isLatin1", desc := "()Z" } : Jvm.MethodName) jdk_42_method_154_code (1 : Nat) (Option.some Jvm.ClassFile.FieldType.boolean), Jvm.Cond.code ({ cls := "java/lang/StringUTF16", name := "charAt", desc := "([BI)C" } : Jvm.MethodName) jdk_52_method_83_code (2 : Nat) (Option.some Jvm.ClassFile.FieldType.char), Jvm.Cond.code ({ cls := "java/lang/StringUTF16", name := "checkIndex", desc := "(I[B)V" } : Jvm.MethodName) jdk_52_method_91_code (2 : Nat) (Option.none : Option Jvm.ClassFile.FieldType), Jvm.Cond.code ({ cls := "java/lang/StringUTF16", name := "length", desc := "([B)I" } : Jvm.MethodName) jdk_52_method_6_code (1 : Nat) (Option.some Jvm.ClassFile.FieldType.int), Jvm.Cond.code ({ cls := "java/lang/String", name := "checkIndex", desc := "(II)V" } : Jvm.MethodName) jdk_42_method_155_code (2 : Nat) (Option.none : Option Jvm.ClassFile.FieldType), Jvm.Cond.code ({ cls := "jdk/internal/util/Preconditions", name := "checkIndex", desc := "(IILjava/util/function/BiFunction;)I" } : Jvm.MethodName) jdk_41_method_11_code (3 : Nat) (Option.some Jvm.ClassFile.FieldType.int), Jvm.Cond.code ({ cls := "java/lang/StringLatin1", name := "charAt", desc := "([BI)C" } : Jvm.MethodName) jdk_43_method_2_code (2 : Nat) (Option.some Jvm.ClassFile.FieldType.char)]
set_option maxRecDepth 65536 in
theorem codes_eq : words1.filter isCode = codes1 := rfl
theorem w_codes : ∀ c ∈ words1.filter isCode, c.before args0 about1 = true := by
  rw [codes_eq]
  intro c hc
  simp only [codes1, List.mem_cons, List.not_mem_nil, or_false] at hc
  rcases hc with rfl | rfl | rfl | rfl | rfl | rfl | rfl | rfl | rfl | rfl | rfl | rfl | rfl | rfl | rfl | rfl | rfl | rfl | rfl | rfl | rfl | rfl | rfl | rfl
  · exact w_c0
  · exact w_c1
  · exact w_c2
  · exact w_c3
  · exact w_c4
  · exact w_c5
  · exact w_c6
  · exact w_c7
  · exact w_c8
  · exact w_c9
  · exact w_c10
  · exact w_c11
  · exact w_c12
  · exact w_c13
  · exact w_c14
  · exact w_c15
  · exact w_c16
  · exact w_c17
  · exact w_c18
  · exact w_c19
  · exact w_c20
  · exact w_c21
  · exact w_c22
  · exact w_c23
set_option maxRecDepth 65536 in
theorem w_t1 : (words1.take 24).all (fun c => isCode c || c.before args0 about1) = true := by decide +kernel
set_option maxRecDepth 65536 in
theorem w_t2 : ((words1.drop 24).take 24).all (fun c => isCode c || c.before args0 about1) = true := by decide +kernel
set_option maxRecDepth 65536 in
theorem w_t3 : (((words1.drop 24).drop 24).take 24).all (fun c => isCode c || c.before args0 about1) = true := by decide +kernel
set_option maxRecDepth 65536 in
theorem w_t4 : ((((words1.drop 24).drop 24).drop 24).take 24).all (fun c => isCode c || c.before args0 about1) = true := by decide +kernel
set_option maxRecDepth 65536 in
theorem w_t5 : ((((words1.drop 24).drop 24).drop 24).drop 24).all (fun c => isCode c || c.before args0 about1) = true := by decide +kernel
theorem w_tables : (allAtoms (Jvm.Cond.code x code maxLocals ret :: tables_1)).before args0 about1 = true := by
  rw [allAtoms_all]
  show words1.all (fun c => c.before args0 about1) = true
  refine all_split ?_ w_codes
  rw [← List.take_append_drop 24 words1, List.all_append, w_t1, ← List.take_append_drop 24 (words1.drop 24), List.all_append, w_t2, ← List.take_append_drop 24 ((words1.drop 24).drop 24), List.all_append, w_t3, ← List.take_append_drop 24 (((words1.drop 24).drop 24).drop 24), List.all_append, w_t4, w_t5]
  rfl
set_option maxRecDepth 65536 in
theorem w_rest : rest_1_c.before args0 about1 = true := by decide +kernel
set_option maxRecDepth 65536 in
theorem w_case : (Jvm.Cond.and given_1 narrow_1).before args0 about1 = true := by decide +kernel
theorem w_applies : (headSpec (Jvm.Cond.code x code maxLocals ret :: tables_1) room_1).applies x e0.platform about1 = true :=
  (Spec.applies_iff w_frames).mpr ⟨w_running, w_runnable, w_alone, w_named, w_hears, w_ripe, w_room, w_tables⟩
theorem atStart : AtStart classFile x code maxLocals ret World_1 tables_1 room_1 Calls_1 rest_1 Pre_1 launch0 p0 e0 about1 theMethod args0 below0 :=
  ⟨lists_1, trivial, launch0.admits_env _ _ _, launch0.least_env, fairChoices_fair.cas, fairChoices_fair.clock, w_frames, w_args, w_heap, w_applies, trivial, w_rest, w_case⟩
end start1
theorem witness_1 : WitnessClaimed_1 := ⟨start1.p0, start1.e0, start1.about1, start1.theMethod, start1.args0, start1.below0, start1.atStart⟩
end Jvm.Pilot.@@N@@
