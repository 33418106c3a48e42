import JvmDerived
import JvmDerived.Pilot.@@N@@Statement
import JvmDerived.Pilot.@@N@@Code
set_option linter.unusedVariables false
set_option linter.unusedSimpArgs false
namespace Jvm.RoadKit
open Sem ClassFile Op Lib Jvm.Stand Jvm.Free Jvm.LawKit
section New
variable {p : Program} {l : Launch} {e : Env} {R : Room} {s : State} {m : MethodId} {args : Array Value} {below : List Frame} {meth : Method} {c : Code} {T : State} {locs : List Loc} {cells slots : Nat}
theorem retI (X : Stand p l e R s m args below meth c T locs cells slots) (hx : p.tables.exec = Jvm.exec) {pc : Nat} {Ls : Array Slot} {z : Int32} {rest : List Value} (hret : meth.sig.returnType = some .int) (hd : decode c.code pc = .ok (.ireturn, 1)) {fs : List Frame}
    (hl : ∀ (f : JFrame) (acts : List Action), f.method = m → f.locked = none → f.entered = [] → (doReturn e (T.setTop f) acts (some (.int z))).1 = T.setFrames fs) : Steps p.tables e below (T.setTop (mkF m pc Ls (.int z :: rest))) (T.setFrames fs) := by
  have hm' : T.vm.method? m = some meth := X.method'
  have hn : narrow .int (.int z) = .int z := rfl
  show Steps p.tables e below (T.setTop { method := m, pc := pc, locals := Ls, stack := _ :: rest, locked := none }) _
  jvm_step X.here [X.here.top, hx, hd, hm', hret, hn]
  first | (intro acts; rw [hl _ acts rfl rfl rfl]) | rw [hl _ _ rfl rfl rfl]
  exact Steps.refl _
end New
section Ref
variable {p : Program} {l : Launch} {e : Env} {R : Room} {s : State} {m : MethodId} {args : Array Value} {below : List Frame} {meth : Method} {c : Code} {T : State} {locs : List Loc} {cells slots : Nat} {Z : State} {a0 : Array Value} {h : Heap}
theorem own_ready (X : Stand p l e R s m args below meth c T locs cells slots) (hZ : Z.Warmed39 s.vm) {own O n d : String} {index : Nat} (hown : s.vm.findClass own = some m.cls) (w : (Cond.fieldRef own index O n d).before a0 Z = true)
    {cf i : Nat} {k : Class} {f : Field} (h2 : Z.fieldFound? O n d = some (cf, k, i, f)) : T.vm.fieldReady m.cls index cf f := by
  have hU : Z.Warmed39 T.vm := wtrans hZ X.warmed
  have w' := Cond.fieldRef_warmed39 hU w
  have hc : (Z.setVm T.vm).vm.findClass own = some m.cls := by
    show T.vm.findClass own = _
    rw [X.warmed.alike.findClass]; exact hown
  obtain ⟨cf', k', i', f', hi, hready⟩ := Cond.fieldRef_spec hc w'
  obtain ⟨k2, hi2, -⟩ := State.fieldFound?_setVm (s := Z) hU.alike h2
  cases hi.symm.trans hi2
  exact hready
theorem own_getFR (X : Stand p l e R s m args below meth c T locs cells slots) (hx : p.tables.exec = Jvm.exec) (hZ : Z.Warmed39 s.vm) {own O n d : String} {index : Nat} (hown : s.vm.findClass own = some m.cls) (w : (Cond.fieldRef own index O n d).before a0 Z = true)
    (eT : T.heap = h) {a : Addr} {v : Value} (F : Fld Z h a O n d v) {g : JFrame} (hg : g.method = m) {rest : List Value} (hs : g.stack = .ref a :: rest) (hd : decode c.code g.pc = .ok (.getfield index, 3)) : ∃ T', Stand p l e R s m args below meth c T' locs cells slots ∧ T'.heap = h ∧ ∀ target, Steps p.tables e below (T'.setTop { g with pc := g.pc + 3, stack := v :: rest }) target → Steps p.tables e below (T.setTop g) target := by
  obtain ⟨cell, cf, k, i, f, h1, h2, h3, h4, -, -, h7⟩ := F
  have hready := own_ready X hZ hown w h2
  refine ⟨T, X, eT, fun target hr => ?_⟩
  subst hg
  jvm_step X.here [hx, hd, getfield.wp_ready (e := e) (s := T) (f := g) X.here.top hready h3 hs (by rw [eT]; exact h1) h4 h7]
  exact hr
theorem own_putFR (X : Stand p l e R s m args below meth c T locs cells slots) (hx : p.tables.exec = Jvm.exec) (hZ : Z.Warmed39 s.vm) {own O n d C : String} {index kk : Nat} {ty : FieldType} (hown : s.vm.findClass own = some m.cls) (w : (Cond.fieldRef own index O n d).before a0 Z = true)
    (eT : T.heap = h) {a : Addr} {v old : Value} (F : Fld Z h a O n d old) (E : Exa Z h a C) (L : (Cond.lays C O n d).before a0 Z = true) (wi : (Cond.instantiable C kk).before a0 Z = true)
    (hty : parseFieldDescriptor d = some ty) (hn : narrow ty v = v) (hf : fits ty v = true) {g : JFrame} (hg : g.method = m) {rest : List Value} (hs : g.stack = v :: .ref a :: rest) (hd : decode c.code g.pc = .ok (.putfield index, 3)) :
    ∃ T' h', Stand p l e R s m args below meth c T' (locs ++ [⟨a, slotOf Z O n d⟩]) cells slots ∧ T'.heap = h' ∧ Wr h h' a (slotOf Z O n d) v ∧ ∀ target, Steps p.tables e below (T'.setTop { g with pc := g.pc + 3, stack := rest }) target → Steps p.tables e below (T.setTop g) target := by
  obtain ⟨cell, cf, k, i, f, h1, h2, h3, h4, h5, -, h7⟩ := F
  obtain ⟨cell', kc, e1, e2, e3, -⟩ := E
  cases h1.symm.trans e1
  obtain ⟨_, _, _, _, _, _, y1, y2, y3, y4, y5, y6, y7, -⟩ := Cond.lays_spec L
  cases h2.symm.trans y3
  cases e2.symm.trans y1
  obtain ⟨_, _, z1, z2, z3, -⟩ := Cond.instantiable_spec wi
  cases e2.symm.trans z1
  cases y2.symm.trans z2
  have ht := (State.fieldFound?_type h2 hty).2
  have hready := own_ready X hZ hown w h2
  have hfit : Z.fitsSlot cell.cls cell.vm f.slot v = true := by
    have q : Z.slotType? cell.cls cell.vm f.slot = some ty := by
      simp only [State.slotType?, y2, Option.bind_eq_bind, Option.bind_some, z3]
      cases hq : cell.vm <;> first | (rw [hq] at h5; exact Bool.noConfusion h5) | (rw [y7, ht])
    simp [State.fitsSlot, q, hf]
  have hfitT : T.fitsSlot cell.cls cell.vm f.slot v = true := by
    have hU : Z.Warmed39 T.vm := wtrans hZ X.warmed
    rw [← State.fitsSlot_setVm hU.alike] at hfit; exact hfit
  have hlt := (Array.getElem?_eq_some_iff.mp h7).1
  have hcell : T.heap[a]? = some cell := by rw [eT]; exact h1
  have hnar : narrow f.type v = v := by rw [ht]; exact hn
  have es : slotOf Z O n d = f.slot := by simp [slotOf, h2]
  rw [es]
  refine ⟨T.setCell a (cell.setSlot f.slot v), _, X.stored hcell f.slot v, rfl, ⟨cell, h1, h5, hlt, by rw [← eT]; rfl⟩, fun target hr => ?_⟩
  subst hg
  jvm_step X.here [hx, hd, putfield.wp_ready (e := e) (s := T) (f := g) X.here.top hready h3 y5 hs hcell h4, hnar, hlt, hfitT]
  exact hr
end Ref
end Jvm.RoadKit
namespace Jvm.Pilot.@@N@@
open Jvm Jvm.ClassFile Sem Op Lib Jvm.Free Jvm.Stand Jvm.LawKit Jvm.RoadKit Bundle Jvm.Pilot.@@N@@.Jvm.D
abbrev own_ND : String := "com/example/tresse/tresse/queue/LinkedQueue$Node"
abbrev own_LQ : String := "com/example/tresse/tresse/queue/LinkedQueue"
abbrev own_DN : String := "Lcom/example/tresse/tresse/queue/LinkedQueue$Node;"
abbrev own_DO : String := "Ljava/lang/Object;"
abbrev own_IN : String := "java/lang/Integer"
def own_ch (Z : State) (h : Heap) (n0 : Nat) : Addr → List Addr → Addr → Prop
  | a, [], t => a = t ∧ n0 ≤ a ∧ Exa Z h a "com/example/tresse/tresse/queue/LinkedQueue$Node" ∧ (∃ v, Fld Z h a "com/example/tresse/tresse/queue/LinkedQueue$Node" "value" "Ljava/lang/Object;" v) ∧ Fld Z h a "com/example/tresse/tresse/queue/LinkedQueue$Node" "next" "Lcom/example/tresse/tresse/queue/LinkedQueue$Node;" .null
  | a, x :: xs, t => n0 ≤ a ∧ Exa Z h a "com/example/tresse/tresse/queue/LinkedQueue$Node" ∧ (∃ v, Fld Z h a "com/example/tresse/tresse/queue/LinkedQueue$Node" "value" "Ljava/lang/Object;" v) ∧ ∃ b, a < b ∧ Fld Z h a "com/example/tresse/tresse/queue/LinkedQueue$Node" "next" "Lcom/example/tresse/tresse/queue/LinkedQueue$Node;" (.ref b) ∧ Fld Z h b "com/example/tresse/tresse/queue/LinkedQueue$Node" "value" "Ljava/lang/Object;" (.ref x) ∧ own_ch Z h n0 b xs t
theorem own_ch_ext {Z : State} {h h' : Heap} {n0 : Nat} (E : Ext h h') : ∀ {xs : List Addr} {a t : Addr}, own_ch Z h n0 a xs t → own_ch Z h' n0 a xs t
  | [], a, t, ⟨e, g, x, ⟨v, f⟩, y⟩ => ⟨e, g, x.ext E, ⟨v, f.ext E⟩, y.ext E⟩
  | _ :: xs, a, t, ⟨g, x, ⟨v, f⟩, b, lt, y, z, r⟩ => ⟨g, x.ext E, ⟨v, f.ext E⟩, b, lt, y.ext E, z.ext E, own_ch_ext E r⟩
theorem own_ch_le {Z : State} {h : Heap} {n0 : Nat} : ∀ {xs : List Addr} {a t : Addr}, own_ch Z h n0 a xs t → a ≤ t
  | [], a, t, ⟨e, _⟩ => Nat.le_of_eq e
  | _ :: xs, a, t, ⟨_, _, _, b, lt, _, _, r⟩ => Nat.le_trans (Nat.le_of_lt lt) (own_ch_le r)
theorem own_ch_wr {Z : State} {h h' : Heap} {n0 : Nat} {o : Addr} {sl : Nat} {v : Value} (W : Wr h h' o sl v) (hn : ∀ c, Exa Z h c "com/example/tresse/tresse/queue/LinkedQueue$Node" → c ≠ o) : ∀ {xs : List Addr} {a t : Addr}, own_ch Z h n0 a xs t → own_ch Z h' n0 a xs t
  | [], a, t, ⟨e, g, x, ⟨v, f⟩, y⟩ => ⟨e, g, x.wr W, ⟨v, f.other W (Or.inl (hn _ x))⟩, y.other W (Or.inl (hn _ x))⟩
  | _ :: xs, a, t, ⟨g, x, ⟨v, f⟩, b, lt, y, z, r⟩ => ⟨g, x.wr W, ⟨v, f.other W (Or.inl (hn _ x))⟩, b, lt, y.other W (Or.inl (hn _ x)), z.other W (Or.inl (by
      cases xs with
      | nil => exact hn _ r.2.2.1
      | cons q qs => exact hn _ r.2.1)), own_ch_wr W hn r⟩
theorem own_ch_keep {Z : State} {h h' : Heap} {n0 : Nat} {o : Addr} (K : Keep h h' [o]) : ∀ {xs : List Addr} {a t : Addr}, t < o → own_ch Z h n0 a xs t → own_ch Z h' n0 a xs t
  | [], a, t, lo, ⟨e, g, x, ⟨v, f⟩, y⟩ =>
    have q : a ∉ [o] := ninS (Nat.ne_of_lt (Nat.lt_of_le_of_lt (Nat.le_of_eq e) lo)) nin0
    ⟨e, g, x.keep K, ⟨v, f.keep K q⟩, y.keep K q⟩
  | _ :: xs, a, t, lo, ⟨g, x, ⟨v, f⟩, b, lt, y, z, r⟩ =>
    have q2 : b ∉ [o] := ninS (Nat.ne_of_lt (Nat.lt_of_le_of_lt (own_ch_le r) lo)) nin0
    have q : a ∉ [o] := ninS (Nat.ne_of_lt (Nat.lt_trans lt (Nat.lt_of_le_of_lt (own_ch_le r) lo))) nin0
    ⟨g, x.keep K, ⟨v, f.keep K q⟩, b, lt, y.keep K q, z.keep K q2, own_ch_keep K lo r⟩
theorem own_ch_low {Z : State} {h h' : Heap} {n0 : Nat} {o : Addr} {sl : Nat} {v : Value} (W : Wr h h' o sl v) : ∀ {xs : List Addr} {a t : Addr}, o < a → own_ch Z h n0 a xs t → own_ch Z h' n0 a xs t
  | [], a, t, lo, ⟨e, g, x, ⟨v, f⟩, y⟩ => ⟨e, g, x.wr W, ⟨v, f.other W (Or.inl (Nat.ne_of_gt lo))⟩, y.other W (Or.inl (Nat.ne_of_gt lo))⟩
  | _ :: xs, a, t, lo, ⟨g, x, ⟨v, f⟩, b, lt, y, z, r⟩ => ⟨g, x.wr W, ⟨v, f.other W (Or.inl (Nat.ne_of_gt lo))⟩, b, lt, y.other W (Or.inl (Nat.ne_of_gt lo)), z.other W (Or.inl (Nat.ne_of_gt (Nat.lt_trans lo lt))), own_ch_low W (Nat.lt_trans lo lt) r⟩
theorem own_ch_tail {Z : State} {h : Heap} {n0 : Nat} : ∀ {xs : List Addr} {a t : Addr}, own_ch Z h n0 a xs t → n0 ≤ t ∧ Exa Z h t "com/example/tresse/tresse/queue/LinkedQueue$Node" ∧ Fld Z h t "com/example/tresse/tresse/queue/LinkedQueue$Node" "next" "Lcom/example/tresse/tresse/queue/LinkedQueue$Node;" .null
  | [], a, t, ⟨e, g, x, _, y⟩ => by subst e; exact ⟨g, x, y⟩
  | _ :: xs, a, t, ⟨_, _, _, b, _, _, _, r⟩ => own_ch_tail r
theorem own_ch_push {Z : State} {h h' : Heap} {n0 : Nat} {nb y : Addr} (hs : Jvm.RoadKit.slotOf Z "com/example/tresse/tresse/queue/LinkedQueue$Node" "value" "Ljava/lang/Object;" ≠ Jvm.RoadKit.slotOf Z "com/example/tresse/tresse/queue/LinkedQueue$Node" "next" "Lcom/example/tresse/tresse/queue/LinkedQueue$Node;")
    (g : n0 ≤ nb) (e1 : Exa Z h' nb "com/example/tresse/tresse/queue/LinkedQueue$Node") (e2 : Fld Z h' nb "com/example/tresse/tresse/queue/LinkedQueue$Node" "value" "Ljava/lang/Object;" (.ref y)) (e3 : Fld Z h' nb "com/example/tresse/tresse/queue/LinkedQueue$Node" "next" "Lcom/example/tresse/tresse/queue/LinkedQueue$Node;" .null) :
    ∀ {xs : List Addr} {a t : Addr}, Wr h h' t (Jvm.RoadKit.slotOf Z "com/example/tresse/tresse/queue/LinkedQueue$Node" "next" "Lcom/example/tresse/tresse/queue/LinkedQueue$Node;") (.ref nb) → t < nb → own_ch Z h n0 a xs t → own_ch Z h' n0 a (xs ++ [y]) nb
  | [], a, t, W, lo, ⟨e, g0, x, ⟨v, f⟩, z⟩ => by
    subst e
    exact ⟨g0, x.wr W, ⟨v, f.other W (Or.inr hs)⟩, nb, lo, z.same W, e2, rfl, g, e1, ⟨_, e2⟩, e3⟩
  | _ :: xs, a, t, W, lo, ⟨g0, x, ⟨v, f⟩, b, lt, u, z, r⟩ =>
    ⟨g0, x.wr W, ⟨v, f.other W (Or.inr hs)⟩, b, lt, u.other W (Or.inl (Nat.ne_of_lt (Nat.lt_of_lt_of_le lt (own_ch_le r)))), z.other W (Or.inr hs), own_ch_push hs g e1 e2 e3 W lo r⟩
theorem own_ch_pop {Z : State} {h h' : Heap} {n0 : Nat} (hs : Jvm.RoadKit.slotOf Z "com/example/tresse/tresse/queue/LinkedQueue$Node" "next" "Lcom/example/tresse/tresse/queue/LinkedQueue$Node;" ≠ Jvm.RoadKit.slotOf Z "com/example/tresse/tresse/queue/LinkedQueue$Node" "value" "Ljava/lang/Object;") :
    ∀ {xs : List Addr} {b t : Addr}, Wr h h' b (Jvm.RoadKit.slotOf Z "com/example/tresse/tresse/queue/LinkedQueue$Node" "value" "Ljava/lang/Object;") .null → own_ch Z h n0 b xs t → own_ch Z h' n0 b xs t
  | [], b, t, W, ⟨e, g0, x, ⟨v, f⟩, z⟩ => ⟨e, g0, x.wr W, ⟨_, f.same W⟩, z.other W (Or.inr hs)⟩
  | _ :: xs, b, t, W, ⟨g0, x, ⟨v, f⟩, c, lt, u, z, r⟩ => ⟨g0, x.wr W, ⟨_, f.same W⟩, c, lt, u.other W (Or.inr hs), z.other W (Or.inl (Nat.ne_of_gt lt)), own_ch_low W lt r⟩
theorem own_drop {rs : List Addr} {i j : Nat} {r : Addr} (hij : j ≤ i) (h : rs[i]? = some r) : (rs.drop j).take (i - j) ++ [r] = (rs.drop j).take (i + 1 - j) := by
  have e : i + 1 - j = (i - j) + 1 := by omega
  rw [e, List.take_add_one]
  congr 1
  have : (rs.drop j)[i - j]? = some r := by rw [List.getElem?_drop, show j + (i - j) = i by omega]; exact h
  rw [this]; rfl
theorem own_head {rs : List Addr} {i j : Nat} {r : Addr} (hij : j < i) (h : rs[j]? = some r) : (rs.drop j).take (i - j) = r :: (rs.drop (j + 1)).take (i - (j + 1)) := by
  have hl := (List.getElem?_eq_some_iff.mp h).1
  have e : rs.drop j = r :: rs.drop (j + 1) := by
    rw [List.drop_eq_getElem_cons hl]; congr 1; exact (List.getElem?_eq_some_iff.mp h).2
  rw [e, show i - j = (i - (j + 1)) + 1 by omega, List.take_succ_cons]
theorem own_none {rs : List Addr} {i j : Nat} (h : i ≤ j) : (rs.drop j).take (i - j) = [] := by rw [show i - j = 0 by omega]; rfl
theorem own_nat {i : Nat} (h : i < 100) : (Int32.ofNat i).toInt = i := Int32.toInt_ofNat_of_lt (by omega)
theorem own_natlt {i j : Nat} (hi : i < 100) (hj : j < 100) : Int32.ofNat i < Int32.ofNat j ↔ i < j := by
  rw [Int32.lt_iff_toInt_lt, own_nat hi, own_nat hj]; omega
theorem own_nat0 {i : Nat} (h : i < 100) : ¬ Int32.ofNat i < 0 := by rw [Int32.lt_iff_toInt_lt, own_nat h, show (0 : Int32).toInt = 0 from rfl]; omega
theorem own_clamp {i : Nat} (h : i < 100) : (Int32.ofNat i).toNatClampNeg = i := by
  have := own_nat h; show (Int32.ofNat i).toInt.toNat = i; omega
theorem own_succ {i : Nat} (h : i < 50) : Int32.ofNat i + 1 = Int32.ofNat (i + 1) := by
  apply Int32.toInt_inj.mp
  have h1 := c_iadd (Int32.ofNat i) 1
  have h2 := rng32 (Int32.ofNat i + 1)
  rw [own_nat (show i < 100 by omega), show (1 : Int32).toInt = 1 from rfl] at h1
  rw [own_nat (by omega)]; omega
theorem own_ch_hd {Z : State} {h : Heap} {n0 : Nat} : ∀ {xs : List Addr} {a t : Addr}, own_ch Z h n0 a xs t → n0 ≤ a ∧ Exa Z h a "com/example/tresse/tresse/queue/LinkedQueue$Node"
  | [], _, _, r => ⟨r.2.1, r.2.2.1⟩
  | _ :: _, _, _, r => ⟨r.1, r.2.1⟩
theorem own_ix {v : Int32} (h1 : ¬ v < -128) (h2 : ¬ 127 < v) : ¬ (v + 128) < 0 ∧ (v + 128).toNatClampNeg < 256 := by
  rw [Int32.lt_iff_toInt_lt] at h1 h2
  rw [show (-128 : Int32).toInt = -128 from by decide] at h1
  rw [show (127 : Int32).toInt = 127 from by decide] at h2
  have e := c_iadd v 128
  have r := rng32 (v + 128)
  have r2 := rng32 v
  rw [show (128 : Int32).toInt = 128 from by decide] at e
  constructor
  · rw [Int32.lt_iff_toInt_lt, show (0 : Int32).toInt = 0 from rfl]; omega
  · show (v + 128).toInt.toNat < 256; omega
theorem own_getD {rs : List Addr} {i : Nat} {r : Addr} (h : rs[i]? = some r) : (rs.map Value.ref).getD i .null = .ref r := by
  rw [List.getD_eq_getElem?_getD, List.getElem?_map, h]; rfl
theorem own_some {rs : List Addr} {i : Nat} (hl : rs.length = 8) (h : i < 8) : ∃ r, rs[i]? = some r := ⟨_, List.getElem?_eq_getElem (by omega)⟩
theorem d3_0 : decode jdk_18_method_1_code 0 = .ok (.aload_n 0, 1) := by decide +kernel
theorem d3_1 : decode jdk_18_method_1_code 1 = .ok (.invokespecial 1, 3) := by decide +kernel
theorem d3_4 : decode jdk_18_method_1_code 4 = .ok (.return_, 1) := by decide +kernel
theorem own_pn3 : plainName "java/lang/Number" = true := by first | (simp [plainName, overriddenIn]; done) | decide +kernel
theorem ef_3 (m : MethodId) (x0 : Addr) : entryFrame m #[(.ref x0)] 1 = mkF m 0 #[.val (.ref x0)] [] := by first | (simp [entryFrame, mkF, argsToLocals, Value.category]; done) | rfl
def Q3 (Z : State) (ar : Addr) (h0 : Heap) (n0 : Nat) (v : Option Value) (h : Heap) (L : List Loc) : Prop := v = none ∧ Fr n0 L ∧ h = h0
set_option maxRecDepth 65536 in
set_option maxHeartbeats 40000000 in
theorem rm3 (l : Launch) (Z : State) (a0 : Array Value) (hw : ∀ d ∈ tables_1, d.before a0 Z = true) (ws : List Jvm.Cond) (ar : Addr) (h0 : Heap) (n0 : Nat) (Z0 : n0 ≤ h0.size) :
    MetFree l (⟨"java/lang/Number", "<init>", "()V"⟩ : MethodName) (head1 (Jvm.Cond.code (⟨"java/lang/Number", "<init>", "()V"⟩ : MethodName) jdk_18_method_1_code 1 none :: ws) ({ frames := 1, cells := 0, slots := 0, locals := 12 } : Room)) (fun a U => a = #[(.ref ar)] ∧ Z.Warmed39 U.vm ∧ U.heap = h0) (fun _ _ _ _ _ => True) (fun _ U o U' => ∃ v L, o = .returned v ∧ Q3 Z ar h0 n0 v U'.heap L ∧ FrameEnd U o U' L ({ frames := 1, cells := 0, slots := 0, locals := 12 } : Room).cells ({ frames := 1, cells := 0, slots := 0, locals := 12 } : Room).slots) := by
  refine MetFree.of_bodySF (plainFor_of_name own_pn3) hisR ?_
  intro p e s m args below meth c s₁ Bd hml0 hP hK
  obtain ⟨rfl, hZ, hh⟩ := hP
  have hx := Bd.exec
  have hby := Bd.bytes
  have hml : c.maxLocals = 1 := hml0
  have hown : s.vm.findClass "java/lang/Number" = some m.cls := findClass_of_methodNamed Bd.named
  have hnm := (name_of_methodNamed Bd.named Bd.method).1
  have X0 : Stand p l e ({ frames := 1, cells := 0, slots := 0, locals := 12 } : Room) s m #[(.ref ar)] below meth c s₁ [] 0 0 := Stand.of_body Bd
  have e0 : s₁.heap = h0 := by rw [← hh, Bd.state]; rfl
  have N0 := Fr.nil n0
  have pre0 : ∀ t, Steps p.tables e below (s₁.setTop (mkF m 0 #[.val (.ref ar)] [])) t → Steps p.tables e below (s₁.setTop (entryFrame m #[(.ref ar)] 1)) t := fun t k => castTop (ef_3 m ar) k
  generalize s₁.setTop (entryFrame m #[(.ref ar)] 1) = G0 at pre0 ⊢
  obtain ⟨T1, X1, e1, st1⟩ := initO X0 hx hZ hown (hw _ (List.mem_of_getElem? (i := 21) rfl)) (hw _ (List.mem_of_getElem? (i := 22) rfl)) (hw _ (List.mem_of_getElem? (i := 23) rfl)) e0 (g := (mkF m 1 #[.val (.ref ar)] [(.ref ar)])) rfl (by rw [hml]; rfl) rfl (hb hby d3_1) (by decide) (W := 0) (by show 2 * 0 + _ ≤ _; exact Nat.le_of_eq rfl) (by decide)
  obtain ⟨fs, hr, hrun, hended, hW, hsame⟩ := X1.leave (v := none) (fun _ => rfl)
  refine ⟨_, _, pre0 _ ?_, hrun, hended, _, _, rfl, ?_, ⟨_, rfl⟩, hW, hsame.mono (by decide) (by decide)⟩
  · show Steps p.tables e below (s₁.setTop (mkF m 0 #[.val (.ref ar)] [])) _
    refine XS.aloadN X0.here hx rfl (hb hby d3_0) rfl rfl ?_
    show Steps p.tables e below (s₁.setTop (mkF m 1 #[.val (.ref ar)] [(.ref ar)])) _
    refine st1 _ ?_
    show Steps p.tables e below (T1.setTop (mkF m 4 #[.val (.ref ar)] [])) _
    exact X1.returnOut hx Bd.returns (hb hby d3_4) hr
  · show Q3 Z ar h0 n0 _ T1.heap _
    rw [e1]
    exact ⟨rfl, N0, rfl⟩
theorem d2_0 : decode jdk_33_method_23_code 0 = .ok (.aload_n 0, 1) := by decide +kernel
theorem d2_1 : decode jdk_33_method_23_code 1 = .ok (.invokespecial 202, 3) := by decide +kernel
theorem own_pd6 : parseMethodDescriptor "()V" = some ⟨[], none⟩ := by decide +kernel
theorem d2_4 : decode jdk_33_method_23_code 4 = .ok (.aload_n 0, 1) := by decide +kernel
theorem d2_5 : decode jdk_33_method_23_code 5 = .ok (.iload_n 1, 1) := by decide +kernel
theorem d2_6 : decode jdk_33_method_23_code 6 = .ok (.putfield 205, 3) := by decide +kernel
theorem d2_9 : decode jdk_33_method_23_code 9 = .ok (.return_, 1) := by decide +kernel
theorem own_pn11 : plainName "java/lang/Integer" = true := by first | (simp [plainName, overriddenIn]; done) | decide +kernel
theorem ef_2 (m : MethodId) (x0 : Addr) (x1 : Int32) : entryFrame m #[(.ref x0), (.int x1)] 2 = mkF m 0 #[.val (.ref x0), .val (.int x1)] [] := by first | (simp [entryFrame, mkF, argsToLocals, Value.category]; done) | rfl
def Q2 (Z : State) (aa : Addr) (pv : Int32) (h0 : Heap) (n0 : Nat) (v : Option Value) (h : Heap) (L : List Loc) : Prop := v = none ∧ Fr n0 L ∧ Keep h0 h [aa] ∧ Exa Z h aa "java/lang/Integer" ∧ Fld Z h aa "java/lang/Integer" "value" "I" (.int pv)
set_option maxRecDepth 65536 in
set_option maxHeartbeats 40000000 in
theorem rm2 (l : Launch) (Z : State) (a0 : Array Value) (hw : ∀ d ∈ tables_1, d.before a0 Z = true) (ws : List Jvm.Cond) (aa : Addr) (pv : Int32) (h0 : Heap) (n0 : Nat) (Z0 : n0 ≤ h0.size) (Fv : Fld Z h0 aa "java/lang/Integer" "value" "I" (.int (0 : Int32))) (Ea : Exa Z h0 aa "java/lang/Integer") (g_aa : n0 ≤ aa) :
    MetFree l (⟨"java/lang/Integer", "<init>", "(I)V"⟩ : MethodName) (head1 (Jvm.Cond.code (⟨"java/lang/Integer", "<init>", "(I)V"⟩ : MethodName) jdk_33_method_23_code 2 none :: ws) ({ frames := 2, cells := 0, slots := 0, locals := 24 } : Room)) (fun a U => a = #[(.ref aa), (.int pv)] ∧ Z.Warmed39 U.vm ∧ U.heap = h0) (fun _ _ _ _ _ => True) (fun _ U o U' => ∃ v L, o = .returned v ∧ Q2 Z aa pv h0 n0 v U'.heap L ∧ FrameEnd U o U' L ({ frames := 2, cells := 0, slots := 0, locals := 24 } : Room).cells ({ frames := 2, cells := 0, slots := 0, locals := 24 } : Room).slots) := by
  refine MetFree.of_bodySF (plainFor_of_name own_pn11) hisR ?_
  intro p e s m args below meth c s₁ Bd hml0 hP hK
  obtain ⟨rfl, hZ, hh⟩ := hP
  have hx := Bd.exec
  have hby := Bd.bytes
  have hml : c.maxLocals = 2 := hml0
  have hown : s.vm.findClass "java/lang/Integer" = some m.cls := findClass_of_methodNamed Bd.named
  have hnm := (name_of_methodNamed Bd.named Bd.method).1
  have X0 : Stand p l e ({ frames := 2, cells := 0, slots := 0, locals := 24 } : Room) s m #[(.ref aa), (.int pv)] below meth c s₁ [] 0 0 := Stand.of_body Bd
  have e0 : s₁.heap = h0 := by rw [← hh, Bd.state]; rfl
  have N0 := Fr.nil n0
  have pre0 : ∀ t, Steps p.tables e below (s₁.setTop (mkF m 0 #[.val (.ref aa), .val (.int pv)] [])) t → Steps p.tables e below (s₁.setTop (entryFrame m #[(.ref aa), (.int pv)] 2)) t := fun t k => castTop (ef_2 m aa pv) k
  generalize s₁.setTop (entryFrame m #[(.ref aa), (.int pv)] 2) = G0 at pre0 ⊢
  obtain ⟨_, _, ⟨T2, L2, k2, n2⟩, -, X2, ⟨Lc2, hQ2, l2, y2, z2⟩, st2⟩ := X0.specialBack hx (y := (⟨"java/lang/Number", "<init>", "()V"⟩ : MethodName)) rfl hown (mvT hZ (hw _ (List.mem_of_getElem? (i := 15) rfl))) (mvT hZ (hw _ (List.mem_of_getElem? (i := 16) rfl))) (mvT hZ (hw _ (List.mem_of_getElem? (i := 20) rfl))) (by decide) (backOf (W := 0) (rm3 l Z a0 hw [] aa  h0 n0 Z0 ) hZ (hw _ (List.mem_of_getElem? (i := 20) rfl)) (hw _ (List.mem_of_getElem? (i := 19) rfl)) (by decide) (by decide)) (g := (mkF m 1 #[.val (.ref aa), .val (.int pv)] [(.ref aa)])) rfl (by rw [hml]; rfl) (Steps.refl _) (a := aa) (argsL := []) (rest := []) (lenOf own_pd6 rfl) rfl (by show 2 * 0 + _ ≤ _; exact Nat.le_of_eq rfl) (hb hby d2_1) (fun _ _ => ⟨rfl, e0, (by decide : 0 + 0 ≤ _), (by decide : 0 + 0 ≤ _)⟩)
  dsimp only [Pt.U, Pt.locs, Pt.cells, Pt.slots] at X2 l2 y2 z2 st2 hQ2
  rw [l2, y2, z2] at X2
  clear l2 y2 z2
  obtain ⟨rfl, Nq2, e2⟩ := hQ2
  have N2 := Fr.app N0 Nq2
  obtain ⟨T3, h3, X3, e3, W3, st3⟩ := putF X2 hx hZ hown (host := "") (Or.inl (hw _ (List.mem_of_getElem? (i := 24) rfl))) Via.refl e2 Fv Ea (Or.inr ⟨(hw _ (List.mem_of_getElem? (i := 25) rfl)), rfl, hnm⟩) (hw _ (List.mem_of_getElem? (i := 11) rfl)) (ty := .int) (by decide) rfl rfl (g := (mkF m 6 #[.val (.ref aa), .val (.int pv)] [(.int pv), (.ref aa)])) rfl rfl (hb hby d2_6)
  have N3 := Fr.snoc X3 N2 g_aa
  have Zs3 : n0 ≤ h3.size := Nat.le_trans Z0 (Keep.of_wr W3).1
  have KK3 : Keep h0 h3 [aa] := (Keep.refl h0 _).wr W3 (Or.inl (List.mem_of_getElem? (i := 0) rfl))
  have f4 := Ea.wr W3
  have f5 := Fv.same W3
  obtain ⟨fs, hr, hrun, hended, hW, hsame⟩ := X3.leave (v := none) (fun _ => rfl)
  refine ⟨_, _, pre0 _ ?_, hrun, hended, _, _, rfl, ?_, ⟨_, rfl⟩, hW, hsame.mono (by decide) (by decide)⟩
  · show Steps p.tables e below (s₁.setTop (mkF m 0 #[.val (.ref aa), .val (.int pv)] [])) _
    refine XS.aloadN X0.here hx rfl (hb hby d2_0) rfl rfl ?_
    show Steps p.tables e below (s₁.setTop (mkF m 1 #[.val (.ref aa), .val (.int pv)] [(.ref aa)])) _
    refine st2.trans ?_
    show Steps p.tables e below (T2.setTop (mkF m 4 #[.val (.ref aa), .val (.int pv)] [])) _
    refine XS.aloadN X2.here hx rfl (hb hby d2_4) rfl rfl ?_
    show Steps p.tables e below (T2.setTop (mkF m 5 #[.val (.ref aa), .val (.int pv)] [(.ref aa)])) _
    refine XS.iloadN X2.here hx rfl (hb hby d2_5) rfl ?_
    show Steps p.tables e below (T2.setTop (mkF m 6 #[.val (.ref aa), .val (.int pv)] [(.int pv), (.ref aa)])) _
    refine st3 _ ?_
    show Steps p.tables e below (T3.setTop (mkF m 9 #[.val (.ref aa), .val (.int pv)] [])) _
    exact X3.returnOut hx Bd.returns (hb hby d2_9) hr
  · show Q2 Z aa pv h0 n0 _ T3.heap _
    rw [e3]
    exact ⟨rfl, N3, KK3, f4, f5⟩
theorem d1_0 : decode jdk_33_method_22_code 0 = .ok (.iload_n 0, 1) := by decide +kernel
theorem d1_1 : decode jdk_33_method_22_code 1 = .ok (.bipush (-128), 2) := by decide +kernel
theorem d1_3 : decode jdk_33_method_22_code 3 = .ok (.if_icmp .lt 20, 3) := by decide +kernel
theorem d1_23 : decode jdk_33_method_22_code 23 = .ok (.new 1, 3) := by decide +kernel
theorem d1_26 : decode jdk_33_method_22_code 26 = .ok (.dup, 1) := by decide +kernel
theorem d1_27 : decode jdk_33_method_22_code 27 = .ok (.iload_n 0, 1) := by decide +kernel
theorem d1_28 : decode jdk_33_method_22_code 28 = .ok (.invokespecial 199, 3) := by decide +kernel
theorem own_pd19 : parseMethodDescriptor "(I)V" = some ⟨[.int], none⟩ := by decide +kernel
theorem d1_31 : decode jdk_33_method_22_code 31 = .ok (.areturn, 1) := by decide +kernel
theorem d1_6 : decode jdk_33_method_22_code 6 = .ok (.iload_n 0, 1) := by decide +kernel
theorem d1_7 : decode jdk_33_method_22_code 7 = .ok (.getstatic 191, 3) := by decide +kernel
theorem d1_10 : decode jdk_33_method_22_code 10 = .ok (.if_icmp .gt 13, 3) := by decide +kernel
theorem d1_13 : decode jdk_33_method_22_code 13 = .ok (.getstatic 195, 3) := by decide +kernel
theorem d1_16 : decode jdk_33_method_22_code 16 = .ok (.iload_n 0, 1) := by decide +kernel
theorem d1_17 : decode jdk_33_method_22_code 17 = .ok (.sipush 128, 3) := by decide +kernel
theorem d1_20 : decode jdk_33_method_22_code 20 = .ok (.iadd, 1) := by decide +kernel
theorem d1_21 : decode jdk_33_method_22_code 21 = .ok (.aaload, 1) := by decide +kernel
theorem d1_22 : decode jdk_33_method_22_code 22 = .ok (.areturn, 1) := by decide +kernel
theorem ef_1 (m : MethodId) (x0 : Int32) : entryFrame m #[(.int x0)] 1 = mkF m 0 #[.val (.int x0)] [] := by first | (simp [entryFrame, mkF, argsToLocals, Value.category]; done) | rfl
def Q1 (Z : State) (pv : Int32) (ac : Addr) (clc : Cell) (h0 : Heap) (n0 : Nat) (v : Option Value) (h : Heap) (L : List Loc) : Prop := ∃ (ro : Addr), v = some (.ref ro) ∧ Fr n0 L ∧ Keep h0 h [] ∧ Exa Z h ro "java/lang/Integer"
set_option maxRecDepth 65536 in
set_option maxHeartbeats 40000000 in
theorem rm1 (l : Launch) (Z : State) (a0 : Array Value) (hw : ∀ d ∈ tables_1, d.before a0 Z = true) (ws : List Jvm.Cond) (pv : Int32) (ac : Addr) (clc : Cell) (h0 : Heap) (n0 : Nat) (Z0 : n0 ≤ h0.size) (O0 : Old Z n0 h0) (Shi : Sta Z Z.heap "java/lang/Integer$IntegerCache" "high" "I" (.int (127 : Int32))) (Sca : Sta Z Z.heap "java/lang/Integer$IntegerCache" "cache" "[Ljava/lang/Integer;" (.ref ac)) (Ac : Arr Z Z.heap ac clc (.object "java/lang/Integer")) (hsz : clc.slots.size = 256) (hel : ∀ k : Nat, k < 256 → ∃ r, clc.slots[k]? = some (.ref r) ∧ Exa Z Z.heap r "java/lang/Integer") :
    MetFree l (⟨"java/lang/Integer", "valueOf", "(I)Ljava/lang/Integer;"⟩ : MethodName) (head1 (Jvm.Cond.code (⟨"java/lang/Integer", "valueOf", "(I)Ljava/lang/Integer;"⟩ : MethodName) jdk_33_method_22_code 1 (some (.object "java/lang/Integer")) :: ws) ({ frames := 3, cells := 1, slots := 1, locals := 38 } : Room)) (fun a U => a = #[(.int pv)] ∧ Z.Warmed39 U.vm ∧ U.heap = h0) (fun _ _ _ _ _ => True) (fun _ U o U' => ∃ v L, o = .returned v ∧ Q1 Z pv ac clc h0 n0 v U'.heap L ∧ FrameEnd U o U' L ({ frames := 3, cells := 1, slots := 1, locals := 38 } : Room).cells ({ frames := 3, cells := 1, slots := 1, locals := 38 } : Room).slots) := by
  refine MetFree.of_bodySF (plainFor_of_name own_pn11) hisR ?_
  intro p e s m args below meth c s₁ Bd hml0 hP hK
  obtain ⟨rfl, hZ, hh⟩ := hP
  have hx := Bd.exec
  have hby := Bd.bytes
  have hml : c.maxLocals = 1 := hml0
  have hown : s.vm.findClass "java/lang/Integer" = some m.cls := findClass_of_methodNamed Bd.named
  have hnm := (name_of_methodNamed Bd.named Bd.method).1
  have X0 : Stand p l e ({ frames := 3, cells := 1, slots := 1, locals := 38 } : Room) s m #[(.int pv)] below meth c s₁ [] 0 0 := Stand.of_body Bd
  have e0 : s₁.heap = h0 := by rw [← hh, Bd.state]; rfl
  have N0 := Fr.nil n0
  have pre0 : ∀ t, Steps p.tables e below (s₁.setTop (mkF m 0 #[.val (.int pv)] [])) t → Steps p.tables e below (s₁.setTop (entryFrame m #[(.int pv)] 1)) t := fun t k => castTop (ef_1 m pv) k
  generalize s₁.setTop (entryFrame m #[(.int pv)] 1) = G0 at pre0 ⊢
  have pre6 : ∀ t, Steps p.tables e below (s₁.setTop (mkF m 3 #[.val (.int pv)] [(.int (-128 : Int32)), (.int pv)])) t → Steps p.tables e below G0 t := by
    intro t k
    refine pre0 t ?_
    show Steps p.tables e below (s₁.setTop (mkF m 0 #[.val (.int pv)] [])) _
    refine XS.iloadN X0.here hx rfl (hb hby d1_0) rfl ?_
    show Steps p.tables e below (s₁.setTop (mkF m 1 #[.val (.int pv)] [(.int pv)])) _
    refine XS.bipush X0.here hx rfl (hb hby d1_1) ?_
    exact k
  by_cases hc3_7 : pv < (-128 : Int32)
  · obtain ⟨T8, h8, X8, e8, E8, A8, D8, -, st8⟩ := newO X0 hx hZ hown (hw _ (List.mem_of_getElem? (i := 10) rfl)) (hw _ (List.mem_of_getElem? (i := 11) rfl)) (hw _ (List.mem_of_getElem? (i := 4) rfl)) e0 (g := (mkF m 23 #[.val (.int pv)] [])) rfl (hb hby d1_23) (by decide) (by decide)
    obtain ⟨b8, g8⟩ : ∃ z, z = h0.size := ⟨_, rfl⟩
    rw [← g8] at A8 D8 st8
    have g_b8 : n0 ≤ b8 := Nat.le_trans Z0 (Nat.le_of_eq g8.symm)
    have sz_b8 : h0.size ≤ b8 := Nat.le_of_eq g8.symm
    have Zs8 : n0 ≤ h8.size := Nat.le_trans Z0 E8.1
    have KK8 : Keep h0 h8 [] := (Keep.refl h0 _).ext E8
    have O8 := O0.ext E8
    have f9 := (Shi.ext O0.2).ext E8
    have f10 := (Sca.ext O0.2).ext E8
    have f11 : Fld Z h8 b8 "java/lang/Integer" "value" "I" (.int (0 : Int32)) := D8 (Or.inr (hw _ (List.mem_of_getElem? (i := 25) rfl))) (ty := .int) (by decide)
    obtain ⟨_, _, ⟨T12, L12, k12, n12⟩, -, X12, ⟨Lc12, hQ12, l12, y12, z12⟩, st12⟩ := X8.specialBack hx (y := (⟨"java/lang/Integer", "<init>", "(I)V"⟩ : MethodName)) rfl hown (mvT hZ (hw _ (List.mem_of_getElem? (i := 12) rfl))) (mvT hZ (hw _ (List.mem_of_getElem? (i := 13) rfl))) (mvT hZ (hw _ (List.mem_of_getElem? (i := 14) rfl))) (by decide) (backOf (W := 1) (rm2 l Z a0 hw [] b8 pv  h8 n0 Zs8 f11 A8 g_b8) hZ (hw _ (List.mem_of_getElem? (i := 14) rfl)) (hw _ (List.mem_of_getElem? (i := 4) rfl)) (by decide) (by decide)) (g := (mkF m 28 #[.val (.int pv)] [(.int pv), (.ref b8), (.ref b8)])) rfl (by rw [hml]; rfl) (Steps.refl _) (a := b8) (argsL := [(.int pv)]) (rest := [(.ref b8)]) (lenOf own_pd19 rfl) rfl (by show 2 * 0 + _ ≤ _; exact Nat.le_of_eq rfl) (hb hby d1_28) (fun _ _ => ⟨rfl, e8, (by decide : 1 + 0 ≤ _), (by decide : 1 + 0 ≤ _)⟩)
    dsimp only [Pt.U, Pt.locs, Pt.cells, Pt.slots] at X12 l12 y12 z12 st12 hQ12
    rw [l12, y12, z12] at X12
    clear l12 y12 z12
    obtain ⟨rfl, Nq12, K12, p12_0, p12_1⟩ := hQ12
    have N12 := Fr.app N0 Nq12
    have Zs12 : n0 ≤ T12.heap.size := Nat.le_trans Zs8 K12.1
    have KK12 : Keep h0 T12.heap [] := KK8.trans K12 (allS (Or.inr sz_b8) all0)
    have O12 := O8.keep K12 (allS g_b8 all0)
    have f13 := Shi.ext O12.2
    have f14 := Sca.ext O12.2
    have f15 := A8.keep K12
    obtain ⟨fs, hr, hrun, hended, hW, hsame⟩ := X12.leave (v := some (.ref b8)) (fun h => by rw [Bd.returns] at h; cases h)
    refine ⟨_, _, pre6 _ ?_, hrun, hended, _, _, rfl, ?_, ⟨_, rfl⟩, hW, hsame.mono (by decide) (by decide)⟩
    · show Steps p.tables e below (s₁.setTop (mkF m 3 #[.val (.int pv)] [(.int (-128 : Int32)), (.int pv)])) _
      refine XS.icmpYes X0.here hx rfl (pc0 := 3) (pc' := 23) rfl (hb hby d1_3) rfl (tlt hc3_7).1 (by decide) (by decide) ?_
      show Steps p.tables e below (s₁.setTop (mkF m 23 #[.val (.int pv)] [])) _
      refine st8 _ ?_
      show Steps p.tables e below (T8.setTop (mkF m 26 #[.val (.int pv)] [(.ref b8)])) _
      refine XS.dup X8.here hx rfl (hb hby d1_26) rfl rfl ?_
      show Steps p.tables e below (T8.setTop (mkF m 27 #[.val (.int pv)] [(.ref b8), (.ref b8)])) _
      refine XS.iloadN X8.here hx rfl (hb hby d1_27) rfl ?_
      show Steps p.tables e below (T8.setTop (mkF m 28 #[.val (.int pv)] [(.int pv), (.ref b8), (.ref b8)])) _
      refine st12.trans ?_
      show Steps p.tables e below (T12.setTop (mkF m 31 #[.val (.int pv)] [(.ref b8)])) _
      jvm_step X12.here [X12.here.top, hx, (hb hby d1_31), X12.method', Bd.returns, Value.isRef, FieldType.isReference]
      first | (intro acts; rw [hr _ acts rfl rfl rfl]) | rw [hr _ _ rfl rfl rfl]
      exact Steps.refl _
    · show Q1 Z pv ac clc h0 n0 _ T12.heap _
      exact ⟨b8, rfl, N12, KK12, p12_0⟩
  · obtain ⟨T16, X16, e16, st16⟩ := getS2 X0 hx hZ hown (host := "") (Or.inl (hw _ (List.mem_of_getElem? (i := 6) rfl))) Via.refl e0 (Shi.ext O0.2) (g := (mkF m 7 #[.val (.int pv)] [(.int pv)])) rfl (hb hby d1_7)
    have pre17 : ∀ t, Steps p.tables e below (T16.setTop (mkF m 10 #[.val (.int pv)] [(.int (127 : Int32)), (.int pv)])) t → Steps p.tables e below G0 t := by
      intro t k
      refine pre6 t ?_
      show Steps p.tables e below (s₁.setTop (mkF m 3 #[.val (.int pv)] [(.int (-128 : Int32)), (.int pv)])) _
      refine XS.icmpNo X0.here hx rfl (hb hby d1_3) rfl (flt hc3_7).1 ?_
      show Steps p.tables e below (s₁.setTop (mkF m 6 #[.val (.int pv)] [])) _
      refine XS.iloadN X0.here hx rfl (hb hby d1_6) rfl ?_
      show Steps p.tables e below (s₁.setTop (mkF m 7 #[.val (.int pv)] [(.int pv)])) _
      refine st16 _ ?_
      exact k
    by_cases hc10_18 : (127 : Int32) < pv
    · obtain ⟨T19, h19, X19, e19, E19, A19, D19, -, st19⟩ := newO X16 hx hZ hown (hw _ (List.mem_of_getElem? (i := 10) rfl)) (hw _ (List.mem_of_getElem? (i := 11) rfl)) (hw _ (List.mem_of_getElem? (i := 4) rfl)) e16 (g := (mkF m 23 #[.val (.int pv)] [])) rfl (hb hby d1_23) (by decide) (by decide)
      obtain ⟨b19, g19⟩ : ∃ z, z = h0.size := ⟨_, rfl⟩
      rw [← g19] at A19 D19 st19
      have g_b19 : n0 ≤ b19 := Nat.le_trans Z0 (Nat.le_of_eq g19.symm)
      have sz_b19 : h0.size ≤ b19 := Nat.le_of_eq g19.symm
      have Zs19 : n0 ≤ h19.size := Nat.le_trans Z0 E19.1
      have KK19 : Keep h0 h19 [] := (Keep.refl h0 _).ext E19
      have O19 := O0.ext E19
      have f20 := (Shi.ext O0.2).ext E19
      have f21 := (Sca.ext O0.2).ext E19
      have f22 : Fld Z h19 b19 "java/lang/Integer" "value" "I" (.int (0 : Int32)) := D19 (Or.inr (hw _ (List.mem_of_getElem? (i := 25) rfl))) (ty := .int) (by decide)
      obtain ⟨_, _, ⟨T23, L23, k23, n23⟩, -, X23, ⟨Lc23, hQ23, l23, y23, z23⟩, st23⟩ := X19.specialBack hx (y := (⟨"java/lang/Integer", "<init>", "(I)V"⟩ : MethodName)) rfl hown (mvT hZ (hw _ (List.mem_of_getElem? (i := 12) rfl))) (mvT hZ (hw _ (List.mem_of_getElem? (i := 13) rfl))) (mvT hZ (hw _ (List.mem_of_getElem? (i := 14) rfl))) (by decide) (backOf (W := 1) (rm2 l Z a0 hw [] b19 pv  h19 n0 Zs19 f22 A19 g_b19) hZ (hw _ (List.mem_of_getElem? (i := 14) rfl)) (hw _ (List.mem_of_getElem? (i := 4) rfl)) (by decide) (by decide)) (g := (mkF m 28 #[.val (.int pv)] [(.int pv), (.ref b19), (.ref b19)])) rfl (by rw [hml]; rfl) (Steps.refl _) (a := b19) (argsL := [(.int pv)]) (rest := [(.ref b19)]) (lenOf own_pd19 rfl) rfl (by show 2 * 0 + _ ≤ _; exact Nat.le_of_eq rfl) (hb hby d1_28) (fun _ _ => ⟨rfl, e19, (by decide : 1 + 0 ≤ _), (by decide : 1 + 0 ≤ _)⟩)
      dsimp only [Pt.U, Pt.locs, Pt.cells, Pt.slots] at X23 l23 y23 z23 st23 hQ23
      rw [l23, y23, z23] at X23
      clear l23 y23 z23
      obtain ⟨rfl, Nq23, K23, p23_0, p23_1⟩ := hQ23
      have N23 := Fr.app N0 Nq23
      have Zs23 : n0 ≤ T23.heap.size := Nat.le_trans Zs19 K23.1
      have KK23 : Keep h0 T23.heap [] := KK19.trans K23 (allS (Or.inr sz_b19) all0)
      have O23 := O19.keep K23 (allS g_b19 all0)
      have f24 := Shi.ext O23.2
      have f25 := Sca.ext O23.2
      have f26 := A19.keep K23
      obtain ⟨fs, hr, hrun, hended, hW, hsame⟩ := X23.leave (v := some (.ref b19)) (fun h => by rw [Bd.returns] at h; cases h)
      refine ⟨_, _, pre17 _ ?_, hrun, hended, _, _, rfl, ?_, ⟨_, rfl⟩, hW, hsame.mono (by decide) (by decide)⟩
      · show Steps p.tables e below (T16.setTop (mkF m 10 #[.val (.int pv)] [(.int (127 : Int32)), (.int pv)])) _
        refine XS.icmpYes X16.here hx rfl (pc0 := 10) (pc' := 23) rfl (hb hby d1_10) rfl (tlt hc10_18).2.2.1 (by decide) (by decide) ?_
        show Steps p.tables e below (T16.setTop (mkF m 23 #[.val (.int pv)] [])) _
        refine st19 _ ?_
        show Steps p.tables e below (T19.setTop (mkF m 26 #[.val (.int pv)] [(.ref b19)])) _
        refine XS.dup X19.here hx rfl (hb hby d1_26) rfl rfl ?_
        show Steps p.tables e below (T19.setTop (mkF m 27 #[.val (.int pv)] [(.ref b19), (.ref b19)])) _
        refine XS.iloadN X19.here hx rfl (hb hby d1_27) rfl ?_
        show Steps p.tables e below (T19.setTop (mkF m 28 #[.val (.int pv)] [(.int pv), (.ref b19), (.ref b19)])) _
        refine st23.trans ?_
        show Steps p.tables e below (T23.setTop (mkF m 31 #[.val (.int pv)] [(.ref b19)])) _
        jvm_step X23.here [X23.here.top, hx, (hb hby d1_31), X23.method', Bd.returns, Value.isRef, FieldType.isReference]
        first | (intro acts; rw [hr _ acts rfl rfl rfl]) | rw [hr _ _ rfl rfl rfl]
        exact Steps.refl _
      · show Q1 Z pv ac clc h0 n0 _ T23.heap _
        exact ⟨b19, rfl, N23, KK23, p23_0⟩
    · obtain ⟨T27, X27, e27, st27⟩ := getS2 X16 hx hZ hown (host := "") (Or.inl (hw _ (List.mem_of_getElem? (i := 8) rfl))) Via.refl e16 (Sca.ext O0.2) (g := (mkF m 13 #[.val (.int pv)] [])) rfl (hb hby d1_13)
      have hix := own_ix hc3_7 hc10_18
      obtain ⟨rc, hrc, Erc⟩ := hel _ hix.2
      have hin : ¬ ((pv + (128 : Int32)) < 0 ∨ clc.slots.size ≤ (pv + (128 : Int32)).toNatClampNeg) := fun q => q.elim hix.1 (fun z => absurd hix.2 (Nat.not_lt.mpr (hsz ▸ z)))
      obtain ⟨fs, hr, hrun, hended, hW, hsame⟩ := X27.leave (v := some (.ref rc)) (fun h => by rw [Bd.returns] at h; cases h)
      refine ⟨_, _, pre17 _ ?_, hrun, hended, _, _, rfl, ?_, ⟨_, rfl⟩, hW, hsame.mono (by decide) (by decide)⟩
      · show Steps p.tables e below (T16.setTop (mkF m 10 #[.val (.int pv)] [(.int (127 : Int32)), (.int pv)])) _
        refine XS.icmpNo X16.here hx rfl (hb hby d1_10) rfl (flt hc10_18).2.2.1 ?_
        show Steps p.tables e below (T16.setTop (mkF m 13 #[.val (.int pv)] [])) _
        refine st27 _ ?_
        show Steps p.tables e below (T27.setTop (mkF m 16 #[.val (.int pv)] [(.ref ac)])) _
        refine XS.iloadN X27.here hx rfl (hb hby d1_16) rfl ?_
        show Steps p.tables e below (T27.setTop (mkF m 17 #[.val (.int pv)] [(.int pv), (.ref ac)])) _
        refine XS.sipush X27.here hx rfl (hb hby d1_17) ?_
        show Steps p.tables e below (T27.setTop (mkF m 20 #[.val (.int pv)] [(.int (128 : Int32)), (.int pv), (.ref ac)])) _
        refine XS.iadd X27.here hx rfl (hb hby d1_20) rfl ?_
        show Steps p.tables e below (T27.setTop (mkF m 21 #[.val (.int pv)] [(.int (pv + (128 : Int32))), (.ref ac)])) _
        refine X27.aaload hx (j := (pv + (128 : Int32))) (v := (.ref rc)) (by rw [e27]; exact (Ac.ext O0.2).1) (State.isArrayOf_alike hZ.alike (Ac.ext O0.2).2.1) rfl (Ac.ext O0.2).2.2 hin hrc (g := (mkF m 21 #[.val (.int pv)] [(.int (pv + (128 : Int32))), (.ref ac)])) rfl rfl (hb hby d1_21) _ ?_
        show Steps p.tables e below (T27.setTop (mkF m 22 #[.val (.int pv)] [(.ref rc)])) _
        jvm_step X27.here [X27.here.top, hx, (hb hby d1_22), X27.method', Bd.returns, Value.isRef, FieldType.isReference]
        first | (intro acts; rw [hr _ acts rfl rfl rfl]) | rw [hr _ _ rfl rfl rfl]
        exact Steps.refl _
      · show Q1 Z pv ac clc h0 n0 _ T27.heap _
        rw [e27]
        exact ⟨rc, rfl, N0, (Keep.refl _ _), (Erc.ext O0.2)⟩
theorem d6_0 : decode prog_94_method_1_code 0 = .ok (.aload_n 0, 1) := by decide +kernel
theorem d6_1 : decode prog_94_method_1_code 1 = .ok (.invokespecial 1, 3) := by decide +kernel
theorem d6_4 : decode prog_94_method_1_code 4 = .ok (.aload_n 0, 1) := by decide +kernel
theorem d6_5 : decode prog_94_method_1_code 5 = .ok (.aload_n 1, 1) := by decide +kernel
theorem d6_6 : decode prog_94_method_1_code 6 = .ok (.putfield 7, 3) := by decide +kernel
theorem d6_9 : decode prog_94_method_1_code 9 = .ok (.return_, 1) := by decide +kernel
theorem own_pn36 : plainName "com/example/tresse/tresse/queue/LinkedQueue$Node" = true := by first | (simp [plainName, overriddenIn]; done) | decide +kernel
theorem ef_6n (m : MethodId) (x0 : Addr) : entryFrame m #[(.ref x0), .null] 2 = mkF m 0 #[.val (.ref x0), .val .null] [] := by first | (simp [entryFrame, mkF, argsToLocals, Value.category]; done) | rfl
def Q6n (Z : State) (aa : Addr) (h0 : Heap) (n0 : Nat) (v : Option Value) (h : Heap) (L : List Loc) : Prop := v = none ∧ Fr n0 L ∧ Keep h0 h [aa] ∧ Exa Z h aa "com/example/tresse/tresse/queue/LinkedQueue$Node" ∧ Fld Z h aa "com/example/tresse/tresse/queue/LinkedQueue$Node" "value" "Ljava/lang/Object;" .null ∧ Fld Z h aa "com/example/tresse/tresse/queue/LinkedQueue$Node" "next" "Lcom/example/tresse/tresse/queue/LinkedQueue$Node;" .null
set_option maxRecDepth 65536 in
set_option maxHeartbeats 40000000 in
theorem rm6n (l : Launch) (Z : State) (a0 : Array Value) (hw : ∀ d ∈ tables_1, d.before a0 Z = true) (ws : List Jvm.Cond) (aa : Addr) (h0 : Heap) (n0 : Nat) (Z0 : n0 ≤ h0.size) (Fv : Fld Z h0 aa "com/example/tresse/tresse/queue/LinkedQueue$Node" "value" "Ljava/lang/Object;" .null) (Fn : Fld Z h0 aa "com/example/tresse/tresse/queue/LinkedQueue$Node" "next" "Lcom/example/tresse/tresse/queue/LinkedQueue$Node;" .null) (Ea : Exa Z h0 aa "com/example/tresse/tresse/queue/LinkedQueue$Node") (g_aa : n0 ≤ aa) :
    MetFree l (⟨"com/example/tresse/tresse/queue/LinkedQueue$Node", "<init>", "(Ljava/lang/Object;)V"⟩ : MethodName) (head1 (Jvm.Cond.code (⟨"com/example/tresse/tresse/queue/LinkedQueue$Node", "<init>", "(Ljava/lang/Object;)V"⟩ : MethodName) prog_94_method_1_code 2 none :: ws) ({ frames := 1, cells := 0, slots := 0, locals := 12 } : Room)) (fun a U => a = #[(.ref aa), .null] ∧ Z.Warmed39 U.vm ∧ U.heap = h0) (fun _ _ _ _ _ => True) (fun _ U o U' => ∃ v L, o = .returned v ∧ Q6n Z aa h0 n0 v U'.heap L ∧ FrameEnd U o U' L ({ frames := 1, cells := 0, slots := 0, locals := 12 } : Room).cells ({ frames := 1, cells := 0, slots := 0, locals := 12 } : Room).slots) := by
  refine MetFree.of_bodySF (plainFor_of_name own_pn36) hisR ?_
  intro p e s m args below meth c s₁ Bd hml0 hP hK
  obtain ⟨rfl, hZ, hh⟩ := hP
  have hx := Bd.exec
  have hby := Bd.bytes
  have hml : c.maxLocals = 2 := hml0
  have hown : s.vm.findClass "com/example/tresse/tresse/queue/LinkedQueue$Node" = some m.cls := findClass_of_methodNamed Bd.named
  have hnm := (name_of_methodNamed Bd.named Bd.method).1
  have X0 : Stand p l e ({ frames := 1, cells := 0, slots := 0, locals := 12 } : Room) s m #[(.ref aa), .null] below meth c s₁ [] 0 0 := Stand.of_body Bd
  have e0 : s₁.heap = h0 := by rw [← hh, Bd.state]; rfl
  have N0 := Fr.nil n0
  have pre0 : ∀ t, Steps p.tables e below (s₁.setTop (mkF m 0 #[.val (.ref aa), .val .null] [])) t → Steps p.tables e below (s₁.setTop (entryFrame m #[(.ref aa), .null] 2)) t := fun t k => castTop (ef_6n m aa) k
  generalize s₁.setTop (entryFrame m #[(.ref aa), .null] 2) = G0 at pre0 ⊢
  obtain ⟨T29, X29, e29, st29⟩ := initO X0 hx hZ hown (hw _ (List.mem_of_getElem? (i := 40) rfl)) (hw _ (List.mem_of_getElem? (i := 22) rfl)) (hw _ (List.mem_of_getElem? (i := 23) rfl)) e0 (g := (mkF m 1 #[.val (.ref aa), .val .null] [(.ref aa)])) rfl (by rw [hml]; rfl) rfl (hb hby d6_1) (by decide) (W := 0) (by show 2 * 0 + _ ≤ _; exact Nat.le_of_eq rfl) (by decide)
  obtain ⟨T30, h30, X30, e30, W30, st30⟩ := putF X29 hx hZ hown (host := "") (Or.inl (hw _ (List.mem_of_getElem? (i := 41) rfl))) Via.refl e29 Fv Ea (Or.inl (hw _ (List.mem_of_getElem? (i := 42) rfl))) (hw _ (List.mem_of_getElem? (i := 35) rfl)) (ty := (.object "java/lang/Object")) (by decide) rfl rfl (g := (mkF m 6 #[.val (.ref aa), .val .null] [.null, (.ref aa)])) rfl rfl (hb hby d6_6)
  have N30 := Fr.snoc X30 N0 g_aa
  have Zs30 : n0 ≤ h30.size := Nat.le_trans Z0 (Keep.of_wr W30).1
  have KK30 : Keep h0 h30 [aa] := (Keep.refl h0 _).wr W30 (Or.inl (List.mem_of_getElem? (i := 0) rfl))
  have f31 := Ea.wr W30
  have f32 := Fv.same W30
  have f33 := Fn.other W30 (Or.inr (slot_ne (Or.inl (hw _ (List.mem_of_getElem? (i := 57) rfl))) (Or.inl (hw _ (List.mem_of_getElem? (i := 42) rfl))) (by decide) (t := (.object "com/example/tresse/tresse/queue/LinkedQueue$Node")) (t' := (.object "java/lang/Object")) (by decide) (by decide)))
  obtain ⟨fs, hr, hrun, hended, hW, hsame⟩ := X30.leave (v := none) (fun _ => rfl)
  refine ⟨_, _, pre0 _ ?_, hrun, hended, _, _, rfl, ?_, ⟨_, rfl⟩, hW, hsame.mono (by decide) (by decide)⟩
  · show Steps p.tables e below (s₁.setTop (mkF m 0 #[.val (.ref aa), .val .null] [])) _
    refine XS.aloadN X0.here hx rfl (hb hby d6_0) rfl rfl ?_
    show Steps p.tables e below (s₁.setTop (mkF m 1 #[.val (.ref aa), .val .null] [(.ref aa)])) _
    refine st29 _ ?_
    show Steps p.tables e below (T29.setTop (mkF m 4 #[.val (.ref aa), .val .null] [])) _
    refine XS.aloadN X29.here hx rfl (hb hby d6_4) rfl rfl ?_
    show Steps p.tables e below (T29.setTop (mkF m 5 #[.val (.ref aa), .val .null] [(.ref aa)])) _
    refine XS.aloadN X29.here hx rfl (hb hby d6_5) rfl rfl ?_
    show Steps p.tables e below (T29.setTop (mkF m 6 #[.val (.ref aa), .val .null] [.null, (.ref aa)])) _
    refine st30 _ ?_
    show Steps p.tables e below (T30.setTop (mkF m 9 #[.val (.ref aa), .val .null] [])) _
    exact X30.returnOut hx Bd.returns (hb hby d6_9) hr
  · show Q6n Z aa h0 n0 _ T30.heap _
    rw [e30]
    exact ⟨rfl, N30, KK30, f31, f32, f33⟩
theorem ef_6r (m : MethodId) (x0 : Addr) (x1 : Addr) : entryFrame m #[(.ref x0), (.ref x1)] 2 = mkF m 0 #[.val (.ref x0), .val (.ref x1)] [] := by first | (simp [entryFrame, mkF, argsToLocals, Value.category]; done) | rfl
def Q6r (Z : State) (aa : Addr) (ax : Addr) (h0 : Heap) (n0 : Nat) (v : Option Value) (h : Heap) (L : List Loc) : Prop := v = none ∧ Fr n0 L ∧ Keep h0 h [aa] ∧ Exa Z h aa "com/example/tresse/tresse/queue/LinkedQueue$Node" ∧ Fld Z h aa "com/example/tresse/tresse/queue/LinkedQueue$Node" "value" "Ljava/lang/Object;" (.ref ax) ∧ Fld Z h aa "com/example/tresse/tresse/queue/LinkedQueue$Node" "next" "Lcom/example/tresse/tresse/queue/LinkedQueue$Node;" .null
set_option maxRecDepth 65536 in
set_option maxHeartbeats 40000000 in
theorem rm6r (l : Launch) (Z : State) (a0 : Array Value) (hw : ∀ d ∈ tables_1, d.before a0 Z = true) (ws : List Jvm.Cond) (aa : Addr) (ax : Addr) (h0 : Heap) (n0 : Nat) (Z0 : n0 ≤ h0.size) (Fv : Fld Z h0 aa "com/example/tresse/tresse/queue/LinkedQueue$Node" "value" "Ljava/lang/Object;" .null) (Fn : Fld Z h0 aa "com/example/tresse/tresse/queue/LinkedQueue$Node" "next" "Lcom/example/tresse/tresse/queue/LinkedQueue$Node;" .null) (Ea : Exa Z h0 aa "com/example/tresse/tresse/queue/LinkedQueue$Node") (g_aa : n0 ≤ aa) :
    MetFree l (⟨"com/example/tresse/tresse/queue/LinkedQueue$Node", "<init>", "(Ljava/lang/Object;)V"⟩ : MethodName) (head1 (Jvm.Cond.code (⟨"com/example/tresse/tresse/queue/LinkedQueue$Node", "<init>", "(Ljava/lang/Object;)V"⟩ : MethodName) prog_94_method_1_code 2 none :: ws) ({ frames := 1, cells := 0, slots := 0, locals := 12 } : Room)) (fun a U => a = #[(.ref aa), (.ref ax)] ∧ Z.Warmed39 U.vm ∧ U.heap = h0) (fun _ _ _ _ _ => True) (fun _ U o U' => ∃ v L, o = .returned v ∧ Q6r Z aa ax h0 n0 v U'.heap L ∧ FrameEnd U o U' L ({ frames := 1, cells := 0, slots := 0, locals := 12 } : Room).cells ({ frames := 1, cells := 0, slots := 0, locals := 12 } : Room).slots) := by
  refine MetFree.of_bodySF (plainFor_of_name own_pn36) hisR ?_
  intro p e s m args below meth c s₁ Bd hml0 hP hK
  obtain ⟨rfl, hZ, hh⟩ := hP
  have hx := Bd.exec
  have hby := Bd.bytes
  have hml : c.maxLocals = 2 := hml0
  have hown : s.vm.findClass "com/example/tresse/tresse/queue/LinkedQueue$Node" = some m.cls := findClass_of_methodNamed Bd.named
  have hnm := (name_of_methodNamed Bd.named Bd.method).1
  have X0 : Stand p l e ({ frames := 1, cells := 0, slots := 0, locals := 12 } : Room) s m #[(.ref aa), (.ref ax)] below meth c s₁ [] 0 0 := Stand.of_body Bd
  have e0 : s₁.heap = h0 := by rw [← hh, Bd.state]; rfl
  have N0 := Fr.nil n0
  have pre0 : ∀ t, Steps p.tables e below (s₁.setTop (mkF m 0 #[.val (.ref aa), .val (.ref ax)] [])) t → Steps p.tables e below (s₁.setTop (entryFrame m #[(.ref aa), (.ref ax)] 2)) t := fun t k => castTop (ef_6r m aa ax) k
  generalize s₁.setTop (entryFrame m #[(.ref aa), (.ref ax)] 2) = G0 at pre0 ⊢
  obtain ⟨T34, X34, e34, st34⟩ := initO X0 hx hZ hown (hw _ (List.mem_of_getElem? (i := 40) rfl)) (hw _ (List.mem_of_getElem? (i := 22) rfl)) (hw _ (List.mem_of_getElem? (i := 23) rfl)) e0 (g := (mkF m 1 #[.val (.ref aa), .val (.ref ax)] [(.ref aa)])) rfl (by rw [hml]; rfl) rfl (hb hby d6_1) (by decide) (W := 0) (by show 2 * 0 + _ ≤ _; exact Nat.le_of_eq rfl) (by decide)
  obtain ⟨T35, h35, X35, e35, W35, st35⟩ := putF X34 hx hZ hown (host := "") (Or.inl (hw _ (List.mem_of_getElem? (i := 41) rfl))) Via.refl e34 Fv Ea (Or.inl (hw _ (List.mem_of_getElem? (i := 42) rfl))) (hw _ (List.mem_of_getElem? (i := 35) rfl)) (ty := (.object "java/lang/Object")) (by decide) rfl rfl (g := (mkF m 6 #[.val (.ref aa), .val (.ref ax)] [(.ref ax), (.ref aa)])) rfl rfl (hb hby d6_6)
  have N35 := Fr.snoc X35 N0 g_aa
  have Zs35 : n0 ≤ h35.size := Nat.le_trans Z0 (Keep.of_wr W35).1
  have KK35 : Keep h0 h35 [aa] := (Keep.refl h0 _).wr W35 (Or.inl (List.mem_of_getElem? (i := 0) rfl))
  have f36 := Ea.wr W35
  have f37 := Fv.same W35
  have f38 := Fn.other W35 (Or.inr (slot_ne (Or.inl (hw _ (List.mem_of_getElem? (i := 57) rfl))) (Or.inl (hw _ (List.mem_of_getElem? (i := 42) rfl))) (by decide) (t := (.object "com/example/tresse/tresse/queue/LinkedQueue$Node")) (t' := (.object "java/lang/Object")) (by decide) (by decide)))
  obtain ⟨fs, hr, hrun, hended, hW, hsame⟩ := X35.leave (v := none) (fun _ => rfl)
  refine ⟨_, _, pre0 _ ?_, hrun, hended, _, _, rfl, ?_, ⟨_, rfl⟩, hW, hsame.mono (by decide) (by decide)⟩
  · show Steps p.tables e below (s₁.setTop (mkF m 0 #[.val (.ref aa), .val (.ref ax)] [])) _
    refine XS.aloadN X0.here hx rfl (hb hby d6_0) rfl rfl ?_
    show Steps p.tables e below (s₁.setTop (mkF m 1 #[.val (.ref aa), .val (.ref ax)] [(.ref aa)])) _
    refine st34 _ ?_
    show Steps p.tables e below (T34.setTop (mkF m 4 #[.val (.ref aa), .val (.ref ax)] [])) _
    refine XS.aloadN X34.here hx rfl (hb hby d6_4) rfl rfl ?_
    show Steps p.tables e below (T34.setTop (mkF m 5 #[.val (.ref aa), .val (.ref ax)] [(.ref aa)])) _
    refine XS.aloadN X34.here hx rfl (hb hby d6_5) rfl rfl ?_
    show Steps p.tables e below (T34.setTop (mkF m 6 #[.val (.ref aa), .val (.ref ax)] [(.ref ax), (.ref aa)])) _
    refine st35 _ ?_
    show Steps p.tables e below (T35.setTop (mkF m 9 #[.val (.ref aa), .val (.ref ax)] [])) _
    exact X35.returnOut hx Bd.returns (hb hby d6_9) hr
  · show Q6r Z aa ax h0 n0 _ T35.heap _
    rw [e35]
    exact ⟨rfl, N35, KK35, f36, f37, f38⟩
theorem d5_0 : decode prog_93_method_1_code 0 = .ok (.aload_n 0, 1) := by decide +kernel
theorem d5_1 : decode prog_93_method_1_code 1 = .ok (.invokespecial 1, 3) := by decide +kernel
theorem d5_4 : decode prog_93_method_1_code 4 = .ok (.aload_n 0, 1) := by decide +kernel
theorem d5_5 : decode prog_93_method_1_code 5 = .ok (.new 7, 3) := by decide +kernel
theorem d5_8 : decode prog_93_method_1_code 8 = .ok (.dup, 1) := by decide +kernel
theorem d5_9 : decode prog_93_method_1_code 9 = .ok (.aconst_null, 1) := by decide +kernel
theorem d5_10 : decode prog_93_method_1_code 10 = .ok (.invokespecial 9, 3) := by decide +kernel
theorem own_pd44 : parseMethodDescriptor "(Ljava/lang/Object;)V" = some ⟨[(.object "java/lang/Object")], none⟩ := by decide +kernel
theorem d5_13 : decode prog_93_method_1_code 13 = .ok (.putfield 12, 3) := by decide +kernel
theorem d5_16 : decode prog_93_method_1_code 16 = .ok (.aload_n 0, 1) := by decide +kernel
theorem d5_17 : decode prog_93_method_1_code 17 = .ok (.aload_n 0, 1) := by decide +kernel
theorem d5_18 : decode prog_93_method_1_code 18 = .ok (.getfield 12, 3) := by decide +kernel
theorem d5_21 : decode prog_93_method_1_code 21 = .ok (.putfield 18, 3) := by decide +kernel
theorem d5_24 : decode prog_93_method_1_code 24 = .ok (.return_, 1) := by decide +kernel
theorem own_pn51 : plainName "com/example/tresse/tresse/queue/LinkedQueue" = true := by first | (simp [plainName, overriddenIn]; done) | decide +kernel
theorem ef_5 (m : MethodId) (x0 : Addr) : entryFrame m #[(.ref x0)] 1 = mkF m 0 #[.val (.ref x0)] [] := by first | (simp [entryFrame, mkF, argsToLocals, Value.category]; done) | rfl
def Q5 (Z : State) (aa : Addr) (h0 : Heap) (n0 : Nat) (v : Option Value) (h : Heap) (L : List Loc) : Prop := ∃ (nb : Addr), v = none ∧ Fr n0 L ∧ Keep h0 h [aa] ∧ Exa Z h aa "com/example/tresse/tresse/queue/LinkedQueue" ∧ Fld Z h aa "com/example/tresse/tresse/queue/LinkedQueue" "head" "Lcom/example/tresse/tresse/queue/LinkedQueue$Node;" (.ref nb) ∧ Fld Z h aa "com/example/tresse/tresse/queue/LinkedQueue" "tail" "Lcom/example/tresse/tresse/queue/LinkedQueue$Node;" (.ref nb) ∧ own_ch Z h n0 nb [] nb
set_option maxRecDepth 65536 in
set_option maxHeartbeats 40000000 in
theorem rm5 (l : Launch) (Z : State) (a0 : Array Value) (hw : ∀ d ∈ tables_1, d.before a0 Z = true) (ws : List Jvm.Cond) (aa : Addr) (h0 : Heap) (n0 : Nat) (Z0 : n0 ≤ h0.size) (Fh : Fld Z h0 aa "com/example/tresse/tresse/queue/LinkedQueue" "head" "Lcom/example/tresse/tresse/queue/LinkedQueue$Node;" .null) (Ft : Fld Z h0 aa "com/example/tresse/tresse/queue/LinkedQueue" "tail" "Lcom/example/tresse/tresse/queue/LinkedQueue$Node;" .null) (Ea : Exa Z h0 aa "com/example/tresse/tresse/queue/LinkedQueue") (g_aa : n0 ≤ aa) :
    MetFree l (⟨"com/example/tresse/tresse/queue/LinkedQueue", "<init>", "()V"⟩ : MethodName) (head1 (Jvm.Cond.code (⟨"com/example/tresse/tresse/queue/LinkedQueue", "<init>", "()V"⟩ : MethodName) prog_93_method_1_code 1 none :: ws) ({ frames := 2, cells := 1, slots := 2, locals := 27 } : Room)) (fun a U => a = #[(.ref aa)] ∧ Z.Warmed39 U.vm ∧ U.heap = h0) (fun _ _ _ _ _ => True) (fun _ U o U' => ∃ v L, o = .returned v ∧ Q5 Z aa h0 n0 v U'.heap L ∧ FrameEnd U o U' L ({ frames := 2, cells := 1, slots := 2, locals := 27 } : Room).cells ({ frames := 2, cells := 1, slots := 2, locals := 27 } : Room).slots) := by
  refine MetFree.of_bodySF (plainFor_of_name own_pn51) hisR ?_
  intro p e s m args below meth c s₁ Bd hml0 hP hK
  obtain ⟨rfl, hZ, hh⟩ := hP
  have hx := Bd.exec
  have hby := Bd.bytes
  have hml : c.maxLocals = 1 := hml0
  have hown : s.vm.findClass "com/example/tresse/tresse/queue/LinkedQueue" = some m.cls := findClass_of_methodNamed Bd.named
  have hnm := (name_of_methodNamed Bd.named Bd.method).1
  have X0 : Stand p l e ({ frames := 2, cells := 1, slots := 2, locals := 27 } : Room) s m #[(.ref aa)] below meth c s₁ [] 0 0 := Stand.of_body Bd
  have e0 : s₁.heap = h0 := by rw [← hh, Bd.state]; rfl
  have N0 := Fr.nil n0
  have pre0 : ∀ t, Steps p.tables e below (s₁.setTop (mkF m 0 #[.val (.ref aa)] [])) t → Steps p.tables e below (s₁.setTop (entryFrame m #[(.ref aa)] 1)) t := fun t k => castTop (ef_5 m aa) k
  generalize s₁.setTop (entryFrame m #[(.ref aa)] 1) = G0 at pre0 ⊢
  obtain ⟨T39, X39, e39, st39⟩ := initO X0 hx hZ hown (hw _ (List.mem_of_getElem? (i := 33) rfl)) (hw _ (List.mem_of_getElem? (i := 22) rfl)) (hw _ (List.mem_of_getElem? (i := 23) rfl)) e0 (g := (mkF m 1 #[.val (.ref aa)] [(.ref aa)])) rfl (by rw [hml]; rfl) rfl (hb hby d5_1) (by decide) (W := 0) (by show 2 * 0 + _ ≤ _; exact Nat.le_of_eq rfl) (by decide)
  obtain ⟨T40, h40, X40, e40, E40, A40, D40, -, st40⟩ := newO X39 hx hZ hown (hw _ (List.mem_of_getElem? (i := 34) rfl)) (hw _ (List.mem_of_getElem? (i := 35) rfl)) (hw _ (List.mem_of_getElem? (i := 36) rfl)) e39 (g := (mkF m 5 #[.val (.ref aa)] [(.ref aa)])) rfl (hb hby d5_5) (by decide) (by decide)
  obtain ⟨b40, g40⟩ : ∃ z, z = h0.size := ⟨_, rfl⟩
  rw [← g40] at A40 D40 st40
  have g_b40 : n0 ≤ b40 := Nat.le_trans Z0 (Nat.le_of_eq g40.symm)
  have sz_b40 : h0.size ≤ b40 := Nat.le_of_eq g40.symm
  have lt_aa_b40 : aa < b40 := Nat.lt_of_lt_of_le Ea.lt (Nat.le_of_eq g40.symm)
  have ne_aa_b40 : aa ≠ b40 := Nat.ne_of_lt lt_aa_b40
  have Zs40 : n0 ≤ h40.size := Nat.le_trans Z0 E40.1
  have KK40 : Keep h0 h40 [aa] := (Keep.refl h0 _).ext E40
  have f41 := Ea.ext E40
  have f42 := Fh.ext E40
  have f43 := Ft.ext E40
  have f44 : Fld Z h40 b40 "com/example/tresse/tresse/queue/LinkedQueue$Node" "value" "Ljava/lang/Object;" .null := D40 (Or.inl (hw _ (List.mem_of_getElem? (i := 42) rfl))) (ty := (.object "java/lang/Object")) (by decide)
  have f45 : Fld Z h40 b40 "com/example/tresse/tresse/queue/LinkedQueue$Node" "next" "Lcom/example/tresse/tresse/queue/LinkedQueue$Node;" .null := D40 (Or.inl (hw _ (List.mem_of_getElem? (i := 57) rfl))) (ty := (.object "com/example/tresse/tresse/queue/LinkedQueue$Node")) (by decide)
  obtain ⟨_, _, ⟨T46, L46, k46, n46⟩, -, X46, ⟨Lc46, hQ46, l46, y46, z46⟩, st46⟩ := X40.specialBack hx (y := (⟨"com/example/tresse/tresse/queue/LinkedQueue$Node", "<init>", "(Ljava/lang/Object;)V"⟩ : MethodName)) rfl hown (mvT hZ (hw _ (List.mem_of_getElem? (i := 37) rfl))) (mvT hZ (hw _ (List.mem_of_getElem? (i := 38) rfl))) (mvT hZ (hw _ (List.mem_of_getElem? (i := 39) rfl))) (by decide) (backOf (W := 2) (rm6n l Z a0 hw [] b40  h40 n0 Zs40 f44 f45 A40 g_b40) hZ (hw _ (List.mem_of_getElem? (i := 39) rfl)) (hw _ (List.mem_of_getElem? (i := 36) rfl)) (by decide) (by decide)) (g := (mkF m 10 #[.val (.ref aa)] [.null, (.ref b40), (.ref b40), (.ref aa)])) rfl (by rw [hml]; rfl) (Steps.refl _) (a := b40) (argsL := [.null]) (rest := [(.ref b40), (.ref aa)]) (lenOf own_pd44 rfl) rfl (by show 2 * 0 + _ ≤ _; exact Nat.le_of_eq rfl) (hb hby d5_10) (fun _ _ => ⟨rfl, e40, (by decide : 1 + 0 ≤ _), (by decide : 2 + 0 ≤ _)⟩)
  dsimp only [Pt.U, Pt.locs, Pt.cells, Pt.slots] at X46 l46 y46 z46 st46 hQ46
  rw [l46, y46, z46] at X46
  clear l46 y46 z46
  obtain ⟨rfl, Nq46, K46, p46_0, p46_1, p46_2⟩ := hQ46
  have N46 := Fr.app N0 Nq46
  have Zs46 : n0 ≤ T46.heap.size := Nat.le_trans Zs40 K46.1
  have KK46 : Keep h0 T46.heap [aa] := KK40.trans K46 (allS (Or.inr sz_b40) all0)
  have f47 := f41.keep K46
  have f48 := f42.keep K46 (ninS ne_aa_b40 nin0)
  have f49 := f43.keep K46 (ninS ne_aa_b40 nin0)
  have f50 := A40.keep K46
  obtain ⟨T51, h51, X51, e51, W51, st51⟩ := putF X46 hx hZ hown (host := "") (Or.inl (hw _ (List.mem_of_getElem? (i := 43) rfl))) Via.refl rfl f48 f47 (Or.inl (hw _ (List.mem_of_getElem? (i := 44) rfl))) (hw _ (List.mem_of_getElem? (i := 28) rfl)) (ty := (.object "com/example/tresse/tresse/queue/LinkedQueue$Node")) (by decide) rfl rfl (g := (mkF m 13 #[.val (.ref aa)] [(.ref b40), (.ref aa)])) rfl rfl (hb hby d5_13)
  have N51 := Fr.snoc X51 N46 g_aa
  have Zs51 : n0 ≤ h51.size := Nat.le_trans Zs46 (Keep.of_wr W51).1
  have KK51 : Keep h0 h51 [aa] := KK46.wr W51 (Or.inl (List.mem_of_getElem? (i := 0) rfl))
  have f52 := f47.wr W51
  have f53 := f48.same W51
  have f54 := f49.other W51 (Or.inr (slot_ne (Or.inl (hw _ (List.mem_of_getElem? (i := 46) rfl))) (Or.inl (hw _ (List.mem_of_getElem? (i := 44) rfl))) (by decide) (t := (.object "com/example/tresse/tresse/queue/LinkedQueue$Node")) (t' := (.object "com/example/tresse/tresse/queue/LinkedQueue$Node")) (by decide) (by decide)))
  have f55 := p46_0.wr W51
  have f56 := p46_1.other W51 (Or.inl (Ne.symm ne_aa_b40))
  have f57 := p46_2.other W51 (Or.inl (Ne.symm ne_aa_b40))
  obtain ⟨T58, X58, e58, st58⟩ := getF X51 hx hZ hown (host := "") (Or.inl (hw _ (List.mem_of_getElem? (i := 43) rfl))) Via.refl e51 f53 (g := (mkF m 18 #[.val (.ref aa)] [(.ref aa), (.ref aa)])) rfl rfl (hb hby d5_18)
  obtain ⟨T59, h59, X59, e59, W59, st59⟩ := putF X58 hx hZ hown (host := "") (Or.inl (hw _ (List.mem_of_getElem? (i := 45) rfl))) Via.refl e58 f54 f52 (Or.inl (hw _ (List.mem_of_getElem? (i := 46) rfl))) (hw _ (List.mem_of_getElem? (i := 28) rfl)) (ty := (.object "com/example/tresse/tresse/queue/LinkedQueue$Node")) (by decide) rfl rfl (g := (mkF m 21 #[.val (.ref aa)] [(.ref b40), (.ref aa)])) rfl rfl (hb hby d5_21)
  have N59 := Fr.snoc X59 N51 g_aa
  have Zs59 : n0 ≤ h59.size := Nat.le_trans Zs51 (Keep.of_wr W59).1
  have KK59 : Keep h0 h59 [aa] := KK51.wr W59 (Or.inl (List.mem_of_getElem? (i := 0) rfl))
  have f60 := f52.wr W59
  have f61 := f53.other W59 (Or.inr (slot_ne (Or.inl (hw _ (List.mem_of_getElem? (i := 44) rfl))) (Or.inl (hw _ (List.mem_of_getElem? (i := 46) rfl))) (by decide) (t := (.object "com/example/tresse/tresse/queue/LinkedQueue$Node")) (t' := (.object "com/example/tresse/tresse/queue/LinkedQueue$Node")) (by decide) (by decide)))
  have f62 := f54.same W59
  have f63 := f55.wr W59
  have f64 := f56.other W59 (Or.inl (Ne.symm ne_aa_b40))
  have f65 := f57.other W59 (Or.inl (Ne.symm ne_aa_b40))
  obtain ⟨fs, hr, hrun, hended, hW, hsame⟩ := X59.leave (v := none) (fun _ => rfl)
  refine ⟨_, _, pre0 _ ?_, hrun, hended, _, _, rfl, ?_, ⟨_, rfl⟩, hW, hsame.mono (by decide) (by decide)⟩
  · show Steps p.tables e below (s₁.setTop (mkF m 0 #[.val (.ref aa)] [])) _
    refine XS.aloadN X0.here hx rfl (hb hby d5_0) rfl rfl ?_
    show Steps p.tables e below (s₁.setTop (mkF m 1 #[.val (.ref aa)] [(.ref aa)])) _
    refine st39 _ ?_
    show Steps p.tables e below (T39.setTop (mkF m 4 #[.val (.ref aa)] [])) _
    refine XS.aloadN X39.here hx rfl (hb hby d5_4) rfl rfl ?_
    show Steps p.tables e below (T39.setTop (mkF m 5 #[.val (.ref aa)] [(.ref aa)])) _
    refine st40 _ ?_
    show Steps p.tables e below (T40.setTop (mkF m 8 #[.val (.ref aa)] [(.ref b40), (.ref aa)])) _
    refine XS.dup X40.here hx rfl (hb hby d5_8) rfl rfl ?_
    show Steps p.tables e below (T40.setTop (mkF m 9 #[.val (.ref aa)] [(.ref b40), (.ref b40), (.ref aa)])) _
    refine XS.aconstNull X40.here hx rfl (hb hby d5_9) ?_
    show Steps p.tables e below (T40.setTop (mkF m 10 #[.val (.ref aa)] [.null, (.ref b40), (.ref b40), (.ref aa)])) _
    refine st46.trans ?_
    show Steps p.tables e below (T46.setTop (mkF m 13 #[.val (.ref aa)] [(.ref b40), (.ref aa)])) _
    refine st51 _ ?_
    show Steps p.tables e below (T51.setTop (mkF m 16 #[.val (.ref aa)] [])) _
    refine XS.aloadN X51.here hx rfl (hb hby d5_16) rfl rfl ?_
    show Steps p.tables e below (T51.setTop (mkF m 17 #[.val (.ref aa)] [(.ref aa)])) _
    refine XS.aloadN X51.here hx rfl (hb hby d5_17) rfl rfl ?_
    show Steps p.tables e below (T51.setTop (mkF m 18 #[.val (.ref aa)] [(.ref aa), (.ref aa)])) _
    refine st58 _ ?_
    show Steps p.tables e below (T58.setTop (mkF m 21 #[.val (.ref aa)] [(.ref b40), (.ref aa)])) _
    refine st59 _ ?_
    show Steps p.tables e below (T59.setTop (mkF m 24 #[.val (.ref aa)] [])) _
    exact X59.returnOut hx Bd.returns (hb hby d5_24) hr
  · show Q5 Z aa h0 n0 _ T59.heap _
    rw [e59]
    exact ⟨b40, rfl, N59, KK59, f60, f61, f62, ⟨rfl, g_b40, f63, ⟨_, f64⟩, f65⟩⟩
theorem d10_0 : decode jdk_31_method_10_code 0 = .ok (.aload_n 0, 1) := by decide +kernel
theorem d10_1 : decode jdk_31_method_10_code 1 = .ok (.ifnonnull 11, 3) := by decide +kernel
theorem d10_12 : decode jdk_31_method_10_code 12 = .ok (.aload_n 0, 1) := by decide +kernel
theorem d10_13 : decode jdk_31_method_10_code 13 = .ok (.areturn, 1) := by decide +kernel
theorem own_pn56 : plainName "java/util/Objects" = true := by first | (simp [plainName, overriddenIn]; done) | decide +kernel
theorem ef_10 (m : MethodId) (x0 : Addr) : entryFrame m #[(.ref x0)] 1 = mkF m 0 #[.val (.ref x0)] [] := by first | (simp [entryFrame, mkF, argsToLocals, Value.category]; done) | rfl
def Q10 (Z : State) (ar : Addr) (h0 : Heap) (n0 : Nat) (v : Option Value) (h : Heap) (L : List Loc) : Prop := v = some (.ref ar) ∧ Fr n0 L ∧ h = h0
set_option maxRecDepth 65536 in
set_option maxHeartbeats 40000000 in
theorem rm10 (l : Launch) (Z : State) (a0 : Array Value) (hw : ∀ d ∈ tables_1, d.before a0 Z = true) (ws : List Jvm.Cond) (ar : Addr) (h0 : Heap) (n0 : Nat) (Z0 : n0 ≤ h0.size) :
    MetFree l (⟨"java/util/Objects", "requireNonNull", "(Ljava/lang/Object;)Ljava/lang/Object;"⟩ : MethodName) (head1 (Jvm.Cond.code (⟨"java/util/Objects", "requireNonNull", "(Ljava/lang/Object;)Ljava/lang/Object;"⟩ : MethodName) jdk_31_method_10_code 1 (some (.object "java/lang/Object")) :: ws) ({ frames := 0, cells := 0, slots := 0, locals := 0 } : Room)) (fun a U => a = #[(.ref ar)] ∧ Z.Warmed39 U.vm ∧ U.heap = h0) (fun _ _ _ _ _ => True) (fun _ U o U' => ∃ v L, o = .returned v ∧ Q10 Z ar h0 n0 v U'.heap L ∧ FrameEnd U o U' L ({ frames := 0, cells := 0, slots := 0, locals := 0 } : Room).cells ({ frames := 0, cells := 0, slots := 0, locals := 0 } : Room).slots) := by
  refine MetFree.of_bodySF (plainFor_of_name own_pn56) hisR ?_
  intro p e s m args below meth c s₁ Bd hml0 hP hK
  obtain ⟨rfl, hZ, hh⟩ := hP
  have hx := Bd.exec
  have hby := Bd.bytes
  have hml : c.maxLocals = 1 := hml0
  have hown : s.vm.findClass "java/util/Objects" = some m.cls := findClass_of_methodNamed Bd.named
  have hnm := (name_of_methodNamed Bd.named Bd.method).1
  have X0 : Stand p l e ({ frames := 0, cells := 0, slots := 0, locals := 0 } : Room) s m #[(.ref ar)] below meth c s₁ [] 0 0 := Stand.of_body Bd
  have e0 : s₁.heap = h0 := by rw [← hh, Bd.state]; rfl
  have N0 := Fr.nil n0
  have pre0 : ∀ t, Steps p.tables e below (s₁.setTop (mkF m 0 #[.val (.ref ar)] [])) t → Steps p.tables e below (s₁.setTop (entryFrame m #[(.ref ar)] 1)) t := fun t k => castTop (ef_10 m ar) k
  generalize s₁.setTop (entryFrame m #[(.ref ar)] 1) = G0 at pre0 ⊢
  obtain ⟨fs, hr, hrun, hended, hW, hsame⟩ := X0.leave (v := some (.ref ar)) (fun h => by rw [Bd.returns] at h; cases h)
  refine ⟨_, _, pre0 _ ?_, hrun, hended, _, _, rfl, ?_, ⟨_, rfl⟩, hW, hsame.mono (by decide) (by decide)⟩
  · show Steps p.tables e below (s₁.setTop (mkF m 0 #[.val (.ref ar)] [])) _
    refine XS.aloadN X0.here hx rfl (hb hby d10_0) rfl rfl ?_
    show Steps p.tables e below (s₁.setTop (mkF m 1 #[.val (.ref ar)] [(.ref ar)])) _
    refine XS.ifnonnullYes X0.here hx rfl (pc0 := 1) (pc' := 12) rfl (hb hby d10_1) rfl (by decide) (by decide) ?_
    show Steps p.tables e below (s₁.setTop (mkF m 12 #[.val (.ref ar)] [])) _
    refine XS.aloadN X0.here hx rfl (hb hby d10_12) rfl rfl ?_
    show Steps p.tables e below (s₁.setTop (mkF m 13 #[.val (.ref ar)] [(.ref ar)])) _
    jvm_step X0.here [X0.here.top, hx, (hb hby d10_13), X0.method', Bd.returns, Value.isRef, FieldType.isReference]
    first | (intro acts; rw [hr _ acts rfl rfl rfl]) | rw [hr _ _ rfl rfl rfl]
    exact Steps.refl _
  · show Q10 Z ar h0 n0 _ s₁.heap _
    rw [e0]
    exact ⟨rfl, N0, rfl⟩
theorem d9_0 : decode prog_93_method_2_code 0 = .ok (.new 7, 3) := by decide +kernel
theorem d9_3 : decode prog_93_method_2_code 3 = .ok (.dup, 1) := by decide +kernel
theorem d9_4 : decode prog_93_method_2_code 4 = .ok (.aload_n 1, 1) := by decide +kernel
theorem d9_5 : decode prog_93_method_2_code 5 = .ok (.invokestatic 21, 3) := by decide +kernel
theorem own_pd61 : parseMethodDescriptor "(Ljava/lang/Object;)Ljava/lang/Object;" = some ⟨[(.object "java/lang/Object")], some (.object "java/lang/Object")⟩ := by decide +kernel
theorem d9_8 : decode prog_93_method_2_code 8 = .ok (.invokespecial 9, 3) := by decide +kernel
theorem d9_11 : decode prog_93_method_2_code 11 = .ok (.astore_n 2, 1) := by decide +kernel
theorem d9_12 : decode prog_93_method_2_code 12 = .ok (.aload_n 0, 1) := by decide +kernel
theorem d9_13 : decode prog_93_method_2_code 13 = .ok (.getfield 18, 3) := by decide +kernel
theorem d9_16 : decode prog_93_method_2_code 16 = .ok (.aload_n 2, 1) := by decide +kernel
theorem d9_17 : decode prog_93_method_2_code 17 = .ok (.putfield 27, 3) := by decide +kernel
theorem d9_20 : decode prog_93_method_2_code 20 = .ok (.aload_n 0, 1) := by decide +kernel
theorem d9_21 : decode prog_93_method_2_code 21 = .ok (.aload_n 2, 1) := by decide +kernel
theorem d9_22 : decode prog_93_method_2_code 22 = .ok (.putfield 18, 3) := by decide +kernel
theorem d9_25 : decode prog_93_method_2_code 25 = .ok (.return_, 1) := by decide +kernel
theorem ef_9 (m : MethodId) (x0 : Addr) (x1 : Addr) : entryFrame m #[(.ref x0), (.ref x1)] 3 = mkF m 0 #[.val (.ref x0), .val (.ref x1), .unset] [] := by first | (simp [entryFrame, mkF, argsToLocals, Value.category]; done) | rfl
def Q9 (Z : State) (aa : Addr) (ax : Addr) (ah : Addr) (at_ : Addr) (xs : List Addr) (h0 : Heap) (n0 : Nat) (v : Option Value) (h : Heap) (L : List Loc) : Prop := ∃ (nb : Addr), v = none ∧ Fr n0 L ∧ Keep h0 h [aa, at_] ∧ Exa Z h aa "com/example/tresse/tresse/queue/LinkedQueue" ∧ Fld Z h aa "com/example/tresse/tresse/queue/LinkedQueue" "head" "Lcom/example/tresse/tresse/queue/LinkedQueue$Node;" (.ref ah) ∧ Fld Z h aa "com/example/tresse/tresse/queue/LinkedQueue" "tail" "Lcom/example/tresse/tresse/queue/LinkedQueue$Node;" (.ref nb) ∧ own_ch Z h n0 ah (xs ++ [ax]) nb
set_option maxRecDepth 65536 in
set_option maxHeartbeats 40000000 in
theorem rm9 (l : Launch) (Z : State) (a0 : Array Value) (hw : ∀ d ∈ tables_1, d.before a0 Z = true) (ws : List Jvm.Cond) (aa : Addr) (ax : Addr) (ah : Addr) (at_ : Addr) (xs : List Addr) (h0 : Heap) (n0 : Nat) (Z0 : n0 ≤ h0.size) (Fh : Fld Z h0 aa "com/example/tresse/tresse/queue/LinkedQueue" "head" "Lcom/example/tresse/tresse/queue/LinkedQueue$Node;" (.ref ah)) (Ft : Fld Z h0 aa "com/example/tresse/tresse/queue/LinkedQueue" "tail" "Lcom/example/tresse/tresse/queue/LinkedQueue$Node;" (.ref at_)) (Ea : Exa Z h0 aa "com/example/tresse/tresse/queue/LinkedQueue") (g_aa : n0 ≤ aa) (Ch : own_ch Z h0 n0 ah xs at_) :
    MetFree l (⟨"com/example/tresse/tresse/queue/LinkedQueue", "enqueue", "(Ljava/lang/Object;)V"⟩ : MethodName) (head1 (Jvm.Cond.code (⟨"com/example/tresse/tresse/queue/LinkedQueue", "enqueue", "(Ljava/lang/Object;)V"⟩ : MethodName) prog_93_method_2_code 3 none :: ws) ({ frames := 2, cells := 1, slots := 2, locals := 26 } : Room)) (fun a U => a = #[(.ref aa), (.ref ax)] ∧ Z.Warmed39 U.vm ∧ U.heap = h0) (fun _ _ _ _ _ => True) (fun _ U o U' => ∃ v L, o = .returned v ∧ Q9 Z aa ax ah at_ xs h0 n0 v U'.heap L ∧ FrameEnd U o U' L ({ frames := 2, cells := 1, slots := 2, locals := 26 } : Room).cells ({ frames := 2, cells := 1, slots := 2, locals := 26 } : Room).slots) := by
  refine MetFree.of_bodySF (plainFor_of_name own_pn51) hisR ?_
  intro p e s m args below meth c s₁ Bd hml0 hP hK
  obtain ⟨rfl, hZ, hh⟩ := hP
  have hx := Bd.exec
  have hby := Bd.bytes
  have hml : c.maxLocals = 3 := hml0
  have hown : s.vm.findClass "com/example/tresse/tresse/queue/LinkedQueue" = some m.cls := findClass_of_methodNamed Bd.named
  have hnm := (name_of_methodNamed Bd.named Bd.method).1
  have X0 : Stand p l e ({ frames := 2, cells := 1, slots := 2, locals := 26 } : Room) s m #[(.ref aa), (.ref ax)] below meth c s₁ [] 0 0 := Stand.of_body Bd
  have e0 : s₁.heap = h0 := by rw [← hh, Bd.state]; rfl
  have N0 := Fr.nil n0
  have pre0 : ∀ t, Steps p.tables e below (s₁.setTop (mkF m 0 #[.val (.ref aa), .val (.ref ax), .unset] [])) t → Steps p.tables e below (s₁.setTop (entryFrame m #[(.ref aa), (.ref ax)] 3)) t := fun t k => castTop (ef_9 m aa ax) k
  generalize s₁.setTop (entryFrame m #[(.ref aa), (.ref ax)] 3) = G0 at pre0 ⊢
  obtain ⟨g_at_, Et, Fn⟩ := own_ch_tail Ch
  have ne_at_aa : at_ ≠ aa := ne_exa Et Ea (by decide)
  obtain ⟨T66, h66, X66, e66, E66, A66, D66, -, st66⟩ := newO X0 hx hZ hown (hw _ (List.mem_of_getElem? (i := 34) rfl)) (hw _ (List.mem_of_getElem? (i := 35) rfl)) (hw _ (List.mem_of_getElem? (i := 36) rfl)) e0 (g := (mkF m 0 #[.val (.ref aa), .val (.ref ax), .unset] [])) rfl (hb hby d9_0) (by decide) (by decide)
  obtain ⟨b66, g66⟩ : ∃ z, z = h0.size := ⟨_, rfl⟩
  rw [← g66] at A66 D66 st66
  have g_b66 : n0 ≤ b66 := Nat.le_trans Z0 (Nat.le_of_eq g66.symm)
  have sz_b66 : h0.size ≤ b66 := Nat.le_of_eq g66.symm
  have lt_aa_b66 : aa < b66 := Nat.lt_of_lt_of_le Ea.lt (Nat.le_of_eq g66.symm)
  have ne_aa_b66 : aa ≠ b66 := Nat.ne_of_lt lt_aa_b66
  have lt_at__b66 : at_ < b66 := Nat.lt_of_lt_of_le Et.lt (Nat.le_of_eq g66.symm)
  have ne_at__b66 : at_ ≠ b66 := Nat.ne_of_lt lt_at__b66
  have Zs66 : n0 ≤ h66.size := Nat.le_trans Z0 E66.1
  have KK66 : Keep h0 h66 [aa, at_] := (Keep.refl h0 _).ext E66
  have f67 := Ea.ext E66
  have f68 := Fh.ext E66
  have f69 := Ft.ext E66
  have f70 := Et.ext E66
  have f71 := Fn.ext E66
  have f72 := own_ch_ext E66 Ch
  have f73 : Fld Z h66 b66 "com/example/tresse/tresse/queue/LinkedQueue$Node" "value" "Ljava/lang/Object;" .null := D66 (Or.inl (hw _ (List.mem_of_getElem? (i := 42) rfl))) (ty := (.object "java/lang/Object")) (by decide)
  have f74 : Fld Z h66 b66 "com/example/tresse/tresse/queue/LinkedQueue$Node" "next" "Lcom/example/tresse/tresse/queue/LinkedQueue$Node;" .null := D66 (Or.inl (hw _ (List.mem_of_getElem? (i := 57) rfl))) (ty := (.object "com/example/tresse/tresse/queue/LinkedQueue$Node")) (by decide)
  obtain ⟨_, _, ⟨T75, L75, k75, n75⟩, -, X75, ⟨Lc75, hQ75, l75, y75, z75⟩, st75⟩ := Jvm.LawKit.callS X66 hx (y := (⟨"java/util/Objects", "requireNonNull", "(Ljava/lang/Object;)Ljava/lang/Object;"⟩ : MethodName)) hown (mvT hZ (hw _ (List.mem_of_getElem? (i := 63) rfl))) (mvT hZ (hw _ (List.mem_of_getElem? (i := 64) rfl))) (mvT hZ (hw _ (List.mem_of_getElem? (i := 65) rfl))) (mvT hZ (hw _ (List.mem_of_getElem? (i := 66) rfl))) (by decide) (backOf (W := 2) (rm10 l Z a0 hw [] ax  h66 n0 Zs66 ) hZ (hw _ (List.mem_of_getElem? (i := 66) rfl)) (hw _ (List.mem_of_getElem? (i := 65) rfl)) (by decide) (by decide)) (g := (mkF m 5 #[.val (.ref aa), .val (.ref ax), .unset] [(.ref ax), (.ref b66), (.ref b66)])) rfl (by rw [hml]; rfl) (argsL := [(.ref ax)]) (rest := [(.ref b66), (.ref b66)]) (lenOf own_pd61 rfl) rfl (by show 2 * 0 + _ ≤ _; exact Nat.le_of_eq rfl) (hb hby d9_5) (fun _ _ => ⟨rfl, e66, (by decide : 1 + 0 ≤ _), (by decide : 2 + 0 ≤ _)⟩)
  dsimp only [Pt.U, Pt.locs, Pt.cells, Pt.slots] at X75 l75 y75 z75 st75 hQ75
  rw [l75, y75, z75] at X75
  clear l75 y75 z75
  obtain ⟨rfl, Nq75, e75⟩ := hQ75
  have N75 := Fr.app N0 Nq75
  obtain ⟨_, _, ⟨T76, L76, k76, n76⟩, -, X76, ⟨Lc76, hQ76, l76, y76, z76⟩, st76⟩ := X75.specialBack hx (y := (⟨"com/example/tresse/tresse/queue/LinkedQueue$Node", "<init>", "(Ljava/lang/Object;)V"⟩ : MethodName)) rfl hown (mvT hZ (hw _ (List.mem_of_getElem? (i := 37) rfl))) (mvT hZ (hw _ (List.mem_of_getElem? (i := 38) rfl))) (mvT hZ (hw _ (List.mem_of_getElem? (i := 39) rfl))) (by decide) (backOf (W := 1) (rm6r l Z a0 hw [] b66 ax  h66 n0 Zs66 f73 f74 A66 g_b66) hZ (hw _ (List.mem_of_getElem? (i := 39) rfl)) (hw _ (List.mem_of_getElem? (i := 36) rfl)) (by decide) (by decide)) (g := (mkF m 8 #[.val (.ref aa), .val (.ref ax), .unset] [(.ref ax), (.ref b66), (.ref b66)])) rfl (by rw [hml]; rfl) (Steps.refl _) (a := b66) (argsL := [(.ref ax)]) (rest := [(.ref b66)]) (lenOf own_pd44 rfl) rfl (by show 2 * 0 + _ ≤ _; exact Nat.le_of_eq rfl) (hb hby d9_8) (fun _ _ => ⟨rfl, e75, (by decide : 1 + 0 ≤ _), (by decide : 2 + 0 ≤ _)⟩)
  dsimp only [Pt.U, Pt.locs, Pt.cells, Pt.slots] at X76 l76 y76 z76 st76 hQ76
  rw [l76, y76, z76] at X76
  clear l76 y76 z76
  obtain ⟨rfl, Nq76, K76, p76_0, p76_1, p76_2⟩ := hQ76
  have N76 := Fr.app N75 Nq76
  have Zs76 : n0 ≤ T76.heap.size := Nat.le_trans Zs66 K76.1
  have KK76 : Keep h0 T76.heap [aa, at_] := KK66.trans K76 (allS (Or.inr sz_b66) all0)
  have f77 := f67.keep K76
  have f78 := f68.keep K76 (ninS ne_aa_b66 nin0)
  have f79 := f69.keep K76 (ninS ne_aa_b66 nin0)
  have f80 := f70.keep K76
  have f81 := f71.keep K76 (ninS ne_at__b66 nin0)
  have f82 := A66.keep K76
  have f83 := own_ch_keep K76 lt_at__b66 f72
  obtain ⟨T84, X84, e84, st84⟩ := getF X76 hx hZ hown (host := "") (Or.inl (hw _ (List.mem_of_getElem? (i := 45) rfl))) Via.refl rfl f79 (g := (mkF m 13 #[.val (.ref aa), .val (.ref ax), .val (.ref b66)] [(.ref aa)])) rfl rfl (hb hby d9_13)
  obtain ⟨T85, h85, X85, e85, W85, st85⟩ := own_putFR X84 hx hZ hown (hw _ (List.mem_of_getElem? (i := 56) rfl)) e84 f81 f80 (hw _ (List.mem_of_getElem? (i := 57) rfl)) (hw _ (List.mem_of_getElem? (i := 35) rfl)) (ty := (.object "com/example/tresse/tresse/queue/LinkedQueue$Node")) (by decide) rfl rfl (g := (mkF m 17 #[.val (.ref aa), .val (.ref ax), .val (.ref b66)] [(.ref b66), (.ref at_)])) rfl rfl (hb hby d9_17)
  have N85 := Fr.snoc X85 N76 g_at_
  have Zs85 : n0 ≤ h85.size := Nat.le_trans Zs76 (Keep.of_wr W85).1
  have KK85 : Keep h0 h85 [aa, at_] := KK76.wr W85 (Or.inl (List.mem_of_getElem? (i := 1) rfl))
  have f86 := f77.wr W85
  have f87 := f78.other W85 (Or.inl (Ne.symm ne_at_aa))
  have f88 := f79.other W85 (Or.inl (Ne.symm ne_at_aa))
  have f89 := f80.wr W85
  have f90 := f81.same W85
  have f91 := p76_0.wr W85
  have f92 := p76_1.other W85 (Or.inl (Ne.symm ne_at__b66))
  have f93 := p76_2.other W85 (Or.inl (Ne.symm ne_at__b66))
  have f94 := own_ch_push (slot_ne (Or.inl (hw _ (List.mem_of_getElem? (i := 42) rfl))) (Or.inl (hw _ (List.mem_of_getElem? (i := 57) rfl))) (by decide) (t := (.object "java/lang/Object")) (t' := (.object "com/example/tresse/tresse/queue/LinkedQueue$Node")) (by decide) (by decide)) g_b66 f91 f92 f93 W85 lt_at__b66 f83
  obtain ⟨T95, h95, X95, e95, W95, st95⟩ := putF X85 hx hZ hown (host := "") (Or.inl (hw _ (List.mem_of_getElem? (i := 45) rfl))) Via.refl e85 f88 f86 (Or.inl (hw _ (List.mem_of_getElem? (i := 46) rfl))) (hw _ (List.mem_of_getElem? (i := 28) rfl)) (ty := (.object "com/example/tresse/tresse/queue/LinkedQueue$Node")) (by decide) rfl rfl (g := (mkF m 22 #[.val (.ref aa), .val (.ref ax), .val (.ref b66)] [(.ref b66), (.ref aa)])) rfl rfl (hb hby d9_22)
  have N95 := Fr.snoc X95 N85 g_aa
  have Zs95 : n0 ≤ h95.size := Nat.le_trans Zs85 (Keep.of_wr W95).1
  have KK95 : Keep h0 h95 [aa, at_] := KK85.wr W95 (Or.inl (List.mem_of_getElem? (i := 0) rfl))
  have f96 := f86.wr W95
  have f97 := f87.other W95 (Or.inr (slot_ne (Or.inl (hw _ (List.mem_of_getElem? (i := 44) rfl))) (Or.inl (hw _ (List.mem_of_getElem? (i := 46) rfl))) (by decide) (t := (.object "com/example/tresse/tresse/queue/LinkedQueue$Node")) (t' := (.object "com/example/tresse/tresse/queue/LinkedQueue$Node")) (by decide) (by decide)))
  have f98 := f88.same W95
  have f99 := f89.wr W95
  have f100 := f90.other W95 (Or.inl ne_at_aa)
  have f101 := f91.wr W95
  have f102 := f92.other W95 (Or.inl (Ne.symm ne_aa_b66))
  have f103 := f93.other W95 (Or.inl (Ne.symm ne_aa_b66))
  have f104 := own_ch_wr W95 (fun c hc => ne_exa hc f86 (by decide)) f94
  obtain ⟨fs, hr, hrun, hended, hW, hsame⟩ := X95.leave (v := none) (fun _ => rfl)
  refine ⟨_, _, pre0 _ ?_, hrun, hended, _, _, rfl, ?_, ⟨_, rfl⟩, hW, hsame.mono (by decide) (by decide)⟩
  · show Steps p.tables e below (s₁.setTop (mkF m 0 #[.val (.ref aa), .val (.ref ax), .unset] [])) _
    refine st66 _ ?_
    show Steps p.tables e below (T66.setTop (mkF m 3 #[.val (.ref aa), .val (.ref ax), .unset] [(.ref b66)])) _
    refine XS.dup X66.here hx rfl (hb hby d9_3) rfl rfl ?_
    show Steps p.tables e below (T66.setTop (mkF m 4 #[.val (.ref aa), .val (.ref ax), .unset] [(.ref b66), (.ref b66)])) _
    refine XS.aloadN X66.here hx rfl (hb hby d9_4) rfl rfl ?_
    show Steps p.tables e below (T66.setTop (mkF m 5 #[.val (.ref aa), .val (.ref ax), .unset] [(.ref ax), (.ref b66), (.ref b66)])) _
    refine st75 _ ?_
    show Steps p.tables e below (T75.setTop (mkF m 8 #[.val (.ref aa), .val (.ref ax), .unset] [(.ref ax), (.ref b66), (.ref b66)])) _
    refine st76.trans ?_
    show Steps p.tables e below (T76.setTop (mkF m 11 #[.val (.ref aa), .val (.ref ax), .unset] [(.ref b66)])) _
    refine XS.astoreN X76.here hx rfl (hb hby d9_11) rfl rfl (l' := #[.val (.ref aa), .val (.ref ax), .val (.ref b66)]) rfl ?_
    show Steps p.tables e below (T76.setTop (mkF m 12 #[.val (.ref aa), .val (.ref ax), .val (.ref b66)] [])) _
    refine XS.aloadN X76.here hx rfl (hb hby d9_12) rfl rfl ?_
    show Steps p.tables e below (T76.setTop (mkF m 13 #[.val (.ref aa), .val (.ref ax), .val (.ref b66)] [(.ref aa)])) _
    refine st84 _ ?_
    show Steps p.tables e below (T84.setTop (mkF m 16 #[.val (.ref aa), .val (.ref ax), .val (.ref b66)] [(.ref at_)])) _
    refine XS.aloadN X84.here hx rfl (hb hby d9_16) rfl rfl ?_
    show Steps p.tables e below (T84.setTop (mkF m 17 #[.val (.ref aa), .val (.ref ax), .val (.ref b66)] [(.ref b66), (.ref at_)])) _
    refine st85 _ ?_
    show Steps p.tables e below (T85.setTop (mkF m 20 #[.val (.ref aa), .val (.ref ax), .val (.ref b66)] [])) _
    refine XS.aloadN X85.here hx rfl (hb hby d9_20) rfl rfl ?_
    show Steps p.tables e below (T85.setTop (mkF m 21 #[.val (.ref aa), .val (.ref ax), .val (.ref b66)] [(.ref aa)])) _
    refine XS.aloadN X85.here hx rfl (hb hby d9_21) rfl rfl ?_
    show Steps p.tables e below (T85.setTop (mkF m 22 #[.val (.ref aa), .val (.ref ax), .val (.ref b66)] [(.ref b66), (.ref aa)])) _
    refine st95 _ ?_
    show Steps p.tables e below (T95.setTop (mkF m 25 #[.val (.ref aa), .val (.ref ax), .val (.ref b66)] [])) _
    exact X95.returnOut hx Bd.returns (hb hby d9_25) hr
  · show Q9 Z aa ax ah at_ xs h0 n0 _ T95.heap _
    rw [e95]
    exact ⟨b66, rfl, N95, KK95, f96, f97, f98, f104⟩
theorem d8_0 : decode prog_93_method_3_code 0 = .ok (.aload_n 0, 1) := by decide +kernel
theorem d8_1 : decode prog_93_method_3_code 1 = .ok (.getfield 12, 3) := by decide +kernel
theorem d8_4 : decode prog_93_method_3_code 4 = .ok (.getfield 27, 3) := by decide +kernel
theorem d8_7 : decode prog_93_method_3_code 7 = .ok (.astore_n 1, 1) := by decide +kernel
theorem d8_8 : decode prog_93_method_3_code 8 = .ok (.aload_n 1, 1) := by decide +kernel
theorem d8_9 : decode prog_93_method_3_code 9 = .ok (.ifnonnull 5, 3) := by decide +kernel
theorem d8_12 : decode prog_93_method_3_code 12 = .ok (.aconst_null, 1) := by decide +kernel
theorem d8_13 : decode prog_93_method_3_code 13 = .ok (.areturn, 1) := by decide +kernel
theorem ef_8e (m : MethodId) (x0 : Addr) : entryFrame m #[(.ref x0)] 3 = mkF m 0 #[.val (.ref x0), .unset, .unset] [] := by first | (simp [entryFrame, mkF, argsToLocals, Value.category]; done) | rfl
def Q8e (Z : State) (aa : Addr) (ah : Addr) (h0 : Heap) (n0 : Nat) (v : Option Value) (h : Heap) (L : List Loc) : Prop := v = some .null ∧ Fr n0 L ∧ h = h0
set_option maxRecDepth 65536 in
set_option maxHeartbeats 40000000 in
theorem rm8e (l : Launch) (Z : State) (a0 : Array Value) (hw : ∀ d ∈ tables_1, d.before a0 Z = true) (ws : List Jvm.Cond) (aa : Addr) (ah : Addr) (h0 : Heap) (n0 : Nat) (Z0 : n0 ≤ h0.size) (Fh : Fld Z h0 aa "com/example/tresse/tresse/queue/LinkedQueue" "head" "Lcom/example/tresse/tresse/queue/LinkedQueue$Node;" (.ref ah)) (Fn : Fld Z h0 ah "com/example/tresse/tresse/queue/LinkedQueue$Node" "next" "Lcom/example/tresse/tresse/queue/LinkedQueue$Node;" .null) :
    MetFree l (⟨"com/example/tresse/tresse/queue/LinkedQueue", "dequeue", "()Ljava/lang/Object;"⟩ : MethodName) (head1 (Jvm.Cond.code (⟨"com/example/tresse/tresse/queue/LinkedQueue", "dequeue", "()Ljava/lang/Object;"⟩ : MethodName) prog_93_method_3_code 3 (some (.object "java/lang/Object")) :: ws) ({ frames := 0, cells := 0, slots := 0, locals := 0 } : Room)) (fun a U => a = #[(.ref aa)] ∧ Z.Warmed39 U.vm ∧ U.heap = h0) (fun _ _ _ _ _ => True) (fun _ U o U' => ∃ v L, o = .returned v ∧ Q8e Z aa ah h0 n0 v U'.heap L ∧ FrameEnd U o U' L ({ frames := 0, cells := 0, slots := 0, locals := 0 } : Room).cells ({ frames := 0, cells := 0, slots := 0, locals := 0 } : Room).slots) := by
  refine MetFree.of_bodySF (plainFor_of_name own_pn51) hisR ?_
  intro p e s m args below meth c s₁ Bd hml0 hP hK
  obtain ⟨rfl, hZ, hh⟩ := hP
  have hx := Bd.exec
  have hby := Bd.bytes
  have hml : c.maxLocals = 3 := hml0
  have hown : s.vm.findClass "com/example/tresse/tresse/queue/LinkedQueue" = some m.cls := findClass_of_methodNamed Bd.named
  have hnm := (name_of_methodNamed Bd.named Bd.method).1
  have X0 : Stand p l e ({ frames := 0, cells := 0, slots := 0, locals := 0 } : Room) s m #[(.ref aa)] below meth c s₁ [] 0 0 := Stand.of_body Bd
  have e0 : s₁.heap = h0 := by rw [← hh, Bd.state]; rfl
  have N0 := Fr.nil n0
  have pre0 : ∀ t, Steps p.tables e below (s₁.setTop (mkF m 0 #[.val (.ref aa), .unset, .unset] [])) t → Steps p.tables e below (s₁.setTop (entryFrame m #[(.ref aa)] 3)) t := fun t k => castTop (ef_8e m aa) k
  generalize s₁.setTop (entryFrame m #[(.ref aa)] 3) = G0 at pre0 ⊢
  obtain ⟨T105, X105, e105, st105⟩ := getF X0 hx hZ hown (host := "") (Or.inl (hw _ (List.mem_of_getElem? (i := 43) rfl))) Via.refl e0 Fh (g := (mkF m 1 #[.val (.ref aa), .unset, .unset] [(.ref aa)])) rfl rfl (hb hby d8_1)
  obtain ⟨T106, X106, e106, st106⟩ := own_getFR X105 hx hZ hown (hw _ (List.mem_of_getElem? (i := 56) rfl)) e105 Fn (g := (mkF m 4 #[.val (.ref aa), .unset, .unset] [(.ref ah)])) rfl rfl (hb hby d8_4)
  obtain ⟨fs, hr, hrun, hended, hW, hsame⟩ := X106.leave (v := some .null) (fun h => by rw [Bd.returns] at h; cases h)
  refine ⟨_, _, pre0 _ ?_, hrun, hended, _, _, rfl, ?_, ⟨_, rfl⟩, hW, hsame.mono (by decide) (by decide)⟩
  · show Steps p.tables e below (s₁.setTop (mkF m 0 #[.val (.ref aa), .unset, .unset] [])) _
    refine XS.aloadN X0.here hx rfl (hb hby d8_0) rfl rfl ?_
    show Steps p.tables e below (s₁.setTop (mkF m 1 #[.val (.ref aa), .unset, .unset] [(.ref aa)])) _
    refine st105 _ ?_
    show Steps p.tables e below (T105.setTop (mkF m 4 #[.val (.ref aa), .unset, .unset] [(.ref ah)])) _
    refine st106 _ ?_
    show Steps p.tables e below (T106.setTop (mkF m 7 #[.val (.ref aa), .unset, .unset] [.null])) _
    refine XS.astoreN X106.here hx rfl (hb hby d8_7) rfl rfl (l' := #[.val (.ref aa), .val .null, .unset]) rfl ?_
    show Steps p.tables e below (T106.setTop (mkF m 8 #[.val (.ref aa), .val .null, .unset] [])) _
    refine XS.aloadN X106.here hx rfl (hb hby d8_8) rfl rfl ?_
    show Steps p.tables e below (T106.setTop (mkF m 9 #[.val (.ref aa), .val .null, .unset] [.null])) _
    refine XS.ifnonnullNo X106.here hx rfl (hb hby d8_9) rfl ?_
    show Steps p.tables e below (T106.setTop (mkF m 12 #[.val (.ref aa), .val .null, .unset] [])) _
    refine XS.aconstNull X106.here hx rfl (hb hby d8_12) ?_
    show Steps p.tables e below (T106.setTop (mkF m 13 #[.val (.ref aa), .val .null, .unset] [.null])) _
    jvm_step X106.here [X106.here.top, hx, (hb hby d8_13), X106.method', Bd.returns, Value.isRef, FieldType.isReference]
    first | (intro acts; rw [hr _ acts rfl rfl rfl]) | rw [hr _ _ rfl rfl rfl]
    exact Steps.refl _
  · show Q8e Z aa ah h0 n0 _ T106.heap _
    rw [e106]
    exact ⟨rfl, N0, rfl⟩
theorem d8_14 : decode prog_93_method_3_code 14 = .ok (.aload_n 0, 1) := by decide +kernel
theorem d8_15 : decode prog_93_method_3_code 15 = .ok (.aload_n 1, 1) := by decide +kernel
theorem d8_16 : decode prog_93_method_3_code 16 = .ok (.putfield 12, 3) := by decide +kernel
theorem d8_19 : decode prog_93_method_3_code 19 = .ok (.aload_n 1, 1) := by decide +kernel
theorem d8_20 : decode prog_93_method_3_code 20 = .ok (.getfield 30, 3) := by decide +kernel
theorem d8_23 : decode prog_93_method_3_code 23 = .ok (.astore_n 2, 1) := by decide +kernel
theorem d8_24 : decode prog_93_method_3_code 24 = .ok (.aload_n 1, 1) := by decide +kernel
theorem d8_25 : decode prog_93_method_3_code 25 = .ok (.aconst_null, 1) := by decide +kernel
theorem d8_26 : decode prog_93_method_3_code 26 = .ok (.putfield 30, 3) := by decide +kernel
theorem d8_29 : decode prog_93_method_3_code 29 = .ok (.aload_n 2, 1) := by decide +kernel
theorem d8_30 : decode prog_93_method_3_code 30 = .ok (.areturn, 1) := by decide +kernel
theorem ef_8n (m : MethodId) (x0 : Addr) : entryFrame m #[(.ref x0)] 3 = mkF m 0 #[.val (.ref x0), .unset, .unset] [] := by first | (simp [entryFrame, mkF, argsToLocals, Value.category]; done) | rfl
def Q8n (Z : State) (aa : Addr) (ah : Addr) (ab : Addr) (ax : Addr) (at_ : Addr) (xs : List Addr) (h0 : Heap) (n0 : Nat) (v : Option Value) (h : Heap) (L : List Loc) : Prop := v = some (.ref ax) ∧ Fr n0 L ∧ Keep h0 h [aa, ab] ∧ Exa Z h aa "com/example/tresse/tresse/queue/LinkedQueue" ∧ Fld Z h aa "com/example/tresse/tresse/queue/LinkedQueue" "head" "Lcom/example/tresse/tresse/queue/LinkedQueue$Node;" (.ref ab) ∧ Fld Z h aa "com/example/tresse/tresse/queue/LinkedQueue" "tail" "Lcom/example/tresse/tresse/queue/LinkedQueue$Node;" (.ref at_) ∧ own_ch Z h n0 ab xs at_
set_option maxRecDepth 65536 in
set_option maxHeartbeats 40000000 in
theorem rm8n (l : Launch) (Z : State) (a0 : Array Value) (hw : ∀ d ∈ tables_1, d.before a0 Z = true) (ws : List Jvm.Cond) (aa : Addr) (ah : Addr) (ab : Addr) (ax : Addr) (at_ : Addr) (xs : List Addr) (h0 : Heap) (n0 : Nat) (Z0 : n0 ≤ h0.size) (Fh : Fld Z h0 aa "com/example/tresse/tresse/queue/LinkedQueue" "head" "Lcom/example/tresse/tresse/queue/LinkedQueue$Node;" (.ref ah)) (Ft : Fld Z h0 aa "com/example/tresse/tresse/queue/LinkedQueue" "tail" "Lcom/example/tresse/tresse/queue/LinkedQueue$Node;" (.ref at_)) (Ea : Exa Z h0 aa "com/example/tresse/tresse/queue/LinkedQueue") (g_aa : n0 ≤ aa) (Fn : Fld Z h0 ah "com/example/tresse/tresse/queue/LinkedQueue$Node" "next" "Lcom/example/tresse/tresse/queue/LinkedQueue$Node;" (.ref ab)) (Fb : Fld Z h0 ab "com/example/tresse/tresse/queue/LinkedQueue$Node" "value" "Ljava/lang/Object;" (.ref ax)) (Ch : own_ch Z h0 n0 ab xs at_) (Eh : Exa Z h0 ah "com/example/tresse/tresse/queue/LinkedQueue$Node") :
    MetFree l (⟨"com/example/tresse/tresse/queue/LinkedQueue", "dequeue", "()Ljava/lang/Object;"⟩ : MethodName) (head1 (Jvm.Cond.code (⟨"com/example/tresse/tresse/queue/LinkedQueue", "dequeue", "()Ljava/lang/Object;"⟩ : MethodName) prog_93_method_3_code 3 (some (.object "java/lang/Object")) :: ws) ({ frames := 0, cells := 0, slots := 0, locals := 0 } : Room)) (fun a U => a = #[(.ref aa)] ∧ Z.Warmed39 U.vm ∧ U.heap = h0) (fun _ _ _ _ _ => True) (fun _ U o U' => ∃ v L, o = .returned v ∧ Q8n Z aa ah ab ax at_ xs h0 n0 v U'.heap L ∧ FrameEnd U o U' L ({ frames := 0, cells := 0, slots := 0, locals := 0 } : Room).cells ({ frames := 0, cells := 0, slots := 0, locals := 0 } : Room).slots) := by
  refine MetFree.of_bodySF (plainFor_of_name own_pn51) hisR ?_
  intro p e s m args below meth c s₁ Bd hml0 hP hK
  obtain ⟨rfl, hZ, hh⟩ := hP
  have hx := Bd.exec
  have hby := Bd.bytes
  have hml : c.maxLocals = 3 := hml0
  have hown : s.vm.findClass "com/example/tresse/tresse/queue/LinkedQueue" = some m.cls := findClass_of_methodNamed Bd.named
  have hnm := (name_of_methodNamed Bd.named Bd.method).1
  have X0 : Stand p l e ({ frames := 0, cells := 0, slots := 0, locals := 0 } : Room) s m #[(.ref aa)] below meth c s₁ [] 0 0 := Stand.of_body Bd
  have e0 : s₁.heap = h0 := by rw [← hh, Bd.state]; rfl
  have N0 := Fr.nil n0
  have pre0 : ∀ t, Steps p.tables e below (s₁.setTop (mkF m 0 #[.val (.ref aa), .unset, .unset] [])) t → Steps p.tables e below (s₁.setTop (entryFrame m #[(.ref aa)] 3)) t := fun t k => castTop (ef_8n m aa) k
  generalize s₁.setTop (entryFrame m #[(.ref aa)] 3) = G0 at pre0 ⊢
  obtain ⟨g_ab, Eb⟩ := own_ch_hd Ch
  have ne_ab_aa : ab ≠ aa := ne_exa Eb Ea (by decide)
  have ne_ah_aa : ah ≠ aa := ne_exa Eh Ea (by decide)
  obtain ⟨T107, X107, e107, st107⟩ := getF X0 hx hZ hown (host := "") (Or.inl (hw _ (List.mem_of_getElem? (i := 43) rfl))) Via.refl e0 Fh (g := (mkF m 1 #[.val (.ref aa), .unset, .unset] [(.ref aa)])) rfl rfl (hb hby d8_1)
  obtain ⟨T108, X108, e108, st108⟩ := own_getFR X107 hx hZ hown (hw _ (List.mem_of_getElem? (i := 56) rfl)) e107 Fn (g := (mkF m 4 #[.val (.ref aa), .unset, .unset] [(.ref ah)])) rfl rfl (hb hby d8_4)
  obtain ⟨T109, h109, X109, e109, W109, st109⟩ := putF X108 hx hZ hown (host := "") (Or.inl (hw _ (List.mem_of_getElem? (i := 43) rfl))) Via.refl e108 Fh Ea (Or.inl (hw _ (List.mem_of_getElem? (i := 44) rfl))) (hw _ (List.mem_of_getElem? (i := 28) rfl)) (ty := (.object "com/example/tresse/tresse/queue/LinkedQueue$Node")) (by decide) rfl rfl (g := (mkF m 16 #[.val (.ref aa), .val (.ref ab), .unset] [(.ref ab), (.ref aa)])) rfl rfl (hb hby d8_16)
  have N109 := Fr.snoc X109 N0 g_aa
  have Zs109 : n0 ≤ h109.size := Nat.le_trans Z0 (Keep.of_wr W109).1
  have KK109 : Keep h0 h109 [aa, ab] := (Keep.refl h0 _).wr W109 (Or.inl (List.mem_of_getElem? (i := 0) rfl))
  have f110 := Ea.wr W109
  have f111 := Fh.same W109
  have f112 := Ft.other W109 (Or.inr (slot_ne (Or.inl (hw _ (List.mem_of_getElem? (i := 46) rfl))) (Or.inl (hw _ (List.mem_of_getElem? (i := 44) rfl))) (by decide) (t := (.object "com/example/tresse/tresse/queue/LinkedQueue$Node")) (t' := (.object "com/example/tresse/tresse/queue/LinkedQueue$Node")) (by decide) (by decide)))
  have f113 := Fn.other W109 (Or.inl ne_ah_aa)
  have f114 := Eb.wr W109
  have f115 := Fb.other W109 (Or.inl ne_ab_aa)
  have f116 := own_ch_wr W109 (fun c hc => ne_exa hc Ea (by decide)) Ch
  obtain ⟨T117, X117, e117, st117⟩ := own_getFR X109 hx hZ hown (hw _ (List.mem_of_getElem? (i := 67) rfl)) e109 f115 (g := (mkF m 20 #[.val (.ref aa), .val (.ref ab), .unset] [(.ref ab)])) rfl rfl (hb hby d8_20)
  obtain ⟨T118, h118, X118, e118, W118, st118⟩ := own_putFR X117 hx hZ hown (hw _ (List.mem_of_getElem? (i := 67) rfl)) e117 f115 f114 (hw _ (List.mem_of_getElem? (i := 42) rfl)) (hw _ (List.mem_of_getElem? (i := 35) rfl)) (ty := (.object "java/lang/Object")) (by decide) rfl rfl (g := (mkF m 26 #[.val (.ref aa), .val (.ref ab), .val (.ref ax)] [.null, (.ref ab)])) rfl rfl (hb hby d8_26)
  have N118 := Fr.snoc X118 N109 g_ab
  have Zs118 : n0 ≤ h118.size := Nat.le_trans Zs109 (Keep.of_wr W118).1
  have KK118 : Keep h0 h118 [aa, ab] := KK109.wr W118 (Or.inl (List.mem_of_getElem? (i := 1) rfl))
  have f119 := f110.wr W118
  have f120 := f111.other W118 (Or.inl (Ne.symm ne_ab_aa))
  have f121 := f112.other W118 (Or.inl (Ne.symm ne_ab_aa))
  have f122 := f114.wr W118
  have f123 := f115.same W118
  have f124 := own_ch_pop (slot_ne (Or.inl (hw _ (List.mem_of_getElem? (i := 57) rfl))) (Or.inl (hw _ (List.mem_of_getElem? (i := 42) rfl))) (by decide) (t := (.object "com/example/tresse/tresse/queue/LinkedQueue$Node")) (t' := (.object "java/lang/Object")) (by decide) (by decide)) W118 f116
  obtain ⟨fs, hr, hrun, hended, hW, hsame⟩ := X118.leave (v := some (.ref ax)) (fun h => by rw [Bd.returns] at h; cases h)
  refine ⟨_, _, pre0 _ ?_, hrun, hended, _, _, rfl, ?_, ⟨_, rfl⟩, hW, hsame.mono (by decide) (by decide)⟩
  · show Steps p.tables e below (s₁.setTop (mkF m 0 #[.val (.ref aa), .unset, .unset] [])) _
    refine XS.aloadN X0.here hx rfl (hb hby d8_0) rfl rfl ?_
    show Steps p.tables e below (s₁.setTop (mkF m 1 #[.val (.ref aa), .unset, .unset] [(.ref aa)])) _
    refine st107 _ ?_
    show Steps p.tables e below (T107.setTop (mkF m 4 #[.val (.ref aa), .unset, .unset] [(.ref ah)])) _
    refine st108 _ ?_
    show Steps p.tables e below (T108.setTop (mkF m 7 #[.val (.ref aa), .unset, .unset] [(.ref ab)])) _
    refine XS.astoreN X108.here hx rfl (hb hby d8_7) rfl rfl (l' := #[.val (.ref aa), .val (.ref ab), .unset]) rfl ?_
    show Steps p.tables e below (T108.setTop (mkF m 8 #[.val (.ref aa), .val (.ref ab), .unset] [])) _
    refine XS.aloadN X108.here hx rfl (hb hby d8_8) rfl rfl ?_
    show Steps p.tables e below (T108.setTop (mkF m 9 #[.val (.ref aa), .val (.ref ab), .unset] [(.ref ab)])) _
    refine XS.ifnonnullYes X108.here hx rfl (pc0 := 9) (pc' := 14) rfl (hb hby d8_9) rfl (by decide) (by decide) ?_
    show Steps p.tables e below (T108.setTop (mkF m 14 #[.val (.ref aa), .val (.ref ab), .unset] [])) _
    refine XS.aloadN X108.here hx rfl (hb hby d8_14) rfl rfl ?_
    show Steps p.tables e below (T108.setTop (mkF m 15 #[.val (.ref aa), .val (.ref ab), .unset] [(.ref aa)])) _
    refine XS.aloadN X108.here hx rfl (hb hby d8_15) rfl rfl ?_
    show Steps p.tables e below (T108.setTop (mkF m 16 #[.val (.ref aa), .val (.ref ab), .unset] [(.ref ab), (.ref aa)])) _
    refine st109 _ ?_
    show Steps p.tables e below (T109.setTop (mkF m 19 #[.val (.ref aa), .val (.ref ab), .unset] [])) _
    refine XS.aloadN X109.here hx rfl (hb hby d8_19) rfl rfl ?_
    show Steps p.tables e below (T109.setTop (mkF m 20 #[.val (.ref aa), .val (.ref ab), .unset] [(.ref ab)])) _
    refine st117 _ ?_
    show Steps p.tables e below (T117.setTop (mkF m 23 #[.val (.ref aa), .val (.ref ab), .unset] [(.ref ax)])) _
    refine XS.astoreN X117.here hx rfl (hb hby d8_23) rfl rfl (l' := #[.val (.ref aa), .val (.ref ab), .val (.ref ax)]) rfl ?_
    show Steps p.tables e below (T117.setTop (mkF m 24 #[.val (.ref aa), .val (.ref ab), .val (.ref ax)] [])) _
    refine XS.aloadN X117.here hx rfl (hb hby d8_24) rfl rfl ?_
    show Steps p.tables e below (T117.setTop (mkF m 25 #[.val (.ref aa), .val (.ref ab), .val (.ref ax)] [(.ref ab)])) _
    refine XS.aconstNull X117.here hx rfl (hb hby d8_25) ?_
    show Steps p.tables e below (T117.setTop (mkF m 26 #[.val (.ref aa), .val (.ref ab), .val (.ref ax)] [.null, (.ref ab)])) _
    refine st118 _ ?_
    show Steps p.tables e below (T118.setTop (mkF m 29 #[.val (.ref aa), .val (.ref ab), .val (.ref ax)] [])) _
    refine XS.aloadN X118.here hx rfl (hb hby d8_29) rfl rfl ?_
    show Steps p.tables e below (T118.setTop (mkF m 30 #[.val (.ref aa), .val (.ref ab), .val (.ref ax)] [(.ref ax)])) _
    jvm_step X118.here [X118.here.top, hx, (hb hby d8_30), X118.method', Bd.returns, Value.isRef, FieldType.isReference]
    first | (intro acts; rw [hr _ acts rfl rfl rfl]) | rw [hr _ _ rfl rfl rfl]
    exact Steps.refl _
  · show Q8n Z aa ah ab ax at_ xs h0 n0 _ T118.heap _
    rw [e118]
    exact ⟨rfl, N118, KK118, f119, f120, f121, f124⟩
theorem d7_0 : decode method_3_code 0 = .ok (.iload_n 3, 1) := by decide +kernel
theorem d7_1 : decode method_3_code 1 = .ok (.ifCond .eq 22, 3) := by decide +kernel
theorem d7_23 : decode method_3_code 23 = .ok (.aload_n 0, 1) := by decide +kernel
theorem d7_24 : decode method_3_code 24 = .ok (.invokevirtual 26, 3) := by decide +kernel
theorem own_pd95 : parseMethodDescriptor "()Ljava/lang/Object;" = some ⟨[], some (.object "java/lang/Object")⟩ := by decide +kernel
theorem d7_27 : decode method_3_code 27 = .ok (.checkcast 7, 3) := by decide +kernel
theorem d7_30 : decode method_3_code 30 = .ok (.astore 4, 2) := by decide +kernel
theorem d7_32 : decode method_3_code 32 = .ok (.aload_n 2, 1) := by decide +kernel
theorem d7_33 : decode method_3_code 33 = .ok (.iconst 1, 1) := by decide +kernel
theorem d7_34 : decode method_3_code 34 = .ok (.iaload, 1) := by decide +kernel
theorem d7_35 : decode method_3_code 35 = .ok (.aload_n 2, 1) := by decide +kernel
theorem d7_36 : decode method_3_code 36 = .ok (.iconst 0, 1) := by decide +kernel
theorem d7_37 : decode method_3_code 37 = .ok (.iaload, 1) := by decide +kernel
theorem d7_38 : decode method_3_code 38 = .ok (.if_icmp .ge 31, 3) := by decide +kernel
theorem d7_41 : decode method_3_code 41 = .ok (.aload 4, 2) := by decide +kernel
theorem d7_43 : decode method_3_code 43 = .ok (.aload_n 1, 1) := by decide +kernel
theorem d7_44 : decode method_3_code 44 = .ok (.aload_n 2, 1) := by decide +kernel
theorem d7_45 : decode method_3_code 45 = .ok (.iconst 1, 1) := by decide +kernel
theorem d7_46 : decode method_3_code 46 = .ok (.iaload, 1) := by decide +kernel
theorem d7_47 : decode method_3_code 47 = .ok (.aaload, 1) := by decide +kernel
theorem d7_48 : decode method_3_code 48 = .ok (.if_acmp .ne 7, 3) := by decide +kernel
theorem d7_51 : decode method_3_code 51 = .ok (.iconst 1, 1) := by decide +kernel
theorem d7_52 : decode method_3_code 52 = .ok (.goto 4, 3) := by decide +kernel
theorem d7_56 : decode method_3_code 56 = .ok (.istore 5, 2) := by decide +kernel
theorem d7_58 : decode method_3_code 58 = .ok (.aload_n 2, 1) := by decide +kernel
theorem d7_59 : decode method_3_code 59 = .ok (.iconst 1, 1) := by decide +kernel
theorem d7_60 : decode method_3_code 60 = .ok (.aload_n 2, 1) := by decide +kernel
theorem d7_61 : decode method_3_code 61 = .ok (.iconst 1, 1) := by decide +kernel
theorem d7_62 : decode method_3_code 62 = .ok (.iaload, 1) := by decide +kernel
theorem d7_63 : decode method_3_code 63 = .ok (.iconst 1, 1) := by decide +kernel
theorem d7_64 : decode method_3_code 64 = .ok (.iadd, 1) := by decide +kernel
theorem d7_65 : decode method_3_code 65 = .ok (.iastore, 1) := by decide +kernel
theorem d7_66 : decode method_3_code 66 = .ok (.iload 5, 2) := by decide +kernel
theorem d7_68 : decode method_3_code 68 = .ok (.ireturn, 1) := by decide +kernel
theorem d7_69 : decode method_3_code 69 = .ok (.aload 4, 2) := by decide +kernel
theorem d7_71 : decode method_3_code 71 = .ok (.ifnonnull 7, 3) := by decide +kernel
theorem d7_74 : decode method_3_code 74 = .ok (.iconst 1, 1) := by decide +kernel
theorem d7_75 : decode method_3_code 75 = .ok (.goto 4, 3) := by decide +kernel
theorem d7_79 : decode method_3_code 79 = .ok (.ireturn, 1) := by decide +kernel
theorem d7_4 : decode method_3_code 4 = .ok (.aload_n 0, 1) := by decide +kernel
theorem d7_5 : decode method_3_code 5 = .ok (.aload_n 1, 1) := by decide +kernel
theorem d7_6 : decode method_3_code 6 = .ok (.aload_n 2, 1) := by decide +kernel
theorem d7_7 : decode method_3_code 7 = .ok (.iconst 0, 1) := by decide +kernel
theorem d7_8 : decode method_3_code 8 = .ok (.iaload, 1) := by decide +kernel
theorem d7_9 : decode method_3_code 9 = .ok (.aaload, 1) := by decide +kernel
theorem d7_10 : decode method_3_code 10 = .ok (.invokevirtual 22, 3) := by decide +kernel
theorem d7_13 : decode method_3_code 13 = .ok (.aload_n 2, 1) := by decide +kernel
theorem d7_14 : decode method_3_code 14 = .ok (.iconst 0, 1) := by decide +kernel
theorem d7_15 : decode method_3_code 15 = .ok (.aload_n 2, 1) := by decide +kernel
theorem d7_16 : decode method_3_code 16 = .ok (.iconst 0, 1) := by decide +kernel
theorem d7_17 : decode method_3_code 17 = .ok (.iaload, 1) := by decide +kernel
theorem d7_18 : decode method_3_code 18 = .ok (.iconst 1, 1) := by decide +kernel
theorem d7_19 : decode method_3_code 19 = .ok (.iadd, 1) := by decide +kernel
theorem d7_20 : decode method_3_code 20 = .ok (.iastore, 1) := by decide +kernel
theorem d7_21 : decode method_3_code 21 = .ok (.iconst 1, 1) := by decide +kernel
theorem d7_22 : decode method_3_code 22 = .ok (.ireturn, 1) := by decide +kernel
theorem own_pn147 : plainName "com/example/tresse/tresse/queue/LinkedQueueDequeuePinLaw" = true := by first | (simp [plainName, overriddenIn]; done) | decide +kernel
theorem ef_7 (m : MethodId) (x0 : Addr) (x1 : Addr) (x2 : Addr) (x3 : Int32) : entryFrame m #[(.ref x0), (.ref x1), (.ref x2), (.int x3)] 6 = mkF m 0 #[.val (.ref x0), .val (.ref x1), .val (.ref x2), .val (.int x3), .unset, .unset] [] := by first | (simp [entryFrame, mkF, argsToLocals, Value.category]; done) | rfl
def Q7 (Z : State) (aq : Addr) (av : Addr) (as_ : Addr) (pz : Int32) (kv : ClassId) (ks : ClassId) (ii : Nat) (jj : Nat) (ah : Addr) (at_ : Addr) (rs : List Addr) (h0 : Heap) (n0 : Nat) (v : Option Value) (h : Heap) (L : List Loc) : Prop := ∃ (i2 : Nat) (j2 : Nat) (ah2 : Addr) (at2 : Addr), v = some (.int (1 : Int32)) ∧ Fr n0 L ∧ n0 ≤ h.size ∧ Exa Z h aq "com/example/tresse/tresse/queue/LinkedQueue" ∧ Fld Z h aq "com/example/tresse/tresse/queue/LinkedQueue" "head" "Lcom/example/tresse/tresse/queue/LinkedQueue$Node;" (.ref ah2) ∧ Fld Z h aq "com/example/tresse/tresse/queue/LinkedQueue" "tail" "Lcom/example/tresse/tresse/queue/LinkedQueue$Node;" (.ref at2) ∧ own_ch Z h n0 ah2 ((rs.drop j2).take (i2 - j2)) at2 ∧ Arv Z h av kv (.object "java/lang/Integer") (8 : Int32) (rs.map Value.ref) .null ∧ Arv Z h as_ ks .int (2 : Int32) [(.int (Int32.ofNat i2)), (.int (Int32.ofNat j2))] (.int (0 : Int32)) ∧ (∀ r ∈ rs, Exa Z h r "java/lang/Integer") ∧ j2 ≤ i2 ∧ i2 ≤ ii + 1
set_option maxRecDepth 65536 in
set_option maxHeartbeats 40000000 in
theorem rm7 (l : Launch) (Z : State) (a0 : Array Value) (hw : ∀ d ∈ tables_1, d.before a0 Z = true) (ws : List Jvm.Cond) (aq : Addr) (av : Addr) (as_ : Addr) (pz : Int32) (kv : ClassId) (ks : ClassId) (ii : Nat) (jj : Nat) (ah : Addr) (at_ : Addr) (rs : List Addr) (h0 : Heap) (n0 : Nat) (Z0 : n0 ≤ h0.size) (Ea : Exa Z h0 aq "com/example/tresse/tresse/queue/LinkedQueue") (Fh : Fld Z h0 aq "com/example/tresse/tresse/queue/LinkedQueue" "head" "Lcom/example/tresse/tresse/queue/LinkedQueue$Node;" (.ref ah)) (Ft : Fld Z h0 aq "com/example/tresse/tresse/queue/LinkedQueue" "tail" "Lcom/example/tresse/tresse/queue/LinkedQueue$Node;" (.ref at_)) (Ch : own_ch Z h0 n0 ah ((rs.drop jj).take (ii - jj)) at_) (Vv : Arv Z h0 av kv (.object "java/lang/Integer") (8 : Int32) (rs.map Value.ref) .null) (Vs : Arv Z h0 as_ ks .int (2 : Int32) [(.int (Int32.ofNat ii)), (.int (Int32.ofNat jj))] (.int (0 : Int32))) (Er : (∀ r ∈ rs, Exa Z h0 r "java/lang/Integer")) (hji : jj ≤ ii) (hi8 : ii < 8) (hrs : rs.length = 8) (g_aq : n0 ≤ aq) (g_as_ : n0 ≤ as_) (nvs : av ≠ as_) :
    MetFree l (⟨"com/example/tresse/tresse/queue/LinkedQueueDequeuePinLaw", "step", "(Lcom/example/tresse/tresse/queue/LinkedQueue;[Ljava/lang/Integer;[IZ)Z"⟩ : MethodName) (head1 (Jvm.Cond.code (⟨"com/example/tresse/tresse/queue/LinkedQueueDequeuePinLaw", "step", "(Lcom/example/tresse/tresse/queue/LinkedQueue;[Ljava/lang/Integer;[IZ)Z"⟩ : MethodName) method_3_code 6 (some .boolean) :: ws) ({ frames := 3, cells := 1, slots := 2, locals := 40 } : Room)) (fun a U => a = #[(.ref aq), (.ref av), (.ref as_), (.int pz)] ∧ Z.Warmed39 U.vm ∧ U.heap = h0) (fun _ _ _ _ _ => True) (fun _ U o U' => ∃ v L, o = .returned v ∧ Q7 Z aq av as_ pz kv ks ii jj ah at_ rs h0 n0 v U'.heap L ∧ FrameEnd U o U' L ({ frames := 3, cells := 1, slots := 2, locals := 40 } : Room).cells ({ frames := 3, cells := 1, slots := 2, locals := 40 } : Room).slots) := by
  refine MetFree.of_bodySF (plainFor_of_name own_pn147) hisR ?_
  intro p e s m args below meth c s₁ Bd hml0 hP hK
  obtain ⟨rfl, hZ, hh⟩ := hP
  have hx := Bd.exec
  have hby := Bd.bytes
  have hml : c.maxLocals = 6 := hml0
  have hown : s.vm.findClass "com/example/tresse/tresse/queue/LinkedQueueDequeuePinLaw" = some m.cls := findClass_of_methodNamed Bd.named
  have hnm := (name_of_methodNamed Bd.named Bd.method).1
  have X0 : Stand p l e ({ frames := 3, cells := 1, slots := 2, locals := 40 } : Room) s m #[(.ref aq), (.ref av), (.ref as_), (.int pz)] below meth c s₁ [] 0 0 := Stand.of_body Bd
  have e0 : s₁.heap = h0 := by rw [← hh, Bd.state]; rfl
  have N0 := Fr.nil n0
  have pre0 : ∀ t, Steps p.tables e below (s₁.setTop (mkF m 0 #[.val (.ref aq), .val (.ref av), .val (.ref as_), .val (.int pz), .unset, .unset] [])) t → Steps p.tables e below (s₁.setTop (entryFrame m #[(.ref aq), (.ref av), (.ref as_), (.int pz)] 6)) t := fun t k => castTop (ef_7 m aq av as_ pz) k
  generalize s₁.setTop (entryFrame m #[(.ref aq), (.ref av), (.ref as_), (.int pz)] 6) = G0 at pre0 ⊢
  have pre125 : ∀ t, Steps p.tables e below (s₁.setTop (mkF m 1 #[.val (.ref aq), .val (.ref av), .val (.ref as_), .val (.int pz), .unset, .unset] [(.int pz)])) t → Steps p.tables e below G0 t := by
    intro t k
    refine pre0 t ?_
    show Steps p.tables e below (s₁.setTop (mkF m 0 #[.val (.ref aq), .val (.ref av), .val (.ref as_), .val (.int pz), .unset, .unset] [])) _
    refine XS.iloadN X0.here hx rfl (hb hby d7_0) rfl ?_
    exact k
  by_cases hc1 : pz = (0 : Int32)
  · have pre126 : ∀ t, Steps p.tables e below (s₁.setTop (mkF m 23 #[.val (.ref aq), .val (.ref av), .val (.ref as_), .val (.int pz), .unset, .unset] [])) t → Steps p.tables e below G0 t := by
      intro t k
      refine pre125 t ?_
      show Steps p.tables e below (s₁.setTop (mkF m 1 #[.val (.ref aq), .val (.ref av), .val (.ref as_), .val (.int pz), .unset, .unset] [(.int pz)])) _
      refine XS.ifYes X0.here hx rfl (pc0 := 1) (pc' := 23) rfl (hb hby d7_1) rfl ((if0 _ _).trans (teq hc1).1) (by decide) (by decide) ?_
      exact k
    by_cases hj127 : jj < ii
    · obtain ⟨rj, hrj⟩ := own_some hrs (show jj < 8 by omega)
      have Ch' := Ch
      rw [own_head hj127 hrj] at Ch'
      obtain ⟨g_ah, Eh, -, ab, ltb, Fn, Fb, Chb⟩ := Ch'
      obtain ⟨g_ab, Eb⟩ := own_ch_hd Chb
      obtain ⟨clv, Arv0, -⟩ := id Vv
      obtain ⟨cls_, Ars0, -⟩ := id Vs
      have ne_aq_av : aq ≠ av := ne_arr Ea (hw _ (List.mem_of_getElem? (i := 28) rfl)) Arv0
      have ne_aq_as_ : aq ≠ as_ := ne_arr Ea (hw _ (List.mem_of_getElem? (i := 28) rfl)) Ars0
      have ne_ab_av : ab ≠ av := ne_arr Eb (hw _ (List.mem_of_getElem? (i := 35) rfl)) Arv0
      have ne_ab_as_ : ab ≠ as_ := ne_arr Eb (hw _ (List.mem_of_getElem? (i := 35) rfl)) Ars0
      have Erj := Er rj (List.mem_of_getElem? hrj)
      obtain ⟨cq128, kq128, q128a, q128b, q128c⟩ := isOf hZ e0 Ea
      obtain ⟨_, _, ⟨T128, L128, k128, n128⟩, -, X128, ⟨Lc128, hQ128, l128, y128, z128⟩, st128⟩ := X0.virtualBack hx (y := (⟨"com/example/tresse/tresse/queue/LinkedQueue", "dequeue", "()Ljava/lang/Object;"⟩ : MethodName)) (z := (⟨"com/example/tresse/tresse/queue/LinkedQueue", "dequeue", "()Ljava/lang/Object;"⟩ : MethodName)) hown (mvT hZ (hw _ (List.mem_of_getElem? (i := 51) rfl))) (mvT hZ (hw _ (List.mem_of_getElem? (i := 52) rfl))) (notFace_of_selects (args := #[]) (mvT hZ (hw _ (List.mem_of_getElem? (i := 54) rfl)))) (mvT hZ (hw _ (List.mem_of_getElem? (i := 54) rfl))) (mvT hZ (hw _ (List.mem_of_getElem? (i := 53) rfl))) (by decide) (backOf (W := 0) (rm8n l Z a0 hw [] aq ah ab rj at_ ((rs.drop (jj + 1)).take (ii - (jj + 1))) h0 n0 Z0 Fh Ft Ea g_aq Fn Fb Chb Eh) hZ (hw _ (List.mem_of_getElem? (i := 55) rfl)) (hw _ (List.mem_of_getElem? (i := 29) rfl)) (by decide) (by decide)) q128a q128c (g := (mkF m 24 #[.val (.ref aq), .val (.ref av), .val (.ref as_), .val (.int pz), .unset, .unset] [(.ref aq)])) rfl (by rw [hml]; rfl) (Steps.refl _) (argsL := []) (rest := []) (lenOf own_pd95 rfl) rfl (by show 2 * 0 + _ ≤ _; exact Nat.le_of_eq rfl) (hb hby d7_24) (fun _ _ => ⟨rfl, e0, (by decide : 0 + 0 ≤ _), (by decide : 0 + 0 ≤ _)⟩)
      dsimp only [Pt.U, Pt.locs, Pt.cells, Pt.slots] at X128 l128 y128 z128 st128 hQ128
      rw [l128, y128, z128] at X128
      clear l128 y128 z128
      obtain ⟨rfl, Nq128, K128, p128_0, p128_1, p128_2, p128_3⟩ := hQ128
      have N128 := Fr.app N0 Nq128
      have Zs128 : n0 ≤ T128.heap.size := Nat.le_trans Z0 K128.1
      have f129 := Ea.keep K128
      have f130 := Vv.keep K128 (ninS (Ne.symm ne_aq_av) (ninS (Ne.symm ne_ab_av) nin0))
      have f131 := Vs.keep K128 (ninS (Ne.symm ne_aq_as_) (ninS (Ne.symm ne_ab_as_) nin0))
      have f132 := Erj.keep K128
      have f133 := (fun r hr => (Er r hr).keep K128 : ∀ r ∈ rs, Exa Z T128.heap r "java/lang/Integer")
      obtain ⟨T134, X134, e134, st134⟩ := castY X128 hx hZ hown (hw _ (List.mem_of_getElem? (i := 0) rfl)) rfl (Ins.self f132) (g := (mkF m 27 #[.val (.ref aq), .val (.ref av), .val (.ref as_), .val (.int pz), .unset, .unset] [(.ref rj)])) rfl rfl (hb hby d7_27)
      obtain ⟨cl135, Ar135, -, S135, -, H135, -⟩ := id f131
      have hin135 : ¬ ((1 : Int32) < 0 ∨ cl135.slots.size ≤ ((1 : Int32)).toNatClampNeg) := inb_of S135 ⟨by decide, by decide⟩
      have hat135 : cl135.slots[((1 : Int32)).toNatClampNeg]? = some (.int (Int32.ofNat jj)) := H135.at hin135 rfl
      obtain ⟨cl136, Ar136, -, S136, -, H136, -⟩ := id f131
      have hin136 : ¬ ((0 : Int32) < 0 ∨ cl136.slots.size ≤ ((0 : Int32)).toNatClampNeg) := inb_of S136 ⟨by decide, by decide⟩
      have hat136 : cl136.slots[((0 : Int32)).toNatClampNeg]? = some (.int (Int32.ofNat ii)) := H136.at hin136 rfl
      obtain ⟨cl137, Ar137, -, S137, -, H137, -⟩ := id f131
      have hin137 : ¬ ((1 : Int32) < 0 ∨ cl137.slots.size ≤ ((1 : Int32)).toNatClampNeg) := inb_of S137 ⟨by decide, by decide⟩
      have hat137 : cl137.slots[((1 : Int32)).toNatClampNeg]? = some (.int (Int32.ofNat jj)) := H137.at hin137 rfl
      obtain ⟨cl138, Ar138, -, S138, -, H138, -⟩ := id f130
      have hin138 : ¬ ((Int32.ofNat jj) < 0 ∨ cl138.slots.size ≤ ((Int32.ofNat jj)).toNatClampNeg) := inb_of S138 ⟨own_nat0 (by omega), (own_natlt (by omega) (by decide : 8 < 100)).mpr (show jj < 8 by omega)⟩
      have hat138 : cl138.slots[((Int32.ofNat jj)).toNatClampNeg]? = some (.ref rj) := H138.at hin138 (by rw [(own_clamp (show jj < 100 by omega))]; exact own_getD hrj)
      obtain ⟨cl139, Ar139, -, S139, -, H139, -⟩ := id f131
      have hin139 : ¬ ((1 : Int32) < 0 ∨ cl139.slots.size ≤ ((1 : Int32)).toNatClampNeg) := inb_of S139 ⟨by decide, by decide⟩
      have hat139 : cl139.slots[((1 : Int32)).toNatClampNeg]? = some (.int (Int32.ofNat jj)) := H139.at hin139 rfl
      obtain ⟨cl140, Ar140, q140, S140, N140, H140, G140⟩ := id f131
      have hin140 : ¬ ((1 : Int32) < 0 ∨ cl140.slots.size ≤ ((1 : Int32)).toNatClampNeg) := inb_of S140 ⟨by decide, by decide⟩
      obtain ⟨T141, h141, X141, e141, W141, st141⟩ := stI X134 hx hZ e134 Ar140 (j := (1 : Int32)) hin140 (g := (mkF m 65 #[.val (.ref aq), .val (.ref av), .val (.ref as_), .val (.int pz), .val (.ref rj), .val (.int (1 : Int32))] [(.int ((Int32.ofNat jj) + (1 : Int32))), (.int (1 : Int32)), (.ref as_)])) rfl rfl (hb hby d7_65)
      have V141 : Arv Z h141 as_ ks .int (2 : Int32) [(.int (Int32.ofNat ii)), (.int ((Int32.ofNat jj) + (1 : Int32)))] (.int (0 : Int32)) := Arv.set Ar140 q140 S140 N140 H140 G140 rfl W141 1 rfl (Nat.le_of_ble_eq_true rfl)
      have N141 := Fr.snoc X141 N128 g_as_
      have Zs141 : n0 ≤ h141.size := Nat.le_trans Zs128 (Keep.of_wr W141).1
      have f142 := p128_0.wr W141
      have f143 := f130.other W141 nvs
      have f144 := f132.wr W141
      have f145 := p128_1.other W141 (Or.inl ne_aq_as_)
      have f146 := p128_2.other W141 (Or.inl ne_aq_as_)
      have f147 := (fun r hr => (f133 r hr).wr W141 : ∀ r ∈ rs, Exa Z h141 r "java/lang/Integer")
      have f148 := own_ch_wr W141 (fun c hc => ne_arr hc (hw _ (List.mem_of_getElem? (i := 35) rfl)) Ar140) p128_3
      have hvs : Arv Z h141 as_ ks .int (2 : Int32) [(.int (Int32.ofNat ii)), (.int (Int32.ofNat (jj + 1)))] (.int (0 : Int32)) := by rw [← own_succ (show jj < 50 by omega)]; exact V141
      obtain ⟨fs, hr, hrun, hended, hW, hsame⟩ := X141.leave (v := some (.int (1 : Int32))) (fun h => by rw [Bd.returns] at h; cases h)
      refine ⟨_, _, pre126 _ ?_, hrun, hended, _, _, rfl, ?_, ⟨_, rfl⟩, hW, hsame.mono (by decide) (by decide)⟩
      · show Steps p.tables e below (s₁.setTop (mkF m 23 #[.val (.ref aq), .val (.ref av), .val (.ref as_), .val (.int pz), .unset, .unset] [])) _
        refine XS.aloadN X0.here hx rfl (hb hby d7_23) rfl rfl ?_
        show Steps p.tables e below (s₁.setTop (mkF m 24 #[.val (.ref aq), .val (.ref av), .val (.ref as_), .val (.int pz), .unset, .unset] [(.ref aq)])) _
        refine st128.trans ?_
        show Steps p.tables e below (T128.setTop (mkF m 27 #[.val (.ref aq), .val (.ref av), .val (.ref as_), .val (.int pz), .unset, .unset] [(.ref rj)])) _
        refine st134 _ ?_
        show Steps p.tables e below (T134.setTop (mkF m 30 #[.val (.ref aq), .val (.ref av), .val (.ref as_), .val (.int pz), .unset, .unset] [(.ref rj)])) _
        refine XS.astore X134.here hx rfl (hb hby d7_30) rfl rfl (l' := #[.val (.ref aq), .val (.ref av), .val (.ref as_), .val (.int pz), .val (.ref rj), .unset]) rfl ?_
        show Steps p.tables e below (T134.setTop (mkF m 32 #[.val (.ref aq), .val (.ref av), .val (.ref as_), .val (.int pz), .val (.ref rj), .unset] [])) _
        refine XS.aloadN X134.here hx rfl (hb hby d7_32) rfl rfl ?_
        show Steps p.tables e below (T134.setTop (mkF m 33 #[.val (.ref aq), .val (.ref av), .val (.ref as_), .val (.int pz), .val (.ref rj), .unset] [(.ref as_)])) _
        refine XS.iconst X134.here hx rfl (hb hby d7_33) ?_
        show Steps p.tables e below (T134.setTop (mkF m 34 #[.val (.ref aq), .val (.ref av), .val (.ref as_), .val (.int pz), .val (.ref rj), .unset] [(.int (1 : Int32)), (.ref as_)])) _
        refine X134.iaload hx (j := (1 : Int32)) (v := (.int (Int32.ofNat jj))) (by rw [e134]; exact Ar135.1) (State.isArrayOf_alike hZ.alike Ar135.2.1) Ar135.2.2 hin135 hat135 (g := (mkF m 34 #[.val (.ref aq), .val (.ref av), .val (.ref as_), .val (.int pz), .val (.ref rj), .unset] [(.int (1 : Int32)), (.ref as_)])) rfl rfl (hb hby d7_34) _ ?_
        show Steps p.tables e below (T134.setTop (mkF m 35 #[.val (.ref aq), .val (.ref av), .val (.ref as_), .val (.int pz), .val (.ref rj), .unset] [(.int (Int32.ofNat jj))])) _
        refine XS.aloadN X134.here hx rfl (hb hby d7_35) rfl rfl ?_
        show Steps p.tables e below (T134.setTop (mkF m 36 #[.val (.ref aq), .val (.ref av), .val (.ref as_), .val (.int pz), .val (.ref rj), .unset] [(.ref as_), (.int (Int32.ofNat jj))])) _
        refine XS.iconst X134.here hx rfl (hb hby d7_36) ?_
        show Steps p.tables e below (T134.setTop (mkF m 37 #[.val (.ref aq), .val (.ref av), .val (.ref as_), .val (.int pz), .val (.ref rj), .unset] [(.int (0 : Int32)), (.ref as_), (.int (Int32.ofNat jj))])) _
        refine X134.iaload hx (j := (0 : Int32)) (v := (.int (Int32.ofNat ii))) (by rw [e134]; exact Ar136.1) (State.isArrayOf_alike hZ.alike Ar136.2.1) Ar136.2.2 hin136 hat136 (g := (mkF m 37 #[.val (.ref aq), .val (.ref av), .val (.ref as_), .val (.int pz), .val (.ref rj), .unset] [(.int (0 : Int32)), (.ref as_), (.int (Int32.ofNat jj))])) rfl rfl (hb hby d7_37) _ ?_
        show Steps p.tables e below (T134.setTop (mkF m 38 #[.val (.ref aq), .val (.ref av), .val (.ref as_), .val (.int pz), .val (.ref rj), .unset] [(.int (Int32.ofNat ii)), (.int (Int32.ofNat jj))])) _
        refine XS.icmpNo X134.here hx rfl (hb hby d7_38) rfl (tlt ((own_natlt (by omega) (by omega)).mpr hj127 : ((Int32.ofNat jj) < (Int32.ofNat ii)))).2.1 ?_
        show Steps p.tables e below (T134.setTop (mkF m 41 #[.val (.ref aq), .val (.ref av), .val (.ref as_), .val (.int pz), .val (.ref rj), .unset] [])) _
        refine XS.aload X134.here hx rfl (hb hby d7_41) rfl rfl ?_
        show Steps p.tables e below (T134.setTop (mkF m 43 #[.val (.ref aq), .val (.ref av), .val (.ref as_), .val (.int pz), .val (.ref rj), .unset] [(.ref rj)])) _
        refine XS.aloadN X134.here hx rfl (hb hby d7_43) rfl rfl ?_
        show Steps p.tables e below (T134.setTop (mkF m 44 #[.val (.ref aq), .val (.ref av), .val (.ref as_), .val (.int pz), .val (.ref rj), .unset] [(.ref av), (.ref rj)])) _
        refine XS.aloadN X134.here hx rfl (hb hby d7_44) rfl rfl ?_
        show Steps p.tables e below (T134.setTop (mkF m 45 #[.val (.ref aq), .val (.ref av), .val (.ref as_), .val (.int pz), .val (.ref rj), .unset] [(.ref as_), (.ref av), (.ref rj)])) _
        refine XS.iconst X134.here hx rfl (hb hby d7_45) ?_
        show Steps p.tables e below (T134.setTop (mkF m 46 #[.val (.ref aq), .val (.ref av), .val (.ref as_), .val (.int pz), .val (.ref rj), .unset] [(.int (1 : Int32)), (.ref as_), (.ref av), (.ref rj)])) _
        refine X134.iaload hx (j := (1 : Int32)) (v := (.int (Int32.ofNat jj))) (by rw [e134]; exact Ar137.1) (State.isArrayOf_alike hZ.alike Ar137.2.1) Ar137.2.2 hin137 hat137 (g := (mkF m 46 #[.val (.ref aq), .val (.ref av), .val (.ref as_), .val (.int pz), .val (.ref rj), .unset] [(.int (1 : Int32)), (.ref as_), (.ref av), (.ref rj)])) rfl rfl (hb hby d7_46) _ ?_
        show Steps p.tables e below (T134.setTop (mkF m 47 #[.val (.ref aq), .val (.ref av), .val (.ref as_), .val (.int pz), .val (.ref rj), .unset] [(.int (Int32.ofNat jj)), (.ref av), (.ref rj)])) _
        refine X134.aaload hx (j := (Int32.ofNat jj)) (v := (.ref rj)) (by rw [e134]; exact Ar138.1) (State.isArrayOf_alike hZ.alike Ar138.2.1) rfl Ar138.2.2 hin138 hat138 (g := (mkF m 47 #[.val (.ref aq), .val (.ref av), .val (.ref as_), .val (.int pz), .val (.ref rj), .unset] [(.int (Int32.ofNat jj)), (.ref av), (.ref rj)])) rfl rfl (hb hby d7_47) _ ?_
        show Steps p.tables e below (T134.setTop (mkF m 48 #[.val (.ref aq), .val (.ref av), .val (.ref as_), .val (.int pz), .val (.ref rj), .unset] [(.ref rj), (.ref rj)])) _
        refine Jvm.RoadKit.acmp (g := (mkF m 48 #[.val (.ref aq), .val (.ref av), .val (.ref as_), .val (.int pz), .val (.ref rj), .unset] [(.ref rj), (.ref rj)])) X134 hx rfl rfl rfl (pc0 := 48) (pc' := 51) (same := true) rfl (hb hby d7_48) rfl (decide_eq_true rfl) (by decide) (by decide) ?_
        show Steps p.tables e below (T134.setTop (mkF m 51 #[.val (.ref aq), .val (.ref av), .val (.ref as_), .val (.int pz), .val (.ref rj), .unset] [])) _
        refine XS.iconst X134.here hx rfl (hb hby d7_51) ?_
        show Steps p.tables e below (T134.setTop (mkF m 52 #[.val (.ref aq), .val (.ref av), .val (.ref as_), .val (.int pz), .val (.ref rj), .unset] [(.int (1 : Int32))])) _
        refine XS.goto X134.here hx rfl (pc0 := 52) (pc' := 56) rfl (hb hby d7_52) (by decide) (by decide) ?_
        show Steps p.tables e below (T134.setTop (mkF m 56 #[.val (.ref aq), .val (.ref av), .val (.ref as_), .val (.int pz), .val (.ref rj), .unset] [(.int (1 : Int32))])) _
        refine XS.istore X134.here hx rfl (hb hby d7_56) rfl (l' := #[.val (.ref aq), .val (.ref av), .val (.ref as_), .val (.int pz), .val (.ref rj), .val (.int (1 : Int32))]) rfl ?_
        show Steps p.tables e below (T134.setTop (mkF m 58 #[.val (.ref aq), .val (.ref av), .val (.ref as_), .val (.int pz), .val (.ref rj), .val (.int (1 : Int32))] [])) _
        refine XS.aloadN X134.here hx rfl (hb hby d7_58) rfl rfl ?_
        show Steps p.tables e below (T134.setTop (mkF m 59 #[.val (.ref aq), .val (.ref av), .val (.ref as_), .val (.int pz), .val (.ref rj), .val (.int (1 : Int32))] [(.ref as_)])) _
        refine XS.iconst X134.here hx rfl (hb hby d7_59) ?_
        show Steps p.tables e below (T134.setTop (mkF m 60 #[.val (.ref aq), .val (.ref av), .val (.ref as_), .val (.int pz), .val (.ref rj), .val (.int (1 : Int32))] [(.int (1 : Int32)), (.ref as_)])) _
        refine XS.aloadN X134.here hx rfl (hb hby d7_60) rfl rfl ?_
        show Steps p.tables e below (T134.setTop (mkF m 61 #[.val (.ref aq), .val (.ref av), .val (.ref as_), .val (.int pz), .val (.ref rj), .val (.int (1 : Int32))] [(.ref as_), (.int (1 : Int32)), (.ref as_)])) _
        refine XS.iconst X134.here hx rfl (hb hby d7_61) ?_
        show Steps p.tables e below (T134.setTop (mkF m 62 #[.val (.ref aq), .val (.ref av), .val (.ref as_), .val (.int pz), .val (.ref rj), .val (.int (1 : Int32))] [(.int (1 : Int32)), (.ref as_), (.int (1 : Int32)), (.ref as_)])) _
        refine X134.iaload hx (j := (1 : Int32)) (v := (.int (Int32.ofNat jj))) (by rw [e134]; exact Ar139.1) (State.isArrayOf_alike hZ.alike Ar139.2.1) Ar139.2.2 hin139 hat139 (g := (mkF m 62 #[.val (.ref aq), .val (.ref av), .val (.ref as_), .val (.int pz), .val (.ref rj), .val (.int (1 : Int32))] [(.int (1 : Int32)), (.ref as_), (.int (1 : Int32)), (.ref as_)])) rfl rfl (hb hby d7_62) _ ?_
        show Steps p.tables e below (T134.setTop (mkF m 63 #[.val (.ref aq), .val (.ref av), .val (.ref as_), .val (.int pz), .val (.ref rj), .val (.int (1 : Int32))] [(.int (Int32.ofNat jj)), (.int (1 : Int32)), (.ref as_)])) _
        refine XS.iconst X134.here hx rfl (hb hby d7_63) ?_
        show Steps p.tables e below (T134.setTop (mkF m 64 #[.val (.ref aq), .val (.ref av), .val (.ref as_), .val (.int pz), .val (.ref rj), .val (.int (1 : Int32))] [(.int (1 : Int32)), (.int (Int32.ofNat jj)), (.int (1 : Int32)), (.ref as_)])) _
        refine XS.iadd X134.here hx rfl (hb hby d7_64) rfl ?_
        show Steps p.tables e below (T134.setTop (mkF m 65 #[.val (.ref aq), .val (.ref av), .val (.ref as_), .val (.int pz), .val (.ref rj), .val (.int (1 : Int32))] [(.int ((Int32.ofNat jj) + (1 : Int32))), (.int (1 : Int32)), (.ref as_)])) _
        refine st141 _ ?_
        show Steps p.tables e below (T141.setTop (mkF m 66 #[.val (.ref aq), .val (.ref av), .val (.ref as_), .val (.int pz), .val (.ref rj), .val (.int (1 : Int32))] [])) _
        refine XS.iload X141.here hx rfl (hb hby d7_66) rfl ?_
        show Steps p.tables e below (T141.setTop (mkF m 68 #[.val (.ref aq), .val (.ref av), .val (.ref as_), .val (.int pz), .val (.ref rj), .val (.int (1 : Int32))] [(.int (1 : Int32))])) _
        exact retN X141 hx (t := .boolean) Bd.returns (by simp) (hb hby d7_68) hr
      · show Q7 Z aq av as_ pz kv ks ii jj ah at_ rs h0 n0 _ T141.heap _
        rw [e141]
        exact ⟨ii, (jj + 1), ab, at_, rfl, N141, Zs141, f142, f145, f146, f148, f143, hvs, f147, ⟨by omega, by omega⟩⟩
    · have Ch' := Ch
      rw [own_none (show ii ≤ jj by omega)] at Ch'
      obtain ⟨eht, -, -, -, Fn⟩ := Ch'
      obtain ⟨cq149, kq149, q149a, q149b, q149c⟩ := isOf hZ e0 Ea
      obtain ⟨_, _, ⟨T149, L149, k149, n149⟩, -, X149, ⟨Lc149, hQ149, l149, y149, z149⟩, st149⟩ := X0.virtualBack hx (y := (⟨"com/example/tresse/tresse/queue/LinkedQueue", "dequeue", "()Ljava/lang/Object;"⟩ : MethodName)) (z := (⟨"com/example/tresse/tresse/queue/LinkedQueue", "dequeue", "()Ljava/lang/Object;"⟩ : MethodName)) hown (mvT hZ (hw _ (List.mem_of_getElem? (i := 51) rfl))) (mvT hZ (hw _ (List.mem_of_getElem? (i := 52) rfl))) (notFace_of_selects (args := #[]) (mvT hZ (hw _ (List.mem_of_getElem? (i := 54) rfl)))) (mvT hZ (hw _ (List.mem_of_getElem? (i := 54) rfl))) (mvT hZ (hw _ (List.mem_of_getElem? (i := 53) rfl))) (by decide) (backOf (W := 0) (rm8e l Z a0 hw [] aq ah h0 n0 Z0 Fh Fn) hZ (hw _ (List.mem_of_getElem? (i := 55) rfl)) (hw _ (List.mem_of_getElem? (i := 29) rfl)) (by decide) (by decide)) q149a q149c (g := (mkF m 24 #[.val (.ref aq), .val (.ref av), .val (.ref as_), .val (.int pz), .unset, .unset] [(.ref aq)])) rfl (by rw [hml]; rfl) (Steps.refl _) (argsL := []) (rest := []) (lenOf own_pd95 rfl) rfl (by show 2 * 0 + _ ≤ _; exact Nat.le_of_eq rfl) (hb hby d7_24) (fun _ _ => ⟨rfl, e0, (by decide : 0 + 0 ≤ _), (by decide : 0 + 0 ≤ _)⟩)
      dsimp only [Pt.U, Pt.locs, Pt.cells, Pt.slots] at X149 l149 y149 z149 st149 hQ149
      rw [l149, y149, z149] at X149
      clear l149 y149 z149
      obtain ⟨rfl, Nq149, e149⟩ := hQ149
      have N149 := Fr.app N0 Nq149
      obtain ⟨cl150, Ar150, -, S150, -, H150, -⟩ := id Vs
      have hin150 : ¬ ((1 : Int32) < 0 ∨ cl150.slots.size ≤ ((1 : Int32)).toNatClampNeg) := inb_of S150 ⟨by decide, by decide⟩
      have hat150 : cl150.slots[((1 : Int32)).toNatClampNeg]? = some (.int (Int32.ofNat jj)) := H150.at hin150 rfl
      obtain ⟨cl151, Ar151, -, S151, -, H151, -⟩ := id Vs
      have hin151 : ¬ ((0 : Int32) < 0 ∨ cl151.slots.size ≤ ((0 : Int32)).toNatClampNeg) := inb_of S151 ⟨by decide, by decide⟩
      have hat151 : cl151.slots[((0 : Int32)).toNatClampNeg]? = some (.int (Int32.ofNat ii)) := H151.at hin151 rfl
      obtain ⟨fs, hr, hrun, hended, hW, hsame⟩ := X149.leave (v := some (.int (1 : Int32))) (fun h => by rw [Bd.returns] at h; cases h)
      refine ⟨_, _, pre126 _ ?_, hrun, hended, _, _, rfl, ?_, ⟨_, rfl⟩, hW, hsame.mono (by decide) (by decide)⟩
      · show Steps p.tables e below (s₁.setTop (mkF m 23 #[.val (.ref aq), .val (.ref av), .val (.ref as_), .val (.int pz), .unset, .unset] [])) _
        refine XS.aloadN X0.here hx rfl (hb hby d7_23) rfl rfl ?_
        show Steps p.tables e below (s₁.setTop (mkF m 24 #[.val (.ref aq), .val (.ref av), .val (.ref as_), .val (.int pz), .unset, .unset] [(.ref aq)])) _
        refine st149.trans ?_
        show Steps p.tables e below (T149.setTop (mkF m 27 #[.val (.ref aq), .val (.ref av), .val (.ref as_), .val (.int pz), .unset, .unset] [.null])) _
        refine X149.checkcastNull hx (g := (mkF m 27 #[.val (.ref aq), .val (.ref av), .val (.ref as_), .val (.int pz), .unset, .unset] [.null])) rfl rfl (hb hby d7_27) _ ?_
        show Steps p.tables e below (T149.setTop (mkF m 30 #[.val (.ref aq), .val (.ref av), .val (.ref as_), .val (.int pz), .unset, .unset] [.null])) _
        refine XS.astore X149.here hx rfl (hb hby d7_30) rfl rfl (l' := #[.val (.ref aq), .val (.ref av), .val (.ref as_), .val (.int pz), .val .null, .unset]) rfl ?_
        show Steps p.tables e below (T149.setTop (mkF m 32 #[.val (.ref aq), .val (.ref av), .val (.ref as_), .val (.int pz), .val .null, .unset] [])) _
        refine XS.aloadN X149.here hx rfl (hb hby d7_32) rfl rfl ?_
        show Steps p.tables e below (T149.setTop (mkF m 33 #[.val (.ref aq), .val (.ref av), .val (.ref as_), .val (.int pz), .val .null, .unset] [(.ref as_)])) _
        refine XS.iconst X149.here hx rfl (hb hby d7_33) ?_
        show Steps p.tables e below (T149.setTop (mkF m 34 #[.val (.ref aq), .val (.ref av), .val (.ref as_), .val (.int pz), .val .null, .unset] [(.int (1 : Int32)), (.ref as_)])) _
        refine X149.iaload hx (j := (1 : Int32)) (v := (.int (Int32.ofNat jj))) (by rw [e149]; exact Ar150.1) (State.isArrayOf_alike hZ.alike Ar150.2.1) Ar150.2.2 hin150 hat150 (g := (mkF m 34 #[.val (.ref aq), .val (.ref av), .val (.ref as_), .val (.int pz), .val .null, .unset] [(.int (1 : Int32)), (.ref as_)])) rfl rfl (hb hby d7_34) _ ?_
        show Steps p.tables e below (T149.setTop (mkF m 35 #[.val (.ref aq), .val (.ref av), .val (.ref as_), .val (.int pz), .val .null, .unset] [(.int (Int32.ofNat jj))])) _
        refine XS.aloadN X149.here hx rfl (hb hby d7_35) rfl rfl ?_
        show Steps p.tables e below (T149.setTop (mkF m 36 #[.val (.ref aq), .val (.ref av), .val (.ref as_), .val (.int pz), .val .null, .unset] [(.ref as_), (.int (Int32.ofNat jj))])) _
        refine XS.iconst X149.here hx rfl (hb hby d7_36) ?_
        show Steps p.tables e below (T149.setTop (mkF m 37 #[.val (.ref aq), .val (.ref av), .val (.ref as_), .val (.int pz), .val .null, .unset] [(.int (0 : Int32)), (.ref as_), (.int (Int32.ofNat jj))])) _
        refine X149.iaload hx (j := (0 : Int32)) (v := (.int (Int32.ofNat ii))) (by rw [e149]; exact Ar151.1) (State.isArrayOf_alike hZ.alike Ar151.2.1) Ar151.2.2 hin151 hat151 (g := (mkF m 37 #[.val (.ref aq), .val (.ref av), .val (.ref as_), .val (.int pz), .val .null, .unset] [(.int (0 : Int32)), (.ref as_), (.int (Int32.ofNat jj))])) rfl rfl (hb hby d7_37) _ ?_
        show Steps p.tables e below (T149.setTop (mkF m 38 #[.val (.ref aq), .val (.ref av), .val (.ref as_), .val (.int pz), .val .null, .unset] [(.int (Int32.ofNat ii)), (.int (Int32.ofNat jj))])) _
        refine XS.icmpYes X149.here hx rfl (pc0 := 38) (pc' := 69) rfl (hb hby d7_38) rfl (flt (fun q => hj127 ((own_natlt (by omega) (by omega)).mp q) : ¬ ((Int32.ofNat jj) < (Int32.ofNat ii)))).2.1 (by decide) (by decide) ?_
        show Steps p.tables e below (T149.setTop (mkF m 69 #[.val (.ref aq), .val (.ref av), .val (.ref as_), .val (.int pz), .val .null, .unset] [])) _
        refine XS.aload X149.here hx rfl (hb hby d7_69) rfl rfl ?_
        show Steps p.tables e below (T149.setTop (mkF m 71 #[.val (.ref aq), .val (.ref av), .val (.ref as_), .val (.int pz), .val .null, .unset] [.null])) _
        refine XS.ifnonnullNo X149.here hx rfl (hb hby d7_71) rfl ?_
        show Steps p.tables e below (T149.setTop (mkF m 74 #[.val (.ref aq), .val (.ref av), .val (.ref as_), .val (.int pz), .val .null, .unset] [])) _
        refine XS.iconst X149.here hx rfl (hb hby d7_74) ?_
        show Steps p.tables e below (T149.setTop (mkF m 75 #[.val (.ref aq), .val (.ref av), .val (.ref as_), .val (.int pz), .val .null, .unset] [(.int (1 : Int32))])) _
        refine XS.goto X149.here hx rfl (pc0 := 75) (pc' := 79) rfl (hb hby d7_75) (by decide) (by decide) ?_
        show Steps p.tables e below (T149.setTop (mkF m 79 #[.val (.ref aq), .val (.ref av), .val (.ref as_), .val (.int pz), .val .null, .unset] [(.int (1 : Int32))])) _
        exact retN X149 hx (t := .boolean) Bd.returns (by simp) (hb hby d7_79) hr
      · show Q7 Z aq av as_ pz kv ks ii jj ah at_ rs h0 n0 _ T149.heap _
        rw [e149]
        exact ⟨ii, jj, ah, at_, rfl, N149, Z0, Ea, Fh, Ft, Ch, Vv, Vs, Er, ⟨by omega, by omega⟩⟩
  · obtain ⟨ri, hri⟩ := own_some hrs hi8
    obtain ⟨g_at_, Et, -⟩ := own_ch_tail Ch
    obtain ⟨clv, Arv0, -⟩ := id Vv
    obtain ⟨cls_, Ars0, -⟩ := id Vs
    have ne_aq_av : aq ≠ av := ne_arr Ea (hw _ (List.mem_of_getElem? (i := 28) rfl)) Arv0
    have ne_aq_as_ : aq ≠ as_ := ne_arr Ea (hw _ (List.mem_of_getElem? (i := 28) rfl)) Ars0
    have ne_at__av : at_ ≠ av := ne_arr Et (hw _ (List.mem_of_getElem? (i := 35) rfl)) Arv0
    have ne_at__as_ : at_ ≠ as_ := ne_arr Et (hw _ (List.mem_of_getElem? (i := 35) rfl)) Ars0
    obtain ⟨cl152, Ar152, -, S152, -, H152, -⟩ := id Vs
    have hin152 : ¬ ((0 : Int32) < 0 ∨ cl152.slots.size ≤ ((0 : Int32)).toNatClampNeg) := inb_of S152 ⟨by decide, by decide⟩
    have hat152 : cl152.slots[((0 : Int32)).toNatClampNeg]? = some (.int (Int32.ofNat ii)) := H152.at hin152 rfl
    obtain ⟨cl153, Ar153, -, S153, -, H153, -⟩ := id Vv
    have hin153 : ¬ ((Int32.ofNat ii) < 0 ∨ cl153.slots.size ≤ ((Int32.ofNat ii)).toNatClampNeg) := inb_of S153 ⟨own_nat0 (by omega), (own_natlt (by omega) (by decide : 8 < 100)).mpr hi8⟩
    have hat153 : cl153.slots[((Int32.ofNat ii)).toNatClampNeg]? = some (.ref ri) := H153.at hin153 (by rw [(own_clamp (show ii < 100 by omega))]; exact own_getD hri)
    obtain ⟨cq154, kq154, q154a, q154b, q154c⟩ := isOf hZ e0 Ea
    obtain ⟨_, _, ⟨T154, L154, k154, n154⟩, -, X154, ⟨Lc154, hQ154, l154, y154, z154⟩, st154⟩ := X0.virtualBack hx (y := (⟨"com/example/tresse/tresse/queue/LinkedQueue", "enqueue", "(Ljava/lang/Object;)V"⟩ : MethodName)) (z := (⟨"com/example/tresse/tresse/queue/LinkedQueue", "enqueue", "(Ljava/lang/Object;)V"⟩ : MethodName)) hown (mvT hZ (hw _ (List.mem_of_getElem? (i := 58) rfl))) (mvT hZ (hw _ (List.mem_of_getElem? (i := 59) rfl))) (notFace_of_selects (args := #[]) (mvT hZ (hw _ (List.mem_of_getElem? (i := 61) rfl)))) (mvT hZ (hw _ (List.mem_of_getElem? (i := 61) rfl))) (mvT hZ (hw _ (List.mem_of_getElem? (i := 60) rfl))) (by decide) (backOf (W := 0) (rm9 l Z a0 hw [] aq ri ah at_ ((rs.drop jj).take (ii - jj)) h0 n0 Z0 Fh Ft Ea g_aq Ch) hZ (hw _ (List.mem_of_getElem? (i := 62) rfl)) (hw _ (List.mem_of_getElem? (i := 29) rfl)) (by decide) (by decide)) q154a q154c (g := (mkF m 10 #[.val (.ref aq), .val (.ref av), .val (.ref as_), .val (.int pz), .unset, .unset] [(.ref ri), (.ref aq)])) rfl (by rw [hml]; rfl) (Steps.refl _) (argsL := [(.ref ri)]) (rest := []) (lenOf own_pd44 rfl) rfl (by show 2 * 0 + _ ≤ _; exact Nat.le_of_eq rfl) (hb hby d7_10) (fun _ _ => ⟨rfl, e0, (by decide : 0 + 1 ≤ _), (by decide : 0 + 2 ≤ _)⟩)
    dsimp only [Pt.U, Pt.locs, Pt.cells, Pt.slots] at X154 l154 y154 z154 st154 hQ154
    rw [l154, y154, z154] at X154
    clear l154 y154 z154
    obtain ⟨rnb_154, rfl, Nq154, K154, p154_0, p154_1, p154_2, p154_3⟩ := hQ154
    have N154 := Fr.app N0 Nq154
    have Zs154 : n0 ≤ T154.heap.size := Nat.le_trans Z0 K154.1
    have f155 := Ea.keep K154
    have f156 := Vv.keep K154 (ninS (Ne.symm ne_aq_av) (ninS (Ne.symm ne_at__av) nin0))
    have f157 := Vs.keep K154 (ninS (Ne.symm ne_aq_as_) (ninS (Ne.symm ne_at__as_) nin0))
    have f158 := (fun r hr => (Er r hr).keep K154 : ∀ r ∈ rs, Exa Z T154.heap r "java/lang/Integer")
    obtain ⟨cl159, Ar159, -, S159, -, H159, -⟩ := id f157
    have hin159 : ¬ ((0 : Int32) < 0 ∨ cl159.slots.size ≤ ((0 : Int32)).toNatClampNeg) := inb_of S159 ⟨by decide, by decide⟩
    have hat159 : cl159.slots[((0 : Int32)).toNatClampNeg]? = some (.int (Int32.ofNat ii)) := H159.at hin159 rfl
    obtain ⟨cl160, Ar160, q160, S160, N160, H160, G160⟩ := id f157
    have hin160 : ¬ ((0 : Int32) < 0 ∨ cl160.slots.size ≤ ((0 : Int32)).toNatClampNeg) := inb_of S160 ⟨by decide, by decide⟩
    obtain ⟨T161, h161, X161, e161, W161, st161⟩ := stI X154 hx hZ rfl Ar160 (j := (0 : Int32)) hin160 (g := (mkF m 20 #[.val (.ref aq), .val (.ref av), .val (.ref as_), .val (.int pz), .unset, .unset] [(.int ((Int32.ofNat ii) + (1 : Int32))), (.int (0 : Int32)), (.ref as_)])) rfl rfl (hb hby d7_20)
    have V161 : Arv Z h161 as_ ks .int (2 : Int32) [(.int ((Int32.ofNat ii) + (1 : Int32))), (.int (Int32.ofNat jj))] (.int (0 : Int32)) := Arv.set Ar160 q160 S160 N160 H160 G160 rfl W161 0 rfl (Nat.le_of_ble_eq_true rfl)
    have N161 := Fr.snoc X161 N154 g_as_
    have Zs161 : n0 ≤ h161.size := Nat.le_trans Zs154 (Keep.of_wr W161).1
    have f162 := p154_0.wr W161
    have f163 := f156.other W161 nvs
    have f164 := p154_1.other W161 (Or.inl ne_aq_as_)
    have f165 := p154_2.other W161 (Or.inl ne_aq_as_)
    have f166 := (fun r hr => (f158 r hr).wr W161 : ∀ r ∈ rs, Exa Z h161 r "java/lang/Integer")
    have f167 := own_ch_wr W161 (fun c hc => ne_arr hc (hw _ (List.mem_of_getElem? (i := 35) rfl)) Ar160) p154_3
    have hch : own_ch Z h161 n0 ah ((rs.drop jj).take ((ii + 1) - jj)) rnb_154 := by rw [← own_drop hji hri]; exact f167
    have hvs : Arv Z h161 as_ ks .int (2 : Int32) [(.int (Int32.ofNat (ii + 1))), (.int (Int32.ofNat jj))] (.int (0 : Int32)) := by rw [← own_succ (show ii < 50 by omega)]; exact V161
    obtain ⟨fs, hr, hrun, hended, hW, hsame⟩ := X161.leave (v := some (.int (1 : Int32))) (fun h => by rw [Bd.returns] at h; cases h)
    refine ⟨_, _, pre125 _ ?_, hrun, hended, _, _, rfl, ?_, ⟨_, rfl⟩, hW, hsame.mono (by decide) (by decide)⟩
    · show Steps p.tables e below (s₁.setTop (mkF m 1 #[.val (.ref aq), .val (.ref av), .val (.ref as_), .val (.int pz), .unset, .unset] [(.int pz)])) _
      refine XS.ifNo X0.here hx rfl (hb hby d7_1) rfl ((if0 _ _).trans (feq hc1).1) ?_
      show Steps p.tables e below (s₁.setTop (mkF m 4 #[.val (.ref aq), .val (.ref av), .val (.ref as_), .val (.int pz), .unset, .unset] [])) _
      refine XS.aloadN X0.here hx rfl (hb hby d7_4) rfl rfl ?_
      show Steps p.tables e below (s₁.setTop (mkF m 5 #[.val (.ref aq), .val (.ref av), .val (.ref as_), .val (.int pz), .unset, .unset] [(.ref aq)])) _
      refine XS.aloadN X0.here hx rfl (hb hby d7_5) rfl rfl ?_
      show Steps p.tables e below (s₁.setTop (mkF m 6 #[.val (.ref aq), .val (.ref av), .val (.ref as_), .val (.int pz), .unset, .unset] [(.ref av), (.ref aq)])) _
      refine XS.aloadN X0.here hx rfl (hb hby d7_6) rfl rfl ?_
      show Steps p.tables e below (s₁.setTop (mkF m 7 #[.val (.ref aq), .val (.ref av), .val (.ref as_), .val (.int pz), .unset, .unset] [(.ref as_), (.ref av), (.ref aq)])) _
      refine XS.iconst X0.here hx rfl (hb hby d7_7) ?_
      show Steps p.tables e below (s₁.setTop (mkF m 8 #[.val (.ref aq), .val (.ref av), .val (.ref as_), .val (.int pz), .unset, .unset] [(.int (0 : Int32)), (.ref as_), (.ref av), (.ref aq)])) _
      refine X0.iaload hx (j := (0 : Int32)) (v := (.int (Int32.ofNat ii))) (by rw [e0]; exact Ar152.1) (State.isArrayOf_alike hZ.alike Ar152.2.1) Ar152.2.2 hin152 hat152 (g := (mkF m 8 #[.val (.ref aq), .val (.ref av), .val (.ref as_), .val (.int pz), .unset, .unset] [(.int (0 : Int32)), (.ref as_), (.ref av), (.ref aq)])) rfl rfl (hb hby d7_8) _ ?_
      show Steps p.tables e below (s₁.setTop (mkF m 9 #[.val (.ref aq), .val (.ref av), .val (.ref as_), .val (.int pz), .unset, .unset] [(.int (Int32.ofNat ii)), (.ref av), (.ref aq)])) _
      refine X0.aaload hx (j := (Int32.ofNat ii)) (v := (.ref ri)) (by rw [e0]; exact Ar153.1) (State.isArrayOf_alike hZ.alike Ar153.2.1) rfl Ar153.2.2 hin153 hat153 (g := (mkF m 9 #[.val (.ref aq), .val (.ref av), .val (.ref as_), .val (.int pz), .unset, .unset] [(.int (Int32.ofNat ii)), (.ref av), (.ref aq)])) rfl rfl (hb hby d7_9) _ ?_
      show Steps p.tables e below (s₁.setTop (mkF m 10 #[.val (.ref aq), .val (.ref av), .val (.ref as_), .val (.int pz), .unset, .unset] [(.ref ri), (.ref aq)])) _
      refine st154.trans ?_
      show Steps p.tables e below (T154.setTop (mkF m 13 #[.val (.ref aq), .val (.ref av), .val (.ref as_), .val (.int pz), .unset, .unset] [])) _
      refine XS.aloadN X154.here hx rfl (hb hby d7_13) rfl rfl ?_
      show Steps p.tables e below (T154.setTop (mkF m 14 #[.val (.ref aq), .val (.ref av), .val (.ref as_), .val (.int pz), .unset, .unset] [(.ref as_)])) _
      refine XS.iconst X154.here hx rfl (hb hby d7_14) ?_
      show Steps p.tables e below (T154.setTop (mkF m 15 #[.val (.ref aq), .val (.ref av), .val (.ref as_), .val (.int pz), .unset, .unset] [(.int (0 : Int32)), (.ref as_)])) _
      refine XS.aloadN X154.here hx rfl (hb hby d7_15) rfl rfl ?_
      show Steps p.tables e below (T154.setTop (mkF m 16 #[.val (.ref aq), .val (.ref av), .val (.ref as_), .val (.int pz), .unset, .unset] [(.ref as_), (.int (0 : Int32)), (.ref as_)])) _
      refine XS.iconst X154.here hx rfl (hb hby d7_16) ?_
      show Steps p.tables e below (T154.setTop (mkF m 17 #[.val (.ref aq), .val (.ref av), .val (.ref as_), .val (.int pz), .unset, .unset] [(.int (0 : Int32)), (.ref as_), (.int (0 : Int32)), (.ref as_)])) _
      refine X154.iaload hx (j := (0 : Int32)) (v := (.int (Int32.ofNat ii))) Ar159.1 (State.isArrayOf_alike hZ.alike Ar159.2.1) Ar159.2.2 hin159 hat159 (g := (mkF m 17 #[.val (.ref aq), .val (.ref av), .val (.ref as_), .val (.int pz), .unset, .unset] [(.int (0 : Int32)), (.ref as_), (.int (0 : Int32)), (.ref as_)])) rfl rfl (hb hby d7_17) _ ?_
      show Steps p.tables e below (T154.setTop (mkF m 18 #[.val (.ref aq), .val (.ref av), .val (.ref as_), .val (.int pz), .unset, .unset] [(.int (Int32.ofNat ii)), (.int (0 : Int32)), (.ref as_)])) _
      refine XS.iconst X154.here hx rfl (hb hby d7_18) ?_
      show Steps p.tables e below (T154.setTop (mkF m 19 #[.val (.ref aq), .val (.ref av), .val (.ref as_), .val (.int pz), .unset, .unset] [(.int (1 : Int32)), (.int (Int32.ofNat ii)), (.int (0 : Int32)), (.ref as_)])) _
      refine XS.iadd X154.here hx rfl (hb hby d7_19) rfl ?_
      show Steps p.tables e below (T154.setTop (mkF m 20 #[.val (.ref aq), .val (.ref av), .val (.ref as_), .val (.int pz), .unset, .unset] [(.int ((Int32.ofNat ii) + (1 : Int32))), (.int (0 : Int32)), (.ref as_)])) _
      refine st161 _ ?_
      show Steps p.tables e below (T161.setTop (mkF m 21 #[.val (.ref aq), .val (.ref av), .val (.ref as_), .val (.int pz), .unset, .unset] [])) _
      refine XS.iconst X161.here hx rfl (hb hby d7_21) ?_
      show Steps p.tables e below (T161.setTop (mkF m 22 #[.val (.ref aq), .val (.ref av), .val (.ref as_), .val (.int pz), .unset, .unset] [(.int (1 : Int32))])) _
      exact retN X161 hx (t := .boolean) Bd.returns (by simp) (hb hby d7_22) hr
    · show Q7 Z aq av as_ pz kv ks ii jj ah at_ rs h0 n0 _ T161.heap _
      rw [e161]
      exact ⟨(ii + 1), jj, ah, rnb_154, rfl, N161, Zs161, f162, f164, f165, hch, f163, hvs, f166, ⟨by omega, by omega⟩⟩
theorem own_pd148 : parseMethodDescriptor "(I)Ljava/lang/Integer;" = some ⟨[.int], some (.object "java/lang/Integer")⟩ := by decide +kernel
theorem own_pd149 : parseMethodDescriptor "(Lcom/example/tresse/tresse/queue/LinkedQueue;[Ljava/lang/Integer;[IZ)Z" = some ⟨[(.object "com/example/tresse/tresse/queue/LinkedQueue"), (.array (.object "java/lang/Integer")), (.array .int), .boolean], some .boolean⟩ := by decide +kernel
theorem ef_0 (m : MethodId) (x0 : Int32) (x1 : Int64) (x2 : Int64) (x3 : Int64) (x4 : Int64) : entryFrame m #[(.int x0), (.long x1), (.long x2), (.long x3), (.long x4)] maxLocals = mkF m 0 #[.val (.int x0), .val (.long x1), .second, .val (.long x2), .second, .val (.long x3), .second, .val (.long x4), .second, .unset, .unset, .unset, .unset] [] := by first | (simp [entryFrame, mkF, argsToLocals, Value.category, maxLocals]; done) | rfl
def Q0 (Z : State) (po : Int32) (qa : Int64) (qb : Int64) (qc : Int64) (qd : Int64) (ac : Addr) (clc : Cell) (h0 : Heap) (n0 : Nat) (v : Option Value) (h : Heap) (L : List Loc) : Prop := v = some (.int (1 : Int32)) ∧ Fr n0 L
set_option maxRecDepth 65536 in
set_option maxHeartbeats 40000000 in
theorem rm0 (l : Launch) (Z : State) (a0 : Array Value) (hw : ∀ d ∈ tables_1, d.before a0 Z = true) (ws : List Jvm.Cond) (po : Int32) (qa : Int64) (qb : Int64) (qc : Int64) (qd : Int64) (ac : Addr) (clc : Cell) (h0 : Heap) (n0 : Nat) (Z0 : n0 ≤ h0.size) (O0 : Old Z n0 h0) (Shi : Sta Z Z.heap "java/lang/Integer$IntegerCache" "high" "I" (.int (127 : Int32))) (Sca : Sta Z Z.heap "java/lang/Integer$IntegerCache" "cache" "[Ljava/lang/Integer;" (.ref ac)) (Ac : Arr Z Z.heap ac clc (.object "java/lang/Integer")) (hsz : clc.slots.size = 256) (hel : ∀ k : Nat, k < 256 → ∃ r, clc.slots[k]? = some (.ref r) ∧ Exa Z Z.heap r "java/lang/Integer") :
    MetFree l x (head1 (Jvm.Cond.code x code maxLocals ret :: ws) room_1) (fun a U => a = #[(.int po), (.long qa), (.long qb), (.long qc), (.long qd)] ∧ Z.Warmed39 U.vm ∧ U.heap = h0) (fun _ _ _ _ _ => True) (fun _ U o U' => ∃ v L, o = .returned v ∧ Q0 Z po qa qb qc qd ac clc h0 n0 v U'.heap L ∧ FrameEnd U o U' L room_1.cells room_1.slots) := by
  refine MetFree.of_bodySF (plainFor_of_name own_pn147) hisR ?_
  intro p e s m args below meth c s₁ Bd hml0 hP hK
  obtain ⟨rfl, hZ, hh⟩ := hP
  have hx := Bd.exec
  have hby := Bd.bytes
  have hml : c.maxLocals = 13 := hml0
  have hown : s.vm.findClass "com/example/tresse/tresse/queue/LinkedQueueDequeuePinLaw" = some m.cls := findClass_of_methodNamed Bd.named
  have hnm := (name_of_methodNamed Bd.named Bd.method).1
  have X0 : Stand p l e room_1 s m #[(.int po), (.long qa), (.long qb), (.long qc), (.long qd)] below meth c s₁ [] 0 0 := Stand.of_body Bd
  have e0 : s₁.heap = h0 := by rw [← hh, Bd.state]; rfl
  have N0 := Fr.nil n0
  have pre0 : ∀ t, Steps p.tables e below (s₁.setTop (mkF m 0 #[.val (.int po), .val (.long qa), .second, .val (.long qb), .second, .val (.long qc), .second, .val (.long qd), .second, .unset, .unset, .unset, .unset] [])) t → Steps p.tables e below (s₁.setTop (entryFrame m #[(.int po), (.long qa), (.long qb), (.long qc), (.long qd)] maxLocals)) t := fun t k => castTop (ef_0 m po qa qb qc qd) k
  generalize s₁.setTop (entryFrame m #[(.int po), (.long qa), (.long qb), (.long qc), (.long qd)] maxLocals) = G0 at pre0 ⊢
  obtain ⟨T168, h168, k168, X168, e168, E168, A168, O168', st168⟩ := newR X0 hx hZ hown (hw _ (List.mem_of_getElem? (i := 0) rfl)) (hw _ (List.mem_of_getElem? (i := 1) rfl)) e0 (g := (mkF m 2 #[.val (.int po), .val (.long qa), .second, .val (.long qb), .second, .val (.long qc), .second, .val (.long qd), .second, .unset, .unset, .unset, .unset] [(.int (8 : Int32))])) rfl (hb hby at_2) rfl (by decide) (cap := 8) (by decide) (by decide) (by decide) (by decide)
  obtain ⟨b168, g168⟩ : ∃ z, z = h0.size := ⟨_, rfl⟩
  rw [← g168] at A168 st168
  have g_b168 : n0 ≤ b168 := Nat.le_trans Z0 (Nat.le_of_eq g168.symm)
  have sz_b168 : h0.size ≤ b168 := Nat.le_of_eq g168.symm
  have Zs168 : n0 ≤ h168.size := Nat.le_trans Z0 E168.1
  have KK168 : Keep h0 h168 [] := (Keep.refl h0 _).ext E168
  have O168 := O0.ext E168
  have V168 : Arv Z h168 b168 k168 (.object "java/lang/Integer") (8 : Int32) [.null, .null, .null, .null, .null, .null, .null, .null] .null := (Arv.new A168 (by decide)).pad (pad_rep [] .null 8)
  obtain ⟨_, _, ⟨T169, L169, k169, n169⟩, -, X169, ⟨Lc169, hQ169, l169, y169, z169⟩, st169⟩ := Jvm.LawKit.callS X168 hx (y := (⟨"java/lang/Integer", "valueOf", "(I)Ljava/lang/Integer;"⟩ : MethodName)) hown (mvT hZ (hw _ (List.mem_of_getElem? (i := 2) rfl))) (mvT hZ (hw _ (List.mem_of_getElem? (i := 3) rfl))) (mvT hZ (hw _ (List.mem_of_getElem? (i := 4) rfl))) (mvT hZ (hw _ (List.mem_of_getElem? (i := 5) rfl))) (by decide) (backOf (W := 2) (rm1 l Z a0 hw [] (qa.toInt32) ac clc h168 n0 Zs168 O168 Shi Sca Ac hsz hel) hZ (hw _ (List.mem_of_getElem? (i := 5) rfl)) (hw _ (List.mem_of_getElem? (i := 4) rfl)) (by decide) (by decide)) (g := (mkF m 12 #[.val (.int po), .val (.long qa), .second, .val (.long qb), .second, .val (.long qc), .second, .val (.long qd), .second, .val (.ref b168), .unset, .unset, .unset] [(.int (qa.toInt32)), (.int (0 : Int32)), (.ref b168)])) rfl (by rw [hml]; rfl) (argsL := [(.int (qa.toInt32))]) (rest := [(.int (0 : Int32)), (.ref b168)]) (lenOf own_pd148 rfl) rfl (by show 2 * 0 + _ ≤ _; exact Nat.le_of_eq rfl) (hb hby at_12) (fun _ _ => ⟨rfl, e168, (by decide : 1 + 1 ≤ _), (by decide : 8 + 1 ≤ _)⟩)
  dsimp only [Pt.U, Pt.locs, Pt.cells, Pt.slots] at X169 l169 y169 z169 st169 hQ169
  rw [l169, y169, z169] at X169
  clear l169 y169 z169
  obtain ⟨rro_169, rfl, Nq169, K169, p169_0⟩ := hQ169
  have N169 := Fr.app N0 Nq169
  have Zs169 : n0 ≤ T169.heap.size := Nat.le_trans Zs168 K169.1
  have KK169 : Keep h0 T169.heap [] := KK168.trans K169 all0
  have O169 := O168.keep K169 (all0)
  have f170 := V168.keep K169 nin0
  obtain ⟨cl171, Ar171, q171, S171, N171, H171, G171⟩ := id f170
  have hin171 : ¬ ((0 : Int32) < 0 ∨ cl171.slots.size ≤ ((0 : Int32)).toNatClampNeg) := inb_of S171 ⟨by decide, by decide⟩
  obtain ⟨T172, h172, X172, e172, W172, st172⟩ := stR X169 hx hZ rfl Ar171 (j := (0 : Int32)) hin171 rfl (Sto.ofV Ar171 q171 O168' (Ins.self p169_0)) (g := (mkF m 15 #[.val (.int po), .val (.long qa), .second, .val (.long qb), .second, .val (.long qc), .second, .val (.long qd), .second, .val (.ref b168), .unset, .unset, .unset] [(.ref rro_169), (.int (0 : Int32)), (.ref b168)])) rfl rfl (hb hby at_15)
  have V172 : Arv Z h172 b168 k168 (.object "java/lang/Integer") (8 : Int32) [(.ref rro_169), .null, .null, .null, .null, .null, .null, .null] .null := Arv.set Ar171 q171 S171 N171 H171 G171 rfl W172 0 rfl (Nat.le_of_ble_eq_true rfl)
  have N172 := Fr.snoc X172 N169 g_b168
  have Zs172 : n0 ≤ h172.size := Nat.le_trans Zs169 (Keep.of_wr W172).1
  have KK172 : Keep h0 h172 [] := KK169.wr W172 (Or.inr sz_b168)
  have O172 := O169.wr W172 g_b168
  have f173 := p169_0.wr W172
  obtain ⟨_, _, ⟨T174, L174, k174, n174⟩, -, X174, ⟨Lc174, hQ174, l174, y174, z174⟩, st174⟩ := Jvm.LawKit.callS X172 hx (y := (⟨"java/lang/Integer", "valueOf", "(I)Ljava/lang/Integer;"⟩ : MethodName)) hown (mvT hZ (hw _ (List.mem_of_getElem? (i := 2) rfl))) (mvT hZ (hw _ (List.mem_of_getElem? (i := 3) rfl))) (mvT hZ (hw _ (List.mem_of_getElem? (i := 4) rfl))) (mvT hZ (hw _ (List.mem_of_getElem? (i := 5) rfl))) (by decide) (backOf (W := 2) (rm1 l Z a0 hw [] (((qa.toUInt64 >>> ((32 : Int32) &&& 0x3f).toInt64.toUInt64).toInt64).toInt32) ac clc h172 n0 Zs172 O172 Shi Sca Ac hsz hel) hZ (hw _ (List.mem_of_getElem? (i := 5) rfl)) (hw _ (List.mem_of_getElem? (i := 4) rfl)) (by decide) (by decide)) (g := (mkF m 24 #[.val (.int po), .val (.long qa), .second, .val (.long qb), .second, .val (.long qc), .second, .val (.long qd), .second, .val (.ref b168), .unset, .unset, .unset] [(.int (((qa.toUInt64 >>> ((32 : Int32) &&& 0x3f).toInt64.toUInt64).toInt64).toInt32)), (.int (1 : Int32)), (.ref b168)])) rfl (by rw [hml]; rfl) (argsL := [(.int (((qa.toUInt64 >>> ((32 : Int32) &&& 0x3f).toInt64.toUInt64).toInt64).toInt32))]) (rest := [(.int (1 : Int32)), (.ref b168)]) (lenOf own_pd148 rfl) rfl (by show 2 * 0 + _ ≤ _; exact Nat.le_of_eq rfl) (hb hby at_24) (fun _ _ => ⟨rfl, e172, (by decide : 2 + 1 ≤ _), (by decide : 9 + 1 ≤ _)⟩)
  dsimp only [Pt.U, Pt.locs, Pt.cells, Pt.slots] at X174 l174 y174 z174 st174 hQ174
  rw [l174, y174, z174] at X174
  clear l174 y174 z174
  obtain ⟨rro_174, rfl, Nq174, K174, p174_0⟩ := hQ174
  have N174 := Fr.app N172 Nq174
  have Zs174 : n0 ≤ T174.heap.size := Nat.le_trans Zs172 K174.1
  have KK174 : Keep h0 T174.heap [] := KK172.trans K174 all0
  have O174 := O172.keep K174 (all0)
  have f175 := V172.keep K174 nin0
  have f176 := f173.keep K174
  obtain ⟨cl177, Ar177, q177, S177, N177, H177, G177⟩ := id f175
  have hin177 : ¬ ((1 : Int32) < 0 ∨ cl177.slots.size ≤ ((1 : Int32)).toNatClampNeg) := inb_of S177 ⟨by decide, by decide⟩
  obtain ⟨T178, h178, X178, e178, W178, st178⟩ := stR X174 hx hZ rfl Ar177 (j := (1 : Int32)) hin177 rfl (Sto.ofV Ar177 q177 O168' (Ins.self p174_0)) (g := (mkF m 27 #[.val (.int po), .val (.long qa), .second, .val (.long qb), .second, .val (.long qc), .second, .val (.long qd), .second, .val (.ref b168), .unset, .unset, .unset] [(.ref rro_174), (.int (1 : Int32)), (.ref b168)])) rfl rfl (hb hby at_27)
  have V178 : Arv Z h178 b168 k168 (.object "java/lang/Integer") (8 : Int32) [(.ref rro_169), (.ref rro_174), .null, .null, .null, .null, .null, .null] .null := Arv.set Ar177 q177 S177 N177 H177 G177 rfl W178 1 rfl (Nat.le_of_ble_eq_true rfl)
  have N178 := Fr.snoc X178 N174 g_b168
  have Zs178 : n0 ≤ h178.size := Nat.le_trans Zs174 (Keep.of_wr W178).1
  have KK178 : Keep h0 h178 [] := KK174.wr W178 (Or.inr sz_b168)
  have O178 := O174.wr W178 g_b168
  have f179 := f176.wr W178
  have f180 := p174_0.wr W178
  obtain ⟨_, _, ⟨T181, L181, k181, n181⟩, -, X181, ⟨Lc181, hQ181, l181, y181, z181⟩, st181⟩ := Jvm.LawKit.callS X178 hx (y := (⟨"java/lang/Integer", "valueOf", "(I)Ljava/lang/Integer;"⟩ : MethodName)) hown (mvT hZ (hw _ (List.mem_of_getElem? (i := 2) rfl))) (mvT hZ (hw _ (List.mem_of_getElem? (i := 3) rfl))) (mvT hZ (hw _ (List.mem_of_getElem? (i := 4) rfl))) (mvT hZ (hw _ (List.mem_of_getElem? (i := 5) rfl))) (by decide) (backOf (W := 2) (rm1 l Z a0 hw [] (qb.toInt32) ac clc h178 n0 Zs178 O178 Shi Sca Ac hsz hel) hZ (hw _ (List.mem_of_getElem? (i := 5) rfl)) (hw _ (List.mem_of_getElem? (i := 4) rfl)) (by decide) (by decide)) (g := (mkF m 33 #[.val (.int po), .val (.long qa), .second, .val (.long qb), .second, .val (.long qc), .second, .val (.long qd), .second, .val (.ref b168), .unset, .unset, .unset] [(.int (qb.toInt32)), (.int (2 : Int32)), (.ref b168)])) rfl (by rw [hml]; rfl) (argsL := [(.int (qb.toInt32))]) (rest := [(.int (2 : Int32)), (.ref b168)]) (lenOf own_pd148 rfl) rfl (by show 2 * 0 + _ ≤ _; exact Nat.le_of_eq rfl) (hb hby at_33) (fun _ _ => ⟨rfl, e178, (by decide : 3 + 1 ≤ _), (by decide : 10 + 1 ≤ _)⟩)
  dsimp only [Pt.U, Pt.locs, Pt.cells, Pt.slots] at X181 l181 y181 z181 st181 hQ181
  rw [l181, y181, z181] at X181
  clear l181 y181 z181
  obtain ⟨rro_181, rfl, Nq181, K181, p181_0⟩ := hQ181
  have N181 := Fr.app N178 Nq181
  have Zs181 : n0 ≤ T181.heap.size := Nat.le_trans Zs178 K181.1
  have KK181 : Keep h0 T181.heap [] := KK178.trans K181 all0
  have O181 := O178.keep K181 (all0)
  have f182 := V178.keep K181 nin0
  have f183 := f179.keep K181
  have f184 := f180.keep K181
  obtain ⟨cl185, Ar185, q185, S185, N185, H185, G185⟩ := id f182
  have hin185 : ¬ ((2 : Int32) < 0 ∨ cl185.slots.size ≤ ((2 : Int32)).toNatClampNeg) := inb_of S185 ⟨by decide, by decide⟩
  obtain ⟨T186, h186, X186, e186, W186, st186⟩ := stR X181 hx hZ rfl Ar185 (j := (2 : Int32)) hin185 rfl (Sto.ofV Ar185 q185 O168' (Ins.self p181_0)) (g := (mkF m 36 #[.val (.int po), .val (.long qa), .second, .val (.long qb), .second, .val (.long qc), .second, .val (.long qd), .second, .val (.ref b168), .unset, .unset, .unset] [(.ref rro_181), (.int (2 : Int32)), (.ref b168)])) rfl rfl (hb hby at_36)
  have V186 : Arv Z h186 b168 k168 (.object "java/lang/Integer") (8 : Int32) [(.ref rro_169), (.ref rro_174), (.ref rro_181), .null, .null, .null, .null, .null] .null := Arv.set Ar185 q185 S185 N185 H185 G185 rfl W186 2 rfl (Nat.le_of_ble_eq_true rfl)
  have N186 := Fr.snoc X186 N181 g_b168
  have Zs186 : n0 ≤ h186.size := Nat.le_trans Zs181 (Keep.of_wr W186).1
  have KK186 : Keep h0 h186 [] := KK181.wr W186 (Or.inr sz_b168)
  have O186 := O181.wr W186 g_b168
  have f187 := f183.wr W186
  have f188 := f184.wr W186
  have f189 := p181_0.wr W186
  obtain ⟨_, _, ⟨T190, L190, k190, n190⟩, -, X190, ⟨Lc190, hQ190, l190, y190, z190⟩, st190⟩ := Jvm.LawKit.callS X186 hx (y := (⟨"java/lang/Integer", "valueOf", "(I)Ljava/lang/Integer;"⟩ : MethodName)) hown (mvT hZ (hw _ (List.mem_of_getElem? (i := 2) rfl))) (mvT hZ (hw _ (List.mem_of_getElem? (i := 3) rfl))) (mvT hZ (hw _ (List.mem_of_getElem? (i := 4) rfl))) (mvT hZ (hw _ (List.mem_of_getElem? (i := 5) rfl))) (by decide) (backOf (W := 2) (rm1 l Z a0 hw [] (((qb.toUInt64 >>> ((32 : Int32) &&& 0x3f).toInt64.toUInt64).toInt64).toInt32) ac clc h186 n0 Zs186 O186 Shi Sca Ac hsz hel) hZ (hw _ (List.mem_of_getElem? (i := 5) rfl)) (hw _ (List.mem_of_getElem? (i := 4) rfl)) (by decide) (by decide)) (g := (mkF m 45 #[.val (.int po), .val (.long qa), .second, .val (.long qb), .second, .val (.long qc), .second, .val (.long qd), .second, .val (.ref b168), .unset, .unset, .unset] [(.int (((qb.toUInt64 >>> ((32 : Int32) &&& 0x3f).toInt64.toUInt64).toInt64).toInt32)), (.int (3 : Int32)), (.ref b168)])) rfl (by rw [hml]; rfl) (argsL := [(.int (((qb.toUInt64 >>> ((32 : Int32) &&& 0x3f).toInt64.toUInt64).toInt64).toInt32))]) (rest := [(.int (3 : Int32)), (.ref b168)]) (lenOf own_pd148 rfl) rfl (by show 2 * 0 + _ ≤ _; exact Nat.le_of_eq rfl) (hb hby at_45) (fun _ _ => ⟨rfl, e186, (by decide : 4 + 1 ≤ _), (by decide : 11 + 1 ≤ _)⟩)
  dsimp only [Pt.U, Pt.locs, Pt.cells, Pt.slots] at X190 l190 y190 z190 st190 hQ190
  rw [l190, y190, z190] at X190
  clear l190 y190 z190
  obtain ⟨rro_190, rfl, Nq190, K190, p190_0⟩ := hQ190
  have N190 := Fr.app N186 Nq190
  have Zs190 : n0 ≤ T190.heap.size := Nat.le_trans Zs186 K190.1
  have KK190 : Keep h0 T190.heap [] := KK186.trans K190 all0
  have O190 := O186.keep K190 (all0)
  have f191 := V186.keep K190 nin0
  have f192 := f187.keep K190
  have f193 := f188.keep K190
  have f194 := f189.keep K190
  obtain ⟨cl195, Ar195, q195, S195, N195, H195, G195⟩ := id f191
  have hin195 : ¬ ((3 : Int32) < 0 ∨ cl195.slots.size ≤ ((3 : Int32)).toNatClampNeg) := inb_of S195 ⟨by decide, by decide⟩
  obtain ⟨T196, h196, X196, e196, W196, st196⟩ := stR X190 hx hZ rfl Ar195 (j := (3 : Int32)) hin195 rfl (Sto.ofV Ar195 q195 O168' (Ins.self p190_0)) (g := (mkF m 48 #[.val (.int po), .val (.long qa), .second, .val (.long qb), .second, .val (.long qc), .second, .val (.long qd), .second, .val (.ref b168), .unset, .unset, .unset] [(.ref rro_190), (.int (3 : Int32)), (.ref b168)])) rfl rfl (hb hby at_48)
  have V196 : Arv Z h196 b168 k168 (.object "java/lang/Integer") (8 : Int32) [(.ref rro_169), (.ref rro_174), (.ref rro_181), (.ref rro_190), .null, .null, .null, .null] .null := Arv.set Ar195 q195 S195 N195 H195 G195 rfl W196 3 rfl (Nat.le_of_ble_eq_true rfl)
  have N196 := Fr.snoc X196 N190 g_b168
  have Zs196 : n0 ≤ h196.size := Nat.le_trans Zs190 (Keep.of_wr W196).1
  have KK196 : Keep h0 h196 [] := KK190.wr W196 (Or.inr sz_b168)
  have O196 := O190.wr W196 g_b168
  have f197 := f192.wr W196
  have f198 := f193.wr W196
  have f199 := f194.wr W196
  have f200 := p190_0.wr W196
  obtain ⟨_, _, ⟨T201, L201, k201, n201⟩, -, X201, ⟨Lc201, hQ201, l201, y201, z201⟩, st201⟩ := Jvm.LawKit.callS X196 hx (y := (⟨"java/lang/Integer", "valueOf", "(I)Ljava/lang/Integer;"⟩ : MethodName)) hown (mvT hZ (hw _ (List.mem_of_getElem? (i := 2) rfl))) (mvT hZ (hw _ (List.mem_of_getElem? (i := 3) rfl))) (mvT hZ (hw _ (List.mem_of_getElem? (i := 4) rfl))) (mvT hZ (hw _ (List.mem_of_getElem? (i := 5) rfl))) (by decide) (backOf (W := 2) (rm1 l Z a0 hw [] (qc.toInt32) ac clc h196 n0 Zs196 O196 Shi Sca Ac hsz hel) hZ (hw _ (List.mem_of_getElem? (i := 5) rfl)) (hw _ (List.mem_of_getElem? (i := 4) rfl)) (by decide) (by decide)) (g := (mkF m 55 #[.val (.int po), .val (.long qa), .second, .val (.long qb), .second, .val (.long qc), .second, .val (.long qd), .second, .val (.ref b168), .unset, .unset, .unset] [(.int (qc.toInt32)), (.int (4 : Int32)), (.ref b168)])) rfl (by rw [hml]; rfl) (argsL := [(.int (qc.toInt32))]) (rest := [(.int (4 : Int32)), (.ref b168)]) (lenOf own_pd148 rfl) rfl (by show 2 * 0 + _ ≤ _; exact Nat.le_of_eq rfl) (hb hby at_55) (fun _ _ => ⟨rfl, e196, (by decide : 5 + 1 ≤ _), (by decide : 12 + 1 ≤ _)⟩)
  dsimp only [Pt.U, Pt.locs, Pt.cells, Pt.slots] at X201 l201 y201 z201 st201 hQ201
  rw [l201, y201, z201] at X201
  clear l201 y201 z201
  obtain ⟨rro_201, rfl, Nq201, K201, p201_0⟩ := hQ201
  have N201 := Fr.app N196 Nq201
  have Zs201 : n0 ≤ T201.heap.size := Nat.le_trans Zs196 K201.1
  have KK201 : Keep h0 T201.heap [] := KK196.trans K201 all0
  have O201 := O196.keep K201 (all0)
  have f202 := V196.keep K201 nin0
  have f203 := f197.keep K201
  have f204 := f198.keep K201
  have f205 := f199.keep K201
  have f206 := f200.keep K201
  obtain ⟨cl207, Ar207, q207, S207, N207, H207, G207⟩ := id f202
  have hin207 : ¬ ((4 : Int32) < 0 ∨ cl207.slots.size ≤ ((4 : Int32)).toNatClampNeg) := inb_of S207 ⟨by decide, by decide⟩
  obtain ⟨T208, h208, X208, e208, W208, st208⟩ := stR X201 hx hZ rfl Ar207 (j := (4 : Int32)) hin207 rfl (Sto.ofV Ar207 q207 O168' (Ins.self p201_0)) (g := (mkF m 58 #[.val (.int po), .val (.long qa), .second, .val (.long qb), .second, .val (.long qc), .second, .val (.long qd), .second, .val (.ref b168), .unset, .unset, .unset] [(.ref rro_201), (.int (4 : Int32)), (.ref b168)])) rfl rfl (hb hby at_58)
  have V208 : Arv Z h208 b168 k168 (.object "java/lang/Integer") (8 : Int32) [(.ref rro_169), (.ref rro_174), (.ref rro_181), (.ref rro_190), (.ref rro_201), .null, .null, .null] .null := Arv.set Ar207 q207 S207 N207 H207 G207 rfl W208 4 rfl (Nat.le_of_ble_eq_true rfl)
  have N208 := Fr.snoc X208 N201 g_b168
  have Zs208 : n0 ≤ h208.size := Nat.le_trans Zs201 (Keep.of_wr W208).1
  have KK208 : Keep h0 h208 [] := KK201.wr W208 (Or.inr sz_b168)
  have O208 := O201.wr W208 g_b168
  have f209 := f203.wr W208
  have f210 := f204.wr W208
  have f211 := f205.wr W208
  have f212 := f206.wr W208
  have f213 := p201_0.wr W208
  obtain ⟨_, _, ⟨T214, L214, k214, n214⟩, -, X214, ⟨Lc214, hQ214, l214, y214, z214⟩, st214⟩ := Jvm.LawKit.callS X208 hx (y := (⟨"java/lang/Integer", "valueOf", "(I)Ljava/lang/Integer;"⟩ : MethodName)) hown (mvT hZ (hw _ (List.mem_of_getElem? (i := 2) rfl))) (mvT hZ (hw _ (List.mem_of_getElem? (i := 3) rfl))) (mvT hZ (hw _ (List.mem_of_getElem? (i := 4) rfl))) (mvT hZ (hw _ (List.mem_of_getElem? (i := 5) rfl))) (by decide) (backOf (W := 2) (rm1 l Z a0 hw [] (((qc.toUInt64 >>> ((32 : Int32) &&& 0x3f).toInt64.toUInt64).toInt64).toInt32) ac clc h208 n0 Zs208 O208 Shi Sca Ac hsz hel) hZ (hw _ (List.mem_of_getElem? (i := 5) rfl)) (hw _ (List.mem_of_getElem? (i := 4) rfl)) (by decide) (by decide)) (g := (mkF m 68 #[.val (.int po), .val (.long qa), .second, .val (.long qb), .second, .val (.long qc), .second, .val (.long qd), .second, .val (.ref b168), .unset, .unset, .unset] [(.int (((qc.toUInt64 >>> ((32 : Int32) &&& 0x3f).toInt64.toUInt64).toInt64).toInt32)), (.int (5 : Int32)), (.ref b168)])) rfl (by rw [hml]; rfl) (argsL := [(.int (((qc.toUInt64 >>> ((32 : Int32) &&& 0x3f).toInt64.toUInt64).toInt64).toInt32))]) (rest := [(.int (5 : Int32)), (.ref b168)]) (lenOf own_pd148 rfl) rfl (by show 2 * 0 + _ ≤ _; exact Nat.le_of_eq rfl) (hb hby at_68) (fun _ _ => ⟨rfl, e208, (by decide : 6 + 1 ≤ _), (by decide : 13 + 1 ≤ _)⟩)
  dsimp only [Pt.U, Pt.locs, Pt.cells, Pt.slots] at X214 l214 y214 z214 st214 hQ214
  rw [l214, y214, z214] at X214
  clear l214 y214 z214
  obtain ⟨rro_214, rfl, Nq214, K214, p214_0⟩ := hQ214
  have N214 := Fr.app N208 Nq214
  have Zs214 : n0 ≤ T214.heap.size := Nat.le_trans Zs208 K214.1
  have KK214 : Keep h0 T214.heap [] := KK208.trans K214 all0
  have O214 := O208.keep K214 (all0)
  have f215 := V208.keep K214 nin0
  have f216 := f209.keep K214
  have f217 := f210.keep K214
  have f218 := f211.keep K214
  have f219 := f212.keep K214
  have f220 := f213.keep K214
  obtain ⟨cl221, Ar221, q221, S221, N221, H221, G221⟩ := id f215
  have hin221 : ¬ ((5 : Int32) < 0 ∨ cl221.slots.size ≤ ((5 : Int32)).toNatClampNeg) := inb_of S221 ⟨by decide, by decide⟩
  obtain ⟨T222, h222, X222, e222, W222, st222⟩ := stR X214 hx hZ rfl Ar221 (j := (5 : Int32)) hin221 rfl (Sto.ofV Ar221 q221 O168' (Ins.self p214_0)) (g := (mkF m 71 #[.val (.int po), .val (.long qa), .second, .val (.long qb), .second, .val (.long qc), .second, .val (.long qd), .second, .val (.ref b168), .unset, .unset, .unset] [(.ref rro_214), (.int (5 : Int32)), (.ref b168)])) rfl rfl (hb hby at_71)
  have V222 : Arv Z h222 b168 k168 (.object "java/lang/Integer") (8 : Int32) [(.ref rro_169), (.ref rro_174), (.ref rro_181), (.ref rro_190), (.ref rro_201), (.ref rro_214), .null, .null] .null := Arv.set Ar221 q221 S221 N221 H221 G221 rfl W222 5 rfl (Nat.le_of_ble_eq_true rfl)
  have N222 := Fr.snoc X222 N214 g_b168
  have Zs222 : n0 ≤ h222.size := Nat.le_trans Zs214 (Keep.of_wr W222).1
  have KK222 : Keep h0 h222 [] := KK214.wr W222 (Or.inr sz_b168)
  have O222 := O214.wr W222 g_b168
  have f223 := f216.wr W222
  have f224 := f217.wr W222
  have f225 := f218.wr W222
  have f226 := f219.wr W222
  have f227 := f220.wr W222
  have f228 := p214_0.wr W222
  obtain ⟨_, _, ⟨T229, L229, k229, n229⟩, -, X229, ⟨Lc229, hQ229, l229, y229, z229⟩, st229⟩ := Jvm.LawKit.callS X222 hx (y := (⟨"java/lang/Integer", "valueOf", "(I)Ljava/lang/Integer;"⟩ : MethodName)) hown (mvT hZ (hw _ (List.mem_of_getElem? (i := 2) rfl))) (mvT hZ (hw _ (List.mem_of_getElem? (i := 3) rfl))) (mvT hZ (hw _ (List.mem_of_getElem? (i := 4) rfl))) (mvT hZ (hw _ (List.mem_of_getElem? (i := 5) rfl))) (by decide) (backOf (W := 2) (rm1 l Z a0 hw [] (qd.toInt32) ac clc h222 n0 Zs222 O222 Shi Sca Ac hsz hel) hZ (hw _ (List.mem_of_getElem? (i := 5) rfl)) (hw _ (List.mem_of_getElem? (i := 4) rfl)) (by decide) (by decide)) (g := (mkF m 79 #[.val (.int po), .val (.long qa), .second, .val (.long qb), .second, .val (.long qc), .second, .val (.long qd), .second, .val (.ref b168), .unset, .unset, .unset] [(.int (qd.toInt32)), (.int (6 : Int32)), (.ref b168)])) rfl (by rw [hml]; rfl) (argsL := [(.int (qd.toInt32))]) (rest := [(.int (6 : Int32)), (.ref b168)]) (lenOf own_pd148 rfl) rfl (by show 2 * 0 + _ ≤ _; exact Nat.le_of_eq rfl) (hb hby at_79) (fun _ _ => ⟨rfl, e222, (by decide : 7 + 1 ≤ _), (by decide : 14 + 1 ≤ _)⟩)
  dsimp only [Pt.U, Pt.locs, Pt.cells, Pt.slots] at X229 l229 y229 z229 st229 hQ229
  rw [l229, y229, z229] at X229
  clear l229 y229 z229
  obtain ⟨rro_229, rfl, Nq229, K229, p229_0⟩ := hQ229
  have N229 := Fr.app N222 Nq229
  have Zs229 : n0 ≤ T229.heap.size := Nat.le_trans Zs222 K229.1
  have KK229 : Keep h0 T229.heap [] := KK222.trans K229 all0
  have O229 := O222.keep K229 (all0)
  have f230 := V222.keep K229 nin0
  have f231 := f223.keep K229
  have f232 := f224.keep K229
  have f233 := f225.keep K229
  have f234 := f226.keep K229
  have f235 := f227.keep K229
  have f236 := f228.keep K229
  obtain ⟨cl237, Ar237, q237, S237, N237, H237, G237⟩ := id f230
  have hin237 : ¬ ((6 : Int32) < 0 ∨ cl237.slots.size ≤ ((6 : Int32)).toNatClampNeg) := inb_of S237 ⟨by decide, by decide⟩
  obtain ⟨T238, h238, X238, e238, W238, st238⟩ := stR X229 hx hZ rfl Ar237 (j := (6 : Int32)) hin237 rfl (Sto.ofV Ar237 q237 O168' (Ins.self p229_0)) (g := (mkF m 82 #[.val (.int po), .val (.long qa), .second, .val (.long qb), .second, .val (.long qc), .second, .val (.long qd), .second, .val (.ref b168), .unset, .unset, .unset] [(.ref rro_229), (.int (6 : Int32)), (.ref b168)])) rfl rfl (hb hby at_82)
  have V238 : Arv Z h238 b168 k168 (.object "java/lang/Integer") (8 : Int32) [(.ref rro_169), (.ref rro_174), (.ref rro_181), (.ref rro_190), (.ref rro_201), (.ref rro_214), (.ref rro_229), .null] .null := Arv.set Ar237 q237 S237 N237 H237 G237 rfl W238 6 rfl (Nat.le_of_ble_eq_true rfl)
  have N238 := Fr.snoc X238 N229 g_b168
  have Zs238 : n0 ≤ h238.size := Nat.le_trans Zs229 (Keep.of_wr W238).1
  have KK238 : Keep h0 h238 [] := KK229.wr W238 (Or.inr sz_b168)
  have O238 := O229.wr W238 g_b168
  have f239 := f231.wr W238
  have f240 := f232.wr W238
  have f241 := f233.wr W238
  have f242 := f234.wr W238
  have f243 := f235.wr W238
  have f244 := f236.wr W238
  have f245 := p229_0.wr W238
  obtain ⟨_, _, ⟨T246, L246, k246, n246⟩, -, X246, ⟨Lc246, hQ246, l246, y246, z246⟩, st246⟩ := Jvm.LawKit.callS X238 hx (y := (⟨"java/lang/Integer", "valueOf", "(I)Ljava/lang/Integer;"⟩ : MethodName)) hown (mvT hZ (hw _ (List.mem_of_getElem? (i := 2) rfl))) (mvT hZ (hw _ (List.mem_of_getElem? (i := 3) rfl))) (mvT hZ (hw _ (List.mem_of_getElem? (i := 4) rfl))) (mvT hZ (hw _ (List.mem_of_getElem? (i := 5) rfl))) (by decide) (backOf (W := 2) (rm1 l Z a0 hw [] (((qd.toUInt64 >>> ((32 : Int32) &&& 0x3f).toInt64.toUInt64).toInt64).toInt32) ac clc h238 n0 Zs238 O238 Shi Sca Ac hsz hel) hZ (hw _ (List.mem_of_getElem? (i := 5) rfl)) (hw _ (List.mem_of_getElem? (i := 4) rfl)) (by decide) (by decide)) (g := (mkF m 93 #[.val (.int po), .val (.long qa), .second, .val (.long qb), .second, .val (.long qc), .second, .val (.long qd), .second, .val (.ref b168), .unset, .unset, .unset] [(.int (((qd.toUInt64 >>> ((32 : Int32) &&& 0x3f).toInt64.toUInt64).toInt64).toInt32)), (.int (7 : Int32)), (.ref b168)])) rfl (by rw [hml]; rfl) (argsL := [(.int (((qd.toUInt64 >>> ((32 : Int32) &&& 0x3f).toInt64.toUInt64).toInt64).toInt32))]) (rest := [(.int (7 : Int32)), (.ref b168)]) (lenOf own_pd148 rfl) rfl (by show 2 * 0 + _ ≤ _; exact Nat.le_of_eq rfl) (hb hby at_93) (fun _ _ => ⟨rfl, e238, (by decide : 8 + 1 ≤ _), (by decide : 15 + 1 ≤ _)⟩)
  dsimp only [Pt.U, Pt.locs, Pt.cells, Pt.slots] at X246 l246 y246 z246 st246 hQ246
  rw [l246, y246, z246] at X246
  clear l246 y246 z246
  obtain ⟨rro_246, rfl, Nq246, K246, p246_0⟩ := hQ246
  have N246 := Fr.app N238 Nq246
  have Zs246 : n0 ≤ T246.heap.size := Nat.le_trans Zs238 K246.1
  have KK246 : Keep h0 T246.heap [] := KK238.trans K246 all0
  have O246 := O238.keep K246 (all0)
  have f247 := V238.keep K246 nin0
  have f248 := f239.keep K246
  have f249 := f240.keep K246
  have f250 := f241.keep K246
  have f251 := f242.keep K246
  have f252 := f243.keep K246
  have f253 := f244.keep K246
  have f254 := f245.keep K246
  obtain ⟨cl255, Ar255, q255, S255, N255, H255, G255⟩ := id f247
  have hin255 : ¬ ((7 : Int32) < 0 ∨ cl255.slots.size ≤ ((7 : Int32)).toNatClampNeg) := inb_of S255 ⟨by decide, by decide⟩
  obtain ⟨T256, h256, X256, e256, W256, st256⟩ := stR X246 hx hZ rfl Ar255 (j := (7 : Int32)) hin255 rfl (Sto.ofV Ar255 q255 O168' (Ins.self p246_0)) (g := (mkF m 96 #[.val (.int po), .val (.long qa), .second, .val (.long qb), .second, .val (.long qc), .second, .val (.long qd), .second, .val (.ref b168), .unset, .unset, .unset] [(.ref rro_246), (.int (7 : Int32)), (.ref b168)])) rfl rfl (hb hby at_96)
  have V256 : Arv Z h256 b168 k168 (.object "java/lang/Integer") (8 : Int32) [(.ref rro_169), (.ref rro_174), (.ref rro_181), (.ref rro_190), (.ref rro_201), (.ref rro_214), (.ref rro_229), (.ref rro_246)] .null := Arv.set Ar255 q255 S255 N255 H255 G255 rfl W256 7 rfl (Nat.le_of_ble_eq_true rfl)
  have N256 := Fr.snoc X256 N246 g_b168
  have Zs256 : n0 ≤ h256.size := Nat.le_trans Zs246 (Keep.of_wr W256).1
  have KK256 : Keep h0 h256 [] := KK246.wr W256 (Or.inr sz_b168)
  have O256 := O246.wr W256 g_b168
  have f257 := f248.wr W256
  have f258 := f249.wr W256
  have f259 := f250.wr W256
  have f260 := f251.wr W256
  have f261 := f252.wr W256
  have f262 := f253.wr W256
  have f263 := f254.wr W256
  have f264 := p246_0.wr W256
  obtain ⟨T265, h265, k265, X265, e265, E265, A265, st265⟩ := newP X256 hx hZ (hw _ (List.mem_of_getElem? (i := 26) rfl)) e256 (g := (mkF m 98 #[.val (.int po), .val (.long qa), .second, .val (.long qb), .second, .val (.long qc), .second, .val (.long qd), .second, .val (.ref b168), .unset, .unset, .unset] [(.int (2 : Int32))])) rfl (hb hby at_98) rfl (by decide) (cap := 2) (by decide) (by decide) (by decide) (by decide)
  obtain ⟨b265, g265⟩ : ∃ z, z = h256.size := ⟨_, rfl⟩
  rw [← g265] at A265 st265
  have g_b265 : n0 ≤ b265 := Nat.le_trans Zs256 (Nat.le_of_eq g265.symm)
  have sz_b265 : h0.size ≤ b265 := Nat.le_trans KK256.1 (Nat.le_of_eq g265.symm)
  have lt_b168_b265 : b168 < b265 := Nat.lt_of_lt_of_le V256.lt (Nat.le_of_eq g265.symm)
  have ne_b168_b265 : b168 ≠ b265 := Nat.ne_of_lt lt_b168_b265
  have lt_rro_169_b265 : rro_169 < b265 := Nat.lt_of_lt_of_le f257.lt (Nat.le_of_eq g265.symm)
  have ne_rro_169_b265 : rro_169 ≠ b265 := Nat.ne_of_lt lt_rro_169_b265
  have lt_rro_174_b265 : rro_174 < b265 := Nat.lt_of_lt_of_le f258.lt (Nat.le_of_eq g265.symm)
  have ne_rro_174_b265 : rro_174 ≠ b265 := Nat.ne_of_lt lt_rro_174_b265
  have lt_rro_181_b265 : rro_181 < b265 := Nat.lt_of_lt_of_le f259.lt (Nat.le_of_eq g265.symm)
  have ne_rro_181_b265 : rro_181 ≠ b265 := Nat.ne_of_lt lt_rro_181_b265
  have lt_rro_190_b265 : rro_190 < b265 := Nat.lt_of_lt_of_le f260.lt (Nat.le_of_eq g265.symm)
  have ne_rro_190_b265 : rro_190 ≠ b265 := Nat.ne_of_lt lt_rro_190_b265
  have lt_rro_201_b265 : rro_201 < b265 := Nat.lt_of_lt_of_le f261.lt (Nat.le_of_eq g265.symm)
  have ne_rro_201_b265 : rro_201 ≠ b265 := Nat.ne_of_lt lt_rro_201_b265
  have lt_rro_214_b265 : rro_214 < b265 := Nat.lt_of_lt_of_le f262.lt (Nat.le_of_eq g265.symm)
  have ne_rro_214_b265 : rro_214 ≠ b265 := Nat.ne_of_lt lt_rro_214_b265
  have lt_rro_229_b265 : rro_229 < b265 := Nat.lt_of_lt_of_le f263.lt (Nat.le_of_eq g265.symm)
  have ne_rro_229_b265 : rro_229 ≠ b265 := Nat.ne_of_lt lt_rro_229_b265
  have lt_rro_246_b265 : rro_246 < b265 := Nat.lt_of_lt_of_le f264.lt (Nat.le_of_eq g265.symm)
  have ne_rro_246_b265 : rro_246 ≠ b265 := Nat.ne_of_lt lt_rro_246_b265
  have Zs265 : n0 ≤ h265.size := Nat.le_trans Zs256 E265.1
  have KK265 : Keep h0 h265 [] := KK256.ext E265
  have O265 := O256.ext E265
  have f266 := V256.ext E265
  have f267 := f257.ext E265
  have f268 := f258.ext E265
  have f269 := f259.ext E265
  have f270 := f260.ext E265
  have f271 := f261.ext E265
  have f272 := f262.ext E265
  have f273 := f263.ext E265
  have f274 := f264.ext E265
  have V265 : Arv Z h265 b265 k265 .int (2 : Int32) [(.int (0 : Int32)), (.int (0 : Int32))] (.int (0 : Int32)) := (Arv.new A265 (by decide)).pad (pad_rep [] (.int (0 : Int32)) 2)
  obtain ⟨T275, h275, X275, e275, E275, A275, D275, -, st275⟩ := newO X265 hx hZ hown (hw _ (List.mem_of_getElem? (i := 27) rfl)) (hw _ (List.mem_of_getElem? (i := 28) rfl)) (hw _ (List.mem_of_getElem? (i := 29) rfl)) e265 (g := (mkF m 102 #[.val (.int po), .val (.long qa), .second, .val (.long qb), .second, .val (.long qc), .second, .val (.long qd), .second, .val (.ref b168), .val (.ref b265), .unset, .unset] [])) rfl (hb hby at_102) (by decide) (by decide)
  obtain ⟨b275, g275⟩ : ∃ z, z = h265.size := ⟨_, rfl⟩
  rw [← g275] at A275 D275 st275
  have g_b275 : n0 ≤ b275 := Nat.le_trans Zs265 (Nat.le_of_eq g275.symm)
  have sz_b275 : h0.size ≤ b275 := Nat.le_trans KK265.1 (Nat.le_of_eq g275.symm)
  have lt_b168_b275 : b168 < b275 := Nat.lt_of_lt_of_le f266.lt (Nat.le_of_eq g275.symm)
  have ne_b168_b275 : b168 ≠ b275 := Nat.ne_of_lt lt_b168_b275
  have lt_rro_169_b275 : rro_169 < b275 := Nat.lt_of_lt_of_le f267.lt (Nat.le_of_eq g275.symm)
  have ne_rro_169_b275 : rro_169 ≠ b275 := Nat.ne_of_lt lt_rro_169_b275
  have lt_rro_174_b275 : rro_174 < b275 := Nat.lt_of_lt_of_le f268.lt (Nat.le_of_eq g275.symm)
  have ne_rro_174_b275 : rro_174 ≠ b275 := Nat.ne_of_lt lt_rro_174_b275
  have lt_rro_181_b275 : rro_181 < b275 := Nat.lt_of_lt_of_le f269.lt (Nat.le_of_eq g275.symm)
  have ne_rro_181_b275 : rro_181 ≠ b275 := Nat.ne_of_lt lt_rro_181_b275
  have lt_rro_190_b275 : rro_190 < b275 := Nat.lt_of_lt_of_le f270.lt (Nat.le_of_eq g275.symm)
  have ne_rro_190_b275 : rro_190 ≠ b275 := Nat.ne_of_lt lt_rro_190_b275
  have lt_rro_201_b275 : rro_201 < b275 := Nat.lt_of_lt_of_le f271.lt (Nat.le_of_eq g275.symm)
  have ne_rro_201_b275 : rro_201 ≠ b275 := Nat.ne_of_lt lt_rro_201_b275
  have lt_rro_214_b275 : rro_214 < b275 := Nat.lt_of_lt_of_le f272.lt (Nat.le_of_eq g275.symm)
  have ne_rro_214_b275 : rro_214 ≠ b275 := Nat.ne_of_lt lt_rro_214_b275
  have lt_rro_229_b275 : rro_229 < b275 := Nat.lt_of_lt_of_le f273.lt (Nat.le_of_eq g275.symm)
  have ne_rro_229_b275 : rro_229 ≠ b275 := Nat.ne_of_lt lt_rro_229_b275
  have lt_rro_246_b275 : rro_246 < b275 := Nat.lt_of_lt_of_le f274.lt (Nat.le_of_eq g275.symm)
  have ne_rro_246_b275 : rro_246 ≠ b275 := Nat.ne_of_lt lt_rro_246_b275
  have lt_b265_b275 : b265 < b275 := Nat.lt_of_lt_of_le V265.lt (Nat.le_of_eq g275.symm)
  have ne_b265_b275 : b265 ≠ b275 := Nat.ne_of_lt lt_b265_b275
  have Zs275 : n0 ≤ h275.size := Nat.le_trans Zs265 E275.1
  have KK275 : Keep h0 h275 [] := KK265.ext E275
  have O275 := O265.ext E275
  have f276 := f266.ext E275
  have f277 := f267.ext E275
  have f278 := f268.ext E275
  have f279 := f269.ext E275
  have f280 := f270.ext E275
  have f281 := f271.ext E275
  have f282 := f272.ext E275
  have f283 := f273.ext E275
  have f284 := f274.ext E275
  have f285 := V265.ext E275
  have f286 : Fld Z h275 b275 "com/example/tresse/tresse/queue/LinkedQueue" "head" "Lcom/example/tresse/tresse/queue/LinkedQueue$Node;" .null := D275 (Or.inl (hw _ (List.mem_of_getElem? (i := 44) rfl))) (ty := (.object "com/example/tresse/tresse/queue/LinkedQueue$Node")) (by decide)
  have f287 : Fld Z h275 b275 "com/example/tresse/tresse/queue/LinkedQueue" "tail" "Lcom/example/tresse/tresse/queue/LinkedQueue$Node;" .null := D275 (Or.inl (hw _ (List.mem_of_getElem? (i := 46) rfl))) (ty := (.object "com/example/tresse/tresse/queue/LinkedQueue$Node")) (by decide)
  obtain ⟨_, _, ⟨T288, L288, k288, n288⟩, -, X288, ⟨Lc288, hQ288, l288, y288, z288⟩, st288⟩ := X275.specialBack hx (y := (⟨"com/example/tresse/tresse/queue/LinkedQueue", "<init>", "()V"⟩ : MethodName)) rfl hown (mvT hZ (hw _ (List.mem_of_getElem? (i := 30) rfl))) (mvT hZ (hw _ (List.mem_of_getElem? (i := 31) rfl))) (mvT hZ (hw _ (List.mem_of_getElem? (i := 32) rfl))) (by decide) (backOf (W := 1) (rm5 l Z a0 hw [] b275  h275 n0 Zs275 f286 f287 A275 g_b275) hZ (hw _ (List.mem_of_getElem? (i := 32) rfl)) (hw _ (List.mem_of_getElem? (i := 29) rfl)) (by decide) (by decide)) (g := (mkF m 106 #[.val (.int po), .val (.long qa), .second, .val (.long qb), .second, .val (.long qc), .second, .val (.long qd), .second, .val (.ref b168), .val (.ref b265), .unset, .unset] [(.ref b275), (.ref b275)])) rfl (by rw [hml]; rfl) (Steps.refl _) (a := b275) (argsL := []) (rest := [(.ref b275)]) (lenOf own_pd6 rfl) rfl (by show 2 * 0 + _ ≤ _; exact Nat.le_of_eq rfl) (hb hby at_106) (fun _ _ => ⟨rfl, e275, (by decide : 11 + 1 ≤ _), (by decide : 20 + 2 ≤ _)⟩)
  dsimp only [Pt.U, Pt.locs, Pt.cells, Pt.slots] at X288 l288 y288 z288 st288 hQ288
  rw [l288, y288, z288] at X288
  clear l288 y288 z288
  obtain ⟨rnb_288, rfl, Nq288, K288, p288_0, p288_1, p288_2, p288_3⟩ := hQ288
  have N288 := Fr.app N256 Nq288
  have Zs288 : n0 ≤ T288.heap.size := Nat.le_trans Zs275 K288.1
  have KK288 : Keep h0 T288.heap [] := KK275.trans K288 (allS (Or.inr sz_b275) all0)
  have O288 := O275.keep K288 (allS g_b275 all0)
  have f289 := f276.keep K288 (ninS ne_b168_b275 nin0)
  have f290 := f277.keep K288
  have f291 := f278.keep K288
  have f292 := f279.keep K288
  have f293 := f280.keep K288
  have f294 := f281.keep K288
  have f295 := f282.keep K288
  have f296 := f283.keep K288
  have f297 := f284.keep K288
  have f298 := f285.keep K288 (ninS ne_b265_b275 nin0)
  have f299 := A275.keep K288
  obtain ⟨rs, hrs0⟩ : ∃ rs, rs = [rro_169, rro_174, rro_181, rro_190, rro_201, rro_214, rro_229, rro_246] := ⟨_, rfl⟩
  have hrs : rs.length = 8 := by rw [hrs0]; rfl
  have I4 : Arv Z T288.heap b168 k168 (.object "java/lang/Integer") (8 : Int32) (rs.map Value.ref) .null := by rw [hrs0]; exact f289
  have I5 : Arv Z T288.heap b265 k265 .int (2 : Int32) [(.int (Int32.ofNat 0)), (.int (Int32.ofNat 0))] (.int (0 : Int32)) := f298
  have I6 : (∀ r ∈ rs, Exa Z T288.heap r "java/lang/Integer") := by rw [hrs0]; exact (allS f290 (allS f291 (allS f292 (allS f293 (allS f294 (allS f295 (allS f296 (allS f297 all0))))))))
  have I3 : own_ch Z T288.heap n0 rnb_288 ((rs.drop 0).take (0 - 0)) rnb_288 := p288_3
  have pre300 : ∀ t, Steps p.tables e below (T288.setTop (mkF m 111 #[.val (.int po), .val (.long qa), .second, .val (.long qb), .second, .val (.long qc), .second, .val (.long qd), .second, .val (.ref b168), .val (.ref b265), .val (.ref b275), .unset] [])) t → Steps p.tables e below G0 t := by
    intro t k
    refine pre0 t ?_
    show Steps p.tables e below (s₁.setTop (mkF m 0 #[.val (.int po), .val (.long qa), .second, .val (.long qb), .second, .val (.long qc), .second, .val (.long qd), .second, .unset, .unset, .unset, .unset] [])) _
    refine XS.bipush X0.here hx rfl (hb hby at_0) ?_
    show Steps p.tables e below (s₁.setTop (mkF m 2 #[.val (.int po), .val (.long qa), .second, .val (.long qb), .second, .val (.long qc), .second, .val (.long qd), .second, .unset, .unset, .unset, .unset] [(.int (8 : Int32))])) _
    refine st168 _ ?_
    show Steps p.tables e below (T168.setTop (mkF m 5 #[.val (.int po), .val (.long qa), .second, .val (.long qb), .second, .val (.long qc), .second, .val (.long qd), .second, .unset, .unset, .unset, .unset] [(.ref b168)])) _
    refine XS.astore X168.here hx rfl (hb hby at_5) rfl rfl (l' := #[.val (.int po), .val (.long qa), .second, .val (.long qb), .second, .val (.long qc), .second, .val (.long qd), .second, .val (.ref b168), .unset, .unset, .unset]) rfl ?_
    show Steps p.tables e below (T168.setTop (mkF m 7 #[.val (.int po), .val (.long qa), .second, .val (.long qb), .second, .val (.long qc), .second, .val (.long qd), .second, .val (.ref b168), .unset, .unset, .unset] [])) _
    refine XS.aload X168.here hx rfl (hb hby at_7) rfl rfl ?_
    show Steps p.tables e below (T168.setTop (mkF m 9 #[.val (.int po), .val (.long qa), .second, .val (.long qb), .second, .val (.long qc), .second, .val (.long qd), .second, .val (.ref b168), .unset, .unset, .unset] [(.ref b168)])) _
    refine XS.iconst X168.here hx rfl (hb hby at_9) ?_
    show Steps p.tables e below (T168.setTop (mkF m 10 #[.val (.int po), .val (.long qa), .second, .val (.long qb), .second, .val (.long qc), .second, .val (.long qd), .second, .val (.ref b168), .unset, .unset, .unset] [(.int (0 : Int32)), (.ref b168)])) _
    refine XS.lloadN X168.here hx rfl (hb hby at_10) rfl ?_
    show Steps p.tables e below (T168.setTop (mkF m 11 #[.val (.int po), .val (.long qa), .second, .val (.long qb), .second, .val (.long qc), .second, .val (.long qd), .second, .val (.ref b168), .unset, .unset, .unset] [(.long qa), (.int (0 : Int32)), (.ref b168)])) _
    refine XS.l2i X168.here hx rfl (hb hby at_11) rfl ?_
    show Steps p.tables e below (T168.setTop (mkF m 12 #[.val (.int po), .val (.long qa), .second, .val (.long qb), .second, .val (.long qc), .second, .val (.long qd), .second, .val (.ref b168), .unset, .unset, .unset] [(.int (qa.toInt32)), (.int (0 : Int32)), (.ref b168)])) _
    refine st169 _ ?_
    show Steps p.tables e below (T169.setTop (mkF m 15 #[.val (.int po), .val (.long qa), .second, .val (.long qb), .second, .val (.long qc), .second, .val (.long qd), .second, .val (.ref b168), .unset, .unset, .unset] [(.ref rro_169), (.int (0 : Int32)), (.ref b168)])) _
    refine st172 _ ?_
    show Steps p.tables e below (T172.setTop (mkF m 16 #[.val (.int po), .val (.long qa), .second, .val (.long qb), .second, .val (.long qc), .second, .val (.long qd), .second, .val (.ref b168), .unset, .unset, .unset] [])) _
    refine XS.aload X172.here hx rfl (hb hby at_16) rfl rfl ?_
    show Steps p.tables e below (T172.setTop (mkF m 18 #[.val (.int po), .val (.long qa), .second, .val (.long qb), .second, .val (.long qc), .second, .val (.long qd), .second, .val (.ref b168), .unset, .unset, .unset] [(.ref b168)])) _
    refine XS.iconst X172.here hx rfl (hb hby at_18) ?_
    show Steps p.tables e below (T172.setTop (mkF m 19 #[.val (.int po), .val (.long qa), .second, .val (.long qb), .second, .val (.long qc), .second, .val (.long qd), .second, .val (.ref b168), .unset, .unset, .unset] [(.int (1 : Int32)), (.ref b168)])) _
    refine XS.lloadN X172.here hx rfl (hb hby at_19) rfl ?_
    show Steps p.tables e below (T172.setTop (mkF m 20 #[.val (.int po), .val (.long qa), .second, .val (.long qb), .second, .val (.long qc), .second, .val (.long qd), .second, .val (.ref b168), .unset, .unset, .unset] [(.long qa), (.int (1 : Int32)), (.ref b168)])) _
    refine XS.bipush X172.here hx rfl (hb hby at_20) ?_
    show Steps p.tables e below (T172.setTop (mkF m 22 #[.val (.int po), .val (.long qa), .second, .val (.long qb), .second, .val (.long qc), .second, .val (.long qd), .second, .val (.ref b168), .unset, .unset, .unset] [(.int (32 : Int32)), (.long qa), (.int (1 : Int32)), (.ref b168)])) _
    refine XS.lushr X172.here hx rfl (hb hby at_22) rfl ?_
    show Steps p.tables e below (T172.setTop (mkF m 23 #[.val (.int po), .val (.long qa), .second, .val (.long qb), .second, .val (.long qc), .second, .val (.long qd), .second, .val (.ref b168), .unset, .unset, .unset] [(.long ((qa.toUInt64 >>> ((32 : Int32) &&& 0x3f).toInt64.toUInt64).toInt64)), (.int (1 : Int32)), (.ref b168)])) _
    refine XS.l2i X172.here hx rfl (hb hby at_23) rfl ?_
    show Steps p.tables e below (T172.setTop (mkF m 24 #[.val (.int po), .val (.long qa), .second, .val (.long qb), .second, .val (.long qc), .second, .val (.long qd), .second, .val (.ref b168), .unset, .unset, .unset] [(.int (((qa.toUInt64 >>> ((32 : Int32) &&& 0x3f).toInt64.toUInt64).toInt64).toInt32)), (.int (1 : Int32)), (.ref b168)])) _
    refine st174 _ ?_
    show Steps p.tables e below (T174.setTop (mkF m 27 #[.val (.int po), .val (.long qa), .second, .val (.long qb), .second, .val (.long qc), .second, .val (.long qd), .second, .val (.ref b168), .unset, .unset, .unset] [(.ref rro_174), (.int (1 : Int32)), (.ref b168)])) _
    refine st178 _ ?_
    show Steps p.tables e below (T178.setTop (mkF m 28 #[.val (.int po), .val (.long qa), .second, .val (.long qb), .second, .val (.long qc), .second, .val (.long qd), .second, .val (.ref b168), .unset, .unset, .unset] [])) _
    refine XS.aload X178.here hx rfl (hb hby at_28) rfl rfl ?_
    show Steps p.tables e below (T178.setTop (mkF m 30 #[.val (.int po), .val (.long qa), .second, .val (.long qb), .second, .val (.long qc), .second, .val (.long qd), .second, .val (.ref b168), .unset, .unset, .unset] [(.ref b168)])) _
    refine XS.iconst X178.here hx rfl (hb hby at_30) ?_
    show Steps p.tables e below (T178.setTop (mkF m 31 #[.val (.int po), .val (.long qa), .second, .val (.long qb), .second, .val (.long qc), .second, .val (.long qd), .second, .val (.ref b168), .unset, .unset, .unset] [(.int (2 : Int32)), (.ref b168)])) _
    refine XS.lloadN X178.here hx rfl (hb hby at_31) rfl ?_
    show Steps p.tables e below (T178.setTop (mkF m 32 #[.val (.int po), .val (.long qa), .second, .val (.long qb), .second, .val (.long qc), .second, .val (.long qd), .second, .val (.ref b168), .unset, .unset, .unset] [(.long qb), (.int (2 : Int32)), (.ref b168)])) _
    refine XS.l2i X178.here hx rfl (hb hby at_32) rfl ?_
    show Steps p.tables e below (T178.setTop (mkF m 33 #[.val (.int po), .val (.long qa), .second, .val (.long qb), .second, .val (.long qc), .second, .val (.long qd), .second, .val (.ref b168), .unset, .unset, .unset] [(.int (qb.toInt32)), (.int (2 : Int32)), (.ref b168)])) _
    refine st181 _ ?_
    show Steps p.tables e below (T181.setTop (mkF m 36 #[.val (.int po), .val (.long qa), .second, .val (.long qb), .second, .val (.long qc), .second, .val (.long qd), .second, .val (.ref b168), .unset, .unset, .unset] [(.ref rro_181), (.int (2 : Int32)), (.ref b168)])) _
    refine st186 _ ?_
    show Steps p.tables e below (T186.setTop (mkF m 37 #[.val (.int po), .val (.long qa), .second, .val (.long qb), .second, .val (.long qc), .second, .val (.long qd), .second, .val (.ref b168), .unset, .unset, .unset] [])) _
    refine XS.aload X186.here hx rfl (hb hby at_37) rfl rfl ?_
    show Steps p.tables e below (T186.setTop (mkF m 39 #[.val (.int po), .val (.long qa), .second, .val (.long qb), .second, .val (.long qc), .second, .val (.long qd), .second, .val (.ref b168), .unset, .unset, .unset] [(.ref b168)])) _
    refine XS.iconst X186.here hx rfl (hb hby at_39) ?_
    show Steps p.tables e below (T186.setTop (mkF m 40 #[.val (.int po), .val (.long qa), .second, .val (.long qb), .second, .val (.long qc), .second, .val (.long qd), .second, .val (.ref b168), .unset, .unset, .unset] [(.int (3 : Int32)), (.ref b168)])) _
    refine XS.lloadN X186.here hx rfl (hb hby at_40) rfl ?_
    show Steps p.tables e below (T186.setTop (mkF m 41 #[.val (.int po), .val (.long qa), .second, .val (.long qb), .second, .val (.long qc), .second, .val (.long qd), .second, .val (.ref b168), .unset, .unset, .unset] [(.long qb), (.int (3 : Int32)), (.ref b168)])) _
    refine XS.bipush X186.here hx rfl (hb hby at_41) ?_
    show Steps p.tables e below (T186.setTop (mkF m 43 #[.val (.int po), .val (.long qa), .second, .val (.long qb), .second, .val (.long qc), .second, .val (.long qd), .second, .val (.ref b168), .unset, .unset, .unset] [(.int (32 : Int32)), (.long qb), (.int (3 : Int32)), (.ref b168)])) _
    refine XS.lushr X186.here hx rfl (hb hby at_43) rfl ?_
    show Steps p.tables e below (T186.setTop (mkF m 44 #[.val (.int po), .val (.long qa), .second, .val (.long qb), .second, .val (.long qc), .second, .val (.long qd), .second, .val (.ref b168), .unset, .unset, .unset] [(.long ((qb.toUInt64 >>> ((32 : Int32) &&& 0x3f).toInt64.toUInt64).toInt64)), (.int (3 : Int32)), (.ref b168)])) _
    refine XS.l2i X186.here hx rfl (hb hby at_44) rfl ?_
    show Steps p.tables e below (T186.setTop (mkF m 45 #[.val (.int po), .val (.long qa), .second, .val (.long qb), .second, .val (.long qc), .second, .val (.long qd), .second, .val (.ref b168), .unset, .unset, .unset] [(.int (((qb.toUInt64 >>> ((32 : Int32) &&& 0x3f).toInt64.toUInt64).toInt64).toInt32)), (.int (3 : Int32)), (.ref b168)])) _
    refine st190 _ ?_
    show Steps p.tables e below (T190.setTop (mkF m 48 #[.val (.int po), .val (.long qa), .second, .val (.long qb), .second, .val (.long qc), .second, .val (.long qd), .second, .val (.ref b168), .unset, .unset, .unset] [(.ref rro_190), (.int (3 : Int32)), (.ref b168)])) _
    refine st196 _ ?_
    show Steps p.tables e below (T196.setTop (mkF m 49 #[.val (.int po), .val (.long qa), .second, .val (.long qb), .second, .val (.long qc), .second, .val (.long qd), .second, .val (.ref b168), .unset, .unset, .unset] [])) _
    refine XS.aload X196.here hx rfl (hb hby at_49) rfl rfl ?_
    show Steps p.tables e below (T196.setTop (mkF m 51 #[.val (.int po), .val (.long qa), .second, .val (.long qb), .second, .val (.long qc), .second, .val (.long qd), .second, .val (.ref b168), .unset, .unset, .unset] [(.ref b168)])) _
    refine XS.iconst X196.here hx rfl (hb hby at_51) ?_
    show Steps p.tables e below (T196.setTop (mkF m 52 #[.val (.int po), .val (.long qa), .second, .val (.long qb), .second, .val (.long qc), .second, .val (.long qd), .second, .val (.ref b168), .unset, .unset, .unset] [(.int (4 : Int32)), (.ref b168)])) _
    refine XS.lload X196.here hx rfl (hb hby at_52) rfl ?_
    show Steps p.tables e below (T196.setTop (mkF m 54 #[.val (.int po), .val (.long qa), .second, .val (.long qb), .second, .val (.long qc), .second, .val (.long qd), .second, .val (.ref b168), .unset, .unset, .unset] [(.long qc), (.int (4 : Int32)), (.ref b168)])) _
    refine XS.l2i X196.here hx rfl (hb hby at_54) rfl ?_
    show Steps p.tables e below (T196.setTop (mkF m 55 #[.val (.int po), .val (.long qa), .second, .val (.long qb), .second, .val (.long qc), .second, .val (.long qd), .second, .val (.ref b168), .unset, .unset, .unset] [(.int (qc.toInt32)), (.int (4 : Int32)), (.ref b168)])) _
    refine st201 _ ?_
    show Steps p.tables e below (T201.setTop (mkF m 58 #[.val (.int po), .val (.long qa), .second, .val (.long qb), .second, .val (.long qc), .second, .val (.long qd), .second, .val (.ref b168), .unset, .unset, .unset] [(.ref rro_201), (.int (4 : Int32)), (.ref b168)])) _
    refine st208 _ ?_
    show Steps p.tables e below (T208.setTop (mkF m 59 #[.val (.int po), .val (.long qa), .second, .val (.long qb), .second, .val (.long qc), .second, .val (.long qd), .second, .val (.ref b168), .unset, .unset, .unset] [])) _
    refine XS.aload X208.here hx rfl (hb hby at_59) rfl rfl ?_
    show Steps p.tables e below (T208.setTop (mkF m 61 #[.val (.int po), .val (.long qa), .second, .val (.long qb), .second, .val (.long qc), .second, .val (.long qd), .second, .val (.ref b168), .unset, .unset, .unset] [(.ref b168)])) _
    refine XS.iconst X208.here hx rfl (hb hby at_61) ?_
    show Steps p.tables e below (T208.setTop (mkF m 62 #[.val (.int po), .val (.long qa), .second, .val (.long qb), .second, .val (.long qc), .second, .val (.long qd), .second, .val (.ref b168), .unset, .unset, .unset] [(.int (5 : Int32)), (.ref b168)])) _
    refine XS.lload X208.here hx rfl (hb hby at_62) rfl ?_
    show Steps p.tables e below (T208.setTop (mkF m 64 #[.val (.int po), .val (.long qa), .second, .val (.long qb), .second, .val (.long qc), .second, .val (.long qd), .second, .val (.ref b168), .unset, .unset, .unset] [(.long qc), (.int (5 : Int32)), (.ref b168)])) _
    refine XS.bipush X208.here hx rfl (hb hby at_64) ?_
    show Steps p.tables e below (T208.setTop (mkF m 66 #[.val (.int po), .val (.long qa), .second, .val (.long qb), .second, .val (.long qc), .second, .val (.long qd), .second, .val (.ref b168), .unset, .unset, .unset] [(.int (32 : Int32)), (.long qc), (.int (5 : Int32)), (.ref b168)])) _
    refine XS.lushr X208.here hx rfl (hb hby at_66) rfl ?_
    show Steps p.tables e below (T208.setTop (mkF m 67 #[.val (.int po), .val (.long qa), .second, .val (.long qb), .second, .val (.long qc), .second, .val (.long qd), .second, .val (.ref b168), .unset, .unset, .unset] [(.long ((qc.toUInt64 >>> ((32 : Int32) &&& 0x3f).toInt64.toUInt64).toInt64)), (.int (5 : Int32)), (.ref b168)])) _
    refine XS.l2i X208.here hx rfl (hb hby at_67) rfl ?_
    show Steps p.tables e below (T208.setTop (mkF m 68 #[.val (.int po), .val (.long qa), .second, .val (.long qb), .second, .val (.long qc), .second, .val (.long qd), .second, .val (.ref b168), .unset, .unset, .unset] [(.int (((qc.toUInt64 >>> ((32 : Int32) &&& 0x3f).toInt64.toUInt64).toInt64).toInt32)), (.int (5 : Int32)), (.ref b168)])) _
    refine st214 _ ?_
    show Steps p.tables e below (T214.setTop (mkF m 71 #[.val (.int po), .val (.long qa), .second, .val (.long qb), .second, .val (.long qc), .second, .val (.long qd), .second, .val (.ref b168), .unset, .unset, .unset] [(.ref rro_214), (.int (5 : Int32)), (.ref b168)])) _
    refine st222 _ ?_
    show Steps p.tables e below (T222.setTop (mkF m 72 #[.val (.int po), .val (.long qa), .second, .val (.long qb), .second, .val (.long qc), .second, .val (.long qd), .second, .val (.ref b168), .unset, .unset, .unset] [])) _
    refine XS.aload X222.here hx rfl (hb hby at_72) rfl rfl ?_
    show Steps p.tables e below (T222.setTop (mkF m 74 #[.val (.int po), .val (.long qa), .second, .val (.long qb), .second, .val (.long qc), .second, .val (.long qd), .second, .val (.ref b168), .unset, .unset, .unset] [(.ref b168)])) _
    refine XS.bipush X222.here hx rfl (hb hby at_74) ?_
    show Steps p.tables e below (T222.setTop (mkF m 76 #[.val (.int po), .val (.long qa), .second, .val (.long qb), .second, .val (.long qc), .second, .val (.long qd), .second, .val (.ref b168), .unset, .unset, .unset] [(.int (6 : Int32)), (.ref b168)])) _
    refine XS.lload X222.here hx rfl (hb hby at_76) rfl ?_
    show Steps p.tables e below (T222.setTop (mkF m 78 #[.val (.int po), .val (.long qa), .second, .val (.long qb), .second, .val (.long qc), .second, .val (.long qd), .second, .val (.ref b168), .unset, .unset, .unset] [(.long qd), (.int (6 : Int32)), (.ref b168)])) _
    refine XS.l2i X222.here hx rfl (hb hby at_78) rfl ?_
    show Steps p.tables e below (T222.setTop (mkF m 79 #[.val (.int po), .val (.long qa), .second, .val (.long qb), .second, .val (.long qc), .second, .val (.long qd), .second, .val (.ref b168), .unset, .unset, .unset] [(.int (qd.toInt32)), (.int (6 : Int32)), (.ref b168)])) _
    refine st229 _ ?_
    show Steps p.tables e below (T229.setTop (mkF m 82 #[.val (.int po), .val (.long qa), .second, .val (.long qb), .second, .val (.long qc), .second, .val (.long qd), .second, .val (.ref b168), .unset, .unset, .unset] [(.ref rro_229), (.int (6 : Int32)), (.ref b168)])) _
    refine st238 _ ?_
    show Steps p.tables e below (T238.setTop (mkF m 83 #[.val (.int po), .val (.long qa), .second, .val (.long qb), .second, .val (.long qc), .second, .val (.long qd), .second, .val (.ref b168), .unset, .unset, .unset] [])) _
    refine XS.aload X238.here hx rfl (hb hby at_83) rfl rfl ?_
    show Steps p.tables e below (T238.setTop (mkF m 85 #[.val (.int po), .val (.long qa), .second, .val (.long qb), .second, .val (.long qc), .second, .val (.long qd), .second, .val (.ref b168), .unset, .unset, .unset] [(.ref b168)])) _
    refine XS.bipush X238.here hx rfl (hb hby at_85) ?_
    show Steps p.tables e below (T238.setTop (mkF m 87 #[.val (.int po), .val (.long qa), .second, .val (.long qb), .second, .val (.long qc), .second, .val (.long qd), .second, .val (.ref b168), .unset, .unset, .unset] [(.int (7 : Int32)), (.ref b168)])) _
    refine XS.lload X238.here hx rfl (hb hby at_87) rfl ?_
    show Steps p.tables e below (T238.setTop (mkF m 89 #[.val (.int po), .val (.long qa), .second, .val (.long qb), .second, .val (.long qc), .second, .val (.long qd), .second, .val (.ref b168), .unset, .unset, .unset] [(.long qd), (.int (7 : Int32)), (.ref b168)])) _
    refine XS.bipush X238.here hx rfl (hb hby at_89) ?_
    show Steps p.tables e below (T238.setTop (mkF m 91 #[.val (.int po), .val (.long qa), .second, .val (.long qb), .second, .val (.long qc), .second, .val (.long qd), .second, .val (.ref b168), .unset, .unset, .unset] [(.int (32 : Int32)), (.long qd), (.int (7 : Int32)), (.ref b168)])) _
    refine XS.lushr X238.here hx rfl (hb hby at_91) rfl ?_
    show Steps p.tables e below (T238.setTop (mkF m 92 #[.val (.int po), .val (.long qa), .second, .val (.long qb), .second, .val (.long qc), .second, .val (.long qd), .second, .val (.ref b168), .unset, .unset, .unset] [(.long ((qd.toUInt64 >>> ((32 : Int32) &&& 0x3f).toInt64.toUInt64).toInt64)), (.int (7 : Int32)), (.ref b168)])) _
    refine XS.l2i X238.here hx rfl (hb hby at_92) rfl ?_
    show Steps p.tables e below (T238.setTop (mkF m 93 #[.val (.int po), .val (.long qa), .second, .val (.long qb), .second, .val (.long qc), .second, .val (.long qd), .second, .val (.ref b168), .unset, .unset, .unset] [(.int (((qd.toUInt64 >>> ((32 : Int32) &&& 0x3f).toInt64.toUInt64).toInt64).toInt32)), (.int (7 : Int32)), (.ref b168)])) _
    refine st246 _ ?_
    show Steps p.tables e below (T246.setTop (mkF m 96 #[.val (.int po), .val (.long qa), .second, .val (.long qb), .second, .val (.long qc), .second, .val (.long qd), .second, .val (.ref b168), .unset, .unset, .unset] [(.ref rro_246), (.int (7 : Int32)), (.ref b168)])) _
    refine st256 _ ?_
    show Steps p.tables e below (T256.setTop (mkF m 97 #[.val (.int po), .val (.long qa), .second, .val (.long qb), .second, .val (.long qc), .second, .val (.long qd), .second, .val (.ref b168), .unset, .unset, .unset] [])) _
    refine XS.iconst X256.here hx rfl (hb hby at_97) ?_
    show Steps p.tables e below (T256.setTop (mkF m 98 #[.val (.int po), .val (.long qa), .second, .val (.long qb), .second, .val (.long qc), .second, .val (.long qd), .second, .val (.ref b168), .unset, .unset, .unset] [(.int (2 : Int32))])) _
    refine st265 _ ?_
    show Steps p.tables e below (T265.setTop (mkF m 100 #[.val (.int po), .val (.long qa), .second, .val (.long qb), .second, .val (.long qc), .second, .val (.long qd), .second, .val (.ref b168), .unset, .unset, .unset] [(.ref b265)])) _
    refine XS.astore X265.here hx rfl (hb hby at_100) rfl rfl (l' := #[.val (.int po), .val (.long qa), .second, .val (.long qb), .second, .val (.long qc), .second, .val (.long qd), .second, .val (.ref b168), .val (.ref b265), .unset, .unset]) rfl ?_
    show Steps p.tables e below (T265.setTop (mkF m 102 #[.val (.int po), .val (.long qa), .second, .val (.long qb), .second, .val (.long qc), .second, .val (.long qd), .second, .val (.ref b168), .val (.ref b265), .unset, .unset] [])) _
    refine st275 _ ?_
    show Steps p.tables e below (T275.setTop (mkF m 105 #[.val (.int po), .val (.long qa), .second, .val (.long qb), .second, .val (.long qc), .second, .val (.long qd), .second, .val (.ref b168), .val (.ref b265), .unset, .unset] [(.ref b275)])) _
    refine XS.dup X275.here hx rfl (hb hby at_105) rfl rfl ?_
    show Steps p.tables e below (T275.setTop (mkF m 106 #[.val (.int po), .val (.long qa), .second, .val (.long qb), .second, .val (.long qc), .second, .val (.long qd), .second, .val (.ref b168), .val (.ref b265), .unset, .unset] [(.ref b275), (.ref b275)])) _
    refine st288.trans ?_
    show Steps p.tables e below (T288.setTop (mkF m 109 #[.val (.int po), .val (.long qa), .second, .val (.long qb), .second, .val (.long qc), .second, .val (.long qd), .second, .val (.ref b168), .val (.ref b265), .unset, .unset] [(.ref b275)])) _
    refine XS.astore X288.here hx rfl (hb hby at_109) rfl rfl (l' := #[.val (.int po), .val (.long qa), .second, .val (.long qb), .second, .val (.long qc), .second, .val (.long qd), .second, .val (.ref b168), .val (.ref b265), .val (.ref b275), .unset]) rfl ?_
    exact k
  obtain ⟨v133_305, hv308, pre307⟩ : ∃ (v133_305 : Int32), (True) ∧ ∀ t, Steps p.tables e below (T288.setTop (mkF m 133 #[.val (.int po), .val (.long qa), .second, .val (.long qb), .second, .val (.long qc), .second, .val (.long qd), .second, .val (.ref b168), .val (.ref b265), .val (.ref b275), .val (.int (1 : Int32))] [(.int v133_305), (.ref b265), (.ref b168), (.ref b275), (.int (1 : Int32))])) t → Steps p.tables e below G0 t := by
    have pre301 : ∀ t, Steps p.tables e below (T288.setTop (mkF m 125 #[.val (.int po), .val (.long qa), .second, .val (.long qb), .second, .val (.long qc), .second, .val (.long qd), .second, .val (.ref b168), .val (.ref b265), .val (.ref b275), .val (.int (1 : Int32))] [(.int (po &&& (1 : Int32))), (.ref b265), (.ref b168), (.ref b275), (.int (1 : Int32))])) t → Steps p.tables e below G0 t := by
      intro t k
      refine pre300 t ?_
      show Steps p.tables e below (T288.setTop (mkF m 111 #[.val (.int po), .val (.long qa), .second, .val (.long qb), .second, .val (.long qc), .second, .val (.long qd), .second, .val (.ref b168), .val (.ref b265), .val (.ref b275), .unset] [])) _
      refine XS.iconst X288.here hx rfl (hb hby at_111) ?_
      show Steps p.tables e below (T288.setTop (mkF m 112 #[.val (.int po), .val (.long qa), .second, .val (.long qb), .second, .val (.long qc), .second, .val (.long qd), .second, .val (.ref b168), .val (.ref b265), .val (.ref b275), .unset] [(.int (1 : Int32))])) _
      refine XS.istore X288.here hx rfl (hb hby at_112) rfl (l' := #[.val (.int po), .val (.long qa), .second, .val (.long qb), .second, .val (.long qc), .second, .val (.long qd), .second, .val (.ref b168), .val (.ref b265), .val (.ref b275), .val (.int (1 : Int32))]) rfl ?_
      show Steps p.tables e below (T288.setTop (mkF m 114 #[.val (.int po), .val (.long qa), .second, .val (.long qb), .second, .val (.long qc), .second, .val (.long qd), .second, .val (.ref b168), .val (.ref b265), .val (.ref b275), .val (.int (1 : Int32))] [])) _
      refine XS.iload X288.here hx rfl (hb hby at_114) rfl ?_
      show Steps p.tables e below (T288.setTop (mkF m 116 #[.val (.int po), .val (.long qa), .second, .val (.long qb), .second, .val (.long qc), .second, .val (.long qd), .second, .val (.ref b168), .val (.ref b265), .val (.ref b275), .val (.int (1 : Int32))] [(.int (1 : Int32))])) _
      refine XS.aload X288.here hx rfl (hb hby at_116) rfl rfl ?_
      show Steps p.tables e below (T288.setTop (mkF m 118 #[.val (.int po), .val (.long qa), .second, .val (.long qb), .second, .val (.long qc), .second, .val (.long qd), .second, .val (.ref b168), .val (.ref b265), .val (.ref b275), .val (.int (1 : Int32))] [(.ref b275), (.int (1 : Int32))])) _
      refine XS.aload X288.here hx rfl (hb hby at_118) rfl rfl ?_
      show Steps p.tables e below (T288.setTop (mkF m 120 #[.val (.int po), .val (.long qa), .second, .val (.long qb), .second, .val (.long qc), .second, .val (.long qd), .second, .val (.ref b168), .val (.ref b265), .val (.ref b275), .val (.int (1 : Int32))] [(.ref b168), (.ref b275), (.int (1 : Int32))])) _
      refine XS.aload X288.here hx rfl (hb hby at_120) rfl rfl ?_
      show Steps p.tables e below (T288.setTop (mkF m 122 #[.val (.int po), .val (.long qa), .second, .val (.long qb), .second, .val (.long qc), .second, .val (.long qd), .second, .val (.ref b168), .val (.ref b265), .val (.ref b275), .val (.int (1 : Int32))] [(.ref b265), (.ref b168), (.ref b275), (.int (1 : Int32))])) _
      refine XS.iloadN X288.here hx rfl (hb hby at_122) rfl ?_
      show Steps p.tables e below (T288.setTop (mkF m 123 #[.val (.int po), .val (.long qa), .second, .val (.long qb), .second, .val (.long qc), .second, .val (.long qd), .second, .val (.ref b168), .val (.ref b265), .val (.ref b275), .val (.int (1 : Int32))] [(.int po), (.ref b265), (.ref b168), (.ref b275), (.int (1 : Int32))])) _
      refine XS.iconst X288.here hx rfl (hb hby at_123) ?_
      show Steps p.tables e below (T288.setTop (mkF m 124 #[.val (.int po), .val (.long qa), .second, .val (.long qb), .second, .val (.long qc), .second, .val (.long qd), .second, .val (.ref b168), .val (.ref b265), .val (.ref b275), .val (.int (1 : Int32))] [(.int (1 : Int32)), (.int po), (.ref b265), (.ref b168), (.ref b275), (.int (1 : Int32))])) _
      refine XS.iand X288.here hx rfl (hb hby at_124) rfl ?_
      exact k
    by_cases hc125_302 : (po &&& (1 : Int32)) = (0 : Int32)
    · have pre303 : ∀ t, Steps p.tables e below (T288.setTop (mkF m 133 #[.val (.int po), .val (.long qa), .second, .val (.long qb), .second, .val (.long qc), .second, .val (.long qd), .second, .val (.ref b168), .val (.ref b265), .val (.ref b275), .val (.int (1 : Int32))] [(.int (0 : Int32)), (.ref b265), (.ref b168), (.ref b275), (.int (1 : Int32))])) t → Steps p.tables e below G0 t := by
        intro t k
        refine pre301 t ?_
        show Steps p.tables e below (T288.setTop (mkF m 125 #[.val (.int po), .val (.long qa), .second, .val (.long qb), .second, .val (.long qc), .second, .val (.long qd), .second, .val (.ref b168), .val (.ref b265), .val (.ref b275), .val (.int (1 : Int32))] [(.int (po &&& (1 : Int32))), (.ref b265), (.ref b168), (.ref b275), (.int (1 : Int32))])) _
        refine XS.ifYes X288.here hx rfl (pc0 := 125) (pc' := 132) rfl (hb hby at_125) rfl ((if0 _ _).trans (teq hc125_302).1) (by decide) (by decide) ?_
        show Steps p.tables e below (T288.setTop (mkF m 132 #[.val (.int po), .val (.long qa), .second, .val (.long qb), .second, .val (.long qc), .second, .val (.long qd), .second, .val (.ref b168), .val (.ref b265), .val (.ref b275), .val (.int (1 : Int32))] [(.ref b265), (.ref b168), (.ref b275), (.int (1 : Int32))])) _
        refine XS.iconst X288.here hx rfl (hb hby at_132) ?_
        exact k
      exact ⟨(0 : Int32), (by trivial), pre303⟩
    · have pre304 : ∀ t, Steps p.tables e below (T288.setTop (mkF m 133 #[.val (.int po), .val (.long qa), .second, .val (.long qb), .second, .val (.long qc), .second, .val (.long qd), .second, .val (.ref b168), .val (.ref b265), .val (.ref b275), .val (.int (1 : Int32))] [(.int (1 : Int32)), (.ref b265), (.ref b168), (.ref b275), (.int (1 : Int32))])) t → Steps p.tables e below G0 t := by
        intro t k
        refine pre301 t ?_
        show Steps p.tables e below (T288.setTop (mkF m 125 #[.val (.int po), .val (.long qa), .second, .val (.long qb), .second, .val (.long qc), .second, .val (.long qd), .second, .val (.ref b168), .val (.ref b265), .val (.ref b275), .val (.int (1 : Int32))] [(.int (po &&& (1 : Int32))), (.ref b265), (.ref b168), (.ref b275), (.int (1 : Int32))])) _
        refine XS.ifNo X288.here hx rfl (hb hby at_125) rfl ((if0 _ _).trans (feq hc125_302).1) ?_
        show Steps p.tables e below (T288.setTop (mkF m 128 #[.val (.int po), .val (.long qa), .second, .val (.long qb), .second, .val (.long qc), .second, .val (.long qd), .second, .val (.ref b168), .val (.ref b265), .val (.ref b275), .val (.int (1 : Int32))] [(.ref b265), (.ref b168), (.ref b275), (.int (1 : Int32))])) _
        refine XS.iconst X288.here hx rfl (hb hby at_128) ?_
        show Steps p.tables e below (T288.setTop (mkF m 129 #[.val (.int po), .val (.long qa), .second, .val (.long qb), .second, .val (.long qc), .second, .val (.long qd), .second, .val (.ref b168), .val (.ref b265), .val (.ref b275), .val (.int (1 : Int32))] [(.int (1 : Int32)), (.ref b265), (.ref b168), (.ref b275), (.int (1 : Int32))])) _
        refine XS.goto X288.here hx rfl (pc0 := 129) (pc' := 133) rfl (hb hby at_129) (by decide) (by decide) ?_
        exact k
      exact ⟨(1 : Int32), (by trivial), pre304⟩
  obtain ⟨_, _, ⟨T309, L309, k309, n309⟩, -, X309, ⟨Lc309, hQ309, l309, y309, z309⟩, st309⟩ := Jvm.LawKit.callS X288 hx (y := (⟨"com/example/tresse/tresse/queue/LinkedQueueDequeuePinLaw", "step", "(Lcom/example/tresse/tresse/queue/LinkedQueue;[Ljava/lang/Integer;[IZ)Z"⟩ : MethodName)) hown (mvT hZ (hw _ (List.mem_of_getElem? (i := 47) rfl))) (mvT hZ (hw _ (List.mem_of_getElem? (i := 48) rfl))) (mvT hZ (hw _ (List.mem_of_getElem? (i := 49) rfl))) (mvT hZ (hw _ (List.mem_of_getElem? (i := 50) rfl))) (by decide) (backOf (W := 1) (rm7 l Z a0 hw [] b275 b168 b265 v133_305 k168 k265 0 0 rnb_288 rnb_288 rs T288.heap n0 Zs288 p288_0 p288_1 p288_2 I3 I4 I5 I6 (by decide) (by decide) hrs g_b275 g_b265 ne_b168_b265) hZ (hw _ (List.mem_of_getElem? (i := 50) rfl)) (hw _ (List.mem_of_getElem? (i := 49) rfl)) (by decide) (by decide)) (g := (mkF m 133 #[.val (.int po), .val (.long qa), .second, .val (.long qb), .second, .val (.long qc), .second, .val (.long qd), .second, .val (.ref b168), .val (.ref b265), .val (.ref b275), .val (.int (1 : Int32))] [(.int v133_305), (.ref b265), (.ref b168), (.ref b275), (.int (1 : Int32))])) rfl (by rw [hml]; rfl) (argsL := [(.ref b275), (.ref b168), (.ref b265), (.int v133_305)]) (rest := [(.int (1 : Int32))]) (lenOf own_pd149 rfl) rfl (by show 2 * 0 + _ ≤ _; exact Nat.le_of_eq rfl) (hb hby at_133) (fun _ _ => ⟨rfl, rfl, (by decide : 12 + 1 ≤ _), (by decide : 22 + 2 ≤ _)⟩)
  dsimp only [Pt.U, Pt.locs, Pt.cells, Pt.slots] at X309 l309 y309 z309 st309 hQ309
  rw [l309, y309, z309] at X309
  clear l309 y309 z309
  obtain ⟨ri2_309, rj2_309, rah2_309, rat2_309, rfl, Nq309, Zs309, p309_0, p309_1, p309_2, p309_3, p309_4, p309_5, p309_6, p309_7⟩ := hQ309
  have N309 := Fr.app N288 Nq309
  have hb309 : ri2_309 ≤ 1 := p309_7.2
  have pre310 : ∀ t, Steps p.tables e below (T309.setTop (mkF m 136 #[.val (.int po), .val (.long qa), .second, .val (.long qb), .second, .val (.long qc), .second, .val (.long qd), .second, .val (.ref b168), .val (.ref b265), .val (.ref b275), .val (.int (1 : Int32))] [(.int (1 : Int32)), (.int (1 : Int32))])) t → Steps p.tables e below G0 t := by
    intro t k
    refine pre307 t ?_
    show Steps p.tables e below (T288.setTop (mkF m 133 #[.val (.int po), .val (.long qa), .second, .val (.long qb), .second, .val (.long qc), .second, .val (.long qd), .second, .val (.ref b168), .val (.ref b265), .val (.ref b275), .val (.int (1 : Int32))] [(.int v133_305), (.ref b265), (.ref b168), (.ref b275), (.int (1 : Int32))])) _
    refine st309 _ ?_
    exact k
  obtain ⟨v158_315, hv318, pre317⟩ : ∃ (v158_315 : Int32), (True) ∧ ∀ t, Steps p.tables e below (T309.setTop (mkF m 158 #[.val (.int po), .val (.long qa), .second, .val (.long qb), .second, .val (.long qc), .second, .val (.long qd), .second, .val (.ref b168), .val (.ref b265), .val (.ref b275), .val (.int (1 : Int32))] [(.int v158_315), (.ref b265), (.ref b168), (.ref b275), (.int (1 : Int32))])) t → Steps p.tables e below G0 t := by
    have pre311 : ∀ t, Steps p.tables e below (T309.setTop (mkF m 150 #[.val (.int po), .val (.long qa), .second, .val (.long qb), .second, .val (.long qc), .second, .val (.long qd), .second, .val (.ref b168), .val (.ref b265), .val (.ref b275), .val (.int (1 : Int32))] [(.int (po &&& (2 : Int32))), (.ref b265), (.ref b168), (.ref b275), (.int (1 : Int32))])) t → Steps p.tables e below G0 t := by
      intro t k
      refine pre310 t ?_
      show Steps p.tables e below (T309.setTop (mkF m 136 #[.val (.int po), .val (.long qa), .second, .val (.long qb), .second, .val (.long qc), .second, .val (.long qd), .second, .val (.ref b168), .val (.ref b265), .val (.ref b275), .val (.int (1 : Int32))] [(.int (1 : Int32)), (.int (1 : Int32))])) _
      refine XS.iand X309.here hx rfl (hb hby at_136) rfl ?_
      show Steps p.tables e below (T309.setTop (mkF m 137 #[.val (.int po), .val (.long qa), .second, .val (.long qb), .second, .val (.long qc), .second, .val (.long qd), .second, .val (.ref b168), .val (.ref b265), .val (.ref b275), .val (.int (1 : Int32))] [(.int (1 : Int32))])) _
      refine XS.istore X309.here hx rfl (hb hby at_137) rfl (l' := #[.val (.int po), .val (.long qa), .second, .val (.long qb), .second, .val (.long qc), .second, .val (.long qd), .second, .val (.ref b168), .val (.ref b265), .val (.ref b275), .val (.int (1 : Int32))]) rfl ?_
      show Steps p.tables e below (T309.setTop (mkF m 139 #[.val (.int po), .val (.long qa), .second, .val (.long qb), .second, .val (.long qc), .second, .val (.long qd), .second, .val (.ref b168), .val (.ref b265), .val (.ref b275), .val (.int (1 : Int32))] [])) _
      refine XS.iload X309.here hx rfl (hb hby at_139) rfl ?_
      show Steps p.tables e below (T309.setTop (mkF m 141 #[.val (.int po), .val (.long qa), .second, .val (.long qb), .second, .val (.long qc), .second, .val (.long qd), .second, .val (.ref b168), .val (.ref b265), .val (.ref b275), .val (.int (1 : Int32))] [(.int (1 : Int32))])) _
      refine XS.aload X309.here hx rfl (hb hby at_141) rfl rfl ?_
      show Steps p.tables e below (T309.setTop (mkF m 143 #[.val (.int po), .val (.long qa), .second, .val (.long qb), .second, .val (.long qc), .second, .val (.long qd), .second, .val (.ref b168), .val (.ref b265), .val (.ref b275), .val (.int (1 : Int32))] [(.ref b275), (.int (1 : Int32))])) _
      refine XS.aload X309.here hx rfl (hb hby at_143) rfl rfl ?_
      show Steps p.tables e below (T309.setTop (mkF m 145 #[.val (.int po), .val (.long qa), .second, .val (.long qb), .second, .val (.long qc), .second, .val (.long qd), .second, .val (.ref b168), .val (.ref b265), .val (.ref b275), .val (.int (1 : Int32))] [(.ref b168), (.ref b275), (.int (1 : Int32))])) _
      refine XS.aload X309.here hx rfl (hb hby at_145) rfl rfl ?_
      show Steps p.tables e below (T309.setTop (mkF m 147 #[.val (.int po), .val (.long qa), .second, .val (.long qb), .second, .val (.long qc), .second, .val (.long qd), .second, .val (.ref b168), .val (.ref b265), .val (.ref b275), .val (.int (1 : Int32))] [(.ref b265), (.ref b168), (.ref b275), (.int (1 : Int32))])) _
      refine XS.iloadN X309.here hx rfl (hb hby at_147) rfl ?_
      show Steps p.tables e below (T309.setTop (mkF m 148 #[.val (.int po), .val (.long qa), .second, .val (.long qb), .second, .val (.long qc), .second, .val (.long qd), .second, .val (.ref b168), .val (.ref b265), .val (.ref b275), .val (.int (1 : Int32))] [(.int po), (.ref b265), (.ref b168), (.ref b275), (.int (1 : Int32))])) _
      refine XS.iconst X309.here hx rfl (hb hby at_148) ?_
      show Steps p.tables e below (T309.setTop (mkF m 149 #[.val (.int po), .val (.long qa), .second, .val (.long qb), .second, .val (.long qc), .second, .val (.long qd), .second, .val (.ref b168), .val (.ref b265), .val (.ref b275), .val (.int (1 : Int32))] [(.int (2 : Int32)), (.int po), (.ref b265), (.ref b168), (.ref b275), (.int (1 : Int32))])) _
      refine XS.iand X309.here hx rfl (hb hby at_149) rfl ?_
      exact k
    by_cases hc150_312 : (po &&& (2 : Int32)) = (0 : Int32)
    · have pre313 : ∀ t, Steps p.tables e below (T309.setTop (mkF m 158 #[.val (.int po), .val (.long qa), .second, .val (.long qb), .second, .val (.long qc), .second, .val (.long qd), .second, .val (.ref b168), .val (.ref b265), .val (.ref b275), .val (.int (1 : Int32))] [(.int (0 : Int32)), (.ref b265), (.ref b168), (.ref b275), (.int (1 : Int32))])) t → Steps p.tables e below G0 t := by
        intro t k
        refine pre311 t ?_
        show Steps p.tables e below (T309.setTop (mkF m 150 #[.val (.int po), .val (.long qa), .second, .val (.long qb), .second, .val (.long qc), .second, .val (.long qd), .second, .val (.ref b168), .val (.ref b265), .val (.ref b275), .val (.int (1 : Int32))] [(.int (po &&& (2 : Int32))), (.ref b265), (.ref b168), (.ref b275), (.int (1 : Int32))])) _
        refine XS.ifYes X309.here hx rfl (pc0 := 150) (pc' := 157) rfl (hb hby at_150) rfl ((if0 _ _).trans (teq hc150_312).1) (by decide) (by decide) ?_
        show Steps p.tables e below (T309.setTop (mkF m 157 #[.val (.int po), .val (.long qa), .second, .val (.long qb), .second, .val (.long qc), .second, .val (.long qd), .second, .val (.ref b168), .val (.ref b265), .val (.ref b275), .val (.int (1 : Int32))] [(.ref b265), (.ref b168), (.ref b275), (.int (1 : Int32))])) _
        refine XS.iconst X309.here hx rfl (hb hby at_157) ?_
        exact k
      exact ⟨(0 : Int32), (by trivial), pre313⟩
    · have pre314 : ∀ t, Steps p.tables e below (T309.setTop (mkF m 158 #[.val (.int po), .val (.long qa), .second, .val (.long qb), .second, .val (.long qc), .second, .val (.long qd), .second, .val (.ref b168), .val (.ref b265), .val (.ref b275), .val (.int (1 : Int32))] [(.int (1 : Int32)), (.ref b265), (.ref b168), (.ref b275), (.int (1 : Int32))])) t → Steps p.tables e below G0 t := by
        intro t k
        refine pre311 t ?_
        show Steps p.tables e below (T309.setTop (mkF m 150 #[.val (.int po), .val (.long qa), .second, .val (.long qb), .second, .val (.long qc), .second, .val (.long qd), .second, .val (.ref b168), .val (.ref b265), .val (.ref b275), .val (.int (1 : Int32))] [(.int (po &&& (2 : Int32))), (.ref b265), (.ref b168), (.ref b275), (.int (1 : Int32))])) _
        refine XS.ifNo X309.here hx rfl (hb hby at_150) rfl ((if0 _ _).trans (feq hc150_312).1) ?_
        show Steps p.tables e below (T309.setTop (mkF m 153 #[.val (.int po), .val (.long qa), .second, .val (.long qb), .second, .val (.long qc), .second, .val (.long qd), .second, .val (.ref b168), .val (.ref b265), .val (.ref b275), .val (.int (1 : Int32))] [(.ref b265), (.ref b168), (.ref b275), (.int (1 : Int32))])) _
        refine XS.iconst X309.here hx rfl (hb hby at_153) ?_
        show Steps p.tables e below (T309.setTop (mkF m 154 #[.val (.int po), .val (.long qa), .second, .val (.long qb), .second, .val (.long qc), .second, .val (.long qd), .second, .val (.ref b168), .val (.ref b265), .val (.ref b275), .val (.int (1 : Int32))] [(.int (1 : Int32)), (.ref b265), (.ref b168), (.ref b275), (.int (1 : Int32))])) _
        refine XS.goto X309.here hx rfl (pc0 := 154) (pc' := 158) rfl (hb hby at_154) (by decide) (by decide) ?_
        exact k
      exact ⟨(1 : Int32), (by trivial), pre314⟩
  obtain ⟨_, _, ⟨T319, L319, k319, n319⟩, -, X319, ⟨Lc319, hQ319, l319, y319, z319⟩, st319⟩ := Jvm.LawKit.callS X309 hx (y := (⟨"com/example/tresse/tresse/queue/LinkedQueueDequeuePinLaw", "step", "(Lcom/example/tresse/tresse/queue/LinkedQueue;[Ljava/lang/Integer;[IZ)Z"⟩ : MethodName)) hown (mvT hZ (hw _ (List.mem_of_getElem? (i := 47) rfl))) (mvT hZ (hw _ (List.mem_of_getElem? (i := 48) rfl))) (mvT hZ (hw _ (List.mem_of_getElem? (i := 49) rfl))) (mvT hZ (hw _ (List.mem_of_getElem? (i := 50) rfl))) (by decide) (backOf (W := 1) (rm7 l Z a0 hw [] b275 b168 b265 v158_315 k168 k265 ri2_309 rj2_309 rah2_309 rat2_309 rs T309.heap n0 Zs309 p309_0 p309_1 p309_2 p309_3 p309_4 p309_5 p309_6 p309_7.1 (Nat.lt_of_le_of_lt hb309 (by decide)) hrs g_b275 g_b265 ne_b168_b265) hZ (hw _ (List.mem_of_getElem? (i := 50) rfl)) (hw _ (List.mem_of_getElem? (i := 49) rfl)) (by decide) (by decide)) (g := (mkF m 158 #[.val (.int po), .val (.long qa), .second, .val (.long qb), .second, .val (.long qc), .second, .val (.long qd), .second, .val (.ref b168), .val (.ref b265), .val (.ref b275), .val (.int (1 : Int32))] [(.int v158_315), (.ref b265), (.ref b168), (.ref b275), (.int (1 : Int32))])) rfl (by rw [hml]; rfl) (argsL := [(.ref b275), (.ref b168), (.ref b265), (.int v158_315)]) (rest := [(.int (1 : Int32))]) (lenOf own_pd149 rfl) rfl (by show 2 * 0 + _ ≤ _; exact Nat.le_of_eq rfl) (hb hby at_158) (fun _ _ => ⟨rfl, rfl, (by decide : 13 + 1 ≤ _), (by decide : 24 + 2 ≤ _)⟩)
  dsimp only [Pt.U, Pt.locs, Pt.cells, Pt.slots] at X319 l319 y319 z319 st319 hQ319
  rw [l319, y319, z319] at X319
  clear l319 y319 z319
  obtain ⟨ri2_319, rj2_319, rah2_319, rat2_319, rfl, Nq319, Zs319, p319_0, p319_1, p319_2, p319_3, p319_4, p319_5, p319_6, p319_7⟩ := hQ319
  have N319 := Fr.app N309 Nq319
  have hb319 : ri2_319 ≤ 2 := Nat.le_trans p319_7.2 (Nat.succ_le_succ hb309)
  have pre320 : ∀ t, Steps p.tables e below (T319.setTop (mkF m 161 #[.val (.int po), .val (.long qa), .second, .val (.long qb), .second, .val (.long qc), .second, .val (.long qd), .second, .val (.ref b168), .val (.ref b265), .val (.ref b275), .val (.int (1 : Int32))] [(.int (1 : Int32)), (.int (1 : Int32))])) t → Steps p.tables e below G0 t := by
    intro t k
    refine pre317 t ?_
    show Steps p.tables e below (T309.setTop (mkF m 158 #[.val (.int po), .val (.long qa), .second, .val (.long qb), .second, .val (.long qc), .second, .val (.long qd), .second, .val (.ref b168), .val (.ref b265), .val (.ref b275), .val (.int (1 : Int32))] [(.int v158_315), (.ref b265), (.ref b168), (.ref b275), (.int (1 : Int32))])) _
    refine st319 _ ?_
    exact k
  obtain ⟨v183_325, hv328, pre327⟩ : ∃ (v183_325 : Int32), (True) ∧ ∀ t, Steps p.tables e below (T319.setTop (mkF m 183 #[.val (.int po), .val (.long qa), .second, .val (.long qb), .second, .val (.long qc), .second, .val (.long qd), .second, .val (.ref b168), .val (.ref b265), .val (.ref b275), .val (.int (1 : Int32))] [(.int v183_325), (.ref b265), (.ref b168), (.ref b275), (.int (1 : Int32))])) t → Steps p.tables e below G0 t := by
    have pre321 : ∀ t, Steps p.tables e below (T319.setTop (mkF m 175 #[.val (.int po), .val (.long qa), .second, .val (.long qb), .second, .val (.long qc), .second, .val (.long qd), .second, .val (.ref b168), .val (.ref b265), .val (.ref b275), .val (.int (1 : Int32))] [(.int (po &&& (4 : Int32))), (.ref b265), (.ref b168), (.ref b275), (.int (1 : Int32))])) t → Steps p.tables e below G0 t := by
      intro t k
      refine pre320 t ?_
      show Steps p.tables e below (T319.setTop (mkF m 161 #[.val (.int po), .val (.long qa), .second, .val (.long qb), .second, .val (.long qc), .second, .val (.long qd), .second, .val (.ref b168), .val (.ref b265), .val (.ref b275), .val (.int (1 : Int32))] [(.int (1 : Int32)), (.int (1 : Int32))])) _
      refine XS.iand X319.here hx rfl (hb hby at_161) rfl ?_
      show Steps p.tables e below (T319.setTop (mkF m 162 #[.val (.int po), .val (.long qa), .second, .val (.long qb), .second, .val (.long qc), .second, .val (.long qd), .second, .val (.ref b168), .val (.ref b265), .val (.ref b275), .val (.int (1 : Int32))] [(.int (1 : Int32))])) _
      refine XS.istore X319.here hx rfl (hb hby at_162) rfl (l' := #[.val (.int po), .val (.long qa), .second, .val (.long qb), .second, .val (.long qc), .second, .val (.long qd), .second, .val (.ref b168), .val (.ref b265), .val (.ref b275), .val (.int (1 : Int32))]) rfl ?_
      show Steps p.tables e below (T319.setTop (mkF m 164 #[.val (.int po), .val (.long qa), .second, .val (.long qb), .second, .val (.long qc), .second, .val (.long qd), .second, .val (.ref b168), .val (.ref b265), .val (.ref b275), .val (.int (1 : Int32))] [])) _
      refine XS.iload X319.here hx rfl (hb hby at_164) rfl ?_
      show Steps p.tables e below (T319.setTop (mkF m 166 #[.val (.int po), .val (.long qa), .second, .val (.long qb), .second, .val (.long qc), .second, .val (.long qd), .second, .val (.ref b168), .val (.ref b265), .val (.ref b275), .val (.int (1 : Int32))] [(.int (1 : Int32))])) _
      refine XS.aload X319.here hx rfl (hb hby at_166) rfl rfl ?_
      show Steps p.tables e below (T319.setTop (mkF m 168 #[.val (.int po), .val (.long qa), .second, .val (.long qb), .second, .val (.long qc), .second, .val (.long qd), .second, .val (.ref b168), .val (.ref b265), .val (.ref b275), .val (.int (1 : Int32))] [(.ref b275), (.int (1 : Int32))])) _
      refine XS.aload X319.here hx rfl (hb hby at_168) rfl rfl ?_
      show Steps p.tables e below (T319.setTop (mkF m 170 #[.val (.int po), .val (.long qa), .second, .val (.long qb), .second, .val (.long qc), .second, .val (.long qd), .second, .val (.ref b168), .val (.ref b265), .val (.ref b275), .val (.int (1 : Int32))] [(.ref b168), (.ref b275), (.int (1 : Int32))])) _
      refine XS.aload X319.here hx rfl (hb hby at_170) rfl rfl ?_
      show Steps p.tables e below (T319.setTop (mkF m 172 #[.val (.int po), .val (.long qa), .second, .val (.long qb), .second, .val (.long qc), .second, .val (.long qd), .second, .val (.ref b168), .val (.ref b265), .val (.ref b275), .val (.int (1 : Int32))] [(.ref b265), (.ref b168), (.ref b275), (.int (1 : Int32))])) _
      refine XS.iloadN X319.here hx rfl (hb hby at_172) rfl ?_
      show Steps p.tables e below (T319.setTop (mkF m 173 #[.val (.int po), .val (.long qa), .second, .val (.long qb), .second, .val (.long qc), .second, .val (.long qd), .second, .val (.ref b168), .val (.ref b265), .val (.ref b275), .val (.int (1 : Int32))] [(.int po), (.ref b265), (.ref b168), (.ref b275), (.int (1 : Int32))])) _
      refine XS.iconst X319.here hx rfl (hb hby at_173) ?_
      show Steps p.tables e below (T319.setTop (mkF m 174 #[.val (.int po), .val (.long qa), .second, .val (.long qb), .second, .val (.long qc), .second, .val (.long qd), .second, .val (.ref b168), .val (.ref b265), .val (.ref b275), .val (.int (1 : Int32))] [(.int (4 : Int32)), (.int po), (.ref b265), (.ref b168), (.ref b275), (.int (1 : Int32))])) _
      refine XS.iand X319.here hx rfl (hb hby at_174) rfl ?_
      exact k
    by_cases hc175_322 : (po &&& (4 : Int32)) = (0 : Int32)
    · have pre323 : ∀ t, Steps p.tables e below (T319.setTop (mkF m 183 #[.val (.int po), .val (.long qa), .second, .val (.long qb), .second, .val (.long qc), .second, .val (.long qd), .second, .val (.ref b168), .val (.ref b265), .val (.ref b275), .val (.int (1 : Int32))] [(.int (0 : Int32)), (.ref b265), (.ref b168), (.ref b275), (.int (1 : Int32))])) t → Steps p.tables e below G0 t := by
        intro t k
        refine pre321 t ?_
        show Steps p.tables e below (T319.setTop (mkF m 175 #[.val (.int po), .val (.long qa), .second, .val (.long qb), .second, .val (.long qc), .second, .val (.long qd), .second, .val (.ref b168), .val (.ref b265), .val (.ref b275), .val (.int (1 : Int32))] [(.int (po &&& (4 : Int32))), (.ref b265), (.ref b168), (.ref b275), (.int (1 : Int32))])) _
        refine XS.ifYes X319.here hx rfl (pc0 := 175) (pc' := 182) rfl (hb hby at_175) rfl ((if0 _ _).trans (teq hc175_322).1) (by decide) (by decide) ?_
        show Steps p.tables e below (T319.setTop (mkF m 182 #[.val (.int po), .val (.long qa), .second, .val (.long qb), .second, .val (.long qc), .second, .val (.long qd), .second, .val (.ref b168), .val (.ref b265), .val (.ref b275), .val (.int (1 : Int32))] [(.ref b265), (.ref b168), (.ref b275), (.int (1 : Int32))])) _
        refine XS.iconst X319.here hx rfl (hb hby at_182) ?_
        exact k
      exact ⟨(0 : Int32), (by trivial), pre323⟩
    · have pre324 : ∀ t, Steps p.tables e below (T319.setTop (mkF m 183 #[.val (.int po), .val (.long qa), .second, .val (.long qb), .second, .val (.long qc), .second, .val (.long qd), .second, .val (.ref b168), .val (.ref b265), .val (.ref b275), .val (.int (1 : Int32))] [(.int (1 : Int32)), (.ref b265), (.ref b168), (.ref b275), (.int (1 : Int32))])) t → Steps p.tables e below G0 t := by
        intro t k
        refine pre321 t ?_
        show Steps p.tables e below (T319.setTop (mkF m 175 #[.val (.int po), .val (.long qa), .second, .val (.long qb), .second, .val (.long qc), .second, .val (.long qd), .second, .val (.ref b168), .val (.ref b265), .val (.ref b275), .val (.int (1 : Int32))] [(.int (po &&& (4 : Int32))), (.ref b265), (.ref b168), (.ref b275), (.int (1 : Int32))])) _
        refine XS.ifNo X319.here hx rfl (hb hby at_175) rfl ((if0 _ _).trans (feq hc175_322).1) ?_
        show Steps p.tables e below (T319.setTop (mkF m 178 #[.val (.int po), .val (.long qa), .second, .val (.long qb), .second, .val (.long qc), .second, .val (.long qd), .second, .val (.ref b168), .val (.ref b265), .val (.ref b275), .val (.int (1 : Int32))] [(.ref b265), (.ref b168), (.ref b275), (.int (1 : Int32))])) _
        refine XS.iconst X319.here hx rfl (hb hby at_178) ?_
        show Steps p.tables e below (T319.setTop (mkF m 179 #[.val (.int po), .val (.long qa), .second, .val (.long qb), .second, .val (.long qc), .second, .val (.long qd), .second, .val (.ref b168), .val (.ref b265), .val (.ref b275), .val (.int (1 : Int32))] [(.int (1 : Int32)), (.ref b265), (.ref b168), (.ref b275), (.int (1 : Int32))])) _
        refine XS.goto X319.here hx rfl (pc0 := 179) (pc' := 183) rfl (hb hby at_179) (by decide) (by decide) ?_
        exact k
      exact ⟨(1 : Int32), (by trivial), pre324⟩
  obtain ⟨_, _, ⟨T329, L329, k329, n329⟩, -, X329, ⟨Lc329, hQ329, l329, y329, z329⟩, st329⟩ := Jvm.LawKit.callS X319 hx (y := (⟨"com/example/tresse/tresse/queue/LinkedQueueDequeuePinLaw", "step", "(Lcom/example/tresse/tresse/queue/LinkedQueue;[Ljava/lang/Integer;[IZ)Z"⟩ : MethodName)) hown (mvT hZ (hw _ (List.mem_of_getElem? (i := 47) rfl))) (mvT hZ (hw _ (List.mem_of_getElem? (i := 48) rfl))) (mvT hZ (hw _ (List.mem_of_getElem? (i := 49) rfl))) (mvT hZ (hw _ (List.mem_of_getElem? (i := 50) rfl))) (by decide) (backOf (W := 1) (rm7 l Z a0 hw [] b275 b168 b265 v183_325 k168 k265 ri2_319 rj2_319 rah2_319 rat2_319 rs T319.heap n0 Zs319 p319_0 p319_1 p319_2 p319_3 p319_4 p319_5 p319_6 p319_7.1 (Nat.lt_of_le_of_lt hb319 (by decide)) hrs g_b275 g_b265 ne_b168_b265) hZ (hw _ (List.mem_of_getElem? (i := 50) rfl)) (hw _ (List.mem_of_getElem? (i := 49) rfl)) (by decide) (by decide)) (g := (mkF m 183 #[.val (.int po), .val (.long qa), .second, .val (.long qb), .second, .val (.long qc), .second, .val (.long qd), .second, .val (.ref b168), .val (.ref b265), .val (.ref b275), .val (.int (1 : Int32))] [(.int v183_325), (.ref b265), (.ref b168), (.ref b275), (.int (1 : Int32))])) rfl (by rw [hml]; rfl) (argsL := [(.ref b275), (.ref b168), (.ref b265), (.int v183_325)]) (rest := [(.int (1 : Int32))]) (lenOf own_pd149 rfl) rfl (by show 2 * 0 + _ ≤ _; exact Nat.le_of_eq rfl) (hb hby at_183) (fun _ _ => ⟨rfl, rfl, (by decide : 14 + 1 ≤ _), (by decide : 26 + 2 ≤ _)⟩)
  dsimp only [Pt.U, Pt.locs, Pt.cells, Pt.slots] at X329 l329 y329 z329 st329 hQ329
  rw [l329, y329, z329] at X329
  clear l329 y329 z329
  obtain ⟨ri2_329, rj2_329, rah2_329, rat2_329, rfl, Nq329, Zs329, p329_0, p329_1, p329_2, p329_3, p329_4, p329_5, p329_6, p329_7⟩ := hQ329
  have N329 := Fr.app N319 Nq329
  have hb329 : ri2_329 ≤ 3 := Nat.le_trans p329_7.2 (Nat.succ_le_succ hb319)
  have pre330 : ∀ t, Steps p.tables e below (T329.setTop (mkF m 186 #[.val (.int po), .val (.long qa), .second, .val (.long qb), .second, .val (.long qc), .second, .val (.long qd), .second, .val (.ref b168), .val (.ref b265), .val (.ref b275), .val (.int (1 : Int32))] [(.int (1 : Int32)), (.int (1 : Int32))])) t → Steps p.tables e below G0 t := by
    intro t k
    refine pre327 t ?_
    show Steps p.tables e below (T319.setTop (mkF m 183 #[.val (.int po), .val (.long qa), .second, .val (.long qb), .second, .val (.long qc), .second, .val (.long qd), .second, .val (.ref b168), .val (.ref b265), .val (.ref b275), .val (.int (1 : Int32))] [(.int v183_325), (.ref b265), (.ref b168), (.ref b275), (.int (1 : Int32))])) _
    refine st329 _ ?_
    exact k
  obtain ⟨v209_335, hv338, pre337⟩ : ∃ (v209_335 : Int32), (True) ∧ ∀ t, Steps p.tables e below (T329.setTop (mkF m 209 #[.val (.int po), .val (.long qa), .second, .val (.long qb), .second, .val (.long qc), .second, .val (.long qd), .second, .val (.ref b168), .val (.ref b265), .val (.ref b275), .val (.int (1 : Int32))] [(.int v209_335), (.ref b265), (.ref b168), (.ref b275), (.int (1 : Int32))])) t → Steps p.tables e below G0 t := by
    have pre331 : ∀ t, Steps p.tables e below (T329.setTop (mkF m 201 #[.val (.int po), .val (.long qa), .second, .val (.long qb), .second, .val (.long qc), .second, .val (.long qd), .second, .val (.ref b168), .val (.ref b265), .val (.ref b275), .val (.int (1 : Int32))] [(.int (po &&& (8 : Int32))), (.ref b265), (.ref b168), (.ref b275), (.int (1 : Int32))])) t → Steps p.tables e below G0 t := by
      intro t k
      refine pre330 t ?_
      show Steps p.tables e below (T329.setTop (mkF m 186 #[.val (.int po), .val (.long qa), .second, .val (.long qb), .second, .val (.long qc), .second, .val (.long qd), .second, .val (.ref b168), .val (.ref b265), .val (.ref b275), .val (.int (1 : Int32))] [(.int (1 : Int32)), (.int (1 : Int32))])) _
      refine XS.iand X329.here hx rfl (hb hby at_186) rfl ?_
      show Steps p.tables e below (T329.setTop (mkF m 187 #[.val (.int po), .val (.long qa), .second, .val (.long qb), .second, .val (.long qc), .second, .val (.long qd), .second, .val (.ref b168), .val (.ref b265), .val (.ref b275), .val (.int (1 : Int32))] [(.int (1 : Int32))])) _
      refine XS.istore X329.here hx rfl (hb hby at_187) rfl (l' := #[.val (.int po), .val (.long qa), .second, .val (.long qb), .second, .val (.long qc), .second, .val (.long qd), .second, .val (.ref b168), .val (.ref b265), .val (.ref b275), .val (.int (1 : Int32))]) rfl ?_
      show Steps p.tables e below (T329.setTop (mkF m 189 #[.val (.int po), .val (.long qa), .second, .val (.long qb), .second, .val (.long qc), .second, .val (.long qd), .second, .val (.ref b168), .val (.ref b265), .val (.ref b275), .val (.int (1 : Int32))] [])) _
      refine XS.iload X329.here hx rfl (hb hby at_189) rfl ?_
      show Steps p.tables e below (T329.setTop (mkF m 191 #[.val (.int po), .val (.long qa), .second, .val (.long qb), .second, .val (.long qc), .second, .val (.long qd), .second, .val (.ref b168), .val (.ref b265), .val (.ref b275), .val (.int (1 : Int32))] [(.int (1 : Int32))])) _
      refine XS.aload X329.here hx rfl (hb hby at_191) rfl rfl ?_
      show Steps p.tables e below (T329.setTop (mkF m 193 #[.val (.int po), .val (.long qa), .second, .val (.long qb), .second, .val (.long qc), .second, .val (.long qd), .second, .val (.ref b168), .val (.ref b265), .val (.ref b275), .val (.int (1 : Int32))] [(.ref b275), (.int (1 : Int32))])) _
      refine XS.aload X329.here hx rfl (hb hby at_193) rfl rfl ?_
      show Steps p.tables e below (T329.setTop (mkF m 195 #[.val (.int po), .val (.long qa), .second, .val (.long qb), .second, .val (.long qc), .second, .val (.long qd), .second, .val (.ref b168), .val (.ref b265), .val (.ref b275), .val (.int (1 : Int32))] [(.ref b168), (.ref b275), (.int (1 : Int32))])) _
      refine XS.aload X329.here hx rfl (hb hby at_195) rfl rfl ?_
      show Steps p.tables e below (T329.setTop (mkF m 197 #[.val (.int po), .val (.long qa), .second, .val (.long qb), .second, .val (.long qc), .second, .val (.long qd), .second, .val (.ref b168), .val (.ref b265), .val (.ref b275), .val (.int (1 : Int32))] [(.ref b265), (.ref b168), (.ref b275), (.int (1 : Int32))])) _
      refine XS.iloadN X329.here hx rfl (hb hby at_197) rfl ?_
      show Steps p.tables e below (T329.setTop (mkF m 198 #[.val (.int po), .val (.long qa), .second, .val (.long qb), .second, .val (.long qc), .second, .val (.long qd), .second, .val (.ref b168), .val (.ref b265), .val (.ref b275), .val (.int (1 : Int32))] [(.int po), (.ref b265), (.ref b168), (.ref b275), (.int (1 : Int32))])) _
      refine XS.bipush X329.here hx rfl (hb hby at_198) ?_
      show Steps p.tables e below (T329.setTop (mkF m 200 #[.val (.int po), .val (.long qa), .second, .val (.long qb), .second, .val (.long qc), .second, .val (.long qd), .second, .val (.ref b168), .val (.ref b265), .val (.ref b275), .val (.int (1 : Int32))] [(.int (8 : Int32)), (.int po), (.ref b265), (.ref b168), (.ref b275), (.int (1 : Int32))])) _
      refine XS.iand X329.here hx rfl (hb hby at_200) rfl ?_
      exact k
    by_cases hc201_332 : (po &&& (8 : Int32)) = (0 : Int32)
    · have pre333 : ∀ t, Steps p.tables e below (T329.setTop (mkF m 209 #[.val (.int po), .val (.long qa), .second, .val (.long qb), .second, .val (.long qc), .second, .val (.long qd), .second, .val (.ref b168), .val (.ref b265), .val (.ref b275), .val (.int (1 : Int32))] [(.int (0 : Int32)), (.ref b265), (.ref b168), (.ref b275), (.int (1 : Int32))])) t → Steps p.tables e below G0 t := by
        intro t k
        refine pre331 t ?_
        show Steps p.tables e below (T329.setTop (mkF m 201 #[.val (.int po), .val (.long qa), .second, .val (.long qb), .second, .val (.long qc), .second, .val (.long qd), .second, .val (.ref b168), .val (.ref b265), .val (.ref b275), .val (.int (1 : Int32))] [(.int (po &&& (8 : Int32))), (.ref b265), (.ref b168), (.ref b275), (.int (1 : Int32))])) _
        refine XS.ifYes X329.here hx rfl (pc0 := 201) (pc' := 208) rfl (hb hby at_201) rfl ((if0 _ _).trans (teq hc201_332).1) (by decide) (by decide) ?_
        show Steps p.tables e below (T329.setTop (mkF m 208 #[.val (.int po), .val (.long qa), .second, .val (.long qb), .second, .val (.long qc), .second, .val (.long qd), .second, .val (.ref b168), .val (.ref b265), .val (.ref b275), .val (.int (1 : Int32))] [(.ref b265), (.ref b168), (.ref b275), (.int (1 : Int32))])) _
        refine XS.iconst X329.here hx rfl (hb hby at_208) ?_
        exact k
      exact ⟨(0 : Int32), (by trivial), pre333⟩
    · have pre334 : ∀ t, Steps p.tables e below (T329.setTop (mkF m 209 #[.val (.int po), .val (.long qa), .second, .val (.long qb), .second, .val (.long qc), .second, .val (.long qd), .second, .val (.ref b168), .val (.ref b265), .val (.ref b275), .val (.int (1 : Int32))] [(.int (1 : Int32)), (.ref b265), (.ref b168), (.ref b275), (.int (1 : Int32))])) t → Steps p.tables e below G0 t := by
        intro t k
        refine pre331 t ?_
        show Steps p.tables e below (T329.setTop (mkF m 201 #[.val (.int po), .val (.long qa), .second, .val (.long qb), .second, .val (.long qc), .second, .val (.long qd), .second, .val (.ref b168), .val (.ref b265), .val (.ref b275), .val (.int (1 : Int32))] [(.int (po &&& (8 : Int32))), (.ref b265), (.ref b168), (.ref b275), (.int (1 : Int32))])) _
        refine XS.ifNo X329.here hx rfl (hb hby at_201) rfl ((if0 _ _).trans (feq hc201_332).1) ?_
        show Steps p.tables e below (T329.setTop (mkF m 204 #[.val (.int po), .val (.long qa), .second, .val (.long qb), .second, .val (.long qc), .second, .val (.long qd), .second, .val (.ref b168), .val (.ref b265), .val (.ref b275), .val (.int (1 : Int32))] [(.ref b265), (.ref b168), (.ref b275), (.int (1 : Int32))])) _
        refine XS.iconst X329.here hx rfl (hb hby at_204) ?_
        show Steps p.tables e below (T329.setTop (mkF m 205 #[.val (.int po), .val (.long qa), .second, .val (.long qb), .second, .val (.long qc), .second, .val (.long qd), .second, .val (.ref b168), .val (.ref b265), .val (.ref b275), .val (.int (1 : Int32))] [(.int (1 : Int32)), (.ref b265), (.ref b168), (.ref b275), (.int (1 : Int32))])) _
        refine XS.goto X329.here hx rfl (pc0 := 205) (pc' := 209) rfl (hb hby at_205) (by decide) (by decide) ?_
        exact k
      exact ⟨(1 : Int32), (by trivial), pre334⟩
  obtain ⟨_, _, ⟨T339, L339, k339, n339⟩, -, X339, ⟨Lc339, hQ339, l339, y339, z339⟩, st339⟩ := Jvm.LawKit.callS X329 hx (y := (⟨"com/example/tresse/tresse/queue/LinkedQueueDequeuePinLaw", "step", "(Lcom/example/tresse/tresse/queue/LinkedQueue;[Ljava/lang/Integer;[IZ)Z"⟩ : MethodName)) hown (mvT hZ (hw _ (List.mem_of_getElem? (i := 47) rfl))) (mvT hZ (hw _ (List.mem_of_getElem? (i := 48) rfl))) (mvT hZ (hw _ (List.mem_of_getElem? (i := 49) rfl))) (mvT hZ (hw _ (List.mem_of_getElem? (i := 50) rfl))) (by decide) (backOf (W := 1) (rm7 l Z a0 hw [] b275 b168 b265 v209_335 k168 k265 ri2_329 rj2_329 rah2_329 rat2_329 rs T329.heap n0 Zs329 p329_0 p329_1 p329_2 p329_3 p329_4 p329_5 p329_6 p329_7.1 (Nat.lt_of_le_of_lt hb329 (by decide)) hrs g_b275 g_b265 ne_b168_b265) hZ (hw _ (List.mem_of_getElem? (i := 50) rfl)) (hw _ (List.mem_of_getElem? (i := 49) rfl)) (by decide) (by decide)) (g := (mkF m 209 #[.val (.int po), .val (.long qa), .second, .val (.long qb), .second, .val (.long qc), .second, .val (.long qd), .second, .val (.ref b168), .val (.ref b265), .val (.ref b275), .val (.int (1 : Int32))] [(.int v209_335), (.ref b265), (.ref b168), (.ref b275), (.int (1 : Int32))])) rfl (by rw [hml]; rfl) (argsL := [(.ref b275), (.ref b168), (.ref b265), (.int v209_335)]) (rest := [(.int (1 : Int32))]) (lenOf own_pd149 rfl) rfl (by show 2 * 0 + _ ≤ _; exact Nat.le_of_eq rfl) (hb hby at_209) (fun _ _ => ⟨rfl, rfl, (by decide : 15 + 1 ≤ _), (by decide : 28 + 2 ≤ _)⟩)
  dsimp only [Pt.U, Pt.locs, Pt.cells, Pt.slots] at X339 l339 y339 z339 st339 hQ339
  rw [l339, y339, z339] at X339
  clear l339 y339 z339
  obtain ⟨ri2_339, rj2_339, rah2_339, rat2_339, rfl, Nq339, Zs339, p339_0, p339_1, p339_2, p339_3, p339_4, p339_5, p339_6, p339_7⟩ := hQ339
  have N339 := Fr.app N329 Nq339
  have hb339 : ri2_339 ≤ 4 := Nat.le_trans p339_7.2 (Nat.succ_le_succ hb329)
  have pre340 : ∀ t, Steps p.tables e below (T339.setTop (mkF m 212 #[.val (.int po), .val (.long qa), .second, .val (.long qb), .second, .val (.long qc), .second, .val (.long qd), .second, .val (.ref b168), .val (.ref b265), .val (.ref b275), .val (.int (1 : Int32))] [(.int (1 : Int32)), (.int (1 : Int32))])) t → Steps p.tables e below G0 t := by
    intro t k
    refine pre337 t ?_
    show Steps p.tables e below (T329.setTop (mkF m 209 #[.val (.int po), .val (.long qa), .second, .val (.long qb), .second, .val (.long qc), .second, .val (.long qd), .second, .val (.ref b168), .val (.ref b265), .val (.ref b275), .val (.int (1 : Int32))] [(.int v209_335), (.ref b265), (.ref b168), (.ref b275), (.int (1 : Int32))])) _
    refine st339 _ ?_
    exact k
  obtain ⟨v235_345, hv348, pre347⟩ : ∃ (v235_345 : Int32), (True) ∧ ∀ t, Steps p.tables e below (T339.setTop (mkF m 235 #[.val (.int po), .val (.long qa), .second, .val (.long qb), .second, .val (.long qc), .second, .val (.long qd), .second, .val (.ref b168), .val (.ref b265), .val (.ref b275), .val (.int (1 : Int32))] [(.int v235_345), (.ref b265), (.ref b168), (.ref b275), (.int (1 : Int32))])) t → Steps p.tables e below G0 t := by
    have pre341 : ∀ t, Steps p.tables e below (T339.setTop (mkF m 227 #[.val (.int po), .val (.long qa), .second, .val (.long qb), .second, .val (.long qc), .second, .val (.long qd), .second, .val (.ref b168), .val (.ref b265), .val (.ref b275), .val (.int (1 : Int32))] [(.int (po &&& (16 : Int32))), (.ref b265), (.ref b168), (.ref b275), (.int (1 : Int32))])) t → Steps p.tables e below G0 t := by
      intro t k
      refine pre340 t ?_
      show Steps p.tables e below (T339.setTop (mkF m 212 #[.val (.int po), .val (.long qa), .second, .val (.long qb), .second, .val (.long qc), .second, .val (.long qd), .second, .val (.ref b168), .val (.ref b265), .val (.ref b275), .val (.int (1 : Int32))] [(.int (1 : Int32)), (.int (1 : Int32))])) _
      refine XS.iand X339.here hx rfl (hb hby at_212) rfl ?_
      show Steps p.tables e below (T339.setTop (mkF m 213 #[.val (.int po), .val (.long qa), .second, .val (.long qb), .second, .val (.long qc), .second, .val (.long qd), .second, .val (.ref b168), .val (.ref b265), .val (.ref b275), .val (.int (1 : Int32))] [(.int (1 : Int32))])) _
      refine XS.istore X339.here hx rfl (hb hby at_213) rfl (l' := #[.val (.int po), .val (.long qa), .second, .val (.long qb), .second, .val (.long qc), .second, .val (.long qd), .second, .val (.ref b168), .val (.ref b265), .val (.ref b275), .val (.int (1 : Int32))]) rfl ?_
      show Steps p.tables e below (T339.setTop (mkF m 215 #[.val (.int po), .val (.long qa), .second, .val (.long qb), .second, .val (.long qc), .second, .val (.long qd), .second, .val (.ref b168), .val (.ref b265), .val (.ref b275), .val (.int (1 : Int32))] [])) _
      refine XS.iload X339.here hx rfl (hb hby at_215) rfl ?_
      show Steps p.tables e below (T339.setTop (mkF m 217 #[.val (.int po), .val (.long qa), .second, .val (.long qb), .second, .val (.long qc), .second, .val (.long qd), .second, .val (.ref b168), .val (.ref b265), .val (.ref b275), .val (.int (1 : Int32))] [(.int (1 : Int32))])) _
      refine XS.aload X339.here hx rfl (hb hby at_217) rfl rfl ?_
      show Steps p.tables e below (T339.setTop (mkF m 219 #[.val (.int po), .val (.long qa), .second, .val (.long qb), .second, .val (.long qc), .second, .val (.long qd), .second, .val (.ref b168), .val (.ref b265), .val (.ref b275), .val (.int (1 : Int32))] [(.ref b275), (.int (1 : Int32))])) _
      refine XS.aload X339.here hx rfl (hb hby at_219) rfl rfl ?_
      show Steps p.tables e below (T339.setTop (mkF m 221 #[.val (.int po), .val (.long qa), .second, .val (.long qb), .second, .val (.long qc), .second, .val (.long qd), .second, .val (.ref b168), .val (.ref b265), .val (.ref b275), .val (.int (1 : Int32))] [(.ref b168), (.ref b275), (.int (1 : Int32))])) _
      refine XS.aload X339.here hx rfl (hb hby at_221) rfl rfl ?_
      show Steps p.tables e below (T339.setTop (mkF m 223 #[.val (.int po), .val (.long qa), .second, .val (.long qb), .second, .val (.long qc), .second, .val (.long qd), .second, .val (.ref b168), .val (.ref b265), .val (.ref b275), .val (.int (1 : Int32))] [(.ref b265), (.ref b168), (.ref b275), (.int (1 : Int32))])) _
      refine XS.iloadN X339.here hx rfl (hb hby at_223) rfl ?_
      show Steps p.tables e below (T339.setTop (mkF m 224 #[.val (.int po), .val (.long qa), .second, .val (.long qb), .second, .val (.long qc), .second, .val (.long qd), .second, .val (.ref b168), .val (.ref b265), .val (.ref b275), .val (.int (1 : Int32))] [(.int po), (.ref b265), (.ref b168), (.ref b275), (.int (1 : Int32))])) _
      refine XS.bipush X339.here hx rfl (hb hby at_224) ?_
      show Steps p.tables e below (T339.setTop (mkF m 226 #[.val (.int po), .val (.long qa), .second, .val (.long qb), .second, .val (.long qc), .second, .val (.long qd), .second, .val (.ref b168), .val (.ref b265), .val (.ref b275), .val (.int (1 : Int32))] [(.int (16 : Int32)), (.int po), (.ref b265), (.ref b168), (.ref b275), (.int (1 : Int32))])) _
      refine XS.iand X339.here hx rfl (hb hby at_226) rfl ?_
      exact k
    by_cases hc227_342 : (po &&& (16 : Int32)) = (0 : Int32)
    · have pre343 : ∀ t, Steps p.tables e below (T339.setTop (mkF m 235 #[.val (.int po), .val (.long qa), .second, .val (.long qb), .second, .val (.long qc), .second, .val (.long qd), .second, .val (.ref b168), .val (.ref b265), .val (.ref b275), .val (.int (1 : Int32))] [(.int (0 : Int32)), (.ref b265), (.ref b168), (.ref b275), (.int (1 : Int32))])) t → Steps p.tables e below G0 t := by
        intro t k
        refine pre341 t ?_
        show Steps p.tables e below (T339.setTop (mkF m 227 #[.val (.int po), .val (.long qa), .second, .val (.long qb), .second, .val (.long qc), .second, .val (.long qd), .second, .val (.ref b168), .val (.ref b265), .val (.ref b275), .val (.int (1 : Int32))] [(.int (po &&& (16 : Int32))), (.ref b265), (.ref b168), (.ref b275), (.int (1 : Int32))])) _
        refine XS.ifYes X339.here hx rfl (pc0 := 227) (pc' := 234) rfl (hb hby at_227) rfl ((if0 _ _).trans (teq hc227_342).1) (by decide) (by decide) ?_
        show Steps p.tables e below (T339.setTop (mkF m 234 #[.val (.int po), .val (.long qa), .second, .val (.long qb), .second, .val (.long qc), .second, .val (.long qd), .second, .val (.ref b168), .val (.ref b265), .val (.ref b275), .val (.int (1 : Int32))] [(.ref b265), (.ref b168), (.ref b275), (.int (1 : Int32))])) _
        refine XS.iconst X339.here hx rfl (hb hby at_234) ?_
        exact k
      exact ⟨(0 : Int32), (by trivial), pre343⟩
    · have pre344 : ∀ t, Steps p.tables e below (T339.setTop (mkF m 235 #[.val (.int po), .val (.long qa), .second, .val (.long qb), .second, .val (.long qc), .second, .val (.long qd), .second, .val (.ref b168), .val (.ref b265), .val (.ref b275), .val (.int (1 : Int32))] [(.int (1 : Int32)), (.ref b265), (.ref b168), (.ref b275), (.int (1 : Int32))])) t → Steps p.tables e below G0 t := by
        intro t k
        refine pre341 t ?_
        show Steps p.tables e below (T339.setTop (mkF m 227 #[.val (.int po), .val (.long qa), .second, .val (.long qb), .second, .val (.long qc), .second, .val (.long qd), .second, .val (.ref b168), .val (.ref b265), .val (.ref b275), .val (.int (1 : Int32))] [(.int (po &&& (16 : Int32))), (.ref b265), (.ref b168), (.ref b275), (.int (1 : Int32))])) _
        refine XS.ifNo X339.here hx rfl (hb hby at_227) rfl ((if0 _ _).trans (feq hc227_342).1) ?_
        show Steps p.tables e below (T339.setTop (mkF m 230 #[.val (.int po), .val (.long qa), .second, .val (.long qb), .second, .val (.long qc), .second, .val (.long qd), .second, .val (.ref b168), .val (.ref b265), .val (.ref b275), .val (.int (1 : Int32))] [(.ref b265), (.ref b168), (.ref b275), (.int (1 : Int32))])) _
        refine XS.iconst X339.here hx rfl (hb hby at_230) ?_
        show Steps p.tables e below (T339.setTop (mkF m 231 #[.val (.int po), .val (.long qa), .second, .val (.long qb), .second, .val (.long qc), .second, .val (.long qd), .second, .val (.ref b168), .val (.ref b265), .val (.ref b275), .val (.int (1 : Int32))] [(.int (1 : Int32)), (.ref b265), (.ref b168), (.ref b275), (.int (1 : Int32))])) _
        refine XS.goto X339.here hx rfl (pc0 := 231) (pc' := 235) rfl (hb hby at_231) (by decide) (by decide) ?_
        exact k
      exact ⟨(1 : Int32), (by trivial), pre344⟩
  obtain ⟨_, _, ⟨T349, L349, k349, n349⟩, -, X349, ⟨Lc349, hQ349, l349, y349, z349⟩, st349⟩ := Jvm.LawKit.callS X339 hx (y := (⟨"com/example/tresse/tresse/queue/LinkedQueueDequeuePinLaw", "step", "(Lcom/example/tresse/tresse/queue/LinkedQueue;[Ljava/lang/Integer;[IZ)Z"⟩ : MethodName)) hown (mvT hZ (hw _ (List.mem_of_getElem? (i := 47) rfl))) (mvT hZ (hw _ (List.mem_of_getElem? (i := 48) rfl))) (mvT hZ (hw _ (List.mem_of_getElem? (i := 49) rfl))) (mvT hZ (hw _ (List.mem_of_getElem? (i := 50) rfl))) (by decide) (backOf (W := 1) (rm7 l Z a0 hw [] b275 b168 b265 v235_345 k168 k265 ri2_339 rj2_339 rah2_339 rat2_339 rs T339.heap n0 Zs339 p339_0 p339_1 p339_2 p339_3 p339_4 p339_5 p339_6 p339_7.1 (Nat.lt_of_le_of_lt hb339 (by decide)) hrs g_b275 g_b265 ne_b168_b265) hZ (hw _ (List.mem_of_getElem? (i := 50) rfl)) (hw _ (List.mem_of_getElem? (i := 49) rfl)) (by decide) (by decide)) (g := (mkF m 235 #[.val (.int po), .val (.long qa), .second, .val (.long qb), .second, .val (.long qc), .second, .val (.long qd), .second, .val (.ref b168), .val (.ref b265), .val (.ref b275), .val (.int (1 : Int32))] [(.int v235_345), (.ref b265), (.ref b168), (.ref b275), (.int (1 : Int32))])) rfl (by rw [hml]; rfl) (argsL := [(.ref b275), (.ref b168), (.ref b265), (.int v235_345)]) (rest := [(.int (1 : Int32))]) (lenOf own_pd149 rfl) rfl (by show 2 * 0 + _ ≤ _; exact Nat.le_of_eq rfl) (hb hby at_235) (fun _ _ => ⟨rfl, rfl, (by decide : 16 + 1 ≤ _), (by decide : 30 + 2 ≤ _)⟩)
  dsimp only [Pt.U, Pt.locs, Pt.cells, Pt.slots] at X349 l349 y349 z349 st349 hQ349
  rw [l349, y349, z349] at X349
  clear l349 y349 z349
  obtain ⟨ri2_349, rj2_349, rah2_349, rat2_349, rfl, Nq349, Zs349, p349_0, p349_1, p349_2, p349_3, p349_4, p349_5, p349_6, p349_7⟩ := hQ349
  have N349 := Fr.app N339 Nq349
  have hb349 : ri2_349 ≤ 5 := Nat.le_trans p349_7.2 (Nat.succ_le_succ hb339)
  have pre350 : ∀ t, Steps p.tables e below (T349.setTop (mkF m 238 #[.val (.int po), .val (.long qa), .second, .val (.long qb), .second, .val (.long qc), .second, .val (.long qd), .second, .val (.ref b168), .val (.ref b265), .val (.ref b275), .val (.int (1 : Int32))] [(.int (1 : Int32)), (.int (1 : Int32))])) t → Steps p.tables e below G0 t := by
    intro t k
    refine pre347 t ?_
    show Steps p.tables e below (T339.setTop (mkF m 235 #[.val (.int po), .val (.long qa), .second, .val (.long qb), .second, .val (.long qc), .second, .val (.long qd), .second, .val (.ref b168), .val (.ref b265), .val (.ref b275), .val (.int (1 : Int32))] [(.int v235_345), (.ref b265), (.ref b168), (.ref b275), (.int (1 : Int32))])) _
    refine st349 _ ?_
    exact k
  obtain ⟨v261_355, hv358, pre357⟩ : ∃ (v261_355 : Int32), (True) ∧ ∀ t, Steps p.tables e below (T349.setTop (mkF m 261 #[.val (.int po), .val (.long qa), .second, .val (.long qb), .second, .val (.long qc), .second, .val (.long qd), .second, .val (.ref b168), .val (.ref b265), .val (.ref b275), .val (.int (1 : Int32))] [(.int v261_355), (.ref b265), (.ref b168), (.ref b275), (.int (1 : Int32))])) t → Steps p.tables e below G0 t := by
    have pre351 : ∀ t, Steps p.tables e below (T349.setTop (mkF m 253 #[.val (.int po), .val (.long qa), .second, .val (.long qb), .second, .val (.long qc), .second, .val (.long qd), .second, .val (.ref b168), .val (.ref b265), .val (.ref b275), .val (.int (1 : Int32))] [(.int (po &&& (32 : Int32))), (.ref b265), (.ref b168), (.ref b275), (.int (1 : Int32))])) t → Steps p.tables e below G0 t := by
      intro t k
      refine pre350 t ?_
      show Steps p.tables e below (T349.setTop (mkF m 238 #[.val (.int po), .val (.long qa), .second, .val (.long qb), .second, .val (.long qc), .second, .val (.long qd), .second, .val (.ref b168), .val (.ref b265), .val (.ref b275), .val (.int (1 : Int32))] [(.int (1 : Int32)), (.int (1 : Int32))])) _
      refine XS.iand X349.here hx rfl (hb hby at_238) rfl ?_
      show Steps p.tables e below (T349.setTop (mkF m 239 #[.val (.int po), .val (.long qa), .second, .val (.long qb), .second, .val (.long qc), .second, .val (.long qd), .second, .val (.ref b168), .val (.ref b265), .val (.ref b275), .val (.int (1 : Int32))] [(.int (1 : Int32))])) _
      refine XS.istore X349.here hx rfl (hb hby at_239) rfl (l' := #[.val (.int po), .val (.long qa), .second, .val (.long qb), .second, .val (.long qc), .second, .val (.long qd), .second, .val (.ref b168), .val (.ref b265), .val (.ref b275), .val (.int (1 : Int32))]) rfl ?_
      show Steps p.tables e below (T349.setTop (mkF m 241 #[.val (.int po), .val (.long qa), .second, .val (.long qb), .second, .val (.long qc), .second, .val (.long qd), .second, .val (.ref b168), .val (.ref b265), .val (.ref b275), .val (.int (1 : Int32))] [])) _
      refine XS.iload X349.here hx rfl (hb hby at_241) rfl ?_
      show Steps p.tables e below (T349.setTop (mkF m 243 #[.val (.int po), .val (.long qa), .second, .val (.long qb), .second, .val (.long qc), .second, .val (.long qd), .second, .val (.ref b168), .val (.ref b265), .val (.ref b275), .val (.int (1 : Int32))] [(.int (1 : Int32))])) _
      refine XS.aload X349.here hx rfl (hb hby at_243) rfl rfl ?_
      show Steps p.tables e below (T349.setTop (mkF m 245 #[.val (.int po), .val (.long qa), .second, .val (.long qb), .second, .val (.long qc), .second, .val (.long qd), .second, .val (.ref b168), .val (.ref b265), .val (.ref b275), .val (.int (1 : Int32))] [(.ref b275), (.int (1 : Int32))])) _
      refine XS.aload X349.here hx rfl (hb hby at_245) rfl rfl ?_
      show Steps p.tables e below (T349.setTop (mkF m 247 #[.val (.int po), .val (.long qa), .second, .val (.long qb), .second, .val (.long qc), .second, .val (.long qd), .second, .val (.ref b168), .val (.ref b265), .val (.ref b275), .val (.int (1 : Int32))] [(.ref b168), (.ref b275), (.int (1 : Int32))])) _
      refine XS.aload X349.here hx rfl (hb hby at_247) rfl rfl ?_
      show Steps p.tables e below (T349.setTop (mkF m 249 #[.val (.int po), .val (.long qa), .second, .val (.long qb), .second, .val (.long qc), .second, .val (.long qd), .second, .val (.ref b168), .val (.ref b265), .val (.ref b275), .val (.int (1 : Int32))] [(.ref b265), (.ref b168), (.ref b275), (.int (1 : Int32))])) _
      refine XS.iloadN X349.here hx rfl (hb hby at_249) rfl ?_
      show Steps p.tables e below (T349.setTop (mkF m 250 #[.val (.int po), .val (.long qa), .second, .val (.long qb), .second, .val (.long qc), .second, .val (.long qd), .second, .val (.ref b168), .val (.ref b265), .val (.ref b275), .val (.int (1 : Int32))] [(.int po), (.ref b265), (.ref b168), (.ref b275), (.int (1 : Int32))])) _
      refine XS.bipush X349.here hx rfl (hb hby at_250) ?_
      show Steps p.tables e below (T349.setTop (mkF m 252 #[.val (.int po), .val (.long qa), .second, .val (.long qb), .second, .val (.long qc), .second, .val (.long qd), .second, .val (.ref b168), .val (.ref b265), .val (.ref b275), .val (.int (1 : Int32))] [(.int (32 : Int32)), (.int po), (.ref b265), (.ref b168), (.ref b275), (.int (1 : Int32))])) _
      refine XS.iand X349.here hx rfl (hb hby at_252) rfl ?_
      exact k
    by_cases hc253_352 : (po &&& (32 : Int32)) = (0 : Int32)
    · have pre353 : ∀ t, Steps p.tables e below (T349.setTop (mkF m 261 #[.val (.int po), .val (.long qa), .second, .val (.long qb), .second, .val (.long qc), .second, .val (.long qd), .second, .val (.ref b168), .val (.ref b265), .val (.ref b275), .val (.int (1 : Int32))] [(.int (0 : Int32)), (.ref b265), (.ref b168), (.ref b275), (.int (1 : Int32))])) t → Steps p.tables e below G0 t := by
        intro t k
        refine pre351 t ?_
        show Steps p.tables e below (T349.setTop (mkF m 253 #[.val (.int po), .val (.long qa), .second, .val (.long qb), .second, .val (.long qc), .second, .val (.long qd), .second, .val (.ref b168), .val (.ref b265), .val (.ref b275), .val (.int (1 : Int32))] [(.int (po &&& (32 : Int32))), (.ref b265), (.ref b168), (.ref b275), (.int (1 : Int32))])) _
        refine XS.ifYes X349.here hx rfl (pc0 := 253) (pc' := 260) rfl (hb hby at_253) rfl ((if0 _ _).trans (teq hc253_352).1) (by decide) (by decide) ?_
        show Steps p.tables e below (T349.setTop (mkF m 260 #[.val (.int po), .val (.long qa), .second, .val (.long qb), .second, .val (.long qc), .second, .val (.long qd), .second, .val (.ref b168), .val (.ref b265), .val (.ref b275), .val (.int (1 : Int32))] [(.ref b265), (.ref b168), (.ref b275), (.int (1 : Int32))])) _
        refine XS.iconst X349.here hx rfl (hb hby at_260) ?_
        exact k
      exact ⟨(0 : Int32), (by trivial), pre353⟩
    · have pre354 : ∀ t, Steps p.tables e below (T349.setTop (mkF m 261 #[.val (.int po), .val (.long qa), .second, .val (.long qb), .second, .val (.long qc), .second, .val (.long qd), .second, .val (.ref b168), .val (.ref b265), .val (.ref b275), .val (.int (1 : Int32))] [(.int (1 : Int32)), (.ref b265), (.ref b168), (.ref b275), (.int (1 : Int32))])) t → Steps p.tables e below G0 t := by
        intro t k
        refine pre351 t ?_
        show Steps p.tables e below (T349.setTop (mkF m 253 #[.val (.int po), .val (.long qa), .second, .val (.long qb), .second, .val (.long qc), .second, .val (.long qd), .second, .val (.ref b168), .val (.ref b265), .val (.ref b275), .val (.int (1 : Int32))] [(.int (po &&& (32 : Int32))), (.ref b265), (.ref b168), (.ref b275), (.int (1 : Int32))])) _
        refine XS.ifNo X349.here hx rfl (hb hby at_253) rfl ((if0 _ _).trans (feq hc253_352).1) ?_
        show Steps p.tables e below (T349.setTop (mkF m 256 #[.val (.int po), .val (.long qa), .second, .val (.long qb), .second, .val (.long qc), .second, .val (.long qd), .second, .val (.ref b168), .val (.ref b265), .val (.ref b275), .val (.int (1 : Int32))] [(.ref b265), (.ref b168), (.ref b275), (.int (1 : Int32))])) _
        refine XS.iconst X349.here hx rfl (hb hby at_256) ?_
        show Steps p.tables e below (T349.setTop (mkF m 257 #[.val (.int po), .val (.long qa), .second, .val (.long qb), .second, .val (.long qc), .second, .val (.long qd), .second, .val (.ref b168), .val (.ref b265), .val (.ref b275), .val (.int (1 : Int32))] [(.int (1 : Int32)), (.ref b265), (.ref b168), (.ref b275), (.int (1 : Int32))])) _
        refine XS.goto X349.here hx rfl (pc0 := 257) (pc' := 261) rfl (hb hby at_257) (by decide) (by decide) ?_
        exact k
      exact ⟨(1 : Int32), (by trivial), pre354⟩
  obtain ⟨_, _, ⟨T359, L359, k359, n359⟩, -, X359, ⟨Lc359, hQ359, l359, y359, z359⟩, st359⟩ := Jvm.LawKit.callS X349 hx (y := (⟨"com/example/tresse/tresse/queue/LinkedQueueDequeuePinLaw", "step", "(Lcom/example/tresse/tresse/queue/LinkedQueue;[Ljava/lang/Integer;[IZ)Z"⟩ : MethodName)) hown (mvT hZ (hw _ (List.mem_of_getElem? (i := 47) rfl))) (mvT hZ (hw _ (List.mem_of_getElem? (i := 48) rfl))) (mvT hZ (hw _ (List.mem_of_getElem? (i := 49) rfl))) (mvT hZ (hw _ (List.mem_of_getElem? (i := 50) rfl))) (by decide) (backOf (W := 1) (rm7 l Z a0 hw [] b275 b168 b265 v261_355 k168 k265 ri2_349 rj2_349 rah2_349 rat2_349 rs T349.heap n0 Zs349 p349_0 p349_1 p349_2 p349_3 p349_4 p349_5 p349_6 p349_7.1 (Nat.lt_of_le_of_lt hb349 (by decide)) hrs g_b275 g_b265 ne_b168_b265) hZ (hw _ (List.mem_of_getElem? (i := 50) rfl)) (hw _ (List.mem_of_getElem? (i := 49) rfl)) (by decide) (by decide)) (g := (mkF m 261 #[.val (.int po), .val (.long qa), .second, .val (.long qb), .second, .val (.long qc), .second, .val (.long qd), .second, .val (.ref b168), .val (.ref b265), .val (.ref b275), .val (.int (1 : Int32))] [(.int v261_355), (.ref b265), (.ref b168), (.ref b275), (.int (1 : Int32))])) rfl (by rw [hml]; rfl) (argsL := [(.ref b275), (.ref b168), (.ref b265), (.int v261_355)]) (rest := [(.int (1 : Int32))]) (lenOf own_pd149 rfl) rfl (by show 2 * 0 + _ ≤ _; exact Nat.le_of_eq rfl) (hb hby at_261) (fun _ _ => ⟨rfl, rfl, (by decide : 17 + 1 ≤ _), (by decide : 32 + 2 ≤ _)⟩)
  dsimp only [Pt.U, Pt.locs, Pt.cells, Pt.slots] at X359 l359 y359 z359 st359 hQ359
  rw [l359, y359, z359] at X359
  clear l359 y359 z359
  obtain ⟨ri2_359, rj2_359, rah2_359, rat2_359, rfl, Nq359, Zs359, p359_0, p359_1, p359_2, p359_3, p359_4, p359_5, p359_6, p359_7⟩ := hQ359
  have N359 := Fr.app N349 Nq359
  have hb359 : ri2_359 ≤ 6 := Nat.le_trans p359_7.2 (Nat.succ_le_succ hb349)
  have pre360 : ∀ t, Steps p.tables e below (T359.setTop (mkF m 264 #[.val (.int po), .val (.long qa), .second, .val (.long qb), .second, .val (.long qc), .second, .val (.long qd), .second, .val (.ref b168), .val (.ref b265), .val (.ref b275), .val (.int (1 : Int32))] [(.int (1 : Int32)), (.int (1 : Int32))])) t → Steps p.tables e below G0 t := by
    intro t k
    refine pre357 t ?_
    show Steps p.tables e below (T349.setTop (mkF m 261 #[.val (.int po), .val (.long qa), .second, .val (.long qb), .second, .val (.long qc), .second, .val (.long qd), .second, .val (.ref b168), .val (.ref b265), .val (.ref b275), .val (.int (1 : Int32))] [(.int v261_355), (.ref b265), (.ref b168), (.ref b275), (.int (1 : Int32))])) _
    refine st359 _ ?_
    exact k
  obtain ⟨v287_365, hv368, pre367⟩ : ∃ (v287_365 : Int32), (True) ∧ ∀ t, Steps p.tables e below (T359.setTop (mkF m 287 #[.val (.int po), .val (.long qa), .second, .val (.long qb), .second, .val (.long qc), .second, .val (.long qd), .second, .val (.ref b168), .val (.ref b265), .val (.ref b275), .val (.int (1 : Int32))] [(.int v287_365), (.ref b265), (.ref b168), (.ref b275), (.int (1 : Int32))])) t → Steps p.tables e below G0 t := by
    have pre361 : ∀ t, Steps p.tables e below (T359.setTop (mkF m 279 #[.val (.int po), .val (.long qa), .second, .val (.long qb), .second, .val (.long qc), .second, .val (.long qd), .second, .val (.ref b168), .val (.ref b265), .val (.ref b275), .val (.int (1 : Int32))] [(.int (po &&& (64 : Int32))), (.ref b265), (.ref b168), (.ref b275), (.int (1 : Int32))])) t → Steps p.tables e below G0 t := by
      intro t k
      refine pre360 t ?_
      show Steps p.tables e below (T359.setTop (mkF m 264 #[.val (.int po), .val (.long qa), .second, .val (.long qb), .second, .val (.long qc), .second, .val (.long qd), .second, .val (.ref b168), .val (.ref b265), .val (.ref b275), .val (.int (1 : Int32))] [(.int (1 : Int32)), (.int (1 : Int32))])) _
      refine XS.iand X359.here hx rfl (hb hby at_264) rfl ?_
      show Steps p.tables e below (T359.setTop (mkF m 265 #[.val (.int po), .val (.long qa), .second, .val (.long qb), .second, .val (.long qc), .second, .val (.long qd), .second, .val (.ref b168), .val (.ref b265), .val (.ref b275), .val (.int (1 : Int32))] [(.int (1 : Int32))])) _
      refine XS.istore X359.here hx rfl (hb hby at_265) rfl (l' := #[.val (.int po), .val (.long qa), .second, .val (.long qb), .second, .val (.long qc), .second, .val (.long qd), .second, .val (.ref b168), .val (.ref b265), .val (.ref b275), .val (.int (1 : Int32))]) rfl ?_
      show Steps p.tables e below (T359.setTop (mkF m 267 #[.val (.int po), .val (.long qa), .second, .val (.long qb), .second, .val (.long qc), .second, .val (.long qd), .second, .val (.ref b168), .val (.ref b265), .val (.ref b275), .val (.int (1 : Int32))] [])) _
      refine XS.iload X359.here hx rfl (hb hby at_267) rfl ?_
      show Steps p.tables e below (T359.setTop (mkF m 269 #[.val (.int po), .val (.long qa), .second, .val (.long qb), .second, .val (.long qc), .second, .val (.long qd), .second, .val (.ref b168), .val (.ref b265), .val (.ref b275), .val (.int (1 : Int32))] [(.int (1 : Int32))])) _
      refine XS.aload X359.here hx rfl (hb hby at_269) rfl rfl ?_
      show Steps p.tables e below (T359.setTop (mkF m 271 #[.val (.int po), .val (.long qa), .second, .val (.long qb), .second, .val (.long qc), .second, .val (.long qd), .second, .val (.ref b168), .val (.ref b265), .val (.ref b275), .val (.int (1 : Int32))] [(.ref b275), (.int (1 : Int32))])) _
      refine XS.aload X359.here hx rfl (hb hby at_271) rfl rfl ?_
      show Steps p.tables e below (T359.setTop (mkF m 273 #[.val (.int po), .val (.long qa), .second, .val (.long qb), .second, .val (.long qc), .second, .val (.long qd), .second, .val (.ref b168), .val (.ref b265), .val (.ref b275), .val (.int (1 : Int32))] [(.ref b168), (.ref b275), (.int (1 : Int32))])) _
      refine XS.aload X359.here hx rfl (hb hby at_273) rfl rfl ?_
      show Steps p.tables e below (T359.setTop (mkF m 275 #[.val (.int po), .val (.long qa), .second, .val (.long qb), .second, .val (.long qc), .second, .val (.long qd), .second, .val (.ref b168), .val (.ref b265), .val (.ref b275), .val (.int (1 : Int32))] [(.ref b265), (.ref b168), (.ref b275), (.int (1 : Int32))])) _
      refine XS.iloadN X359.here hx rfl (hb hby at_275) rfl ?_
      show Steps p.tables e below (T359.setTop (mkF m 276 #[.val (.int po), .val (.long qa), .second, .val (.long qb), .second, .val (.long qc), .second, .val (.long qd), .second, .val (.ref b168), .val (.ref b265), .val (.ref b275), .val (.int (1 : Int32))] [(.int po), (.ref b265), (.ref b168), (.ref b275), (.int (1 : Int32))])) _
      refine XS.bipush X359.here hx rfl (hb hby at_276) ?_
      show Steps p.tables e below (T359.setTop (mkF m 278 #[.val (.int po), .val (.long qa), .second, .val (.long qb), .second, .val (.long qc), .second, .val (.long qd), .second, .val (.ref b168), .val (.ref b265), .val (.ref b275), .val (.int (1 : Int32))] [(.int (64 : Int32)), (.int po), (.ref b265), (.ref b168), (.ref b275), (.int (1 : Int32))])) _
      refine XS.iand X359.here hx rfl (hb hby at_278) rfl ?_
      exact k
    by_cases hc279_362 : (po &&& (64 : Int32)) = (0 : Int32)
    · have pre363 : ∀ t, Steps p.tables e below (T359.setTop (mkF m 287 #[.val (.int po), .val (.long qa), .second, .val (.long qb), .second, .val (.long qc), .second, .val (.long qd), .second, .val (.ref b168), .val (.ref b265), .val (.ref b275), .val (.int (1 : Int32))] [(.int (0 : Int32)), (.ref b265), (.ref b168), (.ref b275), (.int (1 : Int32))])) t → Steps p.tables e below G0 t := by
        intro t k
        refine pre361 t ?_
        show Steps p.tables e below (T359.setTop (mkF m 279 #[.val (.int po), .val (.long qa), .second, .val (.long qb), .second, .val (.long qc), .second, .val (.long qd), .second, .val (.ref b168), .val (.ref b265), .val (.ref b275), .val (.int (1 : Int32))] [(.int (po &&& (64 : Int32))), (.ref b265), (.ref b168), (.ref b275), (.int (1 : Int32))])) _
        refine XS.ifYes X359.here hx rfl (pc0 := 279) (pc' := 286) rfl (hb hby at_279) rfl ((if0 _ _).trans (teq hc279_362).1) (by decide) (by decide) ?_
        show Steps p.tables e below (T359.setTop (mkF m 286 #[.val (.int po), .val (.long qa), .second, .val (.long qb), .second, .val (.long qc), .second, .val (.long qd), .second, .val (.ref b168), .val (.ref b265), .val (.ref b275), .val (.int (1 : Int32))] [(.ref b265), (.ref b168), (.ref b275), (.int (1 : Int32))])) _
        refine XS.iconst X359.here hx rfl (hb hby at_286) ?_
        exact k
      exact ⟨(0 : Int32), (by trivial), pre363⟩
    · have pre364 : ∀ t, Steps p.tables e below (T359.setTop (mkF m 287 #[.val (.int po), .val (.long qa), .second, .val (.long qb), .second, .val (.long qc), .second, .val (.long qd), .second, .val (.ref b168), .val (.ref b265), .val (.ref b275), .val (.int (1 : Int32))] [(.int (1 : Int32)), (.ref b265), (.ref b168), (.ref b275), (.int (1 : Int32))])) t → Steps p.tables e below G0 t := by
        intro t k
        refine pre361 t ?_
        show Steps p.tables e below (T359.setTop (mkF m 279 #[.val (.int po), .val (.long qa), .second, .val (.long qb), .second, .val (.long qc), .second, .val (.long qd), .second, .val (.ref b168), .val (.ref b265), .val (.ref b275), .val (.int (1 : Int32))] [(.int (po &&& (64 : Int32))), (.ref b265), (.ref b168), (.ref b275), (.int (1 : Int32))])) _
        refine XS.ifNo X359.here hx rfl (hb hby at_279) rfl ((if0 _ _).trans (feq hc279_362).1) ?_
        show Steps p.tables e below (T359.setTop (mkF m 282 #[.val (.int po), .val (.long qa), .second, .val (.long qb), .second, .val (.long qc), .second, .val (.long qd), .second, .val (.ref b168), .val (.ref b265), .val (.ref b275), .val (.int (1 : Int32))] [(.ref b265), (.ref b168), (.ref b275), (.int (1 : Int32))])) _
        refine XS.iconst X359.here hx rfl (hb hby at_282) ?_
        show Steps p.tables e below (T359.setTop (mkF m 283 #[.val (.int po), .val (.long qa), .second, .val (.long qb), .second, .val (.long qc), .second, .val (.long qd), .second, .val (.ref b168), .val (.ref b265), .val (.ref b275), .val (.int (1 : Int32))] [(.int (1 : Int32)), (.ref b265), (.ref b168), (.ref b275), (.int (1 : Int32))])) _
        refine XS.goto X359.here hx rfl (pc0 := 283) (pc' := 287) rfl (hb hby at_283) (by decide) (by decide) ?_
        exact k
      exact ⟨(1 : Int32), (by trivial), pre364⟩
  obtain ⟨_, _, ⟨T369, L369, k369, n369⟩, -, X369, ⟨Lc369, hQ369, l369, y369, z369⟩, st369⟩ := Jvm.LawKit.callS X359 hx (y := (⟨"com/example/tresse/tresse/queue/LinkedQueueDequeuePinLaw", "step", "(Lcom/example/tresse/tresse/queue/LinkedQueue;[Ljava/lang/Integer;[IZ)Z"⟩ : MethodName)) hown (mvT hZ (hw _ (List.mem_of_getElem? (i := 47) rfl))) (mvT hZ (hw _ (List.mem_of_getElem? (i := 48) rfl))) (mvT hZ (hw _ (List.mem_of_getElem? (i := 49) rfl))) (mvT hZ (hw _ (List.mem_of_getElem? (i := 50) rfl))) (by decide) (backOf (W := 1) (rm7 l Z a0 hw [] b275 b168 b265 v287_365 k168 k265 ri2_359 rj2_359 rah2_359 rat2_359 rs T359.heap n0 Zs359 p359_0 p359_1 p359_2 p359_3 p359_4 p359_5 p359_6 p359_7.1 (Nat.lt_of_le_of_lt hb359 (by decide)) hrs g_b275 g_b265 ne_b168_b265) hZ (hw _ (List.mem_of_getElem? (i := 50) rfl)) (hw _ (List.mem_of_getElem? (i := 49) rfl)) (by decide) (by decide)) (g := (mkF m 287 #[.val (.int po), .val (.long qa), .second, .val (.long qb), .second, .val (.long qc), .second, .val (.long qd), .second, .val (.ref b168), .val (.ref b265), .val (.ref b275), .val (.int (1 : Int32))] [(.int v287_365), (.ref b265), (.ref b168), (.ref b275), (.int (1 : Int32))])) rfl (by rw [hml]; rfl) (argsL := [(.ref b275), (.ref b168), (.ref b265), (.int v287_365)]) (rest := [(.int (1 : Int32))]) (lenOf own_pd149 rfl) rfl (by show 2 * 0 + _ ≤ _; exact Nat.le_of_eq rfl) (hb hby at_287) (fun _ _ => ⟨rfl, rfl, (by decide : 18 + 1 ≤ _), (by decide : 34 + 2 ≤ _)⟩)
  dsimp only [Pt.U, Pt.locs, Pt.cells, Pt.slots] at X369 l369 y369 z369 st369 hQ369
  rw [l369, y369, z369] at X369
  clear l369 y369 z369
  obtain ⟨ri2_369, rj2_369, rah2_369, rat2_369, rfl, Nq369, Zs369, p369_0, p369_1, p369_2, p369_3, p369_4, p369_5, p369_6, p369_7⟩ := hQ369
  have N369 := Fr.app N359 Nq369
  have hb369 : ri2_369 ≤ 7 := Nat.le_trans p369_7.2 (Nat.succ_le_succ hb359)
  have pre370 : ∀ t, Steps p.tables e below (T369.setTop (mkF m 290 #[.val (.int po), .val (.long qa), .second, .val (.long qb), .second, .val (.long qc), .second, .val (.long qd), .second, .val (.ref b168), .val (.ref b265), .val (.ref b275), .val (.int (1 : Int32))] [(.int (1 : Int32)), (.int (1 : Int32))])) t → Steps p.tables e below G0 t := by
    intro t k
    refine pre367 t ?_
    show Steps p.tables e below (T359.setTop (mkF m 287 #[.val (.int po), .val (.long qa), .second, .val (.long qb), .second, .val (.long qc), .second, .val (.long qd), .second, .val (.ref b168), .val (.ref b265), .val (.ref b275), .val (.int (1 : Int32))] [(.int v287_365), (.ref b265), (.ref b168), (.ref b275), (.int (1 : Int32))])) _
    refine st369 _ ?_
    exact k
  obtain ⟨v314_375, hv378, pre377⟩ : ∃ (v314_375 : Int32), (True) ∧ ∀ t, Steps p.tables e below (T369.setTop (mkF m 314 #[.val (.int po), .val (.long qa), .second, .val (.long qb), .second, .val (.long qc), .second, .val (.long qd), .second, .val (.ref b168), .val (.ref b265), .val (.ref b275), .val (.int (1 : Int32))] [(.int v314_375), (.ref b265), (.ref b168), (.ref b275), (.int (1 : Int32))])) t → Steps p.tables e below G0 t := by
    have pre371 : ∀ t, Steps p.tables e below (T369.setTop (mkF m 306 #[.val (.int po), .val (.long qa), .second, .val (.long qb), .second, .val (.long qc), .second, .val (.long qd), .second, .val (.ref b168), .val (.ref b265), .val (.ref b275), .val (.int (1 : Int32))] [(.int (po &&& (128 : Int32))), (.ref b265), (.ref b168), (.ref b275), (.int (1 : Int32))])) t → Steps p.tables e below G0 t := by
      intro t k
      refine pre370 t ?_
      show Steps p.tables e below (T369.setTop (mkF m 290 #[.val (.int po), .val (.long qa), .second, .val (.long qb), .second, .val (.long qc), .second, .val (.long qd), .second, .val (.ref b168), .val (.ref b265), .val (.ref b275), .val (.int (1 : Int32))] [(.int (1 : Int32)), (.int (1 : Int32))])) _
      refine XS.iand X369.here hx rfl (hb hby at_290) rfl ?_
      show Steps p.tables e below (T369.setTop (mkF m 291 #[.val (.int po), .val (.long qa), .second, .val (.long qb), .second, .val (.long qc), .second, .val (.long qd), .second, .val (.ref b168), .val (.ref b265), .val (.ref b275), .val (.int (1 : Int32))] [(.int (1 : Int32))])) _
      refine XS.istore X369.here hx rfl (hb hby at_291) rfl (l' := #[.val (.int po), .val (.long qa), .second, .val (.long qb), .second, .val (.long qc), .second, .val (.long qd), .second, .val (.ref b168), .val (.ref b265), .val (.ref b275), .val (.int (1 : Int32))]) rfl ?_
      show Steps p.tables e below (T369.setTop (mkF m 293 #[.val (.int po), .val (.long qa), .second, .val (.long qb), .second, .val (.long qc), .second, .val (.long qd), .second, .val (.ref b168), .val (.ref b265), .val (.ref b275), .val (.int (1 : Int32))] [])) _
      refine XS.iload X369.here hx rfl (hb hby at_293) rfl ?_
      show Steps p.tables e below (T369.setTop (mkF m 295 #[.val (.int po), .val (.long qa), .second, .val (.long qb), .second, .val (.long qc), .second, .val (.long qd), .second, .val (.ref b168), .val (.ref b265), .val (.ref b275), .val (.int (1 : Int32))] [(.int (1 : Int32))])) _
      refine XS.aload X369.here hx rfl (hb hby at_295) rfl rfl ?_
      show Steps p.tables e below (T369.setTop (mkF m 297 #[.val (.int po), .val (.long qa), .second, .val (.long qb), .second, .val (.long qc), .second, .val (.long qd), .second, .val (.ref b168), .val (.ref b265), .val (.ref b275), .val (.int (1 : Int32))] [(.ref b275), (.int (1 : Int32))])) _
      refine XS.aload X369.here hx rfl (hb hby at_297) rfl rfl ?_
      show Steps p.tables e below (T369.setTop (mkF m 299 #[.val (.int po), .val (.long qa), .second, .val (.long qb), .second, .val (.long qc), .second, .val (.long qd), .second, .val (.ref b168), .val (.ref b265), .val (.ref b275), .val (.int (1 : Int32))] [(.ref b168), (.ref b275), (.int (1 : Int32))])) _
      refine XS.aload X369.here hx rfl (hb hby at_299) rfl rfl ?_
      show Steps p.tables e below (T369.setTop (mkF m 301 #[.val (.int po), .val (.long qa), .second, .val (.long qb), .second, .val (.long qc), .second, .val (.long qd), .second, .val (.ref b168), .val (.ref b265), .val (.ref b275), .val (.int (1 : Int32))] [(.ref b265), (.ref b168), (.ref b275), (.int (1 : Int32))])) _
      refine XS.iloadN X369.here hx rfl (hb hby at_301) rfl ?_
      show Steps p.tables e below (T369.setTop (mkF m 302 #[.val (.int po), .val (.long qa), .second, .val (.long qb), .second, .val (.long qc), .second, .val (.long qd), .second, .val (.ref b168), .val (.ref b265), .val (.ref b275), .val (.int (1 : Int32))] [(.int po), (.ref b265), (.ref b168), (.ref b275), (.int (1 : Int32))])) _
      refine XS.sipush X369.here hx rfl (hb hby at_302) ?_
      show Steps p.tables e below (T369.setTop (mkF m 305 #[.val (.int po), .val (.long qa), .second, .val (.long qb), .second, .val (.long qc), .second, .val (.long qd), .second, .val (.ref b168), .val (.ref b265), .val (.ref b275), .val (.int (1 : Int32))] [(.int (128 : Int32)), (.int po), (.ref b265), (.ref b168), (.ref b275), (.int (1 : Int32))])) _
      refine XS.iand X369.here hx rfl (hb hby at_305) rfl ?_
      exact k
    by_cases hc306_372 : (po &&& (128 : Int32)) = (0 : Int32)
    · have pre373 : ∀ t, Steps p.tables e below (T369.setTop (mkF m 314 #[.val (.int po), .val (.long qa), .second, .val (.long qb), .second, .val (.long qc), .second, .val (.long qd), .second, .val (.ref b168), .val (.ref b265), .val (.ref b275), .val (.int (1 : Int32))] [(.int (0 : Int32)), (.ref b265), (.ref b168), (.ref b275), (.int (1 : Int32))])) t → Steps p.tables e below G0 t := by
        intro t k
        refine pre371 t ?_
        show Steps p.tables e below (T369.setTop (mkF m 306 #[.val (.int po), .val (.long qa), .second, .val (.long qb), .second, .val (.long qc), .second, .val (.long qd), .second, .val (.ref b168), .val (.ref b265), .val (.ref b275), .val (.int (1 : Int32))] [(.int (po &&& (128 : Int32))), (.ref b265), (.ref b168), (.ref b275), (.int (1 : Int32))])) _
        refine XS.ifYes X369.here hx rfl (pc0 := 306) (pc' := 313) rfl (hb hby at_306) rfl ((if0 _ _).trans (teq hc306_372).1) (by decide) (by decide) ?_
        show Steps p.tables e below (T369.setTop (mkF m 313 #[.val (.int po), .val (.long qa), .second, .val (.long qb), .second, .val (.long qc), .second, .val (.long qd), .second, .val (.ref b168), .val (.ref b265), .val (.ref b275), .val (.int (1 : Int32))] [(.ref b265), (.ref b168), (.ref b275), (.int (1 : Int32))])) _
        refine XS.iconst X369.here hx rfl (hb hby at_313) ?_
        exact k
      exact ⟨(0 : Int32), (by trivial), pre373⟩
    · have pre374 : ∀ t, Steps p.tables e below (T369.setTop (mkF m 314 #[.val (.int po), .val (.long qa), .second, .val (.long qb), .second, .val (.long qc), .second, .val (.long qd), .second, .val (.ref b168), .val (.ref b265), .val (.ref b275), .val (.int (1 : Int32))] [(.int (1 : Int32)), (.ref b265), (.ref b168), (.ref b275), (.int (1 : Int32))])) t → Steps p.tables e below G0 t := by
        intro t k
        refine pre371 t ?_
        show Steps p.tables e below (T369.setTop (mkF m 306 #[.val (.int po), .val (.long qa), .second, .val (.long qb), .second, .val (.long qc), .second, .val (.long qd), .second, .val (.ref b168), .val (.ref b265), .val (.ref b275), .val (.int (1 : Int32))] [(.int (po &&& (128 : Int32))), (.ref b265), (.ref b168), (.ref b275), (.int (1 : Int32))])) _
        refine XS.ifNo X369.here hx rfl (hb hby at_306) rfl ((if0 _ _).trans (feq hc306_372).1) ?_
        show Steps p.tables e below (T369.setTop (mkF m 309 #[.val (.int po), .val (.long qa), .second, .val (.long qb), .second, .val (.long qc), .second, .val (.long qd), .second, .val (.ref b168), .val (.ref b265), .val (.ref b275), .val (.int (1 : Int32))] [(.ref b265), (.ref b168), (.ref b275), (.int (1 : Int32))])) _
        refine XS.iconst X369.here hx rfl (hb hby at_309) ?_
        show Steps p.tables e below (T369.setTop (mkF m 310 #[.val (.int po), .val (.long qa), .second, .val (.long qb), .second, .val (.long qc), .second, .val (.long qd), .second, .val (.ref b168), .val (.ref b265), .val (.ref b275), .val (.int (1 : Int32))] [(.int (1 : Int32)), (.ref b265), (.ref b168), (.ref b275), (.int (1 : Int32))])) _
        refine XS.goto X369.here hx rfl (pc0 := 310) (pc' := 314) rfl (hb hby at_310) (by decide) (by decide) ?_
        exact k
      exact ⟨(1 : Int32), (by trivial), pre374⟩
  obtain ⟨_, _, ⟨T379, L379, k379, n379⟩, -, X379, ⟨Lc379, hQ379, l379, y379, z379⟩, st379⟩ := Jvm.LawKit.callS X369 hx (y := (⟨"com/example/tresse/tresse/queue/LinkedQueueDequeuePinLaw", "step", "(Lcom/example/tresse/tresse/queue/LinkedQueue;[Ljava/lang/Integer;[IZ)Z"⟩ : MethodName)) hown (mvT hZ (hw _ (List.mem_of_getElem? (i := 47) rfl))) (mvT hZ (hw _ (List.mem_of_getElem? (i := 48) rfl))) (mvT hZ (hw _ (List.mem_of_getElem? (i := 49) rfl))) (mvT hZ (hw _ (List.mem_of_getElem? (i := 50) rfl))) (by decide) (backOf (W := 1) (rm7 l Z a0 hw [] b275 b168 b265 v314_375 k168 k265 ri2_369 rj2_369 rah2_369 rat2_369 rs T369.heap n0 Zs369 p369_0 p369_1 p369_2 p369_3 p369_4 p369_5 p369_6 p369_7.1 (Nat.lt_of_le_of_lt hb369 (by decide)) hrs g_b275 g_b265 ne_b168_b265) hZ (hw _ (List.mem_of_getElem? (i := 50) rfl)) (hw _ (List.mem_of_getElem? (i := 49) rfl)) (by decide) (by decide)) (g := (mkF m 314 #[.val (.int po), .val (.long qa), .second, .val (.long qb), .second, .val (.long qc), .second, .val (.long qd), .second, .val (.ref b168), .val (.ref b265), .val (.ref b275), .val (.int (1 : Int32))] [(.int v314_375), (.ref b265), (.ref b168), (.ref b275), (.int (1 : Int32))])) rfl (by rw [hml]; rfl) (argsL := [(.ref b275), (.ref b168), (.ref b265), (.int v314_375)]) (rest := [(.int (1 : Int32))]) (lenOf own_pd149 rfl) rfl (by show 2 * 0 + _ ≤ _; exact Nat.le_of_eq rfl) (hb hby at_314) (fun _ _ => ⟨rfl, rfl, (by decide : 19 + 1 ≤ _), (by decide : 36 + 2 ≤ _)⟩)
  dsimp only [Pt.U, Pt.locs, Pt.cells, Pt.slots] at X379 l379 y379 z379 st379 hQ379
  rw [l379, y379, z379] at X379
  clear l379 y379 z379
  obtain ⟨ri2_379, rj2_379, rah2_379, rat2_379, rfl, Nq379, Zs379, p379_0, p379_1, p379_2, p379_3, p379_4, p379_5, p379_6, p379_7⟩ := hQ379
  have N379 := Fr.app N369 Nq379
  have hb379 : ri2_379 ≤ 8 := Nat.le_trans p379_7.2 (Nat.succ_le_succ hb369)
  obtain ⟨fs, hr, hrun, hended, hW, hsame⟩ := X379.leave (v := some (.int (1 : Int32))) (fun h => by rw [Bd.returns] at h; cases h)
  refine ⟨_, _, pre377 _ ?_, hrun, hended, _, _, rfl, ?_, ⟨_, rfl⟩, hW, hsame.mono (by decide) (by decide)⟩
  · show Steps p.tables e below (T369.setTop (mkF m 314 #[.val (.int po), .val (.long qa), .second, .val (.long qb), .second, .val (.long qc), .second, .val (.long qd), .second, .val (.ref b168), .val (.ref b265), .val (.ref b275), .val (.int (1 : Int32))] [(.int v314_375), (.ref b265), (.ref b168), (.ref b275), (.int (1 : Int32))])) _
    refine st379 _ ?_
    show Steps p.tables e below (T379.setTop (mkF m 317 #[.val (.int po), .val (.long qa), .second, .val (.long qb), .second, .val (.long qc), .second, .val (.long qd), .second, .val (.ref b168), .val (.ref b265), .val (.ref b275), .val (.int (1 : Int32))] [(.int (1 : Int32)), (.int (1 : Int32))])) _
    refine XS.iand X379.here hx rfl (hb hby at_317) rfl ?_
    show Steps p.tables e below (T379.setTop (mkF m 318 #[.val (.int po), .val (.long qa), .second, .val (.long qb), .second, .val (.long qc), .second, .val (.long qd), .second, .val (.ref b168), .val (.ref b265), .val (.ref b275), .val (.int (1 : Int32))] [(.int (1 : Int32))])) _
    refine XS.istore X379.here hx rfl (hb hby at_318) rfl (l' := #[.val (.int po), .val (.long qa), .second, .val (.long qb), .second, .val (.long qc), .second, .val (.long qd), .second, .val (.ref b168), .val (.ref b265), .val (.ref b275), .val (.int (1 : Int32))]) rfl ?_
    show Steps p.tables e below (T379.setTop (mkF m 320 #[.val (.int po), .val (.long qa), .second, .val (.long qb), .second, .val (.long qc), .second, .val (.long qd), .second, .val (.ref b168), .val (.ref b265), .val (.ref b275), .val (.int (1 : Int32))] [])) _
    refine XS.iload X379.here hx rfl (hb hby at_320) rfl ?_
    show Steps p.tables e below (T379.setTop (mkF m 322 #[.val (.int po), .val (.long qa), .second, .val (.long qb), .second, .val (.long qc), .second, .val (.long qd), .second, .val (.ref b168), .val (.ref b265), .val (.ref b275), .val (.int (1 : Int32))] [(.int (1 : Int32))])) _
    exact retN X379 hx (t := .boolean) Bd.returns (by simp) (hb hby at_322) hr
  · show Q0 Z po qa qb qc qd ac clc h0 n0 _ T379.heap _
    exact ⟨rfl, N379⟩
theorem own_eqi {a : Term} {k : Int32} {args : Array Value} {first s : State} {o : Option Outcome} {idx : List Nat} (h : (Jvm.Cond.eq a (.int k)).value args first o s idx = some true) : a.eval args first o idx s = some (.int k) := by
  obtain ⟨x, y, hx, hy, -, kin⟩ := cmp_v (Or.inl h)
  have e : y = .int k := Option.some.inj (hy.symm.trans (Term.int_eval k))
  subst e
  obtain ⟨z, rfl⟩ := kin
  have := gotT (Cond.eq_ints hx hy) h
  rw [hx, this]
theorem own_len {t : Term} {args : Array Value} {s : State} {x : Addr} {cl : Cell} (ht : t.eval args s none [] s = some (.ref x)) (ha : s.arrayAt? x = some cl) (h : (Term.length t).eval args s none [] s = some (.int 256)) : cl.slots.size = 256 := by
  by_cases q : cl.slots.size < 2 ^ 31
  · have e := Value.int.inj (Option.some.inj ((len_f ht ha q).symm.trans h))
    have e2 := len_toInt q
    rw [e, show (256 : Int32).toInt = 256 from by decide] at e2
    omega
  · simp [Term.eval, ht, ha, q] at h
theorem own_cache {t : Term} {args : Array Value} {s : State} {x : Addr} {cl : Cell} {C : String} {G : Jvm.Cond} (ht : t.eval args s none [] s = some (.ref x)) (ha : s.arrayAt? x = some cl) (A : Arr s s.heap x cl (.object C))
    (h : (Jvm.Cond.all t (.and (.exactly (.elem t (.index 0)) C) G)).value args s none s [] = some true) (hsz : cl.slots.size = 256) (hti : ∀ i, t.eval args s none [i] s = some (.ref x)) : ∀ k : Nat, k < 256 → ∃ r, cl.slots[k]? = some (.ref r) ∧ Exa s s.heap r C := by
  intro k hk
  have q := Cond.all_elim ht ha h k (by omega)
  obtain ⟨q1, -⟩ := and_e q
  obtain ⟨r, er⟩ := exa_v q1
  have ej : (Term.index 0).eval args s none [k] s = some (.int k.toInt32) := by simp [Term.eval, show k < 2 ^ 31 by omega]
  obtain ⟨i1, i2⟩ := elem_in er (hti k) ej A.1
  have ek : k.toInt32.toNatClampNeg = k := by
    have := len_toInt (show k < 2 ^ 31 by omega); show k.toInt32.toInt.toNat = k; omega
  have er2 : (Term.elem t (.int k.toInt32)).eval args s none [] s = some (.ref r) := (elem_f ht (Term.int_eval _) ha (fun z => i1 (Or.inl z))).trans i2
  have q2 : (Jvm.Cond.exactly (.elem t (.int k.toInt32)) C).value args s none s [] = some true := by rw [← q1]; simp only [Cond.value, er, er2]
  rw [ek] at i2
  exact ⟨r, i2, Exa.start er2 q2⟩
set_option maxRecDepth 65536 in
set_option maxHeartbeats 40000000 in
theorem comes_1 {Post : Tables → Env → Array Value → State → Outcome → State → Prop} (hpost : ∀ tb e args s v u, (limb_1_1.after args s (.returned v) u = true ∧ limb_1_2.after args s (.returned v) u = true ∧ True) → FrameEnd s (.returned v) u (Jvm.fieldLocs frame_1_writes args s ++ Jvm.arrayLocs frame_1_arrays args s ++ Jvm.staticLocs frame_1_statics s) 48 192 → Post tb e args s (.returned v) u) :
    ArmFor flags0 classFile x code maxLocals ret World_1 tables_1 room_1 Calls_1 rest_1 Pre_1 Post := by
  intro l hfl _ _ p e ha hc hk s m args below hf hA hF happ hP
  obtain ⟨hcalls, hrest, hpre⟩ := hP
  obtain ⟨-, -, -, hnamed, -, -, -, hat⟩ := (Spec.applies_iff hf).mp happ
  obtain ⟨hg, hn⟩ := and_e (Cond.before_iff.mp (show (Jvm.Cond.and given_1 narrow_1).before args s = true from hpre))
  obtain ⟨hcount, ga0⟩ := and_e hg
  obtain ⟨gi0, ga1⟩ := and_e ga0
  obtain ⟨gi1, ga2⟩ := and_e ga1
  obtain ⟨gi2, ga3⟩ := and_e ga2
  obtain ⟨gi3, ga4⟩ := and_e ga3
  have gi4 := ga4
  obtain ⟨w0, w1, w2, w3, w4, rfl⟩ : ∃ w0 w1 w2 w3 w4 : Value, args = #[w0, w1, w2, w3, w4] := by
    have hs : args.size = 5 := by simpa [Cond.value, given_1] using hcount
    obtain ⟨L⟩ := args
    match L, hs with
    | [w0, w1, w2, w3, w4], _ => exact ⟨w0, w1, w2, w3, w4, rfl⟩
  have hw := fun d (hd : d ∈ tables_1) => atoms_spec (ws := Jvm.Cond.code x code maxLocals ret :: tables_1) hat d (List.mem_cons_of_mem _ hd)
  have hfit : Fit s := fun {y c} hc i hi => by
    obtain ⟨ha, rfl⟩ := Array.getElem?_eq_some_iff.mp hc
    have q := List.all_eq_true.mp ((Array.all_eq_true_iff_forall_mem.mp hF) _ (Array.getElem_mem ha)) i (List.mem_range.mpr hi)
    simpa [Array.getElem?_eq_getElem hi] using q
  obtain ⟨hsets, hown0⟩ := atoms_of _ (rest_1_c_eq ▸ (show rest_1_c.before _ s = true from hrest))
  have hr0 := Cond.before_iff.mp hown0
  obtain ⟨i0, ei0⟩ := is_v gi0
  obtain rfl : w0 = (.int i0) := Option.some.inj ei0
  obtain ⟨i1, ei1⟩ := isL_v gi1
  obtain rfl : w1 = (.long i1) := Option.some.inj ei1
  obtain ⟨i2, ei2⟩ := isL_v gi2
  obtain rfl : w2 = (.long i2) := Option.some.inj ei2
  obtain ⟨i3, ei3⟩ := isL_v gi3
  obtain rfl : w3 = (.long i3) := Option.some.inj ei3
  obtain ⟨i4, ei4⟩ := isL_v gi4
  obtain rfl : w4 = (.long i4) := Option.some.inj ei4
  have y3 := Cond.before_iff.mp (hsets _ (List.mem_of_getElem? (i := 3) rfl))
  have Shi := Sta.start (own_eqi y3) (Or.inl (hsets _ (List.mem_of_getElem? (i := 1) rfl)))
  have y4 := Cond.before_iff.mp (hsets _ (List.mem_of_getElem? (i := 4) rfl))
  obtain ⟨ac, evc⟩ := arr_v y4
  obtain ⟨clc, Ac⟩ := Arr.start evc y4
  have Sca := Sta.start evc (Or.inr ⟨(hw _ (List.mem_of_getElem? (i := 7) rfl)), (hsets _ (List.mem_of_getElem? (i := 2) rfl))⟩)
  have hAt : s.arrayAt? ac = some clc := Arr.fin (Vm.Alike.refl _) Ac
  have y6 := own_eqi (Cond.before_iff.mp (hsets _ (List.mem_of_getElem? (i := 6) rfl)))
  have hsz : clc.slots.size = 256 := own_len evc hAt y6
  have y7 := Cond.before_iff.mp (hsets _ (List.mem_of_getElem? (i := 7) rfl))
  have hel := own_cache evc hAt Ac y7 hsz (fun _ => evc)
  obtain ⟨n, o, h1, h2, h3, _, L, rfl, ⟨rfl, N⟩, hq⟩ := rm0 l s _ hw tables_1 i0 i1 i2 i3 i4 ac clc s.heap s.heap.size (Nat.le_refl _) (Old.start s) Shi Sca Ac hsz hel p e ha hc hk s m _ below hf ((Spec.applies_iff_loose hf).mp happ).1 ⟨rfl, State.Warmed39.refl s, rfl⟩ trivial
  refine ⟨n, _, h1, h2, h3, hpost _ _ _ _ _ _ ⟨Cond.after_iff.mpr rfl, Cond.after_iff.mpr (eq_i res_at (Term.int_eval (1)) rfl), trivial⟩ ⟨hq.1, hq.2.1, (hq.2.2.sift fun y hy => Or.inr (N y hy)).mono (by decide) (by decide)⟩⟩
theorem main_1_1 : Claimed_1_1 := comes_1 fun _ _ _ _ _ _ h hF => ⟨h.1, hF⟩
theorem main_1_2 : Claimed_1_2 := comes_1 fun _ _ _ _ _ _ h hF => ⟨h.2.1, hF⟩
end Jvm.Pilot.@@N@@
namespace Jvm.Pilot.@@N@@
open Jvm Jvm.ClassFile Sem Op Lib Jvm.Free Jvm.Stand Jvm.Pilot.@@N@@.Jvm.D
/-! MADE BY PROGRAM (witnessworld.py) out of the Statement's table words and the real class files: 19 classes; the members and pool entries that the words name. The judged class is class 1, her method 1. -/
namespace start1
open Jvm.ClassFile
def u (s : String) : CpInfo := .utf8 (stringToUtf16 s)
/-- a pool by its gaps: so many unusable entries, then the entry; so many at the end -/
def gap : Nat → List CpInfo → List CpInfo
  | 0, r => r
  | n + 1, r => .unusable :: gap n r
def poolList (es : List (Nat × CpInfo)) (last : Nat) : List CpInfo := es.foldr (fun e r => gap e.1 (e.2 :: r)) (gap last [])
def pool (es : List (Nat × CpInfo)) (last : Nat) : Array CpInfo := ⟨poolList es last⟩
def fileOf (pool : Array CpInfo) (this : Nat) (attrs : Array Attribute := #[]) (ms : Array MethodInfo := #[]) (fl : Nat := 33) (sup : Nat := 0) (ifs : Array Nat := #[]) (fds : Array FieldInfo := #[]) : ClassFile where
  minorVersion := 0
  majorVersion := 65
  constantPool := pool
  accessFlags := fl
  thisClass := this
  superClass := sup
  interfaces := ifs
  fields := fds
  methods := ms
  attributes := attrs
def plain (name : String) (sup : Option ClassId) : Class where
  name := name
  kind := .ordinary
  loader := none
  accessFlags := 33
  super := sup
  interfaces := #[]
  cf := none
  fields := #[]
  methods := #[]
  instanceTypes := #[]
  staticTypes := #[]
  resolved := #[]
  callSites := []
  init := .initialized
  statics := none
  mirror := none

def pool0 : Array CpInfo := pool [(5, u "<init>"), (0, u "()V"), (1, .class_ 10), (1, u "java/lang/Object")] 113

def k0c0 : Code := { maxStack := 0, maxLocals := 1, code := object_method_1_code, exceptionTable := #[], attributes := #[] }
def k0m0 : Method := { name := "<init>", desc := "()V", sig := { parameters := [], returnType := none }, accessFlags := 1, code := some k0c0 }
/-- java/lang/Object -/
def k0 : Class := { plain "java/lang/Object" none with
  accessFlags := 33
  interfaces := #[]
  cf := some (fileOf pool0 8 #[] #[{ accessFlags := 1, nameIndex := 5, descriptorIndex := 6, attributes := #[] }] 33 0 #[] #[])
  fields := #[]
  methods := #[k0m0]
  instanceTypes := #[]
  staticTypes := #[]
  resolved := Array.replicate 124 none
  statics := none }

def pool1 : Array CpInfo := pool [(2, .class_ 4), (0, .nameAndType 5 6), (0, u "java/lang/Object"), (0, u "<init>"), (0, u "()V"), (0, .class_ 8), (0, u "java/lang/Integer"), (0, .methodref 7 10), (0, .nameAndType 11 12), (0, u "valueOf"), (0, u "(I)Ljava/lang/Integer;"), (0, .class_ 14), (0, u "com/example/tresse/tresse/queue/LinkedQueue"), (0, .methodref 13 3), (0, .methodref 17 18), (0, .class_ 19), (0, .nameAndType 20 21), (0, u "com/example/tresse/tresse/queue/LinkedQueueDequeuePinLaw"), (0, u "step"), (0, u "(Lcom/example/tresse/tresse/queue/LinkedQueue;[Ljava/lang/Integer;[IZ)Z"), (0, .methodref 13 23), (0, .nameAndType 24 25), (0, u "enqueue"), (0, u "(Ljava/lang/Object;)V"), (0, .methodref 13 27), (0, .nameAndType 28 29), (0, u "dequeue"), (0, u "()Ljava/lang/Object;"), (2, u "law"), (0, u "(IJJJJ)Z")] 9

def k1m0 : Method := { name := "<init>", desc := "()V", sig := { parameters := [], returnType := none }, accessFlags := 1, code := none }
def k1c1 : Code := { maxStack := 6, maxLocals := 13, code := code, exceptionTable := #[], attributes := #[] }
def k1m1 : Method := { name := "law", desc := "(IJJJJ)Z", sig := { parameters := [.int, .long, .long, .long, .long], returnType := some .boolean }, accessFlags := 9, code := some k1c1 }
def k1c2 : Code := { maxStack := 4, maxLocals := 6, code := method_3_code, exceptionTable := #[], attributes := #[] }
def k1m2 : Method := { name := "step", desc := "(Lcom/example/tresse/tresse/queue/LinkedQueue;[Ljava/lang/Integer;[IZ)Z", sig := { parameters := [(.object "com/example/tresse/tresse/queue/LinkedQueue"), (.array (.object "java/lang/Integer")), (.array .int), .boolean], returnType := some .boolean }, accessFlags := 10, code := some k1c2 }
/-- com/example/tresse/tresse/queue/LinkedQueueDequeuePinLaw -/
def k1 : Class := { plain "com/example/tresse/tresse/queue/LinkedQueueDequeuePinLaw" (some 0) with
  accessFlags := 49
  interfaces := #[]
  cf := some (fileOf pool1 17 #[] #[{ accessFlags := 1, nameIndex := 5, descriptorIndex := 6, attributes := #[] }, { accessFlags := 9, nameIndex := 32, descriptorIndex := 33, attributes := #[] }, { accessFlags := 10, nameIndex := 20, descriptorIndex := 21, attributes := #[] }] 49 2 #[] #[])
  fields := #[]
  methods := #[k1m0, k1m1, k1m2]
  instanceTypes := #[]
  staticTypes := #[]
  resolved := Array.replicate 43 none
  statics := none }

def pool2 : Array CpInfo := pool [(1, .class_ 2), (0, u "java/io/Serializable"), (0, .class_ 4), (0, u "java/lang/Object")] 2

/-- java/io/Serializable -/
def k2 : Class := { plain "java/io/Serializable" (some 0) with
  accessFlags := 1537
  interfaces := #[]
  cf := some (fileOf pool2 1 #[] #[] 1537 3 #[] #[])
  fields := #[]
  methods := #[]
  instanceTypes := #[]
  staticTypes := #[]
  resolved := Array.replicate 7 none
  statics := none }

def pool3 : Array CpInfo := pool [(1, .methodref 2 3), (0, .class_ 4), (0, .nameAndType 5 6), (0, u "java/lang/Object"), (0, u "<init>"), (0, u "()V"), (1, .class_ 10), (1, u "java/lang/Number"), (2, .class_ 14), (0, u "java/io/Serializable"), (0, u "serialVersionUID"), (0, u "J")] 20

def k3c0 : Code := { maxStack := 1, maxLocals := 1, code := jdk_18_method_1_code, exceptionTable := #[], attributes := #[] }
def k3m0 : Method := { name := "<init>", desc := "()V", sig := { parameters := [], returnType := none }, accessFlags := 1, code := some k3c0 }
/-- java/lang/Number -/
def k3 : Class := { plain "java/lang/Number" (some 0) with
  accessFlags := 1057
  interfaces := #[2]
  cf := some (fileOf pool3 8 #[] #[{ accessFlags := 1, nameIndex := 5, descriptorIndex := 6, attributes := #[] }] 1057 2 #[13] #[{ accessFlags := 26, nameIndex := 15, descriptorIndex := 16, attributes := #[] }])
  fields := #[{ name := "serialVersionUID", type := .long, accessFlags := 26, slot := 0, constantValue := 0 }]
  methods := #[k3m0]
  instanceTypes := #[]
  staticTypes := #[.long]
  resolved := Array.replicate 37 none
  statics := none }

def pool4 : Array CpInfo := pool [(1, .class_ 2), (0, u "java/lang/Comparable"), (0, .class_ 4), (0, u "java/lang/Object")] 7

/-- java/lang/Comparable -/
def k4 : Class := { plain "java/lang/Comparable" (some 0) with
  accessFlags := 1537
  interfaces := #[]
  cf := some (fileOf pool4 1 #[] #[] 1537 3 #[] #[])
  fields := #[]
  methods := #[]
  instanceTypes := #[]
  staticTypes := #[]
  resolved := Array.replicate 12 none
  statics := none }

def pool5 : Array CpInfo := pool [(1, .class_ 2), (0, u "java/lang/constant/Constable"), (0, .class_ 4), (0, u "java/lang/Object")] 6

/-- java/lang/constant/Constable -/
def k5 : Class := { plain "java/lang/constant/Constable" (some 0) with
  accessFlags := 1537
  interfaces := #[]
  cf := some (fileOf pool5 1 #[] #[] 1537 3 #[] #[])
  fields := #[]
  methods := #[]
  instanceTypes := #[]
  staticTypes := #[]
  resolved := Array.replicate 11 none
  statics := none }

def pool6 : Array CpInfo := pool [(1, .class_ 2), (0, u "java/lang/constant/ConstantDesc"), (0, .class_ 4), (0, u "java/lang/Object")] 32

/-- java/lang/constant/ConstantDesc -/
def k6 : Class := { plain "java/lang/constant/ConstantDesc" (some 0) with
  accessFlags := 1537
  interfaces := #[]
  cf := some (fileOf pool6 1 #[] #[] 1537 3 #[] #[])
  fields := #[]
  methods := #[]
  instanceTypes := #[]
  staticTypes := #[]
  resolved := Array.replicate 37 none
  statics := none }

def pool7 : Array CpInfo := pool [(1, .class_ 2), (0, u "java/lang/Integer"), (16, u "digits"), (0, u "[C"), (46, u "<init>"), (17, u "DigitOnes"), (0, u "[B"), (2, u "DigitTens"), (10, .nameAndType 67 101), (0, u "()V"), (85, u "valueOf"), (0, u "(I)Ljava/lang/Integer;"), (0, .class_ 190), (0, u "java/lang/Integer$IntegerCache"), (0, .fieldref 189 192), (0, .nameAndType 193 194), (0, u "high"), (0, u "I"), (0, .fieldref 189 196), (0, .nameAndType 197 198), (0, u "cache"), (0, u "[Ljava/lang/Integer;"), (0, .methodref 1 200), (0, .nameAndType 67 201), (0, u "(I)V"), (0, .methodref 203 100), (0, .class_ 204), (0, u "java/lang/Number"), (0, .fieldref 1 206), (0, .nameAndType 207 194), (0, u "value"), (94, u "TYPE"), (0, u "Ljava/lang/Class;"), (0, .class_ 305), (0, u "java/lang/Comparable"), (0, .class_ 307), (0, u "java/lang/constant/Constable"), (0, .class_ 309), (0, u "java/lang/constant/ConstantDesc"), (0, u "MIN_VALUE"), (1, u "MAX_VALUE"), (3, u "SIZE"), (1, u "BYTES"), (1, u "serialVersionUID"), (0, u "J")] 131

def k7c0 : Code := { maxStack := 3, maxLocals := 1, code := jdk_33_method_22_code, exceptionTable := #[], attributes := #[] }
def k7m0 : Method := { name := "valueOf", desc := "(I)Ljava/lang/Integer;", sig := { parameters := [.int], returnType := some (.object "java/lang/Integer") }, accessFlags := 9, code := some k7c0 }
def k7c1 : Code := { maxStack := 2, maxLocals := 2, code := jdk_33_method_23_code, exceptionTable := #[], attributes := #[] }
def k7m1 : Method := { name := "<init>", desc := "(I)V", sig := { parameters := [.int], returnType := none }, accessFlags := 1, code := some k7c1 }
/-- java/lang/Integer -/
def k7 : Class := { plain "java/lang/Integer" (some 3) with
  accessFlags := 49
  interfaces := #[4, 5, 6]
  cf := some (fileOf pool7 1 #[.nestMembers #[189]] #[{ accessFlags := 9, nameIndex := 187, descriptorIndex := 188, attributes := #[] }, { accessFlags := 1, nameIndex := 67, descriptorIndex := 201, attributes := #[] }] 49 203 #[304, 306, 308] #[{ accessFlags := 25, nameIndex := 310, descriptorIndex := 194, attributes := #[] }, { accessFlags := 25, nameIndex := 312, descriptorIndex := 194, attributes := #[] }, { accessFlags := 25, nameIndex := 302, descriptorIndex := 303, attributes := #[] }, { accessFlags := 24, nameIndex := 19, descriptorIndex := 20, attributes := #[] }, { accessFlags := 24, nameIndex := 89, descriptorIndex := 86, attributes := #[] }, { accessFlags := 24, nameIndex := 85, descriptorIndex := 86, attributes := #[] }, { accessFlags := 18, nameIndex := 207, descriptorIndex := 194, attributes := #[] }, { accessFlags := 25, nameIndex := 316, descriptorIndex := 194, attributes := #[] }, { accessFlags := 25, nameIndex := 318, descriptorIndex := 194, attributes := #[] }, { accessFlags := 26, nameIndex := 320, descriptorIndex := 321, attributes := #[] }])
  fields := #[{ name := "MIN_VALUE", type := .int, accessFlags := 25, slot := 0, constantValue := 0 }, { name := "MAX_VALUE", type := .int, accessFlags := 25, slot := 1, constantValue := 0 }, { name := "TYPE", type := (.object "java/lang/Class"), accessFlags := 25, slot := 2, constantValue := 0 }, { name := "digits", type := (.array .char), accessFlags := 24, slot := 3, constantValue := 0 }, { name := "DigitTens", type := (.array .byte), accessFlags := 24, slot := 4, constantValue := 0 }, { name := "DigitOnes", type := (.array .byte), accessFlags := 24, slot := 5, constantValue := 0 }, { name := "value", type := .int, accessFlags := 18, slot := 0, constantValue := 0 }, { name := "SIZE", type := .int, accessFlags := 25, slot := 6, constantValue := 0 }, { name := "BYTES", type := .int, accessFlags := 25, slot := 7, constantValue := 0 }, { name := "serialVersionUID", type := .long, accessFlags := 26, slot := 8, constantValue := 0 }]
  methods := #[k7m0, k7m1]
  instanceTypes := #[.int]
  staticTypes := #[.int, .int, (.object "java/lang/Class"), (.array .char), (.array .byte), (.array .byte), .int, .int, .long]
  resolved := Array.replicate 453 none
  statics := none }

def pool8 : Array CpInfo := pool [(2, .class_ 4), (1, u "java/lang/Object"), (0, u "<init>"), (0, u "()V"), (0, .class_ 8), (0, u "java/lang/Integer"), (7, .class_ 18), (1, u "java/lang/Integer$IntegerCache"), (0, u "$assertionsDisabled"), (0, u "Z"), (26, u "high"), (0, u "I"), (8, u "archivedCache"), (0, u "[Ljava/lang/Integer;"), (12, u "cache"), (0, u "low")] 27

def k8m0 : Method := { name := "<init>", desc := "()V", sig := { parameters := [], returnType := none }, accessFlags := 2, code := none }
/-- java/lang/Integer$IntegerCache -/
def k8 : Class := { plain "java/lang/Integer$IntegerCache" (some 0) with
  accessFlags := 48
  interfaces := #[]
  cf := some (fileOf pool8 16 #[.nestHost 7] #[{ accessFlags := 2, nameIndex := 5, descriptorIndex := 6, attributes := #[] }] 48 2 #[] #[{ accessFlags := 24, nameIndex := 72, descriptorIndex := 48, attributes := #[] }, { accessFlags := 24, nameIndex := 47, descriptorIndex := 48, attributes := #[] }, { accessFlags := 24, nameIndex := 71, descriptorIndex := 58, attributes := #[] }, { accessFlags := 8, nameIndex := 57, descriptorIndex := 58, attributes := #[] }, { accessFlags := 4120, nameIndex := 19, descriptorIndex := 20, attributes := #[] }])
  fields := #[{ name := "low", type := .int, accessFlags := 24, slot := 0, constantValue := 0 }, { name := "high", type := .int, accessFlags := 24, slot := 1, constantValue := 0 }, { name := "cache", type := (.array (.object "java/lang/Integer")), accessFlags := 24, slot := 2, constantValue := 0 }, { name := "archivedCache", type := (.array (.object "java/lang/Integer")), accessFlags := 8, slot := 3, constantValue := 0 }, { name := "$assertionsDisabled", type := .boolean, accessFlags := 4120, slot := 4, constantValue := 0 }]
  methods := #[k8m0]
  instanceTypes := #[]
  staticTypes := #[.int, .int, (.array (.object "java/lang/Integer")), (.array (.object "java/lang/Integer")), .boolean]
  resolved := Array.replicate 100 none
  statics := some 0 }

def pool9 : Array CpInfo := pool [(1, .class_ 2), (0, u "com/example/tresse/tresse/queue/Queue"), (0, .class_ 4), (0, u "java/lang/Object")] 10

/-- com/example/tresse/tresse/queue/Queue -/
def k9 : Class := { plain "com/example/tresse/tresse/queue/Queue" (some 0) with
  accessFlags := 1537
  interfaces := #[]
  cf := some (fileOf pool9 1 #[] #[] 1537 3 #[] #[])
  fields := #[]
  methods := #[]
  instanceTypes := #[]
  staticTypes := #[]
  resolved := Array.replicate 15 none
  statics := none }

def pool10 : Array CpInfo := pool [(1, .methodref 2 3), (0, .class_ 4), (0, .nameAndType 5 6), (0, u "java/lang/Object"), (0, u "<init>"), (0, u "()V"), (0, .class_ 8), (0, u "com/example/tresse/tresse/queue/LinkedQueue$Node"), (0, .methodref 7 10), (0, .nameAndType 5 11), (0, u "(Ljava/lang/Object;)V"), (0, .fieldref 13 14), (0, .class_ 15), (0, .nameAndType 16 17), (0, u "com/example/tresse/tresse/queue/LinkedQueue"), (0, u "head"), (0, u "Lcom/example/tresse/tresse/queue/LinkedQueue$Node;"), (0, .fieldref 13 19), (0, .nameAndType 20 17), (0, u "tail"), (0, .methodref 22 23), (0, .class_ 24), (0, .nameAndType 25 26), (0, u "java/util/Objects"), (0, u "requireNonNull"), (0, u "(Ljava/lang/Object;)Ljava/lang/Object;"), (0, .fieldref 7 28), (0, .nameAndType 29 17), (0, u "next"), (0, .fieldref 7 31), (0, .nameAndType 32 33), (0, u "value"), (0, u "Ljava/lang/Object;"), (0, .class_ 35), (0, u "com/example/tresse/tresse/queue/Queue"), (4, u "enqueue"), (1, u "dequeue"), (0, u "()Ljava/lang/Object;")] 8

def k10c0 : Code := { maxStack := 4, maxLocals := 1, code := prog_93_method_1_code, exceptionTable := #[], attributes := #[] }
def k10m0 : Method := { name := "<init>", desc := "()V", sig := { parameters := [], returnType := none }, accessFlags := 0, code := some k10c0 }
def k10c1 : Code := { maxStack := 3, maxLocals := 3, code := prog_93_method_2_code, exceptionTable := #[], attributes := #[] }
def k10m1 : Method := { name := "enqueue", desc := "(Ljava/lang/Object;)V", sig := { parameters := [(.object "java/lang/Object")], returnType := none }, accessFlags := 1, code := some k10c1 }
def k10c2 : Code := { maxStack := 2, maxLocals := 3, code := prog_93_method_3_code, exceptionTable := #[], attributes := #[] }
def k10m2 : Method := { name := "dequeue", desc := "()Ljava/lang/Object;", sig := { parameters := [], returnType := some (.object "java/lang/Object") }, accessFlags := 1, code := some k10c2 }
/-- com/example/tresse/tresse/queue/LinkedQueue -/
def k10 : Class := { plain "com/example/tresse/tresse/queue/LinkedQueue" (some 0) with
  accessFlags := 48
  interfaces := #[9]
  cf := some (fileOf pool10 13 #[.nestMembers #[7]] #[{ accessFlags := 0, nameIndex := 5, descriptorIndex := 6, attributes := #[] }, { accessFlags := 1, nameIndex := 40, descriptorIndex := 11, attributes := #[] }, { accessFlags := 1, nameIndex := 42, descriptorIndex := 43, attributes := #[] }] 48 2 #[34] #[{ accessFlags := 2, nameIndex := 16, descriptorIndex := 17, attributes := #[] }, { accessFlags := 2, nameIndex := 20, descriptorIndex := 17, attributes := #[] }])
  fields := #[{ name := "head", type := (.object "com/example/tresse/tresse/queue/LinkedQueue$Node"), accessFlags := 2, slot := 0, constantValue := 0 }, { name := "tail", type := (.object "com/example/tresse/tresse/queue/LinkedQueue$Node"), accessFlags := 2, slot := 1, constantValue := 0 }]
  methods := #[k10m0, k10m1, k10m2]
  instanceTypes := #[(.object "com/example/tresse/tresse/queue/LinkedQueue$Node"), (.object "com/example/tresse/tresse/queue/LinkedQueue$Node")]
  staticTypes := #[]
  resolved := ((Array.replicate 52 none).setIfInBounds 27 (some (.field 11 1))).setIfInBounds 30 (some (.field 11 0))
  statics := none }

def pool11 : Array CpInfo := pool [(1, .methodref 2 3), (0, .class_ 4), (0, .nameAndType 5 6), (0, u "java/lang/Object"), (0, u "<init>"), (0, u "()V"), (0, .fieldref 8 9), (0, .class_ 10), (0, .nameAndType 11 12), (0, u "com/example/tresse/tresse/queue/LinkedQueue$Node"), (0, u "value"), (0, u "Ljava/lang/Object;"), (2, u "next"), (0, u "Lcom/example/tresse/tresse/queue/LinkedQueue$Node;"), (1, u "(Ljava/lang/Object;)V"), (7, .class_ 27), (0, u "com/example/tresse/tresse/queue/LinkedQueue")] 2

def k11c0 : Code := { maxStack := 2, maxLocals := 2, code := prog_94_method_1_code, exceptionTable := #[], attributes := #[] }
def k11m0 : Method := { name := "<init>", desc := "(Ljava/lang/Object;)V", sig := { parameters := [(.object "java/lang/Object")], returnType := none }, accessFlags := 0, code := some k11c0 }
/-- com/example/tresse/tresse/queue/LinkedQueue$Node -/
def k11 : Class := { plain "com/example/tresse/tresse/queue/LinkedQueue$Node" (some 0) with
  accessFlags := 48
  interfaces := #[]
  cf := some (fileOf pool11 8 #[.nestHost 26] #[{ accessFlags := 0, nameIndex := 5, descriptorIndex := 18, attributes := #[] }] 48 2 #[] #[{ accessFlags := 2, nameIndex := 11, descriptorIndex := 12, attributes := #[] }, { accessFlags := 2, nameIndex := 15, descriptorIndex := 16, attributes := #[] }])
  fields := #[{ name := "value", type := (.object "java/lang/Object"), accessFlags := 2, slot := 0, constantValue := 0 }, { name := "next", type := (.object "com/example/tresse/tresse/queue/LinkedQueue$Node"), accessFlags := 2, slot := 1, constantValue := 0 }]
  methods := #[k11m0]
  instanceTypes := #[(.object "java/lang/Object"), (.object "com/example/tresse/tresse/queue/LinkedQueue$Node")]
  staticTypes := #[]
  resolved := Array.replicate 30 none
  statics := none }

def pool12 : Array CpInfo := pool [(2, .class_ 4), (1, u "java/lang/Object"), (0, u "<init>"), (0, u "()V"), (35, .class_ 44), (1, u "java/util/Objects"), (0, u "requireNonNull"), (0, u "(Ljava/lang/Object;)Ljava/lang/Object;")] 137

def k12m0 : Method := { name := "<init>", desc := "()V", sig := { parameters := [], returnType := none }, accessFlags := 2, code := none }
def k12c1 : Code := { maxStack := 2, maxLocals := 1, code := jdk_31_method_10_code, exceptionTable := #[], attributes := #[] }
def k12m1 : Method := { name := "requireNonNull", desc := "(Ljava/lang/Object;)Ljava/lang/Object;", sig := { parameters := [(.object "java/lang/Object")], returnType := some (.object "java/lang/Object") }, accessFlags := 9, code := some k12c1 }
/-- java/util/Objects -/
def k12 : Class := { plain "java/util/Objects" (some 0) with
  accessFlags := 49
  interfaces := #[]
  cf := some (fileOf pool12 42 #[] #[{ accessFlags := 2, nameIndex := 5, descriptorIndex := 6, attributes := #[] }, { accessFlags := 9, nameIndex := 45, descriptorIndex := 46, attributes := #[] }] 49 2 #[] #[])
  fields := #[]
  methods := #[k12m0, k12m1]
  instanceTypes := #[]
  staticTypes := #[]
  resolved := Array.replicate 184 none
  statics := none }

def pool13 : Array CpInfo := pool [(1, u "java/lang/Cloneable"), (0, .class_ 1), (0, u "java/lang/Object"), (0, .class_ 3)] 3

/-- java/lang/Cloneable -/
def k13 : Class := { plain "java/lang/Cloneable" (some 0) with
  accessFlags := 1537
  interfaces := #[]
  cf := some (fileOf pool13 2 #[] #[] 1537 4 #[] #[])
  fields := #[]
  methods := #[]
  instanceTypes := #[]
  staticTypes := #[]
  resolved := Array.replicate 8 none
  statics := none }

/-- the primitive byte -/
def k14 : Class := { plain "byte" none with kind := .primitive 'B', accessFlags := 0x411 }
/-- [B -/
def k15 : Class := { plain "[B" (some 0) with kind := .array 14 .byte, interfaces := #[13, 2], accessFlags := 1041 }

/-- the primitive int -/
def k16 : Class := { plain "int" none with kind := .primitive 'I', accessFlags := 0x411 }
/-- [I -/
def k17 : Class := { plain "[I" (some 0) with kind := .array 16 .int, interfaces := #[13, 2], accessFlags := 1041 }

/-- [Ljava/lang/Integer; -/
def k18 : Class := { plain "[Ljava/lang/Integer;" (some 0) with kind := .array 7 (.object "java/lang/Integer"), interfaces := #[13, 2], accessFlags := 1041 }

def heap : Heap := #[{ cls := 8, slots := #[.int 0, .int 127, .ref 1, .null, .int 0], vm := .statics 8 },
  { cls := 18, slots := #[.ref 2, .ref 3, .ref 4, .ref 5, .ref 6, .ref 7, .ref 8, .ref 9, .ref 10, .ref 11, .ref 12, .ref 13, .ref 14, .ref 15, .ref 16, .ref 17, .ref 18, .ref 19, .ref 20, .ref 21, .ref 22, .ref 23, .ref 24, .ref 25, .ref 26, .ref 27, .ref 28, .ref 29, .ref 30, .ref 31, .ref 32, .ref 33, .ref 34, .ref 35, .ref 36, .ref 37, .ref 38, .ref 39, .ref 40, .ref 41, .ref 42, .ref 43, .ref 44, .ref 45, .ref 46, .ref 47, .ref 48, .ref 49, .ref 50, .ref 51, .ref 52, .ref 53, .ref 54, .ref 55, .ref 56, .ref 57, .ref 58, .ref 59, .ref 60, .ref 61, .ref 62, .ref 63, .ref 64, .ref 65, .ref 66, .ref 67, .ref 68, .ref 69, .ref 70, .ref 71, .ref 72, .ref 73, .ref 74, .ref 75, .ref 76, .ref 77, .ref 78, .ref 79, .ref 80, .ref 81, .ref 82, .ref 83, .ref 84, .ref 85, .ref 86, .ref 87, .ref 88, .ref 89, .ref 90, .ref 91, .ref 92, .ref 93, .ref 94, .ref 95, .ref 96, .ref 97, .ref 98, .ref 99, .ref 100, .ref 101, .ref 102, .ref 103, .ref 104, .ref 105, .ref 106, .ref 107, .ref 108, .ref 109, .ref 110, .ref 111, .ref 112, .ref 113, .ref 114, .ref 115, .ref 116, .ref 117, .ref 118, .ref 119, .ref 120, .ref 121, .ref 122, .ref 123, .ref 124, .ref 125, .ref 126, .ref 127, .ref 128, .ref 129, .ref 130, .ref 131, .ref 132, .ref 133, .ref 134, .ref 135, .ref 136, .ref 137, .ref 138, .ref 139, .ref 140, .ref 141, .ref 142, .ref 143, .ref 144, .ref 145, .ref 146, .ref 147, .ref 148, .ref 149, .ref 150, .ref 151, .ref 152, .ref 153, .ref 154, .ref 155, .ref 156, .ref 157, .ref 158, .ref 159, .ref 160, .ref 161, .ref 162, .ref 163, .ref 164, .ref 165, .ref 166, .ref 167, .ref 168, .ref 169, .ref 170, .ref 171, .ref 172, .ref 173, .ref 174, .ref 175, .ref 176, .ref 177, .ref 178, .ref 179, .ref 180, .ref 181, .ref 182, .ref 183, .ref 184, .ref 185, .ref 186, .ref 187, .ref 188, .ref 189, .ref 190, .ref 191, .ref 192, .ref 193, .ref 194, .ref 195, .ref 196, .ref 197, .ref 198, .ref 199, .ref 200, .ref 201, .ref 202, .ref 203, .ref 204, .ref 205, .ref 206, .ref 207, .ref 208, .ref 209, .ref 210, .ref 211, .ref 212, .ref 213, .ref 214, .ref 215, .ref 216, .ref 217, .ref 218, .ref 219, .ref 220, .ref 221, .ref 222, .ref 223, .ref 224, .ref 225, .ref 226, .ref 227, .ref 228, .ref 229, .ref 230, .ref 231, .ref 232, .ref 233, .ref 234, .ref 235, .ref 236, .ref 237, .ref 238, .ref 239, .ref 240, .ref 241, .ref 242, .ref 243, .ref 244, .ref 245, .ref 246, .ref 247, .ref 248, .ref 249, .ref 250, .ref 251, .ref 252, .ref 253, .ref 254, .ref 255, .ref 256, .ref 257], vm := .none },
  { cls := 7, slots := #[.int (-128)], vm := .none },
  { cls := 7, slots := #[.int (-127)], vm := .none },
  { cls := 7, slots := #[.int (-126)], vm := .none },
  { cls := 7, slots := #[.int (-125)], vm := .none },
  { cls := 7, slots := #[.int (-124)], vm := .none },
  { cls := 7, slots := #[.int (-123)], vm := .none },
  { cls := 7, slots := #[.int (-122)], vm := .none },
  { cls := 7, slots := #[.int (-121)], vm := .none },
  { cls := 7, slots := #[.int (-120)], vm := .none },
  { cls := 7, slots := #[.int (-119)], vm := .none },
  { cls := 7, slots := #[.int (-118)], vm := .none },
  { cls := 7, slots := #[.int (-117)], vm := .none },
  { cls := 7, slots := #[.int (-116)], vm := .none },
  { cls := 7, slots := #[.int (-115)], vm := .none },
  { cls := 7, slots := #[.int (-114)], vm := .none },
  { cls := 7, slots := #[.int (-113)], vm := .none },
  { cls := 7, slots := #[.int (-112)], vm := .none },
  { cls := 7, slots := #[.int (-111)], vm := .none },
  { cls := 7, slots := #[.int (-110)], vm := .none },
  { cls := 7, slots := #[.int (-109)], vm := .none },
  { cls := 7, slots := #[.int (-108)], vm := .none },
  { cls := 7, slots := #[.int (-107)], vm := .none },
  { cls := 7, slots := #[.int (-106)], vm := .none },
  { cls := 7, slots := #[.int (-105)], vm := .none },
  { cls := 7, slots := #[.int (-104)], vm := .none },
  { cls := 7, slots := #[.int (-103)], vm := .none },
  { cls := 7, slots := #[.int (-102)], vm := .none },
  { cls := 7, slots := #[.int (-101)], vm := .none },
  { cls := 7, slots := #[.int (-100)], vm := .none },
  { cls := 7, slots := #[.int (-99)], vm := .none },
  { cls := 7, slots := #[.int (-98)], vm := .none },
  { cls := 7, slots := #[.int (-97)], vm := .none },
  { cls := 7, slots := #[.int (-96)], vm := .none },
  { cls := 7, slots := #[.int (-95)], vm := .none },
  { cls := 7, slots := #[.int (-94)], vm := .none },
  { cls := 7, slots := #[.int (-93)], vm := .none },
  { cls := 7, slots := #[.int (-92)], vm := .none },
  { cls := 7, slots := #[.int (-91)], vm := .none },
  { cls := 7, slots := #[.int (-90)], vm := .none },
  { cls := 7, slots := #[.int (-89)], vm := .none },
  { cls := 7, slots := #[.int (-88)], vm := .none },
  { cls := 7, slots := #[.int (-87)], vm := .none },
  { cls := 7, slots := #[.int (-86)], vm := .none },
  { cls := 7, slots := #[.int (-85)], vm := .none },
  { cls := 7, slots := #[.int (-84)], vm := .none },
  { cls := 7, slots := #[.int (-83)], vm := .none },
  { cls := 7, slots := #[.int (-82)], vm := .none },
  { cls := 7, slots := #[.int (-81)], vm := .none },
  { cls := 7, slots := #[.int (-80)], vm := .none },
  { cls := 7, slots := #[.int (-79)], vm := .none },
  { cls := 7, slots := #[.int (-78)], vm := .none },
  { cls := 7, slots := #[.int (-77)], vm := .none },
  { cls := 7, slots := #[.int (-76)], vm := .none },
  { cls := 7, slots := #[.int (-75)], vm := .none },
  { cls := 7, slots := #[.int (-74)], vm := .none },
  { cls := 7, slots := #[.int (-73)], vm := .none },
  { cls := 7, slots := #[.int (-72)], vm := .none },
  { cls := 7, slots := #[.int (-71)], vm := .none },
  { cls := 7, slots := #[.int (-70)], vm := .none },
  { cls := 7, slots := #[.int (-69)], vm := .none },
  { cls := 7, slots := #[.int (-68)], vm := .none },
  { cls := 7, slots := #[.int (-67)], vm := .none },
  { cls := 7, slots := #[.int (-66)], vm := .none },
  { cls := 7, slots := #[.int (-65)], vm := .none },
  { cls := 7, slots := #[.int (-64)], vm := .none },
  { cls := 7, slots := #[.int (-63)], vm := .none },
  { cls := 7, slots := #[.int (-62)], vm := .none },
  { cls := 7, slots := #[.int (-61)], vm := .none },
  { cls := 7, slots := #[.int (-60)], vm := .none },
  { cls := 7, slots := #[.int (-59)], vm := .none },
  { cls := 7, slots := #[.int (-58)], vm := .none },
  { cls := 7, slots := #[.int (-57)], vm := .none },
  { cls := 7, slots := #[.int (-56)], vm := .none },
  { cls := 7, slots := #[.int (-55)], vm := .none },
  { cls := 7, slots := #[.int (-54)], vm := .none },
  { cls := 7, slots := #[.int (-53)], vm := .none },
  { cls := 7, slots := #[.int (-52)], vm := .none },
  { cls := 7, slots := #[.int (-51)], vm := .none },
  { cls := 7, slots := #[.int (-50)], vm := .none },
  { cls := 7, slots := #[.int (-49)], vm := .none },
  { cls := 7, slots := #[.int (-48)], vm := .none },
  { cls := 7, slots := #[.int (-47)], vm := .none },
  { cls := 7, slots := #[.int (-46)], vm := .none },
  { cls := 7, slots := #[.int (-45)], vm := .none },
  { cls := 7, slots := #[.int (-44)], vm := .none },
  { cls := 7, slots := #[.int (-43)], vm := .none },
  { cls := 7, slots := #[.int (-42)], vm := .none },
  { cls := 7, slots := #[.int (-41)], vm := .none },
  { cls := 7, slots := #[.int (-40)], vm := .none },
  { cls := 7, slots := #[.int (-39)], vm := .none },
  { cls := 7, slots := #[.int (-38)], vm := .none },
  { cls := 7, slots := #[.int (-37)], vm := .none },
  { cls := 7, slots := #[.int (-36)], vm := .none },
  { cls := 7, slots := #[.int (-35)], vm := .none },
  { cls := 7, slots := #[.int (-34)], vm := .none },
  { cls := 7, slots := #[.int (-33)], vm := .none },
  { cls := 7, slots := #[.int (-32)], vm := .none },
  { cls := 7, slots := #[.int (-31)], vm := .none },
  { cls := 7, slots := #[.int (-30)], vm := .none },
  { cls := 7, slots := #[.int (-29)], vm := .none },
  { cls := 7, slots := #[.int (-28)], vm := .none },
  { cls := 7, slots := #[.int (-27)], vm := .none },
  { cls := 7, slots := #[.int (-26)], vm := .none },
  { cls := 7, slots := #[.int (-25)], vm := .none },
  { cls := 7, slots := #[.int (-24)], vm := .none },
  { cls := 7, slots := #[.int (-23)], vm := .none },
  { cls := 7, slots := #[.int (-22)], vm := .none },
  { cls := 7, slots := #[.int (-21)], vm := .none },
  { cls := 7, slots := #[.int (-20)], vm := .none },
  { cls := 7, slots := #[.int (-19)], vm := .none },
  { cls := 7, slots := #[.int (-18)], vm := .none },
  { cls := 7, slots := #[.int (-17)], vm := .none },
  { cls := 7, slots := #[.int (-16)], vm := .none },
  { cls := 7, slots := #[.int (-15)], vm := .none },
  { cls := 7, slots := #[.int (-14)], vm := .none },
  { cls := 7, slots := #[.int (-13)], vm := .none },
  { cls := 7, slots := #[.int (-12)], vm := .none },
  { cls := 7, slots := #[.int (-11)], vm := .none },
  { cls := 7, slots := #[.int (-10)], vm := .none },
  { cls := 7, slots := #[.int (-9)], vm := .none },
  { cls := 7, slots := #[.int (-8)], vm := .none },
  { cls := 7, slots := #[.int (-7)], vm := .none },
  { cls := 7, slots := #[.int (-6)], vm := .none },
  { cls := 7, slots := #[.int (-5)], vm := .none },
  { cls := 7, slots := #[.int (-4)], vm := .none },
  { cls := 7, slots := #[.int (-3)], vm := .none },
  { cls := 7, slots := #[.int (-2)], vm := .none },
  { cls := 7, slots := #[.int (-1)], vm := .none },
  { cls := 7, slots := #[.int (0)], vm := .none },
  { cls := 7, slots := #[.int (1)], vm := .none },
  { cls := 7, slots := #[.int (2)], vm := .none },
  { cls := 7, slots := #[.int (3)], vm := .none },
  { cls := 7, slots := #[.int (4)], vm := .none },
  { cls := 7, slots := #[.int (5)], vm := .none },
  { cls := 7, slots := #[.int (6)], vm := .none },
  { cls := 7, slots := #[.int (7)], vm := .none },
  { cls := 7, slots := #[.int (8)], vm := .none },
  { cls := 7, slots := #[.int (9)], vm := .none },
  { cls := 7, slots := #[.int (10)], vm := .none },
  { cls := 7, slots := #[.int (11)], vm := .none },
  { cls := 7, slots := #[.int (12)], vm := .none },
  { cls := 7, slots := #[.int (13)], vm := .none },
  { cls := 7, slots := #[.int (14)], vm := .none },
  { cls := 7, slots := #[.int (15)], vm := .none },
  { cls := 7, slots := #[.int (16)], vm := .none },
  { cls := 7, slots := #[.int (17)], vm := .none },
  { cls := 7, slots := #[.int (18)], vm := .none },
  { cls := 7, slots := #[.int (19)], vm := .none },
  { cls := 7, slots := #[.int (20)], vm := .none },
  { cls := 7, slots := #[.int (21)], vm := .none },
  { cls := 7, slots := #[.int (22)], vm := .none },
  { cls := 7, slots := #[.int (23)], vm := .none },
  { cls := 7, slots := #[.int (24)], vm := .none },
  { cls := 7, slots := #[.int (25)], vm := .none },
  { cls := 7, slots := #[.int (26)], vm := .none },
  { cls := 7, slots := #[.int (27)], vm := .none },
  { cls := 7, slots := #[.int (28)], vm := .none },
  { cls := 7, slots := #[.int (29)], vm := .none },
  { cls := 7, slots := #[.int (30)], vm := .none },
  { cls := 7, slots := #[.int (31)], vm := .none },
  { cls := 7, slots := #[.int (32)], vm := .none },
  { cls := 7, slots := #[.int (33)], vm := .none },
  { cls := 7, slots := #[.int (34)], vm := .none },
  { cls := 7, slots := #[.int (35)], vm := .none },
  { cls := 7, slots := #[.int (36)], vm := .none },
  { cls := 7, slots := #[.int (37)], vm := .none },
  { cls := 7, slots := #[.int (38)], vm := .none },
  { cls := 7, slots := #[.int (39)], vm := .none },
  { cls := 7, slots := #[.int (40)], vm := .none },
  { cls := 7, slots := #[.int (41)], vm := .none },
  { cls := 7, slots := #[.int (42)], vm := .none },
  { cls := 7, slots := #[.int (43)], vm := .none },
  { cls := 7, slots := #[.int (44)], vm := .none },
  { cls := 7, slots := #[.int (45)], vm := .none },
  { cls := 7, slots := #[.int (46)], vm := .none },
  { cls := 7, slots := #[.int (47)], vm := .none },
  { cls := 7, slots := #[.int (48)], vm := .none },
  { cls := 7, slots := #[.int (49)], vm := .none },
  { cls := 7, slots := #[.int (50)], vm := .none },
  { cls := 7, slots := #[.int (51)], vm := .none },
  { cls := 7, slots := #[.int (52)], vm := .none },
  { cls := 7, slots := #[.int (53)], vm := .none },
  { cls := 7, slots := #[.int (54)], vm := .none },
  { cls := 7, slots := #[.int (55)], vm := .none },
  { cls := 7, slots := #[.int (56)], vm := .none },
  { cls := 7, slots := #[.int (57)], vm := .none },
  { cls := 7, slots := #[.int (58)], vm := .none },
  { cls := 7, slots := #[.int (59)], vm := .none },
  { cls := 7, slots := #[.int (60)], vm := .none },
  { cls := 7, slots := #[.int (61)], vm := .none },
  { cls := 7, slots := #[.int (62)], vm := .none },
  { cls := 7, slots := #[.int (63)], vm := .none },
  { cls := 7, slots := #[.int (64)], vm := .none },
  { cls := 7, slots := #[.int (65)], vm := .none },
  { cls := 7, slots := #[.int (66)], vm := .none },
  { cls := 7, slots := #[.int (67)], vm := .none },
  { cls := 7, slots := #[.int (68)], vm := .none },
  { cls := 7, slots := #[.int (69)], vm := .none },
  { cls := 7, slots := #[.int (70)], vm := .none },
  { cls := 7, slots := #[.int (71)], vm := .none },
  { cls := 7, slots := #[.int (72)], vm := .none },
  { cls := 7, slots := #[.int (73)], vm := .none },
  { cls := 7, slots := #[.int (74)], vm := .none },
  { cls := 7, slots := #[.int (75)], vm := .none },
  { cls := 7, slots := #[.int (76)], vm := .none },
  { cls := 7, slots := #[.int (77)], vm := .none },
  { cls := 7, slots := #[.int (78)], vm := .none },
  { cls := 7, slots := #[.int (79)], vm := .none },
  { cls := 7, slots := #[.int (80)], vm := .none },
  { cls := 7, slots := #[.int (81)], vm := .none },
  { cls := 7, slots := #[.int (82)], vm := .none },
  { cls := 7, slots := #[.int (83)], vm := .none },
  { cls := 7, slots := #[.int (84)], vm := .none },
  { cls := 7, slots := #[.int (85)], vm := .none },
  { cls := 7, slots := #[.int (86)], vm := .none },
  { cls := 7, slots := #[.int (87)], vm := .none },
  { cls := 7, slots := #[.int (88)], vm := .none },
  { cls := 7, slots := #[.int (89)], vm := .none },
  { cls := 7, slots := #[.int (90)], vm := .none },
  { cls := 7, slots := #[.int (91)], vm := .none },
  { cls := 7, slots := #[.int (92)], vm := .none },
  { cls := 7, slots := #[.int (93)], vm := .none },
  { cls := 7, slots := #[.int (94)], vm := .none },
  { cls := 7, slots := #[.int (95)], vm := .none },
  { cls := 7, slots := #[.int (96)], vm := .none },
  { cls := 7, slots := #[.int (97)], vm := .none },
  { cls := 7, slots := #[.int (98)], vm := .none },
  { cls := 7, slots := #[.int (99)], vm := .none },
  { cls := 7, slots := #[.int (100)], vm := .none },
  { cls := 7, slots := #[.int (101)], vm := .none },
  { cls := 7, slots := #[.int (102)], vm := .none },
  { cls := 7, slots := #[.int (103)], vm := .none },
  { cls := 7, slots := #[.int (104)], vm := .none },
  { cls := 7, slots := #[.int (105)], vm := .none },
  { cls := 7, slots := #[.int (106)], vm := .none },
  { cls := 7, slots := #[.int (107)], vm := .none },
  { cls := 7, slots := #[.int (108)], vm := .none },
  { cls := 7, slots := #[.int (109)], vm := .none },
  { cls := 7, slots := #[.int (110)], vm := .none },
  { cls := 7, slots := #[.int (111)], vm := .none },
  { cls := 7, slots := #[.int (112)], vm := .none },
  { cls := 7, slots := #[.int (113)], vm := .none },
  { cls := 7, slots := #[.int (114)], vm := .none },
  { cls := 7, slots := #[.int (115)], vm := .none },
  { cls := 7, slots := #[.int (116)], vm := .none },
  { cls := 7, slots := #[.int (117)], vm := .none },
  { cls := 7, slots := #[.int (118)], vm := .none },
  { cls := 7, slots := #[.int (119)], vm := .none },
  { cls := 7, slots := #[.int (120)], vm := .none },
  { cls := 7, slots := #[.int (121)], vm := .none },
  { cls := 7, slots := #[.int (122)], vm := .none },
  { cls := 7, slots := #[.int (123)], vm := .none },
  { cls := 7, slots := #[.int (124)], vm := .none },
  { cls := 7, slots := #[.int (125)], vm := .none },
  { cls := 7, slots := #[.int (126)], vm := .none },
  { cls := 7, slots := #[.int (127)], vm := .none }]
def classes : Array Class := #[k0, k1, k2, k3, k4, k5, k6, k7, k8, k9, k10, k11, k12, k13, k14, k15, k16, k17, k18]
def interned : List (Array UInt16 × Addr) := []
def slotsUsed : Nat := 517
def theMethod : MethodId := ⟨1, 1⟩
def args0 : Array Value := #[.int 5, .long 5, .long 6, .long 7, .long 8]
def aboutOver (below : List Frame) : State where
  vm := { classes := classes, interned := interned.toArray }
  heap := heap
  slotsUsed := slotsUsed
  threads := #[{ frames := .invoking theMethod args0 :: below }]
def below0 : List Frame := [.native { method := ⟨0, 0⟩, args := #[] }]
def about1 : State := aboutOver below0
def p0 : Program := .bare "" "" ""
def e0 : Env := launch0.env 0 0 0
theorem w_frames : about1.frames = Frame.invoking theMethod args0 :: below0 := rfl
set_option maxRecDepth 65536 in
theorem w_args : argsFit about1.vm theMethod args0 = true := by decide +kernel
set_option maxRecDepth 65536 in
theorem w_heap : heapFits about1 = true := by decide +kernel
set_option maxRecDepth 65536 in
theorem w_runnable : about1.curStatus? = some .runnable := by decide +kernel
set_option maxRecDepth 65536 in
theorem w_alone : about1.alone = true := by decide +kernel
set_option maxRecDepth 65536 in
theorem w_named : about1.methodNamed? x = some theMethod := by decide +kernel
set_option maxRecDepth 65536 in
theorem w_hears : about1.hears theMethod below0 = true := by decide +kernel
set_option maxRecDepth 65536 in
theorem w_ripe : about1.ripe theMethod args0 below0 = true := by decide +kernel
theorem w_running : about1.status = .running := rfl
set_option maxRecDepth 65536 in
theorem w_room : about1.hasRoom e0.platform room_1 = true :=
  launch0.hasRoom_least _ room_1 (by decide +kernel) (by decide +kernel) (by decide +kernel) (by decide +kernel) (by decide +kernel) (by decide +kernel)
theorem allAtoms_all (ts : List Jvm.Cond) (a : Array Jvm.Value) (st : Jvm.State) : (allAtoms ts).before a st = ts.all (fun c => c.before a st) := by
  induction ts with
  | nil => rfl
  | cons c t ih =>
    show (Jvm.Cond.and c (allAtoms t)).before a st = _
    rw [Jvm.Cond.before_and, ih, List.all_cons]
def words1 : List Jvm.Cond := Jvm.Cond.code x code maxLocals ret :: tables_1
/-- a 'code' word, met by the world's own term for the bytes: nothing is compared byte by byte -/
theorem code_word {y : MethodName} {bytes : ByteArray} {mx : Nat} {rt : Option FieldType} {a : Array Value} {s : State} {m : MethodId} {meth : Method} {c : Code} (h1 : s.methodNamed? y = some m) (h2 : s.vm.method? m = some meth) (h3 : meth.code = some c) (h4 : c.code = bytes)
    (h5 : (c.maxLocals == mx && c.exceptionTable.isEmpty && decide (c.maxStack ≤ mostOperands) && decide (meth.sig.returnType = rt) && !meth.locks && decide (parseMethodDescriptor y.desc = some meth.sig)) = true) : (Jvm.Cond.code y bytes mx rt).before a s = true := by
  simp only [Bool.and_eq_true, beq_iff_eq, Bool.not_eq_true', decide_eq_true_eq] at h5
  obtain ⟨⟨⟨⟨⟨g1, g2⟩, g3⟩, g4⟩, g5⟩, g6⟩ := h5
  simp [Cond.before, Cond.holds, Cond.value, h1, h2, h3, h4, g1, g2, g3, g4, g5, g6]
def isCode : Jvm.Cond → Bool
  | .code _ _ _ _ => true
  | _ => false
theorem all_split {L : List Jvm.Cond} {P : Jvm.Cond → Bool} (h1 : L.all (fun c => isCode c || P c) = true) (h2 : ∀ c ∈ L.filter isCode, P c = true) : L.all P = true := by
  refine List.all_eq_true.mpr fun c hc => ?_
  have h := List.all_eq_true.mp h1 c hc
  rcases Bool.eq_false_or_eq_true (isCode c) with hi | hi
  · exact h2 c (List.mem_filter.mpr ⟨hc, hi⟩)
  · simpa [hi] using h
set_option maxRecDepth 65536 in
theorem w_c0 : (Jvm.Cond.code x code maxLocals ret).before args0 about1 = true := code_word (m := ⟨1, 1⟩) (meth := k1m1) (c := k1c1) (by decide +kernel) rfl rfl rfl (by decide +kernel)
set_option maxRecDepth 65536 in
theorem w_c1 : (Jvm.Cond.code ({ cls := "java/lang/Integer", name := "valueOf", desc := "(I)Ljava/lang/Integer;" } : Jvm.MethodName) jdk_33_method_22_code (1 : Nat) (Option.some (Jvm.ClassFile.FieldType.object "java/lang/Integer"))).before args0 about1 = true := code_word (m := ⟨7, 0⟩) (meth := k7m0) (c := k7c0) (by decide +kernel) rfl rfl rfl (by decide +kernel)
set_option maxRecDepth 65536 in
theorem w_c2 : (Jvm.Cond.code ({ cls := "java/lang/Integer", name := "<init>", desc := "(I)V" } : Jvm.MethodName) jdk_33_method_23_code (2 : Nat) (Option.none : Option Jvm.ClassFile.FieldType)).before args0 about1 = true := code_word (m := ⟨7, 1⟩) (meth := k7m1) (c := k7c1) (by decide +kernel) rfl rfl rfl (by decide +kernel)
set_option maxRecDepth 65536 in
theorem w_c3 : (Jvm.Cond.code ({ cls := "java/lang/Number", name := "<init>", desc := "()V" } : Jvm.MethodName) jdk_18_method_1_code (1 : Nat) (Option.none : Option Jvm.ClassFile.FieldType)).before args0 about1 = true := code_word (m := ⟨3, 0⟩) (meth := k3m0) (c := k3c0) (by decide +kernel) rfl rfl rfl (by decide +kernel)
set_option maxRecDepth 65536 in
theorem w_c4 : (Jvm.Cond.code ({ cls := "java/lang/Object", name := "<init>", desc := "()V" } : Jvm.MethodName) object_method_1_code (1 : Nat) (Option.none : Option Jvm.ClassFile.FieldType)).before args0 about1 = true := code_word (m := ⟨0, 0⟩) (meth := k0m0) (c := k0c0) (by decide +kernel) rfl rfl rfl (by decide +kernel)
set_option maxRecDepth 65536 in
theorem w_c5 : (Jvm.Cond.code ({ cls := "com/example/tresse/tresse/queue/LinkedQueue", name := "<init>", desc := "()V" } : Jvm.MethodName) prog_93_method_1_code (1 : Nat) (Option.none : Option Jvm.ClassFile.FieldType)).before args0 about1 = true := code_word (m := ⟨10, 0⟩) (meth := k10m0) (c := k10c0) (by decide +kernel) rfl rfl rfl (by decide +kernel)
set_option maxRecDepth 65536 in
theorem w_c6 : (Jvm.Cond.code ({ cls := "com/example/tresse/tresse/queue/LinkedQueue$Node", name := "<init>", desc := "(Ljava/lang/Object;)V" } : Jvm.MethodName) prog_94_method_1_code (2 : Nat) (Option.none : Option Jvm.ClassFile.FieldType)).before args0 about1 = true := code_word (m := ⟨11, 0⟩) (meth := k11m0) (c := k11c0) (by decide +kernel) rfl rfl rfl (by decide +kernel)
set_option maxRecDepth 65536 in
theorem w_c7 : (Jvm.Cond.code ({ cls := "com/example/tresse/tresse/queue/LinkedQueueDequeuePinLaw", name := "step", desc := "(Lcom/example/tresse/tresse/queue/LinkedQueue;[Ljava/lang/Integer;[IZ)Z" } : Jvm.MethodName) method_3_code (6 : Nat) (Option.some Jvm.ClassFile.FieldType.boolean)).before args0 about1 = true := code_word (m := ⟨1, 2⟩) (meth := k1m2) (c := k1c2) (by decide +kernel) rfl rfl rfl (by decide +kernel)
set_option maxRecDepth 65536 in
theorem w_c8 : (Jvm.Cond.code ({ cls := "com/example/tresse/tresse/queue/LinkedQueue", name := "dequeue", desc := "()Ljava/lang/Object;" } : Jvm.MethodName) prog_93_method_3_code (3 : Nat) (Option.some (Jvm.ClassFile.FieldType.object "java/lang/Object"))).before args0 about1 = true := code_word (m := ⟨10, 2⟩) (meth := k10m2) (c := k10c2) (by decide +kernel) rfl rfl rfl (by decide +kernel)
set_option maxRecDepth 65536 in
theorem w_c9 : (Jvm.Cond.code ({ cls := "com/example/tresse/tresse/queue/LinkedQueue", name := "enqueue", desc := "(Ljava/lang/Object;)V" } : Jvm.MethodName) prog_93_method_2_code (3 : Nat) (Option.none : Option Jvm.ClassFile.FieldType)).before args0 about1 = true := code_word (m := ⟨10, 1⟩) (meth := k10m1) (c := k10c1) (by decide +kernel) rfl rfl rfl (by decide +kernel)
set_option maxRecDepth 65536 in
theorem w_c10 : (Jvm.Cond.code ({ cls := "java/util/Objects", name := "requireNonNull", desc := "(Ljava/lang/Object;)Ljava/lang/Object;" } : Jvm.MethodName) jdk_31_method_10_code (1 : Nat) (Option.some (Jvm.ClassFile.FieldType.object "java/lang/Object"))).before args0 about1 = true := code_word (m := ⟨12, 1⟩) (meth := k12m1) (c := k12c1) (by decide +kernel) rfl rfl rfl (by decide +kernel)
def codes1 : List Jvm.Cond := [Jvm.Cond.code x code maxLocals ret, Jvm.Cond.code ({ cls := "java/lang/Integer", name := "valueOf", desc := "(I)Ljava/lang/Integer;" } : Jvm.MethodName) jdk_33_method_22_code (1 : Nat) (Option.some (Jvm.ClassFile.FieldType.object "java/lang/Integer")), Jvm.Cond.code ({ cls := "java/lang/Integer", name := "<init>", desc := "(I)V" } : Jvm.MethodName) jdk_33_method_23_code (2 : Nat) (Option.none : Option Jvm.ClassFile.FieldType), Jvm.Cond.code ({ cls := "java/lang/Number", name := "<init>", desc := "()V" } : Jvm.MethodName) jdk_18_method_1_code (1 : Nat) (Option.none : Option Jvm.ClassFile.FieldType), Jvm.Cond.code ({ cls := "java/lang/Object", name := "<init>", desc := "()V" } : Jvm.MethodName) object_method_1_code (1 : Nat) (Option.none : Option Jvm.ClassFile.FieldType), Jvm.Cond.code ({ cls := "com/example/tresse/tresse/queue/LinkedQueue", name := "<init>", desc := "()V" } : Jvm.MethodName) prog_93_method_1_code (1 : Nat) (Option.none : Option Jvm.ClassFile.FieldType), Jvm.Cond.code ({ cls := "com/example/tresse/tresse/queue/LinkedQueue$Node", name := "<init>", desc := "(Ljava/lang/Object;)V" } : Jvm.MethodName) prog_94_method_1_code (2 : Nat) (Option.none : Option Jvm.ClassFile.FieldType), Jvm.Cond.code ({ cls := "com/example/tresse/tresse/queue/LinkedQueueDequeuePinLaw", name := "step", desc := "(Lcom/example/tresse/tresse/queue/LinkedQueue;[Ljava/lang/Integer;[IZ)Z" } : Jvm.MethodName) method_3_code (6 : Nat) (Option.some Jvm.ClassFile.FieldType.boolean), Jvm.Cond.code ({ cls := "com/example/tresse/tresse/queue/LinkedQueue", name := "dequeue", desc := "()Ljava/lang/Object;" } : Jvm.MethodName) prog_93_method_3_code (3 : Nat) (Option.some (Jvm.ClassFile.FieldType.object "java/lang/Object")), Jvm.Cond.code ({ cls := "com/example/tresse/tresse/queue/LinkedQueue", name := "enqueue", desc := "(Ljava/lang/Object;)V" } : Jvm.MethodName) prog_93_method_2_code (3 : Nat) (Option.none : Option Jvm.ClassFile.FieldType), Jvm.Cond.code ({ cls := "java/util/Objects", name := "requireNonNull", desc := "(Ljava/lang/Object;)Ljava/lang/Object;" } : Jvm.MethodName) jdk_31_method_10_code (1 : Nat) (Option.some (Jvm.ClassFile.FieldType.object "java/lang/Object"))]
set_option maxRecDepth 65536 in
theorem codes_eq : words1.filter isCode = codes1 := rfl
theorem w_codes : ∀ c ∈ words1.filter isCode, c.before args0 about1 = true := by
  rw [codes_eq]
  intro c hc
  simp only [codes1, List.mem_cons, List.not_mem_nil, or_false] at hc
  rcases hc with rfl | rfl | rfl | rfl | rfl | rfl | rfl | rfl | rfl | rfl | rfl
  · exact w_c0
  · exact w_c1
  · exact w_c2
  · exact w_c3
  · exact w_c4
  · exact w_c5
  · exact w_c6
  · exact w_c7
  · exact w_c8
  · exact w_c9
  · exact w_c10
set_option maxRecDepth 65536 in
theorem w_t1 : (words1.take 24).all (fun c => isCode c || c.before args0 about1) = true := by decide +kernel
set_option maxRecDepth 65536 in
theorem w_t2 : ((words1.drop 24).take 24).all (fun c => isCode c || c.before args0 about1) = true := by decide +kernel
set_option maxRecDepth 65536 in
theorem w_t3 : ((words1.drop 24).drop 24).all (fun c => isCode c || c.before args0 about1) = true := by decide +kernel
theorem w_tables : (allAtoms (Jvm.Cond.code x code maxLocals ret :: tables_1)).before args0 about1 = true := by
  rw [allAtoms_all]
  show words1.all (fun c => c.before args0 about1) = true
  refine all_split ?_ w_codes
  rw [← List.take_append_drop 24 words1, List.all_append, w_t1, ← List.take_append_drop 24 (words1.drop 24), List.all_append, w_t2, w_t3]
  rfl
set_option maxRecDepth 65536 in
theorem w_rest : rest_1_c.before args0 about1 = true := by decide +kernel
set_option maxRecDepth 65536 in
theorem w_case : (Jvm.Cond.and given_1 narrow_1).before args0 about1 = true := by decide +kernel
theorem w_applies : (headSpec (Jvm.Cond.code x code maxLocals ret :: tables_1) room_1).applies x e0.platform about1 = true :=
  (Spec.applies_iff w_frames).mpr ⟨w_running, w_runnable, w_alone, w_named, w_hears, w_ripe, w_room, w_tables⟩
theorem atStart : AtStart classFile x code maxLocals ret World_1 tables_1 room_1 Calls_1 rest_1 Pre_1 launch0 p0 e0 about1 theMethod args0 below0 :=
  ⟨lists_1, trivial, launch0.admits_env _ _ _, launch0.least_env, fairChoices_fair.cas, fairChoices_fair.clock, w_frames, w_args, w_heap, w_applies, trivial, w_rest, w_case⟩
end start1
theorem witness_1 : WitnessClaimed_1 := ⟨start1.p0, start1.e0, start1.about1, start1.theMethod, start1.args0, start1.below0, start1.atStart⟩
end Jvm.Pilot.@@N@@
