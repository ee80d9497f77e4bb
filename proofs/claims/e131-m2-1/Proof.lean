import JvmDerived
import JvmDerived.Pilot.@@N@@Statement
import JvmDerived.Pilot.@@N@@Code
set_option linter.unusedVariables false
set_option linter.unusedSimpArgs false
namespace Jvm.RoadKit
open Sem ClassFile Op Lib Jvm.Stand Jvm.Free Jvm.LawKit
section New
variable {p : Program} {l : Launch} {e : Env} {R : Room} {s : State} {m : MethodId} {args : Array Value} {below : List Frame} {meth : Method} {c : Code} {T : State} {locs : List Loc} {cells slots : Nat}
theorem retI (X : Stand p l e R s m args below meth c T locs cells slots) (hx : p.tables.exec = Jvm.exec) {pc : Nat} {Ls : Array Slot} {z : Int32} {rest : List Value} (hret : meth.sig.returnType = some .int) (hd : decode c.code pc = .ok (.ireturn, 1)) {fs : List Frame}
    (hl : ∀ (f : JFrame) (acts : List Action), f.method = m → f.locked = none → f.entered = [] → (doReturn e (T.setTop f) acts (some (.int z))).1 = T.setFrames fs) : Steps p.tables e below (T.setTop (mkF m pc Ls (.int z :: rest))) (T.setFrames fs) := by
  have hm' : T.vm.method? m = some meth := X.method'
  have hn : narrow .int (.int z) = .int z := rfl
  show Steps p.tables e below (T.setTop { method := m, pc := pc, locals := Ls, stack := _ :: rest, locked := none }) _
  jvm_step X.here [X.here.top, hx, hd, hm', hret, hn]
  first | (intro acts; rw [hl _ acts rfl rfl rfl]) | rw [hl _ _ rfl rfl rfl]
  exact Steps.refl _
end New
end Jvm.RoadKit
namespace Jvm.Pilot.@@N@@
open Jvm Jvm.ClassFile Sem Op Lib Jvm.Free Jvm.Stand Jvm.LawKit Jvm.RoadKit Bundle Jvm.Pilot.@@N@@.Jvm.D
/-- a body that leaves the heap as it was and returns w -/
def QP (w : Option Value) (h0 : Heap) (n0 : Nat) (v : Option Value) (h : Heap) (L : List Loc) : Prop := v = w ∧ Fr n0 L ∧ h = h0
theorem pd_0 : parseMethodDescriptor "([B)V" = some ⟨[(.array .byte)], none⟩ := by decide +kernel
theorem pd_1 : parseMethodDescriptor "([BIILjava/lang/String;)V" = some ⟨[(.array .byte), .int, .int, (.object "java/lang/String")], none⟩ := by decide +kernel
theorem pd_2 : parseMethodDescriptor "()V" = some ⟨[], none⟩ := by decide +kernel
theorem pd_3 : parseMethodDescriptor "(I)I" = some ⟨[.int], some .int⟩ := by decide +kernel
theorem pd_4 : parseMethodDescriptor "()I" = some ⟨[], some .int⟩ := by decide +kernel
section OwnAV
/-- an array whose places hold just vs -/
def own_AV (Z : State) (h : Heap) (a : Addr) (ty : FieldType) (vs : List Value) : Prop := ∃ c : Cell, Arr Z h a c ty ∧ c.slots.toList = vs
theorem own_AV.lt {Z : State} {h : Heap} {a : Addr} {ty : FieldType} {vs : List Value} (F : own_AV Z h a ty vs) : a < h.size := by obtain ⟨c, A, -⟩ := F; exact A.lt
theorem own_AV.ext {Z : State} {h h' : Heap} {a : Addr} {ty : FieldType} {vs : List Value} (F : own_AV Z h a ty vs) (E : Ext h h') : own_AV Z h' a ty vs := by obtain ⟨c, A, r⟩ := F; exact ⟨c, A.ext E, r⟩
theorem own_AV.keep {Z : State} {h h' : Heap} {a : Addr} {ty : FieldType} {vs : List Value} {ws : List Addr} (F : own_AV Z h a ty vs) (K : Keep h h' ws) (q : a ∉ ws) : own_AV Z h' a ty vs := by obtain ⟨c, A, r⟩ := F; exact ⟨c, ⟨K.2.1 a c A.1 q, A.2⟩, r⟩
theorem own_AV.other {Z : State} {h h' : Heap} {a b : Addr} {ty : FieldType} {vs : List Value} {sl : Nat} {v : Value} (F : own_AV Z h a ty vs) (W : Wr h h' b sl v) (q : a ≠ b) : own_AV Z h' a ty vs := by obtain ⟨c, A, r⟩ := F; exact ⟨c, A.other W q, r⟩
theorem own_AV.new {Z : State} {h : Heap} {a : Addr} {ty : FieldType} {k : ClassId} {n : Int32} {i : Nat} (A : Arr Z h a (newA k ty n) ty) (hn : n.toNatClampNeg = i) : own_AV Z h a ty (List.replicate i (defaultValue ty)) := ⟨_, A, by subst hn; simp [newA]⟩
theorem own_sz {c : Cell} {vs : List Value} (q : c.slots.toList = vs) : c.slots.size = vs.length := by rw [← q]; simp
theorem own_inb {c : Cell} {vs : List Value} {j : Int32} {n : Nat} (q : c.slots.toList = vs) (hl : vs.length = n) (h0 : ¬ j < 0) (h1 : j.toNatClampNeg < n) : ¬ (j < 0 ∨ c.slots.size ≤ j.toNatClampNeg) := fun r => r.elim h0 fun z => by rw [own_sz q, hl] at z; omega
theorem own_get {c : Cell} {vs : List Value} {j : Int32} {i : Nat} {v : Value} (q : c.slots.toList = vs) (hj : j.toNatClampNeg = i) (hv : vs[i]? = some v) : c.slots[j.toNatClampNeg]? = some v := by rw [hj, ← hv, ← q]; simp
theorem own_len {c : Cell} {vs : List Value} {n : Int32} (q : c.slots.toList = vs) (h : vs.length.toInt32 = n) : c.slots.size.toInt32 = n := by rw [own_sz q, h]
theorem own_AV.set {Z : State} {h h' : Heap} {a : Addr} {ty : FieldType} {vs vs' : List Value} {c : Cell} {j : Int32} {i : Nat} {v : Value} (A : Arr Z h a c ty) (q : c.slots.toList = vs) (W : Wr h h' a j.toNatClampNeg v) (hj : j.toNatClampNeg = i) (e : vs.set i v = vs') : own_AV Z h' a ty vs' := ⟨_, A.same W, by rw [← e, ← q, ← hj]; simp [Cell.setSlot]⟩
end OwnAV
def own_Q0 (n0 : Nat) (v : Option Value) (h : Heap) (L : List Loc) : Prop := v = some (.int 1) ∧ Fr n0 L
def own_QI (Z : State) (a b : Addr) (p : Int32) (h0 : Heap) (n0 : Nat) (v : Option Value) (h : Heap) (L : List Loc) : Prop := v = none ∧ Fr n0 L ∧ Keep h0 h [a] ∧ Exa Z h a "com/example/classweave/classweave/classfile/ClassInput" ∧ Fld Z h a "com/example/classweave/classweave/classfile/ClassInput" "bytes" "[B" (.ref b) ∧ Fld Z h a "com/example/classweave/classweave/classfile/ClassInput" "position" "I" (.int p)
theorem own_inb' {c : Cell} {vs : List Value} {j : Int32} {i : Nat} {v : Value} (q : c.slots.toList = vs) (h0 : ¬ j < 0) (e : j.toNatClampNeg = i) (g : vs[i]? = some v) : ¬ (j < 0 ∨ c.slots.size ≤ j.toNatClampNeg) := fun r => r.elim h0 fun z => by
  rw [own_sz q, e] at z
  have := (List.getElem?_eq_some_iff.mp g).1
  omega
def own_u2 (x y : Int32) : Int32 := ((x &&& (255 : Int32)) <<< ((8 : Int32) &&& 31)) ||| (y &&& (255 : Int32))
theorem own_b (x : Int32) : (nar .byte (x.toInt8.toInt32)) &&& (255 : Int32) = x &&& (255 : Int32) := by
  show x.toInt8.toInt32.toInt8.toInt32 &&& (255 : Int32) = _
  have e1 := c_mask (x.toInt8.toInt32.toInt8.toInt32) 255 8 (by decide) (by decide)
  have e2 := c_mask x 255 8 (by decide) (by decide)
  obtain ⟨a, -⟩ := c_i2b x
  obtain ⟨b, -⟩ := c_i2b (x.toInt8.toInt32)
  apply Int32.toInt_inj.mp
  omega
theorem own_u (x y : Int32) : (own_u2 x y).toInt = (x &&& (255 : Int32)).toInt * 256 + (y &&& (255 : Int32)).toInt ∧ 0 ≤ (x &&& (255 : Int32)).toInt ∧ (x &&& (255 : Int32)).toInt < 256 ∧ 0 ≤ (y &&& (255 : Int32)).toInt ∧ (y &&& (255 : Int32)).toInt < 256 := by
  have e1 := c_mask x 255 8 (by decide) (by decide)
  have e2 := c_mask y 255 8 (by decide) (by decide)
  unfold own_u2
  generalize (x &&& (255 : Int32)) = u at *
  generalize (y &&& (255 : Int32)) = w at *
  have hu : 0 ≤ u.toInt ∧ u.toInt < 256 := by omega
  have hw : 0 ≤ w.toInt ∧ w.toInt < 256 := by omega
  have s1 := c_ishl u 8 8 (by decide)
  have r1 := rng32 (u <<< ((8 : Int32) &&& 31))
  have s2 : (u <<< ((8 : Int32) &&& 31)).toInt = u.toInt * 256 := by omega
  have s3 := c_or (u <<< ((8 : Int32) &&& 31)) w 8 (by decide) 256 (by decide) (by omega) (by omega) (by omega)
  have r2 := rng32 ((u <<< ((8 : Int32) &&& 31)) ||| w)
  refine ⟨?_, hu.1, hu.2, hw.1, hw.2⟩
  omega
theorem own_eq (x y : Int32) : own_u2 (nar .byte (x.toInt8.toInt32)) (nar .byte (y.toInt8.toInt32)) = ((x &&& (255 : Int32)) * (256 : Int32)) + (y &&& (255 : Int32)) := by
  obtain ⟨h1, h2, h3, h4, h5⟩ := own_u (nar .byte (x.toInt8.toInt32)) (nar .byte (y.toInt8.toInt32))
  rw [own_b, own_b] at h1
  rw [own_b] at h2 h3 h4 h5
  have q : (256 : Int32).toInt = 256 := by decide
  have m := c_imul (x &&& (255 : Int32)) 256
  have p := c_iadd ((x &&& (255 : Int32)) * (256 : Int32)) (y &&& (255 : Int32))
  have r1 := rng32 ((x &&& (255 : Int32)) * (256 : Int32))
  have r2 := rng32 (((x &&& (255 : Int32)) * (256 : Int32)) + (y &&& (255 : Int32)))
  rw [q] at m
  apply Int32.toInt_inj.mp
  rw [h1]
  omega
theorem own_ge (x y : Int32) : ¬ own_u2 x y < (0 : Int32) := by
  obtain ⟨h1, h2, h3, h4, h5⟩ := own_u x y
  rw [Int32.lt_iff_toInt_lt, h1, show (0 : Int32).toInt = 0 from by decide]
  omega
theorem own_le (x y : Int32) : ¬ (65535 : Int32) < own_u2 x y := by
  obtain ⟨h1, h2, h3, h4, h5⟩ := own_u x y
  rw [Int32.lt_iff_toInt_lt, h1, show (65535 : Int32).toInt = 65535 from by decide]
  omega
theorem own_idx3 (x : Int32) : ((x &&& (2147483647 : Int32)) % (3 : Int32)) = (0 : Int32) ∨ ((x &&& (2147483647 : Int32)) % (3 : Int32)) = (1 : Int32) ∨ ((x &&& (2147483647 : Int32)) % (3 : Int32)) = (2 : Int32) := by
  have e : (x &&& (2147483647 : Int32)).toInt = x.toInt % (2 ^ 31 : Nat) := c_mask x _ 31 (by decide) (by decide)
  have f := (c_irem (x &&& (2147483647 : Int32)) 3 3 (by decide)).1 (by rw [e]; omega)
  rw [← Int32.toInt_inj, ← Int32.toInt_inj, ← Int32.toInt_inj, f]
  show _ = 0 ∨ _ = 1 ∨ _ = 2
  omega
theorem own_wS (a0 : Array Value) (Z : State) (hw : ∀ d ∈ tables_1, d.before a0 Z = true) : ∀ a ∈ Bundle.stringAtoms, a.before a0 Z = true := by
  intro a ha
  simp only [Bundle.stringAtoms, List.mem_cons, List.not_mem_nil, or_false] at ha
  rcases ha with rfl | rfl | rfl | rfl | rfl | rfl | rfl
  · exact (hw _ (List.mem_of_getElem? (i := 9) rfl))
  · exact (hw _ (List.mem_of_getElem? (i := 10) rfl))
  · exact (hw _ (List.mem_of_getElem? (i := 0) rfl))
  · exact (hw _ (List.mem_of_getElem? (i := 11) rfl))
  · exact (hw _ (List.mem_of_getElem? (i := 12) rfl))
  · exact (hw _ (List.mem_of_getElem? (i := 13) rfl))
  · exact (hw _ (List.mem_of_getElem? (i := 14) rfl))
theorem d2_0 : decode prog_40_method_2_code 0 = .ok (.aload_n 0, 1) := by decide +kernel
theorem d2_1 : decode prog_40_method_2_code 1 = .ok (.invokespecial 9, 3) := by decide +kernel
theorem d2_4 : decode prog_40_method_2_code 4 = .ok (.aload_n 0, 1) := by decide +kernel
theorem d2_5 : decode prog_40_method_2_code 5 = .ok (.aload_n 1, 1) := by decide +kernel
theorem d2_6 : decode prog_40_method_2_code 6 = .ok (.putfield 14, 3) := by decide +kernel
theorem d2_9 : decode prog_40_method_2_code 9 = .ok (.aload_n 0, 1) := by decide +kernel
theorem d2_10 : decode prog_40_method_2_code 10 = .ok (.iload_n 2, 1) := by decide +kernel
theorem d2_11 : decode prog_40_method_2_code 11 = .ok (.putfield 18, 3) := by decide +kernel
theorem d2_14 : decode prog_40_method_2_code 14 = .ok (.aload_n 0, 1) := by decide +kernel
theorem d2_15 : decode prog_40_method_2_code 15 = .ok (.iload_n 3, 1) := by decide +kernel
theorem d2_16 : decode prog_40_method_2_code 16 = .ok (.putfield 22, 3) := by decide +kernel
theorem d2_19 : decode prog_40_method_2_code 19 = .ok (.aload_n 0, 1) := by decide +kernel
theorem d2_20 : decode prog_40_method_2_code 20 = .ok (.aload 4, 2) := by decide +kernel
theorem d2_22 : decode prog_40_method_2_code 22 = .ok (.putfield 25, 3) := by decide +kernel
theorem d2_25 : decode prog_40_method_2_code 25 = .ok (.return_, 1) := by decide +kernel
theorem pn_2 : plainName "com/example/classweave/classweave/classfile/ClassInput" = true := by first | (simp [plainName, overriddenIn]; done) | decide +kernel
theorem ef_2 (m : MethodId) (a1 : Addr) (a2 : Addr) (p3 : Int32) (p4 : Int32) (a5 : Addr) : entryFrame m #[(.ref a1), (.ref a2), (.int p3), (.int p4), (.ref a5)] 5 = mkF m 0 #[.val (.ref a1), .val (.ref a2), .val (.int p3), .val (.int p4), .val (.ref a5)] [] := by first | (simp [entryFrame, mkF, argsToLocals, Value.category]; done) | rfl
set_option maxRecDepth 65536 in
set_option maxHeartbeats 40000000 in
theorem rm2 (l : Launch) (Z : State) (a0 : Array Value) (hw : ∀ d ∈ tables_1, d.before a0 Z = true) (ws : List Jvm.Cond) (a1 a2 : Addr) (p3 p4 : Int32) (a5 : Addr) (h0 : Heap) (n0 : Nat) (SE : Exa Z h0 a1 "com/example/classweave/classweave/classfile/ClassInput") (SF_bytes : Fld Z h0 a1 "com/example/classweave/classweave/classfile/ClassInput" "bytes" "[B" .null) (SF_position : Fld Z h0 a1 "com/example/classweave/classweave/classfile/ClassInput" "position" "I" (.int (0 : Int32))) (SF_end : Fld Z h0 a1 "com/example/classweave/classweave/classfile/ClassInput" "end" "I" (.int (0 : Int32))) (SF_extent : Fld Z h0 a1 "com/example/classweave/classweave/classfile/ClassInput" "extent" "Ljava/lang/String;" .null) (ga : n0 ≤ a1) :
    MetFree l (⟨"com/example/classweave/classweave/classfile/ClassInput", "<init>", "([BIILjava/lang/String;)V"⟩ : MethodName) (head1 (Jvm.Cond.code (⟨"com/example/classweave/classweave/classfile/ClassInput", "<init>", "([BIILjava/lang/String;)V"⟩ : MethodName) prog_40_method_2_code 5 none :: ws) ({ frames := 1, cells := 0, slots := 0, locals := 12 } : Room)) (fun a U => a = #[(.ref a1), (.ref a2), (.int p3), (.int p4), (.ref a5)] ∧ Z.Warmed39 U.vm ∧ U.heap = h0) (fun _ _ _ _ _ => True) (fun _ U o U' => ∃ v L, o = .returned v ∧ own_QI Z a1 a2 p3 h0 n0 v U'.heap L ∧ FrameEnd U o U' L ({ frames := 1, cells := 0, slots := 0, locals := 12 } : Room).cells ({ frames := 1, cells := 0, slots := 0, locals := 12 } : Room).slots) := by
  refine MetFree.of_bodySF (plainFor_of_name pn_2) hisR ?_
  intro p e s m args below meth c s₁ Bd hml0 hP hK
  obtain ⟨rfl, hZ, hh⟩ := hP
  have hx := Bd.exec
  have hby := Bd.bytes
  have hml : c.maxLocals = 5 := hml0
  have hown : s.vm.findClass "com/example/classweave/classweave/classfile/ClassInput" = some m.cls := findClass_of_methodNamed Bd.named
  have hnm := (name_of_methodNamed Bd.named Bd.method).1
  have X0 : Stand p l e ({ frames := 1, cells := 0, slots := 0, locals := 12 } : Room) s m #[(.ref a1), (.ref a2), (.int p3), (.int p4), (.ref a5)] below meth c s₁ [] 0 0 := Stand.of_body Bd
  have e0 : s₁.heap = h0 := by rw [← hh, Bd.state]; rfl
  have N0 := Fr.nil n0
  have go0 : ∀ t, Steps p.tables e below (s₁.setTop (mkF m 0 #[.val (.ref a1), .val (.ref a2), .val (.int p3), .val (.int p4), .val (.ref a5)] [])) t → Steps p.tables e below (s₁.setTop (entryFrame m #[(.ref a1), (.ref a2), (.int p3), (.int p4), (.ref a5)] 5)) t := fun t k => castTop (ef_2 m a1 a2 p3 p4 a5) k
  have go1 : ∀ t, Steps p.tables e below (s₁.setTop (mkF m 1 #[.val (.ref a1), .val (.ref a2), .val (.int p3), .val (.int p4), .val (.ref a5)] [(.ref a1)])) t → Steps p.tables e below (s₁.setTop (entryFrame m #[(.ref a1), (.ref a2), (.int p3), (.int p4), (.ref a5)] 5)) t := fun t kt => go0 t (by
      refine XS.aloadN X0.here hx rfl (hb hby d2_0) rfl rfl ?_
      show Steps p.tables e below (s₁.setTop (mkF m 1 #[.val (.ref a1), .val (.ref a2), .val (.int p3), .val (.int p4), .val (.ref a5)] [(.ref a1)])) _
      exact kt)
  obtain ⟨T2, X2, e2, st2⟩ := initO X0 hx hZ hown (hw _ (List.mem_of_getElem? (i := 18) rfl)) (hw _ (List.mem_of_getElem? (i := 19) rfl)) (hw _ (List.mem_of_getElem? (i := 20) rfl)) e0 (g := (mkF m 1 #[.val (.ref a1), .val (.ref a2), .val (.int p3), .val (.int p4), .val (.ref a5)] [(.ref a1)])) rfl (by rw [hml]; rfl) rfl (hb hby d2_1) (by decide) (W := 0) (by show 2 * 0 + _ ≤ _; exact Nat.le_of_eq rfl) (by decide)
  have go3 : ∀ t, Steps p.tables e below (T2.setTop (mkF m 6 #[.val (.ref a1), .val (.ref a2), .val (.int p3), .val (.int p4), .val (.ref a5)] [(.ref a2), (.ref a1)])) t → Steps p.tables e below (s₁.setTop (entryFrame m #[(.ref a1), (.ref a2), (.int p3), (.int p4), (.ref a5)] 5)) t := fun t kt => go1 t (by
      refine st2 _ ?_
      show Steps p.tables e below (T2.setTop (mkF m 4 #[.val (.ref a1), .val (.ref a2), .val (.int p3), .val (.int p4), .val (.ref a5)] [])) _
      refine XS.aloadN X2.here hx rfl (hb hby d2_4) rfl rfl ?_
      show Steps p.tables e below (T2.setTop (mkF m 5 #[.val (.ref a1), .val (.ref a2), .val (.int p3), .val (.int p4), .val (.ref a5)] [(.ref a1)])) _
      refine XS.aloadN X2.here hx rfl (hb hby d2_5) rfl rfl ?_
      show Steps p.tables e below (T2.setTop (mkF m 6 #[.val (.ref a1), .val (.ref a2), .val (.int p3), .val (.int p4), .val (.ref a5)] [(.ref a2), (.ref a1)])) _
      exact kt)
  obtain ⟨T4, h4, X4, e4, W4, st4⟩ := putF X2 hx hZ hown (host := "") (Or.inl (hw _ (List.mem_of_getElem? (i := 21) rfl))) Via.refl e2 SF_bytes SE (Or.inr ⟨(hw _ (List.mem_of_getElem? (i := 22) rfl)), rfl, hnm⟩) (hw _ (List.mem_of_getElem? (i := 3) rfl)) (ty := (.array .byte)) (by decide) rfl rfl (g := (mkF m 6 #[.val (.ref a1), .val (.ref a2), .val (.int p3), .val (.int p4), .val (.ref a5)] [(.ref a2), (.ref a1)])) rfl rfl (hb hby d2_6)
  have Fw4 := SF_bytes.same W4
  have N4 := Fr.snoc X4 N0 ga
  have go5 : ∀ t, Steps p.tables e below (T4.setTop (mkF m 11 #[.val (.ref a1), .val (.ref a2), .val (.int p3), .val (.int p4), .val (.ref a5)] [(.int p3), (.ref a1)])) t → Steps p.tables e below (s₁.setTop (entryFrame m #[(.ref a1), (.ref a2), (.int p3), (.int p4), (.ref a5)] 5)) t := fun t kt => go3 t (by
      refine st4 _ ?_
      show Steps p.tables e below (T4.setTop (mkF m 9 #[.val (.ref a1), .val (.ref a2), .val (.int p3), .val (.int p4), .val (.ref a5)] [])) _
      refine XS.aloadN X4.here hx rfl (hb hby d2_9) rfl rfl ?_
      show Steps p.tables e below (T4.setTop (mkF m 10 #[.val (.ref a1), .val (.ref a2), .val (.int p3), .val (.int p4), .val (.ref a5)] [(.ref a1)])) _
      refine XS.iloadN X4.here hx rfl (hb hby d2_10) rfl ?_
      show Steps p.tables e below (T4.setTop (mkF m 11 #[.val (.ref a1), .val (.ref a2), .val (.int p3), .val (.int p4), .val (.ref a5)] [(.int p3), (.ref a1)])) _
      exact kt)
  have q6 := (SF_position.other W4 (Or.inr (slot_ne (Or.inl (hw _ (List.mem_of_getElem? (i := 24) rfl))) (Or.inr (hw _ (List.mem_of_getElem? (i := 22) rfl))) (by decide) (t := .int) (t' := (.array .byte)) (by decide) (by decide))))
  have q7 := (SE.wr W4)
  obtain ⟨T8, h8, X8, e8, W8, st8⟩ := putF X4 hx hZ hown (host := "") (Or.inl (hw _ (List.mem_of_getElem? (i := 23) rfl))) Via.refl e4 q6 q7 (Or.inl (hw _ (List.mem_of_getElem? (i := 24) rfl))) (hw _ (List.mem_of_getElem? (i := 3) rfl)) (ty := .int) (by decide) rfl rfl (g := (mkF m 11 #[.val (.ref a1), .val (.ref a2), .val (.int p3), .val (.int p4), .val (.ref a5)] [(.int p3), (.ref a1)])) rfl rfl (hb hby d2_11)
  have Fw8 := q6.same W8
  have N8 := Fr.snoc X8 N4 ga
  have go9 : ∀ t, Steps p.tables e below (T8.setTop (mkF m 16 #[.val (.ref a1), .val (.ref a2), .val (.int p3), .val (.int p4), .val (.ref a5)] [(.int p4), (.ref a1)])) t → Steps p.tables e below (s₁.setTop (entryFrame m #[(.ref a1), (.ref a2), (.int p3), (.int p4), (.ref a5)] 5)) t := fun t kt => go5 t (by
      refine st8 _ ?_
      show Steps p.tables e below (T8.setTop (mkF m 14 #[.val (.ref a1), .val (.ref a2), .val (.int p3), .val (.int p4), .val (.ref a5)] [])) _
      refine XS.aloadN X8.here hx rfl (hb hby d2_14) rfl rfl ?_
      show Steps p.tables e below (T8.setTop (mkF m 15 #[.val (.ref a1), .val (.ref a2), .val (.int p3), .val (.int p4), .val (.ref a5)] [(.ref a1)])) _
      refine XS.iloadN X8.here hx rfl (hb hby d2_15) rfl ?_
      show Steps p.tables e below (T8.setTop (mkF m 16 #[.val (.ref a1), .val (.ref a2), .val (.int p3), .val (.int p4), .val (.ref a5)] [(.int p4), (.ref a1)])) _
      exact kt)
  have q10 := ((SF_end.other W4 (Or.inr (slot_ne (Or.inr (hw _ (List.mem_of_getElem? (i := 26) rfl))) (Or.inr (hw _ (List.mem_of_getElem? (i := 22) rfl))) (by decide) (t := .int) (t' := (.array .byte)) (by decide) (by decide)))).other W8 (Or.inr (slot_ne (Or.inr (hw _ (List.mem_of_getElem? (i := 26) rfl))) (Or.inl (hw _ (List.mem_of_getElem? (i := 24) rfl))) (by decide) (t := .int) (t' := .int) (by decide) (by decide))))
  have q11 := (q7.wr W8)
  obtain ⟨T12, h12, X12, e12, W12, st12⟩ := putF X8 hx hZ hown (host := "") (Or.inl (hw _ (List.mem_of_getElem? (i := 25) rfl))) Via.refl e8 q10 q11 (Or.inr ⟨(hw _ (List.mem_of_getElem? (i := 26) rfl)), rfl, hnm⟩) (hw _ (List.mem_of_getElem? (i := 3) rfl)) (ty := .int) (by decide) rfl rfl (g := (mkF m 16 #[.val (.ref a1), .val (.ref a2), .val (.int p3), .val (.int p4), .val (.ref a5)] [(.int p4), (.ref a1)])) rfl rfl (hb hby d2_16)
  have Fw12 := q10.same W12
  have N12 := Fr.snoc X12 N8 ga
  have go13 : ∀ t, Steps p.tables e below (T12.setTop (mkF m 22 #[.val (.ref a1), .val (.ref a2), .val (.int p3), .val (.int p4), .val (.ref a5)] [(.ref a5), (.ref a1)])) t → Steps p.tables e below (s₁.setTop (entryFrame m #[(.ref a1), (.ref a2), (.int p3), (.int p4), (.ref a5)] 5)) t := fun t kt => go9 t (by
      refine st12 _ ?_
      show Steps p.tables e below (T12.setTop (mkF m 19 #[.val (.ref a1), .val (.ref a2), .val (.int p3), .val (.int p4), .val (.ref a5)] [])) _
      refine XS.aloadN X12.here hx rfl (hb hby d2_19) rfl rfl ?_
      show Steps p.tables e below (T12.setTop (mkF m 20 #[.val (.ref a1), .val (.ref a2), .val (.int p3), .val (.int p4), .val (.ref a5)] [(.ref a1)])) _
      refine XS.aload X12.here hx rfl (hb hby d2_20) rfl rfl ?_
      show Steps p.tables e below (T12.setTop (mkF m 22 #[.val (.ref a1), .val (.ref a2), .val (.int p3), .val (.int p4), .val (.ref a5)] [(.ref a5), (.ref a1)])) _
      exact kt)
  have q14 := (((SF_extent.other W4 (Or.inr (slot_ne (Or.inr (hw _ (List.mem_of_getElem? (i := 28) rfl))) (Or.inr (hw _ (List.mem_of_getElem? (i := 22) rfl))) (by decide) (t := (.object "java/lang/String")) (t' := (.array .byte)) (by decide) (by decide)))).other W8 (Or.inr (slot_ne (Or.inr (hw _ (List.mem_of_getElem? (i := 28) rfl))) (Or.inl (hw _ (List.mem_of_getElem? (i := 24) rfl))) (by decide) (t := (.object "java/lang/String")) (t' := .int) (by decide) (by decide)))).other W12 (Or.inr (slot_ne (Or.inr (hw _ (List.mem_of_getElem? (i := 28) rfl))) (Or.inr (hw _ (List.mem_of_getElem? (i := 26) rfl))) (by decide) (t := (.object "java/lang/String")) (t' := .int) (by decide) (by decide))))
  have q15 := (q11.wr W12)
  obtain ⟨T16, h16, X16, e16, W16, st16⟩ := putF X12 hx hZ hown (host := "") (Or.inl (hw _ (List.mem_of_getElem? (i := 27) rfl))) Via.refl e12 q14 q15 (Or.inr ⟨(hw _ (List.mem_of_getElem? (i := 28) rfl)), rfl, hnm⟩) (hw _ (List.mem_of_getElem? (i := 3) rfl)) (ty := (.object "java/lang/String")) (by decide) rfl rfl (g := (mkF m 22 #[.val (.ref a1), .val (.ref a2), .val (.int p3), .val (.int p4), .val (.ref a5)] [(.ref a5), (.ref a1)])) rfl rfl (hb hby d2_22)
  have Fw16 := q14.same W16
  have N16 := Fr.snoc X16 N12 ga
  have go17 : ∀ t, Steps p.tables e below (T16.setTop (mkF m 25 #[.val (.ref a1), .val (.ref a2), .val (.int p3), .val (.int p4), .val (.ref a5)] [])) t → Steps p.tables e below (s₁.setTop (entryFrame m #[(.ref a1), (.ref a2), (.int p3), (.int p4), (.ref a5)] 5)) t := fun t kt => go13 t (by
      refine st16 _ ?_
      show Steps p.tables e below (T16.setTop (mkF m 25 #[.val (.ref a1), .val (.ref a2), .val (.int p3), .val (.int p4), .val (.ref a5)] [])) _
      exact kt)
  obtain ⟨fs, hr, hrun, hended, hW, hsame⟩ := X16.leave (v := none) (fun _ => rfl)
  refine ⟨_, _, go17 _ (X16.returnOut hx Bd.returns (hb hby d2_25) hr), hrun, hended, _, _, rfl, ?_, ⟨_, rfl⟩, hW, hsame.mono (by decide) (by decide)⟩
  show own_QI _ _ _ _ _ _ _ T16.heap _
  rw [e16]
  have q18 := (q15.wr W16)
  have q19 := (((Fw4.other W8 (Or.inr (slot_ne (Or.inr (hw _ (List.mem_of_getElem? (i := 22) rfl))) (Or.inl (hw _ (List.mem_of_getElem? (i := 24) rfl))) (by decide) (t := (.array .byte)) (t' := .int) (by decide) (by decide)))).other W12 (Or.inr (slot_ne (Or.inr (hw _ (List.mem_of_getElem? (i := 22) rfl))) (Or.inr (hw _ (List.mem_of_getElem? (i := 26) rfl))) (by decide) (t := (.array .byte)) (t' := .int) (by decide) (by decide)))).other W16 (Or.inr (slot_ne (Or.inr (hw _ (List.mem_of_getElem? (i := 22) rfl))) (Or.inr (hw _ (List.mem_of_getElem? (i := 28) rfl))) (by decide) (t := (.array .byte)) (t' := (.object "java/lang/String")) (by decide) (by decide))))
  have q20 := ((Fw8.other W12 (Or.inr (slot_ne (Or.inl (hw _ (List.mem_of_getElem? (i := 24) rfl))) (Or.inr (hw _ (List.mem_of_getElem? (i := 26) rfl))) (by decide) (t := .int) (t' := .int) (by decide) (by decide)))).other W16 (Or.inr (slot_ne (Or.inl (hw _ (List.mem_of_getElem? (i := 24) rfl))) (Or.inr (hw _ (List.mem_of_getElem? (i := 28) rfl))) (by decide) (t := .int) (t' := (.object "java/lang/String")) (by decide) (by decide))))
  exact ⟨rfl, N16, (((((Keep.refl h0 [a1]).wr W4 (Or.inl (List.mem_of_getElem? (i := 0) rfl))).wr W8 (Or.inl (List.mem_of_getElem? (i := 0) rfl))).wr W12 (Or.inl (List.mem_of_getElem? (i := 0) rfl))).wr W16 (Or.inl (List.mem_of_getElem? (i := 0) rfl))), q18, q19, q20⟩
theorem d1_0 : decode prog_40_method_1_code 0 = .ok (.aload_n 0, 1) := by decide +kernel
theorem d1_1 : decode prog_40_method_1_code 1 = .ok (.aload_n 1, 1) := by decide +kernel
theorem d1_2 : decode prog_40_method_1_code 2 = .ok (.iconst 0, 1) := by decide +kernel
theorem d1_3 : decode prog_40_method_1_code 3 = .ok (.aload_n 1, 1) := by decide +kernel
theorem d1_4 : decode prog_40_method_1_code 4 = .ok (.arraylength, 1) := by decide +kernel
theorem d1_5 : decode prog_40_method_1_code 5 = .ok (.ldc 1, 2) := by decide +kernel
theorem d1_7 : decode prog_40_method_1_code 7 = .ok (.invokespecial 3, 3) := by decide +kernel
theorem d1_10 : decode prog_40_method_1_code 10 = .ok (.return_, 1) := by decide +kernel
theorem pn_1 : plainName "com/example/classweave/classweave/classfile/ClassInput" = true := by first | (simp [plainName, overriddenIn]; done) | decide +kernel
theorem ef_1 (m : MethodId) (a1 : Addr) (a2 : Addr) : entryFrame m #[(.ref a1), (.ref a2)] 2 = mkF m 0 #[.val (.ref a1), .val (.ref a2)] [] := by first | (simp [entryFrame, mkF, argsToLocals, Value.category]; done) | rfl
set_option maxRecDepth 65536 in
set_option maxHeartbeats 40000000 in
theorem rm1 (l : Launch) (Z : State) (a0 : Array Value) (hw : ∀ d ∈ tables_1, d.before a0 Z = true) (ws : List Jvm.Cond) (a1 a2 : Addr) (x0 x1 x2 x3 : Int32) (h0 : Heap) (n0 : Nat) (SE : Exa Z h0 a1 "com/example/classweave/classweave/classfile/ClassInput") (SF_bytes : Fld Z h0 a1 "com/example/classweave/classweave/classfile/ClassInput" "bytes" "[B" .null) (SF_position : Fld Z h0 a1 "com/example/classweave/classweave/classfile/ClassInput" "position" "I" (.int (0 : Int32))) (SF_end : Fld Z h0 a1 "com/example/classweave/classweave/classfile/ClassInput" "end" "I" (.int (0 : Int32))) (SF_extent : Fld Z h0 a1 "com/example/classweave/classweave/classfile/ClassInput" "extent" "Ljava/lang/String;" .null) (ga : n0 ≤ a1) (SV : own_AV Z h0 a2 .byte [(.int x0), (.int x1), (.int x2), (.int x3)]) :
    MetFree l (⟨"com/example/classweave/classweave/classfile/ClassInput", "<init>", "([B)V"⟩ : MethodName) (head1 (Jvm.Cond.code (⟨"com/example/classweave/classweave/classfile/ClassInput", "<init>", "([B)V"⟩ : MethodName) prog_40_method_1_code 2 none :: ws) ({ frames := 2, cells := 2, slots := 36, locals := 28 } : Room)) (fun a U => a = #[(.ref a1), (.ref a2)] ∧ Z.Warmed39 U.vm ∧ U.heap = h0) (fun _ _ _ _ _ => True) (fun _ U o U' => ∃ v L, o = .returned v ∧ own_QI Z a1 a2 0 h0 n0 v U'.heap L ∧ ReturnedEndW U o U' L ({ frames := 2, cells := 2, slots := 36, locals := 28 } : Room).cells ({ frames := 2, cells := 2, slots := 36, locals := 28 } : Room).slots) := by
  refine MetFree.of_bodySF (plainFor_of_name pn_1) hisR ?_
  intro p e s m args below meth c s₁ Bd hml0 hP hK
  obtain ⟨rfl, hZ, hh⟩ := hP
  have hx := Bd.exec
  have hby := Bd.bytes
  have hml : c.maxLocals = 2 := hml0
  have hown : s.vm.findClass "com/example/classweave/classweave/classfile/ClassInput" = some m.cls := findClass_of_methodNamed Bd.named
  have hnm := (name_of_methodNamed Bd.named Bd.method).1
  have X0 : Stand p l e ({ frames := 2, cells := 2, slots := 36, locals := 28 } : Room) s m #[(.ref a1), (.ref a2)] below meth c s₁ [] 0 0 := Stand.of_body Bd
  have e0 : s₁.heap = h0 := by rw [← hh, Bd.state]; rfl
  have N0 := Fr.nil n0
  have go0 : ∀ t, Steps p.tables e below (s₁.setTop (mkF m 0 #[.val (.ref a1), .val (.ref a2)] [])) t → Steps p.tables e below (s₁.setTop (entryFrame m #[(.ref a1), (.ref a2)] 2)) t := fun t k => castTop (ef_1 m a1 a2) k
  have XW : Stand p l e ({ frames := 2, cells := 2, slots := 36, locals := 28 } : Room) (s.setVm s.vm) m #[(.ref a1), (.ref a2)] below meth c s₁ [] 0 0 := X0
  have HS : s.Since s.vm 0 := (State.WarmedH.refl s).since 0
  have HK : 0 ≤ h0.size := Nat.zero_le _
  have hZW : Z.Warmed39 (s.setVm s.vm).vm := hZ
  have hownW : (s.setVm s.vm).vm.findClass "com/example/classweave/classweave/classfile/ClassInput" = some m.cls := hown
  have go1 : ∀ t, Steps p.tables e below (s₁.setTop (mkF m 4 #[.val (.ref a1), .val (.ref a2)] [(.ref a2), (.int (0 : Int32)), (.ref a2), (.ref a1)])) t → Steps p.tables e below (s₁.setTop (entryFrame m #[(.ref a1), (.ref a2)] 2)) t := fun t kt => go0 t (by
      refine XS.aloadN XW.here hx rfl (hb hby d1_0) rfl rfl ?_
      show Steps p.tables e below (s₁.setTop (mkF m 1 #[.val (.ref a1), .val (.ref a2)] [(.ref a1)])) _
      refine XS.aloadN XW.here hx rfl (hb hby d1_1) rfl rfl ?_
      show Steps p.tables e below (s₁.setTop (mkF m 2 #[.val (.ref a1), .val (.ref a2)] [(.ref a2), (.ref a1)])) _
      refine XS.iconst XW.here hx rfl (hb hby d1_2) ?_
      show Steps p.tables e below (s₁.setTop (mkF m 3 #[.val (.ref a1), .val (.ref a2)] [(.int (0 : Int32)), (.ref a2), (.ref a1)])) _
      refine XS.aloadN XW.here hx rfl (hb hby d1_3) rfl rfl ?_
      show Steps p.tables e below (s₁.setTop (mkF m 4 #[.val (.ref a1), .val (.ref a2)] [(.ref a2), (.int (0 : Int32)), (.ref a2), (.ref a1)])) _
      exact kt)
  obtain ⟨c2, Ar2, q2⟩ := id SV
  have go3 : ∀ t, Steps p.tables e below (s₁.setTop (mkF m 5 #[.val (.ref a1), .val (.ref a2)] [(.int (4 : Int32)), (.int (0 : Int32)), (.ref a2), (.ref a1)])) t → Steps p.tables e below (s₁.setTop (entryFrame m #[(.ref a1), (.ref a2)] 2)) t := fun t kt => go1 t (by
      refine XW.arraylength hx (by rw [e0]; exact Ar2.1) (State.isArrayOf_alike hZW.alike Ar2.2.1) (g := (mkF m 4 #[.val (.ref a1), .val (.ref a2)] [(.ref a2), (.int (0 : Int32)), (.ref a2), (.ref a1)])) rfl rfl (hb hby d1_4) _ ?_
      rw [own_len q2 (n := (4 : Int32)) rfl]
      show Steps p.tables e below (s₁.setTop (mkF m 5 #[.val (.ref a1), .val (.ref a2)] [(.int (4 : Int32)), (.int (0 : Int32)), (.ref a2), (.ref a1)])) _
      exact kt)
  obtain ⟨b4, T4, h4, k4, X4, e4, E4, HS4, HK4, hZ4, hown4, st4⟩ := ldcS XW hx hZW hownW (hw _ (List.mem_of_getElem? (i := 8) rfl)) (own_wS a0 Z hw) e0 HS HK (g := (mkF m 5 #[.val (.ref a1), .val (.ref a2)] [(.int (4 : Int32)), (.int (0 : Int32)), (.ref a2), (.ref a1)])) rfl (hb hby d1_5) (n := 32) (by decide) (by decide) (by decide) (by decide)
  have go5 : ∀ t, Steps p.tables e below (T4.setTop (mkF m 7 #[.val (.ref a1), .val (.ref a2)] [(.ref b4), (.int (4 : Int32)), (.int (0 : Int32)), (.ref a2), (.ref a1)])) t → Steps p.tables e below (s₁.setTop (entryFrame m #[(.ref a1), (.ref a2)] 2)) t := fun t kt => go3 t (by
      refine st4 _ ?_
      show Steps p.tables e below (T4.setTop (mkF m 7 #[.val (.ref a1), .val (.ref a2)] [(.ref b4), (.int (4 : Int32)), (.int (0 : Int32)), (.ref a2), (.ref a1)])) _
      exact kt)
  have q7 := (SE.ext E4)
  have q8 := (SF_bytes.ext E4)
  have q9 := (SF_position.ext E4)
  have q10 := (SF_end.ext E4)
  have q11 := (SF_extent.ext E4)
  obtain ⟨_, _, ⟨T6, L6, k6, n6⟩, -, X6, ⟨Lc6, hQ6, l6, y6, z6⟩, st6⟩ := X4.specialBack hx (y := (⟨"com/example/classweave/classweave/classfile/ClassInput", "<init>", "([BIILjava/lang/String;)V"⟩ : MethodName)) rfl hown4 (mvT hZ4 (hw _ (List.mem_of_getElem? (i := 15) rfl))) (mvT hZ4 (hw _ (List.mem_of_getElem? (i := 16) rfl))) (mvT hZ4 (hw _ (List.mem_of_getElem? (i := 17) rfl))) (by decide) (backOf (W := 0) (rm2 l Z a0 hw [] a1 a2 (0 : Int32) (4 : Int32) b4 h4 n0 q7 q8 q9 q10 q11 ga) hZ4 (hw _ (List.mem_of_getElem? (i := 17) rfl)) (hw _ (List.mem_of_getElem? (i := 4) rfl)) (by decide) (by decide)) (g := (mkF m 7 #[.val (.ref a1), .val (.ref a2)] [(.ref b4), (.int (4 : Int32)), (.int (0 : Int32)), (.ref a2), (.ref a1)])) rfl (by rw [hml]; rfl) (Steps.refl _) (a := a1) (argsL := [(.ref a2), (.int (0 : Int32)), (.int (4 : Int32)), (.ref b4)]) (rest := []) (lenOf pd_1 rfl) rfl (by show 2 * 0 + _ ≤ _; exact Nat.le_of_eq rfl) (hb hby d1_7) (fun _ _ => ⟨rfl, e4, (by decide : 2 + 0 ≤ _), (by decide : 36 + 0 ≤ _)⟩)
  dsimp only [Pt.U, Pt.locs, Pt.cells, Pt.slots] at X6 l6 y6 z6 st6 hQ6
  subst l6 y6 z6
  obtain ⟨rfl, N6q, K6, g6a, g6b, g6c⟩ := hQ6
  have N6 := Fr.app N0 N6q
  have go12 : ∀ t, Steps p.tables e below (T6.setTop (mkF m 10 #[.val (.ref a1), .val (.ref a2)] [])) t → Steps p.tables e below (s₁.setTop (entryFrame m #[(.ref a1), (.ref a2)] 2)) t := fun t kt => go5 t (by
      refine st6.trans ?_
      show Steps p.tables e below (T6.setTop (mkF m 10 #[.val (.ref a1), .val (.ref a2)] [])) _
      exact kt)
  have hk13 := (Nat.le_trans HK4 K6.1)
  obtain ⟨fs, hr, hrun, hended, hEW⟩ := X6.leaveW HS4 hk13 (v := none) (fun _ => rfl)
  refine ⟨_, _, go12 _ (X6.returnOut hx Bd.returns (hb hby d1_10) hr), hrun, hended, _, _, rfl, ?_, hEW.1, hEW.2.1, hEW.2.2.1, hEW.2.2.2.mono (by decide) (by decide)⟩
  show own_QI _ _ _ _ _ _ _ T6.heap _
  exact ⟨rfl, N6, (((Keep.refl h0 [a1]).ext E4).trans K6 (allS (Or.inl (List.mem_of_getElem? (i := 0) rfl)) all0)), g6a, g6b, g6c⟩
theorem d4_0 : decode prog_40_method_15_code 0 = .ok (.aload_n 0, 1) := by decide +kernel
theorem d4_1 : decode prog_40_method_15_code 1 = .ok (.getfield 14, 3) := by decide +kernel
theorem d4_4 : decode prog_40_method_15_code 4 = .ok (.iload_n 1, 1) := by decide +kernel
theorem d4_5 : decode prog_40_method_15_code 5 = .ok (.baload, 1) := by decide +kernel
theorem d4_6 : decode prog_40_method_15_code 6 = .ok (.sipush 255, 3) := by decide +kernel
theorem d4_9 : decode prog_40_method_15_code 9 = .ok (.iand, 1) := by decide +kernel
theorem d4_10 : decode prog_40_method_15_code 10 = .ok (.bipush 8, 2) := by decide +kernel
theorem d4_12 : decode prog_40_method_15_code 12 = .ok (.ishl, 1) := by decide +kernel
theorem d4_13 : decode prog_40_method_15_code 13 = .ok (.aload_n 0, 1) := by decide +kernel
theorem d4_14 : decode prog_40_method_15_code 14 = .ok (.getfield 14, 3) := by decide +kernel
theorem d4_17 : decode prog_40_method_15_code 17 = .ok (.iload_n 1, 1) := by decide +kernel
theorem d4_18 : decode prog_40_method_15_code 18 = .ok (.iconst 1, 1) := by decide +kernel
theorem d4_19 : decode prog_40_method_15_code 19 = .ok (.iadd, 1) := by decide +kernel
theorem d4_20 : decode prog_40_method_15_code 20 = .ok (.baload, 1) := by decide +kernel
theorem d4_21 : decode prog_40_method_15_code 21 = .ok (.sipush 255, 3) := by decide +kernel
theorem d4_24 : decode prog_40_method_15_code 24 = .ok (.iand, 1) := by decide +kernel
theorem d4_25 : decode prog_40_method_15_code 25 = .ok (.ior, 1) := by decide +kernel
theorem d4_26 : decode prog_40_method_15_code 26 = .ok (.ireturn, 1) := by decide +kernel
theorem pn_4 : plainName "com/example/classweave/classweave/classfile/ClassInput" = true := by first | (simp [plainName, overriddenIn]; done) | decide +kernel
theorem ef_4 (m : MethodId) (a1 : Addr) (p2 : Int32) : entryFrame m #[(.ref a1), (.int p2)] 2 = mkF m 0 #[.val (.ref a1), .val (.int p2)] [] := by first | (simp [entryFrame, mkF, argsToLocals, Value.category]; done) | rfl
set_option maxRecDepth 65536 in
set_option maxHeartbeats 40000000 in
theorem rm4 (l : Launch) (Z : State) (a0 : Array Value) (hw : ∀ d ∈ tables_1, d.before a0 Z = true) (ws : List Jvm.Cond) (a1 : Addr) (p2 : Int32) (a3 : Addr) (x0 x1 : Int32) (vs : List Value) (i : Nat) (h0 : Heap) (n0 : Nat) (SF : Fld Z h0 a1 "com/example/classweave/classweave/classfile/ClassInput" "bytes" "[B" (.ref a3)) (SV : own_AV Z h0 a3 .byte vs) (j0 : ¬ p2 < 0) (j1 : ¬ (p2 + (1 : Int32)) < 0) (l0 : p2.toNatClampNeg = i) (l1 : (p2 + (1 : Int32)).toNatClampNeg = i + 1) (v0 : vs[i]? = some (.int x0)) (v1 : vs[i + 1]? = some (.int x1)) :
    MetFree l (⟨"com/example/classweave/classweave/classfile/ClassInput", "u2At", "(I)I"⟩ : MethodName) (head1 (Jvm.Cond.code (⟨"com/example/classweave/classweave/classfile/ClassInput", "u2At", "(I)I"⟩ : MethodName) prog_40_method_15_code 2 (some .int) :: ws) ({ frames := 0, cells := 0, slots := 0, locals := 0 } : Room)) (fun a U => a = #[(.ref a1), (.int p2)] ∧ Z.Warmed39 U.vm ∧ U.heap = h0) (fun _ _ _ _ _ => True) (fun _ U o U' => ∃ v L, o = .returned v ∧ QP (some (.int (own_u2 x0 x1))) h0 n0 v U'.heap L ∧ FrameEnd U o U' L ({ frames := 0, cells := 0, slots := 0, locals := 0 } : Room).cells ({ frames := 0, cells := 0, slots := 0, locals := 0 } : Room).slots) := by
  refine MetFree.of_bodySF (plainFor_of_name pn_4) hisR ?_
  intro p e s m args below meth c s₁ Bd hml0 hP hK
  obtain ⟨rfl, hZ, hh⟩ := hP
  have hx := Bd.exec
  have hby := Bd.bytes
  have hml : c.maxLocals = 2 := hml0
  have hown : s.vm.findClass "com/example/classweave/classweave/classfile/ClassInput" = some m.cls := findClass_of_methodNamed Bd.named
  have hnm := (name_of_methodNamed Bd.named Bd.method).1
  have X0 : Stand p l e ({ frames := 0, cells := 0, slots := 0, locals := 0 } : Room) s m #[(.ref a1), (.int p2)] below meth c s₁ [] 0 0 := Stand.of_body Bd
  have e0 : s₁.heap = h0 := by rw [← hh, Bd.state]; rfl
  have N0 := Fr.nil n0
  have go0 : ∀ t, Steps p.tables e below (s₁.setTop (mkF m 0 #[.val (.ref a1), .val (.int p2)] [])) t → Steps p.tables e below (s₁.setTop (entryFrame m #[(.ref a1), (.int p2)] 2)) t := fun t k => castTop (ef_4 m a1 p2) k
  have go1 : ∀ t, Steps p.tables e below (s₁.setTop (mkF m 1 #[.val (.ref a1), .val (.int p2)] [(.ref a1)])) t → Steps p.tables e below (s₁.setTop (entryFrame m #[(.ref a1), (.int p2)] 2)) t := fun t kt => go0 t (by
      refine XS.aloadN X0.here hx rfl (hb hby d4_0) rfl rfl ?_
      show Steps p.tables e below (s₁.setTop (mkF m 1 #[.val (.ref a1), .val (.int p2)] [(.ref a1)])) _
      exact kt)
  obtain ⟨T2, X2, e2, st2⟩ := getF X0 hx hZ hown (host := "") (Or.inl (hw _ (List.mem_of_getElem? (i := 21) rfl))) Via.refl e0 SF (g := (mkF m 1 #[.val (.ref a1), .val (.int p2)] [(.ref a1)])) rfl rfl (hb hby d4_1)
  have go3 : ∀ t, Steps p.tables e below (T2.setTop (mkF m 5 #[.val (.ref a1), .val (.int p2)] [(.int p2), (.ref a3)])) t → Steps p.tables e below (s₁.setTop (entryFrame m #[(.ref a1), (.int p2)] 2)) t := fun t kt => go1 t (by
      refine st2 _ ?_
      show Steps p.tables e below (T2.setTop (mkF m 4 #[.val (.ref a1), .val (.int p2)] [(.ref a3)])) _
      refine XS.iloadN X2.here hx rfl (hb hby d4_4) rfl ?_
      show Steps p.tables e below (T2.setTop (mkF m 5 #[.val (.ref a1), .val (.int p2)] [(.int p2), (.ref a3)])) _
      exact kt)
  obtain ⟨c4, Ar4, q4⟩ := id SV
  have go5 : ∀ t, Steps p.tables e below (T2.setTop (mkF m 14 #[.val (.ref a1), .val (.int p2)] [(.ref a1), (.int ((x0 &&& (255 : Int32)) <<< ((8 : Int32) &&& 31)))])) t → Steps p.tables e below (s₁.setTop (entryFrame m #[(.ref a1), (.int p2)] 2)) t := fun t kt => go3 t (by
      refine X2.baloadBytes hx (j := p2) (v := (.int x0)) (by rw [e2]; exact Ar4.1) (State.isArrayOf_alike hZ.alike Ar4.2.1) Ar4.2.2 (own_inb' q4 j0 l0 v0) (own_get q4 l0 v0) (g := (mkF m 5 #[.val (.ref a1), .val (.int p2)] [(.int p2), (.ref a3)])) rfl rfl (hb hby d4_5) _ ?_
      show Steps p.tables e below (T2.setTop (mkF m 6 #[.val (.ref a1), .val (.int p2)] [(.int x0)])) _
      refine XS.sipush X2.here hx rfl (hb hby d4_6) ?_
      show Steps p.tables e below (T2.setTop (mkF m 9 #[.val (.ref a1), .val (.int p2)] [(.int (255 : Int32)), (.int x0)])) _
      refine XS.iand X2.here hx rfl (hb hby d4_9) rfl ?_
      show Steps p.tables e below (T2.setTop (mkF m 10 #[.val (.ref a1), .val (.int p2)] [(.int (x0 &&& (255 : Int32)))])) _
      refine XS.bipush X2.here hx rfl (hb hby d4_10) ?_
      show Steps p.tables e below (T2.setTop (mkF m 12 #[.val (.ref a1), .val (.int p2)] [(.int (8 : Int32)), (.int (x0 &&& (255 : Int32)))])) _
      refine XS.ishl X2.here hx rfl (hb hby d4_12) rfl ?_
      show Steps p.tables e below (T2.setTop (mkF m 13 #[.val (.ref a1), .val (.int p2)] [(.int ((x0 &&& (255 : Int32)) <<< ((8 : Int32) &&& 31)))])) _
      refine XS.aloadN X2.here hx rfl (hb hby d4_13) rfl rfl ?_
      show Steps p.tables e below (T2.setTop (mkF m 14 #[.val (.ref a1), .val (.int p2)] [(.ref a1), (.int ((x0 &&& (255 : Int32)) <<< ((8 : Int32) &&& 31)))])) _
      exact kt)
  obtain ⟨T6, X6, e6, st6⟩ := getF X2 hx hZ hown (host := "") (Or.inl (hw _ (List.mem_of_getElem? (i := 21) rfl))) Via.refl e2 SF (g := (mkF m 14 #[.val (.ref a1), .val (.int p2)] [(.ref a1), (.int ((x0 &&& (255 : Int32)) <<< ((8 : Int32) &&& 31)))])) rfl rfl (hb hby d4_14)
  have go7 : ∀ t, Steps p.tables e below (T6.setTop (mkF m 20 #[.val (.ref a1), .val (.int p2)] [(.int (p2 + (1 : Int32))), (.ref a3), (.int ((x0 &&& (255 : Int32)) <<< ((8 : Int32) &&& 31)))])) t → Steps p.tables e below (s₁.setTop (entryFrame m #[(.ref a1), (.int p2)] 2)) t := fun t kt => go5 t (by
      refine st6 _ ?_
      show Steps p.tables e below (T6.setTop (mkF m 17 #[.val (.ref a1), .val (.int p2)] [(.ref a3), (.int ((x0 &&& (255 : Int32)) <<< ((8 : Int32) &&& 31)))])) _
      refine XS.iloadN X6.here hx rfl (hb hby d4_17) rfl ?_
      show Steps p.tables e below (T6.setTop (mkF m 18 #[.val (.ref a1), .val (.int p2)] [(.int p2), (.ref a3), (.int ((x0 &&& (255 : Int32)) <<< ((8 : Int32) &&& 31)))])) _
      refine XS.iconst X6.here hx rfl (hb hby d4_18) ?_
      show Steps p.tables e below (T6.setTop (mkF m 19 #[.val (.ref a1), .val (.int p2)] [(.int (1 : Int32)), (.int p2), (.ref a3), (.int ((x0 &&& (255 : Int32)) <<< ((8 : Int32) &&& 31)))])) _
      refine XS.iadd X6.here hx rfl (hb hby d4_19) rfl ?_
      show Steps p.tables e below (T6.setTop (mkF m 20 #[.val (.ref a1), .val (.int p2)] [(.int (p2 + (1 : Int32))), (.ref a3), (.int ((x0 &&& (255 : Int32)) <<< ((8 : Int32) &&& 31)))])) _
      exact kt)
  obtain ⟨c8, Ar8, q8⟩ := id SV
  have go9 : ∀ t, Steps p.tables e below (T6.setTop (mkF m 26 #[.val (.ref a1), .val (.int p2)] [(.int (((x0 &&& (255 : Int32)) <<< ((8 : Int32) &&& 31)) ||| (x1 &&& (255 : Int32))))])) t → Steps p.tables e below (s₁.setTop (entryFrame m #[(.ref a1), (.int p2)] 2)) t := fun t kt => go7 t (by
      refine X6.baloadBytes hx (j := (p2 + (1 : Int32))) (v := (.int x1)) (by rw [e6]; exact Ar8.1) (State.isArrayOf_alike hZ.alike Ar8.2.1) Ar8.2.2 (own_inb' q8 j1 l1 v1) (own_get q8 l1 v1) (g := (mkF m 20 #[.val (.ref a1), .val (.int p2)] [(.int (p2 + (1 : Int32))), (.ref a3), (.int ((x0 &&& (255 : Int32)) <<< ((8 : Int32) &&& 31)))])) rfl rfl (hb hby d4_20) _ ?_
      show Steps p.tables e below (T6.setTop (mkF m 21 #[.val (.ref a1), .val (.int p2)] [(.int x1), (.int ((x0 &&& (255 : Int32)) <<< ((8 : Int32) &&& 31)))])) _
      refine XS.sipush X6.here hx rfl (hb hby d4_21) ?_
      show Steps p.tables e below (T6.setTop (mkF m 24 #[.val (.ref a1), .val (.int p2)] [(.int (255 : Int32)), (.int x1), (.int ((x0 &&& (255 : Int32)) <<< ((8 : Int32) &&& 31)))])) _
      refine XS.iand X6.here hx rfl (hb hby d4_24) rfl ?_
      show Steps p.tables e below (T6.setTop (mkF m 25 #[.val (.ref a1), .val (.int p2)] [(.int (x1 &&& (255 : Int32))), (.int ((x0 &&& (255 : Int32)) <<< ((8 : Int32) &&& 31)))])) _
      refine XS.ior X6.here hx rfl (hb hby d4_25) rfl ?_
      show Steps p.tables e below (T6.setTop (mkF m 26 #[.val (.ref a1), .val (.int p2)] [(.int (((x0 &&& (255 : Int32)) <<< ((8 : Int32) &&& 31)) ||| (x1 &&& (255 : Int32))))])) _
      exact kt)
  obtain ⟨fs, hr, hrun, hended, hW, hsame⟩ := X6.leave (v := some (.int (((x0 &&& (255 : Int32)) <<< ((8 : Int32) &&& 31)) ||| (x1 &&& (255 : Int32))))) (fun h => by rw [Bd.returns] at h; cases h)
  refine ⟨_, _, go9 _ (retI X6 hx Bd.returns (hb hby d4_26) hr), hrun, hended, _, _, rfl, ?_, ⟨_, rfl⟩, hW, hsame.mono (by decide) (by decide)⟩
  exact ⟨rfl, N0, e6⟩
theorem d5_0 : decode prog_40_method_3_code 0 = .ok (.aload_n 0, 1) := by decide +kernel
theorem d5_1 : decode prog_40_method_3_code 1 = .ok (.getfield 18, 3) := by decide +kernel
theorem d5_4 : decode prog_40_method_3_code 4 = .ok (.ireturn, 1) := by decide +kernel
theorem pn_5 : plainName "com/example/classweave/classweave/classfile/ClassInput" = true := by first | (simp [plainName, overriddenIn]; done) | decide +kernel
theorem ef_5 (m : MethodId) (a1 : Addr) : entryFrame m #[(.ref a1)] 1 = mkF m 0 #[.val (.ref a1)] [] := by first | (simp [entryFrame, mkF, argsToLocals, Value.category]; done) | rfl
set_option maxRecDepth 65536 in
set_option maxHeartbeats 40000000 in
theorem rm5 (l : Launch) (Z : State) (a0 : Array Value) (hw : ∀ d ∈ tables_1, d.before a0 Z = true) (ws : List Jvm.Cond) (a1 : Addr) (p2 : Int32) (h0 : Heap) (n0 : Nat) (SF : Fld Z h0 a1 "com/example/classweave/classweave/classfile/ClassInput" "position" "I" (.int p2)) :
    MetFree l (⟨"com/example/classweave/classweave/classfile/ClassInput", "position", "()I"⟩ : MethodName) (head1 (Jvm.Cond.code (⟨"com/example/classweave/classweave/classfile/ClassInput", "position", "()I"⟩ : MethodName) prog_40_method_3_code 1 (some .int) :: ws) ({ frames := 0, cells := 0, slots := 0, locals := 0 } : Room)) (fun a U => a = #[(.ref a1)] ∧ Z.Warmed39 U.vm ∧ U.heap = h0) (fun _ _ _ _ _ => True) (fun _ U o U' => ∃ v L, o = .returned v ∧ QP (some (.int p2)) h0 n0 v U'.heap L ∧ FrameEnd U o U' L ({ frames := 0, cells := 0, slots := 0, locals := 0 } : Room).cells ({ frames := 0, cells := 0, slots := 0, locals := 0 } : Room).slots) := by
  refine MetFree.of_bodySF (plainFor_of_name pn_5) hisR ?_
  intro p e s m args below meth c s₁ Bd hml0 hP hK
  obtain ⟨rfl, hZ, hh⟩ := hP
  have hx := Bd.exec
  have hby := Bd.bytes
  have hml : c.maxLocals = 1 := hml0
  have hown : s.vm.findClass "com/example/classweave/classweave/classfile/ClassInput" = some m.cls := findClass_of_methodNamed Bd.named
  have hnm := (name_of_methodNamed Bd.named Bd.method).1
  have X0 : Stand p l e ({ frames := 0, cells := 0, slots := 0, locals := 0 } : Room) s m #[(.ref a1)] below meth c s₁ [] 0 0 := Stand.of_body Bd
  have e0 : s₁.heap = h0 := by rw [← hh, Bd.state]; rfl
  have N0 := Fr.nil n0
  have go0 : ∀ t, Steps p.tables e below (s₁.setTop (mkF m 0 #[.val (.ref a1)] [])) t → Steps p.tables e below (s₁.setTop (entryFrame m #[(.ref a1)] 1)) t := fun t k => castTop (ef_5 m a1) k
  have go1 : ∀ t, Steps p.tables e below (s₁.setTop (mkF m 1 #[.val (.ref a1)] [(.ref a1)])) t → Steps p.tables e below (s₁.setTop (entryFrame m #[(.ref a1)] 1)) t := fun t kt => go0 t (by
      refine XS.aloadN X0.here hx rfl (hb hby d5_0) rfl rfl ?_
      show Steps p.tables e below (s₁.setTop (mkF m 1 #[.val (.ref a1)] [(.ref a1)])) _
      exact kt)
  obtain ⟨T2, X2, e2, st2⟩ := getF X0 hx hZ hown (host := "") (Or.inl (hw _ (List.mem_of_getElem? (i := 23) rfl))) Via.refl e0 SF (g := (mkF m 1 #[.val (.ref a1)] [(.ref a1)])) rfl rfl (hb hby d5_1)
  have go3 : ∀ t, Steps p.tables e below (T2.setTop (mkF m 4 #[.val (.ref a1)] [(.int p2)])) t → Steps p.tables e below (s₁.setTop (entryFrame m #[(.ref a1)] 1)) t := fun t kt => go1 t (by
      refine st2 _ ?_
      show Steps p.tables e below (T2.setTop (mkF m 4 #[.val (.ref a1)] [(.int p2)])) _
      exact kt)
  obtain ⟨fs, hr, hrun, hended, hW, hsame⟩ := X2.leave (v := some (.int p2)) (fun h => by rw [Bd.returns] at h; cases h)
  refine ⟨_, _, go3 _ (retI X2 hx Bd.returns (hb hby d5_4) hr), hrun, hended, _, _, rfl, ?_, ⟨_, rfl⟩, hW, hsame.mono (by decide) (by decide)⟩
  exact ⟨rfl, N0, e2⟩
theorem pn_0 : plainName "com/example/classweave/classweave/classfile/ClassInputU2AtPinLaw" = true := by first | (simp [plainName, overriddenIn]; done) | decide +kernel
theorem ef_0 (m : MethodId) (p0 : Int32) (p1 : Int32) (p2 : Int32) (p3 : Int32) (p4 : Int32) : entryFrame m #[(.int p0), (.int p1), (.int p2), (.int p3), (.int p4)] maxLocals = mkF m 0 #[.val (.int p0), .val (.int p1), .val (.int p2), .val (.int p3), .val (.int p4), .unset, .unset, .unset, .unset, .unset, .unset] [] := by first | (simp [entryFrame, mkF, argsToLocals, Value.category, maxLocals]; done) | rfl
set_option maxRecDepth 65536 in
set_option maxHeartbeats 40000000 in
theorem rm0 (l : Launch) (Z : State) (a0 : Array Value) (hw : ∀ d ∈ tables_1, d.before a0 Z = true) (ws : List Jvm.Cond) (p0 p1 p2 p3 p4 : Int32) (h0 : Heap) (n0 : Nat) (Z0 : n0 ≤ h0.size) :
    MetFree l x (head1 (Jvm.Cond.code x code maxLocals ret :: ws) room_1) (fun a U => a = #[(.int p0), (.int p1), (.int p2), (.int p3), (.int p4)] ∧ Z.Warmed39 U.vm ∧ U.heap = h0) (fun _ _ _ _ _ => True) (fun _ U o U' => ∃ v L, o = .returned v ∧ own_Q0 n0 v U'.heap L ∧ ReturnedEndW U o U' L room_1.cells room_1.slots) := by
  refine MetFree.of_bodySF (plainFor_of_name pn_0) hisR ?_
  intro p e s m args below meth c s₁ Bd hml0 hP hK
  obtain ⟨rfl, hZ, hh⟩ := hP
  have hx := Bd.exec
  have hby := Bd.bytes
  have hml : c.maxLocals = 11 := hml0
  have hown : s.vm.findClass "com/example/classweave/classweave/classfile/ClassInputU2AtPinLaw" = some m.cls := findClass_of_methodNamed Bd.named
  have hnm := (name_of_methodNamed Bd.named Bd.method).1
  have X0 : Stand p l e room_1 s m #[(.int p0), (.int p1), (.int p2), (.int p3), (.int p4)] below meth c s₁ [] 0 0 := Stand.of_body Bd
  have e0 : s₁.heap = h0 := by rw [← hh, Bd.state]; rfl
  have N0 := Fr.nil n0
  have go0 : ∀ t, Steps p.tables e below (s₁.setTop (mkF m 0 #[.val (.int p0), .val (.int p1), .val (.int p2), .val (.int p3), .val (.int p4), .unset, .unset, .unset, .unset, .unset, .unset] [])) t → Steps p.tables e below (s₁.setTop (entryFrame m #[(.int p0), (.int p1), (.int p2), (.int p3), (.int p4)] maxLocals)) t := fun t k => castTop (ef_0 m p0 p1 p2 p3 p4) k
  have XW : Stand p l e room_1 (s.setVm s.vm) m #[(.int p0), (.int p1), (.int p2), (.int p3), (.int p4)] below meth c s₁ [] 0 0 := X0
  have HS : s.Since s.vm 0 := (State.WarmedH.refl s).since 0
  have HK : 0 ≤ h0.size := Nat.zero_le _
  have hZW : Z.Warmed39 (s.setVm s.vm).vm := hZ
  have hownW : (s.setVm s.vm).vm.findClass "com/example/classweave/classweave/classfile/ClassInputU2AtPinLaw" = some m.cls := hown
  have go1 : ∀ t, Steps p.tables e below (s₁.setTop (mkF m 1 #[.val (.int p0), .val (.int p1), .val (.int p2), .val (.int p3), .val (.int p4), .unset, .unset, .unset, .unset, .unset, .unset] [(.int (4 : Int32))])) t → Steps p.tables e below (s₁.setTop (entryFrame m #[(.int p0), (.int p1), (.int p2), (.int p3), (.int p4)] maxLocals)) t := fun t kt => go0 t (by
      refine XS.iconst XW.here hx rfl (hb hby at_0) ?_
      show Steps p.tables e below (s₁.setTop (mkF m 1 #[.val (.int p0), .val (.int p1), .val (.int p2), .val (.int p3), .val (.int p4), .unset, .unset, .unset, .unset, .unset, .unset] [(.int (4 : Int32))])) _
      exact kt)
  obtain ⟨T2, h2, k2, X2, e2, E2, A2, st2⟩ := newP XW hx hZW (hw _ (List.mem_of_getElem? (i := 0) rfl)) e0 (g := (mkF m 1 #[.val (.int p0), .val (.int p1), .val (.int p2), .val (.int p3), .val (.int p4), .unset, .unset, .unset, .unset, .unset, .unset] [(.int (4 : Int32))])) rfl (hb hby at_1) rfl (by decide) (cap := 4) (by decide) (by decide) (by decide) (by decide)
  obtain ⟨b2, g2⟩ : ∃ z, z = h0.size := ⟨_, rfl⟩
  rw [← g2] at A2 st2
  have ks2 : h0.size ≤ h0.size := Nat.le_refl _
  have sz2 : h0.size ≤ b2 := Nat.le_trans ks2 (Nat.le_of_eq g2.symm)
  have V2 : own_AV Z h2 b2 .byte [(.int (0 : Int32)), (.int (0 : Int32)), (.int (0 : Int32)), (.int (0 : Int32))] := own_AV.new A2 (i := 4) (by decide)
  have gb2 : n0 ≤ b2 := Nat.le_trans Z0 (Nat.le_of_eq g2.symm)
  have go3 : ∀ t, Steps p.tables e below (T2.setTop (mkF m 10 #[.val (.int p0), .val (.int p1), .val (.int p2), .val (.int p3), .val (.int p4), .val (.ref b2), .unset, .unset, .unset, .unset, .unset] [(.int (p0.toInt8.toInt32)), (.int (0 : Int32)), (.ref b2)])) t → Steps p.tables e below (s₁.setTop (entryFrame m #[(.int p0), (.int p1), (.int p2), (.int p3), (.int p4)] maxLocals)) t := fun t kt => go1 t (by
      refine st2 _ ?_
      show Steps p.tables e below (T2.setTop (mkF m 3 #[.val (.int p0), .val (.int p1), .val (.int p2), .val (.int p3), .val (.int p4), .unset, .unset, .unset, .unset, .unset, .unset] [(.ref b2)])) _
      refine XS.astore X2.here hx rfl (hb hby at_3) rfl rfl (l' := #[.val (.int p0), .val (.int p1), .val (.int p2), .val (.int p3), .val (.int p4), .val (.ref b2), .unset, .unset, .unset, .unset, .unset]) rfl ?_
      show Steps p.tables e below (T2.setTop (mkF m 5 #[.val (.int p0), .val (.int p1), .val (.int p2), .val (.int p3), .val (.int p4), .val (.ref b2), .unset, .unset, .unset, .unset, .unset] [])) _
      refine XS.aload X2.here hx rfl (hb hby at_5) rfl rfl ?_
      show Steps p.tables e below (T2.setTop (mkF m 7 #[.val (.int p0), .val (.int p1), .val (.int p2), .val (.int p3), .val (.int p4), .val (.ref b2), .unset, .unset, .unset, .unset, .unset] [(.ref b2)])) _
      refine XS.iconst X2.here hx rfl (hb hby at_7) ?_
      show Steps p.tables e below (T2.setTop (mkF m 8 #[.val (.int p0), .val (.int p1), .val (.int p2), .val (.int p3), .val (.int p4), .val (.ref b2), .unset, .unset, .unset, .unset, .unset] [(.int (0 : Int32)), (.ref b2)])) _
      refine XS.iloadN X2.here hx rfl (hb hby at_8) rfl ?_
      show Steps p.tables e below (T2.setTop (mkF m 9 #[.val (.int p0), .val (.int p1), .val (.int p2), .val (.int p3), .val (.int p4), .val (.ref b2), .unset, .unset, .unset, .unset, .unset] [(.int p0), (.int (0 : Int32)), (.ref b2)])) _
      refine XS.i2b X2.here hx rfl (hb hby at_9) rfl ?_
      show Steps p.tables e below (T2.setTop (mkF m 10 #[.val (.int p0), .val (.int p1), .val (.int p2), .val (.int p3), .val (.int p4), .val (.ref b2), .unset, .unset, .unset, .unset, .unset] [(.int (p0.toInt8.toInt32)), (.int (0 : Int32)), (.ref b2)])) _
      exact kt)
  obtain ⟨c4, Ar4, q4⟩ := id V2
  obtain ⟨T4, h4, X4, e4, W4, st4⟩ := stB X2 hx hZW e2 Ar4 (j := (0 : Int32)) (own_inb q4 (n := 4) rfl (by decide) (by decide)) (g := (mkF m 10 #[.val (.int p0), .val (.int p1), .val (.int p2), .val (.int p3), .val (.int p4), .val (.ref b2), .unset, .unset, .unset, .unset, .unset] [(.int (p0.toInt8.toInt32)), (.int (0 : Int32)), (.ref b2)])) rfl rfl (hb hby at_10)
  have V4 : own_AV Z h4 b2 .byte [(.int (nar .byte (p0.toInt8.toInt32))), (.int (0 : Int32)), (.int (0 : Int32)), (.int (0 : Int32))] := own_AV.set Ar4 q4 W4 (i := 0) (by decide) rfl
  have N4 := Fr.snoc X4 N0 gb2
  have go5 : ∀ t, Steps p.tables e below (T4.setTop (mkF m 16 #[.val (.int p0), .val (.int p1), .val (.int p2), .val (.int p3), .val (.int p4), .val (.ref b2), .unset, .unset, .unset, .unset, .unset] [(.int (p1.toInt8.toInt32)), (.int (1 : Int32)), (.ref b2)])) t → Steps p.tables e below (s₁.setTop (entryFrame m #[(.int p0), (.int p1), (.int p2), (.int p3), (.int p4)] maxLocals)) t := fun t kt => go3 t (by
      refine st4 _ ?_
      show Steps p.tables e below (T4.setTop (mkF m 11 #[.val (.int p0), .val (.int p1), .val (.int p2), .val (.int p3), .val (.int p4), .val (.ref b2), .unset, .unset, .unset, .unset, .unset] [])) _
      refine XS.aload X4.here hx rfl (hb hby at_11) rfl rfl ?_
      show Steps p.tables e below (T4.setTop (mkF m 13 #[.val (.int p0), .val (.int p1), .val (.int p2), .val (.int p3), .val (.int p4), .val (.ref b2), .unset, .unset, .unset, .unset, .unset] [(.ref b2)])) _
      refine XS.iconst X4.here hx rfl (hb hby at_13) ?_
      show Steps p.tables e below (T4.setTop (mkF m 14 #[.val (.int p0), .val (.int p1), .val (.int p2), .val (.int p3), .val (.int p4), .val (.ref b2), .unset, .unset, .unset, .unset, .unset] [(.int (1 : Int32)), (.ref b2)])) _
      refine XS.iloadN X4.here hx rfl (hb hby at_14) rfl ?_
      show Steps p.tables e below (T4.setTop (mkF m 15 #[.val (.int p0), .val (.int p1), .val (.int p2), .val (.int p3), .val (.int p4), .val (.ref b2), .unset, .unset, .unset, .unset, .unset] [(.int p1), (.int (1 : Int32)), (.ref b2)])) _
      refine XS.i2b X4.here hx rfl (hb hby at_15) rfl ?_
      show Steps p.tables e below (T4.setTop (mkF m 16 #[.val (.int p0), .val (.int p1), .val (.int p2), .val (.int p3), .val (.int p4), .val (.ref b2), .unset, .unset, .unset, .unset, .unset] [(.int (p1.toInt8.toInt32)), (.int (1 : Int32)), (.ref b2)])) _
      exact kt)
  obtain ⟨c6, Ar6, q6⟩ := id V4
  obtain ⟨T6, h6, X6, e6, W6, st6⟩ := stB X4 hx hZW e4 Ar6 (j := (1 : Int32)) (own_inb q6 (n := 4) rfl (by decide) (by decide)) (g := (mkF m 16 #[.val (.int p0), .val (.int p1), .val (.int p2), .val (.int p3), .val (.int p4), .val (.ref b2), .unset, .unset, .unset, .unset, .unset] [(.int (p1.toInt8.toInt32)), (.int (1 : Int32)), (.ref b2)])) rfl rfl (hb hby at_16)
  have V6 : own_AV Z h6 b2 .byte [(.int (nar .byte (p0.toInt8.toInt32))), (.int (nar .byte (p1.toInt8.toInt32))), (.int (0 : Int32)), (.int (0 : Int32))] := own_AV.set Ar6 q6 W6 (i := 1) (by decide) rfl
  have N6 := Fr.snoc X6 N4 gb2
  have go7 : ∀ t, Steps p.tables e below (T6.setTop (mkF m 22 #[.val (.int p0), .val (.int p1), .val (.int p2), .val (.int p3), .val (.int p4), .val (.ref b2), .unset, .unset, .unset, .unset, .unset] [(.int (p2.toInt8.toInt32)), (.int (2 : Int32)), (.ref b2)])) t → Steps p.tables e below (s₁.setTop (entryFrame m #[(.int p0), (.int p1), (.int p2), (.int p3), (.int p4)] maxLocals)) t := fun t kt => go5 t (by
      refine st6 _ ?_
      show Steps p.tables e below (T6.setTop (mkF m 17 #[.val (.int p0), .val (.int p1), .val (.int p2), .val (.int p3), .val (.int p4), .val (.ref b2), .unset, .unset, .unset, .unset, .unset] [])) _
      refine XS.aload X6.here hx rfl (hb hby at_17) rfl rfl ?_
      show Steps p.tables e below (T6.setTop (mkF m 19 #[.val (.int p0), .val (.int p1), .val (.int p2), .val (.int p3), .val (.int p4), .val (.ref b2), .unset, .unset, .unset, .unset, .unset] [(.ref b2)])) _
      refine XS.iconst X6.here hx rfl (hb hby at_19) ?_
      show Steps p.tables e below (T6.setTop (mkF m 20 #[.val (.int p0), .val (.int p1), .val (.int p2), .val (.int p3), .val (.int p4), .val (.ref b2), .unset, .unset, .unset, .unset, .unset] [(.int (2 : Int32)), (.ref b2)])) _
      refine XS.iloadN X6.here hx rfl (hb hby at_20) rfl ?_
      show Steps p.tables e below (T6.setTop (mkF m 21 #[.val (.int p0), .val (.int p1), .val (.int p2), .val (.int p3), .val (.int p4), .val (.ref b2), .unset, .unset, .unset, .unset, .unset] [(.int p2), (.int (2 : Int32)), (.ref b2)])) _
      refine XS.i2b X6.here hx rfl (hb hby at_21) rfl ?_
      show Steps p.tables e below (T6.setTop (mkF m 22 #[.val (.int p0), .val (.int p1), .val (.int p2), .val (.int p3), .val (.int p4), .val (.ref b2), .unset, .unset, .unset, .unset, .unset] [(.int (p2.toInt8.toInt32)), (.int (2 : Int32)), (.ref b2)])) _
      exact kt)
  obtain ⟨c8, Ar8, q8⟩ := id V6
  obtain ⟨T8, h8, X8, e8, W8, st8⟩ := stB X6 hx hZW e6 Ar8 (j := (2 : Int32)) (own_inb q8 (n := 4) rfl (by decide) (by decide)) (g := (mkF m 22 #[.val (.int p0), .val (.int p1), .val (.int p2), .val (.int p3), .val (.int p4), .val (.ref b2), .unset, .unset, .unset, .unset, .unset] [(.int (p2.toInt8.toInt32)), (.int (2 : Int32)), (.ref b2)])) rfl rfl (hb hby at_22)
  have V8 : own_AV Z h8 b2 .byte [(.int (nar .byte (p0.toInt8.toInt32))), (.int (nar .byte (p1.toInt8.toInt32))), (.int (nar .byte (p2.toInt8.toInt32))), (.int (0 : Int32))] := own_AV.set Ar8 q8 W8 (i := 2) (by decide) rfl
  have N8 := Fr.snoc X8 N6 gb2
  have go9 : ∀ t, Steps p.tables e below (T8.setTop (mkF m 28 #[.val (.int p0), .val (.int p1), .val (.int p2), .val (.int p3), .val (.int p4), .val (.ref b2), .unset, .unset, .unset, .unset, .unset] [(.int (p3.toInt8.toInt32)), (.int (3 : Int32)), (.ref b2)])) t → Steps p.tables e below (s₁.setTop (entryFrame m #[(.int p0), (.int p1), (.int p2), (.int p3), (.int p4)] maxLocals)) t := fun t kt => go7 t (by
      refine st8 _ ?_
      show Steps p.tables e below (T8.setTop (mkF m 23 #[.val (.int p0), .val (.int p1), .val (.int p2), .val (.int p3), .val (.int p4), .val (.ref b2), .unset, .unset, .unset, .unset, .unset] [])) _
      refine XS.aload X8.here hx rfl (hb hby at_23) rfl rfl ?_
      show Steps p.tables e below (T8.setTop (mkF m 25 #[.val (.int p0), .val (.int p1), .val (.int p2), .val (.int p3), .val (.int p4), .val (.ref b2), .unset, .unset, .unset, .unset, .unset] [(.ref b2)])) _
      refine XS.iconst X8.here hx rfl (hb hby at_25) ?_
      show Steps p.tables e below (T8.setTop (mkF m 26 #[.val (.int p0), .val (.int p1), .val (.int p2), .val (.int p3), .val (.int p4), .val (.ref b2), .unset, .unset, .unset, .unset, .unset] [(.int (3 : Int32)), (.ref b2)])) _
      refine XS.iloadN X8.here hx rfl (hb hby at_26) rfl ?_
      show Steps p.tables e below (T8.setTop (mkF m 27 #[.val (.int p0), .val (.int p1), .val (.int p2), .val (.int p3), .val (.int p4), .val (.ref b2), .unset, .unset, .unset, .unset, .unset] [(.int p3), (.int (3 : Int32)), (.ref b2)])) _
      refine XS.i2b X8.here hx rfl (hb hby at_27) rfl ?_
      show Steps p.tables e below (T8.setTop (mkF m 28 #[.val (.int p0), .val (.int p1), .val (.int p2), .val (.int p3), .val (.int p4), .val (.ref b2), .unset, .unset, .unset, .unset, .unset] [(.int (p3.toInt8.toInt32)), (.int (3 : Int32)), (.ref b2)])) _
      exact kt)
  obtain ⟨c10, Ar10, q10⟩ := id V8
  obtain ⟨T10, h10, X10, e10, W10, st10⟩ := stB X8 hx hZW e8 Ar10 (j := (3 : Int32)) (own_inb q10 (n := 4) rfl (by decide) (by decide)) (g := (mkF m 28 #[.val (.int p0), .val (.int p1), .val (.int p2), .val (.int p3), .val (.int p4), .val (.ref b2), .unset, .unset, .unset, .unset, .unset] [(.int (p3.toInt8.toInt32)), (.int (3 : Int32)), (.ref b2)])) rfl rfl (hb hby at_28)
  have V10 : own_AV Z h10 b2 .byte [(.int (nar .byte (p0.toInt8.toInt32))), (.int (nar .byte (p1.toInt8.toInt32))), (.int (nar .byte (p2.toInt8.toInt32))), (.int (nar .byte (p3.toInt8.toInt32)))] := own_AV.set Ar10 q10 W10 (i := 3) (by decide) rfl
  have N10 := Fr.snoc X10 N8 gb2
  have go11 : ∀ t, Steps p.tables e below (T10.setTop (mkF m 38 #[.val (.int p0), .val (.int p1), .val (.int p2), .val (.int p3), .val (.int p4), .val (.ref b2), .val (.int ((p4 &&& (2147483647 : Int32)) % (3 : Int32))), .unset, .unset, .unset, .unset] [])) t → Steps p.tables e below (s₁.setTop (entryFrame m #[(.int p0), (.int p1), (.int p2), (.int p3), (.int p4)] maxLocals)) t := fun t kt => go9 t (by
      refine st10 _ ?_
      show Steps p.tables e below (T10.setTop (mkF m 29 #[.val (.int p0), .val (.int p1), .val (.int p2), .val (.int p3), .val (.int p4), .val (.ref b2), .unset, .unset, .unset, .unset, .unset] [])) _
      refine XS.iload X10.here hx rfl (hb hby at_29) rfl ?_
      show Steps p.tables e below (T10.setTop (mkF m 31 #[.val (.int p0), .val (.int p1), .val (.int p2), .val (.int p3), .val (.int p4), .val (.ref b2), .unset, .unset, .unset, .unset, .unset] [(.int p4)])) _
      refine X10.ldcInt hx hownW (mvT hZW (hw _ (List.mem_of_getElem? (i := 1) rfl))) (g := (mkF m 31 #[.val (.int p0), .val (.int p1), .val (.int p2), .val (.int p3), .val (.int p4), .val (.ref b2), .unset, .unset, .unset, .unset, .unset] [(.int p4)])) rfl (hb hby at_31) _ ?_
      show Steps p.tables e below (T10.setTop (mkF m 33 #[.val (.int p0), .val (.int p1), .val (.int p2), .val (.int p3), .val (.int p4), .val (.ref b2), .unset, .unset, .unset, .unset, .unset] [(.int (2147483647 : Int32)), (.int p4)])) _
      refine XS.iand X10.here hx rfl (hb hby at_33) rfl ?_
      show Steps p.tables e below (T10.setTop (mkF m 34 #[.val (.int p0), .val (.int p1), .val (.int p2), .val (.int p3), .val (.int p4), .val (.ref b2), .unset, .unset, .unset, .unset, .unset] [(.int (p4 &&& (2147483647 : Int32)))])) _
      refine XS.iconst X10.here hx rfl (hb hby at_34) ?_
      show Steps p.tables e below (T10.setTop (mkF m 35 #[.val (.int p0), .val (.int p1), .val (.int p2), .val (.int p3), .val (.int p4), .val (.ref b2), .unset, .unset, .unset, .unset, .unset] [(.int (3 : Int32)), (.int (p4 &&& (2147483647 : Int32)))])) _
      refine iremM X10 hx rfl (hb hby at_35) rfl (by decide) ?_
      show Steps p.tables e below (T10.setTop (mkF m 36 #[.val (.int p0), .val (.int p1), .val (.int p2), .val (.int p3), .val (.int p4), .val (.ref b2), .unset, .unset, .unset, .unset, .unset] [(.int ((p4 &&& (2147483647 : Int32)) % (3 : Int32)))])) _
      refine XS.istore X10.here hx rfl (hb hby at_36) rfl (l' := #[.val (.int p0), .val (.int p1), .val (.int p2), .val (.int p3), .val (.int p4), .val (.ref b2), .val (.int ((p4 &&& (2147483647 : Int32)) % (3 : Int32))), .unset, .unset, .unset, .unset]) rfl ?_
      show Steps p.tables e below (T10.setTop (mkF m 38 #[.val (.int p0), .val (.int p1), .val (.int p2), .val (.int p3), .val (.int p4), .val (.ref b2), .val (.int ((p4 &&& (2147483647 : Int32)) % (3 : Int32))), .unset, .unset, .unset, .unset] [])) _
      exact kt)
  rcases own_idx3 p4 with h3 | h3 | h3
  · rw [h3] at go11
    have hc40_12 : (0 : Int32) = (0 : Int32) := (by decide)
    have go13 : ∀ t, Steps p.tables e below (T10.setTop (mkF m 97 #[.val (.int p0), .val (.int p1), .val (.int p2), .val (.int p3), .val (.int p4), .val (.ref b2), .val (.int (0 : Int32)), .val (.int (p0 &&& (255 : Int32))), .val (.int (p1 &&& (255 : Int32))), .unset, .unset] [])) t → Steps p.tables e below (s₁.setTop (entryFrame m #[(.int p0), (.int p1), (.int p2), (.int p3), (.int p4)] maxLocals)) t := fun t kt => go11 t (by
        refine XS.iload X10.here hx rfl (hb hby at_38) rfl ?_
        show Steps p.tables e below (T10.setTop (mkF m 40 #[.val (.int p0), .val (.int p1), .val (.int p2), .val (.int p3), .val (.int p4), .val (.ref b2), .val (.int (0 : Int32)), .unset, .unset, .unset, .unset] [(.int (0 : Int32))])) _
        refine XS.ifNo X10.here hx rfl (hb hby at_40) rfl ((if0 _ _).trans (teq hc40_12).2) ?_
        show Steps p.tables e below (T10.setTop (mkF m 43 #[.val (.int p0), .val (.int p1), .val (.int p2), .val (.int p3), .val (.int p4), .val (.ref b2), .val (.int (0 : Int32)), .unset, .unset, .unset, .unset] [])) _
        refine XS.iloadN X10.here hx rfl (hb hby at_43) rfl ?_
        show Steps p.tables e below (T10.setTop (mkF m 44 #[.val (.int p0), .val (.int p1), .val (.int p2), .val (.int p3), .val (.int p4), .val (.ref b2), .val (.int (0 : Int32)), .unset, .unset, .unset, .unset] [(.int p0)])) _
        refine XS.sipush X10.here hx rfl (hb hby at_44) ?_
        show Steps p.tables e below (T10.setTop (mkF m 47 #[.val (.int p0), .val (.int p1), .val (.int p2), .val (.int p3), .val (.int p4), .val (.ref b2), .val (.int (0 : Int32)), .unset, .unset, .unset, .unset] [(.int (255 : Int32)), (.int p0)])) _
        refine XS.iand X10.here hx rfl (hb hby at_47) rfl ?_
        show Steps p.tables e below (T10.setTop (mkF m 48 #[.val (.int p0), .val (.int p1), .val (.int p2), .val (.int p3), .val (.int p4), .val (.ref b2), .val (.int (0 : Int32)), .unset, .unset, .unset, .unset] [(.int (p0 &&& (255 : Int32)))])) _
        refine XS.istore X10.here hx rfl (hb hby at_48) rfl (l' := #[.val (.int p0), .val (.int p1), .val (.int p2), .val (.int p3), .val (.int p4), .val (.ref b2), .val (.int (0 : Int32)), .val (.int (p0 &&& (255 : Int32))), .unset, .unset, .unset]) rfl ?_
        show Steps p.tables e below (T10.setTop (mkF m 50 #[.val (.int p0), .val (.int p1), .val (.int p2), .val (.int p3), .val (.int p4), .val (.ref b2), .val (.int (0 : Int32)), .val (.int (p0 &&& (255 : Int32))), .unset, .unset, .unset] [])) _
        refine XS.iloadN X10.here hx rfl (hb hby at_50) rfl ?_
        show Steps p.tables e below (T10.setTop (mkF m 51 #[.val (.int p0), .val (.int p1), .val (.int p2), .val (.int p3), .val (.int p4), .val (.ref b2), .val (.int (0 : Int32)), .val (.int (p0 &&& (255 : Int32))), .unset, .unset, .unset] [(.int p1)])) _
        refine XS.sipush X10.here hx rfl (hb hby at_51) ?_
        show Steps p.tables e below (T10.setTop (mkF m 54 #[.val (.int p0), .val (.int p1), .val (.int p2), .val (.int p3), .val (.int p4), .val (.ref b2), .val (.int (0 : Int32)), .val (.int (p0 &&& (255 : Int32))), .unset, .unset, .unset] [(.int (255 : Int32)), (.int p1)])) _
        refine XS.iand X10.here hx rfl (hb hby at_54) rfl ?_
        show Steps p.tables e below (T10.setTop (mkF m 55 #[.val (.int p0), .val (.int p1), .val (.int p2), .val (.int p3), .val (.int p4), .val (.ref b2), .val (.int (0 : Int32)), .val (.int (p0 &&& (255 : Int32))), .unset, .unset, .unset] [(.int (p1 &&& (255 : Int32)))])) _
        refine XS.istore X10.here hx rfl (hb hby at_55) rfl (l' := #[.val (.int p0), .val (.int p1), .val (.int p2), .val (.int p3), .val (.int p4), .val (.ref b2), .val (.int (0 : Int32)), .val (.int (p0 &&& (255 : Int32))), .val (.int (p1 &&& (255 : Int32))), .unset, .unset]) rfl ?_
        show Steps p.tables e below (T10.setTop (mkF m 57 #[.val (.int p0), .val (.int p1), .val (.int p2), .val (.int p3), .val (.int p4), .val (.ref b2), .val (.int (0 : Int32)), .val (.int (p0 &&& (255 : Int32))), .val (.int (p1 &&& (255 : Int32))), .unset, .unset] [])) _
        refine XS.goto X10.here hx rfl (pc0 := 57) (pc' := 97) rfl (hb hby at_57) (by decide) (by decide) ?_
        show Steps p.tables e below (T10.setTop (mkF m 97 #[.val (.int p0), .val (.int p1), .val (.int p2), .val (.int p3), .val (.int p4), .val (.ref b2), .val (.int (0 : Int32)), .val (.int (p0 &&& (255 : Int32))), .val (.int (p1 &&& (255 : Int32))), .unset, .unset] [])) _
        exact kt)
    have zs15 := (Nat.le_trans (Nat.le_trans (Nat.le_trans (Nat.le_trans (Nat.le_trans Z0 E2.1) (Keep.of_wr W4).1) (Keep.of_wr W6).1) (Keep.of_wr W8).1) (Keep.of_wr W10).1)
    obtain ⟨T14, h14, X14, e14, E14, A14, D14, -, st14⟩ := newO X10 hx hZW hownW (hw _ (List.mem_of_getElem? (i := 2) rfl)) (hw _ (List.mem_of_getElem? (i := 3) rfl)) (hw _ (List.mem_of_getElem? (i := 4) rfl)) e10 (g := (mkF m 97 #[.val (.int p0), .val (.int p1), .val (.int p2), .val (.int p3), .val (.int p4), .val (.ref b2), .val (.int (0 : Int32)), .val (.int (p0 &&& (255 : Int32))), .val (.int (p1 &&& (255 : Int32))), .unset, .unset] [])) rfl (hb hby at_97) (by decide) (by decide)
    obtain ⟨b14, g14⟩ : ∃ z, z = h10.size := ⟨_, rfl⟩
    rw [← g14] at A14 D14 st14
    have ks14 : h0.size ≤ h10.size := Nat.le_trans (Nat.le_trans (Nat.le_trans (Nat.le_trans (Nat.le_trans (ks2) E2.1) (Keep.of_wr W4).1) (Keep.of_wr W6).1) (Keep.of_wr W8).1) (Keep.of_wr W10).1
    have sz14 : h0.size ≤ b14 := Nat.le_trans ks14 (Nat.le_of_eq g14.symm)
    have ne_b2_b14 : b2 ≠ b14 := Nat.ne_of_lt (Nat.lt_of_lt_of_le V10.lt (Nat.le_of_eq g14.symm))
    have gb14 : n0 ≤ b14 := Nat.le_trans zs15 (Nat.le_of_eq g14.symm)
    have F14_bytes : Fld Z h14 b14 "com/example/classweave/classweave/classfile/ClassInput" "bytes" "[B" .null := D14 (Or.inr (hw _ (List.mem_of_getElem? (i := 22) rfl))) (ty := (.array .byte)) (by decide)
    have F14_position : Fld Z h14 b14 "com/example/classweave/classweave/classfile/ClassInput" "position" "I" (.int (0 : Int32)) := D14 (Or.inl (hw _ (List.mem_of_getElem? (i := 24) rfl))) (ty := .int) (by decide)
    have F14_end : Fld Z h14 b14 "com/example/classweave/classweave/classfile/ClassInput" "end" "I" (.int (0 : Int32)) := D14 (Or.inr (hw _ (List.mem_of_getElem? (i := 26) rfl))) (ty := .int) (by decide)
    have F14_extent : Fld Z h14 b14 "com/example/classweave/classweave/classfile/ClassInput" "extent" "Ljava/lang/String;" .null := D14 (Or.inr (hw _ (List.mem_of_getElem? (i := 28) rfl))) (ty := (.object "java/lang/String")) (by decide)
    have go16 : ∀ t, Steps p.tables e below (T14.setTop (mkF m 103 #[.val (.int p0), .val (.int p1), .val (.int p2), .val (.int p3), .val (.int p4), .val (.ref b2), .val (.int (0 : Int32)), .val (.int (p0 &&& (255 : Int32))), .val (.int (p1 &&& (255 : Int32))), .unset, .unset] [(.ref b2), (.ref b14), (.ref b14)])) t → Steps p.tables e below (s₁.setTop (entryFrame m #[(.int p0), (.int p1), (.int p2), (.int p3), (.int p4)] maxLocals)) t := fun t kt => go13 t (by
        refine st14 _ ?_
        show Steps p.tables e below (T14.setTop (mkF m 100 #[.val (.int p0), .val (.int p1), .val (.int p2), .val (.int p3), .val (.int p4), .val (.ref b2), .val (.int (0 : Int32)), .val (.int (p0 &&& (255 : Int32))), .val (.int (p1 &&& (255 : Int32))), .unset, .unset] [(.ref b14)])) _
        refine XS.dup X14.here hx rfl (hb hby at_100) rfl rfl ?_
        show Steps p.tables e below (T14.setTop (mkF m 101 #[.val (.int p0), .val (.int p1), .val (.int p2), .val (.int p3), .val (.int p4), .val (.ref b2), .val (.int (0 : Int32)), .val (.int (p0 &&& (255 : Int32))), .val (.int (p1 &&& (255 : Int32))), .unset, .unset] [(.ref b14), (.ref b14)])) _
        refine XS.aload X14.here hx rfl (hb hby at_101) rfl rfl ?_
        show Steps p.tables e below (T14.setTop (mkF m 103 #[.val (.int p0), .val (.int p1), .val (.int p2), .val (.int p3), .val (.int p4), .val (.ref b2), .val (.int (0 : Int32)), .val (.int (p0 &&& (255 : Int32))), .val (.int (p1 &&& (255 : Int32))), .unset, .unset] [(.ref b2), (.ref b14), (.ref b14)])) _
        exact kt)
    have hk18 := (Nat.le_trans (Nat.le_trans (Nat.le_trans (Nat.le_trans (Nat.le_trans (Nat.le_trans HK E2.1) (Keep.of_wr W4).1) (Keep.of_wr W6).1) (Keep.of_wr W8).1) (Keep.of_wr W10).1) E14.1)
    have q19 := (V10.ext E14)
    obtain ⟨_, _, ⟨T17, L17, k17, n17⟩, -, X17, HSq17, HGq17, ⟨Lc17, hQ17, l17, y17, z17⟩, st17⟩ := X14.specialBackS hx (y := (⟨"com/example/classweave/classweave/classfile/ClassInput", "<init>", "([B)V"⟩ : MethodName)) rfl hownW (mvT hZW (hw _ (List.mem_of_getElem? (i := 5) rfl))) (mvT hZW (hw _ (List.mem_of_getElem? (i := 6) rfl))) (mvT hZW (hw _ (List.mem_of_getElem? (i := 7) rfl))) (by decide) (backOfS (W := 1) (rm1 l Z a0 hw [] b14 b2 (nar .byte (p0.toInt8.toInt32)) (nar .byte (p1.toInt8.toInt32)) (nar .byte (p2.toInt8.toInt32)) (nar .byte (p3.toInt8.toInt32)) h14 n0 A14 F14_bytes F14_position F14_end F14_extent gb14 q19) hZW (hw _ (List.mem_of_getElem? (i := 7) rfl)) (hw _ (List.mem_of_getElem? (i := 4) rfl)) (by decide) (by decide)) (g := (mkF m 103 #[.val (.int p0), .val (.int p1), .val (.int p2), .val (.int p3), .val (.int p4), .val (.ref b2), .val (.int (0 : Int32)), .val (.int (p0 &&& (255 : Int32))), .val (.int (p1 &&& (255 : Int32))), .unset, .unset] [(.ref b2), (.ref b14), (.ref b14)])) rfl (by rw [hml]; rfl) (Steps.refl _) (a := b14) (argsL := [(.ref b2)]) (rest := [(.ref b14)]) (lenOf pd_0 rfl) rfl (by show 2 * 0 + _ ≤ _; exact Nat.le_of_eq rfl) (hb hby at_103) (fun _ _ => ⟨rfl, e14, (by decide : 2 + 2 ≤ _), (by decide : 8 + 36 ≤ _)⟩)
    dsimp only [Pt.U, Pt.locs, Pt.cells, Pt.slots] at X17 l17 y17 z17 st17 hQ17 HSq17 HGq17
    subst l17 y17 z17
    obtain ⟨X17, HS17, hZ17, hown17⟩ := rebS HS (by rw [e14]; exact hk18) X17 HSq17 HGq17 hZW hownW
    obtain ⟨rfl, N17q, K17, g17a, g17b, g17c⟩ := hQ17
    have N17 := Fr.app N10 N17q
    have go20 : ∀ t, Steps p.tables e below (T17.setTop (mkF m 112 #[.val (.int p0), .val (.int p1), .val (.int p2), .val (.int p3), .val (.int p4), .val (.ref b2), .val (.int (0 : Int32)), .val (.int (p0 &&& (255 : Int32))), .val (.int (p1 &&& (255 : Int32))), .val (.ref b14), .unset] [(.int (0 : Int32)), (.ref b14)])) t → Steps p.tables e below (s₁.setTop (entryFrame m #[(.int p0), (.int p1), (.int p2), (.int p3), (.int p4)] maxLocals)) t := fun t kt => go16 t (by
        refine st17.trans ?_
        show Steps p.tables e below (T17.setTop (mkF m 106 #[.val (.int p0), .val (.int p1), .val (.int p2), .val (.int p3), .val (.int p4), .val (.ref b2), .val (.int (0 : Int32)), .val (.int (p0 &&& (255 : Int32))), .val (.int (p1 &&& (255 : Int32))), .unset, .unset] [(.ref b14)])) _
        refine XS.astore X17.here hx rfl (hb hby at_106) rfl rfl (l' := #[.val (.int p0), .val (.int p1), .val (.int p2), .val (.int p3), .val (.int p4), .val (.ref b2), .val (.int (0 : Int32)), .val (.int (p0 &&& (255 : Int32))), .val (.int (p1 &&& (255 : Int32))), .val (.ref b14), .unset]) rfl ?_
        show Steps p.tables e below (T17.setTop (mkF m 108 #[.val (.int p0), .val (.int p1), .val (.int p2), .val (.int p3), .val (.int p4), .val (.ref b2), .val (.int (0 : Int32)), .val (.int (p0 &&& (255 : Int32))), .val (.int (p1 &&& (255 : Int32))), .val (.ref b14), .unset] [])) _
        refine XS.aload X17.here hx rfl (hb hby at_108) rfl rfl ?_
        show Steps p.tables e below (T17.setTop (mkF m 110 #[.val (.int p0), .val (.int p1), .val (.int p2), .val (.int p3), .val (.int p4), .val (.ref b2), .val (.int (0 : Int32)), .val (.int (p0 &&& (255 : Int32))), .val (.int (p1 &&& (255 : Int32))), .val (.ref b14), .unset] [(.ref b14)])) _
        refine XS.iload X17.here hx rfl (hb hby at_110) rfl ?_
        show Steps p.tables e below (T17.setTop (mkF m 112 #[.val (.int p0), .val (.int p1), .val (.int p2), .val (.int p3), .val (.int p4), .val (.ref b2), .val (.int (0 : Int32)), .val (.int (p0 &&& (255 : Int32))), .val (.int (p1 &&& (255 : Int32))), .val (.ref b14), .unset] [(.int (0 : Int32)), (.ref b14)])) _
        exact kt)
    have q22 := (q19.keep K17 (ninS ne_b2_b14 nin0))
    obtain ⟨cq21, kq21, q21a, q21b, q21c⟩ := isOf hZ17 rfl g17a
    obtain ⟨_, _, ⟨T21, L21, k21, n21⟩, -, X21, ⟨Lc21, hQ21, l21, y21, z21⟩, st21⟩ := X17.virtualBack hx (y := (⟨"com/example/classweave/classweave/classfile/ClassInput", "u2At", "(I)I"⟩ : MethodName)) (z := (⟨"com/example/classweave/classweave/classfile/ClassInput", "u2At", "(I)I"⟩ : MethodName)) hown17 (mvT hZ17 (hw _ (List.mem_of_getElem? (i := 29) rfl))) (mvT hZ17 (hw _ (List.mem_of_getElem? (i := 30) rfl))) (notFace_of_selects (args := #[]) (mvT hZ17 (hw _ (List.mem_of_getElem? (i := 32) rfl)))) (mvT hZ17 (hw _ (List.mem_of_getElem? (i := 32) rfl))) (mvT hZ17 (hw _ (List.mem_of_getElem? (i := 31) rfl))) (by decide) (backOf (W := 0) (rm4 l Z a0 hw [] b14 (0 : Int32) b2 (nar .byte (p0.toInt8.toInt32)) (nar .byte (p1.toInt8.toInt32)) [(.int (nar .byte (p0.toInt8.toInt32))), (.int (nar .byte (p1.toInt8.toInt32))), (.int (nar .byte (p2.toInt8.toInt32))), (.int (nar .byte (p3.toInt8.toInt32)))] 0 T17.heap n0 g17b q22 (by decide) (by decide) (by decide) (by decide) rfl rfl) hZ17 (hw _ (List.mem_of_getElem? (i := 33) rfl)) (hw _ (List.mem_of_getElem? (i := 4) rfl)) (by decide) (by decide)) q21a q21c (g := (mkF m 112 #[.val (.int p0), .val (.int p1), .val (.int p2), .val (.int p3), .val (.int p4), .val (.ref b2), .val (.int (0 : Int32)), .val (.int (p0 &&& (255 : Int32))), .val (.int (p1 &&& (255 : Int32))), .val (.ref b14), .unset] [(.int (0 : Int32)), (.ref b14)])) rfl (by rw [hml]; rfl) (Steps.refl _) (argsL := [(.int (0 : Int32))]) (rest := []) (lenOf pd_3 rfl) rfl (by show 2 * 0 + _ ≤ _; exact Nat.le_of_eq rfl) (hb hby at_112) (fun _ _ => ⟨rfl, rfl, (by decide : 4 + 0 ≤ _), (by decide : 44 + 0 ≤ _)⟩)
    dsimp only [Pt.U, Pt.locs, Pt.cells, Pt.slots] at X21 l21 y21 z21 st21 hQ21
    subst l21 y21 z21
    obtain ⟨rfl, N21q, e21⟩ := hQ21
    have N21 := Fr.app N17 N21q
    have hc128_23 : (own_u2 (nar .byte (p0.toInt8.toInt32)) (nar .byte (p1.toInt8.toInt32))) = (((p0 &&& (255 : Int32)) * (256 : Int32)) + (p1 &&& (255 : Int32))) := own_eq _ _
    have hc133_24 : ¬ ((own_u2 (nar .byte (p0.toInt8.toInt32)) (nar .byte (p1.toInt8.toInt32))) < (0 : Int32)) := own_ge _ _
    have hc140_25 : ¬ ((65535 : Int32) < (own_u2 (nar .byte (p0.toInt8.toInt32)) (nar .byte (p1.toInt8.toInt32)))) := own_le _ _
    have go26 : ∀ t, Steps p.tables e below (T21.setTop (mkF m 145 #[.val (.int p0), .val (.int p1), .val (.int p2), .val (.int p3), .val (.int p4), .val (.ref b2), .val (.int (0 : Int32)), .val (.int (p0 &&& (255 : Int32))), .val (.int (p1 &&& (255 : Int32))), .val (.ref b14), .val (.int (own_u2 (nar .byte (p0.toInt8.toInt32)) (nar .byte (p1.toInt8.toInt32))))] [(.ref b14)])) t → Steps p.tables e below (s₁.setTop (entryFrame m #[(.int p0), (.int p1), (.int p2), (.int p3), (.int p4)] maxLocals)) t := fun t kt => go20 t (by
        refine st21.trans ?_
        show Steps p.tables e below (T21.setTop (mkF m 115 #[.val (.int p0), .val (.int p1), .val (.int p2), .val (.int p3), .val (.int p4), .val (.ref b2), .val (.int (0 : Int32)), .val (.int (p0 &&& (255 : Int32))), .val (.int (p1 &&& (255 : Int32))), .val (.ref b14), .unset] [(.int (own_u2 (nar .byte (p0.toInt8.toInt32)) (nar .byte (p1.toInt8.toInt32))))])) _
        refine XS.istore X21.here hx rfl (hb hby at_115) rfl (l' := #[.val (.int p0), .val (.int p1), .val (.int p2), .val (.int p3), .val (.int p4), .val (.ref b2), .val (.int (0 : Int32)), .val (.int (p0 &&& (255 : Int32))), .val (.int (p1 &&& (255 : Int32))), .val (.ref b14), .val (.int (own_u2 (nar .byte (p0.toInt8.toInt32)) (nar .byte (p1.toInt8.toInt32))))]) rfl ?_
        show Steps p.tables e below (T21.setTop (mkF m 117 #[.val (.int p0), .val (.int p1), .val (.int p2), .val (.int p3), .val (.int p4), .val (.ref b2), .val (.int (0 : Int32)), .val (.int (p0 &&& (255 : Int32))), .val (.int (p1 &&& (255 : Int32))), .val (.ref b14), .val (.int (own_u2 (nar .byte (p0.toInt8.toInt32)) (nar .byte (p1.toInt8.toInt32))))] [])) _
        refine XS.iload X21.here hx rfl (hb hby at_117) rfl ?_
        show Steps p.tables e below (T21.setTop (mkF m 119 #[.val (.int p0), .val (.int p1), .val (.int p2), .val (.int p3), .val (.int p4), .val (.ref b2), .val (.int (0 : Int32)), .val (.int (p0 &&& (255 : Int32))), .val (.int (p1 &&& (255 : Int32))), .val (.ref b14), .val (.int (own_u2 (nar .byte (p0.toInt8.toInt32)) (nar .byte (p1.toInt8.toInt32))))] [(.int (own_u2 (nar .byte (p0.toInt8.toInt32)) (nar .byte (p1.toInt8.toInt32))))])) _
        refine XS.iload X21.here hx rfl (hb hby at_119) rfl ?_
        show Steps p.tables e below (T21.setTop (mkF m 121 #[.val (.int p0), .val (.int p1), .val (.int p2), .val (.int p3), .val (.int p4), .val (.ref b2), .val (.int (0 : Int32)), .val (.int (p0 &&& (255 : Int32))), .val (.int (p1 &&& (255 : Int32))), .val (.ref b14), .val (.int (own_u2 (nar .byte (p0.toInt8.toInt32)) (nar .byte (p1.toInt8.toInt32))))] [(.int (p0 &&& (255 : Int32))), (.int (own_u2 (nar .byte (p0.toInt8.toInt32)) (nar .byte (p1.toInt8.toInt32))))])) _
        refine XS.sipush X21.here hx rfl (hb hby at_121) ?_
        show Steps p.tables e below (T21.setTop (mkF m 124 #[.val (.int p0), .val (.int p1), .val (.int p2), .val (.int p3), .val (.int p4), .val (.ref b2), .val (.int (0 : Int32)), .val (.int (p0 &&& (255 : Int32))), .val (.int (p1 &&& (255 : Int32))), .val (.ref b14), .val (.int (own_u2 (nar .byte (p0.toInt8.toInt32)) (nar .byte (p1.toInt8.toInt32))))] [(.int (256 : Int32)), (.int (p0 &&& (255 : Int32))), (.int (own_u2 (nar .byte (p0.toInt8.toInt32)) (nar .byte (p1.toInt8.toInt32))))])) _
        refine XS.imul X21.here hx rfl (hb hby at_124) rfl ?_
        show Steps p.tables e below (T21.setTop (mkF m 125 #[.val (.int p0), .val (.int p1), .val (.int p2), .val (.int p3), .val (.int p4), .val (.ref b2), .val (.int (0 : Int32)), .val (.int (p0 &&& (255 : Int32))), .val (.int (p1 &&& (255 : Int32))), .val (.ref b14), .val (.int (own_u2 (nar .byte (p0.toInt8.toInt32)) (nar .byte (p1.toInt8.toInt32))))] [(.int ((p0 &&& (255 : Int32)) * (256 : Int32))), (.int (own_u2 (nar .byte (p0.toInt8.toInt32)) (nar .byte (p1.toInt8.toInt32))))])) _
        refine XS.iload X21.here hx rfl (hb hby at_125) rfl ?_
        show Steps p.tables e below (T21.setTop (mkF m 127 #[.val (.int p0), .val (.int p1), .val (.int p2), .val (.int p3), .val (.int p4), .val (.ref b2), .val (.int (0 : Int32)), .val (.int (p0 &&& (255 : Int32))), .val (.int (p1 &&& (255 : Int32))), .val (.ref b14), .val (.int (own_u2 (nar .byte (p0.toInt8.toInt32)) (nar .byte (p1.toInt8.toInt32))))] [(.int (p1 &&& (255 : Int32))), (.int ((p0 &&& (255 : Int32)) * (256 : Int32))), (.int (own_u2 (nar .byte (p0.toInt8.toInt32)) (nar .byte (p1.toInt8.toInt32))))])) _
        refine XS.iadd X21.here hx rfl (hb hby at_127) rfl ?_
        show Steps p.tables e below (T21.setTop (mkF m 128 #[.val (.int p0), .val (.int p1), .val (.int p2), .val (.int p3), .val (.int p4), .val (.ref b2), .val (.int (0 : Int32)), .val (.int (p0 &&& (255 : Int32))), .val (.int (p1 &&& (255 : Int32))), .val (.ref b14), .val (.int (own_u2 (nar .byte (p0.toInt8.toInt32)) (nar .byte (p1.toInt8.toInt32))))] [(.int (((p0 &&& (255 : Int32)) * (256 : Int32)) + (p1 &&& (255 : Int32)))), (.int (own_u2 (nar .byte (p0.toInt8.toInt32)) (nar .byte (p1.toInt8.toInt32))))])) _
        refine XS.icmpNo X21.here hx rfl (hb hby at_128) rfl (teq hc128_23).2 ?_
        show Steps p.tables e below (T21.setTop (mkF m 131 #[.val (.int p0), .val (.int p1), .val (.int p2), .val (.int p3), .val (.int p4), .val (.ref b2), .val (.int (0 : Int32)), .val (.int (p0 &&& (255 : Int32))), .val (.int (p1 &&& (255 : Int32))), .val (.ref b14), .val (.int (own_u2 (nar .byte (p0.toInt8.toInt32)) (nar .byte (p1.toInt8.toInt32))))] [])) _
        refine XS.iload X21.here hx rfl (hb hby at_131) rfl ?_
        show Steps p.tables e below (T21.setTop (mkF m 133 #[.val (.int p0), .val (.int p1), .val (.int p2), .val (.int p3), .val (.int p4), .val (.ref b2), .val (.int (0 : Int32)), .val (.int (p0 &&& (255 : Int32))), .val (.int (p1 &&& (255 : Int32))), .val (.ref b14), .val (.int (own_u2 (nar .byte (p0.toInt8.toInt32)) (nar .byte (p1.toInt8.toInt32))))] [(.int (own_u2 (nar .byte (p0.toInt8.toInt32)) (nar .byte (p1.toInt8.toInt32))))])) _
        refine XS.ifNo X21.here hx rfl (hb hby at_133) rfl ((if0 _ _).trans (flt hc133_24).1) ?_
        show Steps p.tables e below (T21.setTop (mkF m 136 #[.val (.int p0), .val (.int p1), .val (.int p2), .val (.int p3), .val (.int p4), .val (.ref b2), .val (.int (0 : Int32)), .val (.int (p0 &&& (255 : Int32))), .val (.int (p1 &&& (255 : Int32))), .val (.ref b14), .val (.int (own_u2 (nar .byte (p0.toInt8.toInt32)) (nar .byte (p1.toInt8.toInt32))))] [])) _
        refine XS.iload X21.here hx rfl (hb hby at_136) rfl ?_
        show Steps p.tables e below (T21.setTop (mkF m 138 #[.val (.int p0), .val (.int p1), .val (.int p2), .val (.int p3), .val (.int p4), .val (.ref b2), .val (.int (0 : Int32)), .val (.int (p0 &&& (255 : Int32))), .val (.int (p1 &&& (255 : Int32))), .val (.ref b14), .val (.int (own_u2 (nar .byte (p0.toInt8.toInt32)) (nar .byte (p1.toInt8.toInt32))))] [(.int (own_u2 (nar .byte (p0.toInt8.toInt32)) (nar .byte (p1.toInt8.toInt32))))])) _
        refine X21.ldcInt hx hown17 (mvT hZ17 (hw _ (List.mem_of_getElem? (i := 34) rfl))) (g := (mkF m 138 #[.val (.int p0), .val (.int p1), .val (.int p2), .val (.int p3), .val (.int p4), .val (.ref b2), .val (.int (0 : Int32)), .val (.int (p0 &&& (255 : Int32))), .val (.int (p1 &&& (255 : Int32))), .val (.ref b14), .val (.int (own_u2 (nar .byte (p0.toInt8.toInt32)) (nar .byte (p1.toInt8.toInt32))))] [(.int (own_u2 (nar .byte (p0.toInt8.toInt32)) (nar .byte (p1.toInt8.toInt32))))])) rfl (hb hby at_138) _ ?_
        show Steps p.tables e below (T21.setTop (mkF m 140 #[.val (.int p0), .val (.int p1), .val (.int p2), .val (.int p3), .val (.int p4), .val (.ref b2), .val (.int (0 : Int32)), .val (.int (p0 &&& (255 : Int32))), .val (.int (p1 &&& (255 : Int32))), .val (.ref b14), .val (.int (own_u2 (nar .byte (p0.toInt8.toInt32)) (nar .byte (p1.toInt8.toInt32))))] [(.int (65535 : Int32)), (.int (own_u2 (nar .byte (p0.toInt8.toInt32)) (nar .byte (p1.toInt8.toInt32))))])) _
        refine XS.icmpNo X21.here hx rfl (hb hby at_140) rfl (flt hc140_25).2.2.1 ?_
        show Steps p.tables e below (T21.setTop (mkF m 143 #[.val (.int p0), .val (.int p1), .val (.int p2), .val (.int p3), .val (.int p4), .val (.ref b2), .val (.int (0 : Int32)), .val (.int (p0 &&& (255 : Int32))), .val (.int (p1 &&& (255 : Int32))), .val (.ref b14), .val (.int (own_u2 (nar .byte (p0.toInt8.toInt32)) (nar .byte (p1.toInt8.toInt32))))] [])) _
        refine XS.aload X21.here hx rfl (hb hby at_143) rfl rfl ?_
        show Steps p.tables e below (T21.setTop (mkF m 145 #[.val (.int p0), .val (.int p1), .val (.int p2), .val (.int p3), .val (.int p4), .val (.ref b2), .val (.int (0 : Int32)), .val (.int (p0 &&& (255 : Int32))), .val (.int (p1 &&& (255 : Int32))), .val (.ref b14), .val (.int (own_u2 (nar .byte (p0.toInt8.toInt32)) (nar .byte (p1.toInt8.toInt32))))] [(.ref b14)])) _
        exact kt)
    obtain ⟨cq27, kq27, q27a, q27b, q27c⟩ := isOf hZ17 e21 g17a
    obtain ⟨_, _, ⟨T27, L27, k27, n27⟩, -, X27, ⟨Lc27, hQ27, l27, y27, z27⟩, st27⟩ := X21.virtualBack hx (y := (⟨"com/example/classweave/classweave/classfile/ClassInput", "position", "()I"⟩ : MethodName)) (z := (⟨"com/example/classweave/classweave/classfile/ClassInput", "position", "()I"⟩ : MethodName)) hown17 (mvT hZ17 (hw _ (List.mem_of_getElem? (i := 35) rfl))) (mvT hZ17 (hw _ (List.mem_of_getElem? (i := 36) rfl))) (notFace_of_selects (args := #[]) (mvT hZ17 (hw _ (List.mem_of_getElem? (i := 38) rfl)))) (mvT hZ17 (hw _ (List.mem_of_getElem? (i := 38) rfl))) (mvT hZ17 (hw _ (List.mem_of_getElem? (i := 37) rfl))) (by decide) (backOf (W := 0) (rm5 l Z a0 hw [] b14 (0 : Int32) T17.heap n0 g17c) hZ17 (hw _ (List.mem_of_getElem? (i := 39) rfl)) (hw _ (List.mem_of_getElem? (i := 4) rfl)) (by decide) (by decide)) q27a q27c (g := (mkF m 145 #[.val (.int p0), .val (.int p1), .val (.int p2), .val (.int p3), .val (.int p4), .val (.ref b2), .val (.int (0 : Int32)), .val (.int (p0 &&& (255 : Int32))), .val (.int (p1 &&& (255 : Int32))), .val (.ref b14), .val (.int (own_u2 (nar .byte (p0.toInt8.toInt32)) (nar .byte (p1.toInt8.toInt32))))] [(.ref b14)])) rfl (by rw [hml]; rfl) (Steps.refl _) (argsL := []) (rest := []) (lenOf pd_4 rfl) rfl (by show 2 * 0 + _ ≤ _; exact Nat.le_of_eq rfl) (hb hby at_145) (fun _ _ => ⟨rfl, e21, (by decide : 4 + 0 ≤ _), (by decide : 44 + 0 ≤ _)⟩)
    dsimp only [Pt.U, Pt.locs, Pt.cells, Pt.slots] at X27 l27 y27 z27 st27 hQ27
    subst l27 y27 z27
    obtain ⟨rfl, N27q, e27⟩ := hQ27
    have N27 := Fr.app N21 N27q
    have hc148_28 : (0 : Int32) = (0 : Int32) := (by decide)
    have go29 : ∀ t, Steps p.tables e below (T27.setTop (mkF m 156 #[.val (.int p0), .val (.int p1), .val (.int p2), .val (.int p3), .val (.int p4), .val (.ref b2), .val (.int (0 : Int32)), .val (.int (p0 &&& (255 : Int32))), .val (.int (p1 &&& (255 : Int32))), .val (.ref b14), .val (.int (own_u2 (nar .byte (p0.toInt8.toInt32)) (nar .byte (p1.toInt8.toInt32))))] [(.int (1 : Int32))])) t → Steps p.tables e below (s₁.setTop (entryFrame m #[(.int p0), (.int p1), (.int p2), (.int p3), (.int p4)] maxLocals)) t := fun t kt => go26 t (by
        refine st27.trans ?_
        show Steps p.tables e below (T27.setTop (mkF m 148 #[.val (.int p0), .val (.int p1), .val (.int p2), .val (.int p3), .val (.int p4), .val (.ref b2), .val (.int (0 : Int32)), .val (.int (p0 &&& (255 : Int32))), .val (.int (p1 &&& (255 : Int32))), .val (.ref b14), .val (.int (own_u2 (nar .byte (p0.toInt8.toInt32)) (nar .byte (p1.toInt8.toInt32))))] [(.int (0 : Int32))])) _
        refine XS.ifNo X27.here hx rfl (hb hby at_148) rfl ((if0 _ _).trans (teq hc148_28).2) ?_
        show Steps p.tables e below (T27.setTop (mkF m 151 #[.val (.int p0), .val (.int p1), .val (.int p2), .val (.int p3), .val (.int p4), .val (.ref b2), .val (.int (0 : Int32)), .val (.int (p0 &&& (255 : Int32))), .val (.int (p1 &&& (255 : Int32))), .val (.ref b14), .val (.int (own_u2 (nar .byte (p0.toInt8.toInt32)) (nar .byte (p1.toInt8.toInt32))))] [])) _
        refine XS.iconst X27.here hx rfl (hb hby at_151) ?_
        show Steps p.tables e below (T27.setTop (mkF m 152 #[.val (.int p0), .val (.int p1), .val (.int p2), .val (.int p3), .val (.int p4), .val (.ref b2), .val (.int (0 : Int32)), .val (.int (p0 &&& (255 : Int32))), .val (.int (p1 &&& (255 : Int32))), .val (.ref b14), .val (.int (own_u2 (nar .byte (p0.toInt8.toInt32)) (nar .byte (p1.toInt8.toInt32))))] [(.int (1 : Int32))])) _
        refine XS.goto X27.here hx rfl (pc0 := 152) (pc' := 156) rfl (hb hby at_152) (by decide) (by decide) ?_
        show Steps p.tables e below (T27.setTop (mkF m 156 #[.val (.int p0), .val (.int p1), .val (.int p2), .val (.int p3), .val (.int p4), .val (.ref b2), .val (.int (0 : Int32)), .val (.int (p0 &&& (255 : Int32))), .val (.int (p1 &&& (255 : Int32))), .val (.ref b14), .val (.int (own_u2 (nar .byte (p0.toInt8.toInt32)) (nar .byte (p1.toInt8.toInt32))))] [(.int (1 : Int32))])) _
        exact kt)
    obtain ⟨fs, hr, hrun, hended, hEW⟩ := X27.leaveW HS17 (by rw [e27]; exact (Nat.le_refl _)) (v := some (.int (1 : Int32))) (fun h => by rw [Bd.returns] at h; cases h)
    refine ⟨_, _, go29 _ (retN X27 hx (t := .boolean) Bd.returns (by simp) (hb hby at_156) hr), hrun, hended, _, _, rfl, ?_, hEW.1, hEW.2.1, hEW.2.2.1, hEW.2.2.2.mono (by decide) (by decide)⟩
    exact ⟨rfl, N27⟩
  · rw [h3] at go11
    have hc40_30 : ¬ ((1 : Int32) = (0 : Int32)) := (by decide)
    have hc63_31 : (1 : Int32) = (1 : Int32) := (by decide)
    have go32 : ∀ t, Steps p.tables e below (T10.setTop (mkF m 97 #[.val (.int p0), .val (.int p1), .val (.int p2), .val (.int p3), .val (.int p4), .val (.ref b2), .val (.int (1 : Int32)), .val (.int (p1 &&& (255 : Int32))), .val (.int (p2 &&& (255 : Int32))), .unset, .unset] [])) t → Steps p.tables e below (s₁.setTop (entryFrame m #[(.int p0), (.int p1), (.int p2), (.int p3), (.int p4)] maxLocals)) t := fun t kt => go11 t (by
        refine XS.iload X10.here hx rfl (hb hby at_38) rfl ?_
        show Steps p.tables e below (T10.setTop (mkF m 40 #[.val (.int p0), .val (.int p1), .val (.int p2), .val (.int p3), .val (.int p4), .val (.ref b2), .val (.int (1 : Int32)), .unset, .unset, .unset, .unset] [(.int (1 : Int32))])) _
        refine XS.ifYes X10.here hx rfl (pc0 := 40) (pc' := 60) rfl (hb hby at_40) rfl ((if0 _ _).trans (feq hc40_30).2) (by decide) (by decide) ?_
        show Steps p.tables e below (T10.setTop (mkF m 60 #[.val (.int p0), .val (.int p1), .val (.int p2), .val (.int p3), .val (.int p4), .val (.ref b2), .val (.int (1 : Int32)), .unset, .unset, .unset, .unset] [])) _
        refine XS.iload X10.here hx rfl (hb hby at_60) rfl ?_
        show Steps p.tables e below (T10.setTop (mkF m 62 #[.val (.int p0), .val (.int p1), .val (.int p2), .val (.int p3), .val (.int p4), .val (.ref b2), .val (.int (1 : Int32)), .unset, .unset, .unset, .unset] [(.int (1 : Int32))])) _
        refine XS.iconst X10.here hx rfl (hb hby at_62) ?_
        show Steps p.tables e below (T10.setTop (mkF m 63 #[.val (.int p0), .val (.int p1), .val (.int p2), .val (.int p3), .val (.int p4), .val (.ref b2), .val (.int (1 : Int32)), .unset, .unset, .unset, .unset] [(.int (1 : Int32)), (.int (1 : Int32))])) _
        refine XS.icmpNo X10.here hx rfl (hb hby at_63) rfl (teq hc63_31).2 ?_
        show Steps p.tables e below (T10.setTop (mkF m 66 #[.val (.int p0), .val (.int p1), .val (.int p2), .val (.int p3), .val (.int p4), .val (.ref b2), .val (.int (1 : Int32)), .unset, .unset, .unset, .unset] [])) _
        refine XS.iloadN X10.here hx rfl (hb hby at_66) rfl ?_
        show Steps p.tables e below (T10.setTop (mkF m 67 #[.val (.int p0), .val (.int p1), .val (.int p2), .val (.int p3), .val (.int p4), .val (.ref b2), .val (.int (1 : Int32)), .unset, .unset, .unset, .unset] [(.int p1)])) _
        refine XS.sipush X10.here hx rfl (hb hby at_67) ?_
        show Steps p.tables e below (T10.setTop (mkF m 70 #[.val (.int p0), .val (.int p1), .val (.int p2), .val (.int p3), .val (.int p4), .val (.ref b2), .val (.int (1 : Int32)), .unset, .unset, .unset, .unset] [(.int (255 : Int32)), (.int p1)])) _
        refine XS.iand X10.here hx rfl (hb hby at_70) rfl ?_
        show Steps p.tables e below (T10.setTop (mkF m 71 #[.val (.int p0), .val (.int p1), .val (.int p2), .val (.int p3), .val (.int p4), .val (.ref b2), .val (.int (1 : Int32)), .unset, .unset, .unset, .unset] [(.int (p1 &&& (255 : Int32)))])) _
        refine XS.istore X10.here hx rfl (hb hby at_71) rfl (l' := #[.val (.int p0), .val (.int p1), .val (.int p2), .val (.int p3), .val (.int p4), .val (.ref b2), .val (.int (1 : Int32)), .val (.int (p1 &&& (255 : Int32))), .unset, .unset, .unset]) rfl ?_
        show Steps p.tables e below (T10.setTop (mkF m 73 #[.val (.int p0), .val (.int p1), .val (.int p2), .val (.int p3), .val (.int p4), .val (.ref b2), .val (.int (1 : Int32)), .val (.int (p1 &&& (255 : Int32))), .unset, .unset, .unset] [])) _
        refine XS.iloadN X10.here hx rfl (hb hby at_73) rfl ?_
        show Steps p.tables e below (T10.setTop (mkF m 74 #[.val (.int p0), .val (.int p1), .val (.int p2), .val (.int p3), .val (.int p4), .val (.ref b2), .val (.int (1 : Int32)), .val (.int (p1 &&& (255 : Int32))), .unset, .unset, .unset] [(.int p2)])) _
        refine XS.sipush X10.here hx rfl (hb hby at_74) ?_
        show Steps p.tables e below (T10.setTop (mkF m 77 #[.val (.int p0), .val (.int p1), .val (.int p2), .val (.int p3), .val (.int p4), .val (.ref b2), .val (.int (1 : Int32)), .val (.int (p1 &&& (255 : Int32))), .unset, .unset, .unset] [(.int (255 : Int32)), (.int p2)])) _
        refine XS.iand X10.here hx rfl (hb hby at_77) rfl ?_
        show Steps p.tables e below (T10.setTop (mkF m 78 #[.val (.int p0), .val (.int p1), .val (.int p2), .val (.int p3), .val (.int p4), .val (.ref b2), .val (.int (1 : Int32)), .val (.int (p1 &&& (255 : Int32))), .unset, .unset, .unset] [(.int (p2 &&& (255 : Int32)))])) _
        refine XS.istore X10.here hx rfl (hb hby at_78) rfl (l' := #[.val (.int p0), .val (.int p1), .val (.int p2), .val (.int p3), .val (.int p4), .val (.ref b2), .val (.int (1 : Int32)), .val (.int (p1 &&& (255 : Int32))), .val (.int (p2 &&& (255 : Int32))), .unset, .unset]) rfl ?_
        show Steps p.tables e below (T10.setTop (mkF m 80 #[.val (.int p0), .val (.int p1), .val (.int p2), .val (.int p3), .val (.int p4), .val (.ref b2), .val (.int (1 : Int32)), .val (.int (p1 &&& (255 : Int32))), .val (.int (p2 &&& (255 : Int32))), .unset, .unset] [])) _
        refine XS.goto X10.here hx rfl (pc0 := 80) (pc' := 97) rfl (hb hby at_80) (by decide) (by decide) ?_
        show Steps p.tables e below (T10.setTop (mkF m 97 #[.val (.int p0), .val (.int p1), .val (.int p2), .val (.int p3), .val (.int p4), .val (.ref b2), .val (.int (1 : Int32)), .val (.int (p1 &&& (255 : Int32))), .val (.int (p2 &&& (255 : Int32))), .unset, .unset] [])) _
        exact kt)
    have zs34 := (Nat.le_trans (Nat.le_trans (Nat.le_trans (Nat.le_trans (Nat.le_trans Z0 E2.1) (Keep.of_wr W4).1) (Keep.of_wr W6).1) (Keep.of_wr W8).1) (Keep.of_wr W10).1)
    obtain ⟨T33, h33, X33, e33, E33, A33, D33, -, st33⟩ := newO X10 hx hZW hownW (hw _ (List.mem_of_getElem? (i := 2) rfl)) (hw _ (List.mem_of_getElem? (i := 3) rfl)) (hw _ (List.mem_of_getElem? (i := 4) rfl)) e10 (g := (mkF m 97 #[.val (.int p0), .val (.int p1), .val (.int p2), .val (.int p3), .val (.int p4), .val (.ref b2), .val (.int (1 : Int32)), .val (.int (p1 &&& (255 : Int32))), .val (.int (p2 &&& (255 : Int32))), .unset, .unset] [])) rfl (hb hby at_97) (by decide) (by decide)
    obtain ⟨b33, g33⟩ : ∃ z, z = h10.size := ⟨_, rfl⟩
    rw [← g33] at A33 D33 st33
    have ks33 : h0.size ≤ h10.size := Nat.le_trans (Nat.le_trans (Nat.le_trans (Nat.le_trans (Nat.le_trans (ks2) E2.1) (Keep.of_wr W4).1) (Keep.of_wr W6).1) (Keep.of_wr W8).1) (Keep.of_wr W10).1
    have sz33 : h0.size ≤ b33 := Nat.le_trans ks33 (Nat.le_of_eq g33.symm)
    have ne_b2_b33 : b2 ≠ b33 := Nat.ne_of_lt (Nat.lt_of_lt_of_le V10.lt (Nat.le_of_eq g33.symm))
    have gb33 : n0 ≤ b33 := Nat.le_trans zs34 (Nat.le_of_eq g33.symm)
    have F33_bytes : Fld Z h33 b33 "com/example/classweave/classweave/classfile/ClassInput" "bytes" "[B" .null := D33 (Or.inr (hw _ (List.mem_of_getElem? (i := 22) rfl))) (ty := (.array .byte)) (by decide)
    have F33_position : Fld Z h33 b33 "com/example/classweave/classweave/classfile/ClassInput" "position" "I" (.int (0 : Int32)) := D33 (Or.inl (hw _ (List.mem_of_getElem? (i := 24) rfl))) (ty := .int) (by decide)
    have F33_end : Fld Z h33 b33 "com/example/classweave/classweave/classfile/ClassInput" "end" "I" (.int (0 : Int32)) := D33 (Or.inr (hw _ (List.mem_of_getElem? (i := 26) rfl))) (ty := .int) (by decide)
    have F33_extent : Fld Z h33 b33 "com/example/classweave/classweave/classfile/ClassInput" "extent" "Ljava/lang/String;" .null := D33 (Or.inr (hw _ (List.mem_of_getElem? (i := 28) rfl))) (ty := (.object "java/lang/String")) (by decide)
    have go35 : ∀ t, Steps p.tables e below (T33.setTop (mkF m 103 #[.val (.int p0), .val (.int p1), .val (.int p2), .val (.int p3), .val (.int p4), .val (.ref b2), .val (.int (1 : Int32)), .val (.int (p1 &&& (255 : Int32))), .val (.int (p2 &&& (255 : Int32))), .unset, .unset] [(.ref b2), (.ref b33), (.ref b33)])) t → Steps p.tables e below (s₁.setTop (entryFrame m #[(.int p0), (.int p1), (.int p2), (.int p3), (.int p4)] maxLocals)) t := fun t kt => go32 t (by
        refine st33 _ ?_
        show Steps p.tables e below (T33.setTop (mkF m 100 #[.val (.int p0), .val (.int p1), .val (.int p2), .val (.int p3), .val (.int p4), .val (.ref b2), .val (.int (1 : Int32)), .val (.int (p1 &&& (255 : Int32))), .val (.int (p2 &&& (255 : Int32))), .unset, .unset] [(.ref b33)])) _
        refine XS.dup X33.here hx rfl (hb hby at_100) rfl rfl ?_
        show Steps p.tables e below (T33.setTop (mkF m 101 #[.val (.int p0), .val (.int p1), .val (.int p2), .val (.int p3), .val (.int p4), .val (.ref b2), .val (.int (1 : Int32)), .val (.int (p1 &&& (255 : Int32))), .val (.int (p2 &&& (255 : Int32))), .unset, .unset] [(.ref b33), (.ref b33)])) _
        refine XS.aload X33.here hx rfl (hb hby at_101) rfl rfl ?_
        show Steps p.tables e below (T33.setTop (mkF m 103 #[.val (.int p0), .val (.int p1), .val (.int p2), .val (.int p3), .val (.int p4), .val (.ref b2), .val (.int (1 : Int32)), .val (.int (p1 &&& (255 : Int32))), .val (.int (p2 &&& (255 : Int32))), .unset, .unset] [(.ref b2), (.ref b33), (.ref b33)])) _
        exact kt)
    have hk37 := (Nat.le_trans (Nat.le_trans (Nat.le_trans (Nat.le_trans (Nat.le_trans (Nat.le_trans HK E2.1) (Keep.of_wr W4).1) (Keep.of_wr W6).1) (Keep.of_wr W8).1) (Keep.of_wr W10).1) E33.1)
    have q38 := (V10.ext E33)
    obtain ⟨_, _, ⟨T36, L36, k36, n36⟩, -, X36, HSq36, HGq36, ⟨Lc36, hQ36, l36, y36, z36⟩, st36⟩ := X33.specialBackS hx (y := (⟨"com/example/classweave/classweave/classfile/ClassInput", "<init>", "([B)V"⟩ : MethodName)) rfl hownW (mvT hZW (hw _ (List.mem_of_getElem? (i := 5) rfl))) (mvT hZW (hw _ (List.mem_of_getElem? (i := 6) rfl))) (mvT hZW (hw _ (List.mem_of_getElem? (i := 7) rfl))) (by decide) (backOfS (W := 1) (rm1 l Z a0 hw [] b33 b2 (nar .byte (p0.toInt8.toInt32)) (nar .byte (p1.toInt8.toInt32)) (nar .byte (p2.toInt8.toInt32)) (nar .byte (p3.toInt8.toInt32)) h33 n0 A33 F33_bytes F33_position F33_end F33_extent gb33 q38) hZW (hw _ (List.mem_of_getElem? (i := 7) rfl)) (hw _ (List.mem_of_getElem? (i := 4) rfl)) (by decide) (by decide)) (g := (mkF m 103 #[.val (.int p0), .val (.int p1), .val (.int p2), .val (.int p3), .val (.int p4), .val (.ref b2), .val (.int (1 : Int32)), .val (.int (p1 &&& (255 : Int32))), .val (.int (p2 &&& (255 : Int32))), .unset, .unset] [(.ref b2), (.ref b33), (.ref b33)])) rfl (by rw [hml]; rfl) (Steps.refl _) (a := b33) (argsL := [(.ref b2)]) (rest := [(.ref b33)]) (lenOf pd_0 rfl) rfl (by show 2 * 0 + _ ≤ _; exact Nat.le_of_eq rfl) (hb hby at_103) (fun _ _ => ⟨rfl, e33, (by decide : 2 + 2 ≤ _), (by decide : 8 + 36 ≤ _)⟩)
    dsimp only [Pt.U, Pt.locs, Pt.cells, Pt.slots] at X36 l36 y36 z36 st36 hQ36 HSq36 HGq36
    subst l36 y36 z36
    obtain ⟨X36, HS36, hZ36, hown36⟩ := rebS HS (by rw [e33]; exact hk37) X36 HSq36 HGq36 hZW hownW
    obtain ⟨rfl, N36q, K36, g36a, g36b, g36c⟩ := hQ36
    have N36 := Fr.app N10 N36q
    have go39 : ∀ t, Steps p.tables e below (T36.setTop (mkF m 112 #[.val (.int p0), .val (.int p1), .val (.int p2), .val (.int p3), .val (.int p4), .val (.ref b2), .val (.int (1 : Int32)), .val (.int (p1 &&& (255 : Int32))), .val (.int (p2 &&& (255 : Int32))), .val (.ref b33), .unset] [(.int (1 : Int32)), (.ref b33)])) t → Steps p.tables e below (s₁.setTop (entryFrame m #[(.int p0), (.int p1), (.int p2), (.int p3), (.int p4)] maxLocals)) t := fun t kt => go35 t (by
        refine st36.trans ?_
        show Steps p.tables e below (T36.setTop (mkF m 106 #[.val (.int p0), .val (.int p1), .val (.int p2), .val (.int p3), .val (.int p4), .val (.ref b2), .val (.int (1 : Int32)), .val (.int (p1 &&& (255 : Int32))), .val (.int (p2 &&& (255 : Int32))), .unset, .unset] [(.ref b33)])) _
        refine XS.astore X36.here hx rfl (hb hby at_106) rfl rfl (l' := #[.val (.int p0), .val (.int p1), .val (.int p2), .val (.int p3), .val (.int p4), .val (.ref b2), .val (.int (1 : Int32)), .val (.int (p1 &&& (255 : Int32))), .val (.int (p2 &&& (255 : Int32))), .val (.ref b33), .unset]) rfl ?_
        show Steps p.tables e below (T36.setTop (mkF m 108 #[.val (.int p0), .val (.int p1), .val (.int p2), .val (.int p3), .val (.int p4), .val (.ref b2), .val (.int (1 : Int32)), .val (.int (p1 &&& (255 : Int32))), .val (.int (p2 &&& (255 : Int32))), .val (.ref b33), .unset] [])) _
        refine XS.aload X36.here hx rfl (hb hby at_108) rfl rfl ?_
        show Steps p.tables e below (T36.setTop (mkF m 110 #[.val (.int p0), .val (.int p1), .val (.int p2), .val (.int p3), .val (.int p4), .val (.ref b2), .val (.int (1 : Int32)), .val (.int (p1 &&& (255 : Int32))), .val (.int (p2 &&& (255 : Int32))), .val (.ref b33), .unset] [(.ref b33)])) _
        refine XS.iload X36.here hx rfl (hb hby at_110) rfl ?_
        show Steps p.tables e below (T36.setTop (mkF m 112 #[.val (.int p0), .val (.int p1), .val (.int p2), .val (.int p3), .val (.int p4), .val (.ref b2), .val (.int (1 : Int32)), .val (.int (p1 &&& (255 : Int32))), .val (.int (p2 &&& (255 : Int32))), .val (.ref b33), .unset] [(.int (1 : Int32)), (.ref b33)])) _
        exact kt)
    have q41 := (q38.keep K36 (ninS ne_b2_b33 nin0))
    obtain ⟨cq40, kq40, q40a, q40b, q40c⟩ := isOf hZ36 rfl g36a
    obtain ⟨_, _, ⟨T40, L40, k40, n40⟩, -, X40, ⟨Lc40, hQ40, l40, y40, z40⟩, st40⟩ := X36.virtualBack hx (y := (⟨"com/example/classweave/classweave/classfile/ClassInput", "u2At", "(I)I"⟩ : MethodName)) (z := (⟨"com/example/classweave/classweave/classfile/ClassInput", "u2At", "(I)I"⟩ : MethodName)) hown36 (mvT hZ36 (hw _ (List.mem_of_getElem? (i := 29) rfl))) (mvT hZ36 (hw _ (List.mem_of_getElem? (i := 30) rfl))) (notFace_of_selects (args := #[]) (mvT hZ36 (hw _ (List.mem_of_getElem? (i := 32) rfl)))) (mvT hZ36 (hw _ (List.mem_of_getElem? (i := 32) rfl))) (mvT hZ36 (hw _ (List.mem_of_getElem? (i := 31) rfl))) (by decide) (backOf (W := 0) (rm4 l Z a0 hw [] b33 (1 : Int32) b2 (nar .byte (p1.toInt8.toInt32)) (nar .byte (p2.toInt8.toInt32)) [(.int (nar .byte (p0.toInt8.toInt32))), (.int (nar .byte (p1.toInt8.toInt32))), (.int (nar .byte (p2.toInt8.toInt32))), (.int (nar .byte (p3.toInt8.toInt32)))] 1 T36.heap n0 g36b q41 (by decide) (by decide) (by decide) (by decide) rfl rfl) hZ36 (hw _ (List.mem_of_getElem? (i := 33) rfl)) (hw _ (List.mem_of_getElem? (i := 4) rfl)) (by decide) (by decide)) q40a q40c (g := (mkF m 112 #[.val (.int p0), .val (.int p1), .val (.int p2), .val (.int p3), .val (.int p4), .val (.ref b2), .val (.int (1 : Int32)), .val (.int (p1 &&& (255 : Int32))), .val (.int (p2 &&& (255 : Int32))), .val (.ref b33), .unset] [(.int (1 : Int32)), (.ref b33)])) rfl (by rw [hml]; rfl) (Steps.refl _) (argsL := [(.int (1 : Int32))]) (rest := []) (lenOf pd_3 rfl) rfl (by show 2 * 0 + _ ≤ _; exact Nat.le_of_eq rfl) (hb hby at_112) (fun _ _ => ⟨rfl, rfl, (by decide : 4 + 0 ≤ _), (by decide : 44 + 0 ≤ _)⟩)
    dsimp only [Pt.U, Pt.locs, Pt.cells, Pt.slots] at X40 l40 y40 z40 st40 hQ40
    subst l40 y40 z40
    obtain ⟨rfl, N40q, e40⟩ := hQ40
    have N40 := Fr.app N36 N40q
    have hc128_42 : (own_u2 (nar .byte (p1.toInt8.toInt32)) (nar .byte (p2.toInt8.toInt32))) = (((p1 &&& (255 : Int32)) * (256 : Int32)) + (p2 &&& (255 : Int32))) := own_eq _ _
    have hc133_43 : ¬ ((own_u2 (nar .byte (p1.toInt8.toInt32)) (nar .byte (p2.toInt8.toInt32))) < (0 : Int32)) := own_ge _ _
    have hc140_44 : ¬ ((65535 : Int32) < (own_u2 (nar .byte (p1.toInt8.toInt32)) (nar .byte (p2.toInt8.toInt32)))) := own_le _ _
    have go45 : ∀ t, Steps p.tables e below (T40.setTop (mkF m 145 #[.val (.int p0), .val (.int p1), .val (.int p2), .val (.int p3), .val (.int p4), .val (.ref b2), .val (.int (1 : Int32)), .val (.int (p1 &&& (255 : Int32))), .val (.int (p2 &&& (255 : Int32))), .val (.ref b33), .val (.int (own_u2 (nar .byte (p1.toInt8.toInt32)) (nar .byte (p2.toInt8.toInt32))))] [(.ref b33)])) t → Steps p.tables e below (s₁.setTop (entryFrame m #[(.int p0), (.int p1), (.int p2), (.int p3), (.int p4)] maxLocals)) t := fun t kt => go39 t (by
        refine st40.trans ?_
        show Steps p.tables e below (T40.setTop (mkF m 115 #[.val (.int p0), .val (.int p1), .val (.int p2), .val (.int p3), .val (.int p4), .val (.ref b2), .val (.int (1 : Int32)), .val (.int (p1 &&& (255 : Int32))), .val (.int (p2 &&& (255 : Int32))), .val (.ref b33), .unset] [(.int (own_u2 (nar .byte (p1.toInt8.toInt32)) (nar .byte (p2.toInt8.toInt32))))])) _
        refine XS.istore X40.here hx rfl (hb hby at_115) rfl (l' := #[.val (.int p0), .val (.int p1), .val (.int p2), .val (.int p3), .val (.int p4), .val (.ref b2), .val (.int (1 : Int32)), .val (.int (p1 &&& (255 : Int32))), .val (.int (p2 &&& (255 : Int32))), .val (.ref b33), .val (.int (own_u2 (nar .byte (p1.toInt8.toInt32)) (nar .byte (p2.toInt8.toInt32))))]) rfl ?_
        show Steps p.tables e below (T40.setTop (mkF m 117 #[.val (.int p0), .val (.int p1), .val (.int p2), .val (.int p3), .val (.int p4), .val (.ref b2), .val (.int (1 : Int32)), .val (.int (p1 &&& (255 : Int32))), .val (.int (p2 &&& (255 : Int32))), .val (.ref b33), .val (.int (own_u2 (nar .byte (p1.toInt8.toInt32)) (nar .byte (p2.toInt8.toInt32))))] [])) _
        refine XS.iload X40.here hx rfl (hb hby at_117) rfl ?_
        show Steps p.tables e below (T40.setTop (mkF m 119 #[.val (.int p0), .val (.int p1), .val (.int p2), .val (.int p3), .val (.int p4), .val (.ref b2), .val (.int (1 : Int32)), .val (.int (p1 &&& (255 : Int32))), .val (.int (p2 &&& (255 : Int32))), .val (.ref b33), .val (.int (own_u2 (nar .byte (p1.toInt8.toInt32)) (nar .byte (p2.toInt8.toInt32))))] [(.int (own_u2 (nar .byte (p1.toInt8.toInt32)) (nar .byte (p2.toInt8.toInt32))))])) _
        refine XS.iload X40.here hx rfl (hb hby at_119) rfl ?_
        show Steps p.tables e below (T40.setTop (mkF m 121 #[.val (.int p0), .val (.int p1), .val (.int p2), .val (.int p3), .val (.int p4), .val (.ref b2), .val (.int (1 : Int32)), .val (.int (p1 &&& (255 : Int32))), .val (.int (p2 &&& (255 : Int32))), .val (.ref b33), .val (.int (own_u2 (nar .byte (p1.toInt8.toInt32)) (nar .byte (p2.toInt8.toInt32))))] [(.int (p1 &&& (255 : Int32))), (.int (own_u2 (nar .byte (p1.toInt8.toInt32)) (nar .byte (p2.toInt8.toInt32))))])) _
        refine XS.sipush X40.here hx rfl (hb hby at_121) ?_
        show Steps p.tables e below (T40.setTop (mkF m 124 #[.val (.int p0), .val (.int p1), .val (.int p2), .val (.int p3), .val (.int p4), .val (.ref b2), .val (.int (1 : Int32)), .val (.int (p1 &&& (255 : Int32))), .val (.int (p2 &&& (255 : Int32))), .val (.ref b33), .val (.int (own_u2 (nar .byte (p1.toInt8.toInt32)) (nar .byte (p2.toInt8.toInt32))))] [(.int (256 : Int32)), (.int (p1 &&& (255 : Int32))), (.int (own_u2 (nar .byte (p1.toInt8.toInt32)) (nar .byte (p2.toInt8.toInt32))))])) _
        refine XS.imul X40.here hx rfl (hb hby at_124) rfl ?_
        show Steps p.tables e below (T40.setTop (mkF m 125 #[.val (.int p0), .val (.int p1), .val (.int p2), .val (.int p3), .val (.int p4), .val (.ref b2), .val (.int (1 : Int32)), .val (.int (p1 &&& (255 : Int32))), .val (.int (p2 &&& (255 : Int32))), .val (.ref b33), .val (.int (own_u2 (nar .byte (p1.toInt8.toInt32)) (nar .byte (p2.toInt8.toInt32))))] [(.int ((p1 &&& (255 : Int32)) * (256 : Int32))), (.int (own_u2 (nar .byte (p1.toInt8.toInt32)) (nar .byte (p2.toInt8.toInt32))))])) _
        refine XS.iload X40.here hx rfl (hb hby at_125) rfl ?_
        show Steps p.tables e below (T40.setTop (mkF m 127 #[.val (.int p0), .val (.int p1), .val (.int p2), .val (.int p3), .val (.int p4), .val (.ref b2), .val (.int (1 : Int32)), .val (.int (p1 &&& (255 : Int32))), .val (.int (p2 &&& (255 : Int32))), .val (.ref b33), .val (.int (own_u2 (nar .byte (p1.toInt8.toInt32)) (nar .byte (p2.toInt8.toInt32))))] [(.int (p2 &&& (255 : Int32))), (.int ((p1 &&& (255 : Int32)) * (256 : Int32))), (.int (own_u2 (nar .byte (p1.toInt8.toInt32)) (nar .byte (p2.toInt8.toInt32))))])) _
        refine XS.iadd X40.here hx rfl (hb hby at_127) rfl ?_
        show Steps p.tables e below (T40.setTop (mkF m 128 #[.val (.int p0), .val (.int p1), .val (.int p2), .val (.int p3), .val (.int p4), .val (.ref b2), .val (.int (1 : Int32)), .val (.int (p1 &&& (255 : Int32))), .val (.int (p2 &&& (255 : Int32))), .val (.ref b33), .val (.int (own_u2 (nar .byte (p1.toInt8.toInt32)) (nar .byte (p2.toInt8.toInt32))))] [(.int (((p1 &&& (255 : Int32)) * (256 : Int32)) + (p2 &&& (255 : Int32)))), (.int (own_u2 (nar .byte (p1.toInt8.toInt32)) (nar .byte (p2.toInt8.toInt32))))])) _
        refine XS.icmpNo X40.here hx rfl (hb hby at_128) rfl (teq hc128_42).2 ?_
        show Steps p.tables e below (T40.setTop (mkF m 131 #[.val (.int p0), .val (.int p1), .val (.int p2), .val (.int p3), .val (.int p4), .val (.ref b2), .val (.int (1 : Int32)), .val (.int (p1 &&& (255 : Int32))), .val (.int (p2 &&& (255 : Int32))), .val (.ref b33), .val (.int (own_u2 (nar .byte (p1.toInt8.toInt32)) (nar .byte (p2.toInt8.toInt32))))] [])) _
        refine XS.iload X40.here hx rfl (hb hby at_131) rfl ?_
        show Steps p.tables e below (T40.setTop (mkF m 133 #[.val (.int p0), .val (.int p1), .val (.int p2), .val (.int p3), .val (.int p4), .val (.ref b2), .val (.int (1 : Int32)), .val (.int (p1 &&& (255 : Int32))), .val (.int (p2 &&& (255 : Int32))), .val (.ref b33), .val (.int (own_u2 (nar .byte (p1.toInt8.toInt32)) (nar .byte (p2.toInt8.toInt32))))] [(.int (own_u2 (nar .byte (p1.toInt8.toInt32)) (nar .byte (p2.toInt8.toInt32))))])) _
        refine XS.ifNo X40.here hx rfl (hb hby at_133) rfl ((if0 _ _).trans (flt hc133_43).1) ?_
        show Steps p.tables e below (T40.setTop (mkF m 136 #[.val (.int p0), .val (.int p1), .val (.int p2), .val (.int p3), .val (.int p4), .val (.ref b2), .val (.int (1 : Int32)), .val (.int (p1 &&& (255 : Int32))), .val (.int (p2 &&& (255 : Int32))), .val (.ref b33), .val (.int (own_u2 (nar .byte (p1.toInt8.toInt32)) (nar .byte (p2.toInt8.toInt32))))] [])) _
        refine XS.iload X40.here hx rfl (hb hby at_136) rfl ?_
        show Steps p.tables e below (T40.setTop (mkF m 138 #[.val (.int p0), .val (.int p1), .val (.int p2), .val (.int p3), .val (.int p4), .val (.ref b2), .val (.int (1 : Int32)), .val (.int (p1 &&& (255 : Int32))), .val (.int (p2 &&& (255 : Int32))), .val (.ref b33), .val (.int (own_u2 (nar .byte (p1.toInt8.toInt32)) (nar .byte (p2.toInt8.toInt32))))] [(.int (own_u2 (nar .byte (p1.toInt8.toInt32)) (nar .byte (p2.toInt8.toInt32))))])) _
        refine X40.ldcInt hx hown36 (mvT hZ36 (hw _ (List.mem_of_getElem? (i := 34) rfl))) (g := (mkF m 138 #[.val (.int p0), .val (.int p1), .val (.int p2), .val (.int p3), .val (.int p4), .val (.ref b2), .val (.int (1 : Int32)), .val (.int (p1 &&& (255 : Int32))), .val (.int (p2 &&& (255 : Int32))), .val (.ref b33), .val (.int (own_u2 (nar .byte (p1.toInt8.toInt32)) (nar .byte (p2.toInt8.toInt32))))] [(.int (own_u2 (nar .byte (p1.toInt8.toInt32)) (nar .byte (p2.toInt8.toInt32))))])) rfl (hb hby at_138) _ ?_
        show Steps p.tables e below (T40.setTop (mkF m 140 #[.val (.int p0), .val (.int p1), .val (.int p2), .val (.int p3), .val (.int p4), .val (.ref b2), .val (.int (1 : Int32)), .val (.int (p1 &&& (255 : Int32))), .val (.int (p2 &&& (255 : Int32))), .val (.ref b33), .val (.int (own_u2 (nar .byte (p1.toInt8.toInt32)) (nar .byte (p2.toInt8.toInt32))))] [(.int (65535 : Int32)), (.int (own_u2 (nar .byte (p1.toInt8.toInt32)) (nar .byte (p2.toInt8.toInt32))))])) _
        refine XS.icmpNo X40.here hx rfl (hb hby at_140) rfl (flt hc140_44).2.2.1 ?_
        show Steps p.tables e below (T40.setTop (mkF m 143 #[.val (.int p0), .val (.int p1), .val (.int p2), .val (.int p3), .val (.int p4), .val (.ref b2), .val (.int (1 : Int32)), .val (.int (p1 &&& (255 : Int32))), .val (.int (p2 &&& (255 : Int32))), .val (.ref b33), .val (.int (own_u2 (nar .byte (p1.toInt8.toInt32)) (nar .byte (p2.toInt8.toInt32))))] [])) _
        refine XS.aload X40.here hx rfl (hb hby at_143) rfl rfl ?_
        show Steps p.tables e below (T40.setTop (mkF m 145 #[.val (.int p0), .val (.int p1), .val (.int p2), .val (.int p3), .val (.int p4), .val (.ref b2), .val (.int (1 : Int32)), .val (.int (p1 &&& (255 : Int32))), .val (.int (p2 &&& (255 : Int32))), .val (.ref b33), .val (.int (own_u2 (nar .byte (p1.toInt8.toInt32)) (nar .byte (p2.toInt8.toInt32))))] [(.ref b33)])) _
        exact kt)
    obtain ⟨cq46, kq46, q46a, q46b, q46c⟩ := isOf hZ36 e40 g36a
    obtain ⟨_, _, ⟨T46, L46, k46, n46⟩, -, X46, ⟨Lc46, hQ46, l46, y46, z46⟩, st46⟩ := X40.virtualBack hx (y := (⟨"com/example/classweave/classweave/classfile/ClassInput", "position", "()I"⟩ : MethodName)) (z := (⟨"com/example/classweave/classweave/classfile/ClassInput", "position", "()I"⟩ : MethodName)) hown36 (mvT hZ36 (hw _ (List.mem_of_getElem? (i := 35) rfl))) (mvT hZ36 (hw _ (List.mem_of_getElem? (i := 36) rfl))) (notFace_of_selects (args := #[]) (mvT hZ36 (hw _ (List.mem_of_getElem? (i := 38) rfl)))) (mvT hZ36 (hw _ (List.mem_of_getElem? (i := 38) rfl))) (mvT hZ36 (hw _ (List.mem_of_getElem? (i := 37) rfl))) (by decide) (backOf (W := 0) (rm5 l Z a0 hw [] b33 (0 : Int32) T36.heap n0 g36c) hZ36 (hw _ (List.mem_of_getElem? (i := 39) rfl)) (hw _ (List.mem_of_getElem? (i := 4) rfl)) (by decide) (by decide)) q46a q46c (g := (mkF m 145 #[.val (.int p0), .val (.int p1), .val (.int p2), .val (.int p3), .val (.int p4), .val (.ref b2), .val (.int (1 : Int32)), .val (.int (p1 &&& (255 : Int32))), .val (.int (p2 &&& (255 : Int32))), .val (.ref b33), .val (.int (own_u2 (nar .byte (p1.toInt8.toInt32)) (nar .byte (p2.toInt8.toInt32))))] [(.ref b33)])) rfl (by rw [hml]; rfl) (Steps.refl _) (argsL := []) (rest := []) (lenOf pd_4 rfl) rfl (by show 2 * 0 + _ ≤ _; exact Nat.le_of_eq rfl) (hb hby at_145) (fun _ _ => ⟨rfl, e40, (by decide : 4 + 0 ≤ _), (by decide : 44 + 0 ≤ _)⟩)
    dsimp only [Pt.U, Pt.locs, Pt.cells, Pt.slots] at X46 l46 y46 z46 st46 hQ46
    subst l46 y46 z46
    obtain ⟨rfl, N46q, e46⟩ := hQ46
    have N46 := Fr.app N40 N46q
    have hc148_47 : (0 : Int32) = (0 : Int32) := (by decide)
    have go48 : ∀ t, Steps p.tables e below (T46.setTop (mkF m 156 #[.val (.int p0), .val (.int p1), .val (.int p2), .val (.int p3), .val (.int p4), .val (.ref b2), .val (.int (1 : Int32)), .val (.int (p1 &&& (255 : Int32))), .val (.int (p2 &&& (255 : Int32))), .val (.ref b33), .val (.int (own_u2 (nar .byte (p1.toInt8.toInt32)) (nar .byte (p2.toInt8.toInt32))))] [(.int (1 : Int32))])) t → Steps p.tables e below (s₁.setTop (entryFrame m #[(.int p0), (.int p1), (.int p2), (.int p3), (.int p4)] maxLocals)) t := fun t kt => go45 t (by
        refine st46.trans ?_
        show Steps p.tables e below (T46.setTop (mkF m 148 #[.val (.int p0), .val (.int p1), .val (.int p2), .val (.int p3), .val (.int p4), .val (.ref b2), .val (.int (1 : Int32)), .val (.int (p1 &&& (255 : Int32))), .val (.int (p2 &&& (255 : Int32))), .val (.ref b33), .val (.int (own_u2 (nar .byte (p1.toInt8.toInt32)) (nar .byte (p2.toInt8.toInt32))))] [(.int (0 : Int32))])) _
        refine XS.ifNo X46.here hx rfl (hb hby at_148) rfl ((if0 _ _).trans (teq hc148_47).2) ?_
        show Steps p.tables e below (T46.setTop (mkF m 151 #[.val (.int p0), .val (.int p1), .val (.int p2), .val (.int p3), .val (.int p4), .val (.ref b2), .val (.int (1 : Int32)), .val (.int (p1 &&& (255 : Int32))), .val (.int (p2 &&& (255 : Int32))), .val (.ref b33), .val (.int (own_u2 (nar .byte (p1.toInt8.toInt32)) (nar .byte (p2.toInt8.toInt32))))] [])) _
        refine XS.iconst X46.here hx rfl (hb hby at_151) ?_
        show Steps p.tables e below (T46.setTop (mkF m 152 #[.val (.int p0), .val (.int p1), .val (.int p2), .val (.int p3), .val (.int p4), .val (.ref b2), .val (.int (1 : Int32)), .val (.int (p1 &&& (255 : Int32))), .val (.int (p2 &&& (255 : Int32))), .val (.ref b33), .val (.int (own_u2 (nar .byte (p1.toInt8.toInt32)) (nar .byte (p2.toInt8.toInt32))))] [(.int (1 : Int32))])) _
        refine XS.goto X46.here hx rfl (pc0 := 152) (pc' := 156) rfl (hb hby at_152) (by decide) (by decide) ?_
        show Steps p.tables e below (T46.setTop (mkF m 156 #[.val (.int p0), .val (.int p1), .val (.int p2), .val (.int p3), .val (.int p4), .val (.ref b2), .val (.int (1 : Int32)), .val (.int (p1 &&& (255 : Int32))), .val (.int (p2 &&& (255 : Int32))), .val (.ref b33), .val (.int (own_u2 (nar .byte (p1.toInt8.toInt32)) (nar .byte (p2.toInt8.toInt32))))] [(.int (1 : Int32))])) _
        exact kt)
    obtain ⟨fs, hr, hrun, hended, hEW⟩ := X46.leaveW HS36 (by rw [e46]; exact (Nat.le_refl _)) (v := some (.int (1 : Int32))) (fun h => by rw [Bd.returns] at h; cases h)
    refine ⟨_, _, go48 _ (retN X46 hx (t := .boolean) Bd.returns (by simp) (hb hby at_156) hr), hrun, hended, _, _, rfl, ?_, hEW.1, hEW.2.1, hEW.2.2.1, hEW.2.2.2.mono (by decide) (by decide)⟩
    exact ⟨rfl, N46⟩
  · rw [h3] at go11
    have hc40_49 : ¬ ((2 : Int32) = (0 : Int32)) := (by decide)
    have hc63_50 : ¬ ((2 : Int32) = (1 : Int32)) := (by decide)
    have go51 : ∀ t, Steps p.tables e below (T10.setTop (mkF m 97 #[.val (.int p0), .val (.int p1), .val (.int p2), .val (.int p3), .val (.int p4), .val (.ref b2), .val (.int (2 : Int32)), .val (.int (p2 &&& (255 : Int32))), .val (.int (p3 &&& (255 : Int32))), .unset, .unset] [])) t → Steps p.tables e below (s₁.setTop (entryFrame m #[(.int p0), (.int p1), (.int p2), (.int p3), (.int p4)] maxLocals)) t := fun t kt => go11 t (by
        refine XS.iload X10.here hx rfl (hb hby at_38) rfl ?_
        show Steps p.tables e below (T10.setTop (mkF m 40 #[.val (.int p0), .val (.int p1), .val (.int p2), .val (.int p3), .val (.int p4), .val (.ref b2), .val (.int (2 : Int32)), .unset, .unset, .unset, .unset] [(.int (2 : Int32))])) _
        refine XS.ifYes X10.here hx rfl (pc0 := 40) (pc' := 60) rfl (hb hby at_40) rfl ((if0 _ _).trans (feq hc40_49).2) (by decide) (by decide) ?_
        show Steps p.tables e below (T10.setTop (mkF m 60 #[.val (.int p0), .val (.int p1), .val (.int p2), .val (.int p3), .val (.int p4), .val (.ref b2), .val (.int (2 : Int32)), .unset, .unset, .unset, .unset] [])) _
        refine XS.iload X10.here hx rfl (hb hby at_60) rfl ?_
        show Steps p.tables e below (T10.setTop (mkF m 62 #[.val (.int p0), .val (.int p1), .val (.int p2), .val (.int p3), .val (.int p4), .val (.ref b2), .val (.int (2 : Int32)), .unset, .unset, .unset, .unset] [(.int (2 : Int32))])) _
        refine XS.iconst X10.here hx rfl (hb hby at_62) ?_
        show Steps p.tables e below (T10.setTop (mkF m 63 #[.val (.int p0), .val (.int p1), .val (.int p2), .val (.int p3), .val (.int p4), .val (.ref b2), .val (.int (2 : Int32)), .unset, .unset, .unset, .unset] [(.int (1 : Int32)), (.int (2 : Int32))])) _
        refine XS.icmpYes X10.here hx rfl (pc0 := 63) (pc' := 83) rfl (hb hby at_63) rfl (feq hc63_50).2 (by decide) (by decide) ?_
        show Steps p.tables e below (T10.setTop (mkF m 83 #[.val (.int p0), .val (.int p1), .val (.int p2), .val (.int p3), .val (.int p4), .val (.ref b2), .val (.int (2 : Int32)), .unset, .unset, .unset, .unset] [])) _
        refine XS.iloadN X10.here hx rfl (hb hby at_83) rfl ?_
        show Steps p.tables e below (T10.setTop (mkF m 84 #[.val (.int p0), .val (.int p1), .val (.int p2), .val (.int p3), .val (.int p4), .val (.ref b2), .val (.int (2 : Int32)), .unset, .unset, .unset, .unset] [(.int p2)])) _
        refine XS.sipush X10.here hx rfl (hb hby at_84) ?_
        show Steps p.tables e below (T10.setTop (mkF m 87 #[.val (.int p0), .val (.int p1), .val (.int p2), .val (.int p3), .val (.int p4), .val (.ref b2), .val (.int (2 : Int32)), .unset, .unset, .unset, .unset] [(.int (255 : Int32)), (.int p2)])) _
        refine XS.iand X10.here hx rfl (hb hby at_87) rfl ?_
        show Steps p.tables e below (T10.setTop (mkF m 88 #[.val (.int p0), .val (.int p1), .val (.int p2), .val (.int p3), .val (.int p4), .val (.ref b2), .val (.int (2 : Int32)), .unset, .unset, .unset, .unset] [(.int (p2 &&& (255 : Int32)))])) _
        refine XS.istore X10.here hx rfl (hb hby at_88) rfl (l' := #[.val (.int p0), .val (.int p1), .val (.int p2), .val (.int p3), .val (.int p4), .val (.ref b2), .val (.int (2 : Int32)), .val (.int (p2 &&& (255 : Int32))), .unset, .unset, .unset]) rfl ?_
        show Steps p.tables e below (T10.setTop (mkF m 90 #[.val (.int p0), .val (.int p1), .val (.int p2), .val (.int p3), .val (.int p4), .val (.ref b2), .val (.int (2 : Int32)), .val (.int (p2 &&& (255 : Int32))), .unset, .unset, .unset] [])) _
        refine XS.iloadN X10.here hx rfl (hb hby at_90) rfl ?_
        show Steps p.tables e below (T10.setTop (mkF m 91 #[.val (.int p0), .val (.int p1), .val (.int p2), .val (.int p3), .val (.int p4), .val (.ref b2), .val (.int (2 : Int32)), .val (.int (p2 &&& (255 : Int32))), .unset, .unset, .unset] [(.int p3)])) _
        refine XS.sipush X10.here hx rfl (hb hby at_91) ?_
        show Steps p.tables e below (T10.setTop (mkF m 94 #[.val (.int p0), .val (.int p1), .val (.int p2), .val (.int p3), .val (.int p4), .val (.ref b2), .val (.int (2 : Int32)), .val (.int (p2 &&& (255 : Int32))), .unset, .unset, .unset] [(.int (255 : Int32)), (.int p3)])) _
        refine XS.iand X10.here hx rfl (hb hby at_94) rfl ?_
        show Steps p.tables e below (T10.setTop (mkF m 95 #[.val (.int p0), .val (.int p1), .val (.int p2), .val (.int p3), .val (.int p4), .val (.ref b2), .val (.int (2 : Int32)), .val (.int (p2 &&& (255 : Int32))), .unset, .unset, .unset] [(.int (p3 &&& (255 : Int32)))])) _
        refine XS.istore X10.here hx rfl (hb hby at_95) rfl (l' := #[.val (.int p0), .val (.int p1), .val (.int p2), .val (.int p3), .val (.int p4), .val (.ref b2), .val (.int (2 : Int32)), .val (.int (p2 &&& (255 : Int32))), .val (.int (p3 &&& (255 : Int32))), .unset, .unset]) rfl ?_
        show Steps p.tables e below (T10.setTop (mkF m 97 #[.val (.int p0), .val (.int p1), .val (.int p2), .val (.int p3), .val (.int p4), .val (.ref b2), .val (.int (2 : Int32)), .val (.int (p2 &&& (255 : Int32))), .val (.int (p3 &&& (255 : Int32))), .unset, .unset] [])) _
        exact kt)
    have zs53 := (Nat.le_trans (Nat.le_trans (Nat.le_trans (Nat.le_trans (Nat.le_trans Z0 E2.1) (Keep.of_wr W4).1) (Keep.of_wr W6).1) (Keep.of_wr W8).1) (Keep.of_wr W10).1)
    obtain ⟨T52, h52, X52, e52, E52, A52, D52, -, st52⟩ := newO X10 hx hZW hownW (hw _ (List.mem_of_getElem? (i := 2) rfl)) (hw _ (List.mem_of_getElem? (i := 3) rfl)) (hw _ (List.mem_of_getElem? (i := 4) rfl)) e10 (g := (mkF m 97 #[.val (.int p0), .val (.int p1), .val (.int p2), .val (.int p3), .val (.int p4), .val (.ref b2), .val (.int (2 : Int32)), .val (.int (p2 &&& (255 : Int32))), .val (.int (p3 &&& (255 : Int32))), .unset, .unset] [])) rfl (hb hby at_97) (by decide) (by decide)
    obtain ⟨b52, g52⟩ : ∃ z, z = h10.size := ⟨_, rfl⟩
    rw [← g52] at A52 D52 st52
    have ks52 : h0.size ≤ h10.size := Nat.le_trans (Nat.le_trans (Nat.le_trans (Nat.le_trans (Nat.le_trans (ks2) E2.1) (Keep.of_wr W4).1) (Keep.of_wr W6).1) (Keep.of_wr W8).1) (Keep.of_wr W10).1
    have sz52 : h0.size ≤ b52 := Nat.le_trans ks52 (Nat.le_of_eq g52.symm)
    have ne_b2_b52 : b2 ≠ b52 := Nat.ne_of_lt (Nat.lt_of_lt_of_le V10.lt (Nat.le_of_eq g52.symm))
    have gb52 : n0 ≤ b52 := Nat.le_trans zs53 (Nat.le_of_eq g52.symm)
    have F52_bytes : Fld Z h52 b52 "com/example/classweave/classweave/classfile/ClassInput" "bytes" "[B" .null := D52 (Or.inr (hw _ (List.mem_of_getElem? (i := 22) rfl))) (ty := (.array .byte)) (by decide)
    have F52_position : Fld Z h52 b52 "com/example/classweave/classweave/classfile/ClassInput" "position" "I" (.int (0 : Int32)) := D52 (Or.inl (hw _ (List.mem_of_getElem? (i := 24) rfl))) (ty := .int) (by decide)
    have F52_end : Fld Z h52 b52 "com/example/classweave/classweave/classfile/ClassInput" "end" "I" (.int (0 : Int32)) := D52 (Or.inr (hw _ (List.mem_of_getElem? (i := 26) rfl))) (ty := .int) (by decide)
    have F52_extent : Fld Z h52 b52 "com/example/classweave/classweave/classfile/ClassInput" "extent" "Ljava/lang/String;" .null := D52 (Or.inr (hw _ (List.mem_of_getElem? (i := 28) rfl))) (ty := (.object "java/lang/String")) (by decide)
    have go54 : ∀ t, Steps p.tables e below (T52.setTop (mkF m 103 #[.val (.int p0), .val (.int p1), .val (.int p2), .val (.int p3), .val (.int p4), .val (.ref b2), .val (.int (2 : Int32)), .val (.int (p2 &&& (255 : Int32))), .val (.int (p3 &&& (255 : Int32))), .unset, .unset] [(.ref b2), (.ref b52), (.ref b52)])) t → Steps p.tables e below (s₁.setTop (entryFrame m #[(.int p0), (.int p1), (.int p2), (.int p3), (.int p4)] maxLocals)) t := fun t kt => go51 t (by
        refine st52 _ ?_
        show Steps p.tables e below (T52.setTop (mkF m 100 #[.val (.int p0), .val (.int p1), .val (.int p2), .val (.int p3), .val (.int p4), .val (.ref b2), .val (.int (2 : Int32)), .val (.int (p2 &&& (255 : Int32))), .val (.int (p3 &&& (255 : Int32))), .unset, .unset] [(.ref b52)])) _
        refine XS.dup X52.here hx rfl (hb hby at_100) rfl rfl ?_
        show Steps p.tables e below (T52.setTop (mkF m 101 #[.val (.int p0), .val (.int p1), .val (.int p2), .val (.int p3), .val (.int p4), .val (.ref b2), .val (.int (2 : Int32)), .val (.int (p2 &&& (255 : Int32))), .val (.int (p3 &&& (255 : Int32))), .unset, .unset] [(.ref b52), (.ref b52)])) _
        refine XS.aload X52.here hx rfl (hb hby at_101) rfl rfl ?_
        show Steps p.tables e below (T52.setTop (mkF m 103 #[.val (.int p0), .val (.int p1), .val (.int p2), .val (.int p3), .val (.int p4), .val (.ref b2), .val (.int (2 : Int32)), .val (.int (p2 &&& (255 : Int32))), .val (.int (p3 &&& (255 : Int32))), .unset, .unset] [(.ref b2), (.ref b52), (.ref b52)])) _
        exact kt)
    have hk56 := (Nat.le_trans (Nat.le_trans (Nat.le_trans (Nat.le_trans (Nat.le_trans (Nat.le_trans HK E2.1) (Keep.of_wr W4).1) (Keep.of_wr W6).1) (Keep.of_wr W8).1) (Keep.of_wr W10).1) E52.1)
    have q57 := (V10.ext E52)
    obtain ⟨_, _, ⟨T55, L55, k55, n55⟩, -, X55, HSq55, HGq55, ⟨Lc55, hQ55, l55, y55, z55⟩, st55⟩ := X52.specialBackS hx (y := (⟨"com/example/classweave/classweave/classfile/ClassInput", "<init>", "([B)V"⟩ : MethodName)) rfl hownW (mvT hZW (hw _ (List.mem_of_getElem? (i := 5) rfl))) (mvT hZW (hw _ (List.mem_of_getElem? (i := 6) rfl))) (mvT hZW (hw _ (List.mem_of_getElem? (i := 7) rfl))) (by decide) (backOfS (W := 1) (rm1 l Z a0 hw [] b52 b2 (nar .byte (p0.toInt8.toInt32)) (nar .byte (p1.toInt8.toInt32)) (nar .byte (p2.toInt8.toInt32)) (nar .byte (p3.toInt8.toInt32)) h52 n0 A52 F52_bytes F52_position F52_end F52_extent gb52 q57) hZW (hw _ (List.mem_of_getElem? (i := 7) rfl)) (hw _ (List.mem_of_getElem? (i := 4) rfl)) (by decide) (by decide)) (g := (mkF m 103 #[.val (.int p0), .val (.int p1), .val (.int p2), .val (.int p3), .val (.int p4), .val (.ref b2), .val (.int (2 : Int32)), .val (.int (p2 &&& (255 : Int32))), .val (.int (p3 &&& (255 : Int32))), .unset, .unset] [(.ref b2), (.ref b52), (.ref b52)])) rfl (by rw [hml]; rfl) (Steps.refl _) (a := b52) (argsL := [(.ref b2)]) (rest := [(.ref b52)]) (lenOf pd_0 rfl) rfl (by show 2 * 0 + _ ≤ _; exact Nat.le_of_eq rfl) (hb hby at_103) (fun _ _ => ⟨rfl, e52, (by decide : 2 + 2 ≤ _), (by decide : 8 + 36 ≤ _)⟩)
    dsimp only [Pt.U, Pt.locs, Pt.cells, Pt.slots] at X55 l55 y55 z55 st55 hQ55 HSq55 HGq55
    subst l55 y55 z55
    obtain ⟨X55, HS55, hZ55, hown55⟩ := rebS HS (by rw [e52]; exact hk56) X55 HSq55 HGq55 hZW hownW
    obtain ⟨rfl, N55q, K55, g55a, g55b, g55c⟩ := hQ55
    have N55 := Fr.app N10 N55q
    have go58 : ∀ t, Steps p.tables e below (T55.setTop (mkF m 112 #[.val (.int p0), .val (.int p1), .val (.int p2), .val (.int p3), .val (.int p4), .val (.ref b2), .val (.int (2 : Int32)), .val (.int (p2 &&& (255 : Int32))), .val (.int (p3 &&& (255 : Int32))), .val (.ref b52), .unset] [(.int (2 : Int32)), (.ref b52)])) t → Steps p.tables e below (s₁.setTop (entryFrame m #[(.int p0), (.int p1), (.int p2), (.int p3), (.int p4)] maxLocals)) t := fun t kt => go54 t (by
        refine st55.trans ?_
        show Steps p.tables e below (T55.setTop (mkF m 106 #[.val (.int p0), .val (.int p1), .val (.int p2), .val (.int p3), .val (.int p4), .val (.ref b2), .val (.int (2 : Int32)), .val (.int (p2 &&& (255 : Int32))), .val (.int (p3 &&& (255 : Int32))), .unset, .unset] [(.ref b52)])) _
        refine XS.astore X55.here hx rfl (hb hby at_106) rfl rfl (l' := #[.val (.int p0), .val (.int p1), .val (.int p2), .val (.int p3), .val (.int p4), .val (.ref b2), .val (.int (2 : Int32)), .val (.int (p2 &&& (255 : Int32))), .val (.int (p3 &&& (255 : Int32))), .val (.ref b52), .unset]) rfl ?_
        show Steps p.tables e below (T55.setTop (mkF m 108 #[.val (.int p0), .val (.int p1), .val (.int p2), .val (.int p3), .val (.int p4), .val (.ref b2), .val (.int (2 : Int32)), .val (.int (p2 &&& (255 : Int32))), .val (.int (p3 &&& (255 : Int32))), .val (.ref b52), .unset] [])) _
        refine XS.aload X55.here hx rfl (hb hby at_108) rfl rfl ?_
        show Steps p.tables e below (T55.setTop (mkF m 110 #[.val (.int p0), .val (.int p1), .val (.int p2), .val (.int p3), .val (.int p4), .val (.ref b2), .val (.int (2 : Int32)), .val (.int (p2 &&& (255 : Int32))), .val (.int (p3 &&& (255 : Int32))), .val (.ref b52), .unset] [(.ref b52)])) _
        refine XS.iload X55.here hx rfl (hb hby at_110) rfl ?_
        show Steps p.tables e below (T55.setTop (mkF m 112 #[.val (.int p0), .val (.int p1), .val (.int p2), .val (.int p3), .val (.int p4), .val (.ref b2), .val (.int (2 : Int32)), .val (.int (p2 &&& (255 : Int32))), .val (.int (p3 &&& (255 : Int32))), .val (.ref b52), .unset] [(.int (2 : Int32)), (.ref b52)])) _
        exact kt)
    have q60 := (q57.keep K55 (ninS ne_b2_b52 nin0))
    obtain ⟨cq59, kq59, q59a, q59b, q59c⟩ := isOf hZ55 rfl g55a
    obtain ⟨_, _, ⟨T59, L59, k59, n59⟩, -, X59, ⟨Lc59, hQ59, l59, y59, z59⟩, st59⟩ := X55.virtualBack hx (y := (⟨"com/example/classweave/classweave/classfile/ClassInput", "u2At", "(I)I"⟩ : MethodName)) (z := (⟨"com/example/classweave/classweave/classfile/ClassInput", "u2At", "(I)I"⟩ : MethodName)) hown55 (mvT hZ55 (hw _ (List.mem_of_getElem? (i := 29) rfl))) (mvT hZ55 (hw _ (List.mem_of_getElem? (i := 30) rfl))) (notFace_of_selects (args := #[]) (mvT hZ55 (hw _ (List.mem_of_getElem? (i := 32) rfl)))) (mvT hZ55 (hw _ (List.mem_of_getElem? (i := 32) rfl))) (mvT hZ55 (hw _ (List.mem_of_getElem? (i := 31) rfl))) (by decide) (backOf (W := 0) (rm4 l Z a0 hw [] b52 (2 : Int32) b2 (nar .byte (p2.toInt8.toInt32)) (nar .byte (p3.toInt8.toInt32)) [(.int (nar .byte (p0.toInt8.toInt32))), (.int (nar .byte (p1.toInt8.toInt32))), (.int (nar .byte (p2.toInt8.toInt32))), (.int (nar .byte (p3.toInt8.toInt32)))] 2 T55.heap n0 g55b q60 (by decide) (by decide) (by decide) (by decide) rfl rfl) hZ55 (hw _ (List.mem_of_getElem? (i := 33) rfl)) (hw _ (List.mem_of_getElem? (i := 4) rfl)) (by decide) (by decide)) q59a q59c (g := (mkF m 112 #[.val (.int p0), .val (.int p1), .val (.int p2), .val (.int p3), .val (.int p4), .val (.ref b2), .val (.int (2 : Int32)), .val (.int (p2 &&& (255 : Int32))), .val (.int (p3 &&& (255 : Int32))), .val (.ref b52), .unset] [(.int (2 : Int32)), (.ref b52)])) rfl (by rw [hml]; rfl) (Steps.refl _) (argsL := [(.int (2 : Int32))]) (rest := []) (lenOf pd_3 rfl) rfl (by show 2 * 0 + _ ≤ _; exact Nat.le_of_eq rfl) (hb hby at_112) (fun _ _ => ⟨rfl, rfl, (by decide : 4 + 0 ≤ _), (by decide : 44 + 0 ≤ _)⟩)
    dsimp only [Pt.U, Pt.locs, Pt.cells, Pt.slots] at X59 l59 y59 z59 st59 hQ59
    subst l59 y59 z59
    obtain ⟨rfl, N59q, e59⟩ := hQ59
    have N59 := Fr.app N55 N59q
    have hc128_61 : (own_u2 (nar .byte (p2.toInt8.toInt32)) (nar .byte (p3.toInt8.toInt32))) = (((p2 &&& (255 : Int32)) * (256 : Int32)) + (p3 &&& (255 : Int32))) := own_eq _ _
    have hc133_62 : ¬ ((own_u2 (nar .byte (p2.toInt8.toInt32)) (nar .byte (p3.toInt8.toInt32))) < (0 : Int32)) := own_ge _ _
    have hc140_63 : ¬ ((65535 : Int32) < (own_u2 (nar .byte (p2.toInt8.toInt32)) (nar .byte (p3.toInt8.toInt32)))) := own_le _ _
    have go64 : ∀ t, Steps p.tables e below (T59.setTop (mkF m 145 #[.val (.int p0), .val (.int p1), .val (.int p2), .val (.int p3), .val (.int p4), .val (.ref b2), .val (.int (2 : Int32)), .val (.int (p2 &&& (255 : Int32))), .val (.int (p3 &&& (255 : Int32))), .val (.ref b52), .val (.int (own_u2 (nar .byte (p2.toInt8.toInt32)) (nar .byte (p3.toInt8.toInt32))))] [(.ref b52)])) t → Steps p.tables e below (s₁.setTop (entryFrame m #[(.int p0), (.int p1), (.int p2), (.int p3), (.int p4)] maxLocals)) t := fun t kt => go58 t (by
        refine st59.trans ?_
        show Steps p.tables e below (T59.setTop (mkF m 115 #[.val (.int p0), .val (.int p1), .val (.int p2), .val (.int p3), .val (.int p4), .val (.ref b2), .val (.int (2 : Int32)), .val (.int (p2 &&& (255 : Int32))), .val (.int (p3 &&& (255 : Int32))), .val (.ref b52), .unset] [(.int (own_u2 (nar .byte (p2.toInt8.toInt32)) (nar .byte (p3.toInt8.toInt32))))])) _
        refine XS.istore X59.here hx rfl (hb hby at_115) rfl (l' := #[.val (.int p0), .val (.int p1), .val (.int p2), .val (.int p3), .val (.int p4), .val (.ref b2), .val (.int (2 : Int32)), .val (.int (p2 &&& (255 : Int32))), .val (.int (p3 &&& (255 : Int32))), .val (.ref b52), .val (.int (own_u2 (nar .byte (p2.toInt8.toInt32)) (nar .byte (p3.toInt8.toInt32))))]) rfl ?_
        show Steps p.tables e below (T59.setTop (mkF m 117 #[.val (.int p0), .val (.int p1), .val (.int p2), .val (.int p3), .val (.int p4), .val (.ref b2), .val (.int (2 : Int32)), .val (.int (p2 &&& (255 : Int32))), .val (.int (p3 &&& (255 : Int32))), .val (.ref b52), .val (.int (own_u2 (nar .byte (p2.toInt8.toInt32)) (nar .byte (p3.toInt8.toInt32))))] [])) _
        refine XS.iload X59.here hx rfl (hb hby at_117) rfl ?_
        show Steps p.tables e below (T59.setTop (mkF m 119 #[.val (.int p0), .val (.int p1), .val (.int p2), .val (.int p3), .val (.int p4), .val (.ref b2), .val (.int (2 : Int32)), .val (.int (p2 &&& (255 : Int32))), .val (.int (p3 &&& (255 : Int32))), .val (.ref b52), .val (.int (own_u2 (nar .byte (p2.toInt8.toInt32)) (nar .byte (p3.toInt8.toInt32))))] [(.int (own_u2 (nar .byte (p2.toInt8.toInt32)) (nar .byte (p3.toInt8.toInt32))))])) _
        refine XS.iload X59.here hx rfl (hb hby at_119) rfl ?_
        show Steps p.tables e below (T59.setTop (mkF m 121 #[.val (.int p0), .val (.int p1), .val (.int p2), .val (.int p3), .val (.int p4), .val (.ref b2), .val (.int (2 : Int32)), .val (.int (p2 &&& (255 : Int32))), .val (.int (p3 &&& (255 : Int32))), .val (.ref b52), .val (.int (own_u2 (nar .byte (p2.toInt8.toInt32)) (nar .byte (p3.toInt8.toInt32))))] [(.int (p2 &&& (255 : Int32))), (.int (own_u2 (nar .byte (p2.toInt8.toInt32)) (nar .byte (p3.toInt8.toInt32))))])) _
        refine XS.sipush X59.here hx rfl (hb hby at_121) ?_
        show Steps p.tables e below (T59.setTop (mkF m 124 #[.val (.int p0), .val (.int p1), .val (.int p2), .val (.int p3), .val (.int p4), .val (.ref b2), .val (.int (2 : Int32)), .val (.int (p2 &&& (255 : Int32))), .val (.int (p3 &&& (255 : Int32))), .val (.ref b52), .val (.int (own_u2 (nar .byte (p2.toInt8.toInt32)) (nar .byte (p3.toInt8.toInt32))))] [(.int (256 : Int32)), (.int (p2 &&& (255 : Int32))), (.int (own_u2 (nar .byte (p2.toInt8.toInt32)) (nar .byte (p3.toInt8.toInt32))))])) _
        refine XS.imul X59.here hx rfl (hb hby at_124) rfl ?_
        show Steps p.tables e below (T59.setTop (mkF m 125 #[.val (.int p0), .val (.int p1), .val (.int p2), .val (.int p3), .val (.int p4), .val (.ref b2), .val (.int (2 : Int32)), .val (.int (p2 &&& (255 : Int32))), .val (.int (p3 &&& (255 : Int32))), .val (.ref b52), .val (.int (own_u2 (nar .byte (p2.toInt8.toInt32)) (nar .byte (p3.toInt8.toInt32))))] [(.int ((p2 &&& (255 : Int32)) * (256 : Int32))), (.int (own_u2 (nar .byte (p2.toInt8.toInt32)) (nar .byte (p3.toInt8.toInt32))))])) _
        refine XS.iload X59.here hx rfl (hb hby at_125) rfl ?_
        show Steps p.tables e below (T59.setTop (mkF m 127 #[.val (.int p0), .val (.int p1), .val (.int p2), .val (.int p3), .val (.int p4), .val (.ref b2), .val (.int (2 : Int32)), .val (.int (p2 &&& (255 : Int32))), .val (.int (p3 &&& (255 : Int32))), .val (.ref b52), .val (.int (own_u2 (nar .byte (p2.toInt8.toInt32)) (nar .byte (p3.toInt8.toInt32))))] [(.int (p3 &&& (255 : Int32))), (.int ((p2 &&& (255 : Int32)) * (256 : Int32))), (.int (own_u2 (nar .byte (p2.toInt8.toInt32)) (nar .byte (p3.toInt8.toInt32))))])) _
        refine XS.iadd X59.here hx rfl (hb hby at_127) rfl ?_
        show Steps p.tables e below (T59.setTop (mkF m 128 #[.val (.int p0), .val (.int p1), .val (.int p2), .val (.int p3), .val (.int p4), .val (.ref b2), .val (.int (2 : Int32)), .val (.int (p2 &&& (255 : Int32))), .val (.int (p3 &&& (255 : Int32))), .val (.ref b52), .val (.int (own_u2 (nar .byte (p2.toInt8.toInt32)) (nar .byte (p3.toInt8.toInt32))))] [(.int (((p2 &&& (255 : Int32)) * (256 : Int32)) + (p3 &&& (255 : Int32)))), (.int (own_u2 (nar .byte (p2.toInt8.toInt32)) (nar .byte (p3.toInt8.toInt32))))])) _
        refine XS.icmpNo X59.here hx rfl (hb hby at_128) rfl (teq hc128_61).2 ?_
        show Steps p.tables e below (T59.setTop (mkF m 131 #[.val (.int p0), .val (.int p1), .val (.int p2), .val (.int p3), .val (.int p4), .val (.ref b2), .val (.int (2 : Int32)), .val (.int (p2 &&& (255 : Int32))), .val (.int (p3 &&& (255 : Int32))), .val (.ref b52), .val (.int (own_u2 (nar .byte (p2.toInt8.toInt32)) (nar .byte (p3.toInt8.toInt32))))] [])) _
        refine XS.iload X59.here hx rfl (hb hby at_131) rfl ?_
        show Steps p.tables e below (T59.setTop (mkF m 133 #[.val (.int p0), .val (.int p1), .val (.int p2), .val (.int p3), .val (.int p4), .val (.ref b2), .val (.int (2 : Int32)), .val (.int (p2 &&& (255 : Int32))), .val (.int (p3 &&& (255 : Int32))), .val (.ref b52), .val (.int (own_u2 (nar .byte (p2.toInt8.toInt32)) (nar .byte (p3.toInt8.toInt32))))] [(.int (own_u2 (nar .byte (p2.toInt8.toInt32)) (nar .byte (p3.toInt8.toInt32))))])) _
        refine XS.ifNo X59.here hx rfl (hb hby at_133) rfl ((if0 _ _).trans (flt hc133_62).1) ?_
        show Steps p.tables e below (T59.setTop (mkF m 136 #[.val (.int p0), .val (.int p1), .val (.int p2), .val (.int p3), .val (.int p4), .val (.ref b2), .val (.int (2 : Int32)), .val (.int (p2 &&& (255 : Int32))), .val (.int (p3 &&& (255 : Int32))), .val (.ref b52), .val (.int (own_u2 (nar .byte (p2.toInt8.toInt32)) (nar .byte (p3.toInt8.toInt32))))] [])) _
        refine XS.iload X59.here hx rfl (hb hby at_136) rfl ?_
        show Steps p.tables e below (T59.setTop (mkF m 138 #[.val (.int p0), .val (.int p1), .val (.int p2), .val (.int p3), .val (.int p4), .val (.ref b2), .val (.int (2 : Int32)), .val (.int (p2 &&& (255 : Int32))), .val (.int (p3 &&& (255 : Int32))), .val (.ref b52), .val (.int (own_u2 (nar .byte (p2.toInt8.toInt32)) (nar .byte (p3.toInt8.toInt32))))] [(.int (own_u2 (nar .byte (p2.toInt8.toInt32)) (nar .byte (p3.toInt8.toInt32))))])) _
        refine X59.ldcInt hx hown55 (mvT hZ55 (hw _ (List.mem_of_getElem? (i := 34) rfl))) (g := (mkF m 138 #[.val (.int p0), .val (.int p1), .val (.int p2), .val (.int p3), .val (.int p4), .val (.ref b2), .val (.int (2 : Int32)), .val (.int (p2 &&& (255 : Int32))), .val (.int (p3 &&& (255 : Int32))), .val (.ref b52), .val (.int (own_u2 (nar .byte (p2.toInt8.toInt32)) (nar .byte (p3.toInt8.toInt32))))] [(.int (own_u2 (nar .byte (p2.toInt8.toInt32)) (nar .byte (p3.toInt8.toInt32))))])) rfl (hb hby at_138) _ ?_
        show Steps p.tables e below (T59.setTop (mkF m 140 #[.val (.int p0), .val (.int p1), .val (.int p2), .val (.int p3), .val (.int p4), .val (.ref b2), .val (.int (2 : Int32)), .val (.int (p2 &&& (255 : Int32))), .val (.int (p3 &&& (255 : Int32))), .val (.ref b52), .val (.int (own_u2 (nar .byte (p2.toInt8.toInt32)) (nar .byte (p3.toInt8.toInt32))))] [(.int (65535 : Int32)), (.int (own_u2 (nar .byte (p2.toInt8.toInt32)) (nar .byte (p3.toInt8.toInt32))))])) _
        refine XS.icmpNo X59.here hx rfl (hb hby at_140) rfl (flt hc140_63).2.2.1 ?_
        show Steps p.tables e below (T59.setTop (mkF m 143 #[.val (.int p0), .val (.int p1), .val (.int p2), .val (.int p3), .val (.int p4), .val (.ref b2), .val (.int (2 : Int32)), .val (.int (p2 &&& (255 : Int32))), .val (.int (p3 &&& (255 : Int32))), .val (.ref b52), .val (.int (own_u2 (nar .byte (p2.toInt8.toInt32)) (nar .byte (p3.toInt8.toInt32))))] [])) _
        refine XS.aload X59.here hx rfl (hb hby at_143) rfl rfl ?_
        show Steps p.tables e below (T59.setTop (mkF m 145 #[.val (.int p0), .val (.int p1), .val (.int p2), .val (.int p3), .val (.int p4), .val (.ref b2), .val (.int (2 : Int32)), .val (.int (p2 &&& (255 : Int32))), .val (.int (p3 &&& (255 : Int32))), .val (.ref b52), .val (.int (own_u2 (nar .byte (p2.toInt8.toInt32)) (nar .byte (p3.toInt8.toInt32))))] [(.ref b52)])) _
        exact kt)
    obtain ⟨cq65, kq65, q65a, q65b, q65c⟩ := isOf hZ55 e59 g55a
    obtain ⟨_, _, ⟨T65, L65, k65, n65⟩, -, X65, ⟨Lc65, hQ65, l65, y65, z65⟩, st65⟩ := X59.virtualBack hx (y := (⟨"com/example/classweave/classweave/classfile/ClassInput", "position", "()I"⟩ : MethodName)) (z := (⟨"com/example/classweave/classweave/classfile/ClassInput", "position", "()I"⟩ : MethodName)) hown55 (mvT hZ55 (hw _ (List.mem_of_getElem? (i := 35) rfl))) (mvT hZ55 (hw _ (List.mem_of_getElem? (i := 36) rfl))) (notFace_of_selects (args := #[]) (mvT hZ55 (hw _ (List.mem_of_getElem? (i := 38) rfl)))) (mvT hZ55 (hw _ (List.mem_of_getElem? (i := 38) rfl))) (mvT hZ55 (hw _ (List.mem_of_getElem? (i := 37) rfl))) (by decide) (backOf (W := 0) (rm5 l Z a0 hw [] b52 (0 : Int32) T55.heap n0 g55c) hZ55 (hw _ (List.mem_of_getElem? (i := 39) rfl)) (hw _ (List.mem_of_getElem? (i := 4) rfl)) (by decide) (by decide)) q65a q65c (g := (mkF m 145 #[.val (.int p0), .val (.int p1), .val (.int p2), .val (.int p3), .val (.int p4), .val (.ref b2), .val (.int (2 : Int32)), .val (.int (p2 &&& (255 : Int32))), .val (.int (p3 &&& (255 : Int32))), .val (.ref b52), .val (.int (own_u2 (nar .byte (p2.toInt8.toInt32)) (nar .byte (p3.toInt8.toInt32))))] [(.ref b52)])) rfl (by rw [hml]; rfl) (Steps.refl _) (argsL := []) (rest := []) (lenOf pd_4 rfl) rfl (by show 2 * 0 + _ ≤ _; exact Nat.le_of_eq rfl) (hb hby at_145) (fun _ _ => ⟨rfl, e59, (by decide : 4 + 0 ≤ _), (by decide : 44 + 0 ≤ _)⟩)
    dsimp only [Pt.U, Pt.locs, Pt.cells, Pt.slots] at X65 l65 y65 z65 st65 hQ65
    subst l65 y65 z65
    obtain ⟨rfl, N65q, e65⟩ := hQ65
    have N65 := Fr.app N59 N65q
    have hc148_66 : (0 : Int32) = (0 : Int32) := (by decide)
    have go67 : ∀ t, Steps p.tables e below (T65.setTop (mkF m 156 #[.val (.int p0), .val (.int p1), .val (.int p2), .val (.int p3), .val (.int p4), .val (.ref b2), .val (.int (2 : Int32)), .val (.int (p2 &&& (255 : Int32))), .val (.int (p3 &&& (255 : Int32))), .val (.ref b52), .val (.int (own_u2 (nar .byte (p2.toInt8.toInt32)) (nar .byte (p3.toInt8.toInt32))))] [(.int (1 : Int32))])) t → Steps p.tables e below (s₁.setTop (entryFrame m #[(.int p0), (.int p1), (.int p2), (.int p3), (.int p4)] maxLocals)) t := fun t kt => go64 t (by
        refine st65.trans ?_
        show Steps p.tables e below (T65.setTop (mkF m 148 #[.val (.int p0), .val (.int p1), .val (.int p2), .val (.int p3), .val (.int p4), .val (.ref b2), .val (.int (2 : Int32)), .val (.int (p2 &&& (255 : Int32))), .val (.int (p3 &&& (255 : Int32))), .val (.ref b52), .val (.int (own_u2 (nar .byte (p2.toInt8.toInt32)) (nar .byte (p3.toInt8.toInt32))))] [(.int (0 : Int32))])) _
        refine XS.ifNo X65.here hx rfl (hb hby at_148) rfl ((if0 _ _).trans (teq hc148_66).2) ?_
        show Steps p.tables e below (T65.setTop (mkF m 151 #[.val (.int p0), .val (.int p1), .val (.int p2), .val (.int p3), .val (.int p4), .val (.ref b2), .val (.int (2 : Int32)), .val (.int (p2 &&& (255 : Int32))), .val (.int (p3 &&& (255 : Int32))), .val (.ref b52), .val (.int (own_u2 (nar .byte (p2.toInt8.toInt32)) (nar .byte (p3.toInt8.toInt32))))] [])) _
        refine XS.iconst X65.here hx rfl (hb hby at_151) ?_
        show Steps p.tables e below (T65.setTop (mkF m 152 #[.val (.int p0), .val (.int p1), .val (.int p2), .val (.int p3), .val (.int p4), .val (.ref b2), .val (.int (2 : Int32)), .val (.int (p2 &&& (255 : Int32))), .val (.int (p3 &&& (255 : Int32))), .val (.ref b52), .val (.int (own_u2 (nar .byte (p2.toInt8.toInt32)) (nar .byte (p3.toInt8.toInt32))))] [(.int (1 : Int32))])) _
        refine XS.goto X65.here hx rfl (pc0 := 152) (pc' := 156) rfl (hb hby at_152) (by decide) (by decide) ?_
        show Steps p.tables e below (T65.setTop (mkF m 156 #[.val (.int p0), .val (.int p1), .val (.int p2), .val (.int p3), .val (.int p4), .val (.ref b2), .val (.int (2 : Int32)), .val (.int (p2 &&& (255 : Int32))), .val (.int (p3 &&& (255 : Int32))), .val (.ref b52), .val (.int (own_u2 (nar .byte (p2.toInt8.toInt32)) (nar .byte (p3.toInt8.toInt32))))] [(.int (1 : Int32))])) _
        exact kt)
    obtain ⟨fs, hr, hrun, hended, hEW⟩ := X65.leaveW HS55 (by rw [e65]; exact (Nat.le_refl _)) (v := some (.int (1 : Int32))) (fun h => by rw [Bd.returns] at h; cases h)
    refine ⟨_, _, go67 _ (retN X65 hx (t := .boolean) Bd.returns (by simp) (hb hby at_156) hr), hrun, hended, _, _, rfl, ?_, hEW.1, hEW.2.1, hEW.2.2.1, hEW.2.2.2.mono (by decide) (by decide)⟩
    exact ⟨rfl, N65⟩
set_option maxRecDepth 65536 in
set_option maxHeartbeats 40000000 in
theorem comes_1 {Post : Tables → Env → Array Value → State → Outcome → State → Prop} (hpost : ∀ tb e args s v u, (limb_1_1.after args s (.returned v) u = true ∧ limb_1_2.after args s (.returned v) u = true ∧ True) → ReturnedEndW s (.returned v) u (Jvm.fieldLocs frame_1_writes args s ++ Jvm.arrayLocs frame_1_arrays args s ++ Jvm.staticLocs frame_1_statics s) 16 1152 → Post tb e args s (.returned v) u) :
    ArmFor flags0 classFile x code maxLocals ret World_1 tables_1 room_1 Calls_1 rest_1 Pre_1 Post := by
  intro l hfl _ _ p e ha hc hk s m args below hf hA hF happ hP
  obtain ⟨hcalls, hrest, hpre⟩ := hP
  obtain ⟨-, -, -, hnamed, -, -, -, hat⟩ := (Spec.applies_iff hf).mp happ
  obtain ⟨hg, hn⟩ := and_e (Cond.before_iff.mp (show (Jvm.Cond.and given_1 narrow_1).before args s = true from hpre))
  obtain ⟨g1, g2⟩ := and_e hg
  obtain ⟨g3, g4⟩ := and_e g2
  obtain ⟨g5, g6⟩ := and_e g4
  obtain ⟨g7, g8⟩ := and_e g6
  obtain ⟨g9, g10⟩ := and_e g8
  obtain ⟨w0, w1, w2, w3, w4, rfl⟩ : ∃ w0 w1 w2 w3 w4 : Value, args = #[w0, w1, w2, w3, w4] := by
    have hs : args.size = 5 := by simpa [Cond.value, given_1] using g1
    obtain ⟨L⟩ := args
    match L, hs with
    | [w0, w1, w2, w3, w4], _ => exact ⟨w0, w1, w2, w3, w4, rfl⟩
  have hw := fun d (hd : d ∈ tables_1) => atoms_spec (ws := Jvm.Cond.code x code maxLocals ret :: tables_1) hat d (List.mem_cons_of_mem _ hd)
  have hfit : Fit s := fun {y c} hc i hi => by
    obtain ⟨ha, rfl⟩ := Array.getElem?_eq_some_iff.mp hc
    have q := List.all_eq_true.mp ((Array.all_eq_true_iff_forall_mem.mp hF) _ (Array.getElem_mem ha)) i (List.mem_range.mpr hi)
    simpa [Array.getElem?_eq_getElem hi] using q
  obtain ⟨i0, ei0⟩ := is_v g3
  obtain rfl : w0 = (.int i0) := Option.some.inj ei0
  obtain ⟨i1, ei1⟩ := is_v g5
  obtain rfl : w1 = (.int i1) := Option.some.inj ei1
  obtain ⟨i2, ei2⟩ := is_v g7
  obtain rfl : w2 = (.int i2) := Option.some.inj ei2
  obtain ⟨i3, ei3⟩ := is_v g9
  obtain rfl : w3 = (.int i3) := Option.some.inj ei3
  obtain ⟨i4, ei4⟩ := is_v g10
  obtain rfl : w4 = (.int i4) := Option.some.inj ei4
  obtain ⟨n, o, h1, h2, h3, v, L, rfl, ⟨hv, N⟩, hq⟩ := rm0 l s _ hw tables_1 i0 i1 i2 i3 i4  s.heap s.heap.size (Nat.le_refl _) p e ha hc hk s m _ below hf ((Spec.applies_iff_loose hf).mp happ).1 ⟨rfl, State.Warmed39.refl s, rfl⟩ trivial
  obtain rfl : v = some (.int 1) := hv
  refine ⟨n, _, h1, h2, h3, hpost _ _ _ _ _ _ ⟨Cond.after_iff.mpr rfl, Cond.after_iff.mpr (eq_i res_at (Term.int_eval (1)) rfl), trivial⟩ ⟨hq.1, hq.2.1, hq.2.2.1, (hq.2.2.2.sift fun y hy => Or.inr (N y hy)).mono (by decide) (by decide)⟩⟩
theorem main_1_1 : Claimed_1_1 := comes_1 fun _ _ _ _ _ _ h hF => ⟨h.1, hF⟩
theorem main_1_2 : Claimed_1_2 := comes_1 fun _ _ _ _ _ _ h hF => ⟨h.2.1, hF⟩
end Jvm.Pilot.@@N@@
namespace Jvm.Pilot.@@N@@
open Jvm Jvm.ClassFile Sem Op Lib Jvm.Free Jvm.Stand Jvm.Pilot.@@N@@.Jvm.D
/-! MADE BY PROGRAM (witnessworld.py) out of the Statement's table words and the real class files: 14 classes; the members and pool entries that the words name. The judged class is class 1, her method 1. -/
namespace start1
open Jvm.ClassFile
def u (s : String) : CpInfo := .utf8 (stringToUtf16 s)
/-- a pool by its gaps: so many unusable entries, then the entry; so many at the end -/
def gap : Nat → List CpInfo → List CpInfo
  | 0, r => r
  | n + 1, r => .unusable :: gap n r
def poolList (es : List (Nat × CpInfo)) (last : Nat) : List CpInfo := es.foldr (fun e r => gap e.1 (e.2 :: r)) (gap last [])
def pool (es : List (Nat × CpInfo)) (last : Nat) : Array CpInfo := ⟨poolList es last⟩
def fileOf (pool : Array CpInfo) (this : Nat) (attrs : Array Attribute := #[]) (ms : Array MethodInfo := #[]) (fl : Nat := 33) (sup : Nat := 0) (ifs : Array Nat := #[]) (fds : Array FieldInfo := #[]) : ClassFile where
  minorVersion := 0
  majorVersion := 65
  constantPool := pool
  accessFlags := fl
  thisClass := this
  superClass := sup
  interfaces := ifs
  fields := fds
  methods := ms
  attributes := attrs
def plain (name : String) (sup : Option ClassId) : Class where
  name := name
  kind := .ordinary
  loader := none
  accessFlags := 33
  super := sup
  interfaces := #[]
  cf := none
  fields := #[]
  methods := #[]
  instanceTypes := #[]
  staticTypes := #[]
  resolved := #[]
  callSites := []
  init := .initialized
  statics := none
  mirror := none

def pool0 : Array CpInfo := pool [(5, u "<init>"), (0, u "()V"), (1, .class_ 10), (1, u "java/lang/Object")] 113

def k0c0 : Code := { maxStack := 0, maxLocals := 1, code := object_method_1_code, exceptionTable := #[], attributes := #[] }
def k0m0 : Method := { name := "<init>", desc := "()V", sig := { parameters := [], returnType := none }, accessFlags := 1, code := some k0c0 }
/-- java/lang/Object -/
def k0 : Class := { plain "java/lang/Object" none with
  accessFlags := 33
  interfaces := #[]
  cf := some (fileOf pool0 8 #[] #[{ accessFlags := 1, nameIndex := 5, descriptorIndex := 6, attributes := #[] }] 33 0 #[] #[])
  fields := #[]
  methods := #[k0m0]
  instanceTypes := #[]
  staticTypes := #[]
  resolved := Array.replicate 124 none
  statics := none }

def pool1 : Array CpInfo := pool [(2, .class_ 4), (1, u "java/lang/Object"), (0, u "<init>"), (0, u "()V"), (0, .integer 2147483647), (0, .class_ 9), (0, u "com/example/classweave/classweave/classfile/ClassInput"), (0, .methodref 8 11), (0, .nameAndType 5 12), (0, u "([B)V"), (0, .methodref 8 14), (0, .nameAndType 15 16), (0, u "u2At"), (0, u "(I)I"), (0, .integer 65535), (0, .methodref 8 19), (0, .nameAndType 20 21), (0, u "position"), (0, u "()I"), (0, .class_ 23), (0, u "com/example/classweave/classweave/classfile/ClassInputU2AtPinLaw"), (2, u "law"), (0, u "(IIIII)Z")] 5

def k1m0 : Method := { name := "<init>", desc := "()V", sig := { parameters := [], returnType := none }, accessFlags := 1, code := none }
def k1c1 : Code := { maxStack := 3, maxLocals := 11, code := code, exceptionTable := #[], attributes := #[] }
def k1m1 : Method := { name := "law", desc := "(IIIII)Z", sig := { parameters := [.int, .int, .int, .int, .int], returnType := some .boolean }, accessFlags := 9, code := some k1c1 }
/-- com/example/classweave/classweave/classfile/ClassInputU2AtPinLaw -/
def k1 : Class := { plain "com/example/classweave/classweave/classfile/ClassInputU2AtPinLaw" (some 0) with
  accessFlags := 49
  interfaces := #[]
  cf := some (fileOf pool1 22 #[] #[{ accessFlags := 1, nameIndex := 5, descriptorIndex := 6, attributes := #[] }, { accessFlags := 9, nameIndex := 26, descriptorIndex := 27, attributes := #[] }] 49 2 #[] #[])
  fields := #[]
  methods := #[k1m0, k1m1]
  instanceTypes := #[]
  staticTypes := #[]
  resolved := Array.replicate 33 none
  statics := none }

def pool2 : Array CpInfo := pool [(1, .string 2), (0, u "the file"), (0, .methodref 4 5), (0, .class_ 6), (0, .nameAndType 7 8), (0, u "com/example/classweave/classweave/classfile/ClassInput"), (0, u "<init>"), (0, u "([BIILjava/lang/String;)V"), (0, .methodref 10 11), (0, .class_ 12), (0, .nameAndType 7 13), (0, u "java/lang/Object"), (0, u "()V"), (0, .fieldref 4 15), (0, .nameAndType 16 17), (0, u "bytes"), (0, u "[B"), (0, .fieldref 4 19), (0, .nameAndType 20 21), (0, u "position"), (0, u "I"), (0, .fieldref 4 23), (0, .nameAndType 24 21), (0, u "end"), (0, .fieldref 4 26), (0, .nameAndType 27 28), (0, u "extent"), (0, u "Ljava/lang/String;"), (6, u "u2At"), (0, u "(I)I"), (6, u "()I"), (64, u "([B)V")] 40

def k2c0 : Code := { maxStack := 5, maxLocals := 2, code := prog_40_method_1_code, exceptionTable := #[], attributes := #[] }
def k2m0 : Method := { name := "<init>", desc := "([B)V", sig := { parameters := [(.array .byte)], returnType := none }, accessFlags := 0, code := some k2c0 }
def k2c1 : Code := { maxStack := 2, maxLocals := 5, code := prog_40_method_2_code, exceptionTable := #[], attributes := #[] }
def k2m1 : Method := { name := "<init>", desc := "([BIILjava/lang/String;)V", sig := { parameters := [(.array .byte), .int, .int, (.object "java/lang/String")], returnType := none }, accessFlags := 2, code := some k2c1 }
def k2c2 : Code := { maxStack := 1, maxLocals := 1, code := prog_40_method_3_code, exceptionTable := #[], attributes := #[] }
def k2m2 : Method := { name := "position", desc := "()I", sig := { parameters := [], returnType := some .int }, accessFlags := 0, code := some k2c2 }
def k2c3 : Code := { maxStack := 4, maxLocals := 2, code := prog_40_method_15_code, exceptionTable := #[], attributes := #[] }
def k2m3 : Method := { name := "u2At", desc := "(I)I", sig := { parameters := [.int], returnType := some .int }, accessFlags := 0, code := some k2c3 }
/-- com/example/classweave/classweave/classfile/ClassInput -/
def k2 : Class := { plain "com/example/classweave/classweave/classfile/ClassInput" (some 0) with
  accessFlags := 48
  interfaces := #[]
  cf := some (fileOf pool2 4 #[] #[{ accessFlags := 0, nameIndex := 7, descriptorIndex := 108, attributes := #[] }, { accessFlags := 2, nameIndex := 7, descriptorIndex := 8, attributes := #[] }, { accessFlags := 0, nameIndex := 20, descriptorIndex := 43, attributes := #[] }, { accessFlags := 0, nameIndex := 35, descriptorIndex := 36, attributes := #[] }] 48 10 #[] #[{ accessFlags := 18, nameIndex := 16, descriptorIndex := 17, attributes := #[] }, { accessFlags := 18, nameIndex := 24, descriptorIndex := 21, attributes := #[] }, { accessFlags := 18, nameIndex := 27, descriptorIndex := 28, attributes := #[] }, { accessFlags := 2, nameIndex := 20, descriptorIndex := 21, attributes := #[] }])
  fields := #[{ name := "bytes", type := (.array .byte), accessFlags := 18, slot := 0, constantValue := 0 }, { name := "end", type := .int, accessFlags := 18, slot := 1, constantValue := 0 }, { name := "extent", type := (.object "java/lang/String"), accessFlags := 18, slot := 2, constantValue := 0 }, { name := "position", type := .int, accessFlags := 2, slot := 3, constantValue := 0 }]
  methods := #[k2m0, k2m1, k2m2, k2m3]
  instanceTypes := #[(.array .byte), .int, (.object "java/lang/String"), .int]
  staticTypes := #[]
  resolved := Array.replicate 149 none
  statics := none }

def pool3 : Array CpInfo := pool [(1, .class_ 2), (0, u "java/io/Serializable"), (0, .class_ 4), (0, u "java/lang/Object")] 2

/-- java/io/Serializable -/
def k3 : Class := { plain "java/io/Serializable" (some 0) with
  accessFlags := 1537
  interfaces := #[]
  cf := some (fileOf pool3 1 #[] #[] 1537 3 #[] #[])
  fields := #[]
  methods := #[]
  instanceTypes := #[]
  staticTypes := #[]
  resolved := Array.replicate 7 none
  statics := none }

def pool4 : Array CpInfo := pool [(1, .class_ 2), (0, u "java/lang/Comparable"), (0, .class_ 4), (0, u "java/lang/Object")] 7

/-- java/lang/Comparable -/
def k4 : Class := { plain "java/lang/Comparable" (some 0) with
  accessFlags := 1537
  interfaces := #[]
  cf := some (fileOf pool4 1 #[] #[] 1537 3 #[] #[])
  fields := #[]
  methods := #[]
  instanceTypes := #[]
  staticTypes := #[]
  resolved := Array.replicate 12 none
  statics := none }

def pool5 : Array CpInfo := pool [(2, .class_ 4), (1, u "java/lang/CharSequence"), (42, .class_ 48), (0, u "java/lang/CharSequence$1CodePointIterator"), (10, .class_ 60), (0, u "java/lang/CharSequence$1CharIterator"), (5, .class_ 67), (0, u "java/lang/Object")] 63

/-- java/lang/CharSequence -/
def k5 : Class := { plain "java/lang/CharSequence" (some 0) with
  accessFlags := 1537
  interfaces := #[]
  cf := some (fileOf pool5 2 #[.nestMembers #[47, 59]] #[] 1537 66 #[] #[])
  fields := #[]
  methods := #[]
  instanceTypes := #[]
  staticTypes := #[]
  resolved := Array.replicate 131 none
  statics := none }

def pool6 : Array CpInfo := pool [(1, .class_ 2), (0, u "java/lang/constant/Constable"), (0, .class_ 4), (0, u "java/lang/Object")] 6

/-- java/lang/constant/Constable -/
def k6 : Class := { plain "java/lang/constant/Constable" (some 0) with
  accessFlags := 1537
  interfaces := #[]
  cf := some (fileOf pool6 1 #[] #[] 1537 3 #[] #[])
  fields := #[]
  methods := #[]
  instanceTypes := #[]
  staticTypes := #[]
  resolved := Array.replicate 11 none
  statics := none }

def pool7 : Array CpInfo := pool [(1, .class_ 2), (0, u "java/lang/constant/ConstantDesc"), (0, .class_ 4), (0, u "java/lang/Object")] 32

/-- java/lang/constant/ConstantDesc -/
def k7 : Class := { plain "java/lang/constant/ConstantDesc" (some 0) with
  accessFlags := 1537
  interfaces := #[]
  cf := some (fileOf pool7 1 #[] #[] 1537 3 #[] #[])
  fields := #[]
  methods := #[]
  instanceTypes := #[]
  staticTypes := #[]
  resolved := Array.replicate 37 none
  statics := none }

def pool8 : Array CpInfo := pool [(2, .class_ 4), (1, u "java/lang/Object"), (0, u "<init>"), (0, u "()V"), (3, .class_ 12), (1, u "java/lang/String"), (0, u "value"), (0, u "[B"), (2, u "coder"), (0, u "B"), (2, u "hash"), (0, u "I"), (2, u "hashIsZero"), (0, u "Z"), (13, u "COMPACT_STRINGS"), (534, .class_ 576), (0, u "java/lang/CharSequence"), (22, u "CASE_INSENSITIVE_ORDER"), (0, u "Ljava/util/Comparator;"), (500, u "serialPersistentFields"), (0, u "[Ljava/io/ObjectStreamField;"), (0, .class_ 1104), (0, u "java/lang/String$CaseInsensitiveComparator"), (1, .class_ 1107), (0, u "java/io/Serializable"), (0, .class_ 1109), (0, u "java/lang/Comparable"), (0, .class_ 1111), (0, u "java/lang/constant/Constable"), (0, .class_ 1113), (0, u "java/lang/constant/ConstantDesc"), (2, u "serialVersionUID"), (0, u "J"), (3, u "REPL"), (0, u "C"), (2, u "LATIN1"), (1, u "UTF16")] 323

def k8m0 : Method := { name := "<init>", desc := "()V", sig := { parameters := [], returnType := none }, accessFlags := 1, code := none }
/-- java/lang/String -/
def k8 : Class := { plain "java/lang/String" (some 0) with
  accessFlags := 49
  interfaces := #[3, 4, 5, 6, 7]
  cf := some (fileOf pool8 10 #[.nestMembers #[1103]] #[{ accessFlags := 1, nameIndex := 5, descriptorIndex := 6, attributes := #[] }] 49 2 #[1106, 1108, 575, 1110, 1112] #[{ accessFlags := 18, nameIndex := 13, descriptorIndex := 14, attributes := #[] }, { accessFlags := 18, nameIndex := 17, descriptorIndex := 18, attributes := #[] }, { accessFlags := 2, nameIndex := 21, descriptorIndex := 22, attributes := #[] }, { accessFlags := 2, nameIndex := 25, descriptorIndex := 26, attributes := #[] }, { accessFlags := 26, nameIndex := 1116, descriptorIndex := 1117, attributes := #[] }, { accessFlags := 24, nameIndex := 40, descriptorIndex := 26, attributes := #[] }, { accessFlags := 26, nameIndex := 1101, descriptorIndex := 1102, attributes := #[] }, { accessFlags := 26, nameIndex := 1121, descriptorIndex := 1122, attributes := #[] }, { accessFlags := 25, nameIndex := 599, descriptorIndex := 600, attributes := #[] }, { accessFlags := 24, nameIndex := 1125, descriptorIndex := 18, attributes := #[] }, { accessFlags := 24, nameIndex := 1127, descriptorIndex := 18, attributes := #[] }])
  fields := #[{ name := "value", type := (.array .byte), accessFlags := 18, slot := 0, constantValue := 0 }, { name := "coder", type := .byte, accessFlags := 18, slot := 1, constantValue := 0 }, { name := "hash", type := .int, accessFlags := 2, slot := 2, constantValue := 0 }, { name := "hashIsZero", type := .boolean, accessFlags := 2, slot := 3, constantValue := 0 }, { name := "serialVersionUID", type := .long, accessFlags := 26, slot := 0, constantValue := 0 }, { name := "COMPACT_STRINGS", type := .boolean, accessFlags := 24, slot := 1, constantValue := 0 }, { name := "serialPersistentFields", type := (.array (.object "java/io/ObjectStreamField")), accessFlags := 26, slot := 2, constantValue := 0 }, { name := "REPL", type := .char, accessFlags := 26, slot := 3, constantValue := 0 }, { name := "CASE_INSENSITIVE_ORDER", type := (.object "java/util/Comparator"), accessFlags := 25, slot := 4, constantValue := 0 }, { name := "LATIN1", type := .byte, accessFlags := 24, slot := 5, constantValue := 0 }, { name := "UTF16", type := .byte, accessFlags := 24, slot := 6, constantValue := 0 }]
  methods := #[k8m0]
  instanceTypes := #[(.array .byte), .byte, .int, .boolean]
  staticTypes := #[.long, .boolean, (.array (.object "java/io/ObjectStreamField")), .char, (.object "java/util/Comparator"), .byte, .byte]
  resolved := Array.replicate 1451 none
  statics := none }

def pool9 : Array CpInfo := pool [(1, u "java/lang/Cloneable"), (0, .class_ 1), (0, u "java/lang/Object"), (0, .class_ 3)] 3

/-- java/lang/Cloneable -/
def k9 : Class := { plain "java/lang/Cloneable" (some 0) with
  accessFlags := 1537
  interfaces := #[]
  cf := some (fileOf pool9 2 #[] #[] 1537 4 #[] #[])
  fields := #[]
  methods := #[]
  instanceTypes := #[]
  staticTypes := #[]
  resolved := Array.replicate 8 none
  statics := none }

/-- the primitive byte -/
def k10 : Class := { plain "byte" none with kind := .primitive 'B', accessFlags := 0x411 }
/-- [B -/
def k11 : Class := { plain "[B" (some 0) with kind := .array 10 .byte, interfaces := #[9, 3], accessFlags := 1041 }

/-- the primitive int -/
def k12 : Class := { plain "int" none with kind := .primitive 'I', accessFlags := 0x411 }
/-- [I -/
def k13 : Class := { plain "[I" (some 0) with kind := .array 12 .int, interfaces := #[9, 3], accessFlags := 1041 }

def heap : Heap := #[]
def classes : Array Class := #[k0, k1, k2, k3, k4, k5, k6, k7, k8, k9, k10, k11, k12, k13]
def interned : List (Array UInt16 × Addr) := []
def slotsUsed : Nat := 0
def theMethod : MethodId := ⟨1, 1⟩
def args0 : Array Value := #[.int 9, .int 5, .int 7, .int 3, .int 4]
def aboutOver (below : List Frame) : State where
  vm := { classes := classes, interned := interned.toArray }
  heap := heap
  slotsUsed := slotsUsed
  threads := #[{ frames := .invoking theMethod args0 :: below }]
def below0 : List Frame := [.native { method := ⟨0, 0⟩, args := #[] }]
def about1 : State := aboutOver below0
def p0 : Program := .bare "" "" ""
def e0 : Env := launch0.env 0 0 0
theorem w_frames : about1.frames = Frame.invoking theMethod args0 :: below0 := rfl
set_option maxRecDepth 65536 in
theorem w_args : argsFit about1.vm theMethod args0 = true := by decide +kernel
set_option maxRecDepth 65536 in
theorem w_heap : heapFits about1 = true := by decide +kernel
set_option maxRecDepth 65536 in
theorem w_runnable : about1.curStatus? = some .runnable := by decide +kernel
set_option maxRecDepth 65536 in
theorem w_alone : about1.alone = true := by decide +kernel
set_option maxRecDepth 65536 in
theorem w_named : about1.methodNamed? x = some theMethod := by decide +kernel
set_option maxRecDepth 65536 in
theorem w_hears : about1.hears theMethod below0 = true := by decide +kernel
set_option maxRecDepth 65536 in
theorem w_ripe : about1.ripe theMethod args0 below0 = true := by decide +kernel
theorem w_running : about1.status = .running := rfl
set_option maxRecDepth 65536 in
theorem w_room : about1.hasRoom e0.platform room_1 = true :=
  launch0.hasRoom_least _ room_1 (by decide +kernel) (by decide +kernel) (by decide +kernel) (by decide +kernel) (by decide +kernel) (by decide +kernel)
theorem allAtoms_all (ts : List Jvm.Cond) (a : Array Jvm.Value) (st : Jvm.State) : (allAtoms ts).before a st = ts.all (fun c => c.before a st) := by
  induction ts with
  | nil => rfl
  | cons c t ih =>
    show (Jvm.Cond.and c (allAtoms t)).before a st = _
    rw [Jvm.Cond.before_and, ih, List.all_cons]
def words1 : List Jvm.Cond := Jvm.Cond.code x code maxLocals ret :: tables_1
/-- a 'code' word, met by the world's own term for the bytes: nothing is compared byte by byte -/
theorem code_word {y : MethodName} {bytes : ByteArray} {mx : Nat} {rt : Option FieldType} {a : Array Value} {s : State} {m : MethodId} {meth : Method} {c : Code} (h1 : s.methodNamed? y = some m) (h2 : s.vm.method? m = some meth) (h3 : meth.code = some c) (h4 : c.code = bytes)
    (h5 : (c.maxLocals == mx && c.exceptionTable.isEmpty && decide (c.maxStack ≤ mostOperands) && decide (meth.sig.returnType = rt) && !meth.locks && decide (parseMethodDescriptor y.desc = some meth.sig)) = true) : (Jvm.Cond.code y bytes mx rt).before a s = true := by
  simp only [Bool.and_eq_true, beq_iff_eq, Bool.not_eq_true', decide_eq_true_eq] at h5
  obtain ⟨⟨⟨⟨⟨g1, g2⟩, g3⟩, g4⟩, g5⟩, g6⟩ := h5
  simp [Cond.before, Cond.holds, Cond.value, h1, h2, h3, h4, g1, g2, g3, g4, g5, g6]
def isCode : Jvm.Cond → Bool
  | .code _ _ _ _ => true
  | _ => false
theorem all_split {L : List Jvm.Cond} {P : Jvm.Cond → Bool} (h1 : L.all (fun c => isCode c || P c) = true) (h2 : ∀ c ∈ L.filter isCode, P c = true) : L.all P = true := by
  refine List.all_eq_true.mpr fun c hc => ?_
  have h := List.all_eq_true.mp h1 c hc
  rcases Bool.eq_false_or_eq_true (isCode c) with hi | hi
  · exact h2 c (List.mem_filter.mpr ⟨hc, hi⟩)
  · simpa [hi] using h
set_option maxRecDepth 65536 in
theorem w_c0 : (Jvm.Cond.code x code maxLocals ret).before args0 about1 = true := code_word (m := ⟨1, 1⟩) (meth := k1m1) (c := k1c1) (by decide +kernel) rfl rfl rfl (by decide +kernel)
set_option maxRecDepth 65536 in
theorem w_c1 : (Jvm.Cond.code ({ cls := "com/example/classweave/classweave/classfile/ClassInput", name := "<init>", desc := "([B)V" } : Jvm.MethodName) prog_40_method_1_code (2 : Nat) (Option.none : Option Jvm.ClassFile.FieldType)).before args0 about1 = true := code_word (m := ⟨2, 0⟩) (meth := k2m0) (c := k2c0) (by decide +kernel) rfl rfl rfl (by decide +kernel)
set_option maxRecDepth 65536 in
theorem w_c2 : (Jvm.Cond.code ({ cls := "com/example/classweave/classweave/classfile/ClassInput", name := "<init>", desc := "([BIILjava/lang/String;)V" } : Jvm.MethodName) prog_40_method_2_code (5 : Nat) (Option.none : Option Jvm.ClassFile.FieldType)).before args0 about1 = true := code_word (m := ⟨2, 1⟩) (meth := k2m1) (c := k2c1) (by decide +kernel) rfl rfl rfl (by decide +kernel)
set_option maxRecDepth 65536 in
theorem w_c3 : (Jvm.Cond.code ({ cls := "java/lang/Object", name := "<init>", desc := "()V" } : Jvm.MethodName) object_method_1_code (1 : Nat) (Option.none : Option Jvm.ClassFile.FieldType)).before args0 about1 = true := code_word (m := ⟨0, 0⟩) (meth := k0m0) (c := k0c0) (by decide +kernel) rfl rfl rfl (by decide +kernel)
set_option maxRecDepth 65536 in
theorem w_c4 : (Jvm.Cond.code ({ cls := "com/example/classweave/classweave/classfile/ClassInput", name := "u2At", desc := "(I)I" } : Jvm.MethodName) prog_40_method_15_code (2 : Nat) (Option.some Jvm.ClassFile.FieldType.int)).before args0 about1 = true := code_word (m := ⟨2, 3⟩) (meth := k2m3) (c := k2c3) (by decide +kernel) rfl rfl rfl (by decide +kernel)
set_option maxRecDepth 65536 in
theorem w_c5 : (Jvm.Cond.code ({ cls := "com/example/classweave/classweave/classfile/ClassInput", name := "position", desc := "()I" } : Jvm.MethodName) prog_40_method_3_code (1 : Nat) (Option.some Jvm.ClassFile.FieldType.int)).before args0 about1 = true := code_word (m := ⟨2, 2⟩) (meth := k2m2) (c := k2c2) (by decide +kernel) rfl rfl rfl (by decide +kernel)
def codes1 : List Jvm.Cond := [Jvm.Cond.code x code maxLocals ret, Jvm.Cond.code ({ cls := "com/example/classweave/classweave/classfile/ClassInput", name := "<init>", desc := "([B)V" } : Jvm.MethodName) prog_40_method_1_code (2 : Nat) (Option.none : Option Jvm.ClassFile.FieldType), Jvm.Cond.code ({ cls := "com/example/classweave/classweave/classfile/ClassInput", name := "<init>", desc := "([BIILjava/lang/String;)V" } : Jvm.MethodName) prog_40_method_2_code (5 : Nat) (Option.none : Option Jvm.ClassFile.FieldType), Jvm.Cond.code ({ cls := "java/lang/Object", name := "<init>", desc := "()V" } : Jvm.MethodName) object_method_1_code (1 : Nat) (Option.none : Option Jvm.ClassFile.FieldType), Jvm.Cond.code ({ cls := "com/example/classweave/classweave/classfile/ClassInput", name := "u2At", desc := "(I)I" } : Jvm.MethodName) prog_40_method_15_code (2 : Nat) (Option.some Jvm.ClassFile.FieldType.int), Jvm.Cond.code ({ cls := "com/example/classweave/classweave/classfile/ClassInput", name := "position", desc := "()I" } : Jvm.MethodName) prog_40_method_3_code (1 : Nat) (Option.some Jvm.ClassFile.FieldType.int)]
set_option maxRecDepth 65536 in
theorem codes_eq : words1.filter isCode = codes1 := rfl
theorem w_codes : ∀ c ∈ words1.filter isCode, c.before args0 about1 = true := by
  rw [codes_eq]
  intro c hc
  simp only [codes1, List.mem_cons, List.not_mem_nil, or_false] at hc
  rcases hc with rfl | rfl | rfl | rfl | rfl | rfl
  · exact w_c0
  · exact w_c1
  · exact w_c2
  · exact w_c3
  · exact w_c4
  · exact w_c5
set_option maxRecDepth 65536 in
theorem w_t1 : (words1.take 24).all (fun c => isCode c || c.before args0 about1) = true := by decide +kernel
set_option maxRecDepth 65536 in
theorem w_t2 : (words1.drop 24).all (fun c => isCode c || c.before args0 about1) = true := by decide +kernel
theorem w_tables : (allAtoms (Jvm.Cond.code x code maxLocals ret :: tables_1)).before args0 about1 = true := by
  rw [allAtoms_all]
  show words1.all (fun c => c.before args0 about1) = true
  refine all_split ?_ w_codes
  rw [← List.take_append_drop 24 words1, List.all_append, w_t1, w_t2]
  rfl
set_option maxRecDepth 65536 in
theorem w_case : (Jvm.Cond.and given_1 narrow_1).before args0 about1 = true := by decide +kernel
theorem w_applies : (headSpec (Jvm.Cond.code x code maxLocals ret :: tables_1) room_1).applies x e0.platform about1 = true :=
  (Spec.applies_iff w_frames).mpr ⟨w_running, w_runnable, w_alone, w_named, w_hears, w_ripe, w_room, w_tables⟩
theorem atStart : AtStart classFile x code maxLocals ret World_1 tables_1 room_1 Calls_1 rest_1 Pre_1 launch0 p0 e0 about1 theMethod args0 below0 :=
  ⟨lists_1, trivial, launch0.admits_env _ _ _, launch0.least_env, fairChoices_fair.cas, fairChoices_fair.clock, w_frames, w_args, w_heap, w_applies, trivial, trivial, w_case⟩
end start1
theorem witness_1 : WitnessClaimed_1 := ⟨start1.p0, start1.e0, start1.about1, start1.theMethod, start1.args0, start1.below0, start1.atStart⟩
end Jvm.Pilot.@@N@@
