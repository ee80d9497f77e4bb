import JvmDerived
import JvmDerived.Pilot.@@N@@Statement
import JvmDerived.Pilot.@@N@@Code
set_option linter.unusedVariables false
set_option linter.unusedSimpArgs false
namespace Jvm.RoadKit
open Sem ClassFile Op Lib Jvm.Stand Jvm.Free Jvm.LawKit
section New
variable {p : Program} {l : Launch} {e : Env} {R : Room} {s : State} {m : MethodId} {args : Array Value} {below : List Frame} {meth : Method} {c : Code} {T : State} {locs : List Loc} {cells slots : Nat}
theorem retI (X : Stand p l e R s m args below meth c T locs cells slots) (hx : p.tables.exec = Jvm.exec) {pc : Nat} {Ls : Array Slot} {z : Int32} {rest : List Value} (hret : meth.sig.returnType = some .int) (hd : decode c.code pc = .ok (.ireturn, 1)) {fs : List Frame}
    (hl : ∀ (f : JFrame) (acts : List Action), f.method = m → f.locked = none → f.entered = [] → (doReturn e (T.setTop f) acts (some (.int z))).1 = T.setFrames fs) : Steps p.tables e below (T.setTop (mkF m pc Ls (.int z :: rest))) (T.setFrames fs) := by
  have hm' : T.vm.method? m = some meth := X.method'
  have hn : narrow .int (.int z) = .int z := rfl
  show Steps p.tables e below (T.setTop { method := m, pc := pc, locals := Ls, stack := _ :: rest, locked := none }) _
  jvm_step X.here [X.here.top, hx, hd, hm', hret, hn]
  first | (intro acts; rw [hl _ acts rfl rfl rfl]) | rw [hl _ _ rfl rfl rfl]
  exact Steps.refl _
end New
end Jvm.RoadKit
namespace Jvm.Pilot.@@N@@
open Jvm Jvm.ClassFile Sem Op Lib Jvm.Free Jvm.Stand Jvm.LawKit Jvm.RoadKit Bundle Jvm.Pilot.@@N@@.Jvm.D
/-- a body that leaves the heap as it was and returns w -/
def QP (w : Option Value) (h0 : Heap) (n0 : Nat) (v : Option Value) (h : Heap) (L : List Loc) : Prop := v = w ∧ Fr n0 L ∧ h = h0
theorem pd_0 : parseMethodDescriptor "(I)V" = some ⟨[.int], none⟩ := by decide +kernel
theorem pd_1 : parseMethodDescriptor "()V" = some ⟨[], none⟩ := by decide +kernel
theorem pd_2 : parseMethodDescriptor "(II)I" = some ⟨[.int, .int], some .int⟩ := by decide +kernel
theorem pd_3 : parseMethodDescriptor "([BI)[B" = some ⟨[(.array .byte), .int], some (.array .byte)⟩ := by decide +kernel
theorem pd_4 : parseMethodDescriptor "(II)V" = some ⟨[.int, .int], none⟩ := by decide +kernel
theorem pd_5 : parseMethodDescriptor "()[B" = some ⟨[], some (.array .byte)⟩ := by decide +kernel
theorem pd_6 : parseMethodDescriptor "()I" = some ⟨[], some .int⟩ := by decide +kernel
theorem pd_7 : parseMethodDescriptor "([BIIIII)Z" = some ⟨[(.array .byte), .int, .int, .int, .int, .int], some .boolean⟩ := by decide +kernel
section OwnAV
/-- an array whose places hold just vs -/
def own_AV (Z : State) (h : Heap) (a : Addr) (ty : FieldType) (vs : List Value) : Prop := ∃ c : Cell, Arr Z h a c ty ∧ c.slots.toList = vs
theorem own_AV.lt {Z : State} {h : Heap} {a : Addr} {ty : FieldType} {vs : List Value} (F : own_AV Z h a ty vs) : a < h.size := by obtain ⟨c, A, -⟩ := F; exact A.lt
theorem own_AV.ext {Z : State} {h h' : Heap} {a : Addr} {ty : FieldType} {vs : List Value} (F : own_AV Z h a ty vs) (E : Ext h h') : own_AV Z h' a ty vs := by obtain ⟨c, A, r⟩ := F; exact ⟨c, A.ext E, r⟩
theorem own_AV.keep {Z : State} {h h' : Heap} {a : Addr} {ty : FieldType} {vs : List Value} {ws : List Addr} (F : own_AV Z h a ty vs) (K : Keep h h' ws) (q : a ∉ ws) : own_AV Z h' a ty vs := by obtain ⟨c, A, r⟩ := F; exact ⟨c, ⟨K.2.1 a c A.1 q, A.2⟩, r⟩
theorem own_AV.other {Z : State} {h h' : Heap} {a b : Addr} {ty : FieldType} {vs : List Value} {sl : Nat} {v : Value} (F : own_AV Z h a ty vs) (W : Wr h h' b sl v) (q : a ≠ b) : own_AV Z h' a ty vs := by obtain ⟨c, A, r⟩ := F; exact ⟨c, A.other W q, r⟩
theorem own_AV.new {Z : State} {h : Heap} {a : Addr} {ty : FieldType} {k : ClassId} {n : Int32} {i : Nat} (A : Arr Z h a (newA k ty n) ty) (hn : n.toNatClampNeg = i) : own_AV Z h a ty (List.replicate i (defaultValue ty)) := ⟨_, A, by subst hn; simp [newA]⟩
theorem own_sz {c : Cell} {vs : List Value} (q : c.slots.toList = vs) : c.slots.size = vs.length := by rw [← q]; simp
theorem own_inb {c : Cell} {vs : List Value} {j : Int32} {n : Nat} (q : c.slots.toList = vs) (hl : vs.length = n) (h0 : ¬ j < 0) (h1 : j.toNatClampNeg < n) : ¬ (j < 0 ∨ c.slots.size ≤ j.toNatClampNeg) := fun r => r.elim h0 fun z => by rw [own_sz q, hl] at z; omega
theorem own_get {c : Cell} {vs : List Value} {j : Int32} {i : Nat} {v : Value} (q : c.slots.toList = vs) (hj : j.toNatClampNeg = i) (hv : vs[i]? = some v) : c.slots[j.toNatClampNeg]? = some v := by rw [hj, ← hv, ← q]; simp
theorem own_len {c : Cell} {vs : List Value} {n : Int32} (q : c.slots.toList = vs) (h : vs.length.toInt32 = n) : c.slots.size.toInt32 = n := by rw [own_sz q, h]
theorem own_AV.set {Z : State} {h h' : Heap} {a : Addr} {ty : FieldType} {vs vs' : List Value} {c : Cell} {j : Int32} {i : Nat} {v : Value} (A : Arr Z h a c ty) (q : c.slots.toList = vs) (W : Wr h h' a j.toNatClampNeg v) (hj : j.toNatClampNeg = i) (e : vs.set i v = vs') : own_AV Z h' a ty vs' := ⟨_, A.same W, by rw [← e, ← q, ← hj]; simp [Cell.setSlot]⟩
end OwnAV
def own_max (p0 : Int32) (p1 : Int32) : Int32 := (if p0 < p1 then p1 else p0)
theorem d6_0 : decode jdk_29_method_65_code 0 = .ok (.iload_n 0, 1) := by decide +kernel
theorem d6_1 : decode jdk_29_method_65_code 1 = .ok (.iload_n 1, 1) := by decide +kernel
theorem d6_2 : decode jdk_29_method_65_code 2 = .ok (.if_icmp .lt 7, 3) := by decide +kernel
theorem d6_5 : decode jdk_29_method_65_code 5 = .ok (.iload_n 0, 1) := by decide +kernel
theorem d6_6 : decode jdk_29_method_65_code 6 = .ok (.goto 4, 3) := by decide +kernel
theorem d6_9 : decode jdk_29_method_65_code 9 = .ok (.iload_n 1, 1) := by decide +kernel
theorem d6_10 : decode jdk_29_method_65_code 10 = .ok (.ireturn, 1) := by decide +kernel
theorem ef_6 (m : MethodId) (p0 : Int32) (p1 : Int32) : entryFrame m #[(.int p0), (.int p1)] 2 = mkF m 0 #[.val (.int p0), .val (.int p1)] [] := by first | (simp [entryFrame, mkF, argsToLocals, Value.category]; done) | rfl
set_option maxRecDepth 65536 in
set_option maxHeartbeats 40000000 in
theorem rm6 (l : Launch) (Z : State) (a0 : Array Value) (hw : ∀ d ∈ tables_1, d.before a0 Z = true) (ws : List Jvm.Cond) (p0 : Int32) (p1 : Int32) (h0 : Heap) (n0 : Nat) :
    MetFree l (⟨"java/lang/Math", "max", "(II)I"⟩ : MethodName) (head1 (Jvm.Cond.code (⟨"java/lang/Math", "max", "(II)I"⟩ : MethodName) jdk_29_method_65_code 2 (some .int) :: ws) ({ frames := 0, cells := 0, slots := 0, locals := 0 } : Room)) (fun a U => a = #[(.int p0), (.int p1)] ∧ Z.Warmed39 U.vm ∧ U.heap = h0) (fun _ _ _ _ _ => True) (fun _ U o U' => ∃ v L, o = .returned v ∧ QP (some (.int (own_max p0 p1))) h0 n0 v U'.heap L ∧ FrameEnd U o U' L ({ frames := 0, cells := 0, slots := 0, locals := 0 } : Room).cells ({ frames := 0, cells := 0, slots := 0, locals := 0 } : Room).slots) := by
  refine MetFree.of_bodySF (Jvm.Free.JP.mathPlain rfl (by decide +kernel)) hisR ?_
  intro p e s m args below meth c s₁ Bd hml0 hP hK
  obtain ⟨rfl, hZ, hh⟩ := hP
  have hx := Bd.exec
  have hby := Bd.bytes
  have hml : c.maxLocals = 2 := hml0
  have hown : s.vm.findClass "java/lang/Math" = some m.cls := findClass_of_methodNamed Bd.named
  have hnm := (name_of_methodNamed Bd.named Bd.method).1
  have X0 : Stand p l e ({ frames := 0, cells := 0, slots := 0, locals := 0 } : Room) s m #[(.int p0), (.int p1)] below meth c s₁ [] 0 0 := Stand.of_body Bd
  have e0 : s₁.heap = h0 := by rw [← hh, Bd.state]; rfl
  have N0 := Fr.nil n0
  have go0 : ∀ t, Steps p.tables e below (s₁.setTop (mkF m 0 #[.val (.int p0), .val (.int p1)] [])) t → Steps p.tables e below (s₁.setTop (entryFrame m #[(.int p0), (.int p1)] 2)) t := fun t k => castTop (ef_6 m p0 p1) k
  have go1 : ∀ t, Steps p.tables e below (s₁.setTop (mkF m 2 #[.val (.int p0), .val (.int p1)] [(.int p1), (.int p0)])) t → Steps p.tables e below (s₁.setTop (entryFrame m #[(.int p0), (.int p1)] 2)) t := fun t kt => go0 t (by
      refine XS.iloadN X0.here hx rfl (hb hby d6_0) rfl ?_
      show Steps p.tables e below (s₁.setTop (mkF m 1 #[.val (.int p0), .val (.int p1)] [(.int p0)])) _
      refine XS.iloadN X0.here hx rfl (hb hby d6_1) rfl ?_
      show Steps p.tables e below (s₁.setTop (mkF m 2 #[.val (.int p0), .val (.int p1)] [(.int p1), (.int p0)])) _
      exact kt)
  by_cases hc2_2 : p0 < p1
  · have go3 : ∀ t, Steps p.tables e below (s₁.setTop (mkF m 10 #[.val (.int p0), .val (.int p1)] [(.int p1)])) t → Steps p.tables e below (s₁.setTop (entryFrame m #[(.int p0), (.int p1)] 2)) t := fun t kt => go1 t (by
        refine XS.icmpYes X0.here hx rfl (pc0 := 2) (pc' := 9) rfl (hb hby d6_2) rfl (tlt hc2_2).1 (by decide) (by decide) ?_
        show Steps p.tables e below (s₁.setTop (mkF m 9 #[.val (.int p0), .val (.int p1)] [])) _
        refine XS.iloadN X0.here hx rfl (hb hby d6_9) rfl ?_
        show Steps p.tables e below (s₁.setTop (mkF m 10 #[.val (.int p0), .val (.int p1)] [(.int p1)])) _
        exact kt)
    obtain ⟨fs, hr, hrun, hended, hW, hsame⟩ := X0.leave (v := some (.int p1)) (fun h => by rw [Bd.returns] at h; cases h)
    refine ⟨_, _, go3 _ (retI X0 hx Bd.returns (hb hby d6_10) hr), hrun, hended, _, _, rfl, ?_, ⟨_, rfl⟩, hW, hsame.mono (by decide) (by decide)⟩
    refine ⟨?_, N0, e0⟩
    show some (Value.int p1) = some (.int (own_max p0 p1))
    unfold own_max
    rw [if_pos hc2_2]
  · have go4 : ∀ t, Steps p.tables e below (s₁.setTop (mkF m 10 #[.val (.int p0), .val (.int p1)] [(.int p0)])) t → Steps p.tables e below (s₁.setTop (entryFrame m #[(.int p0), (.int p1)] 2)) t := fun t kt => go1 t (by
        refine XS.icmpNo X0.here hx rfl (hb hby d6_2) rfl (flt hc2_2).1 ?_
        show Steps p.tables e below (s₁.setTop (mkF m 5 #[.val (.int p0), .val (.int p1)] [])) _
        refine XS.iloadN X0.here hx rfl (hb hby d6_5) rfl ?_
        show Steps p.tables e below (s₁.setTop (mkF m 6 #[.val (.int p0), .val (.int p1)] [(.int p0)])) _
        refine XS.goto X0.here hx rfl (pc0 := 6) (pc' := 10) rfl (hb hby d6_6) (by decide) (by decide) ?_
        show Steps p.tables e below (s₁.setTop (mkF m 10 #[.val (.int p0), .val (.int p1)] [(.int p0)])) _
        exact kt)
    obtain ⟨fs, hr, hrun, hended, hW, hsame⟩ := X0.leave (v := some (.int p0)) (fun h => by rw [Bd.returns] at h; cases h)
    refine ⟨_, _, go4 _ (retI X0 hx Bd.returns (hb hby d6_10) hr), hrun, hended, _, _, rfl, ?_, ⟨_, rfl⟩, hW, hsame.mono (by decide) (by decide)⟩
    refine ⟨?_, N0, e0⟩
    show some (Value.int p0) = some (.int (own_max p0 p1))
    unfold own_max
    rw [if_neg hc2_2]
def own_min (p0 : Int32) (p1 : Int32) : Int32 := (if p1 < p0 then p1 else p0)
theorem d8_0 : decode jdk_29_method_69_code 0 = .ok (.iload_n 0, 1) := by decide +kernel
theorem d8_1 : decode jdk_29_method_69_code 1 = .ok (.iload_n 1, 1) := by decide +kernel
theorem d8_2 : decode jdk_29_method_69_code 2 = .ok (.if_icmp .gt 7, 3) := by decide +kernel
theorem d8_5 : decode jdk_29_method_69_code 5 = .ok (.iload_n 0, 1) := by decide +kernel
theorem d8_6 : decode jdk_29_method_69_code 6 = .ok (.goto 4, 3) := by decide +kernel
theorem d8_9 : decode jdk_29_method_69_code 9 = .ok (.iload_n 1, 1) := by decide +kernel
theorem d8_10 : decode jdk_29_method_69_code 10 = .ok (.ireturn, 1) := by decide +kernel
theorem ef_8 (m : MethodId) (p0 : Int32) (p1 : Int32) : entryFrame m #[(.int p0), (.int p1)] 2 = mkF m 0 #[.val (.int p0), .val (.int p1)] [] := by first | (simp [entryFrame, mkF, argsToLocals, Value.category]; done) | rfl
set_option maxRecDepth 65536 in
set_option maxHeartbeats 40000000 in
theorem rm8 (l : Launch) (Z : State) (a0 : Array Value) (hw : ∀ d ∈ tables_1, d.before a0 Z = true) (ws : List Jvm.Cond) (p0 : Int32) (p1 : Int32) (h0 : Heap) (n0 : Nat) :
    MetFree l (⟨"java/lang/Math", "min", "(II)I"⟩ : MethodName) (head1 (Jvm.Cond.code (⟨"java/lang/Math", "min", "(II)I"⟩ : MethodName) jdk_29_method_69_code 2 (some .int) :: ws) ({ frames := 0, cells := 0, slots := 0, locals := 0 } : Room)) (fun a U => a = #[(.int p0), (.int p1)] ∧ Z.Warmed39 U.vm ∧ U.heap = h0) (fun _ _ _ _ _ => True) (fun _ U o U' => ∃ v L, o = .returned v ∧ QP (some (.int (own_min p0 p1))) h0 n0 v U'.heap L ∧ FrameEnd U o U' L ({ frames := 0, cells := 0, slots := 0, locals := 0 } : Room).cells ({ frames := 0, cells := 0, slots := 0, locals := 0 } : Room).slots) := by
  refine MetFree.of_bodySF (Jvm.Free.JP.mathPlain rfl (by decide +kernel)) hisR ?_
  intro p e s m args below meth c s₁ Bd hml0 hP hK
  obtain ⟨rfl, hZ, hh⟩ := hP
  have hx := Bd.exec
  have hby := Bd.bytes
  have hml : c.maxLocals = 2 := hml0
  have hown : s.vm.findClass "java/lang/Math" = some m.cls := findClass_of_methodNamed Bd.named
  have hnm := (name_of_methodNamed Bd.named Bd.method).1
  have X0 : Stand p l e ({ frames := 0, cells := 0, slots := 0, locals := 0 } : Room) s m #[(.int p0), (.int p1)] below meth c s₁ [] 0 0 := Stand.of_body Bd
  have e0 : s₁.heap = h0 := by rw [← hh, Bd.state]; rfl
  have N0 := Fr.nil n0
  have go0 : ∀ t, Steps p.tables e below (s₁.setTop (mkF m 0 #[.val (.int p0), .val (.int p1)] [])) t → Steps p.tables e below (s₁.setTop (entryFrame m #[(.int p0), (.int p1)] 2)) t := fun t k => castTop (ef_8 m p0 p1) k
  have go1 : ∀ t, Steps p.tables e below (s₁.setTop (mkF m 2 #[.val (.int p0), .val (.int p1)] [(.int p1), (.int p0)])) t → Steps p.tables e below (s₁.setTop (entryFrame m #[(.int p0), (.int p1)] 2)) t := fun t kt => go0 t (by
      refine XS.iloadN X0.here hx rfl (hb hby d8_0) rfl ?_
      show Steps p.tables e below (s₁.setTop (mkF m 1 #[.val (.int p0), .val (.int p1)] [(.int p0)])) _
      refine XS.iloadN X0.here hx rfl (hb hby d8_1) rfl ?_
      show Steps p.tables e below (s₁.setTop (mkF m 2 #[.val (.int p0), .val (.int p1)] [(.int p1), (.int p0)])) _
      exact kt)
  by_cases hc2_2 : p1 < p0
  · have go3 : ∀ t, Steps p.tables e below (s₁.setTop (mkF m 10 #[.val (.int p0), .val (.int p1)] [(.int p1)])) t → Steps p.tables e below (s₁.setTop (entryFrame m #[(.int p0), (.int p1)] 2)) t := fun t kt => go1 t (by
        refine XS.icmpYes X0.here hx rfl (pc0 := 2) (pc' := 9) rfl (hb hby d8_2) rfl (tlt hc2_2).2.2.1 (by decide) (by decide) ?_
        show Steps p.tables e below (s₁.setTop (mkF m 9 #[.val (.int p0), .val (.int p1)] [])) _
        refine XS.iloadN X0.here hx rfl (hb hby d8_9) rfl ?_
        show Steps p.tables e below (s₁.setTop (mkF m 10 #[.val (.int p0), .val (.int p1)] [(.int p1)])) _
        exact kt)
    obtain ⟨fs, hr, hrun, hended, hW, hsame⟩ := X0.leave (v := some (.int p1)) (fun h => by rw [Bd.returns] at h; cases h)
    refine ⟨_, _, go3 _ (retI X0 hx Bd.returns (hb hby d8_10) hr), hrun, hended, _, _, rfl, ?_, ⟨_, rfl⟩, hW, hsame.mono (by decide) (by decide)⟩
    refine ⟨?_, N0, e0⟩
    show some (Value.int p1) = some (.int (own_min p0 p1))
    unfold own_min
    rw [if_pos hc2_2]
  · have go4 : ∀ t, Steps p.tables e below (s₁.setTop (mkF m 10 #[.val (.int p0), .val (.int p1)] [(.int p0)])) t → Steps p.tables e below (s₁.setTop (entryFrame m #[(.int p0), (.int p1)] 2)) t := fun t kt => go1 t (by
        refine XS.icmpNo X0.here hx rfl (hb hby d8_2) rfl (flt hc2_2).2.2.1 ?_
        show Steps p.tables e below (s₁.setTop (mkF m 5 #[.val (.int p0), .val (.int p1)] [])) _
        refine XS.iloadN X0.here hx rfl (hb hby d8_5) rfl ?_
        show Steps p.tables e below (s₁.setTop (mkF m 6 #[.val (.int p0), .val (.int p1)] [(.int p0)])) _
        refine XS.goto X0.here hx rfl (pc0 := 6) (pc' := 10) rfl (hb hby d8_6) (by decide) (by decide) ?_
        show Steps p.tables e below (s₁.setTop (mkF m 10 #[.val (.int p0), .val (.int p1)] [(.int p0)])) _
        exact kt)
    obtain ⟨fs, hr, hrun, hended, hW, hsame⟩ := X0.leave (v := some (.int p0)) (fun h => by rw [Bd.returns] at h; cases h)
    refine ⟨_, _, go4 _ (retI X0 hx Bd.returns (hb hby d8_10) hr), hrun, hended, _, _, rfl, ?_, ⟨_, rfl⟩, hW, hsame.mono (by decide) (by decide)⟩
    refine ⟨?_, N0, e0⟩
    show some (Value.int p0) = some (.int (own_min p0 p1))
    unfold own_min
    rw [if_neg hc2_2]
def own_byteOf (p0 : Int32) (p1 : Int32) : Int32 := (if p1 = (0 : Int32) then ((((p0.toInt64) &&& (4294967295 : Int64)) / (16777216 : Int64)).toInt32) else (if p1 = (1 : Int32) then (((((p0.toInt64) &&& (4294967295 : Int64)) / (65536 : Int64)) - ((((p0.toInt64) &&& (4294967295 : Int64)) / (65536 : Int64)) / (256 : Int64)) * (256 : Int64)).toInt32) else (if p1 = (2 : Int32) then (((((p0.toInt64) &&& (4294967295 : Int64)) / (256 : Int64)) - ((((p0.toInt64) &&& (4294967295 : Int64)) / (256 : Int64)) / (256 : Int64)) * (256 : Int64)).toInt32) else ((((p0.toInt64) &&& (4294967295 : Int64)) - (((p0.toInt64) &&& (4294967295 : Int64)) / (256 : Int64)) * (256 : Int64)).toInt32))))
theorem d13_0 : decode method_4_code 0 = .ok (.iload_n 0, 1) := by decide +kernel
theorem d13_1 : decode method_4_code 1 = .ok (.i2l, 1) := by decide +kernel
theorem d13_2 : decode method_4_code 2 = .ok (.ldc2_w 38, 3) := by decide +kernel
theorem d13_5 : decode method_4_code 5 = .ok (.land, 1) := by decide +kernel
theorem d13_6 : decode method_4_code 6 = .ok (.lstore_n 2, 1) := by decide +kernel
theorem d13_7 : decode method_4_code 7 = .ok (.iload_n 1, 1) := by decide +kernel
theorem d13_8 : decode method_4_code 8 = .ok (.ifCond .ne 10, 3) := by decide +kernel
theorem d13_11 : decode method_4_code 11 = .ok (.lload_n 2, 1) := by decide +kernel
theorem d13_12 : decode method_4_code 12 = .ok (.ldc2_w 40, 3) := by decide +kernel
theorem d13_15 : decode method_4_code 15 = .ok (.ldiv, 1) := by decide +kernel
theorem d13_16 : decode method_4_code 16 = .ok (.l2i, 1) := by decide +kernel
theorem d13_17 : decode method_4_code 17 = .ok (.ireturn, 1) := by decide +kernel
theorem d13_18 : decode method_4_code 18 = .ok (.iload_n 1, 1) := by decide +kernel
theorem d13_19 : decode method_4_code 19 = .ok (.iconst 1, 1) := by decide +kernel
theorem d13_20 : decode method_4_code 20 = .ok (.if_icmp .ne 14, 3) := by decide +kernel
theorem d13_23 : decode method_4_code 23 = .ok (.lload_n 2, 1) := by decide +kernel
theorem d13_24 : decode method_4_code 24 = .ok (.ldc2_w 42, 3) := by decide +kernel
theorem d13_27 : decode method_4_code 27 = .ok (.ldiv, 1) := by decide +kernel
theorem d13_28 : decode method_4_code 28 = .ok (.ldc2_w 44, 3) := by decide +kernel
theorem d13_31 : decode method_4_code 31 = .ok (.lrem, 1) := by decide +kernel
theorem d13_32 : decode method_4_code 32 = .ok (.l2i, 1) := by decide +kernel
theorem d13_33 : decode method_4_code 33 = .ok (.ireturn, 1) := by decide +kernel
theorem d13_34 : decode method_4_code 34 = .ok (.iload_n 1, 1) := by decide +kernel
theorem d13_35 : decode method_4_code 35 = .ok (.iconst 2, 1) := by decide +kernel
theorem d13_36 : decode method_4_code 36 = .ok (.if_icmp .ne 14, 3) := by decide +kernel
theorem d13_39 : decode method_4_code 39 = .ok (.lload_n 2, 1) := by decide +kernel
theorem d13_40 : decode method_4_code 40 = .ok (.ldc2_w 44, 3) := by decide +kernel
theorem d13_43 : decode method_4_code 43 = .ok (.ldiv, 1) := by decide +kernel
theorem d13_44 : decode method_4_code 44 = .ok (.ldc2_w 44, 3) := by decide +kernel
theorem d13_47 : decode method_4_code 47 = .ok (.lrem, 1) := by decide +kernel
theorem d13_48 : decode method_4_code 48 = .ok (.l2i, 1) := by decide +kernel
theorem d13_49 : decode method_4_code 49 = .ok (.ireturn, 1) := by decide +kernel
theorem d13_50 : decode method_4_code 50 = .ok (.lload_n 2, 1) := by decide +kernel
theorem d13_51 : decode method_4_code 51 = .ok (.ldc2_w 44, 3) := by decide +kernel
theorem d13_54 : decode method_4_code 54 = .ok (.lrem, 1) := by decide +kernel
theorem d13_55 : decode method_4_code 55 = .ok (.l2i, 1) := by decide +kernel
theorem d13_56 : decode method_4_code 56 = .ok (.ireturn, 1) := by decide +kernel
theorem pn_13 : plainName "com/example/classweave/classweave/classfile/ClassOutputU4AtPinLaw" = true := by first | (simp [plainName, overriddenIn]; done) | decide +kernel
theorem ef_13 (m : MethodId) (p0 : Int32) (p1 : Int32) : entryFrame m #[(.int p0), (.int p1)] 4 = mkF m 0 #[.val (.int p0), .val (.int p1), .unset, .unset] [] := by first | (simp [entryFrame, mkF, argsToLocals, Value.category]; done) | rfl
set_option maxRecDepth 65536 in
set_option maxHeartbeats 40000000 in
theorem rm13 (l : Launch) (Z : State) (a0 : Array Value) (hw : ∀ d ∈ tables_1, d.before a0 Z = true) (ws : List Jvm.Cond) (p0 : Int32) (p1 : Int32) (h0 : Heap) (n0 : Nat) :
    MetFree l (⟨"com/example/classweave/classweave/classfile/ClassOutputU4AtPinLaw", "byteOf", "(II)I"⟩ : MethodName) (head1 (Jvm.Cond.code (⟨"com/example/classweave/classweave/classfile/ClassOutputU4AtPinLaw", "byteOf", "(II)I"⟩ : MethodName) method_4_code 4 (some .int) :: ws) ({ frames := 0, cells := 0, slots := 0, locals := 0 } : Room)) (fun a U => a = #[(.int p0), (.int p1)] ∧ Z.Warmed39 U.vm ∧ U.heap = h0) (fun _ _ _ _ _ => True) (fun _ U o U' => ∃ v L, o = .returned v ∧ QP (some (.int (own_byteOf p0 p1))) h0 n0 v U'.heap L ∧ FrameEnd U o U' L ({ frames := 0, cells := 0, slots := 0, locals := 0 } : Room).cells ({ frames := 0, cells := 0, slots := 0, locals := 0 } : Room).slots) := by
  refine MetFree.of_bodySF (plainFor_of_name pn_13) hisR ?_
  intro p e s m args below meth c s₁ Bd hml0 hP hK
  obtain ⟨rfl, hZ, hh⟩ := hP
  have hx := Bd.exec
  have hby := Bd.bytes
  have hml : c.maxLocals = 4 := hml0
  have hown : s.vm.findClass "com/example/classweave/classweave/classfile/ClassOutputU4AtPinLaw" = some m.cls := findClass_of_methodNamed Bd.named
  have hnm := (name_of_methodNamed Bd.named Bd.method).1
  have X0 : Stand p l e ({ frames := 0, cells := 0, slots := 0, locals := 0 } : Room) s m #[(.int p0), (.int p1)] below meth c s₁ [] 0 0 := Stand.of_body Bd
  have e0 : s₁.heap = h0 := by rw [← hh, Bd.state]; rfl
  have N0 := Fr.nil n0
  have go0 : ∀ t, Steps p.tables e below (s₁.setTop (mkF m 0 #[.val (.int p0), .val (.int p1), .unset, .unset] [])) t → Steps p.tables e below (s₁.setTop (entryFrame m #[(.int p0), (.int p1)] 4)) t := fun t k => castTop (ef_13 m p0 p1) k
  have go1 : ∀ t, Steps p.tables e below (s₁.setTop (mkF m 8 #[.val (.int p0), .val (.int p1), .val (.long ((p0.toInt64) &&& (4294967295 : Int64))), .second] [(.int p1)])) t → Steps p.tables e below (s₁.setTop (entryFrame m #[(.int p0), (.int p1)] 4)) t := fun t kt => go0 t (by
      refine XS.iloadN X0.here hx rfl (hb hby d13_0) rfl ?_
      show Steps p.tables e below (s₁.setTop (mkF m 1 #[.val (.int p0), .val (.int p1), .unset, .unset] [(.int p0)])) _
      refine XS.i2l X0.here hx rfl (hb hby d13_1) rfl ?_
      show Steps p.tables e below (s₁.setTop (mkF m 2 #[.val (.int p0), .val (.int p1), .unset, .unset] [(.long (p0.toInt64))])) _
      refine X0.ldc2Long hx hown (mvT hZ (hw _ (List.mem_of_getElem? (i := 75) rfl))) (g := (mkF m 2 #[.val (.int p0), .val (.int p1), .unset, .unset] [(.long (p0.toInt64))])) rfl (hb hby d13_2) _ ?_
      show Steps p.tables e below (s₁.setTop (mkF m 5 #[.val (.int p0), .val (.int p1), .unset, .unset] [(.long (4294967295 : Int64)), (.long (p0.toInt64))])) _
      refine XS.land X0.here hx rfl (hb hby d13_5) rfl ?_
      show Steps p.tables e below (s₁.setTop (mkF m 6 #[.val (.int p0), .val (.int p1), .unset, .unset] [(.long ((p0.toInt64) &&& (4294967295 : Int64)))])) _
      refine XS.lstoreN X0.here hx rfl (hb hby d13_6) rfl (l' := #[.val (.int p0), .val (.int p1), .val (.long ((p0.toInt64) &&& (4294967295 : Int64))), .second]) rfl ?_
      show Steps p.tables e below (s₁.setTop (mkF m 7 #[.val (.int p0), .val (.int p1), .val (.long ((p0.toInt64) &&& (4294967295 : Int64))), .second] [])) _
      refine XS.iloadN X0.here hx rfl (hb hby d13_7) rfl ?_
      show Steps p.tables e below (s₁.setTop (mkF m 8 #[.val (.int p0), .val (.int p1), .val (.long ((p0.toInt64) &&& (4294967295 : Int64))), .second] [(.int p1)])) _
      exact kt)
  by_cases hc8_2 : p1 = (0 : Int32)
  · have go3 : ∀ t, Steps p.tables e below (s₁.setTop (mkF m 17 #[.val (.int p0), .val (.int p1), .val (.long ((p0.toInt64) &&& (4294967295 : Int64))), .second] [(.int ((((p0.toInt64) &&& (4294967295 : Int64)) / (16777216 : Int64)).toInt32))])) t → Steps p.tables e below (s₁.setTop (entryFrame m #[(.int p0), (.int p1)] 4)) t := fun t kt => go1 t (by
        refine XS.ifNo X0.here hx rfl (hb hby d13_8) rfl ((if0 _ _).trans (teq hc8_2).2) ?_
        show Steps p.tables e below (s₁.setTop (mkF m 11 #[.val (.int p0), .val (.int p1), .val (.long ((p0.toInt64) &&& (4294967295 : Int64))), .second] [])) _
        refine XS.lloadN X0.here hx rfl (hb hby d13_11) rfl ?_
        show Steps p.tables e below (s₁.setTop (mkF m 12 #[.val (.int p0), .val (.int p1), .val (.long ((p0.toInt64) &&& (4294967295 : Int64))), .second] [(.long ((p0.toInt64) &&& (4294967295 : Int64)))])) _
        refine X0.ldc2Long hx hown (mvT hZ (hw _ (List.mem_of_getElem? (i := 76) rfl))) (g := (mkF m 12 #[.val (.int p0), .val (.int p1), .val (.long ((p0.toInt64) &&& (4294967295 : Int64))), .second] [(.long ((p0.toInt64) &&& (4294967295 : Int64)))])) rfl (hb hby d13_12) _ ?_
        show Steps p.tables e below (s₁.setTop (mkF m 15 #[.val (.int p0), .val (.int p1), .val (.long ((p0.toInt64) &&& (4294967295 : Int64))), .second] [(.long (16777216 : Int64)), (.long ((p0.toInt64) &&& (4294967295 : Int64)))])) _
        refine XS.ldiv X0.here hx rfl (hb hby d13_15) rfl (by decide) ?_
        show Steps p.tables e below (s₁.setTop (mkF m 16 #[.val (.int p0), .val (.int p1), .val (.long ((p0.toInt64) &&& (4294967295 : Int64))), .second] [(.long (((p0.toInt64) &&& (4294967295 : Int64)) / (16777216 : Int64)))])) _
        refine XS.l2i X0.here hx rfl (hb hby d13_16) rfl ?_
        show Steps p.tables e below (s₁.setTop (mkF m 17 #[.val (.int p0), .val (.int p1), .val (.long ((p0.toInt64) &&& (4294967295 : Int64))), .second] [(.int ((((p0.toInt64) &&& (4294967295 : Int64)) / (16777216 : Int64)).toInt32))])) _
        exact kt)
    obtain ⟨fs, hr, hrun, hended, hW, hsame⟩ := X0.leave (v := some (.int ((((p0.toInt64) &&& (4294967295 : Int64)) / (16777216 : Int64)).toInt32))) (fun h => by rw [Bd.returns] at h; cases h)
    refine ⟨_, _, go3 _ (retI X0 hx Bd.returns (hb hby d13_17) hr), hrun, hended, _, _, rfl, ?_, ⟨_, rfl⟩, hW, hsame.mono (by decide) (by decide)⟩
    refine ⟨?_, N0, e0⟩
    show some (Value.int ((((p0.toInt64) &&& (4294967295 : Int64)) / (16777216 : Int64)).toInt32)) = some (.int (own_byteOf p0 p1))
    unfold own_byteOf
    rw [if_pos hc8_2]
  · have go4 : ∀ t, Steps p.tables e below (s₁.setTop (mkF m 20 #[.val (.int p0), .val (.int p1), .val (.long ((p0.toInt64) &&& (4294967295 : Int64))), .second] [(.int (1 : Int32)), (.int p1)])) t → Steps p.tables e below (s₁.setTop (entryFrame m #[(.int p0), (.int p1)] 4)) t := fun t kt => go1 t (by
        refine XS.ifYes X0.here hx rfl (pc0 := 8) (pc' := 18) rfl (hb hby d13_8) rfl ((if0 _ _).trans (feq hc8_2).2) (by decide) (by decide) ?_
        show Steps p.tables e below (s₁.setTop (mkF m 18 #[.val (.int p0), .val (.int p1), .val (.long ((p0.toInt64) &&& (4294967295 : Int64))), .second] [])) _
        refine XS.iloadN X0.here hx rfl (hb hby d13_18) rfl ?_
        show Steps p.tables e below (s₁.setTop (mkF m 19 #[.val (.int p0), .val (.int p1), .val (.long ((p0.toInt64) &&& (4294967295 : Int64))), .second] [(.int p1)])) _
        refine XS.iconst X0.here hx rfl (hb hby d13_19) ?_
        show Steps p.tables e below (s₁.setTop (mkF m 20 #[.val (.int p0), .val (.int p1), .val (.long ((p0.toInt64) &&& (4294967295 : Int64))), .second] [(.int (1 : Int32)), (.int p1)])) _
        exact kt)
    by_cases hc20_5 : p1 = (1 : Int32)
    · have go6 : ∀ t, Steps p.tables e below (s₁.setTop (mkF m 33 #[.val (.int p0), .val (.int p1), .val (.long ((p0.toInt64) &&& (4294967295 : Int64))), .second] [(.int (((((p0.toInt64) &&& (4294967295 : Int64)) / (65536 : Int64)) - ((((p0.toInt64) &&& (4294967295 : Int64)) / (65536 : Int64)) / (256 : Int64)) * (256 : Int64)).toInt32))])) t → Steps p.tables e below (s₁.setTop (entryFrame m #[(.int p0), (.int p1)] 4)) t := fun t kt => go4 t (by
          refine XS.icmpNo X0.here hx rfl (hb hby d13_20) rfl (teq hc20_5).2 ?_
          show Steps p.tables e below (s₁.setTop (mkF m 23 #[.val (.int p0), .val (.int p1), .val (.long ((p0.toInt64) &&& (4294967295 : Int64))), .second] [])) _
          refine XS.lloadN X0.here hx rfl (hb hby d13_23) rfl ?_
          show Steps p.tables e below (s₁.setTop (mkF m 24 #[.val (.int p0), .val (.int p1), .val (.long ((p0.toInt64) &&& (4294967295 : Int64))), .second] [(.long ((p0.toInt64) &&& (4294967295 : Int64)))])) _
          refine X0.ldc2Long hx hown (mvT hZ (hw _ (List.mem_of_getElem? (i := 77) rfl))) (g := (mkF m 24 #[.val (.int p0), .val (.int p1), .val (.long ((p0.toInt64) &&& (4294967295 : Int64))), .second] [(.long ((p0.toInt64) &&& (4294967295 : Int64)))])) rfl (hb hby d13_24) _ ?_
          show Steps p.tables e below (s₁.setTop (mkF m 27 #[.val (.int p0), .val (.int p1), .val (.long ((p0.toInt64) &&& (4294967295 : Int64))), .second] [(.long (65536 : Int64)), (.long ((p0.toInt64) &&& (4294967295 : Int64)))])) _
          refine XS.ldiv X0.here hx rfl (hb hby d13_27) rfl (by decide) ?_
          show Steps p.tables e below (s₁.setTop (mkF m 28 #[.val (.int p0), .val (.int p1), .val (.long ((p0.toInt64) &&& (4294967295 : Int64))), .second] [(.long (((p0.toInt64) &&& (4294967295 : Int64)) / (65536 : Int64)))])) _
          refine X0.ldc2Long hx hown (mvT hZ (hw _ (List.mem_of_getElem? (i := 78) rfl))) (g := (mkF m 28 #[.val (.int p0), .val (.int p1), .val (.long ((p0.toInt64) &&& (4294967295 : Int64))), .second] [(.long (((p0.toInt64) &&& (4294967295 : Int64)) / (65536 : Int64)))])) rfl (hb hby d13_28) _ ?_
          show Steps p.tables e below (s₁.setTop (mkF m 31 #[.val (.int p0), .val (.int p1), .val (.long ((p0.toInt64) &&& (4294967295 : Int64))), .second] [(.long (256 : Int64)), (.long (((p0.toInt64) &&& (4294967295 : Int64)) / (65536 : Int64)))])) _
          refine XS.lrem X0.here hx rfl (hb hby d13_31) rfl (by decide) ?_
          show Steps p.tables e below (s₁.setTop (mkF m 32 #[.val (.int p0), .val (.int p1), .val (.long ((p0.toInt64) &&& (4294967295 : Int64))), .second] [(.long ((((p0.toInt64) &&& (4294967295 : Int64)) / (65536 : Int64)) - ((((p0.toInt64) &&& (4294967295 : Int64)) / (65536 : Int64)) / (256 : Int64)) * (256 : Int64)))])) _
          refine XS.l2i X0.here hx rfl (hb hby d13_32) rfl ?_
          show Steps p.tables e below (s₁.setTop (mkF m 33 #[.val (.int p0), .val (.int p1), .val (.long ((p0.toInt64) &&& (4294967295 : Int64))), .second] [(.int (((((p0.toInt64) &&& (4294967295 : Int64)) / (65536 : Int64)) - ((((p0.toInt64) &&& (4294967295 : Int64)) / (65536 : Int64)) / (256 : Int64)) * (256 : Int64)).toInt32))])) _
          exact kt)
      obtain ⟨fs, hr, hrun, hended, hW, hsame⟩ := X0.leave (v := some (.int (((((p0.toInt64) &&& (4294967295 : Int64)) / (65536 : Int64)) - ((((p0.toInt64) &&& (4294967295 : Int64)) / (65536 : Int64)) / (256 : Int64)) * (256 : Int64)).toInt32))) (fun h => by rw [Bd.returns] at h; cases h)
      refine ⟨_, _, go6 _ (retI X0 hx Bd.returns (hb hby d13_33) hr), hrun, hended, _, _, rfl, ?_, ⟨_, rfl⟩, hW, hsame.mono (by decide) (by decide)⟩
      refine ⟨?_, N0, e0⟩
      show some (Value.int (((((p0.toInt64) &&& (4294967295 : Int64)) / (65536 : Int64)) - ((((p0.toInt64) &&& (4294967295 : Int64)) / (65536 : Int64)) / (256 : Int64)) * (256 : Int64)).toInt32)) = some (.int (own_byteOf p0 p1))
      unfold own_byteOf
      rw [if_neg hc8_2, if_pos hc20_5]
    · have go7 : ∀ t, Steps p.tables e below (s₁.setTop (mkF m 36 #[.val (.int p0), .val (.int p1), .val (.long ((p0.toInt64) &&& (4294967295 : Int64))), .second] [(.int (2 : Int32)), (.int p1)])) t → Steps p.tables e below (s₁.setTop (entryFrame m #[(.int p0), (.int p1)] 4)) t := fun t kt => go4 t (by
          refine XS.icmpYes X0.here hx rfl (pc0 := 20) (pc' := 34) rfl (hb hby d13_20) rfl (feq hc20_5).2 (by decide) (by decide) ?_
          show Steps p.tables e below (s₁.setTop (mkF m 34 #[.val (.int p0), .val (.int p1), .val (.long ((p0.toInt64) &&& (4294967295 : Int64))), .second] [])) _
          refine XS.iloadN X0.here hx rfl (hb hby d13_34) rfl ?_
          show Steps p.tables e below (s₁.setTop (mkF m 35 #[.val (.int p0), .val (.int p1), .val (.long ((p0.toInt64) &&& (4294967295 : Int64))), .second] [(.int p1)])) _
          refine XS.iconst X0.here hx rfl (hb hby d13_35) ?_
          show Steps p.tables e below (s₁.setTop (mkF m 36 #[.val (.int p0), .val (.int p1), .val (.long ((p0.toInt64) &&& (4294967295 : Int64))), .second] [(.int (2 : Int32)), (.int p1)])) _
          exact kt)
      by_cases hc36_8 : p1 = (2 : Int32)
      · have go9 : ∀ t, Steps p.tables e below (s₁.setTop (mkF m 49 #[.val (.int p0), .val (.int p1), .val (.long ((p0.toInt64) &&& (4294967295 : Int64))), .second] [(.int (((((p0.toInt64) &&& (4294967295 : Int64)) / (256 : Int64)) - ((((p0.toInt64) &&& (4294967295 : Int64)) / (256 : Int64)) / (256 : Int64)) * (256 : Int64)).toInt32))])) t → Steps p.tables e below (s₁.setTop (entryFrame m #[(.int p0), (.int p1)] 4)) t := fun t kt => go7 t (by
            refine XS.icmpNo X0.here hx rfl (hb hby d13_36) rfl (teq hc36_8).2 ?_
            show Steps p.tables e below (s₁.setTop (mkF m 39 #[.val (.int p0), .val (.int p1), .val (.long ((p0.toInt64) &&& (4294967295 : Int64))), .second] [])) _
            refine XS.lloadN X0.here hx rfl (hb hby d13_39) rfl ?_
            show Steps p.tables e below (s₁.setTop (mkF m 40 #[.val (.int p0), .val (.int p1), .val (.long ((p0.toInt64) &&& (4294967295 : Int64))), .second] [(.long ((p0.toInt64) &&& (4294967295 : Int64)))])) _
            refine X0.ldc2Long hx hown (mvT hZ (hw _ (List.mem_of_getElem? (i := 78) rfl))) (g := (mkF m 40 #[.val (.int p0), .val (.int p1), .val (.long ((p0.toInt64) &&& (4294967295 : Int64))), .second] [(.long ((p0.toInt64) &&& (4294967295 : Int64)))])) rfl (hb hby d13_40) _ ?_
            show Steps p.tables e below (s₁.setTop (mkF m 43 #[.val (.int p0), .val (.int p1), .val (.long ((p0.toInt64) &&& (4294967295 : Int64))), .second] [(.long (256 : Int64)), (.long ((p0.toInt64) &&& (4294967295 : Int64)))])) _
            refine XS.ldiv X0.here hx rfl (hb hby d13_43) rfl (by decide) ?_
            show Steps p.tables e below (s₁.setTop (mkF m 44 #[.val (.int p0), .val (.int p1), .val (.long ((p0.toInt64) &&& (4294967295 : Int64))), .second] [(.long (((p0.toInt64) &&& (4294967295 : Int64)) / (256 : Int64)))])) _
            refine X0.ldc2Long hx hown (mvT hZ (hw _ (List.mem_of_getElem? (i := 78) rfl))) (g := (mkF m 44 #[.val (.int p0), .val (.int p1), .val (.long ((p0.toInt64) &&& (4294967295 : Int64))), .second] [(.long (((p0.toInt64) &&& (4294967295 : Int64)) / (256 : Int64)))])) rfl (hb hby d13_44) _ ?_
            show Steps p.tables e below (s₁.setTop (mkF m 47 #[.val (.int p0), .val (.int p1), .val (.long ((p0.toInt64) &&& (4294967295 : Int64))), .second] [(.long (256 : Int64)), (.long (((p0.toInt64) &&& (4294967295 : Int64)) / (256 : Int64)))])) _
            refine XS.lrem X0.here hx rfl (hb hby d13_47) rfl (by decide) ?_
            show Steps p.tables e below (s₁.setTop (mkF m 48 #[.val (.int p0), .val (.int p1), .val (.long ((p0.toInt64) &&& (4294967295 : Int64))), .second] [(.long ((((p0.toInt64) &&& (4294967295 : Int64)) / (256 : Int64)) - ((((p0.toInt64) &&& (4294967295 : Int64)) / (256 : Int64)) / (256 : Int64)) * (256 : Int64)))])) _
            refine XS.l2i X0.here hx rfl (hb hby d13_48) rfl ?_
            show Steps p.tables e below (s₁.setTop (mkF m 49 #[.val (.int p0), .val (.int p1), .val (.long ((p0.toInt64) &&& (4294967295 : Int64))), .second] [(.int (((((p0.toInt64) &&& (4294967295 : Int64)) / (256 : Int64)) - ((((p0.toInt64) &&& (4294967295 : Int64)) / (256 : Int64)) / (256 : Int64)) * (256 : Int64)).toInt32))])) _
            exact kt)
        obtain ⟨fs, hr, hrun, hended, hW, hsame⟩ := X0.leave (v := some (.int (((((p0.toInt64) &&& (4294967295 : Int64)) / (256 : Int64)) - ((((p0.toInt64) &&& (4294967295 : Int64)) / (256 : Int64)) / (256 : Int64)) * (256 : Int64)).toInt32))) (fun h => by rw [Bd.returns] at h; cases h)
        refine ⟨_, _, go9 _ (retI X0 hx Bd.returns (hb hby d13_49) hr), hrun, hended, _, _, rfl, ?_, ⟨_, rfl⟩, hW, hsame.mono (by decide) (by decide)⟩
        refine ⟨?_, N0, e0⟩
        show some (Value.int (((((p0.toInt64) &&& (4294967295 : Int64)) / (256 : Int64)) - ((((p0.toInt64) &&& (4294967295 : Int64)) / (256 : Int64)) / (256 : Int64)) * (256 : Int64)).toInt32)) = some (.int (own_byteOf p0 p1))
        unfold own_byteOf
        rw [if_neg hc8_2, if_neg hc20_5, if_pos hc36_8]
      · have go10 : ∀ t, Steps p.tables e below (s₁.setTop (mkF m 56 #[.val (.int p0), .val (.int p1), .val (.long ((p0.toInt64) &&& (4294967295 : Int64))), .second] [(.int ((((p0.toInt64) &&& (4294967295 : Int64)) - (((p0.toInt64) &&& (4294967295 : Int64)) / (256 : Int64)) * (256 : Int64)).toInt32))])) t → Steps p.tables e below (s₁.setTop (entryFrame m #[(.int p0), (.int p1)] 4)) t := fun t kt => go7 t (by
            refine XS.icmpYes X0.here hx rfl (pc0 := 36) (pc' := 50) rfl (hb hby d13_36) rfl (feq hc36_8).2 (by decide) (by decide) ?_
            show Steps p.tables e below (s₁.setTop (mkF m 50 #[.val (.int p0), .val (.int p1), .val (.long ((p0.toInt64) &&& (4294967295 : Int64))), .second] [])) _
            refine XS.lloadN X0.here hx rfl (hb hby d13_50) rfl ?_
            show Steps p.tables e below (s₁.setTop (mkF m 51 #[.val (.int p0), .val (.int p1), .val (.long ((p0.toInt64) &&& (4294967295 : Int64))), .second] [(.long ((p0.toInt64) &&& (4294967295 : Int64)))])) _
            refine X0.ldc2Long hx hown (mvT hZ (hw _ (List.mem_of_getElem? (i := 78) rfl))) (g := (mkF m 51 #[.val (.int p0), .val (.int p1), .val (.long ((p0.toInt64) &&& (4294967295 : Int64))), .second] [(.long ((p0.toInt64) &&& (4294967295 : Int64)))])) rfl (hb hby d13_51) _ ?_
            show Steps p.tables e below (s₁.setTop (mkF m 54 #[.val (.int p0), .val (.int p1), .val (.long ((p0.toInt64) &&& (4294967295 : Int64))), .second] [(.long (256 : Int64)), (.long ((p0.toInt64) &&& (4294967295 : Int64)))])) _
            refine XS.lrem X0.here hx rfl (hb hby d13_54) rfl (by decide) ?_
            show Steps p.tables e below (s₁.setTop (mkF m 55 #[.val (.int p0), .val (.int p1), .val (.long ((p0.toInt64) &&& (4294967295 : Int64))), .second] [(.long (((p0.toInt64) &&& (4294967295 : Int64)) - (((p0.toInt64) &&& (4294967295 : Int64)) / (256 : Int64)) * (256 : Int64)))])) _
            refine XS.l2i X0.here hx rfl (hb hby d13_55) rfl ?_
            show Steps p.tables e below (s₁.setTop (mkF m 56 #[.val (.int p0), .val (.int p1), .val (.long ((p0.toInt64) &&& (4294967295 : Int64))), .second] [(.int ((((p0.toInt64) &&& (4294967295 : Int64)) - (((p0.toInt64) &&& (4294967295 : Int64)) / (256 : Int64)) * (256 : Int64)).toInt32))])) _
            exact kt)
        obtain ⟨fs, hr, hrun, hended, hW, hsame⟩ := X0.leave (v := some (.int ((((p0.toInt64) &&& (4294967295 : Int64)) - (((p0.toInt64) &&& (4294967295 : Int64)) / (256 : Int64)) * (256 : Int64)).toInt32))) (fun h => by rw [Bd.returns] at h; cases h)
        refine ⟨_, _, go10 _ (retI X0 hx Bd.returns (hb hby d13_56) hr), hrun, hended, _, _, rfl, ?_, ⟨_, rfl⟩, hW, hsame.mono (by decide) (by decide)⟩
        refine ⟨?_, N0, e0⟩
        show some (Value.int ((((p0.toInt64) &&& (4294967295 : Int64)) - (((p0.toInt64) &&& (4294967295 : Int64)) / (256 : Int64)) * (256 : Int64)).toInt32)) = some (.int (own_byteOf p0 p1))
        unfold own_byteOf
        rw [if_neg hc8_2, if_neg hc20_5, if_neg hc36_8]
def own_Q0 (n0 : Nat) (v : Option Value) (h : Heap) (L : List Loc) : Prop := v = some (.int 1) ∧ Fr n0 L
def own_AB (Z : State) (h : Heap) (b : Addr) (vs : List Value) : Prop := ∃ c : Cell, Arr Z h b c .byte ∧ c.slots.toList = vs ∧ Exa Z h b "[B" ∧ (∀ v ∈ vs, fits .byte v = true) ∧ vs.length ≤ 16
theorem own_AB.lt {Z : State} {h : Heap} {b : Addr} {vs : List Value} (F : own_AB Z h b vs) : b < h.size := by obtain ⟨c, A, -⟩ := F; exact A.lt
theorem own_AB.ext {Z : State} {h h' : Heap} {b : Addr} {vs : List Value} (F : own_AB Z h b vs) (E : Ext h h') : own_AB Z h' b vs := by obtain ⟨c, A, q, x, r⟩ := F; exact ⟨c, A.ext E, q, x.ext E, r⟩
theorem own_AB.keep {Z : State} {h h' : Heap} {b : Addr} {vs : List Value} {ws : List Addr} (F : own_AB Z h b vs) (J : Keep h h' ws) (n : b ∉ ws) : own_AB Z h' b vs := by obtain ⟨c, A, q, x, r⟩ := F; exact ⟨c, ⟨J.2.1 b c A.1 n, A.2⟩, q, x.keep J, r⟩
theorem own_AB.other {Z : State} {h h' : Heap} {a b : Addr} {vs : List Value} {sl : Nat} {v : Value} (F : own_AB Z h b vs) (W : Wr h h' a sl v) (n : b ≠ a) : own_AB Z h' b vs := by obtain ⟨c, A, q, x, r⟩ := F; exact ⟨c, A.other W n, q, x.wr W, r⟩
theorem own_AB.av {Z : State} {h : Heap} {b : Addr} {vs : List Value} (F : own_AB Z h b vs) : own_AV Z h b .byte vs := by obtain ⟨c, A, q, -⟩ := F; exact ⟨c, A, q⟩
theorem own_AB.set {Z : State} {h h' : Heap} {b : Addr} {vs : List Value} {c : Cell} {j : Int32} {i : Nat} {x : Int32} (A : Arr Z h b c .byte) (q : c.slots.toList = vs) (x1 : Exa Z h b "[B") (x2 : ∀ v ∈ vs, fits .byte v = true) (x3 : vs.length ≤ 16) (W : Wr h h' b j.toNatClampNeg (.int (nar .byte x))) (hj : j.toNatClampNeg = i) : own_AB Z h' b (vs.set i (.int (nar .byte x))) := by
  refine ⟨_, A.same W, by rw [← q, ← hj]; simp [Cell.setSlot], x1.wr W, fun v hv => ?_, by rw [List.length_set]; exact x3⟩
  rcases List.mem_or_eq_of_mem_set hv with r | r
  · exact x2 v r
  · rw [r]; exact fits_nar_byte _
theorem own_ni (n : Nat) (h : n < 1000) : n.toInt32.toInt = n ∧ n.toInt32.toNatClampNeg = n ∧ ¬ n.toInt32 < 0 := by
  have e : n.toInt32.toInt = n := by rw [show n.toInt32 = Int32.ofNat n from rfl, Int32.toInt_ofNat_small (by omega)]
  have k : ¬ n.toInt32 < 0 := by
    rw [Int32.lt_iff_toInt_lt, e, show (0 : Int32).toInt = 0 from by decide]
    omega
  have g := nat_of k
  exact ⟨e, by omega, k⟩
theorem own_AB.arv {Z : State} {h : Heap} {b : Addr} {vs : List Value} (F : own_AB Z h b vs) : ∃ k, Arv Z h b k .byte vs.length.toInt32 vs (.int 0) := by
  obtain ⟨c, A, q, x, f, l⟩ := F
  have e := own_ni vs.length (by omega)
  refine ⟨_, c, A, rfl, by rw [own_sz q, e.2.1], e.2.2, fun k hk => ?_, fun k hk => ?_⟩
  · rw [own_sz q] at hk
    have : c.slots[k]? = vs[k]? := by rw [← q]; simp
    rw [this, List.getD_eq_getElem?_getD, List.getElem?_eq_getElem hk]
    rfl
  · rw [own_sz q] at hk
    rw [List.getD_eq_getElem?_getD, List.getElem?_eq_getElem hk]
    exact f _ (List.getElem_mem hk)
theorem own_of_arv {Z : State} {h : Heap} {b : Addr} {vs : List Value} {k : ClassId} {z : Int32} {d : Value} (F : Arv Z h b k .byte z vs d) (x : Exa Z h b "[B") (hl : vs.length = z.toNatClampNeg) (l : vs.length ≤ 16) : own_AB Z h b vs := by
  obtain ⟨c, A, -, S, -, H, G⟩ := F
  have hs : c.slots.size = vs.length := S.trans hl.symm
  refine ⟨c, A, ?_, x, fun v hv => ?_, l⟩
  · apply List.ext_getElem?
    intro i
    by_cases hi : i < vs.length
    · have := H i (by omega)
      rw [List.getD_eq_getElem?_getD, List.getElem?_eq_getElem hi] at this
      rw [List.getElem?_eq_getElem hi]
      simpa using this
    · rw [List.getElem?_eq_none (by rw [Array.length_toList]; omega), List.getElem?_eq_none (by omega)]
  · obtain ⟨i, hi, rfl⟩ := List.getElem_of_mem hv
    have := G i (by omega)
    rwa [List.getD_eq_getElem?_getD, List.getElem?_eq_getElem hi] at this
def own_O (Z : State) (h : Heap) (n0 : Nat) (a b : Addr) (vs : List Value) (cn : Nat) : Prop := Exa Z h a "com/example/classweave/classweave/classfile/ClassOutput" ∧ Fld Z h a "com/example/classweave/classweave/classfile/ClassOutput" "bytes" "[B" (.ref b) ∧ Fld Z h a "com/example/classweave/classweave/classfile/ClassOutput" "size" "I" (.int cn.toInt32) ∧ own_AB Z h b vs ∧ n0 ≤ a ∧ n0 ≤ b
def own_OB (Z : State) (h : Heap) (n0 : Nat) (a : Addr) (bs : List Int32) : Prop := ∃ b vs, own_O Z h n0 a b vs bs.length ∧ vs.take bs.length = bs.map Value.int ∧ bs.length ≤ vs.length ∧ vs.length ≤ 15
def own_cp (vs : List Value) (m : Nat) : List Value := vs.take m ++ List.replicate (m - vs.length) (.int 0)
def own_QC (Z : State) (vs : List Value) (m : Nat) (h0 : Heap) (n0 : Nat) (v : Option Value) (h : Heap) (L : List Loc) : Prop := ∃ b, v = some (.ref b) ∧ Fr n0 L ∧ Keep h0 h [] ∧ n0 ≤ b ∧ own_AB Z h b (own_cp vs m)
def own_QE (Z : State) (a : Addr) (vs : List Value) (cn : Nat) (n0 : Nat) (v : Option Value) (h : Heap) (L : List Loc) : Prop := v = none ∧ Fr n0 L ∧ ∃ b vs', own_O Z h n0 a b vs' cn ∧ cn + 2 ≤ vs'.length ∧ vs'.length ≤ 15 ∧ vs'.take cn = vs.take cn
def own_QB (Z : State) (a : Addr) (bs : List Int32) (n0 : Nat) (v : Option Value) (h : Heap) (L : List Loc) : Prop := v = none ∧ Fr n0 L ∧ own_OB Z h n0 a bs
def own_QT (Z : State) (a : Addr) (bs : List Int32) (n0 : Nat) (v : Option Value) (h : Heap) (L : List Loc) : Prop := ∃ b, v = some (.ref b) ∧ Fr n0 L ∧ own_OB Z h n0 a bs ∧ own_AV Z h b .byte (bs.map Value.int)
theorem own_cp_same (vs : List Value) : own_cp vs vs.length = vs := by simp [own_cp]
theorem own_cp_len (vs : List Value) (m : Nat) : (own_cp vs m).length = m := by simp [own_cp]; omega
theorem own_cp_take (vs : List Value) (m k : Nat) (h1 : k ≤ m) (h2 : k ≤ vs.length) : (own_cp vs m).take k = vs.take k := by
  unfold own_cp
  rw [List.take_append_of_le_length (by rw [List.length_take]; omega), List.take_take, Nat.min_eq_left h1]
theorem own_us (vs : List Value) (d : Value) (k : Nat) (h : k ≤ vs.length) : ((List.range k).map fun i => vs.getD (0 + i) d) = vs.take k := by
  apply List.ext_getElem?
  intro i
  by_cases hi : i < k
  · rw [List.getElem?_map, List.getElem?_range hi, List.getElem?_take_of_lt hi]
    simp only [Option.map_some, Nat.zero_add]
    rw [List.getD_eq_getElem?_getD, List.getElem?_eq_getElem (by omega)]
    rfl
  · rw [List.getElem?_eq_none (by simp; omega), List.getElem?_eq_none (by simp; omega)]
theorem own_cp_eq (vs : List Value) (m k : Nat) (hk : k = min vs.length m) : (List.replicate m (Value.int 0)).take 0 ++ ((List.range k).map fun i => vs.getD (0 + i) (.int 0)) ++ (List.replicate m (Value.int 0)).drop (0 + k) = own_cp vs m := by
  rw [own_us vs _ k (by omega), List.take_zero, List.nil_append, Nat.zero_add, List.drop_replicate]
  unfold own_cp
  by_cases h : vs.length ≤ m
  · have e : k = vs.length := by omega
    rw [e, List.take_length, List.take_of_length_le h]
  · have e : k = m := by omega
    rw [e, Nat.sub_self, show m - vs.length = 0 from by omega]
theorem own_take2 (vs : List Value) (n : Nat) (x y : Value) (h : n + 2 ≤ vs.length) : ((vs.set n x).set (n + 1) y).take (n + 2) = vs.take n ++ [x, y] := by
  apply List.ext_getElem?
  intro i
  by_cases h0 : i < n
  · rw [List.getElem?_take_of_lt (by omega), List.getElem?_set_ne (by omega), List.getElem?_set_ne (by omega), List.getElem?_append_left (by rw [List.length_take]; omega), List.getElem?_take_of_lt h0]
  · by_cases h1 : i = n
    · subst h1
      rw [List.getElem?_take_of_lt (by omega), List.getElem?_set_ne (by omega), List.getElem?_set_self (by omega), List.getElem?_append_right (by rw [List.length_take]; omega), List.length_take, show i - min i vs.length = 0 from by omega]
      rfl
    · by_cases h2 : i = n + 1
      · subst h2
        rw [List.getElem?_take_of_lt (by omega), List.getElem?_set_self (by rw [List.length_set]; omega), List.getElem?_append_right (by rw [List.length_take]; omega), List.length_take, show n + 1 - min n vs.length = 1 from by omega]
        rfl
      · rw [List.getElem?_eq_none (by simp; omega), List.getElem?_eq_none (by simp; omega)]
theorem own_add (n : Nat) (k : Nat) : n.toInt32 + k.toInt32 = (n + k).toInt32 := (Int32.ofNat_add n k).symm
theorem own_fin {Z : State} {h : Heap} {n0 : Nat} {a b : Addr} {vs : List Value} {bs : List Int32} {x1 x2 : Int32} (E : Exa Z h a "com/example/classweave/classweave/classfile/ClassOutput") (F1 : Fld Z h a "com/example/classweave/classweave/classfile/ClassOutput" "bytes" "[B" (.ref b)) (F2 : Fld Z h a "com/example/classweave/classweave/classfile/ClassOutput" "size" "I" (.int (bs.length.toInt32 + (2 : Int32)))) (V : own_AB Z h b ((vs.set bs.length (.int x1)).set (bs.length + 1) (.int x2))) (ga : n0 ≤ a) (gb : n0 ≤ b) (t : vs.take bs.length = bs.map Value.int) (l1 : bs.length + 2 ≤ vs.length) (l2 : vs.length ≤ 15) : own_OB Z h n0 a (bs ++ [x1, x2]) := by
  refine ⟨b, _, ⟨E, F1, ?_, V, ga, gb⟩, ?_, ?_, ?_⟩
  · rw [show (2 : Int32) = (2 : Nat).toInt32 from rfl, own_add] at F2
    rw [List.length_append]
    exact F2
  · rw [List.length_append]
    show List.take (bs.length + 2) _ = _
    rw [own_take2 vs bs.length _ _ l1, t, List.map_append]
    rfl
  · rw [List.length_append, List.length_set, List.length_set]
    exact l1
  · rw [List.length_set, List.length_set]; exact l2
theorem own_fin4 {Z : State} {h : Heap} {n0 : Nat} {a b : Addr} {vs : List Value} {bs : List Int32} {i : Nat} {x3 x2 x1 x0 : Int32} (E : Exa Z h a "com/example/classweave/classweave/classfile/ClassOutput") (F1 : Fld Z h a "com/example/classweave/classweave/classfile/ClassOutput" "bytes" "[B" (.ref b)) (F2 : Fld Z h a "com/example/classweave/classweave/classfile/ClassOutput" "size" "I" (.int bs.length.toInt32)) (V : own_AB Z h b ((((vs.set i (.int x3)).set (i + 1) (.int x2)).set (i + 2) (.int x1)).set (i + 3) (.int x0))) (ga : n0 ≤ a) (gb : n0 ≤ b) (t : vs.take bs.length = bs.map Value.int) (l1 : bs.length ≤ vs.length) (l2 : vs.length ≤ 15) : own_OB Z h n0 a ((((bs.set i x3).set (i + 1) x2).set (i + 2) x1).set (i + 3) x0) := by
  refine ⟨b, _, ⟨E, F1, ?_, V, ga, gb⟩, ?_, ?_, ?_⟩
  · simp only [List.length_set]; exact F2
  · simp only [List.length_set, List.take_set, List.map_set, t]
  · simp only [List.length_set]; exact l1
  · simp only [List.length_set]; exact l2
theorem own_max2 (p0 p1 : Int32) : own_max p0 p1 = if p0 < p1 then p1 else p0 := rfl
theorem own_M {n cn : Nat} {p : Int32} (hp : p = 2) (hn : n ≤ 15) (hc : cn ≤ 6) (hcn : cn ≤ n) (g : n.toInt32 < cn.toInt32 + p) : ¬ own_max ((2 : Int32) * n.toInt32) (cn.toInt32 + p) < 0 ∧ (own_max ((2 : Int32) * n.toInt32) (cn.toInt32 + p)).toNatClampNeg ≤ 15 ∧ cn + 2 ≤ (own_max ((2 : Int32) * n.toInt32) (cn.toInt32 + p)).toNatClampNeg := by
  subst hp
  have e1 := (own_ni n (by omega)).1
  have e2 := (own_ni cn (by omega)).1
  have m := c_imul (2 : Int32) n.toInt32
  have a := c_iadd cn.toInt32 (2 : Int32)
  have r1 := rng32 ((2 : Int32) * n.toInt32)
  have r2 := rng32 (cn.toInt32 + (2 : Int32))
  rw [show (2 : Int32).toInt = 2 from by decide] at m a
  rw [Int32.lt_iff_toInt_lt] at g
  have s1 : ((2 : Int32) * n.toInt32).toInt = 2 * n := by omega
  have s2 : (cn.toInt32 + (2 : Int32)).toInt = cn + 2 := by omega
  have b : (own_max ((2 : Int32) * n.toInt32) (cn.toInt32 + (2 : Int32))).toInt ≤ 15 ∧ (cn : Int) + 2 ≤ (own_max ((2 : Int32) * n.toInt32) (cn.toInt32 + (2 : Int32))).toInt := by
    rw [own_max2]
    by_cases q : (2 : Int32) * n.toInt32 < cn.toInt32 + (2 : Int32)
    · rw [if_pos q]; omega
    · rw [if_neg q]
      rw [Int32.lt_iff_toInt_lt] at q
      omega
  have k : ¬ own_max ((2 : Int32) * n.toInt32) (cn.toInt32 + (2 : Int32)) < 0 := by
    rw [Int32.lt_iff_toInt_lt, show (0 : Int32).toInt = 0 from by decide]
    omega
  have g' := nat_of k
  exact ⟨k, by omega, by omega⟩
theorem own_noM {n cn : Nat} {p : Int32} (hp : p = 2) (hn : n ≤ 15) (hc : cn ≤ 6) (g : ¬ n.toInt32 < cn.toInt32 + p) : cn + 2 ≤ n := by
  subst hp
  have e1 := (own_ni n (by omega)).1
  have e2 := (own_ni cn (by omega)).1
  have a := c_iadd cn.toInt32 (2 : Int32)
  have r2 := rng32 (cn.toInt32 + (2 : Int32))
  rw [show (2 : Int32).toInt = 2 from by decide] at a
  rw [Int32.lt_iff_toInt_lt] at g
  omega
theorem own_min3 {n : Nat} {p : Int32} (hn : n ≤ 16) (hp : ¬ p < 0) (h16 : p.toNatClampNeg ≤ 16) : ¬ own_min n.toInt32 p < 0 ∧ (own_min n.toInt32 p).toNatClampNeg = min n p.toNatClampNeg := by
  have e1 := own_ni n (by omega)
  have e2 := nat_of hp
  unfold own_min
  by_cases q : p < n.toInt32
  · rw [if_pos q]
    rw [Int32.lt_iff_toInt_lt] at q
    exact ⟨hp, by omega⟩
  · rw [if_neg q]
    rw [Int32.lt_iff_toInt_lt] at q
    exact ⟨e1.2.2, by omega⟩
theorem own_neK : ("com/example/classweave/classweave/classfile/ClassOutput" : String) ≠ "[B" := by decide
theorem own_cap (x : Int32) : ¬ (x &&& (15 : Int32)) < 0 ∧ (x &&& (15 : Int32)).toNatClampNeg ≤ 15 := by
  have e := c_mask x 15 4 (by decide) (by decide)
  have k : ¬ (x &&& (15 : Int32)) < 0 := by
    rw [Int32.lt_iff_toInt_lt, e, show (0 : Int32).toInt = 0 from by decide]
    omega
  have g := nat_of k
  exact ⟨k, by omega⟩
theorem own_idx5 (x : Int32) : ((x &&& (2147483647 : Int32)) % (5 : Int32)) = (0 : Int32) ∨ ((x &&& (2147483647 : Int32)) % (5 : Int32)) = (1 : Int32) ∨ ((x &&& (2147483647 : Int32)) % (5 : Int32)) = (2 : Int32) ∨ ((x &&& (2147483647 : Int32)) % (5 : Int32)) = (3 : Int32) ∨ ((x &&& (2147483647 : Int32)) % (5 : Int32)) = (4 : Int32) := by
  have e : (x &&& (2147483647 : Int32)).toInt = x.toInt % (2 ^ 31 : Nat) := c_mask x _ 31 (by decide) (by decide)
  have f := (c_irem (x &&& (2147483647 : Int32)) 5 5 (by decide)).1 (by rw [e]; omega)
  rw [← Int32.toInt_inj, ← Int32.toInt_inj, ← Int32.toInt_inj, ← Int32.toInt_inj, ← Int32.toInt_inj, f]
  show _ = 0 ∨ _ = 1 ∨ _ = 2 ∨ _ = 3 ∨ _ = 4
  omega
theorem own_sel (a0 : Array Value) (Z : State) (hw : ∀ d ∈ tables_1, d.before a0 Z = true) : (Jvm.Cond.selects "com/example/classweave/classweave/classfile/ClassOutput" ({ cls := "com/example/classweave/classweave/classfile/ClassOutput", name := "ensure", desc := "(I)V" } : Jvm.MethodName) ({ cls := "com/example/classweave/classweave/classfile/ClassOutput", name := "ensure", desc := "(I)V" } : Jvm.MethodName)).before a0 Z = true := by
  obtain ⟨c, k, hc, hk, -, hniab, -, -⟩ := Cond.instantiable_spec (hw _ (List.mem_of_getElem? (i := 2) rfl))
  exact selects_self_of_private (y := ({ cls := "com/example/classweave/classweave/classfile/ClassOutput", name := "ensure", desc := "(I)V" } : Jvm.MethodName)) hc hk (Bool.or_eq_false_iff.mp hniab).1 (Cond.privateMethod_at (hw _ (List.mem_of_getElem? (i := 25) rfl))) (hw _ (List.mem_of_getElem? (i := 24) rfl)) (by decide)
theorem d7_0 : decode jdk_65_method_121_code 0 = .ok (.iload_n 1, 1) := by decide +kernel
theorem d7_1 : decode jdk_65_method_121_code 1 = .ok (.aload_n 0, 1) := by decide +kernel
theorem d7_2 : decode jdk_65_method_121_code 2 = .ok (.arraylength, 1) := by decide +kernel
theorem d7_3 : decode jdk_65_method_121_code 3 = .ok (.if_icmp .ne 11, 3) := by decide +kernel
theorem d7_6 : decode jdk_65_method_121_code 6 = .ok (.aload_n 0, 1) := by decide +kernel
theorem d7_7 : decode jdk_65_method_121_code 7 = .ok (.invokevirtual 310, 3) := by decide +kernel
theorem d7_10 : decode jdk_65_method_121_code 10 = .ok (.checkcast 311, 3) := by decide +kernel
theorem d7_13 : decode jdk_65_method_121_code 13 = .ok (.areturn, 1) := by decide +kernel
theorem d7_14 : decode jdk_65_method_121_code 14 = .ok (.iload_n 1, 1) := by decide +kernel
theorem d7_15 : decode jdk_65_method_121_code 15 = .ok (.newarray .byte, 2) := by decide +kernel
theorem d7_17 : decode jdk_65_method_121_code 17 = .ok (.astore_n 2, 1) := by decide +kernel
theorem d7_18 : decode jdk_65_method_121_code 18 = .ok (.aload_n 0, 1) := by decide +kernel
theorem d7_19 : decode jdk_65_method_121_code 19 = .ok (.iconst 0, 1) := by decide +kernel
theorem d7_20 : decode jdk_65_method_121_code 20 = .ok (.aload_n 2, 1) := by decide +kernel
theorem d7_21 : decode jdk_65_method_121_code 21 = .ok (.iconst 0, 1) := by decide +kernel
theorem d7_22 : decode jdk_65_method_121_code 22 = .ok (.aload_n 0, 1) := by decide +kernel
theorem d7_23 : decode jdk_65_method_121_code 23 = .ok (.arraylength, 1) := by decide +kernel
theorem d7_24 : decode jdk_65_method_121_code 24 = .ok (.iload_n 1, 1) := by decide +kernel
theorem d7_25 : decode jdk_65_method_121_code 25 = .ok (.invokestatic 304, 3) := by decide +kernel
theorem d7_28 : decode jdk_65_method_121_code 28 = .ok (.invokestatic 150, 3) := by decide +kernel
theorem d7_31 : decode jdk_65_method_121_code 31 = .ok (.aload_n 2, 1) := by decide +kernel
theorem d7_32 : decode jdk_65_method_121_code 32 = .ok (.areturn, 1) := by decide +kernel
theorem pn_7 : plainName "java/util/Arrays" = true := by first | (simp [plainName, overriddenIn]; done) | decide +kernel
theorem ef_7 (m : MethodId) (a1 : Addr) (p2 : Int32) : entryFrame m #[(.ref a1), (.int p2)] 3 = mkF m 0 #[.val (.ref a1), .val (.int p2), .unset] [] := by first | (simp [entryFrame, mkF, argsToLocals, Value.category]; done) | rfl
set_option maxRecDepth 65536 in
set_option maxHeartbeats 40000000 in
theorem rm7 (l : Launch) (Z : State) (a0 : Array Value) (hw : ∀ d ∈ tables_1, d.before a0 Z = true) (ws : List Jvm.Cond) (a1 : Addr) (p2 : Int32) (vs : List Value) (h0 : Heap) (n0 : Nat) (Z0 : n0 ≤ h0.size) (V0 : own_AB Z h0 a1 vs) (hp : ¬ p2 < 0) (hp16 : p2.toNatClampNeg ≤ 16) :
    MetFree l (⟨"java/util/Arrays", "copyOf", "([BI)[B"⟩ : MethodName) (head1 (Jvm.Cond.code (⟨"java/util/Arrays", "copyOf", "([BI)[B"⟩ : MethodName) jdk_65_method_121_code 3 (some (.array .byte)) :: ws) ({ frames := 1, cells := 1, slots := 16, locals := 40 } : Room)) (fun a U => a = #[(.ref a1), (.int p2)] ∧ Z.Warmed39 U.vm ∧ U.heap = h0) (fun _ _ _ _ _ => True) (fun _ U o U' => ∃ v L, o = .returned v ∧ own_QC Z vs p2.toNatClampNeg h0 n0 v U'.heap L ∧ FrameEnd U o U' L ({ frames := 1, cells := 1, slots := 16, locals := 40 } : Room).cells ({ frames := 1, cells := 1, slots := 16, locals := 40 } : Room).slots) := by
  refine MetFree.of_bodySF (plainFor_of_name pn_7) hisR ?_
  intro p e s m args below meth c s₁ Bd hml0 hP hK
  obtain ⟨rfl, hZ, hh⟩ := hP
  have hx := Bd.exec
  have hby := Bd.bytes
  have hml : c.maxLocals = 3 := hml0
  have hown : s.vm.findClass "java/util/Arrays" = some m.cls := findClass_of_methodNamed Bd.named
  have hnm := (name_of_methodNamed Bd.named Bd.method).1
  have X0 : Stand p l e ({ frames := 1, cells := 1, slots := 16, locals := 40 } : Room) s m #[(.ref a1), (.int p2)] below meth c s₁ [] 0 0 := Stand.of_body Bd
  have e0 : s₁.heap = h0 := by rw [← hh, Bd.state]; rfl
  have N0 := Fr.nil n0
  have go0 : ∀ t, Steps p.tables e below (s₁.setTop (mkF m 0 #[.val (.ref a1), .val (.int p2), .unset] [])) t → Steps p.tables e below (s₁.setTop (entryFrame m #[(.ref a1), (.int p2)] 3)) t := fun t k => castTop (ef_7 m a1 p2) k
  have go1 : ∀ t, Steps p.tables e below (s₁.setTop (mkF m 2 #[.val (.ref a1), .val (.int p2), .unset] [(.ref a1), (.int p2)])) t → Steps p.tables e below (s₁.setTop (entryFrame m #[(.ref a1), (.int p2)] 3)) t := fun t kt => go0 t (by
      refine XS.iloadN X0.here hx rfl (hb hby d7_0) rfl ?_
      show Steps p.tables e below (s₁.setTop (mkF m 1 #[.val (.ref a1), .val (.int p2), .unset] [(.int p2)])) _
      refine XS.aloadN X0.here hx rfl (hb hby d7_1) rfl rfl ?_
      show Steps p.tables e below (s₁.setTop (mkF m 2 #[.val (.ref a1), .val (.int p2), .unset] [(.ref a1), (.int p2)])) _
      exact kt)
  obtain ⟨c2, Ar2, q2, -⟩ := id V0
  have go3 : ∀ t, Steps p.tables e below (s₁.setTop (mkF m 3 #[.val (.ref a1), .val (.int p2), .unset] [(.int vs.length.toInt32), (.int p2)])) t → Steps p.tables e below (s₁.setTop (entryFrame m #[(.ref a1), (.int p2)] 3)) t := fun t kt => go1 t (by
      refine X0.arraylength hx (by rw [e0]; exact Ar2.1) (State.isArrayOf_alike hZ.alike Ar2.2.1) (g := (mkF m 2 #[.val (.ref a1), .val (.int p2), .unset] [(.ref a1), (.int p2)])) rfl rfl (hb hby d7_2) _ ?_
      rw [own_len q2 (n := vs.length.toInt32) rfl]
      show Steps p.tables e below (s₁.setTop (mkF m 3 #[.val (.ref a1), .val (.int p2), .unset] [(.int vs.length.toInt32), (.int p2)])) _
      exact kt)
  by_cases hc3_4 : p2 = vs.length.toInt32
  · have go5 : ∀ t, Steps p.tables e below (s₁.setTop (mkF m 7 #[.val (.ref a1), .val (.int p2), .unset] [(.ref a1)])) t → Steps p.tables e below (s₁.setTop (entryFrame m #[(.ref a1), (.int p2)] 3)) t := fun t kt => go3 t (by
        refine XS.icmpNo X0.here hx rfl (hb hby d7_3) rfl (teq hc3_4).2 ?_
        show Steps p.tables e below (s₁.setTop (mkF m 6 #[.val (.ref a1), .val (.int p2), .unset] [])) _
        refine XS.aloadN X0.here hx rfl (hb hby d7_6) rfl rfl ?_
        show Steps p.tables e below (s₁.setTop (mkF m 7 #[.val (.ref a1), .val (.int p2), .unset] [(.ref a1)])) _
        exact kt)
    obtain ⟨c6, Ar6, q6, x6a, x6b, x6c⟩ := id V0
    have fc6 : FitC Z c6 := fitC_of Ar6 fun i hi v hv => x6b v (by rw [← q6]; exact Array.mem_toList_iff.mpr (Array.mem_of_getElem? hv))
    obtain ⟨T6, h6, X6, e6, E6, A6, Ex6, st6⟩ := cloneA X0 hx hZ hown (hw _ (List.mem_of_getElem? (i := 54) rfl)) (hw _ (List.mem_of_getElem? (i := 55) rfl)) (hw _ (List.mem_of_getElem? (i := 59) rfl)) (hw _ (List.mem_of_getElem? (i := 57) rfl)) (hw _ (List.mem_of_getElem? (i := 58) rfl)) (hw _ (List.mem_of_getElem? (i := 60) rfl)) e0 Ar6 x6a fc6 (g := (mkF m 7 #[.val (.ref a1), .val (.int p2), .unset] [(.ref a1)])) rfl (by rw [hml]; rfl) rfl (hb hby d7_7) (by decide) (W := 0) (cap := 16) (by show 2 * 0 + _ ≤ _; exact Nat.le_of_eq rfl) (by decide) (by rw [own_sz q6]; exact x6c) (by decide) (by decide)
    obtain ⟨b6, g6⟩ : ∃ z, z = h0.size := ⟨_, rfl⟩
    rw [← g6] at A6 Ex6 st6
    have V6 : own_AB Z h6 b6 vs := ⟨_, A6, q6, Ex6, x6b, x6c⟩
    have gb6 : n0 ≤ b6 := Nat.le_trans Z0 (Nat.le_of_eq g6.symm)
    have go7 : ∀ t, Steps p.tables e below (T6.setTop (mkF m 10 #[.val (.ref a1), .val (.int p2), .unset] [(.ref b6)])) t → Steps p.tables e below (s₁.setTop (entryFrame m #[(.ref a1), (.int p2)] 3)) t := fun t kt => go5 t (by
        refine st6 _ ?_
        show Steps p.tables e below (T6.setTop (mkF m 10 #[.val (.ref a1), .val (.int p2), .unset] [(.ref b6)])) _
        exact kt)
    obtain ⟨T8, X8, e8, st8⟩ := castY X6 hx hZ hown (hw _ (List.mem_of_getElem? (i := 61) rfl)) e6 (Ins.self Ex6) (g := (mkF m 10 #[.val (.ref a1), .val (.int p2), .unset] [(.ref b6)])) rfl rfl (hb hby d7_10)
    have go9 : ∀ t, Steps p.tables e below (T8.setTop (mkF m 13 #[.val (.ref a1), .val (.int p2), .unset] [(.ref b6)])) t → Steps p.tables e below (s₁.setTop (entryFrame m #[(.ref a1), (.int p2)] 3)) t := fun t kt => go7 t (by
        refine st8 _ ?_
        show Steps p.tables e below (T8.setTop (mkF m 13 #[.val (.ref a1), .val (.int p2), .unset] [(.ref b6)])) _
        exact kt)
    obtain ⟨fs, hr, hrun, hended, hW, hsame⟩ := X8.leave (v := some (.ref b6)) (fun h => by rw [Bd.returns] at h; cases h)
    refine ⟨_, _, go9 _ (X8.areturnOut hx rfl Bd.returns rfl (hb hby d7_13) hr), hrun, hended, _, _, rfl, ?_, ⟨_, rfl⟩, hW, hsame.mono (by decide) (by decide)⟩
    show own_QC _ _ _ _ _ _ T8.heap _
    rw [e8]
    have lv : p2.toNatClampNeg = vs.length := by rw [hc3_4]; exact (own_ni vs.length (by obtain ⟨_, _, _, _, _, x⟩ := V0; omega)).2.1
    refine ⟨b6, rfl, N0, ((Keep.refl h0 []).ext E6), gb6, ?_⟩
    rw [lv, own_cp_same]
    exact V6
  · have go10 : ∀ t, Steps p.tables e below (s₁.setTop (mkF m 15 #[.val (.ref a1), .val (.int p2), .unset] [(.int p2)])) t → Steps p.tables e below (s₁.setTop (entryFrame m #[(.ref a1), (.int p2)] 3)) t := fun t kt => go3 t (by
        refine XS.icmpYes X0.here hx rfl (pc0 := 3) (pc' := 14) rfl (hb hby d7_3) rfl (feq hc3_4).2 (by decide) (by decide) ?_
        show Steps p.tables e below (s₁.setTop (mkF m 14 #[.val (.ref a1), .val (.int p2), .unset] [])) _
        refine XS.iloadN X0.here hx rfl (hb hby d7_14) rfl ?_
        show Steps p.tables e below (s₁.setTop (mkF m 15 #[.val (.ref a1), .val (.int p2), .unset] [(.int p2)])) _
        exact kt)
    obtain ⟨T11, h11, k11, X11, e11, E11, A11, Ex11, st11⟩ := newPE X0 hx hZ (hw _ (List.mem_of_getElem? (i := 10) rfl)) e0 (g := (mkF m 15 #[.val (.ref a1), .val (.int p2), .unset] [(.int p2)])) rfl (hb hby d7_15) rfl hp (cap := 16) hp16 (by decide) (by decide) (by decide) (ad := "[B") (by decide)
    obtain ⟨b11, g11⟩ : ∃ z, z = h0.size := ⟨_, rfl⟩
    rw [← g11] at A11 Ex11 st11
    have gb11 : n0 ≤ b11 := Nat.le_trans Z0 (Nat.le_of_eq g11.symm)
    have sz11 : h0.size ≤ b11 := Nat.le_of_eq g11.symm
    have ne11 : a1 ≠ b11 := Nat.ne_of_lt (Nat.lt_of_lt_of_le V0.lt (Nat.le_of_eq g11.symm))
    have V11 : Arv Z h11 b11 k11 .byte p2 (List.replicate p2.toNatClampNeg (Value.int 0)) (.int 0) := (Arv.new A11 hp).pad (pad_rep [] (.int 0) p2.toNatClampNeg)
    have q12 := (V0.ext E11)
    have go13 : ∀ t, Steps p.tables e below (T11.setTop (mkF m 23 #[.val (.ref a1), .val (.int p2), .val (.ref b11)] [(.ref a1), (.int (0 : Int32)), (.ref b11), (.int (0 : Int32)), (.ref a1)])) t → Steps p.tables e below (s₁.setTop (entryFrame m #[(.ref a1), (.int p2)] 3)) t := fun t kt => go10 t (by
        refine st11 _ ?_
        show Steps p.tables e below (T11.setTop (mkF m 17 #[.val (.ref a1), .val (.int p2), .unset] [(.ref b11)])) _
        refine XS.astoreN X11.here hx rfl (hb hby d7_17) rfl rfl (l' := #[.val (.ref a1), .val (.int p2), .val (.ref b11)]) rfl ?_
        show Steps p.tables e below (T11.setTop (mkF m 18 #[.val (.ref a1), .val (.int p2), .val (.ref b11)] [])) _
        refine XS.aloadN X11.here hx rfl (hb hby d7_18) rfl rfl ?_
        show Steps p.tables e below (T11.setTop (mkF m 19 #[.val (.ref a1), .val (.int p2), .val (.ref b11)] [(.ref a1)])) _
        refine XS.iconst X11.here hx rfl (hb hby d7_19) ?_
        show Steps p.tables e below (T11.setTop (mkF m 20 #[.val (.ref a1), .val (.int p2), .val (.ref b11)] [(.int (0 : Int32)), (.ref a1)])) _
        refine XS.aloadN X11.here hx rfl (hb hby d7_20) rfl rfl ?_
        show Steps p.tables e below (T11.setTop (mkF m 21 #[.val (.ref a1), .val (.int p2), .val (.ref b11)] [(.ref b11), (.int (0 : Int32)), (.ref a1)])) _
        refine XS.iconst X11.here hx rfl (hb hby d7_21) ?_
        show Steps p.tables e below (T11.setTop (mkF m 22 #[.val (.ref a1), .val (.int p2), .val (.ref b11)] [(.int (0 : Int32)), (.ref b11), (.int (0 : Int32)), (.ref a1)])) _
        refine XS.aloadN X11.here hx rfl (hb hby d7_22) rfl rfl ?_
        show Steps p.tables e below (T11.setTop (mkF m 23 #[.val (.ref a1), .val (.int p2), .val (.ref b11)] [(.ref a1), (.int (0 : Int32)), (.ref b11), (.int (0 : Int32)), (.ref a1)])) _
        exact kt)
    obtain ⟨c14, Ar14, q14, -⟩ := id q12
    have go15 : ∀ t, Steps p.tables e below (T11.setTop (mkF m 25 #[.val (.ref a1), .val (.int p2), .val (.ref b11)] [(.int p2), (.int vs.length.toInt32), (.int (0 : Int32)), (.ref b11), (.int (0 : Int32)), (.ref a1)])) t → Steps p.tables e below (s₁.setTop (entryFrame m #[(.ref a1), (.int p2)] 3)) t := fun t kt => go13 t (by
        refine X11.arraylength hx (by rw [e11]; exact Ar14.1) (State.isArrayOf_alike hZ.alike Ar14.2.1) (g := (mkF m 23 #[.val (.ref a1), .val (.int p2), .val (.ref b11)] [(.ref a1), (.int (0 : Int32)), (.ref b11), (.int (0 : Int32)), (.ref a1)])) rfl rfl (hb hby d7_23) _ ?_
        rw [own_len q14 (n := vs.length.toInt32) rfl]
        show Steps p.tables e below (T11.setTop (mkF m 24 #[.val (.ref a1), .val (.int p2), .val (.ref b11)] [(.int vs.length.toInt32), (.int (0 : Int32)), (.ref b11), (.int (0 : Int32)), (.ref a1)])) _
        refine XS.iloadN X11.here hx rfl (hb hby d7_24) rfl ?_
        show Steps p.tables e below (T11.setTop (mkF m 25 #[.val (.ref a1), .val (.int p2), .val (.ref b11)] [(.int p2), (.int vs.length.toInt32), (.int (0 : Int32)), (.ref b11), (.int (0 : Int32)), (.ref a1)])) _
        exact kt)
    obtain ⟨_, _, ⟨T16, L16, k16, n16⟩, -, X16, ⟨Lc16, hQ16, l16, y16, z16⟩, st16⟩ := Jvm.LawKit.callS X11 hx (y := (⟨"java/lang/Math", "min", "(II)I"⟩ : MethodName)) hown (mvT hZ (hw _ (List.mem_of_getElem? (i := 37) rfl))) (mvT hZ (hw _ (List.mem_of_getElem? (i := 38) rfl))) (mvT hZ (hw _ (List.mem_of_getElem? (i := 31) rfl))) (mvT hZ (hw _ (List.mem_of_getElem? (i := 39) rfl))) (by decide) (backOf (W := 4) (rm8 l Z a0 hw [] vs.length.toInt32 p2 h11 n0) hZ (hw _ (List.mem_of_getElem? (i := 39) rfl)) (hw _ (List.mem_of_getElem? (i := 31) rfl)) (by decide) (by decide)) (g := (mkF m 25 #[.val (.ref a1), .val (.int p2), .val (.ref b11)] [(.int p2), (.int vs.length.toInt32), (.int (0 : Int32)), (.ref b11), (.int (0 : Int32)), (.ref a1)])) rfl (by rw [hml]; rfl) (argsL := [(.int vs.length.toInt32), (.int p2)]) (rest := [(.int (0 : Int32)), (.ref b11), (.int (0 : Int32)), (.ref a1)]) (lenOf pd_2 rfl) rfl (by show 2 * 0 + _ ≤ _; exact Nat.le_of_eq rfl) (hb hby d7_25) (fun _ _ => ⟨rfl, e11, (by decide : 1 + 0 ≤ _), (by decide : 16 + 0 ≤ _)⟩)
    dsimp only [Pt.U, Pt.locs, Pt.cells, Pt.slots] at X16 l16 y16 z16 st16 hQ16
    subst l16 y16 z16
    obtain ⟨rfl, N16q, e16⟩ := hQ16
    have N16 := Fr.app N0 N16q
    have go17 : ∀ t, Steps p.tables e below (T16.setTop (mkF m 28 #[.val (.ref a1), .val (.int p2), .val (.ref b11)] [(.int (own_min vs.length.toInt32 p2)), (.int (0 : Int32)), (.ref b11), (.int (0 : Int32)), (.ref a1)])) t → Steps p.tables e below (s₁.setTop (entryFrame m #[(.ref a1), (.int p2)] 3)) t := fun t kt => go15 t (by
        refine st16 _ ?_
        show Steps p.tables e below (T16.setTop (mkF m 28 #[.val (.ref a1), .val (.int p2), .val (.ref b11)] [(.int (own_min vs.length.toInt32 p2)), (.int (0 : Int32)), (.ref b11), (.int (0 : Int32)), (.ref a1)])) _
        exact kt)
    obtain ⟨kA18, VA18⟩ := q12.arv
    obtain ⟨m18a, m18b⟩ := own_min3 (n := vs.length) (p := p2) (by obtain ⟨_, _, _, _, _, x⟩ := V0; exact x) hp hp16
    have lv18 : vs.length.toInt32.toNatClampNeg = vs.length := (own_ni vs.length (by obtain ⟨_, _, _, _, _, x⟩ := V0; omega)).2.1
    obtain ⟨T18, h18, L18, X18, e18, N18, K18, V18, st18⟩ := cpA X16 hx hZ hown (hw _ (List.mem_of_getElem? (i := 40) rfl)) (hw _ (List.mem_of_getElem? (i := 43) rfl)) (hw _ (List.mem_of_getElem? (i := 41) rfl)) (hw _ (List.mem_of_getElem? (i := 42) rfl)) e16 VA18 V11 (Or.inl ⟨rfl, rfl⟩) (sp := (0 : Int32)) (dp := (0 : Int32)) (nn := (own_min vs.length.toInt32 p2)) (by decide) (by decide) m18a (by rw [m18b, lv18]; exact Nat.le_trans (Nat.le_of_eq (Nat.zero_add _)) (Nat.min_le_left _ _)) (by rw [m18b]; exact Nat.le_trans (Nat.le_of_eq (Nat.zero_add _)) (Nat.min_le_right _ _)) rfl (by rw [m18b, List.length_replicate]; exact Nat.le_trans (Nat.le_of_eq (Nat.zero_add _)) (Nat.min_le_right _ _)) N16 gb11 (g := (mkF m 28 #[.val (.ref a1), .val (.int p2), .val (.ref b11)] [(.int (own_min vs.length.toInt32 p2)), (.int (0 : Int32)), (.ref b11), (.int (0 : Int32)), (.ref a1)])) rfl (by rw [hml]; rfl) rfl (hb hby d7_28) (by decide) (W := 0) (by show 2 * 0 + _ ≤ _; exact Nat.le_of_eq rfl) (by decide)
    have Ex18 := Ex11.keep K18
    have VB18 : own_AB Z h18 b11 (own_cp vs p2.toNatClampNeg) := by
      have V' := V18
      rw [show ((0 : Int32).toNatClampNeg) = 0 from by decide, own_cp_eq vs p2.toNatClampNeg _ m18b] at V'
      exact own_of_arv V' Ex18 (own_cp_len _ _) (by rw [own_cp_len]; exact hp16)
    have go19 : ∀ t, Steps p.tables e below (T18.setTop (mkF m 32 #[.val (.ref a1), .val (.int p2), .val (.ref b11)] [(.ref b11)])) t → Steps p.tables e below (s₁.setTop (entryFrame m #[(.ref a1), (.int p2)] 3)) t := fun t kt => go17 t (by
        refine st18 _ ?_
        show Steps p.tables e below (T18.setTop (mkF m 31 #[.val (.ref a1), .val (.int p2), .val (.ref b11)] [])) _
        refine XS.aloadN X18.here hx rfl (hb hby d7_31) rfl rfl ?_
        show Steps p.tables e below (T18.setTop (mkF m 32 #[.val (.ref a1), .val (.int p2), .val (.ref b11)] [(.ref b11)])) _
        exact kt)
    obtain ⟨fs, hr, hrun, hended, hW, hsame⟩ := X18.leave (v := some (.ref b11)) (fun h => by rw [Bd.returns] at h; cases h)
    refine ⟨_, _, go19 _ (X18.areturnOut hx rfl Bd.returns rfl (hb hby d7_32) hr), hrun, hended, _, _, rfl, ?_, ⟨_, rfl⟩, hW, hsame.mono (by decide) (by decide)⟩
    show own_QC _ _ _ _ _ _ T18.heap _
    rw [e18]
    exact ⟨b11, rfl, N18, (((Keep.refl h0 []).ext E11).trans K18 (allS (Or.inr sz11) all0)), gb11, VB18⟩
theorem d5_0 : decode prog_42_method_11_code 0 = .ok (.aload_n 0, 1) := by decide +kernel
theorem d5_1 : decode prog_42_method_11_code 1 = .ok (.getfield 17, 3) := by decide +kernel
theorem d5_4 : decode prog_42_method_11_code 4 = .ok (.iload_n 1, 1) := by decide +kernel
theorem d5_5 : decode prog_42_method_11_code 5 = .ok (.iadd, 1) := by decide +kernel
theorem d5_6 : decode prog_42_method_11_code 6 = .ok (.aload_n 0, 1) := by decide +kernel
theorem d5_7 : decode prog_42_method_11_code 7 = .ok (.getfield 7, 3) := by decide +kernel
theorem d5_10 : decode prog_42_method_11_code 10 = .ok (.arraylength, 1) := by decide +kernel
theorem d5_11 : decode prog_42_method_11_code 11 = .ok (.if_icmp .le 30, 3) := by decide +kernel
theorem d5_14 : decode prog_42_method_11_code 14 = .ok (.aload_n 0, 1) := by decide +kernel
theorem d5_15 : decode prog_42_method_11_code 15 = .ok (.aload_n 0, 1) := by decide +kernel
theorem d5_16 : decode prog_42_method_11_code 16 = .ok (.getfield 7, 3) := by decide +kernel
theorem d5_19 : decode prog_42_method_11_code 19 = .ok (.iconst 2, 1) := by decide +kernel
theorem d5_20 : decode prog_42_method_11_code 20 = .ok (.aload_n 0, 1) := by decide +kernel
theorem d5_21 : decode prog_42_method_11_code 21 = .ok (.getfield 7, 3) := by decide +kernel
theorem d5_24 : decode prog_42_method_11_code 24 = .ok (.arraylength, 1) := by decide +kernel
theorem d5_25 : decode prog_42_method_11_code 25 = .ok (.imul, 1) := by decide +kernel
theorem d5_26 : decode prog_42_method_11_code 26 = .ok (.aload_n 0, 1) := by decide +kernel
theorem d5_27 : decode prog_42_method_11_code 27 = .ok (.getfield 17, 3) := by decide +kernel
theorem d5_30 : decode prog_42_method_11_code 30 = .ok (.iload_n 1, 1) := by decide +kernel
theorem d5_31 : decode prog_42_method_11_code 31 = .ok (.iadd, 1) := by decide +kernel
theorem d5_32 : decode prog_42_method_11_code 32 = .ok (.invokestatic 39, 3) := by decide +kernel
theorem d5_35 : decode prog_42_method_11_code 35 = .ok (.invokestatic 33, 3) := by decide +kernel
theorem d5_38 : decode prog_42_method_11_code 38 = .ok (.putfield 7, 3) := by decide +kernel
theorem d5_41 : decode prog_42_method_11_code 41 = .ok (.return_, 1) := by decide +kernel
theorem pn_5 : plainName "com/example/classweave/classweave/classfile/ClassOutput" = true := by first | (simp [plainName, overriddenIn]; done) | decide +kernel
theorem ef_5 (m : MethodId) (a1 : Addr) (p2 : Int32) : entryFrame m #[(.ref a1), (.int p2)] 2 = mkF m 0 #[.val (.ref a1), .val (.int p2)] [] := by first | (simp [entryFrame, mkF, argsToLocals, Value.category]; done) | rfl
set_option maxRecDepth 65536 in
set_option maxHeartbeats 40000000 in
theorem rm5 (l : Launch) (Z : State) (a0 : Array Value) (hw : ∀ d ∈ tables_1, d.before a0 Z = true) (ws : List Jvm.Cond) (a1 : Addr) (p2 : Int32) (b0 : Addr) (vs : List Value) (cn : Nat) (h0 : Heap) (n0 : Nat) (Z0 : n0 ≤ h0.size) (O0 : own_O Z h0 n0 a1 b0 vs cn) (hp2 : p2 = 2) (hv : vs.length ≤ 15) (hc : cn ≤ 6) (hcv : cn ≤ vs.length) :
    MetFree l (⟨"com/example/classweave/classweave/classfile/ClassOutput", "ensure", "(I)V"⟩ : MethodName) (head1 (Jvm.Cond.code (⟨"com/example/classweave/classweave/classfile/ClassOutput", "ensure", "(I)V"⟩ : MethodName) prog_42_method_11_code 2 none :: ws) ({ frames := 2, cells := 1, slots := 16, locals := 55 } : Room)) (fun a U => a = #[(.ref a1), (.int p2)] ∧ Z.Warmed39 U.vm ∧ U.heap = h0) (fun _ _ _ _ _ => True) (fun _ U o U' => ∃ v L, o = .returned v ∧ own_QE Z a1 vs cn n0 v U'.heap L ∧ FrameEnd U o U' L ({ frames := 2, cells := 1, slots := 16, locals := 55 } : Room).cells ({ frames := 2, cells := 1, slots := 16, locals := 55 } : Room).slots) := by
  refine MetFree.of_bodySF (plainFor_of_name pn_5) hisR ?_
  intro p e s m args below meth c s₁ Bd hml0 hP hK
  obtain ⟨rfl, hZ, hh⟩ := hP
  have hx := Bd.exec
  have hby := Bd.bytes
  have hml : c.maxLocals = 2 := hml0
  have hown : s.vm.findClass "com/example/classweave/classweave/classfile/ClassOutput" = some m.cls := findClass_of_methodNamed Bd.named
  have hnm := (name_of_methodNamed Bd.named Bd.method).1
  have X0 : Stand p l e ({ frames := 2, cells := 1, slots := 16, locals := 55 } : Room) s m #[(.ref a1), (.int p2)] below meth c s₁ [] 0 0 := Stand.of_body Bd
  have e0 : s₁.heap = h0 := by rw [← hh, Bd.state]; rfl
  have N0 := Fr.nil n0
  have go0 : ∀ t, Steps p.tables e below (s₁.setTop (mkF m 0 #[.val (.ref a1), .val (.int p2)] [])) t → Steps p.tables e below (s₁.setTop (entryFrame m #[(.ref a1), (.int p2)] 2)) t := fun t k => castTop (ef_5 m a1 p2) k
  obtain ⟨E0, F1, F2, V0, ga, gb⟩ := id O0
  have ne1 : a1 ≠ b0 := Exa.ne E0 (by obtain ⟨_, _, _, x, _⟩ := V0; exact x) own_neK
  have go2 : ∀ t, Steps p.tables e below (s₁.setTop (mkF m 1 #[.val (.ref a1), .val (.int p2)] [(.ref a1)])) t → Steps p.tables e below (s₁.setTop (entryFrame m #[(.ref a1), (.int p2)] 2)) t := fun t kt => go0 t (by
      refine XS.aloadN X0.here hx rfl (hb hby d5_0) rfl rfl ?_
      show Steps p.tables e below (s₁.setTop (mkF m 1 #[.val (.ref a1), .val (.int p2)] [(.ref a1)])) _
      exact kt)
  obtain ⟨T3, X3, e3, st3⟩ := getF X0 hx hZ hown (host := "") (Or.inl (hw _ (List.mem_of_getElem? (i := 27) rfl))) Via.refl e0 F2 (g := (mkF m 1 #[.val (.ref a1), .val (.int p2)] [(.ref a1)])) rfl rfl (hb hby d5_1)
  have go4 : ∀ t, Steps p.tables e below (T3.setTop (mkF m 7 #[.val (.ref a1), .val (.int p2)] [(.ref a1), (.int (cn.toInt32 + p2))])) t → Steps p.tables e below (s₁.setTop (entryFrame m #[(.ref a1), (.int p2)] 2)) t := fun t kt => go2 t (by
      refine st3 _ ?_
      show Steps p.tables e below (T3.setTop (mkF m 4 #[.val (.ref a1), .val (.int p2)] [(.int cn.toInt32)])) _
      refine XS.iloadN X3.here hx rfl (hb hby d5_4) rfl ?_
      show Steps p.tables e below (T3.setTop (mkF m 5 #[.val (.ref a1), .val (.int p2)] [(.int p2), (.int cn.toInt32)])) _
      refine XS.iadd X3.here hx rfl (hb hby d5_5) rfl ?_
      show Steps p.tables e below (T3.setTop (mkF m 6 #[.val (.ref a1), .val (.int p2)] [(.int (cn.toInt32 + p2))])) _
      refine XS.aloadN X3.here hx rfl (hb hby d5_6) rfl rfl ?_
      show Steps p.tables e below (T3.setTop (mkF m 7 #[.val (.ref a1), .val (.int p2)] [(.ref a1), (.int (cn.toInt32 + p2))])) _
      exact kt)
  obtain ⟨T5, X5, e5, st5⟩ := getF X3 hx hZ hown (host := "") (Or.inl (hw _ (List.mem_of_getElem? (i := 11) rfl))) Via.refl e3 F1 (g := (mkF m 7 #[.val (.ref a1), .val (.int p2)] [(.ref a1), (.int (cn.toInt32 + p2))])) rfl rfl (hb hby d5_7)
  have go6 : ∀ t, Steps p.tables e below (T5.setTop (mkF m 10 #[.val (.ref a1), .val (.int p2)] [(.ref b0), (.int (cn.toInt32 + p2))])) t → Steps p.tables e below (s₁.setTop (entryFrame m #[(.ref a1), (.int p2)] 2)) t := fun t kt => go4 t (by
      refine st5 _ ?_
      show Steps p.tables e below (T5.setTop (mkF m 10 #[.val (.ref a1), .val (.int p2)] [(.ref b0), (.int (cn.toInt32 + p2))])) _
      exact kt)
  obtain ⟨c7, Ar7, q7, -⟩ := id V0
  have go8 : ∀ t, Steps p.tables e below (T5.setTop (mkF m 11 #[.val (.ref a1), .val (.int p2)] [(.int vs.length.toInt32), (.int (cn.toInt32 + p2))])) t → Steps p.tables e below (s₁.setTop (entryFrame m #[(.ref a1), (.int p2)] 2)) t := fun t kt => go6 t (by
      refine X5.arraylength hx (by rw [e5]; exact Ar7.1) (State.isArrayOf_alike hZ.alike Ar7.2.1) (g := (mkF m 10 #[.val (.ref a1), .val (.int p2)] [(.ref b0), (.int (cn.toInt32 + p2))])) rfl rfl (hb hby d5_10) _ ?_
      rw [own_len q7 (n := vs.length.toInt32) rfl]
      show Steps p.tables e below (T5.setTop (mkF m 11 #[.val (.ref a1), .val (.int p2)] [(.int vs.length.toInt32), (.int (cn.toInt32 + p2))])) _
      exact kt)
  by_cases hc11_9 : vs.length.toInt32 < (cn.toInt32 + p2)
  · have go10 : ∀ t, Steps p.tables e below (T5.setTop (mkF m 16 #[.val (.ref a1), .val (.int p2)] [(.ref a1), (.ref a1)])) t → Steps p.tables e below (s₁.setTop (entryFrame m #[(.ref a1), (.int p2)] 2)) t := fun t kt => go8 t (by
        refine XS.icmpNo X5.here hx rfl (hb hby d5_11) rfl (tlt hc11_9).2.2.2 ?_
        show Steps p.tables e below (T5.setTop (mkF m 14 #[.val (.ref a1), .val (.int p2)] [])) _
        refine XS.aloadN X5.here hx rfl (hb hby d5_14) rfl rfl ?_
        show Steps p.tables e below (T5.setTop (mkF m 15 #[.val (.ref a1), .val (.int p2)] [(.ref a1)])) _
        refine XS.aloadN X5.here hx rfl (hb hby d5_15) rfl rfl ?_
        show Steps p.tables e below (T5.setTop (mkF m 16 #[.val (.ref a1), .val (.int p2)] [(.ref a1), (.ref a1)])) _
        exact kt)
    obtain ⟨T11, X11, e11, st11⟩ := getF X5 hx hZ hown (host := "") (Or.inl (hw _ (List.mem_of_getElem? (i := 11) rfl))) Via.refl e5 F1 (g := (mkF m 16 #[.val (.ref a1), .val (.int p2)] [(.ref a1), (.ref a1)])) rfl rfl (hb hby d5_16)
    have go12 : ∀ t, Steps p.tables e below (T11.setTop (mkF m 21 #[.val (.ref a1), .val (.int p2)] [(.ref a1), (.int (2 : Int32)), (.ref b0), (.ref a1)])) t → Steps p.tables e below (s₁.setTop (entryFrame m #[(.ref a1), (.int p2)] 2)) t := fun t kt => go10 t (by
        refine st11 _ ?_
        show Steps p.tables e below (T11.setTop (mkF m 19 #[.val (.ref a1), .val (.int p2)] [(.ref b0), (.ref a1)])) _
        refine XS.iconst X11.here hx rfl (hb hby d5_19) ?_
        show Steps p.tables e below (T11.setTop (mkF m 20 #[.val (.ref a1), .val (.int p2)] [(.int (2 : Int32)), (.ref b0), (.ref a1)])) _
        refine XS.aloadN X11.here hx rfl (hb hby d5_20) rfl rfl ?_
        show Steps p.tables e below (T11.setTop (mkF m 21 #[.val (.ref a1), .val (.int p2)] [(.ref a1), (.int (2 : Int32)), (.ref b0), (.ref a1)])) _
        exact kt)
    obtain ⟨T13, X13, e13, st13⟩ := getF X11 hx hZ hown (host := "") (Or.inl (hw _ (List.mem_of_getElem? (i := 11) rfl))) Via.refl e11 F1 (g := (mkF m 21 #[.val (.ref a1), .val (.int p2)] [(.ref a1), (.int (2 : Int32)), (.ref b0), (.ref a1)])) rfl rfl (hb hby d5_21)
    have go14 : ∀ t, Steps p.tables e below (T13.setTop (mkF m 24 #[.val (.ref a1), .val (.int p2)] [(.ref b0), (.int (2 : Int32)), (.ref b0), (.ref a1)])) t → Steps p.tables e below (s₁.setTop (entryFrame m #[(.ref a1), (.int p2)] 2)) t := fun t kt => go12 t (by
        refine st13 _ ?_
        show Steps p.tables e below (T13.setTop (mkF m 24 #[.val (.ref a1), .val (.int p2)] [(.ref b0), (.int (2 : Int32)), (.ref b0), (.ref a1)])) _
        exact kt)
    obtain ⟨c15, Ar15, q15, -⟩ := id V0
    have go16 : ∀ t, Steps p.tables e below (T13.setTop (mkF m 27 #[.val (.ref a1), .val (.int p2)] [(.ref a1), (.int ((2 : Int32) * vs.length.toInt32)), (.ref b0), (.ref a1)])) t → Steps p.tables e below (s₁.setTop (entryFrame m #[(.ref a1), (.int p2)] 2)) t := fun t kt => go14 t (by
        refine X13.arraylength hx (by rw [e13]; exact Ar15.1) (State.isArrayOf_alike hZ.alike Ar15.2.1) (g := (mkF m 24 #[.val (.ref a1), .val (.int p2)] [(.ref b0), (.int (2 : Int32)), (.ref b0), (.ref a1)])) rfl rfl (hb hby d5_24) _ ?_
        rw [own_len q15 (n := vs.length.toInt32) rfl]
        show Steps p.tables e below (T13.setTop (mkF m 25 #[.val (.ref a1), .val (.int p2)] [(.int vs.length.toInt32), (.int (2 : Int32)), (.ref b0), (.ref a1)])) _
        refine XS.imul X13.here hx rfl (hb hby d5_25) rfl ?_
        show Steps p.tables e below (T13.setTop (mkF m 26 #[.val (.ref a1), .val (.int p2)] [(.int ((2 : Int32) * vs.length.toInt32)), (.ref b0), (.ref a1)])) _
        refine XS.aloadN X13.here hx rfl (hb hby d5_26) rfl rfl ?_
        show Steps p.tables e below (T13.setTop (mkF m 27 #[.val (.ref a1), .val (.int p2)] [(.ref a1), (.int ((2 : Int32) * vs.length.toInt32)), (.ref b0), (.ref a1)])) _
        exact kt)
    obtain ⟨T17, X17, e17, st17⟩ := getF X13 hx hZ hown (host := "") (Or.inl (hw _ (List.mem_of_getElem? (i := 27) rfl))) Via.refl e13 F2 (g := (mkF m 27 #[.val (.ref a1), .val (.int p2)] [(.ref a1), (.int ((2 : Int32) * vs.length.toInt32)), (.ref b0), (.ref a1)])) rfl rfl (hb hby d5_27)
    have go18 : ∀ t, Steps p.tables e below (T17.setTop (mkF m 32 #[.val (.ref a1), .val (.int p2)] [(.int (cn.toInt32 + p2)), (.int ((2 : Int32) * vs.length.toInt32)), (.ref b0), (.ref a1)])) t → Steps p.tables e below (s₁.setTop (entryFrame m #[(.ref a1), (.int p2)] 2)) t := fun t kt => go16 t (by
        refine st17 _ ?_
        show Steps p.tables e below (T17.setTop (mkF m 30 #[.val (.ref a1), .val (.int p2)] [(.int cn.toInt32), (.int ((2 : Int32) * vs.length.toInt32)), (.ref b0), (.ref a1)])) _
        refine XS.iloadN X17.here hx rfl (hb hby d5_30) rfl ?_
        show Steps p.tables e below (T17.setTop (mkF m 31 #[.val (.ref a1), .val (.int p2)] [(.int p2), (.int cn.toInt32), (.int ((2 : Int32) * vs.length.toInt32)), (.ref b0), (.ref a1)])) _
        refine XS.iadd X17.here hx rfl (hb hby d5_31) rfl ?_
        show Steps p.tables e below (T17.setTop (mkF m 32 #[.val (.ref a1), .val (.int p2)] [(.int (cn.toInt32 + p2)), (.int ((2 : Int32) * vs.length.toInt32)), (.ref b0), (.ref a1)])) _
        exact kt)
    obtain ⟨_, _, ⟨T19, L19, k19, n19⟩, -, X19, ⟨Lc19, hQ19, l19, y19, z19⟩, st19⟩ := Jvm.LawKit.callS X17 hx (y := (⟨"java/lang/Math", "max", "(II)I"⟩ : MethodName)) hown (mvT hZ (hw _ (List.mem_of_getElem? (i := 29) rfl))) (mvT hZ (hw _ (List.mem_of_getElem? (i := 30) rfl))) (mvT hZ (hw _ (List.mem_of_getElem? (i := 31) rfl))) (mvT hZ (hw _ (List.mem_of_getElem? (i := 32) rfl))) (by decide) (backOf (W := 2) (rm6 l Z a0 hw [] ((2 : Int32) * vs.length.toInt32) (cn.toInt32 + p2) h0 n0) hZ (hw _ (List.mem_of_getElem? (i := 32) rfl)) (hw _ (List.mem_of_getElem? (i := 31) rfl)) (by decide) (by decide)) (g := (mkF m 32 #[.val (.ref a1), .val (.int p2)] [(.int (cn.toInt32 + p2)), (.int ((2 : Int32) * vs.length.toInt32)), (.ref b0), (.ref a1)])) rfl (by rw [hml]; rfl) (argsL := [(.int ((2 : Int32) * vs.length.toInt32)), (.int (cn.toInt32 + p2))]) (rest := [(.ref b0), (.ref a1)]) (lenOf pd_2 rfl) rfl (by show 2 * 0 + _ ≤ _; exact Nat.le_of_eq rfl) (hb hby d5_32) (fun _ _ => ⟨rfl, e17, (by decide : 0 + 0 ≤ _), (by decide : 0 + 0 ≤ _)⟩)
    dsimp only [Pt.U, Pt.locs, Pt.cells, Pt.slots] at X19 l19 y19 z19 st19 hQ19
    subst l19 y19 z19
    obtain ⟨rfl, N19q, e19⟩ := hQ19
    have N19 := Fr.app N0 N19q
    have go20 : ∀ t, Steps p.tables e below (T19.setTop (mkF m 35 #[.val (.ref a1), .val (.int p2)] [(.int (own_max ((2 : Int32) * vs.length.toInt32) (cn.toInt32 + p2))), (.ref b0), (.ref a1)])) t → Steps p.tables e below (s₁.setTop (entryFrame m #[(.ref a1), (.int p2)] 2)) t := fun t kt => go18 t (by
        refine st19 _ ?_
        show Steps p.tables e below (T19.setTop (mkF m 35 #[.val (.ref a1), .val (.int p2)] [(.int (own_max ((2 : Int32) * vs.length.toInt32) (cn.toInt32 + p2))), (.ref b0), (.ref a1)])) _
        exact kt)
    obtain ⟨M21a, M21b, M21c⟩ := own_M hp2 hv hc hcv hc11_9
    obtain ⟨_, _, ⟨T22, L22, k22, n22⟩, -, X22, ⟨Lc22, hQ22, l22, y22, z22⟩, st22⟩ := Jvm.LawKit.callS X19 hx (y := (⟨"java/util/Arrays", "copyOf", "([BI)[B"⟩ : MethodName)) hown (mvT hZ (hw _ (List.mem_of_getElem? (i := 33) rfl))) (mvT hZ (hw _ (List.mem_of_getElem? (i := 34) rfl))) (mvT hZ (hw _ (List.mem_of_getElem? (i := 35) rfl))) (mvT hZ (hw _ (List.mem_of_getElem? (i := 36) rfl))) (by decide) (backOf (W := 1) (rm7 l Z a0 hw [] b0 (own_max ((2 : Int32) * vs.length.toInt32) (cn.toInt32 + p2)) vs h0 n0 Z0 V0 M21a (Nat.le_trans M21b (by decide))) hZ (hw _ (List.mem_of_getElem? (i := 36) rfl)) (hw _ (List.mem_of_getElem? (i := 35) rfl)) (by decide) (by decide)) (g := (mkF m 35 #[.val (.ref a1), .val (.int p2)] [(.int (own_max ((2 : Int32) * vs.length.toInt32) (cn.toInt32 + p2))), (.ref b0), (.ref a1)])) rfl (by rw [hml]; rfl) (argsL := [(.ref b0), (.int (own_max ((2 : Int32) * vs.length.toInt32) (cn.toInt32 + p2)))]) (rest := [(.ref a1)]) (lenOf pd_3 rfl) rfl (by show 2 * 0 + _ ≤ _; exact Nat.le_of_eq rfl) (hb hby d5_35) (fun _ _ => ⟨rfl, e19, (by decide : 0 + 1 ≤ _), (by decide : 0 + 16 ≤ _)⟩)
    dsimp only [Pt.U, Pt.locs, Pt.cells, Pt.slots] at X22 l22 y22 z22 st22 hQ22
    subst l22 y22 z22
    obtain ⟨b22, rfl, N22q, K22, gb22, V22⟩ := hQ22
    have N22 := Fr.app N19 N22q
    have q23 := (E0.keep K22)
    have neq : a1 ≠ b22 := Exa.ne q23 (by obtain ⟨_, _, _, x, _⟩ := V22; exact x) own_neK
    have go24 : ∀ t, Steps p.tables e below (T22.setTop (mkF m 38 #[.val (.ref a1), .val (.int p2)] [(.ref b22), (.ref a1)])) t → Steps p.tables e below (s₁.setTop (entryFrame m #[(.ref a1), (.int p2)] 2)) t := fun t kt => go20 t (by
        refine st22 _ ?_
        show Steps p.tables e below (T22.setTop (mkF m 38 #[.val (.ref a1), .val (.int p2)] [(.ref b22), (.ref a1)])) _
        exact kt)
    have q25 := (F1.keep K22 nin0)
    obtain ⟨T26, h26, X26, e26, W26, st26⟩ := putF X22 hx hZ hown (host := "") (Or.inl (hw _ (List.mem_of_getElem? (i := 11) rfl))) Via.refl rfl q25 q23 (Or.inl (hw _ (List.mem_of_getElem? (i := 12) rfl))) (hw _ (List.mem_of_getElem? (i := 2) rfl)) (ty := (.array .byte)) (by decide) rfl rfl (g := (mkF m 38 #[.val (.ref a1), .val (.int p2)] [(.ref b22), (.ref a1)])) rfl rfl (hb hby d5_38)
    have Fw26 := q25.same W26
    have N26 := Fr.snoc X26 N22 ga
    have go27 : ∀ t, Steps p.tables e below (T26.setTop (mkF m 41 #[.val (.ref a1), .val (.int p2)] [])) t → Steps p.tables e below (s₁.setTop (entryFrame m #[(.ref a1), (.int p2)] 2)) t := fun t kt => go24 t (by
        refine st26 _ ?_
        show Steps p.tables e below (T26.setTop (mkF m 41 #[.val (.ref a1), .val (.int p2)] [])) _
        exact kt)
    obtain ⟨fs, hr, hrun, hended, hW, hsame⟩ := X26.leave (v := none) (fun _ => rfl)
    refine ⟨_, _, go27 _ (X26.returnOut hx Bd.returns (hb hby d5_41) hr), hrun, hended, _, _, rfl, ?_, ⟨_, rfl⟩, hW, hsame.mono (by decide) (by decide)⟩
    show own_QE _ _ _ _ _ _ T26.heap _
    rw [e26]
    have q28 := (q23.wr W26)
    have q29 := ((F2.keep K22 nin0).other W26 (Or.inr (slot_ne (Or.inl (hw _ (List.mem_of_getElem? (i := 28) rfl))) (Or.inl (hw _ (List.mem_of_getElem? (i := 12) rfl))) (by decide) (t := .int) (t' := (.array .byte)) (by decide) (by decide))))
    have q30 := (V22.other W26 (Ne.symm neq))
    exact ⟨rfl, N26, b22, _, ⟨q28, Fw26, q29, q30, ga, gb22⟩, by rw [own_cp_len]; exact M21c, by rw [own_cp_len]; exact M21b, own_cp_take _ _ _ (by omega) hcv⟩
  · have go31 : ∀ t, Steps p.tables e below (T5.setTop (mkF m 41 #[.val (.ref a1), .val (.int p2)] [])) t → Steps p.tables e below (s₁.setTop (entryFrame m #[(.ref a1), (.int p2)] 2)) t := fun t kt => go8 t (by
        refine XS.icmpYes X5.here hx rfl (pc0 := 11) (pc' := 41) rfl (hb hby d5_11) rfl (flt hc11_9).2.2.2 (by decide) (by decide) ?_
        show Steps p.tables e below (T5.setTop (mkF m 41 #[.val (.ref a1), .val (.int p2)] [])) _
        exact kt)
    obtain ⟨fs, hr, hrun, hended, hW, hsame⟩ := X5.leave (v := none) (fun _ => rfl)
    refine ⟨_, _, go31 _ (X5.returnOut hx Bd.returns (hb hby d5_41) hr), hrun, hended, _, _, rfl, ?_, ⟨_, rfl⟩, hW, hsame.mono (by decide) (by decide)⟩
    show own_QE _ _ _ _ _ _ T5.heap _
    rw [e5]
    exact ⟨rfl, N0, b0, vs, ⟨E0, F1, F2, V0, ga, gb⟩, own_noM hp2 hv hc hc11_9, hv, rfl⟩
theorem d4_0 : decode prog_42_method_3_code 0 = .ok (.aload_n 0, 1) := by decide +kernel
theorem d4_1 : decode prog_42_method_3_code 1 = .ok (.iconst 2, 1) := by decide +kernel
theorem d4_2 : decode prog_42_method_3_code 2 = .ok (.invokevirtual 13, 3) := by decide +kernel
theorem d4_5 : decode prog_42_method_3_code 5 = .ok (.aload_n 0, 1) := by decide +kernel
theorem d4_6 : decode prog_42_method_3_code 6 = .ok (.getfield 7, 3) := by decide +kernel
theorem d4_9 : decode prog_42_method_3_code 9 = .ok (.aload_n 0, 1) := by decide +kernel
theorem d4_10 : decode prog_42_method_3_code 10 = .ok (.getfield 17, 3) := by decide +kernel
theorem d4_13 : decode prog_42_method_3_code 13 = .ok (.iload_n 1, 1) := by decide +kernel
theorem d4_14 : decode prog_42_method_3_code 14 = .ok (.bipush 8, 2) := by decide +kernel
theorem d4_16 : decode prog_42_method_3_code 16 = .ok (.iushr, 1) := by decide +kernel
theorem d4_17 : decode prog_42_method_3_code 17 = .ok (.i2b, 1) := by decide +kernel
theorem d4_18 : decode prog_42_method_3_code 18 = .ok (.bastore, 1) := by decide +kernel
theorem d4_19 : decode prog_42_method_3_code 19 = .ok (.aload_n 0, 1) := by decide +kernel
theorem d4_20 : decode prog_42_method_3_code 20 = .ok (.getfield 7, 3) := by decide +kernel
theorem d4_23 : decode prog_42_method_3_code 23 = .ok (.aload_n 0, 1) := by decide +kernel
theorem d4_24 : decode prog_42_method_3_code 24 = .ok (.getfield 17, 3) := by decide +kernel
theorem d4_27 : decode prog_42_method_3_code 27 = .ok (.iconst 1, 1) := by decide +kernel
theorem d4_28 : decode prog_42_method_3_code 28 = .ok (.iadd, 1) := by decide +kernel
theorem d4_29 : decode prog_42_method_3_code 29 = .ok (.iload_n 1, 1) := by decide +kernel
theorem d4_30 : decode prog_42_method_3_code 30 = .ok (.i2b, 1) := by decide +kernel
theorem d4_31 : decode prog_42_method_3_code 31 = .ok (.bastore, 1) := by decide +kernel
theorem d4_32 : decode prog_42_method_3_code 32 = .ok (.aload_n 0, 1) := by decide +kernel
theorem d4_33 : decode prog_42_method_3_code 33 = .ok (.dup, 1) := by decide +kernel
theorem d4_34 : decode prog_42_method_3_code 34 = .ok (.getfield 17, 3) := by decide +kernel
theorem d4_37 : decode prog_42_method_3_code 37 = .ok (.iconst 2, 1) := by decide +kernel
theorem d4_38 : decode prog_42_method_3_code 38 = .ok (.iadd, 1) := by decide +kernel
theorem d4_39 : decode prog_42_method_3_code 39 = .ok (.putfield 17, 3) := by decide +kernel
theorem d4_42 : decode prog_42_method_3_code 42 = .ok (.return_, 1) := by decide +kernel
theorem pn_4 : plainName "com/example/classweave/classweave/classfile/ClassOutput" = true := by first | (simp [plainName, overriddenIn]; done) | decide +kernel
theorem ef_4 (m : MethodId) (a1 : Addr) (p2 : Int32) : entryFrame m #[(.ref a1), (.int p2)] 2 = mkF m 0 #[.val (.ref a1), .val (.int p2)] [] := by first | (simp [entryFrame, mkF, argsToLocals, Value.category]; done) | rfl
set_option maxRecDepth 65536 in
set_option maxHeartbeats 40000000 in
theorem rm4 (l : Launch) (Z : State) (a0 : Array Value) (hw : ∀ d ∈ tables_1, d.before a0 Z = true) (ws : List Jvm.Cond) (a1 : Addr) (p2 : Int32) (bs : List Int32) (h0 : Heap) (n0 : Nat) (Z0 : n0 ≤ h0.size) (OB : own_OB Z h0 n0 a1 bs) (h6 : bs.length ≤ 6) :
    MetFree l (⟨"com/example/classweave/classweave/classfile/ClassOutput", "u2", "(I)V"⟩ : MethodName) (head1 (Jvm.Cond.code (⟨"com/example/classweave/classweave/classfile/ClassOutput", "u2", "(I)V"⟩ : MethodName) prog_42_method_3_code 2 none :: ws) ({ frames := 3, cells := 1, slots := 16, locals := 68 } : Room)) (fun a U => a = #[(.ref a1), (.int p2)] ∧ Z.Warmed39 U.vm ∧ U.heap = h0) (fun _ _ _ _ _ => True) (fun _ U o U' => ∃ v L, o = .returned v ∧ own_QB Z a1 (bs ++ [(nar .byte (((p2.toUInt32 >>> ((8 : Int32) &&& 31).toUInt32).toInt32).toInt8.toInt32)), (nar .byte (p2.toInt8.toInt32))]) n0 v U'.heap L ∧ FrameEnd U o U' L ({ frames := 3, cells := 1, slots := 16, locals := 68 } : Room).cells ({ frames := 3, cells := 1, slots := 16, locals := 68 } : Room).slots) := by
  refine MetFree.of_bodySF (plainFor_of_name pn_4) hisR ?_
  intro p e s m args below meth c s₁ Bd hml0 hP hK
  obtain ⟨rfl, hZ, hh⟩ := hP
  have hx := Bd.exec
  have hby := Bd.bytes
  have hml : c.maxLocals = 2 := hml0
  have hown : s.vm.findClass "com/example/classweave/classweave/classfile/ClassOutput" = some m.cls := findClass_of_methodNamed Bd.named
  have hnm := (name_of_methodNamed Bd.named Bd.method).1
  have X0 : Stand p l e ({ frames := 3, cells := 1, slots := 16, locals := 68 } : Room) s m #[(.ref a1), (.int p2)] below meth c s₁ [] 0 0 := Stand.of_body Bd
  have e0 : s₁.heap = h0 := by rw [← hh, Bd.state]; rfl
  have N0 := Fr.nil n0
  have go0 : ∀ t, Steps p.tables e below (s₁.setTop (mkF m 0 #[.val (.ref a1), .val (.int p2)] [])) t → Steps p.tables e below (s₁.setTop (entryFrame m #[(.ref a1), (.int p2)] 2)) t := fun t k => castTop (ef_4 m a1 p2) k
  obtain ⟨b0, vs, O0, t0, l0, l1⟩ := id OB
  have go1 : ∀ t, Steps p.tables e below (s₁.setTop (mkF m 2 #[.val (.ref a1), .val (.int p2)] [(.int (2 : Int32)), (.ref a1)])) t → Steps p.tables e below (s₁.setTop (entryFrame m #[(.ref a1), (.int p2)] 2)) t := fun t kt => go0 t (by
      refine XS.aloadN X0.here hx rfl (hb hby d4_0) rfl rfl ?_
      show Steps p.tables e below (s₁.setTop (mkF m 1 #[.val (.ref a1), .val (.int p2)] [(.ref a1)])) _
      refine XS.iconst X0.here hx rfl (hb hby d4_1) ?_
      show Steps p.tables e below (s₁.setTop (mkF m 2 #[.val (.ref a1), .val (.int p2)] [(.int (2 : Int32)), (.ref a1)])) _
      exact kt)
  obtain ⟨cq2, q2, q2'⟩ := O0.1.cell
  obtain ⟨_, _, ⟨T2, L2, k2, n2⟩, -, X2, ⟨Lc2, hQ2, l2, y2, z2⟩, st2⟩ := X0.privateBack hx (y := (⟨"com/example/classweave/classweave/classfile/ClassOutput", "ensure", "(I)V"⟩ : MethodName)) hown (mvT hZ (hw _ (List.mem_of_getElem? (i := 23) rfl))) (mvT hZ (hw _ (List.mem_of_getElem? (i := 24) rfl))) (mvT hZ (own_sel a0 Z hw)) (Cond.privateMethod_at (mvP hZ (hw _ (List.mem_of_getElem? (i := 25) rfl)) (args := #[]))) (mvT hZ (hw _ (List.mem_of_getElem? (i := 26) rfl))) (by decide) (backOf (W := 0) (rm5 l Z a0 hw [] a1 (2 : Int32) b0 vs bs.length h0 n0 Z0 O0 rfl l1 h6 l0) hZ (hw _ (List.mem_of_getElem? (i := 26) rfl)) (hw _ (List.mem_of_getElem? (i := 3) rfl)) (by decide) (by decide)) (g := (mkF m 2 #[.val (.ref a1), .val (.int p2)] [(.int (2 : Int32)), (.ref a1)])) rfl (by rw [hml]; rfl) (Steps.refl _) (a := a1) (by rw [e0]; exact q2) q2' (argsL := [(.int (2 : Int32))]) (rest := []) (lenOf pd_0 rfl) rfl (by show 2 * 0 + _ ≤ _; exact Nat.le_of_eq rfl) (hb hby d4_2) (fun _ _ => ⟨rfl, e0, (by decide : 0 + 1 ≤ _), (by decide : 0 + 16 ≤ _)⟩)
  dsimp only [Pt.U, Pt.locs, Pt.cells, Pt.slots] at X2 l2 y2 z2 st2 hQ2
  subst l2 y2 z2
  obtain ⟨rfl, N2q, b1, us, O1, m1, m2, m3⟩ := hQ2
  obtain ⟨E1, F1, F2, V1, ga, gb⟩ := id O1
  have ne3 : a1 ≠ b1 := Exa.ne E1 (by obtain ⟨_, _, _, x, _⟩ := V1; exact x) own_neK
  have N2 := Fr.app N0 N2q
  have go4 : ∀ t, Steps p.tables e below (T2.setTop (mkF m 6 #[.val (.ref a1), .val (.int p2)] [(.ref a1)])) t → Steps p.tables e below (s₁.setTop (entryFrame m #[(.ref a1), (.int p2)] 2)) t := fun t kt => go1 t (by
      refine st2.trans ?_
      show Steps p.tables e below (T2.setTop (mkF m 5 #[.val (.ref a1), .val (.int p2)] [])) _
      refine XS.aloadN X2.here hx rfl (hb hby d4_5) rfl rfl ?_
      show Steps p.tables e below (T2.setTop (mkF m 6 #[.val (.ref a1), .val (.int p2)] [(.ref a1)])) _
      exact kt)
  obtain ⟨T5, X5, e5, st5⟩ := getF X2 hx hZ hown (host := "") (Or.inl (hw _ (List.mem_of_getElem? (i := 11) rfl))) Via.refl rfl F1 (g := (mkF m 6 #[.val (.ref a1), .val (.int p2)] [(.ref a1)])) rfl rfl (hb hby d4_6)
  have go6 : ∀ t, Steps p.tables e below (T5.setTop (mkF m 10 #[.val (.ref a1), .val (.int p2)] [(.ref a1), (.ref b1)])) t → Steps p.tables e below (s₁.setTop (entryFrame m #[(.ref a1), (.int p2)] 2)) t := fun t kt => go4 t (by
      refine st5 _ ?_
      show Steps p.tables e below (T5.setTop (mkF m 9 #[.val (.ref a1), .val (.int p2)] [(.ref b1)])) _
      refine XS.aloadN X5.here hx rfl (hb hby d4_9) rfl rfl ?_
      show Steps p.tables e below (T5.setTop (mkF m 10 #[.val (.ref a1), .val (.int p2)] [(.ref a1), (.ref b1)])) _
      exact kt)
  obtain ⟨T7, X7, e7, st7⟩ := getF X5 hx hZ hown (host := "") (Or.inl (hw _ (List.mem_of_getElem? (i := 27) rfl))) Via.refl e5 F2 (g := (mkF m 10 #[.val (.ref a1), .val (.int p2)] [(.ref a1), (.ref b1)])) rfl rfl (hb hby d4_10)
  have go8 : ∀ t, Steps p.tables e below (T7.setTop (mkF m 18 #[.val (.ref a1), .val (.int p2)] [(.int (((p2.toUInt32 >>> ((8 : Int32) &&& 31).toUInt32).toInt32).toInt8.toInt32)), (.int bs.length.toInt32), (.ref b1)])) t → Steps p.tables e below (s₁.setTop (entryFrame m #[(.ref a1), (.int p2)] 2)) t := fun t kt => go6 t (by
      refine st7 _ ?_
      show Steps p.tables e below (T7.setTop (mkF m 13 #[.val (.ref a1), .val (.int p2)] [(.int bs.length.toInt32), (.ref b1)])) _
      refine XS.iloadN X7.here hx rfl (hb hby d4_13) rfl ?_
      show Steps p.tables e below (T7.setTop (mkF m 14 #[.val (.ref a1), .val (.int p2)] [(.int p2), (.int bs.length.toInt32), (.ref b1)])) _
      refine XS.bipush X7.here hx rfl (hb hby d4_14) ?_
      show Steps p.tables e below (T7.setTop (mkF m 16 #[.val (.ref a1), .val (.int p2)] [(.int (8 : Int32)), (.int p2), (.int bs.length.toInt32), (.ref b1)])) _
      refine XS.iushr X7.here hx rfl (hb hby d4_16) rfl ?_
      show Steps p.tables e below (T7.setTop (mkF m 17 #[.val (.ref a1), .val (.int p2)] [(.int ((p2.toUInt32 >>> ((8 : Int32) &&& 31).toUInt32).toInt32)), (.int bs.length.toInt32), (.ref b1)])) _
      refine XS.i2b X7.here hx rfl (hb hby d4_17) rfl ?_
      show Steps p.tables e below (T7.setTop (mkF m 18 #[.val (.ref a1), .val (.int p2)] [(.int (((p2.toUInt32 >>> ((8 : Int32) &&& 31).toUInt32).toInt32).toInt8.toInt32)), (.int bs.length.toInt32), (.ref b1)])) _
      exact kt)
  obtain ⟨c9, Ar9, q9, x9a, x9b, x9c⟩ := id V1
  obtain ⟨T9, h9, X9, e9, W9, st9⟩ := stB X7 hx hZ e7 Ar9 (j := bs.length.toInt32) (own_inb q9 rfl (own_ni bs.length (by omega)).2.2 (by rw [(own_ni bs.length (by omega)).2.1]; omega)) (g := (mkF m 18 #[.val (.ref a1), .val (.int p2)] [(.int (((p2.toUInt32 >>> ((8 : Int32) &&& 31).toUInt32).toInt32).toInt8.toInt32)), (.int bs.length.toInt32), (.ref b1)])) rfl rfl (hb hby d4_18)
  have V9 := own_AB.set Ar9 q9 x9a x9b x9c W9 (own_ni bs.length (by omega)).2.1
  have N9 := Fr.snoc X9 N2 gb
  have go10 : ∀ t, Steps p.tables e below (T9.setTop (mkF m 20 #[.val (.ref a1), .val (.int p2)] [(.ref a1)])) t → Steps p.tables e below (s₁.setTop (entryFrame m #[(.ref a1), (.int p2)] 2)) t := fun t kt => go8 t (by
      refine st9 _ ?_
      show Steps p.tables e below (T9.setTop (mkF m 19 #[.val (.ref a1), .val (.int p2)] [])) _
      refine XS.aloadN X9.here hx rfl (hb hby d4_19) rfl rfl ?_
      show Steps p.tables e below (T9.setTop (mkF m 20 #[.val (.ref a1), .val (.int p2)] [(.ref a1)])) _
      exact kt)
  have q11 := (F1.other W9 (Or.inl ne3))
  obtain ⟨T12, X12, e12, st12⟩ := getF X9 hx hZ hown (host := "") (Or.inl (hw _ (List.mem_of_getElem? (i := 11) rfl))) Via.refl e9 q11 (g := (mkF m 20 #[.val (.ref a1), .val (.int p2)] [(.ref a1)])) rfl rfl (hb hby d4_20)
  have go13 : ∀ t, Steps p.tables e below (T12.setTop (mkF m 24 #[.val (.ref a1), .val (.int p2)] [(.ref a1), (.ref b1)])) t → Steps p.tables e below (s₁.setTop (entryFrame m #[(.ref a1), (.int p2)] 2)) t := fun t kt => go10 t (by
      refine st12 _ ?_
      show Steps p.tables e below (T12.setTop (mkF m 23 #[.val (.ref a1), .val (.int p2)] [(.ref b1)])) _
      refine XS.aloadN X12.here hx rfl (hb hby d4_23) rfl rfl ?_
      show Steps p.tables e below (T12.setTop (mkF m 24 #[.val (.ref a1), .val (.int p2)] [(.ref a1), (.ref b1)])) _
      exact kt)
  have q14 := (F2.other W9 (Or.inl ne3))
  obtain ⟨T15, X15, e15, st15⟩ := getF X12 hx hZ hown (host := "") (Or.inl (hw _ (List.mem_of_getElem? (i := 27) rfl))) Via.refl e12 q14 (g := (mkF m 24 #[.val (.ref a1), .val (.int p2)] [(.ref a1), (.ref b1)])) rfl rfl (hb hby d4_24)
  have go16 : ∀ t, Steps p.tables e below (T15.setTop (mkF m 31 #[.val (.ref a1), .val (.int p2)] [(.int (p2.toInt8.toInt32)), (.int (bs.length.toInt32 + (1 : Int32))), (.ref b1)])) t → Steps p.tables e below (s₁.setTop (entryFrame m #[(.ref a1), (.int p2)] 2)) t := fun t kt => go13 t (by
      refine st15 _ ?_
      show Steps p.tables e below (T15.setTop (mkF m 27 #[.val (.ref a1), .val (.int p2)] [(.int bs.length.toInt32), (.ref b1)])) _
      refine XS.iconst X15.here hx rfl (hb hby d4_27) ?_
      show Steps p.tables e below (T15.setTop (mkF m 28 #[.val (.ref a1), .val (.int p2)] [(.int (1 : Int32)), (.int bs.length.toInt32), (.ref b1)])) _
      refine XS.iadd X15.here hx rfl (hb hby d4_28) rfl ?_
      show Steps p.tables e below (T15.setTop (mkF m 29 #[.val (.ref a1), .val (.int p2)] [(.int (bs.length.toInt32 + (1 : Int32))), (.ref b1)])) _
      refine XS.iloadN X15.here hx rfl (hb hby d4_29) rfl ?_
      show Steps p.tables e below (T15.setTop (mkF m 30 #[.val (.ref a1), .val (.int p2)] [(.int p2), (.int (bs.length.toInt32 + (1 : Int32))), (.ref b1)])) _
      refine XS.i2b X15.here hx rfl (hb hby d4_30) rfl ?_
      show Steps p.tables e below (T15.setTop (mkF m 31 #[.val (.ref a1), .val (.int p2)] [(.int (p2.toInt8.toInt32)), (.int (bs.length.toInt32 + (1 : Int32))), (.ref b1)])) _
      exact kt)
  rw [show (bs.length.toInt32 + (1 : Int32)) = (bs.length + 1).toInt32 from own_add bs.length 1] at go16
  obtain ⟨c17, Ar17, q17, x17a, x17b, x17c⟩ := id V9
  obtain ⟨T17, h17, X17, e17, W17, st17⟩ := stB X15 hx hZ e15 Ar17 (j := (bs.length + 1).toInt32) (own_inb q17 rfl (own_ni (bs.length + 1) (by omega)).2.2 (by rw [(own_ni (bs.length + 1) (by omega)).2.1]; rw [List.length_set]; omega)) (g := (mkF m 31 #[.val (.ref a1), .val (.int p2)] [(.int (p2.toInt8.toInt32)), (.int (bs.length + 1).toInt32), (.ref b1)])) rfl rfl (hb hby d4_31)
  have V17 := own_AB.set Ar17 q17 x17a x17b x17c W17 (own_ni (bs.length + 1) (by omega)).2.1
  have N17 := Fr.snoc X17 N9 gb
  have go18 : ∀ t, Steps p.tables e below (T17.setTop (mkF m 34 #[.val (.ref a1), .val (.int p2)] [(.ref a1), (.ref a1)])) t → Steps p.tables e below (s₁.setTop (entryFrame m #[(.ref a1), (.int p2)] 2)) t := fun t kt => go16 t (by
      refine st17 _ ?_
      show Steps p.tables e below (T17.setTop (mkF m 32 #[.val (.ref a1), .val (.int p2)] [])) _
      refine XS.aloadN X17.here hx rfl (hb hby d4_32) rfl rfl ?_
      show Steps p.tables e below (T17.setTop (mkF m 33 #[.val (.ref a1), .val (.int p2)] [(.ref a1)])) _
      refine XS.dup X17.here hx rfl (hb hby d4_33) rfl rfl ?_
      show Steps p.tables e below (T17.setTop (mkF m 34 #[.val (.ref a1), .val (.int p2)] [(.ref a1), (.ref a1)])) _
      exact kt)
  have q19 := (q14.other W17 (Or.inl ne3))
  obtain ⟨T20, X20, e20, st20⟩ := getF X17 hx hZ hown (host := "") (Or.inl (hw _ (List.mem_of_getElem? (i := 27) rfl))) Via.refl e17 q19 (g := (mkF m 34 #[.val (.ref a1), .val (.int p2)] [(.ref a1), (.ref a1)])) rfl rfl (hb hby d4_34)
  have go21 : ∀ t, Steps p.tables e below (T20.setTop (mkF m 39 #[.val (.ref a1), .val (.int p2)] [(.int (bs.length.toInt32 + (2 : Int32))), (.ref a1)])) t → Steps p.tables e below (s₁.setTop (entryFrame m #[(.ref a1), (.int p2)] 2)) t := fun t kt => go18 t (by
      refine st20 _ ?_
      show Steps p.tables e below (T20.setTop (mkF m 37 #[.val (.ref a1), .val (.int p2)] [(.int bs.length.toInt32), (.ref a1)])) _
      refine XS.iconst X20.here hx rfl (hb hby d4_37) ?_
      show Steps p.tables e below (T20.setTop (mkF m 38 #[.val (.ref a1), .val (.int p2)] [(.int (2 : Int32)), (.int bs.length.toInt32), (.ref a1)])) _
      refine XS.iadd X20.here hx rfl (hb hby d4_38) rfl ?_
      show Steps p.tables e below (T20.setTop (mkF m 39 #[.val (.ref a1), .val (.int p2)] [(.int (bs.length.toInt32 + (2 : Int32))), (.ref a1)])) _
      exact kt)
  have q22 := ((E1.wr W9).wr W17)
  obtain ⟨T23, h23, X23, e23, W23, st23⟩ := putF X20 hx hZ hown (host := "") (Or.inl (hw _ (List.mem_of_getElem? (i := 27) rfl))) Via.refl e20 q19 q22 (Or.inl (hw _ (List.mem_of_getElem? (i := 28) rfl))) (hw _ (List.mem_of_getElem? (i := 2) rfl)) (ty := .int) (by decide) rfl rfl (g := (mkF m 39 #[.val (.ref a1), .val (.int p2)] [(.int (bs.length.toInt32 + (2 : Int32))), (.ref a1)])) rfl rfl (hb hby d4_39)
  have Fw23 := q19.same W23
  have N23 := Fr.snoc X23 N17 ga
  have go24 : ∀ t, Steps p.tables e below (T23.setTop (mkF m 42 #[.val (.ref a1), .val (.int p2)] [])) t → Steps p.tables e below (s₁.setTop (entryFrame m #[(.ref a1), (.int p2)] 2)) t := fun t kt => go21 t (by
      refine st23 _ ?_
      show Steps p.tables e below (T23.setTop (mkF m 42 #[.val (.ref a1), .val (.int p2)] [])) _
      exact kt)
  obtain ⟨fs, hr, hrun, hended, hW, hsame⟩ := X23.leave (v := none) (fun _ => rfl)
  refine ⟨_, _, go24 _ (X23.returnOut hx Bd.returns (hb hby d4_42) hr), hrun, hended, _, _, rfl, ?_, ⟨_, rfl⟩, hW, hsame.mono (by decide) (by decide)⟩
  show own_QB _ _ _ _ _ T23.heap _
  rw [e23]
  have q25 := (q22.wr W23)
  have q26 := ((q11.other W17 (Or.inl ne3)).other W23 (Or.inr (slot_ne (Or.inl (hw _ (List.mem_of_getElem? (i := 12) rfl))) (Or.inl (hw _ (List.mem_of_getElem? (i := 28) rfl))) (by decide) (t := (.array .byte)) (t' := .int) (by decide) (by decide))))
  have q27 := (V17.other W23 (Ne.symm ne3))
  exact ⟨rfl, N23, own_fin q25 q26 Fw23 q27 ga gb (m3.trans t0) m1 m2⟩
theorem d3_0 : decode prog_42_method_4_code 0 = .ok (.aload_n 0, 1) := by decide +kernel
theorem d3_1 : decode prog_42_method_4_code 1 = .ok (.iload_n 1, 1) := by decide +kernel
theorem d3_2 : decode prog_42_method_4_code 2 = .ok (.bipush 16, 2) := by decide +kernel
theorem d3_4 : decode prog_42_method_4_code 4 = .ok (.iushr, 1) := by decide +kernel
theorem d3_5 : decode prog_42_method_4_code 5 = .ok (.invokevirtual 21, 3) := by decide +kernel
theorem d3_8 : decode prog_42_method_4_code 8 = .ok (.aload_n 0, 1) := by decide +kernel
theorem d3_9 : decode prog_42_method_4_code 9 = .ok (.iload_n 1, 1) := by decide +kernel
theorem d3_10 : decode prog_42_method_4_code 10 = .ok (.invokevirtual 21, 3) := by decide +kernel
theorem d3_13 : decode prog_42_method_4_code 13 = .ok (.return_, 1) := by decide +kernel
theorem pn_3 : plainName "com/example/classweave/classweave/classfile/ClassOutput" = true := by first | (simp [plainName, overriddenIn]; done) | decide +kernel
theorem ef_3 (m : MethodId) (a1 : Addr) (p2 : Int32) : entryFrame m #[(.ref a1), (.int p2)] 2 = mkF m 0 #[.val (.ref a1), .val (.int p2)] [] := by first | (simp [entryFrame, mkF, argsToLocals, Value.category]; done) | rfl
set_option maxRecDepth 65536 in
set_option maxHeartbeats 40000000 in
theorem rm3 (l : Launch) (Z : State) (a0 : Array Value) (hw : ∀ d ∈ tables_1, d.before a0 Z = true) (ws : List Jvm.Cond) (a1 : Addr) (p2 : Int32) (bs : List Int32) (h0 : Heap) (n0 : Nat) (Z0 : n0 ≤ h0.size) (OB : own_OB Z h0 n0 a1 bs) (h4 : bs.length ≤ 4) :
    MetFree l (⟨"com/example/classweave/classweave/classfile/ClassOutput", "u4", "(I)V"⟩ : MethodName) (head1 (Jvm.Cond.code (⟨"com/example/classweave/classweave/classfile/ClassOutput", "u4", "(I)V"⟩ : MethodName) prog_42_method_4_code 2 none :: ws) ({ frames := 4, cells := 2, slots := 32, locals := 81 } : Room)) (fun a U => a = #[(.ref a1), (.int p2)] ∧ Z.Warmed39 U.vm ∧ U.heap = h0) (fun _ _ _ _ _ => True) (fun _ U o U' => ∃ v L, o = .returned v ∧ own_QB Z a1 ((bs ++ [(nar .byte (((((p2.toUInt32 >>> ((16 : Int32) &&& 31).toUInt32).toInt32).toUInt32 >>> ((8 : Int32) &&& 31).toUInt32).toInt32).toInt8.toInt32)), (nar .byte (((p2.toUInt32 >>> ((16 : Int32) &&& 31).toUInt32).toInt32).toInt8.toInt32))]) ++ [(nar .byte (((p2.toUInt32 >>> ((8 : Int32) &&& 31).toUInt32).toInt32).toInt8.toInt32)), (nar .byte (p2.toInt8.toInt32))]) n0 v U'.heap L ∧ FrameEnd U o U' L ({ frames := 4, cells := 2, slots := 32, locals := 81 } : Room).cells ({ frames := 4, cells := 2, slots := 32, locals := 81 } : Room).slots) := by
  refine MetFree.of_bodySF (plainFor_of_name pn_3) hisR ?_
  intro p e s m args below meth c s₁ Bd hml0 hP hK
  obtain ⟨rfl, hZ, hh⟩ := hP
  have hx := Bd.exec
  have hby := Bd.bytes
  have hml : c.maxLocals = 2 := hml0
  have hown : s.vm.findClass "com/example/classweave/classweave/classfile/ClassOutput" = some m.cls := findClass_of_methodNamed Bd.named
  have hnm := (name_of_methodNamed Bd.named Bd.method).1
  have X0 : Stand p l e ({ frames := 4, cells := 2, slots := 32, locals := 81 } : Room) s m #[(.ref a1), (.int p2)] below meth c s₁ [] 0 0 := Stand.of_body Bd
  have e0 : s₁.heap = h0 := by rw [← hh, Bd.state]; rfl
  have N0 := Fr.nil n0
  have go0 : ∀ t, Steps p.tables e below (s₁.setTop (mkF m 0 #[.val (.ref a1), .val (.int p2)] [])) t → Steps p.tables e below (s₁.setTop (entryFrame m #[(.ref a1), (.int p2)] 2)) t := fun t k => castTop (ef_3 m a1 p2) k
  have go1 : ∀ t, Steps p.tables e below (s₁.setTop (mkF m 5 #[.val (.ref a1), .val (.int p2)] [(.int ((p2.toUInt32 >>> ((16 : Int32) &&& 31).toUInt32).toInt32)), (.ref a1)])) t → Steps p.tables e below (s₁.setTop (entryFrame m #[(.ref a1), (.int p2)] 2)) t := fun t kt => go0 t (by
      refine XS.aloadN X0.here hx rfl (hb hby d3_0) rfl rfl ?_
      show Steps p.tables e below (s₁.setTop (mkF m 1 #[.val (.ref a1), .val (.int p2)] [(.ref a1)])) _
      refine XS.iloadN X0.here hx rfl (hb hby d3_1) rfl ?_
      show Steps p.tables e below (s₁.setTop (mkF m 2 #[.val (.ref a1), .val (.int p2)] [(.int p2), (.ref a1)])) _
      refine XS.bipush X0.here hx rfl (hb hby d3_2) ?_
      show Steps p.tables e below (s₁.setTop (mkF m 4 #[.val (.ref a1), .val (.int p2)] [(.int (16 : Int32)), (.int p2), (.ref a1)])) _
      refine XS.iushr X0.here hx rfl (hb hby d3_4) rfl ?_
      show Steps p.tables e below (s₁.setTop (mkF m 5 #[.val (.ref a1), .val (.int p2)] [(.int ((p2.toUInt32 >>> ((16 : Int32) &&& 31).toUInt32).toInt32)), (.ref a1)])) _
      exact kt)
  obtain ⟨cq2, kq2, q2a, q2b, q2c⟩ := isOf hZ e0 (by obtain ⟨_, _, ⟨q, _⟩, _⟩ := OB; exact q)
  obtain ⟨_, _, ⟨T2, L2, k2, n2⟩, -, X2, ⟨Lc2, hQ2, l2, y2, z2⟩, st2⟩ := X0.virtualBack hx (y := (⟨"com/example/classweave/classweave/classfile/ClassOutput", "u2", "(I)V"⟩ : MethodName)) (z := (⟨"com/example/classweave/classweave/classfile/ClassOutput", "u2", "(I)V"⟩ : MethodName)) hown (mvT hZ (hw _ (List.mem_of_getElem? (i := 18) rfl))) (mvT hZ (hw _ (List.mem_of_getElem? (i := 19) rfl))) (notFace_of_selects (args := #[]) (mvT hZ (hw _ (List.mem_of_getElem? (i := 21) rfl)))) (mvT hZ (hw _ (List.mem_of_getElem? (i := 21) rfl))) (mvT hZ (hw _ (List.mem_of_getElem? (i := 20) rfl))) (by decide) (backOf (W := 0) (rm4 l Z a0 hw [] a1 ((p2.toUInt32 >>> ((16 : Int32) &&& 31).toUInt32).toInt32) bs h0 n0 Z0 OB (by omega)) hZ (hw _ (List.mem_of_getElem? (i := 22) rfl)) (hw _ (List.mem_of_getElem? (i := 3) rfl)) (by decide) (by decide)) q2a q2c (g := (mkF m 5 #[.val (.ref a1), .val (.int p2)] [(.int ((p2.toUInt32 >>> ((16 : Int32) &&& 31).toUInt32).toInt32)), (.ref a1)])) rfl (by rw [hml]; rfl) (Steps.refl _) (argsL := [(.int ((p2.toUInt32 >>> ((16 : Int32) &&& 31).toUInt32).toInt32))]) (rest := []) (lenOf pd_0 rfl) rfl (by show 2 * 0 + _ ≤ _; exact Nat.le_of_eq rfl) (hb hby d3_5) (fun _ _ => ⟨rfl, e0, (by decide : 0 + 1 ≤ _), (by decide : 0 + 16 ≤ _)⟩)
  dsimp only [Pt.U, Pt.locs, Pt.cells, Pt.slots] at X2 l2 y2 z2 st2 hQ2
  subst l2 y2 z2
  obtain ⟨rfl, N2q, OB2⟩ := hQ2
  have zs2 : n0 ≤ T2.heap.size := by obtain ⟨_, _, ⟨q, _, _, _, r, _⟩, _⟩ := OB2; exact Nat.le_trans r (Nat.le_of_lt q.lt)
  have N2 := Fr.app N0 N2q
  have go3 : ∀ t, Steps p.tables e below (T2.setTop (mkF m 10 #[.val (.ref a1), .val (.int p2)] [(.int p2), (.ref a1)])) t → Steps p.tables e below (s₁.setTop (entryFrame m #[(.ref a1), (.int p2)] 2)) t := fun t kt => go1 t (by
      refine st2.trans ?_
      show Steps p.tables e below (T2.setTop (mkF m 8 #[.val (.ref a1), .val (.int p2)] [])) _
      refine XS.aloadN X2.here hx rfl (hb hby d3_8) rfl rfl ?_
      show Steps p.tables e below (T2.setTop (mkF m 9 #[.val (.ref a1), .val (.int p2)] [(.ref a1)])) _
      refine XS.iloadN X2.here hx rfl (hb hby d3_9) rfl ?_
      show Steps p.tables e below (T2.setTop (mkF m 10 #[.val (.ref a1), .val (.int p2)] [(.int p2), (.ref a1)])) _
      exact kt)
  obtain ⟨cq4, kq4, q4a, q4b, q4c⟩ := isOf hZ rfl (by obtain ⟨_, _, ⟨q, _⟩, _⟩ := OB2; exact q)
  obtain ⟨_, _, ⟨T4, L4, k4, n4⟩, -, X4, ⟨Lc4, hQ4, l4, y4, z4⟩, st4⟩ := X2.virtualBack hx (y := (⟨"com/example/classweave/classweave/classfile/ClassOutput", "u2", "(I)V"⟩ : MethodName)) (z := (⟨"com/example/classweave/classweave/classfile/ClassOutput", "u2", "(I)V"⟩ : MethodName)) hown (mvT hZ (hw _ (List.mem_of_getElem? (i := 18) rfl))) (mvT hZ (hw _ (List.mem_of_getElem? (i := 19) rfl))) (notFace_of_selects (args := #[]) (mvT hZ (hw _ (List.mem_of_getElem? (i := 21) rfl)))) (mvT hZ (hw _ (List.mem_of_getElem? (i := 21) rfl))) (mvT hZ (hw _ (List.mem_of_getElem? (i := 20) rfl))) (by decide) (backOf (W := 0) (rm4 l Z a0 hw [] a1 p2 (bs ++ [(nar .byte (((((p2.toUInt32 >>> ((16 : Int32) &&& 31).toUInt32).toInt32).toUInt32 >>> ((8 : Int32) &&& 31).toUInt32).toInt32).toInt8.toInt32)), (nar .byte (((p2.toUInt32 >>> ((16 : Int32) &&& 31).toUInt32).toInt32).toInt8.toInt32))]) T2.heap n0 zs2 OB2 (by rw [List.length_append]; show bs.length + 2 ≤ 6; omega)) hZ (hw _ (List.mem_of_getElem? (i := 22) rfl)) (hw _ (List.mem_of_getElem? (i := 3) rfl)) (by decide) (by decide)) q4a q4c (g := (mkF m 10 #[.val (.ref a1), .val (.int p2)] [(.int p2), (.ref a1)])) rfl (by rw [hml]; rfl) (Steps.refl _) (argsL := [(.int p2)]) (rest := []) (lenOf pd_0 rfl) rfl (by show 2 * 0 + _ ≤ _; exact Nat.le_of_eq rfl) (hb hby d3_10) (fun _ _ => ⟨rfl, rfl, (by decide : 1 + 1 ≤ _), (by decide : 16 + 16 ≤ _)⟩)
  dsimp only [Pt.U, Pt.locs, Pt.cells, Pt.slots] at X4 l4 y4 z4 st4 hQ4
  subst l4 y4 z4
  obtain ⟨rfl, N4q, OB4⟩ := hQ4
  have zs4 : n0 ≤ T4.heap.size := by obtain ⟨_, _, ⟨q, _, _, _, r, _⟩, _⟩ := OB4; exact Nat.le_trans r (Nat.le_of_lt q.lt)
  have N4 := Fr.app N2 N4q
  have go5 : ∀ t, Steps p.tables e below (T4.setTop (mkF m 13 #[.val (.ref a1), .val (.int p2)] [])) t → Steps p.tables e below (s₁.setTop (entryFrame m #[(.ref a1), (.int p2)] 2)) t := fun t kt => go3 t (by
      refine st4.trans ?_
      show Steps p.tables e below (T4.setTop (mkF m 13 #[.val (.ref a1), .val (.int p2)] [])) _
      exact kt)
  obtain ⟨fs, hr, hrun, hended, hW, hsame⟩ := X4.leave (v := none) (fun _ => rfl)
  refine ⟨_, _, go5 _ (X4.returnOut hx Bd.returns (hb hby d3_13) hr), hrun, hended, _, _, rfl, ?_, ⟨_, rfl⟩, hW, hsame.mono (by decide) (by decide)⟩
  exact ⟨rfl, N4, OB4⟩
theorem d9_0 : decode prog_42_method_9_code 0 = .ok (.aload_n 0, 1) := by decide +kernel
theorem d9_1 : decode prog_42_method_9_code 1 = .ok (.getfield 7, 3) := by decide +kernel
theorem d9_4 : decode prog_42_method_9_code 4 = .ok (.iload_n 1, 1) := by decide +kernel
theorem d9_5 : decode prog_42_method_9_code 5 = .ok (.iload_n 2, 1) := by decide +kernel
theorem d9_6 : decode prog_42_method_9_code 6 = .ok (.bipush 24, 2) := by decide +kernel
theorem d9_8 : decode prog_42_method_9_code 8 = .ok (.iushr, 1) := by decide +kernel
theorem d9_9 : decode prog_42_method_9_code 9 = .ok (.i2b, 1) := by decide +kernel
theorem d9_10 : decode prog_42_method_9_code 10 = .ok (.bastore, 1) := by decide +kernel
theorem d9_11 : decode prog_42_method_9_code 11 = .ok (.aload_n 0, 1) := by decide +kernel
theorem d9_12 : decode prog_42_method_9_code 12 = .ok (.getfield 7, 3) := by decide +kernel
theorem d9_15 : decode prog_42_method_9_code 15 = .ok (.iload_n 1, 1) := by decide +kernel
theorem d9_16 : decode prog_42_method_9_code 16 = .ok (.iconst 1, 1) := by decide +kernel
theorem d9_17 : decode prog_42_method_9_code 17 = .ok (.iadd, 1) := by decide +kernel
theorem d9_18 : decode prog_42_method_9_code 18 = .ok (.iload_n 2, 1) := by decide +kernel
theorem d9_19 : decode prog_42_method_9_code 19 = .ok (.bipush 16, 2) := by decide +kernel
theorem d9_21 : decode prog_42_method_9_code 21 = .ok (.iushr, 1) := by decide +kernel
theorem d9_22 : decode prog_42_method_9_code 22 = .ok (.i2b, 1) := by decide +kernel
theorem d9_23 : decode prog_42_method_9_code 23 = .ok (.bastore, 1) := by decide +kernel
theorem d9_24 : decode prog_42_method_9_code 24 = .ok (.aload_n 0, 1) := by decide +kernel
theorem d9_25 : decode prog_42_method_9_code 25 = .ok (.getfield 7, 3) := by decide +kernel
theorem d9_28 : decode prog_42_method_9_code 28 = .ok (.iload_n 1, 1) := by decide +kernel
theorem d9_29 : decode prog_42_method_9_code 29 = .ok (.iconst 2, 1) := by decide +kernel
theorem d9_30 : decode prog_42_method_9_code 30 = .ok (.iadd, 1) := by decide +kernel
theorem d9_31 : decode prog_42_method_9_code 31 = .ok (.iload_n 2, 1) := by decide +kernel
theorem d9_32 : decode prog_42_method_9_code 32 = .ok (.bipush 8, 2) := by decide +kernel
theorem d9_34 : decode prog_42_method_9_code 34 = .ok (.iushr, 1) := by decide +kernel
theorem d9_35 : decode prog_42_method_9_code 35 = .ok (.i2b, 1) := by decide +kernel
theorem d9_36 : decode prog_42_method_9_code 36 = .ok (.bastore, 1) := by decide +kernel
theorem d9_37 : decode prog_42_method_9_code 37 = .ok (.aload_n 0, 1) := by decide +kernel
theorem d9_38 : decode prog_42_method_9_code 38 = .ok (.getfield 7, 3) := by decide +kernel
theorem d9_41 : decode prog_42_method_9_code 41 = .ok (.iload_n 1, 1) := by decide +kernel
theorem d9_42 : decode prog_42_method_9_code 42 = .ok (.iconst 3, 1) := by decide +kernel
theorem d9_43 : decode prog_42_method_9_code 43 = .ok (.iadd, 1) := by decide +kernel
theorem d9_44 : decode prog_42_method_9_code 44 = .ok (.iload_n 2, 1) := by decide +kernel
theorem d9_45 : decode prog_42_method_9_code 45 = .ok (.i2b, 1) := by decide +kernel
theorem d9_46 : decode prog_42_method_9_code 46 = .ok (.bastore, 1) := by decide +kernel
theorem d9_47 : decode prog_42_method_9_code 47 = .ok (.return_, 1) := by decide +kernel
theorem pn_9 : plainName "com/example/classweave/classweave/classfile/ClassOutput" = true := by first | (simp [plainName, overriddenIn]; done) | decide +kernel
theorem ef_9 (m : MethodId) (a1 : Addr) (p2 : Int32) (p3 : Int32) : entryFrame m #[(.ref a1), (.int p2), (.int p3)] 3 = mkF m 0 #[.val (.ref a1), .val (.int p2), .val (.int p3)] [] := by first | (simp [entryFrame, mkF, argsToLocals, Value.category]; done) | rfl
set_option maxRecDepth 65536 in
set_option maxHeartbeats 40000000 in
theorem rm9 (l : Launch) (Z : State) (a0 : Array Value) (hw : ∀ d ∈ tables_1, d.before a0 Z = true) (ws : List Jvm.Cond) (a1 : Addr) (p2 p3 : Int32) (bs : List Int32) (i : Nat) (h0 : Heap) (n0 : Nat) (Z0 : n0 ≤ h0.size) (OB : own_OB Z h0 n0 a1 bs) (hi : i + 4 ≤ bs.length) (j0 : ¬ p2 < 0) (l0 : (p2).toNatClampNeg = i) (j1 : ¬ (p2 + (1 : Int32)) < 0) (l1 : (p2 + (1 : Int32)).toNatClampNeg = i + 1) (j2 : ¬ (p2 + (2 : Int32)) < 0) (l2 : (p2 + (2 : Int32)).toNatClampNeg = i + 2) (j3 : ¬ (p2 + (3 : Int32)) < 0) (l3 : (p2 + (3 : Int32)).toNatClampNeg = i + 3) :
    MetFree l (⟨"com/example/classweave/classweave/classfile/ClassOutput", "u4At", "(II)V"⟩ : MethodName) (head1 (Jvm.Cond.code (⟨"com/example/classweave/classweave/classfile/ClassOutput", "u4At", "(II)V"⟩ : MethodName) prog_42_method_9_code 3 none :: ws) ({ frames := 0, cells := 0, slots := 0, locals := 0 } : Room)) (fun a U => a = #[(.ref a1), (.int p2), (.int p3)] ∧ Z.Warmed39 U.vm ∧ U.heap = h0) (fun _ _ _ _ _ => True) (fun _ U o U' => ∃ v L, o = .returned v ∧ own_QB Z a1 ((((bs.set i (nar .byte (((p3.toUInt32 >>> ((24 : Int32) &&& 31).toUInt32).toInt32).toInt8.toInt32))).set (i + 1) (nar .byte (((p3.toUInt32 >>> ((16 : Int32) &&& 31).toUInt32).toInt32).toInt8.toInt32))).set (i + 2) (nar .byte (((p3.toUInt32 >>> ((8 : Int32) &&& 31).toUInt32).toInt32).toInt8.toInt32))).set (i + 3) (nar .byte (p3.toInt8.toInt32))) n0 v U'.heap L ∧ FrameEnd U o U' L ({ frames := 0, cells := 0, slots := 0, locals := 0 } : Room).cells ({ frames := 0, cells := 0, slots := 0, locals := 0 } : Room).slots) := by
  refine MetFree.of_bodySF (plainFor_of_name pn_9) hisR ?_
  intro p e s m args below meth c s₁ Bd hml0 hP hK
  obtain ⟨rfl, hZ, hh⟩ := hP
  have hx := Bd.exec
  have hby := Bd.bytes
  have hml : c.maxLocals = 3 := hml0
  have hown : s.vm.findClass "com/example/classweave/classweave/classfile/ClassOutput" = some m.cls := findClass_of_methodNamed Bd.named
  have hnm := (name_of_methodNamed Bd.named Bd.method).1
  have X0 : Stand p l e ({ frames := 0, cells := 0, slots := 0, locals := 0 } : Room) s m #[(.ref a1), (.int p2), (.int p3)] below meth c s₁ [] 0 0 := Stand.of_body Bd
  have e0 : s₁.heap = h0 := by rw [← hh, Bd.state]; rfl
  have N0 := Fr.nil n0
  have go0 : ∀ t, Steps p.tables e below (s₁.setTop (mkF m 0 #[.val (.ref a1), .val (.int p2), .val (.int p3)] [])) t → Steps p.tables e below (s₁.setTop (entryFrame m #[(.ref a1), (.int p2), (.int p3)] 3)) t := fun t k => castTop (ef_9 m a1 p2 p3) k
  obtain ⟨b0, vs, O0, t0, k0, k1⟩ := id OB
  obtain ⟨E0, F1, F2, V0, ga, gb⟩ := id O0
  have ne1 : a1 ≠ b0 := Exa.ne E0 (by obtain ⟨_, _, _, x, _⟩ := V0; exact x) own_neK
  have go2 : ∀ t, Steps p.tables e below (s₁.setTop (mkF m 1 #[.val (.ref a1), .val (.int p2), .val (.int p3)] [(.ref a1)])) t → Steps p.tables e below (s₁.setTop (entryFrame m #[(.ref a1), (.int p2), (.int p3)] 3)) t := fun t kt => go0 t (by
      refine XS.aloadN X0.here hx rfl (hb hby d9_0) rfl rfl ?_
      show Steps p.tables e below (s₁.setTop (mkF m 1 #[.val (.ref a1), .val (.int p2), .val (.int p3)] [(.ref a1)])) _
      exact kt)
  obtain ⟨T3, X3, e3, st3⟩ := getF X0 hx hZ hown (host := "") (Or.inl (hw _ (List.mem_of_getElem? (i := 11) rfl))) Via.refl e0 F1 (g := (mkF m 1 #[.val (.ref a1), .val (.int p2), .val (.int p3)] [(.ref a1)])) rfl rfl (hb hby d9_1)
  have go4 : ∀ t, Steps p.tables e below (T3.setTop (mkF m 10 #[.val (.ref a1), .val (.int p2), .val (.int p3)] [(.int (((p3.toUInt32 >>> ((24 : Int32) &&& 31).toUInt32).toInt32).toInt8.toInt32)), (.int p2), (.ref b0)])) t → Steps p.tables e below (s₁.setTop (entryFrame m #[(.ref a1), (.int p2), (.int p3)] 3)) t := fun t kt => go2 t (by
      refine st3 _ ?_
      show Steps p.tables e below (T3.setTop (mkF m 4 #[.val (.ref a1), .val (.int p2), .val (.int p3)] [(.ref b0)])) _
      refine XS.iloadN X3.here hx rfl (hb hby d9_4) rfl ?_
      show Steps p.tables e below (T3.setTop (mkF m 5 #[.val (.ref a1), .val (.int p2), .val (.int p3)] [(.int p2), (.ref b0)])) _
      refine XS.iloadN X3.here hx rfl (hb hby d9_5) rfl ?_
      show Steps p.tables e below (T3.setTop (mkF m 6 #[.val (.ref a1), .val (.int p2), .val (.int p3)] [(.int p3), (.int p2), (.ref b0)])) _
      refine XS.bipush X3.here hx rfl (hb hby d9_6) ?_
      show Steps p.tables e below (T3.setTop (mkF m 8 #[.val (.ref a1), .val (.int p2), .val (.int p3)] [(.int (24 : Int32)), (.int p3), (.int p2), (.ref b0)])) _
      refine XS.iushr X3.here hx rfl (hb hby d9_8) rfl ?_
      show Steps p.tables e below (T3.setTop (mkF m 9 #[.val (.ref a1), .val (.int p2), .val (.int p3)] [(.int ((p3.toUInt32 >>> ((24 : Int32) &&& 31).toUInt32).toInt32)), (.int p2), (.ref b0)])) _
      refine XS.i2b X3.here hx rfl (hb hby d9_9) rfl ?_
      show Steps p.tables e below (T3.setTop (mkF m 10 #[.val (.ref a1), .val (.int p2), .val (.int p3)] [(.int (((p3.toUInt32 >>> ((24 : Int32) &&& 31).toUInt32).toInt32).toInt8.toInt32)), (.int p2), (.ref b0)])) _
      exact kt)
  obtain ⟨c5, Ar5, q5, x5a, x5b, x5c⟩ := id V0
  obtain ⟨T5, h5, X5, e5, W5, st5⟩ := stB X3 hx hZ e3 Ar5 (j := p2) (own_inb q5 rfl j0 (by rw [l0]; omega)) (g := (mkF m 10 #[.val (.ref a1), .val (.int p2), .val (.int p3)] [(.int (((p3.toUInt32 >>> ((24 : Int32) &&& 31).toUInt32).toInt32).toInt8.toInt32)), (.int p2), (.ref b0)])) rfl rfl (hb hby d9_10)
  have V5 := own_AB.set Ar5 q5 x5a x5b x5c W5 l0
  have N5 := Fr.snoc X5 N0 gb
  have go6 : ∀ t, Steps p.tables e below (T5.setTop (mkF m 12 #[.val (.ref a1), .val (.int p2), .val (.int p3)] [(.ref a1)])) t → Steps p.tables e below (s₁.setTop (entryFrame m #[(.ref a1), (.int p2), (.int p3)] 3)) t := fun t kt => go4 t (by
      refine st5 _ ?_
      show Steps p.tables e below (T5.setTop (mkF m 11 #[.val (.ref a1), .val (.int p2), .val (.int p3)] [])) _
      refine XS.aloadN X5.here hx rfl (hb hby d9_11) rfl rfl ?_
      show Steps p.tables e below (T5.setTop (mkF m 12 #[.val (.ref a1), .val (.int p2), .val (.int p3)] [(.ref a1)])) _
      exact kt)
  have q7 := (F1.other W5 (Or.inl ne1))
  obtain ⟨T8, X8, e8, st8⟩ := getF X5 hx hZ hown (host := "") (Or.inl (hw _ (List.mem_of_getElem? (i := 11) rfl))) Via.refl e5 q7 (g := (mkF m 12 #[.val (.ref a1), .val (.int p2), .val (.int p3)] [(.ref a1)])) rfl rfl (hb hby d9_12)
  have go9 : ∀ t, Steps p.tables e below (T8.setTop (mkF m 23 #[.val (.ref a1), .val (.int p2), .val (.int p3)] [(.int (((p3.toUInt32 >>> ((16 : Int32) &&& 31).toUInt32).toInt32).toInt8.toInt32)), (.int (p2 + (1 : Int32))), (.ref b0)])) t → Steps p.tables e below (s₁.setTop (entryFrame m #[(.ref a1), (.int p2), (.int p3)] 3)) t := fun t kt => go6 t (by
      refine st8 _ ?_
      show Steps p.tables e below (T8.setTop (mkF m 15 #[.val (.ref a1), .val (.int p2), .val (.int p3)] [(.ref b0)])) _
      refine XS.iloadN X8.here hx rfl (hb hby d9_15) rfl ?_
      show Steps p.tables e below (T8.setTop (mkF m 16 #[.val (.ref a1), .val (.int p2), .val (.int p3)] [(.int p2), (.ref b0)])) _
      refine XS.iconst X8.here hx rfl (hb hby d9_16) ?_
      show Steps p.tables e below (T8.setTop (mkF m 17 #[.val (.ref a1), .val (.int p2), .val (.int p3)] [(.int (1 : Int32)), (.int p2), (.ref b0)])) _
      refine XS.iadd X8.here hx rfl (hb hby d9_17) rfl ?_
      show Steps p.tables e below (T8.setTop (mkF m 18 #[.val (.ref a1), .val (.int p2), .val (.int p3)] [(.int (p2 + (1 : Int32))), (.ref b0)])) _
      refine XS.iloadN X8.here hx rfl (hb hby d9_18) rfl ?_
      show Steps p.tables e below (T8.setTop (mkF m 19 #[.val (.ref a1), .val (.int p2), .val (.int p3)] [(.int p3), (.int (p2 + (1 : Int32))), (.ref b0)])) _
      refine XS.bipush X8.here hx rfl (hb hby d9_19) ?_
      show Steps p.tables e below (T8.setTop (mkF m 21 #[.val (.ref a1), .val (.int p2), .val (.int p3)] [(.int (16 : Int32)), (.int p3), (.int (p2 + (1 : Int32))), (.ref b0)])) _
      refine XS.iushr X8.here hx rfl (hb hby d9_21) rfl ?_
      show Steps p.tables e below (T8.setTop (mkF m 22 #[.val (.ref a1), .val (.int p2), .val (.int p3)] [(.int ((p3.toUInt32 >>> ((16 : Int32) &&& 31).toUInt32).toInt32)), (.int (p2 + (1 : Int32))), (.ref b0)])) _
      refine XS.i2b X8.here hx rfl (hb hby d9_22) rfl ?_
      show Steps p.tables e below (T8.setTop (mkF m 23 #[.val (.ref a1), .val (.int p2), .val (.int p3)] [(.int (((p3.toUInt32 >>> ((16 : Int32) &&& 31).toUInt32).toInt32).toInt8.toInt32)), (.int (p2 + (1 : Int32))), (.ref b0)])) _
      exact kt)
  obtain ⟨c10, Ar10, q10, x10a, x10b, x10c⟩ := id V5
  obtain ⟨T10, h10, X10, e10, W10, st10⟩ := stB X8 hx hZ e8 Ar10 (j := (p2 + (1 : Int32))) (own_inb q10 rfl j1 (by rw [l1]; simp only [List.length_set]; omega)) (g := (mkF m 23 #[.val (.ref a1), .val (.int p2), .val (.int p3)] [(.int (((p3.toUInt32 >>> ((16 : Int32) &&& 31).toUInt32).toInt32).toInt8.toInt32)), (.int (p2 + (1 : Int32))), (.ref b0)])) rfl rfl (hb hby d9_23)
  have V10 := own_AB.set Ar10 q10 x10a x10b x10c W10 l1
  have N10 := Fr.snoc X10 N5 gb
  have go11 : ∀ t, Steps p.tables e below (T10.setTop (mkF m 25 #[.val (.ref a1), .val (.int p2), .val (.int p3)] [(.ref a1)])) t → Steps p.tables e below (s₁.setTop (entryFrame m #[(.ref a1), (.int p2), (.int p3)] 3)) t := fun t kt => go9 t (by
      refine st10 _ ?_
      show Steps p.tables e below (T10.setTop (mkF m 24 #[.val (.ref a1), .val (.int p2), .val (.int p3)] [])) _
      refine XS.aloadN X10.here hx rfl (hb hby d9_24) rfl rfl ?_
      show Steps p.tables e below (T10.setTop (mkF m 25 #[.val (.ref a1), .val (.int p2), .val (.int p3)] [(.ref a1)])) _
      exact kt)
  have q12 := (q7.other W10 (Or.inl ne1))
  obtain ⟨T13, X13, e13, st13⟩ := getF X10 hx hZ hown (host := "") (Or.inl (hw _ (List.mem_of_getElem? (i := 11) rfl))) Via.refl e10 q12 (g := (mkF m 25 #[.val (.ref a1), .val (.int p2), .val (.int p3)] [(.ref a1)])) rfl rfl (hb hby d9_25)
  have go14 : ∀ t, Steps p.tables e below (T13.setTop (mkF m 36 #[.val (.ref a1), .val (.int p2), .val (.int p3)] [(.int (((p3.toUInt32 >>> ((8 : Int32) &&& 31).toUInt32).toInt32).toInt8.toInt32)), (.int (p2 + (2 : Int32))), (.ref b0)])) t → Steps p.tables e below (s₁.setTop (entryFrame m #[(.ref a1), (.int p2), (.int p3)] 3)) t := fun t kt => go11 t (by
      refine st13 _ ?_
      show Steps p.tables e below (T13.setTop (mkF m 28 #[.val (.ref a1), .val (.int p2), .val (.int p3)] [(.ref b0)])) _
      refine XS.iloadN X13.here hx rfl (hb hby d9_28) rfl ?_
      show Steps p.tables e below (T13.setTop (mkF m 29 #[.val (.ref a1), .val (.int p2), .val (.int p3)] [(.int p2), (.ref b0)])) _
      refine XS.iconst X13.here hx rfl (hb hby d9_29) ?_
      show Steps p.tables e below (T13.setTop (mkF m 30 #[.val (.ref a1), .val (.int p2), .val (.int p3)] [(.int (2 : Int32)), (.int p2), (.ref b0)])) _
      refine XS.iadd X13.here hx rfl (hb hby d9_30) rfl ?_
      show Steps p.tables e below (T13.setTop (mkF m 31 #[.val (.ref a1), .val (.int p2), .val (.int p3)] [(.int (p2 + (2 : Int32))), (.ref b0)])) _
      refine XS.iloadN X13.here hx rfl (hb hby d9_31) rfl ?_
      show Steps p.tables e below (T13.setTop (mkF m 32 #[.val (.ref a1), .val (.int p2), .val (.int p3)] [(.int p3), (.int (p2 + (2 : Int32))), (.ref b0)])) _
      refine XS.bipush X13.here hx rfl (hb hby d9_32) ?_
      show Steps p.tables e below (T13.setTop (mkF m 34 #[.val (.ref a1), .val (.int p2), .val (.int p3)] [(.int (8 : Int32)), (.int p3), (.int (p2 + (2 : Int32))), (.ref b0)])) _
      refine XS.iushr X13.here hx rfl (hb hby d9_34) rfl ?_
      show Steps p.tables e below (T13.setTop (mkF m 35 #[.val (.ref a1), .val (.int p2), .val (.int p3)] [(.int ((p3.toUInt32 >>> ((8 : Int32) &&& 31).toUInt32).toInt32)), (.int (p2 + (2 : Int32))), (.ref b0)])) _
      refine XS.i2b X13.here hx rfl (hb hby d9_35) rfl ?_
      show Steps p.tables e below (T13.setTop (mkF m 36 #[.val (.ref a1), .val (.int p2), .val (.int p3)] [(.int (((p3.toUInt32 >>> ((8 : Int32) &&& 31).toUInt32).toInt32).toInt8.toInt32)), (.int (p2 + (2 : Int32))), (.ref b0)])) _
      exact kt)
  obtain ⟨c15, Ar15, q15, x15a, x15b, x15c⟩ := id V10
  obtain ⟨T15, h15, X15, e15, W15, st15⟩ := stB X13 hx hZ e13 Ar15 (j := (p2 + (2 : Int32))) (own_inb q15 rfl j2 (by rw [l2]; simp only [List.length_set]; omega)) (g := (mkF m 36 #[.val (.ref a1), .val (.int p2), .val (.int p3)] [(.int (((p3.toUInt32 >>> ((8 : Int32) &&& 31).toUInt32).toInt32).toInt8.toInt32)), (.int (p2 + (2 : Int32))), (.ref b0)])) rfl rfl (hb hby d9_36)
  have V15 := own_AB.set Ar15 q15 x15a x15b x15c W15 l2
  have N15 := Fr.snoc X15 N10 gb
  have go16 : ∀ t, Steps p.tables e below (T15.setTop (mkF m 38 #[.val (.ref a1), .val (.int p2), .val (.int p3)] [(.ref a1)])) t → Steps p.tables e below (s₁.setTop (entryFrame m #[(.ref a1), (.int p2), (.int p3)] 3)) t := fun t kt => go14 t (by
      refine st15 _ ?_
      show Steps p.tables e below (T15.setTop (mkF m 37 #[.val (.ref a1), .val (.int p2), .val (.int p3)] [])) _
      refine XS.aloadN X15.here hx rfl (hb hby d9_37) rfl rfl ?_
      show Steps p.tables e below (T15.setTop (mkF m 38 #[.val (.ref a1), .val (.int p2), .val (.int p3)] [(.ref a1)])) _
      exact kt)
  have q17 := (q12.other W15 (Or.inl ne1))
  obtain ⟨T18, X18, e18, st18⟩ := getF X15 hx hZ hown (host := "") (Or.inl (hw _ (List.mem_of_getElem? (i := 11) rfl))) Via.refl e15 q17 (g := (mkF m 38 #[.val (.ref a1), .val (.int p2), .val (.int p3)] [(.ref a1)])) rfl rfl (hb hby d9_38)
  have go19 : ∀ t, Steps p.tables e below (T18.setTop (mkF m 46 #[.val (.ref a1), .val (.int p2), .val (.int p3)] [(.int (p3.toInt8.toInt32)), (.int (p2 + (3 : Int32))), (.ref b0)])) t → Steps p.tables e below (s₁.setTop (entryFrame m #[(.ref a1), (.int p2), (.int p3)] 3)) t := fun t kt => go16 t (by
      refine st18 _ ?_
      show Steps p.tables e below (T18.setTop (mkF m 41 #[.val (.ref a1), .val (.int p2), .val (.int p3)] [(.ref b0)])) _
      refine XS.iloadN X18.here hx rfl (hb hby d9_41) rfl ?_
      show Steps p.tables e below (T18.setTop (mkF m 42 #[.val (.ref a1), .val (.int p2), .val (.int p3)] [(.int p2), (.ref b0)])) _
      refine XS.iconst X18.here hx rfl (hb hby d9_42) ?_
      show Steps p.tables e below (T18.setTop (mkF m 43 #[.val (.ref a1), .val (.int p2), .val (.int p3)] [(.int (3 : Int32)), (.int p2), (.ref b0)])) _
      refine XS.iadd X18.here hx rfl (hb hby d9_43) rfl ?_
      show Steps p.tables e below (T18.setTop (mkF m 44 #[.val (.ref a1), .val (.int p2), .val (.int p3)] [(.int (p2 + (3 : Int32))), (.ref b0)])) _
      refine XS.iloadN X18.here hx rfl (hb hby d9_44) rfl ?_
      show Steps p.tables e below (T18.setTop (mkF m 45 #[.val (.ref a1), .val (.int p2), .val (.int p3)] [(.int p3), (.int (p2 + (3 : Int32))), (.ref b0)])) _
      refine XS.i2b X18.here hx rfl (hb hby d9_45) rfl ?_
      show Steps p.tables e below (T18.setTop (mkF m 46 #[.val (.ref a1), .val (.int p2), .val (.int p3)] [(.int (p3.toInt8.toInt32)), (.int (p2 + (3 : Int32))), (.ref b0)])) _
      exact kt)
  obtain ⟨c20, Ar20, q20, x20a, x20b, x20c⟩ := id V15
  obtain ⟨T20, h20, X20, e20, W20, st20⟩ := stB X18 hx hZ e18 Ar20 (j := (p2 + (3 : Int32))) (own_inb q20 rfl j3 (by rw [l3]; simp only [List.length_set]; omega)) (g := (mkF m 46 #[.val (.ref a1), .val (.int p2), .val (.int p3)] [(.int (p3.toInt8.toInt32)), (.int (p2 + (3 : Int32))), (.ref b0)])) rfl rfl (hb hby d9_46)
  have V20 := own_AB.set Ar20 q20 x20a x20b x20c W20 l3
  have N20 := Fr.snoc X20 N15 gb
  have go21 : ∀ t, Steps p.tables e below (T20.setTop (mkF m 47 #[.val (.ref a1), .val (.int p2), .val (.int p3)] [])) t → Steps p.tables e below (s₁.setTop (entryFrame m #[(.ref a1), (.int p2), (.int p3)] 3)) t := fun t kt => go19 t (by
      refine st20 _ ?_
      show Steps p.tables e below (T20.setTop (mkF m 47 #[.val (.ref a1), .val (.int p2), .val (.int p3)] [])) _
      exact kt)
  obtain ⟨fs, hr, hrun, hended, hW, hsame⟩ := X20.leave (v := none) (fun _ => rfl)
  refine ⟨_, _, go21 _ (X20.returnOut hx Bd.returns (hb hby d9_47) hr), hrun, hended, _, _, rfl, ?_, ⟨_, rfl⟩, hW, hsame.mono (by decide) (by decide)⟩
  show own_QB _ _ _ _ _ T20.heap _
  rw [e20]
  have q22 := ((((E0.wr W5).wr W10).wr W15).wr W20)
  have q23 := (q17.other W20 (Or.inl ne1))
  have q24 := ((((F2.other W5 (Or.inl ne1)).other W10 (Or.inl ne1)).other W15 (Or.inl ne1)).other W20 (Or.inl ne1))
  exact ⟨rfl, N20, own_fin4 q22 q23 q24 V20 ga gb t0 k0 k1⟩
theorem d10_0 : decode prog_42_method_10_code 0 = .ok (.aload_n 0, 1) := by decide +kernel
theorem d10_1 : decode prog_42_method_10_code 1 = .ok (.getfield 7, 3) := by decide +kernel
theorem d10_4 : decode prog_42_method_10_code 4 = .ok (.aload_n 0, 1) := by decide +kernel
theorem d10_5 : decode prog_42_method_10_code 5 = .ok (.getfield 17, 3) := by decide +kernel
theorem d10_8 : decode prog_42_method_10_code 8 = .ok (.invokestatic 33, 3) := by decide +kernel
theorem d10_11 : decode prog_42_method_10_code 11 = .ok (.areturn, 1) := by decide +kernel
theorem pn_10 : plainName "com/example/classweave/classweave/classfile/ClassOutput" = true := by first | (simp [plainName, overriddenIn]; done) | decide +kernel
theorem ef_10 (m : MethodId) (a1 : Addr) : entryFrame m #[(.ref a1)] 1 = mkF m 0 #[.val (.ref a1)] [] := by first | (simp [entryFrame, mkF, argsToLocals, Value.category]; done) | rfl
set_option maxRecDepth 65536 in
set_option maxHeartbeats 40000000 in
theorem rm10 (l : Launch) (Z : State) (a0 : Array Value) (hw : ∀ d ∈ tables_1, d.before a0 Z = true) (ws : List Jvm.Cond) (a1 : Addr) (bs : List Int32) (h0 : Heap) (n0 : Nat) (Z0 : n0 ≤ h0.size) (OB : own_OB Z h0 n0 a1 bs) :
    MetFree l (⟨"com/example/classweave/classweave/classfile/ClassOutput", "toByteArray", "()[B"⟩ : MethodName) (head1 (Jvm.Cond.code (⟨"com/example/classweave/classweave/classfile/ClassOutput", "toByteArray", "()[B"⟩ : MethodName) prog_42_method_10_code 1 (some (.array .byte)) :: ws) ({ frames := 2, cells := 1, slots := 16, locals := 54 } : Room)) (fun a U => a = #[(.ref a1)] ∧ Z.Warmed39 U.vm ∧ U.heap = h0) (fun _ _ _ _ _ => True) (fun _ U o U' => ∃ v L, o = .returned v ∧ own_QT Z a1 bs n0 v U'.heap L ∧ FrameEnd U o U' L ({ frames := 2, cells := 1, slots := 16, locals := 54 } : Room).cells ({ frames := 2, cells := 1, slots := 16, locals := 54 } : Room).slots) := by
  refine MetFree.of_bodySF (plainFor_of_name pn_10) hisR ?_
  intro p e s m args below meth c s₁ Bd hml0 hP hK
  obtain ⟨rfl, hZ, hh⟩ := hP
  have hx := Bd.exec
  have hby := Bd.bytes
  have hml : c.maxLocals = 1 := hml0
  have hown : s.vm.findClass "com/example/classweave/classweave/classfile/ClassOutput" = some m.cls := findClass_of_methodNamed Bd.named
  have hnm := (name_of_methodNamed Bd.named Bd.method).1
  have X0 : Stand p l e ({ frames := 2, cells := 1, slots := 16, locals := 54 } : Room) s m #[(.ref a1)] below meth c s₁ [] 0 0 := Stand.of_body Bd
  have e0 : s₁.heap = h0 := by rw [← hh, Bd.state]; rfl
  have N0 := Fr.nil n0
  have go0 : ∀ t, Steps p.tables e below (s₁.setTop (mkF m 0 #[.val (.ref a1)] [])) t → Steps p.tables e below (s₁.setTop (entryFrame m #[(.ref a1)] 1)) t := fun t k => castTop (ef_10 m a1) k
  obtain ⟨b0, vs, O0, t0, k0, k1⟩ := id OB
  obtain ⟨E0, F1, F2, V0, ga, gb⟩ := id O0
  have ne1 : a1 ≠ b0 := Exa.ne E0 (by obtain ⟨_, _, _, x, _⟩ := V0; exact x) own_neK
  have go2 : ∀ t, Steps p.tables e below (s₁.setTop (mkF m 1 #[.val (.ref a1)] [(.ref a1)])) t → Steps p.tables e below (s₁.setTop (entryFrame m #[(.ref a1)] 1)) t := fun t kt => go0 t (by
      refine XS.aloadN X0.here hx rfl (hb hby d10_0) rfl rfl ?_
      show Steps p.tables e below (s₁.setTop (mkF m 1 #[.val (.ref a1)] [(.ref a1)])) _
      exact kt)
  obtain ⟨T3, X3, e3, st3⟩ := getF X0 hx hZ hown (host := "") (Or.inl (hw _ (List.mem_of_getElem? (i := 11) rfl))) Via.refl e0 F1 (g := (mkF m 1 #[.val (.ref a1)] [(.ref a1)])) rfl rfl (hb hby d10_1)
  have go4 : ∀ t, Steps p.tables e below (T3.setTop (mkF m 5 #[.val (.ref a1)] [(.ref a1), (.ref b0)])) t → Steps p.tables e below (s₁.setTop (entryFrame m #[(.ref a1)] 1)) t := fun t kt => go2 t (by
      refine st3 _ ?_
      show Steps p.tables e below (T3.setTop (mkF m 4 #[.val (.ref a1)] [(.ref b0)])) _
      refine XS.aloadN X3.here hx rfl (hb hby d10_4) rfl rfl ?_
      show Steps p.tables e below (T3.setTop (mkF m 5 #[.val (.ref a1)] [(.ref a1), (.ref b0)])) _
      exact kt)
  obtain ⟨T5, X5, e5, st5⟩ := getF X3 hx hZ hown (host := "") (Or.inl (hw _ (List.mem_of_getElem? (i := 27) rfl))) Via.refl e3 F2 (g := (mkF m 5 #[.val (.ref a1)] [(.ref a1), (.ref b0)])) rfl rfl (hb hby d10_5)
  have nb := own_ni bs.length (by omega)
  have go6 : ∀ t, Steps p.tables e below (T5.setTop (mkF m 8 #[.val (.ref a1)] [(.int bs.length.toInt32), (.ref b0)])) t → Steps p.tables e below (s₁.setTop (entryFrame m #[(.ref a1)] 1)) t := fun t kt => go4 t (by
      refine st5 _ ?_
      show Steps p.tables e below (T5.setTop (mkF m 8 #[.val (.ref a1)] [(.int bs.length.toInt32), (.ref b0)])) _
      exact kt)
  obtain ⟨_, _, ⟨T7, L7, k7, n7⟩, -, X7, ⟨Lc7, hQ7, l7, y7, z7⟩, st7⟩ := Jvm.LawKit.callS X5 hx (y := (⟨"java/util/Arrays", "copyOf", "([BI)[B"⟩ : MethodName)) hown (mvT hZ (hw _ (List.mem_of_getElem? (i := 33) rfl))) (mvT hZ (hw _ (List.mem_of_getElem? (i := 34) rfl))) (mvT hZ (hw _ (List.mem_of_getElem? (i := 35) rfl))) (mvT hZ (hw _ (List.mem_of_getElem? (i := 36) rfl))) (by decide) (backOf (W := 0) (rm7 l Z a0 hw [] b0 bs.length.toInt32 vs h0 n0 Z0 V0 nb.2.2 (by rw [nb.2.1]; omega)) hZ (hw _ (List.mem_of_getElem? (i := 36) rfl)) (hw _ (List.mem_of_getElem? (i := 35) rfl)) (by decide) (by decide)) (g := (mkF m 8 #[.val (.ref a1)] [(.int bs.length.toInt32), (.ref b0)])) rfl (by rw [hml]; rfl) (argsL := [(.ref b0), (.int bs.length.toInt32)]) (rest := []) (lenOf pd_3 rfl) rfl (by show 2 * 0 + _ ≤ _; exact Nat.le_of_eq rfl) (hb hby d10_8) (fun _ _ => ⟨rfl, e5, (by decide : 0 + 1 ≤ _), (by decide : 0 + 16 ≤ _)⟩)
  dsimp only [Pt.U, Pt.locs, Pt.cells, Pt.slots] at X7 l7 y7 z7 st7 hQ7
  subst l7 y7 z7
  obtain ⟨b7, rfl, N7q, K7, gb7, V7⟩ := hQ7
  have N7 := Fr.app N0 N7q
  have go8 : ∀ t, Steps p.tables e below (T7.setTop (mkF m 11 #[.val (.ref a1)] [(.ref b7)])) t → Steps p.tables e below (s₁.setTop (entryFrame m #[(.ref a1)] 1)) t := fun t kt => go6 t (by
      refine st7 _ ?_
      show Steps p.tables e below (T7.setTop (mkF m 11 #[.val (.ref a1)] [(.ref b7)])) _
      exact kt)
  obtain ⟨fs, hr, hrun, hended, hW, hsame⟩ := X7.leave (v := some (.ref b7)) (fun h => by rw [Bd.returns] at h; cases h)
  refine ⟨_, _, go8 _ (X7.areturnOut hx rfl Bd.returns rfl (hb hby d10_11) hr), hrun, hended, _, _, rfl, ?_, ⟨_, rfl⟩, hW, hsame.mono (by decide) (by decide)⟩
  have q9 := (E0.keep K7)
  have q10 := (F1.keep K7 nin0)
  have q11 := (F2.keep K7 nin0)
  have q12 := (V0.keep K7 nin0)
  refine ⟨b7, rfl, N7, ⟨b0, vs, ⟨q9, q10, q11, q12, ga, gb⟩, t0, k0, k1⟩, ?_⟩
  have V' := V7.av
  rw [nb.2.1] at V'
  unfold own_cp at V'
  rw [t0, show bs.length - vs.length = 0 from by omega, List.replicate_zero, List.append_nil] at V'
  exact V'
theorem d11_0 : decode prog_42_method_8_code 0 = .ok (.aload_n 0, 1) := by decide +kernel
theorem d11_1 : decode prog_42_method_8_code 1 = .ok (.getfield 17, 3) := by decide +kernel
theorem d11_4 : decode prog_42_method_8_code 4 = .ok (.ireturn, 1) := by decide +kernel
theorem pn_11 : plainName "com/example/classweave/classweave/classfile/ClassOutput" = true := by first | (simp [plainName, overriddenIn]; done) | decide +kernel
theorem ef_11 (m : MethodId) (a1 : Addr) : entryFrame m #[(.ref a1)] 1 = mkF m 0 #[.val (.ref a1)] [] := by first | (simp [entryFrame, mkF, argsToLocals, Value.category]; done) | rfl
set_option maxRecDepth 65536 in
set_option maxHeartbeats 40000000 in
theorem rm11 (l : Launch) (Z : State) (a0 : Array Value) (hw : ∀ d ∈ tables_1, d.before a0 Z = true) (ws : List Jvm.Cond) (a1 : Addr) (bs : List Int32) (z : Int32) (h0 : Heap) (n0 : Nat) (OB : own_OB Z h0 n0 a1 bs) (hz : bs.length.toInt32 = z) :
    MetFree l (⟨"com/example/classweave/classweave/classfile/ClassOutput", "size", "()I"⟩ : MethodName) (head1 (Jvm.Cond.code (⟨"com/example/classweave/classweave/classfile/ClassOutput", "size", "()I"⟩ : MethodName) prog_42_method_8_code 1 (some .int) :: ws) ({ frames := 0, cells := 0, slots := 0, locals := 0 } : Room)) (fun a U => a = #[(.ref a1)] ∧ Z.Warmed39 U.vm ∧ U.heap = h0) (fun _ _ _ _ _ => True) (fun _ U o U' => ∃ v L, o = .returned v ∧ QP (some (.int z)) h0 n0 v U'.heap L ∧ FrameEnd U o U' L ({ frames := 0, cells := 0, slots := 0, locals := 0 } : Room).cells ({ frames := 0, cells := 0, slots := 0, locals := 0 } : Room).slots) := by
  refine MetFree.of_bodySF (plainFor_of_name pn_11) hisR ?_
  intro p e s m args below meth c s₁ Bd hml0 hP hK
  obtain ⟨rfl, hZ, hh⟩ := hP
  have hx := Bd.exec
  have hby := Bd.bytes
  have hml : c.maxLocals = 1 := hml0
  have hown : s.vm.findClass "com/example/classweave/classweave/classfile/ClassOutput" = some m.cls := findClass_of_methodNamed Bd.named
  have hnm := (name_of_methodNamed Bd.named Bd.method).1
  have X0 : Stand p l e ({ frames := 0, cells := 0, slots := 0, locals := 0 } : Room) s m #[(.ref a1)] below meth c s₁ [] 0 0 := Stand.of_body Bd
  have e0 : s₁.heap = h0 := by rw [← hh, Bd.state]; rfl
  have N0 := Fr.nil n0
  have go0 : ∀ t, Steps p.tables e below (s₁.setTop (mkF m 0 #[.val (.ref a1)] [])) t → Steps p.tables e below (s₁.setTop (entryFrame m #[(.ref a1)] 1)) t := fun t k => castTop (ef_11 m a1) k
  obtain ⟨b0, vs, O0, t0, k0, k1⟩ := id OB
  obtain ⟨E0, F1, F2, V0, ga, gb⟩ := id O0
  have ne1 : a1 ≠ b0 := Exa.ne E0 (by obtain ⟨_, _, _, x, _⟩ := V0; exact x) own_neK
  have go2 : ∀ t, Steps p.tables e below (s₁.setTop (mkF m 1 #[.val (.ref a1)] [(.ref a1)])) t → Steps p.tables e below (s₁.setTop (entryFrame m #[(.ref a1)] 1)) t := fun t kt => go0 t (by
      refine XS.aloadN X0.here hx rfl (hb hby d11_0) rfl rfl ?_
      show Steps p.tables e below (s₁.setTop (mkF m 1 #[.val (.ref a1)] [(.ref a1)])) _
      exact kt)
  obtain ⟨T3, X3, e3, st3⟩ := getF X0 hx hZ hown (host := "") (Or.inl (hw _ (List.mem_of_getElem? (i := 27) rfl))) Via.refl e0 F2 (g := (mkF m 1 #[.val (.ref a1)] [(.ref a1)])) rfl rfl (hb hby d11_1)
  have go4 : ∀ t, Steps p.tables e below (T3.setTop (mkF m 4 #[.val (.ref a1)] [(.int bs.length.toInt32)])) t → Steps p.tables e below (s₁.setTop (entryFrame m #[(.ref a1)] 1)) t := fun t kt => go2 t (by
      refine st3 _ ?_
      show Steps p.tables e below (T3.setTop (mkF m 4 #[.val (.ref a1)] [(.int bs.length.toInt32)])) _
      exact kt)
  obtain ⟨fs, hr, hrun, hended, hW, hsame⟩ := X3.leave (v := some (.int bs.length.toInt32)) (fun h => by rw [Bd.returns] at h; cases h)
  refine ⟨_, _, go4 _ (retI X3 hx Bd.returns (hb hby d11_4) hr), hrun, hended, _, _, rfl, ?_, ⟨_, rfl⟩, hW, hsame.mono (by decide) (by decide)⟩
  exact ⟨by rw [hz], N0, e3⟩
theorem d1_0 : decode prog_42_method_1_code 0 = .ok (.aload_n 0, 1) := by decide +kernel
theorem d1_1 : decode prog_42_method_1_code 1 = .ok (.invokespecial 1, 3) := by decide +kernel
theorem d1_4 : decode prog_42_method_1_code 4 = .ok (.aload_n 0, 1) := by decide +kernel
theorem d1_5 : decode prog_42_method_1_code 5 = .ok (.iload_n 1, 1) := by decide +kernel
theorem d1_6 : decode prog_42_method_1_code 6 = .ok (.newarray .byte, 2) := by decide +kernel
theorem d1_8 : decode prog_42_method_1_code 8 = .ok (.putfield 7, 3) := by decide +kernel
theorem d1_11 : decode prog_42_method_1_code 11 = .ok (.return_, 1) := by decide +kernel
theorem pn_1 : plainName "com/example/classweave/classweave/classfile/ClassOutput" = true := by first | (simp [plainName, overriddenIn]; done) | decide +kernel
theorem ef_1 (m : MethodId) (a1 : Addr) (p2 : Int32) : entryFrame m #[(.ref a1), (.int p2)] 2 = mkF m 0 #[.val (.ref a1), .val (.int p2)] [] := by first | (simp [entryFrame, mkF, argsToLocals, Value.category]; done) | rfl
set_option maxRecDepth 65536 in
set_option maxHeartbeats 40000000 in
theorem rm1 (l : Launch) (Z : State) (a0 : Array Value) (hw : ∀ d ∈ tables_1, d.before a0 Z = true) (ws : List Jvm.Cond) (a1 : Addr) (p2 : Int32) (h0 : Heap) (n0 : Nat) (Z0 : n0 ≤ h0.size) (SE : Exa Z h0 a1 "com/example/classweave/classweave/classfile/ClassOutput") (SF1 : Fld Z h0 a1 "com/example/classweave/classweave/classfile/ClassOutput" "bytes" "[B" .null) (SF2 : Fld Z h0 a1 "com/example/classweave/classweave/classfile/ClassOutput" "size" "I" (.int (0 : Int32))) (ga : n0 ≤ a1) (hp : ¬ p2 < 0) (hp15 : p2.toNatClampNeg ≤ 15) :
    MetFree l (⟨"com/example/classweave/classweave/classfile/ClassOutput", "<init>", "(I)V"⟩ : MethodName) (head1 (Jvm.Cond.code (⟨"com/example/classweave/classweave/classfile/ClassOutput", "<init>", "(I)V"⟩ : MethodName) prog_42_method_1_code 2 none :: ws) ({ frames := 1, cells := 1, slots := 15, locals := 12 } : Room)) (fun a U => a = #[(.ref a1), (.int p2)] ∧ Z.Warmed39 U.vm ∧ U.heap = h0) (fun _ _ _ _ _ => True) (fun _ U o U' => ∃ v L, o = .returned v ∧ own_QB Z a1 [] n0 v U'.heap L ∧ FrameEnd U o U' L ({ frames := 1, cells := 1, slots := 15, locals := 12 } : Room).cells ({ frames := 1, cells := 1, slots := 15, locals := 12 } : Room).slots) := by
  refine MetFree.of_bodySF (plainFor_of_name pn_1) hisR ?_
  intro p e s m args below meth c s₁ Bd hml0 hP hK
  obtain ⟨rfl, hZ, hh⟩ := hP
  have hx := Bd.exec
  have hby := Bd.bytes
  have hml : c.maxLocals = 2 := hml0
  have hown : s.vm.findClass "com/example/classweave/classweave/classfile/ClassOutput" = some m.cls := findClass_of_methodNamed Bd.named
  have hnm := (name_of_methodNamed Bd.named Bd.method).1
  have X0 : Stand p l e ({ frames := 1, cells := 1, slots := 15, locals := 12 } : Room) s m #[(.ref a1), (.int p2)] below meth c s₁ [] 0 0 := Stand.of_body Bd
  have e0 : s₁.heap = h0 := by rw [← hh, Bd.state]; rfl
  have N0 := Fr.nil n0
  have go0 : ∀ t, Steps p.tables e below (s₁.setTop (mkF m 0 #[.val (.ref a1), .val (.int p2)] [])) t → Steps p.tables e below (s₁.setTop (entryFrame m #[(.ref a1), (.int p2)] 2)) t := fun t k => castTop (ef_1 m a1 p2) k
  have go1 : ∀ t, Steps p.tables e below (s₁.setTop (mkF m 1 #[.val (.ref a1), .val (.int p2)] [(.ref a1)])) t → Steps p.tables e below (s₁.setTop (entryFrame m #[(.ref a1), (.int p2)] 2)) t := fun t kt => go0 t (by
      refine XS.aloadN X0.here hx rfl (hb hby d1_0) rfl rfl ?_
      show Steps p.tables e below (s₁.setTop (mkF m 1 #[.val (.ref a1), .val (.int p2)] [(.ref a1)])) _
      exact kt)
  obtain ⟨T2, X2, e2, st2⟩ := initO X0 hx hZ hown (hw _ (List.mem_of_getElem? (i := 7) rfl)) (hw _ (List.mem_of_getElem? (i := 8) rfl)) (hw _ (List.mem_of_getElem? (i := 9) rfl)) e0 (g := (mkF m 1 #[.val (.ref a1), .val (.int p2)] [(.ref a1)])) rfl (by rw [hml]; rfl) rfl (hb hby d1_1) (by decide) (W := 0) (by show 2 * 0 + _ ≤ _; exact Nat.le_of_eq rfl) (by decide)
  have go3 : ∀ t, Steps p.tables e below (T2.setTop (mkF m 6 #[.val (.ref a1), .val (.int p2)] [(.int p2), (.ref a1)])) t → Steps p.tables e below (s₁.setTop (entryFrame m #[(.ref a1), (.int p2)] 2)) t := fun t kt => go1 t (by
      refine st2 _ ?_
      show Steps p.tables e below (T2.setTop (mkF m 4 #[.val (.ref a1), .val (.int p2)] [])) _
      refine XS.aloadN X2.here hx rfl (hb hby d1_4) rfl rfl ?_
      show Steps p.tables e below (T2.setTop (mkF m 5 #[.val (.ref a1), .val (.int p2)] [(.ref a1)])) _
      refine XS.iloadN X2.here hx rfl (hb hby d1_5) rfl ?_
      show Steps p.tables e below (T2.setTop (mkF m 6 #[.val (.ref a1), .val (.int p2)] [(.int p2), (.ref a1)])) _
      exact kt)
  obtain ⟨T4, h4, k4, X4, e4, E4, A4, Ex4, st4⟩ := newPE X2 hx hZ (hw _ (List.mem_of_getElem? (i := 10) rfl)) e2 (g := (mkF m 6 #[.val (.ref a1), .val (.int p2)] [(.int p2), (.ref a1)])) rfl (hb hby d1_6) rfl hp (cap := 15) hp15 (by decide) (by decide) (by decide) (ad := "[B") (by decide)
  obtain ⟨b4, g4⟩ : ∃ z, z = h0.size := ⟨_, rfl⟩
  rw [← g4] at A4 Ex4 st4
  have ks4 : h0.size ≤ h0.size := Nat.le_refl _
  have sz4 : h0.size ≤ b4 := Nat.le_trans ks4 (Nat.le_of_eq g4.symm)
  have ne_a1_b4 : a1 ≠ b4 := Nat.ne_of_lt (Nat.lt_of_lt_of_le SE.lt (Nat.le_of_eq g4.symm))
  have gb4 : n0 ≤ b4 := Nat.le_trans Z0 (Nat.le_of_eq g4.symm)
  have V4 : own_AB Z h4 b4 (List.replicate p2.toNatClampNeg (Value.int 0)) := ⟨_, A4, by simp [newA, defaultValue, newarray.typeOf], Ex4, fun v hv => by rw [List.eq_of_mem_replicate hv]; decide, by rw [List.length_replicate]; omega⟩
  have go5 : ∀ t, Steps p.tables e below (T4.setTop (mkF m 8 #[.val (.ref a1), .val (.int p2)] [(.ref b4), (.ref a1)])) t → Steps p.tables e below (s₁.setTop (entryFrame m #[(.ref a1), (.int p2)] 2)) t := fun t kt => go3 t (by
      refine st4 _ ?_
      show Steps p.tables e below (T4.setTop (mkF m 8 #[.val (.ref a1), .val (.int p2)] [(.ref b4), (.ref a1)])) _
      exact kt)
  have q6 := (SF1.ext E4)
  have q7 := (SE.ext E4)
  obtain ⟨T8, h8, X8, e8, W8, st8⟩ := putF X4 hx hZ hown (host := "") (Or.inl (hw _ (List.mem_of_getElem? (i := 11) rfl))) Via.refl e4 q6 q7 (Or.inl (hw _ (List.mem_of_getElem? (i := 12) rfl))) (hw _ (List.mem_of_getElem? (i := 2) rfl)) (ty := (.array .byte)) (by decide) rfl rfl (g := (mkF m 8 #[.val (.ref a1), .val (.int p2)] [(.ref b4), (.ref a1)])) rfl rfl (hb hby d1_8)
  have Fw8 := q6.same W8
  have N8 := Fr.snoc X8 N0 ga
  have go9 : ∀ t, Steps p.tables e below (T8.setTop (mkF m 11 #[.val (.ref a1), .val (.int p2)] [])) t → Steps p.tables e below (s₁.setTop (entryFrame m #[(.ref a1), (.int p2)] 2)) t := fun t kt => go5 t (by
      refine st8 _ ?_
      show Steps p.tables e below (T8.setTop (mkF m 11 #[.val (.ref a1), .val (.int p2)] [])) _
      exact kt)
  obtain ⟨fs, hr, hrun, hended, hW, hsame⟩ := X8.leave (v := none) (fun _ => rfl)
  refine ⟨_, _, go9 _ (X8.returnOut hx Bd.returns (hb hby d1_11) hr), hrun, hended, _, _, rfl, ?_, ⟨_, rfl⟩, hW, hsame.mono (by decide) (by decide)⟩
  show own_QB _ _ _ _ _ T8.heap _
  rw [e8]
  have q10 := (q7.wr W8)
  have q11 := ((SF2.ext E4).other W8 (Or.inr (slot_ne (Or.inl (hw _ (List.mem_of_getElem? (i := 28) rfl))) (Or.inl (hw _ (List.mem_of_getElem? (i := 12) rfl))) (by decide) (t := .int) (t' := (.array .byte)) (by decide) (by decide))))
  have q12 := (V4.other W8 (Ne.symm ne_a1_b4))
  exact ⟨rfl, N8, b4, _, ⟨q10, Fw8, q11, q12, ga, gb4⟩, rfl, Nat.zero_le _, by rw [List.length_replicate]; exact hp15⟩
def own_at (y0 p2 p3 p4 p5 p6 : Int32) : Int32 := (if p2 < p3 then (if p2 < (4 : Int32) then (if y0 = ((own_byteOf p4 p2).toInt8.toInt32) then (1 : Int32) else (0 : Int32)) else (if y0 = ((own_byteOf p5 (p2 - (4 : Int32))).toInt8.toInt32) then (1 : Int32) else (0 : Int32))) else (if p2 < (p3 + (4 : Int32)) then (if y0 = ((own_byteOf p6 (p2 - p3)).toInt8.toInt32) then (1 : Int32) else (0 : Int32)) else (if p2 < (4 : Int32) then (if y0 = ((own_byteOf p4 p2).toInt8.toInt32) then (1 : Int32) else (0 : Int32)) else (if y0 = ((own_byteOf p5 (p2 - (4 : Int32))).toInt8.toInt32) then (1 : Int32) else (0 : Int32)))))
theorem d12_0 : decode method_3_code 0 = .ok (.iload_n 1, 1) := by decide +kernel
theorem d12_1 : decode method_3_code 1 = .ok (.iload_n 2, 1) := by decide +kernel
theorem d12_2 : decode method_3_code 2 = .ok (.if_icmp .lt 23, 3) := by decide +kernel
theorem d12_5 : decode method_3_code 5 = .ok (.iload_n 1, 1) := by decide +kernel
theorem d12_6 : decode method_3_code 6 = .ok (.iload_n 2, 1) := by decide +kernel
theorem d12_7 : decode method_3_code 7 = .ok (.iconst 4, 1) := by decide +kernel
theorem d12_8 : decode method_3_code 8 = .ok (.iadd, 1) := by decide +kernel
theorem d12_9 : decode method_3_code 9 = .ok (.if_icmp .ge 16, 3) := by decide +kernel
theorem d12_12 : decode method_3_code 12 = .ok (.iload 5, 2) := by decide +kernel
theorem d12_14 : decode method_3_code 14 = .ok (.iload_n 1, 1) := by decide +kernel
theorem d12_15 : decode method_3_code 15 = .ok (.iload_n 2, 1) := by decide +kernel
theorem d12_16 : decode method_3_code 16 = .ok (.isub, 1) := by decide +kernel
theorem d12_17 : decode method_3_code 17 = .ok (.invokestatic 34, 3) := by decide +kernel
theorem d12_20 : decode method_3_code 20 = .ok (.istore 6, 2) := by decide +kernel
theorem d12_22 : decode method_3_code 22 = .ok (.goto 28, 3) := by decide +kernel
theorem d12_25 : decode method_3_code 25 = .ok (.iload_n 1, 1) := by decide +kernel
theorem d12_26 : decode method_3_code 26 = .ok (.iconst 4, 1) := by decide +kernel
theorem d12_27 : decode method_3_code 27 = .ok (.if_icmp .ge 13, 3) := by decide +kernel
theorem d12_30 : decode method_3_code 30 = .ok (.iload_n 3, 1) := by decide +kernel
theorem d12_31 : decode method_3_code 31 = .ok (.iload_n 1, 1) := by decide +kernel
theorem d12_32 : decode method_3_code 32 = .ok (.invokestatic 34, 3) := by decide +kernel
theorem d12_35 : decode method_3_code 35 = .ok (.istore 6, 2) := by decide +kernel
theorem d12_37 : decode method_3_code 37 = .ok (.goto 13, 3) := by decide +kernel
theorem d12_40 : decode method_3_code 40 = .ok (.iload 4, 2) := by decide +kernel
theorem d12_42 : decode method_3_code 42 = .ok (.iload_n 1, 1) := by decide +kernel
theorem d12_43 : decode method_3_code 43 = .ok (.iconst 4, 1) := by decide +kernel
theorem d12_44 : decode method_3_code 44 = .ok (.isub, 1) := by decide +kernel
theorem d12_45 : decode method_3_code 45 = .ok (.invokestatic 34, 3) := by decide +kernel
theorem d12_48 : decode method_3_code 48 = .ok (.istore 6, 2) := by decide +kernel
theorem d12_50 : decode method_3_code 50 = .ok (.aload_n 0, 1) := by decide +kernel
theorem d12_51 : decode method_3_code 51 = .ok (.iload_n 1, 1) := by decide +kernel
theorem d12_52 : decode method_3_code 52 = .ok (.baload, 1) := by decide +kernel
theorem d12_53 : decode method_3_code 53 = .ok (.iload 6, 2) := by decide +kernel
theorem d12_55 : decode method_3_code 55 = .ok (.i2b, 1) := by decide +kernel
theorem d12_56 : decode method_3_code 56 = .ok (.if_icmp .ne 7, 3) := by decide +kernel
theorem d12_59 : decode method_3_code 59 = .ok (.iconst 1, 1) := by decide +kernel
theorem d12_60 : decode method_3_code 60 = .ok (.goto 4, 3) := by decide +kernel
theorem d12_63 : decode method_3_code 63 = .ok (.iconst 0, 1) := by decide +kernel
theorem d12_64 : decode method_3_code 64 = .ok (.ireturn, 1) := by decide +kernel
theorem pn_12 : plainName "com/example/classweave/classweave/classfile/ClassOutputU4AtPinLaw" = true := by first | (simp [plainName, overriddenIn]; done) | decide +kernel
theorem ef_12 (m : MethodId) (a1 : Addr) (p2 : Int32) (p3 : Int32) (p4 : Int32) (p5 : Int32) (p6 : Int32) : entryFrame m #[(.ref a1), (.int p2), (.int p3), (.int p4), (.int p5), (.int p6)] 7 = mkF m 0 #[.val (.ref a1), .val (.int p2), .val (.int p3), .val (.int p4), .val (.int p5), .val (.int p6), .unset] [] := by first | (simp [entryFrame, mkF, argsToLocals, Value.category]; done) | rfl
set_option maxRecDepth 65536 in
set_option maxHeartbeats 40000000 in
theorem rm12 (l : Launch) (Z : State) (a0 : Array Value) (hw : ∀ d ∈ tables_1, d.before a0 Z = true) (ws : List Jvm.Cond) (a1 : Addr) (p2 p3 p4 p5 p6 y0 : Int32) (vs : List Value) (i : Nat) (h0 : Heap) (n0 : Nat) (V0 : own_AV Z h0 a1 .byte vs) (hneg : ¬ p2 < 0) (hnat : p2.toNatClampNeg = i) (hv : vs[i]? = some (.int y0)) :
    MetFree l (⟨"com/example/classweave/classweave/classfile/ClassOutputU4AtPinLaw", "at", "([BIIIII)Z"⟩ : MethodName) (head1 (Jvm.Cond.code (⟨"com/example/classweave/classweave/classfile/ClassOutputU4AtPinLaw", "at", "([BIIIII)Z"⟩ : MethodName) method_3_code 7 (some .boolean) :: ws) ({ frames := 1, cells := 0, slots := 0, locals := 15 } : Room)) (fun a U => a = #[(.ref a1), (.int p2), (.int p3), (.int p4), (.int p5), (.int p6)] ∧ Z.Warmed39 U.vm ∧ U.heap = h0) (fun _ _ _ _ _ => True) (fun _ U o U' => ∃ v L, o = .returned v ∧ QP (some (.int (own_at y0 p2 p3 p4 p5 p6))) h0 n0 v U'.heap L ∧ FrameEnd U o U' L ({ frames := 1, cells := 0, slots := 0, locals := 15 } : Room).cells ({ frames := 1, cells := 0, slots := 0, locals := 15 } : Room).slots) := by
  refine MetFree.of_bodySF (plainFor_of_name pn_12) hisR ?_
  intro p e s m args below meth c s₁ Bd hml0 hP hK
  obtain ⟨rfl, hZ, hh⟩ := hP
  have hx := Bd.exec
  have hby := Bd.bytes
  have hml : c.maxLocals = 7 := hml0
  have hown : s.vm.findClass "com/example/classweave/classweave/classfile/ClassOutputU4AtPinLaw" = some m.cls := findClass_of_methodNamed Bd.named
  have hnm := (name_of_methodNamed Bd.named Bd.method).1
  have X0 : Stand p l e ({ frames := 1, cells := 0, slots := 0, locals := 15 } : Room) s m #[(.ref a1), (.int p2), (.int p3), (.int p4), (.int p5), (.int p6)] below meth c s₁ [] 0 0 := Stand.of_body Bd
  have e0 : s₁.heap = h0 := by rw [← hh, Bd.state]; rfl
  have N0 := Fr.nil n0
  have go0 : ∀ t, Steps p.tables e below (s₁.setTop (mkF m 0 #[.val (.ref a1), .val (.int p2), .val (.int p3), .val (.int p4), .val (.int p5), .val (.int p6), .unset] [])) t → Steps p.tables e below (s₁.setTop (entryFrame m #[(.ref a1), (.int p2), (.int p3), (.int p4), (.int p5), (.int p6)] 7)) t := fun t k => castTop (ef_12 m a1 p2 p3 p4 p5 p6) k
  have go1 : ∀ t, Steps p.tables e below (s₁.setTop (mkF m 2 #[.val (.ref a1), .val (.int p2), .val (.int p3), .val (.int p4), .val (.int p5), .val (.int p6), .unset] [(.int p3), (.int p2)])) t → Steps p.tables e below (s₁.setTop (entryFrame m #[(.ref a1), (.int p2), (.int p3), (.int p4), (.int p5), (.int p6)] 7)) t := fun t kt => go0 t (by
      refine XS.iloadN X0.here hx rfl (hb hby d12_0) rfl ?_
      show Steps p.tables e below (s₁.setTop (mkF m 1 #[.val (.ref a1), .val (.int p2), .val (.int p3), .val (.int p4), .val (.int p5), .val (.int p6), .unset] [(.int p2)])) _
      refine XS.iloadN X0.here hx rfl (hb hby d12_1) rfl ?_
      show Steps p.tables e below (s₁.setTop (mkF m 2 #[.val (.ref a1), .val (.int p2), .val (.int p3), .val (.int p4), .val (.int p5), .val (.int p6), .unset] [(.int p3), (.int p2)])) _
      exact kt)
  by_cases hc2_2 : p2 < p3
  · have go3 : ∀ t, Steps p.tables e below (s₁.setTop (mkF m 27 #[.val (.ref a1), .val (.int p2), .val (.int p3), .val (.int p4), .val (.int p5), .val (.int p6), .unset] [(.int (4 : Int32)), (.int p2)])) t → Steps p.tables e below (s₁.setTop (entryFrame m #[(.ref a1), (.int p2), (.int p3), (.int p4), (.int p5), (.int p6)] 7)) t := fun t kt => go1 t (by
        refine XS.icmpYes X0.here hx rfl (pc0 := 2) (pc' := 25) rfl (hb hby d12_2) rfl (tlt hc2_2).1 (by decide) (by decide) ?_
        show Steps p.tables e below (s₁.setTop (mkF m 25 #[.val (.ref a1), .val (.int p2), .val (.int p3), .val (.int p4), .val (.int p5), .val (.int p6), .unset] [])) _
        refine XS.iloadN X0.here hx rfl (hb hby d12_25) rfl ?_
        show Steps p.tables e below (s₁.setTop (mkF m 26 #[.val (.ref a1), .val (.int p2), .val (.int p3), .val (.int p4), .val (.int p5), .val (.int p6), .unset] [(.int p2)])) _
        refine XS.iconst X0.here hx rfl (hb hby d12_26) ?_
        show Steps p.tables e below (s₁.setTop (mkF m 27 #[.val (.ref a1), .val (.int p2), .val (.int p3), .val (.int p4), .val (.int p5), .val (.int p6), .unset] [(.int (4 : Int32)), (.int p2)])) _
        exact kt)
    by_cases hc27_4 : p2 < (4 : Int32)
    · have go5 : ∀ t, Steps p.tables e below (s₁.setTop (mkF m 32 #[.val (.ref a1), .val (.int p2), .val (.int p3), .val (.int p4), .val (.int p5), .val (.int p6), .unset] [(.int p2), (.int p4)])) t → Steps p.tables e below (s₁.setTop (entryFrame m #[(.ref a1), (.int p2), (.int p3), (.int p4), (.int p5), (.int p6)] 7)) t := fun t kt => go3 t (by
          refine XS.icmpNo X0.here hx rfl (hb hby d12_27) rfl (tlt hc27_4).2.1 ?_
          show Steps p.tables e below (s₁.setTop (mkF m 30 #[.val (.ref a1), .val (.int p2), .val (.int p3), .val (.int p4), .val (.int p5), .val (.int p6), .unset] [])) _
          refine XS.iloadN X0.here hx rfl (hb hby d12_30) rfl ?_
          show Steps p.tables e below (s₁.setTop (mkF m 31 #[.val (.ref a1), .val (.int p2), .val (.int p3), .val (.int p4), .val (.int p5), .val (.int p6), .unset] [(.int p4)])) _
          refine XS.iloadN X0.here hx rfl (hb hby d12_31) rfl ?_
          show Steps p.tables e below (s₁.setTop (mkF m 32 #[.val (.ref a1), .val (.int p2), .val (.int p3), .val (.int p4), .val (.int p5), .val (.int p6), .unset] [(.int p2), (.int p4)])) _
          exact kt)
      obtain ⟨_, _, ⟨T6, L6, k6, n6⟩, -, X6, ⟨Lc6, hQ6, l6, y6, z6⟩, st6⟩ := Jvm.LawKit.callS X0 hx (y := (⟨"com/example/classweave/classweave/classfile/ClassOutputU4AtPinLaw", "byteOf", "(II)I"⟩ : MethodName)) hown (mvT hZ (hw _ (List.mem_of_getElem? (i := 72) rfl))) (mvT hZ (hw _ (List.mem_of_getElem? (i := 73) rfl))) (mvT hZ (hw _ (List.mem_of_getElem? (i := 70) rfl))) (mvT hZ (hw _ (List.mem_of_getElem? (i := 74) rfl))) (by decide) (backOf (W := 0) (rm13 l Z a0 hw [] p4 p2 h0 n0) hZ (hw _ (List.mem_of_getElem? (i := 74) rfl)) (hw _ (List.mem_of_getElem? (i := 70) rfl)) (by decide) (by decide)) (g := (mkF m 32 #[.val (.ref a1), .val (.int p2), .val (.int p3), .val (.int p4), .val (.int p5), .val (.int p6), .unset] [(.int p2), (.int p4)])) rfl (by rw [hml]; rfl) (argsL := [(.int p4), (.int p2)]) (rest := []) (lenOf pd_2 rfl) rfl (by show 2 * 0 + _ ≤ _; exact Nat.le_of_eq rfl) (hb hby d12_32) (fun _ _ => ⟨rfl, e0, (by decide : 0 + 0 ≤ _), (by decide : 0 + 0 ≤ _)⟩)
      dsimp only [Pt.U, Pt.locs, Pt.cells, Pt.slots] at X6 l6 y6 z6 st6 hQ6
      subst l6 y6 z6
      obtain ⟨rfl, N6q, e6⟩ := hQ6
      have N6 := Fr.app N0 N6q
      have go7 : ∀ t, Steps p.tables e below (T6.setTop (mkF m 52 #[.val (.ref a1), .val (.int p2), .val (.int p3), .val (.int p4), .val (.int p5), .val (.int p6), .val (.int (own_byteOf p4 p2))] [(.int p2), (.ref a1)])) t → Steps p.tables e below (s₁.setTop (entryFrame m #[(.ref a1), (.int p2), (.int p3), (.int p4), (.int p5), (.int p6)] 7)) t := fun t kt => go5 t (by
          refine st6 _ ?_
          show Steps p.tables e below (T6.setTop (mkF m 35 #[.val (.ref a1), .val (.int p2), .val (.int p3), .val (.int p4), .val (.int p5), .val (.int p6), .unset] [(.int (own_byteOf p4 p2))])) _
          refine XS.istore X6.here hx rfl (hb hby d12_35) rfl (l' := #[.val (.ref a1), .val (.int p2), .val (.int p3), .val (.int p4), .val (.int p5), .val (.int p6), .val (.int (own_byteOf p4 p2))]) rfl ?_
          show Steps p.tables e below (T6.setTop (mkF m 37 #[.val (.ref a1), .val (.int p2), .val (.int p3), .val (.int p4), .val (.int p5), .val (.int p6), .val (.int (own_byteOf p4 p2))] [])) _
          refine XS.goto X6.here hx rfl (pc0 := 37) (pc' := 50) rfl (hb hby d12_37) (by decide) (by decide) ?_
          show Steps p.tables e below (T6.setTop (mkF m 50 #[.val (.ref a1), .val (.int p2), .val (.int p3), .val (.int p4), .val (.int p5), .val (.int p6), .val (.int (own_byteOf p4 p2))] [])) _
          refine XS.aloadN X6.here hx rfl (hb hby d12_50) rfl rfl ?_
          show Steps p.tables e below (T6.setTop (mkF m 51 #[.val (.ref a1), .val (.int p2), .val (.int p3), .val (.int p4), .val (.int p5), .val (.int p6), .val (.int (own_byteOf p4 p2))] [(.ref a1)])) _
          refine XS.iloadN X6.here hx rfl (hb hby d12_51) rfl ?_
          show Steps p.tables e below (T6.setTop (mkF m 52 #[.val (.ref a1), .val (.int p2), .val (.int p3), .val (.int p4), .val (.int p5), .val (.int p6), .val (.int (own_byteOf p4 p2))] [(.int p2), (.ref a1)])) _
          exact kt)
      obtain ⟨c8, Ar8, q8⟩ := id V0
      have go9 : ∀ t, Steps p.tables e below (T6.setTop (mkF m 56 #[.val (.ref a1), .val (.int p2), .val (.int p3), .val (.int p4), .val (.int p5), .val (.int p6), .val (.int (own_byteOf p4 p2))] [(.int ((own_byteOf p4 p2).toInt8.toInt32)), (.int y0)])) t → Steps p.tables e below (s₁.setTop (entryFrame m #[(.ref a1), (.int p2), (.int p3), (.int p4), (.int p5), (.int p6)] 7)) t := fun t kt => go7 t (by
          refine X6.baloadBytes hx (j := p2) (v := (.int y0)) (by rw [e6]; exact Ar8.1) (State.isArrayOf_alike hZ.alike Ar8.2.1) Ar8.2.2 (own_inb q8 rfl hneg (by rw [hnat]; exact (List.getElem?_eq_some_iff.mp hv).1)) (own_get q8 hnat hv) (g := (mkF m 52 #[.val (.ref a1), .val (.int p2), .val (.int p3), .val (.int p4), .val (.int p5), .val (.int p6), .val (.int (own_byteOf p4 p2))] [(.int p2), (.ref a1)])) rfl rfl (hb hby d12_52) _ ?_
          show Steps p.tables e below (T6.setTop (mkF m 53 #[.val (.ref a1), .val (.int p2), .val (.int p3), .val (.int p4), .val (.int p5), .val (.int p6), .val (.int (own_byteOf p4 p2))] [(.int y0)])) _
          refine XS.iload X6.here hx rfl (hb hby d12_53) rfl ?_
          show Steps p.tables e below (T6.setTop (mkF m 55 #[.val (.ref a1), .val (.int p2), .val (.int p3), .val (.int p4), .val (.int p5), .val (.int p6), .val (.int (own_byteOf p4 p2))] [(.int (own_byteOf p4 p2)), (.int y0)])) _
          refine XS.i2b X6.here hx rfl (hb hby d12_55) rfl ?_
          show Steps p.tables e below (T6.setTop (mkF m 56 #[.val (.ref a1), .val (.int p2), .val (.int p3), .val (.int p4), .val (.int p5), .val (.int p6), .val (.int (own_byteOf p4 p2))] [(.int ((own_byteOf p4 p2).toInt8.toInt32)), (.int y0)])) _
          exact kt)
      by_cases hc56_10 : y0 = ((own_byteOf p4 p2).toInt8.toInt32)
      · have go11 : ∀ t, Steps p.tables e below (T6.setTop (mkF m 64 #[.val (.ref a1), .val (.int p2), .val (.int p3), .val (.int p4), .val (.int p5), .val (.int p6), .val (.int (own_byteOf p4 p2))] [(.int (1 : Int32))])) t → Steps p.tables e below (s₁.setTop (entryFrame m #[(.ref a1), (.int p2), (.int p3), (.int p4), (.int p5), (.int p6)] 7)) t := fun t kt => go9 t (by
            refine XS.icmpNo X6.here hx rfl (hb hby d12_56) rfl (teq hc56_10).2 ?_
            show Steps p.tables e below (T6.setTop (mkF m 59 #[.val (.ref a1), .val (.int p2), .val (.int p3), .val (.int p4), .val (.int p5), .val (.int p6), .val (.int (own_byteOf p4 p2))] [])) _
            refine XS.iconst X6.here hx rfl (hb hby d12_59) ?_
            show Steps p.tables e below (T6.setTop (mkF m 60 #[.val (.ref a1), .val (.int p2), .val (.int p3), .val (.int p4), .val (.int p5), .val (.int p6), .val (.int (own_byteOf p4 p2))] [(.int (1 : Int32))])) _
            refine XS.goto X6.here hx rfl (pc0 := 60) (pc' := 64) rfl (hb hby d12_60) (by decide) (by decide) ?_
            show Steps p.tables e below (T6.setTop (mkF m 64 #[.val (.ref a1), .val (.int p2), .val (.int p3), .val (.int p4), .val (.int p5), .val (.int p6), .val (.int (own_byteOf p4 p2))] [(.int (1 : Int32))])) _
            exact kt)
        obtain ⟨fs, hr, hrun, hended, hW, hsame⟩ := X6.leave (v := some (.int (1 : Int32))) (fun h => by rw [Bd.returns] at h; cases h)
        refine ⟨_, _, go11 _ (retN X6 hx (t := .boolean) Bd.returns (by simp) (hb hby d12_64) hr), hrun, hended, _, _, rfl, ?_, ⟨_, rfl⟩, hW, hsame.mono (by decide) (by decide)⟩
        refine ⟨?_, N6, e6⟩
        show some (Value.int (1 : Int32)) = some (.int (own_at y0 p2 p3 p4 p5 p6))
        unfold own_at
        rw [if_pos hc2_2, if_pos hc27_4, if_pos hc56_10]
      · have go12 : ∀ t, Steps p.tables e below (T6.setTop (mkF m 64 #[.val (.ref a1), .val (.int p2), .val (.int p3), .val (.int p4), .val (.int p5), .val (.int p6), .val (.int (own_byteOf p4 p2))] [(.int (0 : Int32))])) t → Steps p.tables e below (s₁.setTop (entryFrame m #[(.ref a1), (.int p2), (.int p3), (.int p4), (.int p5), (.int p6)] 7)) t := fun t kt => go9 t (by
            refine XS.icmpYes X6.here hx rfl (pc0 := 56) (pc' := 63) rfl (hb hby d12_56) rfl (feq hc56_10).2 (by decide) (by decide) ?_
            show Steps p.tables e below (T6.setTop (mkF m 63 #[.val (.ref a1), .val (.int p2), .val (.int p3), .val (.int p4), .val (.int p5), .val (.int p6), .val (.int (own_byteOf p4 p2))] [])) _
            refine XS.iconst X6.here hx rfl (hb hby d12_63) ?_
            show Steps p.tables e below (T6.setTop (mkF m 64 #[.val (.ref a1), .val (.int p2), .val (.int p3), .val (.int p4), .val (.int p5), .val (.int p6), .val (.int (own_byteOf p4 p2))] [(.int (0 : Int32))])) _
            exact kt)
        obtain ⟨fs, hr, hrun, hended, hW, hsame⟩ := X6.leave (v := some (.int (0 : Int32))) (fun h => by rw [Bd.returns] at h; cases h)
        refine ⟨_, _, go12 _ (retN X6 hx (t := .boolean) Bd.returns (by simp) (hb hby d12_64) hr), hrun, hended, _, _, rfl, ?_, ⟨_, rfl⟩, hW, hsame.mono (by decide) (by decide)⟩
        refine ⟨?_, N6, e6⟩
        show some (Value.int (0 : Int32)) = some (.int (own_at y0 p2 p3 p4 p5 p6))
        unfold own_at
        rw [if_pos hc2_2, if_pos hc27_4, if_neg hc56_10]
    · have go13 : ∀ t, Steps p.tables e below (s₁.setTop (mkF m 45 #[.val (.ref a1), .val (.int p2), .val (.int p3), .val (.int p4), .val (.int p5), .val (.int p6), .unset] [(.int (p2 - (4 : Int32))), (.int p5)])) t → Steps p.tables e below (s₁.setTop (entryFrame m #[(.ref a1), (.int p2), (.int p3), (.int p4), (.int p5), (.int p6)] 7)) t := fun t kt => go3 t (by
          refine XS.icmpYes X0.here hx rfl (pc0 := 27) (pc' := 40) rfl (hb hby d12_27) rfl (flt hc27_4).2.1 (by decide) (by decide) ?_
          show Steps p.tables e below (s₁.setTop (mkF m 40 #[.val (.ref a1), .val (.int p2), .val (.int p3), .val (.int p4), .val (.int p5), .val (.int p6), .unset] [])) _
          refine XS.iload X0.here hx rfl (hb hby d12_40) rfl ?_
          show Steps p.tables e below (s₁.setTop (mkF m 42 #[.val (.ref a1), .val (.int p2), .val (.int p3), .val (.int p4), .val (.int p5), .val (.int p6), .unset] [(.int p5)])) _
          refine XS.iloadN X0.here hx rfl (hb hby d12_42) rfl ?_
          show Steps p.tables e below (s₁.setTop (mkF m 43 #[.val (.ref a1), .val (.int p2), .val (.int p3), .val (.int p4), .val (.int p5), .val (.int p6), .unset] [(.int p2), (.int p5)])) _
          refine XS.iconst X0.here hx rfl (hb hby d12_43) ?_
          show Steps p.tables e below (s₁.setTop (mkF m 44 #[.val (.ref a1), .val (.int p2), .val (.int p3), .val (.int p4), .val (.int p5), .val (.int p6), .unset] [(.int (4 : Int32)), (.int p2), (.int p5)])) _
          refine XS.isub X0.here hx rfl (hb hby d12_44) rfl ?_
          show Steps p.tables e below (s₁.setTop (mkF m 45 #[.val (.ref a1), .val (.int p2), .val (.int p3), .val (.int p4), .val (.int p5), .val (.int p6), .unset] [(.int (p2 - (4 : Int32))), (.int p5)])) _
          exact kt)
      obtain ⟨_, _, ⟨T14, L14, k14, n14⟩, -, X14, ⟨Lc14, hQ14, l14, y14, z14⟩, st14⟩ := Jvm.LawKit.callS X0 hx (y := (⟨"com/example/classweave/classweave/classfile/ClassOutputU4AtPinLaw", "byteOf", "(II)I"⟩ : MethodName)) hown (mvT hZ (hw _ (List.mem_of_getElem? (i := 72) rfl))) (mvT hZ (hw _ (List.mem_of_getElem? (i := 73) rfl))) (mvT hZ (hw _ (List.mem_of_getElem? (i := 70) rfl))) (mvT hZ (hw _ (List.mem_of_getElem? (i := 74) rfl))) (by decide) (backOf (W := 0) (rm13 l Z a0 hw [] p5 (p2 - (4 : Int32)) h0 n0) hZ (hw _ (List.mem_of_getElem? (i := 74) rfl)) (hw _ (List.mem_of_getElem? (i := 70) rfl)) (by decide) (by decide)) (g := (mkF m 45 #[.val (.ref a1), .val (.int p2), .val (.int p3), .val (.int p4), .val (.int p5), .val (.int p6), .unset] [(.int (p2 - (4 : Int32))), (.int p5)])) rfl (by rw [hml]; rfl) (argsL := [(.int p5), (.int (p2 - (4 : Int32)))]) (rest := []) (lenOf pd_2 rfl) rfl (by show 2 * 0 + _ ≤ _; exact Nat.le_of_eq rfl) (hb hby d12_45) (fun _ _ => ⟨rfl, e0, (by decide : 0 + 0 ≤ _), (by decide : 0 + 0 ≤ _)⟩)
      dsimp only [Pt.U, Pt.locs, Pt.cells, Pt.slots] at X14 l14 y14 z14 st14 hQ14
      subst l14 y14 z14
      obtain ⟨rfl, N14q, e14⟩ := hQ14
      have N14 := Fr.app N0 N14q
      have go15 : ∀ t, Steps p.tables e below (T14.setTop (mkF m 52 #[.val (.ref a1), .val (.int p2), .val (.int p3), .val (.int p4), .val (.int p5), .val (.int p6), .val (.int (own_byteOf p5 (p2 - (4 : Int32))))] [(.int p2), (.ref a1)])) t → Steps p.tables e below (s₁.setTop (entryFrame m #[(.ref a1), (.int p2), (.int p3), (.int p4), (.int p5), (.int p6)] 7)) t := fun t kt => go13 t (by
          refine st14 _ ?_
          show Steps p.tables e below (T14.setTop (mkF m 48 #[.val (.ref a1), .val (.int p2), .val (.int p3), .val (.int p4), .val (.int p5), .val (.int p6), .unset] [(.int (own_byteOf p5 (p2 - (4 : Int32))))])) _
          refine XS.istore X14.here hx rfl (hb hby d12_48) rfl (l' := #[.val (.ref a1), .val (.int p2), .val (.int p3), .val (.int p4), .val (.int p5), .val (.int p6), .val (.int (own_byteOf p5 (p2 - (4 : Int32))))]) rfl ?_
          show Steps p.tables e below (T14.setTop (mkF m 50 #[.val (.ref a1), .val (.int p2), .val (.int p3), .val (.int p4), .val (.int p5), .val (.int p6), .val (.int (own_byteOf p5 (p2 - (4 : Int32))))] [])) _
          refine XS.aloadN X14.here hx rfl (hb hby d12_50) rfl rfl ?_
          show Steps p.tables e below (T14.setTop (mkF m 51 #[.val (.ref a1), .val (.int p2), .val (.int p3), .val (.int p4), .val (.int p5), .val (.int p6), .val (.int (own_byteOf p5 (p2 - (4 : Int32))))] [(.ref a1)])) _
          refine XS.iloadN X14.here hx rfl (hb hby d12_51) rfl ?_
          show Steps p.tables e below (T14.setTop (mkF m 52 #[.val (.ref a1), .val (.int p2), .val (.int p3), .val (.int p4), .val (.int p5), .val (.int p6), .val (.int (own_byteOf p5 (p2 - (4 : Int32))))] [(.int p2), (.ref a1)])) _
          exact kt)
      obtain ⟨c16, Ar16, q16⟩ := id V0
      have go17 : ∀ t, Steps p.tables e below (T14.setTop (mkF m 56 #[.val (.ref a1), .val (.int p2), .val (.int p3), .val (.int p4), .val (.int p5), .val (.int p6), .val (.int (own_byteOf p5 (p2 - (4 : Int32))))] [(.int ((own_byteOf p5 (p2 - (4 : Int32))).toInt8.toInt32)), (.int y0)])) t → Steps p.tables e below (s₁.setTop (entryFrame m #[(.ref a1), (.int p2), (.int p3), (.int p4), (.int p5), (.int p6)] 7)) t := fun t kt => go15 t (by
          refine X14.baloadBytes hx (j := p2) (v := (.int y0)) (by rw [e14]; exact Ar16.1) (State.isArrayOf_alike hZ.alike Ar16.2.1) Ar16.2.2 (own_inb q16 rfl hneg (by rw [hnat]; exact (List.getElem?_eq_some_iff.mp hv).1)) (own_get q16 hnat hv) (g := (mkF m 52 #[.val (.ref a1), .val (.int p2), .val (.int p3), .val (.int p4), .val (.int p5), .val (.int p6), .val (.int (own_byteOf p5 (p2 - (4 : Int32))))] [(.int p2), (.ref a1)])) rfl rfl (hb hby d12_52) _ ?_
          show Steps p.tables e below (T14.setTop (mkF m 53 #[.val (.ref a1), .val (.int p2), .val (.int p3), .val (.int p4), .val (.int p5), .val (.int p6), .val (.int (own_byteOf p5 (p2 - (4 : Int32))))] [(.int y0)])) _
          refine XS.iload X14.here hx rfl (hb hby d12_53) rfl ?_
          show Steps p.tables e below (T14.setTop (mkF m 55 #[.val (.ref a1), .val (.int p2), .val (.int p3), .val (.int p4), .val (.int p5), .val (.int p6), .val (.int (own_byteOf p5 (p2 - (4 : Int32))))] [(.int (own_byteOf p5 (p2 - (4 : Int32)))), (.int y0)])) _
          refine XS.i2b X14.here hx rfl (hb hby d12_55) rfl ?_
          show Steps p.tables e below (T14.setTop (mkF m 56 #[.val (.ref a1), .val (.int p2), .val (.int p3), .val (.int p4), .val (.int p5), .val (.int p6), .val (.int (own_byteOf p5 (p2 - (4 : Int32))))] [(.int ((own_byteOf p5 (p2 - (4 : Int32))).toInt8.toInt32)), (.int y0)])) _
          exact kt)
      by_cases hc56_18 : y0 = ((own_byteOf p5 (p2 - (4 : Int32))).toInt8.toInt32)
      · have go19 : ∀ t, Steps p.tables e below (T14.setTop (mkF m 64 #[.val (.ref a1), .val (.int p2), .val (.int p3), .val (.int p4), .val (.int p5), .val (.int p6), .val (.int (own_byteOf p5 (p2 - (4 : Int32))))] [(.int (1 : Int32))])) t → Steps p.tables e below (s₁.setTop (entryFrame m #[(.ref a1), (.int p2), (.int p3), (.int p4), (.int p5), (.int p6)] 7)) t := fun t kt => go17 t (by
            refine XS.icmpNo X14.here hx rfl (hb hby d12_56) rfl (teq hc56_18).2 ?_
            show Steps p.tables e below (T14.setTop (mkF m 59 #[.val (.ref a1), .val (.int p2), .val (.int p3), .val (.int p4), .val (.int p5), .val (.int p6), .val (.int (own_byteOf p5 (p2 - (4 : Int32))))] [])) _
            refine XS.iconst X14.here hx rfl (hb hby d12_59) ?_
            show Steps p.tables e below (T14.setTop (mkF m 60 #[.val (.ref a1), .val (.int p2), .val (.int p3), .val (.int p4), .val (.int p5), .val (.int p6), .val (.int (own_byteOf p5 (p2 - (4 : Int32))))] [(.int (1 : Int32))])) _
            refine XS.goto X14.here hx rfl (pc0 := 60) (pc' := 64) rfl (hb hby d12_60) (by decide) (by decide) ?_
            show Steps p.tables e below (T14.setTop (mkF m 64 #[.val (.ref a1), .val (.int p2), .val (.int p3), .val (.int p4), .val (.int p5), .val (.int p6), .val (.int (own_byteOf p5 (p2 - (4 : Int32))))] [(.int (1 : Int32))])) _
            exact kt)
        obtain ⟨fs, hr, hrun, hended, hW, hsame⟩ := X14.leave (v := some (.int (1 : Int32))) (fun h => by rw [Bd.returns] at h; cases h)
        refine ⟨_, _, go19 _ (retN X14 hx (t := .boolean) Bd.returns (by simp) (hb hby d12_64) hr), hrun, hended, _, _, rfl, ?_, ⟨_, rfl⟩, hW, hsame.mono (by decide) (by decide)⟩
        refine ⟨?_, N14, e14⟩
        show some (Value.int (1 : Int32)) = some (.int (own_at y0 p2 p3 p4 p5 p6))
        unfold own_at
        rw [if_pos hc2_2, if_neg hc27_4, if_pos hc56_18]
      · have go20 : ∀ t, Steps p.tables e below (T14.setTop (mkF m 64 #[.val (.ref a1), .val (.int p2), .val (.int p3), .val (.int p4), .val (.int p5), .val (.int p6), .val (.int (own_byteOf p5 (p2 - (4 : Int32))))] [(.int (0 : Int32))])) t → Steps p.tables e below (s₁.setTop (entryFrame m #[(.ref a1), (.int p2), (.int p3), (.int p4), (.int p5), (.int p6)] 7)) t := fun t kt => go17 t (by
            refine XS.icmpYes X14.here hx rfl (pc0 := 56) (pc' := 63) rfl (hb hby d12_56) rfl (feq hc56_18).2 (by decide) (by decide) ?_
            show Steps p.tables e below (T14.setTop (mkF m 63 #[.val (.ref a1), .val (.int p2), .val (.int p3), .val (.int p4), .val (.int p5), .val (.int p6), .val (.int (own_byteOf p5 (p2 - (4 : Int32))))] [])) _
            refine XS.iconst X14.here hx rfl (hb hby d12_63) ?_
            show Steps p.tables e below (T14.setTop (mkF m 64 #[.val (.ref a1), .val (.int p2), .val (.int p3), .val (.int p4), .val (.int p5), .val (.int p6), .val (.int (own_byteOf p5 (p2 - (4 : Int32))))] [(.int (0 : Int32))])) _
            exact kt)
        obtain ⟨fs, hr, hrun, hended, hW, hsame⟩ := X14.leave (v := some (.int (0 : Int32))) (fun h => by rw [Bd.returns] at h; cases h)
        refine ⟨_, _, go20 _ (retN X14 hx (t := .boolean) Bd.returns (by simp) (hb hby d12_64) hr), hrun, hended, _, _, rfl, ?_, ⟨_, rfl⟩, hW, hsame.mono (by decide) (by decide)⟩
        refine ⟨?_, N14, e14⟩
        show some (Value.int (0 : Int32)) = some (.int (own_at y0 p2 p3 p4 p5 p6))
        unfold own_at
        rw [if_pos hc2_2, if_neg hc27_4, if_neg hc56_18]
  · have go21 : ∀ t, Steps p.tables e below (s₁.setTop (mkF m 9 #[.val (.ref a1), .val (.int p2), .val (.int p3), .val (.int p4), .val (.int p5), .val (.int p6), .unset] [(.int (p3 + (4 : Int32))), (.int p2)])) t → Steps p.tables e below (s₁.setTop (entryFrame m #[(.ref a1), (.int p2), (.int p3), (.int p4), (.int p5), (.int p6)] 7)) t := fun t kt => go1 t (by
        refine XS.icmpNo X0.here hx rfl (hb hby d12_2) rfl (flt hc2_2).1 ?_
        show Steps p.tables e below (s₁.setTop (mkF m 5 #[.val (.ref a1), .val (.int p2), .val (.int p3), .val (.int p4), .val (.int p5), .val (.int p6), .unset] [])) _
        refine XS.iloadN X0.here hx rfl (hb hby d12_5) rfl ?_
        show Steps p.tables e below (s₁.setTop (mkF m 6 #[.val (.ref a1), .val (.int p2), .val (.int p3), .val (.int p4), .val (.int p5), .val (.int p6), .unset] [(.int p2)])) _
        refine XS.iloadN X0.here hx rfl (hb hby d12_6) rfl ?_
        show Steps p.tables e below (s₁.setTop (mkF m 7 #[.val (.ref a1), .val (.int p2), .val (.int p3), .val (.int p4), .val (.int p5), .val (.int p6), .unset] [(.int p3), (.int p2)])) _
        refine XS.iconst X0.here hx rfl (hb hby d12_7) ?_
        show Steps p.tables e below (s₁.setTop (mkF m 8 #[.val (.ref a1), .val (.int p2), .val (.int p3), .val (.int p4), .val (.int p5), .val (.int p6), .unset] [(.int (4 : Int32)), (.int p3), (.int p2)])) _
        refine XS.iadd X0.here hx rfl (hb hby d12_8) rfl ?_
        show Steps p.tables e below (s₁.setTop (mkF m 9 #[.val (.ref a1), .val (.int p2), .val (.int p3), .val (.int p4), .val (.int p5), .val (.int p6), .unset] [(.int (p3 + (4 : Int32))), (.int p2)])) _
        exact kt)
    by_cases hc9_22 : p2 < (p3 + (4 : Int32))
    · have go23 : ∀ t, Steps p.tables e below (s₁.setTop (mkF m 17 #[.val (.ref a1), .val (.int p2), .val (.int p3), .val (.int p4), .val (.int p5), .val (.int p6), .unset] [(.int (p2 - p3)), (.int p6)])) t → Steps p.tables e below (s₁.setTop (entryFrame m #[(.ref a1), (.int p2), (.int p3), (.int p4), (.int p5), (.int p6)] 7)) t := fun t kt => go21 t (by
          refine XS.icmpNo X0.here hx rfl (hb hby d12_9) rfl (tlt hc9_22).2.1 ?_
          show Steps p.tables e below (s₁.setTop (mkF m 12 #[.val (.ref a1), .val (.int p2), .val (.int p3), .val (.int p4), .val (.int p5), .val (.int p6), .unset] [])) _
          refine XS.iload X0.here hx rfl (hb hby d12_12) rfl ?_
          show Steps p.tables e below (s₁.setTop (mkF m 14 #[.val (.ref a1), .val (.int p2), .val (.int p3), .val (.int p4), .val (.int p5), .val (.int p6), .unset] [(.int p6)])) _
          refine XS.iloadN X0.here hx rfl (hb hby d12_14) rfl ?_
          show Steps p.tables e below (s₁.setTop (mkF m 15 #[.val (.ref a1), .val (.int p2), .val (.int p3), .val (.int p4), .val (.int p5), .val (.int p6), .unset] [(.int p2), (.int p6)])) _
          refine XS.iloadN X0.here hx rfl (hb hby d12_15) rfl ?_
          show Steps p.tables e below (s₁.setTop (mkF m 16 #[.val (.ref a1), .val (.int p2), .val (.int p3), .val (.int p4), .val (.int p5), .val (.int p6), .unset] [(.int p3), (.int p2), (.int p6)])) _
          refine XS.isub X0.here hx rfl (hb hby d12_16) rfl ?_
          show Steps p.tables e below (s₁.setTop (mkF m 17 #[.val (.ref a1), .val (.int p2), .val (.int p3), .val (.int p4), .val (.int p5), .val (.int p6), .unset] [(.int (p2 - p3)), (.int p6)])) _
          exact kt)
      obtain ⟨_, _, ⟨T24, L24, k24, n24⟩, -, X24, ⟨Lc24, hQ24, l24, y24, z24⟩, st24⟩ := Jvm.LawKit.callS X0 hx (y := (⟨"com/example/classweave/classweave/classfile/ClassOutputU4AtPinLaw", "byteOf", "(II)I"⟩ : MethodName)) hown (mvT hZ (hw _ (List.mem_of_getElem? (i := 72) rfl))) (mvT hZ (hw _ (List.mem_of_getElem? (i := 73) rfl))) (mvT hZ (hw _ (List.mem_of_getElem? (i := 70) rfl))) (mvT hZ (hw _ (List.mem_of_getElem? (i := 74) rfl))) (by decide) (backOf (W := 0) (rm13 l Z a0 hw [] p6 (p2 - p3) h0 n0) hZ (hw _ (List.mem_of_getElem? (i := 74) rfl)) (hw _ (List.mem_of_getElem? (i := 70) rfl)) (by decide) (by decide)) (g := (mkF m 17 #[.val (.ref a1), .val (.int p2), .val (.int p3), .val (.int p4), .val (.int p5), .val (.int p6), .unset] [(.int (p2 - p3)), (.int p6)])) rfl (by rw [hml]; rfl) (argsL := [(.int p6), (.int (p2 - p3))]) (rest := []) (lenOf pd_2 rfl) rfl (by show 2 * 0 + _ ≤ _; exact Nat.le_of_eq rfl) (hb hby d12_17) (fun _ _ => ⟨rfl, e0, (by decide : 0 + 0 ≤ _), (by decide : 0 + 0 ≤ _)⟩)
      dsimp only [Pt.U, Pt.locs, Pt.cells, Pt.slots] at X24 l24 y24 z24 st24 hQ24
      subst l24 y24 z24
      obtain ⟨rfl, N24q, e24⟩ := hQ24
      have N24 := Fr.app N0 N24q
      have go25 : ∀ t, Steps p.tables e below (T24.setTop (mkF m 52 #[.val (.ref a1), .val (.int p2), .val (.int p3), .val (.int p4), .val (.int p5), .val (.int p6), .val (.int (own_byteOf p6 (p2 - p3)))] [(.int p2), (.ref a1)])) t → Steps p.tables e below (s₁.setTop (entryFrame m #[(.ref a1), (.int p2), (.int p3), (.int p4), (.int p5), (.int p6)] 7)) t := fun t kt => go23 t (by
          refine st24 _ ?_
          show Steps p.tables e below (T24.setTop (mkF m 20 #[.val (.ref a1), .val (.int p2), .val (.int p3), .val (.int p4), .val (.int p5), .val (.int p6), .unset] [(.int (own_byteOf p6 (p2 - p3)))])) _
          refine XS.istore X24.here hx rfl (hb hby d12_20) rfl (l' := #[.val (.ref a1), .val (.int p2), .val (.int p3), .val (.int p4), .val (.int p5), .val (.int p6), .val (.int (own_byteOf p6 (p2 - p3)))]) rfl ?_
          show Steps p.tables e below (T24.setTop (mkF m 22 #[.val (.ref a1), .val (.int p2), .val (.int p3), .val (.int p4), .val (.int p5), .val (.int p6), .val (.int (own_byteOf p6 (p2 - p3)))] [])) _
          refine XS.goto X24.here hx rfl (pc0 := 22) (pc' := 50) rfl (hb hby d12_22) (by decide) (by decide) ?_
          show Steps p.tables e below (T24.setTop (mkF m 50 #[.val (.ref a1), .val (.int p2), .val (.int p3), .val (.int p4), .val (.int p5), .val (.int p6), .val (.int (own_byteOf p6 (p2 - p3)))] [])) _
          refine XS.aloadN X24.here hx rfl (hb hby d12_50) rfl rfl ?_
          show Steps p.tables e below (T24.setTop (mkF m 51 #[.val (.ref a1), .val (.int p2), .val (.int p3), .val (.int p4), .val (.int p5), .val (.int p6), .val (.int (own_byteOf p6 (p2 - p3)))] [(.ref a1)])) _
          refine XS.iloadN X24.here hx rfl (hb hby d12_51) rfl ?_
          show Steps p.tables e below (T24.setTop (mkF m 52 #[.val (.ref a1), .val (.int p2), .val (.int p3), .val (.int p4), .val (.int p5), .val (.int p6), .val (.int (own_byteOf p6 (p2 - p3)))] [(.int p2), (.ref a1)])) _
          exact kt)
      obtain ⟨c26, Ar26, q26⟩ := id V0
      have go27 : ∀ t, Steps p.tables e below (T24.setTop (mkF m 56 #[.val (.ref a1), .val (.int p2), .val (.int p3), .val (.int p4), .val (.int p5), .val (.int p6), .val (.int (own_byteOf p6 (p2 - p3)))] [(.int ((own_byteOf p6 (p2 - p3)).toInt8.toInt32)), (.int y0)])) t → Steps p.tables e below (s₁.setTop (entryFrame m #[(.ref a1), (.int p2), (.int p3), (.int p4), (.int p5), (.int p6)] 7)) t := fun t kt => go25 t (by
          refine X24.baloadBytes hx (j := p2) (v := (.int y0)) (by rw [e24]; exact Ar26.1) (State.isArrayOf_alike hZ.alike Ar26.2.1) Ar26.2.2 (own_inb q26 rfl hneg (by rw [hnat]; exact (List.getElem?_eq_some_iff.mp hv).1)) (own_get q26 hnat hv) (g := (mkF m 52 #[.val (.ref a1), .val (.int p2), .val (.int p3), .val (.int p4), .val (.int p5), .val (.int p6), .val (.int (own_byteOf p6 (p2 - p3)))] [(.int p2), (.ref a1)])) rfl rfl (hb hby d12_52) _ ?_
          show Steps p.tables e below (T24.setTop (mkF m 53 #[.val (.ref a1), .val (.int p2), .val (.int p3), .val (.int p4), .val (.int p5), .val (.int p6), .val (.int (own_byteOf p6 (p2 - p3)))] [(.int y0)])) _
          refine XS.iload X24.here hx rfl (hb hby d12_53) rfl ?_
          show Steps p.tables e below (T24.setTop (mkF m 55 #[.val (.ref a1), .val (.int p2), .val (.int p3), .val (.int p4), .val (.int p5), .val (.int p6), .val (.int (own_byteOf p6 (p2 - p3)))] [(.int (own_byteOf p6 (p2 - p3))), (.int y0)])) _
          refine XS.i2b X24.here hx rfl (hb hby d12_55) rfl ?_
          show Steps p.tables e below (T24.setTop (mkF m 56 #[.val (.ref a1), .val (.int p2), .val (.int p3), .val (.int p4), .val (.int p5), .val (.int p6), .val (.int (own_byteOf p6 (p2 - p3)))] [(.int ((own_byteOf p6 (p2 - p3)).toInt8.toInt32)), (.int y0)])) _
          exact kt)
      by_cases hc56_28 : y0 = ((own_byteOf p6 (p2 - p3)).toInt8.toInt32)
      · have go29 : ∀ t, Steps p.tables e below (T24.setTop (mkF m 64 #[.val (.ref a1), .val (.int p2), .val (.int p3), .val (.int p4), .val (.int p5), .val (.int p6), .val (.int (own_byteOf p6 (p2 - p3)))] [(.int (1 : Int32))])) t → Steps p.tables e below (s₁.setTop (entryFrame m #[(.ref a1), (.int p2), (.int p3), (.int p4), (.int p5), (.int p6)] 7)) t := fun t kt => go27 t (by
            refine XS.icmpNo X24.here hx rfl (hb hby d12_56) rfl (teq hc56_28).2 ?_
            show Steps p.tables e below (T24.setTop (mkF m 59 #[.val (.ref a1), .val (.int p2), .val (.int p3), .val (.int p4), .val (.int p5), .val (.int p6), .val (.int (own_byteOf p6 (p2 - p3)))] [])) _
            refine XS.iconst X24.here hx rfl (hb hby d12_59) ?_
            show Steps p.tables e below (T24.setTop (mkF m 60 #[.val (.ref a1), .val (.int p2), .val (.int p3), .val (.int p4), .val (.int p5), .val (.int p6), .val (.int (own_byteOf p6 (p2 - p3)))] [(.int (1 : Int32))])) _
            refine XS.goto X24.here hx rfl (pc0 := 60) (pc' := 64) rfl (hb hby d12_60) (by decide) (by decide) ?_
            show Steps p.tables e below (T24.setTop (mkF m 64 #[.val (.ref a1), .val (.int p2), .val (.int p3), .val (.int p4), .val (.int p5), .val (.int p6), .val (.int (own_byteOf p6 (p2 - p3)))] [(.int (1 : Int32))])) _
            exact kt)
        obtain ⟨fs, hr, hrun, hended, hW, hsame⟩ := X24.leave (v := some (.int (1 : Int32))) (fun h => by rw [Bd.returns] at h; cases h)
        refine ⟨_, _, go29 _ (retN X24 hx (t := .boolean) Bd.returns (by simp) (hb hby d12_64) hr), hrun, hended, _, _, rfl, ?_, ⟨_, rfl⟩, hW, hsame.mono (by decide) (by decide)⟩
        refine ⟨?_, N24, e24⟩
        show some (Value.int (1 : Int32)) = some (.int (own_at y0 p2 p3 p4 p5 p6))
        unfold own_at
        rw [if_neg hc2_2, if_pos hc9_22, if_pos hc56_28]
      · have go30 : ∀ t, Steps p.tables e below (T24.setTop (mkF m 64 #[.val (.ref a1), .val (.int p2), .val (.int p3), .val (.int p4), .val (.int p5), .val (.int p6), .val (.int (own_byteOf p6 (p2 - p3)))] [(.int (0 : Int32))])) t → Steps p.tables e below (s₁.setTop (entryFrame m #[(.ref a1), (.int p2), (.int p3), (.int p4), (.int p5), (.int p6)] 7)) t := fun t kt => go27 t (by
            refine XS.icmpYes X24.here hx rfl (pc0 := 56) (pc' := 63) rfl (hb hby d12_56) rfl (feq hc56_28).2 (by decide) (by decide) ?_
            show Steps p.tables e below (T24.setTop (mkF m 63 #[.val (.ref a1), .val (.int p2), .val (.int p3), .val (.int p4), .val (.int p5), .val (.int p6), .val (.int (own_byteOf p6 (p2 - p3)))] [])) _
            refine XS.iconst X24.here hx rfl (hb hby d12_63) ?_
            show Steps p.tables e below (T24.setTop (mkF m 64 #[.val (.ref a1), .val (.int p2), .val (.int p3), .val (.int p4), .val (.int p5), .val (.int p6), .val (.int (own_byteOf p6 (p2 - p3)))] [(.int (0 : Int32))])) _
            exact kt)
        obtain ⟨fs, hr, hrun, hended, hW, hsame⟩ := X24.leave (v := some (.int (0 : Int32))) (fun h => by rw [Bd.returns] at h; cases h)
        refine ⟨_, _, go30 _ (retN X24 hx (t := .boolean) Bd.returns (by simp) (hb hby d12_64) hr), hrun, hended, _, _, rfl, ?_, ⟨_, rfl⟩, hW, hsame.mono (by decide) (by decide)⟩
        refine ⟨?_, N24, e24⟩
        show some (Value.int (0 : Int32)) = some (.int (own_at y0 p2 p3 p4 p5 p6))
        unfold own_at
        rw [if_neg hc2_2, if_pos hc9_22, if_neg hc56_28]
    · have go31 : ∀ t, Steps p.tables e below (s₁.setTop (mkF m 27 #[.val (.ref a1), .val (.int p2), .val (.int p3), .val (.int p4), .val (.int p5), .val (.int p6), .unset] [(.int (4 : Int32)), (.int p2)])) t → Steps p.tables e below (s₁.setTop (entryFrame m #[(.ref a1), (.int p2), (.int p3), (.int p4), (.int p5), (.int p6)] 7)) t := fun t kt => go21 t (by
          refine XS.icmpYes X0.here hx rfl (pc0 := 9) (pc' := 25) rfl (hb hby d12_9) rfl (flt hc9_22).2.1 (by decide) (by decide) ?_
          show Steps p.tables e below (s₁.setTop (mkF m 25 #[.val (.ref a1), .val (.int p2), .val (.int p3), .val (.int p4), .val (.int p5), .val (.int p6), .unset] [])) _
          refine XS.iloadN X0.here hx rfl (hb hby d12_25) rfl ?_
          show Steps p.tables e below (s₁.setTop (mkF m 26 #[.val (.ref a1), .val (.int p2), .val (.int p3), .val (.int p4), .val (.int p5), .val (.int p6), .unset] [(.int p2)])) _
          refine XS.iconst X0.here hx rfl (hb hby d12_26) ?_
          show Steps p.tables e below (s₁.setTop (mkF m 27 #[.val (.ref a1), .val (.int p2), .val (.int p3), .val (.int p4), .val (.int p5), .val (.int p6), .unset] [(.int (4 : Int32)), (.int p2)])) _
          exact kt)
      by_cases hc27_32 : p2 < (4 : Int32)
      · have go33 : ∀ t, Steps p.tables e below (s₁.setTop (mkF m 32 #[.val (.ref a1), .val (.int p2), .val (.int p3), .val (.int p4), .val (.int p5), .val (.int p6), .unset] [(.int p2), (.int p4)])) t → Steps p.tables e below (s₁.setTop (entryFrame m #[(.ref a1), (.int p2), (.int p3), (.int p4), (.int p5), (.int p6)] 7)) t := fun t kt => go31 t (by
            refine XS.icmpNo X0.here hx rfl (hb hby d12_27) rfl (tlt hc27_32).2.1 ?_
            show Steps p.tables e below (s₁.setTop (mkF m 30 #[.val (.ref a1), .val (.int p2), .val (.int p3), .val (.int p4), .val (.int p5), .val (.int p6), .unset] [])) _
            refine XS.iloadN X0.here hx rfl (hb hby d12_30) rfl ?_
            show Steps p.tables e below (s₁.setTop (mkF m 31 #[.val (.ref a1), .val (.int p2), .val (.int p3), .val (.int p4), .val (.int p5), .val (.int p6), .unset] [(.int p4)])) _
            refine XS.iloadN X0.here hx rfl (hb hby d12_31) rfl ?_
            show Steps p.tables e below (s₁.setTop (mkF m 32 #[.val (.ref a1), .val (.int p2), .val (.int p3), .val (.int p4), .val (.int p5), .val (.int p6), .unset] [(.int p2), (.int p4)])) _
            exact kt)
        obtain ⟨_, _, ⟨T34, L34, k34, n34⟩, -, X34, ⟨Lc34, hQ34, l34, y34, z34⟩, st34⟩ := Jvm.LawKit.callS X0 hx (y := (⟨"com/example/classweave/classweave/classfile/ClassOutputU4AtPinLaw", "byteOf", "(II)I"⟩ : MethodName)) hown (mvT hZ (hw _ (List.mem_of_getElem? (i := 72) rfl))) (mvT hZ (hw _ (List.mem_of_getElem? (i := 73) rfl))) (mvT hZ (hw _ (List.mem_of_getElem? (i := 70) rfl))) (mvT hZ (hw _ (List.mem_of_getElem? (i := 74) rfl))) (by decide) (backOf (W := 0) (rm13 l Z a0 hw [] p4 p2 h0 n0) hZ (hw _ (List.mem_of_getElem? (i := 74) rfl)) (hw _ (List.mem_of_getElem? (i := 70) rfl)) (by decide) (by decide)) (g := (mkF m 32 #[.val (.ref a1), .val (.int p2), .val (.int p3), .val (.int p4), .val (.int p5), .val (.int p6), .unset] [(.int p2), (.int p4)])) rfl (by rw [hml]; rfl) (argsL := [(.int p4), (.int p2)]) (rest := []) (lenOf pd_2 rfl) rfl (by show 2 * 0 + _ ≤ _; exact Nat.le_of_eq rfl) (hb hby d12_32) (fun _ _ => ⟨rfl, e0, (by decide : 0 + 0 ≤ _), (by decide : 0 + 0 ≤ _)⟩)
        dsimp only [Pt.U, Pt.locs, Pt.cells, Pt.slots] at X34 l34 y34 z34 st34 hQ34
        subst l34 y34 z34
        obtain ⟨rfl, N34q, e34⟩ := hQ34
        have N34 := Fr.app N0 N34q
        have go35 : ∀ t, Steps p.tables e below (T34.setTop (mkF m 52 #[.val (.ref a1), .val (.int p2), .val (.int p3), .val (.int p4), .val (.int p5), .val (.int p6), .val (.int (own_byteOf p4 p2))] [(.int p2), (.ref a1)])) t → Steps p.tables e below (s₁.setTop (entryFrame m #[(.ref a1), (.int p2), (.int p3), (.int p4), (.int p5), (.int p6)] 7)) t := fun t kt => go33 t (by
            refine st34 _ ?_
            show Steps p.tables e below (T34.setTop (mkF m 35 #[.val (.ref a1), .val (.int p2), .val (.int p3), .val (.int p4), .val (.int p5), .val (.int p6), .unset] [(.int (own_byteOf p4 p2))])) _
            refine XS.istore X34.here hx rfl (hb hby d12_35) rfl (l' := #[.val (.ref a1), .val (.int p2), .val (.int p3), .val (.int p4), .val (.int p5), .val (.int p6), .val (.int (own_byteOf p4 p2))]) rfl ?_
            show Steps p.tables e below (T34.setTop (mkF m 37 #[.val (.ref a1), .val (.int p2), .val (.int p3), .val (.int p4), .val (.int p5), .val (.int p6), .val (.int (own_byteOf p4 p2))] [])) _
            refine XS.goto X34.here hx rfl (pc0 := 37) (pc' := 50) rfl (hb hby d12_37) (by decide) (by decide) ?_
            show Steps p.tables e below (T34.setTop (mkF m 50 #[.val (.ref a1), .val (.int p2), .val (.int p3), .val (.int p4), .val (.int p5), .val (.int p6), .val (.int (own_byteOf p4 p2))] [])) _
            refine XS.aloadN X34.here hx rfl (hb hby d12_50) rfl rfl ?_
            show Steps p.tables e below (T34.setTop (mkF m 51 #[.val (.ref a1), .val (.int p2), .val (.int p3), .val (.int p4), .val (.int p5), .val (.int p6), .val (.int (own_byteOf p4 p2))] [(.ref a1)])) _
            refine XS.iloadN X34.here hx rfl (hb hby d12_51) rfl ?_
            show Steps p.tables e below (T34.setTop (mkF m 52 #[.val (.ref a1), .val (.int p2), .val (.int p3), .val (.int p4), .val (.int p5), .val (.int p6), .val (.int (own_byteOf p4 p2))] [(.int p2), (.ref a1)])) _
            exact kt)
        obtain ⟨c36, Ar36, q36⟩ := id V0
        have go37 : ∀ t, Steps p.tables e below (T34.setTop (mkF m 56 #[.val (.ref a1), .val (.int p2), .val (.int p3), .val (.int p4), .val (.int p5), .val (.int p6), .val (.int (own_byteOf p4 p2))] [(.int ((own_byteOf p4 p2).toInt8.toInt32)), (.int y0)])) t → Steps p.tables e below (s₁.setTop (entryFrame m #[(.ref a1), (.int p2), (.int p3), (.int p4), (.int p5), (.int p6)] 7)) t := fun t kt => go35 t (by
            refine X34.baloadBytes hx (j := p2) (v := (.int y0)) (by rw [e34]; exact Ar36.1) (State.isArrayOf_alike hZ.alike Ar36.2.1) Ar36.2.2 (own_inb q36 rfl hneg (by rw [hnat]; exact (List.getElem?_eq_some_iff.mp hv).1)) (own_get q36 hnat hv) (g := (mkF m 52 #[.val (.ref a1), .val (.int p2), .val (.int p3), .val (.int p4), .val (.int p5), .val (.int p6), .val (.int (own_byteOf p4 p2))] [(.int p2), (.ref a1)])) rfl rfl (hb hby d12_52) _ ?_
            show Steps p.tables e below (T34.setTop (mkF m 53 #[.val (.ref a1), .val (.int p2), .val (.int p3), .val (.int p4), .val (.int p5), .val (.int p6), .val (.int (own_byteOf p4 p2))] [(.int y0)])) _
            refine XS.iload X34.here hx rfl (hb hby d12_53) rfl ?_
            show Steps p.tables e below (T34.setTop (mkF m 55 #[.val (.ref a1), .val (.int p2), .val (.int p3), .val (.int p4), .val (.int p5), .val (.int p6), .val (.int (own_byteOf p4 p2))] [(.int (own_byteOf p4 p2)), (.int y0)])) _
            refine XS.i2b X34.here hx rfl (hb hby d12_55) rfl ?_
            show Steps p.tables e below (T34.setTop (mkF m 56 #[.val (.ref a1), .val (.int p2), .val (.int p3), .val (.int p4), .val (.int p5), .val (.int p6), .val (.int (own_byteOf p4 p2))] [(.int ((own_byteOf p4 p2).toInt8.toInt32)), (.int y0)])) _
            exact kt)
        by_cases hc56_38 : y0 = ((own_byteOf p4 p2).toInt8.toInt32)
        · have go39 : ∀ t, Steps p.tables e below (T34.setTop (mkF m 64 #[.val (.ref a1), .val (.int p2), .val (.int p3), .val (.int p4), .val (.int p5), .val (.int p6), .val (.int (own_byteOf p4 p2))] [(.int (1 : Int32))])) t → Steps p.tables e below (s₁.setTop (entryFrame m #[(.ref a1), (.int p2), (.int p3), (.int p4), (.int p5), (.int p6)] 7)) t := fun t kt => go37 t (by
              refine XS.icmpNo X34.here hx rfl (hb hby d12_56) rfl (teq hc56_38).2 ?_
              show Steps p.tables e below (T34.setTop (mkF m 59 #[.val (.ref a1), .val (.int p2), .val (.int p3), .val (.int p4), .val (.int p5), .val (.int p6), .val (.int (own_byteOf p4 p2))] [])) _
              refine XS.iconst X34.here hx rfl (hb hby d12_59) ?_
              show Steps p.tables e below (T34.setTop (mkF m 60 #[.val (.ref a1), .val (.int p2), .val (.int p3), .val (.int p4), .val (.int p5), .val (.int p6), .val (.int (own_byteOf p4 p2))] [(.int (1 : Int32))])) _
              refine XS.goto X34.here hx rfl (pc0 := 60) (pc' := 64) rfl (hb hby d12_60) (by decide) (by decide) ?_
              show Steps p.tables e below (T34.setTop (mkF m 64 #[.val (.ref a1), .val (.int p2), .val (.int p3), .val (.int p4), .val (.int p5), .val (.int p6), .val (.int (own_byteOf p4 p2))] [(.int (1 : Int32))])) _
              exact kt)
          obtain ⟨fs, hr, hrun, hended, hW, hsame⟩ := X34.leave (v := some (.int (1 : Int32))) (fun h => by rw [Bd.returns] at h; cases h)
          refine ⟨_, _, go39 _ (retN X34 hx (t := .boolean) Bd.returns (by simp) (hb hby d12_64) hr), hrun, hended, _, _, rfl, ?_, ⟨_, rfl⟩, hW, hsame.mono (by decide) (by decide)⟩
          refine ⟨?_, N34, e34⟩
          show some (Value.int (1 : Int32)) = some (.int (own_at y0 p2 p3 p4 p5 p6))
          unfold own_at
          rw [if_neg hc2_2, if_neg hc9_22, if_pos hc27_32, if_pos hc56_38]
        · have go40 : ∀ t, Steps p.tables e below (T34.setTop (mkF m 64 #[.val (.ref a1), .val (.int p2), .val (.int p3), .val (.int p4), .val (.int p5), .val (.int p6), .val (.int (own_byteOf p4 p2))] [(.int (0 : Int32))])) t → Steps p.tables e below (s₁.setTop (entryFrame m #[(.ref a1), (.int p2), (.int p3), (.int p4), (.int p5), (.int p6)] 7)) t := fun t kt => go37 t (by
              refine XS.icmpYes X34.here hx rfl (pc0 := 56) (pc' := 63) rfl (hb hby d12_56) rfl (feq hc56_38).2 (by decide) (by decide) ?_
              show Steps p.tables e below (T34.setTop (mkF m 63 #[.val (.ref a1), .val (.int p2), .val (.int p3), .val (.int p4), .val (.int p5), .val (.int p6), .val (.int (own_byteOf p4 p2))] [])) _
              refine XS.iconst X34.here hx rfl (hb hby d12_63) ?_
              show Steps p.tables e below (T34.setTop (mkF m 64 #[.val (.ref a1), .val (.int p2), .val (.int p3), .val (.int p4), .val (.int p5), .val (.int p6), .val (.int (own_byteOf p4 p2))] [(.int (0 : Int32))])) _
              exact kt)
          obtain ⟨fs, hr, hrun, hended, hW, hsame⟩ := X34.leave (v := some (.int (0 : Int32))) (fun h => by rw [Bd.returns] at h; cases h)
          refine ⟨_, _, go40 _ (retN X34 hx (t := .boolean) Bd.returns (by simp) (hb hby d12_64) hr), hrun, hended, _, _, rfl, ?_, ⟨_, rfl⟩, hW, hsame.mono (by decide) (by decide)⟩
          refine ⟨?_, N34, e34⟩
          show some (Value.int (0 : Int32)) = some (.int (own_at y0 p2 p3 p4 p5 p6))
          unfold own_at
          rw [if_neg hc2_2, if_neg hc9_22, if_pos hc27_32, if_neg hc56_38]
      · have go41 : ∀ t, Steps p.tables e below (s₁.setTop (mkF m 45 #[.val (.ref a1), .val (.int p2), .val (.int p3), .val (.int p4), .val (.int p5), .val (.int p6), .unset] [(.int (p2 - (4 : Int32))), (.int p5)])) t → Steps p.tables e below (s₁.setTop (entryFrame m #[(.ref a1), (.int p2), (.int p3), (.int p4), (.int p5), (.int p6)] 7)) t := fun t kt => go31 t (by
            refine XS.icmpYes X0.here hx rfl (pc0 := 27) (pc' := 40) rfl (hb hby d12_27) rfl (flt hc27_32).2.1 (by decide) (by decide) ?_
            show Steps p.tables e below (s₁.setTop (mkF m 40 #[.val (.ref a1), .val (.int p2), .val (.int p3), .val (.int p4), .val (.int p5), .val (.int p6), .unset] [])) _
            refine XS.iload X0.here hx rfl (hb hby d12_40) rfl ?_
            show Steps p.tables e below (s₁.setTop (mkF m 42 #[.val (.ref a1), .val (.int p2), .val (.int p3), .val (.int p4), .val (.int p5), .val (.int p6), .unset] [(.int p5)])) _
            refine XS.iloadN X0.here hx rfl (hb hby d12_42) rfl ?_
            show Steps p.tables e below (s₁.setTop (mkF m 43 #[.val (.ref a1), .val (.int p2), .val (.int p3), .val (.int p4), .val (.int p5), .val (.int p6), .unset] [(.int p2), (.int p5)])) _
            refine XS.iconst X0.here hx rfl (hb hby d12_43) ?_
            show Steps p.tables e below (s₁.setTop (mkF m 44 #[.val (.ref a1), .val (.int p2), .val (.int p3), .val (.int p4), .val (.int p5), .val (.int p6), .unset] [(.int (4 : Int32)), (.int p2), (.int p5)])) _
            refine XS.isub X0.here hx rfl (hb hby d12_44) rfl ?_
            show Steps p.tables e below (s₁.setTop (mkF m 45 #[.val (.ref a1), .val (.int p2), .val (.int p3), .val (.int p4), .val (.int p5), .val (.int p6), .unset] [(.int (p2 - (4 : Int32))), (.int p5)])) _
            exact kt)
        obtain ⟨_, _, ⟨T42, L42, k42, n42⟩, -, X42, ⟨Lc42, hQ42, l42, y42, z42⟩, st42⟩ := Jvm.LawKit.callS X0 hx (y := (⟨"com/example/classweave/classweave/classfile/ClassOutputU4AtPinLaw", "byteOf", "(II)I"⟩ : MethodName)) hown (mvT hZ (hw _ (List.mem_of_getElem? (i := 72) rfl))) (mvT hZ (hw _ (List.mem_of_getElem? (i := 73) rfl))) (mvT hZ (hw _ (List.mem_of_getElem? (i := 70) rfl))) (mvT hZ (hw _ (List.mem_of_getElem? (i := 74) rfl))) (by decide) (backOf (W := 0) (rm13 l Z a0 hw [] p5 (p2 - (4 : Int32)) h0 n0) hZ (hw _ (List.mem_of_getElem? (i := 74) rfl)) (hw _ (List.mem_of_getElem? (i := 70) rfl)) (by decide) (by decide)) (g := (mkF m 45 #[.val (.ref a1), .val (.int p2), .val (.int p3), .val (.int p4), .val (.int p5), .val (.int p6), .unset] [(.int (p2 - (4 : Int32))), (.int p5)])) rfl (by rw [hml]; rfl) (argsL := [(.int p5), (.int (p2 - (4 : Int32)))]) (rest := []) (lenOf pd_2 rfl) rfl (by show 2 * 0 + _ ≤ _; exact Nat.le_of_eq rfl) (hb hby d12_45) (fun _ _ => ⟨rfl, e0, (by decide : 0 + 0 ≤ _), (by decide : 0 + 0 ≤ _)⟩)
        dsimp only [Pt.U, Pt.locs, Pt.cells, Pt.slots] at X42 l42 y42 z42 st42 hQ42
        subst l42 y42 z42
        obtain ⟨rfl, N42q, e42⟩ := hQ42
        have N42 := Fr.app N0 N42q
        have go43 : ∀ t, Steps p.tables e below (T42.setTop (mkF m 52 #[.val (.ref a1), .val (.int p2), .val (.int p3), .val (.int p4), .val (.int p5), .val (.int p6), .val (.int (own_byteOf p5 (p2 - (4 : Int32))))] [(.int p2), (.ref a1)])) t → Steps p.tables e below (s₁.setTop (entryFrame m #[(.ref a1), (.int p2), (.int p3), (.int p4), (.int p5), (.int p6)] 7)) t := fun t kt => go41 t (by
            refine st42 _ ?_
            show Steps p.tables e below (T42.setTop (mkF m 48 #[.val (.ref a1), .val (.int p2), .val (.int p3), .val (.int p4), .val (.int p5), .val (.int p6), .unset] [(.int (own_byteOf p5 (p2 - (4 : Int32))))])) _
            refine XS.istore X42.here hx rfl (hb hby d12_48) rfl (l' := #[.val (.ref a1), .val (.int p2), .val (.int p3), .val (.int p4), .val (.int p5), .val (.int p6), .val (.int (own_byteOf p5 (p2 - (4 : Int32))))]) rfl ?_
            show Steps p.tables e below (T42.setTop (mkF m 50 #[.val (.ref a1), .val (.int p2), .val (.int p3), .val (.int p4), .val (.int p5), .val (.int p6), .val (.int (own_byteOf p5 (p2 - (4 : Int32))))] [])) _
            refine XS.aloadN X42.here hx rfl (hb hby d12_50) rfl rfl ?_
            show Steps p.tables e below (T42.setTop (mkF m 51 #[.val (.ref a1), .val (.int p2), .val (.int p3), .val (.int p4), .val (.int p5), .val (.int p6), .val (.int (own_byteOf p5 (p2 - (4 : Int32))))] [(.ref a1)])) _
            refine XS.iloadN X42.here hx rfl (hb hby d12_51) rfl ?_
            show Steps p.tables e below (T42.setTop (mkF m 52 #[.val (.ref a1), .val (.int p2), .val (.int p3), .val (.int p4), .val (.int p5), .val (.int p6), .val (.int (own_byteOf p5 (p2 - (4 : Int32))))] [(.int p2), (.ref a1)])) _
            exact kt)
        obtain ⟨c44, Ar44, q44⟩ := id V0
        have go45 : ∀ t, Steps p.tables e below (T42.setTop (mkF m 56 #[.val (.ref a1), .val (.int p2), .val (.int p3), .val (.int p4), .val (.int p5), .val (.int p6), .val (.int (own_byteOf p5 (p2 - (4 : Int32))))] [(.int ((own_byteOf p5 (p2 - (4 : Int32))).toInt8.toInt32)), (.int y0)])) t → Steps p.tables e below (s₁.setTop (entryFrame m #[(.ref a1), (.int p2), (.int p3), (.int p4), (.int p5), (.int p6)] 7)) t := fun t kt => go43 t (by
            refine X42.baloadBytes hx (j := p2) (v := (.int y0)) (by rw [e42]; exact Ar44.1) (State.isArrayOf_alike hZ.alike Ar44.2.1) Ar44.2.2 (own_inb q44 rfl hneg (by rw [hnat]; exact (List.getElem?_eq_some_iff.mp hv).1)) (own_get q44 hnat hv) (g := (mkF m 52 #[.val (.ref a1), .val (.int p2), .val (.int p3), .val (.int p4), .val (.int p5), .val (.int p6), .val (.int (own_byteOf p5 (p2 - (4 : Int32))))] [(.int p2), (.ref a1)])) rfl rfl (hb hby d12_52) _ ?_
            show Steps p.tables e below (T42.setTop (mkF m 53 #[.val (.ref a1), .val (.int p2), .val (.int p3), .val (.int p4), .val (.int p5), .val (.int p6), .val (.int (own_byteOf p5 (p2 - (4 : Int32))))] [(.int y0)])) _
            refine XS.iload X42.here hx rfl (hb hby d12_53) rfl ?_
            show Steps p.tables e below (T42.setTop (mkF m 55 #[.val (.ref a1), .val (.int p2), .val (.int p3), .val (.int p4), .val (.int p5), .val (.int p6), .val (.int (own_byteOf p5 (p2 - (4 : Int32))))] [(.int (own_byteOf p5 (p2 - (4 : Int32)))), (.int y0)])) _
            refine XS.i2b X42.here hx rfl (hb hby d12_55) rfl ?_
            show Steps p.tables e below (T42.setTop (mkF m 56 #[.val (.ref a1), .val (.int p2), .val (.int p3), .val (.int p4), .val (.int p5), .val (.int p6), .val (.int (own_byteOf p5 (p2 - (4 : Int32))))] [(.int ((own_byteOf p5 (p2 - (4 : Int32))).toInt8.toInt32)), (.int y0)])) _
            exact kt)
        by_cases hc56_46 : y0 = ((own_byteOf p5 (p2 - (4 : Int32))).toInt8.toInt32)
        · have go47 : ∀ t, Steps p.tables e below (T42.setTop (mkF m 64 #[.val (.ref a1), .val (.int p2), .val (.int p3), .val (.int p4), .val (.int p5), .val (.int p6), .val (.int (own_byteOf p5 (p2 - (4 : Int32))))] [(.int (1 : Int32))])) t → Steps p.tables e below (s₁.setTop (entryFrame m #[(.ref a1), (.int p2), (.int p3), (.int p4), (.int p5), (.int p6)] 7)) t := fun t kt => go45 t (by
              refine XS.icmpNo X42.here hx rfl (hb hby d12_56) rfl (teq hc56_46).2 ?_
              show Steps p.tables e below (T42.setTop (mkF m 59 #[.val (.ref a1), .val (.int p2), .val (.int p3), .val (.int p4), .val (.int p5), .val (.int p6), .val (.int (own_byteOf p5 (p2 - (4 : Int32))))] [])) _
              refine XS.iconst X42.here hx rfl (hb hby d12_59) ?_
              show Steps p.tables e below (T42.setTop (mkF m 60 #[.val (.ref a1), .val (.int p2), .val (.int p3), .val (.int p4), .val (.int p5), .val (.int p6), .val (.int (own_byteOf p5 (p2 - (4 : Int32))))] [(.int (1 : Int32))])) _
              refine XS.goto X42.here hx rfl (pc0 := 60) (pc' := 64) rfl (hb hby d12_60) (by decide) (by decide) ?_
              show Steps p.tables e below (T42.setTop (mkF m 64 #[.val (.ref a1), .val (.int p2), .val (.int p3), .val (.int p4), .val (.int p5), .val (.int p6), .val (.int (own_byteOf p5 (p2 - (4 : Int32))))] [(.int (1 : Int32))])) _
              exact kt)
          obtain ⟨fs, hr, hrun, hended, hW, hsame⟩ := X42.leave (v := some (.int (1 : Int32))) (fun h => by rw [Bd.returns] at h; cases h)
          refine ⟨_, _, go47 _ (retN X42 hx (t := .boolean) Bd.returns (by simp) (hb hby d12_64) hr), hrun, hended, _, _, rfl, ?_, ⟨_, rfl⟩, hW, hsame.mono (by decide) (by decide)⟩
          refine ⟨?_, N42, e42⟩
          show some (Value.int (1 : Int32)) = some (.int (own_at y0 p2 p3 p4 p5 p6))
          unfold own_at
          rw [if_neg hc2_2, if_neg hc9_22, if_neg hc27_32, if_pos hc56_46]
        · have go48 : ∀ t, Steps p.tables e below (T42.setTop (mkF m 64 #[.val (.ref a1), .val (.int p2), .val (.int p3), .val (.int p4), .val (.int p5), .val (.int p6), .val (.int (own_byteOf p5 (p2 - (4 : Int32))))] [(.int (0 : Int32))])) t → Steps p.tables e below (s₁.setTop (entryFrame m #[(.ref a1), (.int p2), (.int p3), (.int p4), (.int p5), (.int p6)] 7)) t := fun t kt => go45 t (by
              refine XS.icmpYes X42.here hx rfl (pc0 := 56) (pc' := 63) rfl (hb hby d12_56) rfl (feq hc56_46).2 (by decide) (by decide) ?_
              show Steps p.tables e below (T42.setTop (mkF m 63 #[.val (.ref a1), .val (.int p2), .val (.int p3), .val (.int p4), .val (.int p5), .val (.int p6), .val (.int (own_byteOf p5 (p2 - (4 : Int32))))] [])) _
              refine XS.iconst X42.here hx rfl (hb hby d12_63) ?_
              show Steps p.tables e below (T42.setTop (mkF m 64 #[.val (.ref a1), .val (.int p2), .val (.int p3), .val (.int p4), .val (.int p5), .val (.int p6), .val (.int (own_byteOf p5 (p2 - (4 : Int32))))] [(.int (0 : Int32))])) _
              exact kt)
          obtain ⟨fs, hr, hrun, hended, hW, hsame⟩ := X42.leave (v := some (.int (0 : Int32))) (fun h => by rw [Bd.returns] at h; cases h)
          refine ⟨_, _, go48 _ (retN X42 hx (t := .boolean) Bd.returns (by simp) (hb hby d12_64) hr), hrun, hended, _, _, rfl, ?_, ⟨_, rfl⟩, hW, hsame.mono (by decide) (by decide)⟩
          refine ⟨?_, N42, e42⟩
          show some (Value.int (0 : Int32)) = some (.int (own_at y0 p2 p3 p4 p5 p6))
          unfold own_at
          rw [if_neg hc2_2, if_neg hc9_22, if_neg hc27_32, if_neg hc56_46]
theorem own_a0 (x : Int32) : (nar .byte (((x.toUInt32 >>> ((24 : Int32) &&& 31).toUInt32).toInt32).toInt8.toInt32)) = (own_byteOf x (0 : Int32)).toInt8.toInt32 := by
  show ((x.toUInt32 >>> ((24 : Int32) &&& 31).toUInt32).toInt32).toInt8.toInt32.toInt8.toInt32 = _
  unfold own_byteOf
  rw [if_pos rfl]
  have m := c_maskL x.toInt64 4294967295 32 (by decide) (by decide)
  rw [c_i2l] at m
  have u0 : 0 ≤ (x.toInt64 &&& (4294967295 : Int64)).toInt := by omega
  have q1 := (c_ldiv (x.toInt64 &&& (4294967295 : Int64)) 16777216 16777216 (by decide) (by decide)).1 u0
  have w1 := c_l2i ((x.toInt64 &&& (4294967295 : Int64)) / (16777216 : Int64))
  obtain ⟨v1, v2, v3⟩ := c_i2b ((x.toInt64 &&& (4294967295 : Int64)) / (16777216 : Int64)).toInt32
  have s24 := c_iushr x 24 24 (by decide) (by decide)
  obtain ⟨d1, -⟩ := c_i2b ((x.toUInt32 >>> ((24 : Int32) &&& 31).toUInt32).toInt32)
  obtain ⟨d2, d3, d4⟩ := c_i2b (((x.toUInt32 >>> ((24 : Int32) &&& 31).toUInt32).toInt32).toInt8.toInt32)
  apply Int32.toInt_inj.mp
  omega
theorem own_a1 (x : Int32) : (nar .byte (((x.toUInt32 >>> ((16 : Int32) &&& 31).toUInt32).toInt32).toInt8.toInt32)) = (own_byteOf x (1 : Int32)).toInt8.toInt32 := by
  show ((x.toUInt32 >>> ((16 : Int32) &&& 31).toUInt32).toInt32).toInt8.toInt32.toInt8.toInt32 = _
  unfold own_byteOf
  rw [if_neg (by decide), if_pos rfl]
  have m := c_maskL x.toInt64 4294967295 32 (by decide) (by decide)
  rw [c_i2l] at m
  have u0 : 0 ≤ (x.toInt64 &&& (4294967295 : Int64)).toInt := by omega
  have q1 := (c_ldiv (x.toInt64 &&& (4294967295 : Int64)) 65536 65536 (by decide) (by decide)).1 u0
  have q2 := (c_lrem ((x.toInt64 &&& (4294967295 : Int64)) / (65536 : Int64)) 256 256 (by decide)).1 (by omega)
  have w1 := c_l2i (((x.toInt64 &&& (4294967295 : Int64)) / (65536 : Int64)) - (((x.toInt64 &&& (4294967295 : Int64)) / (65536 : Int64)) / (256 : Int64)) * (256 : Int64))
  obtain ⟨v1, v2, v3⟩ := c_i2b (((x.toInt64 &&& (4294967295 : Int64)) / (65536 : Int64)) - (((x.toInt64 &&& (4294967295 : Int64)) / (65536 : Int64)) / (256 : Int64)) * (256 : Int64)).toInt32
  have s16 := c_iushr x 16 16 (by decide) (by decide)
  obtain ⟨d1, -⟩ := c_i2b ((x.toUInt32 >>> ((16 : Int32) &&& 31).toUInt32).toInt32)
  obtain ⟨d2, d3, d4⟩ := c_i2b (((x.toUInt32 >>> ((16 : Int32) &&& 31).toUInt32).toInt32).toInt8.toInt32)
  apply Int32.toInt_inj.mp
  omega
theorem own_a2 (x : Int32) : (nar .byte (((x.toUInt32 >>> ((8 : Int32) &&& 31).toUInt32).toInt32).toInt8.toInt32)) = (own_byteOf x (2 : Int32)).toInt8.toInt32 := by
  show ((x.toUInt32 >>> ((8 : Int32) &&& 31).toUInt32).toInt32).toInt8.toInt32.toInt8.toInt32 = _
  unfold own_byteOf
  rw [if_neg (by decide), if_neg (by decide), if_pos rfl]
  have m := c_maskL x.toInt64 4294967295 32 (by decide) (by decide)
  rw [c_i2l] at m
  have u0 : 0 ≤ (x.toInt64 &&& (4294967295 : Int64)).toInt := by omega
  have q1 := (c_ldiv (x.toInt64 &&& (4294967295 : Int64)) 256 256 (by decide) (by decide)).1 u0
  have q2 := (c_lrem ((x.toInt64 &&& (4294967295 : Int64)) / (256 : Int64)) 256 256 (by decide)).1 (by omega)
  have w1 := c_l2i (((x.toInt64 &&& (4294967295 : Int64)) / (256 : Int64)) - (((x.toInt64 &&& (4294967295 : Int64)) / (256 : Int64)) / (256 : Int64)) * (256 : Int64))
  obtain ⟨v1, v2, v3⟩ := c_i2b (((x.toInt64 &&& (4294967295 : Int64)) / (256 : Int64)) - (((x.toInt64 &&& (4294967295 : Int64)) / (256 : Int64)) / (256 : Int64)) * (256 : Int64)).toInt32
  have s8 := c_iushr x 8 8 (by decide) (by decide)
  obtain ⟨d1, -⟩ := c_i2b ((x.toUInt32 >>> ((8 : Int32) &&& 31).toUInt32).toInt32)
  obtain ⟨d2, d3, d4⟩ := c_i2b (((x.toUInt32 >>> ((8 : Int32) &&& 31).toUInt32).toInt32).toInt8.toInt32)
  apply Int32.toInt_inj.mp
  omega
theorem own_a3 (x : Int32) : (nar .byte (x.toInt8.toInt32)) = (own_byteOf x (3 : Int32)).toInt8.toInt32 := by
  show x.toInt8.toInt32.toInt8.toInt32 = _
  unfold own_byteOf
  rw [if_neg (by decide), if_neg (by decide), if_neg (by decide)]
  have m := c_maskL x.toInt64 4294967295 32 (by decide) (by decide)
  rw [c_i2l] at m
  have u0 : 0 ≤ (x.toInt64 &&& (4294967295 : Int64)).toInt := by omega
  have q1 := (c_lrem (x.toInt64 &&& (4294967295 : Int64)) 256 256 (by decide)).1 u0
  have w1 := c_l2i ((x.toInt64 &&& (4294967295 : Int64)) - ((x.toInt64 &&& (4294967295 : Int64)) / (256 : Int64)) * (256 : Int64))
  obtain ⟨v1, v2, v3⟩ := c_i2b ((x.toInt64 &&& (4294967295 : Int64)) - ((x.toInt64 &&& (4294967295 : Int64)) / (256 : Int64)) * (256 : Int64)).toInt32
  obtain ⟨d1, -⟩ := c_i2b x
  obtain ⟨d2, d3, d4⟩ := c_i2b (x.toInt8.toInt32)
  apply Int32.toInt_inj.mp
  omega
theorem own_u0 (x : Int32) : (nar .byte (((((x.toUInt32 >>> ((16 : Int32) &&& 31).toUInt32).toInt32).toUInt32 >>> ((8 : Int32) &&& 31).toUInt32).toInt32).toInt8.toInt32)) = (own_byteOf x (0 : Int32)).toInt8.toInt32 := by
  show ((((x.toUInt32 >>> ((16 : Int32) &&& 31).toUInt32).toInt32).toUInt32 >>> ((8 : Int32) &&& 31).toUInt32).toInt32).toInt8.toInt32.toInt8.toInt32 = _
  unfold own_byteOf
  rw [if_pos rfl]
  have m := c_maskL x.toInt64 4294967295 32 (by decide) (by decide)
  rw [c_i2l] at m
  have u0 : 0 ≤ (x.toInt64 &&& (4294967295 : Int64)).toInt := by omega
  have q1 := (c_ldiv (x.toInt64 &&& (4294967295 : Int64)) 16777216 16777216 (by decide) (by decide)).1 u0
  have w1 := c_l2i ((x.toInt64 &&& (4294967295 : Int64)) / (16777216 : Int64))
  obtain ⟨v1, v2, v3⟩ := c_i2b ((x.toInt64 &&& (4294967295 : Int64)) / (16777216 : Int64)).toInt32
  have s16 := c_iushr x 16 16 (by decide) (by decide)
  have s8 := c_iushr ((x.toUInt32 >>> ((16 : Int32) &&& 31).toUInt32).toInt32) 8 8 (by decide) (by decide)
  obtain ⟨d1, -⟩ := c_i2b ((((x.toUInt32 >>> ((16 : Int32) &&& 31).toUInt32).toInt32).toUInt32 >>> ((8 : Int32) &&& 31).toUInt32).toInt32)
  obtain ⟨d2, d3, d4⟩ := c_i2b (((((x.toUInt32 >>> ((16 : Int32) &&& 31).toUInt32).toInt32).toUInt32 >>> ((8 : Int32) &&& 31).toUInt32).toInt32).toInt8.toInt32)
  apply Int32.toInt_inj.mp
  omega
theorem own_at_0_0 (p4 p5 p6 : Int32) : ¬ own_at (nar .byte (((p6.toUInt32 >>> ((24 : Int32) &&& 31).toUInt32).toInt32).toInt8.toInt32)) (0 : Int32) (0 : Int32) p4 p5 p6 = 0 := by
  unfold own_at
  rw [if_neg (by decide), if_pos (by decide), show ((0 : Int32) - (0 : Int32)) = (0 : Int32) from by decide, if_pos (own_a0 p6)]
  decide
theorem own_at_0_1 (p4 p5 p6 : Int32) : ¬ own_at (nar .byte (((p6.toUInt32 >>> ((16 : Int32) &&& 31).toUInt32).toInt32).toInt8.toInt32)) (1 : Int32) (0 : Int32) p4 p5 p6 = 0 := by
  unfold own_at
  rw [if_neg (by decide), if_pos (by decide), show ((1 : Int32) - (0 : Int32)) = (1 : Int32) from by decide, if_pos (own_a1 p6)]
  decide
theorem own_at_0_2 (p4 p5 p6 : Int32) : ¬ own_at (nar .byte (((p6.toUInt32 >>> ((8 : Int32) &&& 31).toUInt32).toInt32).toInt8.toInt32)) (2 : Int32) (0 : Int32) p4 p5 p6 = 0 := by
  unfold own_at
  rw [if_neg (by decide), if_pos (by decide), show ((2 : Int32) - (0 : Int32)) = (2 : Int32) from by decide, if_pos (own_a2 p6)]
  decide
theorem own_at_0_3 (p4 p5 p6 : Int32) : ¬ own_at (nar .byte (p6.toInt8.toInt32)) (3 : Int32) (0 : Int32) p4 p5 p6 = 0 := by
  unfold own_at
  rw [if_neg (by decide), if_pos (by decide), show ((3 : Int32) - (0 : Int32)) = (3 : Int32) from by decide, if_pos (own_a3 p6)]
  decide
theorem own_at_0_4 (p4 p5 p6 : Int32) : ¬ own_at (nar .byte (((((p5.toUInt32 >>> ((16 : Int32) &&& 31).toUInt32).toInt32).toUInt32 >>> ((8 : Int32) &&& 31).toUInt32).toInt32).toInt8.toInt32)) (4 : Int32) (0 : Int32) p4 p5 p6 = 0 := by
  unfold own_at
  rw [if_neg (by decide), if_neg (by decide), if_neg (by decide), show ((4 : Int32) - (4 : Int32)) = (0 : Int32) from by decide, if_pos (own_u0 p5)]
  decide
theorem own_at_0_5 (p4 p5 p6 : Int32) : ¬ own_at (nar .byte (((p5.toUInt32 >>> ((16 : Int32) &&& 31).toUInt32).toInt32).toInt8.toInt32)) (5 : Int32) (0 : Int32) p4 p5 p6 = 0 := by
  unfold own_at
  rw [if_neg (by decide), if_neg (by decide), if_neg (by decide), show ((5 : Int32) - (4 : Int32)) = (1 : Int32) from by decide, if_pos (own_a1 p5)]
  decide
theorem own_at_0_6 (p4 p5 p6 : Int32) : ¬ own_at (nar .byte (((p5.toUInt32 >>> ((8 : Int32) &&& 31).toUInt32).toInt32).toInt8.toInt32)) (6 : Int32) (0 : Int32) p4 p5 p6 = 0 := by
  unfold own_at
  rw [if_neg (by decide), if_neg (by decide), if_neg (by decide), show ((6 : Int32) - (4 : Int32)) = (2 : Int32) from by decide, if_pos (own_a2 p5)]
  decide
theorem own_at_0_7 (p4 p5 p6 : Int32) : ¬ own_at (nar .byte (p5.toInt8.toInt32)) (7 : Int32) (0 : Int32) p4 p5 p6 = 0 := by
  unfold own_at
  rw [if_neg (by decide), if_neg (by decide), if_neg (by decide), show ((7 : Int32) - (4 : Int32)) = (3 : Int32) from by decide, if_pos (own_a3 p5)]
  decide
theorem own_at_1_0 (p4 p5 p6 : Int32) : ¬ own_at (nar .byte (((((p4.toUInt32 >>> ((16 : Int32) &&& 31).toUInt32).toInt32).toUInt32 >>> ((8 : Int32) &&& 31).toUInt32).toInt32).toInt8.toInt32)) (0 : Int32) (1 : Int32) p4 p5 p6 = 0 := by
  unfold own_at
  rw [if_pos (by decide), if_pos (by decide), if_pos (own_u0 p4)]
  decide
theorem own_at_1_1 (p4 p5 p6 : Int32) : ¬ own_at (nar .byte (((p6.toUInt32 >>> ((24 : Int32) &&& 31).toUInt32).toInt32).toInt8.toInt32)) (1 : Int32) (1 : Int32) p4 p5 p6 = 0 := by
  unfold own_at
  rw [if_neg (by decide), if_pos (by decide), show ((1 : Int32) - (1 : Int32)) = (0 : Int32) from by decide, if_pos (own_a0 p6)]
  decide
theorem own_at_1_2 (p4 p5 p6 : Int32) : ¬ own_at (nar .byte (((p6.toUInt32 >>> ((16 : Int32) &&& 31).toUInt32).toInt32).toInt8.toInt32)) (2 : Int32) (1 : Int32) p4 p5 p6 = 0 := by
  unfold own_at
  rw [if_neg (by decide), if_pos (by decide), show ((2 : Int32) - (1 : Int32)) = (1 : Int32) from by decide, if_pos (own_a1 p6)]
  decide
theorem own_at_1_3 (p4 p5 p6 : Int32) : ¬ own_at (nar .byte (((p6.toUInt32 >>> ((8 : Int32) &&& 31).toUInt32).toInt32).toInt8.toInt32)) (3 : Int32) (1 : Int32) p4 p5 p6 = 0 := by
  unfold own_at
  rw [if_neg (by decide), if_pos (by decide), show ((3 : Int32) - (1 : Int32)) = (2 : Int32) from by decide, if_pos (own_a2 p6)]
  decide
theorem own_at_1_4 (p4 p5 p6 : Int32) : ¬ own_at (nar .byte (p6.toInt8.toInt32)) (4 : Int32) (1 : Int32) p4 p5 p6 = 0 := by
  unfold own_at
  rw [if_neg (by decide), if_pos (by decide), show ((4 : Int32) - (1 : Int32)) = (3 : Int32) from by decide, if_pos (own_a3 p6)]
  decide
theorem own_at_1_5 (p4 p5 p6 : Int32) : ¬ own_at (nar .byte (((p5.toUInt32 >>> ((16 : Int32) &&& 31).toUInt32).toInt32).toInt8.toInt32)) (5 : Int32) (1 : Int32) p4 p5 p6 = 0 := by
  unfold own_at
  rw [if_neg (by decide), if_neg (by decide), if_neg (by decide), show ((5 : Int32) - (4 : Int32)) = (1 : Int32) from by decide, if_pos (own_a1 p5)]
  decide
theorem own_at_1_6 (p4 p5 p6 : Int32) : ¬ own_at (nar .byte (((p5.toUInt32 >>> ((8 : Int32) &&& 31).toUInt32).toInt32).toInt8.toInt32)) (6 : Int32) (1 : Int32) p4 p5 p6 = 0 := by
  unfold own_at
  rw [if_neg (by decide), if_neg (by decide), if_neg (by decide), show ((6 : Int32) - (4 : Int32)) = (2 : Int32) from by decide, if_pos (own_a2 p5)]
  decide
theorem own_at_1_7 (p4 p5 p6 : Int32) : ¬ own_at (nar .byte (p5.toInt8.toInt32)) (7 : Int32) (1 : Int32) p4 p5 p6 = 0 := by
  unfold own_at
  rw [if_neg (by decide), if_neg (by decide), if_neg (by decide), show ((7 : Int32) - (4 : Int32)) = (3 : Int32) from by decide, if_pos (own_a3 p5)]
  decide
theorem own_at_2_0 (p4 p5 p6 : Int32) : ¬ own_at (nar .byte (((((p4.toUInt32 >>> ((16 : Int32) &&& 31).toUInt32).toInt32).toUInt32 >>> ((8 : Int32) &&& 31).toUInt32).toInt32).toInt8.toInt32)) (0 : Int32) (2 : Int32) p4 p5 p6 = 0 := by
  unfold own_at
  rw [if_pos (by decide), if_pos (by decide), if_pos (own_u0 p4)]
  decide
theorem own_at_2_1 (p4 p5 p6 : Int32) : ¬ own_at (nar .byte (((p4.toUInt32 >>> ((16 : Int32) &&& 31).toUInt32).toInt32).toInt8.toInt32)) (1 : Int32) (2 : Int32) p4 p5 p6 = 0 := by
  unfold own_at
  rw [if_pos (by decide), if_pos (by decide), if_pos (own_a1 p4)]
  decide
theorem own_at_2_2 (p4 p5 p6 : Int32) : ¬ own_at (nar .byte (((p6.toUInt32 >>> ((24 : Int32) &&& 31).toUInt32).toInt32).toInt8.toInt32)) (2 : Int32) (2 : Int32) p4 p5 p6 = 0 := by
  unfold own_at
  rw [if_neg (by decide), if_pos (by decide), show ((2 : Int32) - (2 : Int32)) = (0 : Int32) from by decide, if_pos (own_a0 p6)]
  decide
theorem own_at_2_3 (p4 p5 p6 : Int32) : ¬ own_at (nar .byte (((p6.toUInt32 >>> ((16 : Int32) &&& 31).toUInt32).toInt32).toInt8.toInt32)) (3 : Int32) (2 : Int32) p4 p5 p6 = 0 := by
  unfold own_at
  rw [if_neg (by decide), if_pos (by decide), show ((3 : Int32) - (2 : Int32)) = (1 : Int32) from by decide, if_pos (own_a1 p6)]
  decide
theorem own_at_2_4 (p4 p5 p6 : Int32) : ¬ own_at (nar .byte (((p6.toUInt32 >>> ((8 : Int32) &&& 31).toUInt32).toInt32).toInt8.toInt32)) (4 : Int32) (2 : Int32) p4 p5 p6 = 0 := by
  unfold own_at
  rw [if_neg (by decide), if_pos (by decide), show ((4 : Int32) - (2 : Int32)) = (2 : Int32) from by decide, if_pos (own_a2 p6)]
  decide
theorem own_at_2_5 (p4 p5 p6 : Int32) : ¬ own_at (nar .byte (p6.toInt8.toInt32)) (5 : Int32) (2 : Int32) p4 p5 p6 = 0 := by
  unfold own_at
  rw [if_neg (by decide), if_pos (by decide), show ((5 : Int32) - (2 : Int32)) = (3 : Int32) from by decide, if_pos (own_a3 p6)]
  decide
theorem own_at_2_6 (p4 p5 p6 : Int32) : ¬ own_at (nar .byte (((p5.toUInt32 >>> ((8 : Int32) &&& 31).toUInt32).toInt32).toInt8.toInt32)) (6 : Int32) (2 : Int32) p4 p5 p6 = 0 := by
  unfold own_at
  rw [if_neg (by decide), if_neg (by decide), if_neg (by decide), show ((6 : Int32) - (4 : Int32)) = (2 : Int32) from by decide, if_pos (own_a2 p5)]
  decide
theorem own_at_2_7 (p4 p5 p6 : Int32) : ¬ own_at (nar .byte (p5.toInt8.toInt32)) (7 : Int32) (2 : Int32) p4 p5 p6 = 0 := by
  unfold own_at
  rw [if_neg (by decide), if_neg (by decide), if_neg (by decide), show ((7 : Int32) - (4 : Int32)) = (3 : Int32) from by decide, if_pos (own_a3 p5)]
  decide
theorem own_at_3_0 (p4 p5 p6 : Int32) : ¬ own_at (nar .byte (((((p4.toUInt32 >>> ((16 : Int32) &&& 31).toUInt32).toInt32).toUInt32 >>> ((8 : Int32) &&& 31).toUInt32).toInt32).toInt8.toInt32)) (0 : Int32) (3 : Int32) p4 p5 p6 = 0 := by
  unfold own_at
  rw [if_pos (by decide), if_pos (by decide), if_pos (own_u0 p4)]
  decide
theorem own_at_3_1 (p4 p5 p6 : Int32) : ¬ own_at (nar .byte (((p4.toUInt32 >>> ((16 : Int32) &&& 31).toUInt32).toInt32).toInt8.toInt32)) (1 : Int32) (3 : Int32) p4 p5 p6 = 0 := by
  unfold own_at
  rw [if_pos (by decide), if_pos (by decide), if_pos (own_a1 p4)]
  decide
theorem own_at_3_2 (p4 p5 p6 : Int32) : ¬ own_at (nar .byte (((p4.toUInt32 >>> ((8 : Int32) &&& 31).toUInt32).toInt32).toInt8.toInt32)) (2 : Int32) (3 : Int32) p4 p5 p6 = 0 := by
  unfold own_at
  rw [if_pos (by decide), if_pos (by decide), if_pos (own_a2 p4)]
  decide
theorem own_at_3_3 (p4 p5 p6 : Int32) : ¬ own_at (nar .byte (((p6.toUInt32 >>> ((24 : Int32) &&& 31).toUInt32).toInt32).toInt8.toInt32)) (3 : Int32) (3 : Int32) p4 p5 p6 = 0 := by
  unfold own_at
  rw [if_neg (by decide), if_pos (by decide), show ((3 : Int32) - (3 : Int32)) = (0 : Int32) from by decide, if_pos (own_a0 p6)]
  decide
theorem own_at_3_4 (p4 p5 p6 : Int32) : ¬ own_at (nar .byte (((p6.toUInt32 >>> ((16 : Int32) &&& 31).toUInt32).toInt32).toInt8.toInt32)) (4 : Int32) (3 : Int32) p4 p5 p6 = 0 := by
  unfold own_at
  rw [if_neg (by decide), if_pos (by decide), show ((4 : Int32) - (3 : Int32)) = (1 : Int32) from by decide, if_pos (own_a1 p6)]
  decide
theorem own_at_3_5 (p4 p5 p6 : Int32) : ¬ own_at (nar .byte (((p6.toUInt32 >>> ((8 : Int32) &&& 31).toUInt32).toInt32).toInt8.toInt32)) (5 : Int32) (3 : Int32) p4 p5 p6 = 0 := by
  unfold own_at
  rw [if_neg (by decide), if_pos (by decide), show ((5 : Int32) - (3 : Int32)) = (2 : Int32) from by decide, if_pos (own_a2 p6)]
  decide
theorem own_at_3_6 (p4 p5 p6 : Int32) : ¬ own_at (nar .byte (p6.toInt8.toInt32)) (6 : Int32) (3 : Int32) p4 p5 p6 = 0 := by
  unfold own_at
  rw [if_neg (by decide), if_pos (by decide), show ((6 : Int32) - (3 : Int32)) = (3 : Int32) from by decide, if_pos (own_a3 p6)]
  decide
theorem own_at_3_7 (p4 p5 p6 : Int32) : ¬ own_at (nar .byte (p5.toInt8.toInt32)) (7 : Int32) (3 : Int32) p4 p5 p6 = 0 := by
  unfold own_at
  rw [if_neg (by decide), if_neg (by decide), if_neg (by decide), show ((7 : Int32) - (4 : Int32)) = (3 : Int32) from by decide, if_pos (own_a3 p5)]
  decide
theorem own_at_4_0 (p4 p5 p6 : Int32) : ¬ own_at (nar .byte (((((p4.toUInt32 >>> ((16 : Int32) &&& 31).toUInt32).toInt32).toUInt32 >>> ((8 : Int32) &&& 31).toUInt32).toInt32).toInt8.toInt32)) (0 : Int32) (4 : Int32) p4 p5 p6 = 0 := by
  unfold own_at
  rw [if_pos (by decide), if_pos (by decide), if_pos (own_u0 p4)]
  decide
theorem own_at_4_1 (p4 p5 p6 : Int32) : ¬ own_at (nar .byte (((p4.toUInt32 >>> ((16 : Int32) &&& 31).toUInt32).toInt32).toInt8.toInt32)) (1 : Int32) (4 : Int32) p4 p5 p6 = 0 := by
  unfold own_at
  rw [if_pos (by decide), if_pos (by decide), if_pos (own_a1 p4)]
  decide
theorem own_at_4_2 (p4 p5 p6 : Int32) : ¬ own_at (nar .byte (((p4.toUInt32 >>> ((8 : Int32) &&& 31).toUInt32).toInt32).toInt8.toInt32)) (2 : Int32) (4 : Int32) p4 p5 p6 = 0 := by
  unfold own_at
  rw [if_pos (by decide), if_pos (by decide), if_pos (own_a2 p4)]
  decide
theorem own_at_4_3 (p4 p5 p6 : Int32) : ¬ own_at (nar .byte (p4.toInt8.toInt32)) (3 : Int32) (4 : Int32) p4 p5 p6 = 0 := by
  unfold own_at
  rw [if_pos (by decide), if_pos (by decide), if_pos (own_a3 p4)]
  decide
theorem own_at_4_4 (p4 p5 p6 : Int32) : ¬ own_at (nar .byte (((p6.toUInt32 >>> ((24 : Int32) &&& 31).toUInt32).toInt32).toInt8.toInt32)) (4 : Int32) (4 : Int32) p4 p5 p6 = 0 := by
  unfold own_at
  rw [if_neg (by decide), if_pos (by decide), show ((4 : Int32) - (4 : Int32)) = (0 : Int32) from by decide, if_pos (own_a0 p6)]
  decide
theorem own_at_4_5 (p4 p5 p6 : Int32) : ¬ own_at (nar .byte (((p6.toUInt32 >>> ((16 : Int32) &&& 31).toUInt32).toInt32).toInt8.toInt32)) (5 : Int32) (4 : Int32) p4 p5 p6 = 0 := by
  unfold own_at
  rw [if_neg (by decide), if_pos (by decide), show ((5 : Int32) - (4 : Int32)) = (1 : Int32) from by decide, if_pos (own_a1 p6)]
  decide
theorem own_at_4_6 (p4 p5 p6 : Int32) : ¬ own_at (nar .byte (((p6.toUInt32 >>> ((8 : Int32) &&& 31).toUInt32).toInt32).toInt8.toInt32)) (6 : Int32) (4 : Int32) p4 p5 p6 = 0 := by
  unfold own_at
  rw [if_neg (by decide), if_pos (by decide), show ((6 : Int32) - (4 : Int32)) = (2 : Int32) from by decide, if_pos (own_a2 p6)]
  decide
theorem own_at_4_7 (p4 p5 p6 : Int32) : ¬ own_at (nar .byte (p6.toInt8.toInt32)) (7 : Int32) (4 : Int32) p4 p5 p6 = 0 := by
  unfold own_at
  rw [if_neg (by decide), if_pos (by decide), show ((7 : Int32) - (4 : Int32)) = (3 : Int32) from by decide, if_pos (own_a3 p6)]
  decide
theorem pn_0 : plainName "com/example/classweave/classweave/classfile/ClassOutputU4AtPinLaw" = true := by first | (simp [plainName, overriddenIn]; done) | decide +kernel
theorem ef_0 (m : MethodId) (p0 : Int32) (p1 : Int32) (p2 : Int32) (p3 : Int32) (p4 : Int32) : entryFrame m #[(.int p0), (.int p1), (.int p2), (.int p3), (.int p4)] maxLocals = mkF m 0 #[.val (.int p0), .val (.int p1), .val (.int p2), .val (.int p3), .val (.int p4), .unset, .unset, .unset, .unset] [] := by first | (simp [entryFrame, mkF, argsToLocals, Value.category, maxLocals]; done) | rfl
set_option maxRecDepth 65536 in
set_option maxHeartbeats 40000000 in
theorem rm0 (l : Launch) (Z : State) (a0 : Array Value) (hw : ∀ d ∈ tables_1, d.before a0 Z = true) (ws : List Jvm.Cond) (p0 p1 p2 p3 p4 : Int32) (h0 : Heap) (n0 : Nat) (Z0 : n0 ≤ h0.size) :
    MetFree l x (head1 (Jvm.Cond.code x code maxLocals ret :: ws) room_1) (fun a U => a = #[(.int p0), (.int p1), (.int p2), (.int p3), (.int p4)] ∧ Z.Warmed39 U.vm ∧ U.heap = h0) (fun _ _ _ _ _ => True) (fun _ U o U' => ∃ v L, o = .returned v ∧ own_Q0 n0 v U'.heap L ∧ FrameEnd U o U' L room_1.cells room_1.slots) := by
  refine MetFree.of_bodySF (plainFor_of_name pn_0) hisR ?_
  intro p e s m args below meth c s₁ Bd hml0 hP hK
  obtain ⟨rfl, hZ, hh⟩ := hP
  have hx := Bd.exec
  have hby := Bd.bytes
  have hml : c.maxLocals = 9 := hml0
  have hown : s.vm.findClass "com/example/classweave/classweave/classfile/ClassOutputU4AtPinLaw" = some m.cls := findClass_of_methodNamed Bd.named
  have hnm := (name_of_methodNamed Bd.named Bd.method).1
  have X0 : Stand p l e room_1 s m #[(.int p0), (.int p1), (.int p2), (.int p3), (.int p4)] below meth c s₁ [] 0 0 := Stand.of_body Bd
  have e0 : s₁.heap = h0 := by rw [← hh, Bd.state]; rfl
  have N0 := Fr.nil n0
  have go0 : ∀ t, Steps p.tables e below (s₁.setTop (mkF m 0 #[.val (.int p0), .val (.int p1), .val (.int p2), .val (.int p3), .val (.int p4), .unset, .unset, .unset, .unset] [])) t → Steps p.tables e below (s₁.setTop (entryFrame m #[(.int p0), (.int p1), (.int p2), (.int p3), (.int p4)] maxLocals)) t := fun t k => castTop (ef_0 m p0 p1 p2 p3 p4) k
  have go1 : ∀ t, Steps p.tables e below (s₁.setTop (mkF m 14 #[.val (.int p0), .val (.int p1), .val (.int p2), .val (.int p3), .val (.int p4), .val (.int (p0 &&& (15 : Int32))), .val (.int ((p3 &&& (2147483647 : Int32)) % (5 : Int32))), .unset, .unset] [])) t → Steps p.tables e below (s₁.setTop (entryFrame m #[(.int p0), (.int p1), (.int p2), (.int p3), (.int p4)] maxLocals)) t := fun t kt => go0 t (by
      refine XS.iloadN X0.here hx rfl (hb hby at_0) rfl ?_
      show Steps p.tables e below (s₁.setTop (mkF m 1 #[.val (.int p0), .val (.int p1), .val (.int p2), .val (.int p3), .val (.int p4), .unset, .unset, .unset, .unset] [(.int p0)])) _
      refine XS.bipush X0.here hx rfl (hb hby at_1) ?_
      show Steps p.tables e below (s₁.setTop (mkF m 3 #[.val (.int p0), .val (.int p1), .val (.int p2), .val (.int p3), .val (.int p4), .unset, .unset, .unset, .unset] [(.int (15 : Int32)), (.int p0)])) _
      refine XS.iand X0.here hx rfl (hb hby at_3) rfl ?_
      show Steps p.tables e below (s₁.setTop (mkF m 4 #[.val (.int p0), .val (.int p1), .val (.int p2), .val (.int p3), .val (.int p4), .unset, .unset, .unset, .unset] [(.int (p0 &&& (15 : Int32)))])) _
      refine XS.istore X0.here hx rfl (hb hby at_4) rfl (l' := #[.val (.int p0), .val (.int p1), .val (.int p2), .val (.int p3), .val (.int p4), .val (.int (p0 &&& (15 : Int32))), .unset, .unset, .unset]) rfl ?_
      show Steps p.tables e below (s₁.setTop (mkF m 6 #[.val (.int p0), .val (.int p1), .val (.int p2), .val (.int p3), .val (.int p4), .val (.int (p0 &&& (15 : Int32))), .unset, .unset, .unset] [])) _
      refine XS.iloadN X0.here hx rfl (hb hby at_6) rfl ?_
      show Steps p.tables e below (s₁.setTop (mkF m 7 #[.val (.int p0), .val (.int p1), .val (.int p2), .val (.int p3), .val (.int p4), .val (.int (p0 &&& (15 : Int32))), .unset, .unset, .unset] [(.int p3)])) _
      refine X0.ldcInt hx hown (mvT hZ (hw _ (List.mem_of_getElem? (i := 0) rfl))) (g := (mkF m 7 #[.val (.int p0), .val (.int p1), .val (.int p2), .val (.int p3), .val (.int p4), .val (.int (p0 &&& (15 : Int32))), .unset, .unset, .unset] [(.int p3)])) rfl (hb hby at_7) _ ?_
      show Steps p.tables e below (s₁.setTop (mkF m 9 #[.val (.int p0), .val (.int p1), .val (.int p2), .val (.int p3), .val (.int p4), .val (.int (p0 &&& (15 : Int32))), .unset, .unset, .unset] [(.int (2147483647 : Int32)), (.int p3)])) _
      refine XS.iand X0.here hx rfl (hb hby at_9) rfl ?_
      show Steps p.tables e below (s₁.setTop (mkF m 10 #[.val (.int p0), .val (.int p1), .val (.int p2), .val (.int p3), .val (.int p4), .val (.int (p0 &&& (15 : Int32))), .unset, .unset, .unset] [(.int (p3 &&& (2147483647 : Int32)))])) _
      refine XS.iconst X0.here hx rfl (hb hby at_10) ?_
      show Steps p.tables e below (s₁.setTop (mkF m 11 #[.val (.int p0), .val (.int p1), .val (.int p2), .val (.int p3), .val (.int p4), .val (.int (p0 &&& (15 : Int32))), .unset, .unset, .unset] [(.int (5 : Int32)), (.int (p3 &&& (2147483647 : Int32)))])) _
      refine iremM X0 hx rfl (hb hby at_11) rfl (by decide) ?_
      show Steps p.tables e below (s₁.setTop (mkF m 12 #[.val (.int p0), .val (.int p1), .val (.int p2), .val (.int p3), .val (.int p4), .val (.int (p0 &&& (15 : Int32))), .unset, .unset, .unset] [(.int ((p3 &&& (2147483647 : Int32)) % (5 : Int32)))])) _
      refine XS.istore X0.here hx rfl (hb hby at_12) rfl (l' := #[.val (.int p0), .val (.int p1), .val (.int p2), .val (.int p3), .val (.int p4), .val (.int (p0 &&& (15 : Int32))), .val (.int ((p3 &&& (2147483647 : Int32)) % (5 : Int32))), .unset, .unset]) rfl ?_
      show Steps p.tables e below (s₁.setTop (mkF m 14 #[.val (.int p0), .val (.int p1), .val (.int p2), .val (.int p3), .val (.int p4), .val (.int (p0 &&& (15 : Int32))), .val (.int ((p3 &&& (2147483647 : Int32)) % (5 : Int32))), .unset, .unset] [])) _
      exact kt)
  rcases own_idx5 p3 with h5 | h5 | h5 | h5 | h5
  · rw [h5] at go1
    obtain ⟨T2, h2, X2, e2, E2, A2, D2, -, st2⟩ := newO X0 hx hZ hown (hw _ (List.mem_of_getElem? (i := 1) rfl)) (hw _ (List.mem_of_getElem? (i := 2) rfl)) (hw _ (List.mem_of_getElem? (i := 3) rfl)) e0 (g := (mkF m 14 #[.val (.int p0), .val (.int p1), .val (.int p2), .val (.int p3), .val (.int p4), .val (.int (p0 &&& (15 : Int32))), .val (.int (0 : Int32)), .unset, .unset] [])) rfl (hb hby at_14) (by decide) (by decide)
    obtain ⟨b2, g2⟩ : ∃ z, z = h0.size := ⟨_, rfl⟩
    rw [← g2] at A2 D2 st2
    have ks2 : h0.size ≤ h0.size := Nat.le_refl _
    have sz2 : h0.size ≤ b2 := Nat.le_trans ks2 (Nat.le_of_eq g2.symm)
    have gb2 : n0 ≤ b2 := Nat.le_trans Z0 (Nat.le_of_eq g2.symm)
    have F2_bytes : Fld Z h2 b2 "com/example/classweave/classweave/classfile/ClassOutput" "bytes" "[B" .null := D2 (Or.inl (hw _ (List.mem_of_getElem? (i := 12) rfl))) (ty := (.array .byte)) (by decide)
    have F2_size : Fld Z h2 b2 "com/example/classweave/classweave/classfile/ClassOutput" "size" "I" (.int (0 : Int32)) := D2 (Or.inl (hw _ (List.mem_of_getElem? (i := 28) rfl))) (ty := .int) (by decide)
    have go3 : ∀ t, Steps p.tables e below (T2.setTop (mkF m 20 #[.val (.int p0), .val (.int p1), .val (.int p2), .val (.int p3), .val (.int p4), .val (.int (p0 &&& (15 : Int32))), .val (.int (0 : Int32)), .unset, .unset] [(.int (p0 &&& (15 : Int32))), (.ref b2), (.ref b2)])) t → Steps p.tables e below (s₁.setTop (entryFrame m #[(.int p0), (.int p1), (.int p2), (.int p3), (.int p4)] maxLocals)) t := fun t kt => go1 t (by
        refine st2 _ ?_
        show Steps p.tables e below (T2.setTop (mkF m 17 #[.val (.int p0), .val (.int p1), .val (.int p2), .val (.int p3), .val (.int p4), .val (.int (p0 &&& (15 : Int32))), .val (.int (0 : Int32)), .unset, .unset] [(.ref b2)])) _
        refine XS.dup X2.here hx rfl (hb hby at_17) rfl rfl ?_
        show Steps p.tables e below (T2.setTop (mkF m 18 #[.val (.int p0), .val (.int p1), .val (.int p2), .val (.int p3), .val (.int p4), .val (.int (p0 &&& (15 : Int32))), .val (.int (0 : Int32)), .unset, .unset] [(.ref b2), (.ref b2)])) _
        refine XS.iload X2.here hx rfl (hb hby at_18) rfl ?_
        show Steps p.tables e below (T2.setTop (mkF m 20 #[.val (.int p0), .val (.int p1), .val (.int p2), .val (.int p3), .val (.int p4), .val (.int (p0 &&& (15 : Int32))), .val (.int (0 : Int32)), .unset, .unset] [(.int (p0 &&& (15 : Int32))), (.ref b2), (.ref b2)])) _
        exact kt)
    have zs5 := (Nat.le_trans Z0 E2.1)
    obtain ⟨_, _, ⟨T4, L4, k4, n4⟩, -, X4, ⟨Lc4, hQ4, l4, y4, z4⟩, st4⟩ := X2.specialBack hx (y := (⟨"com/example/classweave/classweave/classfile/ClassOutput", "<init>", "(I)V"⟩ : MethodName)) rfl hown (mvT hZ (hw _ (List.mem_of_getElem? (i := 4) rfl))) (mvT hZ (hw _ (List.mem_of_getElem? (i := 5) rfl))) (mvT hZ (hw _ (List.mem_of_getElem? (i := 6) rfl))) (by decide) (backOf (W := 1) (rm1 l Z a0 hw [] b2 (p0 &&& (15 : Int32)) h2 n0 zs5 A2 F2_bytes F2_size gb2 (own_cap p0).1 (own_cap p0).2) hZ (hw _ (List.mem_of_getElem? (i := 6) rfl)) (hw _ (List.mem_of_getElem? (i := 3) rfl)) (by decide) (by decide)) (g := (mkF m 20 #[.val (.int p0), .val (.int p1), .val (.int p2), .val (.int p3), .val (.int p4), .val (.int (p0 &&& (15 : Int32))), .val (.int (0 : Int32)), .unset, .unset] [(.int (p0 &&& (15 : Int32))), (.ref b2), (.ref b2)])) rfl (by rw [hml]; rfl) (Steps.refl _) (a := b2) (argsL := [(.int (p0 &&& (15 : Int32)))]) (rest := [(.ref b2)]) (lenOf pd_0 rfl) rfl (by show 2 * 0 + _ ≤ _; exact Nat.le_of_eq rfl) (hb hby at_20) (fun _ _ => ⟨rfl, e2, (by decide : 1 + 1 ≤ _), (by decide : 2 + 15 ≤ _)⟩)
    dsimp only [Pt.U, Pt.locs, Pt.cells, Pt.slots] at X4 l4 y4 z4 st4 hQ4
    subst l4 y4 z4
    obtain ⟨rfl, N4q, OB4⟩ := hQ4
    have OC4 : own_OB Z T4.heap n0 b2 [] := OB4
    have zs4 : n0 ≤ T4.heap.size := by obtain ⟨_, _, ⟨q, _, _, _, r, _⟩, _⟩ := OC4; exact Nat.le_trans r (Nat.le_of_lt q.lt)
    have N4 := Fr.app N0 N4q
    have go6 : ∀ t, Steps p.tables e below (T4.setTop (mkF m 28 #[.val (.int p0), .val (.int p1), .val (.int p2), .val (.int p3), .val (.int p4), .val (.int (p0 &&& (15 : Int32))), .val (.int (0 : Int32)), .val (.ref b2), .unset] [(.int p1), (.ref b2)])) t → Steps p.tables e below (s₁.setTop (entryFrame m #[(.int p0), (.int p1), (.int p2), (.int p3), (.int p4)] maxLocals)) t := fun t kt => go3 t (by
        refine st4.trans ?_
        show Steps p.tables e below (T4.setTop (mkF m 23 #[.val (.int p0), .val (.int p1), .val (.int p2), .val (.int p3), .val (.int p4), .val (.int (p0 &&& (15 : Int32))), .val (.int (0 : Int32)), .unset, .unset] [(.ref b2)])) _
        refine XS.astore X4.here hx rfl (hb hby at_23) rfl rfl (l' := #[.val (.int p0), .val (.int p1), .val (.int p2), .val (.int p3), .val (.int p4), .val (.int (p0 &&& (15 : Int32))), .val (.int (0 : Int32)), .val (.ref b2), .unset]) rfl ?_
        show Steps p.tables e below (T4.setTop (mkF m 25 #[.val (.int p0), .val (.int p1), .val (.int p2), .val (.int p3), .val (.int p4), .val (.int (p0 &&& (15 : Int32))), .val (.int (0 : Int32)), .val (.ref b2), .unset] [])) _
        refine XS.aload X4.here hx rfl (hb hby at_25) rfl rfl ?_
        show Steps p.tables e below (T4.setTop (mkF m 27 #[.val (.int p0), .val (.int p1), .val (.int p2), .val (.int p3), .val (.int p4), .val (.int (p0 &&& (15 : Int32))), .val (.int (0 : Int32)), .val (.ref b2), .unset] [(.ref b2)])) _
        refine XS.iloadN X4.here hx rfl (hb hby at_27) rfl ?_
        show Steps p.tables e below (T4.setTop (mkF m 28 #[.val (.int p0), .val (.int p1), .val (.int p2), .val (.int p3), .val (.int p4), .val (.int (p0 &&& (15 : Int32))), .val (.int (0 : Int32)), .val (.ref b2), .unset] [(.int p1), (.ref b2)])) _
        exact kt)
    obtain ⟨cq7, kq7, q7a, q7b, q7c⟩ := isOf hZ rfl (by obtain ⟨_, _, ⟨q, _⟩, _⟩ := OC4; exact q)
    obtain ⟨_, _, ⟨T7, L7, k7, n7⟩, -, X7, ⟨Lc7, hQ7, l7, y7, z7⟩, st7⟩ := X4.virtualBack hx (y := (⟨"com/example/classweave/classweave/classfile/ClassOutput", "u4", "(I)V"⟩ : MethodName)) (z := (⟨"com/example/classweave/classweave/classfile/ClassOutput", "u4", "(I)V"⟩ : MethodName)) hown (mvT hZ (hw _ (List.mem_of_getElem? (i := 13) rfl))) (mvT hZ (hw _ (List.mem_of_getElem? (i := 14) rfl))) (notFace_of_selects (args := #[]) (mvT hZ (hw _ (List.mem_of_getElem? (i := 16) rfl)))) (mvT hZ (hw _ (List.mem_of_getElem? (i := 16) rfl))) (mvT hZ (hw _ (List.mem_of_getElem? (i := 15) rfl))) (by decide) (backOf (W := 0) (rm3 l Z a0 hw [] b2 p1 [] T4.heap n0 zs4 OC4 (by decide)) hZ (hw _ (List.mem_of_getElem? (i := 17) rfl)) (hw _ (List.mem_of_getElem? (i := 3) rfl)) (by decide) (by decide)) q7a q7c (g := (mkF m 28 #[.val (.int p0), .val (.int p1), .val (.int p2), .val (.int p3), .val (.int p4), .val (.int (p0 &&& (15 : Int32))), .val (.int (0 : Int32)), .val (.ref b2), .unset] [(.int p1), (.ref b2)])) rfl (by rw [hml]; rfl) (Steps.refl _) (argsL := [(.int p1)]) (rest := []) (lenOf pd_0 rfl) rfl (by show 2 * 0 + _ ≤ _; exact Nat.le_of_eq rfl) (hb hby at_28) (fun _ _ => ⟨rfl, rfl, (by decide : 2 + 2 ≤ _), (by decide : 17 + 32 ≤ _)⟩)
    dsimp only [Pt.U, Pt.locs, Pt.cells, Pt.slots] at X7 l7 y7 z7 st7 hQ7
    subst l7 y7 z7
    obtain ⟨rfl, N7q, OB7⟩ := hQ7
    have OC7 : own_OB Z T7.heap n0 b2 [(nar .byte (((((p1.toUInt32 >>> ((16 : Int32) &&& 31).toUInt32).toInt32).toUInt32 >>> ((8 : Int32) &&& 31).toUInt32).toInt32).toInt8.toInt32)), (nar .byte (((p1.toUInt32 >>> ((16 : Int32) &&& 31).toUInt32).toInt32).toInt8.toInt32)), (nar .byte (((p1.toUInt32 >>> ((8 : Int32) &&& 31).toUInt32).toInt32).toInt8.toInt32)), (nar .byte (p1.toInt8.toInt32))] := OB7
    have zs7 : n0 ≤ T7.heap.size := by obtain ⟨_, _, ⟨q, _, _, _, r, _⟩, _⟩ := OC7; exact Nat.le_trans r (Nat.le_of_lt q.lt)
    have N7 := Fr.app N4 N7q
    have go8 : ∀ t, Steps p.tables e below (T7.setTop (mkF m 34 #[.val (.int p0), .val (.int p1), .val (.int p2), .val (.int p3), .val (.int p4), .val (.int (p0 &&& (15 : Int32))), .val (.int (0 : Int32)), .val (.ref b2), .unset] [(.int p2), (.ref b2)])) t → Steps p.tables e below (s₁.setTop (entryFrame m #[(.int p0), (.int p1), (.int p2), (.int p3), (.int p4)] maxLocals)) t := fun t kt => go6 t (by
        refine st7.trans ?_
        show Steps p.tables e below (T7.setTop (mkF m 31 #[.val (.int p0), .val (.int p1), .val (.int p2), .val (.int p3), .val (.int p4), .val (.int (p0 &&& (15 : Int32))), .val (.int (0 : Int32)), .val (.ref b2), .unset] [])) _
        refine XS.aload X7.here hx rfl (hb hby at_31) rfl rfl ?_
        show Steps p.tables e below (T7.setTop (mkF m 33 #[.val (.int p0), .val (.int p1), .val (.int p2), .val (.int p3), .val (.int p4), .val (.int (p0 &&& (15 : Int32))), .val (.int (0 : Int32)), .val (.ref b2), .unset] [(.ref b2)])) _
        refine XS.iloadN X7.here hx rfl (hb hby at_33) rfl ?_
        show Steps p.tables e below (T7.setTop (mkF m 34 #[.val (.int p0), .val (.int p1), .val (.int p2), .val (.int p3), .val (.int p4), .val (.int (p0 &&& (15 : Int32))), .val (.int (0 : Int32)), .val (.ref b2), .unset] [(.int p2), (.ref b2)])) _
        exact kt)
    obtain ⟨cq9, kq9, q9a, q9b, q9c⟩ := isOf hZ rfl (by obtain ⟨_, _, ⟨q, _⟩, _⟩ := OC7; exact q)
    obtain ⟨_, _, ⟨T9, L9, k9, n9⟩, -, X9, ⟨Lc9, hQ9, l9, y9, z9⟩, st9⟩ := X7.virtualBack hx (y := (⟨"com/example/classweave/classweave/classfile/ClassOutput", "u4", "(I)V"⟩ : MethodName)) (z := (⟨"com/example/classweave/classweave/classfile/ClassOutput", "u4", "(I)V"⟩ : MethodName)) hown (mvT hZ (hw _ (List.mem_of_getElem? (i := 13) rfl))) (mvT hZ (hw _ (List.mem_of_getElem? (i := 14) rfl))) (notFace_of_selects (args := #[]) (mvT hZ (hw _ (List.mem_of_getElem? (i := 16) rfl)))) (mvT hZ (hw _ (List.mem_of_getElem? (i := 16) rfl))) (mvT hZ (hw _ (List.mem_of_getElem? (i := 15) rfl))) (by decide) (backOf (W := 0) (rm3 l Z a0 hw [] b2 p2 [(nar .byte (((((p1.toUInt32 >>> ((16 : Int32) &&& 31).toUInt32).toInt32).toUInt32 >>> ((8 : Int32) &&& 31).toUInt32).toInt32).toInt8.toInt32)), (nar .byte (((p1.toUInt32 >>> ((16 : Int32) &&& 31).toUInt32).toInt32).toInt8.toInt32)), (nar .byte (((p1.toUInt32 >>> ((8 : Int32) &&& 31).toUInt32).toInt32).toInt8.toInt32)), (nar .byte (p1.toInt8.toInt32))] T7.heap n0 zs7 OC7 (Nat.le_of_eq rfl)) hZ (hw _ (List.mem_of_getElem? (i := 17) rfl)) (hw _ (List.mem_of_getElem? (i := 3) rfl)) (by decide) (by decide)) q9a q9c (g := (mkF m 34 #[.val (.int p0), .val (.int p1), .val (.int p2), .val (.int p3), .val (.int p4), .val (.int (p0 &&& (15 : Int32))), .val (.int (0 : Int32)), .val (.ref b2), .unset] [(.int p2), (.ref b2)])) rfl (by rw [hml]; rfl) (Steps.refl _) (argsL := [(.int p2)]) (rest := []) (lenOf pd_0 rfl) rfl (by show 2 * 0 + _ ≤ _; exact Nat.le_of_eq rfl) (hb hby at_34) (fun _ _ => ⟨rfl, rfl, (by decide : 4 + 2 ≤ _), (by decide : 49 + 32 ≤ _)⟩)
    dsimp only [Pt.U, Pt.locs, Pt.cells, Pt.slots] at X9 l9 y9 z9 st9 hQ9
    subst l9 y9 z9
    obtain ⟨rfl, N9q, OB9⟩ := hQ9
    have OC9 : own_OB Z T9.heap n0 b2 [(nar .byte (((((p1.toUInt32 >>> ((16 : Int32) &&& 31).toUInt32).toInt32).toUInt32 >>> ((8 : Int32) &&& 31).toUInt32).toInt32).toInt8.toInt32)), (nar .byte (((p1.toUInt32 >>> ((16 : Int32) &&& 31).toUInt32).toInt32).toInt8.toInt32)), (nar .byte (((p1.toUInt32 >>> ((8 : Int32) &&& 31).toUInt32).toInt32).toInt8.toInt32)), (nar .byte (p1.toInt8.toInt32)), (nar .byte (((((p2.toUInt32 >>> ((16 : Int32) &&& 31).toUInt32).toInt32).toUInt32 >>> ((8 : Int32) &&& 31).toUInt32).toInt32).toInt8.toInt32)), (nar .byte (((p2.toUInt32 >>> ((16 : Int32) &&& 31).toUInt32).toInt32).toInt8.toInt32)), (nar .byte (((p2.toUInt32 >>> ((8 : Int32) &&& 31).toUInt32).toInt32).toInt8.toInt32)), (nar .byte (p2.toInt8.toInt32))] := OB9
    have zs9 : n0 ≤ T9.heap.size := by obtain ⟨_, _, ⟨q, _, _, _, r, _⟩, _⟩ := OC9; exact Nat.le_trans r (Nat.le_of_lt q.lt)
    have N9 := Fr.app N7 N9q
    have go10 : ∀ t, Steps p.tables e below (T9.setTop (mkF m 43 #[.val (.int p0), .val (.int p1), .val (.int p2), .val (.int p3), .val (.int p4), .val (.int (p0 &&& (15 : Int32))), .val (.int (0 : Int32)), .val (.ref b2), .unset] [(.int p4), (.int (0 : Int32)), (.ref b2)])) t → Steps p.tables e below (s₁.setTop (entryFrame m #[(.int p0), (.int p1), (.int p2), (.int p3), (.int p4)] maxLocals)) t := fun t kt => go8 t (by
        refine st9.trans ?_
        show Steps p.tables e below (T9.setTop (mkF m 37 #[.val (.int p0), .val (.int p1), .val (.int p2), .val (.int p3), .val (.int p4), .val (.int (p0 &&& (15 : Int32))), .val (.int (0 : Int32)), .val (.ref b2), .unset] [])) _
        refine XS.aload X9.here hx rfl (hb hby at_37) rfl rfl ?_
        show Steps p.tables e below (T9.setTop (mkF m 39 #[.val (.int p0), .val (.int p1), .val (.int p2), .val (.int p3), .val (.int p4), .val (.int (p0 &&& (15 : Int32))), .val (.int (0 : Int32)), .val (.ref b2), .unset] [(.ref b2)])) _
        refine XS.iload X9.here hx rfl (hb hby at_39) rfl ?_
        show Steps p.tables e below (T9.setTop (mkF m 41 #[.val (.int p0), .val (.int p1), .val (.int p2), .val (.int p3), .val (.int p4), .val (.int (p0 &&& (15 : Int32))), .val (.int (0 : Int32)), .val (.ref b2), .unset] [(.int (0 : Int32)), (.ref b2)])) _
        refine XS.iload X9.here hx rfl (hb hby at_41) rfl ?_
        show Steps p.tables e below (T9.setTop (mkF m 43 #[.val (.int p0), .val (.int p1), .val (.int p2), .val (.int p3), .val (.int p4), .val (.int (p0 &&& (15 : Int32))), .val (.int (0 : Int32)), .val (.ref b2), .unset] [(.int p4), (.int (0 : Int32)), (.ref b2)])) _
        exact kt)
    obtain ⟨cq11, kq11, q11a, q11b, q11c⟩ := isOf hZ rfl (by obtain ⟨_, _, ⟨q, _⟩, _⟩ := OC9; exact q)
    obtain ⟨_, _, ⟨T11, L11, k11, n11⟩, -, X11, ⟨Lc11, hQ11, l11, y11, z11⟩, st11⟩ := X9.virtualBack hx (y := (⟨"com/example/classweave/classweave/classfile/ClassOutput", "u4At", "(II)V"⟩ : MethodName)) (z := (⟨"com/example/classweave/classweave/classfile/ClassOutput", "u4At", "(II)V"⟩ : MethodName)) hown (mvT hZ (hw _ (List.mem_of_getElem? (i := 44) rfl))) (mvT hZ (hw _ (List.mem_of_getElem? (i := 45) rfl))) (notFace_of_selects (args := #[]) (mvT hZ (hw _ (List.mem_of_getElem? (i := 47) rfl)))) (mvT hZ (hw _ (List.mem_of_getElem? (i := 47) rfl))) (mvT hZ (hw _ (List.mem_of_getElem? (i := 46) rfl))) (by decide) (backOf (W := 0) (rm9 l Z a0 hw [] b2 (0 : Int32) p4 [(nar .byte (((((p1.toUInt32 >>> ((16 : Int32) &&& 31).toUInt32).toInt32).toUInt32 >>> ((8 : Int32) &&& 31).toUInt32).toInt32).toInt8.toInt32)), (nar .byte (((p1.toUInt32 >>> ((16 : Int32) &&& 31).toUInt32).toInt32).toInt8.toInt32)), (nar .byte (((p1.toUInt32 >>> ((8 : Int32) &&& 31).toUInt32).toInt32).toInt8.toInt32)), (nar .byte (p1.toInt8.toInt32)), (nar .byte (((((p2.toUInt32 >>> ((16 : Int32) &&& 31).toUInt32).toInt32).toUInt32 >>> ((8 : Int32) &&& 31).toUInt32).toInt32).toInt8.toInt32)), (nar .byte (((p2.toUInt32 >>> ((16 : Int32) &&& 31).toUInt32).toInt32).toInt8.toInt32)), (nar .byte (((p2.toUInt32 >>> ((8 : Int32) &&& 31).toUInt32).toInt32).toInt8.toInt32)), (nar .byte (p2.toInt8.toInt32))] 0 T9.heap n0 zs9 OC9 (by show 0 + 4 ≤ 8; decide) (by decide) (by decide) (by decide) (by decide) (by decide) (by decide) (by decide) (by decide)) hZ (hw _ (List.mem_of_getElem? (i := 48) rfl)) (hw _ (List.mem_of_getElem? (i := 3) rfl)) (by decide) (by decide)) q11a q11c (g := (mkF m 43 #[.val (.int p0), .val (.int p1), .val (.int p2), .val (.int p3), .val (.int p4), .val (.int (p0 &&& (15 : Int32))), .val (.int (0 : Int32)), .val (.ref b2), .unset] [(.int p4), (.int (0 : Int32)), (.ref b2)])) rfl (by rw [hml]; rfl) (Steps.refl _) (argsL := [(.int (0 : Int32)), (.int p4)]) (rest := []) (lenOf pd_4 rfl) rfl (by show 2 * 0 + _ ≤ _; exact Nat.le_of_eq rfl) (hb hby at_43) (fun _ _ => ⟨rfl, rfl, (by decide : 6 + 0 ≤ _), (by decide : 81 + 0 ≤ _)⟩)
    dsimp only [Pt.U, Pt.locs, Pt.cells, Pt.slots] at X11 l11 y11 z11 st11 hQ11
    subst l11 y11 z11
    obtain ⟨rfl, N11q, OB11⟩ := hQ11
    have OC11 : own_OB Z T11.heap n0 b2 [(nar .byte (((p4.toUInt32 >>> ((24 : Int32) &&& 31).toUInt32).toInt32).toInt8.toInt32)), (nar .byte (((p4.toUInt32 >>> ((16 : Int32) &&& 31).toUInt32).toInt32).toInt8.toInt32)), (nar .byte (((p4.toUInt32 >>> ((8 : Int32) &&& 31).toUInt32).toInt32).toInt8.toInt32)), (nar .byte (p4.toInt8.toInt32)), (nar .byte (((((p2.toUInt32 >>> ((16 : Int32) &&& 31).toUInt32).toInt32).toUInt32 >>> ((8 : Int32) &&& 31).toUInt32).toInt32).toInt8.toInt32)), (nar .byte (((p2.toUInt32 >>> ((16 : Int32) &&& 31).toUInt32).toInt32).toInt8.toInt32)), (nar .byte (((p2.toUInt32 >>> ((8 : Int32) &&& 31).toUInt32).toInt32).toInt8.toInt32)), (nar .byte (p2.toInt8.toInt32))] := OB11
    have zs11 : n0 ≤ T11.heap.size := by obtain ⟨_, _, ⟨q, _, _, _, r, _⟩, _⟩ := OC11; exact Nat.le_trans r (Nat.le_of_lt q.lt)
    have N11 := Fr.app N9 N11q
    have go12 : ∀ t, Steps p.tables e below (T11.setTop (mkF m 48 #[.val (.int p0), .val (.int p1), .val (.int p2), .val (.int p3), .val (.int p4), .val (.int (p0 &&& (15 : Int32))), .val (.int (0 : Int32)), .val (.ref b2), .unset] [(.ref b2)])) t → Steps p.tables e below (s₁.setTop (entryFrame m #[(.int p0), (.int p1), (.int p2), (.int p3), (.int p4)] maxLocals)) t := fun t kt => go10 t (by
        refine st11.trans ?_
        show Steps p.tables e below (T11.setTop (mkF m 46 #[.val (.int p0), .val (.int p1), .val (.int p2), .val (.int p3), .val (.int p4), .val (.int (p0 &&& (15 : Int32))), .val (.int (0 : Int32)), .val (.ref b2), .unset] [])) _
        refine XS.aload X11.here hx rfl (hb hby at_46) rfl rfl ?_
        show Steps p.tables e below (T11.setTop (mkF m 48 #[.val (.int p0), .val (.int p1), .val (.int p2), .val (.int p3), .val (.int p4), .val (.int (p0 &&& (15 : Int32))), .val (.int (0 : Int32)), .val (.ref b2), .unset] [(.ref b2)])) _
        exact kt)
    obtain ⟨cq13, kq13, q13a, q13b, q13c⟩ := isOf hZ rfl (by obtain ⟨_, _, ⟨q, _⟩, _⟩ := OC11; exact q)
    obtain ⟨_, _, ⟨T13, L13, k13, n13⟩, -, X13, ⟨Lc13, hQ13, l13, y13, z13⟩, st13⟩ := X11.virtualBack hx (y := (⟨"com/example/classweave/classweave/classfile/ClassOutput", "toByteArray", "()[B"⟩ : MethodName)) (z := (⟨"com/example/classweave/classweave/classfile/ClassOutput", "toByteArray", "()[B"⟩ : MethodName)) hown (mvT hZ (hw _ (List.mem_of_getElem? (i := 49) rfl))) (mvT hZ (hw _ (List.mem_of_getElem? (i := 50) rfl))) (notFace_of_selects (args := #[]) (mvT hZ (hw _ (List.mem_of_getElem? (i := 52) rfl)))) (mvT hZ (hw _ (List.mem_of_getElem? (i := 52) rfl))) (mvT hZ (hw _ (List.mem_of_getElem? (i := 51) rfl))) (by decide) (backOf (W := 0) (rm10 l Z a0 hw [] b2 [(nar .byte (((p4.toUInt32 >>> ((24 : Int32) &&& 31).toUInt32).toInt32).toInt8.toInt32)), (nar .byte (((p4.toUInt32 >>> ((16 : Int32) &&& 31).toUInt32).toInt32).toInt8.toInt32)), (nar .byte (((p4.toUInt32 >>> ((8 : Int32) &&& 31).toUInt32).toInt32).toInt8.toInt32)), (nar .byte (p4.toInt8.toInt32)), (nar .byte (((((p2.toUInt32 >>> ((16 : Int32) &&& 31).toUInt32).toInt32).toUInt32 >>> ((8 : Int32) &&& 31).toUInt32).toInt32).toInt8.toInt32)), (nar .byte (((p2.toUInt32 >>> ((16 : Int32) &&& 31).toUInt32).toInt32).toInt8.toInt32)), (nar .byte (((p2.toUInt32 >>> ((8 : Int32) &&& 31).toUInt32).toInt32).toInt8.toInt32)), (nar .byte (p2.toInt8.toInt32))] T11.heap n0 zs11 OC11) hZ (hw _ (List.mem_of_getElem? (i := 53) rfl)) (hw _ (List.mem_of_getElem? (i := 3) rfl)) (by decide) (by decide)) q13a q13c (g := (mkF m 48 #[.val (.int p0), .val (.int p1), .val (.int p2), .val (.int p3), .val (.int p4), .val (.int (p0 &&& (15 : Int32))), .val (.int (0 : Int32)), .val (.ref b2), .unset] [(.ref b2)])) rfl (by rw [hml]; rfl) (Steps.refl _) (argsL := []) (rest := []) (lenOf pd_5 rfl) rfl (by show 2 * 0 + _ ≤ _; exact Nat.le_of_eq rfl) (hb hby at_48) (fun _ _ => ⟨rfl, rfl, (by decide : 6 + 1 ≤ _), (by decide : 81 + 16 ≤ _)⟩)
    dsimp only [Pt.U, Pt.locs, Pt.cells, Pt.slots] at X13 l13 y13 z13 st13 hQ13
    subst l13 y13 z13
    obtain ⟨b13, rfl, N13q, OB13, Vq13⟩ := hQ13
    have OC13 : own_OB Z T13.heap n0 b2 [(nar .byte (((p4.toUInt32 >>> ((24 : Int32) &&& 31).toUInt32).toInt32).toInt8.toInt32)), (nar .byte (((p4.toUInt32 >>> ((16 : Int32) &&& 31).toUInt32).toInt32).toInt8.toInt32)), (nar .byte (((p4.toUInt32 >>> ((8 : Int32) &&& 31).toUInt32).toInt32).toInt8.toInt32)), (nar .byte (p4.toInt8.toInt32)), (nar .byte (((((p2.toUInt32 >>> ((16 : Int32) &&& 31).toUInt32).toInt32).toUInt32 >>> ((8 : Int32) &&& 31).toUInt32).toInt32).toInt8.toInt32)), (nar .byte (((p2.toUInt32 >>> ((16 : Int32) &&& 31).toUInt32).toInt32).toInt8.toInt32)), (nar .byte (((p2.toUInt32 >>> ((8 : Int32) &&& 31).toUInt32).toInt32).toInt8.toInt32)), (nar .byte (p2.toInt8.toInt32))] := OB13
    have zs13 : n0 ≤ T13.heap.size := by obtain ⟨_, _, ⟨q, _, _, _, r, _⟩, _⟩ := OC13; exact Nat.le_trans r (Nat.le_of_lt q.lt)
    have V13 : own_AV Z T13.heap b13 .byte [(.int (nar .byte (((p4.toUInt32 >>> ((24 : Int32) &&& 31).toUInt32).toInt32).toInt8.toInt32))), (.int (nar .byte (((p4.toUInt32 >>> ((16 : Int32) &&& 31).toUInt32).toInt32).toInt8.toInt32))), (.int (nar .byte (((p4.toUInt32 >>> ((8 : Int32) &&& 31).toUInt32).toInt32).toInt8.toInt32))), (.int (nar .byte (p4.toInt8.toInt32))), (.int (nar .byte (((((p2.toUInt32 >>> ((16 : Int32) &&& 31).toUInt32).toInt32).toUInt32 >>> ((8 : Int32) &&& 31).toUInt32).toInt32).toInt8.toInt32))), (.int (nar .byte (((p2.toUInt32 >>> ((16 : Int32) &&& 31).toUInt32).toInt32).toInt8.toInt32))), (.int (nar .byte (((p2.toUInt32 >>> ((8 : Int32) &&& 31).toUInt32).toInt32).toInt8.toInt32))), (.int (nar .byte (p2.toInt8.toInt32)))] := Vq13
    have N13 := Fr.app N11 N13q
    have go14 : ∀ t, Steps p.tables e below (T13.setTop (mkF m 55 #[.val (.int p0), .val (.int p1), .val (.int p2), .val (.int p3), .val (.int p4), .val (.int (p0 &&& (15 : Int32))), .val (.int (0 : Int32)), .val (.ref b2), .val (.ref b13)] [(.ref b2)])) t → Steps p.tables e below (s₁.setTop (entryFrame m #[(.int p0), (.int p1), (.int p2), (.int p3), (.int p4)] maxLocals)) t := fun t kt => go12 t (by
        refine st13.trans ?_
        show Steps p.tables e below (T13.setTop (mkF m 51 #[.val (.int p0), .val (.int p1), .val (.int p2), .val (.int p3), .val (.int p4), .val (.int (p0 &&& (15 : Int32))), .val (.int (0 : Int32)), .val (.ref b2), .unset] [(.ref b13)])) _
        refine XS.astore X13.here hx rfl (hb hby at_51) rfl rfl (l' := #[.val (.int p0), .val (.int p1), .val (.int p2), .val (.int p3), .val (.int p4), .val (.int (p0 &&& (15 : Int32))), .val (.int (0 : Int32)), .val (.ref b2), .val (.ref b13)]) rfl ?_
        show Steps p.tables e below (T13.setTop (mkF m 53 #[.val (.int p0), .val (.int p1), .val (.int p2), .val (.int p3), .val (.int p4), .val (.int (p0 &&& (15 : Int32))), .val (.int (0 : Int32)), .val (.ref b2), .val (.ref b13)] [])) _
        refine XS.aload X13.here hx rfl (hb hby at_53) rfl rfl ?_
        show Steps p.tables e below (T13.setTop (mkF m 55 #[.val (.int p0), .val (.int p1), .val (.int p2), .val (.int p3), .val (.int p4), .val (.int (p0 &&& (15 : Int32))), .val (.int (0 : Int32)), .val (.ref b2), .val (.ref b13)] [(.ref b2)])) _
        exact kt)
    obtain ⟨cq15, kq15, q15a, q15b, q15c⟩ := isOf hZ rfl (by obtain ⟨_, _, ⟨q, _⟩, _⟩ := OC13; exact q)
    obtain ⟨_, _, ⟨T15, L15, k15, n15⟩, -, X15, ⟨Lc15, hQ15, l15, y15, z15⟩, st15⟩ := X13.virtualBack hx (y := (⟨"com/example/classweave/classweave/classfile/ClassOutput", "size", "()I"⟩ : MethodName)) (z := (⟨"com/example/classweave/classweave/classfile/ClassOutput", "size", "()I"⟩ : MethodName)) hown (mvT hZ (hw _ (List.mem_of_getElem? (i := 63) rfl))) (mvT hZ (hw _ (List.mem_of_getElem? (i := 64) rfl))) (notFace_of_selects (args := #[]) (mvT hZ (hw _ (List.mem_of_getElem? (i := 66) rfl)))) (mvT hZ (hw _ (List.mem_of_getElem? (i := 66) rfl))) (mvT hZ (hw _ (List.mem_of_getElem? (i := 65) rfl))) (by decide) (backOf (W := 0) (rm11 l Z a0 hw [] b2 [(nar .byte (((p4.toUInt32 >>> ((24 : Int32) &&& 31).toUInt32).toInt32).toInt8.toInt32)), (nar .byte (((p4.toUInt32 >>> ((16 : Int32) &&& 31).toUInt32).toInt32).toInt8.toInt32)), (nar .byte (((p4.toUInt32 >>> ((8 : Int32) &&& 31).toUInt32).toInt32).toInt8.toInt32)), (nar .byte (p4.toInt8.toInt32)), (nar .byte (((((p2.toUInt32 >>> ((16 : Int32) &&& 31).toUInt32).toInt32).toUInt32 >>> ((8 : Int32) &&& 31).toUInt32).toInt32).toInt8.toInt32)), (nar .byte (((p2.toUInt32 >>> ((16 : Int32) &&& 31).toUInt32).toInt32).toInt8.toInt32)), (nar .byte (((p2.toUInt32 >>> ((8 : Int32) &&& 31).toUInt32).toInt32).toInt8.toInt32)), (nar .byte (p2.toInt8.toInt32))] (8 : Int32) T13.heap n0 OC13 rfl) hZ (hw _ (List.mem_of_getElem? (i := 67) rfl)) (hw _ (List.mem_of_getElem? (i := 3) rfl)) (by decide) (by decide)) q15a q15c (g := (mkF m 55 #[.val (.int p0), .val (.int p1), .val (.int p2), .val (.int p3), .val (.int p4), .val (.int (p0 &&& (15 : Int32))), .val (.int (0 : Int32)), .val (.ref b2), .val (.ref b13)] [(.ref b2)])) rfl (by rw [hml]; rfl) (Steps.refl _) (argsL := []) (rest := []) (lenOf pd_6 rfl) rfl (by show 2 * 0 + _ ≤ _; exact Nat.le_of_eq rfl) (hb hby at_55) (fun _ _ => ⟨rfl, rfl, (by decide : 7 + 0 ≤ _), (by decide : 97 + 0 ≤ _)⟩)
    dsimp only [Pt.U, Pt.locs, Pt.cells, Pt.slots] at X15 l15 y15 z15 st15 hQ15
    subst l15 y15 z15
    obtain ⟨rfl, N15q, e15⟩ := hQ15
    have N15 := Fr.app N13 N15q
    have hc60_16 : (8 : Int32) = (8 : Int32) := (by decide)
    have go17 : ∀ t, Steps p.tables e below (T15.setTop (mkF m 65 #[.val (.int p0), .val (.int p1), .val (.int p2), .val (.int p3), .val (.int p4), .val (.int (p0 &&& (15 : Int32))), .val (.int (0 : Int32)), .val (.ref b2), .val (.ref b13)] [(.ref b13)])) t → Steps p.tables e below (s₁.setTop (entryFrame m #[(.int p0), (.int p1), (.int p2), (.int p3), (.int p4)] maxLocals)) t := fun t kt => go14 t (by
        refine st15.trans ?_
        show Steps p.tables e below (T15.setTop (mkF m 58 #[.val (.int p0), .val (.int p1), .val (.int p2), .val (.int p3), .val (.int p4), .val (.int (p0 &&& (15 : Int32))), .val (.int (0 : Int32)), .val (.ref b2), .val (.ref b13)] [(.int (8 : Int32))])) _
        refine XS.bipush X15.here hx rfl (hb hby at_58) ?_
        show Steps p.tables e below (T15.setTop (mkF m 60 #[.val (.int p0), .val (.int p1), .val (.int p2), .val (.int p3), .val (.int p4), .val (.int (p0 &&& (15 : Int32))), .val (.int (0 : Int32)), .val (.ref b2), .val (.ref b13)] [(.int (8 : Int32)), (.int (8 : Int32))])) _
        refine XS.icmpNo X15.here hx rfl (hb hby at_60) rfl (teq hc60_16).2 ?_
        show Steps p.tables e below (T15.setTop (mkF m 63 #[.val (.int p0), .val (.int p1), .val (.int p2), .val (.int p3), .val (.int p4), .val (.int (p0 &&& (15 : Int32))), .val (.int (0 : Int32)), .val (.ref b2), .val (.ref b13)] [])) _
        refine XS.aload X15.here hx rfl (hb hby at_63) rfl rfl ?_
        show Steps p.tables e below (T15.setTop (mkF m 65 #[.val (.int p0), .val (.int p1), .val (.int p2), .val (.int p3), .val (.int p4), .val (.int (p0 &&& (15 : Int32))), .val (.int (0 : Int32)), .val (.ref b2), .val (.ref b13)] [(.ref b13)])) _
        exact kt)
    obtain ⟨c18, Ar18, q18⟩ := id V13
    have hc68_19 : (8 : Int32) = (8 : Int32) := (by decide)
    have go20 : ∀ t, Steps p.tables e below (T15.setTop (mkF m 82 #[.val (.int p0), .val (.int p1), .val (.int p2), .val (.int p3), .val (.int p4), .val (.int (p0 &&& (15 : Int32))), .val (.int (0 : Int32)), .val (.ref b2), .val (.ref b13)] [(.int p4), (.int p2), (.int p1), (.int (0 : Int32)), (.int (0 : Int32)), (.ref b13)])) t → Steps p.tables e below (s₁.setTop (entryFrame m #[(.int p0), (.int p1), (.int p2), (.int p3), (.int p4)] maxLocals)) t := fun t kt => go17 t (by
        refine X15.arraylength hx (by rw [e15]; exact Ar18.1) (State.isArrayOf_alike hZ.alike Ar18.2.1) (g := (mkF m 65 #[.val (.int p0), .val (.int p1), .val (.int p2), .val (.int p3), .val (.int p4), .val (.int (p0 &&& (15 : Int32))), .val (.int (0 : Int32)), .val (.ref b2), .val (.ref b13)] [(.ref b13)])) rfl rfl (hb hby at_65) _ ?_
        rw [own_len q18 (n := (8 : Int32)) rfl]
        show Steps p.tables e below (T15.setTop (mkF m 66 #[.val (.int p0), .val (.int p1), .val (.int p2), .val (.int p3), .val (.int p4), .val (.int (p0 &&& (15 : Int32))), .val (.int (0 : Int32)), .val (.ref b2), .val (.ref b13)] [(.int (8 : Int32))])) _
        refine XS.bipush X15.here hx rfl (hb hby at_66) ?_
        show Steps p.tables e below (T15.setTop (mkF m 68 #[.val (.int p0), .val (.int p1), .val (.int p2), .val (.int p3), .val (.int p4), .val (.int (p0 &&& (15 : Int32))), .val (.int (0 : Int32)), .val (.ref b2), .val (.ref b13)] [(.int (8 : Int32)), (.int (8 : Int32))])) _
        refine XS.icmpYes X15.here hx rfl (pc0 := 68) (pc' := 73) rfl (hb hby at_68) rfl (teq hc68_19).1 (by decide) (by decide) ?_
        show Steps p.tables e below (T15.setTop (mkF m 73 #[.val (.int p0), .val (.int p1), .val (.int p2), .val (.int p3), .val (.int p4), .val (.int (p0 &&& (15 : Int32))), .val (.int (0 : Int32)), .val (.ref b2), .val (.ref b13)] [])) _
        refine XS.aload X15.here hx rfl (hb hby at_73) rfl rfl ?_
        show Steps p.tables e below (T15.setTop (mkF m 75 #[.val (.int p0), .val (.int p1), .val (.int p2), .val (.int p3), .val (.int p4), .val (.int (p0 &&& (15 : Int32))), .val (.int (0 : Int32)), .val (.ref b2), .val (.ref b13)] [(.ref b13)])) _
        refine XS.iconst X15.here hx rfl (hb hby at_75) ?_
        show Steps p.tables e below (T15.setTop (mkF m 76 #[.val (.int p0), .val (.int p1), .val (.int p2), .val (.int p3), .val (.int p4), .val (.int (p0 &&& (15 : Int32))), .val (.int (0 : Int32)), .val (.ref b2), .val (.ref b13)] [(.int (0 : Int32)), (.ref b13)])) _
        refine XS.iload X15.here hx rfl (hb hby at_76) rfl ?_
        show Steps p.tables e below (T15.setTop (mkF m 78 #[.val (.int p0), .val (.int p1), .val (.int p2), .val (.int p3), .val (.int p4), .val (.int (p0 &&& (15 : Int32))), .val (.int (0 : Int32)), .val (.ref b2), .val (.ref b13)] [(.int (0 : Int32)), (.int (0 : Int32)), (.ref b13)])) _
        refine XS.iloadN X15.here hx rfl (hb hby at_78) rfl ?_
        show Steps p.tables e below (T15.setTop (mkF m 79 #[.val (.int p0), .val (.int p1), .val (.int p2), .val (.int p3), .val (.int p4), .val (.int (p0 &&& (15 : Int32))), .val (.int (0 : Int32)), .val (.ref b2), .val (.ref b13)] [(.int p1), (.int (0 : Int32)), (.int (0 : Int32)), (.ref b13)])) _
        refine XS.iloadN X15.here hx rfl (hb hby at_79) rfl ?_
        show Steps p.tables e below (T15.setTop (mkF m 80 #[.val (.int p0), .val (.int p1), .val (.int p2), .val (.int p3), .val (.int p4), .val (.int (p0 &&& (15 : Int32))), .val (.int (0 : Int32)), .val (.ref b2), .val (.ref b13)] [(.int p2), (.int p1), (.int (0 : Int32)), (.int (0 : Int32)), (.ref b13)])) _
        refine XS.iload X15.here hx rfl (hb hby at_80) rfl ?_
        show Steps p.tables e below (T15.setTop (mkF m 82 #[.val (.int p0), .val (.int p1), .val (.int p2), .val (.int p3), .val (.int p4), .val (.int (p0 &&& (15 : Int32))), .val (.int (0 : Int32)), .val (.ref b2), .val (.ref b13)] [(.int p4), (.int p2), (.int p1), (.int (0 : Int32)), (.int (0 : Int32)), (.ref b13)])) _
        exact kt)
    obtain ⟨_, _, ⟨T21, L21, k21, n21⟩, -, X21, ⟨Lc21, hQ21, l21, y21, z21⟩, st21⟩ := Jvm.LawKit.callS X15 hx (y := (⟨"com/example/classweave/classweave/classfile/ClassOutputU4AtPinLaw", "at", "([BIIIII)Z"⟩ : MethodName)) hown (mvT hZ (hw _ (List.mem_of_getElem? (i := 68) rfl))) (mvT hZ (hw _ (List.mem_of_getElem? (i := 69) rfl))) (mvT hZ (hw _ (List.mem_of_getElem? (i := 70) rfl))) (mvT hZ (hw _ (List.mem_of_getElem? (i := 71) rfl))) (by decide) (backOf (W := 0) (rm12 l Z a0 hw [] b13 (0 : Int32) (0 : Int32) p1 p2 p4 (nar .byte (((p4.toUInt32 >>> ((24 : Int32) &&& 31).toUInt32).toInt32).toInt8.toInt32)) [(.int (nar .byte (((p4.toUInt32 >>> ((24 : Int32) &&& 31).toUInt32).toInt32).toInt8.toInt32))), (.int (nar .byte (((p4.toUInt32 >>> ((16 : Int32) &&& 31).toUInt32).toInt32).toInt8.toInt32))), (.int (nar .byte (((p4.toUInt32 >>> ((8 : Int32) &&& 31).toUInt32).toInt32).toInt8.toInt32))), (.int (nar .byte (p4.toInt8.toInt32))), (.int (nar .byte (((((p2.toUInt32 >>> ((16 : Int32) &&& 31).toUInt32).toInt32).toUInt32 >>> ((8 : Int32) &&& 31).toUInt32).toInt32).toInt8.toInt32))), (.int (nar .byte (((p2.toUInt32 >>> ((16 : Int32) &&& 31).toUInt32).toInt32).toInt8.toInt32))), (.int (nar .byte (((p2.toUInt32 >>> ((8 : Int32) &&& 31).toUInt32).toInt32).toInt8.toInt32))), (.int (nar .byte (p2.toInt8.toInt32)))] 0 T13.heap n0 V13 (by decide) (by decide) rfl) hZ (hw _ (List.mem_of_getElem? (i := 71) rfl)) (hw _ (List.mem_of_getElem? (i := 70) rfl)) (by decide) (by decide)) (g := (mkF m 82 #[.val (.int p0), .val (.int p1), .val (.int p2), .val (.int p3), .val (.int p4), .val (.int (p0 &&& (15 : Int32))), .val (.int (0 : Int32)), .val (.ref b2), .val (.ref b13)] [(.int p4), (.int p2), (.int p1), (.int (0 : Int32)), (.int (0 : Int32)), (.ref b13)])) rfl (by rw [hml]; rfl) (argsL := [(.ref b13), (.int (0 : Int32)), (.int (0 : Int32)), (.int p1), (.int p2), (.int p4)]) (rest := []) (lenOf pd_7 rfl) rfl (by show 2 * 0 + _ ≤ _; exact Nat.le_of_eq rfl) (hb hby at_82) (fun _ _ => ⟨rfl, e15, (by decide : 7 + 0 ≤ _), (by decide : 97 + 0 ≤ _)⟩)
    dsimp only [Pt.U, Pt.locs, Pt.cells, Pt.slots] at X21 l21 y21 z21 st21 hQ21
    subst l21 y21 z21
    obtain ⟨rfl, N21q, e21⟩ := hQ21
    have N21 := Fr.app N15 N21q
    have hc85_22 : ¬ ((own_at (nar .byte (((p4.toUInt32 >>> ((24 : Int32) &&& 31).toUInt32).toInt32).toInt8.toInt32)) (0 : Int32) (0 : Int32) p1 p2 p4) = (0 : Int32)) := own_at_0_0 _ _ _
    have go23 : ∀ t, Steps p.tables e below (T21.setTop (mkF m 97 #[.val (.int p0), .val (.int p1), .val (.int p2), .val (.int p3), .val (.int p4), .val (.int (p0 &&& (15 : Int32))), .val (.int (0 : Int32)), .val (.ref b2), .val (.ref b13)] [(.int p4), (.int p2), (.int p1), (.int (0 : Int32)), (.int (1 : Int32)), (.ref b13)])) t → Steps p.tables e below (s₁.setTop (entryFrame m #[(.int p0), (.int p1), (.int p2), (.int p3), (.int p4)] maxLocals)) t := fun t kt => go20 t (by
        refine st21 _ ?_
        show Steps p.tables e below (T21.setTop (mkF m 85 #[.val (.int p0), .val (.int p1), .val (.int p2), .val (.int p3), .val (.int p4), .val (.int (p0 &&& (15 : Int32))), .val (.int (0 : Int32)), .val (.ref b2), .val (.ref b13)] [(.int (own_at (nar .byte (((p4.toUInt32 >>> ((24 : Int32) &&& 31).toUInt32).toInt32).toInt8.toInt32)) (0 : Int32) (0 : Int32) p1 p2 p4))])) _
        refine XS.ifNo X21.here hx rfl (hb hby at_85) rfl ((if0 _ _).trans (feq hc85_22).1) ?_
        show Steps p.tables e below (T21.setTop (mkF m 88 #[.val (.int p0), .val (.int p1), .val (.int p2), .val (.int p3), .val (.int p4), .val (.int (p0 &&& (15 : Int32))), .val (.int (0 : Int32)), .val (.ref b2), .val (.ref b13)] [])) _
        refine XS.aload X21.here hx rfl (hb hby at_88) rfl rfl ?_
        show Steps p.tables e below (T21.setTop (mkF m 90 #[.val (.int p0), .val (.int p1), .val (.int p2), .val (.int p3), .val (.int p4), .val (.int (p0 &&& (15 : Int32))), .val (.int (0 : Int32)), .val (.ref b2), .val (.ref b13)] [(.ref b13)])) _
        refine XS.iconst X21.here hx rfl (hb hby at_90) ?_
        show Steps p.tables e below (T21.setTop (mkF m 91 #[.val (.int p0), .val (.int p1), .val (.int p2), .val (.int p3), .val (.int p4), .val (.int (p0 &&& (15 : Int32))), .val (.int (0 : Int32)), .val (.ref b2), .val (.ref b13)] [(.int (1 : Int32)), (.ref b13)])) _
        refine XS.iload X21.here hx rfl (hb hby at_91) rfl ?_
        show Steps p.tables e below (T21.setTop (mkF m 93 #[.val (.int p0), .val (.int p1), .val (.int p2), .val (.int p3), .val (.int p4), .val (.int (p0 &&& (15 : Int32))), .val (.int (0 : Int32)), .val (.ref b2), .val (.ref b13)] [(.int (0 : Int32)), (.int (1 : Int32)), (.ref b13)])) _
        refine XS.iloadN X21.here hx rfl (hb hby at_93) rfl ?_
        show Steps p.tables e below (T21.setTop (mkF m 94 #[.val (.int p0), .val (.int p1), .val (.int p2), .val (.int p3), .val (.int p4), .val (.int (p0 &&& (15 : Int32))), .val (.int (0 : Int32)), .val (.ref b2), .val (.ref b13)] [(.int p1), (.int (0 : Int32)), (.int (1 : Int32)), (.ref b13)])) _
        refine XS.iloadN X21.here hx rfl (hb hby at_94) rfl ?_
        show Steps p.tables e below (T21.setTop (mkF m 95 #[.val (.int p0), .val (.int p1), .val (.int p2), .val (.int p3), .val (.int p4), .val (.int (p0 &&& (15 : Int32))), .val (.int (0 : Int32)), .val (.ref b2), .val (.ref b13)] [(.int p2), (.int p1), (.int (0 : Int32)), (.int (1 : Int32)), (.ref b13)])) _
        refine XS.iload X21.here hx rfl (hb hby at_95) rfl ?_
        show Steps p.tables e below (T21.setTop (mkF m 97 #[.val (.int p0), .val (.int p1), .val (.int p2), .val (.int p3), .val (.int p4), .val (.int (p0 &&& (15 : Int32))), .val (.int (0 : Int32)), .val (.ref b2), .val (.ref b13)] [(.int p4), (.int p2), (.int p1), (.int (0 : Int32)), (.int (1 : Int32)), (.ref b13)])) _
        exact kt)
    obtain ⟨_, _, ⟨T24, L24, k24, n24⟩, -, X24, ⟨Lc24, hQ24, l24, y24, z24⟩, st24⟩ := Jvm.LawKit.callS X21 hx (y := (⟨"com/example/classweave/classweave/classfile/ClassOutputU4AtPinLaw", "at", "([BIIIII)Z"⟩ : MethodName)) hown (mvT hZ (hw _ (List.mem_of_getElem? (i := 68) rfl))) (mvT hZ (hw _ (List.mem_of_getElem? (i := 69) rfl))) (mvT hZ (hw _ (List.mem_of_getElem? (i := 70) rfl))) (mvT hZ (hw _ (List.mem_of_getElem? (i := 71) rfl))) (by decide) (backOf (W := 0) (rm12 l Z a0 hw [] b13 (1 : Int32) (0 : Int32) p1 p2 p4 (nar .byte (((p4.toUInt32 >>> ((16 : Int32) &&& 31).toUInt32).toInt32).toInt8.toInt32)) [(.int (nar .byte (((p4.toUInt32 >>> ((24 : Int32) &&& 31).toUInt32).toInt32).toInt8.toInt32))), (.int (nar .byte (((p4.toUInt32 >>> ((16 : Int32) &&& 31).toUInt32).toInt32).toInt8.toInt32))), (.int (nar .byte (((p4.toUInt32 >>> ((8 : Int32) &&& 31).toUInt32).toInt32).toInt8.toInt32))), (.int (nar .byte (p4.toInt8.toInt32))), (.int (nar .byte (((((p2.toUInt32 >>> ((16 : Int32) &&& 31).toUInt32).toInt32).toUInt32 >>> ((8 : Int32) &&& 31).toUInt32).toInt32).toInt8.toInt32))), (.int (nar .byte (((p2.toUInt32 >>> ((16 : Int32) &&& 31).toUInt32).toInt32).toInt8.toInt32))), (.int (nar .byte (((p2.toUInt32 >>> ((8 : Int32) &&& 31).toUInt32).toInt32).toInt8.toInt32))), (.int (nar .byte (p2.toInt8.toInt32)))] 1 T13.heap n0 V13 (by decide) (by decide) rfl) hZ (hw _ (List.mem_of_getElem? (i := 71) rfl)) (hw _ (List.mem_of_getElem? (i := 70) rfl)) (by decide) (by decide)) (g := (mkF m 97 #[.val (.int p0), .val (.int p1), .val (.int p2), .val (.int p3), .val (.int p4), .val (.int (p0 &&& (15 : Int32))), .val (.int (0 : Int32)), .val (.ref b2), .val (.ref b13)] [(.int p4), (.int p2), (.int p1), (.int (0 : Int32)), (.int (1 : Int32)), (.ref b13)])) rfl (by rw [hml]; rfl) (argsL := [(.ref b13), (.int (1 : Int32)), (.int (0 : Int32)), (.int p1), (.int p2), (.int p4)]) (rest := []) (lenOf pd_7 rfl) rfl (by show 2 * 0 + _ ≤ _; exact Nat.le_of_eq rfl) (hb hby at_97) (fun _ _ => ⟨rfl, e21, (by decide : 7 + 0 ≤ _), (by decide : 97 + 0 ≤ _)⟩)
    dsimp only [Pt.U, Pt.locs, Pt.cells, Pt.slots] at X24 l24 y24 z24 st24 hQ24
    subst l24 y24 z24
    obtain ⟨rfl, N24q, e24⟩ := hQ24
    have N24 := Fr.app N21 N24q
    have hc100_25 : ¬ ((own_at (nar .byte (((p4.toUInt32 >>> ((16 : Int32) &&& 31).toUInt32).toInt32).toInt8.toInt32)) (1 : Int32) (0 : Int32) p1 p2 p4) = (0 : Int32)) := own_at_0_1 _ _ _
    have go26 : ∀ t, Steps p.tables e below (T24.setTop (mkF m 112 #[.val (.int p0), .val (.int p1), .val (.int p2), .val (.int p3), .val (.int p4), .val (.int (p0 &&& (15 : Int32))), .val (.int (0 : Int32)), .val (.ref b2), .val (.ref b13)] [(.int p4), (.int p2), (.int p1), (.int (0 : Int32)), (.int (2 : Int32)), (.ref b13)])) t → Steps p.tables e below (s₁.setTop (entryFrame m #[(.int p0), (.int p1), (.int p2), (.int p3), (.int p4)] maxLocals)) t := fun t kt => go23 t (by
        refine st24 _ ?_
        show Steps p.tables e below (T24.setTop (mkF m 100 #[.val (.int p0), .val (.int p1), .val (.int p2), .val (.int p3), .val (.int p4), .val (.int (p0 &&& (15 : Int32))), .val (.int (0 : Int32)), .val (.ref b2), .val (.ref b13)] [(.int (own_at (nar .byte (((p4.toUInt32 >>> ((16 : Int32) &&& 31).toUInt32).toInt32).toInt8.toInt32)) (1 : Int32) (0 : Int32) p1 p2 p4))])) _
        refine XS.ifNo X24.here hx rfl (hb hby at_100) rfl ((if0 _ _).trans (feq hc100_25).1) ?_
        show Steps p.tables e below (T24.setTop (mkF m 103 #[.val (.int p0), .val (.int p1), .val (.int p2), .val (.int p3), .val (.int p4), .val (.int (p0 &&& (15 : Int32))), .val (.int (0 : Int32)), .val (.ref b2), .val (.ref b13)] [])) _
        refine XS.aload X24.here hx rfl (hb hby at_103) rfl rfl ?_
        show Steps p.tables e below (T24.setTop (mkF m 105 #[.val (.int p0), .val (.int p1), .val (.int p2), .val (.int p3), .val (.int p4), .val (.int (p0 &&& (15 : Int32))), .val (.int (0 : Int32)), .val (.ref b2), .val (.ref b13)] [(.ref b13)])) _
        refine XS.iconst X24.here hx rfl (hb hby at_105) ?_
        show Steps p.tables e below (T24.setTop (mkF m 106 #[.val (.int p0), .val (.int p1), .val (.int p2), .val (.int p3), .val (.int p4), .val (.int (p0 &&& (15 : Int32))), .val (.int (0 : Int32)), .val (.ref b2), .val (.ref b13)] [(.int (2 : Int32)), (.ref b13)])) _
        refine XS.iload X24.here hx rfl (hb hby at_106) rfl ?_
        show Steps p.tables e below (T24.setTop (mkF m 108 #[.val (.int p0), .val (.int p1), .val (.int p2), .val (.int p3), .val (.int p4), .val (.int (p0 &&& (15 : Int32))), .val (.int (0 : Int32)), .val (.ref b2), .val (.ref b13)] [(.int (0 : Int32)), (.int (2 : Int32)), (.ref b13)])) _
        refine XS.iloadN X24.here hx rfl (hb hby at_108) rfl ?_
        show Steps p.tables e below (T24.setTop (mkF m 109 #[.val (.int p0), .val (.int p1), .val (.int p2), .val (.int p3), .val (.int p4), .val (.int (p0 &&& (15 : Int32))), .val (.int (0 : Int32)), .val (.ref b2), .val (.ref b13)] [(.int p1), (.int (0 : Int32)), (.int (2 : Int32)), (.ref b13)])) _
        refine XS.iloadN X24.here hx rfl (hb hby at_109) rfl ?_
        show Steps p.tables e below (T24.setTop (mkF m 110 #[.val (.int p0), .val (.int p1), .val (.int p2), .val (.int p3), .val (.int p4), .val (.int (p0 &&& (15 : Int32))), .val (.int (0 : Int32)), .val (.ref b2), .val (.ref b13)] [(.int p2), (.int p1), (.int (0 : Int32)), (.int (2 : Int32)), (.ref b13)])) _
        refine XS.iload X24.here hx rfl (hb hby at_110) rfl ?_
        show Steps p.tables e below (T24.setTop (mkF m 112 #[.val (.int p0), .val (.int p1), .val (.int p2), .val (.int p3), .val (.int p4), .val (.int (p0 &&& (15 : Int32))), .val (.int (0 : Int32)), .val (.ref b2), .val (.ref b13)] [(.int p4), (.int p2), (.int p1), (.int (0 : Int32)), (.int (2 : Int32)), (.ref b13)])) _
        exact kt)
    obtain ⟨_, _, ⟨T27, L27, k27, n27⟩, -, X27, ⟨Lc27, hQ27, l27, y27, z27⟩, st27⟩ := Jvm.LawKit.callS X24 hx (y := (⟨"com/example/classweave/classweave/classfile/ClassOutputU4AtPinLaw", "at", "([BIIIII)Z"⟩ : MethodName)) hown (mvT hZ (hw _ (List.mem_of_getElem? (i := 68) rfl))) (mvT hZ (hw _ (List.mem_of_getElem? (i := 69) rfl))) (mvT hZ (hw _ (List.mem_of_getElem? (i := 70) rfl))) (mvT hZ (hw _ (List.mem_of_getElem? (i := 71) rfl))) (by decide) (backOf (W := 0) (rm12 l Z a0 hw [] b13 (2 : Int32) (0 : Int32) p1 p2 p4 (nar .byte (((p4.toUInt32 >>> ((8 : Int32) &&& 31).toUInt32).toInt32).toInt8.toInt32)) [(.int (nar .byte (((p4.toUInt32 >>> ((24 : Int32) &&& 31).toUInt32).toInt32).toInt8.toInt32))), (.int (nar .byte (((p4.toUInt32 >>> ((16 : Int32) &&& 31).toUInt32).toInt32).toInt8.toInt32))), (.int (nar .byte (((p4.toUInt32 >>> ((8 : Int32) &&& 31).toUInt32).toInt32).toInt8.toInt32))), (.int (nar .byte (p4.toInt8.toInt32))), (.int (nar .byte (((((p2.toUInt32 >>> ((16 : Int32) &&& 31).toUInt32).toInt32).toUInt32 >>> ((8 : Int32) &&& 31).toUInt32).toInt32).toInt8.toInt32))), (.int (nar .byte (((p2.toUInt32 >>> ((16 : Int32) &&& 31).toUInt32).toInt32).toInt8.toInt32))), (.int (nar .byte (((p2.toUInt32 >>> ((8 : Int32) &&& 31).toUInt32).toInt32).toInt8.toInt32))), (.int (nar .byte (p2.toInt8.toInt32)))] 2 T13.heap n0 V13 (by decide) (by decide) rfl) hZ (hw _ (List.mem_of_getElem? (i := 71) rfl)) (hw _ (List.mem_of_getElem? (i := 70) rfl)) (by decide) (by decide)) (g := (mkF m 112 #[.val (.int p0), .val (.int p1), .val (.int p2), .val (.int p3), .val (.int p4), .val (.int (p0 &&& (15 : Int32))), .val (.int (0 : Int32)), .val (.ref b2), .val (.ref b13)] [(.int p4), (.int p2), (.int p1), (.int (0 : Int32)), (.int (2 : Int32)), (.ref b13)])) rfl (by rw [hml]; rfl) (argsL := [(.ref b13), (.int (2 : Int32)), (.int (0 : Int32)), (.int p1), (.int p2), (.int p4)]) (rest := []) (lenOf pd_7 rfl) rfl (by show 2 * 0 + _ ≤ _; exact Nat.le_of_eq rfl) (hb hby at_112) (fun _ _ => ⟨rfl, e24, (by decide : 7 + 0 ≤ _), (by decide : 97 + 0 ≤ _)⟩)
    dsimp only [Pt.U, Pt.locs, Pt.cells, Pt.slots] at X27 l27 y27 z27 st27 hQ27
    subst l27 y27 z27
    obtain ⟨rfl, N27q, e27⟩ := hQ27
    have N27 := Fr.app N24 N27q
    have hc115_28 : ¬ ((own_at (nar .byte (((p4.toUInt32 >>> ((8 : Int32) &&& 31).toUInt32).toInt32).toInt8.toInt32)) (2 : Int32) (0 : Int32) p1 p2 p4) = (0 : Int32)) := own_at_0_2 _ _ _
    have go29 : ∀ t, Steps p.tables e below (T27.setTop (mkF m 127 #[.val (.int p0), .val (.int p1), .val (.int p2), .val (.int p3), .val (.int p4), .val (.int (p0 &&& (15 : Int32))), .val (.int (0 : Int32)), .val (.ref b2), .val (.ref b13)] [(.int p4), (.int p2), (.int p1), (.int (0 : Int32)), (.int (3 : Int32)), (.ref b13)])) t → Steps p.tables e below (s₁.setTop (entryFrame m #[(.int p0), (.int p1), (.int p2), (.int p3), (.int p4)] maxLocals)) t := fun t kt => go26 t (by
        refine st27 _ ?_
        show Steps p.tables e below (T27.setTop (mkF m 115 #[.val (.int p0), .val (.int p1), .val (.int p2), .val (.int p3), .val (.int p4), .val (.int (p0 &&& (15 : Int32))), .val (.int (0 : Int32)), .val (.ref b2), .val (.ref b13)] [(.int (own_at (nar .byte (((p4.toUInt32 >>> ((8 : Int32) &&& 31).toUInt32).toInt32).toInt8.toInt32)) (2 : Int32) (0 : Int32) p1 p2 p4))])) _
        refine XS.ifNo X27.here hx rfl (hb hby at_115) rfl ((if0 _ _).trans (feq hc115_28).1) ?_
        show Steps p.tables e below (T27.setTop (mkF m 118 #[.val (.int p0), .val (.int p1), .val (.int p2), .val (.int p3), .val (.int p4), .val (.int (p0 &&& (15 : Int32))), .val (.int (0 : Int32)), .val (.ref b2), .val (.ref b13)] [])) _
        refine XS.aload X27.here hx rfl (hb hby at_118) rfl rfl ?_
        show Steps p.tables e below (T27.setTop (mkF m 120 #[.val (.int p0), .val (.int p1), .val (.int p2), .val (.int p3), .val (.int p4), .val (.int (p0 &&& (15 : Int32))), .val (.int (0 : Int32)), .val (.ref b2), .val (.ref b13)] [(.ref b13)])) _
        refine XS.iconst X27.here hx rfl (hb hby at_120) ?_
        show Steps p.tables e below (T27.setTop (mkF m 121 #[.val (.int p0), .val (.int p1), .val (.int p2), .val (.int p3), .val (.int p4), .val (.int (p0 &&& (15 : Int32))), .val (.int (0 : Int32)), .val (.ref b2), .val (.ref b13)] [(.int (3 : Int32)), (.ref b13)])) _
        refine XS.iload X27.here hx rfl (hb hby at_121) rfl ?_
        show Steps p.tables e below (T27.setTop (mkF m 123 #[.val (.int p0), .val (.int p1), .val (.int p2), .val (.int p3), .val (.int p4), .val (.int (p0 &&& (15 : Int32))), .val (.int (0 : Int32)), .val (.ref b2), .val (.ref b13)] [(.int (0 : Int32)), (.int (3 : Int32)), (.ref b13)])) _
        refine XS.iloadN X27.here hx rfl (hb hby at_123) rfl ?_
        show Steps p.tables e below (T27.setTop (mkF m 124 #[.val (.int p0), .val (.int p1), .val (.int p2), .val (.int p3), .val (.int p4), .val (.int (p0 &&& (15 : Int32))), .val (.int (0 : Int32)), .val (.ref b2), .val (.ref b13)] [(.int p1), (.int (0 : Int32)), (.int (3 : Int32)), (.ref b13)])) _
        refine XS.iloadN X27.here hx rfl (hb hby at_124) rfl ?_
        show Steps p.tables e below (T27.setTop (mkF m 125 #[.val (.int p0), .val (.int p1), .val (.int p2), .val (.int p3), .val (.int p4), .val (.int (p0 &&& (15 : Int32))), .val (.int (0 : Int32)), .val (.ref b2), .val (.ref b13)] [(.int p2), (.int p1), (.int (0 : Int32)), (.int (3 : Int32)), (.ref b13)])) _
        refine XS.iload X27.here hx rfl (hb hby at_125) rfl ?_
        show Steps p.tables e below (T27.setTop (mkF m 127 #[.val (.int p0), .val (.int p1), .val (.int p2), .val (.int p3), .val (.int p4), .val (.int (p0 &&& (15 : Int32))), .val (.int (0 : Int32)), .val (.ref b2), .val (.ref b13)] [(.int p4), (.int p2), (.int p1), (.int (0 : Int32)), (.int (3 : Int32)), (.ref b13)])) _
        exact kt)
    obtain ⟨_, _, ⟨T30, L30, k30, n30⟩, -, X30, ⟨Lc30, hQ30, l30, y30, z30⟩, st30⟩ := Jvm.LawKit.callS X27 hx (y := (⟨"com/example/classweave/classweave/classfile/ClassOutputU4AtPinLaw", "at", "([BIIIII)Z"⟩ : MethodName)) hown (mvT hZ (hw _ (List.mem_of_getElem? (i := 68) rfl))) (mvT hZ (hw _ (List.mem_of_getElem? (i := 69) rfl))) (mvT hZ (hw _ (List.mem_of_getElem? (i := 70) rfl))) (mvT hZ (hw _ (List.mem_of_getElem? (i := 71) rfl))) (by decide) (backOf (W := 0) (rm12 l Z a0 hw [] b13 (3 : Int32) (0 : Int32) p1 p2 p4 (nar .byte (p4.toInt8.toInt32)) [(.int (nar .byte (((p4.toUInt32 >>> ((24 : Int32) &&& 31).toUInt32).toInt32).toInt8.toInt32))), (.int (nar .byte (((p4.toUInt32 >>> ((16 : Int32) &&& 31).toUInt32).toInt32).toInt8.toInt32))), (.int (nar .byte (((p4.toUInt32 >>> ((8 : Int32) &&& 31).toUInt32).toInt32).toInt8.toInt32))), (.int (nar .byte (p4.toInt8.toInt32))), (.int (nar .byte (((((p2.toUInt32 >>> ((16 : Int32) &&& 31).toUInt32).toInt32).toUInt32 >>> ((8 : Int32) &&& 31).toUInt32).toInt32).toInt8.toInt32))), (.int (nar .byte (((p2.toUInt32 >>> ((16 : Int32) &&& 31).toUInt32).toInt32).toInt8.toInt32))), (.int (nar .byte (((p2.toUInt32 >>> ((8 : Int32) &&& 31).toUInt32).toInt32).toInt8.toInt32))), (.int (nar .byte (p2.toInt8.toInt32)))] 3 T13.heap n0 V13 (by decide) (by decide) rfl) hZ (hw _ (List.mem_of_getElem? (i := 71) rfl)) (hw _ (List.mem_of_getElem? (i := 70) rfl)) (by decide) (by decide)) (g := (mkF m 127 #[.val (.int p0), .val (.int p1), .val (.int p2), .val (.int p3), .val (.int p4), .val (.int (p0 &&& (15 : Int32))), .val (.int (0 : Int32)), .val (.ref b2), .val (.ref b13)] [(.int p4), (.int p2), (.int p1), (.int (0 : Int32)), (.int (3 : Int32)), (.ref b13)])) rfl (by rw [hml]; rfl) (argsL := [(.ref b13), (.int (3 : Int32)), (.int (0 : Int32)), (.int p1), (.int p2), (.int p4)]) (rest := []) (lenOf pd_7 rfl) rfl (by show 2 * 0 + _ ≤ _; exact Nat.le_of_eq rfl) (hb hby at_127) (fun _ _ => ⟨rfl, e27, (by decide : 7 + 0 ≤ _), (by decide : 97 + 0 ≤ _)⟩)
    dsimp only [Pt.U, Pt.locs, Pt.cells, Pt.slots] at X30 l30 y30 z30 st30 hQ30
    subst l30 y30 z30
    obtain ⟨rfl, N30q, e30⟩ := hQ30
    have N30 := Fr.app N27 N30q
    have hc130_31 : ¬ ((own_at (nar .byte (p4.toInt8.toInt32)) (3 : Int32) (0 : Int32) p1 p2 p4) = (0 : Int32)) := own_at_0_3 _ _ _
    have go32 : ∀ t, Steps p.tables e below (T30.setTop (mkF m 142 #[.val (.int p0), .val (.int p1), .val (.int p2), .val (.int p3), .val (.int p4), .val (.int (p0 &&& (15 : Int32))), .val (.int (0 : Int32)), .val (.ref b2), .val (.ref b13)] [(.int p4), (.int p2), (.int p1), (.int (0 : Int32)), (.int (4 : Int32)), (.ref b13)])) t → Steps p.tables e below (s₁.setTop (entryFrame m #[(.int p0), (.int p1), (.int p2), (.int p3), (.int p4)] maxLocals)) t := fun t kt => go29 t (by
        refine st30 _ ?_
        show Steps p.tables e below (T30.setTop (mkF m 130 #[.val (.int p0), .val (.int p1), .val (.int p2), .val (.int p3), .val (.int p4), .val (.int (p0 &&& (15 : Int32))), .val (.int (0 : Int32)), .val (.ref b2), .val (.ref b13)] [(.int (own_at (nar .byte (p4.toInt8.toInt32)) (3 : Int32) (0 : Int32) p1 p2 p4))])) _
        refine XS.ifNo X30.here hx rfl (hb hby at_130) rfl ((if0 _ _).trans (feq hc130_31).1) ?_
        show Steps p.tables e below (T30.setTop (mkF m 133 #[.val (.int p0), .val (.int p1), .val (.int p2), .val (.int p3), .val (.int p4), .val (.int (p0 &&& (15 : Int32))), .val (.int (0 : Int32)), .val (.ref b2), .val (.ref b13)] [])) _
        refine XS.aload X30.here hx rfl (hb hby at_133) rfl rfl ?_
        show Steps p.tables e below (T30.setTop (mkF m 135 #[.val (.int p0), .val (.int p1), .val (.int p2), .val (.int p3), .val (.int p4), .val (.int (p0 &&& (15 : Int32))), .val (.int (0 : Int32)), .val (.ref b2), .val (.ref b13)] [(.ref b13)])) _
        refine XS.iconst X30.here hx rfl (hb hby at_135) ?_
        show Steps p.tables e below (T30.setTop (mkF m 136 #[.val (.int p0), .val (.int p1), .val (.int p2), .val (.int p3), .val (.int p4), .val (.int (p0 &&& (15 : Int32))), .val (.int (0 : Int32)), .val (.ref b2), .val (.ref b13)] [(.int (4 : Int32)), (.ref b13)])) _
        refine XS.iload X30.here hx rfl (hb hby at_136) rfl ?_
        show Steps p.tables e below (T30.setTop (mkF m 138 #[.val (.int p0), .val (.int p1), .val (.int p2), .val (.int p3), .val (.int p4), .val (.int (p0 &&& (15 : Int32))), .val (.int (0 : Int32)), .val (.ref b2), .val (.ref b13)] [(.int (0 : Int32)), (.int (4 : Int32)), (.ref b13)])) _
        refine XS.iloadN X30.here hx rfl (hb hby at_138) rfl ?_
        show Steps p.tables e below (T30.setTop (mkF m 139 #[.val (.int p0), .val (.int p1), .val (.int p2), .val (.int p3), .val (.int p4), .val (.int (p0 &&& (15 : Int32))), .val (.int (0 : Int32)), .val (.ref b2), .val (.ref b13)] [(.int p1), (.int (0 : Int32)), (.int (4 : Int32)), (.ref b13)])) _
        refine XS.iloadN X30.here hx rfl (hb hby at_139) rfl ?_
        show Steps p.tables e below (T30.setTop (mkF m 140 #[.val (.int p0), .val (.int p1), .val (.int p2), .val (.int p3), .val (.int p4), .val (.int (p0 &&& (15 : Int32))), .val (.int (0 : Int32)), .val (.ref b2), .val (.ref b13)] [(.int p2), (.int p1), (.int (0 : Int32)), (.int (4 : Int32)), (.ref b13)])) _
        refine XS.iload X30.here hx rfl (hb hby at_140) rfl ?_
        show Steps p.tables e below (T30.setTop (mkF m 142 #[.val (.int p0), .val (.int p1), .val (.int p2), .val (.int p3), .val (.int p4), .val (.int (p0 &&& (15 : Int32))), .val (.int (0 : Int32)), .val (.ref b2), .val (.ref b13)] [(.int p4), (.int p2), (.int p1), (.int (0 : Int32)), (.int (4 : Int32)), (.ref b13)])) _
        exact kt)
    obtain ⟨_, _, ⟨T33, L33, k33, n33⟩, -, X33, ⟨Lc33, hQ33, l33, y33, z33⟩, st33⟩ := Jvm.LawKit.callS X30 hx (y := (⟨"com/example/classweave/classweave/classfile/ClassOutputU4AtPinLaw", "at", "([BIIIII)Z"⟩ : MethodName)) hown (mvT hZ (hw _ (List.mem_of_getElem? (i := 68) rfl))) (mvT hZ (hw _ (List.mem_of_getElem? (i := 69) rfl))) (mvT hZ (hw _ (List.mem_of_getElem? (i := 70) rfl))) (mvT hZ (hw _ (List.mem_of_getElem? (i := 71) rfl))) (by decide) (backOf (W := 0) (rm12 l Z a0 hw [] b13 (4 : Int32) (0 : Int32) p1 p2 p4 (nar .byte (((((p2.toUInt32 >>> ((16 : Int32) &&& 31).toUInt32).toInt32).toUInt32 >>> ((8 : Int32) &&& 31).toUInt32).toInt32).toInt8.toInt32)) [(.int (nar .byte (((p4.toUInt32 >>> ((24 : Int32) &&& 31).toUInt32).toInt32).toInt8.toInt32))), (.int (nar .byte (((p4.toUInt32 >>> ((16 : Int32) &&& 31).toUInt32).toInt32).toInt8.toInt32))), (.int (nar .byte (((p4.toUInt32 >>> ((8 : Int32) &&& 31).toUInt32).toInt32).toInt8.toInt32))), (.int (nar .byte (p4.toInt8.toInt32))), (.int (nar .byte (((((p2.toUInt32 >>> ((16 : Int32) &&& 31).toUInt32).toInt32).toUInt32 >>> ((8 : Int32) &&& 31).toUInt32).toInt32).toInt8.toInt32))), (.int (nar .byte (((p2.toUInt32 >>> ((16 : Int32) &&& 31).toUInt32).toInt32).toInt8.toInt32))), (.int (nar .byte (((p2.toUInt32 >>> ((8 : Int32) &&& 31).toUInt32).toInt32).toInt8.toInt32))), (.int (nar .byte (p2.toInt8.toInt32)))] 4 T13.heap n0 V13 (by decide) (by decide) rfl) hZ (hw _ (List.mem_of_getElem? (i := 71) rfl)) (hw _ (List.mem_of_getElem? (i := 70) rfl)) (by decide) (by decide)) (g := (mkF m 142 #[.val (.int p0), .val (.int p1), .val (.int p2), .val (.int p3), .val (.int p4), .val (.int (p0 &&& (15 : Int32))), .val (.int (0 : Int32)), .val (.ref b2), .val (.ref b13)] [(.int p4), (.int p2), (.int p1), (.int (0 : Int32)), (.int (4 : Int32)), (.ref b13)])) rfl (by rw [hml]; rfl) (argsL := [(.ref b13), (.int (4 : Int32)), (.int (0 : Int32)), (.int p1), (.int p2), (.int p4)]) (rest := []) (lenOf pd_7 rfl) rfl (by show 2 * 0 + _ ≤ _; exact Nat.le_of_eq rfl) (hb hby at_142) (fun _ _ => ⟨rfl, e30, (by decide : 7 + 0 ≤ _), (by decide : 97 + 0 ≤ _)⟩)
    dsimp only [Pt.U, Pt.locs, Pt.cells, Pt.slots] at X33 l33 y33 z33 st33 hQ33
    subst l33 y33 z33
    obtain ⟨rfl, N33q, e33⟩ := hQ33
    have N33 := Fr.app N30 N33q
    have hc145_34 : ¬ ((own_at (nar .byte (((((p2.toUInt32 >>> ((16 : Int32) &&& 31).toUInt32).toInt32).toUInt32 >>> ((8 : Int32) &&& 31).toUInt32).toInt32).toInt8.toInt32)) (4 : Int32) (0 : Int32) p1 p2 p4) = (0 : Int32)) := own_at_0_4 _ _ _
    have go35 : ∀ t, Steps p.tables e below (T33.setTop (mkF m 157 #[.val (.int p0), .val (.int p1), .val (.int p2), .val (.int p3), .val (.int p4), .val (.int (p0 &&& (15 : Int32))), .val (.int (0 : Int32)), .val (.ref b2), .val (.ref b13)] [(.int p4), (.int p2), (.int p1), (.int (0 : Int32)), (.int (5 : Int32)), (.ref b13)])) t → Steps p.tables e below (s₁.setTop (entryFrame m #[(.int p0), (.int p1), (.int p2), (.int p3), (.int p4)] maxLocals)) t := fun t kt => go32 t (by
        refine st33 _ ?_
        show Steps p.tables e below (T33.setTop (mkF m 145 #[.val (.int p0), .val (.int p1), .val (.int p2), .val (.int p3), .val (.int p4), .val (.int (p0 &&& (15 : Int32))), .val (.int (0 : Int32)), .val (.ref b2), .val (.ref b13)] [(.int (own_at (nar .byte (((((p2.toUInt32 >>> ((16 : Int32) &&& 31).toUInt32).toInt32).toUInt32 >>> ((8 : Int32) &&& 31).toUInt32).toInt32).toInt8.toInt32)) (4 : Int32) (0 : Int32) p1 p2 p4))])) _
        refine XS.ifNo X33.here hx rfl (hb hby at_145) rfl ((if0 _ _).trans (feq hc145_34).1) ?_
        show Steps p.tables e below (T33.setTop (mkF m 148 #[.val (.int p0), .val (.int p1), .val (.int p2), .val (.int p3), .val (.int p4), .val (.int (p0 &&& (15 : Int32))), .val (.int (0 : Int32)), .val (.ref b2), .val (.ref b13)] [])) _
        refine XS.aload X33.here hx rfl (hb hby at_148) rfl rfl ?_
        show Steps p.tables e below (T33.setTop (mkF m 150 #[.val (.int p0), .val (.int p1), .val (.int p2), .val (.int p3), .val (.int p4), .val (.int (p0 &&& (15 : Int32))), .val (.int (0 : Int32)), .val (.ref b2), .val (.ref b13)] [(.ref b13)])) _
        refine XS.iconst X33.here hx rfl (hb hby at_150) ?_
        show Steps p.tables e below (T33.setTop (mkF m 151 #[.val (.int p0), .val (.int p1), .val (.int p2), .val (.int p3), .val (.int p4), .val (.int (p0 &&& (15 : Int32))), .val (.int (0 : Int32)), .val (.ref b2), .val (.ref b13)] [(.int (5 : Int32)), (.ref b13)])) _
        refine XS.iload X33.here hx rfl (hb hby at_151) rfl ?_
        show Steps p.tables e below (T33.setTop (mkF m 153 #[.val (.int p0), .val (.int p1), .val (.int p2), .val (.int p3), .val (.int p4), .val (.int (p0 &&& (15 : Int32))), .val (.int (0 : Int32)), .val (.ref b2), .val (.ref b13)] [(.int (0 : Int32)), (.int (5 : Int32)), (.ref b13)])) _
        refine XS.iloadN X33.here hx rfl (hb hby at_153) rfl ?_
        show Steps p.tables e below (T33.setTop (mkF m 154 #[.val (.int p0), .val (.int p1), .val (.int p2), .val (.int p3), .val (.int p4), .val (.int (p0 &&& (15 : Int32))), .val (.int (0 : Int32)), .val (.ref b2), .val (.ref b13)] [(.int p1), (.int (0 : Int32)), (.int (5 : Int32)), (.ref b13)])) _
        refine XS.iloadN X33.here hx rfl (hb hby at_154) rfl ?_
        show Steps p.tables e below (T33.setTop (mkF m 155 #[.val (.int p0), .val (.int p1), .val (.int p2), .val (.int p3), .val (.int p4), .val (.int (p0 &&& (15 : Int32))), .val (.int (0 : Int32)), .val (.ref b2), .val (.ref b13)] [(.int p2), (.int p1), (.int (0 : Int32)), (.int (5 : Int32)), (.ref b13)])) _
        refine XS.iload X33.here hx rfl (hb hby at_155) rfl ?_
        show Steps p.tables e below (T33.setTop (mkF m 157 #[.val (.int p0), .val (.int p1), .val (.int p2), .val (.int p3), .val (.int p4), .val (.int (p0 &&& (15 : Int32))), .val (.int (0 : Int32)), .val (.ref b2), .val (.ref b13)] [(.int p4), (.int p2), (.int p1), (.int (0 : Int32)), (.int (5 : Int32)), (.ref b13)])) _
        exact kt)
    obtain ⟨_, _, ⟨T36, L36, k36, n36⟩, -, X36, ⟨Lc36, hQ36, l36, y36, z36⟩, st36⟩ := Jvm.LawKit.callS X33 hx (y := (⟨"com/example/classweave/classweave/classfile/ClassOutputU4AtPinLaw", "at", "([BIIIII)Z"⟩ : MethodName)) hown (mvT hZ (hw _ (List.mem_of_getElem? (i := 68) rfl))) (mvT hZ (hw _ (List.mem_of_getElem? (i := 69) rfl))) (mvT hZ (hw _ (List.mem_of_getElem? (i := 70) rfl))) (mvT hZ (hw _ (List.mem_of_getElem? (i := 71) rfl))) (by decide) (backOf (W := 0) (rm12 l Z a0 hw [] b13 (5 : Int32) (0 : Int32) p1 p2 p4 (nar .byte (((p2.toUInt32 >>> ((16 : Int32) &&& 31).toUInt32).toInt32).toInt8.toInt32)) [(.int (nar .byte (((p4.toUInt32 >>> ((24 : Int32) &&& 31).toUInt32).toInt32).toInt8.toInt32))), (.int (nar .byte (((p4.toUInt32 >>> ((16 : Int32) &&& 31).toUInt32).toInt32).toInt8.toInt32))), (.int (nar .byte (((p4.toUInt32 >>> ((8 : Int32) &&& 31).toUInt32).toInt32).toInt8.toInt32))), (.int (nar .byte (p4.toInt8.toInt32))), (.int (nar .byte (((((p2.toUInt32 >>> ((16 : Int32) &&& 31).toUInt32).toInt32).toUInt32 >>> ((8 : Int32) &&& 31).toUInt32).toInt32).toInt8.toInt32))), (.int (nar .byte (((p2.toUInt32 >>> ((16 : Int32) &&& 31).toUInt32).toInt32).toInt8.toInt32))), (.int (nar .byte (((p2.toUInt32 >>> ((8 : Int32) &&& 31).toUInt32).toInt32).toInt8.toInt32))), (.int (nar .byte (p2.toInt8.toInt32)))] 5 T13.heap n0 V13 (by decide) (by decide) rfl) hZ (hw _ (List.mem_of_getElem? (i := 71) rfl)) (hw _ (List.mem_of_getElem? (i := 70) rfl)) (by decide) (by decide)) (g := (mkF m 157 #[.val (.int p0), .val (.int p1), .val (.int p2), .val (.int p3), .val (.int p4), .val (.int (p0 &&& (15 : Int32))), .val (.int (0 : Int32)), .val (.ref b2), .val (.ref b13)] [(.int p4), (.int p2), (.int p1), (.int (0 : Int32)), (.int (5 : Int32)), (.ref b13)])) rfl (by rw [hml]; rfl) (argsL := [(.ref b13), (.int (5 : Int32)), (.int (0 : Int32)), (.int p1), (.int p2), (.int p4)]) (rest := []) (lenOf pd_7 rfl) rfl (by show 2 * 0 + _ ≤ _; exact Nat.le_of_eq rfl) (hb hby at_157) (fun _ _ => ⟨rfl, e33, (by decide : 7 + 0 ≤ _), (by decide : 97 + 0 ≤ _)⟩)
    dsimp only [Pt.U, Pt.locs, Pt.cells, Pt.slots] at X36 l36 y36 z36 st36 hQ36
    subst l36 y36 z36
    obtain ⟨rfl, N36q, e36⟩ := hQ36
    have N36 := Fr.app N33 N36q
    have hc160_37 : ¬ ((own_at (nar .byte (((p2.toUInt32 >>> ((16 : Int32) &&& 31).toUInt32).toInt32).toInt8.toInt32)) (5 : Int32) (0 : Int32) p1 p2 p4) = (0 : Int32)) := own_at_0_5 _ _ _
    have go38 : ∀ t, Steps p.tables e below (T36.setTop (mkF m 173 #[.val (.int p0), .val (.int p1), .val (.int p2), .val (.int p3), .val (.int p4), .val (.int (p0 &&& (15 : Int32))), .val (.int (0 : Int32)), .val (.ref b2), .val (.ref b13)] [(.int p4), (.int p2), (.int p1), (.int (0 : Int32)), (.int (6 : Int32)), (.ref b13)])) t → Steps p.tables e below (s₁.setTop (entryFrame m #[(.int p0), (.int p1), (.int p2), (.int p3), (.int p4)] maxLocals)) t := fun t kt => go35 t (by
        refine st36 _ ?_
        show Steps p.tables e below (T36.setTop (mkF m 160 #[.val (.int p0), .val (.int p1), .val (.int p2), .val (.int p3), .val (.int p4), .val (.int (p0 &&& (15 : Int32))), .val (.int (0 : Int32)), .val (.ref b2), .val (.ref b13)] [(.int (own_at (nar .byte (((p2.toUInt32 >>> ((16 : Int32) &&& 31).toUInt32).toInt32).toInt8.toInt32)) (5 : Int32) (0 : Int32) p1 p2 p4))])) _
        refine XS.ifNo X36.here hx rfl (hb hby at_160) rfl ((if0 _ _).trans (feq hc160_37).1) ?_
        show Steps p.tables e below (T36.setTop (mkF m 163 #[.val (.int p0), .val (.int p1), .val (.int p2), .val (.int p3), .val (.int p4), .val (.int (p0 &&& (15 : Int32))), .val (.int (0 : Int32)), .val (.ref b2), .val (.ref b13)] [])) _
        refine XS.aload X36.here hx rfl (hb hby at_163) rfl rfl ?_
        show Steps p.tables e below (T36.setTop (mkF m 165 #[.val (.int p0), .val (.int p1), .val (.int p2), .val (.int p3), .val (.int p4), .val (.int (p0 &&& (15 : Int32))), .val (.int (0 : Int32)), .val (.ref b2), .val (.ref b13)] [(.ref b13)])) _
        refine XS.bipush X36.here hx rfl (hb hby at_165) ?_
        show Steps p.tables e below (T36.setTop (mkF m 167 #[.val (.int p0), .val (.int p1), .val (.int p2), .val (.int p3), .val (.int p4), .val (.int (p0 &&& (15 : Int32))), .val (.int (0 : Int32)), .val (.ref b2), .val (.ref b13)] [(.int (6 : Int32)), (.ref b13)])) _
        refine XS.iload X36.here hx rfl (hb hby at_167) rfl ?_
        show Steps p.tables e below (T36.setTop (mkF m 169 #[.val (.int p0), .val (.int p1), .val (.int p2), .val (.int p3), .val (.int p4), .val (.int (p0 &&& (15 : Int32))), .val (.int (0 : Int32)), .val (.ref b2), .val (.ref b13)] [(.int (0 : Int32)), (.int (6 : Int32)), (.ref b13)])) _
        refine XS.iloadN X36.here hx rfl (hb hby at_169) rfl ?_
        show Steps p.tables e below (T36.setTop (mkF m 170 #[.val (.int p0), .val (.int p1), .val (.int p2), .val (.int p3), .val (.int p4), .val (.int (p0 &&& (15 : Int32))), .val (.int (0 : Int32)), .val (.ref b2), .val (.ref b13)] [(.int p1), (.int (0 : Int32)), (.int (6 : Int32)), (.ref b13)])) _
        refine XS.iloadN X36.here hx rfl (hb hby at_170) rfl ?_
        show Steps p.tables e below (T36.setTop (mkF m 171 #[.val (.int p0), .val (.int p1), .val (.int p2), .val (.int p3), .val (.int p4), .val (.int (p0 &&& (15 : Int32))), .val (.int (0 : Int32)), .val (.ref b2), .val (.ref b13)] [(.int p2), (.int p1), (.int (0 : Int32)), (.int (6 : Int32)), (.ref b13)])) _
        refine XS.iload X36.here hx rfl (hb hby at_171) rfl ?_
        show Steps p.tables e below (T36.setTop (mkF m 173 #[.val (.int p0), .val (.int p1), .val (.int p2), .val (.int p3), .val (.int p4), .val (.int (p0 &&& (15 : Int32))), .val (.int (0 : Int32)), .val (.ref b2), .val (.ref b13)] [(.int p4), (.int p2), (.int p1), (.int (0 : Int32)), (.int (6 : Int32)), (.ref b13)])) _
        exact kt)
    obtain ⟨_, _, ⟨T39, L39, k39, n39⟩, -, X39, ⟨Lc39, hQ39, l39, y39, z39⟩, st39⟩ := Jvm.LawKit.callS X36 hx (y := (⟨"com/example/classweave/classweave/classfile/ClassOutputU4AtPinLaw", "at", "([BIIIII)Z"⟩ : MethodName)) hown (mvT hZ (hw _ (List.mem_of_getElem? (i := 68) rfl))) (mvT hZ (hw _ (List.mem_of_getElem? (i := 69) rfl))) (mvT hZ (hw _ (List.mem_of_getElem? (i := 70) rfl))) (mvT hZ (hw _ (List.mem_of_getElem? (i := 71) rfl))) (by decide) (backOf (W := 0) (rm12 l Z a0 hw [] b13 (6 : Int32) (0 : Int32) p1 p2 p4 (nar .byte (((p2.toUInt32 >>> ((8 : Int32) &&& 31).toUInt32).toInt32).toInt8.toInt32)) [(.int (nar .byte (((p4.toUInt32 >>> ((24 : Int32) &&& 31).toUInt32).toInt32).toInt8.toInt32))), (.int (nar .byte (((p4.toUInt32 >>> ((16 : Int32) &&& 31).toUInt32).toInt32).toInt8.toInt32))), (.int (nar .byte (((p4.toUInt32 >>> ((8 : Int32) &&& 31).toUInt32).toInt32).toInt8.toInt32))), (.int (nar .byte (p4.toInt8.toInt32))), (.int (nar .byte (((((p2.toUInt32 >>> ((16 : Int32) &&& 31).toUInt32).toInt32).toUInt32 >>> ((8 : Int32) &&& 31).toUInt32).toInt32).toInt8.toInt32))), (.int (nar .byte (((p2.toUInt32 >>> ((16 : Int32) &&& 31).toUInt32).toInt32).toInt8.toInt32))), (.int (nar .byte (((p2.toUInt32 >>> ((8 : Int32) &&& 31).toUInt32).toInt32).toInt8.toInt32))), (.int (nar .byte (p2.toInt8.toInt32)))] 6 T13.heap n0 V13 (by decide) (by decide) rfl) hZ (hw _ (List.mem_of_getElem? (i := 71) rfl)) (hw _ (List.mem_of_getElem? (i := 70) rfl)) (by decide) (by decide)) (g := (mkF m 173 #[.val (.int p0), .val (.int p1), .val (.int p2), .val (.int p3), .val (.int p4), .val (.int (p0 &&& (15 : Int32))), .val (.int (0 : Int32)), .val (.ref b2), .val (.ref b13)] [(.int p4), (.int p2), (.int p1), (.int (0 : Int32)), (.int (6 : Int32)), (.ref b13)])) rfl (by rw [hml]; rfl) (argsL := [(.ref b13), (.int (6 : Int32)), (.int (0 : Int32)), (.int p1), (.int p2), (.int p4)]) (rest := []) (lenOf pd_7 rfl) rfl (by show 2 * 0 + _ ≤ _; exact Nat.le_of_eq rfl) (hb hby at_173) (fun _ _ => ⟨rfl, e36, (by decide : 7 + 0 ≤ _), (by decide : 97 + 0 ≤ _)⟩)
    dsimp only [Pt.U, Pt.locs, Pt.cells, Pt.slots] at X39 l39 y39 z39 st39 hQ39
    subst l39 y39 z39
    obtain ⟨rfl, N39q, e39⟩ := hQ39
    have N39 := Fr.app N36 N39q
    have hc176_40 : ¬ ((own_at (nar .byte (((p2.toUInt32 >>> ((8 : Int32) &&& 31).toUInt32).toInt32).toInt8.toInt32)) (6 : Int32) (0 : Int32) p1 p2 p4) = (0 : Int32)) := own_at_0_6 _ _ _
    have go41 : ∀ t, Steps p.tables e below (T39.setTop (mkF m 189 #[.val (.int p0), .val (.int p1), .val (.int p2), .val (.int p3), .val (.int p4), .val (.int (p0 &&& (15 : Int32))), .val (.int (0 : Int32)), .val (.ref b2), .val (.ref b13)] [(.int p4), (.int p2), (.int p1), (.int (0 : Int32)), (.int (7 : Int32)), (.ref b13)])) t → Steps p.tables e below (s₁.setTop (entryFrame m #[(.int p0), (.int p1), (.int p2), (.int p3), (.int p4)] maxLocals)) t := fun t kt => go38 t (by
        refine st39 _ ?_
        show Steps p.tables e below (T39.setTop (mkF m 176 #[.val (.int p0), .val (.int p1), .val (.int p2), .val (.int p3), .val (.int p4), .val (.int (p0 &&& (15 : Int32))), .val (.int (0 : Int32)), .val (.ref b2), .val (.ref b13)] [(.int (own_at (nar .byte (((p2.toUInt32 >>> ((8 : Int32) &&& 31).toUInt32).toInt32).toInt8.toInt32)) (6 : Int32) (0 : Int32) p1 p2 p4))])) _
        refine XS.ifNo X39.here hx rfl (hb hby at_176) rfl ((if0 _ _).trans (feq hc176_40).1) ?_
        show Steps p.tables e below (T39.setTop (mkF m 179 #[.val (.int p0), .val (.int p1), .val (.int p2), .val (.int p3), .val (.int p4), .val (.int (p0 &&& (15 : Int32))), .val (.int (0 : Int32)), .val (.ref b2), .val (.ref b13)] [])) _
        refine XS.aload X39.here hx rfl (hb hby at_179) rfl rfl ?_
        show Steps p.tables e below (T39.setTop (mkF m 181 #[.val (.int p0), .val (.int p1), .val (.int p2), .val (.int p3), .val (.int p4), .val (.int (p0 &&& (15 : Int32))), .val (.int (0 : Int32)), .val (.ref b2), .val (.ref b13)] [(.ref b13)])) _
        refine XS.bipush X39.here hx rfl (hb hby at_181) ?_
        show Steps p.tables e below (T39.setTop (mkF m 183 #[.val (.int p0), .val (.int p1), .val (.int p2), .val (.int p3), .val (.int p4), .val (.int (p0 &&& (15 : Int32))), .val (.int (0 : Int32)), .val (.ref b2), .val (.ref b13)] [(.int (7 : Int32)), (.ref b13)])) _
        refine XS.iload X39.here hx rfl (hb hby at_183) rfl ?_
        show Steps p.tables e below (T39.setTop (mkF m 185 #[.val (.int p0), .val (.int p1), .val (.int p2), .val (.int p3), .val (.int p4), .val (.int (p0 &&& (15 : Int32))), .val (.int (0 : Int32)), .val (.ref b2), .val (.ref b13)] [(.int (0 : Int32)), (.int (7 : Int32)), (.ref b13)])) _
        refine XS.iloadN X39.here hx rfl (hb hby at_185) rfl ?_
        show Steps p.tables e below (T39.setTop (mkF m 186 #[.val (.int p0), .val (.int p1), .val (.int p2), .val (.int p3), .val (.int p4), .val (.int (p0 &&& (15 : Int32))), .val (.int (0 : Int32)), .val (.ref b2), .val (.ref b13)] [(.int p1), (.int (0 : Int32)), (.int (7 : Int32)), (.ref b13)])) _
        refine XS.iloadN X39.here hx rfl (hb hby at_186) rfl ?_
        show Steps p.tables e below (T39.setTop (mkF m 187 #[.val (.int p0), .val (.int p1), .val (.int p2), .val (.int p3), .val (.int p4), .val (.int (p0 &&& (15 : Int32))), .val (.int (0 : Int32)), .val (.ref b2), .val (.ref b13)] [(.int p2), (.int p1), (.int (0 : Int32)), (.int (7 : Int32)), (.ref b13)])) _
        refine XS.iload X39.here hx rfl (hb hby at_187) rfl ?_
        show Steps p.tables e below (T39.setTop (mkF m 189 #[.val (.int p0), .val (.int p1), .val (.int p2), .val (.int p3), .val (.int p4), .val (.int (p0 &&& (15 : Int32))), .val (.int (0 : Int32)), .val (.ref b2), .val (.ref b13)] [(.int p4), (.int p2), (.int p1), (.int (0 : Int32)), (.int (7 : Int32)), (.ref b13)])) _
        exact kt)
    obtain ⟨_, _, ⟨T42, L42, k42, n42⟩, -, X42, ⟨Lc42, hQ42, l42, y42, z42⟩, st42⟩ := Jvm.LawKit.callS X39 hx (y := (⟨"com/example/classweave/classweave/classfile/ClassOutputU4AtPinLaw", "at", "([BIIIII)Z"⟩ : MethodName)) hown (mvT hZ (hw _ (List.mem_of_getElem? (i := 68) rfl))) (mvT hZ (hw _ (List.mem_of_getElem? (i := 69) rfl))) (mvT hZ (hw _ (List.mem_of_getElem? (i := 70) rfl))) (mvT hZ (hw _ (List.mem_of_getElem? (i := 71) rfl))) (by decide) (backOf (W := 0) (rm12 l Z a0 hw [] b13 (7 : Int32) (0 : Int32) p1 p2 p4 (nar .byte (p2.toInt8.toInt32)) [(.int (nar .byte (((p4.toUInt32 >>> ((24 : Int32) &&& 31).toUInt32).toInt32).toInt8.toInt32))), (.int (nar .byte (((p4.toUInt32 >>> ((16 : Int32) &&& 31).toUInt32).toInt32).toInt8.toInt32))), (.int (nar .byte (((p4.toUInt32 >>> ((8 : Int32) &&& 31).toUInt32).toInt32).toInt8.toInt32))), (.int (nar .byte (p4.toInt8.toInt32))), (.int (nar .byte (((((p2.toUInt32 >>> ((16 : Int32) &&& 31).toUInt32).toInt32).toUInt32 >>> ((8 : Int32) &&& 31).toUInt32).toInt32).toInt8.toInt32))), (.int (nar .byte (((p2.toUInt32 >>> ((16 : Int32) &&& 31).toUInt32).toInt32).toInt8.toInt32))), (.int (nar .byte (((p2.toUInt32 >>> ((8 : Int32) &&& 31).toUInt32).toInt32).toInt8.toInt32))), (.int (nar .byte (p2.toInt8.toInt32)))] 7 T13.heap n0 V13 (by decide) (by decide) rfl) hZ (hw _ (List.mem_of_getElem? (i := 71) rfl)) (hw _ (List.mem_of_getElem? (i := 70) rfl)) (by decide) (by decide)) (g := (mkF m 189 #[.val (.int p0), .val (.int p1), .val (.int p2), .val (.int p3), .val (.int p4), .val (.int (p0 &&& (15 : Int32))), .val (.int (0 : Int32)), .val (.ref b2), .val (.ref b13)] [(.int p4), (.int p2), (.int p1), (.int (0 : Int32)), (.int (7 : Int32)), (.ref b13)])) rfl (by rw [hml]; rfl) (argsL := [(.ref b13), (.int (7 : Int32)), (.int (0 : Int32)), (.int p1), (.int p2), (.int p4)]) (rest := []) (lenOf pd_7 rfl) rfl (by show 2 * 0 + _ ≤ _; exact Nat.le_of_eq rfl) (hb hby at_189) (fun _ _ => ⟨rfl, e39, (by decide : 7 + 0 ≤ _), (by decide : 97 + 0 ≤ _)⟩)
    dsimp only [Pt.U, Pt.locs, Pt.cells, Pt.slots] at X42 l42 y42 z42 st42 hQ42
    subst l42 y42 z42
    obtain ⟨rfl, N42q, e42⟩ := hQ42
    have N42 := Fr.app N39 N42q
    have hc192_43 : ¬ ((own_at (nar .byte (p2.toInt8.toInt32)) (7 : Int32) (0 : Int32) p1 p2 p4) = (0 : Int32)) := own_at_0_7 _ _ _
    have go44 : ∀ t, Steps p.tables e below (T42.setTop (mkF m 200 #[.val (.int p0), .val (.int p1), .val (.int p2), .val (.int p3), .val (.int p4), .val (.int (p0 &&& (15 : Int32))), .val (.int (0 : Int32)), .val (.ref b2), .val (.ref b13)] [(.int (1 : Int32))])) t → Steps p.tables e below (s₁.setTop (entryFrame m #[(.int p0), (.int p1), (.int p2), (.int p3), (.int p4)] maxLocals)) t := fun t kt => go41 t (by
        refine st42 _ ?_
        show Steps p.tables e below (T42.setTop (mkF m 192 #[.val (.int p0), .val (.int p1), .val (.int p2), .val (.int p3), .val (.int p4), .val (.int (p0 &&& (15 : Int32))), .val (.int (0 : Int32)), .val (.ref b2), .val (.ref b13)] [(.int (own_at (nar .byte (p2.toInt8.toInt32)) (7 : Int32) (0 : Int32) p1 p2 p4))])) _
        refine XS.ifNo X42.here hx rfl (hb hby at_192) rfl ((if0 _ _).trans (feq hc192_43).1) ?_
        show Steps p.tables e below (T42.setTop (mkF m 195 #[.val (.int p0), .val (.int p1), .val (.int p2), .val (.int p3), .val (.int p4), .val (.int (p0 &&& (15 : Int32))), .val (.int (0 : Int32)), .val (.ref b2), .val (.ref b13)] [])) _
        refine XS.iconst X42.here hx rfl (hb hby at_195) ?_
        show Steps p.tables e below (T42.setTop (mkF m 196 #[.val (.int p0), .val (.int p1), .val (.int p2), .val (.int p3), .val (.int p4), .val (.int (p0 &&& (15 : Int32))), .val (.int (0 : Int32)), .val (.ref b2), .val (.ref b13)] [(.int (1 : Int32))])) _
        refine XS.goto X42.here hx rfl (pc0 := 196) (pc' := 200) rfl (hb hby at_196) (by decide) (by decide) ?_
        show Steps p.tables e below (T42.setTop (mkF m 200 #[.val (.int p0), .val (.int p1), .val (.int p2), .val (.int p3), .val (.int p4), .val (.int (p0 &&& (15 : Int32))), .val (.int (0 : Int32)), .val (.ref b2), .val (.ref b13)] [(.int (1 : Int32))])) _
        exact kt)
    obtain ⟨fs, hr, hrun, hended, hW, hsame⟩ := X42.leave (v := some (.int (1 : Int32))) (fun h => by rw [Bd.returns] at h; cases h)
    refine ⟨_, _, go44 _ (retN X42 hx (t := .boolean) Bd.returns (by simp) (hb hby at_200) hr), hrun, hended, _, _, rfl, ?_, ⟨_, rfl⟩, hW, hsame.mono (by decide) (by decide)⟩
    exact ⟨rfl, N42⟩
  · rw [h5] at go1
    obtain ⟨T45, h45, X45, e45, E45, A45, D45, -, st45⟩ := newO X0 hx hZ hown (hw _ (List.mem_of_getElem? (i := 1) rfl)) (hw _ (List.mem_of_getElem? (i := 2) rfl)) (hw _ (List.mem_of_getElem? (i := 3) rfl)) e0 (g := (mkF m 14 #[.val (.int p0), .val (.int p1), .val (.int p2), .val (.int p3), .val (.int p4), .val (.int (p0 &&& (15 : Int32))), .val (.int (1 : Int32)), .unset, .unset] [])) rfl (hb hby at_14) (by decide) (by decide)
    obtain ⟨b45, g45⟩ : ∃ z, z = h0.size := ⟨_, rfl⟩
    rw [← g45] at A45 D45 st45
    have ks45 : h0.size ≤ h0.size := Nat.le_refl _
    have sz45 : h0.size ≤ b45 := Nat.le_trans ks45 (Nat.le_of_eq g45.symm)
    have gb45 : n0 ≤ b45 := Nat.le_trans Z0 (Nat.le_of_eq g45.symm)
    have F45_bytes : Fld Z h45 b45 "com/example/classweave/classweave/classfile/ClassOutput" "bytes" "[B" .null := D45 (Or.inl (hw _ (List.mem_of_getElem? (i := 12) rfl))) (ty := (.array .byte)) (by decide)
    have F45_size : Fld Z h45 b45 "com/example/classweave/classweave/classfile/ClassOutput" "size" "I" (.int (0 : Int32)) := D45 (Or.inl (hw _ (List.mem_of_getElem? (i := 28) rfl))) (ty := .int) (by decide)
    have go46 : ∀ t, Steps p.tables e below (T45.setTop (mkF m 20 #[.val (.int p0), .val (.int p1), .val (.int p2), .val (.int p3), .val (.int p4), .val (.int (p0 &&& (15 : Int32))), .val (.int (1 : Int32)), .unset, .unset] [(.int (p0 &&& (15 : Int32))), (.ref b45), (.ref b45)])) t → Steps p.tables e below (s₁.setTop (entryFrame m #[(.int p0), (.int p1), (.int p2), (.int p3), (.int p4)] maxLocals)) t := fun t kt => go1 t (by
        refine st45 _ ?_
        show Steps p.tables e below (T45.setTop (mkF m 17 #[.val (.int p0), .val (.int p1), .val (.int p2), .val (.int p3), .val (.int p4), .val (.int (p0 &&& (15 : Int32))), .val (.int (1 : Int32)), .unset, .unset] [(.ref b45)])) _
        refine XS.dup X45.here hx rfl (hb hby at_17) rfl rfl ?_
        show Steps p.tables e below (T45.setTop (mkF m 18 #[.val (.int p0), .val (.int p1), .val (.int p2), .val (.int p3), .val (.int p4), .val (.int (p0 &&& (15 : Int32))), .val (.int (1 : Int32)), .unset, .unset] [(.ref b45), (.ref b45)])) _
        refine XS.iload X45.here hx rfl (hb hby at_18) rfl ?_
        show Steps p.tables e below (T45.setTop (mkF m 20 #[.val (.int p0), .val (.int p1), .val (.int p2), .val (.int p3), .val (.int p4), .val (.int (p0 &&& (15 : Int32))), .val (.int (1 : Int32)), .unset, .unset] [(.int (p0 &&& (15 : Int32))), (.ref b45), (.ref b45)])) _
        exact kt)
    have zs48 := (Nat.le_trans Z0 E45.1)
    obtain ⟨_, _, ⟨T47, L47, k47, n47⟩, -, X47, ⟨Lc47, hQ47, l47, y47, z47⟩, st47⟩ := X45.specialBack hx (y := (⟨"com/example/classweave/classweave/classfile/ClassOutput", "<init>", "(I)V"⟩ : MethodName)) rfl hown (mvT hZ (hw _ (List.mem_of_getElem? (i := 4) rfl))) (mvT hZ (hw _ (List.mem_of_getElem? (i := 5) rfl))) (mvT hZ (hw _ (List.mem_of_getElem? (i := 6) rfl))) (by decide) (backOf (W := 1) (rm1 l Z a0 hw [] b45 (p0 &&& (15 : Int32)) h45 n0 zs48 A45 F45_bytes F45_size gb45 (own_cap p0).1 (own_cap p0).2) hZ (hw _ (List.mem_of_getElem? (i := 6) rfl)) (hw _ (List.mem_of_getElem? (i := 3) rfl)) (by decide) (by decide)) (g := (mkF m 20 #[.val (.int p0), .val (.int p1), .val (.int p2), .val (.int p3), .val (.int p4), .val (.int (p0 &&& (15 : Int32))), .val (.int (1 : Int32)), .unset, .unset] [(.int (p0 &&& (15 : Int32))), (.ref b45), (.ref b45)])) rfl (by rw [hml]; rfl) (Steps.refl _) (a := b45) (argsL := [(.int (p0 &&& (15 : Int32)))]) (rest := [(.ref b45)]) (lenOf pd_0 rfl) rfl (by show 2 * 0 + _ ≤ _; exact Nat.le_of_eq rfl) (hb hby at_20) (fun _ _ => ⟨rfl, e45, (by decide : 1 + 1 ≤ _), (by decide : 2 + 15 ≤ _)⟩)
    dsimp only [Pt.U, Pt.locs, Pt.cells, Pt.slots] at X47 l47 y47 z47 st47 hQ47
    subst l47 y47 z47
    obtain ⟨rfl, N47q, OB47⟩ := hQ47
    have OC47 : own_OB Z T47.heap n0 b45 [] := OB47
    have zs47 : n0 ≤ T47.heap.size := by obtain ⟨_, _, ⟨q, _, _, _, r, _⟩, _⟩ := OC47; exact Nat.le_trans r (Nat.le_of_lt q.lt)
    have N47 := Fr.app N0 N47q
    have go49 : ∀ t, Steps p.tables e below (T47.setTop (mkF m 28 #[.val (.int p0), .val (.int p1), .val (.int p2), .val (.int p3), .val (.int p4), .val (.int (p0 &&& (15 : Int32))), .val (.int (1 : Int32)), .val (.ref b45), .unset] [(.int p1), (.ref b45)])) t → Steps p.tables e below (s₁.setTop (entryFrame m #[(.int p0), (.int p1), (.int p2), (.int p3), (.int p4)] maxLocals)) t := fun t kt => go46 t (by
        refine st47.trans ?_
        show Steps p.tables e below (T47.setTop (mkF m 23 #[.val (.int p0), .val (.int p1), .val (.int p2), .val (.int p3), .val (.int p4), .val (.int (p0 &&& (15 : Int32))), .val (.int (1 : Int32)), .unset, .unset] [(.ref b45)])) _
        refine XS.astore X47.here hx rfl (hb hby at_23) rfl rfl (l' := #[.val (.int p0), .val (.int p1), .val (.int p2), .val (.int p3), .val (.int p4), .val (.int (p0 &&& (15 : Int32))), .val (.int (1 : Int32)), .val (.ref b45), .unset]) rfl ?_
        show Steps p.tables e below (T47.setTop (mkF m 25 #[.val (.int p0), .val (.int p1), .val (.int p2), .val (.int p3), .val (.int p4), .val (.int (p0 &&& (15 : Int32))), .val (.int (1 : Int32)), .val (.ref b45), .unset] [])) _
        refine XS.aload X47.here hx rfl (hb hby at_25) rfl rfl ?_
        show Steps p.tables e below (T47.setTop (mkF m 27 #[.val (.int p0), .val (.int p1), .val (.int p2), .val (.int p3), .val (.int p4), .val (.int (p0 &&& (15 : Int32))), .val (.int (1 : Int32)), .val (.ref b45), .unset] [(.ref b45)])) _
        refine XS.iloadN X47.here hx rfl (hb hby at_27) rfl ?_
        show Steps p.tables e below (T47.setTop (mkF m 28 #[.val (.int p0), .val (.int p1), .val (.int p2), .val (.int p3), .val (.int p4), .val (.int (p0 &&& (15 : Int32))), .val (.int (1 : Int32)), .val (.ref b45), .unset] [(.int p1), (.ref b45)])) _
        exact kt)
    obtain ⟨cq50, kq50, q50a, q50b, q50c⟩ := isOf hZ rfl (by obtain ⟨_, _, ⟨q, _⟩, _⟩ := OC47; exact q)
    obtain ⟨_, _, ⟨T50, L50, k50, n50⟩, -, X50, ⟨Lc50, hQ50, l50, y50, z50⟩, st50⟩ := X47.virtualBack hx (y := (⟨"com/example/classweave/classweave/classfile/ClassOutput", "u4", "(I)V"⟩ : MethodName)) (z := (⟨"com/example/classweave/classweave/classfile/ClassOutput", "u4", "(I)V"⟩ : MethodName)) hown (mvT hZ (hw _ (List.mem_of_getElem? (i := 13) rfl))) (mvT hZ (hw _ (List.mem_of_getElem? (i := 14) rfl))) (notFace_of_selects (args := #[]) (mvT hZ (hw _ (List.mem_of_getElem? (i := 16) rfl)))) (mvT hZ (hw _ (List.mem_of_getElem? (i := 16) rfl))) (mvT hZ (hw _ (List.mem_of_getElem? (i := 15) rfl))) (by decide) (backOf (W := 0) (rm3 l Z a0 hw [] b45 p1 [] T47.heap n0 zs47 OC47 (by decide)) hZ (hw _ (List.mem_of_getElem? (i := 17) rfl)) (hw _ (List.mem_of_getElem? (i := 3) rfl)) (by decide) (by decide)) q50a q50c (g := (mkF m 28 #[.val (.int p0), .val (.int p1), .val (.int p2), .val (.int p3), .val (.int p4), .val (.int (p0 &&& (15 : Int32))), .val (.int (1 : Int32)), .val (.ref b45), .unset] [(.int p1), (.ref b45)])) rfl (by rw [hml]; rfl) (Steps.refl _) (argsL := [(.int p1)]) (rest := []) (lenOf pd_0 rfl) rfl (by show 2 * 0 + _ ≤ _; exact Nat.le_of_eq rfl) (hb hby at_28) (fun _ _ => ⟨rfl, rfl, (by decide : 2 + 2 ≤ _), (by decide : 17 + 32 ≤ _)⟩)
    dsimp only [Pt.U, Pt.locs, Pt.cells, Pt.slots] at X50 l50 y50 z50 st50 hQ50
    subst l50 y50 z50
    obtain ⟨rfl, N50q, OB50⟩ := hQ50
    have OC50 : own_OB Z T50.heap n0 b45 [(nar .byte (((((p1.toUInt32 >>> ((16 : Int32) &&& 31).toUInt32).toInt32).toUInt32 >>> ((8 : Int32) &&& 31).toUInt32).toInt32).toInt8.toInt32)), (nar .byte (((p1.toUInt32 >>> ((16 : Int32) &&& 31).toUInt32).toInt32).toInt8.toInt32)), (nar .byte (((p1.toUInt32 >>> ((8 : Int32) &&& 31).toUInt32).toInt32).toInt8.toInt32)), (nar .byte (p1.toInt8.toInt32))] := OB50
    have zs50 : n0 ≤ T50.heap.size := by obtain ⟨_, _, ⟨q, _, _, _, r, _⟩, _⟩ := OC50; exact Nat.le_trans r (Nat.le_of_lt q.lt)
    have N50 := Fr.app N47 N50q
    have go51 : ∀ t, Steps p.tables e below (T50.setTop (mkF m 34 #[.val (.int p0), .val (.int p1), .val (.int p2), .val (.int p3), .val (.int p4), .val (.int (p0 &&& (15 : Int32))), .val (.int (1 : Int32)), .val (.ref b45), .unset] [(.int p2), (.ref b45)])) t → Steps p.tables e below (s₁.setTop (entryFrame m #[(.int p0), (.int p1), (.int p2), (.int p3), (.int p4)] maxLocals)) t := fun t kt => go49 t (by
        refine st50.trans ?_
        show Steps p.tables e below (T50.setTop (mkF m 31 #[.val (.int p0), .val (.int p1), .val (.int p2), .val (.int p3), .val (.int p4), .val (.int (p0 &&& (15 : Int32))), .val (.int (1 : Int32)), .val (.ref b45), .unset] [])) _
        refine XS.aload X50.here hx rfl (hb hby at_31) rfl rfl ?_
        show Steps p.tables e below (T50.setTop (mkF m 33 #[.val (.int p0), .val (.int p1), .val (.int p2), .val (.int p3), .val (.int p4), .val (.int (p0 &&& (15 : Int32))), .val (.int (1 : Int32)), .val (.ref b45), .unset] [(.ref b45)])) _
        refine XS.iloadN X50.here hx rfl (hb hby at_33) rfl ?_
        show Steps p.tables e below (T50.setTop (mkF m 34 #[.val (.int p0), .val (.int p1), .val (.int p2), .val (.int p3), .val (.int p4), .val (.int (p0 &&& (15 : Int32))), .val (.int (1 : Int32)), .val (.ref b45), .unset] [(.int p2), (.ref b45)])) _
        exact kt)
    obtain ⟨cq52, kq52, q52a, q52b, q52c⟩ := isOf hZ rfl (by obtain ⟨_, _, ⟨q, _⟩, _⟩ := OC50; exact q)
    obtain ⟨_, _, ⟨T52, L52, k52, n52⟩, -, X52, ⟨Lc52, hQ52, l52, y52, z52⟩, st52⟩ := X50.virtualBack hx (y := (⟨"com/example/classweave/classweave/classfile/ClassOutput", "u4", "(I)V"⟩ : MethodName)) (z := (⟨"com/example/classweave/classweave/classfile/ClassOutput", "u4", "(I)V"⟩ : MethodName)) hown (mvT hZ (hw _ (List.mem_of_getElem? (i := 13) rfl))) (mvT hZ (hw _ (List.mem_of_getElem? (i := 14) rfl))) (notFace_of_selects (args := #[]) (mvT hZ (hw _ (List.mem_of_getElem? (i := 16) rfl)))) (mvT hZ (hw _ (List.mem_of_getElem? (i := 16) rfl))) (mvT hZ (hw _ (List.mem_of_getElem? (i := 15) rfl))) (by decide) (backOf (W := 0) (rm3 l Z a0 hw [] b45 p2 [(nar .byte (((((p1.toUInt32 >>> ((16 : Int32) &&& 31).toUInt32).toInt32).toUInt32 >>> ((8 : Int32) &&& 31).toUInt32).toInt32).toInt8.toInt32)), (nar .byte (((p1.toUInt32 >>> ((16 : Int32) &&& 31).toUInt32).toInt32).toInt8.toInt32)), (nar .byte (((p1.toUInt32 >>> ((8 : Int32) &&& 31).toUInt32).toInt32).toInt8.toInt32)), (nar .byte (p1.toInt8.toInt32))] T50.heap n0 zs50 OC50 (Nat.le_of_eq rfl)) hZ (hw _ (List.mem_of_getElem? (i := 17) rfl)) (hw _ (List.mem_of_getElem? (i := 3) rfl)) (by decide) (by decide)) q52a q52c (g := (mkF m 34 #[.val (.int p0), .val (.int p1), .val (.int p2), .val (.int p3), .val (.int p4), .val (.int (p0 &&& (15 : Int32))), .val (.int (1 : Int32)), .val (.ref b45), .unset] [(.int p2), (.ref b45)])) rfl (by rw [hml]; rfl) (Steps.refl _) (argsL := [(.int p2)]) (rest := []) (lenOf pd_0 rfl) rfl (by show 2 * 0 + _ ≤ _; exact Nat.le_of_eq rfl) (hb hby at_34) (fun _ _ => ⟨rfl, rfl, (by decide : 4 + 2 ≤ _), (by decide : 49 + 32 ≤ _)⟩)
    dsimp only [Pt.U, Pt.locs, Pt.cells, Pt.slots] at X52 l52 y52 z52 st52 hQ52
    subst l52 y52 z52
    obtain ⟨rfl, N52q, OB52⟩ := hQ52
    have OC52 : own_OB Z T52.heap n0 b45 [(nar .byte (((((p1.toUInt32 >>> ((16 : Int32) &&& 31).toUInt32).toInt32).toUInt32 >>> ((8 : Int32) &&& 31).toUInt32).toInt32).toInt8.toInt32)), (nar .byte (((p1.toUInt32 >>> ((16 : Int32) &&& 31).toUInt32).toInt32).toInt8.toInt32)), (nar .byte (((p1.toUInt32 >>> ((8 : Int32) &&& 31).toUInt32).toInt32).toInt8.toInt32)), (nar .byte (p1.toInt8.toInt32)), (nar .byte (((((p2.toUInt32 >>> ((16 : Int32) &&& 31).toUInt32).toInt32).toUInt32 >>> ((8 : Int32) &&& 31).toUInt32).toInt32).toInt8.toInt32)), (nar .byte (((p2.toUInt32 >>> ((16 : Int32) &&& 31).toUInt32).toInt32).toInt8.toInt32)), (nar .byte (((p2.toUInt32 >>> ((8 : Int32) &&& 31).toUInt32).toInt32).toInt8.toInt32)), (nar .byte (p2.toInt8.toInt32))] := OB52
    have zs52 : n0 ≤ T52.heap.size := by obtain ⟨_, _, ⟨q, _, _, _, r, _⟩, _⟩ := OC52; exact Nat.le_trans r (Nat.le_of_lt q.lt)
    have N52 := Fr.app N50 N52q
    have go53 : ∀ t, Steps p.tables e below (T52.setTop (mkF m 43 #[.val (.int p0), .val (.int p1), .val (.int p2), .val (.int p3), .val (.int p4), .val (.int (p0 &&& (15 : Int32))), .val (.int (1 : Int32)), .val (.ref b45), .unset] [(.int p4), (.int (1 : Int32)), (.ref b45)])) t → Steps p.tables e below (s₁.setTop (entryFrame m #[(.int p0), (.int p1), (.int p2), (.int p3), (.int p4)] maxLocals)) t := fun t kt => go51 t (by
        refine st52.trans ?_
        show Steps p.tables e below (T52.setTop (mkF m 37 #[.val (.int p0), .val (.int p1), .val (.int p2), .val (.int p3), .val (.int p4), .val (.int (p0 &&& (15 : Int32))), .val (.int (1 : Int32)), .val (.ref b45), .unset] [])) _
        refine XS.aload X52.here hx rfl (hb hby at_37) rfl rfl ?_
        show Steps p.tables e below (T52.setTop (mkF m 39 #[.val (.int p0), .val (.int p1), .val (.int p2), .val (.int p3), .val (.int p4), .val (.int (p0 &&& (15 : Int32))), .val (.int (1 : Int32)), .val (.ref b45), .unset] [(.ref b45)])) _
        refine XS.iload X52.here hx rfl (hb hby at_39) rfl ?_
        show Steps p.tables e below (T52.setTop (mkF m 41 #[.val (.int p0), .val (.int p1), .val (.int p2), .val (.int p3), .val (.int p4), .val (.int (p0 &&& (15 : Int32))), .val (.int (1 : Int32)), .val (.ref b45), .unset] [(.int (1 : Int32)), (.ref b45)])) _
        refine XS.iload X52.here hx rfl (hb hby at_41) rfl ?_
        show Steps p.tables e below (T52.setTop (mkF m 43 #[.val (.int p0), .val (.int p1), .val (.int p2), .val (.int p3), .val (.int p4), .val (.int (p0 &&& (15 : Int32))), .val (.int (1 : Int32)), .val (.ref b45), .unset] [(.int p4), (.int (1 : Int32)), (.ref b45)])) _
        exact kt)
    obtain ⟨cq54, kq54, q54a, q54b, q54c⟩ := isOf hZ rfl (by obtain ⟨_, _, ⟨q, _⟩, _⟩ := OC52; exact q)
    obtain ⟨_, _, ⟨T54, L54, k54, n54⟩, -, X54, ⟨Lc54, hQ54, l54, y54, z54⟩, st54⟩ := X52.virtualBack hx (y := (⟨"com/example/classweave/classweave/classfile/ClassOutput", "u4At", "(II)V"⟩ : MethodName)) (z := (⟨"com/example/classweave/classweave/classfile/ClassOutput", "u4At", "(II)V"⟩ : MethodName)) hown (mvT hZ (hw _ (List.mem_of_getElem? (i := 44) rfl))) (mvT hZ (hw _ (List.mem_of_getElem? (i := 45) rfl))) (notFace_of_selects (args := #[]) (mvT hZ (hw _ (List.mem_of_getElem? (i := 47) rfl)))) (mvT hZ (hw _ (List.mem_of_getElem? (i := 47) rfl))) (mvT hZ (hw _ (List.mem_of_getElem? (i := 46) rfl))) (by decide) (backOf (W := 0) (rm9 l Z a0 hw [] b45 (1 : Int32) p4 [(nar .byte (((((p1.toUInt32 >>> ((16 : Int32) &&& 31).toUInt32).toInt32).toUInt32 >>> ((8 : Int32) &&& 31).toUInt32).toInt32).toInt8.toInt32)), (nar .byte (((p1.toUInt32 >>> ((16 : Int32) &&& 31).toUInt32).toInt32).toInt8.toInt32)), (nar .byte (((p1.toUInt32 >>> ((8 : Int32) &&& 31).toUInt32).toInt32).toInt8.toInt32)), (nar .byte (p1.toInt8.toInt32)), (nar .byte (((((p2.toUInt32 >>> ((16 : Int32) &&& 31).toUInt32).toInt32).toUInt32 >>> ((8 : Int32) &&& 31).toUInt32).toInt32).toInt8.toInt32)), (nar .byte (((p2.toUInt32 >>> ((16 : Int32) &&& 31).toUInt32).toInt32).toInt8.toInt32)), (nar .byte (((p2.toUInt32 >>> ((8 : Int32) &&& 31).toUInt32).toInt32).toInt8.toInt32)), (nar .byte (p2.toInt8.toInt32))] 1 T52.heap n0 zs52 OC52 (by show 1 + 4 ≤ 8; decide) (by decide) (by decide) (by decide) (by decide) (by decide) (by decide) (by decide) (by decide)) hZ (hw _ (List.mem_of_getElem? (i := 48) rfl)) (hw _ (List.mem_of_getElem? (i := 3) rfl)) (by decide) (by decide)) q54a q54c (g := (mkF m 43 #[.val (.int p0), .val (.int p1), .val (.int p2), .val (.int p3), .val (.int p4), .val (.int (p0 &&& (15 : Int32))), .val (.int (1 : Int32)), .val (.ref b45), .unset] [(.int p4), (.int (1 : Int32)), (.ref b45)])) rfl (by rw [hml]; rfl) (Steps.refl _) (argsL := [(.int (1 : Int32)), (.int p4)]) (rest := []) (lenOf pd_4 rfl) rfl (by show 2 * 0 + _ ≤ _; exact Nat.le_of_eq rfl) (hb hby at_43) (fun _ _ => ⟨rfl, rfl, (by decide : 6 + 0 ≤ _), (by decide : 81 + 0 ≤ _)⟩)
    dsimp only [Pt.U, Pt.locs, Pt.cells, Pt.slots] at X54 l54 y54 z54 st54 hQ54
    subst l54 y54 z54
    obtain ⟨rfl, N54q, OB54⟩ := hQ54
    have OC54 : own_OB Z T54.heap n0 b45 [(nar .byte (((((p1.toUInt32 >>> ((16 : Int32) &&& 31).toUInt32).toInt32).toUInt32 >>> ((8 : Int32) &&& 31).toUInt32).toInt32).toInt8.toInt32)), (nar .byte (((p4.toUInt32 >>> ((24 : Int32) &&& 31).toUInt32).toInt32).toInt8.toInt32)), (nar .byte (((p4.toUInt32 >>> ((16 : Int32) &&& 31).toUInt32).toInt32).toInt8.toInt32)), (nar .byte (((p4.toUInt32 >>> ((8 : Int32) &&& 31).toUInt32).toInt32).toInt8.toInt32)), (nar .byte (p4.toInt8.toInt32)), (nar .byte (((p2.toUInt32 >>> ((16 : Int32) &&& 31).toUInt32).toInt32).toInt8.toInt32)), (nar .byte (((p2.toUInt32 >>> ((8 : Int32) &&& 31).toUInt32).toInt32).toInt8.toInt32)), (nar .byte (p2.toInt8.toInt32))] := OB54
    have zs54 : n0 ≤ T54.heap.size := by obtain ⟨_, _, ⟨q, _, _, _, r, _⟩, _⟩ := OC54; exact Nat.le_trans r (Nat.le_of_lt q.lt)
    have N54 := Fr.app N52 N54q
    have go55 : ∀ t, Steps p.tables e below (T54.setTop (mkF m 48 #[.val (.int p0), .val (.int p1), .val (.int p2), .val (.int p3), .val (.int p4), .val (.int (p0 &&& (15 : Int32))), .val (.int (1 : Int32)), .val (.ref b45), .unset] [(.ref b45)])) t → Steps p.tables e below (s₁.setTop (entryFrame m #[(.int p0), (.int p1), (.int p2), (.int p3), (.int p4)] maxLocals)) t := fun t kt => go53 t (by
        refine st54.trans ?_
        show Steps p.tables e below (T54.setTop (mkF m 46 #[.val (.int p0), .val (.int p1), .val (.int p2), .val (.int p3), .val (.int p4), .val (.int (p0 &&& (15 : Int32))), .val (.int (1 : Int32)), .val (.ref b45), .unset] [])) _
        refine XS.aload X54.here hx rfl (hb hby at_46) rfl rfl ?_
        show Steps p.tables e below (T54.setTop (mkF m 48 #[.val (.int p0), .val (.int p1), .val (.int p2), .val (.int p3), .val (.int p4), .val (.int (p0 &&& (15 : Int32))), .val (.int (1 : Int32)), .val (.ref b45), .unset] [(.ref b45)])) _
        exact kt)
    obtain ⟨cq56, kq56, q56a, q56b, q56c⟩ := isOf hZ rfl (by obtain ⟨_, _, ⟨q, _⟩, _⟩ := OC54; exact q)
    obtain ⟨_, _, ⟨T56, L56, k56, n56⟩, -, X56, ⟨Lc56, hQ56, l56, y56, z56⟩, st56⟩ := X54.virtualBack hx (y := (⟨"com/example/classweave/classweave/classfile/ClassOutput", "toByteArray", "()[B"⟩ : MethodName)) (z := (⟨"com/example/classweave/classweave/classfile/ClassOutput", "toByteArray", "()[B"⟩ : MethodName)) hown (mvT hZ (hw _ (List.mem_of_getElem? (i := 49) rfl))) (mvT hZ (hw _ (List.mem_of_getElem? (i := 50) rfl))) (notFace_of_selects (args := #[]) (mvT hZ (hw _ (List.mem_of_getElem? (i := 52) rfl)))) (mvT hZ (hw _ (List.mem_of_getElem? (i := 52) rfl))) (mvT hZ (hw _ (List.mem_of_getElem? (i := 51) rfl))) (by decide) (backOf (W := 0) (rm10 l Z a0 hw [] b45 [(nar .byte (((((p1.toUInt32 >>> ((16 : Int32) &&& 31).toUInt32).toInt32).toUInt32 >>> ((8 : Int32) &&& 31).toUInt32).toInt32).toInt8.toInt32)), (nar .byte (((p4.toUInt32 >>> ((24 : Int32) &&& 31).toUInt32).toInt32).toInt8.toInt32)), (nar .byte (((p4.toUInt32 >>> ((16 : Int32) &&& 31).toUInt32).toInt32).toInt8.toInt32)), (nar .byte (((p4.toUInt32 >>> ((8 : Int32) &&& 31).toUInt32).toInt32).toInt8.toInt32)), (nar .byte (p4.toInt8.toInt32)), (nar .byte (((p2.toUInt32 >>> ((16 : Int32) &&& 31).toUInt32).toInt32).toInt8.toInt32)), (nar .byte (((p2.toUInt32 >>> ((8 : Int32) &&& 31).toUInt32).toInt32).toInt8.toInt32)), (nar .byte (p2.toInt8.toInt32))] T54.heap n0 zs54 OC54) hZ (hw _ (List.mem_of_getElem? (i := 53) rfl)) (hw _ (List.mem_of_getElem? (i := 3) rfl)) (by decide) (by decide)) q56a q56c (g := (mkF m 48 #[.val (.int p0), .val (.int p1), .val (.int p2), .val (.int p3), .val (.int p4), .val (.int (p0 &&& (15 : Int32))), .val (.int (1 : Int32)), .val (.ref b45), .unset] [(.ref b45)])) rfl (by rw [hml]; rfl) (Steps.refl _) (argsL := []) (rest := []) (lenOf pd_5 rfl) rfl (by show 2 * 0 + _ ≤ _; exact Nat.le_of_eq rfl) (hb hby at_48) (fun _ _ => ⟨rfl, rfl, (by decide : 6 + 1 ≤ _), (by decide : 81 + 16 ≤ _)⟩)
    dsimp only [Pt.U, Pt.locs, Pt.cells, Pt.slots] at X56 l56 y56 z56 st56 hQ56
    subst l56 y56 z56
    obtain ⟨b56, rfl, N56q, OB56, Vq56⟩ := hQ56
    have OC56 : own_OB Z T56.heap n0 b45 [(nar .byte (((((p1.toUInt32 >>> ((16 : Int32) &&& 31).toUInt32).toInt32).toUInt32 >>> ((8 : Int32) &&& 31).toUInt32).toInt32).toInt8.toInt32)), (nar .byte (((p4.toUInt32 >>> ((24 : Int32) &&& 31).toUInt32).toInt32).toInt8.toInt32)), (nar .byte (((p4.toUInt32 >>> ((16 : Int32) &&& 31).toUInt32).toInt32).toInt8.toInt32)), (nar .byte (((p4.toUInt32 >>> ((8 : Int32) &&& 31).toUInt32).toInt32).toInt8.toInt32)), (nar .byte (p4.toInt8.toInt32)), (nar .byte (((p2.toUInt32 >>> ((16 : Int32) &&& 31).toUInt32).toInt32).toInt8.toInt32)), (nar .byte (((p2.toUInt32 >>> ((8 : Int32) &&& 31).toUInt32).toInt32).toInt8.toInt32)), (nar .byte (p2.toInt8.toInt32))] := OB56
    have zs56 : n0 ≤ T56.heap.size := by obtain ⟨_, _, ⟨q, _, _, _, r, _⟩, _⟩ := OC56; exact Nat.le_trans r (Nat.le_of_lt q.lt)
    have V56 : own_AV Z T56.heap b56 .byte [(.int (nar .byte (((((p1.toUInt32 >>> ((16 : Int32) &&& 31).toUInt32).toInt32).toUInt32 >>> ((8 : Int32) &&& 31).toUInt32).toInt32).toInt8.toInt32))), (.int (nar .byte (((p4.toUInt32 >>> ((24 : Int32) &&& 31).toUInt32).toInt32).toInt8.toInt32))), (.int (nar .byte (((p4.toUInt32 >>> ((16 : Int32) &&& 31).toUInt32).toInt32).toInt8.toInt32))), (.int (nar .byte (((p4.toUInt32 >>> ((8 : Int32) &&& 31).toUInt32).toInt32).toInt8.toInt32))), (.int (nar .byte (p4.toInt8.toInt32))), (.int (nar .byte (((p2.toUInt32 >>> ((16 : Int32) &&& 31).toUInt32).toInt32).toInt8.toInt32))), (.int (nar .byte (((p2.toUInt32 >>> ((8 : Int32) &&& 31).toUInt32).toInt32).toInt8.toInt32))), (.int (nar .byte (p2.toInt8.toInt32)))] := Vq56
    have N56 := Fr.app N54 N56q
    have go57 : ∀ t, Steps p.tables e below (T56.setTop (mkF m 55 #[.val (.int p0), .val (.int p1), .val (.int p2), .val (.int p3), .val (.int p4), .val (.int (p0 &&& (15 : Int32))), .val (.int (1 : Int32)), .val (.ref b45), .val (.ref b56)] [(.ref b45)])) t → Steps p.tables e below (s₁.setTop (entryFrame m #[(.int p0), (.int p1), (.int p2), (.int p3), (.int p4)] maxLocals)) t := fun t kt => go55 t (by
        refine st56.trans ?_
        show Steps p.tables e below (T56.setTop (mkF m 51 #[.val (.int p0), .val (.int p1), .val (.int p2), .val (.int p3), .val (.int p4), .val (.int (p0 &&& (15 : Int32))), .val (.int (1 : Int32)), .val (.ref b45), .unset] [(.ref b56)])) _
        refine XS.astore X56.here hx rfl (hb hby at_51) rfl rfl (l' := #[.val (.int p0), .val (.int p1), .val (.int p2), .val (.int p3), .val (.int p4), .val (.int (p0 &&& (15 : Int32))), .val (.int (1 : Int32)), .val (.ref b45), .val (.ref b56)]) rfl ?_
        show Steps p.tables e below (T56.setTop (mkF m 53 #[.val (.int p0), .val (.int p1), .val (.int p2), .val (.int p3), .val (.int p4), .val (.int (p0 &&& (15 : Int32))), .val (.int (1 : Int32)), .val (.ref b45), .val (.ref b56)] [])) _
        refine XS.aload X56.here hx rfl (hb hby at_53) rfl rfl ?_
        show Steps p.tables e below (T56.setTop (mkF m 55 #[.val (.int p0), .val (.int p1), .val (.int p2), .val (.int p3), .val (.int p4), .val (.int (p0 &&& (15 : Int32))), .val (.int (1 : Int32)), .val (.ref b45), .val (.ref b56)] [(.ref b45)])) _
        exact kt)
    obtain ⟨cq58, kq58, q58a, q58b, q58c⟩ := isOf hZ rfl (by obtain ⟨_, _, ⟨q, _⟩, _⟩ := OC56; exact q)
    obtain ⟨_, _, ⟨T58, L58, k58, n58⟩, -, X58, ⟨Lc58, hQ58, l58, y58, z58⟩, st58⟩ := X56.virtualBack hx (y := (⟨"com/example/classweave/classweave/classfile/ClassOutput", "size", "()I"⟩ : MethodName)) (z := (⟨"com/example/classweave/classweave/classfile/ClassOutput", "size", "()I"⟩ : MethodName)) hown (mvT hZ (hw _ (List.mem_of_getElem? (i := 63) rfl))) (mvT hZ (hw _ (List.mem_of_getElem? (i := 64) rfl))) (notFace_of_selects (args := #[]) (mvT hZ (hw _ (List.mem_of_getElem? (i := 66) rfl)))) (mvT hZ (hw _ (List.mem_of_getElem? (i := 66) rfl))) (mvT hZ (hw _ (List.mem_of_getElem? (i := 65) rfl))) (by decide) (backOf (W := 0) (rm11 l Z a0 hw [] b45 [(nar .byte (((((p1.toUInt32 >>> ((16 : Int32) &&& 31).toUInt32).toInt32).toUInt32 >>> ((8 : Int32) &&& 31).toUInt32).toInt32).toInt8.toInt32)), (nar .byte (((p4.toUInt32 >>> ((24 : Int32) &&& 31).toUInt32).toInt32).toInt8.toInt32)), (nar .byte (((p4.toUInt32 >>> ((16 : Int32) &&& 31).toUInt32).toInt32).toInt8.toInt32)), (nar .byte (((p4.toUInt32 >>> ((8 : Int32) &&& 31).toUInt32).toInt32).toInt8.toInt32)), (nar .byte (p4.toInt8.toInt32)), (nar .byte (((p2.toUInt32 >>> ((16 : Int32) &&& 31).toUInt32).toInt32).toInt8.toInt32)), (nar .byte (((p2.toUInt32 >>> ((8 : Int32) &&& 31).toUInt32).toInt32).toInt8.toInt32)), (nar .byte (p2.toInt8.toInt32))] (8 : Int32) T56.heap n0 OC56 rfl) hZ (hw _ (List.mem_of_getElem? (i := 67) rfl)) (hw _ (List.mem_of_getElem? (i := 3) rfl)) (by decide) (by decide)) q58a q58c (g := (mkF m 55 #[.val (.int p0), .val (.int p1), .val (.int p2), .val (.int p3), .val (.int p4), .val (.int (p0 &&& (15 : Int32))), .val (.int (1 : Int32)), .val (.ref b45), .val (.ref b56)] [(.ref b45)])) rfl (by rw [hml]; rfl) (Steps.refl _) (argsL := []) (rest := []) (lenOf pd_6 rfl) rfl (by show 2 * 0 + _ ≤ _; exact Nat.le_of_eq rfl) (hb hby at_55) (fun _ _ => ⟨rfl, rfl, (by decide : 7 + 0 ≤ _), (by decide : 97 + 0 ≤ _)⟩)
    dsimp only [Pt.U, Pt.locs, Pt.cells, Pt.slots] at X58 l58 y58 z58 st58 hQ58
    subst l58 y58 z58
    obtain ⟨rfl, N58q, e58⟩ := hQ58
    have N58 := Fr.app N56 N58q
    have hc60_59 : (8 : Int32) = (8 : Int32) := (by decide)
    have go60 : ∀ t, Steps p.tables e below (T58.setTop (mkF m 65 #[.val (.int p0), .val (.int p1), .val (.int p2), .val (.int p3), .val (.int p4), .val (.int (p0 &&& (15 : Int32))), .val (.int (1 : Int32)), .val (.ref b45), .val (.ref b56)] [(.ref b56)])) t → Steps p.tables e below (s₁.setTop (entryFrame m #[(.int p0), (.int p1), (.int p2), (.int p3), (.int p4)] maxLocals)) t := fun t kt => go57 t (by
        refine st58.trans ?_
        show Steps p.tables e below (T58.setTop (mkF m 58 #[.val (.int p0), .val (.int p1), .val (.int p2), .val (.int p3), .val (.int p4), .val (.int (p0 &&& (15 : Int32))), .val (.int (1 : Int32)), .val (.ref b45), .val (.ref b56)] [(.int (8 : Int32))])) _
        refine XS.bipush X58.here hx rfl (hb hby at_58) ?_
        show Steps p.tables e below (T58.setTop (mkF m 60 #[.val (.int p0), .val (.int p1), .val (.int p2), .val (.int p3), .val (.int p4), .val (.int (p0 &&& (15 : Int32))), .val (.int (1 : Int32)), .val (.ref b45), .val (.ref b56)] [(.int (8 : Int32)), (.int (8 : Int32))])) _
        refine XS.icmpNo X58.here hx rfl (hb hby at_60) rfl (teq hc60_59).2 ?_
        show Steps p.tables e below (T58.setTop (mkF m 63 #[.val (.int p0), .val (.int p1), .val (.int p2), .val (.int p3), .val (.int p4), .val (.int (p0 &&& (15 : Int32))), .val (.int (1 : Int32)), .val (.ref b45), .val (.ref b56)] [])) _
        refine XS.aload X58.here hx rfl (hb hby at_63) rfl rfl ?_
        show Steps p.tables e below (T58.setTop (mkF m 65 #[.val (.int p0), .val (.int p1), .val (.int p2), .val (.int p3), .val (.int p4), .val (.int (p0 &&& (15 : Int32))), .val (.int (1 : Int32)), .val (.ref b45), .val (.ref b56)] [(.ref b56)])) _
        exact kt)
    obtain ⟨c61, Ar61, q61⟩ := id V56
    have hc68_62 : (8 : Int32) = (8 : Int32) := (by decide)
    have go63 : ∀ t, Steps p.tables e below (T58.setTop (mkF m 82 #[.val (.int p0), .val (.int p1), .val (.int p2), .val (.int p3), .val (.int p4), .val (.int (p0 &&& (15 : Int32))), .val (.int (1 : Int32)), .val (.ref b45), .val (.ref b56)] [(.int p4), (.int p2), (.int p1), (.int (1 : Int32)), (.int (0 : Int32)), (.ref b56)])) t → Steps p.tables e below (s₁.setTop (entryFrame m #[(.int p0), (.int p1), (.int p2), (.int p3), (.int p4)] maxLocals)) t := fun t kt => go60 t (by
        refine X58.arraylength hx (by rw [e58]; exact Ar61.1) (State.isArrayOf_alike hZ.alike Ar61.2.1) (g := (mkF m 65 #[.val (.int p0), .val (.int p1), .val (.int p2), .val (.int p3), .val (.int p4), .val (.int (p0 &&& (15 : Int32))), .val (.int (1 : Int32)), .val (.ref b45), .val (.ref b56)] [(.ref b56)])) rfl rfl (hb hby at_65) _ ?_
        rw [own_len q61 (n := (8 : Int32)) rfl]
        show Steps p.tables e below (T58.setTop (mkF m 66 #[.val (.int p0), .val (.int p1), .val (.int p2), .val (.int p3), .val (.int p4), .val (.int (p0 &&& (15 : Int32))), .val (.int (1 : Int32)), .val (.ref b45), .val (.ref b56)] [(.int (8 : Int32))])) _
        refine XS.bipush X58.here hx rfl (hb hby at_66) ?_
        show Steps p.tables e below (T58.setTop (mkF m 68 #[.val (.int p0), .val (.int p1), .val (.int p2), .val (.int p3), .val (.int p4), .val (.int (p0 &&& (15 : Int32))), .val (.int (1 : Int32)), .val (.ref b45), .val (.ref b56)] [(.int (8 : Int32)), (.int (8 : Int32))])) _
        refine XS.icmpYes X58.here hx rfl (pc0 := 68) (pc' := 73) rfl (hb hby at_68) rfl (teq hc68_62).1 (by decide) (by decide) ?_
        show Steps p.tables e below (T58.setTop (mkF m 73 #[.val (.int p0), .val (.int p1), .val (.int p2), .val (.int p3), .val (.int p4), .val (.int (p0 &&& (15 : Int32))), .val (.int (1 : Int32)), .val (.ref b45), .val (.ref b56)] [])) _
        refine XS.aload X58.here hx rfl (hb hby at_73) rfl rfl ?_
        show Steps p.tables e below (T58.setTop (mkF m 75 #[.val (.int p0), .val (.int p1), .val (.int p2), .val (.int p3), .val (.int p4), .val (.int (p0 &&& (15 : Int32))), .val (.int (1 : Int32)), .val (.ref b45), .val (.ref b56)] [(.ref b56)])) _
        refine XS.iconst X58.here hx rfl (hb hby at_75) ?_
        show Steps p.tables e below (T58.setTop (mkF m 76 #[.val (.int p0), .val (.int p1), .val (.int p2), .val (.int p3), .val (.int p4), .val (.int (p0 &&& (15 : Int32))), .val (.int (1 : Int32)), .val (.ref b45), .val (.ref b56)] [(.int (0 : Int32)), (.ref b56)])) _
        refine XS.iload X58.here hx rfl (hb hby at_76) rfl ?_
        show Steps p.tables e below (T58.setTop (mkF m 78 #[.val (.int p0), .val (.int p1), .val (.int p2), .val (.int p3), .val (.int p4), .val (.int (p0 &&& (15 : Int32))), .val (.int (1 : Int32)), .val (.ref b45), .val (.ref b56)] [(.int (1 : Int32)), (.int (0 : Int32)), (.ref b56)])) _
        refine XS.iloadN X58.here hx rfl (hb hby at_78) rfl ?_
        show Steps p.tables e below (T58.setTop (mkF m 79 #[.val (.int p0), .val (.int p1), .val (.int p2), .val (.int p3), .val (.int p4), .val (.int (p0 &&& (15 : Int32))), .val (.int (1 : Int32)), .val (.ref b45), .val (.ref b56)] [(.int p1), (.int (1 : Int32)), (.int (0 : Int32)), (.ref b56)])) _
        refine XS.iloadN X58.here hx rfl (hb hby at_79) rfl ?_
        show Steps p.tables e below (T58.setTop (mkF m 80 #[.val (.int p0), .val (.int p1), .val (.int p2), .val (.int p3), .val (.int p4), .val (.int (p0 &&& (15 : Int32))), .val (.int (1 : Int32)), .val (.ref b45), .val (.ref b56)] [(.int p2), (.int p1), (.int (1 : Int32)), (.int (0 : Int32)), (.ref b56)])) _
        refine XS.iload X58.here hx rfl (hb hby at_80) rfl ?_
        show Steps p.tables e below (T58.setTop (mkF m 82 #[.val (.int p0), .val (.int p1), .val (.int p2), .val (.int p3), .val (.int p4), .val (.int (p0 &&& (15 : Int32))), .val (.int (1 : Int32)), .val (.ref b45), .val (.ref b56)] [(.int p4), (.int p2), (.int p1), (.int (1 : Int32)), (.int (0 : Int32)), (.ref b56)])) _
        exact kt)
    obtain ⟨_, _, ⟨T64, L64, k64, n64⟩, -, X64, ⟨Lc64, hQ64, l64, y64, z64⟩, st64⟩ := Jvm.LawKit.callS X58 hx (y := (⟨"com/example/classweave/classweave/classfile/ClassOutputU4AtPinLaw", "at", "([BIIIII)Z"⟩ : MethodName)) hown (mvT hZ (hw _ (List.mem_of_getElem? (i := 68) rfl))) (mvT hZ (hw _ (List.mem_of_getElem? (i := 69) rfl))) (mvT hZ (hw _ (List.mem_of_getElem? (i := 70) rfl))) (mvT hZ (hw _ (List.mem_of_getElem? (i := 71) rfl))) (by decide) (backOf (W := 0) (rm12 l Z a0 hw [] b56 (0 : Int32) (1 : Int32) p1 p2 p4 (nar .byte (((((p1.toUInt32 >>> ((16 : Int32) &&& 31).toUInt32).toInt32).toUInt32 >>> ((8 : Int32) &&& 31).toUInt32).toInt32).toInt8.toInt32)) [(.int (nar .byte (((((p1.toUInt32 >>> ((16 : Int32) &&& 31).toUInt32).toInt32).toUInt32 >>> ((8 : Int32) &&& 31).toUInt32).toInt32).toInt8.toInt32))), (.int (nar .byte (((p4.toUInt32 >>> ((24 : Int32) &&& 31).toUInt32).toInt32).toInt8.toInt32))), (.int (nar .byte (((p4.toUInt32 >>> ((16 : Int32) &&& 31).toUInt32).toInt32).toInt8.toInt32))), (.int (nar .byte (((p4.toUInt32 >>> ((8 : Int32) &&& 31).toUInt32).toInt32).toInt8.toInt32))), (.int (nar .byte (p4.toInt8.toInt32))), (.int (nar .byte (((p2.toUInt32 >>> ((16 : Int32) &&& 31).toUInt32).toInt32).toInt8.toInt32))), (.int (nar .byte (((p2.toUInt32 >>> ((8 : Int32) &&& 31).toUInt32).toInt32).toInt8.toInt32))), (.int (nar .byte (p2.toInt8.toInt32)))] 0 T56.heap n0 V56 (by decide) (by decide) rfl) hZ (hw _ (List.mem_of_getElem? (i := 71) rfl)) (hw _ (List.mem_of_getElem? (i := 70) rfl)) (by decide) (by decide)) (g := (mkF m 82 #[.val (.int p0), .val (.int p1), .val (.int p2), .val (.int p3), .val (.int p4), .val (.int (p0 &&& (15 : Int32))), .val (.int (1 : Int32)), .val (.ref b45), .val (.ref b56)] [(.int p4), (.int p2), (.int p1), (.int (1 : Int32)), (.int (0 : Int32)), (.ref b56)])) rfl (by rw [hml]; rfl) (argsL := [(.ref b56), (.int (0 : Int32)), (.int (1 : Int32)), (.int p1), (.int p2), (.int p4)]) (rest := []) (lenOf pd_7 rfl) rfl (by show 2 * 0 + _ ≤ _; exact Nat.le_of_eq rfl) (hb hby at_82) (fun _ _ => ⟨rfl, e58, (by decide : 7 + 0 ≤ _), (by decide : 97 + 0 ≤ _)⟩)
    dsimp only [Pt.U, Pt.locs, Pt.cells, Pt.slots] at X64 l64 y64 z64 st64 hQ64
    subst l64 y64 z64
    obtain ⟨rfl, N64q, e64⟩ := hQ64
    have N64 := Fr.app N58 N64q
    have hc85_65 : ¬ ((own_at (nar .byte (((((p1.toUInt32 >>> ((16 : Int32) &&& 31).toUInt32).toInt32).toUInt32 >>> ((8 : Int32) &&& 31).toUInt32).toInt32).toInt8.toInt32)) (0 : Int32) (1 : Int32) p1 p2 p4) = (0 : Int32)) := own_at_1_0 _ _ _
    have go66 : ∀ t, Steps p.tables e below (T64.setTop (mkF m 97 #[.val (.int p0), .val (.int p1), .val (.int p2), .val (.int p3), .val (.int p4), .val (.int (p0 &&& (15 : Int32))), .val (.int (1 : Int32)), .val (.ref b45), .val (.ref b56)] [(.int p4), (.int p2), (.int p1), (.int (1 : Int32)), (.int (1 : Int32)), (.ref b56)])) t → Steps p.tables e below (s₁.setTop (entryFrame m #[(.int p0), (.int p1), (.int p2), (.int p3), (.int p4)] maxLocals)) t := fun t kt => go63 t (by
        refine st64 _ ?_
        show Steps p.tables e below (T64.setTop (mkF m 85 #[.val (.int p0), .val (.int p1), .val (.int p2), .val (.int p3), .val (.int p4), .val (.int (p0 &&& (15 : Int32))), .val (.int (1 : Int32)), .val (.ref b45), .val (.ref b56)] [(.int (own_at (nar .byte (((((p1.toUInt32 >>> ((16 : Int32) &&& 31).toUInt32).toInt32).toUInt32 >>> ((8 : Int32) &&& 31).toUInt32).toInt32).toInt8.toInt32)) (0 : Int32) (1 : Int32) p1 p2 p4))])) _
        refine XS.ifNo X64.here hx rfl (hb hby at_85) rfl ((if0 _ _).trans (feq hc85_65).1) ?_
        show Steps p.tables e below (T64.setTop (mkF m 88 #[.val (.int p0), .val (.int p1), .val (.int p2), .val (.int p3), .val (.int p4), .val (.int (p0 &&& (15 : Int32))), .val (.int (1 : Int32)), .val (.ref b45), .val (.ref b56)] [])) _
        refine XS.aload X64.here hx rfl (hb hby at_88) rfl rfl ?_
        show Steps p.tables e below (T64.setTop (mkF m 90 #[.val (.int p0), .val (.int p1), .val (.int p2), .val (.int p3), .val (.int p4), .val (.int (p0 &&& (15 : Int32))), .val (.int (1 : Int32)), .val (.ref b45), .val (.ref b56)] [(.ref b56)])) _
        refine XS.iconst X64.here hx rfl (hb hby at_90) ?_
        show Steps p.tables e below (T64.setTop (mkF m 91 #[.val (.int p0), .val (.int p1), .val (.int p2), .val (.int p3), .val (.int p4), .val (.int (p0 &&& (15 : Int32))), .val (.int (1 : Int32)), .val (.ref b45), .val (.ref b56)] [(.int (1 : Int32)), (.ref b56)])) _
        refine XS.iload X64.here hx rfl (hb hby at_91) rfl ?_
        show Steps p.tables e below (T64.setTop (mkF m 93 #[.val (.int p0), .val (.int p1), .val (.int p2), .val (.int p3), .val (.int p4), .val (.int (p0 &&& (15 : Int32))), .val (.int (1 : Int32)), .val (.ref b45), .val (.ref b56)] [(.int (1 : Int32)), (.int (1 : Int32)), (.ref b56)])) _
        refine XS.iloadN X64.here hx rfl (hb hby at_93) rfl ?_
        show Steps p.tables e below (T64.setTop (mkF m 94 #[.val (.int p0), .val (.int p1), .val (.int p2), .val (.int p3), .val (.int p4), .val (.int (p0 &&& (15 : Int32))), .val (.int (1 : Int32)), .val (.ref b45), .val (.ref b56)] [(.int p1), (.int (1 : Int32)), (.int (1 : Int32)), (.ref b56)])) _
        refine XS.iloadN X64.here hx rfl (hb hby at_94) rfl ?_
        show Steps p.tables e below (T64.setTop (mkF m 95 #[.val (.int p0), .val (.int p1), .val (.int p2), .val (.int p3), .val (.int p4), .val (.int (p0 &&& (15 : Int32))), .val (.int (1 : Int32)), .val (.ref b45), .val (.ref b56)] [(.int p2), (.int p1), (.int (1 : Int32)), (.int (1 : Int32)), (.ref b56)])) _
        refine XS.iload X64.here hx rfl (hb hby at_95) rfl ?_
        show Steps p.tables e below (T64.setTop (mkF m 97 #[.val (.int p0), .val (.int p1), .val (.int p2), .val (.int p3), .val (.int p4), .val (.int (p0 &&& (15 : Int32))), .val (.int (1 : Int32)), .val (.ref b45), .val (.ref b56)] [(.int p4), (.int p2), (.int p1), (.int (1 : Int32)), (.int (1 : Int32)), (.ref b56)])) _
        exact kt)
    obtain ⟨_, _, ⟨T67, L67, k67, n67⟩, -, X67, ⟨Lc67, hQ67, l67, y67, z67⟩, st67⟩ := Jvm.LawKit.callS X64 hx (y := (⟨"com/example/classweave/classweave/classfile/ClassOutputU4AtPinLaw", "at", "([BIIIII)Z"⟩ : MethodName)) hown (mvT hZ (hw _ (List.mem_of_getElem? (i := 68) rfl))) (mvT hZ (hw _ (List.mem_of_getElem? (i := 69) rfl))) (mvT hZ (hw _ (List.mem_of_getElem? (i := 70) rfl))) (mvT hZ (hw _ (List.mem_of_getElem? (i := 71) rfl))) (by decide) (backOf (W := 0) (rm12 l Z a0 hw [] b56 (1 : Int32) (1 : Int32) p1 p2 p4 (nar .byte (((p4.toUInt32 >>> ((24 : Int32) &&& 31).toUInt32).toInt32).toInt8.toInt32)) [(.int (nar .byte (((((p1.toUInt32 >>> ((16 : Int32) &&& 31).toUInt32).toInt32).toUInt32 >>> ((8 : Int32) &&& 31).toUInt32).toInt32).toInt8.toInt32))), (.int (nar .byte (((p4.toUInt32 >>> ((24 : Int32) &&& 31).toUInt32).toInt32).toInt8.toInt32))), (.int (nar .byte (((p4.toUInt32 >>> ((16 : Int32) &&& 31).toUInt32).toInt32).toInt8.toInt32))), (.int (nar .byte (((p4.toUInt32 >>> ((8 : Int32) &&& 31).toUInt32).toInt32).toInt8.toInt32))), (.int (nar .byte (p4.toInt8.toInt32))), (.int (nar .byte (((p2.toUInt32 >>> ((16 : Int32) &&& 31).toUInt32).toInt32).toInt8.toInt32))), (.int (nar .byte (((p2.toUInt32 >>> ((8 : Int32) &&& 31).toUInt32).toInt32).toInt8.toInt32))), (.int (nar .byte (p2.toInt8.toInt32)))] 1 T56.heap n0 V56 (by decide) (by decide) rfl) hZ (hw _ (List.mem_of_getElem? (i := 71) rfl)) (hw _ (List.mem_of_getElem? (i := 70) rfl)) (by decide) (by decide)) (g := (mkF m 97 #[.val (.int p0), .val (.int p1), .val (.int p2), .val (.int p3), .val (.int p4), .val (.int (p0 &&& (15 : Int32))), .val (.int (1 : Int32)), .val (.ref b45), .val (.ref b56)] [(.int p4), (.int p2), (.int p1), (.int (1 : Int32)), (.int (1 : Int32)), (.ref b56)])) rfl (by rw [hml]; rfl) (argsL := [(.ref b56), (.int (1 : Int32)), (.int (1 : Int32)), (.int p1), (.int p2), (.int p4)]) (rest := []) (lenOf pd_7 rfl) rfl (by show 2 * 0 + _ ≤ _; exact Nat.le_of_eq rfl) (hb hby at_97) (fun _ _ => ⟨rfl, e64, (by decide : 7 + 0 ≤ _), (by decide : 97 + 0 ≤ _)⟩)
    dsimp only [Pt.U, Pt.locs, Pt.cells, Pt.slots] at X67 l67 y67 z67 st67 hQ67
    subst l67 y67 z67
    obtain ⟨rfl, N67q, e67⟩ := hQ67
    have N67 := Fr.app N64 N67q
    have hc100_68 : ¬ ((own_at (nar .byte (((p4.toUInt32 >>> ((24 : Int32) &&& 31).toUInt32).toInt32).toInt8.toInt32)) (1 : Int32) (1 : Int32) p1 p2 p4) = (0 : Int32)) := own_at_1_1 _ _ _
    have go69 : ∀ t, Steps p.tables e below (T67.setTop (mkF m 112 #[.val (.int p0), .val (.int p1), .val (.int p2), .val (.int p3), .val (.int p4), .val (.int (p0 &&& (15 : Int32))), .val (.int (1 : Int32)), .val (.ref b45), .val (.ref b56)] [(.int p4), (.int p2), (.int p1), (.int (1 : Int32)), (.int (2 : Int32)), (.ref b56)])) t → Steps p.tables e below (s₁.setTop (entryFrame m #[(.int p0), (.int p1), (.int p2), (.int p3), (.int p4)] maxLocals)) t := fun t kt => go66 t (by
        refine st67 _ ?_
        show Steps p.tables e below (T67.setTop (mkF m 100 #[.val (.int p0), .val (.int p1), .val (.int p2), .val (.int p3), .val (.int p4), .val (.int (p0 &&& (15 : Int32))), .val (.int (1 : Int32)), .val (.ref b45), .val (.ref b56)] [(.int (own_at (nar .byte (((p4.toUInt32 >>> ((24 : Int32) &&& 31).toUInt32).toInt32).toInt8.toInt32)) (1 : Int32) (1 : Int32) p1 p2 p4))])) _
        refine XS.ifNo X67.here hx rfl (hb hby at_100) rfl ((if0 _ _).trans (feq hc100_68).1) ?_
        show Steps p.tables e below (T67.setTop (mkF m 103 #[.val (.int p0), .val (.int p1), .val (.int p2), .val (.int p3), .val (.int p4), .val (.int (p0 &&& (15 : Int32))), .val (.int (1 : Int32)), .val (.ref b45), .val (.ref b56)] [])) _
        refine XS.aload X67.here hx rfl (hb hby at_103) rfl rfl ?_
        show Steps p.tables e below (T67.setTop (mkF m 105 #[.val (.int p0), .val (.int p1), .val (.int p2), .val (.int p3), .val (.int p4), .val (.int (p0 &&& (15 : Int32))), .val (.int (1 : Int32)), .val (.ref b45), .val (.ref b56)] [(.ref b56)])) _
        refine XS.iconst X67.here hx rfl (hb hby at_105) ?_
        show Steps p.tables e below (T67.setTop (mkF m 106 #[.val (.int p0), .val (.int p1), .val (.int p2), .val (.int p3), .val (.int p4), .val (.int (p0 &&& (15 : Int32))), .val (.int (1 : Int32)), .val (.ref b45), .val (.ref b56)] [(.int (2 : Int32)), (.ref b56)])) _
        refine XS.iload X67.here hx rfl (hb hby at_106) rfl ?_
        show Steps p.tables e below (T67.setTop (mkF m 108 #[.val (.int p0), .val (.int p1), .val (.int p2), .val (.int p3), .val (.int p4), .val (.int (p0 &&& (15 : Int32))), .val (.int (1 : Int32)), .val (.ref b45), .val (.ref b56)] [(.int (1 : Int32)), (.int (2 : Int32)), (.ref b56)])) _
        refine XS.iloadN X67.here hx rfl (hb hby at_108) rfl ?_
        show Steps p.tables e below (T67.setTop (mkF m 109 #[.val (.int p0), .val (.int p1), .val (.int p2), .val (.int p3), .val (.int p4), .val (.int (p0 &&& (15 : Int32))), .val (.int (1 : Int32)), .val (.ref b45), .val (.ref b56)] [(.int p1), (.int (1 : Int32)), (.int (2 : Int32)), (.ref b56)])) _
        refine XS.iloadN X67.here hx rfl (hb hby at_109) rfl ?_
        show Steps p.tables e below (T67.setTop (mkF m 110 #[.val (.int p0), .val (.int p1), .val (.int p2), .val (.int p3), .val (.int p4), .val (.int (p0 &&& (15 : Int32))), .val (.int (1 : Int32)), .val (.ref b45), .val (.ref b56)] [(.int p2), (.int p1), (.int (1 : Int32)), (.int (2 : Int32)), (.ref b56)])) _
        refine XS.iload X67.here hx rfl (hb hby at_110) rfl ?_
        show Steps p.tables e below (T67.setTop (mkF m 112 #[.val (.int p0), .val (.int p1), .val (.int p2), .val (.int p3), .val (.int p4), .val (.int (p0 &&& (15 : Int32))), .val (.int (1 : Int32)), .val (.ref b45), .val (.ref b56)] [(.int p4), (.int p2), (.int p1), (.int (1 : Int32)), (.int (2 : Int32)), (.ref b56)])) _
        exact kt)
    obtain ⟨_, _, ⟨T70, L70, k70, n70⟩, -, X70, ⟨Lc70, hQ70, l70, y70, z70⟩, st70⟩ := Jvm.LawKit.callS X67 hx (y := (⟨"com/example/classweave/classweave/classfile/ClassOutputU4AtPinLaw", "at", "([BIIIII)Z"⟩ : MethodName)) hown (mvT hZ (hw _ (List.mem_of_getElem? (i := 68) rfl))) (mvT hZ (hw _ (List.mem_of_getElem? (i := 69) rfl))) (mvT hZ (hw _ (List.mem_of_getElem? (i := 70) rfl))) (mvT hZ (hw _ (List.mem_of_getElem? (i := 71) rfl))) (by decide) (backOf (W := 0) (rm12 l Z a0 hw [] b56 (2 : Int32) (1 : Int32) p1 p2 p4 (nar .byte (((p4.toUInt32 >>> ((16 : Int32) &&& 31).toUInt32).toInt32).toInt8.toInt32)) [(.int (nar .byte (((((p1.toUInt32 >>> ((16 : Int32) &&& 31).toUInt32).toInt32).toUInt32 >>> ((8 : Int32) &&& 31).toUInt32).toInt32).toInt8.toInt32))), (.int (nar .byte (((p4.toUInt32 >>> ((24 : Int32) &&& 31).toUInt32).toInt32).toInt8.toInt32))), (.int (nar .byte (((p4.toUInt32 >>> ((16 : Int32) &&& 31).toUInt32).toInt32).toInt8.toInt32))), (.int (nar .byte (((p4.toUInt32 >>> ((8 : Int32) &&& 31).toUInt32).toInt32).toInt8.toInt32))), (.int (nar .byte (p4.toInt8.toInt32))), (.int (nar .byte (((p2.toUInt32 >>> ((16 : Int32) &&& 31).toUInt32).toInt32).toInt8.toInt32))), (.int (nar .byte (((p2.toUInt32 >>> ((8 : Int32) &&& 31).toUInt32).toInt32).toInt8.toInt32))), (.int (nar .byte (p2.toInt8.toInt32)))] 2 T56.heap n0 V56 (by decide) (by decide) rfl) hZ (hw _ (List.mem_of_getElem? (i := 71) rfl)) (hw _ (List.mem_of_getElem? (i := 70) rfl)) (by decide) (by decide)) (g := (mkF m 112 #[.val (.int p0), .val (.int p1), .val (.int p2), .val (.int p3), .val (.int p4), .val (.int (p0 &&& (15 : Int32))), .val (.int (1 : Int32)), .val (.ref b45), .val (.ref b56)] [(.int p4), (.int p2), (.int p1), (.int (1 : Int32)), (.int (2 : Int32)), (.ref b56)])) rfl (by rw [hml]; rfl) (argsL := [(.ref b56), (.int (2 : Int32)), (.int (1 : Int32)), (.int p1), (.int p2), (.int p4)]) (rest := []) (lenOf pd_7 rfl) rfl (by show 2 * 0 + _ ≤ _; exact Nat.le_of_eq rfl) (hb hby at_112) (fun _ _ => ⟨rfl, e67, (by decide : 7 + 0 ≤ _), (by decide : 97 + 0 ≤ _)⟩)
    dsimp only [Pt.U, Pt.locs, Pt.cells, Pt.slots] at X70 l70 y70 z70 st70 hQ70
    subst l70 y70 z70
    obtain ⟨rfl, N70q, e70⟩ := hQ70
    have N70 := Fr.app N67 N70q
    have hc115_71 : ¬ ((own_at (nar .byte (((p4.toUInt32 >>> ((16 : Int32) &&& 31).toUInt32).toInt32).toInt8.toInt32)) (2 : Int32) (1 : Int32) p1 p2 p4) = (0 : Int32)) := own_at_1_2 _ _ _
    have go72 : ∀ t, Steps p.tables e below (T70.setTop (mkF m 127 #[.val (.int p0), .val (.int p1), .val (.int p2), .val (.int p3), .val (.int p4), .val (.int (p0 &&& (15 : Int32))), .val (.int (1 : Int32)), .val (.ref b45), .val (.ref b56)] [(.int p4), (.int p2), (.int p1), (.int (1 : Int32)), (.int (3 : Int32)), (.ref b56)])) t → Steps p.tables e below (s₁.setTop (entryFrame m #[(.int p0), (.int p1), (.int p2), (.int p3), (.int p4)] maxLocals)) t := fun t kt => go69 t (by
        refine st70 _ ?_
        show Steps p.tables e below (T70.setTop (mkF m 115 #[.val (.int p0), .val (.int p1), .val (.int p2), .val (.int p3), .val (.int p4), .val (.int (p0 &&& (15 : Int32))), .val (.int (1 : Int32)), .val (.ref b45), .val (.ref b56)] [(.int (own_at (nar .byte (((p4.toUInt32 >>> ((16 : Int32) &&& 31).toUInt32).toInt32).toInt8.toInt32)) (2 : Int32) (1 : Int32) p1 p2 p4))])) _
        refine XS.ifNo X70.here hx rfl (hb hby at_115) rfl ((if0 _ _).trans (feq hc115_71).1) ?_
        show Steps p.tables e below (T70.setTop (mkF m 118 #[.val (.int p0), .val (.int p1), .val (.int p2), .val (.int p3), .val (.int p4), .val (.int (p0 &&& (15 : Int32))), .val (.int (1 : Int32)), .val (.ref b45), .val (.ref b56)] [])) _
        refine XS.aload X70.here hx rfl (hb hby at_118) rfl rfl ?_
        show Steps p.tables e below (T70.setTop (mkF m 120 #[.val (.int p0), .val (.int p1), .val (.int p2), .val (.int p3), .val (.int p4), .val (.int (p0 &&& (15 : Int32))), .val (.int (1 : Int32)), .val (.ref b45), .val (.ref b56)] [(.ref b56)])) _
        refine XS.iconst X70.here hx rfl (hb hby at_120) ?_
        show Steps p.tables e below (T70.setTop (mkF m 121 #[.val (.int p0), .val (.int p1), .val (.int p2), .val (.int p3), .val (.int p4), .val (.int (p0 &&& (15 : Int32))), .val (.int (1 : Int32)), .val (.ref b45), .val (.ref b56)] [(.int (3 : Int32)), (.ref b56)])) _
        refine XS.iload X70.here hx rfl (hb hby at_121) rfl ?_
        show Steps p.tables e below (T70.setTop (mkF m 123 #[.val (.int p0), .val (.int p1), .val (.int p2), .val (.int p3), .val (.int p4), .val (.int (p0 &&& (15 : Int32))), .val (.int (1 : Int32)), .val (.ref b45), .val (.ref b56)] [(.int (1 : Int32)), (.int (3 : Int32)), (.ref b56)])) _
        refine XS.iloadN X70.here hx rfl (hb hby at_123) rfl ?_
        show Steps p.tables e below (T70.setTop (mkF m 124 #[.val (.int p0), .val (.int p1), .val (.int p2), .val (.int p3), .val (.int p4), .val (.int (p0 &&& (15 : Int32))), .val (.int (1 : Int32)), .val (.ref b45), .val (.ref b56)] [(.int p1), (.int (1 : Int32)), (.int (3 : Int32)), (.ref b56)])) _
        refine XS.iloadN X70.here hx rfl (hb hby at_124) rfl ?_
        show Steps p.tables e below (T70.setTop (mkF m 125 #[.val (.int p0), .val (.int p1), .val (.int p2), .val (.int p3), .val (.int p4), .val (.int (p0 &&& (15 : Int32))), .val (.int (1 : Int32)), .val (.ref b45), .val (.ref b56)] [(.int p2), (.int p1), (.int (1 : Int32)), (.int (3 : Int32)), (.ref b56)])) _
        refine XS.iload X70.here hx rfl (hb hby at_125) rfl ?_
        show Steps p.tables e below (T70.setTop (mkF m 127 #[.val (.int p0), .val (.int p1), .val (.int p2), .val (.int p3), .val (.int p4), .val (.int (p0 &&& (15 : Int32))), .val (.int (1 : Int32)), .val (.ref b45), .val (.ref b56)] [(.int p4), (.int p2), (.int p1), (.int (1 : Int32)), (.int (3 : Int32)), (.ref b56)])) _
        exact kt)
    obtain ⟨_, _, ⟨T73, L73, k73, n73⟩, -, X73, ⟨Lc73, hQ73, l73, y73, z73⟩, st73⟩ := Jvm.LawKit.callS X70 hx (y := (⟨"com/example/classweave/classweave/classfile/ClassOutputU4AtPinLaw", "at", "([BIIIII)Z"⟩ : MethodName)) hown (mvT hZ (hw _ (List.mem_of_getElem? (i := 68) rfl))) (mvT hZ (hw _ (List.mem_of_getElem? (i := 69) rfl))) (mvT hZ (hw _ (List.mem_of_getElem? (i := 70) rfl))) (mvT hZ (hw _ (List.mem_of_getElem? (i := 71) rfl))) (by decide) (backOf (W := 0) (rm12 l Z a0 hw [] b56 (3 : Int32) (1 : Int32) p1 p2 p4 (nar .byte (((p4.toUInt32 >>> ((8 : Int32) &&& 31).toUInt32).toInt32).toInt8.toInt32)) [(.int (nar .byte (((((p1.toUInt32 >>> ((16 : Int32) &&& 31).toUInt32).toInt32).toUInt32 >>> ((8 : Int32) &&& 31).toUInt32).toInt32).toInt8.toInt32))), (.int (nar .byte (((p4.toUInt32 >>> ((24 : Int32) &&& 31).toUInt32).toInt32).toInt8.toInt32))), (.int (nar .byte (((p4.toUInt32 >>> ((16 : Int32) &&& 31).toUInt32).toInt32).toInt8.toInt32))), (.int (nar .byte (((p4.toUInt32 >>> ((8 : Int32) &&& 31).toUInt32).toInt32).toInt8.toInt32))), (.int (nar .byte (p4.toInt8.toInt32))), (.int (nar .byte (((p2.toUInt32 >>> ((16 : Int32) &&& 31).toUInt32).toInt32).toInt8.toInt32))), (.int (nar .byte (((p2.toUInt32 >>> ((8 : Int32) &&& 31).toUInt32).toInt32).toInt8.toInt32))), (.int (nar .byte (p2.toInt8.toInt32)))] 3 T56.heap n0 V56 (by decide) (by decide) rfl) hZ (hw _ (List.mem_of_getElem? (i := 71) rfl)) (hw _ (List.mem_of_getElem? (i := 70) rfl)) (by decide) (by decide)) (g := (mkF m 127 #[.val (.int p0), .val (.int p1), .val (.int p2), .val (.int p3), .val (.int p4), .val (.int (p0 &&& (15 : Int32))), .val (.int (1 : Int32)), .val (.ref b45), .val (.ref b56)] [(.int p4), (.int p2), (.int p1), (.int (1 : Int32)), (.int (3 : Int32)), (.ref b56)])) rfl (by rw [hml]; rfl) (argsL := [(.ref b56), (.int (3 : Int32)), (.int (1 : Int32)), (.int p1), (.int p2), (.int p4)]) (rest := []) (lenOf pd_7 rfl) rfl (by show 2 * 0 + _ ≤ _; exact Nat.le_of_eq rfl) (hb hby at_127) (fun _ _ => ⟨rfl, e70, (by decide : 7 + 0 ≤ _), (by decide : 97 + 0 ≤ _)⟩)
    dsimp only [Pt.U, Pt.locs, Pt.cells, Pt.slots] at X73 l73 y73 z73 st73 hQ73
    subst l73 y73 z73
    obtain ⟨rfl, N73q, e73⟩ := hQ73
    have N73 := Fr.app N70 N73q
    have hc130_74 : ¬ ((own_at (nar .byte (((p4.toUInt32 >>> ((8 : Int32) &&& 31).toUInt32).toInt32).toInt8.toInt32)) (3 : Int32) (1 : Int32) p1 p2 p4) = (0 : Int32)) := own_at_1_3 _ _ _
    have go75 : ∀ t, Steps p.tables e below (T73.setTop (mkF m 142 #[.val (.int p0), .val (.int p1), .val (.int p2), .val (.int p3), .val (.int p4), .val (.int (p0 &&& (15 : Int32))), .val (.int (1 : Int32)), .val (.ref b45), .val (.ref b56)] [(.int p4), (.int p2), (.int p1), (.int (1 : Int32)), (.int (4 : Int32)), (.ref b56)])) t → Steps p.tables e below (s₁.setTop (entryFrame m #[(.int p0), (.int p1), (.int p2), (.int p3), (.int p4)] maxLocals)) t := fun t kt => go72 t (by
        refine st73 _ ?_
        show Steps p.tables e below (T73.setTop (mkF m 130 #[.val (.int p0), .val (.int p1), .val (.int p2), .val (.int p3), .val (.int p4), .val (.int (p0 &&& (15 : Int32))), .val (.int (1 : Int32)), .val (.ref b45), .val (.ref b56)] [(.int (own_at (nar .byte (((p4.toUInt32 >>> ((8 : Int32) &&& 31).toUInt32).toInt32).toInt8.toInt32)) (3 : Int32) (1 : Int32) p1 p2 p4))])) _
        refine XS.ifNo X73.here hx rfl (hb hby at_130) rfl ((if0 _ _).trans (feq hc130_74).1) ?_
        show Steps p.tables e below (T73.setTop (mkF m 133 #[.val (.int p0), .val (.int p1), .val (.int p2), .val (.int p3), .val (.int p4), .val (.int (p0 &&& (15 : Int32))), .val (.int (1 : Int32)), .val (.ref b45), .val (.ref b56)] [])) _
        refine XS.aload X73.here hx rfl (hb hby at_133) rfl rfl ?_
        show Steps p.tables e below (T73.setTop (mkF m 135 #[.val (.int p0), .val (.int p1), .val (.int p2), .val (.int p3), .val (.int p4), .val (.int (p0 &&& (15 : Int32))), .val (.int (1 : Int32)), .val (.ref b45), .val (.ref b56)] [(.ref b56)])) _
        refine XS.iconst X73.here hx rfl (hb hby at_135) ?_
        show Steps p.tables e below (T73.setTop (mkF m 136 #[.val (.int p0), .val (.int p1), .val (.int p2), .val (.int p3), .val (.int p4), .val (.int (p0 &&& (15 : Int32))), .val (.int (1 : Int32)), .val (.ref b45), .val (.ref b56)] [(.int (4 : Int32)), (.ref b56)])) _
        refine XS.iload X73.here hx rfl (hb hby at_136) rfl ?_
        show Steps p.tables e below (T73.setTop (mkF m 138 #[.val (.int p0), .val (.int p1), .val (.int p2), .val (.int p3), .val (.int p4), .val (.int (p0 &&& (15 : Int32))), .val (.int (1 : Int32)), .val (.ref b45), .val (.ref b56)] [(.int (1 : Int32)), (.int (4 : Int32)), (.ref b56)])) _
        refine XS.iloadN X73.here hx rfl (hb hby at_138) rfl ?_
        show Steps p.tables e below (T73.setTop (mkF m 139 #[.val (.int p0), .val (.int p1), .val (.int p2), .val (.int p3), .val (.int p4), .val (.int (p0 &&& (15 : Int32))), .val (.int (1 : Int32)), .val (.ref b45), .val (.ref b56)] [(.int p1), (.int (1 : Int32)), (.int (4 : Int32)), (.ref b56)])) _
        refine XS.iloadN X73.here hx rfl (hb hby at_139) rfl ?_
        show Steps p.tables e below (T73.setTop (mkF m 140 #[.val (.int p0), .val (.int p1), .val (.int p2), .val (.int p3), .val (.int p4), .val (.int (p0 &&& (15 : Int32))), .val (.int (1 : Int32)), .val (.ref b45), .val (.ref b56)] [(.int p2), (.int p1), (.int (1 : Int32)), (.int (4 : Int32)), (.ref b56)])) _
        refine XS.iload X73.here hx rfl (hb hby at_140) rfl ?_
        show Steps p.tables e below (T73.setTop (mkF m 142 #[.val (.int p0), .val (.int p1), .val (.int p2), .val (.int p3), .val (.int p4), .val (.int (p0 &&& (15 : Int32))), .val (.int (1 : Int32)), .val (.ref b45), .val (.ref b56)] [(.int p4), (.int p2), (.int p1), (.int (1 : Int32)), (.int (4 : Int32)), (.ref b56)])) _
        exact kt)
    obtain ⟨_, _, ⟨T76, L76, k76, n76⟩, -, X76, ⟨Lc76, hQ76, l76, y76, z76⟩, st76⟩ := Jvm.LawKit.callS X73 hx (y := (⟨"com/example/classweave/classweave/classfile/ClassOutputU4AtPinLaw", "at", "([BIIIII)Z"⟩ : MethodName)) hown (mvT hZ (hw _ (List.mem_of_getElem? (i := 68) rfl))) (mvT hZ (hw _ (List.mem_of_getElem? (i := 69) rfl))) (mvT hZ (hw _ (List.mem_of_getElem? (i := 70) rfl))) (mvT hZ (hw _ (List.mem_of_getElem? (i := 71) rfl))) (by decide) (backOf (W := 0) (rm12 l Z a0 hw [] b56 (4 : Int32) (1 : Int32) p1 p2 p4 (nar .byte (p4.toInt8.toInt32)) [(.int (nar .byte (((((p1.toUInt32 >>> ((16 : Int32) &&& 31).toUInt32).toInt32).toUInt32 >>> ((8 : Int32) &&& 31).toUInt32).toInt32).toInt8.toInt32))), (.int (nar .byte (((p4.toUInt32 >>> ((24 : Int32) &&& 31).toUInt32).toInt32).toInt8.toInt32))), (.int (nar .byte (((p4.toUInt32 >>> ((16 : Int32) &&& 31).toUInt32).toInt32).toInt8.toInt32))), (.int (nar .byte (((p4.toUInt32 >>> ((8 : Int32) &&& 31).toUInt32).toInt32).toInt8.toInt32))), (.int (nar .byte (p4.toInt8.toInt32))), (.int (nar .byte (((p2.toUInt32 >>> ((16 : Int32) &&& 31).toUInt32).toInt32).toInt8.toInt32))), (.int (nar .byte (((p2.toUInt32 >>> ((8 : Int32) &&& 31).toUInt32).toInt32).toInt8.toInt32))), (.int (nar .byte (p2.toInt8.toInt32)))] 4 T56.heap n0 V56 (by decide) (by decide) rfl) hZ (hw _ (List.mem_of_getElem? (i := 71) rfl)) (hw _ (List.mem_of_getElem? (i := 70) rfl)) (by decide) (by decide)) (g := (mkF m 142 #[.val (.int p0), .val (.int p1), .val (.int p2), .val (.int p3), .val (.int p4), .val (.int (p0 &&& (15 : Int32))), .val (.int (1 : Int32)), .val (.ref b45), .val (.ref b56)] [(.int p4), (.int p2), (.int p1), (.int (1 : Int32)), (.int (4 : Int32)), (.ref b56)])) rfl (by rw [hml]; rfl) (argsL := [(.ref b56), (.int (4 : Int32)), (.int (1 : Int32)), (.int p1), (.int p2), (.int p4)]) (rest := []) (lenOf pd_7 rfl) rfl (by show 2 * 0 + _ ≤ _; exact Nat.le_of_eq rfl) (hb hby at_142) (fun _ _ => ⟨rfl, e73, (by decide : 7 + 0 ≤ _), (by decide : 97 + 0 ≤ _)⟩)
    dsimp only [Pt.U, Pt.locs, Pt.cells, Pt.slots] at X76 l76 y76 z76 st76 hQ76
    subst l76 y76 z76
    obtain ⟨rfl, N76q, e76⟩ := hQ76
    have N76 := Fr.app N73 N76q
    have hc145_77 : ¬ ((own_at (nar .byte (p4.toInt8.toInt32)) (4 : Int32) (1 : Int32) p1 p2 p4) = (0 : Int32)) := own_at_1_4 _ _ _
    have go78 : ∀ t, Steps p.tables e below (T76.setTop (mkF m 157 #[.val (.int p0), .val (.int p1), .val (.int p2), .val (.int p3), .val (.int p4), .val (.int (p0 &&& (15 : Int32))), .val (.int (1 : Int32)), .val (.ref b45), .val (.ref b56)] [(.int p4), (.int p2), (.int p1), (.int (1 : Int32)), (.int (5 : Int32)), (.ref b56)])) t → Steps p.tables e below (s₁.setTop (entryFrame m #[(.int p0), (.int p1), (.int p2), (.int p3), (.int p4)] maxLocals)) t := fun t kt => go75 t (by
        refine st76 _ ?_
        show Steps p.tables e below (T76.setTop (mkF m 145 #[.val (.int p0), .val (.int p1), .val (.int p2), .val (.int p3), .val (.int p4), .val (.int (p0 &&& (15 : Int32))), .val (.int (1 : Int32)), .val (.ref b45), .val (.ref b56)] [(.int (own_at (nar .byte (p4.toInt8.toInt32)) (4 : Int32) (1 : Int32) p1 p2 p4))])) _
        refine XS.ifNo X76.here hx rfl (hb hby at_145) rfl ((if0 _ _).trans (feq hc145_77).1) ?_
        show Steps p.tables e below (T76.setTop (mkF m 148 #[.val (.int p0), .val (.int p1), .val (.int p2), .val (.int p3), .val (.int p4), .val (.int (p0 &&& (15 : Int32))), .val (.int (1 : Int32)), .val (.ref b45), .val (.ref b56)] [])) _
        refine XS.aload X76.here hx rfl (hb hby at_148) rfl rfl ?_
        show Steps p.tables e below (T76.setTop (mkF m 150 #[.val (.int p0), .val (.int p1), .val (.int p2), .val (.int p3), .val (.int p4), .val (.int (p0 &&& (15 : Int32))), .val (.int (1 : Int32)), .val (.ref b45), .val (.ref b56)] [(.ref b56)])) _
        refine XS.iconst X76.here hx rfl (hb hby at_150) ?_
        show Steps p.tables e below (T76.setTop (mkF m 151 #[.val (.int p0), .val (.int p1), .val (.int p2), .val (.int p3), .val (.int p4), .val (.int (p0 &&& (15 : Int32))), .val (.int (1 : Int32)), .val (.ref b45), .val (.ref b56)] [(.int (5 : Int32)), (.ref b56)])) _
        refine XS.iload X76.here hx rfl (hb hby at_151) rfl ?_
        show Steps p.tables e below (T76.setTop (mkF m 153 #[.val (.int p0), .val (.int p1), .val (.int p2), .val (.int p3), .val (.int p4), .val (.int (p0 &&& (15 : Int32))), .val (.int (1 : Int32)), .val (.ref b45), .val (.ref b56)] [(.int (1 : Int32)), (.int (5 : Int32)), (.ref b56)])) _
        refine XS.iloadN X76.here hx rfl (hb hby at_153) rfl ?_
        show Steps p.tables e below (T76.setTop (mkF m 154 #[.val (.int p0), .val (.int p1), .val (.int p2), .val (.int p3), .val (.int p4), .val (.int (p0 &&& (15 : Int32))), .val (.int (1 : Int32)), .val (.ref b45), .val (.ref b56)] [(.int p1), (.int (1 : Int32)), (.int (5 : Int32)), (.ref b56)])) _
        refine XS.iloadN X76.here hx rfl (hb hby at_154) rfl ?_
        show Steps p.tables e below (T76.setTop (mkF m 155 #[.val (.int p0), .val (.int p1), .val (.int p2), .val (.int p3), .val (.int p4), .val (.int (p0 &&& (15 : Int32))), .val (.int (1 : Int32)), .val (.ref b45), .val (.ref b56)] [(.int p2), (.int p1), (.int (1 : Int32)), (.int (5 : Int32)), (.ref b56)])) _
        refine XS.iload X76.here hx rfl (hb hby at_155) rfl ?_
        show Steps p.tables e below (T76.setTop (mkF m 157 #[.val (.int p0), .val (.int p1), .val (.int p2), .val (.int p3), .val (.int p4), .val (.int (p0 &&& (15 : Int32))), .val (.int (1 : Int32)), .val (.ref b45), .val (.ref b56)] [(.int p4), (.int p2), (.int p1), (.int (1 : Int32)), (.int (5 : Int32)), (.ref b56)])) _
        exact kt)
    obtain ⟨_, _, ⟨T79, L79, k79, n79⟩, -, X79, ⟨Lc79, hQ79, l79, y79, z79⟩, st79⟩ := Jvm.LawKit.callS X76 hx (y := (⟨"com/example/classweave/classweave/classfile/ClassOutputU4AtPinLaw", "at", "([BIIIII)Z"⟩ : MethodName)) hown (mvT hZ (hw _ (List.mem_of_getElem? (i := 68) rfl))) (mvT hZ (hw _ (List.mem_of_getElem? (i := 69) rfl))) (mvT hZ (hw _ (List.mem_of_getElem? (i := 70) rfl))) (mvT hZ (hw _ (List.mem_of_getElem? (i := 71) rfl))) (by decide) (backOf (W := 0) (rm12 l Z a0 hw [] b56 (5 : Int32) (1 : Int32) p1 p2 p4 (nar .byte (((p2.toUInt32 >>> ((16 : Int32) &&& 31).toUInt32).toInt32).toInt8.toInt32)) [(.int (nar .byte (((((p1.toUInt32 >>> ((16 : Int32) &&& 31).toUInt32).toInt32).toUInt32 >>> ((8 : Int32) &&& 31).toUInt32).toInt32).toInt8.toInt32))), (.int (nar .byte (((p4.toUInt32 >>> ((24 : Int32) &&& 31).toUInt32).toInt32).toInt8.toInt32))), (.int (nar .byte (((p4.toUInt32 >>> ((16 : Int32) &&& 31).toUInt32).toInt32).toInt8.toInt32))), (.int (nar .byte (((p4.toUInt32 >>> ((8 : Int32) &&& 31).toUInt32).toInt32).toInt8.toInt32))), (.int (nar .byte (p4.toInt8.toInt32))), (.int (nar .byte (((p2.toUInt32 >>> ((16 : Int32) &&& 31).toUInt32).toInt32).toInt8.toInt32))), (.int (nar .byte (((p2.toUInt32 >>> ((8 : Int32) &&& 31).toUInt32).toInt32).toInt8.toInt32))), (.int (nar .byte (p2.toInt8.toInt32)))] 5 T56.heap n0 V56 (by decide) (by decide) rfl) hZ (hw _ (List.mem_of_getElem? (i := 71) rfl)) (hw _ (List.mem_of_getElem? (i := 70) rfl)) (by decide) (by decide)) (g := (mkF m 157 #[.val (.int p0), .val (.int p1), .val (.int p2), .val (.int p3), .val (.int p4), .val (.int (p0 &&& (15 : Int32))), .val (.int (1 : Int32)), .val (.ref b45), .val (.ref b56)] [(.int p4), (.int p2), (.int p1), (.int (1 : Int32)), (.int (5 : Int32)), (.ref b56)])) rfl (by rw [hml]; rfl) (argsL := [(.ref b56), (.int (5 : Int32)), (.int (1 : Int32)), (.int p1), (.int p2), (.int p4)]) (rest := []) (lenOf pd_7 rfl) rfl (by show 2 * 0 + _ ≤ _; exact Nat.le_of_eq rfl) (hb hby at_157) (fun _ _ => ⟨rfl, e76, (by decide : 7 + 0 ≤ _), (by decide : 97 + 0 ≤ _)⟩)
    dsimp only [Pt.U, Pt.locs, Pt.cells, Pt.slots] at X79 l79 y79 z79 st79 hQ79
    subst l79 y79 z79
    obtain ⟨rfl, N79q, e79⟩ := hQ79
    have N79 := Fr.app N76 N79q
    have hc160_80 : ¬ ((own_at (nar .byte (((p2.toUInt32 >>> ((16 : Int32) &&& 31).toUInt32).toInt32).toInt8.toInt32)) (5 : Int32) (1 : Int32) p1 p2 p4) = (0 : Int32)) := own_at_1_5 _ _ _
    have go81 : ∀ t, Steps p.tables e below (T79.setTop (mkF m 173 #[.val (.int p0), .val (.int p1), .val (.int p2), .val (.int p3), .val (.int p4), .val (.int (p0 &&& (15 : Int32))), .val (.int (1 : Int32)), .val (.ref b45), .val (.ref b56)] [(.int p4), (.int p2), (.int p1), (.int (1 : Int32)), (.int (6 : Int32)), (.ref b56)])) t → Steps p.tables e below (s₁.setTop (entryFrame m #[(.int p0), (.int p1), (.int p2), (.int p3), (.int p4)] maxLocals)) t := fun t kt => go78 t (by
        refine st79 _ ?_
        show Steps p.tables e below (T79.setTop (mkF m 160 #[.val (.int p0), .val (.int p1), .val (.int p2), .val (.int p3), .val (.int p4), .val (.int (p0 &&& (15 : Int32))), .val (.int (1 : Int32)), .val (.ref b45), .val (.ref b56)] [(.int (own_at (nar .byte (((p2.toUInt32 >>> ((16 : Int32) &&& 31).toUInt32).toInt32).toInt8.toInt32)) (5 : Int32) (1 : Int32) p1 p2 p4))])) _
        refine XS.ifNo X79.here hx rfl (hb hby at_160) rfl ((if0 _ _).trans (feq hc160_80).1) ?_
        show Steps p.tables e below (T79.setTop (mkF m 163 #[.val (.int p0), .val (.int p1), .val (.int p2), .val (.int p3), .val (.int p4), .val (.int (p0 &&& (15 : Int32))), .val (.int (1 : Int32)), .val (.ref b45), .val (.ref b56)] [])) _
        refine XS.aload X79.here hx rfl (hb hby at_163) rfl rfl ?_
        show Steps p.tables e below (T79.setTop (mkF m 165 #[.val (.int p0), .val (.int p1), .val (.int p2), .val (.int p3), .val (.int p4), .val (.int (p0 &&& (15 : Int32))), .val (.int (1 : Int32)), .val (.ref b45), .val (.ref b56)] [(.ref b56)])) _
        refine XS.bipush X79.here hx rfl (hb hby at_165) ?_
        show Steps p.tables e below (T79.setTop (mkF m 167 #[.val (.int p0), .val (.int p1), .val (.int p2), .val (.int p3), .val (.int p4), .val (.int (p0 &&& (15 : Int32))), .val (.int (1 : Int32)), .val (.ref b45), .val (.ref b56)] [(.int (6 : Int32)), (.ref b56)])) _
        refine XS.iload X79.here hx rfl (hb hby at_167) rfl ?_
        show Steps p.tables e below (T79.setTop (mkF m 169 #[.val (.int p0), .val (.int p1), .val (.int p2), .val (.int p3), .val (.int p4), .val (.int (p0 &&& (15 : Int32))), .val (.int (1 : Int32)), .val (.ref b45), .val (.ref b56)] [(.int (1 : Int32)), (.int (6 : Int32)), (.ref b56)])) _
        refine XS.iloadN X79.here hx rfl (hb hby at_169) rfl ?_
        show Steps p.tables e below (T79.setTop (mkF m 170 #[.val (.int p0), .val (.int p1), .val (.int p2), .val (.int p3), .val (.int p4), .val (.int (p0 &&& (15 : Int32))), .val (.int (1 : Int32)), .val (.ref b45), .val (.ref b56)] [(.int p1), (.int (1 : Int32)), (.int (6 : Int32)), (.ref b56)])) _
        refine XS.iloadN X79.here hx rfl (hb hby at_170) rfl ?_
        show Steps p.tables e below (T79.setTop (mkF m 171 #[.val (.int p0), .val (.int p1), .val (.int p2), .val (.int p3), .val (.int p4), .val (.int (p0 &&& (15 : Int32))), .val (.int (1 : Int32)), .val (.ref b45), .val (.ref b56)] [(.int p2), (.int p1), (.int (1 : Int32)), (.int (6 : Int32)), (.ref b56)])) _
        refine XS.iload X79.here hx rfl (hb hby at_171) rfl ?_
        show Steps p.tables e below (T79.setTop (mkF m 173 #[.val (.int p0), .val (.int p1), .val (.int p2), .val (.int p3), .val (.int p4), .val (.int (p0 &&& (15 : Int32))), .val (.int (1 : Int32)), .val (.ref b45), .val (.ref b56)] [(.int p4), (.int p2), (.int p1), (.int (1 : Int32)), (.int (6 : Int32)), (.ref b56)])) _
        exact kt)
    obtain ⟨_, _, ⟨T82, L82, k82, n82⟩, -, X82, ⟨Lc82, hQ82, l82, y82, z82⟩, st82⟩ := Jvm.LawKit.callS X79 hx (y := (⟨"com/example/classweave/classweave/classfile/ClassOutputU4AtPinLaw", "at", "([BIIIII)Z"⟩ : MethodName)) hown (mvT hZ (hw _ (List.mem_of_getElem? (i := 68) rfl))) (mvT hZ (hw _ (List.mem_of_getElem? (i := 69) rfl))) (mvT hZ (hw _ (List.mem_of_getElem? (i := 70) rfl))) (mvT hZ (hw _ (List.mem_of_getElem? (i := 71) rfl))) (by decide) (backOf (W := 0) (rm12 l Z a0 hw [] b56 (6 : Int32) (1 : Int32) p1 p2 p4 (nar .byte (((p2.toUInt32 >>> ((8 : Int32) &&& 31).toUInt32).toInt32).toInt8.toInt32)) [(.int (nar .byte (((((p1.toUInt32 >>> ((16 : Int32) &&& 31).toUInt32).toInt32).toUInt32 >>> ((8 : Int32) &&& 31).toUInt32).toInt32).toInt8.toInt32))), (.int (nar .byte (((p4.toUInt32 >>> ((24 : Int32) &&& 31).toUInt32).toInt32).toInt8.toInt32))), (.int (nar .byte (((p4.toUInt32 >>> ((16 : Int32) &&& 31).toUInt32).toInt32).toInt8.toInt32))), (.int (nar .byte (((p4.toUInt32 >>> ((8 : Int32) &&& 31).toUInt32).toInt32).toInt8.toInt32))), (.int (nar .byte (p4.toInt8.toInt32))), (.int (nar .byte (((p2.toUInt32 >>> ((16 : Int32) &&& 31).toUInt32).toInt32).toInt8.toInt32))), (.int (nar .byte (((p2.toUInt32 >>> ((8 : Int32) &&& 31).toUInt32).toInt32).toInt8.toInt32))), (.int (nar .byte (p2.toInt8.toInt32)))] 6 T56.heap n0 V56 (by decide) (by decide) rfl) hZ (hw _ (List.mem_of_getElem? (i := 71) rfl)) (hw _ (List.mem_of_getElem? (i := 70) rfl)) (by decide) (by decide)) (g := (mkF m 173 #[.val (.int p0), .val (.int p1), .val (.int p2), .val (.int p3), .val (.int p4), .val (.int (p0 &&& (15 : Int32))), .val (.int (1 : Int32)), .val (.ref b45), .val (.ref b56)] [(.int p4), (.int p2), (.int p1), (.int (1 : Int32)), (.int (6 : Int32)), (.ref b56)])) rfl (by rw [hml]; rfl) (argsL := [(.ref b56), (.int (6 : Int32)), (.int (1 : Int32)), (.int p1), (.int p2), (.int p4)]) (rest := []) (lenOf pd_7 rfl) rfl (by show 2 * 0 + _ ≤ _; exact Nat.le_of_eq rfl) (hb hby at_173) (fun _ _ => ⟨rfl, e79, (by decide : 7 + 0 ≤ _), (by decide : 97 + 0 ≤ _)⟩)
    dsimp only [Pt.U, Pt.locs, Pt.cells, Pt.slots] at X82 l82 y82 z82 st82 hQ82
    subst l82 y82 z82
    obtain ⟨rfl, N82q, e82⟩ := hQ82
    have N82 := Fr.app N79 N82q
    have hc176_83 : ¬ ((own_at (nar .byte (((p2.toUInt32 >>> ((8 : Int32) &&& 31).toUInt32).toInt32).toInt8.toInt32)) (6 : Int32) (1 : Int32) p1 p2 p4) = (0 : Int32)) := own_at_1_6 _ _ _
    have go84 : ∀ t, Steps p.tables e below (T82.setTop (mkF m 189 #[.val (.int p0), .val (.int p1), .val (.int p2), .val (.int p3), .val (.int p4), .val (.int (p0 &&& (15 : Int32))), .val (.int (1 : Int32)), .val (.ref b45), .val (.ref b56)] [(.int p4), (.int p2), (.int p1), (.int (1 : Int32)), (.int (7 : Int32)), (.ref b56)])) t → Steps p.tables e below (s₁.setTop (entryFrame m #[(.int p0), (.int p1), (.int p2), (.int p3), (.int p4)] maxLocals)) t := fun t kt => go81 t (by
        refine st82 _ ?_
        show Steps p.tables e below (T82.setTop (mkF m 176 #[.val (.int p0), .val (.int p1), .val (.int p2), .val (.int p3), .val (.int p4), .val (.int (p0 &&& (15 : Int32))), .val (.int (1 : Int32)), .val (.ref b45), .val (.ref b56)] [(.int (own_at (nar .byte (((p2.toUInt32 >>> ((8 : Int32) &&& 31).toUInt32).toInt32).toInt8.toInt32)) (6 : Int32) (1 : Int32) p1 p2 p4))])) _
        refine XS.ifNo X82.here hx rfl (hb hby at_176) rfl ((if0 _ _).trans (feq hc176_83).1) ?_
        show Steps p.tables e below (T82.setTop (mkF m 179 #[.val (.int p0), .val (.int p1), .val (.int p2), .val (.int p3), .val (.int p4), .val (.int (p0 &&& (15 : Int32))), .val (.int (1 : Int32)), .val (.ref b45), .val (.ref b56)] [])) _
        refine XS.aload X82.here hx rfl (hb hby at_179) rfl rfl ?_
        show Steps p.tables e below (T82.setTop (mkF m 181 #[.val (.int p0), .val (.int p1), .val (.int p2), .val (.int p3), .val (.int p4), .val (.int (p0 &&& (15 : Int32))), .val (.int (1 : Int32)), .val (.ref b45), .val (.ref b56)] [(.ref b56)])) _
        refine XS.bipush X82.here hx rfl (hb hby at_181) ?_
        show Steps p.tables e below (T82.setTop (mkF m 183 #[.val (.int p0), .val (.int p1), .val (.int p2), .val (.int p3), .val (.int p4), .val (.int (p0 &&& (15 : Int32))), .val (.int (1 : Int32)), .val (.ref b45), .val (.ref b56)] [(.int (7 : Int32)), (.ref b56)])) _
        refine XS.iload X82.here hx rfl (hb hby at_183) rfl ?_
        show Steps p.tables e below (T82.setTop (mkF m 185 #[.val (.int p0), .val (.int p1), .val (.int p2), .val (.int p3), .val (.int p4), .val (.int (p0 &&& (15 : Int32))), .val (.int (1 : Int32)), .val (.ref b45), .val (.ref b56)] [(.int (1 : Int32)), (.int (7 : Int32)), (.ref b56)])) _
        refine XS.iloadN X82.here hx rfl (hb hby at_185) rfl ?_
        show Steps p.tables e below (T82.setTop (mkF m 186 #[.val (.int p0), .val (.int p1), .val (.int p2), .val (.int p3), .val (.int p4), .val (.int (p0 &&& (15 : Int32))), .val (.int (1 : Int32)), .val (.ref b45), .val (.ref b56)] [(.int p1), (.int (1 : Int32)), (.int (7 : Int32)), (.ref b56)])) _
        refine XS.iloadN X82.here hx rfl (hb hby at_186) rfl ?_
        show Steps p.tables e below (T82.setTop (mkF m 187 #[.val (.int p0), .val (.int p1), .val (.int p2), .val (.int p3), .val (.int p4), .val (.int (p0 &&& (15 : Int32))), .val (.int (1 : Int32)), .val (.ref b45), .val (.ref b56)] [(.int p2), (.int p1), (.int (1 : Int32)), (.int (7 : Int32)), (.ref b56)])) _
        refine XS.iload X82.here hx rfl (hb hby at_187) rfl ?_
        show Steps p.tables e below (T82.setTop (mkF m 189 #[.val (.int p0), .val (.int p1), .val (.int p2), .val (.int p3), .val (.int p4), .val (.int (p0 &&& (15 : Int32))), .val (.int (1 : Int32)), .val (.ref b45), .val (.ref b56)] [(.int p4), (.int p2), (.int p1), (.int (1 : Int32)), (.int (7 : Int32)), (.ref b56)])) _
        exact kt)
    obtain ⟨_, _, ⟨T85, L85, k85, n85⟩, -, X85, ⟨Lc85, hQ85, l85, y85, z85⟩, st85⟩ := Jvm.LawKit.callS X82 hx (y := (⟨"com/example/classweave/classweave/classfile/ClassOutputU4AtPinLaw", "at", "([BIIIII)Z"⟩ : MethodName)) hown (mvT hZ (hw _ (List.mem_of_getElem? (i := 68) rfl))) (mvT hZ (hw _ (List.mem_of_getElem? (i := 69) rfl))) (mvT hZ (hw _ (List.mem_of_getElem? (i := 70) rfl))) (mvT hZ (hw _ (List.mem_of_getElem? (i := 71) rfl))) (by decide) (backOf (W := 0) (rm12 l Z a0 hw [] b56 (7 : Int32) (1 : Int32) p1 p2 p4 (nar .byte (p2.toInt8.toInt32)) [(.int (nar .byte (((((p1.toUInt32 >>> ((16 : Int32) &&& 31).toUInt32).toInt32).toUInt32 >>> ((8 : Int32) &&& 31).toUInt32).toInt32).toInt8.toInt32))), (.int (nar .byte (((p4.toUInt32 >>> ((24 : Int32) &&& 31).toUInt32).toInt32).toInt8.toInt32))), (.int (nar .byte (((p4.toUInt32 >>> ((16 : Int32) &&& 31).toUInt32).toInt32).toInt8.toInt32))), (.int (nar .byte (((p4.toUInt32 >>> ((8 : Int32) &&& 31).toUInt32).toInt32).toInt8.toInt32))), (.int (nar .byte (p4.toInt8.toInt32))), (.int (nar .byte (((p2.toUInt32 >>> ((16 : Int32) &&& 31).toUInt32).toInt32).toInt8.toInt32))), (.int (nar .byte (((p2.toUInt32 >>> ((8 : Int32) &&& 31).toUInt32).toInt32).toInt8.toInt32))), (.int (nar .byte (p2.toInt8.toInt32)))] 7 T56.heap n0 V56 (by decide) (by decide) rfl) hZ (hw _ (List.mem_of_getElem? (i := 71) rfl)) (hw _ (List.mem_of_getElem? (i := 70) rfl)) (by decide) (by decide)) (g := (mkF m 189 #[.val (.int p0), .val (.int p1), .val (.int p2), .val (.int p3), .val (.int p4), .val (.int (p0 &&& (15 : Int32))), .val (.int (1 : Int32)), .val (.ref b45), .val (.ref b56)] [(.int p4), (.int p2), (.int p1), (.int (1 : Int32)), (.int (7 : Int32)), (.ref b56)])) rfl (by rw [hml]; rfl) (argsL := [(.ref b56), (.int (7 : Int32)), (.int (1 : Int32)), (.int p1), (.int p2), (.int p4)]) (rest := []) (lenOf pd_7 rfl) rfl (by show 2 * 0 + _ ≤ _; exact Nat.le_of_eq rfl) (hb hby at_189) (fun _ _ => ⟨rfl, e82, (by decide : 7 + 0 ≤ _), (by decide : 97 + 0 ≤ _)⟩)
    dsimp only [Pt.U, Pt.locs, Pt.cells, Pt.slots] at X85 l85 y85 z85 st85 hQ85
    subst l85 y85 z85
    obtain ⟨rfl, N85q, e85⟩ := hQ85
    have N85 := Fr.app N82 N85q
    have hc192_86 : ¬ ((own_at (nar .byte (p2.toInt8.toInt32)) (7 : Int32) (1 : Int32) p1 p2 p4) = (0 : Int32)) := own_at_1_7 _ _ _
    have go87 : ∀ t, Steps p.tables e below (T85.setTop (mkF m 200 #[.val (.int p0), .val (.int p1), .val (.int p2), .val (.int p3), .val (.int p4), .val (.int (p0 &&& (15 : Int32))), .val (.int (1 : Int32)), .val (.ref b45), .val (.ref b56)] [(.int (1 : Int32))])) t → Steps p.tables e below (s₁.setTop (entryFrame m #[(.int p0), (.int p1), (.int p2), (.int p3), (.int p4)] maxLocals)) t := fun t kt => go84 t (by
        refine st85 _ ?_
        show Steps p.tables e below (T85.setTop (mkF m 192 #[.val (.int p0), .val (.int p1), .val (.int p2), .val (.int p3), .val (.int p4), .val (.int (p0 &&& (15 : Int32))), .val (.int (1 : Int32)), .val (.ref b45), .val (.ref b56)] [(.int (own_at (nar .byte (p2.toInt8.toInt32)) (7 : Int32) (1 : Int32) p1 p2 p4))])) _
        refine XS.ifNo X85.here hx rfl (hb hby at_192) rfl ((if0 _ _).trans (feq hc192_86).1) ?_
        show Steps p.tables e below (T85.setTop (mkF m 195 #[.val (.int p0), .val (.int p1), .val (.int p2), .val (.int p3), .val (.int p4), .val (.int (p0 &&& (15 : Int32))), .val (.int (1 : Int32)), .val (.ref b45), .val (.ref b56)] [])) _
        refine XS.iconst X85.here hx rfl (hb hby at_195) ?_
        show Steps p.tables e below (T85.setTop (mkF m 196 #[.val (.int p0), .val (.int p1), .val (.int p2), .val (.int p3), .val (.int p4), .val (.int (p0 &&& (15 : Int32))), .val (.int (1 : Int32)), .val (.ref b45), .val (.ref b56)] [(.int (1 : Int32))])) _
        refine XS.goto X85.here hx rfl (pc0 := 196) (pc' := 200) rfl (hb hby at_196) (by decide) (by decide) ?_
        show Steps p.tables e below (T85.setTop (mkF m 200 #[.val (.int p0), .val (.int p1), .val (.int p2), .val (.int p3), .val (.int p4), .val (.int (p0 &&& (15 : Int32))), .val (.int (1 : Int32)), .val (.ref b45), .val (.ref b56)] [(.int (1 : Int32))])) _
        exact kt)
    obtain ⟨fs, hr, hrun, hended, hW, hsame⟩ := X85.leave (v := some (.int (1 : Int32))) (fun h => by rw [Bd.returns] at h; cases h)
    refine ⟨_, _, go87 _ (retN X85 hx (t := .boolean) Bd.returns (by simp) (hb hby at_200) hr), hrun, hended, _, _, rfl, ?_, ⟨_, rfl⟩, hW, hsame.mono (by decide) (by decide)⟩
    exact ⟨rfl, N85⟩
  · rw [h5] at go1
    obtain ⟨T88, h88, X88, e88, E88, A88, D88, -, st88⟩ := newO X0 hx hZ hown (hw _ (List.mem_of_getElem? (i := 1) rfl)) (hw _ (List.mem_of_getElem? (i := 2) rfl)) (hw _ (List.mem_of_getElem? (i := 3) rfl)) e0 (g := (mkF m 14 #[.val (.int p0), .val (.int p1), .val (.int p2), .val (.int p3), .val (.int p4), .val (.int (p0 &&& (15 : Int32))), .val (.int (2 : Int32)), .unset, .unset] [])) rfl (hb hby at_14) (by decide) (by decide)
    obtain ⟨b88, g88⟩ : ∃ z, z = h0.size := ⟨_, rfl⟩
    rw [← g88] at A88 D88 st88
    have ks88 : h0.size ≤ h0.size := Nat.le_refl _
    have sz88 : h0.size ≤ b88 := Nat.le_trans ks88 (Nat.le_of_eq g88.symm)
    have gb88 : n0 ≤ b88 := Nat.le_trans Z0 (Nat.le_of_eq g88.symm)
    have F88_bytes : Fld Z h88 b88 "com/example/classweave/classweave/classfile/ClassOutput" "bytes" "[B" .null := D88 (Or.inl (hw _ (List.mem_of_getElem? (i := 12) rfl))) (ty := (.array .byte)) (by decide)
    have F88_size : Fld Z h88 b88 "com/example/classweave/classweave/classfile/ClassOutput" "size" "I" (.int (0 : Int32)) := D88 (Or.inl (hw _ (List.mem_of_getElem? (i := 28) rfl))) (ty := .int) (by decide)
    have go89 : ∀ t, Steps p.tables e below (T88.setTop (mkF m 20 #[.val (.int p0), .val (.int p1), .val (.int p2), .val (.int p3), .val (.int p4), .val (.int (p0 &&& (15 : Int32))), .val (.int (2 : Int32)), .unset, .unset] [(.int (p0 &&& (15 : Int32))), (.ref b88), (.ref b88)])) t → Steps p.tables e below (s₁.setTop (entryFrame m #[(.int p0), (.int p1), (.int p2), (.int p3), (.int p4)] maxLocals)) t := fun t kt => go1 t (by
        refine st88 _ ?_
        show Steps p.tables e below (T88.setTop (mkF m 17 #[.val (.int p0), .val (.int p1), .val (.int p2), .val (.int p3), .val (.int p4), .val (.int (p0 &&& (15 : Int32))), .val (.int (2 : Int32)), .unset, .unset] [(.ref b88)])) _
        refine XS.dup X88.here hx rfl (hb hby at_17) rfl rfl ?_
        show Steps p.tables e below (T88.setTop (mkF m 18 #[.val (.int p0), .val (.int p1), .val (.int p2), .val (.int p3), .val (.int p4), .val (.int (p0 &&& (15 : Int32))), .val (.int (2 : Int32)), .unset, .unset] [(.ref b88), (.ref b88)])) _
        refine XS.iload X88.here hx rfl (hb hby at_18) rfl ?_
        show Steps p.tables e below (T88.setTop (mkF m 20 #[.val (.int p0), .val (.int p1), .val (.int p2), .val (.int p3), .val (.int p4), .val (.int (p0 &&& (15 : Int32))), .val (.int (2 : Int32)), .unset, .unset] [(.int (p0 &&& (15 : Int32))), (.ref b88), (.ref b88)])) _
        exact kt)
    have zs91 := (Nat.le_trans Z0 E88.1)
    obtain ⟨_, _, ⟨T90, L90, k90, n90⟩, -, X90, ⟨Lc90, hQ90, l90, y90, z90⟩, st90⟩ := X88.specialBack hx (y := (⟨"com/example/classweave/classweave/classfile/ClassOutput", "<init>", "(I)V"⟩ : MethodName)) rfl hown (mvT hZ (hw _ (List.mem_of_getElem? (i := 4) rfl))) (mvT hZ (hw _ (List.mem_of_getElem? (i := 5) rfl))) (mvT hZ (hw _ (List.mem_of_getElem? (i := 6) rfl))) (by decide) (backOf (W := 1) (rm1 l Z a0 hw [] b88 (p0 &&& (15 : Int32)) h88 n0 zs91 A88 F88_bytes F88_size gb88 (own_cap p0).1 (own_cap p0).2) hZ (hw _ (List.mem_of_getElem? (i := 6) rfl)) (hw _ (List.mem_of_getElem? (i := 3) rfl)) (by decide) (by decide)) (g := (mkF m 20 #[.val (.int p0), .val (.int p1), .val (.int p2), .val (.int p3), .val (.int p4), .val (.int (p0 &&& (15 : Int32))), .val (.int (2 : Int32)), .unset, .unset] [(.int (p0 &&& (15 : Int32))), (.ref b88), (.ref b88)])) rfl (by rw [hml]; rfl) (Steps.refl _) (a := b88) (argsL := [(.int (p0 &&& (15 : Int32)))]) (rest := [(.ref b88)]) (lenOf pd_0 rfl) rfl (by show 2 * 0 + _ ≤ _; exact Nat.le_of_eq rfl) (hb hby at_20) (fun _ _ => ⟨rfl, e88, (by decide : 1 + 1 ≤ _), (by decide : 2 + 15 ≤ _)⟩)
    dsimp only [Pt.U, Pt.locs, Pt.cells, Pt.slots] at X90 l90 y90 z90 st90 hQ90
    subst l90 y90 z90
    obtain ⟨rfl, N90q, OB90⟩ := hQ90
    have OC90 : own_OB Z T90.heap n0 b88 [] := OB90
    have zs90 : n0 ≤ T90.heap.size := by obtain ⟨_, _, ⟨q, _, _, _, r, _⟩, _⟩ := OC90; exact Nat.le_trans r (Nat.le_of_lt q.lt)
    have N90 := Fr.app N0 N90q
    have go92 : ∀ t, Steps p.tables e below (T90.setTop (mkF m 28 #[.val (.int p0), .val (.int p1), .val (.int p2), .val (.int p3), .val (.int p4), .val (.int (p0 &&& (15 : Int32))), .val (.int (2 : Int32)), .val (.ref b88), .unset] [(.int p1), (.ref b88)])) t → Steps p.tables e below (s₁.setTop (entryFrame m #[(.int p0), (.int p1), (.int p2), (.int p3), (.int p4)] maxLocals)) t := fun t kt => go89 t (by
        refine st90.trans ?_
        show Steps p.tables e below (T90.setTop (mkF m 23 #[.val (.int p0), .val (.int p1), .val (.int p2), .val (.int p3), .val (.int p4), .val (.int (p0 &&& (15 : Int32))), .val (.int (2 : Int32)), .unset, .unset] [(.ref b88)])) _
        refine XS.astore X90.here hx rfl (hb hby at_23) rfl rfl (l' := #[.val (.int p0), .val (.int p1), .val (.int p2), .val (.int p3), .val (.int p4), .val (.int (p0 &&& (15 : Int32))), .val (.int (2 : Int32)), .val (.ref b88), .unset]) rfl ?_
        show Steps p.tables e below (T90.setTop (mkF m 25 #[.val (.int p0), .val (.int p1), .val (.int p2), .val (.int p3), .val (.int p4), .val (.int (p0 &&& (15 : Int32))), .val (.int (2 : Int32)), .val (.ref b88), .unset] [])) _
        refine XS.aload X90.here hx rfl (hb hby at_25) rfl rfl ?_
        show Steps p.tables e below (T90.setTop (mkF m 27 #[.val (.int p0), .val (.int p1), .val (.int p2), .val (.int p3), .val (.int p4), .val (.int (p0 &&& (15 : Int32))), .val (.int (2 : Int32)), .val (.ref b88), .unset] [(.ref b88)])) _
        refine XS.iloadN X90.here hx rfl (hb hby at_27) rfl ?_
        show Steps p.tables e below (T90.setTop (mkF m 28 #[.val (.int p0), .val (.int p1), .val (.int p2), .val (.int p3), .val (.int p4), .val (.int (p0 &&& (15 : Int32))), .val (.int (2 : Int32)), .val (.ref b88), .unset] [(.int p1), (.ref b88)])) _
        exact kt)
    obtain ⟨cq93, kq93, q93a, q93b, q93c⟩ := isOf hZ rfl (by obtain ⟨_, _, ⟨q, _⟩, _⟩ := OC90; exact q)
    obtain ⟨_, _, ⟨T93, L93, k93, n93⟩, -, X93, ⟨Lc93, hQ93, l93, y93, z93⟩, st93⟩ := X90.virtualBack hx (y := (⟨"com/example/classweave/classweave/classfile/ClassOutput", "u4", "(I)V"⟩ : MethodName)) (z := (⟨"com/example/classweave/classweave/classfile/ClassOutput", "u4", "(I)V"⟩ : MethodName)) hown (mvT hZ (hw _ (List.mem_of_getElem? (i := 13) rfl))) (mvT hZ (hw _ (List.mem_of_getElem? (i := 14) rfl))) (notFace_of_selects (args := #[]) (mvT hZ (hw _ (List.mem_of_getElem? (i := 16) rfl)))) (mvT hZ (hw _ (List.mem_of_getElem? (i := 16) rfl))) (mvT hZ (hw _ (List.mem_of_getElem? (i := 15) rfl))) (by decide) (backOf (W := 0) (rm3 l Z a0 hw [] b88 p1 [] T90.heap n0 zs90 OC90 (by decide)) hZ (hw _ (List.mem_of_getElem? (i := 17) rfl)) (hw _ (List.mem_of_getElem? (i := 3) rfl)) (by decide) (by decide)) q93a q93c (g := (mkF m 28 #[.val (.int p0), .val (.int p1), .val (.int p2), .val (.int p3), .val (.int p4), .val (.int (p0 &&& (15 : Int32))), .val (.int (2 : Int32)), .val (.ref b88), .unset] [(.int p1), (.ref b88)])) rfl (by rw [hml]; rfl) (Steps.refl _) (argsL := [(.int p1)]) (rest := []) (lenOf pd_0 rfl) rfl (by show 2 * 0 + _ ≤ _; exact Nat.le_of_eq rfl) (hb hby at_28) (fun _ _ => ⟨rfl, rfl, (by decide : 2 + 2 ≤ _), (by decide : 17 + 32 ≤ _)⟩)
    dsimp only [Pt.U, Pt.locs, Pt.cells, Pt.slots] at X93 l93 y93 z93 st93 hQ93
    subst l93 y93 z93
    obtain ⟨rfl, N93q, OB93⟩ := hQ93
    have OC93 : own_OB Z T93.heap n0 b88 [(nar .byte (((((p1.toUInt32 >>> ((16 : Int32) &&& 31).toUInt32).toInt32).toUInt32 >>> ((8 : Int32) &&& 31).toUInt32).toInt32).toInt8.toInt32)), (nar .byte (((p1.toUInt32 >>> ((16 : Int32) &&& 31).toUInt32).toInt32).toInt8.toInt32)), (nar .byte (((p1.toUInt32 >>> ((8 : Int32) &&& 31).toUInt32).toInt32).toInt8.toInt32)), (nar .byte (p1.toInt8.toInt32))] := OB93
    have zs93 : n0 ≤ T93.heap.size := by obtain ⟨_, _, ⟨q, _, _, _, r, _⟩, _⟩ := OC93; exact Nat.le_trans r (Nat.le_of_lt q.lt)
    have N93 := Fr.app N90 N93q
    have go94 : ∀ t, Steps p.tables e below (T93.setTop (mkF m 34 #[.val (.int p0), .val (.int p1), .val (.int p2), .val (.int p3), .val (.int p4), .val (.int (p0 &&& (15 : Int32))), .val (.int (2 : Int32)), .val (.ref b88), .unset] [(.int p2), (.ref b88)])) t → Steps p.tables e below (s₁.setTop (entryFrame m #[(.int p0), (.int p1), (.int p2), (.int p3), (.int p4)] maxLocals)) t := fun t kt => go92 t (by
        refine st93.trans ?_
        show Steps p.tables e below (T93.setTop (mkF m 31 #[.val (.int p0), .val (.int p1), .val (.int p2), .val (.int p3), .val (.int p4), .val (.int (p0 &&& (15 : Int32))), .val (.int (2 : Int32)), .val (.ref b88), .unset] [])) _
        refine XS.aload X93.here hx rfl (hb hby at_31) rfl rfl ?_
        show Steps p.tables e below (T93.setTop (mkF m 33 #[.val (.int p0), .val (.int p1), .val (.int p2), .val (.int p3), .val (.int p4), .val (.int (p0 &&& (15 : Int32))), .val (.int (2 : Int32)), .val (.ref b88), .unset] [(.ref b88)])) _
        refine XS.iloadN X93.here hx rfl (hb hby at_33) rfl ?_
        show Steps p.tables e below (T93.setTop (mkF m 34 #[.val (.int p0), .val (.int p1), .val (.int p2), .val (.int p3), .val (.int p4), .val (.int (p0 &&& (15 : Int32))), .val (.int (2 : Int32)), .val (.ref b88), .unset] [(.int p2), (.ref b88)])) _
        exact kt)
    obtain ⟨cq95, kq95, q95a, q95b, q95c⟩ := isOf hZ rfl (by obtain ⟨_, _, ⟨q, _⟩, _⟩ := OC93; exact q)
    obtain ⟨_, _, ⟨T95, L95, k95, n95⟩, -, X95, ⟨Lc95, hQ95, l95, y95, z95⟩, st95⟩ := X93.virtualBack hx (y := (⟨"com/example/classweave/classweave/classfile/ClassOutput", "u4", "(I)V"⟩ : MethodName)) (z := (⟨"com/example/classweave/classweave/classfile/ClassOutput", "u4", "(I)V"⟩ : MethodName)) hown (mvT hZ (hw _ (List.mem_of_getElem? (i := 13) rfl))) (mvT hZ (hw _ (List.mem_of_getElem? (i := 14) rfl))) (notFace_of_selects (args := #[]) (mvT hZ (hw _ (List.mem_of_getElem? (i := 16) rfl)))) (mvT hZ (hw _ (List.mem_of_getElem? (i := 16) rfl))) (mvT hZ (hw _ (List.mem_of_getElem? (i := 15) rfl))) (by decide) (backOf (W := 0) (rm3 l Z a0 hw [] b88 p2 [(nar .byte (((((p1.toUInt32 >>> ((16 : Int32) &&& 31).toUInt32).toInt32).toUInt32 >>> ((8 : Int32) &&& 31).toUInt32).toInt32).toInt8.toInt32)), (nar .byte (((p1.toUInt32 >>> ((16 : Int32) &&& 31).toUInt32).toInt32).toInt8.toInt32)), (nar .byte (((p1.toUInt32 >>> ((8 : Int32) &&& 31).toUInt32).toInt32).toInt8.toInt32)), (nar .byte (p1.toInt8.toInt32))] T93.heap n0 zs93 OC93 (Nat.le_of_eq rfl)) hZ (hw _ (List.mem_of_getElem? (i := 17) rfl)) (hw _ (List.mem_of_getElem? (i := 3) rfl)) (by decide) (by decide)) q95a q95c (g := (mkF m 34 #[.val (.int p0), .val (.int p1), .val (.int p2), .val (.int p3), .val (.int p4), .val (.int (p0 &&& (15 : Int32))), .val (.int (2 : Int32)), .val (.ref b88), .unset] [(.int p2), (.ref b88)])) rfl (by rw [hml]; rfl) (Steps.refl _) (argsL := [(.int p2)]) (rest := []) (lenOf pd_0 rfl) rfl (by show 2 * 0 + _ ≤ _; exact Nat.le_of_eq rfl) (hb hby at_34) (fun _ _ => ⟨rfl, rfl, (by decide : 4 + 2 ≤ _), (by decide : 49 + 32 ≤ _)⟩)
    dsimp only [Pt.U, Pt.locs, Pt.cells, Pt.slots] at X95 l95 y95 z95 st95 hQ95
    subst l95 y95 z95
    obtain ⟨rfl, N95q, OB95⟩ := hQ95
    have OC95 : own_OB Z T95.heap n0 b88 [(nar .byte (((((p1.toUInt32 >>> ((16 : Int32) &&& 31).toUInt32).toInt32).toUInt32 >>> ((8 : Int32) &&& 31).toUInt32).toInt32).toInt8.toInt32)), (nar .byte (((p1.toUInt32 >>> ((16 : Int32) &&& 31).toUInt32).toInt32).toInt8.toInt32)), (nar .byte (((p1.toUInt32 >>> ((8 : Int32) &&& 31).toUInt32).toInt32).toInt8.toInt32)), (nar .byte (p1.toInt8.toInt32)), (nar .byte (((((p2.toUInt32 >>> ((16 : Int32) &&& 31).toUInt32).toInt32).toUInt32 >>> ((8 : Int32) &&& 31).toUInt32).toInt32).toInt8.toInt32)), (nar .byte (((p2.toUInt32 >>> ((16 : Int32) &&& 31).toUInt32).toInt32).toInt8.toInt32)), (nar .byte (((p2.toUInt32 >>> ((8 : Int32) &&& 31).toUInt32).toInt32).toInt8.toInt32)), (nar .byte (p2.toInt8.toInt32))] := OB95
    have zs95 : n0 ≤ T95.heap.size := by obtain ⟨_, _, ⟨q, _, _, _, r, _⟩, _⟩ := OC95; exact Nat.le_trans r (Nat.le_of_lt q.lt)
    have N95 := Fr.app N93 N95q
    have go96 : ∀ t, Steps p.tables e below (T95.setTop (mkF m 43 #[.val (.int p0), .val (.int p1), .val (.int p2), .val (.int p3), .val (.int p4), .val (.int (p0 &&& (15 : Int32))), .val (.int (2 : Int32)), .val (.ref b88), .unset] [(.int p4), (.int (2 : Int32)), (.ref b88)])) t → Steps p.tables e below (s₁.setTop (entryFrame m #[(.int p0), (.int p1), (.int p2), (.int p3), (.int p4)] maxLocals)) t := fun t kt => go94 t (by
        refine st95.trans ?_
        show Steps p.tables e below (T95.setTop (mkF m 37 #[.val (.int p0), .val (.int p1), .val (.int p2), .val (.int p3), .val (.int p4), .val (.int (p0 &&& (15 : Int32))), .val (.int (2 : Int32)), .val (.ref b88), .unset] [])) _
        refine XS.aload X95.here hx rfl (hb hby at_37) rfl rfl ?_
        show Steps p.tables e below (T95.setTop (mkF m 39 #[.val (.int p0), .val (.int p1), .val (.int p2), .val (.int p3), .val (.int p4), .val (.int (p0 &&& (15 : Int32))), .val (.int (2 : Int32)), .val (.ref b88), .unset] [(.ref b88)])) _
        refine XS.iload X95.here hx rfl (hb hby at_39) rfl ?_
        show Steps p.tables e below (T95.setTop (mkF m 41 #[.val (.int p0), .val (.int p1), .val (.int p2), .val (.int p3), .val (.int p4), .val (.int (p0 &&& (15 : Int32))), .val (.int (2 : Int32)), .val (.ref b88), .unset] [(.int (2 : Int32)), (.ref b88)])) _
        refine XS.iload X95.here hx rfl (hb hby at_41) rfl ?_
        show Steps p.tables e below (T95.setTop (mkF m 43 #[.val (.int p0), .val (.int p1), .val (.int p2), .val (.int p3), .val (.int p4), .val (.int (p0 &&& (15 : Int32))), .val (.int (2 : Int32)), .val (.ref b88), .unset] [(.int p4), (.int (2 : Int32)), (.ref b88)])) _
        exact kt)
    obtain ⟨cq97, kq97, q97a, q97b, q97c⟩ := isOf hZ rfl (by obtain ⟨_, _, ⟨q, _⟩, _⟩ := OC95; exact q)
    obtain ⟨_, _, ⟨T97, L97, k97, n97⟩, -, X97, ⟨Lc97, hQ97, l97, y97, z97⟩, st97⟩ := X95.virtualBack hx (y := (⟨"com/example/classweave/classweave/classfile/ClassOutput", "u4At", "(II)V"⟩ : MethodName)) (z := (⟨"com/example/classweave/classweave/classfile/ClassOutput", "u4At", "(II)V"⟩ : MethodName)) hown (mvT hZ (hw _ (List.mem_of_getElem? (i := 44) rfl))) (mvT hZ (hw _ (List.mem_of_getElem? (i := 45) rfl))) (notFace_of_selects (args := #[]) (mvT hZ (hw _ (List.mem_of_getElem? (i := 47) rfl)))) (mvT hZ (hw _ (List.mem_of_getElem? (i := 47) rfl))) (mvT hZ (hw _ (List.mem_of_getElem? (i := 46) rfl))) (by decide) (backOf (W := 0) (rm9 l Z a0 hw [] b88 (2 : Int32) p4 [(nar .byte (((((p1.toUInt32 >>> ((16 : Int32) &&& 31).toUInt32).toInt32).toUInt32 >>> ((8 : Int32) &&& 31).toUInt32).toInt32).toInt8.toInt32)), (nar .byte (((p1.toUInt32 >>> ((16 : Int32) &&& 31).toUInt32).toInt32).toInt8.toInt32)), (nar .byte (((p1.toUInt32 >>> ((8 : Int32) &&& 31).toUInt32).toInt32).toInt8.toInt32)), (nar .byte (p1.toInt8.toInt32)), (nar .byte (((((p2.toUInt32 >>> ((16 : Int32) &&& 31).toUInt32).toInt32).toUInt32 >>> ((8 : Int32) &&& 31).toUInt32).toInt32).toInt8.toInt32)), (nar .byte (((p2.toUInt32 >>> ((16 : Int32) &&& 31).toUInt32).toInt32).toInt8.toInt32)), (nar .byte (((p2.toUInt32 >>> ((8 : Int32) &&& 31).toUInt32).toInt32).toInt8.toInt32)), (nar .byte (p2.toInt8.toInt32))] 2 T95.heap n0 zs95 OC95 (by show 2 + 4 ≤ 8; decide) (by decide) (by decide) (by decide) (by decide) (by decide) (by decide) (by decide) (by decide)) hZ (hw _ (List.mem_of_getElem? (i := 48) rfl)) (hw _ (List.mem_of_getElem? (i := 3) rfl)) (by decide) (by decide)) q97a q97c (g := (mkF m 43 #[.val (.int p0), .val (.int p1), .val (.int p2), .val (.int p3), .val (.int p4), .val (.int (p0 &&& (15 : Int32))), .val (.int (2 : Int32)), .val (.ref b88), .unset] [(.int p4), (.int (2 : Int32)), (.ref b88)])) rfl (by rw [hml]; rfl) (Steps.refl _) (argsL := [(.int (2 : Int32)), (.int p4)]) (rest := []) (lenOf pd_4 rfl) rfl (by show 2 * 0 + _ ≤ _; exact Nat.le_of_eq rfl) (hb hby at_43) (fun _ _ => ⟨rfl, rfl, (by decide : 6 + 0 ≤ _), (by decide : 81 + 0 ≤ _)⟩)
    dsimp only [Pt.U, Pt.locs, Pt.cells, Pt.slots] at X97 l97 y97 z97 st97 hQ97
    subst l97 y97 z97
    obtain ⟨rfl, N97q, OB97⟩ := hQ97
    have OC97 : own_OB Z T97.heap n0 b88 [(nar .byte (((((p1.toUInt32 >>> ((16 : Int32) &&& 31).toUInt32).toInt32).toUInt32 >>> ((8 : Int32) &&& 31).toUInt32).toInt32).toInt8.toInt32)), (nar .byte (((p1.toUInt32 >>> ((16 : Int32) &&& 31).toUInt32).toInt32).toInt8.toInt32)), (nar .byte (((p4.toUInt32 >>> ((24 : Int32) &&& 31).toUInt32).toInt32).toInt8.toInt32)), (nar .byte (((p4.toUInt32 >>> ((16 : Int32) &&& 31).toUInt32).toInt32).toInt8.toInt32)), (nar .byte (((p4.toUInt32 >>> ((8 : Int32) &&& 31).toUInt32).toInt32).toInt8.toInt32)), (nar .byte (p4.toInt8.toInt32)), (nar .byte (((p2.toUInt32 >>> ((8 : Int32) &&& 31).toUInt32).toInt32).toInt8.toInt32)), (nar .byte (p2.toInt8.toInt32))] := OB97
    have zs97 : n0 ≤ T97.heap.size := by obtain ⟨_, _, ⟨q, _, _, _, r, _⟩, _⟩ := OC97; exact Nat.le_trans r (Nat.le_of_lt q.lt)
    have N97 := Fr.app N95 N97q
    have go98 : ∀ t, Steps p.tables e below (T97.setTop (mkF m 48 #[.val (.int p0), .val (.int p1), .val (.int p2), .val (.int p3), .val (.int p4), .val (.int (p0 &&& (15 : Int32))), .val (.int (2 : Int32)), .val (.ref b88), .unset] [(.ref b88)])) t → Steps p.tables e below (s₁.setTop (entryFrame m #[(.int p0), (.int p1), (.int p2), (.int p3), (.int p4)] maxLocals)) t := fun t kt => go96 t (by
        refine st97.trans ?_
        show Steps p.tables e below (T97.setTop (mkF m 46 #[.val (.int p0), .val (.int p1), .val (.int p2), .val (.int p3), .val (.int p4), .val (.int (p0 &&& (15 : Int32))), .val (.int (2 : Int32)), .val (.ref b88), .unset] [])) _
        refine XS.aload X97.here hx rfl (hb hby at_46) rfl rfl ?_
        show Steps p.tables e below (T97.setTop (mkF m 48 #[.val (.int p0), .val (.int p1), .val (.int p2), .val (.int p3), .val (.int p4), .val (.int (p0 &&& (15 : Int32))), .val (.int (2 : Int32)), .val (.ref b88), .unset] [(.ref b88)])) _
        exact kt)
    obtain ⟨cq99, kq99, q99a, q99b, q99c⟩ := isOf hZ rfl (by obtain ⟨_, _, ⟨q, _⟩, _⟩ := OC97; exact q)
    obtain ⟨_, _, ⟨T99, L99, k99, n99⟩, -, X99, ⟨Lc99, hQ99, l99, y99, z99⟩, st99⟩ := X97.virtualBack hx (y := (⟨"com/example/classweave/classweave/classfile/ClassOutput", "toByteArray", "()[B"⟩ : MethodName)) (z := (⟨"com/example/classweave/classweave/classfile/ClassOutput", "toByteArray", "()[B"⟩ : MethodName)) hown (mvT hZ (hw _ (List.mem_of_getElem? (i := 49) rfl))) (mvT hZ (hw _ (List.mem_of_getElem? (i := 50) rfl))) (notFace_of_selects (args := #[]) (mvT hZ (hw _ (List.mem_of_getElem? (i := 52) rfl)))) (mvT hZ (hw _ (List.mem_of_getElem? (i := 52) rfl))) (mvT hZ (hw _ (List.mem_of_getElem? (i := 51) rfl))) (by decide) (backOf (W := 0) (rm10 l Z a0 hw [] b88 [(nar .byte (((((p1.toUInt32 >>> ((16 : Int32) &&& 31).toUInt32).toInt32).toUInt32 >>> ((8 : Int32) &&& 31).toUInt32).toInt32).toInt8.toInt32)), (nar .byte (((p1.toUInt32 >>> ((16 : Int32) &&& 31).toUInt32).toInt32).toInt8.toInt32)), (nar .byte (((p4.toUInt32 >>> ((24 : Int32) &&& 31).toUInt32).toInt32).toInt8.toInt32)), (nar .byte (((p4.toUInt32 >>> ((16 : Int32) &&& 31).toUInt32).toInt32).toInt8.toInt32)), (nar .byte (((p4.toUInt32 >>> ((8 : Int32) &&& 31).toUInt32).toInt32).toInt8.toInt32)), (nar .byte (p4.toInt8.toInt32)), (nar .byte (((p2.toUInt32 >>> ((8 : Int32) &&& 31).toUInt32).toInt32).toInt8.toInt32)), (nar .byte (p2.toInt8.toInt32))] T97.heap n0 zs97 OC97) hZ (hw _ (List.mem_of_getElem? (i := 53) rfl)) (hw _ (List.mem_of_getElem? (i := 3) rfl)) (by decide) (by decide)) q99a q99c (g := (mkF m 48 #[.val (.int p0), .val (.int p1), .val (.int p2), .val (.int p3), .val (.int p4), .val (.int (p0 &&& (15 : Int32))), .val (.int (2 : Int32)), .val (.ref b88), .unset] [(.ref b88)])) rfl (by rw [hml]; rfl) (Steps.refl _) (argsL := []) (rest := []) (lenOf pd_5 rfl) rfl (by show 2 * 0 + _ ≤ _; exact Nat.le_of_eq rfl) (hb hby at_48) (fun _ _ => ⟨rfl, rfl, (by decide : 6 + 1 ≤ _), (by decide : 81 + 16 ≤ _)⟩)
    dsimp only [Pt.U, Pt.locs, Pt.cells, Pt.slots] at X99 l99 y99 z99 st99 hQ99
    subst l99 y99 z99
    obtain ⟨b99, rfl, N99q, OB99, Vq99⟩ := hQ99
    have OC99 : own_OB Z T99.heap n0 b88 [(nar .byte (((((p1.toUInt32 >>> ((16 : Int32) &&& 31).toUInt32).toInt32).toUInt32 >>> ((8 : Int32) &&& 31).toUInt32).toInt32).toInt8.toInt32)), (nar .byte (((p1.toUInt32 >>> ((16 : Int32) &&& 31).toUInt32).toInt32).toInt8.toInt32)), (nar .byte (((p4.toUInt32 >>> ((24 : Int32) &&& 31).toUInt32).toInt32).toInt8.toInt32)), (nar .byte (((p4.toUInt32 >>> ((16 : Int32) &&& 31).toUInt32).toInt32).toInt8.toInt32)), (nar .byte (((p4.toUInt32 >>> ((8 : Int32) &&& 31).toUInt32).toInt32).toInt8.toInt32)), (nar .byte (p4.toInt8.toInt32)), (nar .byte (((p2.toUInt32 >>> ((8 : Int32) &&& 31).toUInt32).toInt32).toInt8.toInt32)), (nar .byte (p2.toInt8.toInt32))] := OB99
    have zs99 : n0 ≤ T99.heap.size := by obtain ⟨_, _, ⟨q, _, _, _, r, _⟩, _⟩ := OC99; exact Nat.le_trans r (Nat.le_of_lt q.lt)
    have V99 : own_AV Z T99.heap b99 .byte [(.int (nar .byte (((((p1.toUInt32 >>> ((16 : Int32) &&& 31).toUInt32).toInt32).toUInt32 >>> ((8 : Int32) &&& 31).toUInt32).toInt32).toInt8.toInt32))), (.int (nar .byte (((p1.toUInt32 >>> ((16 : Int32) &&& 31).toUInt32).toInt32).toInt8.toInt32))), (.int (nar .byte (((p4.toUInt32 >>> ((24 : Int32) &&& 31).toUInt32).toInt32).toInt8.toInt32))), (.int (nar .byte (((p4.toUInt32 >>> ((16 : Int32) &&& 31).toUInt32).toInt32).toInt8.toInt32))), (.int (nar .byte (((p4.toUInt32 >>> ((8 : Int32) &&& 31).toUInt32).toInt32).toInt8.toInt32))), (.int (nar .byte (p4.toInt8.toInt32))), (.int (nar .byte (((p2.toUInt32 >>> ((8 : Int32) &&& 31).toUInt32).toInt32).toInt8.toInt32))), (.int (nar .byte (p2.toInt8.toInt32)))] := Vq99
    have N99 := Fr.app N97 N99q
    have go100 : ∀ t, Steps p.tables e below (T99.setTop (mkF m 55 #[.val (.int p0), .val (.int p1), .val (.int p2), .val (.int p3), .val (.int p4), .val (.int (p0 &&& (15 : Int32))), .val (.int (2 : Int32)), .val (.ref b88), .val (.ref b99)] [(.ref b88)])) t → Steps p.tables e below (s₁.setTop (entryFrame m #[(.int p0), (.int p1), (.int p2), (.int p3), (.int p4)] maxLocals)) t := fun t kt => go98 t (by
        refine st99.trans ?_
        show Steps p.tables e below (T99.setTop (mkF m 51 #[.val (.int p0), .val (.int p1), .val (.int p2), .val (.int p3), .val (.int p4), .val (.int (p0 &&& (15 : Int32))), .val (.int (2 : Int32)), .val (.ref b88), .unset] [(.ref b99)])) _
        refine XS.astore X99.here hx rfl (hb hby at_51) rfl rfl (l' := #[.val (.int p0), .val (.int p1), .val (.int p2), .val (.int p3), .val (.int p4), .val (.int (p0 &&& (15 : Int32))), .val (.int (2 : Int32)), .val (.ref b88), .val (.ref b99)]) rfl ?_
        show Steps p.tables e below (T99.setTop (mkF m 53 #[.val (.int p0), .val (.int p1), .val (.int p2), .val (.int p3), .val (.int p4), .val (.int (p0 &&& (15 : Int32))), .val (.int (2 : Int32)), .val (.ref b88), .val (.ref b99)] [])) _
        refine XS.aload X99.here hx rfl (hb hby at_53) rfl rfl ?_
        show Steps p.tables e below (T99.setTop (mkF m 55 #[.val (.int p0), .val (.int p1), .val (.int p2), .val (.int p3), .val (.int p4), .val (.int (p0 &&& (15 : Int32))), .val (.int (2 : Int32)), .val (.ref b88), .val (.ref b99)] [(.ref b88)])) _
        exact kt)
    obtain ⟨cq101, kq101, q101a, q101b, q101c⟩ := isOf hZ rfl (by obtain ⟨_, _, ⟨q, _⟩, _⟩ := OC99; exact q)
    obtain ⟨_, _, ⟨T101, L101, k101, n101⟩, -, X101, ⟨Lc101, hQ101, l101, y101, z101⟩, st101⟩ := X99.virtualBack hx (y := (⟨"com/example/classweave/classweave/classfile/ClassOutput", "size", "()I"⟩ : MethodName)) (z := (⟨"com/example/classweave/classweave/classfile/ClassOutput", "size", "()I"⟩ : MethodName)) hown (mvT hZ (hw _ (List.mem_of_getElem? (i := 63) rfl))) (mvT hZ (hw _ (List.mem_of_getElem? (i := 64) rfl))) (notFace_of_selects (args := #[]) (mvT hZ (hw _ (List.mem_of_getElem? (i := 66) rfl)))) (mvT hZ (hw _ (List.mem_of_getElem? (i := 66) rfl))) (mvT hZ (hw _ (List.mem_of_getElem? (i := 65) rfl))) (by decide) (backOf (W := 0) (rm11 l Z a0 hw [] b88 [(nar .byte (((((p1.toUInt32 >>> ((16 : Int32) &&& 31).toUInt32).toInt32).toUInt32 >>> ((8 : Int32) &&& 31).toUInt32).toInt32).toInt8.toInt32)), (nar .byte (((p1.toUInt32 >>> ((16 : Int32) &&& 31).toUInt32).toInt32).toInt8.toInt32)), (nar .byte (((p4.toUInt32 >>> ((24 : Int32) &&& 31).toUInt32).toInt32).toInt8.toInt32)), (nar .byte (((p4.toUInt32 >>> ((16 : Int32) &&& 31).toUInt32).toInt32).toInt8.toInt32)), (nar .byte (((p4.toUInt32 >>> ((8 : Int32) &&& 31).toUInt32).toInt32).toInt8.toInt32)), (nar .byte (p4.toInt8.toInt32)), (nar .byte (((p2.toUInt32 >>> ((8 : Int32) &&& 31).toUInt32).toInt32).toInt8.toInt32)), (nar .byte (p2.toInt8.toInt32))] (8 : Int32) T99.heap n0 OC99 rfl) hZ (hw _ (List.mem_of_getElem? (i := 67) rfl)) (hw _ (List.mem_of_getElem? (i := 3) rfl)) (by decide) (by decide)) q101a q101c (g := (mkF m 55 #[.val (.int p0), .val (.int p1), .val (.int p2), .val (.int p3), .val (.int p4), .val (.int (p0 &&& (15 : Int32))), .val (.int (2 : Int32)), .val (.ref b88), .val (.ref b99)] [(.ref b88)])) rfl (by rw [hml]; rfl) (Steps.refl _) (argsL := []) (rest := []) (lenOf pd_6 rfl) rfl (by show 2 * 0 + _ ≤ _; exact Nat.le_of_eq rfl) (hb hby at_55) (fun _ _ => ⟨rfl, rfl, (by decide : 7 + 0 ≤ _), (by decide : 97 + 0 ≤ _)⟩)
    dsimp only [Pt.U, Pt.locs, Pt.cells, Pt.slots] at X101 l101 y101 z101 st101 hQ101
    subst l101 y101 z101
    obtain ⟨rfl, N101q, e101⟩ := hQ101
    have N101 := Fr.app N99 N101q
    have hc60_102 : (8 : Int32) = (8 : Int32) := (by decide)
    have go103 : ∀ t, Steps p.tables e below (T101.setTop (mkF m 65 #[.val (.int p0), .val (.int p1), .val (.int p2), .val (.int p3), .val (.int p4), .val (.int (p0 &&& (15 : Int32))), .val (.int (2 : Int32)), .val (.ref b88), .val (.ref b99)] [(.ref b99)])) t → Steps p.tables e below (s₁.setTop (entryFrame m #[(.int p0), (.int p1), (.int p2), (.int p3), (.int p4)] maxLocals)) t := fun t kt => go100 t (by
        refine st101.trans ?_
        show Steps p.tables e below (T101.setTop (mkF m 58 #[.val (.int p0), .val (.int p1), .val (.int p2), .val (.int p3), .val (.int p4), .val (.int (p0 &&& (15 : Int32))), .val (.int (2 : Int32)), .val (.ref b88), .val (.ref b99)] [(.int (8 : Int32))])) _
        refine XS.bipush X101.here hx rfl (hb hby at_58) ?_
        show Steps p.tables e below (T101.setTop (mkF m 60 #[.val (.int p0), .val (.int p1), .val (.int p2), .val (.int p3), .val (.int p4), .val (.int (p0 &&& (15 : Int32))), .val (.int (2 : Int32)), .val (.ref b88), .val (.ref b99)] [(.int (8 : Int32)), (.int (8 : Int32))])) _
        refine XS.icmpNo X101.here hx rfl (hb hby at_60) rfl (teq hc60_102).2 ?_
        show Steps p.tables e below (T101.setTop (mkF m 63 #[.val (.int p0), .val (.int p1), .val (.int p2), .val (.int p3), .val (.int p4), .val (.int (p0 &&& (15 : Int32))), .val (.int (2 : Int32)), .val (.ref b88), .val (.ref b99)] [])) _
        refine XS.aload X101.here hx rfl (hb hby at_63) rfl rfl ?_
        show Steps p.tables e below (T101.setTop (mkF m 65 #[.val (.int p0), .val (.int p1), .val (.int p2), .val (.int p3), .val (.int p4), .val (.int (p0 &&& (15 : Int32))), .val (.int (2 : Int32)), .val (.ref b88), .val (.ref b99)] [(.ref b99)])) _
        exact kt)
    obtain ⟨c104, Ar104, q104⟩ := id V99
    have hc68_105 : (8 : Int32) = (8 : Int32) := (by decide)
    have go106 : ∀ t, Steps p.tables e below (T101.setTop (mkF m 82 #[.val (.int p0), .val (.int p1), .val (.int p2), .val (.int p3), .val (.int p4), .val (.int (p0 &&& (15 : Int32))), .val (.int (2 : Int32)), .val (.ref b88), .val (.ref b99)] [(.int p4), (.int p2), (.int p1), (.int (2 : Int32)), (.int (0 : Int32)), (.ref b99)])) t → Steps p.tables e below (s₁.setTop (entryFrame m #[(.int p0), (.int p1), (.int p2), (.int p3), (.int p4)] maxLocals)) t := fun t kt => go103 t (by
        refine X101.arraylength hx (by rw [e101]; exact Ar104.1) (State.isArrayOf_alike hZ.alike Ar104.2.1) (g := (mkF m 65 #[.val (.int p0), .val (.int p1), .val (.int p2), .val (.int p3), .val (.int p4), .val (.int (p0 &&& (15 : Int32))), .val (.int (2 : Int32)), .val (.ref b88), .val (.ref b99)] [(.ref b99)])) rfl rfl (hb hby at_65) _ ?_
        rw [own_len q104 (n := (8 : Int32)) rfl]
        show Steps p.tables e below (T101.setTop (mkF m 66 #[.val (.int p0), .val (.int p1), .val (.int p2), .val (.int p3), .val (.int p4), .val (.int (p0 &&& (15 : Int32))), .val (.int (2 : Int32)), .val (.ref b88), .val (.ref b99)] [(.int (8 : Int32))])) _
        refine XS.bipush X101.here hx rfl (hb hby at_66) ?_
        show Steps p.tables e below (T101.setTop (mkF m 68 #[.val (.int p0), .val (.int p1), .val (.int p2), .val (.int p3), .val (.int p4), .val (.int (p0 &&& (15 : Int32))), .val (.int (2 : Int32)), .val (.ref b88), .val (.ref b99)] [(.int (8 : Int32)), (.int (8 : Int32))])) _
        refine XS.icmpYes X101.here hx rfl (pc0 := 68) (pc' := 73) rfl (hb hby at_68) rfl (teq hc68_105).1 (by decide) (by decide) ?_
        show Steps p.tables e below (T101.setTop (mkF m 73 #[.val (.int p0), .val (.int p1), .val (.int p2), .val (.int p3), .val (.int p4), .val (.int (p0 &&& (15 : Int32))), .val (.int (2 : Int32)), .val (.ref b88), .val (.ref b99)] [])) _
        refine XS.aload X101.here hx rfl (hb hby at_73) rfl rfl ?_
        show Steps p.tables e below (T101.setTop (mkF m 75 #[.val (.int p0), .val (.int p1), .val (.int p2), .val (.int p3), .val (.int p4), .val (.int (p0 &&& (15 : Int32))), .val (.int (2 : Int32)), .val (.ref b88), .val (.ref b99)] [(.ref b99)])) _
        refine XS.iconst X101.here hx rfl (hb hby at_75) ?_
        show Steps p.tables e below (T101.setTop (mkF m 76 #[.val (.int p0), .val (.int p1), .val (.int p2), .val (.int p3), .val (.int p4), .val (.int (p0 &&& (15 : Int32))), .val (.int (2 : Int32)), .val (.ref b88), .val (.ref b99)] [(.int (0 : Int32)), (.ref b99)])) _
        refine XS.iload X101.here hx rfl (hb hby at_76) rfl ?_
        show Steps p.tables e below (T101.setTop (mkF m 78 #[.val (.int p0), .val (.int p1), .val (.int p2), .val (.int p3), .val (.int p4), .val (.int (p0 &&& (15 : Int32))), .val (.int (2 : Int32)), .val (.ref b88), .val (.ref b99)] [(.int (2 : Int32)), (.int (0 : Int32)), (.ref b99)])) _
        refine XS.iloadN X101.here hx rfl (hb hby at_78) rfl ?_
        show Steps p.tables e below (T101.setTop (mkF m 79 #[.val (.int p0), .val (.int p1), .val (.int p2), .val (.int p3), .val (.int p4), .val (.int (p0 &&& (15 : Int32))), .val (.int (2 : Int32)), .val (.ref b88), .val (.ref b99)] [(.int p1), (.int (2 : Int32)), (.int (0 : Int32)), (.ref b99)])) _
        refine XS.iloadN X101.here hx rfl (hb hby at_79) rfl ?_
        show Steps p.tables e below (T101.setTop (mkF m 80 #[.val (.int p0), .val (.int p1), .val (.int p2), .val (.int p3), .val (.int p4), .val (.int (p0 &&& (15 : Int32))), .val (.int (2 : Int32)), .val (.ref b88), .val (.ref b99)] [(.int p2), (.int p1), (.int (2 : Int32)), (.int (0 : Int32)), (.ref b99)])) _
        refine XS.iload X101.here hx rfl (hb hby at_80) rfl ?_
        show Steps p.tables e below (T101.setTop (mkF m 82 #[.val (.int p0), .val (.int p1), .val (.int p2), .val (.int p3), .val (.int p4), .val (.int (p0 &&& (15 : Int32))), .val (.int (2 : Int32)), .val (.ref b88), .val (.ref b99)] [(.int p4), (.int p2), (.int p1), (.int (2 : Int32)), (.int (0 : Int32)), (.ref b99)])) _
        exact kt)
    obtain ⟨_, _, ⟨T107, L107, k107, n107⟩, -, X107, ⟨Lc107, hQ107, l107, y107, z107⟩, st107⟩ := Jvm.LawKit.callS X101 hx (y := (⟨"com/example/classweave/classweave/classfile/ClassOutputU4AtPinLaw", "at", "([BIIIII)Z"⟩ : MethodName)) hown (mvT hZ (hw _ (List.mem_of_getElem? (i := 68) rfl))) (mvT hZ (hw _ (List.mem_of_getElem? (i := 69) rfl))) (mvT hZ (hw _ (List.mem_of_getElem? (i := 70) rfl))) (mvT hZ (hw _ (List.mem_of_getElem? (i := 71) rfl))) (by decide) (backOf (W := 0) (rm12 l Z a0 hw [] b99 (0 : Int32) (2 : Int32) p1 p2 p4 (nar .byte (((((p1.toUInt32 >>> ((16 : Int32) &&& 31).toUInt32).toInt32).toUInt32 >>> ((8 : Int32) &&& 31).toUInt32).toInt32).toInt8.toInt32)) [(.int (nar .byte (((((p1.toUInt32 >>> ((16 : Int32) &&& 31).toUInt32).toInt32).toUInt32 >>> ((8 : Int32) &&& 31).toUInt32).toInt32).toInt8.toInt32))), (.int (nar .byte (((p1.toUInt32 >>> ((16 : Int32) &&& 31).toUInt32).toInt32).toInt8.toInt32))), (.int (nar .byte (((p4.toUInt32 >>> ((24 : Int32) &&& 31).toUInt32).toInt32).toInt8.toInt32))), (.int (nar .byte (((p4.toUInt32 >>> ((16 : Int32) &&& 31).toUInt32).toInt32).toInt8.toInt32))), (.int (nar .byte (((p4.toUInt32 >>> ((8 : Int32) &&& 31).toUInt32).toInt32).toInt8.toInt32))), (.int (nar .byte (p4.toInt8.toInt32))), (.int (nar .byte (((p2.toUInt32 >>> ((8 : Int32) &&& 31).toUInt32).toInt32).toInt8.toInt32))), (.int (nar .byte (p2.toInt8.toInt32)))] 0 T99.heap n0 V99 (by decide) (by decide) rfl) hZ (hw _ (List.mem_of_getElem? (i := 71) rfl)) (hw _ (List.mem_of_getElem? (i := 70) rfl)) (by decide) (by decide)) (g := (mkF m 82 #[.val (.int p0), .val (.int p1), .val (.int p2), .val (.int p3), .val (.int p4), .val (.int (p0 &&& (15 : Int32))), .val (.int (2 : Int32)), .val (.ref b88), .val (.ref b99)] [(.int p4), (.int p2), (.int p1), (.int (2 : Int32)), (.int (0 : Int32)), (.ref b99)])) rfl (by rw [hml]; rfl) (argsL := [(.ref b99), (.int (0 : Int32)), (.int (2 : Int32)), (.int p1), (.int p2), (.int p4)]) (rest := []) (lenOf pd_7 rfl) rfl (by show 2 * 0 + _ ≤ _; exact Nat.le_of_eq rfl) (hb hby at_82) (fun _ _ => ⟨rfl, e101, (by decide : 7 + 0 ≤ _), (by decide : 97 + 0 ≤ _)⟩)
    dsimp only [Pt.U, Pt.locs, Pt.cells, Pt.slots] at X107 l107 y107 z107 st107 hQ107
    subst l107 y107 z107
    obtain ⟨rfl, N107q, e107⟩ := hQ107
    have N107 := Fr.app N101 N107q
    have hc85_108 : ¬ ((own_at (nar .byte (((((p1.toUInt32 >>> ((16 : Int32) &&& 31).toUInt32).toInt32).toUInt32 >>> ((8 : Int32) &&& 31).toUInt32).toInt32).toInt8.toInt32)) (0 : Int32) (2 : Int32) p1 p2 p4) = (0 : Int32)) := own_at_2_0 _ _ _
    have go109 : ∀ t, Steps p.tables e below (T107.setTop (mkF m 97 #[.val (.int p0), .val (.int p1), .val (.int p2), .val (.int p3), .val (.int p4), .val (.int (p0 &&& (15 : Int32))), .val (.int (2 : Int32)), .val (.ref b88), .val (.ref b99)] [(.int p4), (.int p2), (.int p1), (.int (2 : Int32)), (.int (1 : Int32)), (.ref b99)])) t → Steps p.tables e below (s₁.setTop (entryFrame m #[(.int p0), (.int p1), (.int p2), (.int p3), (.int p4)] maxLocals)) t := fun t kt => go106 t (by
        refine st107 _ ?_
        show Steps p.tables e below (T107.setTop (mkF m 85 #[.val (.int p0), .val (.int p1), .val (.int p2), .val (.int p3), .val (.int p4), .val (.int (p0 &&& (15 : Int32))), .val (.int (2 : Int32)), .val (.ref b88), .val (.ref b99)] [(.int (own_at (nar .byte (((((p1.toUInt32 >>> ((16 : Int32) &&& 31).toUInt32).toInt32).toUInt32 >>> ((8 : Int32) &&& 31).toUInt32).toInt32).toInt8.toInt32)) (0 : Int32) (2 : Int32) p1 p2 p4))])) _
        refine XS.ifNo X107.here hx rfl (hb hby at_85) rfl ((if0 _ _).trans (feq hc85_108).1) ?_
        show Steps p.tables e below (T107.setTop (mkF m 88 #[.val (.int p0), .val (.int p1), .val (.int p2), .val (.int p3), .val (.int p4), .val (.int (p0 &&& (15 : Int32))), .val (.int (2 : Int32)), .val (.ref b88), .val (.ref b99)] [])) _
        refine XS.aload X107.here hx rfl (hb hby at_88) rfl rfl ?_
        show Steps p.tables e below (T107.setTop (mkF m 90 #[.val (.int p0), .val (.int p1), .val (.int p2), .val (.int p3), .val (.int p4), .val (.int (p0 &&& (15 : Int32))), .val (.int (2 : Int32)), .val (.ref b88), .val (.ref b99)] [(.ref b99)])) _
        refine XS.iconst X107.here hx rfl (hb hby at_90) ?_
        show Steps p.tables e below (T107.setTop (mkF m 91 #[.val (.int p0), .val (.int p1), .val (.int p2), .val (.int p3), .val (.int p4), .val (.int (p0 &&& (15 : Int32))), .val (.int (2 : Int32)), .val (.ref b88), .val (.ref b99)] [(.int (1 : Int32)), (.ref b99)])) _
        refine XS.iload X107.here hx rfl (hb hby at_91) rfl ?_
        show Steps p.tables e below (T107.setTop (mkF m 93 #[.val (.int p0), .val (.int p1), .val (.int p2), .val (.int p3), .val (.int p4), .val (.int (p0 &&& (15 : Int32))), .val (.int (2 : Int32)), .val (.ref b88), .val (.ref b99)] [(.int (2 : Int32)), (.int (1 : Int32)), (.ref b99)])) _
        refine XS.iloadN X107.here hx rfl (hb hby at_93) rfl ?_
        show Steps p.tables e below (T107.setTop (mkF m 94 #[.val (.int p0), .val (.int p1), .val (.int p2), .val (.int p3), .val (.int p4), .val (.int (p0 &&& (15 : Int32))), .val (.int (2 : Int32)), .val (.ref b88), .val (.ref b99)] [(.int p1), (.int (2 : Int32)), (.int (1 : Int32)), (.ref b99)])) _
        refine XS.iloadN X107.here hx rfl (hb hby at_94) rfl ?_
        show Steps p.tables e below (T107.setTop (mkF m 95 #[.val (.int p0), .val (.int p1), .val (.int p2), .val (.int p3), .val (.int p4), .val (.int (p0 &&& (15 : Int32))), .val (.int (2 : Int32)), .val (.ref b88), .val (.ref b99)] [(.int p2), (.int p1), (.int (2 : Int32)), (.int (1 : Int32)), (.ref b99)])) _
        refine XS.iload X107.here hx rfl (hb hby at_95) rfl ?_
        show Steps p.tables e below (T107.setTop (mkF m 97 #[.val (.int p0), .val (.int p1), .val (.int p2), .val (.int p3), .val (.int p4), .val (.int (p0 &&& (15 : Int32))), .val (.int (2 : Int32)), .val (.ref b88), .val (.ref b99)] [(.int p4), (.int p2), (.int p1), (.int (2 : Int32)), (.int (1 : Int32)), (.ref b99)])) _
        exact kt)
    obtain ⟨_, _, ⟨T110, L110, k110, n110⟩, -, X110, ⟨Lc110, hQ110, l110, y110, z110⟩, st110⟩ := Jvm.LawKit.callS X107 hx (y := (⟨"com/example/classweave/classweave/classfile/ClassOutputU4AtPinLaw", "at", "([BIIIII)Z"⟩ : MethodName)) hown (mvT hZ (hw _ (List.mem_of_getElem? (i := 68) rfl))) (mvT hZ (hw _ (List.mem_of_getElem? (i := 69) rfl))) (mvT hZ (hw _ (List.mem_of_getElem? (i := 70) rfl))) (mvT hZ (hw _ (List.mem_of_getElem? (i := 71) rfl))) (by decide) (backOf (W := 0) (rm12 l Z a0 hw [] b99 (1 : Int32) (2 : Int32) p1 p2 p4 (nar .byte (((p1.toUInt32 >>> ((16 : Int32) &&& 31).toUInt32).toInt32).toInt8.toInt32)) [(.int (nar .byte (((((p1.toUInt32 >>> ((16 : Int32) &&& 31).toUInt32).toInt32).toUInt32 >>> ((8 : Int32) &&& 31).toUInt32).toInt32).toInt8.toInt32))), (.int (nar .byte (((p1.toUInt32 >>> ((16 : Int32) &&& 31).toUInt32).toInt32).toInt8.toInt32))), (.int (nar .byte (((p4.toUInt32 >>> ((24 : Int32) &&& 31).toUInt32).toInt32).toInt8.toInt32))), (.int (nar .byte (((p4.toUInt32 >>> ((16 : Int32) &&& 31).toUInt32).toInt32).toInt8.toInt32))), (.int (nar .byte (((p4.toUInt32 >>> ((8 : Int32) &&& 31).toUInt32).toInt32).toInt8.toInt32))), (.int (nar .byte (p4.toInt8.toInt32))), (.int (nar .byte (((p2.toUInt32 >>> ((8 : Int32) &&& 31).toUInt32).toInt32).toInt8.toInt32))), (.int (nar .byte (p2.toInt8.toInt32)))] 1 T99.heap n0 V99 (by decide) (by decide) rfl) hZ (hw _ (List.mem_of_getElem? (i := 71) rfl)) (hw _ (List.mem_of_getElem? (i := 70) rfl)) (by decide) (by decide)) (g := (mkF m 97 #[.val (.int p0), .val (.int p1), .val (.int p2), .val (.int p3), .val (.int p4), .val (.int (p0 &&& (15 : Int32))), .val (.int (2 : Int32)), .val (.ref b88), .val (.ref b99)] [(.int p4), (.int p2), (.int p1), (.int (2 : Int32)), (.int (1 : Int32)), (.ref b99)])) rfl (by rw [hml]; rfl) (argsL := [(.ref b99), (.int (1 : Int32)), (.int (2 : Int32)), (.int p1), (.int p2), (.int p4)]) (rest := []) (lenOf pd_7 rfl) rfl (by show 2 * 0 + _ ≤ _; exact Nat.le_of_eq rfl) (hb hby at_97) (fun _ _ => ⟨rfl, e107, (by decide : 7 + 0 ≤ _), (by decide : 97 + 0 ≤ _)⟩)
    dsimp only [Pt.U, Pt.locs, Pt.cells, Pt.slots] at X110 l110 y110 z110 st110 hQ110
    subst l110 y110 z110
    obtain ⟨rfl, N110q, e110⟩ := hQ110
    have N110 := Fr.app N107 N110q
    have hc100_111 : ¬ ((own_at (nar .byte (((p1.toUInt32 >>> ((16 : Int32) &&& 31).toUInt32).toInt32).toInt8.toInt32)) (1 : Int32) (2 : Int32) p1 p2 p4) = (0 : Int32)) := own_at_2_1 _ _ _
    have go112 : ∀ t, Steps p.tables e below (T110.setTop (mkF m 112 #[.val (.int p0), .val (.int p1), .val (.int p2), .val (.int p3), .val (.int p4), .val (.int (p0 &&& (15 : Int32))), .val (.int (2 : Int32)), .val (.ref b88), .val (.ref b99)] [(.int p4), (.int p2), (.int p1), (.int (2 : Int32)), (.int (2 : Int32)), (.ref b99)])) t → Steps p.tables e below (s₁.setTop (entryFrame m #[(.int p0), (.int p1), (.int p2), (.int p3), (.int p4)] maxLocals)) t := fun t kt => go109 t (by
        refine st110 _ ?_
        show Steps p.tables e below (T110.setTop (mkF m 100 #[.val (.int p0), .val (.int p1), .val (.int p2), .val (.int p3), .val (.int p4), .val (.int (p0 &&& (15 : Int32))), .val (.int (2 : Int32)), .val (.ref b88), .val (.ref b99)] [(.int (own_at (nar .byte (((p1.toUInt32 >>> ((16 : Int32) &&& 31).toUInt32).toInt32).toInt8.toInt32)) (1 : Int32) (2 : Int32) p1 p2 p4))])) _
        refine XS.ifNo X110.here hx rfl (hb hby at_100) rfl ((if0 _ _).trans (feq hc100_111).1) ?_
        show Steps p.tables e below (T110.setTop (mkF m 103 #[.val (.int p0), .val (.int p1), .val (.int p2), .val (.int p3), .val (.int p4), .val (.int (p0 &&& (15 : Int32))), .val (.int (2 : Int32)), .val (.ref b88), .val (.ref b99)] [])) _
        refine XS.aload X110.here hx rfl (hb hby at_103) rfl rfl ?_
        show Steps p.tables e below (T110.setTop (mkF m 105 #[.val (.int p0), .val (.int p1), .val (.int p2), .val (.int p3), .val (.int p4), .val (.int (p0 &&& (15 : Int32))), .val (.int (2 : Int32)), .val (.ref b88), .val (.ref b99)] [(.ref b99)])) _
        refine XS.iconst X110.here hx rfl (hb hby at_105) ?_
        show Steps p.tables e below (T110.setTop (mkF m 106 #[.val (.int p0), .val (.int p1), .val (.int p2), .val (.int p3), .val (.int p4), .val (.int (p0 &&& (15 : Int32))), .val (.int (2 : Int32)), .val (.ref b88), .val (.ref b99)] [(.int (2 : Int32)), (.ref b99)])) _
        refine XS.iload X110.here hx rfl (hb hby at_106) rfl ?_
        show Steps p.tables e below (T110.setTop (mkF m 108 #[.val (.int p0), .val (.int p1), .val (.int p2), .val (.int p3), .val (.int p4), .val (.int (p0 &&& (15 : Int32))), .val (.int (2 : Int32)), .val (.ref b88), .val (.ref b99)] [(.int (2 : Int32)), (.int (2 : Int32)), (.ref b99)])) _
        refine XS.iloadN X110.here hx rfl (hb hby at_108) rfl ?_
        show Steps p.tables e below (T110.setTop (mkF m 109 #[.val (.int p0), .val (.int p1), .val (.int p2), .val (.int p3), .val (.int p4), .val (.int (p0 &&& (15 : Int32))), .val (.int (2 : Int32)), .val (.ref b88), .val (.ref b99)] [(.int p1), (.int (2 : Int32)), (.int (2 : Int32)), (.ref b99)])) _
        refine XS.iloadN X110.here hx rfl (hb hby at_109) rfl ?_
        show Steps p.tables e below (T110.setTop (mkF m 110 #[.val (.int p0), .val (.int p1), .val (.int p2), .val (.int p3), .val (.int p4), .val (.int (p0 &&& (15 : Int32))), .val (.int (2 : Int32)), .val (.ref b88), .val (.ref b99)] [(.int p2), (.int p1), (.int (2 : Int32)), (.int (2 : Int32)), (.ref b99)])) _
        refine XS.iload X110.here hx rfl (hb hby at_110) rfl ?_
        show Steps p.tables e below (T110.setTop (mkF m 112 #[.val (.int p0), .val (.int p1), .val (.int p2), .val (.int p3), .val (.int p4), .val (.int (p0 &&& (15 : Int32))), .val (.int (2 : Int32)), .val (.ref b88), .val (.ref b99)] [(.int p4), (.int p2), (.int p1), (.int (2 : Int32)), (.int (2 : Int32)), (.ref b99)])) _
        exact kt)
    obtain ⟨_, _, ⟨T113, L113, k113, n113⟩, -, X113, ⟨Lc113, hQ113, l113, y113, z113⟩, st113⟩ := Jvm.LawKit.callS X110 hx (y := (⟨"com/example/classweave/classweave/classfile/ClassOutputU4AtPinLaw", "at", "([BIIIII)Z"⟩ : MethodName)) hown (mvT hZ (hw _ (List.mem_of_getElem? (i := 68) rfl))) (mvT hZ (hw _ (List.mem_of_getElem? (i := 69) rfl))) (mvT hZ (hw _ (List.mem_of_getElem? (i := 70) rfl))) (mvT hZ (hw _ (List.mem_of_getElem? (i := 71) rfl))) (by decide) (backOf (W := 0) (rm12 l Z a0 hw [] b99 (2 : Int32) (2 : Int32) p1 p2 p4 (nar .byte (((p4.toUInt32 >>> ((24 : Int32) &&& 31).toUInt32).toInt32).toInt8.toInt32)) [(.int (nar .byte (((((p1.toUInt32 >>> ((16 : Int32) &&& 31).toUInt32).toInt32).toUInt32 >>> ((8 : Int32) &&& 31).toUInt32).toInt32).toInt8.toInt32))), (.int (nar .byte (((p1.toUInt32 >>> ((16 : Int32) &&& 31).toUInt32).toInt32).toInt8.toInt32))), (.int (nar .byte (((p4.toUInt32 >>> ((24 : Int32) &&& 31).toUInt32).toInt32).toInt8.toInt32))), (.int (nar .byte (((p4.toUInt32 >>> ((16 : Int32) &&& 31).toUInt32).toInt32).toInt8.toInt32))), (.int (nar .byte (((p4.toUInt32 >>> ((8 : Int32) &&& 31).toUInt32).toInt32).toInt8.toInt32))), (.int (nar .byte (p4.toInt8.toInt32))), (.int (nar .byte (((p2.toUInt32 >>> ((8 : Int32) &&& 31).toUInt32).toInt32).toInt8.toInt32))), (.int (nar .byte (p2.toInt8.toInt32)))] 2 T99.heap n0 V99 (by decide) (by decide) rfl) hZ (hw _ (List.mem_of_getElem? (i := 71) rfl)) (hw _ (List.mem_of_getElem? (i := 70) rfl)) (by decide) (by decide)) (g := (mkF m 112 #[.val (.int p0), .val (.int p1), .val (.int p2), .val (.int p3), .val (.int p4), .val (.int (p0 &&& (15 : Int32))), .val (.int (2 : Int32)), .val (.ref b88), .val (.ref b99)] [(.int p4), (.int p2), (.int p1), (.int (2 : Int32)), (.int (2 : Int32)), (.ref b99)])) rfl (by rw [hml]; rfl) (argsL := [(.ref b99), (.int (2 : Int32)), (.int (2 : Int32)), (.int p1), (.int p2), (.int p4)]) (rest := []) (lenOf pd_7 rfl) rfl (by show 2 * 0 + _ ≤ _; exact Nat.le_of_eq rfl) (hb hby at_112) (fun _ _ => ⟨rfl, e110, (by decide : 7 + 0 ≤ _), (by decide : 97 + 0 ≤ _)⟩)
    dsimp only [Pt.U, Pt.locs, Pt.cells, Pt.slots] at X113 l113 y113 z113 st113 hQ113
    subst l113 y113 z113
    obtain ⟨rfl, N113q, e113⟩ := hQ113
    have N113 := Fr.app N110 N113q
    have hc115_114 : ¬ ((own_at (nar .byte (((p4.toUInt32 >>> ((24 : Int32) &&& 31).toUInt32).toInt32).toInt8.toInt32)) (2 : Int32) (2 : Int32) p1 p2 p4) = (0 : Int32)) := own_at_2_2 _ _ _
    have go115 : ∀ t, Steps p.tables e below (T113.setTop (mkF m 127 #[.val (.int p0), .val (.int p1), .val (.int p2), .val (.int p3), .val (.int p4), .val (.int (p0 &&& (15 : Int32))), .val (.int (2 : Int32)), .val (.ref b88), .val (.ref b99)] [(.int p4), (.int p2), (.int p1), (.int (2 : Int32)), (.int (3 : Int32)), (.ref b99)])) t → Steps p.tables e below (s₁.setTop (entryFrame m #[(.int p0), (.int p1), (.int p2), (.int p3), (.int p4)] maxLocals)) t := fun t kt => go112 t (by
        refine st113 _ ?_
        show Steps p.tables e below (T113.setTop (mkF m 115 #[.val (.int p0), .val (.int p1), .val (.int p2), .val (.int p3), .val (.int p4), .val (.int (p0 &&& (15 : Int32))), .val (.int (2 : Int32)), .val (.ref b88), .val (.ref b99)] [(.int (own_at (nar .byte (((p4.toUInt32 >>> ((24 : Int32) &&& 31).toUInt32).toInt32).toInt8.toInt32)) (2 : Int32) (2 : Int32) p1 p2 p4))])) _
        refine XS.ifNo X113.here hx rfl (hb hby at_115) rfl ((if0 _ _).trans (feq hc115_114).1) ?_
        show Steps p.tables e below (T113.setTop (mkF m 118 #[.val (.int p0), .val (.int p1), .val (.int p2), .val (.int p3), .val (.int p4), .val (.int (p0 &&& (15 : Int32))), .val (.int (2 : Int32)), .val (.ref b88), .val (.ref b99)] [])) _
        refine XS.aload X113.here hx rfl (hb hby at_118) rfl rfl ?_
        show Steps p.tables e below (T113.setTop (mkF m 120 #[.val (.int p0), .val (.int p1), .val (.int p2), .val (.int p3), .val (.int p4), .val (.int (p0 &&& (15 : Int32))), .val (.int (2 : Int32)), .val (.ref b88), .val (.ref b99)] [(.ref b99)])) _
        refine XS.iconst X113.here hx rfl (hb hby at_120) ?_
        show Steps p.tables e below (T113.setTop (mkF m 121 #[.val (.int p0), .val (.int p1), .val (.int p2), .val (.int p3), .val (.int p4), .val (.int (p0 &&& (15 : Int32))), .val (.int (2 : Int32)), .val (.ref b88), .val (.ref b99)] [(.int (3 : Int32)), (.ref b99)])) _
        refine XS.iload X113.here hx rfl (hb hby at_121) rfl ?_
        show Steps p.tables e below (T113.setTop (mkF m 123 #[.val (.int p0), .val (.int p1), .val (.int p2), .val (.int p3), .val (.int p4), .val (.int (p0 &&& (15 : Int32))), .val (.int (2 : Int32)), .val (.ref b88), .val (.ref b99)] [(.int (2 : Int32)), (.int (3 : Int32)), (.ref b99)])) _
        refine XS.iloadN X113.here hx rfl (hb hby at_123) rfl ?_
        show Steps p.tables e below (T113.setTop (mkF m 124 #[.val (.int p0), .val (.int p1), .val (.int p2), .val (.int p3), .val (.int p4), .val (.int (p0 &&& (15 : Int32))), .val (.int (2 : Int32)), .val (.ref b88), .val (.ref b99)] [(.int p1), (.int (2 : Int32)), (.int (3 : Int32)), (.ref b99)])) _
        refine XS.iloadN X113.here hx rfl (hb hby at_124) rfl ?_
        show Steps p.tables e below (T113.setTop (mkF m 125 #[.val (.int p0), .val (.int p1), .val (.int p2), .val (.int p3), .val (.int p4), .val (.int (p0 &&& (15 : Int32))), .val (.int (2 : Int32)), .val (.ref b88), .val (.ref b99)] [(.int p2), (.int p1), (.int (2 : Int32)), (.int (3 : Int32)), (.ref b99)])) _
        refine XS.iload X113.here hx rfl (hb hby at_125) rfl ?_
        show Steps p.tables e below (T113.setTop (mkF m 127 #[.val (.int p0), .val (.int p1), .val (.int p2), .val (.int p3), .val (.int p4), .val (.int (p0 &&& (15 : Int32))), .val (.int (2 : Int32)), .val (.ref b88), .val (.ref b99)] [(.int p4), (.int p2), (.int p1), (.int (2 : Int32)), (.int (3 : Int32)), (.ref b99)])) _
        exact kt)
    obtain ⟨_, _, ⟨T116, L116, k116, n116⟩, -, X116, ⟨Lc116, hQ116, l116, y116, z116⟩, st116⟩ := Jvm.LawKit.callS X113 hx (y := (⟨"com/example/classweave/classweave/classfile/ClassOutputU4AtPinLaw", "at", "([BIIIII)Z"⟩ : MethodName)) hown (mvT hZ (hw _ (List.mem_of_getElem? (i := 68) rfl))) (mvT hZ (hw _ (List.mem_of_getElem? (i := 69) rfl))) (mvT hZ (hw _ (List.mem_of_getElem? (i := 70) rfl))) (mvT hZ (hw _ (List.mem_of_getElem? (i := 71) rfl))) (by decide) (backOf (W := 0) (rm12 l Z a0 hw [] b99 (3 : Int32) (2 : Int32) p1 p2 p4 (nar .byte (((p4.toUInt32 >>> ((16 : Int32) &&& 31).toUInt32).toInt32).toInt8.toInt32)) [(.int (nar .byte (((((p1.toUInt32 >>> ((16 : Int32) &&& 31).toUInt32).toInt32).toUInt32 >>> ((8 : Int32) &&& 31).toUInt32).toInt32).toInt8.toInt32))), (.int (nar .byte (((p1.toUInt32 >>> ((16 : Int32) &&& 31).toUInt32).toInt32).toInt8.toInt32))), (.int (nar .byte (((p4.toUInt32 >>> ((24 : Int32) &&& 31).toUInt32).toInt32).toInt8.toInt32))), (.int (nar .byte (((p4.toUInt32 >>> ((16 : Int32) &&& 31).toUInt32).toInt32).toInt8.toInt32))), (.int (nar .byte (((p4.toUInt32 >>> ((8 : Int32) &&& 31).toUInt32).toInt32).toInt8.toInt32))), (.int (nar .byte (p4.toInt8.toInt32))), (.int (nar .byte (((p2.toUInt32 >>> ((8 : Int32) &&& 31).toUInt32).toInt32).toInt8.toInt32))), (.int (nar .byte (p2.toInt8.toInt32)))] 3 T99.heap n0 V99 (by decide) (by decide) rfl) hZ (hw _ (List.mem_of_getElem? (i := 71) rfl)) (hw _ (List.mem_of_getElem? (i := 70) rfl)) (by decide) (by decide)) (g := (mkF m 127 #[.val (.int p0), .val (.int p1), .val (.int p2), .val (.int p3), .val (.int p4), .val (.int (p0 &&& (15 : Int32))), .val (.int (2 : Int32)), .val (.ref b88), .val (.ref b99)] [(.int p4), (.int p2), (.int p1), (.int (2 : Int32)), (.int (3 : Int32)), (.ref b99)])) rfl (by rw [hml]; rfl) (argsL := [(.ref b99), (.int (3 : Int32)), (.int (2 : Int32)), (.int p1), (.int p2), (.int p4)]) (rest := []) (lenOf pd_7 rfl) rfl (by show 2 * 0 + _ ≤ _; exact Nat.le_of_eq rfl) (hb hby at_127) (fun _ _ => ⟨rfl, e113, (by decide : 7 + 0 ≤ _), (by decide : 97 + 0 ≤ _)⟩)
    dsimp only [Pt.U, Pt.locs, Pt.cells, Pt.slots] at X116 l116 y116 z116 st116 hQ116
    subst l116 y116 z116
    obtain ⟨rfl, N116q, e116⟩ := hQ116
    have N116 := Fr.app N113 N116q
    have hc130_117 : ¬ ((own_at (nar .byte (((p4.toUInt32 >>> ((16 : Int32) &&& 31).toUInt32).toInt32).toInt8.toInt32)) (3 : Int32) (2 : Int32) p1 p2 p4) = (0 : Int32)) := own_at_2_3 _ _ _
    have go118 : ∀ t, Steps p.tables e below (T116.setTop (mkF m 142 #[.val (.int p0), .val (.int p1), .val (.int p2), .val (.int p3), .val (.int p4), .val (.int (p0 &&& (15 : Int32))), .val (.int (2 : Int32)), .val (.ref b88), .val (.ref b99)] [(.int p4), (.int p2), (.int p1), (.int (2 : Int32)), (.int (4 : Int32)), (.ref b99)])) t → Steps p.tables e below (s₁.setTop (entryFrame m #[(.int p0), (.int p1), (.int p2), (.int p3), (.int p4)] maxLocals)) t := fun t kt => go115 t (by
        refine st116 _ ?_
        show Steps p.tables e below (T116.setTop (mkF m 130 #[.val (.int p0), .val (.int p1), .val (.int p2), .val (.int p3), .val (.int p4), .val (.int (p0 &&& (15 : Int32))), .val (.int (2 : Int32)), .val (.ref b88), .val (.ref b99)] [(.int (own_at (nar .byte (((p4.toUInt32 >>> ((16 : Int32) &&& 31).toUInt32).toInt32).toInt8.toInt32)) (3 : Int32) (2 : Int32) p1 p2 p4))])) _
        refine XS.ifNo X116.here hx rfl (hb hby at_130) rfl ((if0 _ _).trans (feq hc130_117).1) ?_
        show Steps p.tables e below (T116.setTop (mkF m 133 #[.val (.int p0), .val (.int p1), .val (.int p2), .val (.int p3), .val (.int p4), .val (.int (p0 &&& (15 : Int32))), .val (.int (2 : Int32)), .val (.ref b88), .val (.ref b99)] [])) _
        refine XS.aload X116.here hx rfl (hb hby at_133) rfl rfl ?_
        show Steps p.tables e below (T116.setTop (mkF m 135 #[.val (.int p0), .val (.int p1), .val (.int p2), .val (.int p3), .val (.int p4), .val (.int (p0 &&& (15 : Int32))), .val (.int (2 : Int32)), .val (.ref b88), .val (.ref b99)] [(.ref b99)])) _
        refine XS.iconst X116.here hx rfl (hb hby at_135) ?_
        show Steps p.tables e below (T116.setTop (mkF m 136 #[.val (.int p0), .val (.int p1), .val (.int p2), .val (.int p3), .val (.int p4), .val (.int (p0 &&& (15 : Int32))), .val (.int (2 : Int32)), .val (.ref b88), .val (.ref b99)] [(.int (4 : Int32)), (.ref b99)])) _
        refine XS.iload X116.here hx rfl (hb hby at_136) rfl ?_
        show Steps p.tables e below (T116.setTop (mkF m 138 #[.val (.int p0), .val (.int p1), .val (.int p2), .val (.int p3), .val (.int p4), .val (.int (p0 &&& (15 : Int32))), .val (.int (2 : Int32)), .val (.ref b88), .val (.ref b99)] [(.int (2 : Int32)), (.int (4 : Int32)), (.ref b99)])) _
        refine XS.iloadN X116.here hx rfl (hb hby at_138) rfl ?_
        show Steps p.tables e below (T116.setTop (mkF m 139 #[.val (.int p0), .val (.int p1), .val (.int p2), .val (.int p3), .val (.int p4), .val (.int (p0 &&& (15 : Int32))), .val (.int (2 : Int32)), .val (.ref b88), .val (.ref b99)] [(.int p1), (.int (2 : Int32)), (.int (4 : Int32)), (.ref b99)])) _
        refine XS.iloadN X116.here hx rfl (hb hby at_139) rfl ?_
        show Steps p.tables e below (T116.setTop (mkF m 140 #[.val (.int p0), .val (.int p1), .val (.int p2), .val (.int p3), .val (.int p4), .val (.int (p0 &&& (15 : Int32))), .val (.int (2 : Int32)), .val (.ref b88), .val (.ref b99)] [(.int p2), (.int p1), (.int (2 : Int32)), (.int (4 : Int32)), (.ref b99)])) _
        refine XS.iload X116.here hx rfl (hb hby at_140) rfl ?_
        show Steps p.tables e below (T116.setTop (mkF m 142 #[.val (.int p0), .val (.int p1), .val (.int p2), .val (.int p3), .val (.int p4), .val (.int (p0 &&& (15 : Int32))), .val (.int (2 : Int32)), .val (.ref b88), .val (.ref b99)] [(.int p4), (.int p2), (.int p1), (.int (2 : Int32)), (.int (4 : Int32)), (.ref b99)])) _
        exact kt)
    obtain ⟨_, _, ⟨T119, L119, k119, n119⟩, -, X119, ⟨Lc119, hQ119, l119, y119, z119⟩, st119⟩ := Jvm.LawKit.callS X116 hx (y := (⟨"com/example/classweave/classweave/classfile/ClassOutputU4AtPinLaw", "at", "([BIIIII)Z"⟩ : MethodName)) hown (mvT hZ (hw _ (List.mem_of_getElem? (i := 68) rfl))) (mvT hZ (hw _ (List.mem_of_getElem? (i := 69) rfl))) (mvT hZ (hw _ (List.mem_of_getElem? (i := 70) rfl))) (mvT hZ (hw _ (List.mem_of_getElem? (i := 71) rfl))) (by decide) (backOf (W := 0) (rm12 l Z a0 hw [] b99 (4 : Int32) (2 : Int32) p1 p2 p4 (nar .byte (((p4.toUInt32 >>> ((8 : Int32) &&& 31).toUInt32).toInt32).toInt8.toInt32)) [(.int (nar .byte (((((p1.toUInt32 >>> ((16 : Int32) &&& 31).toUInt32).toInt32).toUInt32 >>> ((8 : Int32) &&& 31).toUInt32).toInt32).toInt8.toInt32))), (.int (nar .byte (((p1.toUInt32 >>> ((16 : Int32) &&& 31).toUInt32).toInt32).toInt8.toInt32))), (.int (nar .byte (((p4.toUInt32 >>> ((24 : Int32) &&& 31).toUInt32).toInt32).toInt8.toInt32))), (.int (nar .byte (((p4.toUInt32 >>> ((16 : Int32) &&& 31).toUInt32).toInt32).toInt8.toInt32))), (.int (nar .byte (((p4.toUInt32 >>> ((8 : Int32) &&& 31).toUInt32).toInt32).toInt8.toInt32))), (.int (nar .byte (p4.toInt8.toInt32))), (.int (nar .byte (((p2.toUInt32 >>> ((8 : Int32) &&& 31).toUInt32).toInt32).toInt8.toInt32))), (.int (nar .byte (p2.toInt8.toInt32)))] 4 T99.heap n0 V99 (by decide) (by decide) rfl) hZ (hw _ (List.mem_of_getElem? (i := 71) rfl)) (hw _ (List.mem_of_getElem? (i := 70) rfl)) (by decide) (by decide)) (g := (mkF m 142 #[.val (.int p0), .val (.int p1), .val (.int p2), .val (.int p3), .val (.int p4), .val (.int (p0 &&& (15 : Int32))), .val (.int (2 : Int32)), .val (.ref b88), .val (.ref b99)] [(.int p4), (.int p2), (.int p1), (.int (2 : Int32)), (.int (4 : Int32)), (.ref b99)])) rfl (by rw [hml]; rfl) (argsL := [(.ref b99), (.int (4 : Int32)), (.int (2 : Int32)), (.int p1), (.int p2), (.int p4)]) (rest := []) (lenOf pd_7 rfl) rfl (by show 2 * 0 + _ ≤ _; exact Nat.le_of_eq rfl) (hb hby at_142) (fun _ _ => ⟨rfl, e116, (by decide : 7 + 0 ≤ _), (by decide : 97 + 0 ≤ _)⟩)
    dsimp only [Pt.U, Pt.locs, Pt.cells, Pt.slots] at X119 l119 y119 z119 st119 hQ119
    subst l119 y119 z119
    obtain ⟨rfl, N119q, e119⟩ := hQ119
    have N119 := Fr.app N116 N119q
    have hc145_120 : ¬ ((own_at (nar .byte (((p4.toUInt32 >>> ((8 : Int32) &&& 31).toUInt32).toInt32).toInt8.toInt32)) (4 : Int32) (2 : Int32) p1 p2 p4) = (0 : Int32)) := own_at_2_4 _ _ _
    have go121 : ∀ t, Steps p.tables e below (T119.setTop (mkF m 157 #[.val (.int p0), .val (.int p1), .val (.int p2), .val (.int p3), .val (.int p4), .val (.int (p0 &&& (15 : Int32))), .val (.int (2 : Int32)), .val (.ref b88), .val (.ref b99)] [(.int p4), (.int p2), (.int p1), (.int (2 : Int32)), (.int (5 : Int32)), (.ref b99)])) t → Steps p.tables e below (s₁.setTop (entryFrame m #[(.int p0), (.int p1), (.int p2), (.int p3), (.int p4)] maxLocals)) t := fun t kt => go118 t (by
        refine st119 _ ?_
        show Steps p.tables e below (T119.setTop (mkF m 145 #[.val (.int p0), .val (.int p1), .val (.int p2), .val (.int p3), .val (.int p4), .val (.int (p0 &&& (15 : Int32))), .val (.int (2 : Int32)), .val (.ref b88), .val (.ref b99)] [(.int (own_at (nar .byte (((p4.toUInt32 >>> ((8 : Int32) &&& 31).toUInt32).toInt32).toInt8.toInt32)) (4 : Int32) (2 : Int32) p1 p2 p4))])) _
        refine XS.ifNo X119.here hx rfl (hb hby at_145) rfl ((if0 _ _).trans (feq hc145_120).1) ?_
        show Steps p.tables e below (T119.setTop (mkF m 148 #[.val (.int p0), .val (.int p1), .val (.int p2), .val (.int p3), .val (.int p4), .val (.int (p0 &&& (15 : Int32))), .val (.int (2 : Int32)), .val (.ref b88), .val (.ref b99)] [])) _
        refine XS.aload X119.here hx rfl (hb hby at_148) rfl rfl ?_
        show Steps p.tables e below (T119.setTop (mkF m 150 #[.val (.int p0), .val (.int p1), .val (.int p2), .val (.int p3), .val (.int p4), .val (.int (p0 &&& (15 : Int32))), .val (.int (2 : Int32)), .val (.ref b88), .val (.ref b99)] [(.ref b99)])) _
        refine XS.iconst X119.here hx rfl (hb hby at_150) ?_
        show Steps p.tables e below (T119.setTop (mkF m 151 #[.val (.int p0), .val (.int p1), .val (.int p2), .val (.int p3), .val (.int p4), .val (.int (p0 &&& (15 : Int32))), .val (.int (2 : Int32)), .val (.ref b88), .val (.ref b99)] [(.int (5 : Int32)), (.ref b99)])) _
        refine XS.iload X119.here hx rfl (hb hby at_151) rfl ?_
        show Steps p.tables e below (T119.setTop (mkF m 153 #[.val (.int p0), .val (.int p1), .val (.int p2), .val (.int p3), .val (.int p4), .val (.int (p0 &&& (15 : Int32))), .val (.int (2 : Int32)), .val (.ref b88), .val (.ref b99)] [(.int (2 : Int32)), (.int (5 : Int32)), (.ref b99)])) _
        refine XS.iloadN X119.here hx rfl (hb hby at_153) rfl ?_
        show Steps p.tables e below (T119.setTop (mkF m 154 #[.val (.int p0), .val (.int p1), .val (.int p2), .val (.int p3), .val (.int p4), .val (.int (p0 &&& (15 : Int32))), .val (.int (2 : Int32)), .val (.ref b88), .val (.ref b99)] [(.int p1), (.int (2 : Int32)), (.int (5 : Int32)), (.ref b99)])) _
        refine XS.iloadN X119.here hx rfl (hb hby at_154) rfl ?_
        show Steps p.tables e below (T119.setTop (mkF m 155 #[.val (.int p0), .val (.int p1), .val (.int p2), .val (.int p3), .val (.int p4), .val (.int (p0 &&& (15 : Int32))), .val (.int (2 : Int32)), .val (.ref b88), .val (.ref b99)] [(.int p2), (.int p1), (.int (2 : Int32)), (.int (5 : Int32)), (.ref b99)])) _
        refine XS.iload X119.here hx rfl (hb hby at_155) rfl ?_
        show Steps p.tables e below (T119.setTop (mkF m 157 #[.val (.int p0), .val (.int p1), .val (.int p2), .val (.int p3), .val (.int p4), .val (.int (p0 &&& (15 : Int32))), .val (.int (2 : Int32)), .val (.ref b88), .val (.ref b99)] [(.int p4), (.int p2), (.int p1), (.int (2 : Int32)), (.int (5 : Int32)), (.ref b99)])) _
        exact kt)
    obtain ⟨_, _, ⟨T122, L122, k122, n122⟩, -, X122, ⟨Lc122, hQ122, l122, y122, z122⟩, st122⟩ := Jvm.LawKit.callS X119 hx (y := (⟨"com/example/classweave/classweave/classfile/ClassOutputU4AtPinLaw", "at", "([BIIIII)Z"⟩ : MethodName)) hown (mvT hZ (hw _ (List.mem_of_getElem? (i := 68) rfl))) (mvT hZ (hw _ (List.mem_of_getElem? (i := 69) rfl))) (mvT hZ (hw _ (List.mem_of_getElem? (i := 70) rfl))) (mvT hZ (hw _ (List.mem_of_getElem? (i := 71) rfl))) (by decide) (backOf (W := 0) (rm12 l Z a0 hw [] b99 (5 : Int32) (2 : Int32) p1 p2 p4 (nar .byte (p4.toInt8.toInt32)) [(.int (nar .byte (((((p1.toUInt32 >>> ((16 : Int32) &&& 31).toUInt32).toInt32).toUInt32 >>> ((8 : Int32) &&& 31).toUInt32).toInt32).toInt8.toInt32))), (.int (nar .byte (((p1.toUInt32 >>> ((16 : Int32) &&& 31).toUInt32).toInt32).toInt8.toInt32))), (.int (nar .byte (((p4.toUInt32 >>> ((24 : Int32) &&& 31).toUInt32).toInt32).toInt8.toInt32))), (.int (nar .byte (((p4.toUInt32 >>> ((16 : Int32) &&& 31).toUInt32).toInt32).toInt8.toInt32))), (.int (nar .byte (((p4.toUInt32 >>> ((8 : Int32) &&& 31).toUInt32).toInt32).toInt8.toInt32))), (.int (nar .byte (p4.toInt8.toInt32))), (.int (nar .byte (((p2.toUInt32 >>> ((8 : Int32) &&& 31).toUInt32).toInt32).toInt8.toInt32))), (.int (nar .byte (p2.toInt8.toInt32)))] 5 T99.heap n0 V99 (by decide) (by decide) rfl) hZ (hw _ (List.mem_of_getElem? (i := 71) rfl)) (hw _ (List.mem_of_getElem? (i := 70) rfl)) (by decide) (by decide)) (g := (mkF m 157 #[.val (.int p0), .val (.int p1), .val (.int p2), .val (.int p3), .val (.int p4), .val (.int (p0 &&& (15 : Int32))), .val (.int (2 : Int32)), .val (.ref b88), .val (.ref b99)] [(.int p4), (.int p2), (.int p1), (.int (2 : Int32)), (.int (5 : Int32)), (.ref b99)])) rfl (by rw [hml]; rfl) (argsL := [(.ref b99), (.int (5 : Int32)), (.int (2 : Int32)), (.int p1), (.int p2), (.int p4)]) (rest := []) (lenOf pd_7 rfl) rfl (by show 2 * 0 + _ ≤ _; exact Nat.le_of_eq rfl) (hb hby at_157) (fun _ _ => ⟨rfl, e119, (by decide : 7 + 0 ≤ _), (by decide : 97 + 0 ≤ _)⟩)
    dsimp only [Pt.U, Pt.locs, Pt.cells, Pt.slots] at X122 l122 y122 z122 st122 hQ122
    subst l122 y122 z122
    obtain ⟨rfl, N122q, e122⟩ := hQ122
    have N122 := Fr.app N119 N122q
    have hc160_123 : ¬ ((own_at (nar .byte (p4.toInt8.toInt32)) (5 : Int32) (2 : Int32) p1 p2 p4) = (0 : Int32)) := own_at_2_5 _ _ _
    have go124 : ∀ t, Steps p.tables e below (T122.setTop (mkF m 173 #[.val (.int p0), .val (.int p1), .val (.int p2), .val (.int p3), .val (.int p4), .val (.int (p0 &&& (15 : Int32))), .val (.int (2 : Int32)), .val (.ref b88), .val (.ref b99)] [(.int p4), (.int p2), (.int p1), (.int (2 : Int32)), (.int (6 : Int32)), (.ref b99)])) t → Steps p.tables e below (s₁.setTop (entryFrame m #[(.int p0), (.int p1), (.int p2), (.int p3), (.int p4)] maxLocals)) t := fun t kt => go121 t (by
        refine st122 _ ?_
        show Steps p.tables e below (T122.setTop (mkF m 160 #[.val (.int p0), .val (.int p1), .val (.int p2), .val (.int p3), .val (.int p4), .val (.int (p0 &&& (15 : Int32))), .val (.int (2 : Int32)), .val (.ref b88), .val (.ref b99)] [(.int (own_at (nar .byte (p4.toInt8.toInt32)) (5 : Int32) (2 : Int32) p1 p2 p4))])) _
        refine XS.ifNo X122.here hx rfl (hb hby at_160) rfl ((if0 _ _).trans (feq hc160_123).1) ?_
        show Steps p.tables e below (T122.setTop (mkF m 163 #[.val (.int p0), .val (.int p1), .val (.int p2), .val (.int p3), .val (.int p4), .val (.int (p0 &&& (15 : Int32))), .val (.int (2 : Int32)), .val (.ref b88), .val (.ref b99)] [])) _
        refine XS.aload X122.here hx rfl (hb hby at_163) rfl rfl ?_
        show Steps p.tables e below (T122.setTop (mkF m 165 #[.val (.int p0), .val (.int p1), .val (.int p2), .val (.int p3), .val (.int p4), .val (.int (p0 &&& (15 : Int32))), .val (.int (2 : Int32)), .val (.ref b88), .val (.ref b99)] [(.ref b99)])) _
        refine XS.bipush X122.here hx rfl (hb hby at_165) ?_
        show Steps p.tables e below (T122.setTop (mkF m 167 #[.val (.int p0), .val (.int p1), .val (.int p2), .val (.int p3), .val (.int p4), .val (.int (p0 &&& (15 : Int32))), .val (.int (2 : Int32)), .val (.ref b88), .val (.ref b99)] [(.int (6 : Int32)), (.ref b99)])) _
        refine XS.iload X122.here hx rfl (hb hby at_167) rfl ?_
        show Steps p.tables e below (T122.setTop (mkF m 169 #[.val (.int p0), .val (.int p1), .val (.int p2), .val (.int p3), .val (.int p4), .val (.int (p0 &&& (15 : Int32))), .val (.int (2 : Int32)), .val (.ref b88), .val (.ref b99)] [(.int (2 : Int32)), (.int (6 : Int32)), (.ref b99)])) _
        refine XS.iloadN X122.here hx rfl (hb hby at_169) rfl ?_
        show Steps p.tables e below (T122.setTop (mkF m 170 #[.val (.int p0), .val (.int p1), .val (.int p2), .val (.int p3), .val (.int p4), .val (.int (p0 &&& (15 : Int32))), .val (.int (2 : Int32)), .val (.ref b88), .val (.ref b99)] [(.int p1), (.int (2 : Int32)), (.int (6 : Int32)), (.ref b99)])) _
        refine XS.iloadN X122.here hx rfl (hb hby at_170) rfl ?_
        show Steps p.tables e below (T122.setTop (mkF m 171 #[.val (.int p0), .val (.int p1), .val (.int p2), .val (.int p3), .val (.int p4), .val (.int (p0 &&& (15 : Int32))), .val (.int (2 : Int32)), .val (.ref b88), .val (.ref b99)] [(.int p2), (.int p1), (.int (2 : Int32)), (.int (6 : Int32)), (.ref b99)])) _
        refine XS.iload X122.here hx rfl (hb hby at_171) rfl ?_
        show Steps p.tables e below (T122.setTop (mkF m 173 #[.val (.int p0), .val (.int p1), .val (.int p2), .val (.int p3), .val (.int p4), .val (.int (p0 &&& (15 : Int32))), .val (.int (2 : Int32)), .val (.ref b88), .val (.ref b99)] [(.int p4), (.int p2), (.int p1), (.int (2 : Int32)), (.int (6 : Int32)), (.ref b99)])) _
        exact kt)
    obtain ⟨_, _, ⟨T125, L125, k125, n125⟩, -, X125, ⟨Lc125, hQ125, l125, y125, z125⟩, st125⟩ := Jvm.LawKit.callS X122 hx (y := (⟨"com/example/classweave/classweave/classfile/ClassOutputU4AtPinLaw", "at", "([BIIIII)Z"⟩ : MethodName)) hown (mvT hZ (hw _ (List.mem_of_getElem? (i := 68) rfl))) (mvT hZ (hw _ (List.mem_of_getElem? (i := 69) rfl))) (mvT hZ (hw _ (List.mem_of_getElem? (i := 70) rfl))) (mvT hZ (hw _ (List.mem_of_getElem? (i := 71) rfl))) (by decide) (backOf (W := 0) (rm12 l Z a0 hw [] b99 (6 : Int32) (2 : Int32) p1 p2 p4 (nar .byte (((p2.toUInt32 >>> ((8 : Int32) &&& 31).toUInt32).toInt32).toInt8.toInt32)) [(.int (nar .byte (((((p1.toUInt32 >>> ((16 : Int32) &&& 31).toUInt32).toInt32).toUInt32 >>> ((8 : Int32) &&& 31).toUInt32).toInt32).toInt8.toInt32))), (.int (nar .byte (((p1.toUInt32 >>> ((16 : Int32) &&& 31).toUInt32).toInt32).toInt8.toInt32))), (.int (nar .byte (((p4.toUInt32 >>> ((24 : Int32) &&& 31).toUInt32).toInt32).toInt8.toInt32))), (.int (nar .byte (((p4.toUInt32 >>> ((16 : Int32) &&& 31).toUInt32).toInt32).toInt8.toInt32))), (.int (nar .byte (((p4.toUInt32 >>> ((8 : Int32) &&& 31).toUInt32).toInt32).toInt8.toInt32))), (.int (nar .byte (p4.toInt8.toInt32))), (.int (nar .byte (((p2.toUInt32 >>> ((8 : Int32) &&& 31).toUInt32).toInt32).toInt8.toInt32))), (.int (nar .byte (p2.toInt8.toInt32)))] 6 T99.heap n0 V99 (by decide) (by decide) rfl) hZ (hw _ (List.mem_of_getElem? (i := 71) rfl)) (hw _ (List.mem_of_getElem? (i := 70) rfl)) (by decide) (by decide)) (g := (mkF m 173 #[.val (.int p0), .val (.int p1), .val (.int p2), .val (.int p3), .val (.int p4), .val (.int (p0 &&& (15 : Int32))), .val (.int (2 : Int32)), .val (.ref b88), .val (.ref b99)] [(.int p4), (.int p2), (.int p1), (.int (2 : Int32)), (.int (6 : Int32)), (.ref b99)])) rfl (by rw [hml]; rfl) (argsL := [(.ref b99), (.int (6 : Int32)), (.int (2 : Int32)), (.int p1), (.int p2), (.int p4)]) (rest := []) (lenOf pd_7 rfl) rfl (by show 2 * 0 + _ ≤ _; exact Nat.le_of_eq rfl) (hb hby at_173) (fun _ _ => ⟨rfl, e122, (by decide : 7 + 0 ≤ _), (by decide : 97 + 0 ≤ _)⟩)
    dsimp only [Pt.U, Pt.locs, Pt.cells, Pt.slots] at X125 l125 y125 z125 st125 hQ125
    subst l125 y125 z125
    obtain ⟨rfl, N125q, e125⟩ := hQ125
    have N125 := Fr.app N122 N125q
    have hc176_126 : ¬ ((own_at (nar .byte (((p2.toUInt32 >>> ((8 : Int32) &&& 31).toUInt32).toInt32).toInt8.toInt32)) (6 : Int32) (2 : Int32) p1 p2 p4) = (0 : Int32)) := own_at_2_6 _ _ _
    have go127 : ∀ t, Steps p.tables e below (T125.setTop (mkF m 189 #[.val (.int p0), .val (.int p1), .val (.int p2), .val (.int p3), .val (.int p4), .val (.int (p0 &&& (15 : Int32))), .val (.int (2 : Int32)), .val (.ref b88), .val (.ref b99)] [(.int p4), (.int p2), (.int p1), (.int (2 : Int32)), (.int (7 : Int32)), (.ref b99)])) t → Steps p.tables e below (s₁.setTop (entryFrame m #[(.int p0), (.int p1), (.int p2), (.int p3), (.int p4)] maxLocals)) t := fun t kt => go124 t (by
        refine st125 _ ?_
        show Steps p.tables e below (T125.setTop (mkF m 176 #[.val (.int p0), .val (.int p1), .val (.int p2), .val (.int p3), .val (.int p4), .val (.int (p0 &&& (15 : Int32))), .val (.int (2 : Int32)), .val (.ref b88), .val (.ref b99)] [(.int (own_at (nar .byte (((p2.toUInt32 >>> ((8 : Int32) &&& 31).toUInt32).toInt32).toInt8.toInt32)) (6 : Int32) (2 : Int32) p1 p2 p4))])) _
        refine XS.ifNo X125.here hx rfl (hb hby at_176) rfl ((if0 _ _).trans (feq hc176_126).1) ?_
        show Steps p.tables e below (T125.setTop (mkF m 179 #[.val (.int p0), .val (.int p1), .val (.int p2), .val (.int p3), .val (.int p4), .val (.int (p0 &&& (15 : Int32))), .val (.int (2 : Int32)), .val (.ref b88), .val (.ref b99)] [])) _
        refine XS.aload X125.here hx rfl (hb hby at_179) rfl rfl ?_
        show Steps p.tables e below (T125.setTop (mkF m 181 #[.val (.int p0), .val (.int p1), .val (.int p2), .val (.int p3), .val (.int p4), .val (.int (p0 &&& (15 : Int32))), .val (.int (2 : Int32)), .val (.ref b88), .val (.ref b99)] [(.ref b99)])) _
        refine XS.bipush X125.here hx rfl (hb hby at_181) ?_
        show Steps p.tables e below (T125.setTop (mkF m 183 #[.val (.int p0), .val (.int p1), .val (.int p2), .val (.int p3), .val (.int p4), .val (.int (p0 &&& (15 : Int32))), .val (.int (2 : Int32)), .val (.ref b88), .val (.ref b99)] [(.int (7 : Int32)), (.ref b99)])) _
        refine XS.iload X125.here hx rfl (hb hby at_183) rfl ?_
        show Steps p.tables e below (T125.setTop (mkF m 185 #[.val (.int p0), .val (.int p1), .val (.int p2), .val (.int p3), .val (.int p4), .val (.int (p0 &&& (15 : Int32))), .val (.int (2 : Int32)), .val (.ref b88), .val (.ref b99)] [(.int (2 : Int32)), (.int (7 : Int32)), (.ref b99)])) _
        refine XS.iloadN X125.here hx rfl (hb hby at_185) rfl ?_
        show Steps p.tables e below (T125.setTop (mkF m 186 #[.val (.int p0), .val (.int p1), .val (.int p2), .val (.int p3), .val (.int p4), .val (.int (p0 &&& (15 : Int32))), .val (.int (2 : Int32)), .val (.ref b88), .val (.ref b99)] [(.int p1), (.int (2 : Int32)), (.int (7 : Int32)), (.ref b99)])) _
        refine XS.iloadN X125.here hx rfl (hb hby at_186) rfl ?_
        show Steps p.tables e below (T125.setTop (mkF m 187 #[.val (.int p0), .val (.int p1), .val (.int p2), .val (.int p3), .val (.int p4), .val (.int (p0 &&& (15 : Int32))), .val (.int (2 : Int32)), .val (.ref b88), .val (.ref b99)] [(.int p2), (.int p1), (.int (2 : Int32)), (.int (7 : Int32)), (.ref b99)])) _
        refine XS.iload X125.here hx rfl (hb hby at_187) rfl ?_
        show Steps p.tables e below (T125.setTop (mkF m 189 #[.val (.int p0), .val (.int p1), .val (.int p2), .val (.int p3), .val (.int p4), .val (.int (p0 &&& (15 : Int32))), .val (.int (2 : Int32)), .val (.ref b88), .val (.ref b99)] [(.int p4), (.int p2), (.int p1), (.int (2 : Int32)), (.int (7 : Int32)), (.ref b99)])) _
        exact kt)
    obtain ⟨_, _, ⟨T128, L128, k128, n128⟩, -, X128, ⟨Lc128, hQ128, l128, y128, z128⟩, st128⟩ := Jvm.LawKit.callS X125 hx (y := (⟨"com/example/classweave/classweave/classfile/ClassOutputU4AtPinLaw", "at", "([BIIIII)Z"⟩ : MethodName)) hown (mvT hZ (hw _ (List.mem_of_getElem? (i := 68) rfl))) (mvT hZ (hw _ (List.mem_of_getElem? (i := 69) rfl))) (mvT hZ (hw _ (List.mem_of_getElem? (i := 70) rfl))) (mvT hZ (hw _ (List.mem_of_getElem? (i := 71) rfl))) (by decide) (backOf (W := 0) (rm12 l Z a0 hw [] b99 (7 : Int32) (2 : Int32) p1 p2 p4 (nar .byte (p2.toInt8.toInt32)) [(.int (nar .byte (((((p1.toUInt32 >>> ((16 : Int32) &&& 31).toUInt32).toInt32).toUInt32 >>> ((8 : Int32) &&& 31).toUInt32).toInt32).toInt8.toInt32))), (.int (nar .byte (((p1.toUInt32 >>> ((16 : Int32) &&& 31).toUInt32).toInt32).toInt8.toInt32))), (.int (nar .byte (((p4.toUInt32 >>> ((24 : Int32) &&& 31).toUInt32).toInt32).toInt8.toInt32))), (.int (nar .byte (((p4.toUInt32 >>> ((16 : Int32) &&& 31).toUInt32).toInt32).toInt8.toInt32))), (.int (nar .byte (((p4.toUInt32 >>> ((8 : Int32) &&& 31).toUInt32).toInt32).toInt8.toInt32))), (.int (nar .byte (p4.toInt8.toInt32))), (.int (nar .byte (((p2.toUInt32 >>> ((8 : Int32) &&& 31).toUInt32).toInt32).toInt8.toInt32))), (.int (nar .byte (p2.toInt8.toInt32)))] 7 T99.heap n0 V99 (by decide) (by decide) rfl) hZ (hw _ (List.mem_of_getElem? (i := 71) rfl)) (hw _ (List.mem_of_getElem? (i := 70) rfl)) (by decide) (by decide)) (g := (mkF m 189 #[.val (.int p0), .val (.int p1), .val (.int p2), .val (.int p3), .val (.int p4), .val (.int (p0 &&& (15 : Int32))), .val (.int (2 : Int32)), .val (.ref b88), .val (.ref b99)] [(.int p4), (.int p2), (.int p1), (.int (2 : Int32)), (.int (7 : Int32)), (.ref b99)])) rfl (by rw [hml]; rfl) (argsL := [(.ref b99), (.int (7 : Int32)), (.int (2 : Int32)), (.int p1), (.int p2), (.int p4)]) (rest := []) (lenOf pd_7 rfl) rfl (by show 2 * 0 + _ ≤ _; exact Nat.le_of_eq rfl) (hb hby at_189) (fun _ _ => ⟨rfl, e125, (by decide : 7 + 0 ≤ _), (by decide : 97 + 0 ≤ _)⟩)
    dsimp only [Pt.U, Pt.locs, Pt.cells, Pt.slots] at X128 l128 y128 z128 st128 hQ128
    subst l128 y128 z128
    obtain ⟨rfl, N128q, e128⟩ := hQ128
    have N128 := Fr.app N125 N128q
    have hc192_129 : ¬ ((own_at (nar .byte (p2.toInt8.toInt32)) (7 : Int32) (2 : Int32) p1 p2 p4) = (0 : Int32)) := own_at_2_7 _ _ _
    have go130 : ∀ t, Steps p.tables e below (T128.setTop (mkF m 200 #[.val (.int p0), .val (.int p1), .val (.int p2), .val (.int p3), .val (.int p4), .val (.int (p0 &&& (15 : Int32))), .val (.int (2 : Int32)), .val (.ref b88), .val (.ref b99)] [(.int (1 : Int32))])) t → Steps p.tables e below (s₁.setTop (entryFrame m #[(.int p0), (.int p1), (.int p2), (.int p3), (.int p4)] maxLocals)) t := fun t kt => go127 t (by
        refine st128 _ ?_
        show Steps p.tables e below (T128.setTop (mkF m 192 #[.val (.int p0), .val (.int p1), .val (.int p2), .val (.int p3), .val (.int p4), .val (.int (p0 &&& (15 : Int32))), .val (.int (2 : Int32)), .val (.ref b88), .val (.ref b99)] [(.int (own_at (nar .byte (p2.toInt8.toInt32)) (7 : Int32) (2 : Int32) p1 p2 p4))])) _
        refine XS.ifNo X128.here hx rfl (hb hby at_192) rfl ((if0 _ _).trans (feq hc192_129).1) ?_
        show Steps p.tables e below (T128.setTop (mkF m 195 #[.val (.int p0), .val (.int p1), .val (.int p2), .val (.int p3), .val (.int p4), .val (.int (p0 &&& (15 : Int32))), .val (.int (2 : Int32)), .val (.ref b88), .val (.ref b99)] [])) _
        refine XS.iconst X128.here hx rfl (hb hby at_195) ?_
        show Steps p.tables e below (T128.setTop (mkF m 196 #[.val (.int p0), .val (.int p1), .val (.int p2), .val (.int p3), .val (.int p4), .val (.int (p0 &&& (15 : Int32))), .val (.int (2 : Int32)), .val (.ref b88), .val (.ref b99)] [(.int (1 : Int32))])) _
        refine XS.goto X128.here hx rfl (pc0 := 196) (pc' := 200) rfl (hb hby at_196) (by decide) (by decide) ?_
        show Steps p.tables e below (T128.setTop (mkF m 200 #[.val (.int p0), .val (.int p1), .val (.int p2), .val (.int p3), .val (.int p4), .val (.int (p0 &&& (15 : Int32))), .val (.int (2 : Int32)), .val (.ref b88), .val (.ref b99)] [(.int (1 : Int32))])) _
        exact kt)
    obtain ⟨fs, hr, hrun, hended, hW, hsame⟩ := X128.leave (v := some (.int (1 : Int32))) (fun h => by rw [Bd.returns] at h; cases h)
    refine ⟨_, _, go130 _ (retN X128 hx (t := .boolean) Bd.returns (by simp) (hb hby at_200) hr), hrun, hended, _, _, rfl, ?_, ⟨_, rfl⟩, hW, hsame.mono (by decide) (by decide)⟩
    exact ⟨rfl, N128⟩
  · rw [h5] at go1
    obtain ⟨T131, h131, X131, e131, E131, A131, D131, -, st131⟩ := newO X0 hx hZ hown (hw _ (List.mem_of_getElem? (i := 1) rfl)) (hw _ (List.mem_of_getElem? (i := 2) rfl)) (hw _ (List.mem_of_getElem? (i := 3) rfl)) e0 (g := (mkF m 14 #[.val (.int p0), .val (.int p1), .val (.int p2), .val (.int p3), .val (.int p4), .val (.int (p0 &&& (15 : Int32))), .val (.int (3 : Int32)), .unset, .unset] [])) rfl (hb hby at_14) (by decide) (by decide)
    obtain ⟨b131, g131⟩ : ∃ z, z = h0.size := ⟨_, rfl⟩
    rw [← g131] at A131 D131 st131
    have ks131 : h0.size ≤ h0.size := Nat.le_refl _
    have sz131 : h0.size ≤ b131 := Nat.le_trans ks131 (Nat.le_of_eq g131.symm)
    have gb131 : n0 ≤ b131 := Nat.le_trans Z0 (Nat.le_of_eq g131.symm)
    have F131_bytes : Fld Z h131 b131 "com/example/classweave/classweave/classfile/ClassOutput" "bytes" "[B" .null := D131 (Or.inl (hw _ (List.mem_of_getElem? (i := 12) rfl))) (ty := (.array .byte)) (by decide)
    have F131_size : Fld Z h131 b131 "com/example/classweave/classweave/classfile/ClassOutput" "size" "I" (.int (0 : Int32)) := D131 (Or.inl (hw _ (List.mem_of_getElem? (i := 28) rfl))) (ty := .int) (by decide)
    have go132 : ∀ t, Steps p.tables e below (T131.setTop (mkF m 20 #[.val (.int p0), .val (.int p1), .val (.int p2), .val (.int p3), .val (.int p4), .val (.int (p0 &&& (15 : Int32))), .val (.int (3 : Int32)), .unset, .unset] [(.int (p0 &&& (15 : Int32))), (.ref b131), (.ref b131)])) t → Steps p.tables e below (s₁.setTop (entryFrame m #[(.int p0), (.int p1), (.int p2), (.int p3), (.int p4)] maxLocals)) t := fun t kt => go1 t (by
        refine st131 _ ?_
        show Steps p.tables e below (T131.setTop (mkF m 17 #[.val (.int p0), .val (.int p1), .val (.int p2), .val (.int p3), .val (.int p4), .val (.int (p0 &&& (15 : Int32))), .val (.int (3 : Int32)), .unset, .unset] [(.ref b131)])) _
        refine XS.dup X131.here hx rfl (hb hby at_17) rfl rfl ?_
        show Steps p.tables e below (T131.setTop (mkF m 18 #[.val (.int p0), .val (.int p1), .val (.int p2), .val (.int p3), .val (.int p4), .val (.int (p0 &&& (15 : Int32))), .val (.int (3 : Int32)), .unset, .unset] [(.ref b131), (.ref b131)])) _
        refine XS.iload X131.here hx rfl (hb hby at_18) rfl ?_
        show Steps p.tables e below (T131.setTop (mkF m 20 #[.val (.int p0), .val (.int p1), .val (.int p2), .val (.int p3), .val (.int p4), .val (.int (p0 &&& (15 : Int32))), .val (.int (3 : Int32)), .unset, .unset] [(.int (p0 &&& (15 : Int32))), (.ref b131), (.ref b131)])) _
        exact kt)
    have zs134 := (Nat.le_trans Z0 E131.1)
    obtain ⟨_, _, ⟨T133, L133, k133, n133⟩, -, X133, ⟨Lc133, hQ133, l133, y133, z133⟩, st133⟩ := X131.specialBack hx (y := (⟨"com/example/classweave/classweave/classfile/ClassOutput", "<init>", "(I)V"⟩ : MethodName)) rfl hown (mvT hZ (hw _ (List.mem_of_getElem? (i := 4) rfl))) (mvT hZ (hw _ (List.mem_of_getElem? (i := 5) rfl))) (mvT hZ (hw _ (List.mem_of_getElem? (i := 6) rfl))) (by decide) (backOf (W := 1) (rm1 l Z a0 hw [] b131 (p0 &&& (15 : Int32)) h131 n0 zs134 A131 F131_bytes F131_size gb131 (own_cap p0).1 (own_cap p0).2) hZ (hw _ (List.mem_of_getElem? (i := 6) rfl)) (hw _ (List.mem_of_getElem? (i := 3) rfl)) (by decide) (by decide)) (g := (mkF m 20 #[.val (.int p0), .val (.int p1), .val (.int p2), .val (.int p3), .val (.int p4), .val (.int (p0 &&& (15 : Int32))), .val (.int (3 : Int32)), .unset, .unset] [(.int (p0 &&& (15 : Int32))), (.ref b131), (.ref b131)])) rfl (by rw [hml]; rfl) (Steps.refl _) (a := b131) (argsL := [(.int (p0 &&& (15 : Int32)))]) (rest := [(.ref b131)]) (lenOf pd_0 rfl) rfl (by show 2 * 0 + _ ≤ _; exact Nat.le_of_eq rfl) (hb hby at_20) (fun _ _ => ⟨rfl, e131, (by decide : 1 + 1 ≤ _), (by decide : 2 + 15 ≤ _)⟩)
    dsimp only [Pt.U, Pt.locs, Pt.cells, Pt.slots] at X133 l133 y133 z133 st133 hQ133
    subst l133 y133 z133
    obtain ⟨rfl, N133q, OB133⟩ := hQ133
    have OC133 : own_OB Z T133.heap n0 b131 [] := OB133
    have zs133 : n0 ≤ T133.heap.size := by obtain ⟨_, _, ⟨q, _, _, _, r, _⟩, _⟩ := OC133; exact Nat.le_trans r (Nat.le_of_lt q.lt)
    have N133 := Fr.app N0 N133q
    have go135 : ∀ t, Steps p.tables e below (T133.setTop (mkF m 28 #[.val (.int p0), .val (.int p1), .val (.int p2), .val (.int p3), .val (.int p4), .val (.int (p0 &&& (15 : Int32))), .val (.int (3 : Int32)), .val (.ref b131), .unset] [(.int p1), (.ref b131)])) t → Steps p.tables e below (s₁.setTop (entryFrame m #[(.int p0), (.int p1), (.int p2), (.int p3), (.int p4)] maxLocals)) t := fun t kt => go132 t (by
        refine st133.trans ?_
        show Steps p.tables e below (T133.setTop (mkF m 23 #[.val (.int p0), .val (.int p1), .val (.int p2), .val (.int p3), .val (.int p4), .val (.int (p0 &&& (15 : Int32))), .val (.int (3 : Int32)), .unset, .unset] [(.ref b131)])) _
        refine XS.astore X133.here hx rfl (hb hby at_23) rfl rfl (l' := #[.val (.int p0), .val (.int p1), .val (.int p2), .val (.int p3), .val (.int p4), .val (.int (p0 &&& (15 : Int32))), .val (.int (3 : Int32)), .val (.ref b131), .unset]) rfl ?_
        show Steps p.tables e below (T133.setTop (mkF m 25 #[.val (.int p0), .val (.int p1), .val (.int p2), .val (.int p3), .val (.int p4), .val (.int (p0 &&& (15 : Int32))), .val (.int (3 : Int32)), .val (.ref b131), .unset] [])) _
        refine XS.aload X133.here hx rfl (hb hby at_25) rfl rfl ?_
        show Steps p.tables e below (T133.setTop (mkF m 27 #[.val (.int p0), .val (.int p1), .val (.int p2), .val (.int p3), .val (.int p4), .val (.int (p0 &&& (15 : Int32))), .val (.int (3 : Int32)), .val (.ref b131), .unset] [(.ref b131)])) _
        refine XS.iloadN X133.here hx rfl (hb hby at_27) rfl ?_
        show Steps p.tables e below (T133.setTop (mkF m 28 #[.val (.int p0), .val (.int p1), .val (.int p2), .val (.int p3), .val (.int p4), .val (.int (p0 &&& (15 : Int32))), .val (.int (3 : Int32)), .val (.ref b131), .unset] [(.int p1), (.ref b131)])) _
        exact kt)
    obtain ⟨cq136, kq136, q136a, q136b, q136c⟩ := isOf hZ rfl (by obtain ⟨_, _, ⟨q, _⟩, _⟩ := OC133; exact q)
    obtain ⟨_, _, ⟨T136, L136, k136, n136⟩, -, X136, ⟨Lc136, hQ136, l136, y136, z136⟩, st136⟩ := X133.virtualBack hx (y := (⟨"com/example/classweave/classweave/classfile/ClassOutput", "u4", "(I)V"⟩ : MethodName)) (z := (⟨"com/example/classweave/classweave/classfile/ClassOutput", "u4", "(I)V"⟩ : MethodName)) hown (mvT hZ (hw _ (List.mem_of_getElem? (i := 13) rfl))) (mvT hZ (hw _ (List.mem_of_getElem? (i := 14) rfl))) (notFace_of_selects (args := #[]) (mvT hZ (hw _ (List.mem_of_getElem? (i := 16) rfl)))) (mvT hZ (hw _ (List.mem_of_getElem? (i := 16) rfl))) (mvT hZ (hw _ (List.mem_of_getElem? (i := 15) rfl))) (by decide) (backOf (W := 0) (rm3 l Z a0 hw [] b131 p1 [] T133.heap n0 zs133 OC133 (by decide)) hZ (hw _ (List.mem_of_getElem? (i := 17) rfl)) (hw _ (List.mem_of_getElem? (i := 3) rfl)) (by decide) (by decide)) q136a q136c (g := (mkF m 28 #[.val (.int p0), .val (.int p1), .val (.int p2), .val (.int p3), .val (.int p4), .val (.int (p0 &&& (15 : Int32))), .val (.int (3 : Int32)), .val (.ref b131), .unset] [(.int p1), (.ref b131)])) rfl (by rw [hml]; rfl) (Steps.refl _) (argsL := [(.int p1)]) (rest := []) (lenOf pd_0 rfl) rfl (by show 2 * 0 + _ ≤ _; exact Nat.le_of_eq rfl) (hb hby at_28) (fun _ _ => ⟨rfl, rfl, (by decide : 2 + 2 ≤ _), (by decide : 17 + 32 ≤ _)⟩)
    dsimp only [Pt.U, Pt.locs, Pt.cells, Pt.slots] at X136 l136 y136 z136 st136 hQ136
    subst l136 y136 z136
    obtain ⟨rfl, N136q, OB136⟩ := hQ136
    have OC136 : own_OB Z T136.heap n0 b131 [(nar .byte (((((p1.toUInt32 >>> ((16 : Int32) &&& 31).toUInt32).toInt32).toUInt32 >>> ((8 : Int32) &&& 31).toUInt32).toInt32).toInt8.toInt32)), (nar .byte (((p1.toUInt32 >>> ((16 : Int32) &&& 31).toUInt32).toInt32).toInt8.toInt32)), (nar .byte (((p1.toUInt32 >>> ((8 : Int32) &&& 31).toUInt32).toInt32).toInt8.toInt32)), (nar .byte (p1.toInt8.toInt32))] := OB136
    have zs136 : n0 ≤ T136.heap.size := by obtain ⟨_, _, ⟨q, _, _, _, r, _⟩, _⟩ := OC136; exact Nat.le_trans r (Nat.le_of_lt q.lt)
    have N136 := Fr.app N133 N136q
    have go137 : ∀ t, Steps p.tables e below (T136.setTop (mkF m 34 #[.val (.int p0), .val (.int p1), .val (.int p2), .val (.int p3), .val (.int p4), .val (.int (p0 &&& (15 : Int32))), .val (.int (3 : Int32)), .val (.ref b131), .unset] [(.int p2), (.ref b131)])) t → Steps p.tables e below (s₁.setTop (entryFrame m #[(.int p0), (.int p1), (.int p2), (.int p3), (.int p4)] maxLocals)) t := fun t kt => go135 t (by
        refine st136.trans ?_
        show Steps p.tables e below (T136.setTop (mkF m 31 #[.val (.int p0), .val (.int p1), .val (.int p2), .val (.int p3), .val (.int p4), .val (.int (p0 &&& (15 : Int32))), .val (.int (3 : Int32)), .val (.ref b131), .unset] [])) _
        refine XS.aload X136.here hx rfl (hb hby at_31) rfl rfl ?_
        show Steps p.tables e below (T136.setTop (mkF m 33 #[.val (.int p0), .val (.int p1), .val (.int p2), .val (.int p3), .val (.int p4), .val (.int (p0 &&& (15 : Int32))), .val (.int (3 : Int32)), .val (.ref b131), .unset] [(.ref b131)])) _
        refine XS.iloadN X136.here hx rfl (hb hby at_33) rfl ?_
        show Steps p.tables e below (T136.setTop (mkF m 34 #[.val (.int p0), .val (.int p1), .val (.int p2), .val (.int p3), .val (.int p4), .val (.int (p0 &&& (15 : Int32))), .val (.int (3 : Int32)), .val (.ref b131), .unset] [(.int p2), (.ref b131)])) _
        exact kt)
    obtain ⟨cq138, kq138, q138a, q138b, q138c⟩ := isOf hZ rfl (by obtain ⟨_, _, ⟨q, _⟩, _⟩ := OC136; exact q)
    obtain ⟨_, _, ⟨T138, L138, k138, n138⟩, -, X138, ⟨Lc138, hQ138, l138, y138, z138⟩, st138⟩ := X136.virtualBack hx (y := (⟨"com/example/classweave/classweave/classfile/ClassOutput", "u4", "(I)V"⟩ : MethodName)) (z := (⟨"com/example/classweave/classweave/classfile/ClassOutput", "u4", "(I)V"⟩ : MethodName)) hown (mvT hZ (hw _ (List.mem_of_getElem? (i := 13) rfl))) (mvT hZ (hw _ (List.mem_of_getElem? (i := 14) rfl))) (notFace_of_selects (args := #[]) (mvT hZ (hw _ (List.mem_of_getElem? (i := 16) rfl)))) (mvT hZ (hw _ (List.mem_of_getElem? (i := 16) rfl))) (mvT hZ (hw _ (List.mem_of_getElem? (i := 15) rfl))) (by decide) (backOf (W := 0) (rm3 l Z a0 hw [] b131 p2 [(nar .byte (((((p1.toUInt32 >>> ((16 : Int32) &&& 31).toUInt32).toInt32).toUInt32 >>> ((8 : Int32) &&& 31).toUInt32).toInt32).toInt8.toInt32)), (nar .byte (((p1.toUInt32 >>> ((16 : Int32) &&& 31).toUInt32).toInt32).toInt8.toInt32)), (nar .byte (((p1.toUInt32 >>> ((8 : Int32) &&& 31).toUInt32).toInt32).toInt8.toInt32)), (nar .byte (p1.toInt8.toInt32))] T136.heap n0 zs136 OC136 (Nat.le_of_eq rfl)) hZ (hw _ (List.mem_of_getElem? (i := 17) rfl)) (hw _ (List.mem_of_getElem? (i := 3) rfl)) (by decide) (by decide)) q138a q138c (g := (mkF m 34 #[.val (.int p0), .val (.int p1), .val (.int p2), .val (.int p3), .val (.int p4), .val (.int (p0 &&& (15 : Int32))), .val (.int (3 : Int32)), .val (.ref b131), .unset] [(.int p2), (.ref b131)])) rfl (by rw [hml]; rfl) (Steps.refl _) (argsL := [(.int p2)]) (rest := []) (lenOf pd_0 rfl) rfl (by show 2 * 0 + _ ≤ _; exact Nat.le_of_eq rfl) (hb hby at_34) (fun _ _ => ⟨rfl, rfl, (by decide : 4 + 2 ≤ _), (by decide : 49 + 32 ≤ _)⟩)
    dsimp only [Pt.U, Pt.locs, Pt.cells, Pt.slots] at X138 l138 y138 z138 st138 hQ138
    subst l138 y138 z138
    obtain ⟨rfl, N138q, OB138⟩ := hQ138
    have OC138 : own_OB Z T138.heap n0 b131 [(nar .byte (((((p1.toUInt32 >>> ((16 : Int32) &&& 31).toUInt32).toInt32).toUInt32 >>> ((8 : Int32) &&& 31).toUInt32).toInt32).toInt8.toInt32)), (nar .byte (((p1.toUInt32 >>> ((16 : Int32) &&& 31).toUInt32).toInt32).toInt8.toInt32)), (nar .byte (((p1.toUInt32 >>> ((8 : Int32) &&& 31).toUInt32).toInt32).toInt8.toInt32)), (nar .byte (p1.toInt8.toInt32)), (nar .byte (((((p2.toUInt32 >>> ((16 : Int32) &&& 31).toUInt32).toInt32).toUInt32 >>> ((8 : Int32) &&& 31).toUInt32).toInt32).toInt8.toInt32)), (nar .byte (((p2.toUInt32 >>> ((16 : Int32) &&& 31).toUInt32).toInt32).toInt8.toInt32)), (nar .byte (((p2.toUInt32 >>> ((8 : Int32) &&& 31).toUInt32).toInt32).toInt8.toInt32)), (nar .byte (p2.toInt8.toInt32))] := OB138
    have zs138 : n0 ≤ T138.heap.size := by obtain ⟨_, _, ⟨q, _, _, _, r, _⟩, _⟩ := OC138; exact Nat.le_trans r (Nat.le_of_lt q.lt)
    have N138 := Fr.app N136 N138q
    have go139 : ∀ t, Steps p.tables e below (T138.setTop (mkF m 43 #[.val (.int p0), .val (.int p1), .val (.int p2), .val (.int p3), .val (.int p4), .val (.int (p0 &&& (15 : Int32))), .val (.int (3 : Int32)), .val (.ref b131), .unset] [(.int p4), (.int (3 : Int32)), (.ref b131)])) t → Steps p.tables e below (s₁.setTop (entryFrame m #[(.int p0), (.int p1), (.int p2), (.int p3), (.int p4)] maxLocals)) t := fun t kt => go137 t (by
        refine st138.trans ?_
        show Steps p.tables e below (T138.setTop (mkF m 37 #[.val (.int p0), .val (.int p1), .val (.int p2), .val (.int p3), .val (.int p4), .val (.int (p0 &&& (15 : Int32))), .val (.int (3 : Int32)), .val (.ref b131), .unset] [])) _
        refine XS.aload X138.here hx rfl (hb hby at_37) rfl rfl ?_
        show Steps p.tables e below (T138.setTop (mkF m 39 #[.val (.int p0), .val (.int p1), .val (.int p2), .val (.int p3), .val (.int p4), .val (.int (p0 &&& (15 : Int32))), .val (.int (3 : Int32)), .val (.ref b131), .unset] [(.ref b131)])) _
        refine XS.iload X138.here hx rfl (hb hby at_39) rfl ?_
        show Steps p.tables e below (T138.setTop (mkF m 41 #[.val (.int p0), .val (.int p1), .val (.int p2), .val (.int p3), .val (.int p4), .val (.int (p0 &&& (15 : Int32))), .val (.int (3 : Int32)), .val (.ref b131), .unset] [(.int (3 : Int32)), (.ref b131)])) _
        refine XS.iload X138.here hx rfl (hb hby at_41) rfl ?_
        show Steps p.tables e below (T138.setTop (mkF m 43 #[.val (.int p0), .val (.int p1), .val (.int p2), .val (.int p3), .val (.int p4), .val (.int (p0 &&& (15 : Int32))), .val (.int (3 : Int32)), .val (.ref b131), .unset] [(.int p4), (.int (3 : Int32)), (.ref b131)])) _
        exact kt)
    obtain ⟨cq140, kq140, q140a, q140b, q140c⟩ := isOf hZ rfl (by obtain ⟨_, _, ⟨q, _⟩, _⟩ := OC138; exact q)
    obtain ⟨_, _, ⟨T140, L140, k140, n140⟩, -, X140, ⟨Lc140, hQ140, l140, y140, z140⟩, st140⟩ := X138.virtualBack hx (y := (⟨"com/example/classweave/classweave/classfile/ClassOutput", "u4At", "(II)V"⟩ : MethodName)) (z := (⟨"com/example/classweave/classweave/classfile/ClassOutput", "u4At", "(II)V"⟩ : MethodName)) hown (mvT hZ (hw _ (List.mem_of_getElem? (i := 44) rfl))) (mvT hZ (hw _ (List.mem_of_getElem? (i := 45) rfl))) (notFace_of_selects (args := #[]) (mvT hZ (hw _ (List.mem_of_getElem? (i := 47) rfl)))) (mvT hZ (hw _ (List.mem_of_getElem? (i := 47) rfl))) (mvT hZ (hw _ (List.mem_of_getElem? (i := 46) rfl))) (by decide) (backOf (W := 0) (rm9 l Z a0 hw [] b131 (3 : Int32) p4 [(nar .byte (((((p1.toUInt32 >>> ((16 : Int32) &&& 31).toUInt32).toInt32).toUInt32 >>> ((8 : Int32) &&& 31).toUInt32).toInt32).toInt8.toInt32)), (nar .byte (((p1.toUInt32 >>> ((16 : Int32) &&& 31).toUInt32).toInt32).toInt8.toInt32)), (nar .byte (((p1.toUInt32 >>> ((8 : Int32) &&& 31).toUInt32).toInt32).toInt8.toInt32)), (nar .byte (p1.toInt8.toInt32)), (nar .byte (((((p2.toUInt32 >>> ((16 : Int32) &&& 31).toUInt32).toInt32).toUInt32 >>> ((8 : Int32) &&& 31).toUInt32).toInt32).toInt8.toInt32)), (nar .byte (((p2.toUInt32 >>> ((16 : Int32) &&& 31).toUInt32).toInt32).toInt8.toInt32)), (nar .byte (((p2.toUInt32 >>> ((8 : Int32) &&& 31).toUInt32).toInt32).toInt8.toInt32)), (nar .byte (p2.toInt8.toInt32))] 3 T138.heap n0 zs138 OC138 (by show 3 + 4 ≤ 8; decide) (by decide) (by decide) (by decide) (by decide) (by decide) (by decide) (by decide) (by decide)) hZ (hw _ (List.mem_of_getElem? (i := 48) rfl)) (hw _ (List.mem_of_getElem? (i := 3) rfl)) (by decide) (by decide)) q140a q140c (g := (mkF m 43 #[.val (.int p0), .val (.int p1), .val (.int p2), .val (.int p3), .val (.int p4), .val (.int (p0 &&& (15 : Int32))), .val (.int (3 : Int32)), .val (.ref b131), .unset] [(.int p4), (.int (3 : Int32)), (.ref b131)])) rfl (by rw [hml]; rfl) (Steps.refl _) (argsL := [(.int (3 : Int32)), (.int p4)]) (rest := []) (lenOf pd_4 rfl) rfl (by show 2 * 0 + _ ≤ _; exact Nat.le_of_eq rfl) (hb hby at_43) (fun _ _ => ⟨rfl, rfl, (by decide : 6 + 0 ≤ _), (by decide : 81 + 0 ≤ _)⟩)
    dsimp only [Pt.U, Pt.locs, Pt.cells, Pt.slots] at X140 l140 y140 z140 st140 hQ140
    subst l140 y140 z140
    obtain ⟨rfl, N140q, OB140⟩ := hQ140
    have OC140 : own_OB Z T140.heap n0 b131 [(nar .byte (((((p1.toUInt32 >>> ((16 : Int32) &&& 31).toUInt32).toInt32).toUInt32 >>> ((8 : Int32) &&& 31).toUInt32).toInt32).toInt8.toInt32)), (nar .byte (((p1.toUInt32 >>> ((16 : Int32) &&& 31).toUInt32).toInt32).toInt8.toInt32)), (nar .byte (((p1.toUInt32 >>> ((8 : Int32) &&& 31).toUInt32).toInt32).toInt8.toInt32)), (nar .byte (((p4.toUInt32 >>> ((24 : Int32) &&& 31).toUInt32).toInt32).toInt8.toInt32)), (nar .byte (((p4.toUInt32 >>> ((16 : Int32) &&& 31).toUInt32).toInt32).toInt8.toInt32)), (nar .byte (((p4.toUInt32 >>> ((8 : Int32) &&& 31).toUInt32).toInt32).toInt8.toInt32)), (nar .byte (p4.toInt8.toInt32)), (nar .byte (p2.toInt8.toInt32))] := OB140
    have zs140 : n0 ≤ T140.heap.size := by obtain ⟨_, _, ⟨q, _, _, _, r, _⟩, _⟩ := OC140; exact Nat.le_trans r (Nat.le_of_lt q.lt)
    have N140 := Fr.app N138 N140q
    have go141 : ∀ t, Steps p.tables e below (T140.setTop (mkF m 48 #[.val (.int p0), .val (.int p1), .val (.int p2), .val (.int p3), .val (.int p4), .val (.int (p0 &&& (15 : Int32))), .val (.int (3 : Int32)), .val (.ref b131), .unset] [(.ref b131)])) t → Steps p.tables e below (s₁.setTop (entryFrame m #[(.int p0), (.int p1), (.int p2), (.int p3), (.int p4)] maxLocals)) t := fun t kt => go139 t (by
        refine st140.trans ?_
        show Steps p.tables e below (T140.setTop (mkF m 46 #[.val (.int p0), .val (.int p1), .val (.int p2), .val (.int p3), .val (.int p4), .val (.int (p0 &&& (15 : Int32))), .val (.int (3 : Int32)), .val (.ref b131), .unset] [])) _
        refine XS.aload X140.here hx rfl (hb hby at_46) rfl rfl ?_
        show Steps p.tables e below (T140.setTop (mkF m 48 #[.val (.int p0), .val (.int p1), .val (.int p2), .val (.int p3), .val (.int p4), .val (.int (p0 &&& (15 : Int32))), .val (.int (3 : Int32)), .val (.ref b131), .unset] [(.ref b131)])) _
        exact kt)
    obtain ⟨cq142, kq142, q142a, q142b, q142c⟩ := isOf hZ rfl (by obtain ⟨_, _, ⟨q, _⟩, _⟩ := OC140; exact q)
    obtain ⟨_, _, ⟨T142, L142, k142, n142⟩, -, X142, ⟨Lc142, hQ142, l142, y142, z142⟩, st142⟩ := X140.virtualBack hx (y := (⟨"com/example/classweave/classweave/classfile/ClassOutput", "toByteArray", "()[B"⟩ : MethodName)) (z := (⟨"com/example/classweave/classweave/classfile/ClassOutput", "toByteArray", "()[B"⟩ : MethodName)) hown (mvT hZ (hw _ (List.mem_of_getElem? (i := 49) rfl))) (mvT hZ (hw _ (List.mem_of_getElem? (i := 50) rfl))) (notFace_of_selects (args := #[]) (mvT hZ (hw _ (List.mem_of_getElem? (i := 52) rfl)))) (mvT hZ (hw _ (List.mem_of_getElem? (i := 52) rfl))) (mvT hZ (hw _ (List.mem_of_getElem? (i := 51) rfl))) (by decide) (backOf (W := 0) (rm10 l Z a0 hw [] b131 [(nar .byte (((((p1.toUInt32 >>> ((16 : Int32) &&& 31).toUInt32).toInt32).toUInt32 >>> ((8 : Int32) &&& 31).toUInt32).toInt32).toInt8.toInt32)), (nar .byte (((p1.toUInt32 >>> ((16 : Int32) &&& 31).toUInt32).toInt32).toInt8.toInt32)), (nar .byte (((p1.toUInt32 >>> ((8 : Int32) &&& 31).toUInt32).toInt32).toInt8.toInt32)), (nar .byte (((p4.toUInt32 >>> ((24 : Int32) &&& 31).toUInt32).toInt32).toInt8.toInt32)), (nar .byte (((p4.toUInt32 >>> ((16 : Int32) &&& 31).toUInt32).toInt32).toInt8.toInt32)), (nar .byte (((p4.toUInt32 >>> ((8 : Int32) &&& 31).toUInt32).toInt32).toInt8.toInt32)), (nar .byte (p4.toInt8.toInt32)), (nar .byte (p2.toInt8.toInt32))] T140.heap n0 zs140 OC140) hZ (hw _ (List.mem_of_getElem? (i := 53) rfl)) (hw _ (List.mem_of_getElem? (i := 3) rfl)) (by decide) (by decide)) q142a q142c (g := (mkF m 48 #[.val (.int p0), .val (.int p1), .val (.int p2), .val (.int p3), .val (.int p4), .val (.int (p0 &&& (15 : Int32))), .val (.int (3 : Int32)), .val (.ref b131), .unset] [(.ref b131)])) rfl (by rw [hml]; rfl) (Steps.refl _) (argsL := []) (rest := []) (lenOf pd_5 rfl) rfl (by show 2 * 0 + _ ≤ _; exact Nat.le_of_eq rfl) (hb hby at_48) (fun _ _ => ⟨rfl, rfl, (by decide : 6 + 1 ≤ _), (by decide : 81 + 16 ≤ _)⟩)
    dsimp only [Pt.U, Pt.locs, Pt.cells, Pt.slots] at X142 l142 y142 z142 st142 hQ142
    subst l142 y142 z142
    obtain ⟨b142, rfl, N142q, OB142, Vq142⟩ := hQ142
    have OC142 : own_OB Z T142.heap n0 b131 [(nar .byte (((((p1.toUInt32 >>> ((16 : Int32) &&& 31).toUInt32).toInt32).toUInt32 >>> ((8 : Int32) &&& 31).toUInt32).toInt32).toInt8.toInt32)), (nar .byte (((p1.toUInt32 >>> ((16 : Int32) &&& 31).toUInt32).toInt32).toInt8.toInt32)), (nar .byte (((p1.toUInt32 >>> ((8 : Int32) &&& 31).toUInt32).toInt32).toInt8.toInt32)), (nar .byte (((p4.toUInt32 >>> ((24 : Int32) &&& 31).toUInt32).toInt32).toInt8.toInt32)), (nar .byte (((p4.toUInt32 >>> ((16 : Int32) &&& 31).toUInt32).toInt32).toInt8.toInt32)), (nar .byte (((p4.toUInt32 >>> ((8 : Int32) &&& 31).toUInt32).toInt32).toInt8.toInt32)), (nar .byte (p4.toInt8.toInt32)), (nar .byte (p2.toInt8.toInt32))] := OB142
    have zs142 : n0 ≤ T142.heap.size := by obtain ⟨_, _, ⟨q, _, _, _, r, _⟩, _⟩ := OC142; exact Nat.le_trans r (Nat.le_of_lt q.lt)
    have V142 : own_AV Z T142.heap b142 .byte [(.int (nar .byte (((((p1.toUInt32 >>> ((16 : Int32) &&& 31).toUInt32).toInt32).toUInt32 >>> ((8 : Int32) &&& 31).toUInt32).toInt32).toInt8.toInt32))), (.int (nar .byte (((p1.toUInt32 >>> ((16 : Int32) &&& 31).toUInt32).toInt32).toInt8.toInt32))), (.int (nar .byte (((p1.toUInt32 >>> ((8 : Int32) &&& 31).toUInt32).toInt32).toInt8.toInt32))), (.int (nar .byte (((p4.toUInt32 >>> ((24 : Int32) &&& 31).toUInt32).toInt32).toInt8.toInt32))), (.int (nar .byte (((p4.toUInt32 >>> ((16 : Int32) &&& 31).toUInt32).toInt32).toInt8.toInt32))), (.int (nar .byte (((p4.toUInt32 >>> ((8 : Int32) &&& 31).toUInt32).toInt32).toInt8.toInt32))), (.int (nar .byte (p4.toInt8.toInt32))), (.int (nar .byte (p2.toInt8.toInt32)))] := Vq142
    have N142 := Fr.app N140 N142q
    have go143 : ∀ t, Steps p.tables e below (T142.setTop (mkF m 55 #[.val (.int p0), .val (.int p1), .val (.int p2), .val (.int p3), .val (.int p4), .val (.int (p0 &&& (15 : Int32))), .val (.int (3 : Int32)), .val (.ref b131), .val (.ref b142)] [(.ref b131)])) t → Steps p.tables e below (s₁.setTop (entryFrame m #[(.int p0), (.int p1), (.int p2), (.int p3), (.int p4)] maxLocals)) t := fun t kt => go141 t (by
        refine st142.trans ?_
        show Steps p.tables e below (T142.setTop (mkF m 51 #[.val (.int p0), .val (.int p1), .val (.int p2), .val (.int p3), .val (.int p4), .val (.int (p0 &&& (15 : Int32))), .val (.int (3 : Int32)), .val (.ref b131), .unset] [(.ref b142)])) _
        refine XS.astore X142.here hx rfl (hb hby at_51) rfl rfl (l' := #[.val (.int p0), .val (.int p1), .val (.int p2), .val (.int p3), .val (.int p4), .val (.int (p0 &&& (15 : Int32))), .val (.int (3 : Int32)), .val (.ref b131), .val (.ref b142)]) rfl ?_
        show Steps p.tables e below (T142.setTop (mkF m 53 #[.val (.int p0), .val (.int p1), .val (.int p2), .val (.int p3), .val (.int p4), .val (.int (p0 &&& (15 : Int32))), .val (.int (3 : Int32)), .val (.ref b131), .val (.ref b142)] [])) _
        refine XS.aload X142.here hx rfl (hb hby at_53) rfl rfl ?_
        show Steps p.tables e below (T142.setTop (mkF m 55 #[.val (.int p0), .val (.int p1), .val (.int p2), .val (.int p3), .val (.int p4), .val (.int (p0 &&& (15 : Int32))), .val (.int (3 : Int32)), .val (.ref b131), .val (.ref b142)] [(.ref b131)])) _
        exact kt)
    obtain ⟨cq144, kq144, q144a, q144b, q144c⟩ := isOf hZ rfl (by obtain ⟨_, _, ⟨q, _⟩, _⟩ := OC142; exact q)
    obtain ⟨_, _, ⟨T144, L144, k144, n144⟩, -, X144, ⟨Lc144, hQ144, l144, y144, z144⟩, st144⟩ := X142.virtualBack hx (y := (⟨"com/example/classweave/classweave/classfile/ClassOutput", "size", "()I"⟩ : MethodName)) (z := (⟨"com/example/classweave/classweave/classfile/ClassOutput", "size", "()I"⟩ : MethodName)) hown (mvT hZ (hw _ (List.mem_of_getElem? (i := 63) rfl))) (mvT hZ (hw _ (List.mem_of_getElem? (i := 64) rfl))) (notFace_of_selects (args := #[]) (mvT hZ (hw _ (List.mem_of_getElem? (i := 66) rfl)))) (mvT hZ (hw _ (List.mem_of_getElem? (i := 66) rfl))) (mvT hZ (hw _ (List.mem_of_getElem? (i := 65) rfl))) (by decide) (backOf (W := 0) (rm11 l Z a0 hw [] b131 [(nar .byte (((((p1.toUInt32 >>> ((16 : Int32) &&& 31).toUInt32).toInt32).toUInt32 >>> ((8 : Int32) &&& 31).toUInt32).toInt32).toInt8.toInt32)), (nar .byte (((p1.toUInt32 >>> ((16 : Int32) &&& 31).toUInt32).toInt32).toInt8.toInt32)), (nar .byte (((p1.toUInt32 >>> ((8 : Int32) &&& 31).toUInt32).toInt32).toInt8.toInt32)), (nar .byte (((p4.toUInt32 >>> ((24 : Int32) &&& 31).toUInt32).toInt32).toInt8.toInt32)), (nar .byte (((p4.toUInt32 >>> ((16 : Int32) &&& 31).toUInt32).toInt32).toInt8.toInt32)), (nar .byte (((p4.toUInt32 >>> ((8 : Int32) &&& 31).toUInt32).toInt32).toInt8.toInt32)), (nar .byte (p4.toInt8.toInt32)), (nar .byte (p2.toInt8.toInt32))] (8 : Int32) T142.heap n0 OC142 rfl) hZ (hw _ (List.mem_of_getElem? (i := 67) rfl)) (hw _ (List.mem_of_getElem? (i := 3) rfl)) (by decide) (by decide)) q144a q144c (g := (mkF m 55 #[.val (.int p0), .val (.int p1), .val (.int p2), .val (.int p3), .val (.int p4), .val (.int (p0 &&& (15 : Int32))), .val (.int (3 : Int32)), .val (.ref b131), .val (.ref b142)] [(.ref b131)])) rfl (by rw [hml]; rfl) (Steps.refl _) (argsL := []) (rest := []) (lenOf pd_6 rfl) rfl (by show 2 * 0 + _ ≤ _; exact Nat.le_of_eq rfl) (hb hby at_55) (fun _ _ => ⟨rfl, rfl, (by decide : 7 + 0 ≤ _), (by decide : 97 + 0 ≤ _)⟩)
    dsimp only [Pt.U, Pt.locs, Pt.cells, Pt.slots] at X144 l144 y144 z144 st144 hQ144
    subst l144 y144 z144
    obtain ⟨rfl, N144q, e144⟩ := hQ144
    have N144 := Fr.app N142 N144q
    have hc60_145 : (8 : Int32) = (8 : Int32) := (by decide)
    have go146 : ∀ t, Steps p.tables e below (T144.setTop (mkF m 65 #[.val (.int p0), .val (.int p1), .val (.int p2), .val (.int p3), .val (.int p4), .val (.int (p0 &&& (15 : Int32))), .val (.int (3 : Int32)), .val (.ref b131), .val (.ref b142)] [(.ref b142)])) t → Steps p.tables e below (s₁.setTop (entryFrame m #[(.int p0), (.int p1), (.int p2), (.int p3), (.int p4)] maxLocals)) t := fun t kt => go143 t (by
        refine st144.trans ?_
        show Steps p.tables e below (T144.setTop (mkF m 58 #[.val (.int p0), .val (.int p1), .val (.int p2), .val (.int p3), .val (.int p4), .val (.int (p0 &&& (15 : Int32))), .val (.int (3 : Int32)), .val (.ref b131), .val (.ref b142)] [(.int (8 : Int32))])) _
        refine XS.bipush X144.here hx rfl (hb hby at_58) ?_
        show Steps p.tables e below (T144.setTop (mkF m 60 #[.val (.int p0), .val (.int p1), .val (.int p2), .val (.int p3), .val (.int p4), .val (.int (p0 &&& (15 : Int32))), .val (.int (3 : Int32)), .val (.ref b131), .val (.ref b142)] [(.int (8 : Int32)), (.int (8 : Int32))])) _
        refine XS.icmpNo X144.here hx rfl (hb hby at_60) rfl (teq hc60_145).2 ?_
        show Steps p.tables e below (T144.setTop (mkF m 63 #[.val (.int p0), .val (.int p1), .val (.int p2), .val (.int p3), .val (.int p4), .val (.int (p0 &&& (15 : Int32))), .val (.int (3 : Int32)), .val (.ref b131), .val (.ref b142)] [])) _
        refine XS.aload X144.here hx rfl (hb hby at_63) rfl rfl ?_
        show Steps p.tables e below (T144.setTop (mkF m 65 #[.val (.int p0), .val (.int p1), .val (.int p2), .val (.int p3), .val (.int p4), .val (.int (p0 &&& (15 : Int32))), .val (.int (3 : Int32)), .val (.ref b131), .val (.ref b142)] [(.ref b142)])) _
        exact kt)
    obtain ⟨c147, Ar147, q147⟩ := id V142
    have hc68_148 : (8 : Int32) = (8 : Int32) := (by decide)
    have go149 : ∀ t, Steps p.tables e below (T144.setTop (mkF m 82 #[.val (.int p0), .val (.int p1), .val (.int p2), .val (.int p3), .val (.int p4), .val (.int (p0 &&& (15 : Int32))), .val (.int (3 : Int32)), .val (.ref b131), .val (.ref b142)] [(.int p4), (.int p2), (.int p1), (.int (3 : Int32)), (.int (0 : Int32)), (.ref b142)])) t → Steps p.tables e below (s₁.setTop (entryFrame m #[(.int p0), (.int p1), (.int p2), (.int p3), (.int p4)] maxLocals)) t := fun t kt => go146 t (by
        refine X144.arraylength hx (by rw [e144]; exact Ar147.1) (State.isArrayOf_alike hZ.alike Ar147.2.1) (g := (mkF m 65 #[.val (.int p0), .val (.int p1), .val (.int p2), .val (.int p3), .val (.int p4), .val (.int (p0 &&& (15 : Int32))), .val (.int (3 : Int32)), .val (.ref b131), .val (.ref b142)] [(.ref b142)])) rfl rfl (hb hby at_65) _ ?_
        rw [own_len q147 (n := (8 : Int32)) rfl]
        show Steps p.tables e below (T144.setTop (mkF m 66 #[.val (.int p0), .val (.int p1), .val (.int p2), .val (.int p3), .val (.int p4), .val (.int (p0 &&& (15 : Int32))), .val (.int (3 : Int32)), .val (.ref b131), .val (.ref b142)] [(.int (8 : Int32))])) _
        refine XS.bipush X144.here hx rfl (hb hby at_66) ?_
        show Steps p.tables e below (T144.setTop (mkF m 68 #[.val (.int p0), .val (.int p1), .val (.int p2), .val (.int p3), .val (.int p4), .val (.int (p0 &&& (15 : Int32))), .val (.int (3 : Int32)), .val (.ref b131), .val (.ref b142)] [(.int (8 : Int32)), (.int (8 : Int32))])) _
        refine XS.icmpYes X144.here hx rfl (pc0 := 68) (pc' := 73) rfl (hb hby at_68) rfl (teq hc68_148).1 (by decide) (by decide) ?_
        show Steps p.tables e below (T144.setTop (mkF m 73 #[.val (.int p0), .val (.int p1), .val (.int p2), .val (.int p3), .val (.int p4), .val (.int (p0 &&& (15 : Int32))), .val (.int (3 : Int32)), .val (.ref b131), .val (.ref b142)] [])) _
        refine XS.aload X144.here hx rfl (hb hby at_73) rfl rfl ?_
        show Steps p.tables e below (T144.setTop (mkF m 75 #[.val (.int p0), .val (.int p1), .val (.int p2), .val (.int p3), .val (.int p4), .val (.int (p0 &&& (15 : Int32))), .val (.int (3 : Int32)), .val (.ref b131), .val (.ref b142)] [(.ref b142)])) _
        refine XS.iconst X144.here hx rfl (hb hby at_75) ?_
        show Steps p.tables e below (T144.setTop (mkF m 76 #[.val (.int p0), .val (.int p1), .val (.int p2), .val (.int p3), .val (.int p4), .val (.int (p0 &&& (15 : Int32))), .val (.int (3 : Int32)), .val (.ref b131), .val (.ref b142)] [(.int (0 : Int32)), (.ref b142)])) _
        refine XS.iload X144.here hx rfl (hb hby at_76) rfl ?_
        show Steps p.tables e below (T144.setTop (mkF m 78 #[.val (.int p0), .val (.int p1), .val (.int p2), .val (.int p3), .val (.int p4), .val (.int (p0 &&& (15 : Int32))), .val (.int (3 : Int32)), .val (.ref b131), .val (.ref b142)] [(.int (3 : Int32)), (.int (0 : Int32)), (.ref b142)])) _
        refine XS.iloadN X144.here hx rfl (hb hby at_78) rfl ?_
        show Steps p.tables e below (T144.setTop (mkF m 79 #[.val (.int p0), .val (.int p1), .val (.int p2), .val (.int p3), .val (.int p4), .val (.int (p0 &&& (15 : Int32))), .val (.int (3 : Int32)), .val (.ref b131), .val (.ref b142)] [(.int p1), (.int (3 : Int32)), (.int (0 : Int32)), (.ref b142)])) _
        refine XS.iloadN X144.here hx rfl (hb hby at_79) rfl ?_
        show Steps p.tables e below (T144.setTop (mkF m 80 #[.val (.int p0), .val (.int p1), .val (.int p2), .val (.int p3), .val (.int p4), .val (.int (p0 &&& (15 : Int32))), .val (.int (3 : Int32)), .val (.ref b131), .val (.ref b142)] [(.int p2), (.int p1), (.int (3 : Int32)), (.int (0 : Int32)), (.ref b142)])) _
        refine XS.iload X144.here hx rfl (hb hby at_80) rfl ?_
        show Steps p.tables e below (T144.setTop (mkF m 82 #[.val (.int p0), .val (.int p1), .val (.int p2), .val (.int p3), .val (.int p4), .val (.int (p0 &&& (15 : Int32))), .val (.int (3 : Int32)), .val (.ref b131), .val (.ref b142)] [(.int p4), (.int p2), (.int p1), (.int (3 : Int32)), (.int (0 : Int32)), (.ref b142)])) _
        exact kt)
    obtain ⟨_, _, ⟨T150, L150, k150, n150⟩, -, X150, ⟨Lc150, hQ150, l150, y150, z150⟩, st150⟩ := Jvm.LawKit.callS X144 hx (y := (⟨"com/example/classweave/classweave/classfile/ClassOutputU4AtPinLaw", "at", "([BIIIII)Z"⟩ : MethodName)) hown (mvT hZ (hw _ (List.mem_of_getElem? (i := 68) rfl))) (mvT hZ (hw _ (List.mem_of_getElem? (i := 69) rfl))) (mvT hZ (hw _ (List.mem_of_getElem? (i := 70) rfl))) (mvT hZ (hw _ (List.mem_of_getElem? (i := 71) rfl))) (by decide) (backOf (W := 0) (rm12 l Z a0 hw [] b142 (0 : Int32) (3 : Int32) p1 p2 p4 (nar .byte (((((p1.toUInt32 >>> ((16 : Int32) &&& 31).toUInt32).toInt32).toUInt32 >>> ((8 : Int32) &&& 31).toUInt32).toInt32).toInt8.toInt32)) [(.int (nar .byte (((((p1.toUInt32 >>> ((16 : Int32) &&& 31).toUInt32).toInt32).toUInt32 >>> ((8 : Int32) &&& 31).toUInt32).toInt32).toInt8.toInt32))), (.int (nar .byte (((p1.toUInt32 >>> ((16 : Int32) &&& 31).toUInt32).toInt32).toInt8.toInt32))), (.int (nar .byte (((p1.toUInt32 >>> ((8 : Int32) &&& 31).toUInt32).toInt32).toInt8.toInt32))), (.int (nar .byte (((p4.toUInt32 >>> ((24 : Int32) &&& 31).toUInt32).toInt32).toInt8.toInt32))), (.int (nar .byte (((p4.toUInt32 >>> ((16 : Int32) &&& 31).toUInt32).toInt32).toInt8.toInt32))), (.int (nar .byte (((p4.toUInt32 >>> ((8 : Int32) &&& 31).toUInt32).toInt32).toInt8.toInt32))), (.int (nar .byte (p4.toInt8.toInt32))), (.int (nar .byte (p2.toInt8.toInt32)))] 0 T142.heap n0 V142 (by decide) (by decide) rfl) hZ (hw _ (List.mem_of_getElem? (i := 71) rfl)) (hw _ (List.mem_of_getElem? (i := 70) rfl)) (by decide) (by decide)) (g := (mkF m 82 #[.val (.int p0), .val (.int p1), .val (.int p2), .val (.int p3), .val (.int p4), .val (.int (p0 &&& (15 : Int32))), .val (.int (3 : Int32)), .val (.ref b131), .val (.ref b142)] [(.int p4), (.int p2), (.int p1), (.int (3 : Int32)), (.int (0 : Int32)), (.ref b142)])) rfl (by rw [hml]; rfl) (argsL := [(.ref b142), (.int (0 : Int32)), (.int (3 : Int32)), (.int p1), (.int p2), (.int p4)]) (rest := []) (lenOf pd_7 rfl) rfl (by show 2 * 0 + _ ≤ _; exact Nat.le_of_eq rfl) (hb hby at_82) (fun _ _ => ⟨rfl, e144, (by decide : 7 + 0 ≤ _), (by decide : 97 + 0 ≤ _)⟩)
    dsimp only [Pt.U, Pt.locs, Pt.cells, Pt.slots] at X150 l150 y150 z150 st150 hQ150
    subst l150 y150 z150
    obtain ⟨rfl, N150q, e150⟩ := hQ150
    have N150 := Fr.app N144 N150q
    have hc85_151 : ¬ ((own_at (nar .byte (((((p1.toUInt32 >>> ((16 : Int32) &&& 31).toUInt32).toInt32).toUInt32 >>> ((8 : Int32) &&& 31).toUInt32).toInt32).toInt8.toInt32)) (0 : Int32) (3 : Int32) p1 p2 p4) = (0 : Int32)) := own_at_3_0 _ _ _
    have go152 : ∀ t, Steps p.tables e below (T150.setTop (mkF m 97 #[.val (.int p0), .val (.int p1), .val (.int p2), .val (.int p3), .val (.int p4), .val (.int (p0 &&& (15 : Int32))), .val (.int (3 : Int32)), .val (.ref b131), .val (.ref b142)] [(.int p4), (.int p2), (.int p1), (.int (3 : Int32)), (.int (1 : Int32)), (.ref b142)])) t → Steps p.tables e below (s₁.setTop (entryFrame m #[(.int p0), (.int p1), (.int p2), (.int p3), (.int p4)] maxLocals)) t := fun t kt => go149 t (by
        refine st150 _ ?_
        show Steps p.tables e below (T150.setTop (mkF m 85 #[.val (.int p0), .val (.int p1), .val (.int p2), .val (.int p3), .val (.int p4), .val (.int (p0 &&& (15 : Int32))), .val (.int (3 : Int32)), .val (.ref b131), .val (.ref b142)] [(.int (own_at (nar .byte (((((p1.toUInt32 >>> ((16 : Int32) &&& 31).toUInt32).toInt32).toUInt32 >>> ((8 : Int32) &&& 31).toUInt32).toInt32).toInt8.toInt32)) (0 : Int32) (3 : Int32) p1 p2 p4))])) _
        refine XS.ifNo X150.here hx rfl (hb hby at_85) rfl ((if0 _ _).trans (feq hc85_151).1) ?_
        show Steps p.tables e below (T150.setTop (mkF m 88 #[.val (.int p0), .val (.int p1), .val (.int p2), .val (.int p3), .val (.int p4), .val (.int (p0 &&& (15 : Int32))), .val (.int (3 : Int32)), .val (.ref b131), .val (.ref b142)] [])) _
        refine XS.aload X150.here hx rfl (hb hby at_88) rfl rfl ?_
        show Steps p.tables e below (T150.setTop (mkF m 90 #[.val (.int p0), .val (.int p1), .val (.int p2), .val (.int p3), .val (.int p4), .val (.int (p0 &&& (15 : Int32))), .val (.int (3 : Int32)), .val (.ref b131), .val (.ref b142)] [(.ref b142)])) _
        refine XS.iconst X150.here hx rfl (hb hby at_90) ?_
        show Steps p.tables e below (T150.setTop (mkF m 91 #[.val (.int p0), .val (.int p1), .val (.int p2), .val (.int p3), .val (.int p4), .val (.int (p0 &&& (15 : Int32))), .val (.int (3 : Int32)), .val (.ref b131), .val (.ref b142)] [(.int (1 : Int32)), (.ref b142)])) _
        refine XS.iload X150.here hx rfl (hb hby at_91) rfl ?_
        show Steps p.tables e below (T150.setTop (mkF m 93 #[.val (.int p0), .val (.int p1), .val (.int p2), .val (.int p3), .val (.int p4), .val (.int (p0 &&& (15 : Int32))), .val (.int (3 : Int32)), .val (.ref b131), .val (.ref b142)] [(.int (3 : Int32)), (.int (1 : Int32)), (.ref b142)])) _
        refine XS.iloadN X150.here hx rfl (hb hby at_93) rfl ?_
        show Steps p.tables e below (T150.setTop (mkF m 94 #[.val (.int p0), .val (.int p1), .val (.int p2), .val (.int p3), .val (.int p4), .val (.int (p0 &&& (15 : Int32))), .val (.int (3 : Int32)), .val (.ref b131), .val (.ref b142)] [(.int p1), (.int (3 : Int32)), (.int (1 : Int32)), (.ref b142)])) _
        refine XS.iloadN X150.here hx rfl (hb hby at_94) rfl ?_
        show Steps p.tables e below (T150.setTop (mkF m 95 #[.val (.int p0), .val (.int p1), .val (.int p2), .val (.int p3), .val (.int p4), .val (.int (p0 &&& (15 : Int32))), .val (.int (3 : Int32)), .val (.ref b131), .val (.ref b142)] [(.int p2), (.int p1), (.int (3 : Int32)), (.int (1 : Int32)), (.ref b142)])) _
        refine XS.iload X150.here hx rfl (hb hby at_95) rfl ?_
        show Steps p.tables e below (T150.setTop (mkF m 97 #[.val (.int p0), .val (.int p1), .val (.int p2), .val (.int p3), .val (.int p4), .val (.int (p0 &&& (15 : Int32))), .val (.int (3 : Int32)), .val (.ref b131), .val (.ref b142)] [(.int p4), (.int p2), (.int p1), (.int (3 : Int32)), (.int (1 : Int32)), (.ref b142)])) _
        exact kt)
    obtain ⟨_, _, ⟨T153, L153, k153, n153⟩, -, X153, ⟨Lc153, hQ153, l153, y153, z153⟩, st153⟩ := Jvm.LawKit.callS X150 hx (y := (⟨"com/example/classweave/classweave/classfile/ClassOutputU4AtPinLaw", "at", "([BIIIII)Z"⟩ : MethodName)) hown (mvT hZ (hw _ (List.mem_of_getElem? (i := 68) rfl))) (mvT hZ (hw _ (List.mem_of_getElem? (i := 69) rfl))) (mvT hZ (hw _ (List.mem_of_getElem? (i := 70) rfl))) (mvT hZ (hw _ (List.mem_of_getElem? (i := 71) rfl))) (by decide) (backOf (W := 0) (rm12 l Z a0 hw [] b142 (1 : Int32) (3 : Int32) p1 p2 p4 (nar .byte (((p1.toUInt32 >>> ((16 : Int32) &&& 31).toUInt32).toInt32).toInt8.toInt32)) [(.int (nar .byte (((((p1.toUInt32 >>> ((16 : Int32) &&& 31).toUInt32).toInt32).toUInt32 >>> ((8 : Int32) &&& 31).toUInt32).toInt32).toInt8.toInt32))), (.int (nar .byte (((p1.toUInt32 >>> ((16 : Int32) &&& 31).toUInt32).toInt32).toInt8.toInt32))), (.int (nar .byte (((p1.toUInt32 >>> ((8 : Int32) &&& 31).toUInt32).toInt32).toInt8.toInt32))), (.int (nar .byte (((p4.toUInt32 >>> ((24 : Int32) &&& 31).toUInt32).toInt32).toInt8.toInt32))), (.int (nar .byte (((p4.toUInt32 >>> ((16 : Int32) &&& 31).toUInt32).toInt32).toInt8.toInt32))), (.int (nar .byte (((p4.toUInt32 >>> ((8 : Int32) &&& 31).toUInt32).toInt32).toInt8.toInt32))), (.int (nar .byte (p4.toInt8.toInt32))), (.int (nar .byte (p2.toInt8.toInt32)))] 1 T142.heap n0 V142 (by decide) (by decide) rfl) hZ (hw _ (List.mem_of_getElem? (i := 71) rfl)) (hw _ (List.mem_of_getElem? (i := 70) rfl)) (by decide) (by decide)) (g := (mkF m 97 #[.val (.int p0), .val (.int p1), .val (.int p2), .val (.int p3), .val (.int p4), .val (.int (p0 &&& (15 : Int32))), .val (.int (3 : Int32)), .val (.ref b131), .val (.ref b142)] [(.int p4), (.int p2), (.int p1), (.int (3 : Int32)), (.int (1 : Int32)), (.ref b142)])) rfl (by rw [hml]; rfl) (argsL := [(.ref b142), (.int (1 : Int32)), (.int (3 : Int32)), (.int p1), (.int p2), (.int p4)]) (rest := []) (lenOf pd_7 rfl) rfl (by show 2 * 0 + _ ≤ _; exact Nat.le_of_eq rfl) (hb hby at_97) (fun _ _ => ⟨rfl, e150, (by decide : 7 + 0 ≤ _), (by decide : 97 + 0 ≤ _)⟩)
    dsimp only [Pt.U, Pt.locs, Pt.cells, Pt.slots] at X153 l153 y153 z153 st153 hQ153
    subst l153 y153 z153
    obtain ⟨rfl, N153q, e153⟩ := hQ153
    have N153 := Fr.app N150 N153q
    have hc100_154 : ¬ ((own_at (nar .byte (((p1.toUInt32 >>> ((16 : Int32) &&& 31).toUInt32).toInt32).toInt8.toInt32)) (1 : Int32) (3 : Int32) p1 p2 p4) = (0 : Int32)) := own_at_3_1 _ _ _
    have go155 : ∀ t, Steps p.tables e below (T153.setTop (mkF m 112 #[.val (.int p0), .val (.int p1), .val (.int p2), .val (.int p3), .val (.int p4), .val (.int (p0 &&& (15 : Int32))), .val (.int (3 : Int32)), .val (.ref b131), .val (.ref b142)] [(.int p4), (.int p2), (.int p1), (.int (3 : Int32)), (.int (2 : Int32)), (.ref b142)])) t → Steps p.tables e below (s₁.setTop (entryFrame m #[(.int p0), (.int p1), (.int p2), (.int p3), (.int p4)] maxLocals)) t := fun t kt => go152 t (by
        refine st153 _ ?_
        show Steps p.tables e below (T153.setTop (mkF m 100 #[.val (.int p0), .val (.int p1), .val (.int p2), .val (.int p3), .val (.int p4), .val (.int (p0 &&& (15 : Int32))), .val (.int (3 : Int32)), .val (.ref b131), .val (.ref b142)] [(.int (own_at (nar .byte (((p1.toUInt32 >>> ((16 : Int32) &&& 31).toUInt32).toInt32).toInt8.toInt32)) (1 : Int32) (3 : Int32) p1 p2 p4))])) _
        refine XS.ifNo X153.here hx rfl (hb hby at_100) rfl ((if0 _ _).trans (feq hc100_154).1) ?_
        show Steps p.tables e below (T153.setTop (mkF m 103 #[.val (.int p0), .val (.int p1), .val (.int p2), .val (.int p3), .val (.int p4), .val (.int (p0 &&& (15 : Int32))), .val (.int (3 : Int32)), .val (.ref b131), .val (.ref b142)] [])) _
        refine XS.aload X153.here hx rfl (hb hby at_103) rfl rfl ?_
        show Steps p.tables e below (T153.setTop (mkF m 105 #[.val (.int p0), .val (.int p1), .val (.int p2), .val (.int p3), .val (.int p4), .val (.int (p0 &&& (15 : Int32))), .val (.int (3 : Int32)), .val (.ref b131), .val (.ref b142)] [(.ref b142)])) _
        refine XS.iconst X153.here hx rfl (hb hby at_105) ?_
        show Steps p.tables e below (T153.setTop (mkF m 106 #[.val (.int p0), .val (.int p1), .val (.int p2), .val (.int p3), .val (.int p4), .val (.int (p0 &&& (15 : Int32))), .val (.int (3 : Int32)), .val (.ref b131), .val (.ref b142)] [(.int (2 : Int32)), (.ref b142)])) _
        refine XS.iload X153.here hx rfl (hb hby at_106) rfl ?_
        show Steps p.tables e below (T153.setTop (mkF m 108 #[.val (.int p0), .val (.int p1), .val (.int p2), .val (.int p3), .val (.int p4), .val (.int (p0 &&& (15 : Int32))), .val (.int (3 : Int32)), .val (.ref b131), .val (.ref b142)] [(.int (3 : Int32)), (.int (2 : Int32)), (.ref b142)])) _
        refine XS.iloadN X153.here hx rfl (hb hby at_108) rfl ?_
        show Steps p.tables e below (T153.setTop (mkF m 109 #[.val (.int p0), .val (.int p1), .val (.int p2), .val (.int p3), .val (.int p4), .val (.int (p0 &&& (15 : Int32))), .val (.int (3 : Int32)), .val (.ref b131), .val (.ref b142)] [(.int p1), (.int (3 : Int32)), (.int (2 : Int32)), (.ref b142)])) _
        refine XS.iloadN X153.here hx rfl (hb hby at_109) rfl ?_
        show Steps p.tables e below (T153.setTop (mkF m 110 #[.val (.int p0), .val (.int p1), .val (.int p2), .val (.int p3), .val (.int p4), .val (.int (p0 &&& (15 : Int32))), .val (.int (3 : Int32)), .val (.ref b131), .val (.ref b142)] [(.int p2), (.int p1), (.int (3 : Int32)), (.int (2 : Int32)), (.ref b142)])) _
        refine XS.iload X153.here hx rfl (hb hby at_110) rfl ?_
        show Steps p.tables e below (T153.setTop (mkF m 112 #[.val (.int p0), .val (.int p1), .val (.int p2), .val (.int p3), .val (.int p4), .val (.int (p0 &&& (15 : Int32))), .val (.int (3 : Int32)), .val (.ref b131), .val (.ref b142)] [(.int p4), (.int p2), (.int p1), (.int (3 : Int32)), (.int (2 : Int32)), (.ref b142)])) _
        exact kt)
    obtain ⟨_, _, ⟨T156, L156, k156, n156⟩, -, X156, ⟨Lc156, hQ156, l156, y156, z156⟩, st156⟩ := Jvm.LawKit.callS X153 hx (y := (⟨"com/example/classweave/classweave/classfile/ClassOutputU4AtPinLaw", "at", "([BIIIII)Z"⟩ : MethodName)) hown (mvT hZ (hw _ (List.mem_of_getElem? (i := 68) rfl))) (mvT hZ (hw _ (List.mem_of_getElem? (i := 69) rfl))) (mvT hZ (hw _ (List.mem_of_getElem? (i := 70) rfl))) (mvT hZ (hw _ (List.mem_of_getElem? (i := 71) rfl))) (by decide) (backOf (W := 0) (rm12 l Z a0 hw [] b142 (2 : Int32) (3 : Int32) p1 p2 p4 (nar .byte (((p1.toUInt32 >>> ((8 : Int32) &&& 31).toUInt32).toInt32).toInt8.toInt32)) [(.int (nar .byte (((((p1.toUInt32 >>> ((16 : Int32) &&& 31).toUInt32).toInt32).toUInt32 >>> ((8 : Int32) &&& 31).toUInt32).toInt32).toInt8.toInt32))), (.int (nar .byte (((p1.toUInt32 >>> ((16 : Int32) &&& 31).toUInt32).toInt32).toInt8.toInt32))), (.int (nar .byte (((p1.toUInt32 >>> ((8 : Int32) &&& 31).toUInt32).toInt32).toInt8.toInt32))), (.int (nar .byte (((p4.toUInt32 >>> ((24 : Int32) &&& 31).toUInt32).toInt32).toInt8.toInt32))), (.int (nar .byte (((p4.toUInt32 >>> ((16 : Int32) &&& 31).toUInt32).toInt32).toInt8.toInt32))), (.int (nar .byte (((p4.toUInt32 >>> ((8 : Int32) &&& 31).toUInt32).toInt32).toInt8.toInt32))), (.int (nar .byte (p4.toInt8.toInt32))), (.int (nar .byte (p2.toInt8.toInt32)))] 2 T142.heap n0 V142 (by decide) (by decide) rfl) hZ (hw _ (List.mem_of_getElem? (i := 71) rfl)) (hw _ (List.mem_of_getElem? (i := 70) rfl)) (by decide) (by decide)) (g := (mkF m 112 #[.val (.int p0), .val (.int p1), .val (.int p2), .val (.int p3), .val (.int p4), .val (.int (p0 &&& (15 : Int32))), .val (.int (3 : Int32)), .val (.ref b131), .val (.ref b142)] [(.int p4), (.int p2), (.int p1), (.int (3 : Int32)), (.int (2 : Int32)), (.ref b142)])) rfl (by rw [hml]; rfl) (argsL := [(.ref b142), (.int (2 : Int32)), (.int (3 : Int32)), (.int p1), (.int p2), (.int p4)]) (rest := []) (lenOf pd_7 rfl) rfl (by show 2 * 0 + _ ≤ _; exact Nat.le_of_eq rfl) (hb hby at_112) (fun _ _ => ⟨rfl, e153, (by decide : 7 + 0 ≤ _), (by decide : 97 + 0 ≤ _)⟩)
    dsimp only [Pt.U, Pt.locs, Pt.cells, Pt.slots] at X156 l156 y156 z156 st156 hQ156
    subst l156 y156 z156
    obtain ⟨rfl, N156q, e156⟩ := hQ156
    have N156 := Fr.app N153 N156q
    have hc115_157 : ¬ ((own_at (nar .byte (((p1.toUInt32 >>> ((8 : Int32) &&& 31).toUInt32).toInt32).toInt8.toInt32)) (2 : Int32) (3 : Int32) p1 p2 p4) = (0 : Int32)) := own_at_3_2 _ _ _
    have go158 : ∀ t, Steps p.tables e below (T156.setTop (mkF m 127 #[.val (.int p0), .val (.int p1), .val (.int p2), .val (.int p3), .val (.int p4), .val (.int (p0 &&& (15 : Int32))), .val (.int (3 : Int32)), .val (.ref b131), .val (.ref b142)] [(.int p4), (.int p2), (.int p1), (.int (3 : Int32)), (.int (3 : Int32)), (.ref b142)])) t → Steps p.tables e below (s₁.setTop (entryFrame m #[(.int p0), (.int p1), (.int p2), (.int p3), (.int p4)] maxLocals)) t := fun t kt => go155 t (by
        refine st156 _ ?_
        show Steps p.tables e below (T156.setTop (mkF m 115 #[.val (.int p0), .val (.int p1), .val (.int p2), .val (.int p3), .val (.int p4), .val (.int (p0 &&& (15 : Int32))), .val (.int (3 : Int32)), .val (.ref b131), .val (.ref b142)] [(.int (own_at (nar .byte (((p1.toUInt32 >>> ((8 : Int32) &&& 31).toUInt32).toInt32).toInt8.toInt32)) (2 : Int32) (3 : Int32) p1 p2 p4))])) _
        refine XS.ifNo X156.here hx rfl (hb hby at_115) rfl ((if0 _ _).trans (feq hc115_157).1) ?_
        show Steps p.tables e below (T156.setTop (mkF m 118 #[.val (.int p0), .val (.int p1), .val (.int p2), .val (.int p3), .val (.int p4), .val (.int (p0 &&& (15 : Int32))), .val (.int (3 : Int32)), .val (.ref b131), .val (.ref b142)] [])) _
        refine XS.aload X156.here hx rfl (hb hby at_118) rfl rfl ?_
        show Steps p.tables e below (T156.setTop (mkF m 120 #[.val (.int p0), .val (.int p1), .val (.int p2), .val (.int p3), .val (.int p4), .val (.int (p0 &&& (15 : Int32))), .val (.int (3 : Int32)), .val (.ref b131), .val (.ref b142)] [(.ref b142)])) _
        refine XS.iconst X156.here hx rfl (hb hby at_120) ?_
        show Steps p.tables e below (T156.setTop (mkF m 121 #[.val (.int p0), .val (.int p1), .val (.int p2), .val (.int p3), .val (.int p4), .val (.int (p0 &&& (15 : Int32))), .val (.int (3 : Int32)), .val (.ref b131), .val (.ref b142)] [(.int (3 : Int32)), (.ref b142)])) _
        refine XS.iload X156.here hx rfl (hb hby at_121) rfl ?_
        show Steps p.tables e below (T156.setTop (mkF m 123 #[.val (.int p0), .val (.int p1), .val (.int p2), .val (.int p3), .val (.int p4), .val (.int (p0 &&& (15 : Int32))), .val (.int (3 : Int32)), .val (.ref b131), .val (.ref b142)] [(.int (3 : Int32)), (.int (3 : Int32)), (.ref b142)])) _
        refine XS.iloadN X156.here hx rfl (hb hby at_123) rfl ?_
        show Steps p.tables e below (T156.setTop (mkF m 124 #[.val (.int p0), .val (.int p1), .val (.int p2), .val (.int p3), .val (.int p4), .val (.int (p0 &&& (15 : Int32))), .val (.int (3 : Int32)), .val (.ref b131), .val (.ref b142)] [(.int p1), (.int (3 : Int32)), (.int (3 : Int32)), (.ref b142)])) _
        refine XS.iloadN X156.here hx rfl (hb hby at_124) rfl ?_
        show Steps p.tables e below (T156.setTop (mkF m 125 #[.val (.int p0), .val (.int p1), .val (.int p2), .val (.int p3), .val (.int p4), .val (.int (p0 &&& (15 : Int32))), .val (.int (3 : Int32)), .val (.ref b131), .val (.ref b142)] [(.int p2), (.int p1), (.int (3 : Int32)), (.int (3 : Int32)), (.ref b142)])) _
        refine XS.iload X156.here hx rfl (hb hby at_125) rfl ?_
        show Steps p.tables e below (T156.setTop (mkF m 127 #[.val (.int p0), .val (.int p1), .val (.int p2), .val (.int p3), .val (.int p4), .val (.int (p0 &&& (15 : Int32))), .val (.int (3 : Int32)), .val (.ref b131), .val (.ref b142)] [(.int p4), (.int p2), (.int p1), (.int (3 : Int32)), (.int (3 : Int32)), (.ref b142)])) _
        exact kt)
    obtain ⟨_, _, ⟨T159, L159, k159, n159⟩, -, X159, ⟨Lc159, hQ159, l159, y159, z159⟩, st159⟩ := Jvm.LawKit.callS X156 hx (y := (⟨"com/example/classweave/classweave/classfile/ClassOutputU4AtPinLaw", "at", "([BIIIII)Z"⟩ : MethodName)) hown (mvT hZ (hw _ (List.mem_of_getElem? (i := 68) rfl))) (mvT hZ (hw _ (List.mem_of_getElem? (i := 69) rfl))) (mvT hZ (hw _ (List.mem_of_getElem? (i := 70) rfl))) (mvT hZ (hw _ (List.mem_of_getElem? (i := 71) rfl))) (by decide) (backOf (W := 0) (rm12 l Z a0 hw [] b142 (3 : Int32) (3 : Int32) p1 p2 p4 (nar .byte (((p4.toUInt32 >>> ((24 : Int32) &&& 31).toUInt32).toInt32).toInt8.toInt32)) [(.int (nar .byte (((((p1.toUInt32 >>> ((16 : Int32) &&& 31).toUInt32).toInt32).toUInt32 >>> ((8 : Int32) &&& 31).toUInt32).toInt32).toInt8.toInt32))), (.int (nar .byte (((p1.toUInt32 >>> ((16 : Int32) &&& 31).toUInt32).toInt32).toInt8.toInt32))), (.int (nar .byte (((p1.toUInt32 >>> ((8 : Int32) &&& 31).toUInt32).toInt32).toInt8.toInt32))), (.int (nar .byte (((p4.toUInt32 >>> ((24 : Int32) &&& 31).toUInt32).toInt32).toInt8.toInt32))), (.int (nar .byte (((p4.toUInt32 >>> ((16 : Int32) &&& 31).toUInt32).toInt32).toInt8.toInt32))), (.int (nar .byte (((p4.toUInt32 >>> ((8 : Int32) &&& 31).toUInt32).toInt32).toInt8.toInt32))), (.int (nar .byte (p4.toInt8.toInt32))), (.int (nar .byte (p2.toInt8.toInt32)))] 3 T142.heap n0 V142 (by decide) (by decide) rfl) hZ (hw _ (List.mem_of_getElem? (i := 71) rfl)) (hw _ (List.mem_of_getElem? (i := 70) rfl)) (by decide) (by decide)) (g := (mkF m 127 #[.val (.int p0), .val (.int p1), .val (.int p2), .val (.int p3), .val (.int p4), .val (.int (p0 &&& (15 : Int32))), .val (.int (3 : Int32)), .val (.ref b131), .val (.ref b142)] [(.int p4), (.int p2), (.int p1), (.int (3 : Int32)), (.int (3 : Int32)), (.ref b142)])) rfl (by rw [hml]; rfl) (argsL := [(.ref b142), (.int (3 : Int32)), (.int (3 : Int32)), (.int p1), (.int p2), (.int p4)]) (rest := []) (lenOf pd_7 rfl) rfl (by show 2 * 0 + _ ≤ _; exact Nat.le_of_eq rfl) (hb hby at_127) (fun _ _ => ⟨rfl, e156, (by decide : 7 + 0 ≤ _), (by decide : 97 + 0 ≤ _)⟩)
    dsimp only [Pt.U, Pt.locs, Pt.cells, Pt.slots] at X159 l159 y159 z159 st159 hQ159
    subst l159 y159 z159
    obtain ⟨rfl, N159q, e159⟩ := hQ159
    have N159 := Fr.app N156 N159q
    have hc130_160 : ¬ ((own_at (nar .byte (((p4.toUInt32 >>> ((24 : Int32) &&& 31).toUInt32).toInt32).toInt8.toInt32)) (3 : Int32) (3 : Int32) p1 p2 p4) = (0 : Int32)) := own_at_3_3 _ _ _
    have go161 : ∀ t, Steps p.tables e below (T159.setTop (mkF m 142 #[.val (.int p0), .val (.int p1), .val (.int p2), .val (.int p3), .val (.int p4), .val (.int (p0 &&& (15 : Int32))), .val (.int (3 : Int32)), .val (.ref b131), .val (.ref b142)] [(.int p4), (.int p2), (.int p1), (.int (3 : Int32)), (.int (4 : Int32)), (.ref b142)])) t → Steps p.tables e below (s₁.setTop (entryFrame m #[(.int p0), (.int p1), (.int p2), (.int p3), (.int p4)] maxLocals)) t := fun t kt => go158 t (by
        refine st159 _ ?_
        show Steps p.tables e below (T159.setTop (mkF m 130 #[.val (.int p0), .val (.int p1), .val (.int p2), .val (.int p3), .val (.int p4), .val (.int (p0 &&& (15 : Int32))), .val (.int (3 : Int32)), .val (.ref b131), .val (.ref b142)] [(.int (own_at (nar .byte (((p4.toUInt32 >>> ((24 : Int32) &&& 31).toUInt32).toInt32).toInt8.toInt32)) (3 : Int32) (3 : Int32) p1 p2 p4))])) _
        refine XS.ifNo X159.here hx rfl (hb hby at_130) rfl ((if0 _ _).trans (feq hc130_160).1) ?_
        show Steps p.tables e below (T159.setTop (mkF m 133 #[.val (.int p0), .val (.int p1), .val (.int p2), .val (.int p3), .val (.int p4), .val (.int (p0 &&& (15 : Int32))), .val (.int (3 : Int32)), .val (.ref b131), .val (.ref b142)] [])) _
        refine XS.aload X159.here hx rfl (hb hby at_133) rfl rfl ?_
        show Steps p.tables e below (T159.setTop (mkF m 135 #[.val (.int p0), .val (.int p1), .val (.int p2), .val (.int p3), .val (.int p4), .val (.int (p0 &&& (15 : Int32))), .val (.int (3 : Int32)), .val (.ref b131), .val (.ref b142)] [(.ref b142)])) _
        refine XS.iconst X159.here hx rfl (hb hby at_135) ?_
        show Steps p.tables e below (T159.setTop (mkF m 136 #[.val (.int p0), .val (.int p1), .val (.int p2), .val (.int p3), .val (.int p4), .val (.int (p0 &&& (15 : Int32))), .val (.int (3 : Int32)), .val (.ref b131), .val (.ref b142)] [(.int (4 : Int32)), (.ref b142)])) _
        refine XS.iload X159.here hx rfl (hb hby at_136) rfl ?_
        show Steps p.tables e below (T159.setTop (mkF m 138 #[.val (.int p0), .val (.int p1), .val (.int p2), .val (.int p3), .val (.int p4), .val (.int (p0 &&& (15 : Int32))), .val (.int (3 : Int32)), .val (.ref b131), .val (.ref b142)] [(.int (3 : Int32)), (.int (4 : Int32)), (.ref b142)])) _
        refine XS.iloadN X159.here hx rfl (hb hby at_138) rfl ?_
        show Steps p.tables e below (T159.setTop (mkF m 139 #[.val (.int p0), .val (.int p1), .val (.int p2), .val (.int p3), .val (.int p4), .val (.int (p0 &&& (15 : Int32))), .val (.int (3 : Int32)), .val (.ref b131), .val (.ref b142)] [(.int p1), (.int (3 : Int32)), (.int (4 : Int32)), (.ref b142)])) _
        refine XS.iloadN X159.here hx rfl (hb hby at_139) rfl ?_
        show Steps p.tables e below (T159.setTop (mkF m 140 #[.val (.int p0), .val (.int p1), .val (.int p2), .val (.int p3), .val (.int p4), .val (.int (p0 &&& (15 : Int32))), .val (.int (3 : Int32)), .val (.ref b131), .val (.ref b142)] [(.int p2), (.int p1), (.int (3 : Int32)), (.int (4 : Int32)), (.ref b142)])) _
        refine XS.iload X159.here hx rfl (hb hby at_140) rfl ?_
        show Steps p.tables e below (T159.setTop (mkF m 142 #[.val (.int p0), .val (.int p1), .val (.int p2), .val (.int p3), .val (.int p4), .val (.int (p0 &&& (15 : Int32))), .val (.int (3 : Int32)), .val (.ref b131), .val (.ref b142)] [(.int p4), (.int p2), (.int p1), (.int (3 : Int32)), (.int (4 : Int32)), (.ref b142)])) _
        exact kt)
    obtain ⟨_, _, ⟨T162, L162, k162, n162⟩, -, X162, ⟨Lc162, hQ162, l162, y162, z162⟩, st162⟩ := Jvm.LawKit.callS X159 hx (y := (⟨"com/example/classweave/classweave/classfile/ClassOutputU4AtPinLaw", "at", "([BIIIII)Z"⟩ : MethodName)) hown (mvT hZ (hw _ (List.mem_of_getElem? (i := 68) rfl))) (mvT hZ (hw _ (List.mem_of_getElem? (i := 69) rfl))) (mvT hZ (hw _ (List.mem_of_getElem? (i := 70) rfl))) (mvT hZ (hw _ (List.mem_of_getElem? (i := 71) rfl))) (by decide) (backOf (W := 0) (rm12 l Z a0 hw [] b142 (4 : Int32) (3 : Int32) p1 p2 p4 (nar .byte (((p4.toUInt32 >>> ((16 : Int32) &&& 31).toUInt32).toInt32).toInt8.toInt32)) [(.int (nar .byte (((((p1.toUInt32 >>> ((16 : Int32) &&& 31).toUInt32).toInt32).toUInt32 >>> ((8 : Int32) &&& 31).toUInt32).toInt32).toInt8.toInt32))), (.int (nar .byte (((p1.toUInt32 >>> ((16 : Int32) &&& 31).toUInt32).toInt32).toInt8.toInt32))), (.int (nar .byte (((p1.toUInt32 >>> ((8 : Int32) &&& 31).toUInt32).toInt32).toInt8.toInt32))), (.int (nar .byte (((p4.toUInt32 >>> ((24 : Int32) &&& 31).toUInt32).toInt32).toInt8.toInt32))), (.int (nar .byte (((p4.toUInt32 >>> ((16 : Int32) &&& 31).toUInt32).toInt32).toInt8.toInt32))), (.int (nar .byte (((p4.toUInt32 >>> ((8 : Int32) &&& 31).toUInt32).toInt32).toInt8.toInt32))), (.int (nar .byte (p4.toInt8.toInt32))), (.int (nar .byte (p2.toInt8.toInt32)))] 4 T142.heap n0 V142 (by decide) (by decide) rfl) hZ (hw _ (List.mem_of_getElem? (i := 71) rfl)) (hw _ (List.mem_of_getElem? (i := 70) rfl)) (by decide) (by decide)) (g := (mkF m 142 #[.val (.int p0), .val (.int p1), .val (.int p2), .val (.int p3), .val (.int p4), .val (.int (p0 &&& (15 : Int32))), .val (.int (3 : Int32)), .val (.ref b131), .val (.ref b142)] [(.int p4), (.int p2), (.int p1), (.int (3 : Int32)), (.int (4 : Int32)), (.ref b142)])) rfl (by rw [hml]; rfl) (argsL := [(.ref b142), (.int (4 : Int32)), (.int (3 : Int32)), (.int p1), (.int p2), (.int p4)]) (rest := []) (lenOf pd_7 rfl) rfl (by show 2 * 0 + _ ≤ _; exact Nat.le_of_eq rfl) (hb hby at_142) (fun _ _ => ⟨rfl, e159, (by decide : 7 + 0 ≤ _), (by decide : 97 + 0 ≤ _)⟩)
    dsimp only [Pt.U, Pt.locs, Pt.cells, Pt.slots] at X162 l162 y162 z162 st162 hQ162
    subst l162 y162 z162
    obtain ⟨rfl, N162q, e162⟩ := hQ162
    have N162 := Fr.app N159 N162q
    have hc145_163 : ¬ ((own_at (nar .byte (((p4.toUInt32 >>> ((16 : Int32) &&& 31).toUInt32).toInt32).toInt8.toInt32)) (4 : Int32) (3 : Int32) p1 p2 p4) = (0 : Int32)) := own_at_3_4 _ _ _
    have go164 : ∀ t, Steps p.tables e below (T162.setTop (mkF m 157 #[.val (.int p0), .val (.int p1), .val (.int p2), .val (.int p3), .val (.int p4), .val (.int (p0 &&& (15 : Int32))), .val (.int (3 : Int32)), .val (.ref b131), .val (.ref b142)] [(.int p4), (.int p2), (.int p1), (.int (3 : Int32)), (.int (5 : Int32)), (.ref b142)])) t → Steps p.tables e below (s₁.setTop (entryFrame m #[(.int p0), (.int p1), (.int p2), (.int p3), (.int p4)] maxLocals)) t := fun t kt => go161 t (by
        refine st162 _ ?_
        show Steps p.tables e below (T162.setTop (mkF m 145 #[.val (.int p0), .val (.int p1), .val (.int p2), .val (.int p3), .val (.int p4), .val (.int (p0 &&& (15 : Int32))), .val (.int (3 : Int32)), .val (.ref b131), .val (.ref b142)] [(.int (own_at (nar .byte (((p4.toUInt32 >>> ((16 : Int32) &&& 31).toUInt32).toInt32).toInt8.toInt32)) (4 : Int32) (3 : Int32) p1 p2 p4))])) _
        refine XS.ifNo X162.here hx rfl (hb hby at_145) rfl ((if0 _ _).trans (feq hc145_163).1) ?_
        show Steps p.tables e below (T162.setTop (mkF m 148 #[.val (.int p0), .val (.int p1), .val (.int p2), .val (.int p3), .val (.int p4), .val (.int (p0 &&& (15 : Int32))), .val (.int (3 : Int32)), .val (.ref b131), .val (.ref b142)] [])) _
        refine XS.aload X162.here hx rfl (hb hby at_148) rfl rfl ?_
        show Steps p.tables e below (T162.setTop (mkF m 150 #[.val (.int p0), .val (.int p1), .val (.int p2), .val (.int p3), .val (.int p4), .val (.int (p0 &&& (15 : Int32))), .val (.int (3 : Int32)), .val (.ref b131), .val (.ref b142)] [(.ref b142)])) _
        refine XS.iconst X162.here hx rfl (hb hby at_150) ?_
        show Steps p.tables e below (T162.setTop (mkF m 151 #[.val (.int p0), .val (.int p1), .val (.int p2), .val (.int p3), .val (.int p4), .val (.int (p0 &&& (15 : Int32))), .val (.int (3 : Int32)), .val (.ref b131), .val (.ref b142)] [(.int (5 : Int32)), (.ref b142)])) _
        refine XS.iload X162.here hx rfl (hb hby at_151) rfl ?_
        show Steps p.tables e below (T162.setTop (mkF m 153 #[.val (.int p0), .val (.int p1), .val (.int p2), .val (.int p3), .val (.int p4), .val (.int (p0 &&& (15 : Int32))), .val (.int (3 : Int32)), .val (.ref b131), .val (.ref b142)] [(.int (3 : Int32)), (.int (5 : Int32)), (.ref b142)])) _
        refine XS.iloadN X162.here hx rfl (hb hby at_153) rfl ?_
        show Steps p.tables e below (T162.setTop (mkF m 154 #[.val (.int p0), .val (.int p1), .val (.int p2), .val (.int p3), .val (.int p4), .val (.int (p0 &&& (15 : Int32))), .val (.int (3 : Int32)), .val (.ref b131), .val (.ref b142)] [(.int p1), (.int (3 : Int32)), (.int (5 : Int32)), (.ref b142)])) _
        refine XS.iloadN X162.here hx rfl (hb hby at_154) rfl ?_
        show Steps p.tables e below (T162.setTop (mkF m 155 #[.val (.int p0), .val (.int p1), .val (.int p2), .val (.int p3), .val (.int p4), .val (.int (p0 &&& (15 : Int32))), .val (.int (3 : Int32)), .val (.ref b131), .val (.ref b142)] [(.int p2), (.int p1), (.int (3 : Int32)), (.int (5 : Int32)), (.ref b142)])) _
        refine XS.iload X162.here hx rfl (hb hby at_155) rfl ?_
        show Steps p.tables e below (T162.setTop (mkF m 157 #[.val (.int p0), .val (.int p1), .val (.int p2), .val (.int p3), .val (.int p4), .val (.int (p0 &&& (15 : Int32))), .val (.int (3 : Int32)), .val (.ref b131), .val (.ref b142)] [(.int p4), (.int p2), (.int p1), (.int (3 : Int32)), (.int (5 : Int32)), (.ref b142)])) _
        exact kt)
    obtain ⟨_, _, ⟨T165, L165, k165, n165⟩, -, X165, ⟨Lc165, hQ165, l165, y165, z165⟩, st165⟩ := Jvm.LawKit.callS X162 hx (y := (⟨"com/example/classweave/classweave/classfile/ClassOutputU4AtPinLaw", "at", "([BIIIII)Z"⟩ : MethodName)) hown (mvT hZ (hw _ (List.mem_of_getElem? (i := 68) rfl))) (mvT hZ (hw _ (List.mem_of_getElem? (i := 69) rfl))) (mvT hZ (hw _ (List.mem_of_getElem? (i := 70) rfl))) (mvT hZ (hw _ (List.mem_of_getElem? (i := 71) rfl))) (by decide) (backOf (W := 0) (rm12 l Z a0 hw [] b142 (5 : Int32) (3 : Int32) p1 p2 p4 (nar .byte (((p4.toUInt32 >>> ((8 : Int32) &&& 31).toUInt32).toInt32).toInt8.toInt32)) [(.int (nar .byte (((((p1.toUInt32 >>> ((16 : Int32) &&& 31).toUInt32).toInt32).toUInt32 >>> ((8 : Int32) &&& 31).toUInt32).toInt32).toInt8.toInt32))), (.int (nar .byte (((p1.toUInt32 >>> ((16 : Int32) &&& 31).toUInt32).toInt32).toInt8.toInt32))), (.int (nar .byte (((p1.toUInt32 >>> ((8 : Int32) &&& 31).toUInt32).toInt32).toInt8.toInt32))), (.int (nar .byte (((p4.toUInt32 >>> ((24 : Int32) &&& 31).toUInt32).toInt32).toInt8.toInt32))), (.int (nar .byte (((p4.toUInt32 >>> ((16 : Int32) &&& 31).toUInt32).toInt32).toInt8.toInt32))), (.int (nar .byte (((p4.toUInt32 >>> ((8 : Int32) &&& 31).toUInt32).toInt32).toInt8.toInt32))), (.int (nar .byte (p4.toInt8.toInt32))), (.int (nar .byte (p2.toInt8.toInt32)))] 5 T142.heap n0 V142 (by decide) (by decide) rfl) hZ (hw _ (List.mem_of_getElem? (i := 71) rfl)) (hw _ (List.mem_of_getElem? (i := 70) rfl)) (by decide) (by decide)) (g := (mkF m 157 #[.val (.int p0), .val (.int p1), .val (.int p2), .val (.int p3), .val (.int p4), .val (.int (p0 &&& (15 : Int32))), .val (.int (3 : Int32)), .val (.ref b131), .val (.ref b142)] [(.int p4), (.int p2), (.int p1), (.int (3 : Int32)), (.int (5 : Int32)), (.ref b142)])) rfl (by rw [hml]; rfl) (argsL := [(.ref b142), (.int (5 : Int32)), (.int (3 : Int32)), (.int p1), (.int p2), (.int p4)]) (rest := []) (lenOf pd_7 rfl) rfl (by show 2 * 0 + _ ≤ _; exact Nat.le_of_eq rfl) (hb hby at_157) (fun _ _ => ⟨rfl, e162, (by decide : 7 + 0 ≤ _), (by decide : 97 + 0 ≤ _)⟩)
    dsimp only [Pt.U, Pt.locs, Pt.cells, Pt.slots] at X165 l165 y165 z165 st165 hQ165
    subst l165 y165 z165
    obtain ⟨rfl, N165q, e165⟩ := hQ165
    have N165 := Fr.app N162 N165q
    have hc160_166 : ¬ ((own_at (nar .byte (((p4.toUInt32 >>> ((8 : Int32) &&& 31).toUInt32).toInt32).toInt8.toInt32)) (5 : Int32) (3 : Int32) p1 p2 p4) = (0 : Int32)) := own_at_3_5 _ _ _
    have go167 : ∀ t, Steps p.tables e below (T165.setTop (mkF m 173 #[.val (.int p0), .val (.int p1), .val (.int p2), .val (.int p3), .val (.int p4), .val (.int (p0 &&& (15 : Int32))), .val (.int (3 : Int32)), .val (.ref b131), .val (.ref b142)] [(.int p4), (.int p2), (.int p1), (.int (3 : Int32)), (.int (6 : Int32)), (.ref b142)])) t → Steps p.tables e below (s₁.setTop (entryFrame m #[(.int p0), (.int p1), (.int p2), (.int p3), (.int p4)] maxLocals)) t := fun t kt => go164 t (by
        refine st165 _ ?_
        show Steps p.tables e below (T165.setTop (mkF m 160 #[.val (.int p0), .val (.int p1), .val (.int p2), .val (.int p3), .val (.int p4), .val (.int (p0 &&& (15 : Int32))), .val (.int (3 : Int32)), .val (.ref b131), .val (.ref b142)] [(.int (own_at (nar .byte (((p4.toUInt32 >>> ((8 : Int32) &&& 31).toUInt32).toInt32).toInt8.toInt32)) (5 : Int32) (3 : Int32) p1 p2 p4))])) _
        refine XS.ifNo X165.here hx rfl (hb hby at_160) rfl ((if0 _ _).trans (feq hc160_166).1) ?_
        show Steps p.tables e below (T165.setTop (mkF m 163 #[.val (.int p0), .val (.int p1), .val (.int p2), .val (.int p3), .val (.int p4), .val (.int (p0 &&& (15 : Int32))), .val (.int (3 : Int32)), .val (.ref b131), .val (.ref b142)] [])) _
        refine XS.aload X165.here hx rfl (hb hby at_163) rfl rfl ?_
        show Steps p.tables e below (T165.setTop (mkF m 165 #[.val (.int p0), .val (.int p1), .val (.int p2), .val (.int p3), .val (.int p4), .val (.int (p0 &&& (15 : Int32))), .val (.int (3 : Int32)), .val (.ref b131), .val (.ref b142)] [(.ref b142)])) _
        refine XS.bipush X165.here hx rfl (hb hby at_165) ?_
        show Steps p.tables e below (T165.setTop (mkF m 167 #[.val (.int p0), .val (.int p1), .val (.int p2), .val (.int p3), .val (.int p4), .val (.int (p0 &&& (15 : Int32))), .val (.int (3 : Int32)), .val (.ref b131), .val (.ref b142)] [(.int (6 : Int32)), (.ref b142)])) _
        refine XS.iload X165.here hx rfl (hb hby at_167) rfl ?_
        show Steps p.tables e below (T165.setTop (mkF m 169 #[.val (.int p0), .val (.int p1), .val (.int p2), .val (.int p3), .val (.int p4), .val (.int (p0 &&& (15 : Int32))), .val (.int (3 : Int32)), .val (.ref b131), .val (.ref b142)] [(.int (3 : Int32)), (.int (6 : Int32)), (.ref b142)])) _
        refine XS.iloadN X165.here hx rfl (hb hby at_169) rfl ?_
        show Steps p.tables e below (T165.setTop (mkF m 170 #[.val (.int p0), .val (.int p1), .val (.int p2), .val (.int p3), .val (.int p4), .val (.int (p0 &&& (15 : Int32))), .val (.int (3 : Int32)), .val (.ref b131), .val (.ref b142)] [(.int p1), (.int (3 : Int32)), (.int (6 : Int32)), (.ref b142)])) _
        refine XS.iloadN X165.here hx rfl (hb hby at_170) rfl ?_
        show Steps p.tables e below (T165.setTop (mkF m 171 #[.val (.int p0), .val (.int p1), .val (.int p2), .val (.int p3), .val (.int p4), .val (.int (p0 &&& (15 : Int32))), .val (.int (3 : Int32)), .val (.ref b131), .val (.ref b142)] [(.int p2), (.int p1), (.int (3 : Int32)), (.int (6 : Int32)), (.ref b142)])) _
        refine XS.iload X165.here hx rfl (hb hby at_171) rfl ?_
        show Steps p.tables e below (T165.setTop (mkF m 173 #[.val (.int p0), .val (.int p1), .val (.int p2), .val (.int p3), .val (.int p4), .val (.int (p0 &&& (15 : Int32))), .val (.int (3 : Int32)), .val (.ref b131), .val (.ref b142)] [(.int p4), (.int p2), (.int p1), (.int (3 : Int32)), (.int (6 : Int32)), (.ref b142)])) _
        exact kt)
    obtain ⟨_, _, ⟨T168, L168, k168, n168⟩, -, X168, ⟨Lc168, hQ168, l168, y168, z168⟩, st168⟩ := Jvm.LawKit.callS X165 hx (y := (⟨"com/example/classweave/classweave/classfile/ClassOutputU4AtPinLaw", "at", "([BIIIII)Z"⟩ : MethodName)) hown (mvT hZ (hw _ (List.mem_of_getElem? (i := 68) rfl))) (mvT hZ (hw _ (List.mem_of_getElem? (i := 69) rfl))) (mvT hZ (hw _ (List.mem_of_getElem? (i := 70) rfl))) (mvT hZ (hw _ (List.mem_of_getElem? (i := 71) rfl))) (by decide) (backOf (W := 0) (rm12 l Z a0 hw [] b142 (6 : Int32) (3 : Int32) p1 p2 p4 (nar .byte (p4.toInt8.toInt32)) [(.int (nar .byte (((((p1.toUInt32 >>> ((16 : Int32) &&& 31).toUInt32).toInt32).toUInt32 >>> ((8 : Int32) &&& 31).toUInt32).toInt32).toInt8.toInt32))), (.int (nar .byte (((p1.toUInt32 >>> ((16 : Int32) &&& 31).toUInt32).toInt32).toInt8.toInt32))), (.int (nar .byte (((p1.toUInt32 >>> ((8 : Int32) &&& 31).toUInt32).toInt32).toInt8.toInt32))), (.int (nar .byte (((p4.toUInt32 >>> ((24 : Int32) &&& 31).toUInt32).toInt32).toInt8.toInt32))), (.int (nar .byte (((p4.toUInt32 >>> ((16 : Int32) &&& 31).toUInt32).toInt32).toInt8.toInt32))), (.int (nar .byte (((p4.toUInt32 >>> ((8 : Int32) &&& 31).toUInt32).toInt32).toInt8.toInt32))), (.int (nar .byte (p4.toInt8.toInt32))), (.int (nar .byte (p2.toInt8.toInt32)))] 6 T142.heap n0 V142 (by decide) (by decide) rfl) hZ (hw _ (List.mem_of_getElem? (i := 71) rfl)) (hw _ (List.mem_of_getElem? (i := 70) rfl)) (by decide) (by decide)) (g := (mkF m 173 #[.val (.int p0), .val (.int p1), .val (.int p2), .val (.int p3), .val (.int p4), .val (.int (p0 &&& (15 : Int32))), .val (.int (3 : Int32)), .val (.ref b131), .val (.ref b142)] [(.int p4), (.int p2), (.int p1), (.int (3 : Int32)), (.int (6 : Int32)), (.ref b142)])) rfl (by rw [hml]; rfl) (argsL := [(.ref b142), (.int (6 : Int32)), (.int (3 : Int32)), (.int p1), (.int p2), (.int p4)]) (rest := []) (lenOf pd_7 rfl) rfl (by show 2 * 0 + _ ≤ _; exact Nat.le_of_eq rfl) (hb hby at_173) (fun _ _ => ⟨rfl, e165, (by decide : 7 + 0 ≤ _), (by decide : 97 + 0 ≤ _)⟩)
    dsimp only [Pt.U, Pt.locs, Pt.cells, Pt.slots] at X168 l168 y168 z168 st168 hQ168
    subst l168 y168 z168
    obtain ⟨rfl, N168q, e168⟩ := hQ168
    have N168 := Fr.app N165 N168q
    have hc176_169 : ¬ ((own_at (nar .byte (p4.toInt8.toInt32)) (6 : Int32) (3 : Int32) p1 p2 p4) = (0 : Int32)) := own_at_3_6 _ _ _
    have go170 : ∀ t, Steps p.tables e below (T168.setTop (mkF m 189 #[.val (.int p0), .val (.int p1), .val (.int p2), .val (.int p3), .val (.int p4), .val (.int (p0 &&& (15 : Int32))), .val (.int (3 : Int32)), .val (.ref b131), .val (.ref b142)] [(.int p4), (.int p2), (.int p1), (.int (3 : Int32)), (.int (7 : Int32)), (.ref b142)])) t → Steps p.tables e below (s₁.setTop (entryFrame m #[(.int p0), (.int p1), (.int p2), (.int p3), (.int p4)] maxLocals)) t := fun t kt => go167 t (by
        refine st168 _ ?_
        show Steps p.tables e below (T168.setTop (mkF m 176 #[.val (.int p0), .val (.int p1), .val (.int p2), .val (.int p3), .val (.int p4), .val (.int (p0 &&& (15 : Int32))), .val (.int (3 : Int32)), .val (.ref b131), .val (.ref b142)] [(.int (own_at (nar .byte (p4.toInt8.toInt32)) (6 : Int32) (3 : Int32) p1 p2 p4))])) _
        refine XS.ifNo X168.here hx rfl (hb hby at_176) rfl ((if0 _ _).trans (feq hc176_169).1) ?_
        show Steps p.tables e below (T168.setTop (mkF m 179 #[.val (.int p0), .val (.int p1), .val (.int p2), .val (.int p3), .val (.int p4), .val (.int (p0 &&& (15 : Int32))), .val (.int (3 : Int32)), .val (.ref b131), .val (.ref b142)] [])) _
        refine XS.aload X168.here hx rfl (hb hby at_179) rfl rfl ?_
        show Steps p.tables e below (T168.setTop (mkF m 181 #[.val (.int p0), .val (.int p1), .val (.int p2), .val (.int p3), .val (.int p4), .val (.int (p0 &&& (15 : Int32))), .val (.int (3 : Int32)), .val (.ref b131), .val (.ref b142)] [(.ref b142)])) _
        refine XS.bipush X168.here hx rfl (hb hby at_181) ?_
        show Steps p.tables e below (T168.setTop (mkF m 183 #[.val (.int p0), .val (.int p1), .val (.int p2), .val (.int p3), .val (.int p4), .val (.int (p0 &&& (15 : Int32))), .val (.int (3 : Int32)), .val (.ref b131), .val (.ref b142)] [(.int (7 : Int32)), (.ref b142)])) _
        refine XS.iload X168.here hx rfl (hb hby at_183) rfl ?_
        show Steps p.tables e below (T168.setTop (mkF m 185 #[.val (.int p0), .val (.int p1), .val (.int p2), .val (.int p3), .val (.int p4), .val (.int (p0 &&& (15 : Int32))), .val (.int (3 : Int32)), .val (.ref b131), .val (.ref b142)] [(.int (3 : Int32)), (.int (7 : Int32)), (.ref b142)])) _
        refine XS.iloadN X168.here hx rfl (hb hby at_185) rfl ?_
        show Steps p.tables e below (T168.setTop (mkF m 186 #[.val (.int p0), .val (.int p1), .val (.int p2), .val (.int p3), .val (.int p4), .val (.int (p0 &&& (15 : Int32))), .val (.int (3 : Int32)), .val (.ref b131), .val (.ref b142)] [(.int p1), (.int (3 : Int32)), (.int (7 : Int32)), (.ref b142)])) _
        refine XS.iloadN X168.here hx rfl (hb hby at_186) rfl ?_
        show Steps p.tables e below (T168.setTop (mkF m 187 #[.val (.int p0), .val (.int p1), .val (.int p2), .val (.int p3), .val (.int p4), .val (.int (p0 &&& (15 : Int32))), .val (.int (3 : Int32)), .val (.ref b131), .val (.ref b142)] [(.int p2), (.int p1), (.int (3 : Int32)), (.int (7 : Int32)), (.ref b142)])) _
        refine XS.iload X168.here hx rfl (hb hby at_187) rfl ?_
        show Steps p.tables e below (T168.setTop (mkF m 189 #[.val (.int p0), .val (.int p1), .val (.int p2), .val (.int p3), .val (.int p4), .val (.int (p0 &&& (15 : Int32))), .val (.int (3 : Int32)), .val (.ref b131), .val (.ref b142)] [(.int p4), (.int p2), (.int p1), (.int (3 : Int32)), (.int (7 : Int32)), (.ref b142)])) _
        exact kt)
    obtain ⟨_, _, ⟨T171, L171, k171, n171⟩, -, X171, ⟨Lc171, hQ171, l171, y171, z171⟩, st171⟩ := Jvm.LawKit.callS X168 hx (y := (⟨"com/example/classweave/classweave/classfile/ClassOutputU4AtPinLaw", "at", "([BIIIII)Z"⟩ : MethodName)) hown (mvT hZ (hw _ (List.mem_of_getElem? (i := 68) rfl))) (mvT hZ (hw _ (List.mem_of_getElem? (i := 69) rfl))) (mvT hZ (hw _ (List.mem_of_getElem? (i := 70) rfl))) (mvT hZ (hw _ (List.mem_of_getElem? (i := 71) rfl))) (by decide) (backOf (W := 0) (rm12 l Z a0 hw [] b142 (7 : Int32) (3 : Int32) p1 p2 p4 (nar .byte (p2.toInt8.toInt32)) [(.int (nar .byte (((((p1.toUInt32 >>> ((16 : Int32) &&& 31).toUInt32).toInt32).toUInt32 >>> ((8 : Int32) &&& 31).toUInt32).toInt32).toInt8.toInt32))), (.int (nar .byte (((p1.toUInt32 >>> ((16 : Int32) &&& 31).toUInt32).toInt32).toInt8.toInt32))), (.int (nar .byte (((p1.toUInt32 >>> ((8 : Int32) &&& 31).toUInt32).toInt32).toInt8.toInt32))), (.int (nar .byte (((p4.toUInt32 >>> ((24 : Int32) &&& 31).toUInt32).toInt32).toInt8.toInt32))), (.int (nar .byte (((p4.toUInt32 >>> ((16 : Int32) &&& 31).toUInt32).toInt32).toInt8.toInt32))), (.int (nar .byte (((p4.toUInt32 >>> ((8 : Int32) &&& 31).toUInt32).toInt32).toInt8.toInt32))), (.int (nar .byte (p4.toInt8.toInt32))), (.int (nar .byte (p2.toInt8.toInt32)))] 7 T142.heap n0 V142 (by decide) (by decide) rfl) hZ (hw _ (List.mem_of_getElem? (i := 71) rfl)) (hw _ (List.mem_of_getElem? (i := 70) rfl)) (by decide) (by decide)) (g := (mkF m 189 #[.val (.int p0), .val (.int p1), .val (.int p2), .val (.int p3), .val (.int p4), .val (.int (p0 &&& (15 : Int32))), .val (.int (3 : Int32)), .val (.ref b131), .val (.ref b142)] [(.int p4), (.int p2), (.int p1), (.int (3 : Int32)), (.int (7 : Int32)), (.ref b142)])) rfl (by rw [hml]; rfl) (argsL := [(.ref b142), (.int (7 : Int32)), (.int (3 : Int32)), (.int p1), (.int p2), (.int p4)]) (rest := []) (lenOf pd_7 rfl) rfl (by show 2 * 0 + _ ≤ _; exact Nat.le_of_eq rfl) (hb hby at_189) (fun _ _ => ⟨rfl, e168, (by decide : 7 + 0 ≤ _), (by decide : 97 + 0 ≤ _)⟩)
    dsimp only [Pt.U, Pt.locs, Pt.cells, Pt.slots] at X171 l171 y171 z171 st171 hQ171
    subst l171 y171 z171
    obtain ⟨rfl, N171q, e171⟩ := hQ171
    have N171 := Fr.app N168 N171q
    have hc192_172 : ¬ ((own_at (nar .byte (p2.toInt8.toInt32)) (7 : Int32) (3 : Int32) p1 p2 p4) = (0 : Int32)) := own_at_3_7 _ _ _
    have go173 : ∀ t, Steps p.tables e below (T171.setTop (mkF m 200 #[.val (.int p0), .val (.int p1), .val (.int p2), .val (.int p3), .val (.int p4), .val (.int (p0 &&& (15 : Int32))), .val (.int (3 : Int32)), .val (.ref b131), .val (.ref b142)] [(.int (1 : Int32))])) t → Steps p.tables e below (s₁.setTop (entryFrame m #[(.int p0), (.int p1), (.int p2), (.int p3), (.int p4)] maxLocals)) t := fun t kt => go170 t (by
        refine st171 _ ?_
        show Steps p.tables e below (T171.setTop (mkF m 192 #[.val (.int p0), .val (.int p1), .val (.int p2), .val (.int p3), .val (.int p4), .val (.int (p0 &&& (15 : Int32))), .val (.int (3 : Int32)), .val (.ref b131), .val (.ref b142)] [(.int (own_at (nar .byte (p2.toInt8.toInt32)) (7 : Int32) (3 : Int32) p1 p2 p4))])) _
        refine XS.ifNo X171.here hx rfl (hb hby at_192) rfl ((if0 _ _).trans (feq hc192_172).1) ?_
        show Steps p.tables e below (T171.setTop (mkF m 195 #[.val (.int p0), .val (.int p1), .val (.int p2), .val (.int p3), .val (.int p4), .val (.int (p0 &&& (15 : Int32))), .val (.int (3 : Int32)), .val (.ref b131), .val (.ref b142)] [])) _
        refine XS.iconst X171.here hx rfl (hb hby at_195) ?_
        show Steps p.tables e below (T171.setTop (mkF m 196 #[.val (.int p0), .val (.int p1), .val (.int p2), .val (.int p3), .val (.int p4), .val (.int (p0 &&& (15 : Int32))), .val (.int (3 : Int32)), .val (.ref b131), .val (.ref b142)] [(.int (1 : Int32))])) _
        refine XS.goto X171.here hx rfl (pc0 := 196) (pc' := 200) rfl (hb hby at_196) (by decide) (by decide) ?_
        show Steps p.tables e below (T171.setTop (mkF m 200 #[.val (.int p0), .val (.int p1), .val (.int p2), .val (.int p3), .val (.int p4), .val (.int (p0 &&& (15 : Int32))), .val (.int (3 : Int32)), .val (.ref b131), .val (.ref b142)] [(.int (1 : Int32))])) _
        exact kt)
    obtain ⟨fs, hr, hrun, hended, hW, hsame⟩ := X171.leave (v := some (.int (1 : Int32))) (fun h => by rw [Bd.returns] at h; cases h)
    refine ⟨_, _, go173 _ (retN X171 hx (t := .boolean) Bd.returns (by simp) (hb hby at_200) hr), hrun, hended, _, _, rfl, ?_, ⟨_, rfl⟩, hW, hsame.mono (by decide) (by decide)⟩
    exact ⟨rfl, N171⟩
  · rw [h5] at go1
    obtain ⟨T174, h174, X174, e174, E174, A174, D174, -, st174⟩ := newO X0 hx hZ hown (hw _ (List.mem_of_getElem? (i := 1) rfl)) (hw _ (List.mem_of_getElem? (i := 2) rfl)) (hw _ (List.mem_of_getElem? (i := 3) rfl)) e0 (g := (mkF m 14 #[.val (.int p0), .val (.int p1), .val (.int p2), .val (.int p3), .val (.int p4), .val (.int (p0 &&& (15 : Int32))), .val (.int (4 : Int32)), .unset, .unset] [])) rfl (hb hby at_14) (by decide) (by decide)
    obtain ⟨b174, g174⟩ : ∃ z, z = h0.size := ⟨_, rfl⟩
    rw [← g174] at A174 D174 st174
    have ks174 : h0.size ≤ h0.size := Nat.le_refl _
    have sz174 : h0.size ≤ b174 := Nat.le_trans ks174 (Nat.le_of_eq g174.symm)
    have gb174 : n0 ≤ b174 := Nat.le_trans Z0 (Nat.le_of_eq g174.symm)
    have F174_bytes : Fld Z h174 b174 "com/example/classweave/classweave/classfile/ClassOutput" "bytes" "[B" .null := D174 (Or.inl (hw _ (List.mem_of_getElem? (i := 12) rfl))) (ty := (.array .byte)) (by decide)
    have F174_size : Fld Z h174 b174 "com/example/classweave/classweave/classfile/ClassOutput" "size" "I" (.int (0 : Int32)) := D174 (Or.inl (hw _ (List.mem_of_getElem? (i := 28) rfl))) (ty := .int) (by decide)
    have go175 : ∀ t, Steps p.tables e below (T174.setTop (mkF m 20 #[.val (.int p0), .val (.int p1), .val (.int p2), .val (.int p3), .val (.int p4), .val (.int (p0 &&& (15 : Int32))), .val (.int (4 : Int32)), .unset, .unset] [(.int (p0 &&& (15 : Int32))), (.ref b174), (.ref b174)])) t → Steps p.tables e below (s₁.setTop (entryFrame m #[(.int p0), (.int p1), (.int p2), (.int p3), (.int p4)] maxLocals)) t := fun t kt => go1 t (by
        refine st174 _ ?_
        show Steps p.tables e below (T174.setTop (mkF m 17 #[.val (.int p0), .val (.int p1), .val (.int p2), .val (.int p3), .val (.int p4), .val (.int (p0 &&& (15 : Int32))), .val (.int (4 : Int32)), .unset, .unset] [(.ref b174)])) _
        refine XS.dup X174.here hx rfl (hb hby at_17) rfl rfl ?_
        show Steps p.tables e below (T174.setTop (mkF m 18 #[.val (.int p0), .val (.int p1), .val (.int p2), .val (.int p3), .val (.int p4), .val (.int (p0 &&& (15 : Int32))), .val (.int (4 : Int32)), .unset, .unset] [(.ref b174), (.ref b174)])) _
        refine XS.iload X174.here hx rfl (hb hby at_18) rfl ?_
        show Steps p.tables e below (T174.setTop (mkF m 20 #[.val (.int p0), .val (.int p1), .val (.int p2), .val (.int p3), .val (.int p4), .val (.int (p0 &&& (15 : Int32))), .val (.int (4 : Int32)), .unset, .unset] [(.int (p0 &&& (15 : Int32))), (.ref b174), (.ref b174)])) _
        exact kt)
    have zs177 := (Nat.le_trans Z0 E174.1)
    obtain ⟨_, _, ⟨T176, L176, k176, n176⟩, -, X176, ⟨Lc176, hQ176, l176, y176, z176⟩, st176⟩ := X174.specialBack hx (y := (⟨"com/example/classweave/classweave/classfile/ClassOutput", "<init>", "(I)V"⟩ : MethodName)) rfl hown (mvT hZ (hw _ (List.mem_of_getElem? (i := 4) rfl))) (mvT hZ (hw _ (List.mem_of_getElem? (i := 5) rfl))) (mvT hZ (hw _ (List.mem_of_getElem? (i := 6) rfl))) (by decide) (backOf (W := 1) (rm1 l Z a0 hw [] b174 (p0 &&& (15 : Int32)) h174 n0 zs177 A174 F174_bytes F174_size gb174 (own_cap p0).1 (own_cap p0).2) hZ (hw _ (List.mem_of_getElem? (i := 6) rfl)) (hw _ (List.mem_of_getElem? (i := 3) rfl)) (by decide) (by decide)) (g := (mkF m 20 #[.val (.int p0), .val (.int p1), .val (.int p2), .val (.int p3), .val (.int p4), .val (.int (p0 &&& (15 : Int32))), .val (.int (4 : Int32)), .unset, .unset] [(.int (p0 &&& (15 : Int32))), (.ref b174), (.ref b174)])) rfl (by rw [hml]; rfl) (Steps.refl _) (a := b174) (argsL := [(.int (p0 &&& (15 : Int32)))]) (rest := [(.ref b174)]) (lenOf pd_0 rfl) rfl (by show 2 * 0 + _ ≤ _; exact Nat.le_of_eq rfl) (hb hby at_20) (fun _ _ => ⟨rfl, e174, (by decide : 1 + 1 ≤ _), (by decide : 2 + 15 ≤ _)⟩)
    dsimp only [Pt.U, Pt.locs, Pt.cells, Pt.slots] at X176 l176 y176 z176 st176 hQ176
    subst l176 y176 z176
    obtain ⟨rfl, N176q, OB176⟩ := hQ176
    have OC176 : own_OB Z T176.heap n0 b174 [] := OB176
    have zs176 : n0 ≤ T176.heap.size := by obtain ⟨_, _, ⟨q, _, _, _, r, _⟩, _⟩ := OC176; exact Nat.le_trans r (Nat.le_of_lt q.lt)
    have N176 := Fr.app N0 N176q
    have go178 : ∀ t, Steps p.tables e below (T176.setTop (mkF m 28 #[.val (.int p0), .val (.int p1), .val (.int p2), .val (.int p3), .val (.int p4), .val (.int (p0 &&& (15 : Int32))), .val (.int (4 : Int32)), .val (.ref b174), .unset] [(.int p1), (.ref b174)])) t → Steps p.tables e below (s₁.setTop (entryFrame m #[(.int p0), (.int p1), (.int p2), (.int p3), (.int p4)] maxLocals)) t := fun t kt => go175 t (by
        refine st176.trans ?_
        show Steps p.tables e below (T176.setTop (mkF m 23 #[.val (.int p0), .val (.int p1), .val (.int p2), .val (.int p3), .val (.int p4), .val (.int (p0 &&& (15 : Int32))), .val (.int (4 : Int32)), .unset, .unset] [(.ref b174)])) _
        refine XS.astore X176.here hx rfl (hb hby at_23) rfl rfl (l' := #[.val (.int p0), .val (.int p1), .val (.int p2), .val (.int p3), .val (.int p4), .val (.int (p0 &&& (15 : Int32))), .val (.int (4 : Int32)), .val (.ref b174), .unset]) rfl ?_
        show Steps p.tables e below (T176.setTop (mkF m 25 #[.val (.int p0), .val (.int p1), .val (.int p2), .val (.int p3), .val (.int p4), .val (.int (p0 &&& (15 : Int32))), .val (.int (4 : Int32)), .val (.ref b174), .unset] [])) _
        refine XS.aload X176.here hx rfl (hb hby at_25) rfl rfl ?_
        show Steps p.tables e below (T176.setTop (mkF m 27 #[.val (.int p0), .val (.int p1), .val (.int p2), .val (.int p3), .val (.int p4), .val (.int (p0 &&& (15 : Int32))), .val (.int (4 : Int32)), .val (.ref b174), .unset] [(.ref b174)])) _
        refine XS.iloadN X176.here hx rfl (hb hby at_27) rfl ?_
        show Steps p.tables e below (T176.setTop (mkF m 28 #[.val (.int p0), .val (.int p1), .val (.int p2), .val (.int p3), .val (.int p4), .val (.int (p0 &&& (15 : Int32))), .val (.int (4 : Int32)), .val (.ref b174), .unset] [(.int p1), (.ref b174)])) _
        exact kt)
    obtain ⟨cq179, kq179, q179a, q179b, q179c⟩ := isOf hZ rfl (by obtain ⟨_, _, ⟨q, _⟩, _⟩ := OC176; exact q)
    obtain ⟨_, _, ⟨T179, L179, k179, n179⟩, -, X179, ⟨Lc179, hQ179, l179, y179, z179⟩, st179⟩ := X176.virtualBack hx (y := (⟨"com/example/classweave/classweave/classfile/ClassOutput", "u4", "(I)V"⟩ : MethodName)) (z := (⟨"com/example/classweave/classweave/classfile/ClassOutput", "u4", "(I)V"⟩ : MethodName)) hown (mvT hZ (hw _ (List.mem_of_getElem? (i := 13) rfl))) (mvT hZ (hw _ (List.mem_of_getElem? (i := 14) rfl))) (notFace_of_selects (args := #[]) (mvT hZ (hw _ (List.mem_of_getElem? (i := 16) rfl)))) (mvT hZ (hw _ (List.mem_of_getElem? (i := 16) rfl))) (mvT hZ (hw _ (List.mem_of_getElem? (i := 15) rfl))) (by decide) (backOf (W := 0) (rm3 l Z a0 hw [] b174 p1 [] T176.heap n0 zs176 OC176 (by decide)) hZ (hw _ (List.mem_of_getElem? (i := 17) rfl)) (hw _ (List.mem_of_getElem? (i := 3) rfl)) (by decide) (by decide)) q179a q179c (g := (mkF m 28 #[.val (.int p0), .val (.int p1), .val (.int p2), .val (.int p3), .val (.int p4), .val (.int (p0 &&& (15 : Int32))), .val (.int (4 : Int32)), .val (.ref b174), .unset] [(.int p1), (.ref b174)])) rfl (by rw [hml]; rfl) (Steps.refl _) (argsL := [(.int p1)]) (rest := []) (lenOf pd_0 rfl) rfl (by show 2 * 0 + _ ≤ _; exact Nat.le_of_eq rfl) (hb hby at_28) (fun _ _ => ⟨rfl, rfl, (by decide : 2 + 2 ≤ _), (by decide : 17 + 32 ≤ _)⟩)
    dsimp only [Pt.U, Pt.locs, Pt.cells, Pt.slots] at X179 l179 y179 z179 st179 hQ179
    subst l179 y179 z179
    obtain ⟨rfl, N179q, OB179⟩ := hQ179
    have OC179 : own_OB Z T179.heap n0 b174 [(nar .byte (((((p1.toUInt32 >>> ((16 : Int32) &&& 31).toUInt32).toInt32).toUInt32 >>> ((8 : Int32) &&& 31).toUInt32).toInt32).toInt8.toInt32)), (nar .byte (((p1.toUInt32 >>> ((16 : Int32) &&& 31).toUInt32).toInt32).toInt8.toInt32)), (nar .byte (((p1.toUInt32 >>> ((8 : Int32) &&& 31).toUInt32).toInt32).toInt8.toInt32)), (nar .byte (p1.toInt8.toInt32))] := OB179
    have zs179 : n0 ≤ T179.heap.size := by obtain ⟨_, _, ⟨q, _, _, _, r, _⟩, _⟩ := OC179; exact Nat.le_trans r (Nat.le_of_lt q.lt)
    have N179 := Fr.app N176 N179q
    have go180 : ∀ t, Steps p.tables e below (T179.setTop (mkF m 34 #[.val (.int p0), .val (.int p1), .val (.int p2), .val (.int p3), .val (.int p4), .val (.int (p0 &&& (15 : Int32))), .val (.int (4 : Int32)), .val (.ref b174), .unset] [(.int p2), (.ref b174)])) t → Steps p.tables e below (s₁.setTop (entryFrame m #[(.int p0), (.int p1), (.int p2), (.int p3), (.int p4)] maxLocals)) t := fun t kt => go178 t (by
        refine st179.trans ?_
        show Steps p.tables e below (T179.setTop (mkF m 31 #[.val (.int p0), .val (.int p1), .val (.int p2), .val (.int p3), .val (.int p4), .val (.int (p0 &&& (15 : Int32))), .val (.int (4 : Int32)), .val (.ref b174), .unset] [])) _
        refine XS.aload X179.here hx rfl (hb hby at_31) rfl rfl ?_
        show Steps p.tables e below (T179.setTop (mkF m 33 #[.val (.int p0), .val (.int p1), .val (.int p2), .val (.int p3), .val (.int p4), .val (.int (p0 &&& (15 : Int32))), .val (.int (4 : Int32)), .val (.ref b174), .unset] [(.ref b174)])) _
        refine XS.iloadN X179.here hx rfl (hb hby at_33) rfl ?_
        show Steps p.tables e below (T179.setTop (mkF m 34 #[.val (.int p0), .val (.int p1), .val (.int p2), .val (.int p3), .val (.int p4), .val (.int (p0 &&& (15 : Int32))), .val (.int (4 : Int32)), .val (.ref b174), .unset] [(.int p2), (.ref b174)])) _
        exact kt)
    obtain ⟨cq181, kq181, q181a, q181b, q181c⟩ := isOf hZ rfl (by obtain ⟨_, _, ⟨q, _⟩, _⟩ := OC179; exact q)
    obtain ⟨_, _, ⟨T181, L181, k181, n181⟩, -, X181, ⟨Lc181, hQ181, l181, y181, z181⟩, st181⟩ := X179.virtualBack hx (y := (⟨"com/example/classweave/classweave/classfile/ClassOutput", "u4", "(I)V"⟩ : MethodName)) (z := (⟨"com/example/classweave/classweave/classfile/ClassOutput", "u4", "(I)V"⟩ : MethodName)) hown (mvT hZ (hw _ (List.mem_of_getElem? (i := 13) rfl))) (mvT hZ (hw _ (List.mem_of_getElem? (i := 14) rfl))) (notFace_of_selects (args := #[]) (mvT hZ (hw _ (List.mem_of_getElem? (i := 16) rfl)))) (mvT hZ (hw _ (List.mem_of_getElem? (i := 16) rfl))) (mvT hZ (hw _ (List.mem_of_getElem? (i := 15) rfl))) (by decide) (backOf (W := 0) (rm3 l Z a0 hw [] b174 p2 [(nar .byte (((((p1.toUInt32 >>> ((16 : Int32) &&& 31).toUInt32).toInt32).toUInt32 >>> ((8 : Int32) &&& 31).toUInt32).toInt32).toInt8.toInt32)), (nar .byte (((p1.toUInt32 >>> ((16 : Int32) &&& 31).toUInt32).toInt32).toInt8.toInt32)), (nar .byte (((p1.toUInt32 >>> ((8 : Int32) &&& 31).toUInt32).toInt32).toInt8.toInt32)), (nar .byte (p1.toInt8.toInt32))] T179.heap n0 zs179 OC179 (Nat.le_of_eq rfl)) hZ (hw _ (List.mem_of_getElem? (i := 17) rfl)) (hw _ (List.mem_of_getElem? (i := 3) rfl)) (by decide) (by decide)) q181a q181c (g := (mkF m 34 #[.val (.int p0), .val (.int p1), .val (.int p2), .val (.int p3), .val (.int p4), .val (.int (p0 &&& (15 : Int32))), .val (.int (4 : Int32)), .val (.ref b174), .unset] [(.int p2), (.ref b174)])) rfl (by rw [hml]; rfl) (Steps.refl _) (argsL := [(.int p2)]) (rest := []) (lenOf pd_0 rfl) rfl (by show 2 * 0 + _ ≤ _; exact Nat.le_of_eq rfl) (hb hby at_34) (fun _ _ => ⟨rfl, rfl, (by decide : 4 + 2 ≤ _), (by decide : 49 + 32 ≤ _)⟩)
    dsimp only [Pt.U, Pt.locs, Pt.cells, Pt.slots] at X181 l181 y181 z181 st181 hQ181
    subst l181 y181 z181
    obtain ⟨rfl, N181q, OB181⟩ := hQ181
    have OC181 : own_OB Z T181.heap n0 b174 [(nar .byte (((((p1.toUInt32 >>> ((16 : Int32) &&& 31).toUInt32).toInt32).toUInt32 >>> ((8 : Int32) &&& 31).toUInt32).toInt32).toInt8.toInt32)), (nar .byte (((p1.toUInt32 >>> ((16 : Int32) &&& 31).toUInt32).toInt32).toInt8.toInt32)), (nar .byte (((p1.toUInt32 >>> ((8 : Int32) &&& 31).toUInt32).toInt32).toInt8.toInt32)), (nar .byte (p1.toInt8.toInt32)), (nar .byte (((((p2.toUInt32 >>> ((16 : Int32) &&& 31).toUInt32).toInt32).toUInt32 >>> ((8 : Int32) &&& 31).toUInt32).toInt32).toInt8.toInt32)), (nar .byte (((p2.toUInt32 >>> ((16 : Int32) &&& 31).toUInt32).toInt32).toInt8.toInt32)), (nar .byte (((p2.toUInt32 >>> ((8 : Int32) &&& 31).toUInt32).toInt32).toInt8.toInt32)), (nar .byte (p2.toInt8.toInt32))] := OB181
    have zs181 : n0 ≤ T181.heap.size := by obtain ⟨_, _, ⟨q, _, _, _, r, _⟩, _⟩ := OC181; exact Nat.le_trans r (Nat.le_of_lt q.lt)
    have N181 := Fr.app N179 N181q
    have go182 : ∀ t, Steps p.tables e below (T181.setTop (mkF m 43 #[.val (.int p0), .val (.int p1), .val (.int p2), .val (.int p3), .val (.int p4), .val (.int (p0 &&& (15 : Int32))), .val (.int (4 : Int32)), .val (.ref b174), .unset] [(.int p4), (.int (4 : Int32)), (.ref b174)])) t → Steps p.tables e below (s₁.setTop (entryFrame m #[(.int p0), (.int p1), (.int p2), (.int p3), (.int p4)] maxLocals)) t := fun t kt => go180 t (by
        refine st181.trans ?_
        show Steps p.tables e below (T181.setTop (mkF m 37 #[.val (.int p0), .val (.int p1), .val (.int p2), .val (.int p3), .val (.int p4), .val (.int (p0 &&& (15 : Int32))), .val (.int (4 : Int32)), .val (.ref b174), .unset] [])) _
        refine XS.aload X181.here hx rfl (hb hby at_37) rfl rfl ?_
        show Steps p.tables e below (T181.setTop (mkF m 39 #[.val (.int p0), .val (.int p1), .val (.int p2), .val (.int p3), .val (.int p4), .val (.int (p0 &&& (15 : Int32))), .val (.int (4 : Int32)), .val (.ref b174), .unset] [(.ref b174)])) _
        refine XS.iload X181.here hx rfl (hb hby at_39) rfl ?_
        show Steps p.tables e below (T181.setTop (mkF m 41 #[.val (.int p0), .val (.int p1), .val (.int p2), .val (.int p3), .val (.int p4), .val (.int (p0 &&& (15 : Int32))), .val (.int (4 : Int32)), .val (.ref b174), .unset] [(.int (4 : Int32)), (.ref b174)])) _
        refine XS.iload X181.here hx rfl (hb hby at_41) rfl ?_
        show Steps p.tables e below (T181.setTop (mkF m 43 #[.val (.int p0), .val (.int p1), .val (.int p2), .val (.int p3), .val (.int p4), .val (.int (p0 &&& (15 : Int32))), .val (.int (4 : Int32)), .val (.ref b174), .unset] [(.int p4), (.int (4 : Int32)), (.ref b174)])) _
        exact kt)
    obtain ⟨cq183, kq183, q183a, q183b, q183c⟩ := isOf hZ rfl (by obtain ⟨_, _, ⟨q, _⟩, _⟩ := OC181; exact q)
    obtain ⟨_, _, ⟨T183, L183, k183, n183⟩, -, X183, ⟨Lc183, hQ183, l183, y183, z183⟩, st183⟩ := X181.virtualBack hx (y := (⟨"com/example/classweave/classweave/classfile/ClassOutput", "u4At", "(II)V"⟩ : MethodName)) (z := (⟨"com/example/classweave/classweave/classfile/ClassOutput", "u4At", "(II)V"⟩ : MethodName)) hown (mvT hZ (hw _ (List.mem_of_getElem? (i := 44) rfl))) (mvT hZ (hw _ (List.mem_of_getElem? (i := 45) rfl))) (notFace_of_selects (args := #[]) (mvT hZ (hw _ (List.mem_of_getElem? (i := 47) rfl)))) (mvT hZ (hw _ (List.mem_of_getElem? (i := 47) rfl))) (mvT hZ (hw _ (List.mem_of_getElem? (i := 46) rfl))) (by decide) (backOf (W := 0) (rm9 l Z a0 hw [] b174 (4 : Int32) p4 [(nar .byte (((((p1.toUInt32 >>> ((16 : Int32) &&& 31).toUInt32).toInt32).toUInt32 >>> ((8 : Int32) &&& 31).toUInt32).toInt32).toInt8.toInt32)), (nar .byte (((p1.toUInt32 >>> ((16 : Int32) &&& 31).toUInt32).toInt32).toInt8.toInt32)), (nar .byte (((p1.toUInt32 >>> ((8 : Int32) &&& 31).toUInt32).toInt32).toInt8.toInt32)), (nar .byte (p1.toInt8.toInt32)), (nar .byte (((((p2.toUInt32 >>> ((16 : Int32) &&& 31).toUInt32).toInt32).toUInt32 >>> ((8 : Int32) &&& 31).toUInt32).toInt32).toInt8.toInt32)), (nar .byte (((p2.toUInt32 >>> ((16 : Int32) &&& 31).toUInt32).toInt32).toInt8.toInt32)), (nar .byte (((p2.toUInt32 >>> ((8 : Int32) &&& 31).toUInt32).toInt32).toInt8.toInt32)), (nar .byte (p2.toInt8.toInt32))] 4 T181.heap n0 zs181 OC181 (by show 4 + 4 ≤ 8; decide) (by decide) (by decide) (by decide) (by decide) (by decide) (by decide) (by decide) (by decide)) hZ (hw _ (List.mem_of_getElem? (i := 48) rfl)) (hw _ (List.mem_of_getElem? (i := 3) rfl)) (by decide) (by decide)) q183a q183c (g := (mkF m 43 #[.val (.int p0), .val (.int p1), .val (.int p2), .val (.int p3), .val (.int p4), .val (.int (p0 &&& (15 : Int32))), .val (.int (4 : Int32)), .val (.ref b174), .unset] [(.int p4), (.int (4 : Int32)), (.ref b174)])) rfl (by rw [hml]; rfl) (Steps.refl _) (argsL := [(.int (4 : Int32)), (.int p4)]) (rest := []) (lenOf pd_4 rfl) rfl (by show 2 * 0 + _ ≤ _; exact Nat.le_of_eq rfl) (hb hby at_43) (fun _ _ => ⟨rfl, rfl, (by decide : 6 + 0 ≤ _), (by decide : 81 + 0 ≤ _)⟩)
    dsimp only [Pt.U, Pt.locs, Pt.cells, Pt.slots] at X183 l183 y183 z183 st183 hQ183
    subst l183 y183 z183
    obtain ⟨rfl, N183q, OB183⟩ := hQ183
    have OC183 : own_OB Z T183.heap n0 b174 [(nar .byte (((((p1.toUInt32 >>> ((16 : Int32) &&& 31).toUInt32).toInt32).toUInt32 >>> ((8 : Int32) &&& 31).toUInt32).toInt32).toInt8.toInt32)), (nar .byte (((p1.toUInt32 >>> ((16 : Int32) &&& 31).toUInt32).toInt32).toInt8.toInt32)), (nar .byte (((p1.toUInt32 >>> ((8 : Int32) &&& 31).toUInt32).toInt32).toInt8.toInt32)), (nar .byte (p1.toInt8.toInt32)), (nar .byte (((p4.toUInt32 >>> ((24 : Int32) &&& 31).toUInt32).toInt32).toInt8.toInt32)), (nar .byte (((p4.toUInt32 >>> ((16 : Int32) &&& 31).toUInt32).toInt32).toInt8.toInt32)), (nar .byte (((p4.toUInt32 >>> ((8 : Int32) &&& 31).toUInt32).toInt32).toInt8.toInt32)), (nar .byte (p4.toInt8.toInt32))] := OB183
    have zs183 : n0 ≤ T183.heap.size := by obtain ⟨_, _, ⟨q, _, _, _, r, _⟩, _⟩ := OC183; exact Nat.le_trans r (Nat.le_of_lt q.lt)
    have N183 := Fr.app N181 N183q
    have go184 : ∀ t, Steps p.tables e below (T183.setTop (mkF m 48 #[.val (.int p0), .val (.int p1), .val (.int p2), .val (.int p3), .val (.int p4), .val (.int (p0 &&& (15 : Int32))), .val (.int (4 : Int32)), .val (.ref b174), .unset] [(.ref b174)])) t → Steps p.tables e below (s₁.setTop (entryFrame m #[(.int p0), (.int p1), (.int p2), (.int p3), (.int p4)] maxLocals)) t := fun t kt => go182 t (by
        refine st183.trans ?_
        show Steps p.tables e below (T183.setTop (mkF m 46 #[.val (.int p0), .val (.int p1), .val (.int p2), .val (.int p3), .val (.int p4), .val (.int (p0 &&& (15 : Int32))), .val (.int (4 : Int32)), .val (.ref b174), .unset] [])) _
        refine XS.aload X183.here hx rfl (hb hby at_46) rfl rfl ?_
        show Steps p.tables e below (T183.setTop (mkF m 48 #[.val (.int p0), .val (.int p1), .val (.int p2), .val (.int p3), .val (.int p4), .val (.int (p0 &&& (15 : Int32))), .val (.int (4 : Int32)), .val (.ref b174), .unset] [(.ref b174)])) _
        exact kt)
    obtain ⟨cq185, kq185, q185a, q185b, q185c⟩ := isOf hZ rfl (by obtain ⟨_, _, ⟨q, _⟩, _⟩ := OC183; exact q)
    obtain ⟨_, _, ⟨T185, L185, k185, n185⟩, -, X185, ⟨Lc185, hQ185, l185, y185, z185⟩, st185⟩ := X183.virtualBack hx (y := (⟨"com/example/classweave/classweave/classfile/ClassOutput", "toByteArray", "()[B"⟩ : MethodName)) (z := (⟨"com/example/classweave/classweave/classfile/ClassOutput", "toByteArray", "()[B"⟩ : MethodName)) hown (mvT hZ (hw _ (List.mem_of_getElem? (i := 49) rfl))) (mvT hZ (hw _ (List.mem_of_getElem? (i := 50) rfl))) (notFace_of_selects (args := #[]) (mvT hZ (hw _ (List.mem_of_getElem? (i := 52) rfl)))) (mvT hZ (hw _ (List.mem_of_getElem? (i := 52) rfl))) (mvT hZ (hw _ (List.mem_of_getElem? (i := 51) rfl))) (by decide) (backOf (W := 0) (rm10 l Z a0 hw [] b174 [(nar .byte (((((p1.toUInt32 >>> ((16 : Int32) &&& 31).toUInt32).toInt32).toUInt32 >>> ((8 : Int32) &&& 31).toUInt32).toInt32).toInt8.toInt32)), (nar .byte (((p1.toUInt32 >>> ((16 : Int32) &&& 31).toUInt32).toInt32).toInt8.toInt32)), (nar .byte (((p1.toUInt32 >>> ((8 : Int32) &&& 31).toUInt32).toInt32).toInt8.toInt32)), (nar .byte (p1.toInt8.toInt32)), (nar .byte (((p4.toUInt32 >>> ((24 : Int32) &&& 31).toUInt32).toInt32).toInt8.toInt32)), (nar .byte (((p4.toUInt32 >>> ((16 : Int32) &&& 31).toUInt32).toInt32).toInt8.toInt32)), (nar .byte (((p4.toUInt32 >>> ((8 : Int32) &&& 31).toUInt32).toInt32).toInt8.toInt32)), (nar .byte (p4.toInt8.toInt32))] T183.heap n0 zs183 OC183) hZ (hw _ (List.mem_of_getElem? (i := 53) rfl)) (hw _ (List.mem_of_getElem? (i := 3) rfl)) (by decide) (by decide)) q185a q185c (g := (mkF m 48 #[.val (.int p0), .val (.int p1), .val (.int p2), .val (.int p3), .val (.int p4), .val (.int (p0 &&& (15 : Int32))), .val (.int (4 : Int32)), .val (.ref b174), .unset] [(.ref b174)])) rfl (by rw [hml]; rfl) (Steps.refl _) (argsL := []) (rest := []) (lenOf pd_5 rfl) rfl (by show 2 * 0 + _ ≤ _; exact Nat.le_of_eq rfl) (hb hby at_48) (fun _ _ => ⟨rfl, rfl, (by decide : 6 + 1 ≤ _), (by decide : 81 + 16 ≤ _)⟩)
    dsimp only [Pt.U, Pt.locs, Pt.cells, Pt.slots] at X185 l185 y185 z185 st185 hQ185
    subst l185 y185 z185
    obtain ⟨b185, rfl, N185q, OB185, Vq185⟩ := hQ185
    have OC185 : own_OB Z T185.heap n0 b174 [(nar .byte (((((p1.toUInt32 >>> ((16 : Int32) &&& 31).toUInt32).toInt32).toUInt32 >>> ((8 : Int32) &&& 31).toUInt32).toInt32).toInt8.toInt32)), (nar .byte (((p1.toUInt32 >>> ((16 : Int32) &&& 31).toUInt32).toInt32).toInt8.toInt32)), (nar .byte (((p1.toUInt32 >>> ((8 : Int32) &&& 31).toUInt32).toInt32).toInt8.toInt32)), (nar .byte (p1.toInt8.toInt32)), (nar .byte (((p4.toUInt32 >>> ((24 : Int32) &&& 31).toUInt32).toInt32).toInt8.toInt32)), (nar .byte (((p4.toUInt32 >>> ((16 : Int32) &&& 31).toUInt32).toInt32).toInt8.toInt32)), (nar .byte (((p4.toUInt32 >>> ((8 : Int32) &&& 31).toUInt32).toInt32).toInt8.toInt32)), (nar .byte (p4.toInt8.toInt32))] := OB185
    have zs185 : n0 ≤ T185.heap.size := by obtain ⟨_, _, ⟨q, _, _, _, r, _⟩, _⟩ := OC185; exact Nat.le_trans r (Nat.le_of_lt q.lt)
    have V185 : own_AV Z T185.heap b185 .byte [(.int (nar .byte (((((p1.toUInt32 >>> ((16 : Int32) &&& 31).toUInt32).toInt32).toUInt32 >>> ((8 : Int32) &&& 31).toUInt32).toInt32).toInt8.toInt32))), (.int (nar .byte (((p1.toUInt32 >>> ((16 : Int32) &&& 31).toUInt32).toInt32).toInt8.toInt32))), (.int (nar .byte (((p1.toUInt32 >>> ((8 : Int32) &&& 31).toUInt32).toInt32).toInt8.toInt32))), (.int (nar .byte (p1.toInt8.toInt32))), (.int (nar .byte (((p4.toUInt32 >>> ((24 : Int32) &&& 31).toUInt32).toInt32).toInt8.toInt32))), (.int (nar .byte (((p4.toUInt32 >>> ((16 : Int32) &&& 31).toUInt32).toInt32).toInt8.toInt32))), (.int (nar .byte (((p4.toUInt32 >>> ((8 : Int32) &&& 31).toUInt32).toInt32).toInt8.toInt32))), (.int (nar .byte (p4.toInt8.toInt32)))] := Vq185
    have N185 := Fr.app N183 N185q
    have go186 : ∀ t, Steps p.tables e below (T185.setTop (mkF m 55 #[.val (.int p0), .val (.int p1), .val (.int p2), .val (.int p3), .val (.int p4), .val (.int (p0 &&& (15 : Int32))), .val (.int (4 : Int32)), .val (.ref b174), .val (.ref b185)] [(.ref b174)])) t → Steps p.tables e below (s₁.setTop (entryFrame m #[(.int p0), (.int p1), (.int p2), (.int p3), (.int p4)] maxLocals)) t := fun t kt => go184 t (by
        refine st185.trans ?_
        show Steps p.tables e below (T185.setTop (mkF m 51 #[.val (.int p0), .val (.int p1), .val (.int p2), .val (.int p3), .val (.int p4), .val (.int (p0 &&& (15 : Int32))), .val (.int (4 : Int32)), .val (.ref b174), .unset] [(.ref b185)])) _
        refine XS.astore X185.here hx rfl (hb hby at_51) rfl rfl (l' := #[.val (.int p0), .val (.int p1), .val (.int p2), .val (.int p3), .val (.int p4), .val (.int (p0 &&& (15 : Int32))), .val (.int (4 : Int32)), .val (.ref b174), .val (.ref b185)]) rfl ?_
        show Steps p.tables e below (T185.setTop (mkF m 53 #[.val (.int p0), .val (.int p1), .val (.int p2), .val (.int p3), .val (.int p4), .val (.int (p0 &&& (15 : Int32))), .val (.int (4 : Int32)), .val (.ref b174), .val (.ref b185)] [])) _
        refine XS.aload X185.here hx rfl (hb hby at_53) rfl rfl ?_
        show Steps p.tables e below (T185.setTop (mkF m 55 #[.val (.int p0), .val (.int p1), .val (.int p2), .val (.int p3), .val (.int p4), .val (.int (p0 &&& (15 : Int32))), .val (.int (4 : Int32)), .val (.ref b174), .val (.ref b185)] [(.ref b174)])) _
        exact kt)
    obtain ⟨cq187, kq187, q187a, q187b, q187c⟩ := isOf hZ rfl (by obtain ⟨_, _, ⟨q, _⟩, _⟩ := OC185; exact q)
    obtain ⟨_, _, ⟨T187, L187, k187, n187⟩, -, X187, ⟨Lc187, hQ187, l187, y187, z187⟩, st187⟩ := X185.virtualBack hx (y := (⟨"com/example/classweave/classweave/classfile/ClassOutput", "size", "()I"⟩ : MethodName)) (z := (⟨"com/example/classweave/classweave/classfile/ClassOutput", "size", "()I"⟩ : MethodName)) hown (mvT hZ (hw _ (List.mem_of_getElem? (i := 63) rfl))) (mvT hZ (hw _ (List.mem_of_getElem? (i := 64) rfl))) (notFace_of_selects (args := #[]) (mvT hZ (hw _ (List.mem_of_getElem? (i := 66) rfl)))) (mvT hZ (hw _ (List.mem_of_getElem? (i := 66) rfl))) (mvT hZ (hw _ (List.mem_of_getElem? (i := 65) rfl))) (by decide) (backOf (W := 0) (rm11 l Z a0 hw [] b174 [(nar .byte (((((p1.toUInt32 >>> ((16 : Int32) &&& 31).toUInt32).toInt32).toUInt32 >>> ((8 : Int32) &&& 31).toUInt32).toInt32).toInt8.toInt32)), (nar .byte (((p1.toUInt32 >>> ((16 : Int32) &&& 31).toUInt32).toInt32).toInt8.toInt32)), (nar .byte (((p1.toUInt32 >>> ((8 : Int32) &&& 31).toUInt32).toInt32).toInt8.toInt32)), (nar .byte (p1.toInt8.toInt32)), (nar .byte (((p4.toUInt32 >>> ((24 : Int32) &&& 31).toUInt32).toInt32).toInt8.toInt32)), (nar .byte (((p4.toUInt32 >>> ((16 : Int32) &&& 31).toUInt32).toInt32).toInt8.toInt32)), (nar .byte (((p4.toUInt32 >>> ((8 : Int32) &&& 31).toUInt32).toInt32).toInt8.toInt32)), (nar .byte (p4.toInt8.toInt32))] (8 : Int32) T185.heap n0 OC185 rfl) hZ (hw _ (List.mem_of_getElem? (i := 67) rfl)) (hw _ (List.mem_of_getElem? (i := 3) rfl)) (by decide) (by decide)) q187a q187c (g := (mkF m 55 #[.val (.int p0), .val (.int p1), .val (.int p2), .val (.int p3), .val (.int p4), .val (.int (p0 &&& (15 : Int32))), .val (.int (4 : Int32)), .val (.ref b174), .val (.ref b185)] [(.ref b174)])) rfl (by rw [hml]; rfl) (Steps.refl _) (argsL := []) (rest := []) (lenOf pd_6 rfl) rfl (by show 2 * 0 + _ ≤ _; exact Nat.le_of_eq rfl) (hb hby at_55) (fun _ _ => ⟨rfl, rfl, (by decide : 7 + 0 ≤ _), (by decide : 97 + 0 ≤ _)⟩)
    dsimp only [Pt.U, Pt.locs, Pt.cells, Pt.slots] at X187 l187 y187 z187 st187 hQ187
    subst l187 y187 z187
    obtain ⟨rfl, N187q, e187⟩ := hQ187
    have N187 := Fr.app N185 N187q
    have hc60_188 : (8 : Int32) = (8 : Int32) := (by decide)
    have go189 : ∀ t, Steps p.tables e below (T187.setTop (mkF m 65 #[.val (.int p0), .val (.int p1), .val (.int p2), .val (.int p3), .val (.int p4), .val (.int (p0 &&& (15 : Int32))), .val (.int (4 : Int32)), .val (.ref b174), .val (.ref b185)] [(.ref b185)])) t → Steps p.tables e below (s₁.setTop (entryFrame m #[(.int p0), (.int p1), (.int p2), (.int p3), (.int p4)] maxLocals)) t := fun t kt => go186 t (by
        refine st187.trans ?_
        show Steps p.tables e below (T187.setTop (mkF m 58 #[.val (.int p0), .val (.int p1), .val (.int p2), .val (.int p3), .val (.int p4), .val (.int (p0 &&& (15 : Int32))), .val (.int (4 : Int32)), .val (.ref b174), .val (.ref b185)] [(.int (8 : Int32))])) _
        refine XS.bipush X187.here hx rfl (hb hby at_58) ?_
        show Steps p.tables e below (T187.setTop (mkF m 60 #[.val (.int p0), .val (.int p1), .val (.int p2), .val (.int p3), .val (.int p4), .val (.int (p0 &&& (15 : Int32))), .val (.int (4 : Int32)), .val (.ref b174), .val (.ref b185)] [(.int (8 : Int32)), (.int (8 : Int32))])) _
        refine XS.icmpNo X187.here hx rfl (hb hby at_60) rfl (teq hc60_188).2 ?_
        show Steps p.tables e below (T187.setTop (mkF m 63 #[.val (.int p0), .val (.int p1), .val (.int p2), .val (.int p3), .val (.int p4), .val (.int (p0 &&& (15 : Int32))), .val (.int (4 : Int32)), .val (.ref b174), .val (.ref b185)] [])) _
        refine XS.aload X187.here hx rfl (hb hby at_63) rfl rfl ?_
        show Steps p.tables e below (T187.setTop (mkF m 65 #[.val (.int p0), .val (.int p1), .val (.int p2), .val (.int p3), .val (.int p4), .val (.int (p0 &&& (15 : Int32))), .val (.int (4 : Int32)), .val (.ref b174), .val (.ref b185)] [(.ref b185)])) _
        exact kt)
    obtain ⟨c190, Ar190, q190⟩ := id V185
    have hc68_191 : (8 : Int32) = (8 : Int32) := (by decide)
    have go192 : ∀ t, Steps p.tables e below (T187.setTop (mkF m 82 #[.val (.int p0), .val (.int p1), .val (.int p2), .val (.int p3), .val (.int p4), .val (.int (p0 &&& (15 : Int32))), .val (.int (4 : Int32)), .val (.ref b174), .val (.ref b185)] [(.int p4), (.int p2), (.int p1), (.int (4 : Int32)), (.int (0 : Int32)), (.ref b185)])) t → Steps p.tables e below (s₁.setTop (entryFrame m #[(.int p0), (.int p1), (.int p2), (.int p3), (.int p4)] maxLocals)) t := fun t kt => go189 t (by
        refine X187.arraylength hx (by rw [e187]; exact Ar190.1) (State.isArrayOf_alike hZ.alike Ar190.2.1) (g := (mkF m 65 #[.val (.int p0), .val (.int p1), .val (.int p2), .val (.int p3), .val (.int p4), .val (.int (p0 &&& (15 : Int32))), .val (.int (4 : Int32)), .val (.ref b174), .val (.ref b185)] [(.ref b185)])) rfl rfl (hb hby at_65) _ ?_
        rw [own_len q190 (n := (8 : Int32)) rfl]
        show Steps p.tables e below (T187.setTop (mkF m 66 #[.val (.int p0), .val (.int p1), .val (.int p2), .val (.int p3), .val (.int p4), .val (.int (p0 &&& (15 : Int32))), .val (.int (4 : Int32)), .val (.ref b174), .val (.ref b185)] [(.int (8 : Int32))])) _
        refine XS.bipush X187.here hx rfl (hb hby at_66) ?_
        show Steps p.tables e below (T187.setTop (mkF m 68 #[.val (.int p0), .val (.int p1), .val (.int p2), .val (.int p3), .val (.int p4), .val (.int (p0 &&& (15 : Int32))), .val (.int (4 : Int32)), .val (.ref b174), .val (.ref b185)] [(.int (8 : Int32)), (.int (8 : Int32))])) _
        refine XS.icmpYes X187.here hx rfl (pc0 := 68) (pc' := 73) rfl (hb hby at_68) rfl (teq hc68_191).1 (by decide) (by decide) ?_
        show Steps p.tables e below (T187.setTop (mkF m 73 #[.val (.int p0), .val (.int p1), .val (.int p2), .val (.int p3), .val (.int p4), .val (.int (p0 &&& (15 : Int32))), .val (.int (4 : Int32)), .val (.ref b174), .val (.ref b185)] [])) _
        refine XS.aload X187.here hx rfl (hb hby at_73) rfl rfl ?_
        show Steps p.tables e below (T187.setTop (mkF m 75 #[.val (.int p0), .val (.int p1), .val (.int p2), .val (.int p3), .val (.int p4), .val (.int (p0 &&& (15 : Int32))), .val (.int (4 : Int32)), .val (.ref b174), .val (.ref b185)] [(.ref b185)])) _
        refine XS.iconst X187.here hx rfl (hb hby at_75) ?_
        show Steps p.tables e below (T187.setTop (mkF m 76 #[.val (.int p0), .val (.int p1), .val (.int p2), .val (.int p3), .val (.int p4), .val (.int (p0 &&& (15 : Int32))), .val (.int (4 : Int32)), .val (.ref b174), .val (.ref b185)] [(.int (0 : Int32)), (.ref b185)])) _
        refine XS.iload X187.here hx rfl (hb hby at_76) rfl ?_
        show Steps p.tables e below (T187.setTop (mkF m 78 #[.val (.int p0), .val (.int p1), .val (.int p2), .val (.int p3), .val (.int p4), .val (.int (p0 &&& (15 : Int32))), .val (.int (4 : Int32)), .val (.ref b174), .val (.ref b185)] [(.int (4 : Int32)), (.int (0 : Int32)), (.ref b185)])) _
        refine XS.iloadN X187.here hx rfl (hb hby at_78) rfl ?_
        show Steps p.tables e below (T187.setTop (mkF m 79 #[.val (.int p0), .val (.int p1), .val (.int p2), .val (.int p3), .val (.int p4), .val (.int (p0 &&& (15 : Int32))), .val (.int (4 : Int32)), .val (.ref b174), .val (.ref b185)] [(.int p1), (.int (4 : Int32)), (.int (0 : Int32)), (.ref b185)])) _
        refine XS.iloadN X187.here hx rfl (hb hby at_79) rfl ?_
        show Steps p.tables e below (T187.setTop (mkF m 80 #[.val (.int p0), .val (.int p1), .val (.int p2), .val (.int p3), .val (.int p4), .val (.int (p0 &&& (15 : Int32))), .val (.int (4 : Int32)), .val (.ref b174), .val (.ref b185)] [(.int p2), (.int p1), (.int (4 : Int32)), (.int (0 : Int32)), (.ref b185)])) _
        refine XS.iload X187.here hx rfl (hb hby at_80) rfl ?_
        show Steps p.tables e below (T187.setTop (mkF m 82 #[.val (.int p0), .val (.int p1), .val (.int p2), .val (.int p3), .val (.int p4), .val (.int (p0 &&& (15 : Int32))), .val (.int (4 : Int32)), .val (.ref b174), .val (.ref b185)] [(.int p4), (.int p2), (.int p1), (.int (4 : Int32)), (.int (0 : Int32)), (.ref b185)])) _
        exact kt)
    obtain ⟨_, _, ⟨T193, L193, k193, n193⟩, -, X193, ⟨Lc193, hQ193, l193, y193, z193⟩, st193⟩ := Jvm.LawKit.callS X187 hx (y := (⟨"com/example/classweave/classweave/classfile/ClassOutputU4AtPinLaw", "at", "([BIIIII)Z"⟩ : MethodName)) hown (mvT hZ (hw _ (List.mem_of_getElem? (i := 68) rfl))) (mvT hZ (hw _ (List.mem_of_getElem? (i := 69) rfl))) (mvT hZ (hw _ (List.mem_of_getElem? (i := 70) rfl))) (mvT hZ (hw _ (List.mem_of_getElem? (i := 71) rfl))) (by decide) (backOf (W := 0) (rm12 l Z a0 hw [] b185 (0 : Int32) (4 : Int32) p1 p2 p4 (nar .byte (((((p1.toUInt32 >>> ((16 : Int32) &&& 31).toUInt32).toInt32).toUInt32 >>> ((8 : Int32) &&& 31).toUInt32).toInt32).toInt8.toInt32)) [(.int (nar .byte (((((p1.toUInt32 >>> ((16 : Int32) &&& 31).toUInt32).toInt32).toUInt32 >>> ((8 : Int32) &&& 31).toUInt32).toInt32).toInt8.toInt32))), (.int (nar .byte (((p1.toUInt32 >>> ((16 : Int32) &&& 31).toUInt32).toInt32).toInt8.toInt32))), (.int (nar .byte (((p1.toUInt32 >>> ((8 : Int32) &&& 31).toUInt32).toInt32).toInt8.toInt32))), (.int (nar .byte (p1.toInt8.toInt32))), (.int (nar .byte (((p4.toUInt32 >>> ((24 : Int32) &&& 31).toUInt32).toInt32).toInt8.toInt32))), (.int (nar .byte (((p4.toUInt32 >>> ((16 : Int32) &&& 31).toUInt32).toInt32).toInt8.toInt32))), (.int (nar .byte (((p4.toUInt32 >>> ((8 : Int32) &&& 31).toUInt32).toInt32).toInt8.toInt32))), (.int (nar .byte (p4.toInt8.toInt32)))] 0 T185.heap n0 V185 (by decide) (by decide) rfl) hZ (hw _ (List.mem_of_getElem? (i := 71) rfl)) (hw _ (List.mem_of_getElem? (i := 70) rfl)) (by decide) (by decide)) (g := (mkF m 82 #[.val (.int p0), .val (.int p1), .val (.int p2), .val (.int p3), .val (.int p4), .val (.int (p0 &&& (15 : Int32))), .val (.int (4 : Int32)), .val (.ref b174), .val (.ref b185)] [(.int p4), (.int p2), (.int p1), (.int (4 : Int32)), (.int (0 : Int32)), (.ref b185)])) rfl (by rw [hml]; rfl) (argsL := [(.ref b185), (.int (0 : Int32)), (.int (4 : Int32)), (.int p1), (.int p2), (.int p4)]) (rest := []) (lenOf pd_7 rfl) rfl (by show 2 * 0 + _ ≤ _; exact Nat.le_of_eq rfl) (hb hby at_82) (fun _ _ => ⟨rfl, e187, (by decide : 7 + 0 ≤ _), (by decide : 97 + 0 ≤ _)⟩)
    dsimp only [Pt.U, Pt.locs, Pt.cells, Pt.slots] at X193 l193 y193 z193 st193 hQ193
    subst l193 y193 z193
    obtain ⟨rfl, N193q, e193⟩ := hQ193
    have N193 := Fr.app N187 N193q
    have hc85_194 : ¬ ((own_at (nar .byte (((((p1.toUInt32 >>> ((16 : Int32) &&& 31).toUInt32).toInt32).toUInt32 >>> ((8 : Int32) &&& 31).toUInt32).toInt32).toInt8.toInt32)) (0 : Int32) (4 : Int32) p1 p2 p4) = (0 : Int32)) := own_at_4_0 _ _ _
    have go195 : ∀ t, Steps p.tables e below (T193.setTop (mkF m 97 #[.val (.int p0), .val (.int p1), .val (.int p2), .val (.int p3), .val (.int p4), .val (.int (p0 &&& (15 : Int32))), .val (.int (4 : Int32)), .val (.ref b174), .val (.ref b185)] [(.int p4), (.int p2), (.int p1), (.int (4 : Int32)), (.int (1 : Int32)), (.ref b185)])) t → Steps p.tables e below (s₁.setTop (entryFrame m #[(.int p0), (.int p1), (.int p2), (.int p3), (.int p4)] maxLocals)) t := fun t kt => go192 t (by
        refine st193 _ ?_
        show Steps p.tables e below (T193.setTop (mkF m 85 #[.val (.int p0), .val (.int p1), .val (.int p2), .val (.int p3), .val (.int p4), .val (.int (p0 &&& (15 : Int32))), .val (.int (4 : Int32)), .val (.ref b174), .val (.ref b185)] [(.int (own_at (nar .byte (((((p1.toUInt32 >>> ((16 : Int32) &&& 31).toUInt32).toInt32).toUInt32 >>> ((8 : Int32) &&& 31).toUInt32).toInt32).toInt8.toInt32)) (0 : Int32) (4 : Int32) p1 p2 p4))])) _
        refine XS.ifNo X193.here hx rfl (hb hby at_85) rfl ((if0 _ _).trans (feq hc85_194).1) ?_
        show Steps p.tables e below (T193.setTop (mkF m 88 #[.val (.int p0), .val (.int p1), .val (.int p2), .val (.int p3), .val (.int p4), .val (.int (p0 &&& (15 : Int32))), .val (.int (4 : Int32)), .val (.ref b174), .val (.ref b185)] [])) _
        refine XS.aload X193.here hx rfl (hb hby at_88) rfl rfl ?_
        show Steps p.tables e below (T193.setTop (mkF m 90 #[.val (.int p0), .val (.int p1), .val (.int p2), .val (.int p3), .val (.int p4), .val (.int (p0 &&& (15 : Int32))), .val (.int (4 : Int32)), .val (.ref b174), .val (.ref b185)] [(.ref b185)])) _
        refine XS.iconst X193.here hx rfl (hb hby at_90) ?_
        show Steps p.tables e below (T193.setTop (mkF m 91 #[.val (.int p0), .val (.int p1), .val (.int p2), .val (.int p3), .val (.int p4), .val (.int (p0 &&& (15 : Int32))), .val (.int (4 : Int32)), .val (.ref b174), .val (.ref b185)] [(.int (1 : Int32)), (.ref b185)])) _
        refine XS.iload X193.here hx rfl (hb hby at_91) rfl ?_
        show Steps p.tables e below (T193.setTop (mkF m 93 #[.val (.int p0), .val (.int p1), .val (.int p2), .val (.int p3), .val (.int p4), .val (.int (p0 &&& (15 : Int32))), .val (.int (4 : Int32)), .val (.ref b174), .val (.ref b185)] [(.int (4 : Int32)), (.int (1 : Int32)), (.ref b185)])) _
        refine XS.iloadN X193.here hx rfl (hb hby at_93) rfl ?_
        show Steps p.tables e below (T193.setTop (mkF m 94 #[.val (.int p0), .val (.int p1), .val (.int p2), .val (.int p3), .val (.int p4), .val (.int (p0 &&& (15 : Int32))), .val (.int (4 : Int32)), .val (.ref b174), .val (.ref b185)] [(.int p1), (.int (4 : Int32)), (.int (1 : Int32)), (.ref b185)])) _
        refine XS.iloadN X193.here hx rfl (hb hby at_94) rfl ?_
        show Steps p.tables e below (T193.setTop (mkF m 95 #[.val (.int p0), .val (.int p1), .val (.int p2), .val (.int p3), .val (.int p4), .val (.int (p0 &&& (15 : Int32))), .val (.int (4 : Int32)), .val (.ref b174), .val (.ref b185)] [(.int p2), (.int p1), (.int (4 : Int32)), (.int (1 : Int32)), (.ref b185)])) _
        refine XS.iload X193.here hx rfl (hb hby at_95) rfl ?_
        show Steps p.tables e below (T193.setTop (mkF m 97 #[.val (.int p0), .val (.int p1), .val (.int p2), .val (.int p3), .val (.int p4), .val (.int (p0 &&& (15 : Int32))), .val (.int (4 : Int32)), .val (.ref b174), .val (.ref b185)] [(.int p4), (.int p2), (.int p1), (.int (4 : Int32)), (.int (1 : Int32)), (.ref b185)])) _
        exact kt)
    obtain ⟨_, _, ⟨T196, L196, k196, n196⟩, -, X196, ⟨Lc196, hQ196, l196, y196, z196⟩, st196⟩ := Jvm.LawKit.callS X193 hx (y := (⟨"com/example/classweave/classweave/classfile/ClassOutputU4AtPinLaw", "at", "([BIIIII)Z"⟩ : MethodName)) hown (mvT hZ (hw _ (List.mem_of_getElem? (i := 68) rfl))) (mvT hZ (hw _ (List.mem_of_getElem? (i := 69) rfl))) (mvT hZ (hw _ (List.mem_of_getElem? (i := 70) rfl))) (mvT hZ (hw _ (List.mem_of_getElem? (i := 71) rfl))) (by decide) (backOf (W := 0) (rm12 l Z a0 hw [] b185 (1 : Int32) (4 : Int32) p1 p2 p4 (nar .byte (((p1.toUInt32 >>> ((16 : Int32) &&& 31).toUInt32).toInt32).toInt8.toInt32)) [(.int (nar .byte (((((p1.toUInt32 >>> ((16 : Int32) &&& 31).toUInt32).toInt32).toUInt32 >>> ((8 : Int32) &&& 31).toUInt32).toInt32).toInt8.toInt32))), (.int (nar .byte (((p1.toUInt32 >>> ((16 : Int32) &&& 31).toUInt32).toInt32).toInt8.toInt32))), (.int (nar .byte (((p1.toUInt32 >>> ((8 : Int32) &&& 31).toUInt32).toInt32).toInt8.toInt32))), (.int (nar .byte (p1.toInt8.toInt32))), (.int (nar .byte (((p4.toUInt32 >>> ((24 : Int32) &&& 31).toUInt32).toInt32).toInt8.toInt32))), (.int (nar .byte (((p4.toUInt32 >>> ((16 : Int32) &&& 31).toUInt32).toInt32).toInt8.toInt32))), (.int (nar .byte (((p4.toUInt32 >>> ((8 : Int32) &&& 31).toUInt32).toInt32).toInt8.toInt32))), (.int (nar .byte (p4.toInt8.toInt32)))] 1 T185.heap n0 V185 (by decide) (by decide) rfl) hZ (hw _ (List.mem_of_getElem? (i := 71) rfl)) (hw _ (List.mem_of_getElem? (i := 70) rfl)) (by decide) (by decide)) (g := (mkF m 97 #[.val (.int p0), .val (.int p1), .val (.int p2), .val (.int p3), .val (.int p4), .val (.int (p0 &&& (15 : Int32))), .val (.int (4 : Int32)), .val (.ref b174), .val (.ref b185)] [(.int p4), (.int p2), (.int p1), (.int (4 : Int32)), (.int (1 : Int32)), (.ref b185)])) rfl (by rw [hml]; rfl) (argsL := [(.ref b185), (.int (1 : Int32)), (.int (4 : Int32)), (.int p1), (.int p2), (.int p4)]) (rest := []) (lenOf pd_7 rfl) rfl (by show 2 * 0 + _ ≤ _; exact Nat.le_of_eq rfl) (hb hby at_97) (fun _ _ => ⟨rfl, e193, (by decide : 7 + 0 ≤ _), (by decide : 97 + 0 ≤ _)⟩)
    dsimp only [Pt.U, Pt.locs, Pt.cells, Pt.slots] at X196 l196 y196 z196 st196 hQ196
    subst l196 y196 z196
    obtain ⟨rfl, N196q, e196⟩ := hQ196
    have N196 := Fr.app N193 N196q
    have hc100_197 : ¬ ((own_at (nar .byte (((p1.toUInt32 >>> ((16 : Int32) &&& 31).toUInt32).toInt32).toInt8.toInt32)) (1 : Int32) (4 : Int32) p1 p2 p4) = (0 : Int32)) := own_at_4_1 _ _ _
    have go198 : ∀ t, Steps p.tables e below (T196.setTop (mkF m 112 #[.val (.int p0), .val (.int p1), .val (.int p2), .val (.int p3), .val (.int p4), .val (.int (p0 &&& (15 : Int32))), .val (.int (4 : Int32)), .val (.ref b174), .val (.ref b185)] [(.int p4), (.int p2), (.int p1), (.int (4 : Int32)), (.int (2 : Int32)), (.ref b185)])) t → Steps p.tables e below (s₁.setTop (entryFrame m #[(.int p0), (.int p1), (.int p2), (.int p3), (.int p4)] maxLocals)) t := fun t kt => go195 t (by
        refine st196 _ ?_
        show Steps p.tables e below (T196.setTop (mkF m 100 #[.val (.int p0), .val (.int p1), .val (.int p2), .val (.int p3), .val (.int p4), .val (.int (p0 &&& (15 : Int32))), .val (.int (4 : Int32)), .val (.ref b174), .val (.ref b185)] [(.int (own_at (nar .byte (((p1.toUInt32 >>> ((16 : Int32) &&& 31).toUInt32).toInt32).toInt8.toInt32)) (1 : Int32) (4 : Int32) p1 p2 p4))])) _
        refine XS.ifNo X196.here hx rfl (hb hby at_100) rfl ((if0 _ _).trans (feq hc100_197).1) ?_
        show Steps p.tables e below (T196.setTop (mkF m 103 #[.val (.int p0), .val (.int p1), .val (.int p2), .val (.int p3), .val (.int p4), .val (.int (p0 &&& (15 : Int32))), .val (.int (4 : Int32)), .val (.ref b174), .val (.ref b185)] [])) _
        refine XS.aload X196.here hx rfl (hb hby at_103) rfl rfl ?_
        show Steps p.tables e below (T196.setTop (mkF m 105 #[.val (.int p0), .val (.int p1), .val (.int p2), .val (.int p3), .val (.int p4), .val (.int (p0 &&& (15 : Int32))), .val (.int (4 : Int32)), .val (.ref b174), .val (.ref b185)] [(.ref b185)])) _
        refine XS.iconst X196.here hx rfl (hb hby at_105) ?_
        show Steps p.tables e below (T196.setTop (mkF m 106 #[.val (.int p0), .val (.int p1), .val (.int p2), .val (.int p3), .val (.int p4), .val (.int (p0 &&& (15 : Int32))), .val (.int (4 : Int32)), .val (.ref b174), .val (.ref b185)] [(.int (2 : Int32)), (.ref b185)])) _
        refine XS.iload X196.here hx rfl (hb hby at_106) rfl ?_
        show Steps p.tables e below (T196.setTop (mkF m 108 #[.val (.int p0), .val (.int p1), .val (.int p2), .val (.int p3), .val (.int p4), .val (.int (p0 &&& (15 : Int32))), .val (.int (4 : Int32)), .val (.ref b174), .val (.ref b185)] [(.int (4 : Int32)), (.int (2 : Int32)), (.ref b185)])) _
        refine XS.iloadN X196.here hx rfl (hb hby at_108) rfl ?_
        show Steps p.tables e below (T196.setTop (mkF m 109 #[.val (.int p0), .val (.int p1), .val (.int p2), .val (.int p3), .val (.int p4), .val (.int (p0 &&& (15 : Int32))), .val (.int (4 : Int32)), .val (.ref b174), .val (.ref b185)] [(.int p1), (.int (4 : Int32)), (.int (2 : Int32)), (.ref b185)])) _
        refine XS.iloadN X196.here hx rfl (hb hby at_109) rfl ?_
        show Steps p.tables e below (T196.setTop (mkF m 110 #[.val (.int p0), .val (.int p1), .val (.int p2), .val (.int p3), .val (.int p4), .val (.int (p0 &&& (15 : Int32))), .val (.int (4 : Int32)), .val (.ref b174), .val (.ref b185)] [(.int p2), (.int p1), (.int (4 : Int32)), (.int (2 : Int32)), (.ref b185)])) _
        refine XS.iload X196.here hx rfl (hb hby at_110) rfl ?_
        show Steps p.tables e below (T196.setTop (mkF m 112 #[.val (.int p0), .val (.int p1), .val (.int p2), .val (.int p3), .val (.int p4), .val (.int (p0 &&& (15 : Int32))), .val (.int (4 : Int32)), .val (.ref b174), .val (.ref b185)] [(.int p4), (.int p2), (.int p1), (.int (4 : Int32)), (.int (2 : Int32)), (.ref b185)])) _
        exact kt)
    obtain ⟨_, _, ⟨T199, L199, k199, n199⟩, -, X199, ⟨Lc199, hQ199, l199, y199, z199⟩, st199⟩ := Jvm.LawKit.callS X196 hx (y := (⟨"com/example/classweave/classweave/classfile/ClassOutputU4AtPinLaw", "at", "([BIIIII)Z"⟩ : MethodName)) hown (mvT hZ (hw _ (List.mem_of_getElem? (i := 68) rfl))) (mvT hZ (hw _ (List.mem_of_getElem? (i := 69) rfl))) (mvT hZ (hw _ (List.mem_of_getElem? (i := 70) rfl))) (mvT hZ (hw _ (List.mem_of_getElem? (i := 71) rfl))) (by decide) (backOf (W := 0) (rm12 l Z a0 hw [] b185 (2 : Int32) (4 : Int32) p1 p2 p4 (nar .byte (((p1.toUInt32 >>> ((8 : Int32) &&& 31).toUInt32).toInt32).toInt8.toInt32)) [(.int (nar .byte (((((p1.toUInt32 >>> ((16 : Int32) &&& 31).toUInt32).toInt32).toUInt32 >>> ((8 : Int32) &&& 31).toUInt32).toInt32).toInt8.toInt32))), (.int (nar .byte (((p1.toUInt32 >>> ((16 : Int32) &&& 31).toUInt32).toInt32).toInt8.toInt32))), (.int (nar .byte (((p1.toUInt32 >>> ((8 : Int32) &&& 31).toUInt32).toInt32).toInt8.toInt32))), (.int (nar .byte (p1.toInt8.toInt32))), (.int (nar .byte (((p4.toUInt32 >>> ((24 : Int32) &&& 31).toUInt32).toInt32).toInt8.toInt32))), (.int (nar .byte (((p4.toUInt32 >>> ((16 : Int32) &&& 31).toUInt32).toInt32).toInt8.toInt32))), (.int (nar .byte (((p4.toUInt32 >>> ((8 : Int32) &&& 31).toUInt32).toInt32).toInt8.toInt32))), (.int (nar .byte (p4.toInt8.toInt32)))] 2 T185.heap n0 V185 (by decide) (by decide) rfl) hZ (hw _ (List.mem_of_getElem? (i := 71) rfl)) (hw _ (List.mem_of_getElem? (i := 70) rfl)) (by decide) (by decide)) (g := (mkF m 112 #[.val (.int p0), .val (.int p1), .val (.int p2), .val (.int p3), .val (.int p4), .val (.int (p0 &&& (15 : Int32))), .val (.int (4 : Int32)), .val (.ref b174), .val (.ref b185)] [(.int p4), (.int p2), (.int p1), (.int (4 : Int32)), (.int (2 : Int32)), (.ref b185)])) rfl (by rw [hml]; rfl) (argsL := [(.ref b185), (.int (2 : Int32)), (.int (4 : Int32)), (.int p1), (.int p2), (.int p4)]) (rest := []) (lenOf pd_7 rfl) rfl (by show 2 * 0 + _ ≤ _; exact Nat.le_of_eq rfl) (hb hby at_112) (fun _ _ => ⟨rfl, e196, (by decide : 7 + 0 ≤ _), (by decide : 97 + 0 ≤ _)⟩)
    dsimp only [Pt.U, Pt.locs, Pt.cells, Pt.slots] at X199 l199 y199 z199 st199 hQ199
    subst l199 y199 z199
    obtain ⟨rfl, N199q, e199⟩ := hQ199
    have N199 := Fr.app N196 N199q
    have hc115_200 : ¬ ((own_at (nar .byte (((p1.toUInt32 >>> ((8 : Int32) &&& 31).toUInt32).toInt32).toInt8.toInt32)) (2 : Int32) (4 : Int32) p1 p2 p4) = (0 : Int32)) := own_at_4_2 _ _ _
    have go201 : ∀ t, Steps p.tables e below (T199.setTop (mkF m 127 #[.val (.int p0), .val (.int p1), .val (.int p2), .val (.int p3), .val (.int p4), .val (.int (p0 &&& (15 : Int32))), .val (.int (4 : Int32)), .val (.ref b174), .val (.ref b185)] [(.int p4), (.int p2), (.int p1), (.int (4 : Int32)), (.int (3 : Int32)), (.ref b185)])) t → Steps p.tables e below (s₁.setTop (entryFrame m #[(.int p0), (.int p1), (.int p2), (.int p3), (.int p4)] maxLocals)) t := fun t kt => go198 t (by
        refine st199 _ ?_
        show Steps p.tables e below (T199.setTop (mkF m 115 #[.val (.int p0), .val (.int p1), .val (.int p2), .val (.int p3), .val (.int p4), .val (.int (p0 &&& (15 : Int32))), .val (.int (4 : Int32)), .val (.ref b174), .val (.ref b185)] [(.int (own_at (nar .byte (((p1.toUInt32 >>> ((8 : Int32) &&& 31).toUInt32).toInt32).toInt8.toInt32)) (2 : Int32) (4 : Int32) p1 p2 p4))])) _
        refine XS.ifNo X199.here hx rfl (hb hby at_115) rfl ((if0 _ _).trans (feq hc115_200).1) ?_
        show Steps p.tables e below (T199.setTop (mkF m 118 #[.val (.int p0), .val (.int p1), .val (.int p2), .val (.int p3), .val (.int p4), .val (.int (p0 &&& (15 : Int32))), .val (.int (4 : Int32)), .val (.ref b174), .val (.ref b185)] [])) _
        refine XS.aload X199.here hx rfl (hb hby at_118) rfl rfl ?_
        show Steps p.tables e below (T199.setTop (mkF m 120 #[.val (.int p0), .val (.int p1), .val (.int p2), .val (.int p3), .val (.int p4), .val (.int (p0 &&& (15 : Int32))), .val (.int (4 : Int32)), .val (.ref b174), .val (.ref b185)] [(.ref b185)])) _
        refine XS.iconst X199.here hx rfl (hb hby at_120) ?_
        show Steps p.tables e below (T199.setTop (mkF m 121 #[.val (.int p0), .val (.int p1), .val (.int p2), .val (.int p3), .val (.int p4), .val (.int (p0 &&& (15 : Int32))), .val (.int (4 : Int32)), .val (.ref b174), .val (.ref b185)] [(.int (3 : Int32)), (.ref b185)])) _
        refine XS.iload X199.here hx rfl (hb hby at_121) rfl ?_
        show Steps p.tables e below (T199.setTop (mkF m 123 #[.val (.int p0), .val (.int p1), .val (.int p2), .val (.int p3), .val (.int p4), .val (.int (p0 &&& (15 : Int32))), .val (.int (4 : Int32)), .val (.ref b174), .val (.ref b185)] [(.int (4 : Int32)), (.int (3 : Int32)), (.ref b185)])) _
        refine XS.iloadN X199.here hx rfl (hb hby at_123) rfl ?_
        show Steps p.tables e below (T199.setTop (mkF m 124 #[.val (.int p0), .val (.int p1), .val (.int p2), .val (.int p3), .val (.int p4), .val (.int (p0 &&& (15 : Int32))), .val (.int (4 : Int32)), .val (.ref b174), .val (.ref b185)] [(.int p1), (.int (4 : Int32)), (.int (3 : Int32)), (.ref b185)])) _
        refine XS.iloadN X199.here hx rfl (hb hby at_124) rfl ?_
        show Steps p.tables e below (T199.setTop (mkF m 125 #[.val (.int p0), .val (.int p1), .val (.int p2), .val (.int p3), .val (.int p4), .val (.int (p0 &&& (15 : Int32))), .val (.int (4 : Int32)), .val (.ref b174), .val (.ref b185)] [(.int p2), (.int p1), (.int (4 : Int32)), (.int (3 : Int32)), (.ref b185)])) _
        refine XS.iload X199.here hx rfl (hb hby at_125) rfl ?_
        show Steps p.tables e below (T199.setTop (mkF m 127 #[.val (.int p0), .val (.int p1), .val (.int p2), .val (.int p3), .val (.int p4), .val (.int (p0 &&& (15 : Int32))), .val (.int (4 : Int32)), .val (.ref b174), .val (.ref b185)] [(.int p4), (.int p2), (.int p1), (.int (4 : Int32)), (.int (3 : Int32)), (.ref b185)])) _
        exact kt)
    obtain ⟨_, _, ⟨T202, L202, k202, n202⟩, -, X202, ⟨Lc202, hQ202, l202, y202, z202⟩, st202⟩ := Jvm.LawKit.callS X199 hx (y := (⟨"com/example/classweave/classweave/classfile/ClassOutputU4AtPinLaw", "at", "([BIIIII)Z"⟩ : MethodName)) hown (mvT hZ (hw _ (List.mem_of_getElem? (i := 68) rfl))) (mvT hZ (hw _ (List.mem_of_getElem? (i := 69) rfl))) (mvT hZ (hw _ (List.mem_of_getElem? (i := 70) rfl))) (mvT hZ (hw _ (List.mem_of_getElem? (i := 71) rfl))) (by decide) (backOf (W := 0) (rm12 l Z a0 hw [] b185 (3 : Int32) (4 : Int32) p1 p2 p4 (nar .byte (p1.toInt8.toInt32)) [(.int (nar .byte (((((p1.toUInt32 >>> ((16 : Int32) &&& 31).toUInt32).toInt32).toUInt32 >>> ((8 : Int32) &&& 31).toUInt32).toInt32).toInt8.toInt32))), (.int (nar .byte (((p1.toUInt32 >>> ((16 : Int32) &&& 31).toUInt32).toInt32).toInt8.toInt32))), (.int (nar .byte (((p1.toUInt32 >>> ((8 : Int32) &&& 31).toUInt32).toInt32).toInt8.toInt32))), (.int (nar .byte (p1.toInt8.toInt32))), (.int (nar .byte (((p4.toUInt32 >>> ((24 : Int32) &&& 31).toUInt32).toInt32).toInt8.toInt32))), (.int (nar .byte (((p4.toUInt32 >>> ((16 : Int32) &&& 31).toUInt32).toInt32).toInt8.toInt32))), (.int (nar .byte (((p4.toUInt32 >>> ((8 : Int32) &&& 31).toUInt32).toInt32).toInt8.toInt32))), (.int (nar .byte (p4.toInt8.toInt32)))] 3 T185.heap n0 V185 (by decide) (by decide) rfl) hZ (hw _ (List.mem_of_getElem? (i := 71) rfl)) (hw _ (List.mem_of_getElem? (i := 70) rfl)) (by decide) (by decide)) (g := (mkF m 127 #[.val (.int p0), .val (.int p1), .val (.int p2), .val (.int p3), .val (.int p4), .val (.int (p0 &&& (15 : Int32))), .val (.int (4 : Int32)), .val (.ref b174), .val (.ref b185)] [(.int p4), (.int p2), (.int p1), (.int (4 : Int32)), (.int (3 : Int32)), (.ref b185)])) rfl (by rw [hml]; rfl) (argsL := [(.ref b185), (.int (3 : Int32)), (.int (4 : Int32)), (.int p1), (.int p2), (.int p4)]) (rest := []) (lenOf pd_7 rfl) rfl (by show 2 * 0 + _ ≤ _; exact Nat.le_of_eq rfl) (hb hby at_127) (fun _ _ => ⟨rfl, e199, (by decide : 7 + 0 ≤ _), (by decide : 97 + 0 ≤ _)⟩)
    dsimp only [Pt.U, Pt.locs, Pt.cells, Pt.slots] at X202 l202 y202 z202 st202 hQ202
    subst l202 y202 z202
    obtain ⟨rfl, N202q, e202⟩ := hQ202
    have N202 := Fr.app N199 N202q
    have hc130_203 : ¬ ((own_at (nar .byte (p1.toInt8.toInt32)) (3 : Int32) (4 : Int32) p1 p2 p4) = (0 : Int32)) := own_at_4_3 _ _ _
    have go204 : ∀ t, Steps p.tables e below (T202.setTop (mkF m 142 #[.val (.int p0), .val (.int p1), .val (.int p2), .val (.int p3), .val (.int p4), .val (.int (p0 &&& (15 : Int32))), .val (.int (4 : Int32)), .val (.ref b174), .val (.ref b185)] [(.int p4), (.int p2), (.int p1), (.int (4 : Int32)), (.int (4 : Int32)), (.ref b185)])) t → Steps p.tables e below (s₁.setTop (entryFrame m #[(.int p0), (.int p1), (.int p2), (.int p3), (.int p4)] maxLocals)) t := fun t kt => go201 t (by
        refine st202 _ ?_
        show Steps p.tables e below (T202.setTop (mkF m 130 #[.val (.int p0), .val (.int p1), .val (.int p2), .val (.int p3), .val (.int p4), .val (.int (p0 &&& (15 : Int32))), .val (.int (4 : Int32)), .val (.ref b174), .val (.ref b185)] [(.int (own_at (nar .byte (p1.toInt8.toInt32)) (3 : Int32) (4 : Int32) p1 p2 p4))])) _
        refine XS.ifNo X202.here hx rfl (hb hby at_130) rfl ((if0 _ _).trans (feq hc130_203).1) ?_
        show Steps p.tables e below (T202.setTop (mkF m 133 #[.val (.int p0), .val (.int p1), .val (.int p2), .val (.int p3), .val (.int p4), .val (.int (p0 &&& (15 : Int32))), .val (.int (4 : Int32)), .val (.ref b174), .val (.ref b185)] [])) _
        refine XS.aload X202.here hx rfl (hb hby at_133) rfl rfl ?_
        show Steps p.tables e below (T202.setTop (mkF m 135 #[.val (.int p0), .val (.int p1), .val (.int p2), .val (.int p3), .val (.int p4), .val (.int (p0 &&& (15 : Int32))), .val (.int (4 : Int32)), .val (.ref b174), .val (.ref b185)] [(.ref b185)])) _
        refine XS.iconst X202.here hx rfl (hb hby at_135) ?_
        show Steps p.tables e below (T202.setTop (mkF m 136 #[.val (.int p0), .val (.int p1), .val (.int p2), .val (.int p3), .val (.int p4), .val (.int (p0 &&& (15 : Int32))), .val (.int (4 : Int32)), .val (.ref b174), .val (.ref b185)] [(.int (4 : Int32)), (.ref b185)])) _
        refine XS.iload X202.here hx rfl (hb hby at_136) rfl ?_
        show Steps p.tables e below (T202.setTop (mkF m 138 #[.val (.int p0), .val (.int p1), .val (.int p2), .val (.int p3), .val (.int p4), .val (.int (p0 &&& (15 : Int32))), .val (.int (4 : Int32)), .val (.ref b174), .val (.ref b185)] [(.int (4 : Int32)), (.int (4 : Int32)), (.ref b185)])) _
        refine XS.iloadN X202.here hx rfl (hb hby at_138) rfl ?_
        show Steps p.tables e below (T202.setTop (mkF m 139 #[.val (.int p0), .val (.int p1), .val (.int p2), .val (.int p3), .val (.int p4), .val (.int (p0 &&& (15 : Int32))), .val (.int (4 : Int32)), .val (.ref b174), .val (.ref b185)] [(.int p1), (.int (4 : Int32)), (.int (4 : Int32)), (.ref b185)])) _
        refine XS.iloadN X202.here hx rfl (hb hby at_139) rfl ?_
        show Steps p.tables e below (T202.setTop (mkF m 140 #[.val (.int p0), .val (.int p1), .val (.int p2), .val (.int p3), .val (.int p4), .val (.int (p0 &&& (15 : Int32))), .val (.int (4 : Int32)), .val (.ref b174), .val (.ref b185)] [(.int p2), (.int p1), (.int (4 : Int32)), (.int (4 : Int32)), (.ref b185)])) _
        refine XS.iload X202.here hx rfl (hb hby at_140) rfl ?_
        show Steps p.tables e below (T202.setTop (mkF m 142 #[.val (.int p0), .val (.int p1), .val (.int p2), .val (.int p3), .val (.int p4), .val (.int (p0 &&& (15 : Int32))), .val (.int (4 : Int32)), .val (.ref b174), .val (.ref b185)] [(.int p4), (.int p2), (.int p1), (.int (4 : Int32)), (.int (4 : Int32)), (.ref b185)])) _
        exact kt)
    obtain ⟨_, _, ⟨T205, L205, k205, n205⟩, -, X205, ⟨Lc205, hQ205, l205, y205, z205⟩, st205⟩ := Jvm.LawKit.callS X202 hx (y := (⟨"com/example/classweave/classweave/classfile/ClassOutputU4AtPinLaw", "at", "([BIIIII)Z"⟩ : MethodName)) hown (mvT hZ (hw _ (List.mem_of_getElem? (i := 68) rfl))) (mvT hZ (hw _ (List.mem_of_getElem? (i := 69) rfl))) (mvT hZ (hw _ (List.mem_of_getElem? (i := 70) rfl))) (mvT hZ (hw _ (List.mem_of_getElem? (i := 71) rfl))) (by decide) (backOf (W := 0) (rm12 l Z a0 hw [] b185 (4 : Int32) (4 : Int32) p1 p2 p4 (nar .byte (((p4.toUInt32 >>> ((24 : Int32) &&& 31).toUInt32).toInt32).toInt8.toInt32)) [(.int (nar .byte (((((p1.toUInt32 >>> ((16 : Int32) &&& 31).toUInt32).toInt32).toUInt32 >>> ((8 : Int32) &&& 31).toUInt32).toInt32).toInt8.toInt32))), (.int (nar .byte (((p1.toUInt32 >>> ((16 : Int32) &&& 31).toUInt32).toInt32).toInt8.toInt32))), (.int (nar .byte (((p1.toUInt32 >>> ((8 : Int32) &&& 31).toUInt32).toInt32).toInt8.toInt32))), (.int (nar .byte (p1.toInt8.toInt32))), (.int (nar .byte (((p4.toUInt32 >>> ((24 : Int32) &&& 31).toUInt32).toInt32).toInt8.toInt32))), (.int (nar .byte (((p4.toUInt32 >>> ((16 : Int32) &&& 31).toUInt32).toInt32).toInt8.toInt32))), (.int (nar .byte (((p4.toUInt32 >>> ((8 : Int32) &&& 31).toUInt32).toInt32).toInt8.toInt32))), (.int (nar .byte (p4.toInt8.toInt32)))] 4 T185.heap n0 V185 (by decide) (by decide) rfl) hZ (hw _ (List.mem_of_getElem? (i := 71) rfl)) (hw _ (List.mem_of_getElem? (i := 70) rfl)) (by decide) (by decide)) (g := (mkF m 142 #[.val (.int p0), .val (.int p1), .val (.int p2), .val (.int p3), .val (.int p4), .val (.int (p0 &&& (15 : Int32))), .val (.int (4 : Int32)), .val (.ref b174), .val (.ref b185)] [(.int p4), (.int p2), (.int p1), (.int (4 : Int32)), (.int (4 : Int32)), (.ref b185)])) rfl (by rw [hml]; rfl) (argsL := [(.ref b185), (.int (4 : Int32)), (.int (4 : Int32)), (.int p1), (.int p2), (.int p4)]) (rest := []) (lenOf pd_7 rfl) rfl (by show 2 * 0 + _ ≤ _; exact Nat.le_of_eq rfl) (hb hby at_142) (fun _ _ => ⟨rfl, e202, (by decide : 7 + 0 ≤ _), (by decide : 97 + 0 ≤ _)⟩)
    dsimp only [Pt.U, Pt.locs, Pt.cells, Pt.slots] at X205 l205 y205 z205 st205 hQ205
    subst l205 y205 z205
    obtain ⟨rfl, N205q, e205⟩ := hQ205
    have N205 := Fr.app N202 N205q
    have hc145_206 : ¬ ((own_at (nar .byte (((p4.toUInt32 >>> ((24 : Int32) &&& 31).toUInt32).toInt32).toInt8.toInt32)) (4 : Int32) (4 : Int32) p1 p2 p4) = (0 : Int32)) := own_at_4_4 _ _ _
    have go207 : ∀ t, Steps p.tables e below (T205.setTop (mkF m 157 #[.val (.int p0), .val (.int p1), .val (.int p2), .val (.int p3), .val (.int p4), .val (.int (p0 &&& (15 : Int32))), .val (.int (4 : Int32)), .val (.ref b174), .val (.ref b185)] [(.int p4), (.int p2), (.int p1), (.int (4 : Int32)), (.int (5 : Int32)), (.ref b185)])) t → Steps p.tables e below (s₁.setTop (entryFrame m #[(.int p0), (.int p1), (.int p2), (.int p3), (.int p4)] maxLocals)) t := fun t kt => go204 t (by
        refine st205 _ ?_
        show Steps p.tables e below (T205.setTop (mkF m 145 #[.val (.int p0), .val (.int p1), .val (.int p2), .val (.int p3), .val (.int p4), .val (.int (p0 &&& (15 : Int32))), .val (.int (4 : Int32)), .val (.ref b174), .val (.ref b185)] [(.int (own_at (nar .byte (((p4.toUInt32 >>> ((24 : Int32) &&& 31).toUInt32).toInt32).toInt8.toInt32)) (4 : Int32) (4 : Int32) p1 p2 p4))])) _
        refine XS.ifNo X205.here hx rfl (hb hby at_145) rfl ((if0 _ _).trans (feq hc145_206).1) ?_
        show Steps p.tables e below (T205.setTop (mkF m 148 #[.val (.int p0), .val (.int p1), .val (.int p2), .val (.int p3), .val (.int p4), .val (.int (p0 &&& (15 : Int32))), .val (.int (4 : Int32)), .val (.ref b174), .val (.ref b185)] [])) _
        refine XS.aload X205.here hx rfl (hb hby at_148) rfl rfl ?_
        show Steps p.tables e below (T205.setTop (mkF m 150 #[.val (.int p0), .val (.int p1), .val (.int p2), .val (.int p3), .val (.int p4), .val (.int (p0 &&& (15 : Int32))), .val (.int (4 : Int32)), .val (.ref b174), .val (.ref b185)] [(.ref b185)])) _
        refine XS.iconst X205.here hx rfl (hb hby at_150) ?_
        show Steps p.tables e below (T205.setTop (mkF m 151 #[.val (.int p0), .val (.int p1), .val (.int p2), .val (.int p3), .val (.int p4), .val (.int (p0 &&& (15 : Int32))), .val (.int (4 : Int32)), .val (.ref b174), .val (.ref b185)] [(.int (5 : Int32)), (.ref b185)])) _
        refine XS.iload X205.here hx rfl (hb hby at_151) rfl ?_
        show Steps p.tables e below (T205.setTop (mkF m 153 #[.val (.int p0), .val (.int p1), .val (.int p2), .val (.int p3), .val (.int p4), .val (.int (p0 &&& (15 : Int32))), .val (.int (4 : Int32)), .val (.ref b174), .val (.ref b185)] [(.int (4 : Int32)), (.int (5 : Int32)), (.ref b185)])) _
        refine XS.iloadN X205.here hx rfl (hb hby at_153) rfl ?_
        show Steps p.tables e below (T205.setTop (mkF m 154 #[.val (.int p0), .val (.int p1), .val (.int p2), .val (.int p3), .val (.int p4), .val (.int (p0 &&& (15 : Int32))), .val (.int (4 : Int32)), .val (.ref b174), .val (.ref b185)] [(.int p1), (.int (4 : Int32)), (.int (5 : Int32)), (.ref b185)])) _
        refine XS.iloadN X205.here hx rfl (hb hby at_154) rfl ?_
        show Steps p.tables e below (T205.setTop (mkF m 155 #[.val (.int p0), .val (.int p1), .val (.int p2), .val (.int p3), .val (.int p4), .val (.int (p0 &&& (15 : Int32))), .val (.int (4 : Int32)), .val (.ref b174), .val (.ref b185)] [(.int p2), (.int p1), (.int (4 : Int32)), (.int (5 : Int32)), (.ref b185)])) _
        refine XS.iload X205.here hx rfl (hb hby at_155) rfl ?_
        show Steps p.tables e below (T205.setTop (mkF m 157 #[.val (.int p0), .val (.int p1), .val (.int p2), .val (.int p3), .val (.int p4), .val (.int (p0 &&& (15 : Int32))), .val (.int (4 : Int32)), .val (.ref b174), .val (.ref b185)] [(.int p4), (.int p2), (.int p1), (.int (4 : Int32)), (.int (5 : Int32)), (.ref b185)])) _
        exact kt)
    obtain ⟨_, _, ⟨T208, L208, k208, n208⟩, -, X208, ⟨Lc208, hQ208, l208, y208, z208⟩, st208⟩ := Jvm.LawKit.callS X205 hx (y := (⟨"com/example/classweave/classweave/classfile/ClassOutputU4AtPinLaw", "at", "([BIIIII)Z"⟩ : MethodName)) hown (mvT hZ (hw _ (List.mem_of_getElem? (i := 68) rfl))) (mvT hZ (hw _ (List.mem_of_getElem? (i := 69) rfl))) (mvT hZ (hw _ (List.mem_of_getElem? (i := 70) rfl))) (mvT hZ (hw _ (List.mem_of_getElem? (i := 71) rfl))) (by decide) (backOf (W := 0) (rm12 l Z a0 hw [] b185 (5 : Int32) (4 : Int32) p1 p2 p4 (nar .byte (((p4.toUInt32 >>> ((16 : Int32) &&& 31).toUInt32).toInt32).toInt8.toInt32)) [(.int (nar .byte (((((p1.toUInt32 >>> ((16 : Int32) &&& 31).toUInt32).toInt32).toUInt32 >>> ((8 : Int32) &&& 31).toUInt32).toInt32).toInt8.toInt32))), (.int (nar .byte (((p1.toUInt32 >>> ((16 : Int32) &&& 31).toUInt32).toInt32).toInt8.toInt32))), (.int (nar .byte (((p1.toUInt32 >>> ((8 : Int32) &&& 31).toUInt32).toInt32).toInt8.toInt32))), (.int (nar .byte (p1.toInt8.toInt32))), (.int (nar .byte (((p4.toUInt32 >>> ((24 : Int32) &&& 31).toUInt32).toInt32).toInt8.toInt32))), (.int (nar .byte (((p4.toUInt32 >>> ((16 : Int32) &&& 31).toUInt32).toInt32).toInt8.toInt32))), (.int (nar .byte (((p4.toUInt32 >>> ((8 : Int32) &&& 31).toUInt32).toInt32).toInt8.toInt32))), (.int (nar .byte (p4.toInt8.toInt32)))] 5 T185.heap n0 V185 (by decide) (by decide) rfl) hZ (hw _ (List.mem_of_getElem? (i := 71) rfl)) (hw _ (List.mem_of_getElem? (i := 70) rfl)) (by decide) (by decide)) (g := (mkF m 157 #[.val (.int p0), .val (.int p1), .val (.int p2), .val (.int p3), .val (.int p4), .val (.int (p0 &&& (15 : Int32))), .val (.int (4 : Int32)), .val (.ref b174), .val (.ref b185)] [(.int p4), (.int p2), (.int p1), (.int (4 : Int32)), (.int (5 : Int32)), (.ref b185)])) rfl (by rw [hml]; rfl) (argsL := [(.ref b185), (.int (5 : Int32)), (.int (4 : Int32)), (.int p1), (.int p2), (.int p4)]) (rest := []) (lenOf pd_7 rfl) rfl (by show 2 * 0 + _ ≤ _; exact Nat.le_of_eq rfl) (hb hby at_157) (fun _ _ => ⟨rfl, e205, (by decide : 7 + 0 ≤ _), (by decide : 97 + 0 ≤ _)⟩)
    dsimp only [Pt.U, Pt.locs, Pt.cells, Pt.slots] at X208 l208 y208 z208 st208 hQ208
    subst l208 y208 z208
    obtain ⟨rfl, N208q, e208⟩ := hQ208
    have N208 := Fr.app N205 N208q
    have hc160_209 : ¬ ((own_at (nar .byte (((p4.toUInt32 >>> ((16 : Int32) &&& 31).toUInt32).toInt32).toInt8.toInt32)) (5 : Int32) (4 : Int32) p1 p2 p4) = (0 : Int32)) := own_at_4_5 _ _ _
    have go210 : ∀ t, Steps p.tables e below (T208.setTop (mkF m 173 #[.val (.int p0), .val (.int p1), .val (.int p2), .val (.int p3), .val (.int p4), .val (.int (p0 &&& (15 : Int32))), .val (.int (4 : Int32)), .val (.ref b174), .val (.ref b185)] [(.int p4), (.int p2), (.int p1), (.int (4 : Int32)), (.int (6 : Int32)), (.ref b185)])) t → Steps p.tables e below (s₁.setTop (entryFrame m #[(.int p0), (.int p1), (.int p2), (.int p3), (.int p4)] maxLocals)) t := fun t kt => go207 t (by
        refine st208 _ ?_
        show Steps p.tables e below (T208.setTop (mkF m 160 #[.val (.int p0), .val (.int p1), .val (.int p2), .val (.int p3), .val (.int p4), .val (.int (p0 &&& (15 : Int32))), .val (.int (4 : Int32)), .val (.ref b174), .val (.ref b185)] [(.int (own_at (nar .byte (((p4.toUInt32 >>> ((16 : Int32) &&& 31).toUInt32).toInt32).toInt8.toInt32)) (5 : Int32) (4 : Int32) p1 p2 p4))])) _
        refine XS.ifNo X208.here hx rfl (hb hby at_160) rfl ((if0 _ _).trans (feq hc160_209).1) ?_
        show Steps p.tables e below (T208.setTop (mkF m 163 #[.val (.int p0), .val (.int p1), .val (.int p2), .val (.int p3), .val (.int p4), .val (.int (p0 &&& (15 : Int32))), .val (.int (4 : Int32)), .val (.ref b174), .val (.ref b185)] [])) _
        refine XS.aload X208.here hx rfl (hb hby at_163) rfl rfl ?_
        show Steps p.tables e below (T208.setTop (mkF m 165 #[.val (.int p0), .val (.int p1), .val (.int p2), .val (.int p3), .val (.int p4), .val (.int (p0 &&& (15 : Int32))), .val (.int (4 : Int32)), .val (.ref b174), .val (.ref b185)] [(.ref b185)])) _
        refine XS.bipush X208.here hx rfl (hb hby at_165) ?_
        show Steps p.tables e below (T208.setTop (mkF m 167 #[.val (.int p0), .val (.int p1), .val (.int p2), .val (.int p3), .val (.int p4), .val (.int (p0 &&& (15 : Int32))), .val (.int (4 : Int32)), .val (.ref b174), .val (.ref b185)] [(.int (6 : Int32)), (.ref b185)])) _
        refine XS.iload X208.here hx rfl (hb hby at_167) rfl ?_
        show Steps p.tables e below (T208.setTop (mkF m 169 #[.val (.int p0), .val (.int p1), .val (.int p2), .val (.int p3), .val (.int p4), .val (.int (p0 &&& (15 : Int32))), .val (.int (4 : Int32)), .val (.ref b174), .val (.ref b185)] [(.int (4 : Int32)), (.int (6 : Int32)), (.ref b185)])) _
        refine XS.iloadN X208.here hx rfl (hb hby at_169) rfl ?_
        show Steps p.tables e below (T208.setTop (mkF m 170 #[.val (.int p0), .val (.int p1), .val (.int p2), .val (.int p3), .val (.int p4), .val (.int (p0 &&& (15 : Int32))), .val (.int (4 : Int32)), .val (.ref b174), .val (.ref b185)] [(.int p1), (.int (4 : Int32)), (.int (6 : Int32)), (.ref b185)])) _
        refine XS.iloadN X208.here hx rfl (hb hby at_170) rfl ?_
        show Steps p.tables e below (T208.setTop (mkF m 171 #[.val (.int p0), .val (.int p1), .val (.int p2), .val (.int p3), .val (.int p4), .val (.int (p0 &&& (15 : Int32))), .val (.int (4 : Int32)), .val (.ref b174), .val (.ref b185)] [(.int p2), (.int p1), (.int (4 : Int32)), (.int (6 : Int32)), (.ref b185)])) _
        refine XS.iload X208.here hx rfl (hb hby at_171) rfl ?_
        show Steps p.tables e below (T208.setTop (mkF m 173 #[.val (.int p0), .val (.int p1), .val (.int p2), .val (.int p3), .val (.int p4), .val (.int (p0 &&& (15 : Int32))), .val (.int (4 : Int32)), .val (.ref b174), .val (.ref b185)] [(.int p4), (.int p2), (.int p1), (.int (4 : Int32)), (.int (6 : Int32)), (.ref b185)])) _
        exact kt)
    obtain ⟨_, _, ⟨T211, L211, k211, n211⟩, -, X211, ⟨Lc211, hQ211, l211, y211, z211⟩, st211⟩ := Jvm.LawKit.callS X208 hx (y := (⟨"com/example/classweave/classweave/classfile/ClassOutputU4AtPinLaw", "at", "([BIIIII)Z"⟩ : MethodName)) hown (mvT hZ (hw _ (List.mem_of_getElem? (i := 68) rfl))) (mvT hZ (hw _ (List.mem_of_getElem? (i := 69) rfl))) (mvT hZ (hw _ (List.mem_of_getElem? (i := 70) rfl))) (mvT hZ (hw _ (List.mem_of_getElem? (i := 71) rfl))) (by decide) (backOf (W := 0) (rm12 l Z a0 hw [] b185 (6 : Int32) (4 : Int32) p1 p2 p4 (nar .byte (((p4.toUInt32 >>> ((8 : Int32) &&& 31).toUInt32).toInt32).toInt8.toInt32)) [(.int (nar .byte (((((p1.toUInt32 >>> ((16 : Int32) &&& 31).toUInt32).toInt32).toUInt32 >>> ((8 : Int32) &&& 31).toUInt32).toInt32).toInt8.toInt32))), (.int (nar .byte (((p1.toUInt32 >>> ((16 : Int32) &&& 31).toUInt32).toInt32).toInt8.toInt32))), (.int (nar .byte (((p1.toUInt32 >>> ((8 : Int32) &&& 31).toUInt32).toInt32).toInt8.toInt32))), (.int (nar .byte (p1.toInt8.toInt32))), (.int (nar .byte (((p4.toUInt32 >>> ((24 : Int32) &&& 31).toUInt32).toInt32).toInt8.toInt32))), (.int (nar .byte (((p4.toUInt32 >>> ((16 : Int32) &&& 31).toUInt32).toInt32).toInt8.toInt32))), (.int (nar .byte (((p4.toUInt32 >>> ((8 : Int32) &&& 31).toUInt32).toInt32).toInt8.toInt32))), (.int (nar .byte (p4.toInt8.toInt32)))] 6 T185.heap n0 V185 (by decide) (by decide) rfl) hZ (hw _ (List.mem_of_getElem? (i := 71) rfl)) (hw _ (List.mem_of_getElem? (i := 70) rfl)) (by decide) (by decide)) (g := (mkF m 173 #[.val (.int p0), .val (.int p1), .val (.int p2), .val (.int p3), .val (.int p4), .val (.int (p0 &&& (15 : Int32))), .val (.int (4 : Int32)), .val (.ref b174), .val (.ref b185)] [(.int p4), (.int p2), (.int p1), (.int (4 : Int32)), (.int (6 : Int32)), (.ref b185)])) rfl (by rw [hml]; rfl) (argsL := [(.ref b185), (.int (6 : Int32)), (.int (4 : Int32)), (.int p1), (.int p2), (.int p4)]) (rest := []) (lenOf pd_7 rfl) rfl (by show 2 * 0 + _ ≤ _; exact Nat.le_of_eq rfl) (hb hby at_173) (fun _ _ => ⟨rfl, e208, (by decide : 7 + 0 ≤ _), (by decide : 97 + 0 ≤ _)⟩)
    dsimp only [Pt.U, Pt.locs, Pt.cells, Pt.slots] at X211 l211 y211 z211 st211 hQ211
    subst l211 y211 z211
    obtain ⟨rfl, N211q, e211⟩ := hQ211
    have N211 := Fr.app N208 N211q
    have hc176_212 : ¬ ((own_at (nar .byte (((p4.toUInt32 >>> ((8 : Int32) &&& 31).toUInt32).toInt32).toInt8.toInt32)) (6 : Int32) (4 : Int32) p1 p2 p4) = (0 : Int32)) := own_at_4_6 _ _ _
    have go213 : ∀ t, Steps p.tables e below (T211.setTop (mkF m 189 #[.val (.int p0), .val (.int p1), .val (.int p2), .val (.int p3), .val (.int p4), .val (.int (p0 &&& (15 : Int32))), .val (.int (4 : Int32)), .val (.ref b174), .val (.ref b185)] [(.int p4), (.int p2), (.int p1), (.int (4 : Int32)), (.int (7 : Int32)), (.ref b185)])) t → Steps p.tables e below (s₁.setTop (entryFrame m #[(.int p0), (.int p1), (.int p2), (.int p3), (.int p4)] maxLocals)) t := fun t kt => go210 t (by
        refine st211 _ ?_
        show Steps p.tables e below (T211.setTop (mkF m 176 #[.val (.int p0), .val (.int p1), .val (.int p2), .val (.int p3), .val (.int p4), .val (.int (p0 &&& (15 : Int32))), .val (.int (4 : Int32)), .val (.ref b174), .val (.ref b185)] [(.int (own_at (nar .byte (((p4.toUInt32 >>> ((8 : Int32) &&& 31).toUInt32).toInt32).toInt8.toInt32)) (6 : Int32) (4 : Int32) p1 p2 p4))])) _
        refine XS.ifNo X211.here hx rfl (hb hby at_176) rfl ((if0 _ _).trans (feq hc176_212).1) ?_
        show Steps p.tables e below (T211.setTop (mkF m 179 #[.val (.int p0), .val (.int p1), .val (.int p2), .val (.int p3), .val (.int p4), .val (.int (p0 &&& (15 : Int32))), .val (.int (4 : Int32)), .val (.ref b174), .val (.ref b185)] [])) _
        refine XS.aload X211.here hx rfl (hb hby at_179) rfl rfl ?_
        show Steps p.tables e below (T211.setTop (mkF m 181 #[.val (.int p0), .val (.int p1), .val (.int p2), .val (.int p3), .val (.int p4), .val (.int (p0 &&& (15 : Int32))), .val (.int (4 : Int32)), .val (.ref b174), .val (.ref b185)] [(.ref b185)])) _
        refine XS.bipush X211.here hx rfl (hb hby at_181) ?_
        show Steps p.tables e below (T211.setTop (mkF m 183 #[.val (.int p0), .val (.int p1), .val (.int p2), .val (.int p3), .val (.int p4), .val (.int (p0 &&& (15 : Int32))), .val (.int (4 : Int32)), .val (.ref b174), .val (.ref b185)] [(.int (7 : Int32)), (.ref b185)])) _
        refine XS.iload X211.here hx rfl (hb hby at_183) rfl ?_
        show Steps p.tables e below (T211.setTop (mkF m 185 #[.val (.int p0), .val (.int p1), .val (.int p2), .val (.int p3), .val (.int p4), .val (.int (p0 &&& (15 : Int32))), .val (.int (4 : Int32)), .val (.ref b174), .val (.ref b185)] [(.int (4 : Int32)), (.int (7 : Int32)), (.ref b185)])) _
        refine XS.iloadN X211.here hx rfl (hb hby at_185) rfl ?_
        show Steps p.tables e below (T211.setTop (mkF m 186 #[.val (.int p0), .val (.int p1), .val (.int p2), .val (.int p3), .val (.int p4), .val (.int (p0 &&& (15 : Int32))), .val (.int (4 : Int32)), .val (.ref b174), .val (.ref b185)] [(.int p1), (.int (4 : Int32)), (.int (7 : Int32)), (.ref b185)])) _
        refine XS.iloadN X211.here hx rfl (hb hby at_186) rfl ?_
        show Steps p.tables e below (T211.setTop (mkF m 187 #[.val (.int p0), .val (.int p1), .val (.int p2), .val (.int p3), .val (.int p4), .val (.int (p0 &&& (15 : Int32))), .val (.int (4 : Int32)), .val (.ref b174), .val (.ref b185)] [(.int p2), (.int p1), (.int (4 : Int32)), (.int (7 : Int32)), (.ref b185)])) _
        refine XS.iload X211.here hx rfl (hb hby at_187) rfl ?_
        show Steps p.tables e below (T211.setTop (mkF m 189 #[.val (.int p0), .val (.int p1), .val (.int p2), .val (.int p3), .val (.int p4), .val (.int (p0 &&& (15 : Int32))), .val (.int (4 : Int32)), .val (.ref b174), .val (.ref b185)] [(.int p4), (.int p2), (.int p1), (.int (4 : Int32)), (.int (7 : Int32)), (.ref b185)])) _
        exact kt)
    obtain ⟨_, _, ⟨T214, L214, k214, n214⟩, -, X214, ⟨Lc214, hQ214, l214, y214, z214⟩, st214⟩ := Jvm.LawKit.callS X211 hx (y := (⟨"com/example/classweave/classweave/classfile/ClassOutputU4AtPinLaw", "at", "([BIIIII)Z"⟩ : MethodName)) hown (mvT hZ (hw _ (List.mem_of_getElem? (i := 68) rfl))) (mvT hZ (hw _ (List.mem_of_getElem? (i := 69) rfl))) (mvT hZ (hw _ (List.mem_of_getElem? (i := 70) rfl))) (mvT hZ (hw _ (List.mem_of_getElem? (i := 71) rfl))) (by decide) (backOf (W := 0) (rm12 l Z a0 hw [] b185 (7 : Int32) (4 : Int32) p1 p2 p4 (nar .byte (p4.toInt8.toInt32)) [(.int (nar .byte (((((p1.toUInt32 >>> ((16 : Int32) &&& 31).toUInt32).toInt32).toUInt32 >>> ((8 : Int32) &&& 31).toUInt32).toInt32).toInt8.toInt32))), (.int (nar .byte (((p1.toUInt32 >>> ((16 : Int32) &&& 31).toUInt32).toInt32).toInt8.toInt32))), (.int (nar .byte (((p1.toUInt32 >>> ((8 : Int32) &&& 31).toUInt32).toInt32).toInt8.toInt32))), (.int (nar .byte (p1.toInt8.toInt32))), (.int (nar .byte (((p4.toUInt32 >>> ((24 : Int32) &&& 31).toUInt32).toInt32).toInt8.toInt32))), (.int (nar .byte (((p4.toUInt32 >>> ((16 : Int32) &&& 31).toUInt32).toInt32).toInt8.toInt32))), (.int (nar .byte (((p4.toUInt32 >>> ((8 : Int32) &&& 31).toUInt32).toInt32).toInt8.toInt32))), (.int (nar .byte (p4.toInt8.toInt32)))] 7 T185.heap n0 V185 (by decide) (by decide) rfl) hZ (hw _ (List.mem_of_getElem? (i := 71) rfl)) (hw _ (List.mem_of_getElem? (i := 70) rfl)) (by decide) (by decide)) (g := (mkF m 189 #[.val (.int p0), .val (.int p1), .val (.int p2), .val (.int p3), .val (.int p4), .val (.int (p0 &&& (15 : Int32))), .val (.int (4 : Int32)), .val (.ref b174), .val (.ref b185)] [(.int p4), (.int p2), (.int p1), (.int (4 : Int32)), (.int (7 : Int32)), (.ref b185)])) rfl (by rw [hml]; rfl) (argsL := [(.ref b185), (.int (7 : Int32)), (.int (4 : Int32)), (.int p1), (.int p2), (.int p4)]) (rest := []) (lenOf pd_7 rfl) rfl (by show 2 * 0 + _ ≤ _; exact Nat.le_of_eq rfl) (hb hby at_189) (fun _ _ => ⟨rfl, e211, (by decide : 7 + 0 ≤ _), (by decide : 97 + 0 ≤ _)⟩)
    dsimp only [Pt.U, Pt.locs, Pt.cells, Pt.slots] at X214 l214 y214 z214 st214 hQ214
    subst l214 y214 z214
    obtain ⟨rfl, N214q, e214⟩ := hQ214
    have N214 := Fr.app N211 N214q
    have hc192_215 : ¬ ((own_at (nar .byte (p4.toInt8.toInt32)) (7 : Int32) (4 : Int32) p1 p2 p4) = (0 : Int32)) := own_at_4_7 _ _ _
    have go216 : ∀ t, Steps p.tables e below (T214.setTop (mkF m 200 #[.val (.int p0), .val (.int p1), .val (.int p2), .val (.int p3), .val (.int p4), .val (.int (p0 &&& (15 : Int32))), .val (.int (4 : Int32)), .val (.ref b174), .val (.ref b185)] [(.int (1 : Int32))])) t → Steps p.tables e below (s₁.setTop (entryFrame m #[(.int p0), (.int p1), (.int p2), (.int p3), (.int p4)] maxLocals)) t := fun t kt => go213 t (by
        refine st214 _ ?_
        show Steps p.tables e below (T214.setTop (mkF m 192 #[.val (.int p0), .val (.int p1), .val (.int p2), .val (.int p3), .val (.int p4), .val (.int (p0 &&& (15 : Int32))), .val (.int (4 : Int32)), .val (.ref b174), .val (.ref b185)] [(.int (own_at (nar .byte (p4.toInt8.toInt32)) (7 : Int32) (4 : Int32) p1 p2 p4))])) _
        refine XS.ifNo X214.here hx rfl (hb hby at_192) rfl ((if0 _ _).trans (feq hc192_215).1) ?_
        show Steps p.tables e below (T214.setTop (mkF m 195 #[.val (.int p0), .val (.int p1), .val (.int p2), .val (.int p3), .val (.int p4), .val (.int (p0 &&& (15 : Int32))), .val (.int (4 : Int32)), .val (.ref b174), .val (.ref b185)] [])) _
        refine XS.iconst X214.here hx rfl (hb hby at_195) ?_
        show Steps p.tables e below (T214.setTop (mkF m 196 #[.val (.int p0), .val (.int p1), .val (.int p2), .val (.int p3), .val (.int p4), .val (.int (p0 &&& (15 : Int32))), .val (.int (4 : Int32)), .val (.ref b174), .val (.ref b185)] [(.int (1 : Int32))])) _
        refine XS.goto X214.here hx rfl (pc0 := 196) (pc' := 200) rfl (hb hby at_196) (by decide) (by decide) ?_
        show Steps p.tables e below (T214.setTop (mkF m 200 #[.val (.int p0), .val (.int p1), .val (.int p2), .val (.int p3), .val (.int p4), .val (.int (p0 &&& (15 : Int32))), .val (.int (4 : Int32)), .val (.ref b174), .val (.ref b185)] [(.int (1 : Int32))])) _
        exact kt)
    obtain ⟨fs, hr, hrun, hended, hW, hsame⟩ := X214.leave (v := some (.int (1 : Int32))) (fun h => by rw [Bd.returns] at h; cases h)
    refine ⟨_, _, go216 _ (retN X214 hx (t := .boolean) Bd.returns (by simp) (hb hby at_200) hr), hrun, hended, _, _, rfl, ?_, ⟨_, rfl⟩, hW, hsame.mono (by decide) (by decide)⟩
    exact ⟨rfl, N214⟩
set_option maxRecDepth 65536 in
set_option maxHeartbeats 40000000 in
theorem comes_1 {Post : Tables → Env → Array Value → State → Outcome → State → Prop} (hpost : ∀ tb e args s v u, (limb_1_1.after args s (.returned v) u = true ∧ limb_1_2.after args s (.returned v) u = true ∧ True) → FrameEnd s (.returned v) u (Jvm.fieldLocs frame_1_writes args s ++ Jvm.arrayLocs frame_1_arrays args s ++ Jvm.staticLocs frame_1_statics s) 24 128 → Post tb e args s (.returned v) u) :
    ArmFor flags0 classFile x code maxLocals ret World_1 tables_1 room_1 Calls_1 rest_1 Pre_1 Post := by
  intro l hfl _ _ p e ha hc hk s m args below hf hA hF happ hP
  obtain ⟨hcalls, hrest, hpre⟩ := hP
  obtain ⟨-, -, -, hnamed, -, -, -, hat⟩ := (Spec.applies_iff hf).mp happ
  obtain ⟨hg, hn⟩ := and_e (Cond.before_iff.mp (show (Jvm.Cond.and given_1 narrow_1).before args s = true from hpre))
  obtain ⟨g1, g2⟩ := and_e hg
  obtain ⟨g3, g4⟩ := and_e g2
  obtain ⟨g5, g6⟩ := and_e g4
  obtain ⟨g7, g8⟩ := and_e g6
  obtain ⟨g9, g10⟩ := and_e g8
  obtain ⟨w0, w1, w2, w3, w4, rfl⟩ : ∃ w0 w1 w2 w3 w4 : Value, args = #[w0, w1, w2, w3, w4] := by
    have hs : args.size = 5 := by simpa [Cond.value, given_1] using g1
    obtain ⟨L⟩ := args
    match L, hs with
    | [w0, w1, w2, w3, w4], _ => exact ⟨w0, w1, w2, w3, w4, rfl⟩
  have hw := fun d (hd : d ∈ tables_1) => atoms_spec (ws := Jvm.Cond.code x code maxLocals ret :: tables_1) hat d (List.mem_cons_of_mem _ hd)
  have hfit : Fit s := fun {y c} hc i hi => by
    obtain ⟨ha, rfl⟩ := Array.getElem?_eq_some_iff.mp hc
    have q := List.all_eq_true.mp ((Array.all_eq_true_iff_forall_mem.mp hF) _ (Array.getElem_mem ha)) i (List.mem_range.mpr hi)
    simpa [Array.getElem?_eq_getElem hi] using q
  obtain ⟨i0, ei0⟩ := is_v g3
  obtain rfl : w0 = (.int i0) := Option.some.inj ei0
  obtain ⟨i1, ei1⟩ := is_v g5
  obtain rfl : w1 = (.int i1) := Option.some.inj ei1
  obtain ⟨i2, ei2⟩ := is_v g7
  obtain rfl : w2 = (.int i2) := Option.some.inj ei2
  obtain ⟨i3, ei3⟩ := is_v g9
  obtain rfl : w3 = (.int i3) := Option.some.inj ei3
  obtain ⟨i4, ei4⟩ := is_v g10
  obtain rfl : w4 = (.int i4) := Option.some.inj ei4
  obtain ⟨n, o, h1, h2, h3, v, L, rfl, ⟨hv, N⟩, hq⟩ := rm0 l s _ hw tables_1 i0 i1 i2 i3 i4  s.heap s.heap.size (Nat.le_refl _) p e ha hc hk s m _ below hf ((Spec.applies_iff_loose hf).mp happ).1 ⟨rfl, State.Warmed39.refl s, rfl⟩ trivial
  obtain rfl : v = some (.int 1) := hv
  refine ⟨n, _, h1, h2, h3, hpost _ _ _ _ _ _ ⟨Cond.after_iff.mpr rfl, Cond.after_iff.mpr (eq_i res_at (Term.int_eval (1)) rfl), trivial⟩ ⟨hq.1, hq.2.1, (hq.2.2.sift fun y hy => Or.inr (N y hy)).mono (by decide) (by decide)⟩⟩
theorem main_1_1 : Claimed_1_1 := comes_1 fun _ _ _ _ _ _ h hF => ⟨h.1, hF⟩
theorem main_1_2 : Claimed_1_2 := comes_1 fun _ _ _ _ _ _ h hF => ⟨h.2.1, hF⟩
end Jvm.Pilot.@@N@@
namespace Jvm.Pilot.@@N@@
open Jvm Jvm.ClassFile Sem Op Lib Jvm.Free Jvm.Stand Jvm.Pilot.@@N@@.Jvm.D
/-! MADE BY PROGRAM (witnessworld.py) out of the Statement's table words and the real class files: 12 classes; the members and pool entries that the words name. The judged class is class 1, her method 1. -/
namespace start1
open Jvm.ClassFile
def u (s : String) : CpInfo := .utf8 (stringToUtf16 s)
/-- a pool by its gaps: so many unusable entries, then the entry; so many at the end -/
def gap : Nat → List CpInfo → List CpInfo
  | 0, r => r
  | n + 1, r => .unusable :: gap n r
def poolList (es : List (Nat × CpInfo)) (last : Nat) : List CpInfo := es.foldr (fun e r => gap e.1 (e.2 :: r)) (gap last [])
def pool (es : List (Nat × CpInfo)) (last : Nat) : Array CpInfo := ⟨poolList es last⟩
def fileOf (pool : Array CpInfo) (this : Nat) (attrs : Array Attribute := #[]) (ms : Array MethodInfo := #[]) (fl : Nat := 33) (sup : Nat := 0) (ifs : Array Nat := #[]) (fds : Array FieldInfo := #[]) : ClassFile where
  minorVersion := 0
  majorVersion := 65
  constantPool := pool
  accessFlags := fl
  thisClass := this
  superClass := sup
  interfaces := ifs
  fields := fds
  methods := ms
  attributes := attrs
def plain (name : String) (sup : Option ClassId) : Class where
  name := name
  kind := .ordinary
  loader := none
  accessFlags := 33
  super := sup
  interfaces := #[]
  cf := none
  fields := #[]
  methods := #[]
  instanceTypes := #[]
  staticTypes := #[]
  resolved := #[]
  callSites := []
  init := .initialized
  statics := none
  mirror := none

def pool0 : Array CpInfo := pool [(5, u "<init>"), (0, u "()V"), (1, .class_ 10), (1, u "java/lang/Object"), (85, u "clone"), (0, u "()Ljava/lang/Object;")] 26

def k0c0 : Code := { maxStack := 0, maxLocals := 1, code := object_method_1_code, exceptionTable := #[], attributes := #[] }
def k0m0 : Method := { name := "<init>", desc := "()V", sig := { parameters := [], returnType := none }, accessFlags := 1, code := some k0c0 }
def k0m1 : Method := { name := "clone", desc := "()Ljava/lang/Object;", sig := { parameters := [], returnType := some (.object "java/lang/Object") }, accessFlags := 260, code := none }
/-- java/lang/Object -/
def k0 : Class := { plain "java/lang/Object" none with
  accessFlags := 33
  interfaces := #[]
  cf := some (fileOf pool0 8 #[] #[{ accessFlags := 1, nameIndex := 5, descriptorIndex := 6, attributes := #[] }, { accessFlags := 260, nameIndex := 96, descriptorIndex := 97, attributes := #[] }] 33 0 #[] #[])
  fields := #[]
  methods := #[k0m0, k0m1]
  instanceTypes := #[]
  staticTypes := #[]
  resolved := Array.replicate 124 none
  statics := none }

def pool1 : Array CpInfo := pool [(2, .class_ 4), (1, u "java/lang/Object"), (0, u "<init>"), (0, u "()V"), (0, .integer 2147483647), (0, .class_ 9), (0, u "com/example/classweave/classweave/classfile/ClassOutput"), (0, .methodref 8 11), (0, .nameAndType 5 12), (0, u "(I)V"), (0, .methodref 8 14), (0, .nameAndType 15 12), (0, u "u4"), (0, .methodref 8 17), (0, .nameAndType 18 19), (0, u "u4At"), (0, u "(II)V"), (0, .methodref 8 21), (0, .nameAndType 22 23), (0, u "toByteArray"), (0, u "()[B"), (0, .methodref 8 25), (0, .nameAndType 26 27), (0, u "size"), (0, u "()I"), (0, .methodref 29 30), (0, .class_ 31), (0, .nameAndType 32 33), (0, u "com/example/classweave/classweave/classfile/ClassOutputU4AtPinLaw"), (0, u "at"), (0, u "([BIIIII)Z"), (0, .methodref 29 35), (0, .nameAndType 36 37), (0, u "byteOf"), (0, u "(II)I"), (0, .long 4294967295), (1, .long 16777216), (1, .long 65536), (1, .long 256), (3, u "law"), (0, u "(IIIII)Z")] 5

def k1m0 : Method := { name := "<init>", desc := "()V", sig := { parameters := [], returnType := none }, accessFlags := 1, code := none }
def k1c1 : Code := { maxStack := 6, maxLocals := 9, code := code, exceptionTable := #[], attributes := #[] }
def k1m1 : Method := { name := "law", desc := "(IIIII)Z", sig := { parameters := [.int, .int, .int, .int, .int], returnType := some .boolean }, accessFlags := 9, code := some k1c1 }
def k1c2 : Code := { maxStack := 3, maxLocals := 7, code := method_3_code, exceptionTable := #[], attributes := #[] }
def k1m2 : Method := { name := "at", desc := "([BIIIII)Z", sig := { parameters := [(.array .byte), .int, .int, .int, .int, .int], returnType := some .boolean }, accessFlags := 10, code := some k1c2 }
def k1c3 : Code := { maxStack := 4, maxLocals := 4, code := method_4_code, exceptionTable := #[], attributes := #[] }
def k1m3 : Method := { name := "byteOf", desc := "(II)I", sig := { parameters := [.int, .int], returnType := some .int }, accessFlags := 10, code := some k1c3 }
/-- com/example/classweave/classweave/classfile/ClassOutputU4AtPinLaw -/
def k1 : Class := { plain "com/example/classweave/classweave/classfile/ClassOutputU4AtPinLaw" (some 0) with
  accessFlags := 49
  interfaces := #[]
  cf := some (fileOf pool1 29 #[] #[{ accessFlags := 1, nameIndex := 5, descriptorIndex := 6, attributes := #[] }, { accessFlags := 9, nameIndex := 48, descriptorIndex := 49, attributes := #[] }, { accessFlags := 10, nameIndex := 32, descriptorIndex := 33, attributes := #[] }, { accessFlags := 10, nameIndex := 36, descriptorIndex := 37, attributes := #[] }] 49 2 #[] #[])
  fields := #[]
  methods := #[k1m0, k1m1, k1m2, k1m3]
  instanceTypes := #[]
  staticTypes := #[]
  resolved := Array.replicate 55 none
  statics := none }

def pool2 : Array CpInfo := pool [(1, .methodref 2 3), (0, .class_ 4), (0, .nameAndType 5 6), (0, u "java/lang/Object"), (0, u "<init>"), (0, u "()V"), (0, .fieldref 8 9), (0, .class_ 10), (0, .nameAndType 11 12), (0, u "com/example/classweave/classweave/classfile/ClassOutput"), (0, u "bytes"), (0, u "[B"), (0, .methodref 8 14), (0, .nameAndType 15 16), (0, u "ensure"), (0, u "(I)V"), (0, .fieldref 8 18), (0, .nameAndType 19 20), (0, u "size"), (0, u "I"), (0, .methodref 8 22), (0, .nameAndType 23 16), (0, u "u2"), (2, u "u4"), (6, .methodref 34 35), (0, .class_ 36), (0, .nameAndType 37 38), (0, u "java/util/Arrays"), (0, u "copyOf"), (0, u "([BI)[B"), (0, .methodref 40 41), (0, .class_ 42), (0, .nameAndType 43 44), (0, u "java/lang/Math"), (0, u "max"), (0, u "(II)I"), (7, u "()I"), (0, u "u4At"), (0, u "(II)V"), (0, u "toByteArray"), (0, u "()[B")] 3

def k2c0 : Code := { maxStack := 2, maxLocals := 2, code := prog_42_method_1_code, exceptionTable := #[], attributes := #[] }
def k2m0 : Method := { name := "<init>", desc := "(I)V", sig := { parameters := [.int], returnType := none }, accessFlags := 0, code := some k2c0 }
def k2c1 : Code := { maxStack := 4, maxLocals := 2, code := prog_42_method_3_code, exceptionTable := #[], attributes := #[] }
def k2m1 : Method := { name := "u2", desc := "(I)V", sig := { parameters := [.int], returnType := none }, accessFlags := 0, code := some k2c1 }
def k2c2 : Code := { maxStack := 3, maxLocals := 2, code := prog_42_method_4_code, exceptionTable := #[], attributes := #[] }
def k2m2 : Method := { name := "u4", desc := "(I)V", sig := { parameters := [.int], returnType := none }, accessFlags := 0, code := some k2c2 }
def k2c3 : Code := { maxStack := 1, maxLocals := 1, code := prog_42_method_8_code, exceptionTable := #[], attributes := #[] }
def k2m3 : Method := { name := "size", desc := "()I", sig := { parameters := [], returnType := some .int }, accessFlags := 0, code := some k2c3 }
def k2c4 : Code := { maxStack := 4, maxLocals := 3, code := prog_42_method_9_code, exceptionTable := #[], attributes := #[] }
def k2m4 : Method := { name := "u4At", desc := "(II)V", sig := { parameters := [.int, .int], returnType := none }, accessFlags := 0, code := some k2c4 }
def k2c5 : Code := { maxStack := 2, maxLocals := 1, code := prog_42_method_10_code, exceptionTable := #[], attributes := #[] }
def k2m5 : Method := { name := "toByteArray", desc := "()[B", sig := { parameters := [], returnType := some (.array .byte) }, accessFlags := 0, code := some k2c5 }
def k2c6 : Code := { maxStack := 5, maxLocals := 2, code := prog_42_method_11_code, exceptionTable := #[], attributes := #[] }
def k2m6 : Method := { name := "ensure", desc := "(I)V", sig := { parameters := [.int], returnType := none }, accessFlags := 2, code := some k2c6 }
/-- com/example/classweave/classweave/classfile/ClassOutput -/
def k2 : Class := { plain "com/example/classweave/classweave/classfile/ClassOutput" (some 0) with
  accessFlags := 48
  interfaces := #[]
  cf := some (fileOf pool2 8 #[] #[{ accessFlags := 0, nameIndex := 5, descriptorIndex := 16, attributes := #[] }, { accessFlags := 0, nameIndex := 23, descriptorIndex := 16, attributes := #[] }, { accessFlags := 0, nameIndex := 26, descriptorIndex := 16, attributes := #[] }, { accessFlags := 0, nameIndex := 19, descriptorIndex := 52, attributes := #[] }, { accessFlags := 0, nameIndex := 53, descriptorIndex := 54, attributes := #[] }, { accessFlags := 0, nameIndex := 55, descriptorIndex := 56, attributes := #[] }, { accessFlags := 2, nameIndex := 15, descriptorIndex := 16, attributes := #[] }] 48 2 #[] #[{ accessFlags := 2, nameIndex := 11, descriptorIndex := 12, attributes := #[] }, { accessFlags := 2, nameIndex := 19, descriptorIndex := 20, attributes := #[] }])
  fields := #[{ name := "bytes", type := (.array .byte), accessFlags := 2, slot := 0, constantValue := 0 }, { name := "size", type := .int, accessFlags := 2, slot := 1, constantValue := 0 }]
  methods := #[k2m0, k2m1, k2m2, k2m3, k2m4, k2m5, k2m6]
  instanceTypes := #[(.array .byte), .int]
  staticTypes := #[]
  resolved := Array.replicate 60 none
  statics := none }

def pool3 : Array CpInfo := pool [(1, .class_ 2), (0, u "java/lang/Math"), (1, .class_ 6), (1, u "java/lang/Object"), (0, u "<init>"), (0, u "()V"), (89, .class_ 100), (1, u "java/lang/Math$RandomNumberGeneratorHolder"), (71, u "negativeZeroFloatBits"), (0, u "J"), (2, u "negativeZeroDoubleBits"), (21, u "max"), (2, u "min"), (43, u "$assertionsDisabled"), (0, u "Z"), (88, u "(II)I"), (2, u "twoToTheDoubleScaleDown"), (0, u "D"), (4, u "twoToTheDoubleScaleUp"), (9, u "E"), (3, u "PI"), (2, u "TAU"), (2, u "DEGREES_TO_RADIANS"), (0, u "RADIANS_TO_DEGREES")] 94

def k3m0 : Method := { name := "<init>", desc := "()V", sig := { parameters := [], returnType := none }, accessFlags := 2, code := none }
def k3c1 : Code := { maxStack := 2, maxLocals := 2, code := jdk_29_method_65_code, exceptionTable := #[], attributes := #[] }
def k3m1 : Method := { name := "max", desc := "(II)I", sig := { parameters := [.int, .int], returnType := some .int }, accessFlags := 9, code := some k3c1 }
def k3c2 : Code := { maxStack := 2, maxLocals := 2, code := jdk_29_method_69_code, exceptionTable := #[], attributes := #[] }
def k3m2 : Method := { name := "min", desc := "(II)I", sig := { parameters := [.int, .int], returnType := some .int }, accessFlags := 9, code := some k3c2 }
/-- java/lang/Math -/
def k3 : Class := { plain "java/lang/Math" (some 0) with
  accessFlags := 49
  interfaces := #[]
  cf := some (fileOf pool3 1 #[.nestMembers #[98]] #[{ accessFlags := 2, nameIndex := 7, descriptorIndex := 8, attributes := #[] }, { accessFlags := 9, nameIndex := 198, descriptorIndex := 335, attributes := #[] }, { accessFlags := 9, nameIndex := 201, descriptorIndex := 335, attributes := #[] }] 49 4 #[] #[{ accessFlags := 25, nameIndex := 354, descriptorIndex := 339, attributes := #[] }, { accessFlags := 25, nameIndex := 358, descriptorIndex := 339, attributes := #[] }, { accessFlags := 25, nameIndex := 361, descriptorIndex := 339, attributes := #[] }, { accessFlags := 26, nameIndex := 364, descriptorIndex := 339, attributes := #[] }, { accessFlags := 26, nameIndex := 365, descriptorIndex := 339, attributes := #[] }, { accessFlags := 26, nameIndex := 172, descriptorIndex := 173, attributes := #[] }, { accessFlags := 26, nameIndex := 176, descriptorIndex := 173, attributes := #[] }, { accessFlags := 8, nameIndex := 344, descriptorIndex := 339, attributes := #[] }, { accessFlags := 8, nameIndex := 338, descriptorIndex := 339, attributes := #[] }, { accessFlags := 4120, nameIndex := 245, descriptorIndex := 246, attributes := #[] }])
  fields := #[{ name := "E", type := .double, accessFlags := 25, slot := 0, constantValue := 0 }, { name := "PI", type := .double, accessFlags := 25, slot := 1, constantValue := 0 }, { name := "TAU", type := .double, accessFlags := 25, slot := 2, constantValue := 0 }, { name := "DEGREES_TO_RADIANS", type := .double, accessFlags := 26, slot := 3, constantValue := 0 }, { name := "RADIANS_TO_DEGREES", type := .double, accessFlags := 26, slot := 4, constantValue := 0 }, { name := "negativeZeroFloatBits", type := .long, accessFlags := 26, slot := 5, constantValue := 0 }, { name := "negativeZeroDoubleBits", type := .long, accessFlags := 26, slot := 6, constantValue := 0 }, { name := "twoToTheDoubleScaleUp", type := .double, accessFlags := 8, slot := 7, constantValue := 0 }, { name := "twoToTheDoubleScaleDown", type := .double, accessFlags := 8, slot := 8, constantValue := 0 }, { name := "$assertionsDisabled", type := .boolean, accessFlags := 4120, slot := 9, constantValue := 0 }]
  methods := #[k3m0, k3m1, k3m2]
  instanceTypes := #[]
  staticTypes := #[.double, .double, .double, .double, .double, .long, .long, .double, .double, .boolean]
  resolved := Array.replicate 460 none
  statics := none }

def pool4 : Array CpInfo := pool [(2, .class_ 4), (1, u "java/lang/Object"), (0, u "<init>"), (0, u "()V"), (7, .class_ 16), (1, u "java/util/Arrays"), (57, .class_ 76), (1, u "java/util/Arrays$NaturalOrder"), (32, u "()Ljava/lang/Object;"), (3, .class_ 115), (1, u "java/util/Arrays$LegacyMergeSort"), (1, u "Z"), (10, .nameAndType 129 109), (0, u "clone"), (20, .methodref 151 152), (0, .class_ 153), (0, .nameAndType 154 155), (0, u "java/lang/System"), (0, u "arraycopy"), (0, u "(Ljava/lang/Object;ILjava/lang/Object;II)V"), (146, u "copyOf"), (1, .methodref 305 306), (0, .class_ 307), (0, .nameAndType 308 309), (0, u "java/lang/Math"), (0, u "min"), (0, u "(II)I"), (0, .methodref 311 128), (0, .class_ 312), (0, u "[B"), (62, .class_ 376), (0, u "java/util/Arrays$ArrayList"), (68, u "$assertionsDisabled"), (269, u "MIN_ARRAY_SORT_GRAN"), (0, u "I"), (2, u "INSERTIONSORT_THRESHOLD"), (149, u "([BI)[B"), (105, .class_ 976), (0, u "java/util/Arrays$ArrayItr")] 52

def k4m0 : Method := { name := "<init>", desc := "()V", sig := { parameters := [], returnType := none }, accessFlags := 2, code := none }
def k4c1 : Code := { maxStack := 6, maxLocals := 3, code := jdk_65_method_121_code, exceptionTable := #[], attributes := #[] }
def k4m1 : Method := { name := "copyOf", desc := "([BI)[B", sig := { parameters := [(.array .byte), .int], returnType := some (.array .byte) }, accessFlags := 9, code := some k4c1 }
/-- java/util/Arrays -/
def k4 : Class := { plain "java/util/Arrays" (some 0) with
  accessFlags := 49
  interfaces := #[]
  cf := some (fileOf pool4 14 #[.nestMembers #[975, 375, 113, 74]] #[{ accessFlags := 2, nameIndex := 5, descriptorIndex := 6, attributes := #[] }, { accessFlags := 9, nameIndex := 302, descriptorIndex := 869, attributes := #[] }] 49 2 #[] #[{ accessFlags := 26, nameIndex := 715, descriptorIndex := 716, attributes := #[] }, { accessFlags := 26, nameIndex := 719, descriptorIndex := 716, attributes := #[] }, { accessFlags := 4120, nameIndex := 445, descriptorIndex := 117, attributes := #[] }])
  fields := #[{ name := "MIN_ARRAY_SORT_GRAN", type := .int, accessFlags := 26, slot := 0, constantValue := 0 }, { name := "INSERTIONSORT_THRESHOLD", type := .int, accessFlags := 26, slot := 1, constantValue := 0 }, { name := "$assertionsDisabled", type := .boolean, accessFlags := 4120, slot := 2, constantValue := 0 }]
  methods := #[k4m0, k4m1]
  instanceTypes := #[]
  staticTypes := #[.int, .int, .boolean]
  resolved := Array.replicate 1029 none
  statics := none }

def pool5 : Array CpInfo := pool [(2, .class_ 4), (1, u "java/lang/Object"), (0, u "<init>"), (0, u "()V"), (1, .class_ 10), (1, u "java/lang/System"), (0, u "allowSecurityManager"), (0, u "I"), (16, u "cons"), (0, u "Ljava/io/Console;"), (77, .class_ 110), (1, u "java/lang/System$CallersHolder"), (43, u "initialErrStream"), (0, u "Ljava/io/PrintStream;"), (19, u "security"), (0, u "Ljava/lang/SecurityManager;"), (31, .class_ 209), (0, u "java/lang/System$1"), (7, u "props"), (0, u "Ljava/util/Properties;"), (2, u "lineSeparator"), (0, u "Ljava/lang/String;"), (96, .class_ 321), (1, u "java/lang/System$LoggerFinder"), (5, .class_ 328), (0, u "java/lang/System$Logger"), (67, u "err"), (2, u "out"), (91, u "notSupportedJnuEncoding"), (15, u "in"), (17, u "initialIn"), (0, u "Ljava/io/InputStream;"), (35, u "bootLayer"), (0, u "Ljava/lang/ModuleLayer;"), (99, .class_ 664), (0, u "java/lang/System$2"), (9, u "NEVER"), (2, u "MAYBE"), (49, u "arraycopy"), (0, u "(Ljava/lang/Object;ILjava/lang/Object;II)V"), (72, .class_ 802), (0, u "java/lang/System$Logger$Level")] 31

def k5m0 : Method := { name := "<init>", desc := "()V", sig := { parameters := [], returnType := none }, accessFlags := 2, code := none }
def k5m1 : Method := { name := "arraycopy", desc := "(Ljava/lang/Object;ILjava/lang/Object;II)V", sig := { parameters := [(.object "java/lang/Object"), .int, (.object "java/lang/Object"), .int, .int], returnType := none }, accessFlags := 265, code := none }
/-- java/lang/System -/
def k5 : Class := { plain "java/lang/System" (some 0) with
  accessFlags := 49
  interfaces := #[]
  cf := some (fileOf pool5 8 #[.nestMembers #[319, 327, 801, 108, 663, 208]] #[{ accessFlags := 2, nameIndex := 5, descriptorIndex := 6, attributes := #[] }, { accessFlags := 265, nameIndex := 727, descriptorIndex := 728, attributes := #[] }] 49 2 #[] #[{ accessFlags := 25, nameIndex := 507, descriptorIndex := 526, attributes := #[] }, { accessFlags := 25, nameIndex := 399, descriptorIndex := 155, attributes := #[] }, { accessFlags := 25, nameIndex := 396, descriptorIndex := 155, attributes := #[] }, { accessFlags := 10, nameIndex := 525, descriptorIndex := 526, attributes := #[] }, { accessFlags := 26, nameIndex := 674, descriptorIndex := 12, attributes := #[] }, { accessFlags := 26, nameIndex := 677, descriptorIndex := 12, attributes := #[] }, { accessFlags := 10, nameIndex := 11, descriptorIndex := 12, attributes := #[] }, { accessFlags := 74, nameIndex := 175, descriptorIndex := 176, attributes := #[] }, { accessFlags := 10, nameIndex := 491, descriptorIndex := 222, attributes := #[] }, { accessFlags := 74, nameIndex := 29, descriptorIndex := 30, attributes := #[] }, { accessFlags := 74, nameIndex := 154, descriptorIndex := 155, attributes := #[] }, { accessFlags := 10, nameIndex := 217, descriptorIndex := 218, attributes := #[] }, { accessFlags := 10, nameIndex := 221, descriptorIndex := 222, attributes := #[] }, { accessFlags := 8, nameIndex := 562, descriptorIndex := 563, attributes := #[] }])
  fields := #[{ name := "in", type := (.object "java/io/InputStream"), accessFlags := 25, slot := 0, constantValue := 0 }, { name := "out", type := (.object "java/io/PrintStream"), accessFlags := 25, slot := 1, constantValue := 0 }, { name := "err", type := (.object "java/io/PrintStream"), accessFlags := 25, slot := 2, constantValue := 0 }, { name := "initialIn", type := (.object "java/io/InputStream"), accessFlags := 10, slot := 3, constantValue := 0 }, { name := "NEVER", type := .int, accessFlags := 26, slot := 4, constantValue := 0 }, { name := "MAYBE", type := .int, accessFlags := 26, slot := 5, constantValue := 0 }, { name := "allowSecurityManager", type := .int, accessFlags := 10, slot := 6, constantValue := 0 }, { name := "security", type := (.object "java/lang/SecurityManager"), accessFlags := 74, slot := 7, constantValue := 0 }, { name := "notSupportedJnuEncoding", type := (.object "java/lang/String"), accessFlags := 10, slot := 8, constantValue := 0 }, { name := "cons", type := (.object "java/io/Console"), accessFlags := 74, slot := 9, constantValue := 0 }, { name := "initialErrStream", type := (.object "java/io/PrintStream"), accessFlags := 74, slot := 10, constantValue := 0 }, { name := "props", type := (.object "java/util/Properties"), accessFlags := 10, slot := 11, constantValue := 0 }, { name := "lineSeparator", type := (.object "java/lang/String"), accessFlags := 10, slot := 12, constantValue := 0 }, { name := "bootLayer", type := (.object "java/lang/ModuleLayer"), accessFlags := 8, slot := 13, constantValue := 0 }]
  methods := #[k5m0, k5m1]
  instanceTypes := #[]
  staticTypes := #[(.object "java/io/InputStream"), (.object "java/io/PrintStream"), (.object "java/io/PrintStream"), (.object "java/io/InputStream"), .int, .int, .int, (.object "java/lang/SecurityManager"), (.object "java/lang/String"), (.object "java/io/Console"), (.object "java/io/PrintStream"), (.object "java/util/Properties"), (.object "java/lang/String"), (.object "java/lang/ModuleLayer")]
  resolved := Array.replicate 834 none
  statics := none }

def pool6 : Array CpInfo := pool [(1, .class_ 2), (0, u "java/lang/Cloneable"), (0, .class_ 4), (0, u "java/lang/Object")] 2

/-- java/lang/Cloneable -/
def k6 : Class := { plain "java/lang/Cloneable" (some 0) with
  accessFlags := 1537
  interfaces := #[]
  cf := some (fileOf pool6 1 #[] #[] 1537 3 #[] #[])
  fields := #[]
  methods := #[]
  instanceTypes := #[]
  staticTypes := #[]
  resolved := Array.replicate 7 none
  statics := none }

def pool7 : Array CpInfo := pool [(1, u "java/io/Serializable"), (0, .class_ 1), (0, u "java/lang/Object"), (0, .class_ 3)] 3

/-- java/io/Serializable -/
def k7 : Class := { plain "java/io/Serializable" (some 0) with
  accessFlags := 1537
  interfaces := #[]
  cf := some (fileOf pool7 2 #[] #[] 1537 4 #[] #[])
  fields := #[]
  methods := #[]
  instanceTypes := #[]
  staticTypes := #[]
  resolved := Array.replicate 8 none
  statics := none }

/-- the primitive byte -/
def k8 : Class := { plain "byte" none with kind := .primitive 'B', accessFlags := 0x411 }
/-- [B -/
def k9 : Class := { plain "[B" (some 0) with kind := .array 8 .byte, interfaces := #[6, 7], accessFlags := 1041 }

/-- the primitive int -/
def k10 : Class := { plain "int" none with kind := .primitive 'I', accessFlags := 0x411 }
/-- [I -/
def k11 : Class := { plain "[I" (some 0) with kind := .array 10 .int, interfaces := #[6, 7], accessFlags := 1041 }

def heap : Heap := #[]
def classes : Array Class := #[k0, k1, k2, k3, k4, k5, k6, k7, k8, k9, k10, k11]
def interned : List (Array UInt16 × Addr) := []
def slotsUsed : Nat := 0
def theMethod : MethodId := ⟨1, 1⟩
def args0 : Array Value := #[.int 9, .int 5, .int 7, .int 3, .int 4]
def aboutOver (below : List Frame) : State where
  vm := { classes := classes, interned := interned.toArray }
  heap := heap
  slotsUsed := slotsUsed
  threads := #[{ frames := .invoking theMethod args0 :: below }]
def below0 : List Frame := [.native { method := ⟨0, 0⟩, args := #[] }]
def about1 : State := aboutOver below0
def p0 : Program := .bare "" "" ""
def e0 : Env := launch0.env 0 0 0
theorem w_frames : about1.frames = Frame.invoking theMethod args0 :: below0 := rfl
set_option maxRecDepth 65536 in
theorem w_args : argsFit about1.vm theMethod args0 = true := by decide +kernel
set_option maxRecDepth 65536 in
theorem w_heap : heapFits about1 = true := by decide +kernel
set_option maxRecDepth 65536 in
theorem w_runnable : about1.curStatus? = some .runnable := by decide +kernel
set_option maxRecDepth 65536 in
theorem w_alone : about1.alone = true := by decide +kernel
set_option maxRecDepth 65536 in
theorem w_named : about1.methodNamed? x = some theMethod := by decide +kernel
set_option maxRecDepth 65536 in
theorem w_hears : about1.hears theMethod below0 = true := by decide +kernel
set_option maxRecDepth 65536 in
theorem w_ripe : about1.ripe theMethod args0 below0 = true := by decide +kernel
theorem w_running : about1.status = .running := rfl
set_option maxRecDepth 65536 in
theorem w_room : about1.hasRoom e0.platform room_1 = true :=
  launch0.hasRoom_least _ room_1 (by decide +kernel) (by decide +kernel) (by decide +kernel) (by decide +kernel) (by decide +kernel) (by decide +kernel)
theorem allAtoms_all (ts : List Jvm.Cond) (a : Array Jvm.Value) (st : Jvm.State) : (allAtoms ts).before a st = ts.all (fun c => c.before a st) := by
  induction ts with
  | nil => rfl
  | cons c t ih =>
    show (Jvm.Cond.and c (allAtoms t)).before a st = _
    rw [Jvm.Cond.before_and, ih, List.all_cons]
def words1 : List Jvm.Cond := Jvm.Cond.code x code maxLocals ret :: tables_1
/-- a 'code' word, met by the world's own term for the bytes: nothing is compared byte by byte -/
theorem code_word {y : MethodName} {bytes : ByteArray} {mx : Nat} {rt : Option FieldType} {a : Array Value} {s : State} {m : MethodId} {meth : Method} {c : Code} (h1 : s.methodNamed? y = some m) (h2 : s.vm.method? m = some meth) (h3 : meth.code = some c) (h4 : c.code = bytes)
    (h5 : (c.maxLocals == mx && c.exceptionTable.isEmpty && decide (c.maxStack ≤ mostOperands) && decide (meth.sig.returnType = rt) && !meth.locks && decide (parseMethodDescriptor y.desc = some meth.sig)) = true) : (Jvm.Cond.code y bytes mx rt).before a s = true := by
  simp only [Bool.and_eq_true, beq_iff_eq, Bool.not_eq_true', decide_eq_true_eq] at h5
  obtain ⟨⟨⟨⟨⟨g1, g2⟩, g3⟩, g4⟩, g5⟩, g6⟩ := h5
  simp [Cond.before, Cond.holds, Cond.value, h1, h2, h3, h4, g1, g2, g3, g4, g5, g6]
def isCode : Jvm.Cond → Bool
  | .code _ _ _ _ => true
  | _ => false
theorem all_split {L : List Jvm.Cond} {P : Jvm.Cond → Bool} (h1 : L.all (fun c => isCode c || P c) = true) (h2 : ∀ c ∈ L.filter isCode, P c = true) : L.all P = true := by
  refine List.all_eq_true.mpr fun c hc => ?_
  have h := List.all_eq_true.mp h1 c hc
  rcases Bool.eq_false_or_eq_true (isCode c) with hi | hi
  · exact h2 c (List.mem_filter.mpr ⟨hc, hi⟩)
  · simpa [hi] using h
set_option maxRecDepth 65536 in
theorem w_c0 : (Jvm.Cond.code x code maxLocals ret).before args0 about1 = true := code_word (m := ⟨1, 1⟩) (meth := k1m1) (c := k1c1) (by decide +kernel) rfl rfl rfl (by decide +kernel)
set_option maxRecDepth 65536 in
theorem w_c1 : (Jvm.Cond.code ({ cls := "com/example/classweave/classweave/classfile/ClassOutput", name := "<init>", desc := "(I)V" } : Jvm.MethodName) prog_42_method_1_code (2 : Nat) (Option.none : Option Jvm.ClassFile.FieldType)).before args0 about1 = true := code_word (m := ⟨2, 0⟩) (meth := k2m0) (c := k2c0) (by decide +kernel) rfl rfl rfl (by decide +kernel)
set_option maxRecDepth 65536 in
theorem w_c2 : (Jvm.Cond.code ({ cls := "java/lang/Object", name := "<init>", desc := "()V" } : Jvm.MethodName) object_method_1_code (1 : Nat) (Option.none : Option Jvm.ClassFile.FieldType)).before args0 about1 = true := code_word (m := ⟨0, 0⟩) (meth := k0m0) (c := k0c0) (by decide +kernel) rfl rfl rfl (by decide +kernel)
set_option maxRecDepth 65536 in
theorem w_c3 : (Jvm.Cond.code ({ cls := "com/example/classweave/classweave/classfile/ClassOutput", name := "u4", desc := "(I)V" } : Jvm.MethodName) prog_42_method_4_code (2 : Nat) (Option.none : Option Jvm.ClassFile.FieldType)).before args0 about1 = true := code_word (m := ⟨2, 2⟩) (meth := k2m2) (c := k2c2) (by decide +kernel) rfl rfl rfl (by decide +kernel)
set_option maxRecDepth 65536 in
theorem w_c4 : (Jvm.Cond.code ({ cls := "com/example/classweave/classweave/classfile/ClassOutput", name := "u2", desc := "(I)V" } : Jvm.MethodName) prog_42_method_3_code (2 : Nat) (Option.none : Option Jvm.ClassFile.FieldType)).before args0 about1 = true := code_word (m := ⟨2, 1⟩) (meth := k2m1) (c := k2c1) (by decide +kernel) rfl rfl rfl (by decide +kernel)
set_option maxRecDepth 65536 in
theorem w_c5 : (Jvm.Cond.code ({ cls := "com/example/classweave/classweave/classfile/ClassOutput", name := "ensure", desc := "(I)V" } : Jvm.MethodName) prog_42_method_11_code (2 : Nat) (Option.none : Option Jvm.ClassFile.FieldType)).before args0 about1 = true := code_word (m := ⟨2, 6⟩) (meth := k2m6) (c := k2c6) (by decide +kernel) rfl rfl rfl (by decide +kernel)
set_option maxRecDepth 65536 in
theorem w_c6 : (Jvm.Cond.code ({ cls := "java/lang/Math", name := "max", desc := "(II)I" } : Jvm.MethodName) jdk_29_method_65_code (2 : Nat) (Option.some Jvm.ClassFile.FieldType.int)).before args0 about1 = true := code_word (m := ⟨3, 1⟩) (meth := k3m1) (c := k3c1) (by decide +kernel) rfl rfl rfl (by decide +kernel)
set_option maxRecDepth 65536 in
theorem w_c7 : (Jvm.Cond.code ({ cls := "java/util/Arrays", name := "copyOf", desc := "([BI)[B" } : Jvm.MethodName) jdk_65_method_121_code (3 : Nat) (Option.some (Jvm.ClassFile.FieldType.array Jvm.ClassFile.FieldType.byte))).before args0 about1 = true := code_word (m := ⟨4, 1⟩) (meth := k4m1) (c := k4c1) (by decide +kernel) rfl rfl rfl (by decide +kernel)
set_option maxRecDepth 65536 in
theorem w_c8 : (Jvm.Cond.code ({ cls := "java/lang/Math", name := "min", desc := "(II)I" } : Jvm.MethodName) jdk_29_method_69_code (2 : Nat) (Option.some Jvm.ClassFile.FieldType.int)).before args0 about1 = true := code_word (m := ⟨3, 2⟩) (meth := k3m2) (c := k3c2) (by decide +kernel) rfl rfl rfl (by decide +kernel)
set_option maxRecDepth 65536 in
theorem w_c9 : (Jvm.Cond.code ({ cls := "com/example/classweave/classweave/classfile/ClassOutput", name := "u4At", desc := "(II)V" } : Jvm.MethodName) prog_42_method_9_code (3 : Nat) (Option.none : Option Jvm.ClassFile.FieldType)).before args0 about1 = true := code_word (m := ⟨2, 4⟩) (meth := k2m4) (c := k2c4) (by decide +kernel) rfl rfl rfl (by decide +kernel)
set_option maxRecDepth 65536 in
theorem w_c10 : (Jvm.Cond.code ({ cls := "com/example/classweave/classweave/classfile/ClassOutput", name := "toByteArray", desc := "()[B" } : Jvm.MethodName) prog_42_method_10_code (1 : Nat) (Option.some (Jvm.ClassFile.FieldType.array Jvm.ClassFile.FieldType.byte))).before args0 about1 = true := code_word (m := ⟨2, 5⟩) (meth := k2m5) (c := k2c5) (by decide +kernel) rfl rfl rfl (by decide +kernel)
set_option maxRecDepth 65536 in
theorem w_c11 : (Jvm.Cond.code ({ cls := "com/example/classweave/classweave/classfile/ClassOutput", name := "size", desc := "()I" } : Jvm.MethodName) prog_42_method_8_code (1 : Nat) (Option.some Jvm.ClassFile.FieldType.int)).before args0 about1 = true := code_word (m := ⟨2, 3⟩) (meth := k2m3) (c := k2c3) (by decide +kernel) rfl rfl rfl (by decide +kernel)
set_option maxRecDepth 65536 in
theorem w_c12 : (Jvm.Cond.code ({ cls := "com/example/classweave/classweave/classfile/ClassOutputU4AtPinLaw", name := "at", desc := "([BIIIII)Z" } : Jvm.MethodName) method_3_code (7 : Nat) (Option.some Jvm.ClassFile.FieldType.boolean)).before args0 about1 = true := code_word (m := ⟨1, 2⟩) (meth := k1m2) (c := k1c2) (by decide +kernel) rfl rfl rfl (by decide +kernel)
set_option maxRecDepth 65536 in
theorem w_c13 : (Jvm.Cond.code ({ cls := "com/example/classweave/classweave/classfile/ClassOutputU4AtPinLaw", name := "byteOf", desc := "(II)I" } : Jvm.MethodName) method_4_code (4 : Nat) (Option.some Jvm.ClassFile.FieldType.int)).before args0 about1 = true := code_word (m := ⟨1, 3⟩) (meth := k1m3) (c := k1c3) (by decide +kernel) rfl rfl rfl (by decide +kernel)
def codes1 : List Jvm.Cond := [Jvm.Cond.code x code maxLocals ret, Jvm.Cond.code ({ cls := "com/example/classweave/classweave/classfile/ClassOutput", name := "<init>", desc := "(I)V" } : Jvm.MethodName) prog_42_method_1_code (2 : Nat) (Option.none : Option Jvm.ClassFile.FieldType), Jvm.Cond.code ({ cls := "java/lang/Object", name := "<init>", desc := "()V" } : Jvm.MethodName) object_method_1_code (1 : Nat) (Option.none : Option Jvm.ClassFile.FieldType), Jvm.Cond.code ({ cls := "com/example/classweave/classweave/classfile/ClassOutput", name := "u4", desc := "(I)V" } : Jvm.MethodName) prog_42_method_4_code (2 : Nat) (Option.none : Option Jvm.ClassFile.FieldType), Jvm.Cond.code ({ cls := "com/example/classweave/classweave/classfile/ClassOutput", name := "u2", desc := "(I)V" } : Jvm.MethodName) prog_42_method_3_code (2 : Nat) (Option.none : Option Jvm.ClassFile.FieldType), Jvm.Cond.code ({ cls := "com/example/classweave/classweave/classfile/ClassOutput", name := "ensure", desc := "(I)V" } : Jvm.MethodName) prog_42_method_11_code (2 : Nat) (Option.none : Option Jvm.ClassFile.FieldType), Jvm.Cond.code ({ cls := "java/lang/Math", name := "max", desc := "(II)I" } : Jvm.MethodName) jdk_29_method_65_code (2 : Nat) (Option.some Jvm.ClassFile.FieldType.int), Jvm.Cond.code ({ cls := "java/util/Arrays", name := "copyOf", desc := "([BI)[B" } : Jvm.MethodName) jdk_65_method_121_code (3 : Nat) (Option.some (Jvm.ClassFile.FieldType.array Jvm.ClassFile.FieldType.byte)), Jvm.Cond.code ({ cls := "java/lang/Math", name := "min", desc := "(II)I" } : Jvm.MethodName) jdk_29_method_69_code (2 : Nat) (Option.some Jvm.ClassFile.FieldType.int), Jvm.Cond.code ({ cls := "com/example/classweave/classweave/classfile/ClassOutput", name := "u4At", desc := "(II)V" } : Jvm.MethodName) prog_42_method_9_code (3 : Nat) (Option.none : Option Jvm.ClassFile.FieldType), Jvm.Cond.code ({ cls := "com/example/classweave/classweave/classfile/ClassOutput", name := "toByteArray", desc := "()[B" } : Jvm.MethodName) prog_42_method_10_code (1 : Nat) (Option.some (Jvm.ClassFile.FieldType.array Jvm.ClassFile.FieldType.byte)), Jvm.Cond.code ({ cls := "com/example/classweave/classweave/classfile/ClassOutput", name := "size", desc := "()I" } : Jvm.MethodName) prog_42_method_8_code (1 : Nat) (Option.some Jvm.ClassFile.FieldType.int), Jvm.Cond.code ({ cls := "com/example/classweave/classweave/classfile/ClassOutputU4AtPinLaw", name := "at", desc := "([BIIIII)Z" } : Jvm.MethodName) method_3_code (7 : Nat) (Option.some Jvm.ClassFile.FieldType.boolean), Jvm.Cond.code ({ cls := "com/example/classweave/classweave/classfile/ClassOutputU4AtPinLaw", name := "byteOf", desc := "(II)I" } : Jvm.MethodName) method_4_code (4 : Nat) (Option.some Jvm.ClassFile.FieldType.int)]
set_option maxRecDepth 65536 in
theorem codes_eq : words1.filter isCode = codes1 := rfl
theorem w_codes : ∀ c ∈ words1.filter isCode, c.before args0 about1 = true := by
  rw [codes_eq]
  intro c hc
  simp only [codes1, List.mem_cons, List.not_mem_nil, or_false] at hc
  rcases hc with rfl | rfl | rfl | rfl | rfl | rfl | rfl | rfl | rfl | rfl | rfl | rfl | rfl | rfl
  · exact w_c0
  · exact w_c1
  · exact w_c2
  · exact w_c3
  · exact w_c4
  · exact w_c5
  · exact w_c6
  · exact w_c7
  · exact w_c8
  · exact w_c9
  · exact w_c10
  · exact w_c11
  · exact w_c12
  · exact w_c13
set_option maxRecDepth 65536 in
theorem w_t1 : (words1.take 24).all (fun c => isCode c || c.before args0 about1) = true := by decide +kernel
set_option maxRecDepth 65536 in
theorem w_t2 : ((words1.drop 24).take 24).all (fun c => isCode c || c.before args0 about1) = true := by decide +kernel
set_option maxRecDepth 65536 in
theorem w_t3 : (((words1.drop 24).drop 24).take 24).all (fun c => isCode c || c.before args0 about1) = true := by decide +kernel
set_option maxRecDepth 65536 in
theorem w_t4 : (((words1.drop 24).drop 24).drop 24).all (fun c => isCode c || c.before args0 about1) = true := by decide +kernel
theorem w_tables : (allAtoms (Jvm.Cond.code x code maxLocals ret :: tables_1)).before args0 about1 = true := by
  rw [allAtoms_all]
  show words1.all (fun c => c.before args0 about1) = true
  refine all_split ?_ w_codes
  rw [← List.take_append_drop 24 words1, List.all_append, w_t1, ← List.take_append_drop 24 (words1.drop 24), List.all_append, w_t2, ← List.take_append_drop 24 ((words1.drop 24).drop 24), List.all_append, w_t3, w_t4]
  rfl
set_option maxRecDepth 65536 in
theorem w_case : (Jvm.Cond.and given_1 narrow_1).before args0 about1 = true := by decide +kernel
theorem w_applies : (headSpec (Jvm.Cond.code x code maxLocals ret :: tables_1) room_1).applies x e0.platform about1 = true :=
  (Spec.applies_iff w_frames).mpr ⟨w_running, w_runnable, w_alone, w_named, w_hears, w_ripe, w_room, w_tables⟩
theorem atStart : AtStart classFile x code maxLocals ret World_1 tables_1 room_1 Calls_1 rest_1 Pre_1 launch0 p0 e0 about1 theMethod args0 below0 :=
  ⟨lists_1, trivial, launch0.admits_env _ _ _, launch0.least_env, fairChoices_fair.cas, fairChoices_fair.clock, w_frames, w_args, w_heap, w_applies, trivial, trivial, w_case⟩
end start1
theorem witness_1 : WitnessClaimed_1 := ⟨start1.p0, start1.e0, start1.about1, start1.theMethod, start1.args0, start1.below0, start1.atStart⟩
end Jvm.Pilot.@@N@@
