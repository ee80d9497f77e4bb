import JvmDerived
import JvmDerived.Pilot.@@N@@Statement
import JvmDerived.Pilot.@@N@@Code
set_option linter.unusedVariables false
set_option linter.unusedSimpArgs false
namespace Jvm.RoadKit
open Sem ClassFile Op Lib Jvm.Stand Jvm.Free Jvm.LawKit
section New
variable {p : Program} {l : Launch} {e : Env} {R : Room} {s : State} {m : MethodId} {args : Array Value} {below : List Frame} {meth : Method} {c : Code} {T : State} {locs : List Loc} {cells slots : Nat}
theorem retI (X : Stand p l e R s m args below meth c T locs cells slots) (hx : p.tables.exec = Jvm.exec) {pc : Nat} {Ls : Array Slot} {z : Int32} {rest : List Value} (hret : meth.sig.returnType = some .int) (hd : decode c.code pc = .ok (.ireturn, 1)) {fs : List Frame}
    (hl : ∀ (f : JFrame) (acts : List Action), f.method = m → f.locked = none → f.entered = [] → (doReturn e (T.setTop f) acts (some (.int z))).1 = T.setFrames fs) : Steps p.tables e below (T.setTop (mkF m pc Ls (.int z :: rest))) (T.setFrames fs) := by
  have hm' : T.vm.method? m = some meth := X.method'
  have hn : narrow .int (.int z) = .int z := rfl
  show Steps p.tables e below (T.setTop { method := m, pc := pc, locals := Ls, stack := _ :: rest, locked := none }) _
  jvm_step X.here [X.here.top, hx, hd, hm', hret, hn]
  first | (intro acts; rw [hl _ acts rfl rfl rfl]) | rw [hl _ _ rfl rfl rfl]
  exact Steps.refl _
end New
end Jvm.RoadKit
namespace Jvm.Pilot.@@N@@
open Jvm Jvm.ClassFile Sem Op Lib Jvm.Free Jvm.Stand Jvm.LawKit Jvm.RoadKit Bundle Jvm.Pilot.@@N@@.Jvm.D
/-- a body that leaves the heap as it was and returns w -/
def QP (w : Option Value) (h0 : Heap) (n0 : Nat) (v : Option Value) (h : Heap) (L : List Loc) : Prop := v = w ∧ Fr n0 L ∧ h = h0
/-- the places written so far, under a name -/
theorem own_loc {p : Program} {l : Launch} {e : Env} {R : Room} {s : State} {m : MethodId} {args : Array Value} {below : List Frame} {meth : Method} {c : Code} {T : State} {locs : List Loc} {cells slots : Nat} {k : Nat} (X : Stand p l e R s m args below meth c T locs cells slots) (N : Fr k locs) : ∃ Ls, Stand p l e R s m args below meth c T Ls cells slots ∧ Fr k Ls := ⟨_, X, N⟩
theorem pd_0 : parseMethodDescriptor "(JJ)J" = some ⟨[.long, .long], some .long⟩ := by decide +kernel
theorem pd_1 : parseMethodDescriptor "()V" = some ⟨[], none⟩ := by decide +kernel
theorem pd_2 : parseMethodDescriptor "(JJ)V" = some ⟨[.long, .long], none⟩ := by decide +kernel
theorem pd_3 : parseMethodDescriptor "(Ljava/lang/String;Lcom/example/invariant_ink/invariantink/lang/Local$Kind;ILcom/example/invariant_ink/invariantink/lang/Type;Lcom/example/invariant_ink/invariantink/lang/Position;)V" = some ⟨[(.object "java/lang/String"), (.object "com/example/invariant_ink/invariantink/lang/Local$Kind"), .int, (.object "com/example/invariant_ink/invariantink/lang/Type"), (.object "com/example/invariant_ink/invariantink/lang/Position")], none⟩ := by decide +kernel
theorem pd_4 : parseMethodDescriptor "(Ljava/lang/Object;)Z" = some ⟨[(.object "java/lang/Object")], some .boolean⟩ := by decide +kernel
theorem pd_5 : parseMethodDescriptor "(Ljava/lang/Object;[Ljava/lang/Object;I)V" = some ⟨[(.object "java/lang/Object"), (.array (.object "java/lang/Object")), .int], none⟩ := by decide +kernel
theorem pd_6 : parseMethodDescriptor "()[Ljava/lang/Object;" = some ⟨[], some (.array (.object "java/lang/Object"))⟩ := by decide +kernel
theorem pd_7 : parseMethodDescriptor "(I)[Ljava/lang/Object;" = some ⟨[.int], some (.array (.object "java/lang/Object"))⟩ := by decide +kernel
theorem pd_8 : parseMethodDescriptor "(II)I" = some ⟨[.int, .int], some .int⟩ := by decide +kernel
theorem pd_9 : parseMethodDescriptor "(Ljava/util/List;)V" = some ⟨[(.object "java/util/List")], none⟩ := by decide +kernel
theorem pd_10 : parseMethodDescriptor "(Lcom/example/invariant_ink/invariantink/lang/Instance;Ljava/util/List;)V" = some ⟨[(.object "com/example/invariant_ink/invariantink/lang/Instance"), (.object "java/util/List")], none⟩ := by decide +kernel
theorem pd_11 : parseMethodDescriptor "()I" = some ⟨[], some .int⟩ := by decide +kernel
theorem pd_12 : parseMethodDescriptor "(I)Ljava/lang/Object;" = some ⟨[.int], some (.object "java/lang/Object")⟩ := by decide +kernel
theorem pd_13 : parseMethodDescriptor "(IILjava/util/function/BiFunction;)I" = some ⟨[.int, .int, (.object "java/util/function/BiFunction")], some .int⟩ := by decide +kernel
theorem pd_14 : parseMethodDescriptor "()Lcom/example/invariant_ink/invariantink/lang/Type;" = some ⟨[], some (.object "com/example/invariant_ink/invariantink/lang/Type")⟩ := by decide +kernel
theorem pd_15 : parseMethodDescriptor "()J" = some ⟨[], some .long⟩ := by decide +kernel
theorem pd_16 : parseMethodDescriptor "([J)Z" = some ⟨[(.array .long)], some .boolean⟩ := by decide +kernel
section OwnAV
/-- an array whose places hold just vs -/
def own_AV (Z : State) (h : Heap) (a : Addr) (ty : FieldType) (vs : List Value) : Prop := ∃ c : Cell, Arr Z h a c ty ∧ c.slots.toList = vs
theorem own_AV.lt {Z : State} {h : Heap} {a : Addr} {ty : FieldType} {vs : List Value} (F : own_AV Z h a ty vs) : a < h.size := by obtain ⟨c, A, -⟩ := F; exact A.lt
theorem own_AV.ext {Z : State} {h h' : Heap} {a : Addr} {ty : FieldType} {vs : List Value} (F : own_AV Z h a ty vs) (E : Ext h h') : own_AV Z h' a ty vs := by obtain ⟨c, A, r⟩ := F; exact ⟨c, A.ext E, r⟩
theorem own_AV.keep {Z : State} {h h' : Heap} {a : Addr} {ty : FieldType} {vs : List Value} {ws : List Addr} (F : own_AV Z h a ty vs) (K : Keep h h' ws) (q : a ∉ ws) : own_AV Z h' a ty vs := by obtain ⟨c, A, r⟩ := F; exact ⟨c, ⟨K.2.1 a c A.1 q, A.2⟩, r⟩
theorem own_AV.other {Z : State} {h h' : Heap} {a b : Addr} {ty : FieldType} {vs : List Value} {sl : Nat} {v : Value} (F : own_AV Z h a ty vs) (W : Wr h h' b sl v) (q : a ≠ b) : own_AV Z h' a ty vs := by obtain ⟨c, A, r⟩ := F; exact ⟨c, A.other W q, r⟩
theorem own_AV.new {Z : State} {h : Heap} {a : Addr} {ty : FieldType} {k : ClassId} {n : Int32} {i : Nat} (A : Arr Z h a (newA k ty n) ty) (hn : n.toNatClampNeg = i) : own_AV Z h a ty (List.replicate i (defaultValue ty)) := ⟨_, A, by subst hn; simp [newA]⟩
theorem own_sz {c : Cell} {vs : List Value} (q : c.slots.toList = vs) : c.slots.size = vs.length := by rw [← q]; simp
theorem own_inb {c : Cell} {vs : List Value} {j : Int32} {n : Nat} (q : c.slots.toList = vs) (hl : vs.length = n) (h0 : ¬ j < 0) (h1 : j.toNatClampNeg < n) : ¬ (j < 0 ∨ c.slots.size ≤ j.toNatClampNeg) := fun r => r.elim h0 fun z => by rw [own_sz q, hl] at z; omega
theorem own_get {c : Cell} {vs : List Value} {j : Int32} {i : Nat} {v : Value} (q : c.slots.toList = vs) (hj : j.toNatClampNeg = i) (hv : vs[i]? = some v) : c.slots[j.toNatClampNeg]? = some v := by rw [hj, ← hv, ← q]; simp
theorem own_len {c : Cell} {vs : List Value} {n : Int32} (q : c.slots.toList = vs) (h : vs.length.toInt32 = n) : c.slots.size.toInt32 = n := by rw [own_sz q, h]
theorem own_AV.set {Z : State} {h h' : Heap} {a : Addr} {ty : FieldType} {vs vs' : List Value} {c : Cell} {j : Int32} {i : Nat} {v : Value} (A : Arr Z h a c ty) (q : c.slots.toList = vs) (W : Wr h h' a j.toNatClampNeg v) (hj : j.toNatClampNeg = i) (e : vs.set i v = vs') : own_AV Z h' a ty vs' := ⟨_, A.same W, by rw [← e, ← q, ← hj]; simp [Cell.setSlot]⟩
end OwnAV
theorem own_h {a0 : Array Value} {Z : State} (hw : ∀ d ∈ tables_1, d.before a0 Z = true) (n : Nat) {d : Jvm.Cond} (h : tables_1[n]? = some d) : d.before a0 Z = true := hw _ (List.mem_of_getElem? h)
/-- an array of objects whose places hold just vs, and what may lie in it -/
def own_AVO (Z : State) (h : Heap) (a : Addr) (vs : List Value) : Prop := ∃ c : Cell, Arr Z h a c (.object "java/lang/Object") ∧ c.slots.toList = vs ∧ Ovr Z c.cls "java/lang/Object"
theorem own_AVO.lt {Z : State} {h : Heap} {a : Addr} {vs : List Value} (F : own_AVO Z h a vs) : a < h.size := by obtain ⟨c, A, -⟩ := F; exact A.lt
theorem own_AVO.ext {Z : State} {h h' : Heap} {a : Addr} {vs : List Value} (F : own_AVO Z h a vs) (E : Ext h h') : own_AVO Z h' a vs := by obtain ⟨c, A, r⟩ := F; exact ⟨c, A.ext E, r⟩
theorem own_AVO.keep {Z : State} {h h' : Heap} {a : Addr} {vs : List Value} {ws : List Addr} (F : own_AVO Z h a vs) (K : Keep h h' ws) (q : a ∉ ws) : own_AVO Z h' a vs := by obtain ⟨c, A, r⟩ := F; exact ⟨c, ⟨K.2.1 a c A.1 q, A.2⟩, r⟩
theorem own_AVO.other {Z : State} {h h' : Heap} {a b : Addr} {vs : List Value} {sl : Nat} {v : Value} (F : own_AVO Z h a vs) (W : Wr h h' b sl v) (q : a ≠ b) : own_AVO Z h' a vs := by obtain ⟨c, A, r⟩ := F; exact ⟨c, A.other W q, r⟩
theorem own_AVO.av {Z : State} {h : Heap} {a : Addr} {vs : List Value} (F : own_AVO Z h a vs) : own_AV Z h a (.object "java/lang/Object") vs := by obtain ⟨c, A, q, -⟩ := F; exact ⟨c, A, q⟩
theorem own_AVO.set {Z : State} {h h' : Heap} {a : Addr} {vs vs' : List Value} {c : Cell} {j : Int32} {i : Nat} {v : Value} (A : Arr Z h a c (.object "java/lang/Object")) (q : c.slots.toList = vs) (O : Ovr Z c.cls "java/lang/Object") (W : Wr h h' a j.toNatClampNeg v) (hj : j.toNatClampNeg = i) (e : vs.set i v = vs') : own_AVO Z h' a vs' := ⟨_, A.same W, by rw [← e, ← q, ← hj]; simp [Cell.setSlot], O⟩
def own_LO (Z : State) (h : Heap) (a : Addr) (ev : Value) (k mc : Int32) : Prop := Exa Z h a "java/util/ArrayList" ∧ Fld Z h a "java/util/ArrayList" "elementData" "[Ljava/lang/Object;" ev ∧ Fld Z h a "java/util/ArrayList" "size" "I" (.int k) ∧ Fld Z h a "java/util/AbstractList" "modCount" "I" (.int mc)
def own_Q0 (n0 : Nat) (v : Option Value) (h : Heap) (L : List Loc) : Prop := v = some (.int 1) ∧ Fr n0 L
def own_QL (Z : State) (a : Addr) (ev : Value) (k mc : Int32) (h0 : Heap) (n0 : Nat) (v : Option Value) (h : Heap) (L : List Loc) : Prop := v = none ∧ Fr n0 L ∧ Keep h0 h [a] ∧ own_LO Z h a ev k mc
def own_QG (Z : State) (a : Addr) (mc : Int32) (h0 : Heap) (n0 : Nat) (v : Option Value) (h : Heap) (L : List Loc) : Prop := ∃ e, v = some (.ref e) ∧ Fr n0 L ∧ Keep h0 h [a] ∧ own_LO Z h a (.ref e) 0 mc ∧ h0.size ≤ e ∧ own_AVO Z h e [.null, .null, .null, .null, .null, .null, .null, .null, .null, .null]
def own_QA (v0 : Option Value) (Z : State) (a x : Addr) (mc : Int32) (h0 : Heap) (n0 : Nat) (v : Option Value) (h : Heap) (L : List Loc) : Prop := ∃ e, v = v0 ∧ Fr n0 L ∧ Keep h0 h [a] ∧ own_LO Z h a (.ref e) 1 mc ∧ h0.size ≤ e ∧ own_AVO Z h e [(.ref x), .null, .null, .null, .null, .null, .null, .null, .null, .null]
def own_QK (v0 : Option Value) (Z : State) (a e : Addr) (k mc : Int32) (vs : List Value) (h0 : Heap) (n0 : Nat) (v : Option Value) (h : Heap) (L : List Loc) : Prop := v = v0 ∧ Fr n0 L ∧ Keep h0 h [a, e] ∧ own_LO Z h a (.ref e) k mc ∧ own_AVO Z h e vs
def own_QR (Z : State) (a : Addr) (lo hi : Int64) (h0 : Heap) (n0 : Nat) (v : Option Value) (h : Heap) (L : List Loc) : Prop := v = none ∧ Fr n0 L ∧ Keep h0 h [a] ∧ Exa Z h a "com/example/invariant_ink/invariantink/lang/RangeType" ∧ Fld Z h a "com/example/invariant_ink/invariantink/lang/RangeType" "low" "J" (.long lo) ∧ Fld Z h a "com/example/invariant_ink/invariantink/lang/RangeType" "high" "J" (.long hi)
def own_QN (Z : State) (a : Addr) (sl : Int32) (t : Addr) (h0 : Heap) (n0 : Nat) (v : Option Value) (h : Heap) (L : List Loc) : Prop := v = none ∧ Fr n0 L ∧ Keep h0 h [a] ∧ Exa Z h a "com/example/invariant_ink/invariantink/lang/Local" ∧ Fld Z h a "com/example/invariant_ink/invariantink/lang/Local" "slot" "I" (.int sl) ∧ Fld Z h a "com/example/invariant_ink/invariantink/lang/Local" "type" "Lcom/example/invariant_ink/invariantink/lang/Type;" (.ref t)
def own_QC (Z : State) (a : Addr) (ss fs ls : List Value) (h0 : Heap) (n0 : Nat) (v : Option Value) (h : Heap) (L : List Loc) : Prop := ∃ x y z, v = none ∧ Fr n0 L ∧ Keep h0 h [a] ∧ Exa Z h a "com/example/invariant_ink/invariantink/engine/Combinations" ∧ Fld Z h a "com/example/invariant_ink/invariantink/engine/Combinations" "slots" "[I" (.ref x) ∧ Fld Z h a "com/example/invariant_ink/invariantink/engine/Combinations" "firsts" "[J" (.ref y) ∧ Fld Z h a "com/example/invariant_ink/invariantink/engine/Combinations" "lasts" "[J" (.ref z) ∧ own_AV Z h x .int ss ∧ own_AV Z h y .long fs ∧ own_AV Z h z .long ls ∧ h0.size ≤ x ∧ h0.size ≤ y ∧ h0.size ≤ z
def own_QV (Z : State) (vs : List Value) (h0 : Heap) (n0 : Nat) (v : Option Value) (h : Heap) (L : List Loc) : Prop := ∃ r, v = some (.ref r) ∧ Fr n0 L ∧ Keep h0 h [] ∧ own_AV Z h r .long vs ∧ h0.size ≤ r
def own_QX (r : Int32) (Z : State) (a : Addr) (vs : List Value) (h0 : Heap) (n0 : Nat) (v : Option Value) (h : Heap) (L : List Loc) : Prop := v = some (.int r) ∧ Fr n0 L ∧ Keep h0 h [a] ∧ own_AV Z h a .long vs
theorem own_wS (a0 : Array Value) (Z : State) (hw : ∀ d ∈ tables_1, d.before a0 Z = true) : ∀ a ∈ Bundle.stringAtoms, a.before a0 Z = true := by
  intro a ha
  simp only [Bundle.stringAtoms, List.mem_cons, List.not_mem_nil, or_false] at ha
  rcases ha with rfl | rfl | rfl | rfl | rfl | rfl | rfl
  · exact (own_h hw 37 rfl)
  · exact (own_h hw 38 rfl)
  · exact (own_h hw 39 rfl)
  · exact (own_h hw 40 rfl)
  · exact (own_h hw 41 rfl)
  · exact (own_h hw 42 rfl)
  · exact (own_h hw 43 rfl)
def own_max (p0 : Int32) (p1 : Int32) : Int32 := (if p0 < p1 then p1 else p0)
theorem d13_0 : decode jdk_29_method_65_code 0 = .ok (.iload_n 0, 1) := by decide +kernel
theorem d13_1 : decode jdk_29_method_65_code 1 = .ok (.iload_n 1, 1) := by decide +kernel
theorem d13_2 : decode jdk_29_method_65_code 2 = .ok (.if_icmp .lt 7, 3) := by decide +kernel
theorem d13_5 : decode jdk_29_method_65_code 5 = .ok (.iload_n 0, 1) := by decide +kernel
theorem d13_6 : decode jdk_29_method_65_code 6 = .ok (.goto 4, 3) := by decide +kernel
theorem d13_9 : decode jdk_29_method_65_code 9 = .ok (.iload_n 1, 1) := by decide +kernel
theorem d13_10 : decode jdk_29_method_65_code 10 = .ok (.ireturn, 1) := by decide +kernel
theorem ef_13 (m : MethodId) (p0 : Int32) (p1 : Int32) : entryFrame m #[(.int p0), (.int p1)] 2 = mkF m 0 #[.val (.int p0), .val (.int p1)] [] := by first | (simp [entryFrame, mkF, argsToLocals, Value.category]; done) | rfl
set_option maxRecDepth 65536 in
set_option maxHeartbeats 40000000 in
theorem rm13 (l : Launch) (Z : State) (a0 : Array Value) (hw : ∀ d ∈ tables_1, d.before a0 Z = true) (ws : List Jvm.Cond) (p0 : Int32) (p1 : Int32) (h0 : Heap) (n0 : Nat) :
    MetFree l (⟨"java/lang/Math", "max", "(II)I"⟩ : MethodName) (head1 (Jvm.Cond.code (⟨"java/lang/Math", "max", "(II)I"⟩ : MethodName) jdk_29_method_65_code 2 (some .int) :: ws) ({ frames := 0, cells := 0, slots := 0, locals := 0 } : Room)) (fun a U => a = #[(.int p0), (.int p1)] ∧ Z.Warmed39 U.vm ∧ U.heap = h0) (fun _ _ _ _ _ => True) (fun _ U o U' => ∃ v L, o = .returned v ∧ QP (some (.int (own_max p0 p1))) h0 n0 v U'.heap L ∧ FrameEnd U o U' L ({ frames := 0, cells := 0, slots := 0, locals := 0 } : Room).cells ({ frames := 0, cells := 0, slots := 0, locals := 0 } : Room).slots) := by
  refine MetFree.of_bodySF (Jvm.Free.JP.mathPlain rfl (by decide +kernel)) hisR ?_
  intro p e s m args below meth c s₁ Bd hml0 hP hK
  obtain ⟨rfl, hZ, hh⟩ := hP
  have hx := Bd.exec
  have hby := Bd.bytes
  have hml : c.maxLocals = 2 := hml0
  have hown : s.vm.findClass "java/lang/Math" = some m.cls := findClass_of_methodNamed Bd.named
  have hnm := (name_of_methodNamed Bd.named Bd.method).1
  have X0 : Stand p l e ({ frames := 0, cells := 0, slots := 0, locals := 0 } : Room) s m #[(.int p0), (.int p1)] below meth c s₁ [] 0 0 := Stand.of_body Bd
  have e0 : s₁.heap = h0 := by rw [← hh, Bd.state]; rfl
  have N0 := Fr.nil n0
  have go0 : ∀ t, Steps p.tables e below (s₁.setTop (mkF m 0 #[.val (.int p0), .val (.int p1)] [])) t → Steps p.tables e below (s₁.setTop (entryFrame m #[(.int p0), (.int p1)] 2)) t := fun t k => castTop (ef_13 m p0 p1) k
  have go1 : ∀ t, Steps p.tables e below (s₁.setTop (mkF m 2 #[.val (.int p0), .val (.int p1)] [(.int p1), (.int p0)])) t → Steps p.tables e below (s₁.setTop (entryFrame m #[(.int p0), (.int p1)] 2)) t := fun t kt => go0 t (by
      refine XS.iloadN X0.here hx rfl (hb hby d13_0) rfl ?_
      show Steps p.tables e below (s₁.setTop (mkF m 1 #[.val (.int p0), .val (.int p1)] [(.int p0)])) _
      refine XS.iloadN X0.here hx rfl (hb hby d13_1) rfl ?_
      show Steps p.tables e below (s₁.setTop (mkF m 2 #[.val (.int p0), .val (.int p1)] [(.int p1), (.int p0)])) _
      exact kt)
  by_cases hc2_2 : p0 < p1
  · have go3 : ∀ t, Steps p.tables e below (s₁.setTop (mkF m 10 #[.val (.int p0), .val (.int p1)] [(.int p1)])) t → Steps p.tables e below (s₁.setTop (entryFrame m #[(.int p0), (.int p1)] 2)) t := fun t kt => go1 t (by
        refine XS.icmpYes X0.here hx rfl (pc0 := 2) (pc' := 9) rfl (hb hby d13_2) rfl (tlt hc2_2).1 (by decide) (by decide) ?_
        show Steps p.tables e below (s₁.setTop (mkF m 9 #[.val (.int p0), .val (.int p1)] [])) _
        refine XS.iloadN X0.here hx rfl (hb hby d13_9) rfl ?_
        show Steps p.tables e below (s₁.setTop (mkF m 10 #[.val (.int p0), .val (.int p1)] [(.int p1)])) _
        exact kt)
    obtain ⟨fs, hr, hrun, hended, hW, hsame⟩ := X0.leave (v := some (.int p1)) (fun h => by rw [Bd.returns] at h; cases h)
    refine ⟨_, _, go3 _ (retI X0 hx Bd.returns (hb hby d13_10) hr), hrun, hended, _, _, rfl, ?_, ⟨_, rfl⟩, hW, hsame.mono (by decide) (by decide)⟩
    refine ⟨?_, N0, e0⟩
    show some (Value.int p1) = some (.int (own_max p0 p1))
    unfold own_max
    rw [if_pos hc2_2]
  · have go4 : ∀ t, Steps p.tables e below (s₁.setTop (mkF m 10 #[.val (.int p0), .val (.int p1)] [(.int p0)])) t → Steps p.tables e below (s₁.setTop (entryFrame m #[(.int p0), (.int p1)] 2)) t := fun t kt => go1 t (by
        refine XS.icmpNo X0.here hx rfl (hb hby d13_2) rfl (flt hc2_2).1 ?_
        show Steps p.tables e below (s₁.setTop (mkF m 5 #[.val (.int p0), .val (.int p1)] [])) _
        refine XS.iloadN X0.here hx rfl (hb hby d13_5) rfl ?_
        show Steps p.tables e below (s₁.setTop (mkF m 6 #[.val (.int p0), .val (.int p1)] [(.int p0)])) _
        refine XS.goto X0.here hx rfl (pc0 := 6) (pc' := 10) rfl (hb hby d13_6) (by decide) (by decide) ?_
        show Steps p.tables e below (s₁.setTop (mkF m 10 #[.val (.int p0), .val (.int p1)] [(.int p0)])) _
        exact kt)
    obtain ⟨fs, hr, hrun, hended, hW, hsame⟩ := X0.leave (v := some (.int p0)) (fun h => by rw [Bd.returns] at h; cases h)
    refine ⟨_, _, go4 _ (retI X0 hx Bd.returns (hb hby d13_10) hr), hrun, hended, _, _, rfl, ?_, ⟨_, rfl⟩, hW, hsame.mono (by decide) (by decide)⟩
    refine ⟨?_, N0, e0⟩
    show some (Value.int p0) = some (.int (own_max p0 p1))
    unfold own_max
    rw [if_neg hc2_2]
def own_minL (q0 : Int64) (q1 : Int64) : Int64 := (if (0 : Int32) < (lcmpW q0 q1) then q1 else q0)
theorem d1_0 : decode jdk_29_method_70_code 0 = .ok (.lload_n 0, 1) := by decide +kernel
theorem d1_1 : decode jdk_29_method_70_code 1 = .ok (.lload_n 2, 1) := by decide +kernel
theorem d1_2 : decode jdk_29_method_70_code 2 = .ok (.lcmp, 1) := by decide +kernel
theorem d1_3 : decode jdk_29_method_70_code 3 = .ok (.ifCond .gt 7, 3) := by decide +kernel
theorem d1_6 : decode jdk_29_method_70_code 6 = .ok (.lload_n 0, 1) := by decide +kernel
theorem d1_7 : decode jdk_29_method_70_code 7 = .ok (.goto 4, 3) := by decide +kernel
theorem d1_10 : decode jdk_29_method_70_code 10 = .ok (.lload_n 2, 1) := by decide +kernel
theorem d1_11 : decode jdk_29_method_70_code 11 = .ok (.lreturn, 1) := by decide +kernel
theorem ef_1 (m : MethodId) (q0 : Int64) (q1 : Int64) : entryFrame m #[(.long q0), (.long q1)] 4 = mkF m 0 #[.val (.long q0), .second, .val (.long q1), .second] [] := by first | (simp [entryFrame, mkF, argsToLocals, Value.category]; done) | rfl
set_option maxRecDepth 65536 in
set_option maxHeartbeats 40000000 in
theorem rm1 (l : Launch) (Z : State) (a0 : Array Value) (hw : ∀ d ∈ tables_1, d.before a0 Z = true) (ws : List Jvm.Cond) (q0 : Int64) (q1 : Int64) (h0 : Heap) (n0 : Nat) :
    MetFree l (⟨"java/lang/Math", "min", "(JJ)J"⟩ : MethodName) (head1 (Jvm.Cond.code (⟨"java/lang/Math", "min", "(JJ)J"⟩ : MethodName) jdk_29_method_70_code 4 (some .long) :: ws) ({ frames := 0, cells := 0, slots := 0, locals := 0 } : Room)) (fun a U => a = #[(.long q0), (.long q1)] ∧ Z.Warmed39 U.vm ∧ U.heap = h0) (fun _ _ _ _ _ => True) (fun _ U o U' => ∃ v L, o = .returned v ∧ QP (some (.long (own_minL q0 q1))) h0 n0 v U'.heap L ∧ FrameEnd U o U' L ({ frames := 0, cells := 0, slots := 0, locals := 0 } : Room).cells ({ frames := 0, cells := 0, slots := 0, locals := 0 } : Room).slots) := by
  refine MetFree.of_bodySF (Jvm.Free.JP.mathPlain rfl (by decide +kernel)) hisR ?_
  intro p e s m args below meth c s₁ Bd hml0 hP hK
  obtain ⟨rfl, hZ, hh⟩ := hP
  have hx := Bd.exec
  have hby := Bd.bytes
  have hml : c.maxLocals = 4 := hml0
  have hown : s.vm.findClass "java/lang/Math" = some m.cls := findClass_of_methodNamed Bd.named
  have hnm := (name_of_methodNamed Bd.named Bd.method).1
  have X0 : Stand p l e ({ frames := 0, cells := 0, slots := 0, locals := 0 } : Room) s m #[(.long q0), (.long q1)] below meth c s₁ [] 0 0 := Stand.of_body Bd
  have e0 : s₁.heap = h0 := by rw [← hh, Bd.state]; rfl
  have N0 := Fr.nil n0
  have go0 : ∀ t, Steps p.tables e below (s₁.setTop (mkF m 0 #[.val (.long q0), .second, .val (.long q1), .second] [])) t → Steps p.tables e below (s₁.setTop (entryFrame m #[(.long q0), (.long q1)] 4)) t := fun t k => castTop (ef_1 m q0 q1) k
  have go1 : ∀ t, Steps p.tables e below (s₁.setTop (mkF m 3 #[.val (.long q0), .second, .val (.long q1), .second] [(.int (lcmpW q0 q1))])) t → Steps p.tables e below (s₁.setTop (entryFrame m #[(.long q0), (.long q1)] 4)) t := fun t kt => go0 t (by
      refine XS.lloadN X0.here hx rfl (hb hby d1_0) rfl ?_
      show Steps p.tables e below (s₁.setTop (mkF m 1 #[.val (.long q0), .second, .val (.long q1), .second] [(.long q0)])) _
      refine XS.lloadN X0.here hx rfl (hb hby d1_1) rfl ?_
      show Steps p.tables e below (s₁.setTop (mkF m 2 #[.val (.long q0), .second, .val (.long q1), .second] [(.long q1), (.long q0)])) _
      refine XS.lcmp X0.here hx rfl (hb hby d1_2) rfl ?_
      show Steps p.tables e below (s₁.setTop (mkF m 3 #[.val (.long q0), .second, .val (.long q1), .second] [(.int (lcmpW q0 q1))])) _
      exact kt)
  by_cases hc3_2 : (0 : Int32) < (lcmpW q0 q1)
  · have go3 : ∀ t, Steps p.tables e below (s₁.setTop (mkF m 11 #[.val (.long q0), .second, .val (.long q1), .second] [(.long q1)])) t → Steps p.tables e below (s₁.setTop (entryFrame m #[(.long q0), (.long q1)] 4)) t := fun t kt => go1 t (by
        refine XS.ifYes X0.here hx rfl (pc0 := 3) (pc' := 10) rfl (hb hby d1_3) rfl ((if0 _ _).trans (tlt hc3_2).2.2.1) (by decide) (by decide) ?_
        show Steps p.tables e below (s₁.setTop (mkF m 10 #[.val (.long q0), .second, .val (.long q1), .second] [])) _
        refine XS.lloadN X0.here hx rfl (hb hby d1_10) rfl ?_
        show Steps p.tables e below (s₁.setTop (mkF m 11 #[.val (.long q0), .second, .val (.long q1), .second] [(.long q1)])) _
        exact kt)
    obtain ⟨fs, hr, hrun, hended, hW, hsame⟩ := X0.leave (v := some (.long q1)) (fun h => by rw [Bd.returns] at h; cases h)
    refine ⟨_, _, go3 _ (X0.lreturnOut hx Bd.returns (hb hby d1_11) hr), hrun, hended, _, _, rfl, ?_, ⟨_, rfl⟩, hW, hsame.mono (by decide) (by decide)⟩
    refine ⟨?_, N0, e0⟩
    show some (Value.long q1) = some (.long (own_minL q0 q1))
    unfold own_minL
    rw [if_pos hc3_2]
  · have go4 : ∀ t, Steps p.tables e below (s₁.setTop (mkF m 11 #[.val (.long q0), .second, .val (.long q1), .second] [(.long q0)])) t → Steps p.tables e below (s₁.setTop (entryFrame m #[(.long q0), (.long q1)] 4)) t := fun t kt => go1 t (by
        refine XS.ifNo X0.here hx rfl (hb hby d1_3) rfl ((if0 _ _).trans (flt hc3_2).2.2.1) ?_
        show Steps p.tables e below (s₁.setTop (mkF m 6 #[.val (.long q0), .second, .val (.long q1), .second] [])) _
        refine XS.lloadN X0.here hx rfl (hb hby d1_6) rfl ?_
        show Steps p.tables e below (s₁.setTop (mkF m 7 #[.val (.long q0), .second, .val (.long q1), .second] [(.long q0)])) _
        refine XS.goto X0.here hx rfl (pc0 := 7) (pc' := 11) rfl (hb hby d1_7) (by decide) (by decide) ?_
        show Steps p.tables e below (s₁.setTop (mkF m 11 #[.val (.long q0), .second, .val (.long q1), .second] [(.long q0)])) _
        exact kt)
    obtain ⟨fs, hr, hrun, hended, hW, hsame⟩ := X0.leave (v := some (.long q0)) (fun h => by rw [Bd.returns] at h; cases h)
    refine ⟨_, _, go4 _ (X0.lreturnOut hx Bd.returns (hb hby d1_11) hr), hrun, hended, _, _, rfl, ?_, ⟨_, rfl⟩, hW, hsame.mono (by decide) (by decide)⟩
    refine ⟨?_, N0, e0⟩
    show some (Value.long q0) = some (.long (own_minL q0 q1))
    unfold own_minL
    rw [if_neg hc3_2]
def own_maxL (q0 : Int64) (q1 : Int64) : Int64 := (if (lcmpW q0 q1) < (0 : Int32) then q1 else q0)
theorem d2_0 : decode jdk_29_method_66_code 0 = .ok (.lload_n 0, 1) := by decide +kernel
theorem d2_1 : decode jdk_29_method_66_code 1 = .ok (.lload_n 2, 1) := by decide +kernel
theorem d2_2 : decode jdk_29_method_66_code 2 = .ok (.lcmp, 1) := by decide +kernel
theorem d2_3 : decode jdk_29_method_66_code 3 = .ok (.ifCond .lt 7, 3) := by decide +kernel
theorem d2_6 : decode jdk_29_method_66_code 6 = .ok (.lload_n 0, 1) := by decide +kernel
theorem d2_7 : decode jdk_29_method_66_code 7 = .ok (.goto 4, 3) := by decide +kernel
theorem d2_10 : decode jdk_29_method_66_code 10 = .ok (.lload_n 2, 1) := by decide +kernel
theorem d2_11 : decode jdk_29_method_66_code 11 = .ok (.lreturn, 1) := by decide +kernel
theorem ef_2 (m : MethodId) (q0 : Int64) (q1 : Int64) : entryFrame m #[(.long q0), (.long q1)] 4 = mkF m 0 #[.val (.long q0), .second, .val (.long q1), .second] [] := by first | (simp [entryFrame, mkF, argsToLocals, Value.category]; done) | rfl
set_option maxRecDepth 65536 in
set_option maxHeartbeats 40000000 in
theorem rm2 (l : Launch) (Z : State) (a0 : Array Value) (hw : ∀ d ∈ tables_1, d.before a0 Z = true) (ws : List Jvm.Cond) (q0 : Int64) (q1 : Int64) (h0 : Heap) (n0 : Nat) :
    MetFree l (⟨"java/lang/Math", "max", "(JJ)J"⟩ : MethodName) (head1 (Jvm.Cond.code (⟨"java/lang/Math", "max", "(JJ)J"⟩ : MethodName) jdk_29_method_66_code 4 (some .long) :: ws) ({ frames := 0, cells := 0, slots := 0, locals := 0 } : Room)) (fun a U => a = #[(.long q0), (.long q1)] ∧ Z.Warmed39 U.vm ∧ U.heap = h0) (fun _ _ _ _ _ => True) (fun _ U o U' => ∃ v L, o = .returned v ∧ QP (some (.long (own_maxL q0 q1))) h0 n0 v U'.heap L ∧ FrameEnd U o U' L ({ frames := 0, cells := 0, slots := 0, locals := 0 } : Room).cells ({ frames := 0, cells := 0, slots := 0, locals := 0 } : Room).slots) := by
  refine MetFree.of_bodySF (Jvm.Free.JP.mathPlain rfl (by decide +kernel)) hisR ?_
  intro p e s m args below meth c s₁ Bd hml0 hP hK
  obtain ⟨rfl, hZ, hh⟩ := hP
  have hx := Bd.exec
  have hby := Bd.bytes
  have hml : c.maxLocals = 4 := hml0
  have hown : s.vm.findClass "java/lang/Math" = some m.cls := findClass_of_methodNamed Bd.named
  have hnm := (name_of_methodNamed Bd.named Bd.method).1
  have X0 : Stand p l e ({ frames := 0, cells := 0, slots := 0, locals := 0 } : Room) s m #[(.long q0), (.long q1)] below meth c s₁ [] 0 0 := Stand.of_body Bd
  have e0 : s₁.heap = h0 := by rw [← hh, Bd.state]; rfl
  have N0 := Fr.nil n0
  have go0 : ∀ t, Steps p.tables e below (s₁.setTop (mkF m 0 #[.val (.long q0), .second, .val (.long q1), .second] [])) t → Steps p.tables e below (s₁.setTop (entryFrame m #[(.long q0), (.long q1)] 4)) t := fun t k => castTop (ef_2 m q0 q1) k
  have go1 : ∀ t, Steps p.tables e below (s₁.setTop (mkF m 3 #[.val (.long q0), .second, .val (.long q1), .second] [(.int (lcmpW q0 q1))])) t → Steps p.tables e below (s₁.setTop (entryFrame m #[(.long q0), (.long q1)] 4)) t := fun t kt => go0 t (by
      refine XS.lloadN X0.here hx rfl (hb hby d2_0) rfl ?_
      show Steps p.tables e below (s₁.setTop (mkF m 1 #[.val (.long q0), .second, .val (.long q1), .second] [(.long q0)])) _
      refine XS.lloadN X0.here hx rfl (hb hby d2_1) rfl ?_
      show Steps p.tables e below (s₁.setTop (mkF m 2 #[.val (.long q0), .second, .val (.long q1), .second] [(.long q1), (.long q0)])) _
      refine XS.lcmp X0.here hx rfl (hb hby d2_2) rfl ?_
      show Steps p.tables e below (s₁.setTop (mkF m 3 #[.val (.long q0), .second, .val (.long q1), .second] [(.int (lcmpW q0 q1))])) _
      exact kt)
  by_cases hc3_2 : (lcmpW q0 q1) < (0 : Int32)
  · have go3 : ∀ t, Steps p.tables e below (s₁.setTop (mkF m 11 #[.val (.long q0), .second, .val (.long q1), .second] [(.long q1)])) t → Steps p.tables e below (s₁.setTop (entryFrame m #[(.long q0), (.long q1)] 4)) t := fun t kt => go1 t (by
        refine XS.ifYes X0.here hx rfl (pc0 := 3) (pc' := 10) rfl (hb hby d2_3) rfl ((if0 _ _).trans (tlt hc3_2).1) (by decide) (by decide) ?_
        show Steps p.tables e below (s₁.setTop (mkF m 10 #[.val (.long q0), .second, .val (.long q1), .second] [])) _
        refine XS.lloadN X0.here hx rfl (hb hby d2_10) rfl ?_
        show Steps p.tables e below (s₁.setTop (mkF m 11 #[.val (.long q0), .second, .val (.long q1), .second] [(.long q1)])) _
        exact kt)
    obtain ⟨fs, hr, hrun, hended, hW, hsame⟩ := X0.leave (v := some (.long q1)) (fun h => by rw [Bd.returns] at h; cases h)
    refine ⟨_, _, go3 _ (X0.lreturnOut hx Bd.returns (hb hby d2_11) hr), hrun, hended, _, _, rfl, ?_, ⟨_, rfl⟩, hW, hsame.mono (by decide) (by decide)⟩
    refine ⟨?_, N0, e0⟩
    show some (Value.long q1) = some (.long (own_maxL q0 q1))
    unfold own_maxL
    rw [if_pos hc3_2]
  · have go4 : ∀ t, Steps p.tables e below (s₁.setTop (mkF m 11 #[.val (.long q0), .second, .val (.long q1), .second] [(.long q0)])) t → Steps p.tables e below (s₁.setTop (entryFrame m #[(.long q0), (.long q1)] 4)) t := fun t kt => go1 t (by
        refine XS.ifNo X0.here hx rfl (hb hby d2_3) rfl ((if0 _ _).trans (flt hc3_2).1) ?_
        show Steps p.tables e below (s₁.setTop (mkF m 6 #[.val (.long q0), .second, .val (.long q1), .second] [])) _
        refine XS.lloadN X0.here hx rfl (hb hby d2_6) rfl ?_
        show Steps p.tables e below (s₁.setTop (mkF m 7 #[.val (.long q0), .second, .val (.long q1), .second] [(.long q0)])) _
        refine XS.goto X0.here hx rfl (pc0 := 7) (pc' := 11) rfl (hb hby d2_7) (by decide) (by decide) ?_
        show Steps p.tables e below (s₁.setTop (mkF m 11 #[.val (.long q0), .second, .val (.long q1), .second] [(.long q0)])) _
        exact kt)
    obtain ⟨fs, hr, hrun, hended, hW, hsame⟩ := X0.leave (v := some (.long q0)) (fun h => by rw [Bd.returns] at h; cases h)
    refine ⟨_, _, go4 _ (X0.lreturnOut hx Bd.returns (hb hby d2_11) hr), hrun, hended, _, _, rfl, ?_, ⟨_, rfl⟩, hW, hsame.mono (by decide) (by decide)⟩
    refine ⟨?_, N0, e0⟩
    show some (Value.long q0) = some (.long (own_maxL q0 q1))
    unfold own_maxL
    rw [if_neg hc3_2]
theorem d21_0 : decode prog_159_method_5_code 0 = .ok (.aload_n 0, 1) := by decide +kernel
theorem d21_1 : decode prog_159_method_5_code 1 = .ok (.getfield 21, 3) := by decide +kernel
theorem d21_4 : decode prog_159_method_5_code 4 = .ok (.areturn, 1) := by decide +kernel
theorem pn_21 : plainName "com/example/invariant_ink/invariantink/lang/Local" = true := by first | (simp [plainName, overriddenIn]; done) | decide +kernel
theorem ef_21 (m : MethodId) (a1 : Addr) : entryFrame m #[(.ref a1)] 1 = mkF m 0 #[.val (.ref a1)] [] := by first | (simp [entryFrame, mkF, argsToLocals, Value.category]; done) | rfl
set_option maxRecDepth 65536 in
set_option maxHeartbeats 40000000 in
theorem rm21 (l : Launch) (Z : State) (a0 : Array Value) (hw : ∀ d ∈ tables_1, d.before a0 Z = true) (ws : List Jvm.Cond) (a1 : Addr) (a2 : Addr) (h0 : Heap) (n0 : Nat) (F0 : Fld Z h0 a1 "com/example/invariant_ink/invariantink/lang/Local" "type" "Lcom/example/invariant_ink/invariantink/lang/Type;" (.ref a2)) :
    MetFree l (⟨"com/example/invariant_ink/invariantink/lang/Local", "getType", "()Lcom/example/invariant_ink/invariantink/lang/Type;"⟩ : MethodName) (head1 (Jvm.Cond.code (⟨"com/example/invariant_ink/invariantink/lang/Local", "getType", "()Lcom/example/invariant_ink/invariantink/lang/Type;"⟩ : MethodName) prog_159_method_5_code 1 (some (.object "com/example/invariant_ink/invariantink/lang/Type")) :: ws) ({ frames := 0, cells := 0, slots := 0, locals := 0 } : Room)) (fun a U => a = #[(.ref a1)] ∧ Z.Warmed39 U.vm ∧ U.heap = h0) (fun _ _ _ _ _ => True) (fun _ U o U' => ∃ v L, o = .returned v ∧ QP (some (.ref a2)) h0 n0 v U'.heap L ∧ FrameEnd U o U' L ({ frames := 0, cells := 0, slots := 0, locals := 0 } : Room).cells ({ frames := 0, cells := 0, slots := 0, locals := 0 } : Room).slots) := by
  refine MetFree.of_bodySF (plainFor_of_name pn_21) hisR ?_
  intro p e s m args below meth c s₁ Bd hml0 hP hK
  obtain ⟨rfl, hZ, hh⟩ := hP
  have hx := Bd.exec
  have hby := Bd.bytes
  have hml : c.maxLocals = 1 := hml0
  have hown : s.vm.findClass "com/example/invariant_ink/invariantink/lang/Local" = some m.cls := findClass_of_methodNamed Bd.named
  have hnm := (name_of_methodNamed Bd.named Bd.method).1
  have X0 : Stand p l e ({ frames := 0, cells := 0, slots := 0, locals := 0 } : Room) s m #[(.ref a1)] below meth c s₁ [] 0 0 := Stand.of_body Bd
  have e0 : s₁.heap = h0 := by rw [← hh, Bd.state]; rfl
  have N0 := Fr.nil n0
  have go0 : ∀ t, Steps p.tables e below (s₁.setTop (mkF m 0 #[.val (.ref a1)] [])) t → Steps p.tables e below (s₁.setTop (entryFrame m #[(.ref a1)] 1)) t := fun t k => castTop (ef_21 m a1) k
  have go1 : ∀ t, Steps p.tables e below (s₁.setTop (mkF m 1 #[.val (.ref a1)] [(.ref a1)])) t → Steps p.tables e below (s₁.setTop (entryFrame m #[(.ref a1)] 1)) t := fun t kt => go0 t (by
      refine XS.aloadN X0.here hx rfl (hb hby d21_0) rfl rfl ?_
      show Steps p.tables e below (s₁.setTop (mkF m 1 #[.val (.ref a1)] [(.ref a1)])) _
      exact kt)
  obtain ⟨T2, X2, e2, st2⟩ := getF X0 hx hZ hown (host := "") (Or.inl (own_h hw 65 rfl)) Via.refl e0 F0 (g := (mkF m 1 #[.val (.ref a1)] [(.ref a1)])) rfl rfl (hb hby d21_1)
  have go3 : ∀ t, Steps p.tables e below (T2.setTop (mkF m 4 #[.val (.ref a1)] [(.ref a2)])) t → Steps p.tables e below (s₁.setTop (entryFrame m #[(.ref a1)] 1)) t := fun t kt => go1 t (by
      refine st2 _ ?_
      show Steps p.tables e below (T2.setTop (mkF m 4 #[.val (.ref a1)] [(.ref a2)])) _
      exact kt)
  obtain ⟨fs, hr, hrun, hended, hW, hsame⟩ := X2.leave (v := some (.ref a2)) (fun h => by rw [Bd.returns] at h; cases h)
  refine ⟨_, _, go3 _ (X2.areturnOut hx rfl Bd.returns rfl (hb hby d21_4) hr), hrun, hended, _, _, rfl, ?_, ⟨_, rfl⟩, hW, hsame.mono (by decide) (by decide)⟩
  exact ⟨rfl, N0, e2⟩
theorem d22_0 : decode prog_159_method_4_code 0 = .ok (.aload_n 0, 1) := by decide +kernel
theorem d22_1 : decode prog_159_method_4_code 1 = .ok (.getfield 17, 3) := by decide +kernel
theorem d22_4 : decode prog_159_method_4_code 4 = .ok (.ireturn, 1) := by decide +kernel
theorem pn_22 : plainName "com/example/invariant_ink/invariantink/lang/Local" = true := by first | (simp [plainName, overriddenIn]; done) | decide +kernel
theorem ef_22 (m : MethodId) (a1 : Addr) : entryFrame m #[(.ref a1)] 1 = mkF m 0 #[.val (.ref a1)] [] := by first | (simp [entryFrame, mkF, argsToLocals, Value.category]; done) | rfl
set_option maxRecDepth 65536 in
set_option maxHeartbeats 40000000 in
theorem rm22 (l : Launch) (Z : State) (a0 : Array Value) (hw : ∀ d ∈ tables_1, d.before a0 Z = true) (ws : List Jvm.Cond) (a1 : Addr) (p1 : Int32) (h0 : Heap) (n0 : Nat) (F0 : Fld Z h0 a1 "com/example/invariant_ink/invariantink/lang/Local" "slot" "I" (.int p1)) :
    MetFree l (⟨"com/example/invariant_ink/invariantink/lang/Local", "getSlot", "()I"⟩ : MethodName) (head1 (Jvm.Cond.code (⟨"com/example/invariant_ink/invariantink/lang/Local", "getSlot", "()I"⟩ : MethodName) prog_159_method_4_code 1 (some .int) :: ws) ({ frames := 0, cells := 0, slots := 0, locals := 0 } : Room)) (fun a U => a = #[(.ref a1)] ∧ Z.Warmed39 U.vm ∧ U.heap = h0) (fun _ _ _ _ _ => True) (fun _ U o U' => ∃ v L, o = .returned v ∧ QP (some (.int p1)) h0 n0 v U'.heap L ∧ FrameEnd U o U' L ({ frames := 0, cells := 0, slots := 0, locals := 0 } : Room).cells ({ frames := 0, cells := 0, slots := 0, locals := 0 } : Room).slots) := by
  refine MetFree.of_bodySF (plainFor_of_name pn_22) hisR ?_
  intro p e s m args below meth c s₁ Bd hml0 hP hK
  obtain ⟨rfl, hZ, hh⟩ := hP
  have hx := Bd.exec
  have hby := Bd.bytes
  have hml : c.maxLocals = 1 := hml0
  have hown : s.vm.findClass "com/example/invariant_ink/invariantink/lang/Local" = some m.cls := findClass_of_methodNamed Bd.named
  have hnm := (name_of_methodNamed Bd.named Bd.method).1
  have X0 : Stand p l e ({ frames := 0, cells := 0, slots := 0, locals := 0 } : Room) s m #[(.ref a1)] below meth c s₁ [] 0 0 := Stand.of_body Bd
  have e0 : s₁.heap = h0 := by rw [← hh, Bd.state]; rfl
  have N0 := Fr.nil n0
  have go0 : ∀ t, Steps p.tables e below (s₁.setTop (mkF m 0 #[.val (.ref a1)] [])) t → Steps p.tables e below (s₁.setTop (entryFrame m #[(.ref a1)] 1)) t := fun t k => castTop (ef_22 m a1) k
  have go1 : ∀ t, Steps p.tables e below (s₁.setTop (mkF m 1 #[.val (.ref a1)] [(.ref a1)])) t → Steps p.tables e below (s₁.setTop (entryFrame m #[(.ref a1)] 1)) t := fun t kt => go0 t (by
      refine XS.aloadN X0.here hx rfl (hb hby d22_0) rfl rfl ?_
      show Steps p.tables e below (s₁.setTop (mkF m 1 #[.val (.ref a1)] [(.ref a1)])) _
      exact kt)
  obtain ⟨T2, X2, e2, st2⟩ := getF X0 hx hZ hown (host := "") (Or.inl (own_h hw 63 rfl)) Via.refl e0 F0 (g := (mkF m 1 #[.val (.ref a1)] [(.ref a1)])) rfl rfl (hb hby d22_1)
  have go3 : ∀ t, Steps p.tables e below (T2.setTop (mkF m 4 #[.val (.ref a1)] [(.int p1)])) t → Steps p.tables e below (s₁.setTop (entryFrame m #[(.ref a1)] 1)) t := fun t kt => go1 t (by
      refine st2 _ ?_
      show Steps p.tables e below (T2.setTop (mkF m 4 #[.val (.ref a1)] [(.int p1)])) _
      exact kt)
  obtain ⟨fs, hr, hrun, hended, hW, hsame⟩ := X2.leave (v := some (.int p1)) (fun h => by rw [Bd.returns] at h; cases h)
  refine ⟨_, _, go3 _ (retI X2 hx Bd.returns (hb hby d22_4) hr), hrun, hended, _, _, rfl, ?_, ⟨_, rfl⟩, hW, hsame.mono (by decide) (by decide)⟩
  exact ⟨rfl, N0, e2⟩
theorem d23_0 : decode prog_172_method_4_code 0 = .ok (.aload_n 0, 1) := by decide +kernel
theorem d23_1 : decode prog_172_method_4_code 1 = .ok (.getfield 16, 3) := by decide +kernel
theorem d23_4 : decode prog_172_method_4_code 4 = .ok (.lreturn, 1) := by decide +kernel
theorem pn_23 : plainName "com/example/invariant_ink/invariantink/lang/RangeType" = true := by first | (simp [plainName, overriddenIn]; done) | decide +kernel
theorem ef_23 (m : MethodId) (a1 : Addr) : entryFrame m #[(.ref a1)] 1 = mkF m 0 #[.val (.ref a1)] [] := by first | (simp [entryFrame, mkF, argsToLocals, Value.category]; done) | rfl
set_option maxRecDepth 65536 in
set_option maxHeartbeats 40000000 in
theorem rm23 (l : Launch) (Z : State) (a0 : Array Value) (hw : ∀ d ∈ tables_1, d.before a0 Z = true) (ws : List Jvm.Cond) (a1 : Addr) (q1 : Int64) (h0 : Heap) (n0 : Nat) (F0 : Fld Z h0 a1 "com/example/invariant_ink/invariantink/lang/RangeType" "low" "J" (.long q1)) :
    MetFree l (⟨"com/example/invariant_ink/invariantink/lang/RangeType", "first", "()J"⟩ : MethodName) (head1 (Jvm.Cond.code (⟨"com/example/invariant_ink/invariantink/lang/RangeType", "first", "()J"⟩ : MethodName) prog_172_method_4_code 1 (some .long) :: ws) ({ frames := 0, cells := 0, slots := 0, locals := 0 } : Room)) (fun a U => a = #[(.ref a1)] ∧ Z.Warmed39 U.vm ∧ U.heap = h0) (fun _ _ _ _ _ => True) (fun _ U o U' => ∃ v L, o = .returned v ∧ QP (some (.long q1)) h0 n0 v U'.heap L ∧ FrameEnd U o U' L ({ frames := 0, cells := 0, slots := 0, locals := 0 } : Room).cells ({ frames := 0, cells := 0, slots := 0, locals := 0 } : Room).slots) := by
  refine MetFree.of_bodySF (plainFor_of_name pn_23) hisR ?_
  intro p e s m args below meth c s₁ Bd hml0 hP hK
  obtain ⟨rfl, hZ, hh⟩ := hP
  have hx := Bd.exec
  have hby := Bd.bytes
  have hml : c.maxLocals = 1 := hml0
  have hown : s.vm.findClass "com/example/invariant_ink/invariantink/lang/RangeType" = some m.cls := findClass_of_methodNamed Bd.named
  have hnm := (name_of_methodNamed Bd.named Bd.method).1
  have X0 : Stand p l e ({ frames := 0, cells := 0, slots := 0, locals := 0 } : Room) s m #[(.ref a1)] below meth c s₁ [] 0 0 := Stand.of_body Bd
  have e0 : s₁.heap = h0 := by rw [← hh, Bd.state]; rfl
  have N0 := Fr.nil n0
  have go0 : ∀ t, Steps p.tables e below (s₁.setTop (mkF m 0 #[.val (.ref a1)] [])) t → Steps p.tables e below (s₁.setTop (entryFrame m #[(.ref a1)] 1)) t := fun t k => castTop (ef_23 m a1) k
  have go1 : ∀ t, Steps p.tables e below (s₁.setTop (mkF m 1 #[.val (.ref a1)] [(.ref a1)])) t → Steps p.tables e below (s₁.setTop (entryFrame m #[(.ref a1)] 1)) t := fun t kt => go0 t (by
      refine XS.aloadN X0.here hx rfl (hb hby d23_0) rfl rfl ?_
      show Steps p.tables e below (s₁.setTop (mkF m 1 #[.val (.ref a1)] [(.ref a1)])) _
      exact kt)
  obtain ⟨T2, X2, e2, st2⟩ := getF X0 hx hZ hown (host := "") (Or.inl (own_h hw 51 rfl)) Via.refl e0 F0 (g := (mkF m 1 #[.val (.ref a1)] [(.ref a1)])) rfl rfl (hb hby d23_1)
  have go3 : ∀ t, Steps p.tables e below (T2.setTop (mkF m 4 #[.val (.ref a1)] [(.long q1)])) t → Steps p.tables e below (s₁.setTop (entryFrame m #[(.ref a1)] 1)) t := fun t kt => go1 t (by
      refine st2 _ ?_
      show Steps p.tables e below (T2.setTop (mkF m 4 #[.val (.ref a1)] [(.long q1)])) _
      exact kt)
  obtain ⟨fs, hr, hrun, hended, hW, hsame⟩ := X2.leave (v := some (.long q1)) (fun h => by rw [Bd.returns] at h; cases h)
  refine ⟨_, _, go3 _ (X2.lreturnOut hx Bd.returns (hb hby d23_4) hr), hrun, hended, _, _, rfl, ?_, ⟨_, rfl⟩, hW, hsame.mono (by decide) (by decide)⟩
  exact ⟨rfl, N0, e2⟩
theorem d24_0 : decode prog_172_method_5_code 0 = .ok (.aload_n 0, 1) := by decide +kernel
theorem d24_1 : decode prog_172_method_5_code 1 = .ok (.getfield 22, 3) := by decide +kernel
theorem d24_4 : decode prog_172_method_5_code 4 = .ok (.lreturn, 1) := by decide +kernel
theorem pn_24 : plainName "com/example/invariant_ink/invariantink/lang/RangeType" = true := by first | (simp [plainName, overriddenIn]; done) | decide +kernel
theorem ef_24 (m : MethodId) (a1 : Addr) : entryFrame m #[(.ref a1)] 1 = mkF m 0 #[.val (.ref a1)] [] := by first | (simp [entryFrame, mkF, argsToLocals, Value.category]; done) | rfl
set_option maxRecDepth 65536 in
set_option maxHeartbeats 40000000 in
theorem rm24 (l : Launch) (Z : State) (a0 : Array Value) (hw : ∀ d ∈ tables_1, d.before a0 Z = true) (ws : List Jvm.Cond) (a1 : Addr) (q1 : Int64) (h0 : Heap) (n0 : Nat) (F0 : Fld Z h0 a1 "com/example/invariant_ink/invariantink/lang/RangeType" "high" "J" (.long q1)) :
    MetFree l (⟨"com/example/invariant_ink/invariantink/lang/RangeType", "last", "()J"⟩ : MethodName) (head1 (Jvm.Cond.code (⟨"com/example/invariant_ink/invariantink/lang/RangeType", "last", "()J"⟩ : MethodName) prog_172_method_5_code 1 (some .long) :: ws) ({ frames := 0, cells := 0, slots := 0, locals := 0 } : Room)) (fun a U => a = #[(.ref a1)] ∧ Z.Warmed39 U.vm ∧ U.heap = h0) (fun _ _ _ _ _ => True) (fun _ U o U' => ∃ v L, o = .returned v ∧ QP (some (.long q1)) h0 n0 v U'.heap L ∧ FrameEnd U o U' L ({ frames := 0, cells := 0, slots := 0, locals := 0 } : Room).cells ({ frames := 0, cells := 0, slots := 0, locals := 0 } : Room).slots) := by
  refine MetFree.of_bodySF (plainFor_of_name pn_24) hisR ?_
  intro p e s m args below meth c s₁ Bd hml0 hP hK
  obtain ⟨rfl, hZ, hh⟩ := hP
  have hx := Bd.exec
  have hby := Bd.bytes
  have hml : c.maxLocals = 1 := hml0
  have hown : s.vm.findClass "com/example/invariant_ink/invariantink/lang/RangeType" = some m.cls := findClass_of_methodNamed Bd.named
  have hnm := (name_of_methodNamed Bd.named Bd.method).1
  have X0 : Stand p l e ({ frames := 0, cells := 0, slots := 0, locals := 0 } : Room) s m #[(.ref a1)] below meth c s₁ [] 0 0 := Stand.of_body Bd
  have e0 : s₁.heap = h0 := by rw [← hh, Bd.state]; rfl
  have N0 := Fr.nil n0
  have go0 : ∀ t, Steps p.tables e below (s₁.setTop (mkF m 0 #[.val (.ref a1)] [])) t → Steps p.tables e below (s₁.setTop (entryFrame m #[(.ref a1)] 1)) t := fun t k => castTop (ef_24 m a1) k
  have go1 : ∀ t, Steps p.tables e below (s₁.setTop (mkF m 1 #[.val (.ref a1)] [(.ref a1)])) t → Steps p.tables e below (s₁.setTop (entryFrame m #[(.ref a1)] 1)) t := fun t kt => go0 t (by
      refine XS.aloadN X0.here hx rfl (hb hby d24_0) rfl rfl ?_
      show Steps p.tables e below (s₁.setTop (mkF m 1 #[.val (.ref a1)] [(.ref a1)])) _
      exact kt)
  obtain ⟨T2, X2, e2, st2⟩ := getF X0 hx hZ hown (host := "") (Or.inl (own_h hw 53 rfl)) Via.refl e0 F0 (g := (mkF m 1 #[.val (.ref a1)] [(.ref a1)])) rfl rfl (hb hby d24_1)
  have go3 : ∀ t, Steps p.tables e below (T2.setTop (mkF m 4 #[.val (.ref a1)] [(.long q1)])) t → Steps p.tables e below (s₁.setTop (entryFrame m #[(.ref a1)] 1)) t := fun t kt => go1 t (by
      refine st2 _ ?_
      show Steps p.tables e below (T2.setTop (mkF m 4 #[.val (.ref a1)] [(.long q1)])) _
      exact kt)
  obtain ⟨fs, hr, hrun, hended, hW, hsame⟩ := X2.leave (v := some (.long q1)) (fun h => by rw [Bd.returns] at h; cases h)
  refine ⟨_, _, go3 _ (X2.lreturnOut hx Bd.returns (hb hby d24_4) hr), hrun, hended, _, _, rfl, ?_, ⟨_, rfl⟩, hW, hsame.mono (by decide) (by decide)⟩
  exact ⟨rfl, N0, e2⟩
theorem d16_0 : decode jdk_38_method_8_code 0 = .ok (.aload_n 0, 1) := by decide +kernel
theorem d16_1 : decode jdk_38_method_8_code 1 = .ok (.getfield 48, 3) := by decide +kernel
theorem d16_4 : decode jdk_38_method_8_code 4 = .ok (.ireturn, 1) := by decide +kernel
theorem pn_16 : plainName "java/util/ArrayList" = true := by first | (simp [plainName, overriddenIn]; done) | decide +kernel
theorem ef_16 (m : MethodId) (a1 : Addr) : entryFrame m #[(.ref a1)] 1 = mkF m 0 #[.val (.ref a1)] [] := by first | (simp [entryFrame, mkF, argsToLocals, Value.category]; done) | rfl
set_option maxRecDepth 65536 in
set_option maxHeartbeats 40000000 in
theorem rm16 (l : Launch) (Z : State) (a0 : Array Value) (hw : ∀ d ∈ tables_1, d.before a0 Z = true) (ws : List Jvm.Cond) (a1 : Addr) (p1 : Int32) (h0 : Heap) (n0 : Nat) (F0 : Fld Z h0 a1 "java/util/ArrayList" "size" "I" (.int p1)) :
    MetFree l (⟨"java/util/ArrayList", "size", "()I"⟩ : MethodName) (head1 (Jvm.Cond.code (⟨"java/util/ArrayList", "size", "()I"⟩ : MethodName) jdk_38_method_8_code 1 (some .int) :: ws) ({ frames := 0, cells := 0, slots := 0, locals := 0 } : Room)) (fun a U => a = #[(.ref a1)] ∧ Z.Warmed39 U.vm ∧ U.heap = h0) (fun _ _ _ _ _ => True) (fun _ U o U' => ∃ v L, o = .returned v ∧ QP (some (.int p1)) h0 n0 v U'.heap L ∧ FrameEnd U o U' L ({ frames := 0, cells := 0, slots := 0, locals := 0 } : Room).cells ({ frames := 0, cells := 0, slots := 0, locals := 0 } : Room).slots) := by
  refine MetFree.of_bodySF (plainFor_of_name pn_16) hisR ?_
  intro p e s m args below meth c s₁ Bd hml0 hP hK
  obtain ⟨rfl, hZ, hh⟩ := hP
  have hx := Bd.exec
  have hby := Bd.bytes
  have hml : c.maxLocals = 1 := hml0
  have hown : s.vm.findClass "java/util/ArrayList" = some m.cls := findClass_of_methodNamed Bd.named
  have hnm := (name_of_methodNamed Bd.named Bd.method).1
  have X0 : Stand p l e ({ frames := 0, cells := 0, slots := 0, locals := 0 } : Room) s m #[(.ref a1)] below meth c s₁ [] 0 0 := Stand.of_body Bd
  have e0 : s₁.heap = h0 := by rw [← hh, Bd.state]; rfl
  have N0 := Fr.nil n0
  have go0 : ∀ t, Steps p.tables e below (s₁.setTop (mkF m 0 #[.val (.ref a1)] [])) t → Steps p.tables e below (s₁.setTop (entryFrame m #[(.ref a1)] 1)) t := fun t k => castTop (ef_16 m a1) k
  have go1 : ∀ t, Steps p.tables e below (s₁.setTop (mkF m 1 #[.val (.ref a1)] [(.ref a1)])) t → Steps p.tables e below (s₁.setTop (entryFrame m #[(.ref a1)] 1)) t := fun t kt => go0 t (by
      refine XS.aloadN X0.here hx rfl (hb hby d16_0) rfl rfl ?_
      show Steps p.tables e below (s₁.setTop (mkF m 1 #[.val (.ref a1)] [(.ref a1)])) _
      exact kt)
  obtain ⟨T2, X2, e2, st2⟩ := getF X0 hx hZ hown (host := "") (Or.inl (own_h hw 76 rfl)) Via.refl e0 F0 (g := (mkF m 1 #[.val (.ref a1)] [(.ref a1)])) rfl rfl (hb hby d16_1)
  have go3 : ∀ t, Steps p.tables e below (T2.setTop (mkF m 4 #[.val (.ref a1)] [(.int p1)])) t → Steps p.tables e below (s₁.setTop (entryFrame m #[(.ref a1)] 1)) t := fun t kt => go1 t (by
      refine st2 _ ?_
      show Steps p.tables e below (T2.setTop (mkF m 4 #[.val (.ref a1)] [(.int p1)])) _
      exact kt)
  obtain ⟨fs, hr, hrun, hended, hW, hsame⟩ := X2.leave (v := some (.int p1)) (fun h => by rw [Bd.returns] at h; cases h)
  refine ⟨_, _, go3 _ (retI X2 hx Bd.returns (hb hby d16_4) hr), hrun, hended, _, _, rfl, ?_, ⟨_, rfl⟩, hW, hsame.mono (by decide) (by decide)⟩
  exact ⟨rfl, N0, e2⟩
theorem d19_0 : decode jdk_41_method_11_code 0 = .ok (.iload_n 0, 1) := by decide +kernel
theorem d19_1 : decode jdk_41_method_11_code 1 = .ok (.ifCond .lt 8, 3) := by decide +kernel
theorem d19_4 : decode jdk_41_method_11_code 4 = .ok (.iload_n 0, 1) := by decide +kernel
theorem d19_5 : decode jdk_41_method_11_code 5 = .ok (.iload_n 1, 1) := by decide +kernel
theorem d19_6 : decode jdk_41_method_11_code 6 = .ok (.if_icmp .lt 10, 3) := by decide +kernel
theorem d19_16 : decode jdk_41_method_11_code 16 = .ok (.iload_n 0, 1) := by decide +kernel
theorem d19_17 : decode jdk_41_method_11_code 17 = .ok (.ireturn, 1) := by decide +kernel
theorem pn_19 : plainName "jdk/internal/util/Preconditions" = true := by first | (simp [plainName, overriddenIn]; done) | decide +kernel
theorem ef_19 (m : MethodId) (p1 : Int32) (p2 : Int32) : entryFrame m #[(.int p1), (.int p2), .null] 3 = mkF m 0 #[.val (.int p1), .val (.int p2), .val .null] [] := by first | (simp [entryFrame, mkF, argsToLocals, Value.category]; done) | rfl
set_option maxRecDepth 65536 in
set_option maxHeartbeats 40000000 in
theorem rm19 (l : Launch) (Z : State) (a0 : Array Value) (hw : ∀ d ∈ tables_1, d.before a0 Z = true) (ws : List Jvm.Cond) (p1 p2 : Int32) (h0 : Heap) (n0 : Nat) (h1 : ¬ p1 < (0 : Int32)) (h2 : p1 < p2) :
    MetFree l (⟨"jdk/internal/util/Preconditions", "checkIndex", "(IILjava/util/function/BiFunction;)I"⟩ : MethodName) (head1 (Jvm.Cond.code (⟨"jdk/internal/util/Preconditions", "checkIndex", "(IILjava/util/function/BiFunction;)I"⟩ : MethodName) jdk_41_method_11_code 3 (some .int) :: ws) ({ frames := 0, cells := 0, slots := 0, locals := 0 } : Room)) (fun a U => a = #[(.int p1), (.int p2), .null] ∧ Z.Warmed39 U.vm ∧ U.heap = h0) (fun _ _ _ _ _ => True) (fun _ U o U' => ∃ v L, o = .returned v ∧ QP (some (.int p1)) h0 n0 v U'.heap L ∧ FrameEnd U o U' L ({ frames := 0, cells := 0, slots := 0, locals := 0 } : Room).cells ({ frames := 0, cells := 0, slots := 0, locals := 0 } : Room).slots) := by
  refine MetFree.of_bodySF (plainFor_of_name pn_19) hisR ?_
  intro p e s m args below meth c s₁ Bd hml0 hP hK
  obtain ⟨rfl, hZ, hh⟩ := hP
  have hx := Bd.exec
  have hby := Bd.bytes
  have hml : c.maxLocals = 3 := hml0
  have hown : s.vm.findClass "jdk/internal/util/Preconditions" = some m.cls := findClass_of_methodNamed Bd.named
  have hnm := (name_of_methodNamed Bd.named Bd.method).1
  have X0 : Stand p l e ({ frames := 0, cells := 0, slots := 0, locals := 0 } : Room) s m #[(.int p1), (.int p2), .null] below meth c s₁ [] 0 0 := Stand.of_body Bd
  have e0 : s₁.heap = h0 := by rw [← hh, Bd.state]; rfl
  have N0 := Fr.nil n0
  have go0 : ∀ t, Steps p.tables e below (s₁.setTop (mkF m 0 #[.val (.int p1), .val (.int p2), .val .null] [])) t → Steps p.tables e below (s₁.setTop (entryFrame m #[(.int p1), (.int p2), .null] 3)) t := fun t k => castTop (ef_19 m p1 p2) k
  have hc1_1 : ¬ (p1 < (0 : Int32)) := h1
  have hc6_2 : p1 < p2 := h2
  have go3 : ∀ t, Steps p.tables e below (s₁.setTop (mkF m 17 #[.val (.int p1), .val (.int p2), .val .null] [(.int p1)])) t → Steps p.tables e below (s₁.setTop (entryFrame m #[(.int p1), (.int p2), .null] 3)) t := fun t kt => go0 t (by
      refine XS.iloadN X0.here hx rfl (hb hby d19_0) rfl ?_
      show Steps p.tables e below (s₁.setTop (mkF m 1 #[.val (.int p1), .val (.int p2), .val .null] [(.int p1)])) _
      refine XS.ifNo X0.here hx rfl (hb hby d19_1) rfl ((if0 _ _).trans (flt hc1_1).1) ?_
      show Steps p.tables e below (s₁.setTop (mkF m 4 #[.val (.int p1), .val (.int p2), .val .null] [])) _
      refine XS.iloadN X0.here hx rfl (hb hby d19_4) rfl ?_
      show Steps p.tables e below (s₁.setTop (mkF m 5 #[.val (.int p1), .val (.int p2), .val .null] [(.int p1)])) _
      refine XS.iloadN X0.here hx rfl (hb hby d19_5) rfl ?_
      show Steps p.tables e below (s₁.setTop (mkF m 6 #[.val (.int p1), .val (.int p2), .val .null] [(.int p2), (.int p1)])) _
      refine XS.icmpYes X0.here hx rfl (pc0 := 6) (pc' := 16) rfl (hb hby d19_6) rfl (tlt hc6_2).1 (by decide) (by decide) ?_
      show Steps p.tables e below (s₁.setTop (mkF m 16 #[.val (.int p1), .val (.int p2), .val .null] [])) _
      refine XS.iloadN X0.here hx rfl (hb hby d19_16) rfl ?_
      show Steps p.tables e below (s₁.setTop (mkF m 17 #[.val (.int p1), .val (.int p2), .val .null] [(.int p1)])) _
      exact kt)
  obtain ⟨fs, hr, hrun, hended, hW, hsame⟩ := X0.leave (v := some (.int p1)) (fun h => by rw [Bd.returns] at h; cases h)
  refine ⟨_, _, go3 _ (retI X0 hx Bd.returns (hb hby d19_17) hr), hrun, hended, _, _, rfl, ?_, ⟨_, rfl⟩, hW, hsame.mono (by decide) (by decide)⟩
  exact ⟨rfl, N0, e0⟩
abbrev own_m0 : MethodName := ⟨"jdk/internal/util/Preconditions", "checkIndex", "(IILjava/util/function/BiFunction;)I"⟩
theorem d18_0 : decode jdk_31_method_17_code 0 = .ok (.iload_n 0, 1) := by decide +kernel
theorem d18_1 : decode jdk_31_method_17_code 1 = .ok (.iload_n 1, 1) := by decide +kernel
theorem d18_2 : decode jdk_31_method_17_code 2 = .ok (.aconst_null, 1) := by decide +kernel
theorem d18_3 : decode jdk_31_method_17_code 3 = .ok (.invokestatic 105, 3) := by decide +kernel
theorem d18_6 : decode jdk_31_method_17_code 6 = .ok (.ireturn, 1) := by decide +kernel
theorem pn_18 : plainName "java/util/Objects" = true := by first | (simp [plainName, overriddenIn]; done) | decide +kernel
theorem ef_18 (m : MethodId) (p1 : Int32) (p2 : Int32) : entryFrame m #[(.int p1), (.int p2)] 2 = mkF m 0 #[.val (.int p1), .val (.int p2)] [] := by first | (simp [entryFrame, mkF, argsToLocals, Value.category]; done) | rfl
set_option maxRecDepth 65536 in
set_option maxHeartbeats 40000000 in
theorem rm18 (l : Launch) (Z : State) (a0 : Array Value) (hw : ∀ d ∈ tables_1, d.before a0 Z = true) (ws : List Jvm.Cond) (p1 p2 : Int32) (h0 : Heap) (n0 : Nat) (h1 : ¬ p1 < (0 : Int32)) (h2 : p1 < p2) :
    MetFree l (⟨"java/util/Objects", "checkIndex", "(II)I"⟩ : MethodName) (head1 (Jvm.Cond.code (⟨"java/util/Objects", "checkIndex", "(II)I"⟩ : MethodName) jdk_31_method_17_code 2 (some .int) :: ws) ({ frames := 1, cells := 0, slots := 0, locals := 14 } : Room)) (fun a U => a = #[(.int p1), (.int p2)] ∧ Z.Warmed39 U.vm ∧ U.heap = h0) (fun _ _ _ _ _ => True) (fun _ U o U' => ∃ v L, o = .returned v ∧ QP (some (.int p1)) h0 n0 v U'.heap L ∧ FrameEnd U o U' L ({ frames := 1, cells := 0, slots := 0, locals := 14 } : Room).cells ({ frames := 1, cells := 0, slots := 0, locals := 14 } : Room).slots) := by
  refine MetFree.of_bodySF (plainFor_of_name pn_18) hisR ?_
  intro p e s m args below meth c s₁ Bd hml0 hP hK
  obtain ⟨rfl, hZ, hh⟩ := hP
  have hx := Bd.exec
  have hby := Bd.bytes
  have hml : c.maxLocals = 2 := hml0
  have hown : s.vm.findClass "java/util/Objects" = some m.cls := findClass_of_methodNamed Bd.named
  have hnm := (name_of_methodNamed Bd.named Bd.method).1
  have X0 : Stand p l e ({ frames := 1, cells := 0, slots := 0, locals := 14 } : Room) s m #[(.int p1), (.int p2)] below meth c s₁ [] 0 0 := Stand.of_body Bd
  have e0 : s₁.heap = h0 := by rw [← hh, Bd.state]; rfl
  have N0 := Fr.nil n0
  have go0 : ∀ t, Steps p.tables e below (s₁.setTop (mkF m 0 #[.val (.int p1), .val (.int p2)] [])) t → Steps p.tables e below (s₁.setTop (entryFrame m #[(.int p1), (.int p2)] 2)) t := fun t k => castTop (ef_18 m p1 p2) k
  have go1 : ∀ t, Steps p.tables e below (s₁.setTop (mkF m 3 #[.val (.int p1), .val (.int p2)] [.null, (.int p2), (.int p1)])) t → Steps p.tables e below (s₁.setTop (entryFrame m #[(.int p1), (.int p2)] 2)) t := fun t kt => go0 t (by
      refine XS.iloadN X0.here hx rfl (hb hby d18_0) rfl ?_
      show Steps p.tables e below (s₁.setTop (mkF m 1 #[.val (.int p1), .val (.int p2)] [(.int p1)])) _
      refine XS.iloadN X0.here hx rfl (hb hby d18_1) rfl ?_
      show Steps p.tables e below (s₁.setTop (mkF m 2 #[.val (.int p1), .val (.int p2)] [(.int p2), (.int p1)])) _
      refine XS.aconstNull X0.here hx rfl (hb hby d18_2) ?_
      show Steps p.tables e below (s₁.setTop (mkF m 3 #[.val (.int p1), .val (.int p2)] [.null, (.int p2), (.int p1)])) _
      exact kt)
  obtain ⟨_, _, ⟨T2, L2, k2, n2⟩, -, X2, ⟨Lc2, hQ2, l2, y2, z2⟩, st2⟩ := Jvm.LawKit.callS X0 hx (y := own_m0) hown (mvT hZ (own_h hw 139 rfl)) (mvT hZ (own_h hw 140 rfl)) (mvT hZ (own_h hw 141 rfl)) (mvT hZ (own_h hw 142 rfl)) (by decide) (backOf (W := 0) (rm19 l Z a0 hw [] p1 p2 h0 n0 h1 h2) hZ (own_h hw 142 rfl) (own_h hw 141 rfl) (by decide) (by decide)) (g := (mkF m 3 #[.val (.int p1), .val (.int p2)] [.null, (.int p2), (.int p1)])) rfl (by rw [hml]; rfl) (argsL := [(.int p1), (.int p2), .null]) (rest := []) (lenOf pd_13 rfl) rfl (by show 2 * 0 + _ ≤ _; exact Nat.le_of_eq rfl) (hb hby d18_3) (fun _ _ => ⟨rfl, e0, (by decide : 0 + 0 ≤ _), (by decide : 0 + 0 ≤ _)⟩)
  dsimp only [Pt.U, Pt.locs, Pt.cells, Pt.slots] at X2 l2 y2 z2 st2 hQ2
  subst y2 z2
  obtain ⟨rfl, N2q, e2⟩ := hQ2
  have N2 := Fr.app N0 N2q
  rw [← l2] at N2
  have go3 : ∀ t, Steps p.tables e below (T2.setTop (mkF m 6 #[.val (.int p1), .val (.int p2)] [(.int p1)])) t → Steps p.tables e below (s₁.setTop (entryFrame m #[(.int p1), (.int p2)] 2)) t := fun t kt => go1 t (by
      refine st2 _ ?_
      show Steps p.tables e below (T2.setTop (mkF m 6 #[.val (.int p1), .val (.int p2)] [(.int p1)])) _
      exact kt)
  obtain ⟨fs, hr, hrun, hended, hW, hsame⟩ := X2.leave (v := some (.int p1)) (fun h => by rw [Bd.returns] at h; cases h)
  refine ⟨_, _, go3 _ (retI X2 hx Bd.returns (hb hby d18_6) hr), hrun, hended, _, _, rfl, ?_, ⟨_, rfl⟩, hW, hsame.mono (by decide) (by decide)⟩
  exact ⟨rfl, N2, e2⟩
theorem d20_0 : decode jdk_38_method_18_code 0 = .ok (.aload_n 0, 1) := by decide +kernel
theorem d20_1 : decode jdk_38_method_18_code 1 = .ok (.getfield 9, 3) := by decide +kernel
theorem d20_4 : decode jdk_38_method_18_code 4 = .ok (.iload_n 1, 1) := by decide +kernel
theorem d20_5 : decode jdk_38_method_18_code 5 = .ok (.aaload, 1) := by decide +kernel
theorem d20_6 : decode jdk_38_method_18_code 6 = .ok (.areturn, 1) := by decide +kernel
theorem pn_20 : plainName "java/util/ArrayList" = true := by first | (simp [plainName, overriddenIn]; done) | decide +kernel
theorem ef_20 (m : MethodId) (a1 : Addr) (p2 : Int32) : entryFrame m #[(.ref a1), (.int p2)] 2 = mkF m 0 #[.val (.ref a1), .val (.int p2)] [] := by first | (simp [entryFrame, mkF, argsToLocals, Value.category]; done) | rfl
set_option maxRecDepth 65536 in
set_option maxHeartbeats 40000000 in
theorem rm20 (l : Launch) (Z : State) (a0 : Array Value) (hw : ∀ d ∈ tables_1, d.before a0 Z = true) (ws : List Jvm.Cond) (a1 : Addr) (p2 : Int32) (a3 a4 : Addr) (vs : List Value) (i : Nat) (h0 : Heap) (n0 : Nat) (F0 : Fld Z h0 a1 "java/util/ArrayList" "elementData" "[Ljava/lang/Object;" (.ref a3)) (V0 : own_AV Z h0 a3 (.object "java/lang/Object") vs) (h1 : ¬ p2 < (0 : Int32)) (h3 : p2.toNatClampNeg = i) (h4 : vs[i]? = some (.ref a4)) :
    MetFree l (⟨"java/util/ArrayList", "elementData", "(I)Ljava/lang/Object;"⟩ : MethodName) (head1 (Jvm.Cond.code (⟨"java/util/ArrayList", "elementData", "(I)Ljava/lang/Object;"⟩ : MethodName) jdk_38_method_18_code 2 (some (.object "java/lang/Object")) :: ws) ({ frames := 0, cells := 0, slots := 0, locals := 0 } : Room)) (fun a U => a = #[(.ref a1), (.int p2)] ∧ Z.Warmed39 U.vm ∧ U.heap = h0) (fun _ _ _ _ _ => True) (fun _ U o U' => ∃ v L, o = .returned v ∧ QP (some (.ref a4)) h0 n0 v U'.heap L ∧ FrameEnd U o U' L ({ frames := 0, cells := 0, slots := 0, locals := 0 } : Room).cells ({ frames := 0, cells := 0, slots := 0, locals := 0 } : Room).slots) := by
  refine MetFree.of_bodySF (plainFor_of_name pn_20) hisR ?_
  intro p e s m args below meth c s₁ Bd hml0 hP hK
  obtain ⟨rfl, hZ, hh⟩ := hP
  have hx := Bd.exec
  have hby := Bd.bytes
  have hml : c.maxLocals = 2 := hml0
  have hown : s.vm.findClass "java/util/ArrayList" = some m.cls := findClass_of_methodNamed Bd.named
  have hnm := (name_of_methodNamed Bd.named Bd.method).1
  have X0 : Stand p l e ({ frames := 0, cells := 0, slots := 0, locals := 0 } : Room) s m #[(.ref a1), (.int p2)] below meth c s₁ [] 0 0 := Stand.of_body Bd
  have e0 : s₁.heap = h0 := by rw [← hh, Bd.state]; rfl
  have N0 := Fr.nil n0
  have go0 : ∀ t, Steps p.tables e below (s₁.setTop (mkF m 0 #[.val (.ref a1), .val (.int p2)] [])) t → Steps p.tables e below (s₁.setTop (entryFrame m #[(.ref a1), (.int p2)] 2)) t := fun t k => castTop (ef_20 m a1 p2) k
  have go1 : ∀ t, Steps p.tables e below (s₁.setTop (mkF m 1 #[.val (.ref a1), .val (.int p2)] [(.ref a1)])) t → Steps p.tables e below (s₁.setTop (entryFrame m #[(.ref a1), (.int p2)] 2)) t := fun t kt => go0 t (by
      refine XS.aloadN X0.here hx rfl (hb hby d20_0) rfl rfl ?_
      show Steps p.tables e below (s₁.setTop (mkF m 1 #[.val (.ref a1), .val (.int p2)] [(.ref a1)])) _
      exact kt)
  obtain ⟨T2, X2, e2, st2⟩ := getF X0 hx hZ hown (host := "") (Or.inl (own_h hw 31 rfl)) Via.refl e0 F0 (g := (mkF m 1 #[.val (.ref a1), .val (.int p2)] [(.ref a1)])) rfl rfl (hb hby d20_1)
  have go3 : ∀ t, Steps p.tables e below (T2.setTop (mkF m 5 #[.val (.ref a1), .val (.int p2)] [(.int p2), (.ref a3)])) t → Steps p.tables e below (s₁.setTop (entryFrame m #[(.ref a1), (.int p2)] 2)) t := fun t kt => go1 t (by
      refine st2 _ ?_
      show Steps p.tables e below (T2.setTop (mkF m 4 #[.val (.ref a1), .val (.int p2)] [(.ref a3)])) _
      refine XS.iloadN X2.here hx rfl (hb hby d20_4) rfl ?_
      show Steps p.tables e below (T2.setTop (mkF m 5 #[.val (.ref a1), .val (.int p2)] [(.int p2), (.ref a3)])) _
      exact kt)
  obtain ⟨c4, Ar4, q4⟩ := id V0
  have go5 : ∀ t, Steps p.tables e below (T2.setTop (mkF m 6 #[.val (.ref a1), .val (.int p2)] [(.ref a4)])) t → Steps p.tables e below (s₁.setTop (entryFrame m #[(.ref a1), (.int p2)] 2)) t := fun t kt => go3 t (by
      refine X2.aaload hx (j := p2) (v := (.ref a4)) (by rw [e2]; exact Ar4.1) (State.isArrayOf_alike hZ.alike Ar4.2.1) rfl Ar4.2.2 (own_inb q4 rfl h1 (by rw [h3]; exact (List.getElem?_eq_some_iff.mp h4).1)) (own_get q4 h3 h4) (g := (mkF m 5 #[.val (.ref a1), .val (.int p2)] [(.int p2), (.ref a3)])) rfl rfl (hb hby d20_5) _ ?_
      show Steps p.tables e below (T2.setTop (mkF m 6 #[.val (.ref a1), .val (.int p2)] [(.ref a4)])) _
      exact kt)
  obtain ⟨fs, hr, hrun, hended, hW, hsame⟩ := X2.leave (v := some (.ref a4)) (fun h => by rw [Bd.returns] at h; cases h)
  refine ⟨_, _, go5 _ (X2.areturnOut hx rfl Bd.returns rfl (hb hby d20_6) hr), hrun, hended, _, _, rfl, ?_, ⟨_, rfl⟩, hW, hsame.mono (by decide) (by decide)⟩
  exact ⟨rfl, N0, e2⟩
abbrev own_m1 : MethodName := ⟨"java/util/Objects", "checkIndex", "(II)I"⟩
abbrev own_m2 : MethodName := ⟨"java/util/ArrayList", "elementData", "(I)Ljava/lang/Object;"⟩
theorem d17_0 : decode jdk_38_method_20_code 0 = .ok (.iload_n 1, 1) := by decide +kernel
theorem d17_1 : decode jdk_38_method_20_code 1 = .ok (.aload_n 0, 1) := by decide +kernel
theorem d17_2 : decode jdk_38_method_20_code 2 = .ok (.getfield 48, 3) := by decide +kernel
theorem d17_5 : decode jdk_38_method_20_code 5 = .ok (.invokestatic 118, 3) := by decide +kernel
theorem d17_8 : decode jdk_38_method_20_code 8 = .ok (.pop, 1) := by decide +kernel
theorem d17_9 : decode jdk_38_method_20_code 9 = .ok (.aload_n 0, 1) := by decide +kernel
theorem d17_10 : decode jdk_38_method_20_code 10 = .ok (.iload_n 1, 1) := by decide +kernel
theorem d17_11 : decode jdk_38_method_20_code 11 = .ok (.invokevirtual 123, 3) := by decide +kernel
theorem d17_14 : decode jdk_38_method_20_code 14 = .ok (.areturn, 1) := by decide +kernel
theorem pn_17 : plainName "java/util/ArrayList" = true := by first | (simp [plainName, overriddenIn]; done) | decide +kernel
theorem ef_17 (m : MethodId) (a1 : Addr) (p2 : Int32) : entryFrame m #[(.ref a1), (.int p2)] 2 = mkF m 0 #[.val (.ref a1), .val (.int p2)] [] := by first | (simp [entryFrame, mkF, argsToLocals, Value.category]; done) | rfl
set_option maxRecDepth 65536 in
set_option maxHeartbeats 40000000 in
theorem rm17 (l : Launch) (Z : State) (a0 : Array Value) (hw : ∀ d ∈ tables_1, d.before a0 Z = true) (ws : List Jvm.Cond) (a1 : Addr) (p2 : Int32) (a3 a4 : Addr) (vs : List Value) (i : Nat) (p5 : Int32) (h0 : Heap) (n0 : Nat) (F0 : Fld Z h0 a1 "java/util/ArrayList" "elementData" "[Ljava/lang/Object;" (.ref a3)) (V0 : own_AV Z h0 a3 (.object "java/lang/Object") vs) (h1 : ¬ p2 < (0 : Int32)) (h3 : p2.toNatClampNeg = i) (h4 : vs[i]? = some (.ref a4)) (E0 : Exa Z h0 a1 "java/util/ArrayList") (F1 : Fld Z h0 a1 "java/util/ArrayList" "size" "I" (.int p5)) (h2 : p2 < p5) :
    MetFree l (⟨"java/util/ArrayList", "get", "(I)Ljava/lang/Object;"⟩ : MethodName) (head1 (Jvm.Cond.code (⟨"java/util/ArrayList", "get", "(I)Ljava/lang/Object;"⟩ : MethodName) jdk_38_method_20_code 2 (some (.object "java/lang/Object")) :: ws) ({ frames := 2, cells := 0, slots := 0, locals := 27 } : Room)) (fun a U => a = #[(.ref a1), (.int p2)] ∧ Z.Warmed39 U.vm ∧ U.heap = h0) (fun _ _ _ _ _ => True) (fun _ U o U' => ∃ v L, o = .returned v ∧ QP (some (.ref a4)) h0 n0 v U'.heap L ∧ FrameEnd U o U' L ({ frames := 2, cells := 0, slots := 0, locals := 27 } : Room).cells ({ frames := 2, cells := 0, slots := 0, locals := 27 } : Room).slots) := by
  refine MetFree.of_bodySF (plainFor_of_name pn_17) hisR ?_
  intro p e s m args below meth c s₁ Bd hml0 hP hK
  obtain ⟨rfl, hZ, hh⟩ := hP
  have hx := Bd.exec
  have hby := Bd.bytes
  have hml : c.maxLocals = 2 := hml0
  have hown : s.vm.findClass "java/util/ArrayList" = some m.cls := findClass_of_methodNamed Bd.named
  have hnm := (name_of_methodNamed Bd.named Bd.method).1
  have X0 : Stand p l e ({ frames := 2, cells := 0, slots := 0, locals := 27 } : Room) s m #[(.ref a1), (.int p2)] below meth c s₁ [] 0 0 := Stand.of_body Bd
  have e0 : s₁.heap = h0 := by rw [← hh, Bd.state]; rfl
  have N0 := Fr.nil n0
  have go0 : ∀ t, Steps p.tables e below (s₁.setTop (mkF m 0 #[.val (.ref a1), .val (.int p2)] [])) t → Steps p.tables e below (s₁.setTop (entryFrame m #[(.ref a1), (.int p2)] 2)) t := fun t k => castTop (ef_17 m a1 p2) k
  have go1 : ∀ t, Steps p.tables e below (s₁.setTop (mkF m 2 #[.val (.ref a1), .val (.int p2)] [(.ref a1), (.int p2)])) t → Steps p.tables e below (s₁.setTop (entryFrame m #[(.ref a1), (.int p2)] 2)) t := fun t kt => go0 t (by
      refine XS.iloadN X0.here hx rfl (hb hby d17_0) rfl ?_
      show Steps p.tables e below (s₁.setTop (mkF m 1 #[.val (.ref a1), .val (.int p2)] [(.int p2)])) _
      refine XS.aloadN X0.here hx rfl (hb hby d17_1) rfl rfl ?_
      show Steps p.tables e below (s₁.setTop (mkF m 2 #[.val (.ref a1), .val (.int p2)] [(.ref a1), (.int p2)])) _
      exact kt)
  obtain ⟨T2, X2, e2, st2⟩ := getF X0 hx hZ hown (host := "") (Or.inl (own_h hw 76 rfl)) Via.refl e0 F1 (g := (mkF m 2 #[.val (.ref a1), .val (.int p2)] [(.ref a1), (.int p2)])) rfl rfl (hb hby d17_2)
  have go3 : ∀ t, Steps p.tables e below (T2.setTop (mkF m 5 #[.val (.ref a1), .val (.int p2)] [(.int p5), (.int p2)])) t → Steps p.tables e below (s₁.setTop (entryFrame m #[(.ref a1), (.int p2)] 2)) t := fun t kt => go1 t (by
      refine st2 _ ?_
      show Steps p.tables e below (T2.setTop (mkF m 5 #[.val (.ref a1), .val (.int p2)] [(.int p5), (.int p2)])) _
      exact kt)
  obtain ⟨_, _, ⟨T4, L4, k4, n4⟩, -, X4, ⟨Lc4, hQ4, l4, y4, z4⟩, st4⟩ := Jvm.LawKit.callS X2 hx (y := own_m1) hown (mvT hZ (own_h hw 135 rfl)) (mvT hZ (own_h hw 136 rfl)) (mvT hZ (own_h hw 137 rfl)) (mvT hZ (own_h hw 138 rfl)) (by decide) (backOf (W := 0) (rm18 l Z a0 hw [] p2 p5 h0 n0 h1 h2) hZ (own_h hw 138 rfl) (own_h hw 137 rfl) (by decide) (by decide)) (g := (mkF m 5 #[.val (.ref a1), .val (.int p2)] [(.int p5), (.int p2)])) rfl (by rw [hml]; rfl) (argsL := [(.int p2), (.int p5)]) (rest := []) (lenOf pd_8 rfl) rfl (by show 2 * 0 + _ ≤ _; exact Nat.le_of_eq rfl) (hb hby d17_5) (fun _ _ => ⟨rfl, e2, (by decide : 0 + 0 ≤ _), (by decide : 0 + 0 ≤ _)⟩)
  dsimp only [Pt.U, Pt.locs, Pt.cells, Pt.slots] at X4 l4 y4 z4 st4 hQ4
  subst y4 z4
  obtain ⟨rfl, N4q, e4⟩ := hQ4
  have N4 := Fr.app N0 N4q
  rw [← l4] at N4
  have go5 : ∀ t, Steps p.tables e below (T4.setTop (mkF m 11 #[.val (.ref a1), .val (.int p2)] [(.int p2), (.ref a1)])) t → Steps p.tables e below (s₁.setTop (entryFrame m #[(.ref a1), (.int p2)] 2)) t := fun t kt => go3 t (by
      refine st4 _ ?_
      show Steps p.tables e below (T4.setTop (mkF m 8 #[.val (.ref a1), .val (.int p2)] [(.int p2)])) _
      refine XS.pop X4.here hx rfl (hb hby d17_8) rfl rfl ?_
      show Steps p.tables e below (T4.setTop (mkF m 9 #[.val (.ref a1), .val (.int p2)] [])) _
      refine XS.aloadN X4.here hx rfl (hb hby d17_9) rfl rfl ?_
      show Steps p.tables e below (T4.setTop (mkF m 10 #[.val (.ref a1), .val (.int p2)] [(.ref a1)])) _
      refine XS.iloadN X4.here hx rfl (hb hby d17_10) rfl ?_
      show Steps p.tables e below (T4.setTop (mkF m 11 #[.val (.ref a1), .val (.int p2)] [(.int p2), (.ref a1)])) _
      exact kt)
  obtain ⟨cq6, kq6, q6a, q6b, q6c⟩ := isOf hZ e4 E0
  obtain ⟨_, _, ⟨T6, L6, k6, n6⟩, -, X6, ⟨Lc6, hQ6, l6, y6, z6⟩, st6⟩ := X4.virtualBack hx (y := own_m2) (z := own_m2) hown (mvT hZ (own_h hw 143 rfl)) (mvT hZ (own_h hw 144 rfl)) (notFace_of_selects (args := #[]) (mvT hZ (own_h hw 146 rfl))) (mvT hZ (own_h hw 146 rfl)) (mvT hZ (own_h hw 145 rfl)) (by decide) (backOf (W := 0) (rm20 l Z a0 hw [] a1 p2 a3 a4 vs i h0 n0 F0 V0 h1 h3 h4) hZ (own_h hw 147 rfl) (own_h hw 9 rfl) (by decide) (by decide)) q6a q6c (g := (mkF m 11 #[.val (.ref a1), .val (.int p2)] [(.int p2), (.ref a1)])) rfl (by rw [hml]; rfl) (Steps.refl _) (argsL := [(.int p2)]) (rest := []) (lenOf pd_12 rfl) rfl (by show 2 * 0 + _ ≤ _; exact Nat.le_of_eq rfl) (hb hby d17_11) (fun _ _ => ⟨rfl, e4, (by decide : 0 + 0 ≤ _), (by decide : 0 + 0 ≤ _)⟩)
  dsimp only [Pt.U, Pt.locs, Pt.cells, Pt.slots] at X6 l6 y6 z6 st6 hQ6
  subst y6 z6
  obtain ⟨rfl, N6q, e6⟩ := hQ6
  have N6 := Fr.app N4 N6q
  rw [← l6] at N6
  have go7 : ∀ t, Steps p.tables e below (T6.setTop (mkF m 14 #[.val (.ref a1), .val (.int p2)] [(.ref a4)])) t → Steps p.tables e below (s₁.setTop (entryFrame m #[(.ref a1), (.int p2)] 2)) t := fun t kt => go5 t (by
      refine st6.trans ?_
      show Steps p.tables e below (T6.setTop (mkF m 14 #[.val (.ref a1), .val (.int p2)] [(.ref a4)])) _
      exact kt)
  obtain ⟨fs, hr, hrun, hended, hW, hsame⟩ := X6.leave (v := some (.ref a4)) (fun h => by rw [Bd.returns] at h; cases h)
  refine ⟨_, _, go7 _ (X6.areturnOut hx rfl Bd.returns rfl (hb hby d17_14) hr), hrun, hended, _, _, rfl, ?_, ⟨_, rfl⟩, hW, hsame.mono (by decide) (by decide)⟩
  exact ⟨rfl, N6, e6⟩
theorem d7_0 : decode prog_172_method_1_code 0 = .ok (.aload_n 0, 1) := by decide +kernel
theorem d7_1 : decode prog_172_method_1_code 1 = .ok (.invokespecial 1, 3) := by decide +kernel
theorem d7_4 : decode prog_172_method_1_code 4 = .ok (.lload_n 1, 1) := by decide +kernel
theorem d7_5 : decode prog_172_method_1_code 5 = .ok (.lload_n 3, 1) := by decide +kernel
theorem d7_6 : decode prog_172_method_1_code 6 = .ok (.lcmp, 1) := by decide +kernel
theorem d7_7 : decode prog_172_method_1_code 7 = .ok (.ifCond .le 18, 3) := by decide +kernel
theorem d7_25 : decode prog_172_method_1_code 25 = .ok (.aload_n 0, 1) := by decide +kernel
theorem d7_26 : decode prog_172_method_1_code 26 = .ok (.lload_n 1, 1) := by decide +kernel
theorem d7_27 : decode prog_172_method_1_code 27 = .ok (.putfield 16, 3) := by decide +kernel
theorem d7_30 : decode prog_172_method_1_code 30 = .ok (.aload_n 0, 1) := by decide +kernel
theorem d7_31 : decode prog_172_method_1_code 31 = .ok (.lload_n 3, 1) := by decide +kernel
theorem d7_32 : decode prog_172_method_1_code 32 = .ok (.putfield 22, 3) := by decide +kernel
theorem d7_35 : decode prog_172_method_1_code 35 = .ok (.return_, 1) := by decide +kernel
theorem pn_7 : plainName "com/example/invariant_ink/invariantink/lang/RangeType" = true := by first | (simp [plainName, overriddenIn]; done) | decide +kernel
theorem ef_7 (m : MethodId) (a1 : Addr) (q2 : Int64) (q3 : Int64) : entryFrame m #[(.ref a1), (.long q2), (.long q3)] 5 = mkF m 0 #[.val (.ref a1), .val (.long q2), .second, .val (.long q3), .second] [] := by first | (simp [entryFrame, mkF, argsToLocals, Value.category]; done) | rfl
set_option maxRecDepth 65536 in
set_option maxHeartbeats 40000000 in
theorem rm7 (l : Launch) (Z : State) (a0 : Array Value) (hw : ∀ d ∈ tables_1, d.before a0 Z = true) (ws : List Jvm.Cond) (a1 : Addr) (q2 q3 : Int64) (h0 : Heap) (n0 : Nat) (E0 : Exa Z h0 a1 "com/example/invariant_ink/invariantink/lang/RangeType") (F_low : Fld Z h0 a1 "com/example/invariant_ink/invariantink/lang/RangeType" "low" "J" (.long (0 : Int64))) (F_high : Fld Z h0 a1 "com/example/invariant_ink/invariantink/lang/RangeType" "high" "J" (.long (0 : Int64))) (ga : n0 ≤ a1) (hle : ¬ q3 < q2) :
    MetFree l (⟨"com/example/invariant_ink/invariantink/lang/RangeType", "<init>", "(JJ)V"⟩ : MethodName) (head1 (Jvm.Cond.code (⟨"com/example/invariant_ink/invariantink/lang/RangeType", "<init>", "(JJ)V"⟩ : MethodName) prog_172_method_1_code 5 none :: ws) ({ frames := 1, cells := 0, slots := 0, locals := 12 } : Room)) (fun a U => a = #[(.ref a1), (.long q2), (.long q3)] ∧ Z.Warmed39 U.vm ∧ U.heap = h0) (fun _ _ _ _ _ => True) (fun _ U o U' => ∃ v L, o = .returned v ∧ own_QR Z a1 q2 q3 h0 n0 v U'.heap L ∧ FrameEnd U o U' L ({ frames := 1, cells := 0, slots := 0, locals := 12 } : Room).cells ({ frames := 1, cells := 0, slots := 0, locals := 12 } : Room).slots) := by
  refine MetFree.of_bodySF (plainFor_of_name pn_7) hisR ?_
  intro p e s m args below meth c s₁ Bd hml0 hP hK
  obtain ⟨rfl, hZ, hh⟩ := hP
  have hx := Bd.exec
  have hby := Bd.bytes
  have hml : c.maxLocals = 5 := hml0
  have hown : s.vm.findClass "com/example/invariant_ink/invariantink/lang/RangeType" = some m.cls := findClass_of_methodNamed Bd.named
  have hnm := (name_of_methodNamed Bd.named Bd.method).1
  have X0 : Stand p l e ({ frames := 1, cells := 0, slots := 0, locals := 12 } : Room) s m #[(.ref a1), (.long q2), (.long q3)] below meth c s₁ [] 0 0 := Stand.of_body Bd
  have e0 : s₁.heap = h0 := by rw [← hh, Bd.state]; rfl
  have N0 := Fr.nil n0
  have go0 : ∀ t, Steps p.tables e below (s₁.setTop (mkF m 0 #[.val (.ref a1), .val (.long q2), .second, .val (.long q3), .second] [])) t → Steps p.tables e below (s₁.setTop (entryFrame m #[(.ref a1), (.long q2), (.long q3)] 5)) t := fun t k => castTop (ef_7 m a1 q2 q3) k
  have go1 : ∀ t, Steps p.tables e below (s₁.setTop (mkF m 1 #[.val (.ref a1), .val (.long q2), .second, .val (.long q3), .second] [(.ref a1)])) t → Steps p.tables e below (s₁.setTop (entryFrame m #[(.ref a1), (.long q2), (.long q3)] 5)) t := fun t kt => go0 t (by
      refine XS.aloadN X0.here hx rfl (hb hby d7_0) rfl rfl ?_
      show Steps p.tables e below (s₁.setTop (mkF m 1 #[.val (.ref a1), .val (.long q2), .second, .val (.long q3), .second] [(.ref a1)])) _
      exact kt)
  obtain ⟨T2, X2, e2, st2⟩ := initO X0 hx hZ hown (own_h hw 50 rfl) (own_h hw 26 rfl) (own_h hw 27 rfl) e0 (g := (mkF m 1 #[.val (.ref a1), .val (.long q2), .second, .val (.long q3), .second] [(.ref a1)])) rfl (by rw [hml]; rfl) rfl (hb hby d7_1) (by decide) (W := 0) (by show 2 * 0 + _ ≤ _; exact Nat.le_of_eq rfl) (by decide)
  have hc7_3 : ¬ ((0 : Int32) < (lcmpW q2 q3)) := fun q => hle ((lw_gt _ _).mp q)
  have go4 : ∀ t, Steps p.tables e below (T2.setTop (mkF m 27 #[.val (.ref a1), .val (.long q2), .second, .val (.long q3), .second] [(.long q2), (.ref a1)])) t → Steps p.tables e below (s₁.setTop (entryFrame m #[(.ref a1), (.long q2), (.long q3)] 5)) t := fun t kt => go1 t (by
      refine st2 _ ?_
      show Steps p.tables e below (T2.setTop (mkF m 4 #[.val (.ref a1), .val (.long q2), .second, .val (.long q3), .second] [])) _
      refine XS.lloadN X2.here hx rfl (hb hby d7_4) rfl ?_
      show Steps p.tables e below (T2.setTop (mkF m 5 #[.val (.ref a1), .val (.long q2), .second, .val (.long q3), .second] [(.long q2)])) _
      refine XS.lloadN X2.here hx rfl (hb hby d7_5) rfl ?_
      show Steps p.tables e below (T2.setTop (mkF m 6 #[.val (.ref a1), .val (.long q2), .second, .val (.long q3), .second] [(.long q3), (.long q2)])) _
      refine XS.lcmp X2.here hx rfl (hb hby d7_6) rfl ?_
      show Steps p.tables e below (T2.setTop (mkF m 7 #[.val (.ref a1), .val (.long q2), .second, .val (.long q3), .second] [(.int (lcmpW q2 q3))])) _
      refine XS.ifYes X2.here hx rfl (pc0 := 7) (pc' := 25) rfl (hb hby d7_7) rfl ((if0 _ _).trans (flt hc7_3).2.2.2) (by decide) (by decide) ?_
      show Steps p.tables e below (T2.setTop (mkF m 25 #[.val (.ref a1), .val (.long q2), .second, .val (.long q3), .second] [])) _
      refine XS.aloadN X2.here hx rfl (hb hby d7_25) rfl rfl ?_
      show Steps p.tables e below (T2.setTop (mkF m 26 #[.val (.ref a1), .val (.long q2), .second, .val (.long q3), .second] [(.ref a1)])) _
      refine XS.lloadN X2.here hx rfl (hb hby d7_26) rfl ?_
      show Steps p.tables e below (T2.setTop (mkF m 27 #[.val (.ref a1), .val (.long q2), .second, .val (.long q3), .second] [(.long q2), (.ref a1)])) _
      exact kt)
  obtain ⟨T5, h5, X5, e5, W5, st5⟩ := putF X2 hx hZ hown (host := "") (Or.inl (own_h hw 51 rfl)) Via.refl e2 F_low E0 (Or.inr ⟨(own_h hw 52 rfl), rfl, hnm⟩) (own_h hw 45 rfl) (ty := .long) (by decide) rfl rfl (g := (mkF m 27 #[.val (.ref a1), .val (.long q2), .second, .val (.long q3), .second] [(.long q2), (.ref a1)])) rfl rfl (hb hby d7_27)
  have Fw5 := F_low.same W5
  obtain ⟨Ls5, X5, N5⟩ := own_loc X5 (Fr.snoc X5 N0 ga)
  have go6 : ∀ t, Steps p.tables e below (T5.setTop (mkF m 32 #[.val (.ref a1), .val (.long q2), .second, .val (.long q3), .second] [(.long q3), (.ref a1)])) t → Steps p.tables e below (s₁.setTop (entryFrame m #[(.ref a1), (.long q2), (.long q3)] 5)) t := fun t kt => go4 t (by
      refine st5 _ ?_
      show Steps p.tables e below (T5.setTop (mkF m 30 #[.val (.ref a1), .val (.long q2), .second, .val (.long q3), .second] [])) _
      refine XS.aloadN X5.here hx rfl (hb hby d7_30) rfl rfl ?_
      show Steps p.tables e below (T5.setTop (mkF m 31 #[.val (.ref a1), .val (.long q2), .second, .val (.long q3), .second] [(.ref a1)])) _
      refine XS.lloadN X5.here hx rfl (hb hby d7_31) rfl ?_
      show Steps p.tables e below (T5.setTop (mkF m 32 #[.val (.ref a1), .val (.long q2), .second, .val (.long q3), .second] [(.long q3), (.ref a1)])) _
      exact kt)
  have fq7 := (F_high.other W5 (Or.inr (slot_ne (Or.inr (own_h hw 54 rfl)) (Or.inr (own_h hw 52 rfl)) (by decide) (t := .long) (t' := .long) (by decide) (by decide))))
  have fq8 := (E0.wr W5)
  obtain ⟨T9, h9, X9, e9, W9, st9⟩ := putF X5 hx hZ hown (host := "") (Or.inl (own_h hw 53 rfl)) Via.refl e5 fq7 fq8 (Or.inr ⟨(own_h hw 54 rfl), rfl, hnm⟩) (own_h hw 45 rfl) (ty := .long) (by decide) rfl rfl (g := (mkF m 32 #[.val (.ref a1), .val (.long q2), .second, .val (.long q3), .second] [(.long q3), (.ref a1)])) rfl rfl (hb hby d7_32)
  have Fw9 := fq7.same W9
  obtain ⟨Ls9, X9, N9⟩ := own_loc X9 (Fr.snoc X9 N5 ga)
  have go10 : ∀ t, Steps p.tables e below (T9.setTop (mkF m 35 #[.val (.ref a1), .val (.long q2), .second, .val (.long q3), .second] [])) t → Steps p.tables e below (s₁.setTop (entryFrame m #[(.ref a1), (.long q2), (.long q3)] 5)) t := fun t kt => go6 t (by
      refine st9 _ ?_
      show Steps p.tables e below (T9.setTop (mkF m 35 #[.val (.ref a1), .val (.long q2), .second, .val (.long q3), .second] [])) _
      exact kt)
  obtain ⟨fs, hr, hrun, hended, hW, hsame⟩ := X9.leave (v := none) (fun _ => rfl)
  refine ⟨_, _, go10 _ (X9.returnOut hx Bd.returns (hb hby d7_35) hr), hrun, hended, _, _, rfl, ?_, ⟨_, rfl⟩, hW, hsame.mono (by decide) (by decide)⟩
  show own_QR _ _ _ _ _ _ _ T9.heap _
  rw [e9]
  have kp11 := ((Keep.refl h0 [a1]).wr W5 (Or.inl (List.mem_of_getElem? (i := 0) rfl)))
  have fq12 := (fq8.wr W9)
  have fq13 := (Fw5.other W9 (Or.inr (slot_ne (Or.inr (own_h hw 52 rfl)) (Or.inr (own_h hw 54 rfl)) (by decide) (t := .long) (t' := .long) (by decide) (by decide))))
  exact ⟨rfl, N9, (kp11.wr W9 (Or.inl (List.mem_of_getElem? (i := 0) rfl))), fq12, fq13, Fw9⟩
theorem d8_0 : decode prog_159_method_1_code 0 = .ok (.aload_n 0, 1) := by decide +kernel
theorem d8_1 : decode prog_159_method_1_code 1 = .ok (.invokespecial 1, 3) := by decide +kernel
theorem d8_4 : decode prog_159_method_1_code 4 = .ok (.aload_n 0, 1) := by decide +kernel
theorem d8_5 : decode prog_159_method_1_code 5 = .ok (.aload_n 1, 1) := by decide +kernel
theorem d8_6 : decode prog_159_method_1_code 6 = .ok (.putfield 7, 3) := by decide +kernel
theorem d8_9 : decode prog_159_method_1_code 9 = .ok (.aload_n 0, 1) := by decide +kernel
theorem d8_10 : decode prog_159_method_1_code 10 = .ok (.aload_n 2, 1) := by decide +kernel
theorem d8_11 : decode prog_159_method_1_code 11 = .ok (.putfield 13, 3) := by decide +kernel
theorem d8_14 : decode prog_159_method_1_code 14 = .ok (.aload_n 0, 1) := by decide +kernel
theorem d8_15 : decode prog_159_method_1_code 15 = .ok (.iload_n 3, 1) := by decide +kernel
theorem d8_16 : decode prog_159_method_1_code 16 = .ok (.putfield 17, 3) := by decide +kernel
theorem d8_19 : decode prog_159_method_1_code 19 = .ok (.aload_n 0, 1) := by decide +kernel
theorem d8_20 : decode prog_159_method_1_code 20 = .ok (.aload 4, 2) := by decide +kernel
theorem d8_22 : decode prog_159_method_1_code 22 = .ok (.putfield 21, 3) := by decide +kernel
theorem d8_25 : decode prog_159_method_1_code 25 = .ok (.aload_n 0, 1) := by decide +kernel
theorem d8_26 : decode prog_159_method_1_code 26 = .ok (.aload 5, 2) := by decide +kernel
theorem d8_28 : decode prog_159_method_1_code 28 = .ok (.putfield 25, 3) := by decide +kernel
theorem d8_31 : decode prog_159_method_1_code 31 = .ok (.return_, 1) := by decide +kernel
theorem pn_8 : plainName "com/example/invariant_ink/invariantink/lang/Local" = true := by first | (simp [plainName, overriddenIn]; done) | decide +kernel
theorem ef_8 (m : MethodId) (a1 : Addr) (a2 : Addr) (p4 : Int32) (a5 : Addr) : entryFrame m #[(.ref a1), (.ref a2), .null, (.int p4), (.ref a5), .null] 6 = mkF m 0 #[.val (.ref a1), .val (.ref a2), .val .null, .val (.int p4), .val (.ref a5), .val .null] [] := by first | (simp [entryFrame, mkF, argsToLocals, Value.category]; done) | rfl
set_option maxRecDepth 65536 in
set_option maxHeartbeats 40000000 in
theorem rm8 (l : Launch) (Z : State) (a0 : Array Value) (hw : ∀ d ∈ tables_1, d.before a0 Z = true) (ws : List Jvm.Cond) (a1 a2 : Addr) (p4 : Int32) (a5 : Addr) (h0 : Heap) (n0 : Nat) (E0 : Exa Z h0 a1 "com/example/invariant_ink/invariantink/lang/Local") (F_name : Fld Z h0 a1 "com/example/invariant_ink/invariantink/lang/Local" "name" "Ljava/lang/String;" .null) (F_kind : Fld Z h0 a1 "com/example/invariant_ink/invariantink/lang/Local" "kind" "Lcom/example/invariant_ink/invariantink/lang/Local$Kind;" .null) (F_slot : Fld Z h0 a1 "com/example/invariant_ink/invariantink/lang/Local" "slot" "I" (.int (0 : Int32))) (F_type : Fld Z h0 a1 "com/example/invariant_ink/invariantink/lang/Local" "type" "Lcom/example/invariant_ink/invariantink/lang/Type;" .null) (F_position : Fld Z h0 a1 "com/example/invariant_ink/invariantink/lang/Local" "position" "Lcom/example/invariant_ink/invariantink/lang/Position;" .null) (ga : n0 ≤ a1) :
    MetFree l (⟨"com/example/invariant_ink/invariantink/lang/Local", "<init>", "(Ljava/lang/String;Lcom/example/invariant_ink/invariantink/lang/Local$Kind;ILcom/example/invariant_ink/invariantink/lang/Type;Lcom/example/invariant_ink/invariantink/lang/Position;)V"⟩ : MethodName) (head1 (Jvm.Cond.code (⟨"com/example/invariant_ink/invariantink/lang/Local", "<init>", "(Ljava/lang/String;Lcom/example/invariant_ink/invariantink/lang/Local$Kind;ILcom/example/invariant_ink/invariantink/lang/Type;Lcom/example/invariant_ink/invariantink/lang/Position;)V"⟩ : MethodName) prog_159_method_1_code 6 none :: ws) ({ frames := 1, cells := 0, slots := 0, locals := 12 } : Room)) (fun a U => a = #[(.ref a1), (.ref a2), .null, (.int p4), (.ref a5), .null] ∧ Z.Warmed39 U.vm ∧ U.heap = h0) (fun _ _ _ _ _ => True) (fun _ U o U' => ∃ v L, o = .returned v ∧ own_QN Z a1 p4 a5 h0 n0 v U'.heap L ∧ FrameEnd U o U' L ({ frames := 1, cells := 0, slots := 0, locals := 12 } : Room).cells ({ frames := 1, cells := 0, slots := 0, locals := 12 } : Room).slots) := by
  refine MetFree.of_bodySF (plainFor_of_name pn_8) hisR ?_
  intro p e s m args below meth c s₁ Bd hml0 hP hK
  obtain ⟨rfl, hZ, hh⟩ := hP
  have hx := Bd.exec
  have hby := Bd.bytes
  have hml : c.maxLocals = 6 := hml0
  have hown : s.vm.findClass "com/example/invariant_ink/invariantink/lang/Local" = some m.cls := findClass_of_methodNamed Bd.named
  have hnm := (name_of_methodNamed Bd.named Bd.method).1
  have X0 : Stand p l e ({ frames := 1, cells := 0, slots := 0, locals := 12 } : Room) s m #[(.ref a1), (.ref a2), .null, (.int p4), (.ref a5), .null] below meth c s₁ [] 0 0 := Stand.of_body Bd
  have e0 : s₁.heap = h0 := by rw [← hh, Bd.state]; rfl
  have N0 := Fr.nil n0
  have go0 : ∀ t, Steps p.tables e below (s₁.setTop (mkF m 0 #[.val (.ref a1), .val (.ref a2), .val .null, .val (.int p4), .val (.ref a5), .val .null] [])) t → Steps p.tables e below (s₁.setTop (entryFrame m #[(.ref a1), (.ref a2), .null, (.int p4), (.ref a5), .null] 6)) t := fun t k => castTop (ef_8 m a1 a2 p4 a5) k
  have go1 : ∀ t, Steps p.tables e below (s₁.setTop (mkF m 1 #[.val (.ref a1), .val (.ref a2), .val .null, .val (.int p4), .val (.ref a5), .val .null] [(.ref a1)])) t → Steps p.tables e below (s₁.setTop (entryFrame m #[(.ref a1), (.ref a2), .null, (.int p4), (.ref a5), .null] 6)) t := fun t kt => go0 t (by
      refine XS.aloadN X0.here hx rfl (hb hby d8_0) rfl rfl ?_
      show Steps p.tables e below (s₁.setTop (mkF m 1 #[.val (.ref a1), .val (.ref a2), .val .null, .val (.int p4), .val (.ref a5), .val .null] [(.ref a1)])) _
      exact kt)
  obtain ⟨T2, X2, e2, st2⟩ := initO X0 hx hZ hown (own_h hw 58 rfl) (own_h hw 26 rfl) (own_h hw 27 rfl) e0 (g := (mkF m 1 #[.val (.ref a1), .val (.ref a2), .val .null, .val (.int p4), .val (.ref a5), .val .null] [(.ref a1)])) rfl (by rw [hml]; rfl) rfl (hb hby d8_1) (by decide) (W := 0) (by show 2 * 0 + _ ≤ _; exact Nat.le_of_eq rfl) (by decide)
  have go3 : ∀ t, Steps p.tables e below (T2.setTop (mkF m 6 #[.val (.ref a1), .val (.ref a2), .val .null, .val (.int p4), .val (.ref a5), .val .null] [(.ref a2), (.ref a1)])) t → Steps p.tables e below (s₁.setTop (entryFrame m #[(.ref a1), (.ref a2), .null, (.int p4), (.ref a5), .null] 6)) t := fun t kt => go1 t (by
      refine st2 _ ?_
      show Steps p.tables e below (T2.setTop (mkF m 4 #[.val (.ref a1), .val (.ref a2), .val .null, .val (.int p4), .val (.ref a5), .val .null] [])) _
      refine XS.aloadN X2.here hx rfl (hb hby d8_4) rfl rfl ?_
      show Steps p.tables e below (T2.setTop (mkF m 5 #[.val (.ref a1), .val (.ref a2), .val .null, .val (.int p4), .val (.ref a5), .val .null] [(.ref a1)])) _
      refine XS.aloadN X2.here hx rfl (hb hby d8_5) rfl rfl ?_
      show Steps p.tables e below (T2.setTop (mkF m 6 #[.val (.ref a1), .val (.ref a2), .val .null, .val (.int p4), .val (.ref a5), .val .null] [(.ref a2), (.ref a1)])) _
      exact kt)
  obtain ⟨T4, h4, X4, e4, W4, st4⟩ := putF X2 hx hZ hown (host := "") (Or.inl (own_h hw 59 rfl)) Via.refl e2 F_name E0 (Or.inr ⟨(own_h hw 60 rfl), rfl, hnm⟩) (own_h hw 34 rfl) (ty := (.object "java/lang/String")) (by decide) rfl rfl (g := (mkF m 6 #[.val (.ref a1), .val (.ref a2), .val .null, .val (.int p4), .val (.ref a5), .val .null] [(.ref a2), (.ref a1)])) rfl rfl (hb hby d8_6)
  have Fw4 := F_name.same W4
  obtain ⟨Ls4, X4, N4⟩ := own_loc X4 (Fr.snoc X4 N0 ga)
  have go5 : ∀ t, Steps p.tables e below (T4.setTop (mkF m 11 #[.val (.ref a1), .val (.ref a2), .val .null, .val (.int p4), .val (.ref a5), .val .null] [.null, (.ref a1)])) t → Steps p.tables e below (s₁.setTop (entryFrame m #[(.ref a1), (.ref a2), .null, (.int p4), (.ref a5), .null] 6)) t := fun t kt => go3 t (by
      refine st4 _ ?_
      show Steps p.tables e below (T4.setTop (mkF m 9 #[.val (.ref a1), .val (.ref a2), .val .null, .val (.int p4), .val (.ref a5), .val .null] [])) _
      refine XS.aloadN X4.here hx rfl (hb hby d8_9) rfl rfl ?_
      show Steps p.tables e below (T4.setTop (mkF m 10 #[.val (.ref a1), .val (.ref a2), .val .null, .val (.int p4), .val (.ref a5), .val .null] [(.ref a1)])) _
      refine XS.aloadN X4.here hx rfl (hb hby d8_10) rfl rfl ?_
      show Steps p.tables e below (T4.setTop (mkF m 11 #[.val (.ref a1), .val (.ref a2), .val .null, .val (.int p4), .val (.ref a5), .val .null] [.null, (.ref a1)])) _
      exact kt)
  have fq6 := (F_kind.other W4 (Or.inr (slot_ne (Or.inr (own_h hw 62 rfl)) (Or.inr (own_h hw 60 rfl)) (by decide) (t := (.object "com/example/invariant_ink/invariantink/lang/Local$Kind")) (t' := (.object "java/lang/String")) (by decide) (by decide))))
  have fq7 := (E0.wr W4)
  obtain ⟨T8, h8, X8, e8, W8, st8⟩ := putF X4 hx hZ hown (host := "") (Or.inl (own_h hw 61 rfl)) Via.refl e4 fq6 fq7 (Or.inr ⟨(own_h hw 62 rfl), rfl, hnm⟩) (own_h hw 34 rfl) (ty := (.object "com/example/invariant_ink/invariantink/lang/Local$Kind")) (by decide) rfl rfl (g := (mkF m 11 #[.val (.ref a1), .val (.ref a2), .val .null, .val (.int p4), .val (.ref a5), .val .null] [.null, (.ref a1)])) rfl rfl (hb hby d8_11)
  have Fw8 := fq6.same W8
  obtain ⟨Ls8, X8, N8⟩ := own_loc X8 (Fr.snoc X8 N4 ga)
  have go9 : ∀ t, Steps p.tables e below (T8.setTop (mkF m 16 #[.val (.ref a1), .val (.ref a2), .val .null, .val (.int p4), .val (.ref a5), .val .null] [(.int p4), (.ref a1)])) t → Steps p.tables e below (s₁.setTop (entryFrame m #[(.ref a1), (.ref a2), .null, (.int p4), (.ref a5), .null] 6)) t := fun t kt => go5 t (by
      refine st8 _ ?_
      show Steps p.tables e below (T8.setTop (mkF m 14 #[.val (.ref a1), .val (.ref a2), .val .null, .val (.int p4), .val (.ref a5), .val .null] [])) _
      refine XS.aloadN X8.here hx rfl (hb hby d8_14) rfl rfl ?_
      show Steps p.tables e below (T8.setTop (mkF m 15 #[.val (.ref a1), .val (.ref a2), .val .null, .val (.int p4), .val (.ref a5), .val .null] [(.ref a1)])) _
      refine XS.iloadN X8.here hx rfl (hb hby d8_15) rfl ?_
      show Steps p.tables e below (T8.setTop (mkF m 16 #[.val (.ref a1), .val (.ref a2), .val .null, .val (.int p4), .val (.ref a5), .val .null] [(.int p4), (.ref a1)])) _
      exact kt)
  have fq10 := ((F_slot.other W4 (Or.inr (slot_ne (Or.inr (own_h hw 64 rfl)) (Or.inr (own_h hw 60 rfl)) (by decide) (t := .int) (t' := (.object "java/lang/String")) (by decide) (by decide)))).other W8 (Or.inr (slot_ne (Or.inr (own_h hw 64 rfl)) (Or.inr (own_h hw 62 rfl)) (by decide) (t := .int) (t' := (.object "com/example/invariant_ink/invariantink/lang/Local$Kind")) (by decide) (by decide))))
  have fq11 := (fq7.wr W8)
  obtain ⟨T12, h12, X12, e12, W12, st12⟩ := putF X8 hx hZ hown (host := "") (Or.inl (own_h hw 63 rfl)) Via.refl e8 fq10 fq11 (Or.inr ⟨(own_h hw 64 rfl), rfl, hnm⟩) (own_h hw 34 rfl) (ty := .int) (by decide) rfl rfl (g := (mkF m 16 #[.val (.ref a1), .val (.ref a2), .val .null, .val (.int p4), .val (.ref a5), .val .null] [(.int p4), (.ref a1)])) rfl rfl (hb hby d8_16)
  have Fw12 := fq10.same W12
  obtain ⟨Ls12, X12, N12⟩ := own_loc X12 (Fr.snoc X12 N8 ga)
  have go13 : ∀ t, Steps p.tables e below (T12.setTop (mkF m 22 #[.val (.ref a1), .val (.ref a2), .val .null, .val (.int p4), .val (.ref a5), .val .null] [(.ref a5), (.ref a1)])) t → Steps p.tables e below (s₁.setTop (entryFrame m #[(.ref a1), (.ref a2), .null, (.int p4), (.ref a5), .null] 6)) t := fun t kt => go9 t (by
      refine st12 _ ?_
      show Steps p.tables e below (T12.setTop (mkF m 19 #[.val (.ref a1), .val (.ref a2), .val .null, .val (.int p4), .val (.ref a5), .val .null] [])) _
      refine XS.aloadN X12.here hx rfl (hb hby d8_19) rfl rfl ?_
      show Steps p.tables e below (T12.setTop (mkF m 20 #[.val (.ref a1), .val (.ref a2), .val .null, .val (.int p4), .val (.ref a5), .val .null] [(.ref a1)])) _
      refine XS.aload X12.here hx rfl (hb hby d8_20) rfl rfl ?_
      show Steps p.tables e below (T12.setTop (mkF m 22 #[.val (.ref a1), .val (.ref a2), .val .null, .val (.int p4), .val (.ref a5), .val .null] [(.ref a5), (.ref a1)])) _
      exact kt)
  have fr14 := ((F_type.other W4 (Or.inr (slot_ne (Or.inr (own_h hw 66 rfl)) (Or.inr (own_h hw 60 rfl)) (by decide) (t := (.object "com/example/invariant_ink/invariantink/lang/Type")) (t' := (.object "java/lang/String")) (by decide) (by decide)))).other W8 (Or.inr (slot_ne (Or.inr (own_h hw 66 rfl)) (Or.inr (own_h hw 62 rfl)) (by decide) (t := (.object "com/example/invariant_ink/invariantink/lang/Type")) (t' := (.object "com/example/invariant_ink/invariantink/lang/Local$Kind")) (by decide) (by decide))))
  have fq15 := (fr14.other W12 (Or.inr (slot_ne (Or.inr (own_h hw 66 rfl)) (Or.inr (own_h hw 64 rfl)) (by decide) (t := (.object "com/example/invariant_ink/invariantink/lang/Type")) (t' := .int) (by decide) (by decide))))
  have fq16 := (fq11.wr W12)
  obtain ⟨T17, h17, X17, e17, W17, st17⟩ := putF X12 hx hZ hown (host := "") (Or.inl (own_h hw 65 rfl)) Via.refl e12 fq15 fq16 (Or.inr ⟨(own_h hw 66 rfl), rfl, hnm⟩) (own_h hw 34 rfl) (ty := (.object "com/example/invariant_ink/invariantink/lang/Type")) (by decide) rfl rfl (g := (mkF m 22 #[.val (.ref a1), .val (.ref a2), .val .null, .val (.int p4), .val (.ref a5), .val .null] [(.ref a5), (.ref a1)])) rfl rfl (hb hby d8_22)
  have Fw17 := fq15.same W17
  obtain ⟨Ls17, X17, N17⟩ := own_loc X17 (Fr.snoc X17 N12 ga)
  have go18 : ∀ t, Steps p.tables e below (T17.setTop (mkF m 28 #[.val (.ref a1), .val (.ref a2), .val .null, .val (.int p4), .val (.ref a5), .val .null] [.null, (.ref a1)])) t → Steps p.tables e below (s₁.setTop (entryFrame m #[(.ref a1), (.ref a2), .null, (.int p4), (.ref a5), .null] 6)) t := fun t kt => go13 t (by
      refine st17 _ ?_
      show Steps p.tables e below (T17.setTop (mkF m 25 #[.val (.ref a1), .val (.ref a2), .val .null, .val (.int p4), .val (.ref a5), .val .null] [])) _
      refine XS.aloadN X17.here hx rfl (hb hby d8_25) rfl rfl ?_
      show Steps p.tables e below (T17.setTop (mkF m 26 #[.val (.ref a1), .val (.ref a2), .val .null, .val (.int p4), .val (.ref a5), .val .null] [(.ref a1)])) _
      refine XS.aload X17.here hx rfl (hb hby d8_26) rfl rfl ?_
      show Steps p.tables e below (T17.setTop (mkF m 28 #[.val (.ref a1), .val (.ref a2), .val .null, .val (.int p4), .val (.ref a5), .val .null] [.null, (.ref a1)])) _
      exact kt)
  have fr19 := ((F_position.other W4 (Or.inr (slot_ne (Or.inr (own_h hw 68 rfl)) (Or.inr (own_h hw 60 rfl)) (by decide) (t := (.object "com/example/invariant_ink/invariantink/lang/Position")) (t' := (.object "java/lang/String")) (by decide) (by decide)))).other W8 (Or.inr (slot_ne (Or.inr (own_h hw 68 rfl)) (Or.inr (own_h hw 62 rfl)) (by decide) (t := (.object "com/example/invariant_ink/invariantink/lang/Position")) (t' := (.object "com/example/invariant_ink/invariantink/lang/Local$Kind")) (by decide) (by decide))))
  have fq20 := ((fr19.other W12 (Or.inr (slot_ne (Or.inr (own_h hw 68 rfl)) (Or.inr (own_h hw 64 rfl)) (by decide) (t := (.object "com/example/invariant_ink/invariantink/lang/Position")) (t' := .int) (by decide) (by decide)))).other W17 (Or.inr (slot_ne (Or.inr (own_h hw 68 rfl)) (Or.inr (own_h hw 66 rfl)) (by decide) (t := (.object "com/example/invariant_ink/invariantink/lang/Position")) (t' := (.object "com/example/invariant_ink/invariantink/lang/Type")) (by decide) (by decide))))
  have fq21 := (fq16.wr W17)
  obtain ⟨T22, h22, X22, e22, W22, st22⟩ := putF X17 hx hZ hown (host := "") (Or.inl (own_h hw 67 rfl)) Via.refl e17 fq20 fq21 (Or.inr ⟨(own_h hw 68 rfl), rfl, hnm⟩) (own_h hw 34 rfl) (ty := (.object "com/example/invariant_ink/invariantink/lang/Position")) (by decide) rfl rfl (g := (mkF m 28 #[.val (.ref a1), .val (.ref a2), .val .null, .val (.int p4), .val (.ref a5), .val .null] [.null, (.ref a1)])) rfl rfl (hb hby d8_28)
  have Fw22 := fq20.same W22
  obtain ⟨Ls22, X22, N22⟩ := own_loc X22 (Fr.snoc X22 N17 ga)
  have go23 : ∀ t, Steps p.tables e below (T22.setTop (mkF m 31 #[.val (.ref a1), .val (.ref a2), .val .null, .val (.int p4), .val (.ref a5), .val .null] [])) t → Steps p.tables e below (s₁.setTop (entryFrame m #[(.ref a1), (.ref a2), .null, (.int p4), (.ref a5), .null] 6)) t := fun t kt => go18 t (by
      refine st22 _ ?_
      show Steps p.tables e below (T22.setTop (mkF m 31 #[.val (.ref a1), .val (.ref a2), .val .null, .val (.int p4), .val (.ref a5), .val .null] [])) _
      exact kt)
  obtain ⟨fs, hr, hrun, hended, hW, hsame⟩ := X22.leave (v := none) (fun _ => rfl)
  refine ⟨_, _, go23 _ (X22.returnOut hx Bd.returns (hb hby d8_31) hr), hrun, hended, _, _, rfl, ?_, ⟨_, rfl⟩, hW, hsame.mono (by decide) (by decide)⟩
  show own_QN _ _ _ _ _ _ _ T22.heap _
  rw [e22]
  have kp24 := ((Keep.refl h0 [a1]).wr W4 (Or.inl (List.mem_of_getElem? (i := 0) rfl)))
  have kp25 := (kp24.wr W8 (Or.inl (List.mem_of_getElem? (i := 0) rfl)))
  have kp26 := (kp25.wr W12 (Or.inl (List.mem_of_getElem? (i := 0) rfl)))
  have kp27 := (kp26.wr W17 (Or.inl (List.mem_of_getElem? (i := 0) rfl)))
  have fq28 := (fq21.wr W22)
  have fq29 := ((Fw12.other W17 (Or.inr (slot_ne (Or.inr (own_h hw 64 rfl)) (Or.inr (own_h hw 66 rfl)) (by decide) (t := .int) (t' := (.object "com/example/invariant_ink/invariantink/lang/Type")) (by decide) (by decide)))).other W22 (Or.inr (slot_ne (Or.inr (own_h hw 64 rfl)) (Or.inr (own_h hw 68 rfl)) (by decide) (t := .int) (t' := (.object "com/example/invariant_ink/invariantink/lang/Position")) (by decide) (by decide))))
  have fq30 := (Fw17.other W22 (Or.inr (slot_ne (Or.inr (own_h hw 66 rfl)) (Or.inr (own_h hw 68 rfl)) (by decide) (t := (.object "com/example/invariant_ink/invariantink/lang/Type")) (t' := (.object "com/example/invariant_ink/invariantink/lang/Position")) (by decide) (by decide))))
  exact ⟨rfl, N22, (kp27.wr W22 (Or.inl (List.mem_of_getElem? (i := 0) rfl))), fq28, fq29, fq30⟩
theorem d5_0 : decode jdk_22_method_1_code 0 = .ok (.aload_n 0, 1) := by decide +kernel
theorem d5_1 : decode jdk_22_method_1_code 1 = .ok (.invokespecial 1, 3) := by decide +kernel
theorem d5_4 : decode jdk_22_method_1_code 4 = .ok (.return_, 1) := by decide +kernel
theorem pn_5 : plainName "java/util/AbstractCollection" = true := by first | (simp [plainName, overriddenIn]; done) | decide +kernel
theorem ef_5 (m : MethodId) (a1 : Addr) : entryFrame m #[(.ref a1)] 1 = mkF m 0 #[.val (.ref a1)] [] := by first | (simp [entryFrame, mkF, argsToLocals, Value.category]; done) | rfl
set_option maxRecDepth 65536 in
set_option maxHeartbeats 40000000 in
theorem rm5 (l : Launch) (Z : State) (a0 : Array Value) (hw : ∀ d ∈ tables_1, d.before a0 Z = true) (ws : List Jvm.Cond) (a1 : Addr) (h0 : Heap) (n0 : Nat) :
    MetFree l (⟨"java/util/AbstractCollection", "<init>", "()V"⟩ : MethodName) (head1 (Jvm.Cond.code (⟨"java/util/AbstractCollection", "<init>", "()V"⟩ : MethodName) jdk_22_method_1_code 1 none :: ws) ({ frames := 1, cells := 0, slots := 0, locals := 12 } : Room)) (fun a U => a = #[(.ref a1)] ∧ Z.Warmed39 U.vm ∧ U.heap = h0) (fun _ _ _ _ _ => True) (fun _ U o U' => ∃ v L, o = .returned v ∧ QP none h0 n0 v U'.heap L ∧ FrameEnd U o U' L ({ frames := 1, cells := 0, slots := 0, locals := 12 } : Room).cells ({ frames := 1, cells := 0, slots := 0, locals := 12 } : Room).slots) := by
  refine MetFree.of_bodySF (plainFor_of_name pn_5) hisR ?_
  intro p e s m args below meth c s₁ Bd hml0 hP hK
  obtain ⟨rfl, hZ, hh⟩ := hP
  have hx := Bd.exec
  have hby := Bd.bytes
  have hml : c.maxLocals = 1 := hml0
  have hown : s.vm.findClass "java/util/AbstractCollection" = some m.cls := findClass_of_methodNamed Bd.named
  have hnm := (name_of_methodNamed Bd.named Bd.method).1
  have X0 : Stand p l e ({ frames := 1, cells := 0, slots := 0, locals := 12 } : Room) s m #[(.ref a1)] below meth c s₁ [] 0 0 := Stand.of_body Bd
  have e0 : s₁.heap = h0 := by rw [← hh, Bd.state]; rfl
  have N0 := Fr.nil n0
  have go0 : ∀ t, Steps p.tables e below (s₁.setTop (mkF m 0 #[.val (.ref a1)] [])) t → Steps p.tables e below (s₁.setTop (entryFrame m #[(.ref a1)] 1)) t := fun t k => castTop (ef_5 m a1) k
  have go1 : ∀ t, Steps p.tables e below (s₁.setTop (mkF m 1 #[.val (.ref a1)] [(.ref a1)])) t → Steps p.tables e below (s₁.setTop (entryFrame m #[(.ref a1)] 1)) t := fun t kt => go0 t (by
      refine XS.aloadN X0.here hx rfl (hb hby d5_0) rfl rfl ?_
      show Steps p.tables e below (s₁.setTop (mkF m 1 #[.val (.ref a1)] [(.ref a1)])) _
      exact kt)
  obtain ⟨T2, X2, e2, st2⟩ := initO X0 hx hZ hown (own_h hw 25 rfl) (own_h hw 26 rfl) (own_h hw 27 rfl) e0 (g := (mkF m 1 #[.val (.ref a1)] [(.ref a1)])) rfl (by rw [hml]; rfl) rfl (hb hby d5_1) (by decide) (W := 0) (by show 2 * 0 + _ ≤ _; exact Nat.le_of_eq rfl) (by decide)
  have go3 : ∀ t, Steps p.tables e below (T2.setTop (mkF m 4 #[.val (.ref a1)] [])) t → Steps p.tables e below (s₁.setTop (entryFrame m #[(.ref a1)] 1)) t := fun t kt => go1 t (by
      refine st2 _ ?_
      show Steps p.tables e below (T2.setTop (mkF m 4 #[.val (.ref a1)] [])) _
      exact kt)
  obtain ⟨fs, hr, hrun, hended, hW, hsame⟩ := X2.leave (v := none) (fun _ => rfl)
  refine ⟨_, _, go3 _ (X2.returnOut hx Bd.returns (hb hby d5_4) hr), hrun, hended, _, _, rfl, ?_, ⟨_, rfl⟩, hW, hsame.mono (by decide) (by decide)⟩
  exact ⟨rfl, N0, e2⟩
abbrev own_m3 : MethodName := ⟨"java/util/AbstractCollection", "<init>", "()V"⟩
theorem d4_0 : decode jdk_39_method_1_code 0 = .ok (.aload_n 0, 1) := by decide +kernel
theorem d4_1 : decode jdk_39_method_1_code 1 = .ok (.invokespecial 1, 3) := by decide +kernel
theorem d4_4 : decode jdk_39_method_1_code 4 = .ok (.aload_n 0, 1) := by decide +kernel
theorem d4_5 : decode jdk_39_method_1_code 5 = .ok (.iconst 0, 1) := by decide +kernel
theorem d4_6 : decode jdk_39_method_1_code 6 = .ok (.putfield 7, 3) := by decide +kernel
theorem d4_9 : decode jdk_39_method_1_code 9 = .ok (.return_, 1) := by decide +kernel
theorem pn_4 : plainName "java/util/AbstractList" = true := by first | (simp [plainName, overriddenIn]; done) | decide +kernel
theorem ef_4 (m : MethodId) (a1 : Addr) : entryFrame m #[(.ref a1)] 1 = mkF m 0 #[.val (.ref a1)] [] := by first | (simp [entryFrame, mkF, argsToLocals, Value.category]; done) | rfl
set_option maxRecDepth 65536 in
set_option maxHeartbeats 40000000 in
theorem rm4 (l : Launch) (Z : State) (a0 : Array Value) (hw : ∀ d ∈ tables_1, d.before a0 Z = true) (ws : List Jvm.Cond) (a1 : Addr) (h0 : Heap) (n0 : Nat) (LO : own_LO Z h0 a1 .null 0 0) (ga : n0 ≤ a1) :
    MetFree l (⟨"java/util/AbstractList", "<init>", "()V"⟩ : MethodName) (head1 (Jvm.Cond.code (⟨"java/util/AbstractList", "<init>", "()V"⟩ : MethodName) jdk_39_method_1_code 1 none :: ws) ({ frames := 2, cells := 0, slots := 0, locals := 24 } : Room)) (fun a U => a = #[(.ref a1)] ∧ Z.Warmed39 U.vm ∧ U.heap = h0) (fun _ _ _ _ _ => True) (fun _ U o U' => ∃ v L, o = .returned v ∧ own_QL Z a1 .null 0 0 h0 n0 v U'.heap L ∧ FrameEnd U o U' L ({ frames := 2, cells := 0, slots := 0, locals := 24 } : Room).cells ({ frames := 2, cells := 0, slots := 0, locals := 24 } : Room).slots) := by
  refine MetFree.of_bodySF (plainFor_of_name pn_4) hisR ?_
  intro p e s m args below meth c s₁ Bd hml0 hP hK
  obtain ⟨rfl, hZ, hh⟩ := hP
  have hx := Bd.exec
  have hby := Bd.bytes
  have hml : c.maxLocals = 1 := hml0
  have hown : s.vm.findClass "java/util/AbstractList" = some m.cls := findClass_of_methodNamed Bd.named
  have hnm := (name_of_methodNamed Bd.named Bd.method).1
  have X0 : Stand p l e ({ frames := 2, cells := 0, slots := 0, locals := 24 } : Room) s m #[(.ref a1)] below meth c s₁ [] 0 0 := Stand.of_body Bd
  have e0 : s₁.heap = h0 := by rw [← hh, Bd.state]; rfl
  have N0 := Fr.nil n0
  have go0 : ∀ t, Steps p.tables e below (s₁.setTop (mkF m 0 #[.val (.ref a1)] [])) t → Steps p.tables e below (s₁.setTop (entryFrame m #[(.ref a1)] 1)) t := fun t k => castTop (ef_4 m a1) k
  obtain ⟨OE, OF1, OF2, OF3⟩ := id LO
  have go1 : ∀ t, Steps p.tables e below (s₁.setTop (mkF m 1 #[.val (.ref a1)] [(.ref a1)])) t → Steps p.tables e below (s₁.setTop (entryFrame m #[(.ref a1)] 1)) t := fun t kt => go0 t (by
      refine XS.aloadN X0.here hx rfl (hb hby d4_0) rfl rfl ?_
      show Steps p.tables e below (s₁.setTop (mkF m 1 #[.val (.ref a1)] [(.ref a1)])) _
      exact kt)
  obtain ⟨_, _, ⟨T2, L2, k2, n2⟩, -, X2, ⟨Lc2, hQ2, l2, y2, z2⟩, st2⟩ := X0.specialBack hx (y := own_m3) rfl hown (mvT hZ (own_h hw 19 rfl)) (mvT hZ (own_h hw 20 rfl)) (mvT hZ (own_h hw 24 rfl)) (by decide) (backOf (W := 0) (rm5 l Z a0 hw [] a1 h0 n0) hZ (own_h hw 24 rfl) (own_h hw 23 rfl) (by decide) (by decide)) (g := (mkF m 1 #[.val (.ref a1)] [(.ref a1)])) rfl (by rw [hml]; rfl) (Steps.refl _) (a := a1) (argsL := []) (rest := []) (lenOf pd_1 rfl) rfl (by show 2 * 0 + _ ≤ _; exact Nat.le_of_eq rfl) (hb hby d4_1) (fun _ _ => ⟨rfl, e0, (by decide : 0 + 0 ≤ _), (by decide : 0 + 0 ≤ _)⟩)
  dsimp only [Pt.U, Pt.locs, Pt.cells, Pt.slots] at X2 l2 y2 z2 st2 hQ2
  subst y2 z2
  obtain ⟨rfl, N2q, e2⟩ := hQ2
  have N2 := Fr.app N0 N2q
  rw [← l2] at N2
  have go3 : ∀ t, Steps p.tables e below (T2.setTop (mkF m 6 #[.val (.ref a1)] [(.int (0 : Int32)), (.ref a1)])) t → Steps p.tables e below (s₁.setTop (entryFrame m #[(.ref a1)] 1)) t := fun t kt => go1 t (by
      refine st2.trans ?_
      show Steps p.tables e below (T2.setTop (mkF m 4 #[.val (.ref a1)] [])) _
      refine XS.aloadN X2.here hx rfl (hb hby d4_4) rfl rfl ?_
      show Steps p.tables e below (T2.setTop (mkF m 5 #[.val (.ref a1)] [(.ref a1)])) _
      refine XS.iconst X2.here hx rfl (hb hby d4_5) ?_
      show Steps p.tables e below (T2.setTop (mkF m 6 #[.val (.ref a1)] [(.int (0 : Int32)), (.ref a1)])) _
      exact kt)
  obtain ⟨T4, h4, X4, e4, W4, st4⟩ := putF X2 hx hZ hown (host := "") (Or.inl (own_h hw 28 rfl)) Via.refl e2 OF3 OE (Or.inl (own_h hw 29 rfl)) (own_h hw 8 rfl) (ty := .int) (by decide) rfl rfl (g := (mkF m 6 #[.val (.ref a1)] [(.int (0 : Int32)), (.ref a1)])) rfl rfl (hb hby d4_6)
  have Fw4 := OF3.same W4
  obtain ⟨Ls4, X4, N4⟩ := own_loc X4 (Fr.snoc X4 N2 ga)
  have go5 : ∀ t, Steps p.tables e below (T4.setTop (mkF m 9 #[.val (.ref a1)] [])) t → Steps p.tables e below (s₁.setTop (entryFrame m #[(.ref a1)] 1)) t := fun t kt => go3 t (by
      refine st4 _ ?_
      show Steps p.tables e below (T4.setTop (mkF m 9 #[.val (.ref a1)] [])) _
      exact kt)
  obtain ⟨fs, hr, hrun, hended, hW, hsame⟩ := X4.leave (v := none) (fun _ => rfl)
  refine ⟨_, _, go5 _ (X4.returnOut hx Bd.returns (hb hby d4_9) hr), hrun, hended, _, _, rfl, ?_, ⟨_, rfl⟩, hW, hsame.mono (by decide) (by decide)⟩
  show own_QL _ _ _ _ _ _ _ _ T4.heap _
  rw [e4]
  have fq6 := (OE.wr W4)
  have fq7 := (OF1.other W4 (Or.inr (slot_ne (Or.inl (own_h hw 32 rfl)) (Or.inl (own_h hw 29 rfl)) (by decide) (t := (.array (.object "java/lang/Object"))) (t' := .int) (by decide) (by decide))))
  have fq8 := (OF2.other W4 (Or.inr (slot_ne (Or.inl (own_h hw 77 rfl)) (Or.inl (own_h hw 29 rfl)) (by decide) (t := .int) (t' := .int) (by decide) (by decide))))
  exact ⟨rfl, N4, ((Keep.refl h0 [a1]).wr W4 (Or.inl (List.mem_of_getElem? (i := 0) rfl))), ⟨fq6, fq7, fq8, Fw4⟩⟩
abbrev own_m4 : MethodName := ⟨"java/util/AbstractList", "<init>", "()V"⟩
theorem d3_0 : decode jdk_38_method_2_code 0 = .ok (.aload_n 0, 1) := by decide +kernel
theorem d3_1 : decode jdk_38_method_2_code 1 = .ok (.invokespecial 1, 3) := by decide +kernel
theorem d3_4 : decode jdk_38_method_2_code 4 = .ok (.aload_n 0, 1) := by decide +kernel
theorem d3_5 : decode jdk_38_method_2_code 5 = .ok (.getstatic 39, 3) := by decide +kernel
theorem d3_8 : decode jdk_38_method_2_code 8 = .ok (.putfield 9, 3) := by decide +kernel
theorem d3_11 : decode jdk_38_method_2_code 11 = .ok (.return_, 1) := by decide +kernel
theorem pn_3 : plainName "java/util/ArrayList" = true := by first | (simp [plainName, overriddenIn]; done) | decide +kernel
theorem ef_3 (m : MethodId) (a1 : Addr) : entryFrame m #[(.ref a1)] 1 = mkF m 0 #[.val (.ref a1)] [] := by first | (simp [entryFrame, mkF, argsToLocals, Value.category]; done) | rfl
set_option maxRecDepth 65536 in
set_option maxHeartbeats 40000000 in
theorem rm3 (l : Launch) (Z : State) (a0 : Array Value) (hw : ∀ d ∈ tables_1, d.before a0 Z = true) (ws : List Jvm.Cond) (a1 dd : Addr) (h0 : Heap) (n0 : Nat) (LO : own_LO Z h0 a1 .null 0 0) (ga : n0 ≤ a1) (Old1 : Old Z n0 h0) (SS : Sta Z Z.heap "java/util/ArrayList" "DEFAULTCAPACITY_EMPTY_ELEMENTDATA" "[Ljava/lang/Object;" (.ref dd)) :
    MetFree l (⟨"java/util/ArrayList", "<init>", "()V"⟩ : MethodName) (head1 (Jvm.Cond.code (⟨"java/util/ArrayList", "<init>", "()V"⟩ : MethodName) jdk_38_method_2_code 1 none :: ws) ({ frames := 3, cells := 0, slots := 0, locals := 36 } : Room)) (fun a U => a = #[(.ref a1)] ∧ Z.Warmed39 U.vm ∧ U.heap = h0) (fun _ _ _ _ _ => True) (fun _ U o U' => ∃ v L, o = .returned v ∧ own_QL Z a1 (.ref dd) 0 0 h0 n0 v U'.heap L ∧ FrameEnd U o U' L ({ frames := 3, cells := 0, slots := 0, locals := 36 } : Room).cells ({ frames := 3, cells := 0, slots := 0, locals := 36 } : Room).slots) := by
  refine MetFree.of_bodySF (plainFor_of_name pn_3) hisR ?_
  intro p e s m args below meth c s₁ Bd hml0 hP hK
  obtain ⟨rfl, hZ, hh⟩ := hP
  have hx := Bd.exec
  have hby := Bd.bytes
  have hml : c.maxLocals = 1 := hml0
  have hown : s.vm.findClass "java/util/ArrayList" = some m.cls := findClass_of_methodNamed Bd.named
  have hnm := (name_of_methodNamed Bd.named Bd.method).1
  have X0 : Stand p l e ({ frames := 3, cells := 0, slots := 0, locals := 36 } : Room) s m #[(.ref a1)] below meth c s₁ [] 0 0 := Stand.of_body Bd
  have e0 : s₁.heap = h0 := by rw [← hh, Bd.state]; rfl
  have N0 := Fr.nil n0
  have go0 : ∀ t, Steps p.tables e below (s₁.setTop (mkF m 0 #[.val (.ref a1)] [])) t → Steps p.tables e below (s₁.setTop (entryFrame m #[(.ref a1)] 1)) t := fun t k => castTop (ef_3 m a1) k
  have go1 : ∀ t, Steps p.tables e below (s₁.setTop (mkF m 1 #[.val (.ref a1)] [(.ref a1)])) t → Steps p.tables e below (s₁.setTop (entryFrame m #[(.ref a1)] 1)) t := fun t kt => go0 t (by
      refine XS.aloadN X0.here hx rfl (hb hby d3_0) rfl rfl ?_
      show Steps p.tables e below (s₁.setTop (mkF m 1 #[.val (.ref a1)] [(.ref a1)])) _
      exact kt)
  have Old0 := Old1
  obtain ⟨_, _, ⟨T2, L2, k2, n2⟩, -, X2, ⟨Lc2, hQ2, l2, y2, z2⟩, st2⟩ := X0.specialBack hx (y := own_m4) rfl hown (mvT hZ (own_h hw 13 rfl)) (mvT hZ (own_h hw 14 rfl)) (mvT hZ (own_h hw 18 rfl)) (by decide) (backOf (W := 0) (rm4 l Z a0 hw [] a1 h0 n0 LO ga) hZ (own_h hw 18 rfl) (own_h hw 17 rfl) (by decide) (by decide)) (g := (mkF m 1 #[.val (.ref a1)] [(.ref a1)])) rfl (by rw [hml]; rfl) (Steps.refl _) (a := a1) (argsL := []) (rest := []) (lenOf pd_1 rfl) rfl (by show 2 * 0 + _ ≤ _; exact Nat.le_of_eq rfl) (hb hby d3_1) (fun _ _ => ⟨rfl, e0, (by decide : 0 + 0 ≤ _), (by decide : 0 + 0 ≤ _)⟩)
  dsimp only [Pt.U, Pt.locs, Pt.cells, Pt.slots] at X2 l2 y2 z2 st2 hQ2
  subst y2 z2
  obtain ⟨rfl, N2q, K2, LO2⟩ := hQ2
  obtain ⟨PE, PF1, PF2, PF3⟩ := id LO2
  have fq3 := (Old1.keep K2 (allS ga all0))
  have ST2 := SS.ext fq3.2
  have N2 := Fr.app N0 N2q
  rw [← l2] at N2
  have go4 : ∀ t, Steps p.tables e below (T2.setTop (mkF m 5 #[.val (.ref a1)] [(.ref a1)])) t → Steps p.tables e below (s₁.setTop (entryFrame m #[(.ref a1)] 1)) t := fun t kt => go1 t (by
      refine st2.trans ?_
      show Steps p.tables e below (T2.setTop (mkF m 4 #[.val (.ref a1)] [])) _
      refine XS.aloadN X2.here hx rfl (hb hby d3_4) rfl rfl ?_
      show Steps p.tables e below (T2.setTop (mkF m 5 #[.val (.ref a1)] [(.ref a1)])) _
      exact kt)
  obtain ⟨T5, X5, e5, st5⟩ := getS2 X2 hx hZ hown (host := "") (Or.inl (own_h hw 30 rfl)) Via.refl rfl ST2 (g := (mkF m 5 #[.val (.ref a1)] [(.ref a1)])) rfl (hb hby d3_5)
  have go6 : ∀ t, Steps p.tables e below (T5.setTop (mkF m 8 #[.val (.ref a1)] [(.ref dd), (.ref a1)])) t → Steps p.tables e below (s₁.setTop (entryFrame m #[(.ref a1)] 1)) t := fun t kt => go4 t (by
      refine st5 _ ?_
      show Steps p.tables e below (T5.setTop (mkF m 8 #[.val (.ref a1)] [(.ref dd), (.ref a1)])) _
      exact kt)
  obtain ⟨T7, h7, X7, e7, W7, st7⟩ := putF X5 hx hZ hown (host := "") (Or.inl (own_h hw 31 rfl)) Via.refl e5 PF1 PE (Or.inl (own_h hw 32 rfl)) (own_h hw 8 rfl) (ty := (.array (.object "java/lang/Object"))) (by decide) rfl rfl (g := (mkF m 8 #[.val (.ref a1)] [(.ref dd), (.ref a1)])) rfl rfl (hb hby d3_8)
  have Fw7 := PF1.same W7
  obtain ⟨Ls7, X7, N7⟩ := own_loc X7 (Fr.snoc X7 N2 ga)
  have go8 : ∀ t, Steps p.tables e below (T7.setTop (mkF m 11 #[.val (.ref a1)] [])) t → Steps p.tables e below (s₁.setTop (entryFrame m #[(.ref a1)] 1)) t := fun t kt => go6 t (by
      refine st7 _ ?_
      show Steps p.tables e below (T7.setTop (mkF m 11 #[.val (.ref a1)] [])) _
      exact kt)
  obtain ⟨fs, hr, hrun, hended, hW, hsame⟩ := X7.leave (v := none) (fun _ => rfl)
  refine ⟨_, _, go8 _ (X7.returnOut hx Bd.returns (hb hby d3_11) hr), hrun, hended, _, _, rfl, ?_, ⟨_, rfl⟩, hW, hsame.mono (by decide) (by decide)⟩
  show own_QL _ _ _ _ _ _ _ _ T7.heap _
  rw [e7]
  have kp9 := ((Keep.refl h0 [a1]).trans K2 (allS (Or.inl (List.mem_of_getElem? (i := 0) rfl)) all0))
  have fq10 := (PE.wr W7)
  have fq11 := (PF2.other W7 (Or.inr (slot_ne (Or.inl (own_h hw 77 rfl)) (Or.inl (own_h hw 32 rfl)) (by decide) (t := .int) (t' := (.array (.object "java/lang/Object"))) (by decide) (by decide))))
  have fq12 := (PF3.other W7 (Or.inr (slot_ne (Or.inl (own_h hw 29 rfl)) (Or.inl (own_h hw 32 rfl)) (by decide) (t := .int) (t' := (.array (.object "java/lang/Object"))) (by decide) (by decide))))
  exact ⟨rfl, N7, (kp9.wr W7 (Or.inl (List.mem_of_getElem? (i := 0) rfl))), ⟨fq10, Fw7, fq11, fq12⟩⟩
abbrev own_m5 : MethodName := ⟨"java/lang/Math", "max", "(II)I"⟩
theorem d12_0 : decode jdk_38_method_6_code 0 = .ok (.aload_n 0, 1) := by decide +kernel
theorem d12_1 : decode jdk_38_method_6_code 1 = .ok (.getfield 9, 3) := by decide +kernel
theorem d12_4 : decode jdk_38_method_6_code 4 = .ok (.arraylength, 1) := by decide +kernel
theorem d12_5 : decode jdk_38_method_6_code 5 = .ok (.istore_n 2, 1) := by decide +kernel
theorem d12_6 : decode jdk_38_method_6_code 6 = .ok (.iload_n 2, 1) := by decide +kernel
theorem d12_7 : decode jdk_38_method_6_code 7 = .ok (.ifCond .gt 13, 3) := by decide +kernel
theorem d12_10 : decode jdk_38_method_6_code 10 = .ok (.aload_n 0, 1) := by decide +kernel
theorem d12_11 : decode jdk_38_method_6_code 11 = .ok (.getfield 9, 3) := by decide +kernel
theorem d12_14 : decode jdk_38_method_6_code 14 = .ok (.getstatic 39, 3) := by decide +kernel
theorem d12_17 : decode jdk_38_method_6_code 17 = .ok (.if_acmp .eq 28, 3) := by decide +kernel
theorem d12_45 : decode jdk_38_method_6_code 45 = .ok (.aload_n 0, 1) := by decide +kernel
theorem d12_46 : decode jdk_38_method_6_code 46 = .ok (.bipush 10, 2) := by decide +kernel
theorem d12_48 : decode jdk_38_method_6_code 48 = .ok (.iload_n 1, 1) := by decide +kernel
theorem d12_49 : decode jdk_38_method_6_code 49 = .ok (.invokestatic 79, 3) := by decide +kernel
theorem d12_52 : decode jdk_38_method_6_code 52 = .ok (.anewarray 7, 3) := by decide +kernel
theorem d12_55 : decode jdk_38_method_6_code 55 = .ok (.dup_x1, 1) := by decide +kernel
theorem d12_56 : decode jdk_38_method_6_code 56 = .ok (.putfield 9, 3) := by decide +kernel
theorem d12_59 : decode jdk_38_method_6_code 59 = .ok (.areturn, 1) := by decide +kernel
theorem pn_12 : plainName "java/util/ArrayList" = true := by first | (simp [plainName, overriddenIn]; done) | decide +kernel
theorem ef_12 (m : MethodId) (a1 : Addr) : entryFrame m #[(.ref a1), (.int (1 : Int32))] 4 = mkF m 0 #[.val (.ref a1), .val (.int (1 : Int32)), .unset, .unset] [] := by first | (simp [entryFrame, mkF, argsToLocals, Value.category]; done) | rfl
set_option maxRecDepth 65536 in
set_option maxHeartbeats 40000000 in
theorem rm12 (l : Launch) (Z : State) (a0 : Array Value) (hw : ∀ d ∈ tables_1, d.before a0 Z = true) (ws : List Jvm.Cond) (a1 dd : Addr) (mc : Int32) (h0 : Heap) (n0 : Nat) (ST : Sta Z h0 "java/util/ArrayList" "DEFAULTCAPACITY_EMPTY_ELEMENTDATA" "[Ljava/lang/Object;" (.ref dd)) (DV : own_AV Z h0 dd (.object "java/lang/Object") []) (nd : dd ≠ a1) (Z0 : n0 ≤ h0.size) (LO : own_LO Z h0 a1 (.ref dd) 0 mc) (ga : n0 ≤ a1) :
    MetFree l (⟨"java/util/ArrayList", "grow", "(I)[Ljava/lang/Object;"⟩ : MethodName) (head1 (Jvm.Cond.code (⟨"java/util/ArrayList", "grow", "(I)[Ljava/lang/Object;"⟩ : MethodName) jdk_38_method_6_code 4 (some (.array (.object "java/lang/Object"))) :: ws) ({ frames := 1, cells := 1, slots := 10, locals := 14 } : Room)) (fun a U => a = #[(.ref a1), (.int (1 : Int32))] ∧ Z.Warmed39 U.vm ∧ U.heap = h0) (fun _ _ _ _ _ => True) (fun _ U o U' => ∃ v L, o = .returned v ∧ own_QG Z a1 mc h0 n0 v U'.heap L ∧ FrameEnd U o U' L ({ frames := 1, cells := 1, slots := 10, locals := 14 } : Room).cells ({ frames := 1, cells := 1, slots := 10, locals := 14 } : Room).slots) := by
  refine MetFree.of_bodySF (plainFor_of_name pn_12) hisR ?_
  intro p e s m args below meth c s₁ Bd hml0 hP hK
  obtain ⟨rfl, hZ, hh⟩ := hP
  have hx := Bd.exec
  have hby := Bd.bytes
  have hml : c.maxLocals = 4 := hml0
  have hown : s.vm.findClass "java/util/ArrayList" = some m.cls := findClass_of_methodNamed Bd.named
  have hnm := (name_of_methodNamed Bd.named Bd.method).1
  have X0 : Stand p l e ({ frames := 1, cells := 1, slots := 10, locals := 14 } : Room) s m #[(.ref a1), (.int (1 : Int32))] below meth c s₁ [] 0 0 := Stand.of_body Bd
  have e0 : s₁.heap = h0 := by rw [← hh, Bd.state]; rfl
  have N0 := Fr.nil n0
  have go0 : ∀ t, Steps p.tables e below (s₁.setTop (mkF m 0 #[.val (.ref a1), .val (.int (1 : Int32)), .unset, .unset] [])) t → Steps p.tables e below (s₁.setTop (entryFrame m #[(.ref a1), (.int (1 : Int32))] 4)) t := fun t k => castTop (ef_12 m a1) k
  obtain ⟨OE, OF1, OF2, OF3⟩ := id LO
  have go1 : ∀ t, Steps p.tables e below (s₁.setTop (mkF m 1 #[.val (.ref a1), .val (.int (1 : Int32)), .unset, .unset] [(.ref a1)])) t → Steps p.tables e below (s₁.setTop (entryFrame m #[(.ref a1), (.int (1 : Int32))] 4)) t := fun t kt => go0 t (by
      refine XS.aloadN X0.here hx rfl (hb hby d12_0) rfl rfl ?_
      show Steps p.tables e below (s₁.setTop (mkF m 1 #[.val (.ref a1), .val (.int (1 : Int32)), .unset, .unset] [(.ref a1)])) _
      exact kt)
  obtain ⟨T2, X2, e2, st2⟩ := getF X0 hx hZ hown (host := "") (Or.inl (own_h hw 31 rfl)) Via.refl e0 OF1 (g := (mkF m 1 #[.val (.ref a1), .val (.int (1 : Int32)), .unset, .unset] [(.ref a1)])) rfl rfl (hb hby d12_1)
  have go3 : ∀ t, Steps p.tables e below (T2.setTop (mkF m 4 #[.val (.ref a1), .val (.int (1 : Int32)), .unset, .unset] [(.ref dd)])) t → Steps p.tables e below (s₁.setTop (entryFrame m #[(.ref a1), (.int (1 : Int32))] 4)) t := fun t kt => go1 t (by
      refine st2 _ ?_
      show Steps p.tables e below (T2.setTop (mkF m 4 #[.val (.ref a1), .val (.int (1 : Int32)), .unset, .unset] [(.ref dd)])) _
      exact kt)
  obtain ⟨c4, Ar4, q4⟩ := id DV
  have hc7_5 : ¬ ((0 : Int32) < (0 : Int32)) := (by decide)
  have go6 : ∀ t, Steps p.tables e below (T2.setTop (mkF m 11 #[.val (.ref a1), .val (.int (1 : Int32)), .val (.int (0 : Int32)), .unset] [(.ref a1)])) t → Steps p.tables e below (s₁.setTop (entryFrame m #[(.ref a1), (.int (1 : Int32))] 4)) t := fun t kt => go3 t (by
      refine X2.arraylength hx (by rw [e2]; exact Ar4.1) (State.isArrayOf_alike hZ.alike Ar4.2.1) (g := (mkF m 4 #[.val (.ref a1), .val (.int (1 : Int32)), .unset, .unset] [(.ref dd)])) rfl rfl (hb hby d12_4) _ ?_
      rw [own_len q4 (n := (0 : Int32)) rfl]
      show Steps p.tables e below (T2.setTop (mkF m 5 #[.val (.ref a1), .val (.int (1 : Int32)), .unset, .unset] [(.int (0 : Int32))])) _
      refine XS.istoreN X2.here hx rfl (hb hby d12_5) rfl (l' := #[.val (.ref a1), .val (.int (1 : Int32)), .val (.int (0 : Int32)), .unset]) rfl ?_
      show Steps p.tables e below (T2.setTop (mkF m 6 #[.val (.ref a1), .val (.int (1 : Int32)), .val (.int (0 : Int32)), .unset] [])) _
      refine XS.iloadN X2.here hx rfl (hb hby d12_6) rfl ?_
      show Steps p.tables e below (T2.setTop (mkF m 7 #[.val (.ref a1), .val (.int (1 : Int32)), .val (.int (0 : Int32)), .unset] [(.int (0 : Int32))])) _
      refine XS.ifNo X2.here hx rfl (hb hby d12_7) rfl ((if0 _ _).trans (flt hc7_5).2.2.1) ?_
      show Steps p.tables e below (T2.setTop (mkF m 10 #[.val (.ref a1), .val (.int (1 : Int32)), .val (.int (0 : Int32)), .unset] [])) _
      refine XS.aloadN X2.here hx rfl (hb hby d12_10) rfl rfl ?_
      show Steps p.tables e below (T2.setTop (mkF m 11 #[.val (.ref a1), .val (.int (1 : Int32)), .val (.int (0 : Int32)), .unset] [(.ref a1)])) _
      exact kt)
  obtain ⟨T7, X7, e7, st7⟩ := getF X2 hx hZ hown (host := "") (Or.inl (own_h hw 31 rfl)) Via.refl e2 OF1 (g := (mkF m 11 #[.val (.ref a1), .val (.int (1 : Int32)), .val (.int (0 : Int32)), .unset] [(.ref a1)])) rfl rfl (hb hby d12_11)
  have go8 : ∀ t, Steps p.tables e below (T7.setTop (mkF m 14 #[.val (.ref a1), .val (.int (1 : Int32)), .val (.int (0 : Int32)), .unset] [(.ref dd)])) t → Steps p.tables e below (s₁.setTop (entryFrame m #[(.ref a1), (.int (1 : Int32))] 4)) t := fun t kt => go6 t (by
      refine st7 _ ?_
      show Steps p.tables e below (T7.setTop (mkF m 14 #[.val (.ref a1), .val (.int (1 : Int32)), .val (.int (0 : Int32)), .unset] [(.ref dd)])) _
      exact kt)
  obtain ⟨T9, X9, e9, st9⟩ := getS2 X7 hx hZ hown (host := "") (Or.inl (own_h hw 30 rfl)) Via.refl e7 ST (g := (mkF m 14 #[.val (.ref a1), .val (.int (1 : Int32)), .val (.int (0 : Int32)), .unset] [(.ref dd)])) rfl (hb hby d12_14)
  have go10 : ∀ t, Steps p.tables e below (T9.setTop (mkF m 49 #[.val (.ref a1), .val (.int (1 : Int32)), .val (.int (0 : Int32)), .unset] [(.int (1 : Int32)), (.int (10 : Int32)), (.ref a1)])) t → Steps p.tables e below (s₁.setTop (entryFrame m #[(.ref a1), (.int (1 : Int32))] 4)) t := fun t kt => go8 t (by
      refine st9 _ ?_
      show Steps p.tables e below (T9.setTop (mkF m 17 #[.val (.ref a1), .val (.int (1 : Int32)), .val (.int (0 : Int32)), .unset] [(.ref dd), (.ref dd)])) _
      refine Jvm.RoadKit.acmp (g := (mkF m 17 #[.val (.ref a1), .val (.int (1 : Int32)), .val (.int (0 : Int32)), .unset] [(.ref dd), (.ref dd)])) X9 hx rfl rfl rfl (pc0 := 17) (pc' := 45) (same := true) rfl (hb hby d12_17) rfl (decide_eq_true rfl) (by decide) (by decide) ?_
      show Steps p.tables e below (T9.setTop (mkF m 45 #[.val (.ref a1), .val (.int (1 : Int32)), .val (.int (0 : Int32)), .unset] [])) _
      refine XS.aloadN X9.here hx rfl (hb hby d12_45) rfl rfl ?_
      show Steps p.tables e below (T9.setTop (mkF m 46 #[.val (.ref a1), .val (.int (1 : Int32)), .val (.int (0 : Int32)), .unset] [(.ref a1)])) _
      refine XS.bipush X9.here hx rfl (hb hby d12_46) ?_
      show Steps p.tables e below (T9.setTop (mkF m 48 #[.val (.ref a1), .val (.int (1 : Int32)), .val (.int (0 : Int32)), .unset] [(.int (10 : Int32)), (.ref a1)])) _
      refine XS.iloadN X9.here hx rfl (hb hby d12_48) rfl ?_
      show Steps p.tables e below (T9.setTop (mkF m 49 #[.val (.ref a1), .val (.int (1 : Int32)), .val (.int (0 : Int32)), .unset] [(.int (1 : Int32)), (.int (10 : Int32)), (.ref a1)])) _
      exact kt)
  obtain ⟨_, _, ⟨T11, L11, k11, n11⟩, -, X11, ⟨Lc11, hQ11, l11, y11, z11⟩, st11⟩ := Jvm.LawKit.callS X9 hx (y := own_m5) hown (mvT hZ (own_h hw 93 rfl)) (mvT hZ (own_h hw 94 rfl)) (mvT hZ (own_h hw 2 rfl)) (mvT hZ (own_h hw 95 rfl)) (by decide) (backOf (W := 1) (rm13 l Z a0 hw [] (10 : Int32) (1 : Int32) h0 n0) hZ (own_h hw 95 rfl) (own_h hw 2 rfl) (by decide) (by decide)) (g := (mkF m 49 #[.val (.ref a1), .val (.int (1 : Int32)), .val (.int (0 : Int32)), .unset] [(.int (1 : Int32)), (.int (10 : Int32)), (.ref a1)])) rfl (by rw [hml]; rfl) (argsL := [(.int (10 : Int32)), (.int (1 : Int32))]) (rest := [(.ref a1)]) (lenOf pd_8 rfl) rfl (by show 2 * 0 + _ ≤ _; exact Nat.le_of_eq rfl) (hb hby d12_49) (fun _ _ => ⟨rfl, e9, (by decide : 0 + 0 ≤ _), (by decide : 0 + 0 ≤ _)⟩)
  dsimp only [Pt.U, Pt.locs, Pt.cells, Pt.slots] at X11 l11 y11 z11 st11 hQ11
  subst y11 z11
  obtain ⟨rfl, N11q, e11⟩ := hQ11
  have N11 := Fr.app N0 N11q
  rw [← l11] at N11
  have go12 : ∀ t, Steps p.tables e below (T11.setTop (mkF m 52 #[.val (.ref a1), .val (.int (1 : Int32)), .val (.int (0 : Int32)), .unset] [(.int (own_max (10 : Int32) (1 : Int32))), (.ref a1)])) t → Steps p.tables e below (s₁.setTop (entryFrame m #[(.ref a1), (.int (1 : Int32))] 4)) t := fun t kt => go10 t (by
      refine st11 _ ?_
      show Steps p.tables e below (T11.setTop (mkF m 52 #[.val (.ref a1), .val (.int (1 : Int32)), .val (.int (0 : Int32)), .unset] [(.int (own_max (10 : Int32) (1 : Int32))), (.ref a1)])) _
      exact kt)
  rw [show (own_max (10 : Int32) (1 : Int32)) = (10 : Int32) from (by decide)] at go12
  obtain ⟨T13, h13, k13, X13, e13, E13, A13, O13, st13⟩ := newR X11 hx hZ hown (own_h hw 96 rfl) (own_h hw 97 rfl) e11 (g := (mkF m 52 #[.val (.ref a1), .val (.int (1 : Int32)), .val (.int (0 : Int32)), .unset] [(.int (10 : Int32)), (.ref a1)])) rfl (hb hby d12_52) rfl (by decide) (cap := 10) (by decide) (by decide) (by decide) (by decide)
  obtain ⟨b13, g13⟩ : ∃ z, z = h0.size := ⟨_, rfl⟩
  rw [← g13] at A13 st13
  have ks13 : h0.size ≤ h0.size := (Nat.le_refl _)
  have sz13 : h0.size ≤ b13 := Nat.le_trans ks13 (Nat.le_of_eq g13.symm)
  have ne_a1_b13 : a1 ≠ b13 := Nat.ne_of_lt (Nat.lt_of_lt_of_le OE.lt (Nat.le_of_eq g13.symm))
  have ne_dd_b13 : dd ≠ b13 := Nat.ne_of_lt (Nat.lt_of_lt_of_le DV.lt (Nat.le_of_eq g13.symm))
  have V13 : own_AVO Z h13 b13 [.null, .null, .null, .null, .null, .null, .null, .null, .null, .null] := ⟨_, A13, by simp [newA]; decide, O13⟩
  have gb13 : n0 ≤ b13 := Nat.le_trans Z0 (Nat.le_of_eq g13.symm)
  have go14 : ∀ t, Steps p.tables e below (T13.setTop (mkF m 56 #[.val (.ref a1), .val (.int (1 : Int32)), .val (.int (0 : Int32)), .unset] [(.ref b13), (.ref a1), (.ref b13)])) t → Steps p.tables e below (s₁.setTop (entryFrame m #[(.ref a1), (.int (1 : Int32))] 4)) t := fun t kt => go12 t (by
      refine st13 _ ?_
      show Steps p.tables e below (T13.setTop (mkF m 55 #[.val (.ref a1), .val (.int (1 : Int32)), .val (.int (0 : Int32)), .unset] [(.ref b13), (.ref a1)])) _
      refine XS.dupX1 X13.here hx rfl (hb hby d12_55) rfl rfl rfl ?_
      show Steps p.tables e below (T13.setTop (mkF m 56 #[.val (.ref a1), .val (.int (1 : Int32)), .val (.int (0 : Int32)), .unset] [(.ref b13), (.ref a1), (.ref b13)])) _
      exact kt)
  have fq15 := (OF1.ext E13)
  have fq16 := (OE.ext E13)
  obtain ⟨T17, h17, X17, e17, W17, st17⟩ := putF X13 hx hZ hown (host := "") (Or.inl (own_h hw 31 rfl)) Via.refl e13 fq15 fq16 (Or.inl (own_h hw 32 rfl)) (own_h hw 8 rfl) (ty := (.array (.object "java/lang/Object"))) (by decide) rfl rfl (g := (mkF m 56 #[.val (.ref a1), .val (.int (1 : Int32)), .val (.int (0 : Int32)), .unset] [(.ref b13), (.ref a1), (.ref b13)])) rfl rfl (hb hby d12_56)
  have Fw17 := fq15.same W17
  obtain ⟨Ls17, X17, N17⟩ := own_loc X17 (Fr.snoc X17 N11 ga)
  have go18 : ∀ t, Steps p.tables e below (T17.setTop (mkF m 59 #[.val (.ref a1), .val (.int (1 : Int32)), .val (.int (0 : Int32)), .unset] [(.ref b13)])) t → Steps p.tables e below (s₁.setTop (entryFrame m #[(.ref a1), (.int (1 : Int32))] 4)) t := fun t kt => go14 t (by
      refine st17 _ ?_
      show Steps p.tables e below (T17.setTop (mkF m 59 #[.val (.ref a1), .val (.int (1 : Int32)), .val (.int (0 : Int32)), .unset] [(.ref b13)])) _
      exact kt)
  obtain ⟨fs, hr, hrun, hended, hW, hsame⟩ := X17.leave (v := some (.ref b13)) (fun h => by rw [Bd.returns] at h; cases h)
  refine ⟨_, _, go18 _ (X17.areturnOut hx rfl Bd.returns rfl (hb hby d12_59) hr), hrun, hended, _, _, rfl, ?_, ⟨_, rfl⟩, hW, hsame.mono (by decide) (by decide)⟩
  show own_QG _ _ _ _ _ _ T17.heap _
  rw [e17]
  have kp19 := ((Keep.refl h0 [a1]).ext E13)
  have fq20 := (fq16.wr W17)
  have fq21 := ((OF2.ext E13).other W17 (Or.inr (slot_ne (Or.inl (own_h hw 77 rfl)) (Or.inl (own_h hw 32 rfl)) (by decide) (t := .int) (t' := (.array (.object "java/lang/Object"))) (by decide) (by decide))))
  have fq22 := ((OF3.ext E13).other W17 (Or.inr (slot_ne (Or.inl (own_h hw 29 rfl)) (Or.inl (own_h hw 32 rfl)) (by decide) (t := .int) (t' := (.array (.object "java/lang/Object"))) (by decide) (by decide))))
  have fq23 := (V13.other W17 (Ne.symm ne_a1_b13))
  exact ⟨b13, rfl, N17, (kp19.wr W17 (Or.inl (List.mem_of_getElem? (i := 0) rfl))), ⟨fq20, Fw17, fq21, fq22⟩, sz13, fq23⟩
abbrev own_m6 : MethodName := ⟨"java/util/ArrayList", "grow", "(I)[Ljava/lang/Object;"⟩
theorem d11_0 : decode jdk_38_method_7_code 0 = .ok (.aload_n 0, 1) := by decide +kernel
theorem d11_1 : decode jdk_38_method_7_code 1 = .ok (.aload_n 0, 1) := by decide +kernel
theorem d11_2 : decode jdk_38_method_7_code 2 = .ok (.getfield 48, 3) := by decide +kernel
theorem d11_5 : decode jdk_38_method_7_code 5 = .ok (.iconst 1, 1) := by decide +kernel
theorem d11_6 : decode jdk_38_method_7_code 6 = .ok (.iadd, 1) := by decide +kernel
theorem d11_7 : decode jdk_38_method_7_code 7 = .ok (.invokevirtual 69, 3) := by decide +kernel
theorem d11_10 : decode jdk_38_method_7_code 10 = .ok (.areturn, 1) := by decide +kernel
theorem pn_11 : plainName "java/util/ArrayList" = true := by first | (simp [plainName, overriddenIn]; done) | decide +kernel
theorem ef_11 (m : MethodId) (a1 : Addr) : entryFrame m #[(.ref a1)] 1 = mkF m 0 #[.val (.ref a1)] [] := by first | (simp [entryFrame, mkF, argsToLocals, Value.category]; done) | rfl
set_option maxRecDepth 65536 in
set_option maxHeartbeats 40000000 in
theorem rm11 (l : Launch) (Z : State) (a0 : Array Value) (hw : ∀ d ∈ tables_1, d.before a0 Z = true) (ws : List Jvm.Cond) (a1 dd : Addr) (mc : Int32) (h0 : Heap) (n0 : Nat) (ST : Sta Z h0 "java/util/ArrayList" "DEFAULTCAPACITY_EMPTY_ELEMENTDATA" "[Ljava/lang/Object;" (.ref dd)) (DV : own_AV Z h0 dd (.object "java/lang/Object") []) (nd : dd ≠ a1) (Z0 : n0 ≤ h0.size) (LO : own_LO Z h0 a1 (.ref dd) 0 mc) (ga : n0 ≤ a1) :
    MetFree l (⟨"java/util/ArrayList", "grow", "()[Ljava/lang/Object;"⟩ : MethodName) (head1 (Jvm.Cond.code (⟨"java/util/ArrayList", "grow", "()[Ljava/lang/Object;"⟩ : MethodName) jdk_38_method_7_code 1 (some (.array (.object "java/lang/Object"))) :: ws) ({ frames := 2, cells := 1, slots := 10, locals := 29 } : Room)) (fun a U => a = #[(.ref a1)] ∧ Z.Warmed39 U.vm ∧ U.heap = h0) (fun _ _ _ _ _ => True) (fun _ U o U' => ∃ v L, o = .returned v ∧ own_QG Z a1 mc h0 n0 v U'.heap L ∧ FrameEnd U o U' L ({ frames := 2, cells := 1, slots := 10, locals := 29 } : Room).cells ({ frames := 2, cells := 1, slots := 10, locals := 29 } : Room).slots) := by
  refine MetFree.of_bodySF (plainFor_of_name pn_11) hisR ?_
  intro p e s m args below meth c s₁ Bd hml0 hP hK
  obtain ⟨rfl, hZ, hh⟩ := hP
  have hx := Bd.exec
  have hby := Bd.bytes
  have hml : c.maxLocals = 1 := hml0
  have hown : s.vm.findClass "java/util/ArrayList" = some m.cls := findClass_of_methodNamed Bd.named
  have hnm := (name_of_methodNamed Bd.named Bd.method).1
  have X0 : Stand p l e ({ frames := 2, cells := 1, slots := 10, locals := 29 } : Room) s m #[(.ref a1)] below meth c s₁ [] 0 0 := Stand.of_body Bd
  have e0 : s₁.heap = h0 := by rw [← hh, Bd.state]; rfl
  have N0 := Fr.nil n0
  have go0 : ∀ t, Steps p.tables e below (s₁.setTop (mkF m 0 #[.val (.ref a1)] [])) t → Steps p.tables e below (s₁.setTop (entryFrame m #[(.ref a1)] 1)) t := fun t k => castTop (ef_11 m a1) k
  obtain ⟨OE, OF1, OF2, OF3⟩ := id LO
  have go1 : ∀ t, Steps p.tables e below (s₁.setTop (mkF m 2 #[.val (.ref a1)] [(.ref a1), (.ref a1)])) t → Steps p.tables e below (s₁.setTop (entryFrame m #[(.ref a1)] 1)) t := fun t kt => go0 t (by
      refine XS.aloadN X0.here hx rfl (hb hby d11_0) rfl rfl ?_
      show Steps p.tables e below (s₁.setTop (mkF m 1 #[.val (.ref a1)] [(.ref a1)])) _
      refine XS.aloadN X0.here hx rfl (hb hby d11_1) rfl rfl ?_
      show Steps p.tables e below (s₁.setTop (mkF m 2 #[.val (.ref a1)] [(.ref a1), (.ref a1)])) _
      exact kt)
  obtain ⟨T2, X2, e2, st2⟩ := getF X0 hx hZ hown (host := "") (Or.inl (own_h hw 76 rfl)) Via.refl e0 OF2 (g := (mkF m 2 #[.val (.ref a1)] [(.ref a1), (.ref a1)])) rfl rfl (hb hby d11_2)
  have go3 : ∀ t, Steps p.tables e below (T2.setTop (mkF m 7 #[.val (.ref a1)] [(.int ((0 : Int32) + (1 : Int32))), (.ref a1)])) t → Steps p.tables e below (s₁.setTop (entryFrame m #[(.ref a1)] 1)) t := fun t kt => go1 t (by
      refine st2 _ ?_
      show Steps p.tables e below (T2.setTop (mkF m 5 #[.val (.ref a1)] [(.int (0 : Int32)), (.ref a1)])) _
      refine XS.iconst X2.here hx rfl (hb hby d11_5) ?_
      show Steps p.tables e below (T2.setTop (mkF m 6 #[.val (.ref a1)] [(.int (1 : Int32)), (.int (0 : Int32)), (.ref a1)])) _
      refine XS.iadd X2.here hx rfl (hb hby d11_6) rfl ?_
      show Steps p.tables e below (T2.setTop (mkF m 7 #[.val (.ref a1)] [(.int ((0 : Int32) + (1 : Int32))), (.ref a1)])) _
      exact kt)
  rw [show ((0 : Int32) + (1 : Int32)) = (1 : Int32) from by decide] at go3
  obtain ⟨cq4, q4, q4'⟩ := OE.cell
  obtain ⟨_, _, ⟨T4, L4, k4, n4⟩, -, X4, ⟨Lc4, hQ4, l4, y4, z4⟩, st4⟩ := X2.privateBack hx (y := own_m6) hown (mvT hZ (own_h hw 88 rfl)) (mvT hZ (own_h hw 89 rfl)) (mvT hZ (own_h hw 91 rfl)) (Cond.privateMethod_at (mvP hZ (own_h hw 90 rfl) (args := #[]))) (mvT hZ (own_h hw 92 rfl)) (by decide) (backOf (W := 0) (rm12 l Z a0 hw [] a1 dd mc h0 n0 ST DV nd Z0 LO ga) hZ (own_h hw 92 rfl) (own_h hw 9 rfl) (by decide) (by decide)) (g := (mkF m 7 #[.val (.ref a1)] [(.int (1 : Int32)), (.ref a1)])) rfl (by rw [hml]; rfl) (Steps.refl _) (a := a1) (by rw [e2]; exact q4) q4' (argsL := [(.int (1 : Int32))]) (rest := []) (lenOf pd_7 rfl) rfl (by show 2 * 0 + _ ≤ _; exact Nat.le_of_eq rfl) (hb hby d11_7) (fun _ _ => ⟨rfl, e2, (by decide : 0 + 1 ≤ _), (by decide : 0 + 10 ≤ _)⟩)
  dsimp only [Pt.U, Pt.locs, Pt.cells, Pt.slots] at X4 l4 y4 z4 st4 hQ4
  subst y4 z4
  obtain ⟨b4, rfl, N4q, K4, LO4, sz4, V4⟩ := hQ4
  have N4 := Fr.app N0 N4q
  rw [← l4] at N4
  have go5 : ∀ t, Steps p.tables e below (T4.setTop (mkF m 10 #[.val (.ref a1)] [(.ref b4)])) t → Steps p.tables e below (s₁.setTop (entryFrame m #[(.ref a1)] 1)) t := fun t kt => go3 t (by
      refine st4.trans ?_
      show Steps p.tables e below (T4.setTop (mkF m 10 #[.val (.ref a1)] [(.ref b4)])) _
      exact kt)
  obtain ⟨fs, hr, hrun, hended, hW, hsame⟩ := X4.leave (v := some (.ref b4)) (fun h => by rw [Bd.returns] at h; cases h)
  refine ⟨_, _, go5 _ (X4.areturnOut hx rfl Bd.returns rfl (hb hby d11_10) hr), hrun, hended, _, _, rfl, ?_, ⟨_, rfl⟩, hW, hsame.mono (by decide) (by decide)⟩
  exact ⟨b4, rfl, N4, K4, LO4, sz4, V4⟩
abbrev own_m7 : MethodName := ⟨"java/util/ArrayList", "grow", "()[Ljava/lang/Object;"⟩
theorem d10_0 : decode jdk_38_method_24_code 0 = .ok (.iload_n 3, 1) := by decide +kernel
theorem d10_1 : decode jdk_38_method_24_code 1 = .ok (.aload_n 2, 1) := by decide +kernel
theorem d10_2 : decode jdk_38_method_24_code 2 = .ok (.arraylength, 1) := by decide +kernel
theorem d10_3 : decode jdk_38_method_24_code 3 = .ok (.if_icmp .ne 8, 3) := by decide +kernel
theorem d10_6 : decode jdk_38_method_24_code 6 = .ok (.aload_n 0, 1) := by decide +kernel
theorem d10_7 : decode jdk_38_method_24_code 7 = .ok (.invokevirtual 129, 3) := by decide +kernel
theorem d10_10 : decode jdk_38_method_24_code 10 = .ok (.astore_n 2, 1) := by decide +kernel
theorem d10_11 : decode jdk_38_method_24_code 11 = .ok (.aload_n 2, 1) := by decide +kernel
theorem d10_12 : decode jdk_38_method_24_code 12 = .ok (.iload_n 3, 1) := by decide +kernel
theorem d10_13 : decode jdk_38_method_24_code 13 = .ok (.aload_n 1, 1) := by decide +kernel
theorem d10_14 : decode jdk_38_method_24_code 14 = .ok (.aastore, 1) := by decide +kernel
theorem d10_15 : decode jdk_38_method_24_code 15 = .ok (.aload_n 0, 1) := by decide +kernel
theorem d10_16 : decode jdk_38_method_24_code 16 = .ok (.iload_n 3, 1) := by decide +kernel
theorem d10_17 : decode jdk_38_method_24_code 17 = .ok (.iconst 1, 1) := by decide +kernel
theorem d10_18 : decode jdk_38_method_24_code 18 = .ok (.iadd, 1) := by decide +kernel
theorem d10_19 : decode jdk_38_method_24_code 19 = .ok (.putfield 48, 3) := by decide +kernel
theorem d10_22 : decode jdk_38_method_24_code 22 = .ok (.return_, 1) := by decide +kernel
theorem pn_10 : plainName "java/util/ArrayList" = true := by first | (simp [plainName, overriddenIn]; done) | decide +kernel
theorem ef_rmH0 (m : MethodId) (a1 : Addr) (a2 : Addr) (dd : Addr) : entryFrame m #[(.ref a1), (.ref a2), (.ref dd), (.int (0 : Int32))] 4 = mkF m 0 #[.val (.ref a1), .val (.ref a2), .val (.ref dd), .val (.int (0 : Int32))] [] := by first | (simp [entryFrame, mkF, argsToLocals, Value.category]; done) | rfl
set_option maxRecDepth 65536 in
set_option maxHeartbeats 40000000 in
theorem rmH0 (l : Launch) (Z : State) (a0 : Array Value) (hw : ∀ d ∈ tables_1, d.before a0 Z = true) (ws : List Jvm.Cond) (a1 a2 dd : Addr) (mc : Int32) (h0 : Heap) (n0 : Nat) (ST : Sta Z h0 "java/util/ArrayList" "DEFAULTCAPACITY_EMPTY_ELEMENTDATA" "[Ljava/lang/Object;" (.ref dd)) (DV : own_AV Z h0 dd (.object "java/lang/Object") []) (nd : dd ≠ a1) (Z0 : n0 ≤ h0.size) (LO : own_LO Z h0 a1 (.ref dd) 0 mc) (ga : n0 ≤ a1) (EX : Exa Z h0 a2 "com/example/invariant_ink/invariantink/lang/Local") :
    MetFree l (⟨"java/util/ArrayList", "add", "(Ljava/lang/Object;[Ljava/lang/Object;I)V"⟩ : MethodName) (head1 (Jvm.Cond.code (⟨"java/util/ArrayList", "add", "(Ljava/lang/Object;[Ljava/lang/Object;I)V"⟩ : MethodName) jdk_38_method_24_code 4 none :: ws) ({ frames := 3, cells := 1, slots := 10, locals := 41 } : Room)) (fun a U => a = #[(.ref a1), (.ref a2), (.ref dd), (.int (0 : Int32))] ∧ Z.Warmed39 U.vm ∧ U.heap = h0) (fun _ _ _ _ _ => True) (fun _ U o U' => ∃ v L, o = .returned v ∧ own_QA none Z a1 a2 mc h0 n0 v U'.heap L ∧ FrameEnd U o U' L ({ frames := 3, cells := 1, slots := 10, locals := 41 } : Room).cells ({ frames := 3, cells := 1, slots := 10, locals := 41 } : Room).slots) := by
  refine MetFree.of_bodySF (plainFor_of_name pn_10) hisR ?_
  intro p e s m args below meth c s₁ Bd hml0 hP hK
  obtain ⟨rfl, hZ, hh⟩ := hP
  have hx := Bd.exec
  have hby := Bd.bytes
  have hml : c.maxLocals = 4 := hml0
  have hown : s.vm.findClass "java/util/ArrayList" = some m.cls := findClass_of_methodNamed Bd.named
  have hnm := (name_of_methodNamed Bd.named Bd.method).1
  have X0 : Stand p l e ({ frames := 3, cells := 1, slots := 10, locals := 41 } : Room) s m #[(.ref a1), (.ref a2), (.ref dd), (.int (0 : Int32))] below meth c s₁ [] 0 0 := Stand.of_body Bd
  have e0 : s₁.heap = h0 := by rw [← hh, Bd.state]; rfl
  have N0 := Fr.nil n0
  have go0 : ∀ t, Steps p.tables e below (s₁.setTop (mkF m 0 #[.val (.ref a1), .val (.ref a2), .val (.ref dd), .val (.int (0 : Int32))] [])) t → Steps p.tables e below (s₁.setTop (entryFrame m #[(.ref a1), (.ref a2), (.ref dd), (.int (0 : Int32))] 4)) t := fun t k => castTop (ef_rmH0 m a1 a2 dd) k
  obtain ⟨OE, OF1, OF2, OF3⟩ := id LO
  have nx : a2 ≠ a1 := Exa.ne EX OE (by decide)
  have go1 : ∀ t, Steps p.tables e below (s₁.setTop (mkF m 2 #[.val (.ref a1), .val (.ref a2), .val (.ref dd), .val (.int (0 : Int32))] [(.ref dd), (.int (0 : Int32))])) t → Steps p.tables e below (s₁.setTop (entryFrame m #[(.ref a1), (.ref a2), (.ref dd), (.int (0 : Int32))] 4)) t := fun t kt => go0 t (by
      refine XS.iloadN X0.here hx rfl (hb hby d10_0) rfl ?_
      show Steps p.tables e below (s₁.setTop (mkF m 1 #[.val (.ref a1), .val (.ref a2), .val (.ref dd), .val (.int (0 : Int32))] [(.int (0 : Int32))])) _
      refine XS.aloadN X0.here hx rfl (hb hby d10_1) rfl rfl ?_
      show Steps p.tables e below (s₁.setTop (mkF m 2 #[.val (.ref a1), .val (.ref a2), .val (.ref dd), .val (.int (0 : Int32))] [(.ref dd), (.int (0 : Int32))])) _
      exact kt)
  obtain ⟨c2, Ar2, q2⟩ := id DV
  have hc3_3 : (0 : Int32) = (0 : Int32) := (by decide)
  have go4 : ∀ t, Steps p.tables e below (s₁.setTop (mkF m 7 #[.val (.ref a1), .val (.ref a2), .val (.ref dd), .val (.int (0 : Int32))] [(.ref a1)])) t → Steps p.tables e below (s₁.setTop (entryFrame m #[(.ref a1), (.ref a2), (.ref dd), (.int (0 : Int32))] 4)) t := fun t kt => go1 t (by
      refine X0.arraylength hx (by rw [e0]; exact Ar2.1) (State.isArrayOf_alike hZ.alike Ar2.2.1) (g := (mkF m 2 #[.val (.ref a1), .val (.ref a2), .val (.ref dd), .val (.int (0 : Int32))] [(.ref dd), (.int (0 : Int32))])) rfl rfl (hb hby d10_2) _ ?_
      rw [own_len q2 (n := (0 : Int32)) rfl]
      show Steps p.tables e below (s₁.setTop (mkF m 3 #[.val (.ref a1), .val (.ref a2), .val (.ref dd), .val (.int (0 : Int32))] [(.int (0 : Int32)), (.int (0 : Int32))])) _
      refine XS.icmpNo X0.here hx rfl (hb hby d10_3) rfl (teq hc3_3).2 ?_
      show Steps p.tables e below (s₁.setTop (mkF m 6 #[.val (.ref a1), .val (.ref a2), .val (.ref dd), .val (.int (0 : Int32))] [])) _
      refine XS.aloadN X0.here hx rfl (hb hby d10_6) rfl rfl ?_
      show Steps p.tables e below (s₁.setTop (mkF m 7 #[.val (.ref a1), .val (.ref a2), .val (.ref dd), .val (.int (0 : Int32))] [(.ref a1)])) _
      exact kt)
  obtain ⟨cq5, q5, q5'⟩ := OE.cell
  obtain ⟨_, _, ⟨T5, L5, k5, n5⟩, -, X5, ⟨Lc5, hQ5, l5, y5, z5⟩, st5⟩ := X0.privateBack hx (y := own_m7) hown (mvT hZ (own_h hw 83 rfl)) (mvT hZ (own_h hw 84 rfl)) (mvT hZ (own_h hw 86 rfl)) (Cond.privateMethod_at (mvP hZ (own_h hw 85 rfl) (args := #[]))) (mvT hZ (own_h hw 87 rfl)) (by decide) (backOf (W := 0) (rm11 l Z a0 hw [] a1 dd mc h0 n0 ST DV nd Z0 LO ga) hZ (own_h hw 87 rfl) (own_h hw 9 rfl) (by decide) (by decide)) (g := (mkF m 7 #[.val (.ref a1), .val (.ref a2), .val (.ref dd), .val (.int (0 : Int32))] [(.ref a1)])) rfl (by rw [hml]; rfl) (Steps.refl _) (a := a1) (by rw [e0]; exact q5) q5' (argsL := []) (rest := []) (lenOf pd_6 rfl) rfl (by show 2 * 0 + _ ≤ _; exact Nat.le_of_eq rfl) (hb hby d10_7) (fun _ _ => ⟨rfl, e0, (by decide : 0 + 1 ≤ _), (by decide : 0 + 10 ≤ _)⟩)
  dsimp only [Pt.U, Pt.locs, Pt.cells, Pt.slots] at X5 l5 y5 z5 st5 hQ5
  subst y5 z5
  obtain ⟨b5, rfl, N5q, K5, LO5, sz5, V5⟩ := hQ5
  have ne_a1_b5 : a1 ≠ b5 := Nat.ne_of_lt (Nat.lt_of_lt_of_le OE.lt sz5)
  have ne_a2_b5 : a2 ≠ b5 := Nat.ne_of_lt (Nat.lt_of_lt_of_le EX.lt sz5)
  have ne_dd_b5 : dd ≠ b5 := Nat.ne_of_lt (Nat.lt_of_lt_of_le DV.lt sz5)
  have gb5 : n0 ≤ b5 := Nat.le_trans Z0 sz5
  obtain ⟨PE, PF1, PF2, PF3⟩ := id LO5
  have N5 := Fr.app N0 N5q
  rw [← l5] at N5
  have go6 : ∀ t, Steps p.tables e below (T5.setTop (mkF m 14 #[.val (.ref a1), .val (.ref a2), .val (.ref b5), .val (.int (0 : Int32))] [(.ref a2), (.int (0 : Int32)), (.ref b5)])) t → Steps p.tables e below (s₁.setTop (entryFrame m #[(.ref a1), (.ref a2), (.ref dd), (.int (0 : Int32))] 4)) t := fun t kt => go4 t (by
      refine st5.trans ?_
      show Steps p.tables e below (T5.setTop (mkF m 10 #[.val (.ref a1), .val (.ref a2), .val (.ref dd), .val (.int (0 : Int32))] [(.ref b5)])) _
      refine XS.astoreN X5.here hx rfl (hb hby d10_10) rfl rfl (l' := #[.val (.ref a1), .val (.ref a2), .val (.ref b5), .val (.int (0 : Int32))]) rfl ?_
      show Steps p.tables e below (T5.setTop (mkF m 11 #[.val (.ref a1), .val (.ref a2), .val (.ref b5), .val (.int (0 : Int32))] [])) _
      refine XS.aloadN X5.here hx rfl (hb hby d10_11) rfl rfl ?_
      show Steps p.tables e below (T5.setTop (mkF m 12 #[.val (.ref a1), .val (.ref a2), .val (.ref b5), .val (.int (0 : Int32))] [(.ref b5)])) _
      refine XS.iloadN X5.here hx rfl (hb hby d10_12) rfl ?_
      show Steps p.tables e below (T5.setTop (mkF m 13 #[.val (.ref a1), .val (.ref a2), .val (.ref b5), .val (.int (0 : Int32))] [(.int (0 : Int32)), (.ref b5)])) _
      refine XS.aloadN X5.here hx rfl (hb hby d10_13) rfl rfl ?_
      show Steps p.tables e below (T5.setTop (mkF m 14 #[.val (.ref a1), .val (.ref a2), .val (.ref b5), .val (.int (0 : Int32))] [(.ref a2), (.int (0 : Int32)), (.ref b5)])) _
      exact kt)
  have fq7 := (EX.keep K5)
  obtain ⟨c8, Ar8, q8, O8⟩ := id V5
  obtain ⟨T8, h8, X8, e8, W8, st8⟩ := stR X5 hx hZ rfl Ar8 (j := (0 : Int32)) (own_inb q8 (n := 10) rfl (by decide) (by decide)) rfl (Sto.of Ar8 O8 (Ins.of_exa fq7 (own_h hw 98 rfl))) (g := (mkF m 14 #[.val (.ref a1), .val (.ref a2), .val (.ref b5), .val (.int (0 : Int32))] [(.ref a2), (.int (0 : Int32)), (.ref b5)])) rfl rfl (hb hby d10_14)
  have V8 : own_AVO Z h8 b5 [(.ref a2), .null, .null, .null, .null, .null, .null, .null, .null, .null] := own_AVO.set Ar8 q8 O8 W8 (i := 0) (by decide) rfl
  obtain ⟨Ls8, X8, N8⟩ := own_loc X8 (Fr.snoc X8 N5 gb5)
  have go9 : ∀ t, Steps p.tables e below (T8.setTop (mkF m 19 #[.val (.ref a1), .val (.ref a2), .val (.ref b5), .val (.int (0 : Int32))] [(.int ((0 : Int32) + (1 : Int32))), (.ref a1)])) t → Steps p.tables e below (s₁.setTop (entryFrame m #[(.ref a1), (.ref a2), (.ref dd), (.int (0 : Int32))] 4)) t := fun t kt => go6 t (by
      refine st8 _ ?_
      show Steps p.tables e below (T8.setTop (mkF m 15 #[.val (.ref a1), .val (.ref a2), .val (.ref b5), .val (.int (0 : Int32))] [])) _
      refine XS.aloadN X8.here hx rfl (hb hby d10_15) rfl rfl ?_
      show Steps p.tables e below (T8.setTop (mkF m 16 #[.val (.ref a1), .val (.ref a2), .val (.ref b5), .val (.int (0 : Int32))] [(.ref a1)])) _
      refine XS.iloadN X8.here hx rfl (hb hby d10_16) rfl ?_
      show Steps p.tables e below (T8.setTop (mkF m 17 #[.val (.ref a1), .val (.ref a2), .val (.ref b5), .val (.int (0 : Int32))] [(.int (0 : Int32)), (.ref a1)])) _
      refine XS.iconst X8.here hx rfl (hb hby d10_17) ?_
      show Steps p.tables e below (T8.setTop (mkF m 18 #[.val (.ref a1), .val (.ref a2), .val (.ref b5), .val (.int (0 : Int32))] [(.int (1 : Int32)), (.int (0 : Int32)), (.ref a1)])) _
      refine XS.iadd X8.here hx rfl (hb hby d10_18) rfl ?_
      show Steps p.tables e below (T8.setTop (mkF m 19 #[.val (.ref a1), .val (.ref a2), .val (.ref b5), .val (.int (0 : Int32))] [(.int ((0 : Int32) + (1 : Int32))), (.ref a1)])) _
      exact kt)
  rw [show ((0 : Int32) + (1 : Int32)) = (1 : Int32) from by decide] at go9
  have fq10 := (PF2.other W8 (Or.inl ne_a1_b5))
  have fq11 := (PE.wr W8)
  obtain ⟨T12, h12, X12, e12, W12, st12⟩ := putF X8 hx hZ hown (host := "") (Or.inl (own_h hw 76 rfl)) Via.refl e8 fq10 fq11 (Or.inl (own_h hw 77 rfl)) (own_h hw 8 rfl) (ty := .int) (by decide) rfl rfl (g := (mkF m 19 #[.val (.ref a1), .val (.ref a2), .val (.ref b5), .val (.int (0 : Int32))] [(.int (1 : Int32)), (.ref a1)])) rfl rfl (hb hby d10_19)
  have Fw12 := fq10.same W12
  obtain ⟨Ls12, X12, N12⟩ := own_loc X12 (Fr.snoc X12 N8 ga)
  have go13 : ∀ t, Steps p.tables e below (T12.setTop (mkF m 22 #[.val (.ref a1), .val (.ref a2), .val (.ref b5), .val (.int (0 : Int32))] [])) t → Steps p.tables e below (s₁.setTop (entryFrame m #[(.ref a1), (.ref a2), (.ref dd), (.int (0 : Int32))] 4)) t := fun t kt => go9 t (by
      refine st12 _ ?_
      show Steps p.tables e below (T12.setTop (mkF m 22 #[.val (.ref a1), .val (.ref a2), .val (.ref b5), .val (.int (0 : Int32))] [])) _
      exact kt)
  obtain ⟨fs, hr, hrun, hended, hW, hsame⟩ := X12.leave (v := none) (fun _ => rfl)
  refine ⟨_, _, go13 _ (X12.returnOut hx Bd.returns (hb hby d10_22) hr), hrun, hended, _, _, rfl, ?_, ⟨_, rfl⟩, hW, hsame.mono (by decide) (by decide)⟩
  show own_QA _ _ _ _ _ _ _ _ T12.heap _
  rw [e12]
  have kp14 := ((Keep.refl h0 [a1]).trans K5 (allS (Or.inl (List.mem_of_getElem? (i := 0) rfl)) all0))
  have kp15 := (kp14.wr W8 (Or.inr sz5))
  have fq16 := (fq11.wr W12)
  have fq17 := ((PF1.other W8 (Or.inl ne_a1_b5)).other W12 (Or.inr (slot_ne (Or.inl (own_h hw 32 rfl)) (Or.inl (own_h hw 77 rfl)) (by decide) (t := (.array (.object "java/lang/Object"))) (t' := .int) (by decide) (by decide))))
  have fq18 := ((PF3.other W8 (Or.inl ne_a1_b5)).other W12 (Or.inr (slot_ne (Or.inl (own_h hw 29 rfl)) (Or.inl (own_h hw 77 rfl)) (by decide) (t := .int) (t' := .int) (by decide) (by decide))))
  have fq19 := (V8.other W12 (Ne.symm ne_a1_b5))
  exact ⟨b5, rfl, N12, (kp15.wr W12 (Or.inl (List.mem_of_getElem? (i := 0) rfl))), ⟨fq16, fq17, Fw12, fq18⟩, sz5, fq19⟩
abbrev own_m8 : MethodName := ⟨"java/util/ArrayList", "add", "(Ljava/lang/Object;[Ljava/lang/Object;I)V"⟩
theorem d9_0 : decode jdk_38_method_25_code 0 = .ok (.aload_n 0, 1) := by decide +kernel
theorem d9_1 : decode jdk_38_method_25_code 1 = .ok (.dup, 1) := by decide +kernel
theorem d9_2 : decode jdk_38_method_25_code 2 = .ok (.getfield 63, 3) := by decide +kernel
theorem d9_5 : decode jdk_38_method_25_code 5 = .ok (.iconst 1, 1) := by decide +kernel
theorem d9_6 : decode jdk_38_method_25_code 6 = .ok (.iadd, 1) := by decide +kernel
theorem d9_7 : decode jdk_38_method_25_code 7 = .ok (.putfield 63, 3) := by decide +kernel
theorem d9_10 : decode jdk_38_method_25_code 10 = .ok (.aload_n 0, 1) := by decide +kernel
theorem d9_11 : decode jdk_38_method_25_code 11 = .ok (.aload_n 1, 1) := by decide +kernel
theorem d9_12 : decode jdk_38_method_25_code 12 = .ok (.aload_n 0, 1) := by decide +kernel
theorem d9_13 : decode jdk_38_method_25_code 13 = .ok (.getfield 9, 3) := by decide +kernel
theorem d9_16 : decode jdk_38_method_25_code 16 = .ok (.aload_n 0, 1) := by decide +kernel
theorem d9_17 : decode jdk_38_method_25_code 17 = .ok (.getfield 48, 3) := by decide +kernel
theorem d9_20 : decode jdk_38_method_25_code 20 = .ok (.invokevirtual 131, 3) := by decide +kernel
theorem d9_23 : decode jdk_38_method_25_code 23 = .ok (.iconst 1, 1) := by decide +kernel
theorem d9_24 : decode jdk_38_method_25_code 24 = .ok (.ireturn, 1) := by decide +kernel
theorem pn_9 : plainName "java/util/ArrayList" = true := by first | (simp [plainName, overriddenIn]; done) | decide +kernel
theorem ef_rmA0 (m : MethodId) (a1 : Addr) (a2 : Addr) : entryFrame m #[(.ref a1), (.ref a2)] 2 = mkF m 0 #[.val (.ref a1), .val (.ref a2)] [] := by first | (simp [entryFrame, mkF, argsToLocals, Value.category]; done) | rfl
set_option maxRecDepth 65536 in
set_option maxHeartbeats 40000000 in
theorem rmA0 (l : Launch) (Z : State) (a0 : Array Value) (hw : ∀ d ∈ tables_1, d.before a0 Z = true) (ws : List Jvm.Cond) (a1 a2 dd : Addr) (mc : Int32) (h0 : Heap) (n0 : Nat) (ST : Sta Z h0 "java/util/ArrayList" "DEFAULTCAPACITY_EMPTY_ELEMENTDATA" "[Ljava/lang/Object;" (.ref dd)) (DV : own_AV Z h0 dd (.object "java/lang/Object") []) (nd : dd ≠ a1) (Z0 : n0 ≤ h0.size) (LO : own_LO Z h0 a1 (.ref dd) 0 mc) (ga : n0 ≤ a1) (EX : Exa Z h0 a2 "com/example/invariant_ink/invariantink/lang/Local") :
    MetFree l (⟨"java/util/ArrayList", "add", "(Ljava/lang/Object;)Z"⟩ : MethodName) (head1 (Jvm.Cond.code (⟨"java/util/ArrayList", "add", "(Ljava/lang/Object;)Z"⟩ : MethodName) jdk_38_method_25_code 2 (some .boolean) :: ws) ({ frames := 4, cells := 1, slots := 10, locals := 56 } : Room)) (fun a U => a = #[(.ref a1), (.ref a2)] ∧ Z.Warmed39 U.vm ∧ U.heap = h0) (fun _ _ _ _ _ => True) (fun _ U o U' => ∃ v L, o = .returned v ∧ own_QA (some (.int 1)) Z a1 a2 (mc + 1) h0 n0 v U'.heap L ∧ FrameEnd U o U' L ({ frames := 4, cells := 1, slots := 10, locals := 56 } : Room).cells ({ frames := 4, cells := 1, slots := 10, locals := 56 } : Room).slots) := by
  refine MetFree.of_bodySF (plainFor_of_name pn_9) hisR ?_
  intro p e s m args below meth c s₁ Bd hml0 hP hK
  obtain ⟨rfl, hZ, hh⟩ := hP
  have hx := Bd.exec
  have hby := Bd.bytes
  have hml : c.maxLocals = 2 := hml0
  have hown : s.vm.findClass "java/util/ArrayList" = some m.cls := findClass_of_methodNamed Bd.named
  have hnm := (name_of_methodNamed Bd.named Bd.method).1
  have X0 : Stand p l e ({ frames := 4, cells := 1, slots := 10, locals := 56 } : Room) s m #[(.ref a1), (.ref a2)] below meth c s₁ [] 0 0 := Stand.of_body Bd
  have e0 : s₁.heap = h0 := by rw [← hh, Bd.state]; rfl
  have N0 := Fr.nil n0
  have go0 : ∀ t, Steps p.tables e below (s₁.setTop (mkF m 0 #[.val (.ref a1), .val (.ref a2)] [])) t → Steps p.tables e below (s₁.setTop (entryFrame m #[(.ref a1), (.ref a2)] 2)) t := fun t k => castTop (ef_rmA0 m a1 a2) k
  obtain ⟨OE, OF1, OF2, OF3⟩ := id LO
  have nx : a2 ≠ a1 := Exa.ne EX OE (by decide)
  have go1 : ∀ t, Steps p.tables e below (s₁.setTop (mkF m 2 #[.val (.ref a1), .val (.ref a2)] [(.ref a1), (.ref a1)])) t → Steps p.tables e below (s₁.setTop (entryFrame m #[(.ref a1), (.ref a2)] 2)) t := fun t kt => go0 t (by
      refine XS.aloadN X0.here hx rfl (hb hby d9_0) rfl rfl ?_
      show Steps p.tables e below (s₁.setTop (mkF m 1 #[.val (.ref a1), .val (.ref a2)] [(.ref a1)])) _
      refine XS.dup X0.here hx rfl (hb hby d9_1) rfl rfl ?_
      show Steps p.tables e below (s₁.setTop (mkF m 2 #[.val (.ref a1), .val (.ref a2)] [(.ref a1), (.ref a1)])) _
      exact kt)
  obtain ⟨T2, X2, e2, st2⟩ := getF X0 hx hZ hown (host := "") (Or.inl (own_h hw 74 rfl)) (Via.of (own_h hw 75 rfl)) e0 OF3 (g := (mkF m 2 #[.val (.ref a1), .val (.ref a2)] [(.ref a1), (.ref a1)])) rfl rfl (hb hby d9_2)
  have go3 : ∀ t, Steps p.tables e below (T2.setTop (mkF m 7 #[.val (.ref a1), .val (.ref a2)] [(.int (mc + (1 : Int32))), (.ref a1)])) t → Steps p.tables e below (s₁.setTop (entryFrame m #[(.ref a1), (.ref a2)] 2)) t := fun t kt => go1 t (by
      refine st2 _ ?_
      show Steps p.tables e below (T2.setTop (mkF m 5 #[.val (.ref a1), .val (.ref a2)] [(.int mc), (.ref a1)])) _
      refine XS.iconst X2.here hx rfl (hb hby d9_5) ?_
      show Steps p.tables e below (T2.setTop (mkF m 6 #[.val (.ref a1), .val (.ref a2)] [(.int (1 : Int32)), (.int mc), (.ref a1)])) _
      refine XS.iadd X2.here hx rfl (hb hby d9_6) rfl ?_
      show Steps p.tables e below (T2.setTop (mkF m 7 #[.val (.ref a1), .val (.ref a2)] [(.int (mc + (1 : Int32))), (.ref a1)])) _
      exact kt)
  obtain ⟨T4, h4, X4, e4, W4, st4⟩ := putF X2 hx hZ hown (host := "") (Or.inl (own_h hw 74 rfl)) (Via.of (own_h hw 75 rfl)) e2 OF3 OE (Or.inl (own_h hw 29 rfl)) (own_h hw 8 rfl) (ty := .int) (by decide) rfl rfl (g := (mkF m 7 #[.val (.ref a1), .val (.ref a2)] [(.int (mc + (1 : Int32))), (.ref a1)])) rfl rfl (hb hby d9_7)
  have Fw4 := OF3.same W4
  obtain ⟨Ls4, X4, N4⟩ := own_loc X4 (Fr.snoc X4 N0 ga)
  have go5 : ∀ t, Steps p.tables e below (T4.setTop (mkF m 13 #[.val (.ref a1), .val (.ref a2)] [(.ref a1), (.ref a2), (.ref a1)])) t → Steps p.tables e below (s₁.setTop (entryFrame m #[(.ref a1), (.ref a2)] 2)) t := fun t kt => go3 t (by
      refine st4 _ ?_
      show Steps p.tables e below (T4.setTop (mkF m 10 #[.val (.ref a1), .val (.ref a2)] [])) _
      refine XS.aloadN X4.here hx rfl (hb hby d9_10) rfl rfl ?_
      show Steps p.tables e below (T4.setTop (mkF m 11 #[.val (.ref a1), .val (.ref a2)] [(.ref a1)])) _
      refine XS.aloadN X4.here hx rfl (hb hby d9_11) rfl rfl ?_
      show Steps p.tables e below (T4.setTop (mkF m 12 #[.val (.ref a1), .val (.ref a2)] [(.ref a2), (.ref a1)])) _
      refine XS.aloadN X4.here hx rfl (hb hby d9_12) rfl rfl ?_
      show Steps p.tables e below (T4.setTop (mkF m 13 #[.val (.ref a1), .val (.ref a2)] [(.ref a1), (.ref a2), (.ref a1)])) _
      exact kt)
  have fq6 := (OF1.other W4 (Or.inr (slot_ne (Or.inl (own_h hw 32 rfl)) (Or.inl (own_h hw 29 rfl)) (by decide) (t := (.array (.object "java/lang/Object"))) (t' := .int) (by decide) (by decide))))
  obtain ⟨T7, X7, e7, st7⟩ := getF X4 hx hZ hown (host := "") (Or.inl (own_h hw 31 rfl)) Via.refl e4 fq6 (g := (mkF m 13 #[.val (.ref a1), .val (.ref a2)] [(.ref a1), (.ref a2), (.ref a1)])) rfl rfl (hb hby d9_13)
  have go8 : ∀ t, Steps p.tables e below (T7.setTop (mkF m 17 #[.val (.ref a1), .val (.ref a2)] [(.ref a1), (.ref dd), (.ref a2), (.ref a1)])) t → Steps p.tables e below (s₁.setTop (entryFrame m #[(.ref a1), (.ref a2)] 2)) t := fun t kt => go5 t (by
      refine st7 _ ?_
      show Steps p.tables e below (T7.setTop (mkF m 16 #[.val (.ref a1), .val (.ref a2)] [(.ref dd), (.ref a2), (.ref a1)])) _
      refine XS.aloadN X7.here hx rfl (hb hby d9_16) rfl rfl ?_
      show Steps p.tables e below (T7.setTop (mkF m 17 #[.val (.ref a1), .val (.ref a2)] [(.ref a1), (.ref dd), (.ref a2), (.ref a1)])) _
      exact kt)
  have fq9 := (OF2.other W4 (Or.inr (slot_ne (Or.inl (own_h hw 77 rfl)) (Or.inl (own_h hw 29 rfl)) (by decide) (t := .int) (t' := .int) (by decide) (by decide))))
  obtain ⟨T10, X10, e10, st10⟩ := getF X7 hx hZ hown (host := "") (Or.inl (own_h hw 76 rfl)) Via.refl e7 fq9 (g := (mkF m 17 #[.val (.ref a1), .val (.ref a2)] [(.ref a1), (.ref dd), (.ref a2), (.ref a1)])) rfl rfl (hb hby d9_17)
  have go11 : ∀ t, Steps p.tables e below (T10.setTop (mkF m 20 #[.val (.ref a1), .val (.ref a2)] [(.int (0 : Int32)), (.ref dd), (.ref a2), (.ref a1)])) t → Steps p.tables e below (s₁.setTop (entryFrame m #[(.ref a1), (.ref a2)] 2)) t := fun t kt => go8 t (by
      refine st10 _ ?_
      show Steps p.tables e below (T10.setTop (mkF m 20 #[.val (.ref a1), .val (.ref a2)] [(.int (0 : Int32)), (.ref dd), (.ref a2), (.ref a1)])) _
      exact kt)
  have fq13 := (OE.wr W4)
  have LOq : own_LO Z h4 a1 (.ref dd) 0 (mc + (1 : Int32)) := ⟨fq13, fq6, fq9, Fw4⟩
  have fq14 := (ST.wr W4)
  have fq15 := (DV.other W4 nd)
  have zs16 := (Nat.le_trans Z0 (Keep.of_wr W4).1)
  have fq17 := (EX.wr W4)
  obtain ⟨cq12, q12, q12'⟩ := fq13.cell
  obtain ⟨_, _, ⟨T12, L12, k12, n12⟩, -, X12, ⟨Lc12, hQ12, l12, y12, z12⟩, st12⟩ := X10.privateBack hx (y := own_m8) hown (mvT hZ (own_h hw 78 rfl)) (mvT hZ (own_h hw 79 rfl)) (mvT hZ (own_h hw 81 rfl)) (Cond.privateMethod_at (mvP hZ (own_h hw 80 rfl) (args := #[]))) (mvT hZ (own_h hw 82 rfl)) (by decide) (backOf (W := 0) (rmH0 l Z a0 hw [] a1 a2 dd (mc + (1 : Int32)) h4 n0 fq14 fq15 nd zs16 LOq ga fq17) hZ (own_h hw 82 rfl) (own_h hw 9 rfl) (by decide) (by decide)) (g := (mkF m 20 #[.val (.ref a1), .val (.ref a2)] [(.int (0 : Int32)), (.ref dd), (.ref a2), (.ref a1)])) rfl (by rw [hml]; rfl) (Steps.refl _) (a := a1) (by rw [e10]; exact q12) q12' (argsL := [(.ref a2), (.ref dd), (.int (0 : Int32))]) (rest := []) (lenOf pd_5 rfl) rfl (by show 2 * 0 + _ ≤ _; exact Nat.le_of_eq rfl) (hb hby d9_20) (fun _ _ => ⟨rfl, e10, (by decide : 0 + 1 ≤ _), (by decide : 0 + 10 ≤ _)⟩)
  dsimp only [Pt.U, Pt.locs, Pt.cells, Pt.slots] at X12 l12 y12 z12 st12 hQ12
  subst y12 z12
  have ks18 := Nat.le_trans (Nat.le_refl _) (Keep.of_wr W4).1
  obtain ⟨b12, rfl, N12q, K12, LO12, sz12, V12⟩ := hQ12
  have N12 := Fr.app N4 N12q
  rw [← l12] at N12
  have go19 : ∀ t, Steps p.tables e below (T12.setTop (mkF m 24 #[.val (.ref a1), .val (.ref a2)] [(.int (1 : Int32))])) t → Steps p.tables e below (s₁.setTop (entryFrame m #[(.ref a1), (.ref a2)] 2)) t := fun t kt => go11 t (by
      refine st12.trans ?_
      show Steps p.tables e below (T12.setTop (mkF m 23 #[.val (.ref a1), .val (.ref a2)] [])) _
      refine XS.iconst X12.here hx rfl (hb hby d9_23) ?_
      show Steps p.tables e below (T12.setTop (mkF m 24 #[.val (.ref a1), .val (.ref a2)] [(.int (1 : Int32))])) _
      exact kt)
  obtain ⟨fs, hr, hrun, hended, hW, hsame⟩ := X12.leave (v := some (.int (1 : Int32))) (fun h => by rw [Bd.returns] at h; cases h)
  refine ⟨_, _, go19 _ (retN X12 hx (t := .boolean) Bd.returns (by simp) (hb hby d9_24) hr), hrun, hended, _, _, rfl, ?_, ⟨_, rfl⟩, hW, hsame.mono (by decide) (by decide)⟩
  have kp20 := ((Keep.refl h0 [a1]).wr W4 (Or.inl (List.mem_of_getElem? (i := 0) rfl)))
  exact ⟨b12, rfl, N12, (kp20.trans K12 (allS (Or.inl (List.mem_of_getElem? (i := 0) rfl)) all0)), LO12, Nat.le_trans ks18 sz12, V12⟩
theorem ef_rmH1 (m : MethodId) (a1 : Addr) (a2 : Addr) (ea : Addr) : entryFrame m #[(.ref a1), (.ref a2), (.ref ea), (.int (1 : Int32))] 4 = mkF m 0 #[.val (.ref a1), .val (.ref a2), .val (.ref ea), .val (.int (1 : Int32))] [] := by first | (simp [entryFrame, mkF, argsToLocals, Value.category]; done) | rfl
set_option maxRecDepth 65536 in
set_option maxHeartbeats 40000000 in
theorem rmH1 (l : Launch) (Z : State) (a0 : Array Value) (hw : ∀ d ∈ tables_1, d.before a0 Z = true) (ws : List Jvm.Cond) (a1 a2 ea : Addr) (mc : Int32) (y0 : Addr) (h0 : Heap) (n0 : Nat) (Z0 : n0 ≤ h0.size) (LO : own_LO Z h0 a1 (.ref ea) 1 mc) (EV0 : own_AVO Z h0 ea [(.ref y0), .null, .null, .null, .null, .null, .null, .null, .null, .null]) (ga : n0 ≤ a1) (ge : n0 ≤ ea) (EX : Exa Z h0 a2 "com/example/invariant_ink/invariantink/lang/Local") :
    MetFree l (⟨"java/util/ArrayList", "add", "(Ljava/lang/Object;[Ljava/lang/Object;I)V"⟩ : MethodName) (head1 (Jvm.Cond.code (⟨"java/util/ArrayList", "add", "(Ljava/lang/Object;[Ljava/lang/Object;I)V"⟩ : MethodName) jdk_38_method_24_code 4 none :: ws) ({ frames := 0, cells := 0, slots := 0, locals := 0 } : Room)) (fun a U => a = #[(.ref a1), (.ref a2), (.ref ea), (.int (1 : Int32))] ∧ Z.Warmed39 U.vm ∧ U.heap = h0) (fun _ _ _ _ _ => True) (fun _ U o U' => ∃ v L, o = .returned v ∧ own_QK none Z a1 ea 2 mc [(.ref y0), (.ref a2), .null, .null, .null, .null, .null, .null, .null, .null] h0 n0 v U'.heap L ∧ FrameEnd U o U' L ({ frames := 0, cells := 0, slots := 0, locals := 0 } : Room).cells ({ frames := 0, cells := 0, slots := 0, locals := 0 } : Room).slots) := by
  refine MetFree.of_bodySF (plainFor_of_name pn_10) hisR ?_
  intro p e s m args below meth c s₁ Bd hml0 hP hK
  obtain ⟨rfl, hZ, hh⟩ := hP
  have hx := Bd.exec
  have hby := Bd.bytes
  have hml : c.maxLocals = 4 := hml0
  have hown : s.vm.findClass "java/util/ArrayList" = some m.cls := findClass_of_methodNamed Bd.named
  have hnm := (name_of_methodNamed Bd.named Bd.method).1
  have X0 : Stand p l e ({ frames := 0, cells := 0, slots := 0, locals := 0 } : Room) s m #[(.ref a1), (.ref a2), (.ref ea), (.int (1 : Int32))] below meth c s₁ [] 0 0 := Stand.of_body Bd
  have e0 : s₁.heap = h0 := by rw [← hh, Bd.state]; rfl
  have N0 := Fr.nil n0
  have go0 : ∀ t, Steps p.tables e below (s₁.setTop (mkF m 0 #[.val (.ref a1), .val (.ref a2), .val (.ref ea), .val (.int (1 : Int32))] [])) t → Steps p.tables e below (s₁.setTop (entryFrame m #[(.ref a1), (.ref a2), (.ref ea), (.int (1 : Int32))] 4)) t := fun t k => castTop (ef_rmH1 m a1 a2 ea) k
  obtain ⟨OE, OF1, OF2, OF3⟩ := id LO
  have nx : a2 ≠ a1 := Exa.ne EX OE (by decide)
  have n1 : a1 ≠ ea := by obtain ⟨_, A, _⟩ := EV0; exact ne_arr OE (own_h hw 8 rfl) A
  have n2 : a2 ≠ ea := by obtain ⟨_, A, _⟩ := EV0; exact ne_arr EX (own_h hw 34 rfl) A
  have go1 : ∀ t, Steps p.tables e below (s₁.setTop (mkF m 2 #[.val (.ref a1), .val (.ref a2), .val (.ref ea), .val (.int (1 : Int32))] [(.ref ea), (.int (1 : Int32))])) t → Steps p.tables e below (s₁.setTop (entryFrame m #[(.ref a1), (.ref a2), (.ref ea), (.int (1 : Int32))] 4)) t := fun t kt => go0 t (by
      refine XS.iloadN X0.here hx rfl (hb hby d10_0) rfl ?_
      show Steps p.tables e below (s₁.setTop (mkF m 1 #[.val (.ref a1), .val (.ref a2), .val (.ref ea), .val (.int (1 : Int32))] [(.int (1 : Int32))])) _
      refine XS.aloadN X0.here hx rfl (hb hby d10_1) rfl rfl ?_
      show Steps p.tables e below (s₁.setTop (mkF m 2 #[.val (.ref a1), .val (.ref a2), .val (.ref ea), .val (.int (1 : Int32))] [(.ref ea), (.int (1 : Int32))])) _
      exact kt)
  obtain ⟨c2, Ar2, q2, -⟩ := id EV0
  have hc3_3 : ¬ ((1 : Int32) = (10 : Int32)) := (by decide)
  have go4 : ∀ t, Steps p.tables e below (s₁.setTop (mkF m 14 #[.val (.ref a1), .val (.ref a2), .val (.ref ea), .val (.int (1 : Int32))] [(.ref a2), (.int (1 : Int32)), (.ref ea)])) t → Steps p.tables e below (s₁.setTop (entryFrame m #[(.ref a1), (.ref a2), (.ref ea), (.int (1 : Int32))] 4)) t := fun t kt => go1 t (by
      refine X0.arraylength hx (by rw [e0]; exact Ar2.1) (State.isArrayOf_alike hZ.alike Ar2.2.1) (g := (mkF m 2 #[.val (.ref a1), .val (.ref a2), .val (.ref ea), .val (.int (1 : Int32))] [(.ref ea), (.int (1 : Int32))])) rfl rfl (hb hby d10_2) _ ?_
      rw [own_len q2 (n := (10 : Int32)) rfl]
      show Steps p.tables e below (s₁.setTop (mkF m 3 #[.val (.ref a1), .val (.ref a2), .val (.ref ea), .val (.int (1 : Int32))] [(.int (10 : Int32)), (.int (1 : Int32))])) _
      refine XS.icmpYes X0.here hx rfl (pc0 := 3) (pc' := 11) rfl (hb hby d10_3) rfl (feq hc3_3).2 (by decide) (by decide) ?_
      show Steps p.tables e below (s₁.setTop (mkF m 11 #[.val (.ref a1), .val (.ref a2), .val (.ref ea), .val (.int (1 : Int32))] [])) _
      refine XS.aloadN X0.here hx rfl (hb hby d10_11) rfl rfl ?_
      show Steps p.tables e below (s₁.setTop (mkF m 12 #[.val (.ref a1), .val (.ref a2), .val (.ref ea), .val (.int (1 : Int32))] [(.ref ea)])) _
      refine XS.iloadN X0.here hx rfl (hb hby d10_12) rfl ?_
      show Steps p.tables e below (s₁.setTop (mkF m 13 #[.val (.ref a1), .val (.ref a2), .val (.ref ea), .val (.int (1 : Int32))] [(.int (1 : Int32)), (.ref ea)])) _
      refine XS.aloadN X0.here hx rfl (hb hby d10_13) rfl rfl ?_
      show Steps p.tables e below (s₁.setTop (mkF m 14 #[.val (.ref a1), .val (.ref a2), .val (.ref ea), .val (.int (1 : Int32))] [(.ref a2), (.int (1 : Int32)), (.ref ea)])) _
      exact kt)
  obtain ⟨c5, Ar5, q5, O5⟩ := id EV0
  obtain ⟨T5, h5, X5, e5, W5, st5⟩ := stR X0 hx hZ e0 Ar5 (j := (1 : Int32)) (own_inb q5 (n := 10) rfl (by decide) (by decide)) rfl (Sto.of Ar5 O5 (Ins.of_exa EX (own_h hw 98 rfl))) (g := (mkF m 14 #[.val (.ref a1), .val (.ref a2), .val (.ref ea), .val (.int (1 : Int32))] [(.ref a2), (.int (1 : Int32)), (.ref ea)])) rfl rfl (hb hby d10_14)
  have V5 : own_AVO Z h5 ea [(.ref y0), (.ref a2), .null, .null, .null, .null, .null, .null, .null, .null] := own_AVO.set Ar5 q5 O5 W5 (i := 1) (by decide) rfl
  obtain ⟨Ls5, X5, N5⟩ := own_loc X5 (Fr.snoc X5 N0 ge)
  have go6 : ∀ t, Steps p.tables e below (T5.setTop (mkF m 19 #[.val (.ref a1), .val (.ref a2), .val (.ref ea), .val (.int (1 : Int32))] [(.int ((1 : Int32) + (1 : Int32))), (.ref a1)])) t → Steps p.tables e below (s₁.setTop (entryFrame m #[(.ref a1), (.ref a2), (.ref ea), (.int (1 : Int32))] 4)) t := fun t kt => go4 t (by
      refine st5 _ ?_
      show Steps p.tables e below (T5.setTop (mkF m 15 #[.val (.ref a1), .val (.ref a2), .val (.ref ea), .val (.int (1 : Int32))] [])) _
      refine XS.aloadN X5.here hx rfl (hb hby d10_15) rfl rfl ?_
      show Steps p.tables e below (T5.setTop (mkF m 16 #[.val (.ref a1), .val (.ref a2), .val (.ref ea), .val (.int (1 : Int32))] [(.ref a1)])) _
      refine XS.iloadN X5.here hx rfl (hb hby d10_16) rfl ?_
      show Steps p.tables e below (T5.setTop (mkF m 17 #[.val (.ref a1), .val (.ref a2), .val (.ref ea), .val (.int (1 : Int32))] [(.int (1 : Int32)), (.ref a1)])) _
      refine XS.iconst X5.here hx rfl (hb hby d10_17) ?_
      show Steps p.tables e below (T5.setTop (mkF m 18 #[.val (.ref a1), .val (.ref a2), .val (.ref ea), .val (.int (1 : Int32))] [(.int (1 : Int32)), (.int (1 : Int32)), (.ref a1)])) _
      refine XS.iadd X5.here hx rfl (hb hby d10_18) rfl ?_
      show Steps p.tables e below (T5.setTop (mkF m 19 #[.val (.ref a1), .val (.ref a2), .val (.ref ea), .val (.int (1 : Int32))] [(.int ((1 : Int32) + (1 : Int32))), (.ref a1)])) _
      exact kt)
  rw [show ((1 : Int32) + (1 : Int32)) = (2 : Int32) from by decide] at go6
  have fq7 := (OF2.other W5 (Or.inl n1))
  have fq8 := (OE.wr W5)
  obtain ⟨T9, h9, X9, e9, W9, st9⟩ := putF X5 hx hZ hown (host := "") (Or.inl (own_h hw 76 rfl)) Via.refl e5 fq7 fq8 (Or.inl (own_h hw 77 rfl)) (own_h hw 8 rfl) (ty := .int) (by decide) rfl rfl (g := (mkF m 19 #[.val (.ref a1), .val (.ref a2), .val (.ref ea), .val (.int (1 : Int32))] [(.int (2 : Int32)), (.ref a1)])) rfl rfl (hb hby d10_19)
  have Fw9 := fq7.same W9
  obtain ⟨Ls9, X9, N9⟩ := own_loc X9 (Fr.snoc X9 N5 ga)
  have go10 : ∀ t, Steps p.tables e below (T9.setTop (mkF m 22 #[.val (.ref a1), .val (.ref a2), .val (.ref ea), .val (.int (1 : Int32))] [])) t → Steps p.tables e below (s₁.setTop (entryFrame m #[(.ref a1), (.ref a2), (.ref ea), (.int (1 : Int32))] 4)) t := fun t kt => go6 t (by
      refine st9 _ ?_
      show Steps p.tables e below (T9.setTop (mkF m 22 #[.val (.ref a1), .val (.ref a2), .val (.ref ea), .val (.int (1 : Int32))] [])) _
      exact kt)
  obtain ⟨fs, hr, hrun, hended, hW, hsame⟩ := X9.leave (v := none) (fun _ => rfl)
  refine ⟨_, _, go10 _ (X9.returnOut hx Bd.returns (hb hby d10_22) hr), hrun, hended, _, _, rfl, ?_, ⟨_, rfl⟩, hW, hsame.mono (by decide) (by decide)⟩
  show own_QK _ _ _ _ _ _ _ _ _ _ T9.heap _
  rw [e9]
  have kp11 := ((Keep.refl h0 [a1, ea]).wr W5 (Or.inl (List.mem_of_getElem? (i := 1) rfl)))
  have fq12 := (fq8.wr W9)
  have fq13 := ((OF1.other W5 (Or.inl n1)).other W9 (Or.inr (slot_ne (Or.inl (own_h hw 32 rfl)) (Or.inl (own_h hw 77 rfl)) (by decide) (t := (.array (.object "java/lang/Object"))) (t' := .int) (by decide) (by decide))))
  have fq14 := ((OF3.other W5 (Or.inl n1)).other W9 (Or.inr (slot_ne (Or.inl (own_h hw 29 rfl)) (Or.inl (own_h hw 77 rfl)) (by decide) (t := .int) (t' := .int) (by decide) (by decide))))
  have fq15 := (V5.other W9 (Ne.symm n1))
  exact ⟨rfl, N9, (kp11.wr W9 (Or.inl (List.mem_of_getElem? (i := 0) rfl))), ⟨fq12, fq13, Fw9, fq14⟩, fq15⟩
theorem ef_rmA1 (m : MethodId) (a1 : Addr) (a2 : Addr) : entryFrame m #[(.ref a1), (.ref a2)] 2 = mkF m 0 #[.val (.ref a1), .val (.ref a2)] [] := by first | (simp [entryFrame, mkF, argsToLocals, Value.category]; done) | rfl
set_option maxRecDepth 65536 in
set_option maxHeartbeats 40000000 in
theorem rmA1 (l : Launch) (Z : State) (a0 : Array Value) (hw : ∀ d ∈ tables_1, d.before a0 Z = true) (ws : List Jvm.Cond) (a1 a2 ea : Addr) (mc : Int32) (y0 : Addr) (h0 : Heap) (n0 : Nat) (Z0 : n0 ≤ h0.size) (LO : own_LO Z h0 a1 (.ref ea) 1 mc) (EV0 : own_AVO Z h0 ea [(.ref y0), .null, .null, .null, .null, .null, .null, .null, .null, .null]) (ga : n0 ≤ a1) (ge : n0 ≤ ea) (EX : Exa Z h0 a2 "com/example/invariant_ink/invariantink/lang/Local") :
    MetFree l (⟨"java/util/ArrayList", "add", "(Ljava/lang/Object;)Z"⟩ : MethodName) (head1 (Jvm.Cond.code (⟨"java/util/ArrayList", "add", "(Ljava/lang/Object;)Z"⟩ : MethodName) jdk_38_method_25_code 2 (some .boolean) :: ws) ({ frames := 1, cells := 0, slots := 0, locals := 15 } : Room)) (fun a U => a = #[(.ref a1), (.ref a2)] ∧ Z.Warmed39 U.vm ∧ U.heap = h0) (fun _ _ _ _ _ => True) (fun _ U o U' => ∃ v L, o = .returned v ∧ own_QK (some (.int 1)) Z a1 ea 2 (mc + 1) [(.ref y0), (.ref a2), .null, .null, .null, .null, .null, .null, .null, .null] h0 n0 v U'.heap L ∧ FrameEnd U o U' L ({ frames := 1, cells := 0, slots := 0, locals := 15 } : Room).cells ({ frames := 1, cells := 0, slots := 0, locals := 15 } : Room).slots) := by
  refine MetFree.of_bodySF (plainFor_of_name pn_9) hisR ?_
  intro p e s m args below meth c s₁ Bd hml0 hP hK
  obtain ⟨rfl, hZ, hh⟩ := hP
  have hx := Bd.exec
  have hby := Bd.bytes
  have hml : c.maxLocals = 2 := hml0
  have hown : s.vm.findClass "java/util/ArrayList" = some m.cls := findClass_of_methodNamed Bd.named
  have hnm := (name_of_methodNamed Bd.named Bd.method).1
  have X0 : Stand p l e ({ frames := 1, cells := 0, slots := 0, locals := 15 } : Room) s m #[(.ref a1), (.ref a2)] below meth c s₁ [] 0 0 := Stand.of_body Bd
  have e0 : s₁.heap = h0 := by rw [← hh, Bd.state]; rfl
  have N0 := Fr.nil n0
  have go0 : ∀ t, Steps p.tables e below (s₁.setTop (mkF m 0 #[.val (.ref a1), .val (.ref a2)] [])) t → Steps p.tables e below (s₁.setTop (entryFrame m #[(.ref a1), (.ref a2)] 2)) t := fun t k => castTop (ef_rmA1 m a1 a2) k
  obtain ⟨OE, OF1, OF2, OF3⟩ := id LO
  have nx : a2 ≠ a1 := Exa.ne EX OE (by decide)
  have n1 : a1 ≠ ea := by obtain ⟨_, A, _⟩ := EV0; exact ne_arr OE (own_h hw 8 rfl) A
  have n2 : a2 ≠ ea := by obtain ⟨_, A, _⟩ := EV0; exact ne_arr EX (own_h hw 34 rfl) A
  have go1 : ∀ t, Steps p.tables e below (s₁.setTop (mkF m 2 #[.val (.ref a1), .val (.ref a2)] [(.ref a1), (.ref a1)])) t → Steps p.tables e below (s₁.setTop (entryFrame m #[(.ref a1), (.ref a2)] 2)) t := fun t kt => go0 t (by
      refine XS.aloadN X0.here hx rfl (hb hby d9_0) rfl rfl ?_
      show Steps p.tables e below (s₁.setTop (mkF m 1 #[.val (.ref a1), .val (.ref a2)] [(.ref a1)])) _
      refine XS.dup X0.here hx rfl (hb hby d9_1) rfl rfl ?_
      show Steps p.tables e below (s₁.setTop (mkF m 2 #[.val (.ref a1), .val (.ref a2)] [(.ref a1), (.ref a1)])) _
      exact kt)
  obtain ⟨T2, X2, e2, st2⟩ := getF X0 hx hZ hown (host := "") (Or.inl (own_h hw 74 rfl)) (Via.of (own_h hw 75 rfl)) e0 OF3 (g := (mkF m 2 #[.val (.ref a1), .val (.ref a2)] [(.ref a1), (.ref a1)])) rfl rfl (hb hby d9_2)
  have go3 : ∀ t, Steps p.tables e below (T2.setTop (mkF m 7 #[.val (.ref a1), .val (.ref a2)] [(.int (mc + (1 : Int32))), (.ref a1)])) t → Steps p.tables e below (s₁.setTop (entryFrame m #[(.ref a1), (.ref a2)] 2)) t := fun t kt => go1 t (by
      refine st2 _ ?_
      show Steps p.tables e below (T2.setTop (mkF m 5 #[.val (.ref a1), .val (.ref a2)] [(.int mc), (.ref a1)])) _
      refine XS.iconst X2.here hx rfl (hb hby d9_5) ?_
      show Steps p.tables e below (T2.setTop (mkF m 6 #[.val (.ref a1), .val (.ref a2)] [(.int (1 : Int32)), (.int mc), (.ref a1)])) _
      refine XS.iadd X2.here hx rfl (hb hby d9_6) rfl ?_
      show Steps p.tables e below (T2.setTop (mkF m 7 #[.val (.ref a1), .val (.ref a2)] [(.int (mc + (1 : Int32))), (.ref a1)])) _
      exact kt)
  obtain ⟨T4, h4, X4, e4, W4, st4⟩ := putF X2 hx hZ hown (host := "") (Or.inl (own_h hw 74 rfl)) (Via.of (own_h hw 75 rfl)) e2 OF3 OE (Or.inl (own_h hw 29 rfl)) (own_h hw 8 rfl) (ty := .int) (by decide) rfl rfl (g := (mkF m 7 #[.val (.ref a1), .val (.ref a2)] [(.int (mc + (1 : Int32))), (.ref a1)])) rfl rfl (hb hby d9_7)
  have Fw4 := OF3.same W4
  obtain ⟨Ls4, X4, N4⟩ := own_loc X4 (Fr.snoc X4 N0 ga)
  have go5 : ∀ t, Steps p.tables e below (T4.setTop (mkF m 13 #[.val (.ref a1), .val (.ref a2)] [(.ref a1), (.ref a2), (.ref a1)])) t → Steps p.tables e below (s₁.setTop (entryFrame m #[(.ref a1), (.ref a2)] 2)) t := fun t kt => go3 t (by
      refine st4 _ ?_
      show Steps p.tables e below (T4.setTop (mkF m 10 #[.val (.ref a1), .val (.ref a2)] [])) _
      refine XS.aloadN X4.here hx rfl (hb hby d9_10) rfl rfl ?_
      show Steps p.tables e below (T4.setTop (mkF m 11 #[.val (.ref a1), .val (.ref a2)] [(.ref a1)])) _
      refine XS.aloadN X4.here hx rfl (hb hby d9_11) rfl rfl ?_
      show Steps p.tables e below (T4.setTop (mkF m 12 #[.val (.ref a1), .val (.ref a2)] [(.ref a2), (.ref a1)])) _
      refine XS.aloadN X4.here hx rfl (hb hby d9_12) rfl rfl ?_
      show Steps p.tables e below (T4.setTop (mkF m 13 #[.val (.ref a1), .val (.ref a2)] [(.ref a1), (.ref a2), (.ref a1)])) _
      exact kt)
  have fq6 := (OF1.other W4 (Or.inr (slot_ne (Or.inl (own_h hw 32 rfl)) (Or.inl (own_h hw 29 rfl)) (by decide) (t := (.array (.object "java/lang/Object"))) (t' := .int) (by decide) (by decide))))
  obtain ⟨T7, X7, e7, st7⟩ := getF X4 hx hZ hown (host := "") (Or.inl (own_h hw 31 rfl)) Via.refl e4 fq6 (g := (mkF m 13 #[.val (.ref a1), .val (.ref a2)] [(.ref a1), (.ref a2), (.ref a1)])) rfl rfl (hb hby d9_13)
  have go8 : ∀ t, Steps p.tables e below (T7.setTop (mkF m 17 #[.val (.ref a1), .val (.ref a2)] [(.ref a1), (.ref ea), (.ref a2), (.ref a1)])) t → Steps p.tables e below (s₁.setTop (entryFrame m #[(.ref a1), (.ref a2)] 2)) t := fun t kt => go5 t (by
      refine st7 _ ?_
      show Steps p.tables e below (T7.setTop (mkF m 16 #[.val (.ref a1), .val (.ref a2)] [(.ref ea), (.ref a2), (.ref a1)])) _
      refine XS.aloadN X7.here hx rfl (hb hby d9_16) rfl rfl ?_
      show Steps p.tables e below (T7.setTop (mkF m 17 #[.val (.ref a1), .val (.ref a2)] [(.ref a1), (.ref ea), (.ref a2), (.ref a1)])) _
      exact kt)
  have fq9 := (OF2.other W4 (Or.inr (slot_ne (Or.inl (own_h hw 77 rfl)) (Or.inl (own_h hw 29 rfl)) (by decide) (t := .int) (t' := .int) (by decide) (by decide))))
  obtain ⟨T10, X10, e10, st10⟩ := getF X7 hx hZ hown (host := "") (Or.inl (own_h hw 76 rfl)) Via.refl e7 fq9 (g := (mkF m 17 #[.val (.ref a1), .val (.ref a2)] [(.ref a1), (.ref ea), (.ref a2), (.ref a1)])) rfl rfl (hb hby d9_17)
  have go11 : ∀ t, Steps p.tables e below (T10.setTop (mkF m 20 #[.val (.ref a1), .val (.ref a2)] [(.int (1 : Int32)), (.ref ea), (.ref a2), (.ref a1)])) t → Steps p.tables e below (s₁.setTop (entryFrame m #[(.ref a1), (.ref a2)] 2)) t := fun t kt => go8 t (by
      refine st10 _ ?_
      show Steps p.tables e below (T10.setTop (mkF m 20 #[.val (.ref a1), .val (.ref a2)] [(.int (1 : Int32)), (.ref ea), (.ref a2), (.ref a1)])) _
      exact kt)
  have fq13 := (OE.wr W4)
  have LOq : own_LO Z h4 a1 (.ref ea) 1 (mc + (1 : Int32)) := ⟨fq13, fq6, fq9, Fw4⟩
  have zs14 := (Nat.le_trans Z0 (Keep.of_wr W4).1)
  have fq15 := (EV0.other W4 (Ne.symm n1))
  have fq16 := (EX.wr W4)
  obtain ⟨cq12, q12, q12'⟩ := fq13.cell
  obtain ⟨_, _, ⟨T12, L12, k12, n12⟩, -, X12, ⟨Lc12, hQ12, l12, y12, z12⟩, st12⟩ := X10.privateBack hx (y := own_m8) hown (mvT hZ (own_h hw 78 rfl)) (mvT hZ (own_h hw 79 rfl)) (mvT hZ (own_h hw 81 rfl)) (Cond.privateMethod_at (mvP hZ (own_h hw 80 rfl) (args := #[]))) (mvT hZ (own_h hw 82 rfl)) (by decide) (backOf (W := 0) (rmH1 l Z a0 hw [] a1 a2 ea (mc + (1 : Int32)) y0 h4 n0 zs14 LOq fq15 ga ge fq16) hZ (own_h hw 82 rfl) (own_h hw 9 rfl) (by decide) (by decide)) (g := (mkF m 20 #[.val (.ref a1), .val (.ref a2)] [(.int (1 : Int32)), (.ref ea), (.ref a2), (.ref a1)])) rfl (by rw [hml]; rfl) (Steps.refl _) (a := a1) (by rw [e10]; exact q12) q12' (argsL := [(.ref a2), (.ref ea), (.int (1 : Int32))]) (rest := []) (lenOf pd_5 rfl) rfl (by show 2 * 0 + _ ≤ _; exact Nat.le_of_eq rfl) (hb hby d9_20) (fun _ _ => ⟨rfl, e10, (by decide : 0 + 0 ≤ _), (by decide : 0 + 0 ≤ _)⟩)
  dsimp only [Pt.U, Pt.locs, Pt.cells, Pt.slots] at X12 l12 y12 z12 st12 hQ12
  subst y12 z12
  obtain ⟨rfl, N12q, K12, LO12, V12⟩ := hQ12
  have N12 := Fr.app N4 N12q
  rw [← l12] at N12
  have go17 : ∀ t, Steps p.tables e below (T12.setTop (mkF m 24 #[.val (.ref a1), .val (.ref a2)] [(.int (1 : Int32))])) t → Steps p.tables e below (s₁.setTop (entryFrame m #[(.ref a1), (.ref a2)] 2)) t := fun t kt => go11 t (by
      refine st12.trans ?_
      show Steps p.tables e below (T12.setTop (mkF m 23 #[.val (.ref a1), .val (.ref a2)] [])) _
      refine XS.iconst X12.here hx rfl (hb hby d9_23) ?_
      show Steps p.tables e below (T12.setTop (mkF m 24 #[.val (.ref a1), .val (.ref a2)] [(.int (1 : Int32))])) _
      exact kt)
  obtain ⟨fs, hr, hrun, hended, hW, hsame⟩ := X12.leave (v := some (.int (1 : Int32))) (fun h => by rw [Bd.returns] at h; cases h)
  refine ⟨_, _, go17 _ (retN X12 hx (t := .boolean) Bd.returns (by simp) (hb hby d9_24) hr), hrun, hended, _, _, rfl, ?_, ⟨_, rfl⟩, hW, hsame.mono (by decide) (by decide)⟩
  have kp18 := ((Keep.refl h0 [a1, ea]).wr W4 (Or.inl (List.mem_of_getElem? (i := 0) rfl)))
  exact ⟨rfl, N12, (kp18.trans K12 (allS (Or.inl (List.mem_of_getElem? (i := 0) rfl)) (allS (Or.inl (List.mem_of_getElem? (i := 1) rfl)) all0))), LO12, V12⟩
abbrev own_m9 : MethodName := ⟨"java/util/List", "size", "()I"⟩
abbrev own_m10 : MethodName := ⟨"java/util/ArrayList", "size", "()I"⟩
abbrev own_m11 : MethodName := ⟨"java/util/List", "get", "(I)Ljava/lang/Object;"⟩
abbrev own_m12 : MethodName := ⟨"java/util/ArrayList", "get", "(I)Ljava/lang/Object;"⟩
abbrev own_m13 : MethodName := ⟨"com/example/invariant_ink/invariantink/lang/Local", "getType", "()Lcom/example/invariant_ink/invariantink/lang/Type;"⟩
abbrev own_m14 : MethodName := ⟨"com/example/invariant_ink/invariantink/lang/Local", "getSlot", "()I"⟩
abbrev own_m15 : MethodName := ⟨"com/example/invariant_ink/invariantink/lang/SimpleType", "first", "()J"⟩
abbrev own_m16 : MethodName := ⟨"com/example/invariant_ink/invariantink/lang/RangeType", "first", "()J"⟩
abbrev own_m17 : MethodName := ⟨"com/example/invariant_ink/invariantink/lang/FiniteType", "last", "()J"⟩
abbrev own_m18 : MethodName := ⟨"com/example/invariant_ink/invariantink/lang/RangeType", "last", "()J"⟩
theorem d15_0 : decode prog_19_method_1_code 0 = .ok (.aload_n 0, 1) := by decide +kernel
theorem d15_1 : decode prog_19_method_1_code 1 = .ok (.invokespecial 1, 3) := by decide +kernel
theorem d15_4 : decode prog_19_method_1_code 4 = .ok (.aload_n 0, 1) := by decide +kernel
theorem d15_5 : decode prog_19_method_1_code 5 = .ok (.aload_n 2, 1) := by decide +kernel
theorem d15_6 : decode prog_19_method_1_code 6 = .ok (.invokeinterface 7 1, 5) := by decide +kernel
theorem d15_11 : decode prog_19_method_1_code 11 = .ok (.newarray .int, 2) := by decide +kernel
theorem d15_13 : decode prog_19_method_1_code 13 = .ok (.putfield 13, 3) := by decide +kernel
theorem d15_16 : decode prog_19_method_1_code 16 = .ok (.aload_n 0, 1) := by decide +kernel
theorem d15_17 : decode prog_19_method_1_code 17 = .ok (.aload_n 2, 1) := by decide +kernel
theorem d15_18 : decode prog_19_method_1_code 18 = .ok (.invokeinterface 7 1, 5) := by decide +kernel
theorem d15_23 : decode prog_19_method_1_code 23 = .ok (.newarray .long, 2) := by decide +kernel
theorem d15_25 : decode prog_19_method_1_code 25 = .ok (.putfield 19, 3) := by decide +kernel
theorem d15_28 : decode prog_19_method_1_code 28 = .ok (.aload_n 0, 1) := by decide +kernel
theorem d15_29 : decode prog_19_method_1_code 29 = .ok (.aload_n 2, 1) := by decide +kernel
theorem d15_30 : decode prog_19_method_1_code 30 = .ok (.invokeinterface 7 1, 5) := by decide +kernel
theorem d15_35 : decode prog_19_method_1_code 35 = .ok (.newarray .long, 2) := by decide +kernel
theorem d15_37 : decode prog_19_method_1_code 37 = .ok (.putfield 23, 3) := by decide +kernel
theorem d15_40 : decode prog_19_method_1_code 40 = .ok (.iconst 0, 1) := by decide +kernel
theorem d15_41 : decode prog_19_method_1_code 41 = .ok (.istore_n 3, 1) := by decide +kernel
theorem d15_42 : decode prog_19_method_1_code 42 = .ok (.iload_n 3, 1) := by decide +kernel
theorem d15_43 : decode prog_19_method_1_code 43 = .ok (.aload_n 0, 1) := by decide +kernel
theorem d15_44 : decode prog_19_method_1_code 44 = .ok (.getfield 13, 3) := by decide +kernel
theorem d15_47 : decode prog_19_method_1_code 47 = .ok (.arraylength, 1) := by decide +kernel
theorem d15_48 : decode prog_19_method_1_code 48 = .ok (.if_icmp .ge 96, 3) := by decide +kernel
theorem d15_51 : decode prog_19_method_1_code 51 = .ok (.aload_n 2, 1) := by decide +kernel
theorem d15_52 : decode prog_19_method_1_code 52 = .ok (.iload_n 3, 1) := by decide +kernel
theorem d15_53 : decode prog_19_method_1_code 53 = .ok (.invokeinterface 26 2, 5) := by decide +kernel
theorem d15_58 : decode prog_19_method_1_code 58 = .ok (.checkcast 30, 3) := by decide +kernel
theorem d15_61 : decode prog_19_method_1_code 61 = .ok (.invokevirtual 32, 3) := by decide +kernel
theorem d15_64 : decode prog_19_method_1_code 64 = .ok (.checkcast 36, 3) := by decide +kernel
theorem d15_67 : decode prog_19_method_1_code 67 = .ok (.astore 4, 2) := by decide +kernel
theorem d15_69 : decode prog_19_method_1_code 69 = .ok (.aload_n 0, 1) := by decide +kernel
theorem d15_70 : decode prog_19_method_1_code 70 = .ok (.getfield 13, 3) := by decide +kernel
theorem d15_73 : decode prog_19_method_1_code 73 = .ok (.iload_n 3, 1) := by decide +kernel
theorem d15_74 : decode prog_19_method_1_code 74 = .ok (.aload_n 2, 1) := by decide +kernel
theorem d15_75 : decode prog_19_method_1_code 75 = .ok (.iload_n 3, 1) := by decide +kernel
theorem d15_76 : decode prog_19_method_1_code 76 = .ok (.invokeinterface 26 2, 5) := by decide +kernel
theorem d15_81 : decode prog_19_method_1_code 81 = .ok (.checkcast 30, 3) := by decide +kernel
theorem d15_84 : decode prog_19_method_1_code 84 = .ok (.invokevirtual 38, 3) := by decide +kernel
theorem d15_87 : decode prog_19_method_1_code 87 = .ok (.iastore, 1) := by decide +kernel
theorem d15_88 : decode prog_19_method_1_code 88 = .ok (.aload_n 0, 1) := by decide +kernel
theorem d15_89 : decode prog_19_method_1_code 89 = .ok (.getfield 19, 3) := by decide +kernel
theorem d15_92 : decode prog_19_method_1_code 92 = .ok (.iload_n 3, 1) := by decide +kernel
theorem d15_93 : decode prog_19_method_1_code 93 = .ok (.aload 4, 2) := by decide +kernel
theorem d15_95 : decode prog_19_method_1_code 95 = .ok (.invokeinterface 41 1, 5) := by decide +kernel
theorem d15_100 : decode prog_19_method_1_code 100 = .ok (.lastore, 1) := by decide +kernel
theorem d15_101 : decode prog_19_method_1_code 101 = .ok (.aload_n 0, 1) := by decide +kernel
theorem d15_102 : decode prog_19_method_1_code 102 = .ok (.getfield 23, 3) := by decide +kernel
theorem d15_105 : decode prog_19_method_1_code 105 = .ok (.iload_n 3, 1) := by decide +kernel
theorem d15_106 : decode prog_19_method_1_code 106 = .ok (.aload 4, 2) := by decide +kernel
theorem d15_108 : decode prog_19_method_1_code 108 = .ok (.instanceof 45, 3) := by decide +kernel
theorem d15_111 : decode prog_19_method_1_code 111 = .ok (.ifCond .eq 20, 3) := by decide +kernel
theorem d15_114 : decode prog_19_method_1_code 114 = .ok (.aload 4, 2) := by decide +kernel
theorem d15_116 : decode prog_19_method_1_code 116 = .ok (.checkcast 45, 3) := by decide +kernel
theorem d15_119 : decode prog_19_method_1_code 119 = .ok (.astore 5, 2) := by decide +kernel
theorem d15_121 : decode prog_19_method_1_code 121 = .ok (.aload 5, 2) := by decide +kernel
theorem d15_123 : decode prog_19_method_1_code 123 = .ok (.invokeinterface 47 1, 5) := by decide +kernel
theorem d15_128 : decode prog_19_method_1_code 128 = .ok (.goto 9, 3) := by decide +kernel
theorem d15_137 : decode prog_19_method_1_code 137 = .ok (.lastore, 1) := by decide +kernel
theorem d15_138 : decode prog_19_method_1_code 138 = .ok (.iinc 3 1, 3) := by decide +kernel
theorem d15_141 : decode prog_19_method_1_code 141 = .ok (.goto (-99), 3) := by decide +kernel
theorem d15_144 : decode prog_19_method_1_code 144 = .ok (.return_, 1) := by decide +kernel
theorem pn_15 : plainName "com/example/invariant_ink/invariantink/engine/Combinations" = true := by first | (simp [plainName, overriddenIn]; done) | decide +kernel
theorem ef_rmC2_2 (m : MethodId) (a1 : Addr) (a3 : Addr) : entryFrame m #[(.ref a1), .null, (.ref a3)] 6 = mkF m 0 #[.val (.ref a1), .val .null, .val (.ref a3), .unset, .unset, .unset] [] := by first | (simp [entryFrame, mkF, argsToLocals, Value.category]; done) | rfl
set_option maxRecDepth 65536 in
set_option maxHeartbeats 40000000 in
theorem rmC2_2 (l : Launch) (Z : State) (a0 : Array Value) (hw : ∀ d ∈ tables_1, d.before a0 Z = true) (ws : List Jvm.Cond) (a1 a3 ea : Addr) (mc : Int32) (l0 l1 t0 t1 : Addr) (s0 s1 : Int32) (f0 f1 u0 u1 : Int64) (h0 : Heap) (n0 : Nat) (Z0 : n0 ≤ h0.size) (E0 : Exa Z h0 a1 "com/example/invariant_ink/invariantink/engine/Combinations") (F_slots : Fld Z h0 a1 "com/example/invariant_ink/invariantink/engine/Combinations" "slots" "[I" .null) (F_firsts : Fld Z h0 a1 "com/example/invariant_ink/invariantink/engine/Combinations" "firsts" "[J" .null) (F_lasts : Fld Z h0 a1 "com/example/invariant_ink/invariantink/engine/Combinations" "lasts" "[J" .null) (ga : n0 ≤ a1) (LO : own_LO Z h0 a3 (.ref ea) 2 mc) (EV0 : own_AVO Z h0 ea [(.ref l0), (.ref l1), .null, .null, .null, .null, .null, .null, .null, .null]) (EL0 : Exa Z h0 l0 "com/example/invariant_ink/invariantink/lang/Local") (FS0 : Fld Z h0 l0 "com/example/invariant_ink/invariantink/lang/Local" "slot" "I" (.int s0)) (FT0 : Fld Z h0 l0 "com/example/invariant_ink/invariantink/lang/Local" "type" "Lcom/example/invariant_ink/invariantink/lang/Type;" (.ref t0)) (ET0 : Exa Z h0 t0 "com/example/invariant_ink/invariantink/lang/RangeType") (FL0 : Fld Z h0 t0 "com/example/invariant_ink/invariantink/lang/RangeType" "low" "J" (.long f0)) (FH0 : Fld Z h0 t0 "com/example/invariant_ink/invariantink/lang/RangeType" "high" "J" (.long u0)) (EL1 : Exa Z h0 l1 "com/example/invariant_ink/invariantink/lang/Local") (FS1 : Fld Z h0 l1 "com/example/invariant_ink/invariantink/lang/Local" "slot" "I" (.int s1)) (FT1 : Fld Z h0 l1 "com/example/invariant_ink/invariantink/lang/Local" "type" "Lcom/example/invariant_ink/invariantink/lang/Type;" (.ref t1)) (ET1 : Exa Z h0 t1 "com/example/invariant_ink/invariantink/lang/RangeType") (FL1 : Fld Z h0 t1 "com/example/invariant_ink/invariantink/lang/RangeType" "low" "J" (.long f1)) (FH1 : Fld Z h0 t1 "com/example/invariant_ink/invariantink/lang/RangeType" "high" "J" (.long u1)) :
    MetFree l (⟨"com/example/invariant_ink/invariantink/engine/Combinations", "<init>", "(Lcom/example/invariant_ink/invariantink/lang/Instance;Ljava/util/List;)V"⟩ : MethodName) (head1 (Jvm.Cond.code (⟨"com/example/invariant_ink/invariantink/engine/Combinations", "<init>", "(Lcom/example/invariant_ink/invariantink/lang/Instance;Ljava/util/List;)V"⟩ : MethodName) prog_19_method_1_code 6 none :: ws) ({ frames := 3, cells := 3, slots := 6, locals := 42 } : Room)) (fun a U => a = #[(.ref a1), .null, (.ref a3)] ∧ Z.Warmed39 U.vm ∧ U.heap = h0) (fun _ _ _ _ _ => True) (fun _ U o U' => ∃ v L, o = .returned v ∧ own_QC Z a1 [(.int s0), (.int s1)] [(.long f0), (.long f1)] [(.long u0), (.long u1)] h0 n0 v U'.heap L ∧ FrameEnd U o U' L ({ frames := 3, cells := 3, slots := 6, locals := 42 } : Room).cells ({ frames := 3, cells := 3, slots := 6, locals := 42 } : Room).slots) := by
  refine MetFree.of_bodySF (plainFor_of_name pn_15) hisR ?_
  intro p e s m args below meth c s₁ Bd hml0 hP hK
  obtain ⟨rfl, hZ, hh⟩ := hP
  have hx := Bd.exec
  have hby := Bd.bytes
  have hml : c.maxLocals = 6 := hml0
  have hown : s.vm.findClass "com/example/invariant_ink/invariantink/engine/Combinations" = some m.cls := findClass_of_methodNamed Bd.named
  have hnm := (name_of_methodNamed Bd.named Bd.method).1
  have X0 : Stand p l e ({ frames := 3, cells := 3, slots := 6, locals := 42 } : Room) s m #[(.ref a1), .null, (.ref a3)] below meth c s₁ [] 0 0 := Stand.of_body Bd
  have e0 : s₁.heap = h0 := by rw [← hh, Bd.state]; rfl
  have N0 := Fr.nil n0
  have go0 : ∀ t, Steps p.tables e below (s₁.setTop (mkF m 0 #[.val (.ref a1), .val .null, .val (.ref a3), .unset, .unset, .unset] [])) t → Steps p.tables e below (s₁.setTop (entryFrame m #[(.ref a1), .null, (.ref a3)] 6)) t := fun t k => castTop (ef_rmC2_2 m a1 a3) k
  obtain ⟨OE, OF1, OF2, OF3⟩ := id LO
  have na3 : a3 ≠ a1 := Exa.ne OE E0 (by decide)
  have ne0 : a1 ≠ ea := by obtain ⟨_, A, _⟩ := EV0; exact ne_arr E0 (own_h hw 101 rfl) A
  have nl0 : l0 ≠ a1 := Exa.ne EL0 E0 (by decide)
  have nt0 : t0 ≠ a1 := Exa.ne ET0 E0 (by decide)
  have nl1 : l1 ≠ a1 := Exa.ne EL1 E0 (by decide)
  have nt1 : t1 ≠ a1 := Exa.ne ET1 E0 (by decide)
  have go1 : ∀ t, Steps p.tables e below (s₁.setTop (mkF m 1 #[.val (.ref a1), .val .null, .val (.ref a3), .unset, .unset, .unset] [(.ref a1)])) t → Steps p.tables e below (s₁.setTop (entryFrame m #[(.ref a1), .null, (.ref a3)] 6)) t := fun t kt => go0 t (by
      refine XS.aloadN X0.here hx rfl (hb hby d15_0) rfl rfl ?_
      show Steps p.tables e below (s₁.setTop (mkF m 1 #[.val (.ref a1), .val .null, .val (.ref a3), .unset, .unset, .unset] [(.ref a1)])) _
      exact kt)
  obtain ⟨T2, X2, e2, st2⟩ := initO X0 hx hZ hown (own_h hw 109 rfl) (own_h hw 26 rfl) (own_h hw 27 rfl) e0 (g := (mkF m 1 #[.val (.ref a1), .val .null, .val (.ref a3), .unset, .unset, .unset] [(.ref a1)])) rfl (by rw [hml]; rfl) rfl (hb hby d15_1) (by decide) (W := 0) (by show 2 * 0 + _ ≤ _; exact Nat.le_of_eq rfl) (by decide)
  have go3 : ∀ t, Steps p.tables e below (T2.setTop (mkF m 6 #[.val (.ref a1), .val .null, .val (.ref a3), .unset, .unset, .unset] [(.ref a3), (.ref a1)])) t → Steps p.tables e below (s₁.setTop (entryFrame m #[(.ref a1), .null, (.ref a3)] 6)) t := fun t kt => go1 t (by
      refine st2 _ ?_
      show Steps p.tables e below (T2.setTop (mkF m 4 #[.val (.ref a1), .val .null, .val (.ref a3), .unset, .unset, .unset] [])) _
      refine XS.aloadN X2.here hx rfl (hb hby d15_4) rfl rfl ?_
      show Steps p.tables e below (T2.setTop (mkF m 5 #[.val (.ref a1), .val .null, .val (.ref a3), .unset, .unset, .unset] [(.ref a1)])) _
      refine XS.aloadN X2.here hx rfl (hb hby d15_5) rfl rfl ?_
      show Steps p.tables e below (T2.setTop (mkF m 6 #[.val (.ref a1), .val .null, .val (.ref a3), .unset, .unset, .unset] [(.ref a3), (.ref a1)])) _
      exact kt)
  obtain ⟨cq4, kq4, q4a, q4b, q4c⟩ := isOf hZ e2 OE
  obtain ⟨_, _, ⟨T4, L4, k4, n4⟩, -, X4, ⟨Lc4, hQ4, l4, y4, z4⟩, st4⟩ := X2.interfaceBack hx (xi := own_m9) (y := own_m10) hown (mvT hZ (own_h hw 110 rfl)) (mvT hZ (own_h hw 111 rfl)) (mvT hZ (own_h hw 112 rfl)) (mvT hZ (own_h hw 113 rfl)) (mvT hZ (own_h hw 114 rfl)) (mvT hZ (own_h hw 115 rfl)) (mvT hZ (own_h hw 116 rfl)) (mvT hZ (own_h hw 117 rfl)) (by decide) (backOf (W := 1) (rm16 l Z a0 hw [] a3 (2 : Int32) h0 n0 OF2) hZ (own_h hw 118 rfl) (own_h hw 9 rfl) (by decide) (by decide)) q4a q4b q4c (g := (mkF m 6 #[.val (.ref a1), .val .null, .val (.ref a3), .unset, .unset, .unset] [(.ref a3), (.ref a1)])) rfl (by rw [hml]; rfl) (Steps.refl _) (argsL := []) (rest := [(.ref a1)]) (lenOf pd_11 rfl) rfl (by show 2 * 0 + _ ≤ _; exact Nat.le_of_eq rfl) (hb hby d15_6) (fun _ _ => ⟨rfl, e2, (by decide : 0 + 0 ≤ _), (by decide : 0 + 0 ≤ _)⟩)
  dsimp only [Pt.U, Pt.locs, Pt.cells, Pt.slots] at X4 l4 y4 z4 st4 hQ4
  subst y4 z4
  obtain ⟨rfl, N4q, e4⟩ := hQ4
  have N4 := Fr.app N0 N4q
  rw [← l4] at N4
  have go5 : ∀ t, Steps p.tables e below (T4.setTop (mkF m 11 #[.val (.ref a1), .val .null, .val (.ref a3), .unset, .unset, .unset] [(.int (2 : Int32)), (.ref a1)])) t → Steps p.tables e below (s₁.setTop (entryFrame m #[(.ref a1), .null, (.ref a3)] 6)) t := fun t kt => go3 t (by
      refine st4.trans ?_
      show Steps p.tables e below (T4.setTop (mkF m 11 #[.val (.ref a1), .val .null, .val (.ref a3), .unset, .unset, .unset] [(.int (2 : Int32)), (.ref a1)])) _
      exact kt)
  obtain ⟨T6, h6, k6, X6, e6, E6, A6, st6⟩ := newP X4 hx hZ (own_h hw 119 rfl) e4 (g := (mkF m 11 #[.val (.ref a1), .val .null, .val (.ref a3), .unset, .unset, .unset] [(.int (2 : Int32)), (.ref a1)])) rfl (hb hby d15_11) rfl (by decide) (cap := 2) (by decide) (by decide) (by decide) (by decide)
  obtain ⟨b6, g6⟩ : ∃ z, z = h0.size := ⟨_, rfl⟩
  rw [← g6] at A6 st6
  have ks6 : h0.size ≤ h0.size := (Nat.le_refl _)
  have sz6 : h0.size ≤ b6 := Nat.le_trans ks6 (Nat.le_of_eq g6.symm)
  have ne_a1_b6 : a1 ≠ b6 := Nat.ne_of_lt (Nat.lt_of_lt_of_le E0.lt (Nat.le_of_eq g6.symm))
  have ne_a3_b6 : a3 ≠ b6 := Nat.ne_of_lt (Nat.lt_of_lt_of_le OE.lt (Nat.le_of_eq g6.symm))
  have ne_ea_b6 : ea ≠ b6 := Nat.ne_of_lt (Nat.lt_of_lt_of_le EV0.lt (Nat.le_of_eq g6.symm))
  have ne_l0_b6 : l0 ≠ b6 := Nat.ne_of_lt (Nat.lt_of_lt_of_le EL0.lt (Nat.le_of_eq g6.symm))
  have ne_l1_b6 : l1 ≠ b6 := Nat.ne_of_lt (Nat.lt_of_lt_of_le EL1.lt (Nat.le_of_eq g6.symm))
  have ne_t0_b6 : t0 ≠ b6 := Nat.ne_of_lt (Nat.lt_of_lt_of_le ET0.lt (Nat.le_of_eq g6.symm))
  have ne_t1_b6 : t1 ≠ b6 := Nat.ne_of_lt (Nat.lt_of_lt_of_le ET1.lt (Nat.le_of_eq g6.symm))
  have V6 : own_AV Z h6 b6 .int [(.int (0 : Int32)), (.int (0 : Int32))] := own_AV.new A6 (i := 2) (by decide)
  have gb6 : n0 ≤ b6 := Nat.le_trans Z0 (Nat.le_of_eq g6.symm)
  have go7 : ∀ t, Steps p.tables e below (T6.setTop (mkF m 13 #[.val (.ref a1), .val .null, .val (.ref a3), .unset, .unset, .unset] [(.ref b6), (.ref a1)])) t → Steps p.tables e below (s₁.setTop (entryFrame m #[(.ref a1), .null, (.ref a3)] 6)) t := fun t kt => go5 t (by
      refine st6 _ ?_
      show Steps p.tables e below (T6.setTop (mkF m 13 #[.val (.ref a1), .val .null, .val (.ref a3), .unset, .unset, .unset] [(.ref b6), (.ref a1)])) _
      exact kt)
  have fq8 := (F_slots.ext E6)
  have fq9 := (E0.ext E6)
  obtain ⟨T10, h10, X10, e10, W10, st10⟩ := putF X6 hx hZ hown (host := "") (Or.inl (own_h hw 120 rfl)) Via.refl e6 fq8 fq9 (Or.inr ⟨(own_h hw 121 rfl), rfl, hnm⟩) (own_h hw 101 rfl) (ty := (.array .int)) (by decide) rfl rfl (g := (mkF m 13 #[.val (.ref a1), .val .null, .val (.ref a3), .unset, .unset, .unset] [(.ref b6), (.ref a1)])) rfl rfl (hb hby d15_13)
  have Fw10 := fq8.same W10
  obtain ⟨Ls10, X10, N10⟩ := own_loc X10 (Fr.snoc X10 N4 ga)
  have go11 : ∀ t, Steps p.tables e below (T10.setTop (mkF m 18 #[.val (.ref a1), .val .null, .val (.ref a3), .unset, .unset, .unset] [(.ref a3), (.ref a1)])) t → Steps p.tables e below (s₁.setTop (entryFrame m #[(.ref a1), .null, (.ref a3)] 6)) t := fun t kt => go7 t (by
      refine st10 _ ?_
      show Steps p.tables e below (T10.setTop (mkF m 16 #[.val (.ref a1), .val .null, .val (.ref a3), .unset, .unset, .unset] [])) _
      refine XS.aloadN X10.here hx rfl (hb hby d15_16) rfl rfl ?_
      show Steps p.tables e below (T10.setTop (mkF m 17 #[.val (.ref a1), .val .null, .val (.ref a3), .unset, .unset, .unset] [(.ref a1)])) _
      refine XS.aloadN X10.here hx rfl (hb hby d15_17) rfl rfl ?_
      show Steps p.tables e below (T10.setTop (mkF m 18 #[.val (.ref a1), .val .null, .val (.ref a3), .unset, .unset, .unset] [(.ref a3), (.ref a1)])) _
      exact kt)
  have fq13 := ((OF2.ext E6).other W10 (Or.inl na3))
  have fq14 := ((OE.ext E6).wr W10)
  obtain ⟨cq12, kq12, q12a, q12b, q12c⟩ := isOf hZ e10 fq14
  obtain ⟨_, _, ⟨T12, L12, k12, n12⟩, -, X12, ⟨Lc12, hQ12, l12, y12, z12⟩, st12⟩ := X10.interfaceBack hx (xi := own_m9) (y := own_m10) hown (mvT hZ (own_h hw 110 rfl)) (mvT hZ (own_h hw 111 rfl)) (mvT hZ (own_h hw 112 rfl)) (mvT hZ (own_h hw 113 rfl)) (mvT hZ (own_h hw 114 rfl)) (mvT hZ (own_h hw 115 rfl)) (mvT hZ (own_h hw 116 rfl)) (mvT hZ (own_h hw 117 rfl)) (by decide) (backOf (W := 1) (rm16 l Z a0 hw [] a3 (2 : Int32) h10 n0 fq13) hZ (own_h hw 118 rfl) (own_h hw 9 rfl) (by decide) (by decide)) q12a q12b q12c (g := (mkF m 18 #[.val (.ref a1), .val .null, .val (.ref a3), .unset, .unset, .unset] [(.ref a3), (.ref a1)])) rfl (by rw [hml]; rfl) (Steps.refl _) (argsL := []) (rest := [(.ref a1)]) (lenOf pd_11 rfl) rfl (by show 2 * 0 + _ ≤ _; exact Nat.le_of_eq rfl) (hb hby d15_18) (fun _ _ => ⟨rfl, e10, (by decide : 1 + 0 ≤ _), (by decide : 2 + 0 ≤ _)⟩)
  dsimp only [Pt.U, Pt.locs, Pt.cells, Pt.slots] at X12 l12 y12 z12 st12 hQ12
  subst y12 z12
  obtain ⟨rfl, N12q, e12⟩ := hQ12
  have N12 := Fr.app N10 N12q
  rw [← l12] at N12
  have go15 : ∀ t, Steps p.tables e below (T12.setTop (mkF m 23 #[.val (.ref a1), .val .null, .val (.ref a3), .unset, .unset, .unset] [(.int (2 : Int32)), (.ref a1)])) t → Steps p.tables e below (s₁.setTop (entryFrame m #[(.ref a1), .null, (.ref a3)] 6)) t := fun t kt => go11 t (by
      refine st12.trans ?_
      show Steps p.tables e below (T12.setTop (mkF m 23 #[.val (.ref a1), .val .null, .val (.ref a3), .unset, .unset, .unset] [(.int (2 : Int32)), (.ref a1)])) _
      exact kt)
  have zs17 := (Nat.le_trans (Nat.le_trans Z0 E6.1) (Keep.of_wr W10).1)
  obtain ⟨T16, h16, k16, X16, e16, E16, A16, st16⟩ := newP X12 hx hZ (own_h hw 122 rfl) e12 (g := (mkF m 23 #[.val (.ref a1), .val .null, .val (.ref a3), .unset, .unset, .unset] [(.int (2 : Int32)), (.ref a1)])) rfl (hb hby d15_23) rfl (by decide) (cap := 2) (by decide) (by decide) (by decide) (by decide)
  obtain ⟨b16, g16⟩ : ∃ z, z = h10.size := ⟨_, rfl⟩
  rw [← g16] at A16 st16
  have ks16 : h0.size ≤ h10.size := (Nat.le_trans (Nat.le_trans (ks6) E6.1) (Keep.of_wr W10).1)
  have sz16 : h0.size ≤ b16 := Nat.le_trans ks16 (Nat.le_of_eq g16.symm)
  have fq18 := (fq9.wr W10)
  have ne_a1_b16 : a1 ≠ b16 := Nat.ne_of_lt (Nat.lt_of_lt_of_le fq18.lt (Nat.le_of_eq g16.symm))
  have ne_a3_b16 : a3 ≠ b16 := Nat.ne_of_lt (Nat.lt_of_lt_of_le fq14.lt (Nat.le_of_eq g16.symm))
  have fq19 := (V6.other W10 (Ne.symm ne_a1_b6))
  have ne_b6_b16 : b6 ≠ b16 := Nat.ne_of_lt (Nat.lt_of_lt_of_le fq19.lt (Nat.le_of_eq g16.symm))
  have fq20 := ((EV0.ext E6).other W10 (Ne.symm ne0))
  have ne_ea_b16 : ea ≠ b16 := Nat.ne_of_lt (Nat.lt_of_lt_of_le fq20.lt (Nat.le_of_eq g16.symm))
  have fq21 := ((EL0.ext E6).wr W10)
  have ne_l0_b16 : l0 ≠ b16 := Nat.ne_of_lt (Nat.lt_of_lt_of_le fq21.lt (Nat.le_of_eq g16.symm))
  have fq22 := ((EL1.ext E6).wr W10)
  have ne_l1_b16 : l1 ≠ b16 := Nat.ne_of_lt (Nat.lt_of_lt_of_le fq22.lt (Nat.le_of_eq g16.symm))
  have fq23 := ((ET0.ext E6).wr W10)
  have ne_t0_b16 : t0 ≠ b16 := Nat.ne_of_lt (Nat.lt_of_lt_of_le fq23.lt (Nat.le_of_eq g16.symm))
  have fq24 := ((ET1.ext E6).wr W10)
  have ne_t1_b16 : t1 ≠ b16 := Nat.ne_of_lt (Nat.lt_of_lt_of_le fq24.lt (Nat.le_of_eq g16.symm))
  have V16 : own_AV Z h16 b16 .long [(.long (0 : Int64)), (.long (0 : Int64))] := own_AV.new A16 (i := 2) (by decide)
  have gb16 : n0 ≤ b16 := Nat.le_trans zs17 (Nat.le_of_eq g16.symm)
  have go25 : ∀ t, Steps p.tables e below (T16.setTop (mkF m 25 #[.val (.ref a1), .val .null, .val (.ref a3), .unset, .unset, .unset] [(.ref b16), (.ref a1)])) t → Steps p.tables e below (s₁.setTop (entryFrame m #[(.ref a1), .null, (.ref a3)] 6)) t := fun t kt => go15 t (by
      refine st16 _ ?_
      show Steps p.tables e below (T16.setTop (mkF m 25 #[.val (.ref a1), .val .null, .val (.ref a3), .unset, .unset, .unset] [(.ref b16), (.ref a1)])) _
      exact kt)
  have fr26 := ((F_firsts.ext E6).other W10 (Or.inr (slot_ne (Or.inr (own_h hw 124 rfl)) (Or.inr (own_h hw 121 rfl)) (by decide) (t := (.array .long)) (t' := (.array .int)) (by decide) (by decide))))
  have fq27 := (fr26.ext E16)
  have fq28 := (fq18.ext E16)
  obtain ⟨T29, h29, X29, e29, W29, st29⟩ := putF X16 hx hZ hown (host := "") (Or.inl (own_h hw 123 rfl)) Via.refl e16 fq27 fq28 (Or.inr ⟨(own_h hw 124 rfl), rfl, hnm⟩) (own_h hw 101 rfl) (ty := (.array .long)) (by decide) rfl rfl (g := (mkF m 25 #[.val (.ref a1), .val .null, .val (.ref a3), .unset, .unset, .unset] [(.ref b16), (.ref a1)])) rfl rfl (hb hby d15_25)
  have Fw29 := fq27.same W29
  obtain ⟨Ls29, X29, N29⟩ := own_loc X29 (Fr.snoc X29 N12 ga)
  have go30 : ∀ t, Steps p.tables e below (T29.setTop (mkF m 30 #[.val (.ref a1), .val .null, .val (.ref a3), .unset, .unset, .unset] [(.ref a3), (.ref a1)])) t → Steps p.tables e below (s₁.setTop (entryFrame m #[(.ref a1), .null, (.ref a3)] 6)) t := fun t kt => go25 t (by
      refine st29 _ ?_
      show Steps p.tables e below (T29.setTop (mkF m 28 #[.val (.ref a1), .val .null, .val (.ref a3), .unset, .unset, .unset] [])) _
      refine XS.aloadN X29.here hx rfl (hb hby d15_28) rfl rfl ?_
      show Steps p.tables e below (T29.setTop (mkF m 29 #[.val (.ref a1), .val .null, .val (.ref a3), .unset, .unset, .unset] [(.ref a1)])) _
      refine XS.aloadN X29.here hx rfl (hb hby d15_29) rfl rfl ?_
      show Steps p.tables e below (T29.setTop (mkF m 30 #[.val (.ref a1), .val .null, .val (.ref a3), .unset, .unset, .unset] [(.ref a3), (.ref a1)])) _
      exact kt)
  have fq32 := ((fq13.ext E16).other W29 (Or.inl na3))
  have fq33 := ((fq14.ext E16).wr W29)
  obtain ⟨cq31, kq31, q31a, q31b, q31c⟩ := isOf hZ e29 fq33
  obtain ⟨_, _, ⟨T31, L31, k31, n31⟩, -, X31, ⟨Lc31, hQ31, l31, y31, z31⟩, st31⟩ := X29.interfaceBack hx (xi := own_m9) (y := own_m10) hown (mvT hZ (own_h hw 110 rfl)) (mvT hZ (own_h hw 111 rfl)) (mvT hZ (own_h hw 112 rfl)) (mvT hZ (own_h hw 113 rfl)) (mvT hZ (own_h hw 114 rfl)) (mvT hZ (own_h hw 115 rfl)) (mvT hZ (own_h hw 116 rfl)) (mvT hZ (own_h hw 117 rfl)) (by decide) (backOf (W := 1) (rm16 l Z a0 hw [] a3 (2 : Int32) h29 n0 fq32) hZ (own_h hw 118 rfl) (own_h hw 9 rfl) (by decide) (by decide)) q31a q31b q31c (g := (mkF m 30 #[.val (.ref a1), .val .null, .val (.ref a3), .unset, .unset, .unset] [(.ref a3), (.ref a1)])) rfl (by rw [hml]; rfl) (Steps.refl _) (argsL := []) (rest := [(.ref a1)]) (lenOf pd_11 rfl) rfl (by show 2 * 0 + _ ≤ _; exact Nat.le_of_eq rfl) (hb hby d15_30) (fun _ _ => ⟨rfl, e29, (by decide : 2 + 0 ≤ _), (by decide : 4 + 0 ≤ _)⟩)
  dsimp only [Pt.U, Pt.locs, Pt.cells, Pt.slots] at X31 l31 y31 z31 st31 hQ31
  subst y31 z31
  obtain ⟨rfl, N31q, e31⟩ := hQ31
  have N31 := Fr.app N29 N31q
  rw [← l31] at N31
  have go34 : ∀ t, Steps p.tables e below (T31.setTop (mkF m 35 #[.val (.ref a1), .val .null, .val (.ref a3), .unset, .unset, .unset] [(.int (2 : Int32)), (.ref a1)])) t → Steps p.tables e below (s₁.setTop (entryFrame m #[(.ref a1), .null, (.ref a3)] 6)) t := fun t kt => go30 t (by
      refine st31.trans ?_
      show Steps p.tables e below (T31.setTop (mkF m 35 #[.val (.ref a1), .val .null, .val (.ref a3), .unset, .unset, .unset] [(.int (2 : Int32)), (.ref a1)])) _
      exact kt)
  have zs36 := (Nat.le_trans (Nat.le_trans zs17 E16.1) (Keep.of_wr W29).1)
  obtain ⟨T35, h35, k35, X35, e35, E35, A35, st35⟩ := newP X31 hx hZ (own_h hw 122 rfl) e31 (g := (mkF m 35 #[.val (.ref a1), .val .null, .val (.ref a3), .unset, .unset, .unset] [(.int (2 : Int32)), (.ref a1)])) rfl (hb hby d15_35) rfl (by decide) (cap := 2) (by decide) (by decide) (by decide) (by decide)
  obtain ⟨b35, g35⟩ : ∃ z, z = h29.size := ⟨_, rfl⟩
  rw [← g35] at A35 st35
  have ks35 : h0.size ≤ h29.size := (Nat.le_trans (Nat.le_trans (ks16) E16.1) (Keep.of_wr W29).1)
  have sz35 : h0.size ≤ b35 := Nat.le_trans ks35 (Nat.le_of_eq g35.symm)
  have fq37 := (fq28.wr W29)
  have ne_a1_b35 : a1 ≠ b35 := Nat.ne_of_lt (Nat.lt_of_lt_of_le fq37.lt (Nat.le_of_eq g35.symm))
  have ne_a3_b35 : a3 ≠ b35 := Nat.ne_of_lt (Nat.lt_of_lt_of_le fq33.lt (Nat.le_of_eq g35.symm))
  have fq38 := (V16.other W29 (Ne.symm ne_a1_b16))
  have ne_b16_b35 : b16 ≠ b35 := Nat.ne_of_lt (Nat.lt_of_lt_of_le fq38.lt (Nat.le_of_eq g35.symm))
  have fq39 := ((fq19.ext E16).other W29 (Ne.symm ne_a1_b6))
  have ne_b6_b35 : b6 ≠ b35 := Nat.ne_of_lt (Nat.lt_of_lt_of_le fq39.lt (Nat.le_of_eq g35.symm))
  have fq40 := ((fq20.ext E16).other W29 (Ne.symm ne0))
  have ne_ea_b35 : ea ≠ b35 := Nat.ne_of_lt (Nat.lt_of_lt_of_le fq40.lt (Nat.le_of_eq g35.symm))
  have fq41 := ((fq21.ext E16).wr W29)
  have ne_l0_b35 : l0 ≠ b35 := Nat.ne_of_lt (Nat.lt_of_lt_of_le fq41.lt (Nat.le_of_eq g35.symm))
  have fq42 := ((fq22.ext E16).wr W29)
  have ne_l1_b35 : l1 ≠ b35 := Nat.ne_of_lt (Nat.lt_of_lt_of_le fq42.lt (Nat.le_of_eq g35.symm))
  have fq43 := ((fq23.ext E16).wr W29)
  have ne_t0_b35 : t0 ≠ b35 := Nat.ne_of_lt (Nat.lt_of_lt_of_le fq43.lt (Nat.le_of_eq g35.symm))
  have fq44 := ((fq24.ext E16).wr W29)
  have ne_t1_b35 : t1 ≠ b35 := Nat.ne_of_lt (Nat.lt_of_lt_of_le fq44.lt (Nat.le_of_eq g35.symm))
  have V35 : own_AV Z h35 b35 .long [(.long (0 : Int64)), (.long (0 : Int64))] := own_AV.new A35 (i := 2) (by decide)
  have gb35 : n0 ≤ b35 := Nat.le_trans zs36 (Nat.le_of_eq g35.symm)
  have go45 : ∀ t, Steps p.tables e below (T35.setTop (mkF m 37 #[.val (.ref a1), .val .null, .val (.ref a3), .unset, .unset, .unset] [(.ref b35), (.ref a1)])) t → Steps p.tables e below (s₁.setTop (entryFrame m #[(.ref a1), .null, (.ref a3)] 6)) t := fun t kt => go34 t (by
      refine st35 _ ?_
      show Steps p.tables e below (T35.setTop (mkF m 37 #[.val (.ref a1), .val .null, .val (.ref a3), .unset, .unset, .unset] [(.ref b35), (.ref a1)])) _
      exact kt)
  have fr46 := ((F_lasts.ext E6).other W10 (Or.inr (slot_ne (Or.inr (own_h hw 126 rfl)) (Or.inr (own_h hw 121 rfl)) (by decide) (t := (.array .long)) (t' := (.array .int)) (by decide) (by decide))))
  have fq47 := (((fr46.ext E16).other W29 (Or.inr (slot_ne (Or.inr (own_h hw 126 rfl)) (Or.inr (own_h hw 124 rfl)) (by decide) (t := (.array .long)) (t' := (.array .long)) (by decide) (by decide)))).ext E35)
  have fq48 := (fq37.ext E35)
  obtain ⟨T49, h49, X49, e49, W49, st49⟩ := putF X35 hx hZ hown (host := "") (Or.inl (own_h hw 125 rfl)) Via.refl e35 fq47 fq48 (Or.inr ⟨(own_h hw 126 rfl), rfl, hnm⟩) (own_h hw 101 rfl) (ty := (.array .long)) (by decide) rfl rfl (g := (mkF m 37 #[.val (.ref a1), .val .null, .val (.ref a3), .unset, .unset, .unset] [(.ref b35), (.ref a1)])) rfl rfl (hb hby d15_37)
  have Fw49 := fq47.same W49
  obtain ⟨Ls49, X49, N49⟩ := own_loc X49 (Fr.snoc X49 N31 ga)
  have go50 : ∀ t, Steps p.tables e below (T49.setTop (mkF m 44 #[.val (.ref a1), .val .null, .val (.ref a3), .val (.int (0 : Int32)), .unset, .unset] [(.ref a1), (.int (0 : Int32))])) t → Steps p.tables e below (s₁.setTop (entryFrame m #[(.ref a1), .null, (.ref a3)] 6)) t := fun t kt => go45 t (by
      refine st49 _ ?_
      show Steps p.tables e below (T49.setTop (mkF m 40 #[.val (.ref a1), .val .null, .val (.ref a3), .unset, .unset, .unset] [])) _
      refine XS.iconst X49.here hx rfl (hb hby d15_40) ?_
      show Steps p.tables e below (T49.setTop (mkF m 41 #[.val (.ref a1), .val .null, .val (.ref a3), .unset, .unset, .unset] [(.int (0 : Int32))])) _
      refine XS.istoreN X49.here hx rfl (hb hby d15_41) rfl (l' := #[.val (.ref a1), .val .null, .val (.ref a3), .val (.int (0 : Int32)), .unset, .unset]) rfl ?_
      show Steps p.tables e below (T49.setTop (mkF m 42 #[.val (.ref a1), .val .null, .val (.ref a3), .val (.int (0 : Int32)), .unset, .unset] [])) _
      refine XS.iloadN X49.here hx rfl (hb hby d15_42) rfl ?_
      show Steps p.tables e below (T49.setTop (mkF m 43 #[.val (.ref a1), .val .null, .val (.ref a3), .val (.int (0 : Int32)), .unset, .unset] [(.int (0 : Int32))])) _
      refine XS.aloadN X49.here hx rfl (hb hby d15_43) rfl rfl ?_
      show Steps p.tables e below (T49.setTop (mkF m 44 #[.val (.ref a1), .val .null, .val (.ref a3), .val (.int (0 : Int32)), .unset, .unset] [(.ref a1), (.int (0 : Int32))])) _
      exact kt)
  have fr51 := ((Fw10.ext E16).other W29 (Or.inr (slot_ne (Or.inr (own_h hw 121 rfl)) (Or.inr (own_h hw 124 rfl)) (by decide) (t := (.array .int)) (t' := (.array .long)) (by decide) (by decide))))
  have fq52 := ((fr51.ext E35).other W49 (Or.inr (slot_ne (Or.inr (own_h hw 121 rfl)) (Or.inr (own_h hw 126 rfl)) (by decide) (t := (.array .int)) (t' := (.array .long)) (by decide) (by decide))))
  obtain ⟨T53, X53, e53, st53⟩ := getF X49 hx hZ hown (host := "") (Or.inl (own_h hw 120 rfl)) Via.refl e49 fq52 (g := (mkF m 44 #[.val (.ref a1), .val .null, .val (.ref a3), .val (.int (0 : Int32)), .unset, .unset] [(.ref a1), (.int (0 : Int32))])) rfl rfl (hb hby d15_44)
  have go54 : ∀ t, Steps p.tables e below (T53.setTop (mkF m 47 #[.val (.ref a1), .val .null, .val (.ref a3), .val (.int (0 : Int32)), .unset, .unset] [(.ref b6), (.int (0 : Int32))])) t → Steps p.tables e below (s₁.setTop (entryFrame m #[(.ref a1), .null, (.ref a3)] 6)) t := fun t kt => go50 t (by
      refine st53 _ ?_
      show Steps p.tables e below (T53.setTop (mkF m 47 #[.val (.ref a1), .val .null, .val (.ref a3), .val (.int (0 : Int32)), .unset, .unset] [(.ref b6), (.int (0 : Int32))])) _
      exact kt)
  have fq55 := ((fq39.ext E35).other W49 (Ne.symm ne_a1_b6))
  obtain ⟨c56, Ar56, q56⟩ := id fq55
  have hc48_57 : (0 : Int32) < (2 : Int32) := (by decide)
  have go58 : ∀ t, Steps p.tables e below (T53.setTop (mkF m 53 #[.val (.ref a1), .val .null, .val (.ref a3), .val (.int (0 : Int32)), .unset, .unset] [(.int (0 : Int32)), (.ref a3)])) t → Steps p.tables e below (s₁.setTop (entryFrame m #[(.ref a1), .null, (.ref a3)] 6)) t := fun t kt => go54 t (by
      refine X53.arraylength hx (by rw [e53]; exact Ar56.1) (State.isArrayOf_alike hZ.alike Ar56.2.1) (g := (mkF m 47 #[.val (.ref a1), .val .null, .val (.ref a3), .val (.int (0 : Int32)), .unset, .unset] [(.ref b6), (.int (0 : Int32))])) rfl rfl (hb hby d15_47) _ ?_
      rw [own_len q56 (n := (2 : Int32)) rfl]
      show Steps p.tables e below (T53.setTop (mkF m 48 #[.val (.ref a1), .val .null, .val (.ref a3), .val (.int (0 : Int32)), .unset, .unset] [(.int (2 : Int32)), (.int (0 : Int32))])) _
      refine XS.icmpNo X53.here hx rfl (hb hby d15_48) rfl (tlt hc48_57).2.1 ?_
      show Steps p.tables e below (T53.setTop (mkF m 51 #[.val (.ref a1), .val .null, .val (.ref a3), .val (.int (0 : Int32)), .unset, .unset] [])) _
      refine XS.aloadN X53.here hx rfl (hb hby d15_51) rfl rfl ?_
      show Steps p.tables e below (T53.setTop (mkF m 52 #[.val (.ref a1), .val .null, .val (.ref a3), .val (.int (0 : Int32)), .unset, .unset] [(.ref a3)])) _
      refine XS.iloadN X53.here hx rfl (hb hby d15_52) rfl ?_
      show Steps p.tables e below (T53.setTop (mkF m 53 #[.val (.ref a1), .val .null, .val (.ref a3), .val (.int (0 : Int32)), .unset, .unset] [(.int (0 : Int32)), (.ref a3)])) _
      exact kt)
  have fr60 := ((OF1.ext E6).other W10 (Or.inl na3))
  have fr61 := (((fr60.ext E16).other W29 (Or.inl na3)).ext E35)
  have fq62 := (fr61.other W49 (Or.inl na3))
  have fq63 := ((fq40.ext E35).other W49 (Ne.symm ne0))
  have fq64 := ((fq33.ext E35).wr W49)
  have fq65 := ((fq32.ext E35).other W49 (Or.inl na3))
  obtain ⟨cq59, kq59, q59a, q59b, q59c⟩ := isOf hZ e53 fq64
  obtain ⟨_, _, ⟨T59, L59, k59, n59⟩, -, X59, ⟨Lc59, hQ59, l59, y59, z59⟩, st59⟩ := X53.interfaceBack hx (xi := own_m11) (y := own_m12) hown (mvT hZ (own_h hw 127 rfl)) (mvT hZ (own_h hw 128 rfl)) (mvT hZ (own_h hw 129 rfl)) (mvT hZ (own_h hw 130 rfl)) (mvT hZ (own_h hw 131 rfl)) (mvT hZ (own_h hw 132 rfl)) (mvT hZ (own_h hw 133 rfl)) (mvT hZ (own_h hw 117 rfl)) (by decide) (backOf (W := 0) (rm17 l Z a0 hw [] a3 (0 : Int32) ea l0 [(.ref l0), (.ref l1), .null, .null, .null, .null, .null, .null, .null, .null] 0 (2 : Int32) h49 n0 fq62 (fq63).av (by decide) (by decide) rfl fq64 fq65 (by decide)) hZ (own_h hw 134 rfl) (own_h hw 9 rfl) (by decide) (by decide)) q59a q59b q59c (g := (mkF m 53 #[.val (.ref a1), .val .null, .val (.ref a3), .val (.int (0 : Int32)), .unset, .unset] [(.int (0 : Int32)), (.ref a3)])) rfl (by rw [hml]; rfl) (Steps.refl _) (argsL := [(.int (0 : Int32))]) (rest := []) (lenOf pd_12 rfl) rfl (by show 2 * 0 + _ ≤ _; exact Nat.le_of_eq rfl) (hb hby d15_53) (fun _ _ => ⟨rfl, e53, (by decide : 3 + 0 ≤ _), (by decide : 6 + 0 ≤ _)⟩)
  dsimp only [Pt.U, Pt.locs, Pt.cells, Pt.slots] at X59 l59 y59 z59 st59 hQ59
  subst y59 z59
  obtain ⟨rfl, N59q, e59⟩ := hQ59
  have N59 := Fr.app N49 N59q
  rw [← l59] at N59
  have go66 : ∀ t, Steps p.tables e below (T59.setTop (mkF m 58 #[.val (.ref a1), .val .null, .val (.ref a3), .val (.int (0 : Int32)), .unset, .unset] [(.ref l0)])) t → Steps p.tables e below (s₁.setTop (entryFrame m #[(.ref a1), .null, (.ref a3)] 6)) t := fun t kt => go58 t (by
      refine st59.trans ?_
      show Steps p.tables e below (T59.setTop (mkF m 58 #[.val (.ref a1), .val .null, .val (.ref a3), .val (.int (0 : Int32)), .unset, .unset] [(.ref l0)])) _
      exact kt)
  have fq68 := ((fq41.ext E35).wr W49)
  obtain ⟨T67, X67, e67, st67⟩ := castY X59 hx hZ hown (own_h hw 148 rfl) e59 (Ins.self fq68) (g := (mkF m 58 #[.val (.ref a1), .val .null, .val (.ref a3), .val (.int (0 : Int32)), .unset, .unset] [(.ref l0)])) rfl rfl (hb hby d15_58)
  have go69 : ∀ t, Steps p.tables e below (T67.setTop (mkF m 61 #[.val (.ref a1), .val .null, .val (.ref a3), .val (.int (0 : Int32)), .unset, .unset] [(.ref l0)])) t → Steps p.tables e below (s₁.setTop (entryFrame m #[(.ref a1), .null, (.ref a3)] 6)) t := fun t kt => go66 t (by
      refine st67 _ ?_
      show Steps p.tables e below (T67.setTop (mkF m 61 #[.val (.ref a1), .val .null, .val (.ref a3), .val (.int (0 : Int32)), .unset, .unset] [(.ref l0)])) _
      exact kt)
  have fr71 := ((FT0.ext E6).other W10 (Or.inl nl0))
  have fr72 := (((fr71.ext E16).other W29 (Or.inl nl0)).ext E35)
  have fq73 := (fr72.other W49 (Or.inl nl0))
  obtain ⟨cq70, kq70, q70a, q70b, q70c⟩ := isOf hZ e67 fq68
  obtain ⟨_, _, ⟨T70, L70, k70, n70⟩, -, X70, ⟨Lc70, hQ70, l70, y70, z70⟩, st70⟩ := X67.virtualBack hx (y := own_m13) (z := own_m13) hown (mvT hZ (own_h hw 150 rfl)) (mvT hZ (own_h hw 151 rfl)) (notFace_of_selects (args := #[]) (mvT hZ (own_h hw 153 rfl))) (mvT hZ (own_h hw 153 rfl)) (mvT hZ (own_h hw 152 rfl)) (by decide) (backOf (W := 0) (rm21 l Z a0 hw [] l0 t0 h49 n0 fq73) hZ (own_h hw 154 rfl) (own_h hw 35 rfl) (by decide) (by decide)) q70a q70c (g := (mkF m 61 #[.val (.ref a1), .val .null, .val (.ref a3), .val (.int (0 : Int32)), .unset, .unset] [(.ref l0)])) rfl (by rw [hml]; rfl) (Steps.refl _) (argsL := []) (rest := []) (lenOf pd_14 rfl) rfl (by show 2 * 0 + _ ≤ _; exact Nat.le_of_eq rfl) (hb hby d15_61) (fun _ _ => ⟨rfl, e67, (by decide : 3 + 0 ≤ _), (by decide : 6 + 0 ≤ _)⟩)
  dsimp only [Pt.U, Pt.locs, Pt.cells, Pt.slots] at X70 l70 y70 z70 st70 hQ70
  subst y70 z70
  obtain ⟨rfl, N70q, e70⟩ := hQ70
  have N70 := Fr.app N59 N70q
  rw [← l70] at N70
  have go74 : ∀ t, Steps p.tables e below (T70.setTop (mkF m 64 #[.val (.ref a1), .val .null, .val (.ref a3), .val (.int (0 : Int32)), .unset, .unset] [(.ref t0)])) t → Steps p.tables e below (s₁.setTop (entryFrame m #[(.ref a1), .null, (.ref a3)] 6)) t := fun t kt => go69 t (by
      refine st70.trans ?_
      show Steps p.tables e below (T70.setTop (mkF m 64 #[.val (.ref a1), .val .null, .val (.ref a3), .val (.int (0 : Int32)), .unset, .unset] [(.ref t0)])) _
      exact kt)
  have fq76 := ((fq43.ext E35).wr W49)
  obtain ⟨T75, X75, e75, st75⟩ := castY X70 hx hZ hown (own_h hw 155 rfl) e70 (Ins.of_exa fq76 (own_h hw 156 rfl)) (g := (mkF m 64 #[.val (.ref a1), .val .null, .val (.ref a3), .val (.int (0 : Int32)), .unset, .unset] [(.ref t0)])) rfl rfl (hb hby d15_64)
  have go77 : ∀ t, Steps p.tables e below (T75.setTop (mkF m 70 #[.val (.ref a1), .val .null, .val (.ref a3), .val (.int (0 : Int32)), .val (.ref t0), .unset] [(.ref a1)])) t → Steps p.tables e below (s₁.setTop (entryFrame m #[(.ref a1), .null, (.ref a3)] 6)) t := fun t kt => go74 t (by
      refine st75 _ ?_
      show Steps p.tables e below (T75.setTop (mkF m 67 #[.val (.ref a1), .val .null, .val (.ref a3), .val (.int (0 : Int32)), .unset, .unset] [(.ref t0)])) _
      refine XS.astore X75.here hx rfl (hb hby d15_67) rfl rfl (l' := #[.val (.ref a1), .val .null, .val (.ref a3), .val (.int (0 : Int32)), .val (.ref t0), .unset]) rfl ?_
      show Steps p.tables e below (T75.setTop (mkF m 69 #[.val (.ref a1), .val .null, .val (.ref a3), .val (.int (0 : Int32)), .val (.ref t0), .unset] [])) _
      refine XS.aloadN X75.here hx rfl (hb hby d15_69) rfl rfl ?_
      show Steps p.tables e below (T75.setTop (mkF m 70 #[.val (.ref a1), .val .null, .val (.ref a3), .val (.int (0 : Int32)), .val (.ref t0), .unset] [(.ref a1)])) _
      exact kt)
  obtain ⟨T78, X78, e78, st78⟩ := getF X75 hx hZ hown (host := "") (Or.inl (own_h hw 120 rfl)) Via.refl e75 fq52 (g := (mkF m 70 #[.val (.ref a1), .val .null, .val (.ref a3), .val (.int (0 : Int32)), .val (.ref t0), .unset] [(.ref a1)])) rfl rfl (hb hby d15_70)
  have go79 : ∀ t, Steps p.tables e below (T78.setTop (mkF m 76 #[.val (.ref a1), .val .null, .val (.ref a3), .val (.int (0 : Int32)), .val (.ref t0), .unset] [(.int (0 : Int32)), (.ref a3), (.int (0 : Int32)), (.ref b6)])) t → Steps p.tables e below (s₁.setTop (entryFrame m #[(.ref a1), .null, (.ref a3)] 6)) t := fun t kt => go77 t (by
      refine st78 _ ?_
      show Steps p.tables e below (T78.setTop (mkF m 73 #[.val (.ref a1), .val .null, .val (.ref a3), .val (.int (0 : Int32)), .val (.ref t0), .unset] [(.ref b6)])) _
      refine XS.iloadN X78.here hx rfl (hb hby d15_73) rfl ?_
      show Steps p.tables e below (T78.setTop (mkF m 74 #[.val (.ref a1), .val .null, .val (.ref a3), .val (.int (0 : Int32)), .val (.ref t0), .unset] [(.int (0 : Int32)), (.ref b6)])) _
      refine XS.aloadN X78.here hx rfl (hb hby d15_74) rfl rfl ?_
      show Steps p.tables e below (T78.setTop (mkF m 75 #[.val (.ref a1), .val .null, .val (.ref a3), .val (.int (0 : Int32)), .val (.ref t0), .unset] [(.ref a3), (.int (0 : Int32)), (.ref b6)])) _
      refine XS.iloadN X78.here hx rfl (hb hby d15_75) rfl ?_
      show Steps p.tables e below (T78.setTop (mkF m 76 #[.val (.ref a1), .val .null, .val (.ref a3), .val (.int (0 : Int32)), .val (.ref t0), .unset] [(.int (0 : Int32)), (.ref a3), (.int (0 : Int32)), (.ref b6)])) _
      exact kt)
  obtain ⟨cq80, kq80, q80a, q80b, q80c⟩ := isOf hZ e78 fq64
  obtain ⟨_, _, ⟨T80, L80, k80, n80⟩, -, X80, ⟨Lc80, hQ80, l80, y80, z80⟩, st80⟩ := X78.interfaceBack hx (xi := own_m11) (y := own_m12) hown (mvT hZ (own_h hw 127 rfl)) (mvT hZ (own_h hw 128 rfl)) (mvT hZ (own_h hw 129 rfl)) (mvT hZ (own_h hw 130 rfl)) (mvT hZ (own_h hw 131 rfl)) (mvT hZ (own_h hw 132 rfl)) (mvT hZ (own_h hw 133 rfl)) (mvT hZ (own_h hw 117 rfl)) (by decide) (backOf (W := 2) (rm17 l Z a0 hw [] a3 (0 : Int32) ea l0 [(.ref l0), (.ref l1), .null, .null, .null, .null, .null, .null, .null, .null] 0 (2 : Int32) h49 n0 fq62 (fq63).av (by decide) (by decide) rfl fq64 fq65 (by decide)) hZ (own_h hw 134 rfl) (own_h hw 9 rfl) (by decide) (by decide)) q80a q80b q80c (g := (mkF m 76 #[.val (.ref a1), .val .null, .val (.ref a3), .val (.int (0 : Int32)), .val (.ref t0), .unset] [(.int (0 : Int32)), (.ref a3), (.int (0 : Int32)), (.ref b6)])) rfl (by rw [hml]; rfl) (Steps.refl _) (argsL := [(.int (0 : Int32))]) (rest := [(.int (0 : Int32)), (.ref b6)]) (lenOf pd_12 rfl) rfl (by show 2 * 0 + _ ≤ _; exact Nat.le_of_eq rfl) (hb hby d15_76) (fun _ _ => ⟨rfl, e78, (by decide : 3 + 0 ≤ _), (by decide : 6 + 0 ≤ _)⟩)
  dsimp only [Pt.U, Pt.locs, Pt.cells, Pt.slots] at X80 l80 y80 z80 st80 hQ80
  subst y80 z80
  obtain ⟨rfl, N80q, e80⟩ := hQ80
  have N80 := Fr.app N70 N80q
  rw [← l80] at N80
  have go81 : ∀ t, Steps p.tables e below (T80.setTop (mkF m 81 #[.val (.ref a1), .val .null, .val (.ref a3), .val (.int (0 : Int32)), .val (.ref t0), .unset] [(.ref l0), (.int (0 : Int32)), (.ref b6)])) t → Steps p.tables e below (s₁.setTop (entryFrame m #[(.ref a1), .null, (.ref a3)] 6)) t := fun t kt => go79 t (by
      refine st80.trans ?_
      show Steps p.tables e below (T80.setTop (mkF m 81 #[.val (.ref a1), .val .null, .val (.ref a3), .val (.int (0 : Int32)), .val (.ref t0), .unset] [(.ref l0), (.int (0 : Int32)), (.ref b6)])) _
      exact kt)
  obtain ⟨T82, X82, e82, st82⟩ := castY X80 hx hZ hown (own_h hw 148 rfl) e80 (Ins.self fq68) (g := (mkF m 81 #[.val (.ref a1), .val .null, .val (.ref a3), .val (.int (0 : Int32)), .val (.ref t0), .unset] [(.ref l0), (.int (0 : Int32)), (.ref b6)])) rfl rfl (hb hby d15_81)
  have go83 : ∀ t, Steps p.tables e below (T82.setTop (mkF m 84 #[.val (.ref a1), .val .null, .val (.ref a3), .val (.int (0 : Int32)), .val (.ref t0), .unset] [(.ref l0), (.int (0 : Int32)), (.ref b6)])) t → Steps p.tables e below (s₁.setTop (entryFrame m #[(.ref a1), .null, (.ref a3)] 6)) t := fun t kt => go81 t (by
      refine st82 _ ?_
      show Steps p.tables e below (T82.setTop (mkF m 84 #[.val (.ref a1), .val .null, .val (.ref a3), .val (.int (0 : Int32)), .val (.ref t0), .unset] [(.ref l0), (.int (0 : Int32)), (.ref b6)])) _
      exact kt)
  have fr85 := ((FS0.ext E6).other W10 (Or.inl nl0))
  have fr86 := (((fr85.ext E16).other W29 (Or.inl nl0)).ext E35)
  have fq87 := (fr86.other W49 (Or.inl nl0))
  obtain ⟨cq84, kq84, q84a, q84b, q84c⟩ := isOf hZ e82 fq68
  obtain ⟨_, _, ⟨T84, L84, k84, n84⟩, -, X84, ⟨Lc84, hQ84, l84, y84, z84⟩, st84⟩ := X82.virtualBack hx (y := own_m14) (z := own_m14) hown (mvT hZ (own_h hw 157 rfl)) (mvT hZ (own_h hw 158 rfl)) (notFace_of_selects (args := #[]) (mvT hZ (own_h hw 160 rfl))) (mvT hZ (own_h hw 160 rfl)) (mvT hZ (own_h hw 159 rfl)) (by decide) (backOf (W := 2) (rm22 l Z a0 hw [] l0 s0 h49 n0 fq87) hZ (own_h hw 161 rfl) (own_h hw 35 rfl) (by decide) (by decide)) q84a q84c (g := (mkF m 84 #[.val (.ref a1), .val .null, .val (.ref a3), .val (.int (0 : Int32)), .val (.ref t0), .unset] [(.ref l0), (.int (0 : Int32)), (.ref b6)])) rfl (by rw [hml]; rfl) (Steps.refl _) (argsL := []) (rest := [(.int (0 : Int32)), (.ref b6)]) (lenOf pd_11 rfl) rfl (by show 2 * 0 + _ ≤ _; exact Nat.le_of_eq rfl) (hb hby d15_84) (fun _ _ => ⟨rfl, e82, (by decide : 3 + 0 ≤ _), (by decide : 6 + 0 ≤ _)⟩)
  dsimp only [Pt.U, Pt.locs, Pt.cells, Pt.slots] at X84 l84 y84 z84 st84 hQ84
  subst y84 z84
  obtain ⟨rfl, N84q, e84⟩ := hQ84
  have N84 := Fr.app N80 N84q
  rw [← l84] at N84
  have go88 : ∀ t, Steps p.tables e below (T84.setTop (mkF m 87 #[.val (.ref a1), .val .null, .val (.ref a3), .val (.int (0 : Int32)), .val (.ref t0), .unset] [(.int s0), (.int (0 : Int32)), (.ref b6)])) t → Steps p.tables e below (s₁.setTop (entryFrame m #[(.ref a1), .null, (.ref a3)] 6)) t := fun t kt => go83 t (by
      refine st84.trans ?_
      show Steps p.tables e below (T84.setTop (mkF m 87 #[.val (.ref a1), .val .null, .val (.ref a3), .val (.int (0 : Int32)), .val (.ref t0), .unset] [(.int s0), (.int (0 : Int32)), (.ref b6)])) _
      exact kt)
  obtain ⟨c89, Ar89, q89⟩ := id fq55
  obtain ⟨T89, h89, X89, e89, W89, st89⟩ := stI X84 hx hZ e84 Ar89 (j := (0 : Int32)) (own_inb q89 (n := 2) rfl (by decide) (by decide)) (g := (mkF m 87 #[.val (.ref a1), .val .null, .val (.ref a3), .val (.int (0 : Int32)), .val (.ref t0), .unset] [(.int s0), (.int (0 : Int32)), (.ref b6)])) rfl rfl (hb hby d15_87)
  have V89 : own_AV Z h89 b6 .int [(.int s0), (.int (0 : Int32))] := own_AV.set Ar89 q89 W89 (i := 0) (by decide) rfl
  obtain ⟨Ls89, X89, N89⟩ := own_loc X89 (Fr.snoc X89 N84 gb6)
  have go90 : ∀ t, Steps p.tables e below (T89.setTop (mkF m 89 #[.val (.ref a1), .val .null, .val (.ref a3), .val (.int (0 : Int32)), .val (.ref t0), .unset] [(.ref a1)])) t → Steps p.tables e below (s₁.setTop (entryFrame m #[(.ref a1), .null, (.ref a3)] 6)) t := fun t kt => go88 t (by
      refine st89 _ ?_
      show Steps p.tables e below (T89.setTop (mkF m 88 #[.val (.ref a1), .val .null, .val (.ref a3), .val (.int (0 : Int32)), .val (.ref t0), .unset] [])) _
      refine XS.aloadN X89.here hx rfl (hb hby d15_88) rfl rfl ?_
      show Steps p.tables e below (T89.setTop (mkF m 89 #[.val (.ref a1), .val .null, .val (.ref a3), .val (.int (0 : Int32)), .val (.ref t0), .unset] [(.ref a1)])) _
      exact kt)
  have fr91 := ((Fw29.ext E35).other W49 (Or.inr (slot_ne (Or.inr (own_h hw 124 rfl)) (Or.inr (own_h hw 126 rfl)) (by decide) (t := (.array .long)) (t' := (.array .long)) (by decide) (by decide))))
  have fq92 := (fr91.other W89 (Or.inl ne_a1_b6))
  obtain ⟨T93, X93, e93, st93⟩ := getF X89 hx hZ hown (host := "") (Or.inl (own_h hw 123 rfl)) Via.refl e89 fq92 (g := (mkF m 89 #[.val (.ref a1), .val .null, .val (.ref a3), .val (.int (0 : Int32)), .val (.ref t0), .unset] [(.ref a1)])) rfl rfl (hb hby d15_89)
  have go94 : ∀ t, Steps p.tables e below (T93.setTop (mkF m 95 #[.val (.ref a1), .val .null, .val (.ref a3), .val (.int (0 : Int32)), .val (.ref t0), .unset] [(.ref t0), (.int (0 : Int32)), (.ref b16)])) t → Steps p.tables e below (s₁.setTop (entryFrame m #[(.ref a1), .null, (.ref a3)] 6)) t := fun t kt => go90 t (by
      refine st93 _ ?_
      show Steps p.tables e below (T93.setTop (mkF m 92 #[.val (.ref a1), .val .null, .val (.ref a3), .val (.int (0 : Int32)), .val (.ref t0), .unset] [(.ref b16)])) _
      refine XS.iloadN X93.here hx rfl (hb hby d15_92) rfl ?_
      show Steps p.tables e below (T93.setTop (mkF m 93 #[.val (.ref a1), .val .null, .val (.ref a3), .val (.int (0 : Int32)), .val (.ref t0), .unset] [(.int (0 : Int32)), (.ref b16)])) _
      refine XS.aload X93.here hx rfl (hb hby d15_93) rfl rfl ?_
      show Steps p.tables e below (T93.setTop (mkF m 95 #[.val (.ref a1), .val .null, .val (.ref a3), .val (.int (0 : Int32)), .val (.ref t0), .unset] [(.ref t0), (.int (0 : Int32)), (.ref b16)])) _
      exact kt)
  have fr96 := ((FL0.ext E6).other W10 (Or.inl nt0))
  have fr97 := (((fr96.ext E16).other W29 (Or.inl nt0)).ext E35)
  have fq98 := ((fr97.other W49 (Or.inl nt0)).other W89 (Or.inl ne_t0_b6))
  have fq99 := (fq76.wr W89)
  obtain ⟨cq95, kq95, q95a, q95b, q95c⟩ := isOf hZ e93 fq99
  obtain ⟨_, _, ⟨T95, L95, k95, n95⟩, -, X95, ⟨Lc95, hQ95, l95, y95, z95⟩, st95⟩ := X93.interfaceBack hx (xi := own_m15) (y := own_m16) hown (mvT hZ (own_h hw 162 rfl)) (mvT hZ (own_h hw 163 rfl)) (mvT hZ (own_h hw 164 rfl)) (mvT hZ (own_h hw 165 rfl)) (mvT hZ (own_h hw 166 rfl)) (mvT hZ (own_h hw 167 rfl)) (mvT hZ (own_h hw 168 rfl)) (mvT hZ (own_h hw 156 rfl)) (by decide) (backOf (W := 2) (rm23 l Z a0 hw [] t0 f0 h89 n0 fq98) hZ (own_h hw 169 rfl) (own_h hw 46 rfl) (by decide) (by decide)) q95a q95b q95c (g := (mkF m 95 #[.val (.ref a1), .val .null, .val (.ref a3), .val (.int (0 : Int32)), .val (.ref t0), .unset] [(.ref t0), (.int (0 : Int32)), (.ref b16)])) rfl (by rw [hml]; rfl) (Steps.refl _) (argsL := []) (rest := [(.int (0 : Int32)), (.ref b16)]) (lenOf pd_15 rfl) rfl (by show 2 * 0 + _ ≤ _; exact Nat.le_of_eq rfl) (hb hby d15_95) (fun _ _ => ⟨rfl, e93, (by decide : 3 + 0 ≤ _), (by decide : 6 + 0 ≤ _)⟩)
  dsimp only [Pt.U, Pt.locs, Pt.cells, Pt.slots] at X95 l95 y95 z95 st95 hQ95
  subst y95 z95
  obtain ⟨rfl, N95q, e95⟩ := hQ95
  have N95 := Fr.app N89 N95q
  rw [← l95] at N95
  have go100 : ∀ t, Steps p.tables e below (T95.setTop (mkF m 100 #[.val (.ref a1), .val .null, .val (.ref a3), .val (.int (0 : Int32)), .val (.ref t0), .unset] [(.long f0), (.int (0 : Int32)), (.ref b16)])) t → Steps p.tables e below (s₁.setTop (entryFrame m #[(.ref a1), .null, (.ref a3)] 6)) t := fun t kt => go94 t (by
      refine st95.trans ?_
      show Steps p.tables e below (T95.setTop (mkF m 100 #[.val (.ref a1), .val .null, .val (.ref a3), .val (.int (0 : Int32)), .val (.ref t0), .unset] [(.long f0), (.int (0 : Int32)), (.ref b16)])) _
      exact kt)
  have fr101 := ((fq38.ext E35).other W49 (Ne.symm ne_a1_b16))
  have fq102 := (fr101.other W89 (Ne.symm ne_b6_b16))
  obtain ⟨c103, Ar103, q103⟩ := id fq102
  obtain ⟨T103, h103, X103, e103, W103, st103⟩ := stJ X95 hx hZ e95 Ar103 (j := (0 : Int32)) (own_inb q103 (n := 2) rfl (by decide) (by decide)) (g := (mkF m 100 #[.val (.ref a1), .val .null, .val (.ref a3), .val (.int (0 : Int32)), .val (.ref t0), .unset] [(.long f0), (.int (0 : Int32)), (.ref b16)])) rfl rfl (hb hby d15_100)
  have V103 : own_AV Z h103 b16 .long [(.long f0), (.long (0 : Int64))] := own_AV.set Ar103 q103 W103 (i := 0) (by decide) rfl
  obtain ⟨Ls103, X103, N103⟩ := own_loc X103 (Fr.snoc X103 N95 gb16)
  have go104 : ∀ t, Steps p.tables e below (T103.setTop (mkF m 102 #[.val (.ref a1), .val .null, .val (.ref a3), .val (.int (0 : Int32)), .val (.ref t0), .unset] [(.ref a1)])) t → Steps p.tables e below (s₁.setTop (entryFrame m #[(.ref a1), .null, (.ref a3)] 6)) t := fun t kt => go100 t (by
      refine st103 _ ?_
      show Steps p.tables e below (T103.setTop (mkF m 101 #[.val (.ref a1), .val .null, .val (.ref a3), .val (.int (0 : Int32)), .val (.ref t0), .unset] [])) _
      refine XS.aloadN X103.here hx rfl (hb hby d15_101) rfl rfl ?_
      show Steps p.tables e below (T103.setTop (mkF m 102 #[.val (.ref a1), .val .null, .val (.ref a3), .val (.int (0 : Int32)), .val (.ref t0), .unset] [(.ref a1)])) _
      exact kt)
  have fq105 := ((Fw49.other W89 (Or.inl ne_a1_b6)).other W103 (Or.inl ne_a1_b16))
  obtain ⟨T106, X106, e106, st106⟩ := getF X103 hx hZ hown (host := "") (Or.inl (own_h hw 125 rfl)) Via.refl e103 fq105 (g := (mkF m 102 #[.val (.ref a1), .val .null, .val (.ref a3), .val (.int (0 : Int32)), .val (.ref t0), .unset] [(.ref a1)])) rfl rfl (hb hby d15_102)
  have go107 : ∀ t, Steps p.tables e below (T106.setTop (mkF m 108 #[.val (.ref a1), .val .null, .val (.ref a3), .val (.int (0 : Int32)), .val (.ref t0), .unset] [(.ref t0), (.int (0 : Int32)), (.ref b35)])) t → Steps p.tables e below (s₁.setTop (entryFrame m #[(.ref a1), .null, (.ref a3)] 6)) t := fun t kt => go104 t (by
      refine st106 _ ?_
      show Steps p.tables e below (T106.setTop (mkF m 105 #[.val (.ref a1), .val .null, .val (.ref a3), .val (.int (0 : Int32)), .val (.ref t0), .unset] [(.ref b35)])) _
      refine XS.iloadN X106.here hx rfl (hb hby d15_105) rfl ?_
      show Steps p.tables e below (T106.setTop (mkF m 106 #[.val (.ref a1), .val .null, .val (.ref a3), .val (.int (0 : Int32)), .val (.ref t0), .unset] [(.int (0 : Int32)), (.ref b35)])) _
      refine XS.aload X106.here hx rfl (hb hby d15_106) rfl rfl ?_
      show Steps p.tables e below (T106.setTop (mkF m 108 #[.val (.ref a1), .val .null, .val (.ref a3), .val (.int (0 : Int32)), .val (.ref t0), .unset] [(.ref t0), (.int (0 : Int32)), (.ref b35)])) _
      exact kt)
  have fq109 := (fq99.wr W103)
  obtain ⟨T108, X108, e108, st108⟩ := instY X106 hx hZ hown (own_h hw 170 rfl) e106 (Ins.of_exa fq109 (own_h hw 171 rfl)) (g := (mkF m 108 #[.val (.ref a1), .val .null, .val (.ref a3), .val (.int (0 : Int32)), .val (.ref t0), .unset] [(.ref t0), (.int (0 : Int32)), (.ref b35)])) rfl rfl (hb hby d15_108)
  have hc111_110 : ¬ ((1 : Int32) = (0 : Int32)) := (by decide)
  have go111 : ∀ t, Steps p.tables e below (T108.setTop (mkF m 116 #[.val (.ref a1), .val .null, .val (.ref a3), .val (.int (0 : Int32)), .val (.ref t0), .unset] [(.ref t0), (.int (0 : Int32)), (.ref b35)])) t → Steps p.tables e below (s₁.setTop (entryFrame m #[(.ref a1), .null, (.ref a3)] 6)) t := fun t kt => go107 t (by
      refine st108 _ ?_
      show Steps p.tables e below (T108.setTop (mkF m 111 #[.val (.ref a1), .val .null, .val (.ref a3), .val (.int (0 : Int32)), .val (.ref t0), .unset] [(.int (1 : Int32)), (.int (0 : Int32)), (.ref b35)])) _
      refine XS.ifNo X108.here hx rfl (hb hby d15_111) rfl ((if0 _ _).trans (feq hc111_110).1) ?_
      show Steps p.tables e below (T108.setTop (mkF m 114 #[.val (.ref a1), .val .null, .val (.ref a3), .val (.int (0 : Int32)), .val (.ref t0), .unset] [(.int (0 : Int32)), (.ref b35)])) _
      refine XS.aload X108.here hx rfl (hb hby d15_114) rfl rfl ?_
      show Steps p.tables e below (T108.setTop (mkF m 116 #[.val (.ref a1), .val .null, .val (.ref a3), .val (.int (0 : Int32)), .val (.ref t0), .unset] [(.ref t0), (.int (0 : Int32)), (.ref b35)])) _
      exact kt)
  obtain ⟨T112, X112, e112, st112⟩ := castY X108 hx hZ hown (own_h hw 170 rfl) e108 (Ins.of_exa fq109 (own_h hw 171 rfl)) (g := (mkF m 116 #[.val (.ref a1), .val .null, .val (.ref a3), .val (.int (0 : Int32)), .val (.ref t0), .unset] [(.ref t0), (.int (0 : Int32)), (.ref b35)])) rfl rfl (hb hby d15_116)
  have go113 : ∀ t, Steps p.tables e below (T112.setTop (mkF m 123 #[.val (.ref a1), .val .null, .val (.ref a3), .val (.int (0 : Int32)), .val (.ref t0), .val (.ref t0)] [(.ref t0), (.int (0 : Int32)), (.ref b35)])) t → Steps p.tables e below (s₁.setTop (entryFrame m #[(.ref a1), .null, (.ref a3)] 6)) t := fun t kt => go111 t (by
      refine st112 _ ?_
      show Steps p.tables e below (T112.setTop (mkF m 119 #[.val (.ref a1), .val .null, .val (.ref a3), .val (.int (0 : Int32)), .val (.ref t0), .unset] [(.ref t0), (.int (0 : Int32)), (.ref b35)])) _
      refine XS.astore X112.here hx rfl (hb hby d15_119) rfl rfl (l' := #[.val (.ref a1), .val .null, .val (.ref a3), .val (.int (0 : Int32)), .val (.ref t0), .val (.ref t0)]) rfl ?_
      show Steps p.tables e below (T112.setTop (mkF m 121 #[.val (.ref a1), .val .null, .val (.ref a3), .val (.int (0 : Int32)), .val (.ref t0), .val (.ref t0)] [(.int (0 : Int32)), (.ref b35)])) _
      refine XS.aload X112.here hx rfl (hb hby d15_121) rfl rfl ?_
      show Steps p.tables e below (T112.setTop (mkF m 123 #[.val (.ref a1), .val .null, .val (.ref a3), .val (.int (0 : Int32)), .val (.ref t0), .val (.ref t0)] [(.ref t0), (.int (0 : Int32)), (.ref b35)])) _
      exact kt)
  have fr115 := ((FH0.ext E6).other W10 (Or.inl nt0))
  have fr116 := (((fr115.ext E16).other W29 (Or.inl nt0)).ext E35)
  have fq117 := (((fr116.other W49 (Or.inl nt0)).other W89 (Or.inl ne_t0_b6)).other W103 (Or.inl ne_t0_b16))
  obtain ⟨cq114, kq114, q114a, q114b, q114c⟩ := isOf hZ e112 fq109
  obtain ⟨_, _, ⟨T114, L114, k114, n114⟩, -, X114, ⟨Lc114, hQ114, l114, y114, z114⟩, st114⟩ := X112.interfaceBack hx (xi := own_m17) (y := own_m18) hown (mvT hZ (own_h hw 172 rfl)) (mvT hZ (own_h hw 173 rfl)) (mvT hZ (own_h hw 174 rfl)) (mvT hZ (own_h hw 175 rfl)) (mvT hZ (own_h hw 176 rfl)) (mvT hZ (own_h hw 177 rfl)) (mvT hZ (own_h hw 178 rfl)) (mvT hZ (own_h hw 171 rfl)) (by decide) (backOf (W := 2) (rm24 l Z a0 hw [] t0 u0 h103 n0 fq117) hZ (own_h hw 179 rfl) (own_h hw 46 rfl) (by decide) (by decide)) q114a q114b q114c (g := (mkF m 123 #[.val (.ref a1), .val .null, .val (.ref a3), .val (.int (0 : Int32)), .val (.ref t0), .val (.ref t0)] [(.ref t0), (.int (0 : Int32)), (.ref b35)])) rfl (by rw [hml]; rfl) (Steps.refl _) (argsL := []) (rest := [(.int (0 : Int32)), (.ref b35)]) (lenOf pd_15 rfl) rfl (by show 2 * 0 + _ ≤ _; exact Nat.le_of_eq rfl) (hb hby d15_123) (fun _ _ => ⟨rfl, e112, (by decide : 3 + 0 ≤ _), (by decide : 6 + 0 ≤ _)⟩)
  dsimp only [Pt.U, Pt.locs, Pt.cells, Pt.slots] at X114 l114 y114 z114 st114 hQ114
  subst y114 z114
  obtain ⟨rfl, N114q, e114⟩ := hQ114
  have N114 := Fr.app N103 N114q
  rw [← l114] at N114
  have go118 : ∀ t, Steps p.tables e below (T114.setTop (mkF m 137 #[.val (.ref a1), .val .null, .val (.ref a3), .val (.int (0 : Int32)), .val (.ref t0), .val (.ref t0)] [(.long u0), (.int (0 : Int32)), (.ref b35)])) t → Steps p.tables e below (s₁.setTop (entryFrame m #[(.ref a1), .null, (.ref a3)] 6)) t := fun t kt => go113 t (by
      refine st114.trans ?_
      show Steps p.tables e below (T114.setTop (mkF m 128 #[.val (.ref a1), .val .null, .val (.ref a3), .val (.int (0 : Int32)), .val (.ref t0), .val (.ref t0)] [(.long u0), (.int (0 : Int32)), (.ref b35)])) _
      refine XS.goto X114.here hx rfl (pc0 := 128) (pc' := 137) rfl (hb hby d15_128) (by decide) (by decide) ?_
      show Steps p.tables e below (T114.setTop (mkF m 137 #[.val (.ref a1), .val .null, .val (.ref a3), .val (.int (0 : Int32)), .val (.ref t0), .val (.ref t0)] [(.long u0), (.int (0 : Int32)), (.ref b35)])) _
      exact kt)
  have fr119 := ((V35.other W49 (Ne.symm ne_a1_b35)).other W89 (Ne.symm ne_b6_b35))
  have fq120 := (fr119.other W103 (Ne.symm ne_b16_b35))
  obtain ⟨c121, Ar121, q121⟩ := id fq120
  obtain ⟨T121, h121, X121, e121, W121, st121⟩ := stJ X114 hx hZ e114 Ar121 (j := (0 : Int32)) (own_inb q121 (n := 2) rfl (by decide) (by decide)) (g := (mkF m 137 #[.val (.ref a1), .val .null, .val (.ref a3), .val (.int (0 : Int32)), .val (.ref t0), .val (.ref t0)] [(.long u0), (.int (0 : Int32)), (.ref b35)])) rfl rfl (hb hby d15_137)
  have V121 : own_AV Z h121 b35 .long [(.long u0), (.long (0 : Int64))] := own_AV.set Ar121 q121 W121 (i := 0) (by decide) rfl
  obtain ⟨Ls121, X121, N121⟩ := own_loc X121 (Fr.snoc X121 N114 gb35)
  have go122 : ∀ t, Steps p.tables e below (T121.setTop (mkF m 141 #[.val (.ref a1), .val .null, .val (.ref a3), .val (.int ((0 : Int32) + (1 : Int32))), .val (.ref t0), .val (.ref t0)] [])) t → Steps p.tables e below (s₁.setTop (entryFrame m #[(.ref a1), .null, (.ref a3)] 6)) t := fun t kt => go118 t (by
      refine st121 _ ?_
      show Steps p.tables e below (T121.setTop (mkF m 138 #[.val (.ref a1), .val .null, .val (.ref a3), .val (.int (0 : Int32)), .val (.ref t0), .val (.ref t0)] [])) _
      refine XS.iinc X121.here hx rfl (hb hby d15_138) rfl (l' := #[.val (.ref a1), .val .null, .val (.ref a3), .val (.int ((0 : Int32) + (1 : Int32))), .val (.ref t0), .val (.ref t0)]) rfl ?_
      show Steps p.tables e below (T121.setTop (mkF m 141 #[.val (.ref a1), .val .null, .val (.ref a3), .val (.int ((0 : Int32) + (1 : Int32))), .val (.ref t0), .val (.ref t0)] [])) _
      exact kt)
  rw [show ((0 : Int32) + (1 : Int32)) = (1 : Int32) from by decide] at go122
  have go123 : ∀ t, Steps p.tables e below (T121.setTop (mkF m 44 #[.val (.ref a1), .val .null, .val (.ref a3), .val (.int (1 : Int32)), .val (.ref t0), .val (.ref t0)] [(.ref a1), (.int (1 : Int32))])) t → Steps p.tables e below (s₁.setTop (entryFrame m #[(.ref a1), .null, (.ref a3)] 6)) t := fun t kt => go122 t (by
      refine XS.goto X121.here hx rfl (pc0 := 141) (pc' := 42) rfl (hb hby d15_141) (by decide) (by decide) ?_
      show Steps p.tables e below (T121.setTop (mkF m 42 #[.val (.ref a1), .val .null, .val (.ref a3), .val (.int (1 : Int32)), .val (.ref t0), .val (.ref t0)] [])) _
      refine XS.iloadN X121.here hx rfl (hb hby d15_42) rfl ?_
      show Steps p.tables e below (T121.setTop (mkF m 43 #[.val (.ref a1), .val .null, .val (.ref a3), .val (.int (1 : Int32)), .val (.ref t0), .val (.ref t0)] [(.int (1 : Int32))])) _
      refine XS.aloadN X121.here hx rfl (hb hby d15_43) rfl rfl ?_
      show Steps p.tables e below (T121.setTop (mkF m 44 #[.val (.ref a1), .val .null, .val (.ref a3), .val (.int (1 : Int32)), .val (.ref t0), .val (.ref t0)] [(.ref a1), (.int (1 : Int32))])) _
      exact kt)
  have fr124 := ((fq52.other W89 (Or.inl ne_a1_b6)).other W103 (Or.inl ne_a1_b16))
  have fq125 := (fr124.other W121 (Or.inl ne_a1_b35))
  obtain ⟨T126, X126, e126, st126⟩ := getF X121 hx hZ hown (host := "") (Or.inl (own_h hw 120 rfl)) Via.refl e121 fq125 (g := (mkF m 44 #[.val (.ref a1), .val .null, .val (.ref a3), .val (.int (1 : Int32)), .val (.ref t0), .val (.ref t0)] [(.ref a1), (.int (1 : Int32))])) rfl rfl (hb hby d15_44)
  have go127 : ∀ t, Steps p.tables e below (T126.setTop (mkF m 47 #[.val (.ref a1), .val .null, .val (.ref a3), .val (.int (1 : Int32)), .val (.ref t0), .val (.ref t0)] [(.ref b6), (.int (1 : Int32))])) t → Steps p.tables e below (s₁.setTop (entryFrame m #[(.ref a1), .null, (.ref a3)] 6)) t := fun t kt => go123 t (by
      refine st126 _ ?_
      show Steps p.tables e below (T126.setTop (mkF m 47 #[.val (.ref a1), .val .null, .val (.ref a3), .val (.int (1 : Int32)), .val (.ref t0), .val (.ref t0)] [(.ref b6), (.int (1 : Int32))])) _
      exact kt)
  have fq128 := ((V89.other W103 ne_b6_b16).other W121 ne_b6_b35)
  obtain ⟨c129, Ar129, q129⟩ := id fq128
  have hc48_130 : (1 : Int32) < (2 : Int32) := (by decide)
  have go131 : ∀ t, Steps p.tables e below (T126.setTop (mkF m 53 #[.val (.ref a1), .val .null, .val (.ref a3), .val (.int (1 : Int32)), .val (.ref t0), .val (.ref t0)] [(.int (1 : Int32)), (.ref a3)])) t → Steps p.tables e below (s₁.setTop (entryFrame m #[(.ref a1), .null, (.ref a3)] 6)) t := fun t kt => go127 t (by
      refine X126.arraylength hx (by rw [e126]; exact Ar129.1) (State.isArrayOf_alike hZ.alike Ar129.2.1) (g := (mkF m 47 #[.val (.ref a1), .val .null, .val (.ref a3), .val (.int (1 : Int32)), .val (.ref t0), .val (.ref t0)] [(.ref b6), (.int (1 : Int32))])) rfl rfl (hb hby d15_47) _ ?_
      rw [own_len q129 (n := (2 : Int32)) rfl]
      show Steps p.tables e below (T126.setTop (mkF m 48 #[.val (.ref a1), .val .null, .val (.ref a3), .val (.int (1 : Int32)), .val (.ref t0), .val (.ref t0)] [(.int (2 : Int32)), (.int (1 : Int32))])) _
      refine XS.icmpNo X126.here hx rfl (hb hby d15_48) rfl (tlt hc48_130).2.1 ?_
      show Steps p.tables e below (T126.setTop (mkF m 51 #[.val (.ref a1), .val .null, .val (.ref a3), .val (.int (1 : Int32)), .val (.ref t0), .val (.ref t0)] [])) _
      refine XS.aloadN X126.here hx rfl (hb hby d15_51) rfl rfl ?_
      show Steps p.tables e below (T126.setTop (mkF m 52 #[.val (.ref a1), .val .null, .val (.ref a3), .val (.int (1 : Int32)), .val (.ref t0), .val (.ref t0)] [(.ref a3)])) _
      refine XS.iloadN X126.here hx rfl (hb hby d15_52) rfl ?_
      show Steps p.tables e below (T126.setTop (mkF m 53 #[.val (.ref a1), .val .null, .val (.ref a3), .val (.int (1 : Int32)), .val (.ref t0), .val (.ref t0)] [(.int (1 : Int32)), (.ref a3)])) _
      exact kt)
  have fr133 := ((fq62.other W89 (Or.inl ne_a3_b6)).other W103 (Or.inl ne_a3_b16))
  have fq134 := (fr133.other W121 (Or.inl ne_a3_b35))
  have fr135 := ((fq63.other W89 ne_ea_b6).other W103 ne_ea_b16)
  have fq136 := (fr135.other W121 ne_ea_b35)
  have fr137 := ((fq64.wr W89).wr W103)
  have fq138 := (fr137.wr W121)
  have fr139 := ((fq65.other W89 (Or.inl ne_a3_b6)).other W103 (Or.inl ne_a3_b16))
  have fq140 := (fr139.other W121 (Or.inl ne_a3_b35))
  obtain ⟨cq132, kq132, q132a, q132b, q132c⟩ := isOf hZ e126 fq138
  obtain ⟨_, _, ⟨T132, L132, k132, n132⟩, -, X132, ⟨Lc132, hQ132, l132, y132, z132⟩, st132⟩ := X126.interfaceBack hx (xi := own_m11) (y := own_m12) hown (mvT hZ (own_h hw 127 rfl)) (mvT hZ (own_h hw 128 rfl)) (mvT hZ (own_h hw 129 rfl)) (mvT hZ (own_h hw 130 rfl)) (mvT hZ (own_h hw 131 rfl)) (mvT hZ (own_h hw 132 rfl)) (mvT hZ (own_h hw 133 rfl)) (mvT hZ (own_h hw 117 rfl)) (by decide) (backOf (W := 0) (rm17 l Z a0 hw [] a3 (1 : Int32) ea l1 [(.ref l0), (.ref l1), .null, .null, .null, .null, .null, .null, .null, .null] 1 (2 : Int32) h121 n0 fq134 (fq136).av (by decide) (by decide) rfl fq138 fq140 (by decide)) hZ (own_h hw 134 rfl) (own_h hw 9 rfl) (by decide) (by decide)) q132a q132b q132c (g := (mkF m 53 #[.val (.ref a1), .val .null, .val (.ref a3), .val (.int (1 : Int32)), .val (.ref t0), .val (.ref t0)] [(.int (1 : Int32)), (.ref a3)])) rfl (by rw [hml]; rfl) (Steps.refl _) (argsL := [(.int (1 : Int32))]) (rest := []) (lenOf pd_12 rfl) rfl (by show 2 * 0 + _ ≤ _; exact Nat.le_of_eq rfl) (hb hby d15_53) (fun _ _ => ⟨rfl, e126, (by decide : 3 + 0 ≤ _), (by decide : 6 + 0 ≤ _)⟩)
  dsimp only [Pt.U, Pt.locs, Pt.cells, Pt.slots] at X132 l132 y132 z132 st132 hQ132
  subst y132 z132
  obtain ⟨rfl, N132q, e132⟩ := hQ132
  have N132 := Fr.app N121 N132q
  rw [← l132] at N132
  have go141 : ∀ t, Steps p.tables e below (T132.setTop (mkF m 58 #[.val (.ref a1), .val .null, .val (.ref a3), .val (.int (1 : Int32)), .val (.ref t0), .val (.ref t0)] [(.ref l1)])) t → Steps p.tables e below (s₁.setTop (entryFrame m #[(.ref a1), .null, (.ref a3)] 6)) t := fun t kt => go131 t (by
      refine st132.trans ?_
      show Steps p.tables e below (T132.setTop (mkF m 58 #[.val (.ref a1), .val .null, .val (.ref a3), .val (.int (1 : Int32)), .val (.ref t0), .val (.ref t0)] [(.ref l1)])) _
      exact kt)
  have fr143 := ((fq42.ext E35).wr W49)
  have fq144 := (((fr143.wr W89).wr W103).wr W121)
  obtain ⟨T142, X142, e142, st142⟩ := castY X132 hx hZ hown (own_h hw 148 rfl) e132 (Ins.self fq144) (g := (mkF m 58 #[.val (.ref a1), .val .null, .val (.ref a3), .val (.int (1 : Int32)), .val (.ref t0), .val (.ref t0)] [(.ref l1)])) rfl rfl (hb hby d15_58)
  have go145 : ∀ t, Steps p.tables e below (T142.setTop (mkF m 61 #[.val (.ref a1), .val .null, .val (.ref a3), .val (.int (1 : Int32)), .val (.ref t0), .val (.ref t0)] [(.ref l1)])) t → Steps p.tables e below (s₁.setTop (entryFrame m #[(.ref a1), .null, (.ref a3)] 6)) t := fun t kt => go141 t (by
      refine st142 _ ?_
      show Steps p.tables e below (T142.setTop (mkF m 61 #[.val (.ref a1), .val .null, .val (.ref a3), .val (.int (1 : Int32)), .val (.ref t0), .val (.ref t0)] [(.ref l1)])) _
      exact kt)
  have fr147 := ((FT1.ext E6).other W10 (Or.inl nl1))
  have fr148 := (((fr147.ext E16).other W29 (Or.inl nl1)).ext E35)
  have fr149 := (((fr148.other W49 (Or.inl nl1)).other W89 (Or.inl ne_l1_b6)).other W103 (Or.inl ne_l1_b16))
  have fq150 := (fr149.other W121 (Or.inl ne_l1_b35))
  obtain ⟨cq146, kq146, q146a, q146b, q146c⟩ := isOf hZ e142 fq144
  obtain ⟨_, _, ⟨T146, L146, k146, n146⟩, -, X146, ⟨Lc146, hQ146, l146, y146, z146⟩, st146⟩ := X142.virtualBack hx (y := own_m13) (z := own_m13) hown (mvT hZ (own_h hw 150 rfl)) (mvT hZ (own_h hw 151 rfl)) (notFace_of_selects (args := #[]) (mvT hZ (own_h hw 153 rfl))) (mvT hZ (own_h hw 153 rfl)) (mvT hZ (own_h hw 152 rfl)) (by decide) (backOf (W := 0) (rm21 l Z a0 hw [] l1 t1 h121 n0 fq150) hZ (own_h hw 154 rfl) (own_h hw 35 rfl) (by decide) (by decide)) q146a q146c (g := (mkF m 61 #[.val (.ref a1), .val .null, .val (.ref a3), .val (.int (1 : Int32)), .val (.ref t0), .val (.ref t0)] [(.ref l1)])) rfl (by rw [hml]; rfl) (Steps.refl _) (argsL := []) (rest := []) (lenOf pd_14 rfl) rfl (by show 2 * 0 + _ ≤ _; exact Nat.le_of_eq rfl) (hb hby d15_61) (fun _ _ => ⟨rfl, e142, (by decide : 3 + 0 ≤ _), (by decide : 6 + 0 ≤ _)⟩)
  dsimp only [Pt.U, Pt.locs, Pt.cells, Pt.slots] at X146 l146 y146 z146 st146 hQ146
  subst y146 z146
  obtain ⟨rfl, N146q, e146⟩ := hQ146
  have N146 := Fr.app N132 N146q
  rw [← l146] at N146
  have go151 : ∀ t, Steps p.tables e below (T146.setTop (mkF m 64 #[.val (.ref a1), .val .null, .val (.ref a3), .val (.int (1 : Int32)), .val (.ref t0), .val (.ref t0)] [(.ref t1)])) t → Steps p.tables e below (s₁.setTop (entryFrame m #[(.ref a1), .null, (.ref a3)] 6)) t := fun t kt => go145 t (by
      refine st146.trans ?_
      show Steps p.tables e below (T146.setTop (mkF m 64 #[.val (.ref a1), .val .null, .val (.ref a3), .val (.int (1 : Int32)), .val (.ref t0), .val (.ref t0)] [(.ref t1)])) _
      exact kt)
  have fr153 := ((fq44.ext E35).wr W49)
  have fq154 := (((fr153.wr W89).wr W103).wr W121)
  obtain ⟨T152, X152, e152, st152⟩ := castY X146 hx hZ hown (own_h hw 155 rfl) e146 (Ins.of_exa fq154 (own_h hw 156 rfl)) (g := (mkF m 64 #[.val (.ref a1), .val .null, .val (.ref a3), .val (.int (1 : Int32)), .val (.ref t0), .val (.ref t0)] [(.ref t1)])) rfl rfl (hb hby d15_64)
  have go155 : ∀ t, Steps p.tables e below (T152.setTop (mkF m 70 #[.val (.ref a1), .val .null, .val (.ref a3), .val (.int (1 : Int32)), .val (.ref t1), .val (.ref t0)] [(.ref a1)])) t → Steps p.tables e below (s₁.setTop (entryFrame m #[(.ref a1), .null, (.ref a3)] 6)) t := fun t kt => go151 t (by
      refine st152 _ ?_
      show Steps p.tables e below (T152.setTop (mkF m 67 #[.val (.ref a1), .val .null, .val (.ref a3), .val (.int (1 : Int32)), .val (.ref t0), .val (.ref t0)] [(.ref t1)])) _
      refine XS.astore X152.here hx rfl (hb hby d15_67) rfl rfl (l' := #[.val (.ref a1), .val .null, .val (.ref a3), .val (.int (1 : Int32)), .val (.ref t1), .val (.ref t0)]) rfl ?_
      show Steps p.tables e below (T152.setTop (mkF m 69 #[.val (.ref a1), .val .null, .val (.ref a3), .val (.int (1 : Int32)), .val (.ref t1), .val (.ref t0)] [])) _
      refine XS.aloadN X152.here hx rfl (hb hby d15_69) rfl rfl ?_
      show Steps p.tables e below (T152.setTop (mkF m 70 #[.val (.ref a1), .val .null, .val (.ref a3), .val (.int (1 : Int32)), .val (.ref t1), .val (.ref t0)] [(.ref a1)])) _
      exact kt)
  obtain ⟨T156, X156, e156, st156⟩ := getF X152 hx hZ hown (host := "") (Or.inl (own_h hw 120 rfl)) Via.refl e152 fq125 (g := (mkF m 70 #[.val (.ref a1), .val .null, .val (.ref a3), .val (.int (1 : Int32)), .val (.ref t1), .val (.ref t0)] [(.ref a1)])) rfl rfl (hb hby d15_70)
  have go157 : ∀ t, Steps p.tables e below (T156.setTop (mkF m 76 #[.val (.ref a1), .val .null, .val (.ref a3), .val (.int (1 : Int32)), .val (.ref t1), .val (.ref t0)] [(.int (1 : Int32)), (.ref a3), (.int (1 : Int32)), (.ref b6)])) t → Steps p.tables e below (s₁.setTop (entryFrame m #[(.ref a1), .null, (.ref a3)] 6)) t := fun t kt => go155 t (by
      refine st156 _ ?_
      show Steps p.tables e below (T156.setTop (mkF m 73 #[.val (.ref a1), .val .null, .val (.ref a3), .val (.int (1 : Int32)), .val (.ref t1), .val (.ref t0)] [(.ref b6)])) _
      refine XS.iloadN X156.here hx rfl (hb hby d15_73) rfl ?_
      show Steps p.tables e below (T156.setTop (mkF m 74 #[.val (.ref a1), .val .null, .val (.ref a3), .val (.int (1 : Int32)), .val (.ref t1), .val (.ref t0)] [(.int (1 : Int32)), (.ref b6)])) _
      refine XS.aloadN X156.here hx rfl (hb hby d15_74) rfl rfl ?_
      show Steps p.tables e below (T156.setTop (mkF m 75 #[.val (.ref a1), .val .null, .val (.ref a3), .val (.int (1 : Int32)), .val (.ref t1), .val (.ref t0)] [(.ref a3), (.int (1 : Int32)), (.ref b6)])) _
      refine XS.iloadN X156.here hx rfl (hb hby d15_75) rfl ?_
      show Steps p.tables e below (T156.setTop (mkF m 76 #[.val (.ref a1), .val .null, .val (.ref a3), .val (.int (1 : Int32)), .val (.ref t1), .val (.ref t0)] [(.int (1 : Int32)), (.ref a3), (.int (1 : Int32)), (.ref b6)])) _
      exact kt)
  obtain ⟨cq158, kq158, q158a, q158b, q158c⟩ := isOf hZ e156 fq138
  obtain ⟨_, _, ⟨T158, L158, k158, n158⟩, -, X158, ⟨Lc158, hQ158, l158, y158, z158⟩, st158⟩ := X156.interfaceBack hx (xi := own_m11) (y := own_m12) hown (mvT hZ (own_h hw 127 rfl)) (mvT hZ (own_h hw 128 rfl)) (mvT hZ (own_h hw 129 rfl)) (mvT hZ (own_h hw 130 rfl)) (mvT hZ (own_h hw 131 rfl)) (mvT hZ (own_h hw 132 rfl)) (mvT hZ (own_h hw 133 rfl)) (mvT hZ (own_h hw 117 rfl)) (by decide) (backOf (W := 2) (rm17 l Z a0 hw [] a3 (1 : Int32) ea l1 [(.ref l0), (.ref l1), .null, .null, .null, .null, .null, .null, .null, .null] 1 (2 : Int32) h121 n0 fq134 (fq136).av (by decide) (by decide) rfl fq138 fq140 (by decide)) hZ (own_h hw 134 rfl) (own_h hw 9 rfl) (by decide) (by decide)) q158a q158b q158c (g := (mkF m 76 #[.val (.ref a1), .val .null, .val (.ref a3), .val (.int (1 : Int32)), .val (.ref t1), .val (.ref t0)] [(.int (1 : Int32)), (.ref a3), (.int (1 : Int32)), (.ref b6)])) rfl (by rw [hml]; rfl) (Steps.refl _) (argsL := [(.int (1 : Int32))]) (rest := [(.int (1 : Int32)), (.ref b6)]) (lenOf pd_12 rfl) rfl (by show 2 * 0 + _ ≤ _; exact Nat.le_of_eq rfl) (hb hby d15_76) (fun _ _ => ⟨rfl, e156, (by decide : 3 + 0 ≤ _), (by decide : 6 + 0 ≤ _)⟩)
  dsimp only [Pt.U, Pt.locs, Pt.cells, Pt.slots] at X158 l158 y158 z158 st158 hQ158
  subst y158 z158
  obtain ⟨rfl, N158q, e158⟩ := hQ158
  have N158 := Fr.app N146 N158q
  rw [← l158] at N158
  have go159 : ∀ t, Steps p.tables e below (T158.setTop (mkF m 81 #[.val (.ref a1), .val .null, .val (.ref a3), .val (.int (1 : Int32)), .val (.ref t1), .val (.ref t0)] [(.ref l1), (.int (1 : Int32)), (.ref b6)])) t → Steps p.tables e below (s₁.setTop (entryFrame m #[(.ref a1), .null, (.ref a3)] 6)) t := fun t kt => go157 t (by
      refine st158.trans ?_
      show Steps p.tables e below (T158.setTop (mkF m 81 #[.val (.ref a1), .val .null, .val (.ref a3), .val (.int (1 : Int32)), .val (.ref t1), .val (.ref t0)] [(.ref l1), (.int (1 : Int32)), (.ref b6)])) _
      exact kt)
  obtain ⟨T160, X160, e160, st160⟩ := castY X158 hx hZ hown (own_h hw 148 rfl) e158 (Ins.self fq144) (g := (mkF m 81 #[.val (.ref a1), .val .null, .val (.ref a3), .val (.int (1 : Int32)), .val (.ref t1), .val (.ref t0)] [(.ref l1), (.int (1 : Int32)), (.ref b6)])) rfl rfl (hb hby d15_81)
  have go161 : ∀ t, Steps p.tables e below (T160.setTop (mkF m 84 #[.val (.ref a1), .val .null, .val (.ref a3), .val (.int (1 : Int32)), .val (.ref t1), .val (.ref t0)] [(.ref l1), (.int (1 : Int32)), (.ref b6)])) t → Steps p.tables e below (s₁.setTop (entryFrame m #[(.ref a1), .null, (.ref a3)] 6)) t := fun t kt => go159 t (by
      refine st160 _ ?_
      show Steps p.tables e below (T160.setTop (mkF m 84 #[.val (.ref a1), .val .null, .val (.ref a3), .val (.int (1 : Int32)), .val (.ref t1), .val (.ref t0)] [(.ref l1), (.int (1 : Int32)), (.ref b6)])) _
      exact kt)
  have fr163 := ((FS1.ext E6).other W10 (Or.inl nl1))
  have fr164 := (((fr163.ext E16).other W29 (Or.inl nl1)).ext E35)
  have fr165 := (((fr164.other W49 (Or.inl nl1)).other W89 (Or.inl ne_l1_b6)).other W103 (Or.inl ne_l1_b16))
  have fq166 := (fr165.other W121 (Or.inl ne_l1_b35))
  obtain ⟨cq162, kq162, q162a, q162b, q162c⟩ := isOf hZ e160 fq144
  obtain ⟨_, _, ⟨T162, L162, k162, n162⟩, -, X162, ⟨Lc162, hQ162, l162, y162, z162⟩, st162⟩ := X160.virtualBack hx (y := own_m14) (z := own_m14) hown (mvT hZ (own_h hw 157 rfl)) (mvT hZ (own_h hw 158 rfl)) (notFace_of_selects (args := #[]) (mvT hZ (own_h hw 160 rfl))) (mvT hZ (own_h hw 160 rfl)) (mvT hZ (own_h hw 159 rfl)) (by decide) (backOf (W := 2) (rm22 l Z a0 hw [] l1 s1 h121 n0 fq166) hZ (own_h hw 161 rfl) (own_h hw 35 rfl) (by decide) (by decide)) q162a q162c (g := (mkF m 84 #[.val (.ref a1), .val .null, .val (.ref a3), .val (.int (1 : Int32)), .val (.ref t1), .val (.ref t0)] [(.ref l1), (.int (1 : Int32)), (.ref b6)])) rfl (by rw [hml]; rfl) (Steps.refl _) (argsL := []) (rest := [(.int (1 : Int32)), (.ref b6)]) (lenOf pd_11 rfl) rfl (by show 2 * 0 + _ ≤ _; exact Nat.le_of_eq rfl) (hb hby d15_84) (fun _ _ => ⟨rfl, e160, (by decide : 3 + 0 ≤ _), (by decide : 6 + 0 ≤ _)⟩)
  dsimp only [Pt.U, Pt.locs, Pt.cells, Pt.slots] at X162 l162 y162 z162 st162 hQ162
  subst y162 z162
  obtain ⟨rfl, N162q, e162⟩ := hQ162
  have N162 := Fr.app N158 N162q
  rw [← l162] at N162
  have go167 : ∀ t, Steps p.tables e below (T162.setTop (mkF m 87 #[.val (.ref a1), .val .null, .val (.ref a3), .val (.int (1 : Int32)), .val (.ref t1), .val (.ref t0)] [(.int s1), (.int (1 : Int32)), (.ref b6)])) t → Steps p.tables e below (s₁.setTop (entryFrame m #[(.ref a1), .null, (.ref a3)] 6)) t := fun t kt => go161 t (by
      refine st162.trans ?_
      show Steps p.tables e below (T162.setTop (mkF m 87 #[.val (.ref a1), .val .null, .val (.ref a3), .val (.int (1 : Int32)), .val (.ref t1), .val (.ref t0)] [(.int s1), (.int (1 : Int32)), (.ref b6)])) _
      exact kt)
  obtain ⟨c168, Ar168, q168⟩ := id fq128
  obtain ⟨T168, h168, X168, e168, W168, st168⟩ := stI X162 hx hZ e162 Ar168 (j := (1 : Int32)) (own_inb q168 (n := 2) rfl (by decide) (by decide)) (g := (mkF m 87 #[.val (.ref a1), .val .null, .val (.ref a3), .val (.int (1 : Int32)), .val (.ref t1), .val (.ref t0)] [(.int s1), (.int (1 : Int32)), (.ref b6)])) rfl rfl (hb hby d15_87)
  have V168 : own_AV Z h168 b6 .int [(.int s0), (.int s1)] := own_AV.set Ar168 q168 W168 (i := 1) (by decide) rfl
  obtain ⟨Ls168, X168, N168⟩ := own_loc X168 (Fr.snoc X168 N162 gb6)
  have go169 : ∀ t, Steps p.tables e below (T168.setTop (mkF m 89 #[.val (.ref a1), .val .null, .val (.ref a3), .val (.int (1 : Int32)), .val (.ref t1), .val (.ref t0)] [(.ref a1)])) t → Steps p.tables e below (s₁.setTop (entryFrame m #[(.ref a1), .null, (.ref a3)] 6)) t := fun t kt => go167 t (by
      refine st168 _ ?_
      show Steps p.tables e below (T168.setTop (mkF m 88 #[.val (.ref a1), .val .null, .val (.ref a3), .val (.int (1 : Int32)), .val (.ref t1), .val (.ref t0)] [])) _
      refine XS.aloadN X168.here hx rfl (hb hby d15_88) rfl rfl ?_
      show Steps p.tables e below (T168.setTop (mkF m 89 #[.val (.ref a1), .val .null, .val (.ref a3), .val (.int (1 : Int32)), .val (.ref t1), .val (.ref t0)] [(.ref a1)])) _
      exact kt)
  have fr170 := ((fq92.other W103 (Or.inl ne_a1_b16)).other W121 (Or.inl ne_a1_b35))
  have fq171 := (fr170.other W168 (Or.inl ne_a1_b6))
  obtain ⟨T172, X172, e172, st172⟩ := getF X168 hx hZ hown (host := "") (Or.inl (own_h hw 123 rfl)) Via.refl e168 fq171 (g := (mkF m 89 #[.val (.ref a1), .val .null, .val (.ref a3), .val (.int (1 : Int32)), .val (.ref t1), .val (.ref t0)] [(.ref a1)])) rfl rfl (hb hby d15_89)
  have go173 : ∀ t, Steps p.tables e below (T172.setTop (mkF m 95 #[.val (.ref a1), .val .null, .val (.ref a3), .val (.int (1 : Int32)), .val (.ref t1), .val (.ref t0)] [(.ref t1), (.int (1 : Int32)), (.ref b16)])) t → Steps p.tables e below (s₁.setTop (entryFrame m #[(.ref a1), .null, (.ref a3)] 6)) t := fun t kt => go169 t (by
      refine st172 _ ?_
      show Steps p.tables e below (T172.setTop (mkF m 92 #[.val (.ref a1), .val .null, .val (.ref a3), .val (.int (1 : Int32)), .val (.ref t1), .val (.ref t0)] [(.ref b16)])) _
      refine XS.iloadN X172.here hx rfl (hb hby d15_92) rfl ?_
      show Steps p.tables e below (T172.setTop (mkF m 93 #[.val (.ref a1), .val .null, .val (.ref a3), .val (.int (1 : Int32)), .val (.ref t1), .val (.ref t0)] [(.int (1 : Int32)), (.ref b16)])) _
      refine XS.aload X172.here hx rfl (hb hby d15_93) rfl rfl ?_
      show Steps p.tables e below (T172.setTop (mkF m 95 #[.val (.ref a1), .val .null, .val (.ref a3), .val (.int (1 : Int32)), .val (.ref t1), .val (.ref t0)] [(.ref t1), (.int (1 : Int32)), (.ref b16)])) _
      exact kt)
  have fr175 := ((FL1.ext E6).other W10 (Or.inl nt1))
  have fr176 := (((fr175.ext E16).other W29 (Or.inl nt1)).ext E35)
  have fr177 := (((fr176.other W49 (Or.inl nt1)).other W89 (Or.inl ne_t1_b6)).other W103 (Or.inl ne_t1_b16))
  have fq178 := ((fr177.other W121 (Or.inl ne_t1_b35)).other W168 (Or.inl ne_t1_b6))
  have fq179 := (fq154.wr W168)
  obtain ⟨cq174, kq174, q174a, q174b, q174c⟩ := isOf hZ e172 fq179
  obtain ⟨_, _, ⟨T174, L174, k174, n174⟩, -, X174, ⟨Lc174, hQ174, l174, y174, z174⟩, st174⟩ := X172.interfaceBack hx (xi := own_m15) (y := own_m16) hown (mvT hZ (own_h hw 162 rfl)) (mvT hZ (own_h hw 163 rfl)) (mvT hZ (own_h hw 164 rfl)) (mvT hZ (own_h hw 165 rfl)) (mvT hZ (own_h hw 166 rfl)) (mvT hZ (own_h hw 167 rfl)) (mvT hZ (own_h hw 168 rfl)) (mvT hZ (own_h hw 156 rfl)) (by decide) (backOf (W := 2) (rm23 l Z a0 hw [] t1 f1 h168 n0 fq178) hZ (own_h hw 169 rfl) (own_h hw 46 rfl) (by decide) (by decide)) q174a q174b q174c (g := (mkF m 95 #[.val (.ref a1), .val .null, .val (.ref a3), .val (.int (1 : Int32)), .val (.ref t1), .val (.ref t0)] [(.ref t1), (.int (1 : Int32)), (.ref b16)])) rfl (by rw [hml]; rfl) (Steps.refl _) (argsL := []) (rest := [(.int (1 : Int32)), (.ref b16)]) (lenOf pd_15 rfl) rfl (by show 2 * 0 + _ ≤ _; exact Nat.le_of_eq rfl) (hb hby d15_95) (fun _ _ => ⟨rfl, e172, (by decide : 3 + 0 ≤ _), (by decide : 6 + 0 ≤ _)⟩)
  dsimp only [Pt.U, Pt.locs, Pt.cells, Pt.slots] at X174 l174 y174 z174 st174 hQ174
  subst y174 z174
  obtain ⟨rfl, N174q, e174⟩ := hQ174
  have N174 := Fr.app N168 N174q
  rw [← l174] at N174
  have go180 : ∀ t, Steps p.tables e below (T174.setTop (mkF m 100 #[.val (.ref a1), .val .null, .val (.ref a3), .val (.int (1 : Int32)), .val (.ref t1), .val (.ref t0)] [(.long f1), (.int (1 : Int32)), (.ref b16)])) t → Steps p.tables e below (s₁.setTop (entryFrame m #[(.ref a1), .null, (.ref a3)] 6)) t := fun t kt => go173 t (by
      refine st174.trans ?_
      show Steps p.tables e below (T174.setTop (mkF m 100 #[.val (.ref a1), .val .null, .val (.ref a3), .val (.int (1 : Int32)), .val (.ref t1), .val (.ref t0)] [(.long f1), (.int (1 : Int32)), (.ref b16)])) _
      exact kt)
  have fq181 := ((V103.other W121 ne_b16_b35).other W168 (Ne.symm ne_b6_b16))
  obtain ⟨c182, Ar182, q182⟩ := id fq181
  obtain ⟨T182, h182, X182, e182, W182, st182⟩ := stJ X174 hx hZ e174 Ar182 (j := (1 : Int32)) (own_inb q182 (n := 2) rfl (by decide) (by decide)) (g := (mkF m 100 #[.val (.ref a1), .val .null, .val (.ref a3), .val (.int (1 : Int32)), .val (.ref t1), .val (.ref t0)] [(.long f1), (.int (1 : Int32)), (.ref b16)])) rfl rfl (hb hby d15_100)
  have V182 : own_AV Z h182 b16 .long [(.long f0), (.long f1)] := own_AV.set Ar182 q182 W182 (i := 1) (by decide) rfl
  obtain ⟨Ls182, X182, N182⟩ := own_loc X182 (Fr.snoc X182 N174 gb16)
  have go183 : ∀ t, Steps p.tables e below (T182.setTop (mkF m 102 #[.val (.ref a1), .val .null, .val (.ref a3), .val (.int (1 : Int32)), .val (.ref t1), .val (.ref t0)] [(.ref a1)])) t → Steps p.tables e below (s₁.setTop (entryFrame m #[(.ref a1), .null, (.ref a3)] 6)) t := fun t kt => go180 t (by
      refine st182 _ ?_
      show Steps p.tables e below (T182.setTop (mkF m 101 #[.val (.ref a1), .val .null, .val (.ref a3), .val (.int (1 : Int32)), .val (.ref t1), .val (.ref t0)] [])) _
      refine XS.aloadN X182.here hx rfl (hb hby d15_101) rfl rfl ?_
      show Steps p.tables e below (T182.setTop (mkF m 102 #[.val (.ref a1), .val .null, .val (.ref a3), .val (.int (1 : Int32)), .val (.ref t1), .val (.ref t0)] [(.ref a1)])) _
      exact kt)
  have fr184 := ((fq105.other W121 (Or.inl ne_a1_b35)).other W168 (Or.inl ne_a1_b6))
  have fq185 := (fr184.other W182 (Or.inl ne_a1_b16))
  obtain ⟨T186, X186, e186, st186⟩ := getF X182 hx hZ hown (host := "") (Or.inl (own_h hw 125 rfl)) Via.refl e182 fq185 (g := (mkF m 102 #[.val (.ref a1), .val .null, .val (.ref a3), .val (.int (1 : Int32)), .val (.ref t1), .val (.ref t0)] [(.ref a1)])) rfl rfl (hb hby d15_102)
  have go187 : ∀ t, Steps p.tables e below (T186.setTop (mkF m 108 #[.val (.ref a1), .val .null, .val (.ref a3), .val (.int (1 : Int32)), .val (.ref t1), .val (.ref t0)] [(.ref t1), (.int (1 : Int32)), (.ref b35)])) t → Steps p.tables e below (s₁.setTop (entryFrame m #[(.ref a1), .null, (.ref a3)] 6)) t := fun t kt => go183 t (by
      refine st186 _ ?_
      show Steps p.tables e below (T186.setTop (mkF m 105 #[.val (.ref a1), .val .null, .val (.ref a3), .val (.int (1 : Int32)), .val (.ref t1), .val (.ref t0)] [(.ref b35)])) _
      refine XS.iloadN X186.here hx rfl (hb hby d15_105) rfl ?_
      show Steps p.tables e below (T186.setTop (mkF m 106 #[.val (.ref a1), .val .null, .val (.ref a3), .val (.int (1 : Int32)), .val (.ref t1), .val (.ref t0)] [(.int (1 : Int32)), (.ref b35)])) _
      refine XS.aload X186.here hx rfl (hb hby d15_106) rfl rfl ?_
      show Steps p.tables e below (T186.setTop (mkF m 108 #[.val (.ref a1), .val .null, .val (.ref a3), .val (.int (1 : Int32)), .val (.ref t1), .val (.ref t0)] [(.ref t1), (.int (1 : Int32)), (.ref b35)])) _
      exact kt)
  have fq189 := (fq179.wr W182)
  obtain ⟨T188, X188, e188, st188⟩ := instY X186 hx hZ hown (own_h hw 170 rfl) e186 (Ins.of_exa fq189 (own_h hw 171 rfl)) (g := (mkF m 108 #[.val (.ref a1), .val .null, .val (.ref a3), .val (.int (1 : Int32)), .val (.ref t1), .val (.ref t0)] [(.ref t1), (.int (1 : Int32)), (.ref b35)])) rfl rfl (hb hby d15_108)
  have hc111_190 : ¬ ((1 : Int32) = (0 : Int32)) := (by decide)
  have go191 : ∀ t, Steps p.tables e below (T188.setTop (mkF m 116 #[.val (.ref a1), .val .null, .val (.ref a3), .val (.int (1 : Int32)), .val (.ref t1), .val (.ref t0)] [(.ref t1), (.int (1 : Int32)), (.ref b35)])) t → Steps p.tables e below (s₁.setTop (entryFrame m #[(.ref a1), .null, (.ref a3)] 6)) t := fun t kt => go187 t (by
      refine st188 _ ?_
      show Steps p.tables e below (T188.setTop (mkF m 111 #[.val (.ref a1), .val .null, .val (.ref a3), .val (.int (1 : Int32)), .val (.ref t1), .val (.ref t0)] [(.int (1 : Int32)), (.int (1 : Int32)), (.ref b35)])) _
      refine XS.ifNo X188.here hx rfl (hb hby d15_111) rfl ((if0 _ _).trans (feq hc111_190).1) ?_
      show Steps p.tables e below (T188.setTop (mkF m 114 #[.val (.ref a1), .val .null, .val (.ref a3), .val (.int (1 : Int32)), .val (.ref t1), .val (.ref t0)] [(.int (1 : Int32)), (.ref b35)])) _
      refine XS.aload X188.here hx rfl (hb hby d15_114) rfl rfl ?_
      show Steps p.tables e below (T188.setTop (mkF m 116 #[.val (.ref a1), .val .null, .val (.ref a3), .val (.int (1 : Int32)), .val (.ref t1), .val (.ref t0)] [(.ref t1), (.int (1 : Int32)), (.ref b35)])) _
      exact kt)
  obtain ⟨T192, X192, e192, st192⟩ := castY X188 hx hZ hown (own_h hw 170 rfl) e188 (Ins.of_exa fq189 (own_h hw 171 rfl)) (g := (mkF m 116 #[.val (.ref a1), .val .null, .val (.ref a3), .val (.int (1 : Int32)), .val (.ref t1), .val (.ref t0)] [(.ref t1), (.int (1 : Int32)), (.ref b35)])) rfl rfl (hb hby d15_116)
  have go193 : ∀ t, Steps p.tables e below (T192.setTop (mkF m 123 #[.val (.ref a1), .val .null, .val (.ref a3), .val (.int (1 : Int32)), .val (.ref t1), .val (.ref t1)] [(.ref t1), (.int (1 : Int32)), (.ref b35)])) t → Steps p.tables e below (s₁.setTop (entryFrame m #[(.ref a1), .null, (.ref a3)] 6)) t := fun t kt => go191 t (by
      refine st192 _ ?_
      show Steps p.tables e below (T192.setTop (mkF m 119 #[.val (.ref a1), .val .null, .val (.ref a3), .val (.int (1 : Int32)), .val (.ref t1), .val (.ref t0)] [(.ref t1), (.int (1 : Int32)), (.ref b35)])) _
      refine XS.astore X192.here hx rfl (hb hby d15_119) rfl rfl (l' := #[.val (.ref a1), .val .null, .val (.ref a3), .val (.int (1 : Int32)), .val (.ref t1), .val (.ref t1)]) rfl ?_
      show Steps p.tables e below (T192.setTop (mkF m 121 #[.val (.ref a1), .val .null, .val (.ref a3), .val (.int (1 : Int32)), .val (.ref t1), .val (.ref t1)] [(.int (1 : Int32)), (.ref b35)])) _
      refine XS.aload X192.here hx rfl (hb hby d15_121) rfl rfl ?_
      show Steps p.tables e below (T192.setTop (mkF m 123 #[.val (.ref a1), .val .null, .val (.ref a3), .val (.int (1 : Int32)), .val (.ref t1), .val (.ref t1)] [(.ref t1), (.int (1 : Int32)), (.ref b35)])) _
      exact kt)
  have fr195 := ((FH1.ext E6).other W10 (Or.inl nt1))
  have fr196 := (((fr195.ext E16).other W29 (Or.inl nt1)).ext E35)
  have fr197 := (((fr196.other W49 (Or.inl nt1)).other W89 (Or.inl ne_t1_b6)).other W103 (Or.inl ne_t1_b16))
  have fq198 := (((fr197.other W121 (Or.inl ne_t1_b35)).other W168 (Or.inl ne_t1_b6)).other W182 (Or.inl ne_t1_b16))
  obtain ⟨cq194, kq194, q194a, q194b, q194c⟩ := isOf hZ e192 fq189
  obtain ⟨_, _, ⟨T194, L194, k194, n194⟩, -, X194, ⟨Lc194, hQ194, l194, y194, z194⟩, st194⟩ := X192.interfaceBack hx (xi := own_m17) (y := own_m18) hown (mvT hZ (own_h hw 172 rfl)) (mvT hZ (own_h hw 173 rfl)) (mvT hZ (own_h hw 174 rfl)) (mvT hZ (own_h hw 175 rfl)) (mvT hZ (own_h hw 176 rfl)) (mvT hZ (own_h hw 177 rfl)) (mvT hZ (own_h hw 178 rfl)) (mvT hZ (own_h hw 171 rfl)) (by decide) (backOf (W := 2) (rm24 l Z a0 hw [] t1 u1 h182 n0 fq198) hZ (own_h hw 179 rfl) (own_h hw 46 rfl) (by decide) (by decide)) q194a q194b q194c (g := (mkF m 123 #[.val (.ref a1), .val .null, .val (.ref a3), .val (.int (1 : Int32)), .val (.ref t1), .val (.ref t1)] [(.ref t1), (.int (1 : Int32)), (.ref b35)])) rfl (by rw [hml]; rfl) (Steps.refl _) (argsL := []) (rest := [(.int (1 : Int32)), (.ref b35)]) (lenOf pd_15 rfl) rfl (by show 2 * 0 + _ ≤ _; exact Nat.le_of_eq rfl) (hb hby d15_123) (fun _ _ => ⟨rfl, e192, (by decide : 3 + 0 ≤ _), (by decide : 6 + 0 ≤ _)⟩)
  dsimp only [Pt.U, Pt.locs, Pt.cells, Pt.slots] at X194 l194 y194 z194 st194 hQ194
  subst y194 z194
  obtain ⟨rfl, N194q, e194⟩ := hQ194
  have N194 := Fr.app N182 N194q
  rw [← l194] at N194
  have go199 : ∀ t, Steps p.tables e below (T194.setTop (mkF m 137 #[.val (.ref a1), .val .null, .val (.ref a3), .val (.int (1 : Int32)), .val (.ref t1), .val (.ref t1)] [(.long u1), (.int (1 : Int32)), (.ref b35)])) t → Steps p.tables e below (s₁.setTop (entryFrame m #[(.ref a1), .null, (.ref a3)] 6)) t := fun t kt => go193 t (by
      refine st194.trans ?_
      show Steps p.tables e below (T194.setTop (mkF m 128 #[.val (.ref a1), .val .null, .val (.ref a3), .val (.int (1 : Int32)), .val (.ref t1), .val (.ref t1)] [(.long u1), (.int (1 : Int32)), (.ref b35)])) _
      refine XS.goto X194.here hx rfl (pc0 := 128) (pc' := 137) rfl (hb hby d15_128) (by decide) (by decide) ?_
      show Steps p.tables e below (T194.setTop (mkF m 137 #[.val (.ref a1), .val .null, .val (.ref a3), .val (.int (1 : Int32)), .val (.ref t1), .val (.ref t1)] [(.long u1), (.int (1 : Int32)), (.ref b35)])) _
      exact kt)
  have fq200 := ((V121.other W168 (Ne.symm ne_b6_b35)).other W182 (Ne.symm ne_b16_b35))
  obtain ⟨c201, Ar201, q201⟩ := id fq200
  obtain ⟨T201, h201, X201, e201, W201, st201⟩ := stJ X194 hx hZ e194 Ar201 (j := (1 : Int32)) (own_inb q201 (n := 2) rfl (by decide) (by decide)) (g := (mkF m 137 #[.val (.ref a1), .val .null, .val (.ref a3), .val (.int (1 : Int32)), .val (.ref t1), .val (.ref t1)] [(.long u1), (.int (1 : Int32)), (.ref b35)])) rfl rfl (hb hby d15_137)
  have V201 : own_AV Z h201 b35 .long [(.long u0), (.long u1)] := own_AV.set Ar201 q201 W201 (i := 1) (by decide) rfl
  obtain ⟨Ls201, X201, N201⟩ := own_loc X201 (Fr.snoc X201 N194 gb35)
  have go202 : ∀ t, Steps p.tables e below (T201.setTop (mkF m 141 #[.val (.ref a1), .val .null, .val (.ref a3), .val (.int ((1 : Int32) + (1 : Int32))), .val (.ref t1), .val (.ref t1)] [])) t → Steps p.tables e below (s₁.setTop (entryFrame m #[(.ref a1), .null, (.ref a3)] 6)) t := fun t kt => go199 t (by
      refine st201 _ ?_
      show Steps p.tables e below (T201.setTop (mkF m 138 #[.val (.ref a1), .val .null, .val (.ref a3), .val (.int (1 : Int32)), .val (.ref t1), .val (.ref t1)] [])) _
      refine XS.iinc X201.here hx rfl (hb hby d15_138) rfl (l' := #[.val (.ref a1), .val .null, .val (.ref a3), .val (.int ((1 : Int32) + (1 : Int32))), .val (.ref t1), .val (.ref t1)]) rfl ?_
      show Steps p.tables e below (T201.setTop (mkF m 141 #[.val (.ref a1), .val .null, .val (.ref a3), .val (.int ((1 : Int32) + (1 : Int32))), .val (.ref t1), .val (.ref t1)] [])) _
      exact kt)
  rw [show ((1 : Int32) + (1 : Int32)) = (2 : Int32) from by decide] at go202
  have go203 : ∀ t, Steps p.tables e below (T201.setTop (mkF m 44 #[.val (.ref a1), .val .null, .val (.ref a3), .val (.int (2 : Int32)), .val (.ref t1), .val (.ref t1)] [(.ref a1), (.int (2 : Int32))])) t → Steps p.tables e below (s₁.setTop (entryFrame m #[(.ref a1), .null, (.ref a3)] 6)) t := fun t kt => go202 t (by
      refine XS.goto X201.here hx rfl (pc0 := 141) (pc' := 42) rfl (hb hby d15_141) (by decide) (by decide) ?_
      show Steps p.tables e below (T201.setTop (mkF m 42 #[.val (.ref a1), .val .null, .val (.ref a3), .val (.int (2 : Int32)), .val (.ref t1), .val (.ref t1)] [])) _
      refine XS.iloadN X201.here hx rfl (hb hby d15_42) rfl ?_
      show Steps p.tables e below (T201.setTop (mkF m 43 #[.val (.ref a1), .val .null, .val (.ref a3), .val (.int (2 : Int32)), .val (.ref t1), .val (.ref t1)] [(.int (2 : Int32))])) _
      refine XS.aloadN X201.here hx rfl (hb hby d15_43) rfl rfl ?_
      show Steps p.tables e below (T201.setTop (mkF m 44 #[.val (.ref a1), .val .null, .val (.ref a3), .val (.int (2 : Int32)), .val (.ref t1), .val (.ref t1)] [(.ref a1), (.int (2 : Int32))])) _
      exact kt)
  have fr204 := ((fq125.other W168 (Or.inl ne_a1_b6)).other W182 (Or.inl ne_a1_b16))
  have fq205 := (fr204.other W201 (Or.inl ne_a1_b35))
  obtain ⟨T206, X206, e206, st206⟩ := getF X201 hx hZ hown (host := "") (Or.inl (own_h hw 120 rfl)) Via.refl e201 fq205 (g := (mkF m 44 #[.val (.ref a1), .val .null, .val (.ref a3), .val (.int (2 : Int32)), .val (.ref t1), .val (.ref t1)] [(.ref a1), (.int (2 : Int32))])) rfl rfl (hb hby d15_44)
  have go207 : ∀ t, Steps p.tables e below (T206.setTop (mkF m 47 #[.val (.ref a1), .val .null, .val (.ref a3), .val (.int (2 : Int32)), .val (.ref t1), .val (.ref t1)] [(.ref b6), (.int (2 : Int32))])) t → Steps p.tables e below (s₁.setTop (entryFrame m #[(.ref a1), .null, (.ref a3)] 6)) t := fun t kt => go203 t (by
      refine st206 _ ?_
      show Steps p.tables e below (T206.setTop (mkF m 47 #[.val (.ref a1), .val .null, .val (.ref a3), .val (.int (2 : Int32)), .val (.ref t1), .val (.ref t1)] [(.ref b6), (.int (2 : Int32))])) _
      exact kt)
  have fq208 := ((V168.other W182 ne_b6_b16).other W201 ne_b6_b35)
  obtain ⟨c209, Ar209, q209⟩ := id fq208
  have hc48_210 : ¬ ((2 : Int32) < (2 : Int32)) := (by decide)
  have go211 : ∀ t, Steps p.tables e below (T206.setTop (mkF m 144 #[.val (.ref a1), .val .null, .val (.ref a3), .val (.int (2 : Int32)), .val (.ref t1), .val (.ref t1)] [])) t → Steps p.tables e below (s₁.setTop (entryFrame m #[(.ref a1), .null, (.ref a3)] 6)) t := fun t kt => go207 t (by
      refine X206.arraylength hx (by rw [e206]; exact Ar209.1) (State.isArrayOf_alike hZ.alike Ar209.2.1) (g := (mkF m 47 #[.val (.ref a1), .val .null, .val (.ref a3), .val (.int (2 : Int32)), .val (.ref t1), .val (.ref t1)] [(.ref b6), (.int (2 : Int32))])) rfl rfl (hb hby d15_47) _ ?_
      rw [own_len q209 (n := (2 : Int32)) rfl]
      show Steps p.tables e below (T206.setTop (mkF m 48 #[.val (.ref a1), .val .null, .val (.ref a3), .val (.int (2 : Int32)), .val (.ref t1), .val (.ref t1)] [(.int (2 : Int32)), (.int (2 : Int32))])) _
      refine XS.icmpYes X206.here hx rfl (pc0 := 48) (pc' := 144) rfl (hb hby d15_48) rfl (flt hc48_210).2.1 (by decide) (by decide) ?_
      show Steps p.tables e below (T206.setTop (mkF m 144 #[.val (.ref a1), .val .null, .val (.ref a3), .val (.int (2 : Int32)), .val (.ref t1), .val (.ref t1)] [])) _
      exact kt)
  obtain ⟨fs, hr, hrun, hended, hW, hsame⟩ := X206.leave (v := none) (fun _ => rfl)
  refine ⟨_, _, go211 _ (X206.returnOut hx Bd.returns (hb hby d15_144) hr), hrun, hended, _, _, rfl, ?_, ⟨_, rfl⟩, hW, hsame.mono (by decide) (by decide)⟩
  show own_QC _ _ _ _ _ _ _ _ T206.heap _
  rw [e206]
  have kp212 := ((Keep.refl h0 [a1]).ext E6)
  have kp213 := (kp212.wr W10 (Or.inl (List.mem_of_getElem? (i := 0) rfl)))
  have kp214 := (kp213.ext E16)
  have kp215 := (kp214.wr W29 (Or.inl (List.mem_of_getElem? (i := 0) rfl)))
  have kp216 := (kp215.ext E35)
  have kp217 := (kp216.wr W49 (Or.inl (List.mem_of_getElem? (i := 0) rfl)))
  have kp218 := (kp217.wr W89 (Or.inr sz6))
  have kp219 := (kp218.wr W103 (Or.inr sz16))
  have kp220 := (kp219.wr W121 (Or.inr sz35))
  have kp221 := (kp220.wr W168 (Or.inr sz6))
  have kp222 := (kp221.wr W182 (Or.inr sz16))
  have fr223 := ((fq48.wr W49).wr W89)
  have fr224 := (((fr223.wr W103).wr W121).wr W168)
  have fq225 := ((fr224.wr W182).wr W201)
  have fq226 := ((fq171.other W182 (Or.inl ne_a1_b16)).other W201 (Or.inl ne_a1_b35))
  have fq227 := (fq185.other W201 (Or.inl ne_a1_b35))
  have fq228 := (V182.other W201 ne_b16_b35)
  exact ⟨b6, b16, b35, rfl, N201, (kp222.wr W201 (Or.inr sz35)), fq225, fq205, fq226, fq227, fq208, fq228, V201, sz6, sz16, sz35⟩
abbrev own_m19 : MethodName := ⟨"com/example/invariant_ink/invariantink/engine/Combinations", "<init>", "(Lcom/example/invariant_ink/invariantink/lang/Instance;Ljava/util/List;)V"⟩
theorem d14_0 : decode prog_19_method_2_code 0 = .ok (.aload_n 0, 1) := by decide +kernel
theorem d14_1 : decode prog_19_method_2_code 1 = .ok (.aconst_null, 1) := by decide +kernel
theorem d14_2 : decode prog_19_method_2_code 2 = .ok (.aload_n 1, 1) := by decide +kernel
theorem d14_3 : decode prog_19_method_2_code 3 = .ok (.invokespecial 55, 3) := by decide +kernel
theorem d14_6 : decode prog_19_method_2_code 6 = .ok (.return_, 1) := by decide +kernel
theorem pn_14 : plainName "com/example/invariant_ink/invariantink/engine/Combinations" = true := by first | (simp [plainName, overriddenIn]; done) | decide +kernel
theorem ef_rmC1_2 (m : MethodId) (a1 : Addr) (a3 : Addr) : entryFrame m #[(.ref a1), (.ref a3)] 2 = mkF m 0 #[.val (.ref a1), .val (.ref a3)] [] := by first | (simp [entryFrame, mkF, argsToLocals, Value.category]; done) | rfl
set_option maxRecDepth 65536 in
set_option maxHeartbeats 40000000 in
theorem rmC1_2 (l : Launch) (Z : State) (a0 : Array Value) (hw : ∀ d ∈ tables_1, d.before a0 Z = true) (ws : List Jvm.Cond) (a1 a3 ea : Addr) (mc : Int32) (l0 l1 t0 t1 : Addr) (s0 s1 : Int32) (f0 f1 u0 u1 : Int64) (h0 : Heap) (n0 : Nat) (Z0 : n0 ≤ h0.size) (E0 : Exa Z h0 a1 "com/example/invariant_ink/invariantink/engine/Combinations") (F_slots : Fld Z h0 a1 "com/example/invariant_ink/invariantink/engine/Combinations" "slots" "[I" .null) (F_firsts : Fld Z h0 a1 "com/example/invariant_ink/invariantink/engine/Combinations" "firsts" "[J" .null) (F_lasts : Fld Z h0 a1 "com/example/invariant_ink/invariantink/engine/Combinations" "lasts" "[J" .null) (ga : n0 ≤ a1) (LO : own_LO Z h0 a3 (.ref ea) 2 mc) (EV0 : own_AVO Z h0 ea [(.ref l0), (.ref l1), .null, .null, .null, .null, .null, .null, .null, .null]) (EL0 : Exa Z h0 l0 "com/example/invariant_ink/invariantink/lang/Local") (FS0 : Fld Z h0 l0 "com/example/invariant_ink/invariantink/lang/Local" "slot" "I" (.int s0)) (FT0 : Fld Z h0 l0 "com/example/invariant_ink/invariantink/lang/Local" "type" "Lcom/example/invariant_ink/invariantink/lang/Type;" (.ref t0)) (ET0 : Exa Z h0 t0 "com/example/invariant_ink/invariantink/lang/RangeType") (FL0 : Fld Z h0 t0 "com/example/invariant_ink/invariantink/lang/RangeType" "low" "J" (.long f0)) (FH0 : Fld Z h0 t0 "com/example/invariant_ink/invariantink/lang/RangeType" "high" "J" (.long u0)) (EL1 : Exa Z h0 l1 "com/example/invariant_ink/invariantink/lang/Local") (FS1 : Fld Z h0 l1 "com/example/invariant_ink/invariantink/lang/Local" "slot" "I" (.int s1)) (FT1 : Fld Z h0 l1 "com/example/invariant_ink/invariantink/lang/Local" "type" "Lcom/example/invariant_ink/invariantink/lang/Type;" (.ref t1)) (ET1 : Exa Z h0 t1 "com/example/invariant_ink/invariantink/lang/RangeType") (FL1 : Fld Z h0 t1 "com/example/invariant_ink/invariantink/lang/RangeType" "low" "J" (.long f1)) (FH1 : Fld Z h0 t1 "com/example/invariant_ink/invariantink/lang/RangeType" "high" "J" (.long u1)) :
    MetFree l (⟨"com/example/invariant_ink/invariantink/engine/Combinations", "<init>", "(Ljava/util/List;)V"⟩ : MethodName) (head1 (Jvm.Cond.code (⟨"com/example/invariant_ink/invariantink/engine/Combinations", "<init>", "(Ljava/util/List;)V"⟩ : MethodName) prog_19_method_2_code 2 none :: ws) ({ frames := 4, cells := 3, slots := 6, locals := 59 } : Room)) (fun a U => a = #[(.ref a1), (.ref a3)] ∧ Z.Warmed39 U.vm ∧ U.heap = h0) (fun _ _ _ _ _ => True) (fun _ U o U' => ∃ v L, o = .returned v ∧ own_QC Z a1 [(.int s0), (.int s1)] [(.long f0), (.long f1)] [(.long u0), (.long u1)] h0 n0 v U'.heap L ∧ FrameEnd U o U' L ({ frames := 4, cells := 3, slots := 6, locals := 59 } : Room).cells ({ frames := 4, cells := 3, slots := 6, locals := 59 } : Room).slots) := by
  refine MetFree.of_bodySF (plainFor_of_name pn_14) hisR ?_
  intro p e s m args below meth c s₁ Bd hml0 hP hK
  obtain ⟨rfl, hZ, hh⟩ := hP
  have hx := Bd.exec
  have hby := Bd.bytes
  have hml : c.maxLocals = 2 := hml0
  have hown : s.vm.findClass "com/example/invariant_ink/invariantink/engine/Combinations" = some m.cls := findClass_of_methodNamed Bd.named
  have hnm := (name_of_methodNamed Bd.named Bd.method).1
  have X0 : Stand p l e ({ frames := 4, cells := 3, slots := 6, locals := 59 } : Room) s m #[(.ref a1), (.ref a3)] below meth c s₁ [] 0 0 := Stand.of_body Bd
  have e0 : s₁.heap = h0 := by rw [← hh, Bd.state]; rfl
  have N0 := Fr.nil n0
  have go0 : ∀ t, Steps p.tables e below (s₁.setTop (mkF m 0 #[.val (.ref a1), .val (.ref a3)] [])) t → Steps p.tables e below (s₁.setTop (entryFrame m #[(.ref a1), (.ref a3)] 2)) t := fun t k => castTop (ef_rmC1_2 m a1 a3) k
  have go1 : ∀ t, Steps p.tables e below (s₁.setTop (mkF m 3 #[.val (.ref a1), .val (.ref a3)] [(.ref a3), .null, (.ref a1)])) t → Steps p.tables e below (s₁.setTop (entryFrame m #[(.ref a1), (.ref a3)] 2)) t := fun t kt => go0 t (by
      refine XS.aloadN X0.here hx rfl (hb hby d14_0) rfl rfl ?_
      show Steps p.tables e below (s₁.setTop (mkF m 1 #[.val (.ref a1), .val (.ref a3)] [(.ref a1)])) _
      refine XS.aconstNull X0.here hx rfl (hb hby d14_1) ?_
      show Steps p.tables e below (s₁.setTop (mkF m 2 #[.val (.ref a1), .val (.ref a3)] [.null, (.ref a1)])) _
      refine XS.aloadN X0.here hx rfl (hb hby d14_2) rfl rfl ?_
      show Steps p.tables e below (s₁.setTop (mkF m 3 #[.val (.ref a1), .val (.ref a3)] [(.ref a3), .null, (.ref a1)])) _
      exact kt)
  obtain ⟨_, _, ⟨T2, L2, k2, n2⟩, -, X2, ⟨Lc2, hQ2, l2, y2, z2⟩, st2⟩ := X0.specialBack hx (y := own_m19) rfl hown (mvT hZ (own_h hw 106 rfl)) (mvT hZ (own_h hw 107 rfl)) (mvT hZ (own_h hw 108 rfl)) (by decide) (backOf (W := 0) (rmC2_2 l Z a0 hw [] a1 a3 ea mc l0 l1 t0 t1 s0 s1 f0 f1 u0 u1 h0 n0 Z0 E0 F_slots F_firsts F_lasts ga LO EV0 EL0 FS0 FT0 ET0 FL0 FH0 EL1 FS1 FT1 ET1 FL1 FH1) hZ (own_h hw 108 rfl) (own_h hw 102 rfl) (by decide) (by decide)) (g := (mkF m 3 #[.val (.ref a1), .val (.ref a3)] [(.ref a3), .null, (.ref a1)])) rfl (by rw [hml]; rfl) (Steps.refl _) (a := a1) (argsL := [.null, (.ref a3)]) (rest := []) (lenOf pd_10 rfl) rfl (by show 2 * 0 + _ ≤ _; exact Nat.le_of_eq rfl) (hb hby d14_3) (fun _ _ => ⟨rfl, e0, (by decide : 0 + 3 ≤ _), (by decide : 0 + 6 ≤ _)⟩)
  dsimp only [Pt.U, Pt.locs, Pt.cells, Pt.slots] at X2 l2 y2 z2 st2 hQ2
  subst y2 z2
  obtain ⟨x2, y2, z2, rfl, N2q, r2⟩ := hQ2
  have N2 := Fr.app N0 N2q
  rw [← l2] at N2
  have go3 : ∀ t, Steps p.tables e below (T2.setTop (mkF m 6 #[.val (.ref a1), .val (.ref a3)] [])) t → Steps p.tables e below (s₁.setTop (entryFrame m #[(.ref a1), (.ref a3)] 2)) t := fun t kt => go1 t (by
      refine st2.trans ?_
      show Steps p.tables e below (T2.setTop (mkF m 6 #[.val (.ref a1), .val (.ref a3)] [])) _
      exact kt)
  obtain ⟨fs, hr, hrun, hended, hW, hsame⟩ := X2.leave (v := none) (fun _ => rfl)
  refine ⟨_, _, go3 _ (X2.returnOut hx Bd.returns (hb hby d14_6) hr), hrun, hended, _, _, rfl, ?_, ⟨_, rfl⟩, hW, hsame.mono (by decide) (by decide)⟩
  exact ⟨x2, y2, z2, rfl, N2, r2⟩
theorem d25_0 : decode prog_19_method_5_code 0 = .ok (.aload_n 0, 1) := by decide +kernel
theorem d25_1 : decode prog_19_method_5_code 1 = .ok (.getfield 13, 3) := by decide +kernel
theorem d25_4 : decode prog_19_method_5_code 4 = .ok (.arraylength, 1) := by decide +kernel
theorem d25_5 : decode prog_19_method_5_code 5 = .ok (.iconst 1, 1) := by decide +kernel
theorem d25_6 : decode prog_19_method_5_code 6 = .ok (.isub, 1) := by decide +kernel
theorem d25_7 : decode prog_19_method_5_code 7 = .ok (.istore_n 2, 1) := by decide +kernel
theorem d25_8 : decode prog_19_method_5_code 8 = .ok (.iload_n 2, 1) := by decide +kernel
theorem d25_9 : decode prog_19_method_5_code 9 = .ok (.ifCond .lt 55, 3) := by decide +kernel
theorem d25_12 : decode prog_19_method_5_code 12 = .ok (.aload_n 1, 1) := by decide +kernel
theorem d25_13 : decode prog_19_method_5_code 13 = .ok (.aload_n 0, 1) := by decide +kernel
theorem d25_14 : decode prog_19_method_5_code 14 = .ok (.getfield 13, 3) := by decide +kernel
theorem d25_17 : decode prog_19_method_5_code 17 = .ok (.iload_n 2, 1) := by decide +kernel
theorem d25_18 : decode prog_19_method_5_code 18 = .ok (.iaload, 1) := by decide +kernel
theorem d25_19 : decode prog_19_method_5_code 19 = .ok (.laload, 1) := by decide +kernel
theorem d25_20 : decode prog_19_method_5_code 20 = .ok (.aload_n 0, 1) := by decide +kernel
theorem d25_21 : decode prog_19_method_5_code 21 = .ok (.getfield 23, 3) := by decide +kernel
theorem d25_24 : decode prog_19_method_5_code 24 = .ok (.iload_n 2, 1) := by decide +kernel
theorem d25_25 : decode prog_19_method_5_code 25 = .ok (.laload, 1) := by decide +kernel
theorem d25_26 : decode prog_19_method_5_code 26 = .ok (.lcmp, 1) := by decide +kernel
theorem d25_27 : decode prog_19_method_5_code 27 = .ok (.ifCond .eq 17, 3) := by decide +kernel
theorem d25_30 : decode prog_19_method_5_code 30 = .ok (.aload_n 1, 1) := by decide +kernel
theorem d25_31 : decode prog_19_method_5_code 31 = .ok (.aload_n 0, 1) := by decide +kernel
theorem d25_32 : decode prog_19_method_5_code 32 = .ok (.getfield 13, 3) := by decide +kernel
theorem d25_35 : decode prog_19_method_5_code 35 = .ok (.iload_n 2, 1) := by decide +kernel
theorem d25_36 : decode prog_19_method_5_code 36 = .ok (.iaload, 1) := by decide +kernel
theorem d25_37 : decode prog_19_method_5_code 37 = .ok (.dup2, 1) := by decide +kernel
theorem d25_38 : decode prog_19_method_5_code 38 = .ok (.laload, 1) := by decide +kernel
theorem d25_39 : decode prog_19_method_5_code 39 = .ok (.lconst 1, 1) := by decide +kernel
theorem d25_40 : decode prog_19_method_5_code 40 = .ok (.ladd, 1) := by decide +kernel
theorem d25_41 : decode prog_19_method_5_code 41 = .ok (.lastore, 1) := by decide +kernel
theorem d25_42 : decode prog_19_method_5_code 42 = .ok (.iconst 1, 1) := by decide +kernel
theorem d25_43 : decode prog_19_method_5_code 43 = .ok (.ireturn, 1) := by decide +kernel
theorem pn_25 : plainName "com/example/invariant_ink/invariantink/engine/Combinations" = true := by first | (simp [plainName, overriddenIn]; done) | decide +kernel
theorem ef_rmX0 (m : MethodId) (a1 : Addr) (a2 : Addr) : entryFrame m #[(.ref a1), (.ref a2)] 3 = mkF m 0 #[.val (.ref a1), .val (.ref a2), .unset] [] := by first | (simp [entryFrame, mkF, argsToLocals, Value.category]; done) | rfl
set_option maxRecDepth 65536 in
set_option maxHeartbeats 40000000 in
theorem rmX0 (l : Launch) (Z : State) (a0 : Array Value) (hw : ∀ d ∈ tables_1, d.before a0 Z = true) (ws : List Jvm.Cond) (a1 a2 x0 y0 z0 : Addr) (f0 f1 g0 g1 v0 v1 v2 : Int64) (h0 : Heap) (n0 : Nat) (Z0 : n0 ≤ h0.size) (F_slots : Fld Z h0 a1 "com/example/invariant_ink/invariantink/engine/Combinations" "slots" "[I" (.ref x0)) (F_firsts : Fld Z h0 a1 "com/example/invariant_ink/invariantink/engine/Combinations" "firsts" "[J" (.ref y0)) (F_lasts : Fld Z h0 a1 "com/example/invariant_ink/invariantink/engine/Combinations" "lasts" "[J" (.ref z0)) (VX : own_AV Z h0 x0 .int [(.int (2 : Int32)), (.int (0 : Int32))]) (VY : own_AV Z h0 y0 .long [(.long f0), (.long f1)]) (VZ : own_AV Z h0 z0 .long [(.long g0), (.long g1)]) (VL : own_AV Z h0 a2 .long [(.long v0), (.long v1), (.long v2)]) (ga : n0 ≤ a2) (na : a1 ≠ a2) (nx : x0 ≠ a2) (ny : y0 ≠ a2) (nz : z0 ≠ a2) (c1 : ¬ v0 = g1) (c2 : True) :
    MetFree l (⟨"com/example/invariant_ink/invariantink/engine/Combinations", "next", "([J)Z"⟩ : MethodName) (head1 (Jvm.Cond.code (⟨"com/example/invariant_ink/invariantink/engine/Combinations", "next", "([J)Z"⟩ : MethodName) prog_19_method_5_code 3 (some .boolean) :: ws) ({ frames := 0, cells := 0, slots := 0, locals := 0 } : Room)) (fun a U => a = #[(.ref a1), (.ref a2)] ∧ Z.Warmed39 U.vm ∧ U.heap = h0) (fun _ _ _ _ _ => True) (fun _ U o U' => ∃ v L, o = .returned v ∧ own_QX 1 Z a2 [(.long (v0 + (1 : Int64))), (.long v1), (.long v2)] h0 n0 v U'.heap L ∧ FrameEnd U o U' L ({ frames := 0, cells := 0, slots := 0, locals := 0 } : Room).cells ({ frames := 0, cells := 0, slots := 0, locals := 0 } : Room).slots) := by
  refine MetFree.of_bodySF (plainFor_of_name pn_25) hisR ?_
  intro p e s m args below meth c s₁ Bd hml0 hP hK
  obtain ⟨rfl, hZ, hh⟩ := hP
  have hx := Bd.exec
  have hby := Bd.bytes
  have hml : c.maxLocals = 3 := hml0
  have hown : s.vm.findClass "com/example/invariant_ink/invariantink/engine/Combinations" = some m.cls := findClass_of_methodNamed Bd.named
  have hnm := (name_of_methodNamed Bd.named Bd.method).1
  have X0 : Stand p l e ({ frames := 0, cells := 0, slots := 0, locals := 0 } : Room) s m #[(.ref a1), (.ref a2)] below meth c s₁ [] 0 0 := Stand.of_body Bd
  have e0 : s₁.heap = h0 := by rw [← hh, Bd.state]; rfl
  have N0 := Fr.nil n0
  have go0 : ∀ t, Steps p.tables e below (s₁.setTop (mkF m 0 #[.val (.ref a1), .val (.ref a2), .unset] [])) t → Steps p.tables e below (s₁.setTop (entryFrame m #[(.ref a1), (.ref a2)] 3)) t := fun t k => castTop (ef_rmX0 m a1 a2) k
  have go1 : ∀ t, Steps p.tables e below (s₁.setTop (mkF m 1 #[.val (.ref a1), .val (.ref a2), .unset] [(.ref a1)])) t → Steps p.tables e below (s₁.setTop (entryFrame m #[(.ref a1), (.ref a2)] 3)) t := fun t kt => go0 t (by
      refine XS.aloadN X0.here hx rfl (hb hby d25_0) rfl rfl ?_
      show Steps p.tables e below (s₁.setTop (mkF m 1 #[.val (.ref a1), .val (.ref a2), .unset] [(.ref a1)])) _
      exact kt)
  obtain ⟨T2, X2, e2, st2⟩ := getF X0 hx hZ hown (host := "") (Or.inl (own_h hw 120 rfl)) Via.refl e0 F_slots (g := (mkF m 1 #[.val (.ref a1), .val (.ref a2), .unset] [(.ref a1)])) rfl rfl (hb hby d25_1)
  have go3 : ∀ t, Steps p.tables e below (T2.setTop (mkF m 4 #[.val (.ref a1), .val (.ref a2), .unset] [(.ref x0)])) t → Steps p.tables e below (s₁.setTop (entryFrame m #[(.ref a1), (.ref a2)] 3)) t := fun t kt => go1 t (by
      refine st2 _ ?_
      show Steps p.tables e below (T2.setTop (mkF m 4 #[.val (.ref a1), .val (.ref a2), .unset] [(.ref x0)])) _
      exact kt)
  obtain ⟨c4, Ar4, q4⟩ := id VX
  have go5 : ∀ t, Steps p.tables e below (T2.setTop (mkF m 7 #[.val (.ref a1), .val (.ref a2), .unset] [(.int ((2 : Int32) - (1 : Int32)))])) t → Steps p.tables e below (s₁.setTop (entryFrame m #[(.ref a1), (.ref a2)] 3)) t := fun t kt => go3 t (by
      refine X2.arraylength hx (by rw [e2]; exact Ar4.1) (State.isArrayOf_alike hZ.alike Ar4.2.1) (g := (mkF m 4 #[.val (.ref a1), .val (.ref a2), .unset] [(.ref x0)])) rfl rfl (hb hby d25_4) _ ?_
      rw [own_len q4 (n := (2 : Int32)) rfl]
      show Steps p.tables e below (T2.setTop (mkF m 5 #[.val (.ref a1), .val (.ref a2), .unset] [(.int (2 : Int32))])) _
      refine XS.iconst X2.here hx rfl (hb hby d25_5) ?_
      show Steps p.tables e below (T2.setTop (mkF m 6 #[.val (.ref a1), .val (.ref a2), .unset] [(.int (1 : Int32)), (.int (2 : Int32))])) _
      refine XS.isub X2.here hx rfl (hb hby d25_6) rfl ?_
      show Steps p.tables e below (T2.setTop (mkF m 7 #[.val (.ref a1), .val (.ref a2), .unset] [(.int ((2 : Int32) - (1 : Int32)))])) _
      exact kt)
  rw [show ((2 : Int32) - (1 : Int32)) = (1 : Int32) from by decide] at go5
  have hc9_6 : ¬ ((1 : Int32) < (0 : Int32)) := (by decide)
  have go7 : ∀ t, Steps p.tables e below (T2.setTop (mkF m 14 #[.val (.ref a1), .val (.ref a2), .val (.int (1 : Int32))] [(.ref a1), (.ref a2)])) t → Steps p.tables e below (s₁.setTop (entryFrame m #[(.ref a1), (.ref a2)] 3)) t := fun t kt => go5 t (by
      refine XS.istoreN X2.here hx rfl (hb hby d25_7) rfl (l' := #[.val (.ref a1), .val (.ref a2), .val (.int (1 : Int32))]) rfl ?_
      show Steps p.tables e below (T2.setTop (mkF m 8 #[.val (.ref a1), .val (.ref a2), .val (.int (1 : Int32))] [])) _
      refine XS.iloadN X2.here hx rfl (hb hby d25_8) rfl ?_
      show Steps p.tables e below (T2.setTop (mkF m 9 #[.val (.ref a1), .val (.ref a2), .val (.int (1 : Int32))] [(.int (1 : Int32))])) _
      refine XS.ifNo X2.here hx rfl (hb hby d25_9) rfl ((if0 _ _).trans (flt hc9_6).1) ?_
      show Steps p.tables e below (T2.setTop (mkF m 12 #[.val (.ref a1), .val (.ref a2), .val (.int (1 : Int32))] [])) _
      refine XS.aloadN X2.here hx rfl (hb hby d25_12) rfl rfl ?_
      show Steps p.tables e below (T2.setTop (mkF m 13 #[.val (.ref a1), .val (.ref a2), .val (.int (1 : Int32))] [(.ref a2)])) _
      refine XS.aloadN X2.here hx rfl (hb hby d25_13) rfl rfl ?_
      show Steps p.tables e below (T2.setTop (mkF m 14 #[.val (.ref a1), .val (.ref a2), .val (.int (1 : Int32))] [(.ref a1), (.ref a2)])) _
      exact kt)
  obtain ⟨T8, X8, e8, st8⟩ := getF X2 hx hZ hown (host := "") (Or.inl (own_h hw 120 rfl)) Via.refl e2 F_slots (g := (mkF m 14 #[.val (.ref a1), .val (.ref a2), .val (.int (1 : Int32))] [(.ref a1), (.ref a2)])) rfl rfl (hb hby d25_14)
  have go9 : ∀ t, Steps p.tables e below (T8.setTop (mkF m 18 #[.val (.ref a1), .val (.ref a2), .val (.int (1 : Int32))] [(.int (1 : Int32)), (.ref x0), (.ref a2)])) t → Steps p.tables e below (s₁.setTop (entryFrame m #[(.ref a1), (.ref a2)] 3)) t := fun t kt => go7 t (by
      refine st8 _ ?_
      show Steps p.tables e below (T8.setTop (mkF m 17 #[.val (.ref a1), .val (.ref a2), .val (.int (1 : Int32))] [(.ref x0), (.ref a2)])) _
      refine XS.iloadN X8.here hx rfl (hb hby d25_17) rfl ?_
      show Steps p.tables e below (T8.setTop (mkF m 18 #[.val (.ref a1), .val (.ref a2), .val (.int (1 : Int32))] [(.int (1 : Int32)), (.ref x0), (.ref a2)])) _
      exact kt)
  obtain ⟨c10, Ar10, q10⟩ := id VX
  have go11 : ∀ t, Steps p.tables e below (T8.setTop (mkF m 19 #[.val (.ref a1), .val (.ref a2), .val (.int (1 : Int32))] [(.int (0 : Int32)), (.ref a2)])) t → Steps p.tables e below (s₁.setTop (entryFrame m #[(.ref a1), (.ref a2)] 3)) t := fun t kt => go9 t (by
      refine X8.iaload hx (j := (1 : Int32)) (v := (.int (0 : Int32))) (by rw [e8]; exact Ar10.1) (State.isArrayOf_alike hZ.alike Ar10.2.1) Ar10.2.2 (own_inb q10 (n := 2) rfl (by decide) (by decide)) (own_get q10 (i := 1) (by decide) rfl) (g := (mkF m 18 #[.val (.ref a1), .val (.ref a2), .val (.int (1 : Int32))] [(.int (1 : Int32)), (.ref x0), (.ref a2)])) rfl rfl (hb hby d25_18) _ ?_
      show Steps p.tables e below (T8.setTop (mkF m 19 #[.val (.ref a1), .val (.ref a2), .val (.int (1 : Int32))] [(.int (0 : Int32)), (.ref a2)])) _
      exact kt)
  obtain ⟨c12, Ar12, q12⟩ := id VL
  have go13 : ∀ t, Steps p.tables e below (T8.setTop (mkF m 21 #[.val (.ref a1), .val (.ref a2), .val (.int (1 : Int32))] [(.ref a1), (.long v0)])) t → Steps p.tables e below (s₁.setTop (entryFrame m #[(.ref a1), (.ref a2)] 3)) t := fun t kt => go11 t (by
      refine X8.laload hx (j := (0 : Int32)) (v := (.long v0)) (by rw [e8]; exact Ar12.1) (State.isArrayOf_alike hZ.alike Ar12.2.1) Ar12.2.2 (own_inb q12 (n := 3) rfl (by decide) (by decide)) (own_get q12 (i := 0) (by decide) rfl) (g := (mkF m 19 #[.val (.ref a1), .val (.ref a2), .val (.int (1 : Int32))] [(.int (0 : Int32)), (.ref a2)])) rfl rfl (hb hby d25_19) _ ?_
      show Steps p.tables e below (T8.setTop (mkF m 20 #[.val (.ref a1), .val (.ref a2), .val (.int (1 : Int32))] [(.long v0)])) _
      refine XS.aloadN X8.here hx rfl (hb hby d25_20) rfl rfl ?_
      show Steps p.tables e below (T8.setTop (mkF m 21 #[.val (.ref a1), .val (.ref a2), .val (.int (1 : Int32))] [(.ref a1), (.long v0)])) _
      exact kt)
  obtain ⟨T14, X14, e14, st14⟩ := getF X8 hx hZ hown (host := "") (Or.inl (own_h hw 125 rfl)) Via.refl e8 F_lasts (g := (mkF m 21 #[.val (.ref a1), .val (.ref a2), .val (.int (1 : Int32))] [(.ref a1), (.long v0)])) rfl rfl (hb hby d25_21)
  have go15 : ∀ t, Steps p.tables e below (T14.setTop (mkF m 25 #[.val (.ref a1), .val (.ref a2), .val (.int (1 : Int32))] [(.int (1 : Int32)), (.ref z0), (.long v0)])) t → Steps p.tables e below (s₁.setTop (entryFrame m #[(.ref a1), (.ref a2)] 3)) t := fun t kt => go13 t (by
      refine st14 _ ?_
      show Steps p.tables e below (T14.setTop (mkF m 24 #[.val (.ref a1), .val (.ref a2), .val (.int (1 : Int32))] [(.ref z0), (.long v0)])) _
      refine XS.iloadN X14.here hx rfl (hb hby d25_24) rfl ?_
      show Steps p.tables e below (T14.setTop (mkF m 25 #[.val (.ref a1), .val (.ref a2), .val (.int (1 : Int32))] [(.int (1 : Int32)), (.ref z0), (.long v0)])) _
      exact kt)
  obtain ⟨c16, Ar16, q16⟩ := id VZ
  have hc27_17 : ¬ ((lcmpW v0 g1) = (0 : Int32)) := fun q => c1 ((lw_eq _ _).mp q)
  have go18 : ∀ t, Steps p.tables e below (T14.setTop (mkF m 32 #[.val (.ref a1), .val (.ref a2), .val (.int (1 : Int32))] [(.ref a1), (.ref a2)])) t → Steps p.tables e below (s₁.setTop (entryFrame m #[(.ref a1), (.ref a2)] 3)) t := fun t kt => go15 t (by
      refine X14.laload hx (j := (1 : Int32)) (v := (.long g1)) (by rw [e14]; exact Ar16.1) (State.isArrayOf_alike hZ.alike Ar16.2.1) Ar16.2.2 (own_inb q16 (n := 2) rfl (by decide) (by decide)) (own_get q16 (i := 1) (by decide) rfl) (g := (mkF m 25 #[.val (.ref a1), .val (.ref a2), .val (.int (1 : Int32))] [(.int (1 : Int32)), (.ref z0), (.long v0)])) rfl rfl (hb hby d25_25) _ ?_
      show Steps p.tables e below (T14.setTop (mkF m 26 #[.val (.ref a1), .val (.ref a2), .val (.int (1 : Int32))] [(.long g1), (.long v0)])) _
      refine XS.lcmp X14.here hx rfl (hb hby d25_26) rfl ?_
      show Steps p.tables e below (T14.setTop (mkF m 27 #[.val (.ref a1), .val (.ref a2), .val (.int (1 : Int32))] [(.int (lcmpW v0 g1))])) _
      refine XS.ifNo X14.here hx rfl (hb hby d25_27) rfl ((if0 _ _).trans (feq hc27_17).1) ?_
      show Steps p.tables e below (T14.setTop (mkF m 30 #[.val (.ref a1), .val (.ref a2), .val (.int (1 : Int32))] [])) _
      refine XS.aloadN X14.here hx rfl (hb hby d25_30) rfl rfl ?_
      show Steps p.tables e below (T14.setTop (mkF m 31 #[.val (.ref a1), .val (.ref a2), .val (.int (1 : Int32))] [(.ref a2)])) _
      refine XS.aloadN X14.here hx rfl (hb hby d25_31) rfl rfl ?_
      show Steps p.tables e below (T14.setTop (mkF m 32 #[.val (.ref a1), .val (.ref a2), .val (.int (1 : Int32))] [(.ref a1), (.ref a2)])) _
      exact kt)
  obtain ⟨T19, X19, e19, st19⟩ := getF X14 hx hZ hown (host := "") (Or.inl (own_h hw 120 rfl)) Via.refl e14 F_slots (g := (mkF m 32 #[.val (.ref a1), .val (.ref a2), .val (.int (1 : Int32))] [(.ref a1), (.ref a2)])) rfl rfl (hb hby d25_32)
  have go20 : ∀ t, Steps p.tables e below (T19.setTop (mkF m 36 #[.val (.ref a1), .val (.ref a2), .val (.int (1 : Int32))] [(.int (1 : Int32)), (.ref x0), (.ref a2)])) t → Steps p.tables e below (s₁.setTop (entryFrame m #[(.ref a1), (.ref a2)] 3)) t := fun t kt => go18 t (by
      refine st19 _ ?_
      show Steps p.tables e below (T19.setTop (mkF m 35 #[.val (.ref a1), .val (.ref a2), .val (.int (1 : Int32))] [(.ref x0), (.ref a2)])) _
      refine XS.iloadN X19.here hx rfl (hb hby d25_35) rfl ?_
      show Steps p.tables e below (T19.setTop (mkF m 36 #[.val (.ref a1), .val (.ref a2), .val (.int (1 : Int32))] [(.int (1 : Int32)), (.ref x0), (.ref a2)])) _
      exact kt)
  obtain ⟨c21, Ar21, q21⟩ := id VX
  have go22 : ∀ t, Steps p.tables e below (T19.setTop (mkF m 38 #[.val (.ref a1), .val (.ref a2), .val (.int (1 : Int32))] [(.int (0 : Int32)), (.ref a2), (.int (0 : Int32)), (.ref a2)])) t → Steps p.tables e below (s₁.setTop (entryFrame m #[(.ref a1), (.ref a2)] 3)) t := fun t kt => go20 t (by
      refine X19.iaload hx (j := (1 : Int32)) (v := (.int (0 : Int32))) (by rw [e19]; exact Ar21.1) (State.isArrayOf_alike hZ.alike Ar21.2.1) Ar21.2.2 (own_inb q21 (n := 2) rfl (by decide) (by decide)) (own_get q21 (i := 1) (by decide) rfl) (g := (mkF m 36 #[.val (.ref a1), .val (.ref a2), .val (.int (1 : Int32))] [(.int (1 : Int32)), (.ref x0), (.ref a2)])) rfl rfl (hb hby d25_36) _ ?_
      show Steps p.tables e below (T19.setTop (mkF m 37 #[.val (.ref a1), .val (.ref a2), .val (.int (1 : Int32))] [(.int (0 : Int32)), (.ref a2)])) _
      refine XT.dup2 X19.here hx rfl (hb hby d25_37) rfl rfl rfl ?_
      show Steps p.tables e below (T19.setTop (mkF m 38 #[.val (.ref a1), .val (.ref a2), .val (.int (1 : Int32))] [(.int (0 : Int32)), (.ref a2), (.int (0 : Int32)), (.ref a2)])) _
      exact kt)
  obtain ⟨c23, Ar23, q23⟩ := id VL
  have go24 : ∀ t, Steps p.tables e below (T19.setTop (mkF m 41 #[.val (.ref a1), .val (.ref a2), .val (.int (1 : Int32))] [(.long (v0 + (1 : Int64))), (.int (0 : Int32)), (.ref a2)])) t → Steps p.tables e below (s₁.setTop (entryFrame m #[(.ref a1), (.ref a2)] 3)) t := fun t kt => go22 t (by
      refine X19.laload hx (j := (0 : Int32)) (v := (.long v0)) (by rw [e19]; exact Ar23.1) (State.isArrayOf_alike hZ.alike Ar23.2.1) Ar23.2.2 (own_inb q23 (n := 3) rfl (by decide) (by decide)) (own_get q23 (i := 0) (by decide) rfl) (g := (mkF m 38 #[.val (.ref a1), .val (.ref a2), .val (.int (1 : Int32))] [(.int (0 : Int32)), (.ref a2), (.int (0 : Int32)), (.ref a2)])) rfl rfl (hb hby d25_38) _ ?_
      show Steps p.tables e below (T19.setTop (mkF m 39 #[.val (.ref a1), .val (.ref a2), .val (.int (1 : Int32))] [(.long v0), (.int (0 : Int32)), (.ref a2)])) _
      refine XS.lconst X19.here hx rfl (hb hby d25_39) ?_
      show Steps p.tables e below (T19.setTop (mkF m 40 #[.val (.ref a1), .val (.ref a2), .val (.int (1 : Int32))] [(.long (1 : Int64)), (.long v0), (.int (0 : Int32)), (.ref a2)])) _
      refine XS.ladd X19.here hx rfl (hb hby d25_40) rfl ?_
      show Steps p.tables e below (T19.setTop (mkF m 41 #[.val (.ref a1), .val (.ref a2), .val (.int (1 : Int32))] [(.long (v0 + (1 : Int64))), (.int (0 : Int32)), (.ref a2)])) _
      exact kt)
  obtain ⟨c25, Ar25, q25⟩ := id VL
  obtain ⟨T25, h25, X25, e25, W25, st25⟩ := stJ X19 hx hZ e19 Ar25 (j := (0 : Int32)) (own_inb q25 (n := 3) rfl (by decide) (by decide)) (g := (mkF m 41 #[.val (.ref a1), .val (.ref a2), .val (.int (1 : Int32))] [(.long (v0 + (1 : Int64))), (.int (0 : Int32)), (.ref a2)])) rfl rfl (hb hby d25_41)
  have V25 : own_AV Z h25 a2 .long [(.long (v0 + (1 : Int64))), (.long v1), (.long v2)] := own_AV.set Ar25 q25 W25 (i := 0) (by decide) rfl
  obtain ⟨Ls25, X25, N25⟩ := own_loc X25 (Fr.snoc X25 N0 ga)
  have go26 : ∀ t, Steps p.tables e below (T25.setTop (mkF m 43 #[.val (.ref a1), .val (.ref a2), .val (.int (1 : Int32))] [(.int (1 : Int32))])) t → Steps p.tables e below (s₁.setTop (entryFrame m #[(.ref a1), (.ref a2)] 3)) t := fun t kt => go24 t (by
      refine st25 _ ?_
      show Steps p.tables e below (T25.setTop (mkF m 42 #[.val (.ref a1), .val (.ref a2), .val (.int (1 : Int32))] [])) _
      refine XS.iconst X25.here hx rfl (hb hby d25_42) ?_
      show Steps p.tables e below (T25.setTop (mkF m 43 #[.val (.ref a1), .val (.ref a2), .val (.int (1 : Int32))] [(.int (1 : Int32))])) _
      exact kt)
  obtain ⟨fs, hr, hrun, hended, hW, hsame⟩ := X25.leave (v := some (.int (1 : Int32))) (fun h => by rw [Bd.returns] at h; cases h)
  refine ⟨_, _, go26 _ (retN X25 hx (t := .boolean) Bd.returns (by simp) (hb hby d25_43) hr), hrun, hended, _, _, rfl, ?_, ⟨_, rfl⟩, hW, hsame.mono (by decide) (by decide)⟩
  show own_QX _ _ _ _ _ _ _ T25.heap _
  rw [e25]
  exact ⟨rfl, N25, ((Keep.refl h0 [a2]).wr W25 (Or.inl (List.mem_of_getElem? (i := 0) rfl))), V25⟩
theorem d25_44 : decode prog_19_method_5_code 44 = .ok (.aload_n 1, 1) := by decide +kernel
theorem d25_45 : decode prog_19_method_5_code 45 = .ok (.aload_n 0, 1) := by decide +kernel
theorem d25_46 : decode prog_19_method_5_code 46 = .ok (.getfield 13, 3) := by decide +kernel
theorem d25_49 : decode prog_19_method_5_code 49 = .ok (.iload_n 2, 1) := by decide +kernel
theorem d25_50 : decode prog_19_method_5_code 50 = .ok (.iaload, 1) := by decide +kernel
theorem d25_51 : decode prog_19_method_5_code 51 = .ok (.aload_n 0, 1) := by decide +kernel
theorem d25_52 : decode prog_19_method_5_code 52 = .ok (.getfield 19, 3) := by decide +kernel
theorem d25_55 : decode prog_19_method_5_code 55 = .ok (.iload_n 2, 1) := by decide +kernel
theorem d25_56 : decode prog_19_method_5_code 56 = .ok (.laload, 1) := by decide +kernel
theorem d25_57 : decode prog_19_method_5_code 57 = .ok (.lastore, 1) := by decide +kernel
theorem d25_58 : decode prog_19_method_5_code 58 = .ok (.iinc 2 (-1), 3) := by decide +kernel
theorem d25_61 : decode prog_19_method_5_code 61 = .ok (.goto (-53), 3) := by decide +kernel
theorem ef_rmX1 (m : MethodId) (a1 : Addr) (a2 : Addr) : entryFrame m #[(.ref a1), (.ref a2)] 3 = mkF m 0 #[.val (.ref a1), .val (.ref a2), .unset] [] := by first | (simp [entryFrame, mkF, argsToLocals, Value.category]; done) | rfl
set_option maxRecDepth 65536 in
set_option maxHeartbeats 40000000 in
theorem rmX1 (l : Launch) (Z : State) (a0 : Array Value) (hw : ∀ d ∈ tables_1, d.before a0 Z = true) (ws : List Jvm.Cond) (a1 a2 x0 y0 z0 : Addr) (f0 f1 g0 g1 v0 v1 v2 : Int64) (h0 : Heap) (n0 : Nat) (Z0 : n0 ≤ h0.size) (F_slots : Fld Z h0 a1 "com/example/invariant_ink/invariantink/engine/Combinations" "slots" "[I" (.ref x0)) (F_firsts : Fld Z h0 a1 "com/example/invariant_ink/invariantink/engine/Combinations" "firsts" "[J" (.ref y0)) (F_lasts : Fld Z h0 a1 "com/example/invariant_ink/invariantink/engine/Combinations" "lasts" "[J" (.ref z0)) (VX : own_AV Z h0 x0 .int [(.int (2 : Int32)), (.int (0 : Int32))]) (VY : own_AV Z h0 y0 .long [(.long f0), (.long f1)]) (VZ : own_AV Z h0 z0 .long [(.long g0), (.long g1)]) (VL : own_AV Z h0 a2 .long [(.long v0), (.long v1), (.long v2)]) (ga : n0 ≤ a2) (na : a1 ≠ a2) (nx : x0 ≠ a2) (ny : y0 ≠ a2) (nz : z0 ≠ a2) (c1 : v0 = g1) (c2 : ¬ v2 = g0) :
    MetFree l (⟨"com/example/invariant_ink/invariantink/engine/Combinations", "next", "([J)Z"⟩ : MethodName) (head1 (Jvm.Cond.code (⟨"com/example/invariant_ink/invariantink/engine/Combinations", "next", "([J)Z"⟩ : MethodName) prog_19_method_5_code 3 (some .boolean) :: ws) ({ frames := 0, cells := 0, slots := 0, locals := 0 } : Room)) (fun a U => a = #[(.ref a1), (.ref a2)] ∧ Z.Warmed39 U.vm ∧ U.heap = h0) (fun _ _ _ _ _ => True) (fun _ U o U' => ∃ v L, o = .returned v ∧ own_QX 1 Z a2 [(.long f1), (.long v1), (.long (v2 + (1 : Int64)))] h0 n0 v U'.heap L ∧ FrameEnd U o U' L ({ frames := 0, cells := 0, slots := 0, locals := 0 } : Room).cells ({ frames := 0, cells := 0, slots := 0, locals := 0 } : Room).slots) := by
  refine MetFree.of_bodySF (plainFor_of_name pn_25) hisR ?_
  intro p e s m args below meth c s₁ Bd hml0 hP hK
  obtain ⟨rfl, hZ, hh⟩ := hP
  have hx := Bd.exec
  have hby := Bd.bytes
  have hml : c.maxLocals = 3 := hml0
  have hown : s.vm.findClass "com/example/invariant_ink/invariantink/engine/Combinations" = some m.cls := findClass_of_methodNamed Bd.named
  have hnm := (name_of_methodNamed Bd.named Bd.method).1
  have X0 : Stand p l e ({ frames := 0, cells := 0, slots := 0, locals := 0 } : Room) s m #[(.ref a1), (.ref a2)] below meth c s₁ [] 0 0 := Stand.of_body Bd
  have e0 : s₁.heap = h0 := by rw [← hh, Bd.state]; rfl
  have N0 := Fr.nil n0
  have go0 : ∀ t, Steps p.tables e below (s₁.setTop (mkF m 0 #[.val (.ref a1), .val (.ref a2), .unset] [])) t → Steps p.tables e below (s₁.setTop (entryFrame m #[(.ref a1), (.ref a2)] 3)) t := fun t k => castTop (ef_rmX1 m a1 a2) k
  have go1 : ∀ t, Steps p.tables e below (s₁.setTop (mkF m 1 #[.val (.ref a1), .val (.ref a2), .unset] [(.ref a1)])) t → Steps p.tables e below (s₁.setTop (entryFrame m #[(.ref a1), (.ref a2)] 3)) t := fun t kt => go0 t (by
      refine XS.aloadN X0.here hx rfl (hb hby d25_0) rfl rfl ?_
      show Steps p.tables e below (s₁.setTop (mkF m 1 #[.val (.ref a1), .val (.ref a2), .unset] [(.ref a1)])) _
      exact kt)
  obtain ⟨T2, X2, e2, st2⟩ := getF X0 hx hZ hown (host := "") (Or.inl (own_h hw 120 rfl)) Via.refl e0 F_slots (g := (mkF m 1 #[.val (.ref a1), .val (.ref a2), .unset] [(.ref a1)])) rfl rfl (hb hby d25_1)
  have go3 : ∀ t, Steps p.tables e below (T2.setTop (mkF m 4 #[.val (.ref a1), .val (.ref a2), .unset] [(.ref x0)])) t → Steps p.tables e below (s₁.setTop (entryFrame m #[(.ref a1), (.ref a2)] 3)) t := fun t kt => go1 t (by
      refine st2 _ ?_
      show Steps p.tables e below (T2.setTop (mkF m 4 #[.val (.ref a1), .val (.ref a2), .unset] [(.ref x0)])) _
      exact kt)
  obtain ⟨c4, Ar4, q4⟩ := id VX
  have go5 : ∀ t, Steps p.tables e below (T2.setTop (mkF m 7 #[.val (.ref a1), .val (.ref a2), .unset] [(.int ((2 : Int32) - (1 : Int32)))])) t → Steps p.tables e below (s₁.setTop (entryFrame m #[(.ref a1), (.ref a2)] 3)) t := fun t kt => go3 t (by
      refine X2.arraylength hx (by rw [e2]; exact Ar4.1) (State.isArrayOf_alike hZ.alike Ar4.2.1) (g := (mkF m 4 #[.val (.ref a1), .val (.ref a2), .unset] [(.ref x0)])) rfl rfl (hb hby d25_4) _ ?_
      rw [own_len q4 (n := (2 : Int32)) rfl]
      show Steps p.tables e below (T2.setTop (mkF m 5 #[.val (.ref a1), .val (.ref a2), .unset] [(.int (2 : Int32))])) _
      refine XS.iconst X2.here hx rfl (hb hby d25_5) ?_
      show Steps p.tables e below (T2.setTop (mkF m 6 #[.val (.ref a1), .val (.ref a2), .unset] [(.int (1 : Int32)), (.int (2 : Int32))])) _
      refine XS.isub X2.here hx rfl (hb hby d25_6) rfl ?_
      show Steps p.tables e below (T2.setTop (mkF m 7 #[.val (.ref a1), .val (.ref a2), .unset] [(.int ((2 : Int32) - (1 : Int32)))])) _
      exact kt)
  rw [show ((2 : Int32) - (1 : Int32)) = (1 : Int32) from by decide] at go5
  have hc9_6 : ¬ ((1 : Int32) < (0 : Int32)) := (by decide)
  have go7 : ∀ t, Steps p.tables e below (T2.setTop (mkF m 14 #[.val (.ref a1), .val (.ref a2), .val (.int (1 : Int32))] [(.ref a1), (.ref a2)])) t → Steps p.tables e below (s₁.setTop (entryFrame m #[(.ref a1), (.ref a2)] 3)) t := fun t kt => go5 t (by
      refine XS.istoreN X2.here hx rfl (hb hby d25_7) rfl (l' := #[.val (.ref a1), .val (.ref a2), .val (.int (1 : Int32))]) rfl ?_
      show Steps p.tables e below (T2.setTop (mkF m 8 #[.val (.ref a1), .val (.ref a2), .val (.int (1 : Int32))] [])) _
      refine XS.iloadN X2.here hx rfl (hb hby d25_8) rfl ?_
      show Steps p.tables e below (T2.setTop (mkF m 9 #[.val (.ref a1), .val (.ref a2), .val (.int (1 : Int32))] [(.int (1 : Int32))])) _
      refine XS.ifNo X2.here hx rfl (hb hby d25_9) rfl ((if0 _ _).trans (flt hc9_6).1) ?_
      show Steps p.tables e below (T2.setTop (mkF m 12 #[.val (.ref a1), .val (.ref a2), .val (.int (1 : Int32))] [])) _
      refine XS.aloadN X2.here hx rfl (hb hby d25_12) rfl rfl ?_
      show Steps p.tables e below (T2.setTop (mkF m 13 #[.val (.ref a1), .val (.ref a2), .val (.int (1 : Int32))] [(.ref a2)])) _
      refine XS.aloadN X2.here hx rfl (hb hby d25_13) rfl rfl ?_
      show Steps p.tables e below (T2.setTop (mkF m 14 #[.val (.ref a1), .val (.ref a2), .val (.int (1 : Int32))] [(.ref a1), (.ref a2)])) _
      exact kt)
  obtain ⟨T8, X8, e8, st8⟩ := getF X2 hx hZ hown (host := "") (Or.inl (own_h hw 120 rfl)) Via.refl e2 F_slots (g := (mkF m 14 #[.val (.ref a1), .val (.ref a2), .val (.int (1 : Int32))] [(.ref a1), (.ref a2)])) rfl rfl (hb hby d25_14)
  have go9 : ∀ t, Steps p.tables e below (T8.setTop (mkF m 18 #[.val (.ref a1), .val (.ref a2), .val (.int (1 : Int32))] [(.int (1 : Int32)), (.ref x0), (.ref a2)])) t → Steps p.tables e below (s₁.setTop (entryFrame m #[(.ref a1), (.ref a2)] 3)) t := fun t kt => go7 t (by
      refine st8 _ ?_
      show Steps p.tables e below (T8.setTop (mkF m 17 #[.val (.ref a1), .val (.ref a2), .val (.int (1 : Int32))] [(.ref x0), (.ref a2)])) _
      refine XS.iloadN X8.here hx rfl (hb hby d25_17) rfl ?_
      show Steps p.tables e below (T8.setTop (mkF m 18 #[.val (.ref a1), .val (.ref a2), .val (.int (1 : Int32))] [(.int (1 : Int32)), (.ref x0), (.ref a2)])) _
      exact kt)
  obtain ⟨c10, Ar10, q10⟩ := id VX
  have go11 : ∀ t, Steps p.tables e below (T8.setTop (mkF m 19 #[.val (.ref a1), .val (.ref a2), .val (.int (1 : Int32))] [(.int (0 : Int32)), (.ref a2)])) t → Steps p.tables e below (s₁.setTop (entryFrame m #[(.ref a1), (.ref a2)] 3)) t := fun t kt => go9 t (by
      refine X8.iaload hx (j := (1 : Int32)) (v := (.int (0 : Int32))) (by rw [e8]; exact Ar10.1) (State.isArrayOf_alike hZ.alike Ar10.2.1) Ar10.2.2 (own_inb q10 (n := 2) rfl (by decide) (by decide)) (own_get q10 (i := 1) (by decide) rfl) (g := (mkF m 18 #[.val (.ref a1), .val (.ref a2), .val (.int (1 : Int32))] [(.int (1 : Int32)), (.ref x0), (.ref a2)])) rfl rfl (hb hby d25_18) _ ?_
      show Steps p.tables e below (T8.setTop (mkF m 19 #[.val (.ref a1), .val (.ref a2), .val (.int (1 : Int32))] [(.int (0 : Int32)), (.ref a2)])) _
      exact kt)
  obtain ⟨c12, Ar12, q12⟩ := id VL
  have go13 : ∀ t, Steps p.tables e below (T8.setTop (mkF m 21 #[.val (.ref a1), .val (.ref a2), .val (.int (1 : Int32))] [(.ref a1), (.long v0)])) t → Steps p.tables e below (s₁.setTop (entryFrame m #[(.ref a1), (.ref a2)] 3)) t := fun t kt => go11 t (by
      refine X8.laload hx (j := (0 : Int32)) (v := (.long v0)) (by rw [e8]; exact Ar12.1) (State.isArrayOf_alike hZ.alike Ar12.2.1) Ar12.2.2 (own_inb q12 (n := 3) rfl (by decide) (by decide)) (own_get q12 (i := 0) (by decide) rfl) (g := (mkF m 19 #[.val (.ref a1), .val (.ref a2), .val (.int (1 : Int32))] [(.int (0 : Int32)), (.ref a2)])) rfl rfl (hb hby d25_19) _ ?_
      show Steps p.tables e below (T8.setTop (mkF m 20 #[.val (.ref a1), .val (.ref a2), .val (.int (1 : Int32))] [(.long v0)])) _
      refine XS.aloadN X8.here hx rfl (hb hby d25_20) rfl rfl ?_
      show Steps p.tables e below (T8.setTop (mkF m 21 #[.val (.ref a1), .val (.ref a2), .val (.int (1 : Int32))] [(.ref a1), (.long v0)])) _
      exact kt)
  obtain ⟨T14, X14, e14, st14⟩ := getF X8 hx hZ hown (host := "") (Or.inl (own_h hw 125 rfl)) Via.refl e8 F_lasts (g := (mkF m 21 #[.val (.ref a1), .val (.ref a2), .val (.int (1 : Int32))] [(.ref a1), (.long v0)])) rfl rfl (hb hby d25_21)
  have go15 : ∀ t, Steps p.tables e below (T14.setTop (mkF m 25 #[.val (.ref a1), .val (.ref a2), .val (.int (1 : Int32))] [(.int (1 : Int32)), (.ref z0), (.long v0)])) t → Steps p.tables e below (s₁.setTop (entryFrame m #[(.ref a1), (.ref a2)] 3)) t := fun t kt => go13 t (by
      refine st14 _ ?_
      show Steps p.tables e below (T14.setTop (mkF m 24 #[.val (.ref a1), .val (.ref a2), .val (.int (1 : Int32))] [(.ref z0), (.long v0)])) _
      refine XS.iloadN X14.here hx rfl (hb hby d25_24) rfl ?_
      show Steps p.tables e below (T14.setTop (mkF m 25 #[.val (.ref a1), .val (.ref a2), .val (.int (1 : Int32))] [(.int (1 : Int32)), (.ref z0), (.long v0)])) _
      exact kt)
  obtain ⟨c16, Ar16, q16⟩ := id VZ
  have hc27_17 : (lcmpW v0 g1) = (0 : Int32) := (lw_eq _ _).mpr c1
  have go18 : ∀ t, Steps p.tables e below (T14.setTop (mkF m 46 #[.val (.ref a1), .val (.ref a2), .val (.int (1 : Int32))] [(.ref a1), (.ref a2)])) t → Steps p.tables e below (s₁.setTop (entryFrame m #[(.ref a1), (.ref a2)] 3)) t := fun t kt => go15 t (by
      refine X14.laload hx (j := (1 : Int32)) (v := (.long g1)) (by rw [e14]; exact Ar16.1) (State.isArrayOf_alike hZ.alike Ar16.2.1) Ar16.2.2 (own_inb q16 (n := 2) rfl (by decide) (by decide)) (own_get q16 (i := 1) (by decide) rfl) (g := (mkF m 25 #[.val (.ref a1), .val (.ref a2), .val (.int (1 : Int32))] [(.int (1 : Int32)), (.ref z0), (.long v0)])) rfl rfl (hb hby d25_25) _ ?_
      show Steps p.tables e below (T14.setTop (mkF m 26 #[.val (.ref a1), .val (.ref a2), .val (.int (1 : Int32))] [(.long g1), (.long v0)])) _
      refine XS.lcmp X14.here hx rfl (hb hby d25_26) rfl ?_
      show Steps p.tables e below (T14.setTop (mkF m 27 #[.val (.ref a1), .val (.ref a2), .val (.int (1 : Int32))] [(.int (lcmpW v0 g1))])) _
      refine XS.ifYes X14.here hx rfl (pc0 := 27) (pc' := 44) rfl (hb hby d25_27) rfl ((if0 _ _).trans (teq hc27_17).1) (by decide) (by decide) ?_
      show Steps p.tables e below (T14.setTop (mkF m 44 #[.val (.ref a1), .val (.ref a2), .val (.int (1 : Int32))] [])) _
      refine XS.aloadN X14.here hx rfl (hb hby d25_44) rfl rfl ?_
      show Steps p.tables e below (T14.setTop (mkF m 45 #[.val (.ref a1), .val (.ref a2), .val (.int (1 : Int32))] [(.ref a2)])) _
      refine XS.aloadN X14.here hx rfl (hb hby d25_45) rfl rfl ?_
      show Steps p.tables e below (T14.setTop (mkF m 46 #[.val (.ref a1), .val (.ref a2), .val (.int (1 : Int32))] [(.ref a1), (.ref a2)])) _
      exact kt)
  obtain ⟨T19, X19, e19, st19⟩ := getF X14 hx hZ hown (host := "") (Or.inl (own_h hw 120 rfl)) Via.refl e14 F_slots (g := (mkF m 46 #[.val (.ref a1), .val (.ref a2), .val (.int (1 : Int32))] [(.ref a1), (.ref a2)])) rfl rfl (hb hby d25_46)
  have go20 : ∀ t, Steps p.tables e below (T19.setTop (mkF m 50 #[.val (.ref a1), .val (.ref a2), .val (.int (1 : Int32))] [(.int (1 : Int32)), (.ref x0), (.ref a2)])) t → Steps p.tables e below (s₁.setTop (entryFrame m #[(.ref a1), (.ref a2)] 3)) t := fun t kt => go18 t (by
      refine st19 _ ?_
      show Steps p.tables e below (T19.setTop (mkF m 49 #[.val (.ref a1), .val (.ref a2), .val (.int (1 : Int32))] [(.ref x0), (.ref a2)])) _
      refine XS.iloadN X19.here hx rfl (hb hby d25_49) rfl ?_
      show Steps p.tables e below (T19.setTop (mkF m 50 #[.val (.ref a1), .val (.ref a2), .val (.int (1 : Int32))] [(.int (1 : Int32)), (.ref x0), (.ref a2)])) _
      exact kt)
  obtain ⟨c21, Ar21, q21⟩ := id VX
  have go22 : ∀ t, Steps p.tables e below (T19.setTop (mkF m 52 #[.val (.ref a1), .val (.ref a2), .val (.int (1 : Int32))] [(.ref a1), (.int (0 : Int32)), (.ref a2)])) t → Steps p.tables e below (s₁.setTop (entryFrame m #[(.ref a1), (.ref a2)] 3)) t := fun t kt => go20 t (by
      refine X19.iaload hx (j := (1 : Int32)) (v := (.int (0 : Int32))) (by rw [e19]; exact Ar21.1) (State.isArrayOf_alike hZ.alike Ar21.2.1) Ar21.2.2 (own_inb q21 (n := 2) rfl (by decide) (by decide)) (own_get q21 (i := 1) (by decide) rfl) (g := (mkF m 50 #[.val (.ref a1), .val (.ref a2), .val (.int (1 : Int32))] [(.int (1 : Int32)), (.ref x0), (.ref a2)])) rfl rfl (hb hby d25_50) _ ?_
      show Steps p.tables e below (T19.setTop (mkF m 51 #[.val (.ref a1), .val (.ref a2), .val (.int (1 : Int32))] [(.int (0 : Int32)), (.ref a2)])) _
      refine XS.aloadN X19.here hx rfl (hb hby d25_51) rfl rfl ?_
      show Steps p.tables e below (T19.setTop (mkF m 52 #[.val (.ref a1), .val (.ref a2), .val (.int (1 : Int32))] [(.ref a1), (.int (0 : Int32)), (.ref a2)])) _
      exact kt)
  obtain ⟨T23, X23, e23, st23⟩ := getF X19 hx hZ hown (host := "") (Or.inl (own_h hw 123 rfl)) Via.refl e19 F_firsts (g := (mkF m 52 #[.val (.ref a1), .val (.ref a2), .val (.int (1 : Int32))] [(.ref a1), (.int (0 : Int32)), (.ref a2)])) rfl rfl (hb hby d25_52)
  have go24 : ∀ t, Steps p.tables e below (T23.setTop (mkF m 56 #[.val (.ref a1), .val (.ref a2), .val (.int (1 : Int32))] [(.int (1 : Int32)), (.ref y0), (.int (0 : Int32)), (.ref a2)])) t → Steps p.tables e below (s₁.setTop (entryFrame m #[(.ref a1), (.ref a2)] 3)) t := fun t kt => go22 t (by
      refine st23 _ ?_
      show Steps p.tables e below (T23.setTop (mkF m 55 #[.val (.ref a1), .val (.ref a2), .val (.int (1 : Int32))] [(.ref y0), (.int (0 : Int32)), (.ref a2)])) _
      refine XS.iloadN X23.here hx rfl (hb hby d25_55) rfl ?_
      show Steps p.tables e below (T23.setTop (mkF m 56 #[.val (.ref a1), .val (.ref a2), .val (.int (1 : Int32))] [(.int (1 : Int32)), (.ref y0), (.int (0 : Int32)), (.ref a2)])) _
      exact kt)
  obtain ⟨c25, Ar25, q25⟩ := id VY
  have go26 : ∀ t, Steps p.tables e below (T23.setTop (mkF m 57 #[.val (.ref a1), .val (.ref a2), .val (.int (1 : Int32))] [(.long f1), (.int (0 : Int32)), (.ref a2)])) t → Steps p.tables e below (s₁.setTop (entryFrame m #[(.ref a1), (.ref a2)] 3)) t := fun t kt => go24 t (by
      refine X23.laload hx (j := (1 : Int32)) (v := (.long f1)) (by rw [e23]; exact Ar25.1) (State.isArrayOf_alike hZ.alike Ar25.2.1) Ar25.2.2 (own_inb q25 (n := 2) rfl (by decide) (by decide)) (own_get q25 (i := 1) (by decide) rfl) (g := (mkF m 56 #[.val (.ref a1), .val (.ref a2), .val (.int (1 : Int32))] [(.int (1 : Int32)), (.ref y0), (.int (0 : Int32)), (.ref a2)])) rfl rfl (hb hby d25_56) _ ?_
      show Steps p.tables e below (T23.setTop (mkF m 57 #[.val (.ref a1), .val (.ref a2), .val (.int (1 : Int32))] [(.long f1), (.int (0 : Int32)), (.ref a2)])) _
      exact kt)
  obtain ⟨c27, Ar27, q27⟩ := id VL
  obtain ⟨T27, h27, X27, e27, W27, st27⟩ := stJ X23 hx hZ e23 Ar27 (j := (0 : Int32)) (own_inb q27 (n := 3) rfl (by decide) (by decide)) (g := (mkF m 57 #[.val (.ref a1), .val (.ref a2), .val (.int (1 : Int32))] [(.long f1), (.int (0 : Int32)), (.ref a2)])) rfl rfl (hb hby d25_57)
  have V27 : own_AV Z h27 a2 .long [(.long f1), (.long v1), (.long v2)] := own_AV.set Ar27 q27 W27 (i := 0) (by decide) rfl
  obtain ⟨Ls27, X27, N27⟩ := own_loc X27 (Fr.snoc X27 N0 ga)
  have go28 : ∀ t, Steps p.tables e below (T27.setTop (mkF m 61 #[.val (.ref a1), .val (.ref a2), .val (.int ((1 : Int32) + (-1 : Int32)))] [])) t → Steps p.tables e below (s₁.setTop (entryFrame m #[(.ref a1), (.ref a2)] 3)) t := fun t kt => go26 t (by
      refine st27 _ ?_
      show Steps p.tables e below (T27.setTop (mkF m 58 #[.val (.ref a1), .val (.ref a2), .val (.int (1 : Int32))] [])) _
      refine XS.iinc X27.here hx rfl (hb hby d25_58) rfl (l' := #[.val (.ref a1), .val (.ref a2), .val (.int ((1 : Int32) + (-1 : Int32)))]) rfl ?_
      show Steps p.tables e below (T27.setTop (mkF m 61 #[.val (.ref a1), .val (.ref a2), .val (.int ((1 : Int32) + (-1 : Int32)))] [])) _
      exact kt)
  rw [show ((1 : Int32) + (-1 : Int32)) = (0 : Int32) from by decide] at go28
  have hc9_29 : ¬ ((0 : Int32) < (0 : Int32)) := (by decide)
  have go30 : ∀ t, Steps p.tables e below (T27.setTop (mkF m 14 #[.val (.ref a1), .val (.ref a2), .val (.int (0 : Int32))] [(.ref a1), (.ref a2)])) t → Steps p.tables e below (s₁.setTop (entryFrame m #[(.ref a1), (.ref a2)] 3)) t := fun t kt => go28 t (by
      refine XS.goto X27.here hx rfl (pc0 := 61) (pc' := 8) rfl (hb hby d25_61) (by decide) (by decide) ?_
      show Steps p.tables e below (T27.setTop (mkF m 8 #[.val (.ref a1), .val (.ref a2), .val (.int (0 : Int32))] [])) _
      refine XS.iloadN X27.here hx rfl (hb hby d25_8) rfl ?_
      show Steps p.tables e below (T27.setTop (mkF m 9 #[.val (.ref a1), .val (.ref a2), .val (.int (0 : Int32))] [(.int (0 : Int32))])) _
      refine XS.ifNo X27.here hx rfl (hb hby d25_9) rfl ((if0 _ _).trans (flt hc9_29).1) ?_
      show Steps p.tables e below (T27.setTop (mkF m 12 #[.val (.ref a1), .val (.ref a2), .val (.int (0 : Int32))] [])) _
      refine XS.aloadN X27.here hx rfl (hb hby d25_12) rfl rfl ?_
      show Steps p.tables e below (T27.setTop (mkF m 13 #[.val (.ref a1), .val (.ref a2), .val (.int (0 : Int32))] [(.ref a2)])) _
      refine XS.aloadN X27.here hx rfl (hb hby d25_13) rfl rfl ?_
      show Steps p.tables e below (T27.setTop (mkF m 14 #[.val (.ref a1), .val (.ref a2), .val (.int (0 : Int32))] [(.ref a1), (.ref a2)])) _
      exact kt)
  have fq31 := (F_slots.other W27 (Or.inl na))
  obtain ⟨T32, X32, e32, st32⟩ := getF X27 hx hZ hown (host := "") (Or.inl (own_h hw 120 rfl)) Via.refl e27 fq31 (g := (mkF m 14 #[.val (.ref a1), .val (.ref a2), .val (.int (0 : Int32))] [(.ref a1), (.ref a2)])) rfl rfl (hb hby d25_14)
  have go33 : ∀ t, Steps p.tables e below (T32.setTop (mkF m 18 #[.val (.ref a1), .val (.ref a2), .val (.int (0 : Int32))] [(.int (0 : Int32)), (.ref x0), (.ref a2)])) t → Steps p.tables e below (s₁.setTop (entryFrame m #[(.ref a1), (.ref a2)] 3)) t := fun t kt => go30 t (by
      refine st32 _ ?_
      show Steps p.tables e below (T32.setTop (mkF m 17 #[.val (.ref a1), .val (.ref a2), .val (.int (0 : Int32))] [(.ref x0), (.ref a2)])) _
      refine XS.iloadN X32.here hx rfl (hb hby d25_17) rfl ?_
      show Steps p.tables e below (T32.setTop (mkF m 18 #[.val (.ref a1), .val (.ref a2), .val (.int (0 : Int32))] [(.int (0 : Int32)), (.ref x0), (.ref a2)])) _
      exact kt)
  have fq34 := (VX.other W27 nx)
  obtain ⟨c35, Ar35, q35⟩ := id fq34
  have go36 : ∀ t, Steps p.tables e below (T32.setTop (mkF m 19 #[.val (.ref a1), .val (.ref a2), .val (.int (0 : Int32))] [(.int (2 : Int32)), (.ref a2)])) t → Steps p.tables e below (s₁.setTop (entryFrame m #[(.ref a1), (.ref a2)] 3)) t := fun t kt => go33 t (by
      refine X32.iaload hx (j := (0 : Int32)) (v := (.int (2 : Int32))) (by rw [e32]; exact Ar35.1) (State.isArrayOf_alike hZ.alike Ar35.2.1) Ar35.2.2 (own_inb q35 (n := 2) rfl (by decide) (by decide)) (own_get q35 (i := 0) (by decide) rfl) (g := (mkF m 18 #[.val (.ref a1), .val (.ref a2), .val (.int (0 : Int32))] [(.int (0 : Int32)), (.ref x0), (.ref a2)])) rfl rfl (hb hby d25_18) _ ?_
      show Steps p.tables e below (T32.setTop (mkF m 19 #[.val (.ref a1), .val (.ref a2), .val (.int (0 : Int32))] [(.int (2 : Int32)), (.ref a2)])) _
      exact kt)
  obtain ⟨c37, Ar37, q37⟩ := id V27
  have go38 : ∀ t, Steps p.tables e below (T32.setTop (mkF m 21 #[.val (.ref a1), .val (.ref a2), .val (.int (0 : Int32))] [(.ref a1), (.long v2)])) t → Steps p.tables e below (s₁.setTop (entryFrame m #[(.ref a1), (.ref a2)] 3)) t := fun t kt => go36 t (by
      refine X32.laload hx (j := (2 : Int32)) (v := (.long v2)) (by rw [e32]; exact Ar37.1) (State.isArrayOf_alike hZ.alike Ar37.2.1) Ar37.2.2 (own_inb q37 (n := 3) rfl (by decide) (by decide)) (own_get q37 (i := 2) (by decide) rfl) (g := (mkF m 19 #[.val (.ref a1), .val (.ref a2), .val (.int (0 : Int32))] [(.int (2 : Int32)), (.ref a2)])) rfl rfl (hb hby d25_19) _ ?_
      show Steps p.tables e below (T32.setTop (mkF m 20 #[.val (.ref a1), .val (.ref a2), .val (.int (0 : Int32))] [(.long v2)])) _
      refine XS.aloadN X32.here hx rfl (hb hby d25_20) rfl rfl ?_
      show Steps p.tables e below (T32.setTop (mkF m 21 #[.val (.ref a1), .val (.ref a2), .val (.int (0 : Int32))] [(.ref a1), (.long v2)])) _
      exact kt)
  have fq39 := (F_lasts.other W27 (Or.inl na))
  obtain ⟨T40, X40, e40, st40⟩ := getF X32 hx hZ hown (host := "") (Or.inl (own_h hw 125 rfl)) Via.refl e32 fq39 (g := (mkF m 21 #[.val (.ref a1), .val (.ref a2), .val (.int (0 : Int32))] [(.ref a1), (.long v2)])) rfl rfl (hb hby d25_21)
  have go41 : ∀ t, Steps p.tables e below (T40.setTop (mkF m 25 #[.val (.ref a1), .val (.ref a2), .val (.int (0 : Int32))] [(.int (0 : Int32)), (.ref z0), (.long v2)])) t → Steps p.tables e below (s₁.setTop (entryFrame m #[(.ref a1), (.ref a2)] 3)) t := fun t kt => go38 t (by
      refine st40 _ ?_
      show Steps p.tables e below (T40.setTop (mkF m 24 #[.val (.ref a1), .val (.ref a2), .val (.int (0 : Int32))] [(.ref z0), (.long v2)])) _
      refine XS.iloadN X40.here hx rfl (hb hby d25_24) rfl ?_
      show Steps p.tables e below (T40.setTop (mkF m 25 #[.val (.ref a1), .val (.ref a2), .val (.int (0 : Int32))] [(.int (0 : Int32)), (.ref z0), (.long v2)])) _
      exact kt)
  have fq42 := (VZ.other W27 nz)
  obtain ⟨c43, Ar43, q43⟩ := id fq42
  have hc27_44 : ¬ ((lcmpW v2 g0) = (0 : Int32)) := fun q => c2 ((lw_eq _ _).mp q)
  have go45 : ∀ t, Steps p.tables e below (T40.setTop (mkF m 32 #[.val (.ref a1), .val (.ref a2), .val (.int (0 : Int32))] [(.ref a1), (.ref a2)])) t → Steps p.tables e below (s₁.setTop (entryFrame m #[(.ref a1), (.ref a2)] 3)) t := fun t kt => go41 t (by
      refine X40.laload hx (j := (0 : Int32)) (v := (.long g0)) (by rw [e40]; exact Ar43.1) (State.isArrayOf_alike hZ.alike Ar43.2.1) Ar43.2.2 (own_inb q43 (n := 2) rfl (by decide) (by decide)) (own_get q43 (i := 0) (by decide) rfl) (g := (mkF m 25 #[.val (.ref a1), .val (.ref a2), .val (.int (0 : Int32))] [(.int (0 : Int32)), (.ref z0), (.long v2)])) rfl rfl (hb hby d25_25) _ ?_
      show Steps p.tables e below (T40.setTop (mkF m 26 #[.val (.ref a1), .val (.ref a2), .val (.int (0 : Int32))] [(.long g0), (.long v2)])) _
      refine XS.lcmp X40.here hx rfl (hb hby d25_26) rfl ?_
      show Steps p.tables e below (T40.setTop (mkF m 27 #[.val (.ref a1), .val (.ref a2), .val (.int (0 : Int32))] [(.int (lcmpW v2 g0))])) _
      refine XS.ifNo X40.here hx rfl (hb hby d25_27) rfl ((if0 _ _).trans (feq hc27_44).1) ?_
      show Steps p.tables e below (T40.setTop (mkF m 30 #[.val (.ref a1), .val (.ref a2), .val (.int (0 : Int32))] [])) _
      refine XS.aloadN X40.here hx rfl (hb hby d25_30) rfl rfl ?_
      show Steps p.tables e below (T40.setTop (mkF m 31 #[.val (.ref a1), .val (.ref a2), .val (.int (0 : Int32))] [(.ref a2)])) _
      refine XS.aloadN X40.here hx rfl (hb hby d25_31) rfl rfl ?_
      show Steps p.tables e below (T40.setTop (mkF m 32 #[.val (.ref a1), .val (.ref a2), .val (.int (0 : Int32))] [(.ref a1), (.ref a2)])) _
      exact kt)
  obtain ⟨T46, X46, e46, st46⟩ := getF X40 hx hZ hown (host := "") (Or.inl (own_h hw 120 rfl)) Via.refl e40 fq31 (g := (mkF m 32 #[.val (.ref a1), .val (.ref a2), .val (.int (0 : Int32))] [(.ref a1), (.ref a2)])) rfl rfl (hb hby d25_32)
  have go47 : ∀ t, Steps p.tables e below (T46.setTop (mkF m 36 #[.val (.ref a1), .val (.ref a2), .val (.int (0 : Int32))] [(.int (0 : Int32)), (.ref x0), (.ref a2)])) t → Steps p.tables e below (s₁.setTop (entryFrame m #[(.ref a1), (.ref a2)] 3)) t := fun t kt => go45 t (by
      refine st46 _ ?_
      show Steps p.tables e below (T46.setTop (mkF m 35 #[.val (.ref a1), .val (.ref a2), .val (.int (0 : Int32))] [(.ref x0), (.ref a2)])) _
      refine XS.iloadN X46.here hx rfl (hb hby d25_35) rfl ?_
      show Steps p.tables e below (T46.setTop (mkF m 36 #[.val (.ref a1), .val (.ref a2), .val (.int (0 : Int32))] [(.int (0 : Int32)), (.ref x0), (.ref a2)])) _
      exact kt)
  obtain ⟨c48, Ar48, q48⟩ := id fq34
  have go49 : ∀ t, Steps p.tables e below (T46.setTop (mkF m 38 #[.val (.ref a1), .val (.ref a2), .val (.int (0 : Int32))] [(.int (2 : Int32)), (.ref a2), (.int (2 : Int32)), (.ref a2)])) t → Steps p.tables e below (s₁.setTop (entryFrame m #[(.ref a1), (.ref a2)] 3)) t := fun t kt => go47 t (by
      refine X46.iaload hx (j := (0 : Int32)) (v := (.int (2 : Int32))) (by rw [e46]; exact Ar48.1) (State.isArrayOf_alike hZ.alike Ar48.2.1) Ar48.2.2 (own_inb q48 (n := 2) rfl (by decide) (by decide)) (own_get q48 (i := 0) (by decide) rfl) (g := (mkF m 36 #[.val (.ref a1), .val (.ref a2), .val (.int (0 : Int32))] [(.int (0 : Int32)), (.ref x0), (.ref a2)])) rfl rfl (hb hby d25_36) _ ?_
      show Steps p.tables e below (T46.setTop (mkF m 37 #[.val (.ref a1), .val (.ref a2), .val (.int (0 : Int32))] [(.int (2 : Int32)), (.ref a2)])) _
      refine XT.dup2 X46.here hx rfl (hb hby d25_37) rfl rfl rfl ?_
      show Steps p.tables e below (T46.setTop (mkF m 38 #[.val (.ref a1), .val (.ref a2), .val (.int (0 : Int32))] [(.int (2 : Int32)), (.ref a2), (.int (2 : Int32)), (.ref a2)])) _
      exact kt)
  obtain ⟨c50, Ar50, q50⟩ := id V27
  have go51 : ∀ t, Steps p.tables e below (T46.setTop (mkF m 41 #[.val (.ref a1), .val (.ref a2), .val (.int (0 : Int32))] [(.long (v2 + (1 : Int64))), (.int (2 : Int32)), (.ref a2)])) t → Steps p.tables e below (s₁.setTop (entryFrame m #[(.ref a1), (.ref a2)] 3)) t := fun t kt => go49 t (by
      refine X46.laload hx (j := (2 : Int32)) (v := (.long v2)) (by rw [e46]; exact Ar50.1) (State.isArrayOf_alike hZ.alike Ar50.2.1) Ar50.2.2 (own_inb q50 (n := 3) rfl (by decide) (by decide)) (own_get q50 (i := 2) (by decide) rfl) (g := (mkF m 38 #[.val (.ref a1), .val (.ref a2), .val (.int (0 : Int32))] [(.int (2 : Int32)), (.ref a2), (.int (2 : Int32)), (.ref a2)])) rfl rfl (hb hby d25_38) _ ?_
      show Steps p.tables e below (T46.setTop (mkF m 39 #[.val (.ref a1), .val (.ref a2), .val (.int (0 : Int32))] [(.long v2), (.int (2 : Int32)), (.ref a2)])) _
      refine XS.lconst X46.here hx rfl (hb hby d25_39) ?_
      show Steps p.tables e below (T46.setTop (mkF m 40 #[.val (.ref a1), .val (.ref a2), .val (.int (0 : Int32))] [(.long (1 : Int64)), (.long v2), (.int (2 : Int32)), (.ref a2)])) _
      refine XS.ladd X46.here hx rfl (hb hby d25_40) rfl ?_
      show Steps p.tables e below (T46.setTop (mkF m 41 #[.val (.ref a1), .val (.ref a2), .val (.int (0 : Int32))] [(.long (v2 + (1 : Int64))), (.int (2 : Int32)), (.ref a2)])) _
      exact kt)
  obtain ⟨c52, Ar52, q52⟩ := id V27
  obtain ⟨T52, h52, X52, e52, W52, st52⟩ := stJ X46 hx hZ e46 Ar52 (j := (2 : Int32)) (own_inb q52 (n := 3) rfl (by decide) (by decide)) (g := (mkF m 41 #[.val (.ref a1), .val (.ref a2), .val (.int (0 : Int32))] [(.long (v2 + (1 : Int64))), (.int (2 : Int32)), (.ref a2)])) rfl rfl (hb hby d25_41)
  have V52 : own_AV Z h52 a2 .long [(.long f1), (.long v1), (.long (v2 + (1 : Int64)))] := own_AV.set Ar52 q52 W52 (i := 2) (by decide) rfl
  obtain ⟨Ls52, X52, N52⟩ := own_loc X52 (Fr.snoc X52 N27 ga)
  have go53 : ∀ t, Steps p.tables e below (T52.setTop (mkF m 43 #[.val (.ref a1), .val (.ref a2), .val (.int (0 : Int32))] [(.int (1 : Int32))])) t → Steps p.tables e below (s₁.setTop (entryFrame m #[(.ref a1), (.ref a2)] 3)) t := fun t kt => go51 t (by
      refine st52 _ ?_
      show Steps p.tables e below (T52.setTop (mkF m 42 #[.val (.ref a1), .val (.ref a2), .val (.int (0 : Int32))] [])) _
      refine XS.iconst X52.here hx rfl (hb hby d25_42) ?_
      show Steps p.tables e below (T52.setTop (mkF m 43 #[.val (.ref a1), .val (.ref a2), .val (.int (0 : Int32))] [(.int (1 : Int32))])) _
      exact kt)
  obtain ⟨fs, hr, hrun, hended, hW, hsame⟩ := X52.leave (v := some (.int (1 : Int32))) (fun h => by rw [Bd.returns] at h; cases h)
  refine ⟨_, _, go53 _ (retN X52 hx (t := .boolean) Bd.returns (by simp) (hb hby d25_43) hr), hrun, hended, _, _, rfl, ?_, ⟨_, rfl⟩, hW, hsame.mono (by decide) (by decide)⟩
  show own_QX _ _ _ _ _ _ _ T52.heap _
  rw [e52]
  have kp54 := ((Keep.refl h0 [a2]).wr W27 (Or.inl (List.mem_of_getElem? (i := 0) rfl)))
  exact ⟨rfl, N52, (kp54.wr W52 (Or.inl (List.mem_of_getElem? (i := 0) rfl))), V52⟩
theorem d25_64 : decode prog_19_method_5_code 64 = .ok (.iconst 0, 1) := by decide +kernel
theorem d25_65 : decode prog_19_method_5_code 65 = .ok (.ireturn, 1) := by decide +kernel
theorem ef_rmX2 (m : MethodId) (a1 : Addr) (a2 : Addr) : entryFrame m #[(.ref a1), (.ref a2)] 3 = mkF m 0 #[.val (.ref a1), .val (.ref a2), .unset] [] := by first | (simp [entryFrame, mkF, argsToLocals, Value.category]; done) | rfl
set_option maxRecDepth 65536 in
set_option maxHeartbeats 40000000 in
theorem rmX2 (l : Launch) (Z : State) (a0 : Array Value) (hw : ∀ d ∈ tables_1, d.before a0 Z = true) (ws : List Jvm.Cond) (a1 a2 x0 y0 z0 : Addr) (f0 f1 g0 g1 v0 v1 v2 : Int64) (h0 : Heap) (n0 : Nat) (Z0 : n0 ≤ h0.size) (F_slots : Fld Z h0 a1 "com/example/invariant_ink/invariantink/engine/Combinations" "slots" "[I" (.ref x0)) (F_firsts : Fld Z h0 a1 "com/example/invariant_ink/invariantink/engine/Combinations" "firsts" "[J" (.ref y0)) (F_lasts : Fld Z h0 a1 "com/example/invariant_ink/invariantink/engine/Combinations" "lasts" "[J" (.ref z0)) (VX : own_AV Z h0 x0 .int [(.int (2 : Int32)), (.int (0 : Int32))]) (VY : own_AV Z h0 y0 .long [(.long f0), (.long f1)]) (VZ : own_AV Z h0 z0 .long [(.long g0), (.long g1)]) (VL : own_AV Z h0 a2 .long [(.long v0), (.long v1), (.long v2)]) (ga : n0 ≤ a2) (na : a1 ≠ a2) (nx : x0 ≠ a2) (ny : y0 ≠ a2) (nz : z0 ≠ a2) (c1 : v0 = g1) (c2 : v2 = g0) :
    MetFree l (⟨"com/example/invariant_ink/invariantink/engine/Combinations", "next", "([J)Z"⟩ : MethodName) (head1 (Jvm.Cond.code (⟨"com/example/invariant_ink/invariantink/engine/Combinations", "next", "([J)Z"⟩ : MethodName) prog_19_method_5_code 3 (some .boolean) :: ws) ({ frames := 0, cells := 0, slots := 0, locals := 0 } : Room)) (fun a U => a = #[(.ref a1), (.ref a2)] ∧ Z.Warmed39 U.vm ∧ U.heap = h0) (fun _ _ _ _ _ => True) (fun _ U o U' => ∃ v L, o = .returned v ∧ own_QX 0 Z a2 [(.long f1), (.long v1), (.long f0)] h0 n0 v U'.heap L ∧ FrameEnd U o U' L ({ frames := 0, cells := 0, slots := 0, locals := 0 } : Room).cells ({ frames := 0, cells := 0, slots := 0, locals := 0 } : Room).slots) := by
  refine MetFree.of_bodySF (plainFor_of_name pn_25) hisR ?_
  intro p e s m args below meth c s₁ Bd hml0 hP hK
  obtain ⟨rfl, hZ, hh⟩ := hP
  have hx := Bd.exec
  have hby := Bd.bytes
  have hml : c.maxLocals = 3 := hml0
  have hown : s.vm.findClass "com/example/invariant_ink/invariantink/engine/Combinations" = some m.cls := findClass_of_methodNamed Bd.named
  have hnm := (name_of_methodNamed Bd.named Bd.method).1
  have X0 : Stand p l e ({ frames := 0, cells := 0, slots := 0, locals := 0 } : Room) s m #[(.ref a1), (.ref a2)] below meth c s₁ [] 0 0 := Stand.of_body Bd
  have e0 : s₁.heap = h0 := by rw [← hh, Bd.state]; rfl
  have N0 := Fr.nil n0
  have go0 : ∀ t, Steps p.tables e below (s₁.setTop (mkF m 0 #[.val (.ref a1), .val (.ref a2), .unset] [])) t → Steps p.tables e below (s₁.setTop (entryFrame m #[(.ref a1), (.ref a2)] 3)) t := fun t k => castTop (ef_rmX2 m a1 a2) k
  have go1 : ∀ t, Steps p.tables e below (s₁.setTop (mkF m 1 #[.val (.ref a1), .val (.ref a2), .unset] [(.ref a1)])) t → Steps p.tables e below (s₁.setTop (entryFrame m #[(.ref a1), (.ref a2)] 3)) t := fun t kt => go0 t (by
      refine XS.aloadN X0.here hx rfl (hb hby d25_0) rfl rfl ?_
      show Steps p.tables e below (s₁.setTop (mkF m 1 #[.val (.ref a1), .val (.ref a2), .unset] [(.ref a1)])) _
      exact kt)
  obtain ⟨T2, X2, e2, st2⟩ := getF X0 hx hZ hown (host := "") (Or.inl (own_h hw 120 rfl)) Via.refl e0 F_slots (g := (mkF m 1 #[.val (.ref a1), .val (.ref a2), .unset] [(.ref a1)])) rfl rfl (hb hby d25_1)
  have go3 : ∀ t, Steps p.tables e below (T2.setTop (mkF m 4 #[.val (.ref a1), .val (.ref a2), .unset] [(.ref x0)])) t → Steps p.tables e below (s₁.setTop (entryFrame m #[(.ref a1), (.ref a2)] 3)) t := fun t kt => go1 t (by
      refine st2 _ ?_
      show Steps p.tables e below (T2.setTop (mkF m 4 #[.val (.ref a1), .val (.ref a2), .unset] [(.ref x0)])) _
      exact kt)
  obtain ⟨c4, Ar4, q4⟩ := id VX
  have go5 : ∀ t, Steps p.tables e below (T2.setTop (mkF m 7 #[.val (.ref a1), .val (.ref a2), .unset] [(.int ((2 : Int32) - (1 : Int32)))])) t → Steps p.tables e below (s₁.setTop (entryFrame m #[(.ref a1), (.ref a2)] 3)) t := fun t kt => go3 t (by
      refine X2.arraylength hx (by rw [e2]; exact Ar4.1) (State.isArrayOf_alike hZ.alike Ar4.2.1) (g := (mkF m 4 #[.val (.ref a1), .val (.ref a2), .unset] [(.ref x0)])) rfl rfl (hb hby d25_4) _ ?_
      rw [own_len q4 (n := (2 : Int32)) rfl]
      show Steps p.tables e below (T2.setTop (mkF m 5 #[.val (.ref a1), .val (.ref a2), .unset] [(.int (2 : Int32))])) _
      refine XS.iconst X2.here hx rfl (hb hby d25_5) ?_
      show Steps p.tables e below (T2.setTop (mkF m 6 #[.val (.ref a1), .val (.ref a2), .unset] [(.int (1 : Int32)), (.int (2 : Int32))])) _
      refine XS.isub X2.here hx rfl (hb hby d25_6) rfl ?_
      show Steps p.tables e below (T2.setTop (mkF m 7 #[.val (.ref a1), .val (.ref a2), .unset] [(.int ((2 : Int32) - (1 : Int32)))])) _
      exact kt)
  rw [show ((2 : Int32) - (1 : Int32)) = (1 : Int32) from by decide] at go5
  have hc9_6 : ¬ ((1 : Int32) < (0 : Int32)) := (by decide)
  have go7 : ∀ t, Steps p.tables e below (T2.setTop (mkF m 14 #[.val (.ref a1), .val (.ref a2), .val (.int (1 : Int32))] [(.ref a1), (.ref a2)])) t → Steps p.tables e below (s₁.setTop (entryFrame m #[(.ref a1), (.ref a2)] 3)) t := fun t kt => go5 t (by
      refine XS.istoreN X2.here hx rfl (hb hby d25_7) rfl (l' := #[.val (.ref a1), .val (.ref a2), .val (.int (1 : Int32))]) rfl ?_
      show Steps p.tables e below (T2.setTop (mkF m 8 #[.val (.ref a1), .val (.ref a2), .val (.int (1 : Int32))] [])) _
      refine XS.iloadN X2.here hx rfl (hb hby d25_8) rfl ?_
      show Steps p.tables e below (T2.setTop (mkF m 9 #[.val (.ref a1), .val (.ref a2), .val (.int (1 : Int32))] [(.int (1 : Int32))])) _
      refine XS.ifNo X2.here hx rfl (hb hby d25_9) rfl ((if0 _ _).trans (flt hc9_6).1) ?_
      show Steps p.tables e below (T2.setTop (mkF m 12 #[.val (.ref a1), .val (.ref a2), .val (.int (1 : Int32))] [])) _
      refine XS.aloadN X2.here hx rfl (hb hby d25_12) rfl rfl ?_
      show Steps p.tables e below (T2.setTop (mkF m 13 #[.val (.ref a1), .val (.ref a2), .val (.int (1 : Int32))] [(.ref a2)])) _
      refine XS.aloadN X2.here hx rfl (hb hby d25_13) rfl rfl ?_
      show Steps p.tables e below (T2.setTop (mkF m 14 #[.val (.ref a1), .val (.ref a2), .val (.int (1 : Int32))] [(.ref a1), (.ref a2)])) _
      exact kt)
  obtain ⟨T8, X8, e8, st8⟩ := getF X2 hx hZ hown (host := "") (Or.inl (own_h hw 120 rfl)) Via.refl e2 F_slots (g := (mkF m 14 #[.val (.ref a1), .val (.ref a2), .val (.int (1 : Int32))] [(.ref a1), (.ref a2)])) rfl rfl (hb hby d25_14)
  have go9 : ∀ t, Steps p.tables e below (T8.setTop (mkF m 18 #[.val (.ref a1), .val (.ref a2), .val (.int (1 : Int32))] [(.int (1 : Int32)), (.ref x0), (.ref a2)])) t → Steps p.tables e below (s₁.setTop (entryFrame m #[(.ref a1), (.ref a2)] 3)) t := fun t kt => go7 t (by
      refine st8 _ ?_
      show Steps p.tables e below (T8.setTop (mkF m 17 #[.val (.ref a1), .val (.ref a2), .val (.int (1 : Int32))] [(.ref x0), (.ref a2)])) _
      refine XS.iloadN X8.here hx rfl (hb hby d25_17) rfl ?_
      show Steps p.tables e below (T8.setTop (mkF m 18 #[.val (.ref a1), .val (.ref a2), .val (.int (1 : Int32))] [(.int (1 : Int32)), (.ref x0), (.ref a2)])) _
      exact kt)
  obtain ⟨c10, Ar10, q10⟩ := id VX
  have go11 : ∀ t, Steps p.tables e below (T8.setTop (mkF m 19 #[.val (.ref a1), .val (.ref a2), .val (.int (1 : Int32))] [(.int (0 : Int32)), (.ref a2)])) t → Steps p.tables e below (s₁.setTop (entryFrame m #[(.ref a1), (.ref a2)] 3)) t := fun t kt => go9 t (by
      refine X8.iaload hx (j := (1 : Int32)) (v := (.int (0 : Int32))) (by rw [e8]; exact Ar10.1) (State.isArrayOf_alike hZ.alike Ar10.2.1) Ar10.2.2 (own_inb q10 (n := 2) rfl (by decide) (by decide)) (own_get q10 (i := 1) (by decide) rfl) (g := (mkF m 18 #[.val (.ref a1), .val (.ref a2), .val (.int (1 : Int32))] [(.int (1 : Int32)), (.ref x0), (.ref a2)])) rfl rfl (hb hby d25_18) _ ?_
      show Steps p.tables e below (T8.setTop (mkF m 19 #[.val (.ref a1), .val (.ref a2), .val (.int (1 : Int32))] [(.int (0 : Int32)), (.ref a2)])) _
      exact kt)
  obtain ⟨c12, Ar12, q12⟩ := id VL
  have go13 : ∀ t, Steps p.tables e below (T8.setTop (mkF m 21 #[.val (.ref a1), .val (.ref a2), .val (.int (1 : Int32))] [(.ref a1), (.long v0)])) t → Steps p.tables e below (s₁.setTop (entryFrame m #[(.ref a1), (.ref a2)] 3)) t := fun t kt => go11 t (by
      refine X8.laload hx (j := (0 : Int32)) (v := (.long v0)) (by rw [e8]; exact Ar12.1) (State.isArrayOf_alike hZ.alike Ar12.2.1) Ar12.2.2 (own_inb q12 (n := 3) rfl (by decide) (by decide)) (own_get q12 (i := 0) (by decide) rfl) (g := (mkF m 19 #[.val (.ref a1), .val (.ref a2), .val (.int (1 : Int32))] [(.int (0 : Int32)), (.ref a2)])) rfl rfl (hb hby d25_19) _ ?_
      show Steps p.tables e below (T8.setTop (mkF m 20 #[.val (.ref a1), .val (.ref a2), .val (.int (1 : Int32))] [(.long v0)])) _
      refine XS.aloadN X8.here hx rfl (hb hby d25_20) rfl rfl ?_
      show Steps p.tables e below (T8.setTop (mkF m 21 #[.val (.ref a1), .val (.ref a2), .val (.int (1 : Int32))] [(.ref a1), (.long v0)])) _
      exact kt)
  obtain ⟨T14, X14, e14, st14⟩ := getF X8 hx hZ hown (host := "") (Or.inl (own_h hw 125 rfl)) Via.refl e8 F_lasts (g := (mkF m 21 #[.val (.ref a1), .val (.ref a2), .val (.int (1 : Int32))] [(.ref a1), (.long v0)])) rfl rfl (hb hby d25_21)
  have go15 : ∀ t, Steps p.tables e below (T14.setTop (mkF m 25 #[.val (.ref a1), .val (.ref a2), .val (.int (1 : Int32))] [(.int (1 : Int32)), (.ref z0), (.long v0)])) t → Steps p.tables e below (s₁.setTop (entryFrame m #[(.ref a1), (.ref a2)] 3)) t := fun t kt => go13 t (by
      refine st14 _ ?_
      show Steps p.tables e below (T14.setTop (mkF m 24 #[.val (.ref a1), .val (.ref a2), .val (.int (1 : Int32))] [(.ref z0), (.long v0)])) _
      refine XS.iloadN X14.here hx rfl (hb hby d25_24) rfl ?_
      show Steps p.tables e below (T14.setTop (mkF m 25 #[.val (.ref a1), .val (.ref a2), .val (.int (1 : Int32))] [(.int (1 : Int32)), (.ref z0), (.long v0)])) _
      exact kt)
  obtain ⟨c16, Ar16, q16⟩ := id VZ
  have hc27_17 : (lcmpW v0 g1) = (0 : Int32) := (lw_eq _ _).mpr c1
  have go18 : ∀ t, Steps p.tables e below (T14.setTop (mkF m 46 #[.val (.ref a1), .val (.ref a2), .val (.int (1 : Int32))] [(.ref a1), (.ref a2)])) t → Steps p.tables e below (s₁.setTop (entryFrame m #[(.ref a1), (.ref a2)] 3)) t := fun t kt => go15 t (by
      refine X14.laload hx (j := (1 : Int32)) (v := (.long g1)) (by rw [e14]; exact Ar16.1) (State.isArrayOf_alike hZ.alike Ar16.2.1) Ar16.2.2 (own_inb q16 (n := 2) rfl (by decide) (by decide)) (own_get q16 (i := 1) (by decide) rfl) (g := (mkF m 25 #[.val (.ref a1), .val (.ref a2), .val (.int (1 : Int32))] [(.int (1 : Int32)), (.ref z0), (.long v0)])) rfl rfl (hb hby d25_25) _ ?_
      show Steps p.tables e below (T14.setTop (mkF m 26 #[.val (.ref a1), .val (.ref a2), .val (.int (1 : Int32))] [(.long g1), (.long v0)])) _
      refine XS.lcmp X14.here hx rfl (hb hby d25_26) rfl ?_
      show Steps p.tables e below (T14.setTop (mkF m 27 #[.val (.ref a1), .val (.ref a2), .val (.int (1 : Int32))] [(.int (lcmpW v0 g1))])) _
      refine XS.ifYes X14.here hx rfl (pc0 := 27) (pc' := 44) rfl (hb hby d25_27) rfl ((if0 _ _).trans (teq hc27_17).1) (by decide) (by decide) ?_
      show Steps p.tables e below (T14.setTop (mkF m 44 #[.val (.ref a1), .val (.ref a2), .val (.int (1 : Int32))] [])) _
      refine XS.aloadN X14.here hx rfl (hb hby d25_44) rfl rfl ?_
      show Steps p.tables e below (T14.setTop (mkF m 45 #[.val (.ref a1), .val (.ref a2), .val (.int (1 : Int32))] [(.ref a2)])) _
      refine XS.aloadN X14.here hx rfl (hb hby d25_45) rfl rfl ?_
      show Steps p.tables e below (T14.setTop (mkF m 46 #[.val (.ref a1), .val (.ref a2), .val (.int (1 : Int32))] [(.ref a1), (.ref a2)])) _
      exact kt)
  obtain ⟨T19, X19, e19, st19⟩ := getF X14 hx hZ hown (host := "") (Or.inl (own_h hw 120 rfl)) Via.refl e14 F_slots (g := (mkF m 46 #[.val (.ref a1), .val (.ref a2), .val (.int (1 : Int32))] [(.ref a1), (.ref a2)])) rfl rfl (hb hby d25_46)
  have go20 : ∀ t, Steps p.tables e below (T19.setTop (mkF m 50 #[.val (.ref a1), .val (.ref a2), .val (.int (1 : Int32))] [(.int (1 : Int32)), (.ref x0), (.ref a2)])) t → Steps p.tables e below (s₁.setTop (entryFrame m #[(.ref a1), (.ref a2)] 3)) t := fun t kt => go18 t (by
      refine st19 _ ?_
      show Steps p.tables e below (T19.setTop (mkF m 49 #[.val (.ref a1), .val (.ref a2), .val (.int (1 : Int32))] [(.ref x0), (.ref a2)])) _
      refine XS.iloadN X19.here hx rfl (hb hby d25_49) rfl ?_
      show Steps p.tables e below (T19.setTop (mkF m 50 #[.val (.ref a1), .val (.ref a2), .val (.int (1 : Int32))] [(.int (1 : Int32)), (.ref x0), (.ref a2)])) _
      exact kt)
  obtain ⟨c21, Ar21, q21⟩ := id VX
  have go22 : ∀ t, Steps p.tables e below (T19.setTop (mkF m 52 #[.val (.ref a1), .val (.ref a2), .val (.int (1 : Int32))] [(.ref a1), (.int (0 : Int32)), (.ref a2)])) t → Steps p.tables e below (s₁.setTop (entryFrame m #[(.ref a1), (.ref a2)] 3)) t := fun t kt => go20 t (by
      refine X19.iaload hx (j := (1 : Int32)) (v := (.int (0 : Int32))) (by rw [e19]; exact Ar21.1) (State.isArrayOf_alike hZ.alike Ar21.2.1) Ar21.2.2 (own_inb q21 (n := 2) rfl (by decide) (by decide)) (own_get q21 (i := 1) (by decide) rfl) (g := (mkF m 50 #[.val (.ref a1), .val (.ref a2), .val (.int (1 : Int32))] [(.int (1 : Int32)), (.ref x0), (.ref a2)])) rfl rfl (hb hby d25_50) _ ?_
      show Steps p.tables e below (T19.setTop (mkF m 51 #[.val (.ref a1), .val (.ref a2), .val (.int (1 : Int32))] [(.int (0 : Int32)), (.ref a2)])) _
      refine XS.aloadN X19.here hx rfl (hb hby d25_51) rfl rfl ?_
      show Steps p.tables e below (T19.setTop (mkF m 52 #[.val (.ref a1), .val (.ref a2), .val (.int (1 : Int32))] [(.ref a1), (.int (0 : Int32)), (.ref a2)])) _
      exact kt)
  obtain ⟨T23, X23, e23, st23⟩ := getF X19 hx hZ hown (host := "") (Or.inl (own_h hw 123 rfl)) Via.refl e19 F_firsts (g := (mkF m 52 #[.val (.ref a1), .val (.ref a2), .val (.int (1 : Int32))] [(.ref a1), (.int (0 : Int32)), (.ref a2)])) rfl rfl (hb hby d25_52)
  have go24 : ∀ t, Steps p.tables e below (T23.setTop (mkF m 56 #[.val (.ref a1), .val (.ref a2), .val (.int (1 : Int32))] [(.int (1 : Int32)), (.ref y0), (.int (0 : Int32)), (.ref a2)])) t → Steps p.tables e below (s₁.setTop (entryFrame m #[(.ref a1), (.ref a2)] 3)) t := fun t kt => go22 t (by
      refine st23 _ ?_
      show Steps p.tables e below (T23.setTop (mkF m 55 #[.val (.ref a1), .val (.ref a2), .val (.int (1 : Int32))] [(.ref y0), (.int (0 : Int32)), (.ref a2)])) _
      refine XS.iloadN X23.here hx rfl (hb hby d25_55) rfl ?_
      show Steps p.tables e below (T23.setTop (mkF m 56 #[.val (.ref a1), .val (.ref a2), .val (.int (1 : Int32))] [(.int (1 : Int32)), (.ref y0), (.int (0 : Int32)), (.ref a2)])) _
      exact kt)
  obtain ⟨c25, Ar25, q25⟩ := id VY
  have go26 : ∀ t, Steps p.tables e below (T23.setTop (mkF m 57 #[.val (.ref a1), .val (.ref a2), .val (.int (1 : Int32))] [(.long f1), (.int (0 : Int32)), (.ref a2)])) t → Steps p.tables e below (s₁.setTop (entryFrame m #[(.ref a1), (.ref a2)] 3)) t := fun t kt => go24 t (by
      refine X23.laload hx (j := (1 : Int32)) (v := (.long f1)) (by rw [e23]; exact Ar25.1) (State.isArrayOf_alike hZ.alike Ar25.2.1) Ar25.2.2 (own_inb q25 (n := 2) rfl (by decide) (by decide)) (own_get q25 (i := 1) (by decide) rfl) (g := (mkF m 56 #[.val (.ref a1), .val (.ref a2), .val (.int (1 : Int32))] [(.int (1 : Int32)), (.ref y0), (.int (0 : Int32)), (.ref a2)])) rfl rfl (hb hby d25_56) _ ?_
      show Steps p.tables e below (T23.setTop (mkF m 57 #[.val (.ref a1), .val (.ref a2), .val (.int (1 : Int32))] [(.long f1), (.int (0 : Int32)), (.ref a2)])) _
      exact kt)
  obtain ⟨c27, Ar27, q27⟩ := id VL
  obtain ⟨T27, h27, X27, e27, W27, st27⟩ := stJ X23 hx hZ e23 Ar27 (j := (0 : Int32)) (own_inb q27 (n := 3) rfl (by decide) (by decide)) (g := (mkF m 57 #[.val (.ref a1), .val (.ref a2), .val (.int (1 : Int32))] [(.long f1), (.int (0 : Int32)), (.ref a2)])) rfl rfl (hb hby d25_57)
  have V27 : own_AV Z h27 a2 .long [(.long f1), (.long v1), (.long v2)] := own_AV.set Ar27 q27 W27 (i := 0) (by decide) rfl
  obtain ⟨Ls27, X27, N27⟩ := own_loc X27 (Fr.snoc X27 N0 ga)
  have go28 : ∀ t, Steps p.tables e below (T27.setTop (mkF m 61 #[.val (.ref a1), .val (.ref a2), .val (.int ((1 : Int32) + (-1 : Int32)))] [])) t → Steps p.tables e below (s₁.setTop (entryFrame m #[(.ref a1), (.ref a2)] 3)) t := fun t kt => go26 t (by
      refine st27 _ ?_
      show Steps p.tables e below (T27.setTop (mkF m 58 #[.val (.ref a1), .val (.ref a2), .val (.int (1 : Int32))] [])) _
      refine XS.iinc X27.here hx rfl (hb hby d25_58) rfl (l' := #[.val (.ref a1), .val (.ref a2), .val (.int ((1 : Int32) + (-1 : Int32)))]) rfl ?_
      show Steps p.tables e below (T27.setTop (mkF m 61 #[.val (.ref a1), .val (.ref a2), .val (.int ((1 : Int32) + (-1 : Int32)))] [])) _
      exact kt)
  rw [show ((1 : Int32) + (-1 : Int32)) = (0 : Int32) from by decide] at go28
  have hc9_29 : ¬ ((0 : Int32) < (0 : Int32)) := (by decide)
  have go30 : ∀ t, Steps p.tables e below (T27.setTop (mkF m 14 #[.val (.ref a1), .val (.ref a2), .val (.int (0 : Int32))] [(.ref a1), (.ref a2)])) t → Steps p.tables e below (s₁.setTop (entryFrame m #[(.ref a1), (.ref a2)] 3)) t := fun t kt => go28 t (by
      refine XS.goto X27.here hx rfl (pc0 := 61) (pc' := 8) rfl (hb hby d25_61) (by decide) (by decide) ?_
      show Steps p.tables e below (T27.setTop (mkF m 8 #[.val (.ref a1), .val (.ref a2), .val (.int (0 : Int32))] [])) _
      refine XS.iloadN X27.here hx rfl (hb hby d25_8) rfl ?_
      show Steps p.tables e below (T27.setTop (mkF m 9 #[.val (.ref a1), .val (.ref a2), .val (.int (0 : Int32))] [(.int (0 : Int32))])) _
      refine XS.ifNo X27.here hx rfl (hb hby d25_9) rfl ((if0 _ _).trans (flt hc9_29).1) ?_
      show Steps p.tables e below (T27.setTop (mkF m 12 #[.val (.ref a1), .val (.ref a2), .val (.int (0 : Int32))] [])) _
      refine XS.aloadN X27.here hx rfl (hb hby d25_12) rfl rfl ?_
      show Steps p.tables e below (T27.setTop (mkF m 13 #[.val (.ref a1), .val (.ref a2), .val (.int (0 : Int32))] [(.ref a2)])) _
      refine XS.aloadN X27.here hx rfl (hb hby d25_13) rfl rfl ?_
      show Steps p.tables e below (T27.setTop (mkF m 14 #[.val (.ref a1), .val (.ref a2), .val (.int (0 : Int32))] [(.ref a1), (.ref a2)])) _
      exact kt)
  have fq31 := (F_slots.other W27 (Or.inl na))
  obtain ⟨T32, X32, e32, st32⟩ := getF X27 hx hZ hown (host := "") (Or.inl (own_h hw 120 rfl)) Via.refl e27 fq31 (g := (mkF m 14 #[.val (.ref a1), .val (.ref a2), .val (.int (0 : Int32))] [(.ref a1), (.ref a2)])) rfl rfl (hb hby d25_14)
  have go33 : ∀ t, Steps p.tables e below (T32.setTop (mkF m 18 #[.val (.ref a1), .val (.ref a2), .val (.int (0 : Int32))] [(.int (0 : Int32)), (.ref x0), (.ref a2)])) t → Steps p.tables e below (s₁.setTop (entryFrame m #[(.ref a1), (.ref a2)] 3)) t := fun t kt => go30 t (by
      refine st32 _ ?_
      show Steps p.tables e below (T32.setTop (mkF m 17 #[.val (.ref a1), .val (.ref a2), .val (.int (0 : Int32))] [(.ref x0), (.ref a2)])) _
      refine XS.iloadN X32.here hx rfl (hb hby d25_17) rfl ?_
      show Steps p.tables e below (T32.setTop (mkF m 18 #[.val (.ref a1), .val (.ref a2), .val (.int (0 : Int32))] [(.int (0 : Int32)), (.ref x0), (.ref a2)])) _
      exact kt)
  have fq34 := (VX.other W27 nx)
  obtain ⟨c35, Ar35, q35⟩ := id fq34
  have go36 : ∀ t, Steps p.tables e below (T32.setTop (mkF m 19 #[.val (.ref a1), .val (.ref a2), .val (.int (0 : Int32))] [(.int (2 : Int32)), (.ref a2)])) t → Steps p.tables e below (s₁.setTop (entryFrame m #[(.ref a1), (.ref a2)] 3)) t := fun t kt => go33 t (by
      refine X32.iaload hx (j := (0 : Int32)) (v := (.int (2 : Int32))) (by rw [e32]; exact Ar35.1) (State.isArrayOf_alike hZ.alike Ar35.2.1) Ar35.2.2 (own_inb q35 (n := 2) rfl (by decide) (by decide)) (own_get q35 (i := 0) (by decide) rfl) (g := (mkF m 18 #[.val (.ref a1), .val (.ref a2), .val (.int (0 : Int32))] [(.int (0 : Int32)), (.ref x0), (.ref a2)])) rfl rfl (hb hby d25_18) _ ?_
      show Steps p.tables e below (T32.setTop (mkF m 19 #[.val (.ref a1), .val (.ref a2), .val (.int (0 : Int32))] [(.int (2 : Int32)), (.ref a2)])) _
      exact kt)
  obtain ⟨c37, Ar37, q37⟩ := id V27
  have go38 : ∀ t, Steps p.tables e below (T32.setTop (mkF m 21 #[.val (.ref a1), .val (.ref a2), .val (.int (0 : Int32))] [(.ref a1), (.long v2)])) t → Steps p.tables e below (s₁.setTop (entryFrame m #[(.ref a1), (.ref a2)] 3)) t := fun t kt => go36 t (by
      refine X32.laload hx (j := (2 : Int32)) (v := (.long v2)) (by rw [e32]; exact Ar37.1) (State.isArrayOf_alike hZ.alike Ar37.2.1) Ar37.2.2 (own_inb q37 (n := 3) rfl (by decide) (by decide)) (own_get q37 (i := 2) (by decide) rfl) (g := (mkF m 19 #[.val (.ref a1), .val (.ref a2), .val (.int (0 : Int32))] [(.int (2 : Int32)), (.ref a2)])) rfl rfl (hb hby d25_19) _ ?_
      show Steps p.tables e below (T32.setTop (mkF m 20 #[.val (.ref a1), .val (.ref a2), .val (.int (0 : Int32))] [(.long v2)])) _
      refine XS.aloadN X32.here hx rfl (hb hby d25_20) rfl rfl ?_
      show Steps p.tables e below (T32.setTop (mkF m 21 #[.val (.ref a1), .val (.ref a2), .val (.int (0 : Int32))] [(.ref a1), (.long v2)])) _
      exact kt)
  have fq39 := (F_lasts.other W27 (Or.inl na))
  obtain ⟨T40, X40, e40, st40⟩ := getF X32 hx hZ hown (host := "") (Or.inl (own_h hw 125 rfl)) Via.refl e32 fq39 (g := (mkF m 21 #[.val (.ref a1), .val (.ref a2), .val (.int (0 : Int32))] [(.ref a1), (.long v2)])) rfl rfl (hb hby d25_21)
  have go41 : ∀ t, Steps p.tables e below (T40.setTop (mkF m 25 #[.val (.ref a1), .val (.ref a2), .val (.int (0 : Int32))] [(.int (0 : Int32)), (.ref z0), (.long v2)])) t → Steps p.tables e below (s₁.setTop (entryFrame m #[(.ref a1), (.ref a2)] 3)) t := fun t kt => go38 t (by
      refine st40 _ ?_
      show Steps p.tables e below (T40.setTop (mkF m 24 #[.val (.ref a1), .val (.ref a2), .val (.int (0 : Int32))] [(.ref z0), (.long v2)])) _
      refine XS.iloadN X40.here hx rfl (hb hby d25_24) rfl ?_
      show Steps p.tables e below (T40.setTop (mkF m 25 #[.val (.ref a1), .val (.ref a2), .val (.int (0 : Int32))] [(.int (0 : Int32)), (.ref z0), (.long v2)])) _
      exact kt)
  have fq42 := (VZ.other W27 nz)
  obtain ⟨c43, Ar43, q43⟩ := id fq42
  have hc27_44 : (lcmpW v2 g0) = (0 : Int32) := (lw_eq _ _).mpr c2
  have go45 : ∀ t, Steps p.tables e below (T40.setTop (mkF m 46 #[.val (.ref a1), .val (.ref a2), .val (.int (0 : Int32))] [(.ref a1), (.ref a2)])) t → Steps p.tables e below (s₁.setTop (entryFrame m #[(.ref a1), (.ref a2)] 3)) t := fun t kt => go41 t (by
      refine X40.laload hx (j := (0 : Int32)) (v := (.long g0)) (by rw [e40]; exact Ar43.1) (State.isArrayOf_alike hZ.alike Ar43.2.1) Ar43.2.2 (own_inb q43 (n := 2) rfl (by decide) (by decide)) (own_get q43 (i := 0) (by decide) rfl) (g := (mkF m 25 #[.val (.ref a1), .val (.ref a2), .val (.int (0 : Int32))] [(.int (0 : Int32)), (.ref z0), (.long v2)])) rfl rfl (hb hby d25_25) _ ?_
      show Steps p.tables e below (T40.setTop (mkF m 26 #[.val (.ref a1), .val (.ref a2), .val (.int (0 : Int32))] [(.long g0), (.long v2)])) _
      refine XS.lcmp X40.here hx rfl (hb hby d25_26) rfl ?_
      show Steps p.tables e below (T40.setTop (mkF m 27 #[.val (.ref a1), .val (.ref a2), .val (.int (0 : Int32))] [(.int (lcmpW v2 g0))])) _
      refine XS.ifYes X40.here hx rfl (pc0 := 27) (pc' := 44) rfl (hb hby d25_27) rfl ((if0 _ _).trans (teq hc27_44).1) (by decide) (by decide) ?_
      show Steps p.tables e below (T40.setTop (mkF m 44 #[.val (.ref a1), .val (.ref a2), .val (.int (0 : Int32))] [])) _
      refine XS.aloadN X40.here hx rfl (hb hby d25_44) rfl rfl ?_
      show Steps p.tables e below (T40.setTop (mkF m 45 #[.val (.ref a1), .val (.ref a2), .val (.int (0 : Int32))] [(.ref a2)])) _
      refine XS.aloadN X40.here hx rfl (hb hby d25_45) rfl rfl ?_
      show Steps p.tables e below (T40.setTop (mkF m 46 #[.val (.ref a1), .val (.ref a2), .val (.int (0 : Int32))] [(.ref a1), (.ref a2)])) _
      exact kt)
  obtain ⟨T46, X46, e46, st46⟩ := getF X40 hx hZ hown (host := "") (Or.inl (own_h hw 120 rfl)) Via.refl e40 fq31 (g := (mkF m 46 #[.val (.ref a1), .val (.ref a2), .val (.int (0 : Int32))] [(.ref a1), (.ref a2)])) rfl rfl (hb hby d25_46)
  have go47 : ∀ t, Steps p.tables e below (T46.setTop (mkF m 50 #[.val (.ref a1), .val (.ref a2), .val (.int (0 : Int32))] [(.int (0 : Int32)), (.ref x0), (.ref a2)])) t → Steps p.tables e below (s₁.setTop (entryFrame m #[(.ref a1), (.ref a2)] 3)) t := fun t kt => go45 t (by
      refine st46 _ ?_
      show Steps p.tables e below (T46.setTop (mkF m 49 #[.val (.ref a1), .val (.ref a2), .val (.int (0 : Int32))] [(.ref x0), (.ref a2)])) _
      refine XS.iloadN X46.here hx rfl (hb hby d25_49) rfl ?_
      show Steps p.tables e below (T46.setTop (mkF m 50 #[.val (.ref a1), .val (.ref a2), .val (.int (0 : Int32))] [(.int (0 : Int32)), (.ref x0), (.ref a2)])) _
      exact kt)
  obtain ⟨c48, Ar48, q48⟩ := id fq34
  have go49 : ∀ t, Steps p.tables e below (T46.setTop (mkF m 52 #[.val (.ref a1), .val (.ref a2), .val (.int (0 : Int32))] [(.ref a1), (.int (2 : Int32)), (.ref a2)])) t → Steps p.tables e below (s₁.setTop (entryFrame m #[(.ref a1), (.ref a2)] 3)) t := fun t kt => go47 t (by
      refine X46.iaload hx (j := (0 : Int32)) (v := (.int (2 : Int32))) (by rw [e46]; exact Ar48.1) (State.isArrayOf_alike hZ.alike Ar48.2.1) Ar48.2.2 (own_inb q48 (n := 2) rfl (by decide) (by decide)) (own_get q48 (i := 0) (by decide) rfl) (g := (mkF m 50 #[.val (.ref a1), .val (.ref a2), .val (.int (0 : Int32))] [(.int (0 : Int32)), (.ref x0), (.ref a2)])) rfl rfl (hb hby d25_50) _ ?_
      show Steps p.tables e below (T46.setTop (mkF m 51 #[.val (.ref a1), .val (.ref a2), .val (.int (0 : Int32))] [(.int (2 : Int32)), (.ref a2)])) _
      refine XS.aloadN X46.here hx rfl (hb hby d25_51) rfl rfl ?_
      show Steps p.tables e below (T46.setTop (mkF m 52 #[.val (.ref a1), .val (.ref a2), .val (.int (0 : Int32))] [(.ref a1), (.int (2 : Int32)), (.ref a2)])) _
      exact kt)
  have fq50 := (F_firsts.other W27 (Or.inl na))
  obtain ⟨T51, X51, e51, st51⟩ := getF X46 hx hZ hown (host := "") (Or.inl (own_h hw 123 rfl)) Via.refl e46 fq50 (g := (mkF m 52 #[.val (.ref a1), .val (.ref a2), .val (.int (0 : Int32))] [(.ref a1), (.int (2 : Int32)), (.ref a2)])) rfl rfl (hb hby d25_52)
  have go52 : ∀ t, Steps p.tables e below (T51.setTop (mkF m 56 #[.val (.ref a1), .val (.ref a2), .val (.int (0 : Int32))] [(.int (0 : Int32)), (.ref y0), (.int (2 : Int32)), (.ref a2)])) t → Steps p.tables e below (s₁.setTop (entryFrame m #[(.ref a1), (.ref a2)] 3)) t := fun t kt => go49 t (by
      refine st51 _ ?_
      show Steps p.tables e below (T51.setTop (mkF m 55 #[.val (.ref a1), .val (.ref a2), .val (.int (0 : Int32))] [(.ref y0), (.int (2 : Int32)), (.ref a2)])) _
      refine XS.iloadN X51.here hx rfl (hb hby d25_55) rfl ?_
      show Steps p.tables e below (T51.setTop (mkF m 56 #[.val (.ref a1), .val (.ref a2), .val (.int (0 : Int32))] [(.int (0 : Int32)), (.ref y0), (.int (2 : Int32)), (.ref a2)])) _
      exact kt)
  have fq53 := (VY.other W27 ny)
  obtain ⟨c54, Ar54, q54⟩ := id fq53
  have go55 : ∀ t, Steps p.tables e below (T51.setTop (mkF m 57 #[.val (.ref a1), .val (.ref a2), .val (.int (0 : Int32))] [(.long f0), (.int (2 : Int32)), (.ref a2)])) t → Steps p.tables e below (s₁.setTop (entryFrame m #[(.ref a1), (.ref a2)] 3)) t := fun t kt => go52 t (by
      refine X51.laload hx (j := (0 : Int32)) (v := (.long f0)) (by rw [e51]; exact Ar54.1) (State.isArrayOf_alike hZ.alike Ar54.2.1) Ar54.2.2 (own_inb q54 (n := 2) rfl (by decide) (by decide)) (own_get q54 (i := 0) (by decide) rfl) (g := (mkF m 56 #[.val (.ref a1), .val (.ref a2), .val (.int (0 : Int32))] [(.int (0 : Int32)), (.ref y0), (.int (2 : Int32)), (.ref a2)])) rfl rfl (hb hby d25_56) _ ?_
      show Steps p.tables e below (T51.setTop (mkF m 57 #[.val (.ref a1), .val (.ref a2), .val (.int (0 : Int32))] [(.long f0), (.int (2 : Int32)), (.ref a2)])) _
      exact kt)
  obtain ⟨c56, Ar56, q56⟩ := id V27
  obtain ⟨T56, h56, X56, e56, W56, st56⟩ := stJ X51 hx hZ e51 Ar56 (j := (2 : Int32)) (own_inb q56 (n := 3) rfl (by decide) (by decide)) (g := (mkF m 57 #[.val (.ref a1), .val (.ref a2), .val (.int (0 : Int32))] [(.long f0), (.int (2 : Int32)), (.ref a2)])) rfl rfl (hb hby d25_57)
  have V56 : own_AV Z h56 a2 .long [(.long f1), (.long v1), (.long f0)] := own_AV.set Ar56 q56 W56 (i := 2) (by decide) rfl
  obtain ⟨Ls56, X56, N56⟩ := own_loc X56 (Fr.snoc X56 N27 ga)
  have go57 : ∀ t, Steps p.tables e below (T56.setTop (mkF m 61 #[.val (.ref a1), .val (.ref a2), .val (.int ((0 : Int32) + (-1 : Int32)))] [])) t → Steps p.tables e below (s₁.setTop (entryFrame m #[(.ref a1), (.ref a2)] 3)) t := fun t kt => go55 t (by
      refine st56 _ ?_
      show Steps p.tables e below (T56.setTop (mkF m 58 #[.val (.ref a1), .val (.ref a2), .val (.int (0 : Int32))] [])) _
      refine XS.iinc X56.here hx rfl (hb hby d25_58) rfl (l' := #[.val (.ref a1), .val (.ref a2), .val (.int ((0 : Int32) + (-1 : Int32)))]) rfl ?_
      show Steps p.tables e below (T56.setTop (mkF m 61 #[.val (.ref a1), .val (.ref a2), .val (.int ((0 : Int32) + (-1 : Int32)))] [])) _
      exact kt)
  rw [show ((0 : Int32) + (-1 : Int32)) = (-1 : Int32) from by decide] at go57
  have hc9_58 : (-1 : Int32) < (0 : Int32) := (by decide)
  have go59 : ∀ t, Steps p.tables e below (T56.setTop (mkF m 65 #[.val (.ref a1), .val (.ref a2), .val (.int (-1 : Int32))] [(.int (0 : Int32))])) t → Steps p.tables e below (s₁.setTop (entryFrame m #[(.ref a1), (.ref a2)] 3)) t := fun t kt => go57 t (by
      refine XS.goto X56.here hx rfl (pc0 := 61) (pc' := 8) rfl (hb hby d25_61) (by decide) (by decide) ?_
      show Steps p.tables e below (T56.setTop (mkF m 8 #[.val (.ref a1), .val (.ref a2), .val (.int (-1 : Int32))] [])) _
      refine XS.iloadN X56.here hx rfl (hb hby d25_8) rfl ?_
      show Steps p.tables e below (T56.setTop (mkF m 9 #[.val (.ref a1), .val (.ref a2), .val (.int (-1 : Int32))] [(.int (-1 : Int32))])) _
      refine XS.ifYes X56.here hx rfl (pc0 := 9) (pc' := 64) rfl (hb hby d25_9) rfl ((if0 _ _).trans (tlt hc9_58).1) (by decide) (by decide) ?_
      show Steps p.tables e below (T56.setTop (mkF m 64 #[.val (.ref a1), .val (.ref a2), .val (.int (-1 : Int32))] [])) _
      refine XS.iconst X56.here hx rfl (hb hby d25_64) ?_
      show Steps p.tables e below (T56.setTop (mkF m 65 #[.val (.ref a1), .val (.ref a2), .val (.int (-1 : Int32))] [(.int (0 : Int32))])) _
      exact kt)
  obtain ⟨fs, hr, hrun, hended, hW, hsame⟩ := X56.leave (v := some (.int (0 : Int32))) (fun h => by rw [Bd.returns] at h; cases h)
  refine ⟨_, _, go59 _ (retN X56 hx (t := .boolean) Bd.returns (by simp) (hb hby d25_65) hr), hrun, hended, _, _, rfl, ?_, ⟨_, rfl⟩, hW, hsame.mono (by decide) (by decide)⟩
  show own_QX _ _ _ _ _ _ _ T56.heap _
  rw [e56]
  have kp60 := ((Keep.refl h0 [a2]).wr W27 (Or.inl (List.mem_of_getElem? (i := 0) rfl)))
  exact ⟨rfl, N56, (kp60.wr W56 (Or.inl (List.mem_of_getElem? (i := 0) rfl))), V56⟩
theorem rmg1 (l : Launch) (Z : State) (a0 : Array Value) (hw : ∀ d ∈ tables_1, d.before a0 Z = true) (ws : List Jvm.Cond) (q0 : Int64) (q1 : Int64) (h0 : Heap) (n0 : Nat) (r : Int64) (hr : own_minL q0 q1 = r) :
    MetFree l (⟨"java/lang/Math", "min", "(JJ)J"⟩ : MethodName) (head1 (Jvm.Cond.code (⟨"java/lang/Math", "min", "(JJ)J"⟩ : MethodName) jdk_29_method_70_code 4 (some .long) :: ws) ({ frames := 0, cells := 0, slots := 0, locals := 0 } : Room)) (fun a U => a = #[(.long q0), (.long q1)] ∧ Z.Warmed39 U.vm ∧ U.heap = h0) (fun _ _ _ _ _ => True) (fun _ U o U' => ∃ v L, o = .returned v ∧ QP (some (.long r)) h0 n0 v U'.heap L ∧ FrameEnd U o U' L ({ frames := 0, cells := 0, slots := 0, locals := 0 } : Room).cells ({ frames := 0, cells := 0, slots := 0, locals := 0 } : Room).slots) := by
  subst hr
  exact rm1 l Z a0 hw ws q0 q1 h0 n0
theorem rmg2 (l : Launch) (Z : State) (a0 : Array Value) (hw : ∀ d ∈ tables_1, d.before a0 Z = true) (ws : List Jvm.Cond) (q0 : Int64) (q1 : Int64) (h0 : Heap) (n0 : Nat) (r : Int64) (hr : own_maxL q0 q1 = r) :
    MetFree l (⟨"java/lang/Math", "max", "(JJ)J"⟩ : MethodName) (head1 (Jvm.Cond.code (⟨"java/lang/Math", "max", "(JJ)J"⟩ : MethodName) jdk_29_method_66_code 4 (some .long) :: ws) ({ frames := 0, cells := 0, slots := 0, locals := 0 } : Room)) (fun a U => a = #[(.long q0), (.long q1)] ∧ Z.Warmed39 U.vm ∧ U.heap = h0) (fun _ _ _ _ _ => True) (fun _ U o U' => ∃ v L, o = .returned v ∧ QP (some (.long r)) h0 n0 v U'.heap L ∧ FrameEnd U o U' L ({ frames := 0, cells := 0, slots := 0, locals := 0 } : Room).cells ({ frames := 0, cells := 0, slots := 0, locals := 0 } : Room).slots) := by
  subst hr
  exact rm2 l Z a0 hw ws q0 q1 h0 n0
theorem own_le {a b lo hi : Int64} (h : own_maxL a b = hi) (k : own_minL a b = lo) : ¬ hi < lo := by
  subst h k
  unfold own_maxL own_minL
  simp only [lw_lt, lw_gt, Int64.lt_iff_toInt_lt]
  repeat' split
  all_goals omega
theorem own_start (s : State) (args : Array Value) (hw : ∀ d ∈ tables_1, d.before args s = true) (hs : ∀ w ∈ jdkStatics_1, w.before args s = true) : ∃ dd, Sta s s.heap "java/util/ArrayList" "DEFAULTCAPACITY_EMPTY_ELEMENTDATA" "[Ljava/lang/Object;" (.ref dd) ∧ own_AV s s.heap dd (.object "java/lang/Object") [] := by
  have w2 := hs _ (List.mem_of_getElem? (i := 2) rfl)
  have w6 := hs _ (List.mem_of_getElem? (i := 6) rfl)
  have w8 := hs _ (List.mem_of_getElem? (i := 8) rfl)
  have hlen := Cond.eq_int w8 rfl
  obtain ⟨dd, cl, hev, hat, hz⟩ := Term.length_spec hlen
  have h31 := SBG.length_lt hev hat hlen
  obtain ⟨c, A⟩ := Arr.start hev (Cond.before_iff.mp w6)
  have hc : cl = c := Option.some.inj (hat.symm.trans (A.fin (Vm.Alike.refl _)))
  subst hc
  refine ⟨dd, Sta.start hev (Or.inr ⟨(own_h hw 9 rfl), w2⟩), cl, A, ?_⟩
  have e : (0 : Int32) = cl.slots.size.toInt32 := Value.int.inj hz
  have e2 := congrArg Int32.toInt e
  rw [show cl.slots.size.toInt32 = Int32.ofNat cl.slots.size from rfl, Int32.toInt_ofNat_small h31] at e2
  have e3 : cl.slots.size = 0 := by
    have : (0 : Int32).toInt = 0 := by decide
    omega
  exact List.length_eq_zero_iff.mp (by simpa using e3)
abbrev own_m20 : MethodName := ⟨"java/lang/Math", "min", "(JJ)J"⟩
abbrev own_m21 : MethodName := ⟨"java/lang/Math", "max", "(JJ)J"⟩
abbrev own_m22 : MethodName := ⟨"java/util/ArrayList", "<init>", "()V"⟩
abbrev own_m23 : MethodName := ⟨"com/example/invariant_ink/invariantink/lang/RangeType", "<init>", "(JJ)V"⟩
abbrev own_m24 : MethodName := ⟨"com/example/invariant_ink/invariantink/lang/Local", "<init>", "(Ljava/lang/String;Lcom/example/invariant_ink/invariantink/lang/Local$Kind;ILcom/example/invariant_ink/invariantink/lang/Type;Lcom/example/invariant_ink/invariantink/lang/Position;)V"⟩
abbrev own_m25 : MethodName := ⟨"java/util/ArrayList", "add", "(Ljava/lang/Object;)Z"⟩
abbrev own_m26 : MethodName := ⟨"com/example/invariant_ink/invariantink/engine/Combinations", "<init>", "(Ljava/util/List;)V"⟩
abbrev own_m27 : MethodName := ⟨"com/example/invariant_ink/invariantink/engine/Combinations", "next", "([J)Z"⟩
theorem pn_0 : plainName "com/example/invariant_ink/invariantink/engine/CombinationsNextPinLaw" = true := by first | (simp [plainName, overriddenIn]; done) | decide +kernel
theorem ef_0 (m : MethodId) (q0 : Int64) (q1 : Int64) (q2 : Int64) (q3 : Int64) (q4 : Int64) (q5 : Int64) : entryFrame m #[(.long q0), (.long q1), (.long q2), (.long q3), (.long q4), (.long q5)] maxLocals = mkF m 0 #[.val (.long q0), .second, .val (.long q1), .second, .val (.long q2), .second, .val (.long q3), .second, .val (.long q4), .second, .val (.long q5), .second, .unset, .unset, .unset, .unset, .unset, .unset, .unset, .unset, .unset, .unset, .unset, .unset, .unset, .unset, .unset, .unset, .unset, .unset, .unset, .unset, .unset] [] := by first | (simp [entryFrame, mkF, argsToLocals, Value.category, maxLocals]; done) | rfl
set_option maxRecDepth 65536 in
set_option maxHeartbeats 40000000 in
theorem rm0 (l : Launch) (Z : State) (a0 : Array Value) (hw : ∀ d ∈ tables_1, d.before a0 Z = true) (ws : List Jvm.Cond) (q0 q1 q2 q3 q4 q5 : Int64) (dd : Addr) (mA xA mB xB tA vA tB vB : Int64) (h0 : Heap) (n0 : Nat) (Z0 : n0 ≤ h0.size) (Old1 : Old Z n0 h0) (SS : Sta Z Z.heap "java/util/ArrayList" "DEFAULTCAPACITY_EMPTY_ELEMENTDATA" "[Ljava/lang/Object;" (.ref dd)) (DV0 : own_AV Z h0 dd (.object "java/lang/Object") []) (hz_mA : own_minL q0 q1 = mA) (hz_xA : own_maxL q0 q1 = xA) (hz_mB : own_minL q2 q3 = mB) (hz_xB : own_maxL q2 q3 = xB) (hz_tA : own_minL xA q4 = tA) (hz_vA : own_maxL mA tA = vA) (hz_tB : own_minL xB q5 = tB) (hz_vB : own_maxL mB tB = vB) :
    MetFree l x (head1 (Jvm.Cond.code x code maxLocals ret :: ws) room_1) (fun a U => a = #[(.long q0), (.long q1), (.long q2), (.long q3), (.long q4), (.long q5)] ∧ Z.Warmed39 U.vm ∧ U.heap = h0) (fun _ _ _ _ _ => True) (fun _ U o U' => ∃ v L, o = .returned v ∧ own_Q0 n0 v U'.heap L ∧ ReturnedEndW U o U' L room_1.cells room_1.slots) := by
  refine MetFree.of_bodySF (plainFor_of_name pn_0) hisR ?_
  intro p e s m args below meth c s₁ Bd hml0 hP hK
  obtain ⟨rfl, hZ, hh⟩ := hP
  have hx := Bd.exec
  have hby := Bd.bytes
  have hml : c.maxLocals = 33 := hml0
  have hown : s.vm.findClass "com/example/invariant_ink/invariantink/engine/CombinationsNextPinLaw" = some m.cls := findClass_of_methodNamed Bd.named
  have hnm := (name_of_methodNamed Bd.named Bd.method).1
  have X0 : Stand p l e room_1 s m #[(.long q0), (.long q1), (.long q2), (.long q3), (.long q4), (.long q5)] below meth c s₁ [] 0 0 := Stand.of_body Bd
  have e0 : s₁.heap = h0 := by rw [← hh, Bd.state]; rfl
  have N0 := Fr.nil n0
  have go0 : ∀ t, Steps p.tables e below (s₁.setTop (mkF m 0 #[.val (.long q0), .second, .val (.long q1), .second, .val (.long q2), .second, .val (.long q3), .second, .val (.long q4), .second, .val (.long q5), .second, .unset, .unset, .unset, .unset, .unset, .unset, .unset, .unset, .unset, .unset, .unset, .unset, .unset, .unset, .unset, .unset, .unset, .unset, .unset, .unset, .unset] [])) t → Steps p.tables e below (s₁.setTop (entryFrame m #[(.long q0), (.long q1), (.long q2), (.long q3), (.long q4), (.long q5)] maxLocals)) t := fun t k => castTop (ef_0 m q0 q1 q2 q3 q4 q5) k
  have XW : Stand p l e room_1 (s.setVm s.vm) m #[(.long q0), (.long q1), (.long q2), (.long q3), (.long q4), (.long q5)] below meth c s₁ [] 0 0 := X0
  have HS : s.Since s.vm 0 := (State.WarmedH.refl s).since 0
  have HK : 0 ≤ h0.size := Nat.zero_le _
  have hZW : Z.Warmed39 (s.setVm s.vm).vm := hZ
  have hownW : (s.setVm s.vm).vm.findClass "com/example/invariant_ink/invariantink/engine/CombinationsNextPinLaw" = some m.cls := hown
  have go1 : ∀ t, Steps p.tables e below (s₁.setTop (mkF m 2 #[.val (.long q0), .second, .val (.long q1), .second, .val (.long q2), .second, .val (.long q3), .second, .val (.long q4), .second, .val (.long q5), .second, .unset, .unset, .unset, .unset, .unset, .unset, .unset, .unset, .unset, .unset, .unset, .unset, .unset, .unset, .unset, .unset, .unset, .unset, .unset, .unset, .unset] [(.long q1), (.long q0)])) t → Steps p.tables e below (s₁.setTop (entryFrame m #[(.long q0), (.long q1), (.long q2), (.long q3), (.long q4), (.long q5)] maxLocals)) t := fun t kt => go0 t (by
      refine XS.lloadN XW.here hx rfl (hb hby at_0) rfl ?_
      show Steps p.tables e below (s₁.setTop (mkF m 1 #[.val (.long q0), .second, .val (.long q1), .second, .val (.long q2), .second, .val (.long q3), .second, .val (.long q4), .second, .val (.long q5), .second, .unset, .unset, .unset, .unset, .unset, .unset, .unset, .unset, .unset, .unset, .unset, .unset, .unset, .unset, .unset, .unset, .unset, .unset, .unset, .unset, .unset] [(.long q0)])) _
      refine XS.lloadN XW.here hx rfl (hb hby at_1) rfl ?_
      show Steps p.tables e below (s₁.setTop (mkF m 2 #[.val (.long q0), .second, .val (.long q1), .second, .val (.long q2), .second, .val (.long q3), .second, .val (.long q4), .second, .val (.long q5), .second, .unset, .unset, .unset, .unset, .unset, .unset, .unset, .unset, .unset, .unset, .unset, .unset, .unset, .unset, .unset, .unset, .unset, .unset, .unset, .unset, .unset] [(.long q1), (.long q0)])) _
      exact kt)
  obtain ⟨_, _, ⟨T2, L2, k2, n2⟩, -, X2, ⟨Lc2, hQ2, l2, y2, z2⟩, st2⟩ := Jvm.LawKit.callS XW hx (y := own_m20) hownW (mvT hZW (own_h hw 0 rfl)) (mvT hZW (own_h hw 1 rfl)) (mvT hZW (own_h hw 2 rfl)) (mvT hZW (own_h hw 3 rfl)) (by decide) (backOf (W := 0) (rmg1 l Z a0 hw [] q0 q1 h0 n0 mA hz_mA) hZW (own_h hw 3 rfl) (own_h hw 2 rfl) (by decide) (by decide)) (g := (mkF m 2 #[.val (.long q0), .second, .val (.long q1), .second, .val (.long q2), .second, .val (.long q3), .second, .val (.long q4), .second, .val (.long q5), .second, .unset, .unset, .unset, .unset, .unset, .unset, .unset, .unset, .unset, .unset, .unset, .unset, .unset, .unset, .unset, .unset, .unset, .unset, .unset, .unset, .unset] [(.long q1), (.long q0)])) rfl (by rw [hml]; rfl) (argsL := [(.long q0), (.long q1)]) (rest := []) (lenOf pd_0 rfl) rfl (by show 2 * 0 + _ ≤ _; exact Nat.le_of_eq rfl) (hb hby at_2) (fun _ _ => ⟨rfl, e0, (by decide : 0 + 0 ≤ _), (by decide : 0 + 0 ≤ _)⟩)
  dsimp only [Pt.U, Pt.locs, Pt.cells, Pt.slots] at X2 l2 y2 z2 st2 hQ2
  subst y2 z2
  obtain ⟨rfl, N2q, e2⟩ := hQ2
  have N2 := Fr.app N0 N2q
  rw [← l2] at N2
  have go3 : ∀ t, Steps p.tables e below (T2.setTop (mkF m 9 #[.val (.long q0), .second, .val (.long q1), .second, .val (.long q2), .second, .val (.long q3), .second, .val (.long q4), .second, .val (.long q5), .second, .val (.long mA), .second, .unset, .unset, .unset, .unset, .unset, .unset, .unset, .unset, .unset, .unset, .unset, .unset, .unset, .unset, .unset, .unset, .unset, .unset, .unset] [(.long q1), (.long q0)])) t → Steps p.tables e below (s₁.setTop (entryFrame m #[(.long q0), (.long q1), (.long q2), (.long q3), (.long q4), (.long q5)] maxLocals)) t := fun t kt => go1 t (by
      refine st2 _ ?_
      show Steps p.tables e below (T2.setTop (mkF m 5 #[.val (.long q0), .second, .val (.long q1), .second, .val (.long q2), .second, .val (.long q3), .second, .val (.long q4), .second, .val (.long q5), .second, .unset, .unset, .unset, .unset, .unset, .unset, .unset, .unset, .unset, .unset, .unset, .unset, .unset, .unset, .unset, .unset, .unset, .unset, .unset, .unset, .unset] [(.long mA)])) _
      refine XS.lstore X2.here hx rfl (hb hby at_5) rfl (l' := #[.val (.long q0), .second, .val (.long q1), .second, .val (.long q2), .second, .val (.long q3), .second, .val (.long q4), .second, .val (.long q5), .second, .val (.long mA), .second, .unset, .unset, .unset, .unset, .unset, .unset, .unset, .unset, .unset, .unset, .unset, .unset, .unset, .unset, .unset, .unset, .unset, .unset, .unset]) rfl ?_
      show Steps p.tables e below (T2.setTop (mkF m 7 #[.val (.long q0), .second, .val (.long q1), .second, .val (.long q2), .second, .val (.long q3), .second, .val (.long q4), .second, .val (.long q5), .second, .val (.long mA), .second, .unset, .unset, .unset, .unset, .unset, .unset, .unset, .unset, .unset, .unset, .unset, .unset, .unset, .unset, .unset, .unset, .unset, .unset, .unset] [])) _
      refine XS.lloadN X2.here hx rfl (hb hby at_7) rfl ?_
      show Steps p.tables e below (T2.setTop (mkF m 8 #[.val (.long q0), .second, .val (.long q1), .second, .val (.long q2), .second, .val (.long q3), .second, .val (.long q4), .second, .val (.long q5), .second, .val (.long mA), .second, .unset, .unset, .unset, .unset, .unset, .unset, .unset, .unset, .unset, .unset, .unset, .unset, .unset, .unset, .unset, .unset, .unset, .unset, .unset] [(.long q0)])) _
      refine XS.lloadN X2.here hx rfl (hb hby at_8) rfl ?_
      show Steps p.tables e below (T2.setTop (mkF m 9 #[.val (.long q0), .second, .val (.long q1), .second, .val (.long q2), .second, .val (.long q3), .second, .val (.long q4), .second, .val (.long q5), .second, .val (.long mA), .second, .unset, .unset, .unset, .unset, .unset, .unset, .unset, .unset, .unset, .unset, .unset, .unset, .unset, .unset, .unset, .unset, .unset, .unset, .unset] [(.long q1), (.long q0)])) _
      exact kt)
  obtain ⟨_, _, ⟨T4, L4, k4, n4⟩, -, X4, ⟨Lc4, hQ4, l4, y4, z4⟩, st4⟩ := Jvm.LawKit.callS X2 hx (y := own_m21) hownW (mvT hZW (own_h hw 4 rfl)) (mvT hZW (own_h hw 5 rfl)) (mvT hZW (own_h hw 2 rfl)) (mvT hZW (own_h hw 6 rfl)) (by decide) (backOf (W := 0) (rmg2 l Z a0 hw [] q0 q1 h0 n0 xA hz_xA) hZW (own_h hw 6 rfl) (own_h hw 2 rfl) (by decide) (by decide)) (g := (mkF m 9 #[.val (.long q0), .second, .val (.long q1), .second, .val (.long q2), .second, .val (.long q3), .second, .val (.long q4), .second, .val (.long q5), .second, .val (.long mA), .second, .unset, .unset, .unset, .unset, .unset, .unset, .unset, .unset, .unset, .unset, .unset, .unset, .unset, .unset, .unset, .unset, .unset, .unset, .unset] [(.long q1), (.long q0)])) rfl (by rw [hml]; rfl) (argsL := [(.long q0), (.long q1)]) (rest := []) (lenOf pd_0 rfl) rfl (by show 2 * 0 + _ ≤ _; exact Nat.le_of_eq rfl) (hb hby at_9) (fun _ _ => ⟨rfl, e2, (by decide : 0 + 0 ≤ _), (by decide : 0 + 0 ≤ _)⟩)
  dsimp only [Pt.U, Pt.locs, Pt.cells, Pt.slots] at X4 l4 y4 z4 st4 hQ4
  subst y4 z4
  obtain ⟨rfl, N4q, e4⟩ := hQ4
  have N4 := Fr.app N2 N4q
  rw [← l4] at N4
  have go5 : ∀ t, Steps p.tables e below (T4.setTop (mkF m 18 #[.val (.long q0), .second, .val (.long q1), .second, .val (.long q2), .second, .val (.long q3), .second, .val (.long q4), .second, .val (.long q5), .second, .val (.long mA), .second, .val (.long xA), .second, .unset, .unset, .unset, .unset, .unset, .unset, .unset, .unset, .unset, .unset, .unset, .unset, .unset, .unset, .unset, .unset, .unset] [(.long q3), (.long q2)])) t → Steps p.tables e below (s₁.setTop (entryFrame m #[(.long q0), (.long q1), (.long q2), (.long q3), (.long q4), (.long q5)] maxLocals)) t := fun t kt => go3 t (by
      refine st4 _ ?_
      show Steps p.tables e below (T4.setTop (mkF m 12 #[.val (.long q0), .second, .val (.long q1), .second, .val (.long q2), .second, .val (.long q3), .second, .val (.long q4), .second, .val (.long q5), .second, .val (.long mA), .second, .unset, .unset, .unset, .unset, .unset, .unset, .unset, .unset, .unset, .unset, .unset, .unset, .unset, .unset, .unset, .unset, .unset, .unset, .unset] [(.long xA)])) _
      refine XS.lstore X4.here hx rfl (hb hby at_12) rfl (l' := #[.val (.long q0), .second, .val (.long q1), .second, .val (.long q2), .second, .val (.long q3), .second, .val (.long q4), .second, .val (.long q5), .second, .val (.long mA), .second, .val (.long xA), .second, .unset, .unset, .unset, .unset, .unset, .unset, .unset, .unset, .unset, .unset, .unset, .unset, .unset, .unset, .unset, .unset, .unset]) rfl ?_
      show Steps p.tables e below (T4.setTop (mkF m 14 #[.val (.long q0), .second, .val (.long q1), .second, .val (.long q2), .second, .val (.long q3), .second, .val (.long q4), .second, .val (.long q5), .second, .val (.long mA), .second, .val (.long xA), .second, .unset, .unset, .unset, .unset, .unset, .unset, .unset, .unset, .unset, .unset, .unset, .unset, .unset, .unset, .unset, .unset, .unset] [])) _
      refine XS.lload X4.here hx rfl (hb hby at_14) rfl ?_
      show Steps p.tables e below (T4.setTop (mkF m 16 #[.val (.long q0), .second, .val (.long q1), .second, .val (.long q2), .second, .val (.long q3), .second, .val (.long q4), .second, .val (.long q5), .second, .val (.long mA), .second, .val (.long xA), .second, .unset, .unset, .unset, .unset, .unset, .unset, .unset, .unset, .unset, .unset, .unset, .unset, .unset, .unset, .unset, .unset, .unset] [(.long q2)])) _
      refine XS.lload X4.here hx rfl (hb hby at_16) rfl ?_
      show Steps p.tables e below (T4.setTop (mkF m 18 #[.val (.long q0), .second, .val (.long q1), .second, .val (.long q2), .second, .val (.long q3), .second, .val (.long q4), .second, .val (.long q5), .second, .val (.long mA), .second, .val (.long xA), .second, .unset, .unset, .unset, .unset, .unset, .unset, .unset, .unset, .unset, .unset, .unset, .unset, .unset, .unset, .unset, .unset, .unset] [(.long q3), (.long q2)])) _
      exact kt)
  obtain ⟨_, _, ⟨T6, L6, k6, n6⟩, -, X6, ⟨Lc6, hQ6, l6, y6, z6⟩, st6⟩ := Jvm.LawKit.callS X4 hx (y := own_m20) hownW (mvT hZW (own_h hw 0 rfl)) (mvT hZW (own_h hw 1 rfl)) (mvT hZW (own_h hw 2 rfl)) (mvT hZW (own_h hw 3 rfl)) (by decide) (backOf (W := 0) (rmg1 l Z a0 hw [] q2 q3 h0 n0 mB hz_mB) hZW (own_h hw 3 rfl) (own_h hw 2 rfl) (by decide) (by decide)) (g := (mkF m 18 #[.val (.long q0), .second, .val (.long q1), .second, .val (.long q2), .second, .val (.long q3), .second, .val (.long q4), .second, .val (.long q5), .second, .val (.long mA), .second, .val (.long xA), .second, .unset, .unset, .unset, .unset, .unset, .unset, .unset, .unset, .unset, .unset, .unset, .unset, .unset, .unset, .unset, .unset, .unset] [(.long q3), (.long q2)])) rfl (by rw [hml]; rfl) (argsL := [(.long q2), (.long q3)]) (rest := []) (lenOf pd_0 rfl) rfl (by show 2 * 0 + _ ≤ _; exact Nat.le_of_eq rfl) (hb hby at_18) (fun _ _ => ⟨rfl, e4, (by decide : 0 + 0 ≤ _), (by decide : 0 + 0 ≤ _)⟩)
  dsimp only [Pt.U, Pt.locs, Pt.cells, Pt.slots] at X6 l6 y6 z6 st6 hQ6
  subst y6 z6
  obtain ⟨rfl, N6q, e6⟩ := hQ6
  have N6 := Fr.app N4 N6q
  rw [← l6] at N6
  have go7 : ∀ t, Steps p.tables e below (T6.setTop (mkF m 27 #[.val (.long q0), .second, .val (.long q1), .second, .val (.long q2), .second, .val (.long q3), .second, .val (.long q4), .second, .val (.long q5), .second, .val (.long mA), .second, .val (.long xA), .second, .val (.long mB), .second, .unset, .unset, .unset, .unset, .unset, .unset, .unset, .unset, .unset, .unset, .unset, .unset, .unset, .unset, .unset] [(.long q3), (.long q2)])) t → Steps p.tables e below (s₁.setTop (entryFrame m #[(.long q0), (.long q1), (.long q2), (.long q3), (.long q4), (.long q5)] maxLocals)) t := fun t kt => go5 t (by
      refine st6 _ ?_
      show Steps p.tables e below (T6.setTop (mkF m 21 #[.val (.long q0), .second, .val (.long q1), .second, .val (.long q2), .second, .val (.long q3), .second, .val (.long q4), .second, .val (.long q5), .second, .val (.long mA), .second, .val (.long xA), .second, .unset, .unset, .unset, .unset, .unset, .unset, .unset, .unset, .unset, .unset, .unset, .unset, .unset, .unset, .unset, .unset, .unset] [(.long mB)])) _
      refine XS.lstore X6.here hx rfl (hb hby at_21) rfl (l' := #[.val (.long q0), .second, .val (.long q1), .second, .val (.long q2), .second, .val (.long q3), .second, .val (.long q4), .second, .val (.long q5), .second, .val (.long mA), .second, .val (.long xA), .second, .val (.long mB), .second, .unset, .unset, .unset, .unset, .unset, .unset, .unset, .unset, .unset, .unset, .unset, .unset, .unset, .unset, .unset]) rfl ?_
      show Steps p.tables e below (T6.setTop (mkF m 23 #[.val (.long q0), .second, .val (.long q1), .second, .val (.long q2), .second, .val (.long q3), .second, .val (.long q4), .second, .val (.long q5), .second, .val (.long mA), .second, .val (.long xA), .second, .val (.long mB), .second, .unset, .unset, .unset, .unset, .unset, .unset, .unset, .unset, .unset, .unset, .unset, .unset, .unset, .unset, .unset] [])) _
      refine XS.lload X6.here hx rfl (hb hby at_23) rfl ?_
      show Steps p.tables e below (T6.setTop (mkF m 25 #[.val (.long q0), .second, .val (.long q1), .second, .val (.long q2), .second, .val (.long q3), .second, .val (.long q4), .second, .val (.long q5), .second, .val (.long mA), .second, .val (.long xA), .second, .val (.long mB), .second, .unset, .unset, .unset, .unset, .unset, .unset, .unset, .unset, .unset, .unset, .unset, .unset, .unset, .unset, .unset] [(.long q2)])) _
      refine XS.lload X6.here hx rfl (hb hby at_25) rfl ?_
      show Steps p.tables e below (T6.setTop (mkF m 27 #[.val (.long q0), .second, .val (.long q1), .second, .val (.long q2), .second, .val (.long q3), .second, .val (.long q4), .second, .val (.long q5), .second, .val (.long mA), .second, .val (.long xA), .second, .val (.long mB), .second, .unset, .unset, .unset, .unset, .unset, .unset, .unset, .unset, .unset, .unset, .unset, .unset, .unset, .unset, .unset] [(.long q3), (.long q2)])) _
      exact kt)
  obtain ⟨_, _, ⟨T8, L8, k8, n8⟩, -, X8, ⟨Lc8, hQ8, l8, y8, z8⟩, st8⟩ := Jvm.LawKit.callS X6 hx (y := own_m21) hownW (mvT hZW (own_h hw 4 rfl)) (mvT hZW (own_h hw 5 rfl)) (mvT hZW (own_h hw 2 rfl)) (mvT hZW (own_h hw 6 rfl)) (by decide) (backOf (W := 0) (rmg2 l Z a0 hw [] q2 q3 h0 n0 xB hz_xB) hZW (own_h hw 6 rfl) (own_h hw 2 rfl) (by decide) (by decide)) (g := (mkF m 27 #[.val (.long q0), .second, .val (.long q1), .second, .val (.long q2), .second, .val (.long q3), .second, .val (.long q4), .second, .val (.long q5), .second, .val (.long mA), .second, .val (.long xA), .second, .val (.long mB), .second, .unset, .unset, .unset, .unset, .unset, .unset, .unset, .unset, .unset, .unset, .unset, .unset, .unset, .unset, .unset] [(.long q3), (.long q2)])) rfl (by rw [hml]; rfl) (argsL := [(.long q2), (.long q3)]) (rest := []) (lenOf pd_0 rfl) rfl (by show 2 * 0 + _ ≤ _; exact Nat.le_of_eq rfl) (hb hby at_27) (fun _ _ => ⟨rfl, e6, (by decide : 0 + 0 ≤ _), (by decide : 0 + 0 ≤ _)⟩)
  dsimp only [Pt.U, Pt.locs, Pt.cells, Pt.slots] at X8 l8 y8 z8 st8 hQ8
  subst y8 z8
  obtain ⟨rfl, N8q, e8⟩ := hQ8
  have N8 := Fr.app N6 N8q
  rw [← l8] at N8
  have go9 : ∀ t, Steps p.tables e below (T8.setTop (mkF m 38 #[.val (.long q0), .second, .val (.long q1), .second, .val (.long q2), .second, .val (.long q3), .second, .val (.long q4), .second, .val (.long q5), .second, .val (.long mA), .second, .val (.long xA), .second, .val (.long mB), .second, .val (.long xB), .second, .unset, .unset, .unset, .unset, .unset, .unset, .unset, .unset, .unset, .unset, .unset, .unset, .unset] [(.long q4), (.long xA), (.long mA)])) t → Steps p.tables e below (s₁.setTop (entryFrame m #[(.long q0), (.long q1), (.long q2), (.long q3), (.long q4), (.long q5)] maxLocals)) t := fun t kt => go7 t (by
      refine st8 _ ?_
      show Steps p.tables e below (T8.setTop (mkF m 30 #[.val (.long q0), .second, .val (.long q1), .second, .val (.long q2), .second, .val (.long q3), .second, .val (.long q4), .second, .val (.long q5), .second, .val (.long mA), .second, .val (.long xA), .second, .val (.long mB), .second, .unset, .unset, .unset, .unset, .unset, .unset, .unset, .unset, .unset, .unset, .unset, .unset, .unset, .unset, .unset] [(.long xB)])) _
      refine XS.lstore X8.here hx rfl (hb hby at_30) rfl (l' := #[.val (.long q0), .second, .val (.long q1), .second, .val (.long q2), .second, .val (.long q3), .second, .val (.long q4), .second, .val (.long q5), .second, .val (.long mA), .second, .val (.long xA), .second, .val (.long mB), .second, .val (.long xB), .second, .unset, .unset, .unset, .unset, .unset, .unset, .unset, .unset, .unset, .unset, .unset, .unset, .unset]) rfl ?_
      show Steps p.tables e below (T8.setTop (mkF m 32 #[.val (.long q0), .second, .val (.long q1), .second, .val (.long q2), .second, .val (.long q3), .second, .val (.long q4), .second, .val (.long q5), .second, .val (.long mA), .second, .val (.long xA), .second, .val (.long mB), .second, .val (.long xB), .second, .unset, .unset, .unset, .unset, .unset, .unset, .unset, .unset, .unset, .unset, .unset, .unset, .unset] [])) _
      refine XS.lload X8.here hx rfl (hb hby at_32) rfl ?_
      show Steps p.tables e below (T8.setTop (mkF m 34 #[.val (.long q0), .second, .val (.long q1), .second, .val (.long q2), .second, .val (.long q3), .second, .val (.long q4), .second, .val (.long q5), .second, .val (.long mA), .second, .val (.long xA), .second, .val (.long mB), .second, .val (.long xB), .second, .unset, .unset, .unset, .unset, .unset, .unset, .unset, .unset, .unset, .unset, .unset, .unset, .unset] [(.long mA)])) _
      refine XS.lload X8.here hx rfl (hb hby at_34) rfl ?_
      show Steps p.tables e below (T8.setTop (mkF m 36 #[.val (.long q0), .second, .val (.long q1), .second, .val (.long q2), .second, .val (.long q3), .second, .val (.long q4), .second, .val (.long q5), .second, .val (.long mA), .second, .val (.long xA), .second, .val (.long mB), .second, .val (.long xB), .second, .unset, .unset, .unset, .unset, .unset, .unset, .unset, .unset, .unset, .unset, .unset, .unset, .unset] [(.long xA), (.long mA)])) _
      refine XS.lload X8.here hx rfl (hb hby at_36) rfl ?_
      show Steps p.tables e below (T8.setTop (mkF m 38 #[.val (.long q0), .second, .val (.long q1), .second, .val (.long q2), .second, .val (.long q3), .second, .val (.long q4), .second, .val (.long q5), .second, .val (.long mA), .second, .val (.long xA), .second, .val (.long mB), .second, .val (.long xB), .second, .unset, .unset, .unset, .unset, .unset, .unset, .unset, .unset, .unset, .unset, .unset, .unset, .unset] [(.long q4), (.long xA), (.long mA)])) _
      exact kt)
  obtain ⟨_, _, ⟨T10, L10, k10, n10⟩, -, X10, ⟨Lc10, hQ10, l10, y10, z10⟩, st10⟩ := Jvm.LawKit.callS X8 hx (y := own_m20) hownW (mvT hZW (own_h hw 0 rfl)) (mvT hZW (own_h hw 1 rfl)) (mvT hZW (own_h hw 2 rfl)) (mvT hZW (own_h hw 3 rfl)) (by decide) (backOf (W := 2) (rmg1 l Z a0 hw [] xA q4 h0 n0 tA hz_tA) hZW (own_h hw 3 rfl) (own_h hw 2 rfl) (by decide) (by decide)) (g := (mkF m 38 #[.val (.long q0), .second, .val (.long q1), .second, .val (.long q2), .second, .val (.long q3), .second, .val (.long q4), .second, .val (.long q5), .second, .val (.long mA), .second, .val (.long xA), .second, .val (.long mB), .second, .val (.long xB), .second, .unset, .unset, .unset, .unset, .unset, .unset, .unset, .unset, .unset, .unset, .unset, .unset, .unset] [(.long q4), (.long xA), (.long mA)])) rfl (by rw [hml]; rfl) (argsL := [(.long xA), (.long q4)]) (rest := [(.long mA)]) (lenOf pd_0 rfl) rfl (by show 2 * 0 + _ ≤ _; exact Nat.le_of_eq rfl) (hb hby at_38) (fun _ _ => ⟨rfl, e8, (by decide : 0 + 0 ≤ _), (by decide : 0 + 0 ≤ _)⟩)
  dsimp only [Pt.U, Pt.locs, Pt.cells, Pt.slots] at X10 l10 y10 z10 st10 hQ10
  subst y10 z10
  obtain ⟨rfl, N10q, e10⟩ := hQ10
  have N10 := Fr.app N8 N10q
  rw [← l10] at N10
  have go11 : ∀ t, Steps p.tables e below (T10.setTop (mkF m 41 #[.val (.long q0), .second, .val (.long q1), .second, .val (.long q2), .second, .val (.long q3), .second, .val (.long q4), .second, .val (.long q5), .second, .val (.long mA), .second, .val (.long xA), .second, .val (.long mB), .second, .val (.long xB), .second, .unset, .unset, .unset, .unset, .unset, .unset, .unset, .unset, .unset, .unset, .unset, .unset, .unset] [(.long tA), (.long mA)])) t → Steps p.tables e below (s₁.setTop (entryFrame m #[(.long q0), (.long q1), (.long q2), (.long q3), (.long q4), (.long q5)] maxLocals)) t := fun t kt => go9 t (by
      refine st10 _ ?_
      show Steps p.tables e below (T10.setTop (mkF m 41 #[.val (.long q0), .second, .val (.long q1), .second, .val (.long q2), .second, .val (.long q3), .second, .val (.long q4), .second, .val (.long q5), .second, .val (.long mA), .second, .val (.long xA), .second, .val (.long mB), .second, .val (.long xB), .second, .unset, .unset, .unset, .unset, .unset, .unset, .unset, .unset, .unset, .unset, .unset, .unset, .unset] [(.long tA), (.long mA)])) _
      exact kt)
  obtain ⟨_, _, ⟨T12, L12, k12, n12⟩, -, X12, ⟨Lc12, hQ12, l12, y12, z12⟩, st12⟩ := Jvm.LawKit.callS X10 hx (y := own_m21) hownW (mvT hZW (own_h hw 4 rfl)) (mvT hZW (own_h hw 5 rfl)) (mvT hZW (own_h hw 2 rfl)) (mvT hZW (own_h hw 6 rfl)) (by decide) (backOf (W := 0) (rmg2 l Z a0 hw [] mA tA h0 n0 vA hz_vA) hZW (own_h hw 6 rfl) (own_h hw 2 rfl) (by decide) (by decide)) (g := (mkF m 41 #[.val (.long q0), .second, .val (.long q1), .second, .val (.long q2), .second, .val (.long q3), .second, .val (.long q4), .second, .val (.long q5), .second, .val (.long mA), .second, .val (.long xA), .second, .val (.long mB), .second, .val (.long xB), .second, .unset, .unset, .unset, .unset, .unset, .unset, .unset, .unset, .unset, .unset, .unset, .unset, .unset] [(.long tA), (.long mA)])) rfl (by rw [hml]; rfl) (argsL := [(.long mA), (.long tA)]) (rest := []) (lenOf pd_0 rfl) rfl (by show 2 * 0 + _ ≤ _; exact Nat.le_of_eq rfl) (hb hby at_41) (fun _ _ => ⟨rfl, e10, (by decide : 0 + 0 ≤ _), (by decide : 0 + 0 ≤ _)⟩)
  dsimp only [Pt.U, Pt.locs, Pt.cells, Pt.slots] at X12 l12 y12 z12 st12 hQ12
  subst y12 z12
  obtain ⟨rfl, N12q, e12⟩ := hQ12
  have N12 := Fr.app N10 N12q
  rw [← l12] at N12
  have go13 : ∀ t, Steps p.tables e below (T12.setTop (mkF m 52 #[.val (.long q0), .second, .val (.long q1), .second, .val (.long q2), .second, .val (.long q3), .second, .val (.long q4), .second, .val (.long q5), .second, .val (.long mA), .second, .val (.long xA), .second, .val (.long mB), .second, .val (.long xB), .second, .val (.long vA), .second, .unset, .unset, .unset, .unset, .unset, .unset, .unset, .unset, .unset, .unset, .unset] [(.long q5), (.long xB), (.long mB)])) t → Steps p.tables e below (s₁.setTop (entryFrame m #[(.long q0), (.long q1), (.long q2), (.long q3), (.long q4), (.long q5)] maxLocals)) t := fun t kt => go11 t (by
      refine st12 _ ?_
      show Steps p.tables e below (T12.setTop (mkF m 44 #[.val (.long q0), .second, .val (.long q1), .second, .val (.long q2), .second, .val (.long q3), .second, .val (.long q4), .second, .val (.long q5), .second, .val (.long mA), .second, .val (.long xA), .second, .val (.long mB), .second, .val (.long xB), .second, .unset, .unset, .unset, .unset, .unset, .unset, .unset, .unset, .unset, .unset, .unset, .unset, .unset] [(.long vA)])) _
      refine XS.lstore X12.here hx rfl (hb hby at_44) rfl (l' := #[.val (.long q0), .second, .val (.long q1), .second, .val (.long q2), .second, .val (.long q3), .second, .val (.long q4), .second, .val (.long q5), .second, .val (.long mA), .second, .val (.long xA), .second, .val (.long mB), .second, .val (.long xB), .second, .val (.long vA), .second, .unset, .unset, .unset, .unset, .unset, .unset, .unset, .unset, .unset, .unset, .unset]) rfl ?_
      show Steps p.tables e below (T12.setTop (mkF m 46 #[.val (.long q0), .second, .val (.long q1), .second, .val (.long q2), .second, .val (.long q3), .second, .val (.long q4), .second, .val (.long q5), .second, .val (.long mA), .second, .val (.long xA), .second, .val (.long mB), .second, .val (.long xB), .second, .val (.long vA), .second, .unset, .unset, .unset, .unset, .unset, .unset, .unset, .unset, .unset, .unset, .unset] [])) _
      refine XS.lload X12.here hx rfl (hb hby at_46) rfl ?_
      show Steps p.tables e below (T12.setTop (mkF m 48 #[.val (.long q0), .second, .val (.long q1), .second, .val (.long q2), .second, .val (.long q3), .second, .val (.long q4), .second, .val (.long q5), .second, .val (.long mA), .second, .val (.long xA), .second, .val (.long mB), .second, .val (.long xB), .second, .val (.long vA), .second, .unset, .unset, .unset, .unset, .unset, .unset, .unset, .unset, .unset, .unset, .unset] [(.long mB)])) _
      refine XS.lload X12.here hx rfl (hb hby at_48) rfl ?_
      show Steps p.tables e below (T12.setTop (mkF m 50 #[.val (.long q0), .second, .val (.long q1), .second, .val (.long q2), .second, .val (.long q3), .second, .val (.long q4), .second, .val (.long q5), .second, .val (.long mA), .second, .val (.long xA), .second, .val (.long mB), .second, .val (.long xB), .second, .val (.long vA), .second, .unset, .unset, .unset, .unset, .unset, .unset, .unset, .unset, .unset, .unset, .unset] [(.long xB), (.long mB)])) _
      refine XS.lload X12.here hx rfl (hb hby at_50) rfl ?_
      show Steps p.tables e below (T12.setTop (mkF m 52 #[.val (.long q0), .second, .val (.long q1), .second, .val (.long q2), .second, .val (.long q3), .second, .val (.long q4), .second, .val (.long q5), .second, .val (.long mA), .second, .val (.long xA), .second, .val (.long mB), .second, .val (.long xB), .second, .val (.long vA), .second, .unset, .unset, .unset, .unset, .unset, .unset, .unset, .unset, .unset, .unset, .unset] [(.long q5), (.long xB), (.long mB)])) _
      exact kt)
  obtain ⟨_, _, ⟨T14, L14, k14, n14⟩, -, X14, ⟨Lc14, hQ14, l14, y14, z14⟩, st14⟩ := Jvm.LawKit.callS X12 hx (y := own_m20) hownW (mvT hZW (own_h hw 0 rfl)) (mvT hZW (own_h hw 1 rfl)) (mvT hZW (own_h hw 2 rfl)) (mvT hZW (own_h hw 3 rfl)) (by decide) (backOf (W := 2) (rmg1 l Z a0 hw [] xB q5 h0 n0 tB hz_tB) hZW (own_h hw 3 rfl) (own_h hw 2 rfl) (by decide) (by decide)) (g := (mkF m 52 #[.val (.long q0), .second, .val (.long q1), .second, .val (.long q2), .second, .val (.long q3), .second, .val (.long q4), .second, .val (.long q5), .second, .val (.long mA), .second, .val (.long xA), .second, .val (.long mB), .second, .val (.long xB), .second, .val (.long vA), .second, .unset, .unset, .unset, .unset, .unset, .unset, .unset, .unset, .unset, .unset, .unset] [(.long q5), (.long xB), (.long mB)])) rfl (by rw [hml]; rfl) (argsL := [(.long xB), (.long q5)]) (rest := [(.long mB)]) (lenOf pd_0 rfl) rfl (by show 2 * 0 + _ ≤ _; exact Nat.le_of_eq rfl) (hb hby at_52) (fun _ _ => ⟨rfl, e12, (by decide : 0 + 0 ≤ _), (by decide : 0 + 0 ≤ _)⟩)
  dsimp only [Pt.U, Pt.locs, Pt.cells, Pt.slots] at X14 l14 y14 z14 st14 hQ14
  subst y14 z14
  obtain ⟨rfl, N14q, e14⟩ := hQ14
  have N14 := Fr.app N12 N14q
  rw [← l14] at N14
  have go15 : ∀ t, Steps p.tables e below (T14.setTop (mkF m 55 #[.val (.long q0), .second, .val (.long q1), .second, .val (.long q2), .second, .val (.long q3), .second, .val (.long q4), .second, .val (.long q5), .second, .val (.long mA), .second, .val (.long xA), .second, .val (.long mB), .second, .val (.long xB), .second, .val (.long vA), .second, .unset, .unset, .unset, .unset, .unset, .unset, .unset, .unset, .unset, .unset, .unset] [(.long tB), (.long mB)])) t → Steps p.tables e below (s₁.setTop (entryFrame m #[(.long q0), (.long q1), (.long q2), (.long q3), (.long q4), (.long q5)] maxLocals)) t := fun t kt => go13 t (by
      refine st14 _ ?_
      show Steps p.tables e below (T14.setTop (mkF m 55 #[.val (.long q0), .second, .val (.long q1), .second, .val (.long q2), .second, .val (.long q3), .second, .val (.long q4), .second, .val (.long q5), .second, .val (.long mA), .second, .val (.long xA), .second, .val (.long mB), .second, .val (.long xB), .second, .val (.long vA), .second, .unset, .unset, .unset, .unset, .unset, .unset, .unset, .unset, .unset, .unset, .unset] [(.long tB), (.long mB)])) _
      exact kt)
  obtain ⟨_, _, ⟨T16, L16, k16, n16⟩, -, X16, ⟨Lc16, hQ16, l16, y16, z16⟩, st16⟩ := Jvm.LawKit.callS X14 hx (y := own_m21) hownW (mvT hZW (own_h hw 4 rfl)) (mvT hZW (own_h hw 5 rfl)) (mvT hZW (own_h hw 2 rfl)) (mvT hZW (own_h hw 6 rfl)) (by decide) (backOf (W := 0) (rmg2 l Z a0 hw [] mB tB h0 n0 vB hz_vB) hZW (own_h hw 6 rfl) (own_h hw 2 rfl) (by decide) (by decide)) (g := (mkF m 55 #[.val (.long q0), .second, .val (.long q1), .second, .val (.long q2), .second, .val (.long q3), .second, .val (.long q4), .second, .val (.long q5), .second, .val (.long mA), .second, .val (.long xA), .second, .val (.long mB), .second, .val (.long xB), .second, .val (.long vA), .second, .unset, .unset, .unset, .unset, .unset, .unset, .unset, .unset, .unset, .unset, .unset] [(.long tB), (.long mB)])) rfl (by rw [hml]; rfl) (argsL := [(.long mB), (.long tB)]) (rest := []) (lenOf pd_0 rfl) rfl (by show 2 * 0 + _ ≤ _; exact Nat.le_of_eq rfl) (hb hby at_55) (fun _ _ => ⟨rfl, e14, (by decide : 0 + 0 ≤ _), (by decide : 0 + 0 ≤ _)⟩)
  dsimp only [Pt.U, Pt.locs, Pt.cells, Pt.slots] at X16 l16 y16 z16 st16 hQ16
  subst y16 z16
  obtain ⟨rfl, N16q, e16⟩ := hQ16
  have N16 := Fr.app N14 N16q
  rw [← l16] at N16
  have go17 : ∀ t, Steps p.tables e below (T16.setTop (mkF m 60 #[.val (.long q0), .second, .val (.long q1), .second, .val (.long q2), .second, .val (.long q3), .second, .val (.long q4), .second, .val (.long q5), .second, .val (.long mA), .second, .val (.long xA), .second, .val (.long mB), .second, .val (.long xB), .second, .val (.long vA), .second, .val (.long vB), .second, .unset, .unset, .unset, .unset, .unset, .unset, .unset, .unset, .unset] [])) t → Steps p.tables e below (s₁.setTop (entryFrame m #[(.long q0), (.long q1), (.long q2), (.long q3), (.long q4), (.long q5)] maxLocals)) t := fun t kt => go15 t (by
      refine st16 _ ?_
      show Steps p.tables e below (T16.setTop (mkF m 58 #[.val (.long q0), .second, .val (.long q1), .second, .val (.long q2), .second, .val (.long q3), .second, .val (.long q4), .second, .val (.long q5), .second, .val (.long mA), .second, .val (.long xA), .second, .val (.long mB), .second, .val (.long xB), .second, .val (.long vA), .second, .unset, .unset, .unset, .unset, .unset, .unset, .unset, .unset, .unset, .unset, .unset] [(.long vB)])) _
      refine XS.lstore X16.here hx rfl (hb hby at_58) rfl (l' := #[.val (.long q0), .second, .val (.long q1), .second, .val (.long q2), .second, .val (.long q3), .second, .val (.long q4), .second, .val (.long q5), .second, .val (.long mA), .second, .val (.long xA), .second, .val (.long mB), .second, .val (.long xB), .second, .val (.long vA), .second, .val (.long vB), .second, .unset, .unset, .unset, .unset, .unset, .unset, .unset, .unset, .unset]) rfl ?_
      show Steps p.tables e below (T16.setTop (mkF m 60 #[.val (.long q0), .second, .val (.long q1), .second, .val (.long q2), .second, .val (.long q3), .second, .val (.long q4), .second, .val (.long q5), .second, .val (.long mA), .second, .val (.long xA), .second, .val (.long mB), .second, .val (.long xB), .second, .val (.long vA), .second, .val (.long vB), .second, .unset, .unset, .unset, .unset, .unset, .unset, .unset, .unset, .unset] [])) _
      exact kt)
  obtain ⟨T18, h18, X18, e18, E18, A18, D18, -, st18⟩ := newO X16 hx hZW hownW (own_h hw 7 rfl) (own_h hw 8 rfl) (own_h hw 9 rfl) e16 (g := (mkF m 60 #[.val (.long q0), .second, .val (.long q1), .second, .val (.long q2), .second, .val (.long q3), .second, .val (.long q4), .second, .val (.long q5), .second, .val (.long mA), .second, .val (.long xA), .second, .val (.long mB), .second, .val (.long xB), .second, .val (.long vA), .second, .val (.long vB), .second, .unset, .unset, .unset, .unset, .unset, .unset, .unset, .unset, .unset] [])) rfl (hb hby at_60) (by decide) (by decide)
  obtain ⟨b18, g18⟩ : ∃ z, z = h0.size := ⟨_, rfl⟩
  rw [← g18] at A18 D18 st18
  have ks18 : h0.size ≤ h0.size := (Nat.le_refl _)
  have sz18 : h0.size ≤ b18 := Nat.le_trans ks18 (Nat.le_of_eq g18.symm)
  have ne_dd_b18 : dd ≠ b18 := Nat.ne_of_lt (Nat.lt_of_lt_of_le DV0.lt (Nat.le_of_eq g18.symm))
  have gb18 : n0 ≤ b18 := Nat.le_trans Z0 (Nat.le_of_eq g18.symm)
  have F18_modCount : Fld Z h18 b18 "java/util/AbstractList" "modCount" "I" (.int (0 : Int32)) := D18 (Or.inl (own_h hw 29 rfl)) (ty := .int) (by decide)
  have F18_elementData : Fld Z h18 b18 "java/util/ArrayList" "elementData" "[Ljava/lang/Object;" .null := D18 (Or.inl (own_h hw 32 rfl)) (ty := (.array (.object "java/lang/Object"))) (by decide)
  have F18_size : Fld Z h18 b18 "java/util/ArrayList" "size" "I" (.int (0 : Int32)) := D18 (Or.inl (own_h hw 77 rfl)) (ty := .int) (by decide)
  have go19 : ∀ t, Steps p.tables e below (T18.setTop (mkF m 64 #[.val (.long q0), .second, .val (.long q1), .second, .val (.long q2), .second, .val (.long q3), .second, .val (.long q4), .second, .val (.long q5), .second, .val (.long mA), .second, .val (.long xA), .second, .val (.long mB), .second, .val (.long xB), .second, .val (.long vA), .second, .val (.long vB), .second, .unset, .unset, .unset, .unset, .unset, .unset, .unset, .unset, .unset] [(.ref b18), (.ref b18)])) t → Steps p.tables e below (s₁.setTop (entryFrame m #[(.long q0), (.long q1), (.long q2), (.long q3), (.long q4), (.long q5)] maxLocals)) t := fun t kt => go17 t (by
      refine st18 _ ?_
      show Steps p.tables e below (T18.setTop (mkF m 63 #[.val (.long q0), .second, .val (.long q1), .second, .val (.long q2), .second, .val (.long q3), .second, .val (.long q4), .second, .val (.long q5), .second, .val (.long mA), .second, .val (.long xA), .second, .val (.long mB), .second, .val (.long xB), .second, .val (.long vA), .second, .val (.long vB), .second, .unset, .unset, .unset, .unset, .unset, .unset, .unset, .unset, .unset] [(.ref b18)])) _
      refine XS.dup X18.here hx rfl (hb hby at_63) rfl rfl ?_
      show Steps p.tables e below (T18.setTop (mkF m 64 #[.val (.long q0), .second, .val (.long q1), .second, .val (.long q2), .second, .val (.long q3), .second, .val (.long q4), .second, .val (.long q5), .second, .val (.long mA), .second, .val (.long xA), .second, .val (.long mB), .second, .val (.long xB), .second, .val (.long vA), .second, .val (.long vB), .second, .unset, .unset, .unset, .unset, .unset, .unset, .unset, .unset, .unset] [(.ref b18), (.ref b18)])) _
      exact kt)
  have LOi : own_LO Z h18 b18 .null 0 0 := ⟨A18, F18_elementData, F18_size, F18_modCount⟩
  have fq21 := (Old1.ext E18)
  obtain ⟨_, _, ⟨T20, L20, k20, n20⟩, -, X20, ⟨Lc20, hQ20, l20, y20, z20⟩, st20⟩ := X18.specialBack hx (y := own_m22) rfl hownW (mvT hZW (own_h hw 10 rfl)) (mvT hZW (own_h hw 11 rfl)) (mvT hZW (own_h hw 12 rfl)) (by decide) (backOf (W := 1) (rm3 l Z a0 hw [] b18 dd h18 n0 LOi gb18 fq21 SS) hZW (own_h hw 12 rfl) (own_h hw 9 rfl) (by decide) (by decide)) (g := (mkF m 64 #[.val (.long q0), .second, .val (.long q1), .second, .val (.long q2), .second, .val (.long q3), .second, .val (.long q4), .second, .val (.long q5), .second, .val (.long mA), .second, .val (.long xA), .second, .val (.long mB), .second, .val (.long xB), .second, .val (.long vA), .second, .val (.long vB), .second, .unset, .unset, .unset, .unset, .unset, .unset, .unset, .unset, .unset] [(.ref b18), (.ref b18)])) rfl (by rw [hml]; rfl) (Steps.refl _) (a := b18) (argsL := []) (rest := [(.ref b18)]) (lenOf pd_1 rfl) rfl (by show 2 * 0 + _ ≤ _; exact Nat.le_of_eq rfl) (hb hby at_64) (fun _ _ => ⟨rfl, e18, (by decide : 1 + 0 ≤ _), (by decide : 3 + 0 ≤ _)⟩)
  dsimp only [Pt.U, Pt.locs, Pt.cells, Pt.slots] at X20 l20 y20 z20 st20 hQ20
  subst y20 z20
  obtain ⟨rfl, N20q, K20, LO20⟩ := hQ20
  obtain ⟨iE, iF1, iF2, iF3⟩ := id LO20
  have N20 := Fr.app N16 N20q
  rw [← l20] at N20
  have go22 : ∀ t, Steps p.tables e below (T20.setTop (mkF m 71 #[.val (.long q0), .second, .val (.long q1), .second, .val (.long q2), .second, .val (.long q3), .second, .val (.long q4), .second, .val (.long q5), .second, .val (.long mA), .second, .val (.long xA), .second, .val (.long mB), .second, .val (.long xB), .second, .val (.long vA), .second, .val (.long vB), .second, .val (.ref b18), .unset, .unset, .unset, .unset, .unset, .unset, .unset, .unset] [(.ref b18)])) t → Steps p.tables e below (s₁.setTop (entryFrame m #[(.long q0), (.long q1), (.long q2), (.long q3), (.long q4), (.long q5)] maxLocals)) t := fun t kt => go19 t (by
      refine st20.trans ?_
      show Steps p.tables e below (T20.setTop (mkF m 67 #[.val (.long q0), .second, .val (.long q1), .second, .val (.long q2), .second, .val (.long q3), .second, .val (.long q4), .second, .val (.long q5), .second, .val (.long mA), .second, .val (.long xA), .second, .val (.long mB), .second, .val (.long xB), .second, .val (.long vA), .second, .val (.long vB), .second, .unset, .unset, .unset, .unset, .unset, .unset, .unset, .unset, .unset] [(.ref b18)])) _
      refine XS.astore X20.here hx rfl (hb hby at_67) rfl rfl (l' := #[.val (.long q0), .second, .val (.long q1), .second, .val (.long q2), .second, .val (.long q3), .second, .val (.long q4), .second, .val (.long q5), .second, .val (.long mA), .second, .val (.long xA), .second, .val (.long mB), .second, .val (.long xB), .second, .val (.long vA), .second, .val (.long vB), .second, .val (.ref b18), .unset, .unset, .unset, .unset, .unset, .unset, .unset, .unset]) rfl ?_
      show Steps p.tables e below (T20.setTop (mkF m 69 #[.val (.long q0), .second, .val (.long q1), .second, .val (.long q2), .second, .val (.long q3), .second, .val (.long q4), .second, .val (.long q5), .second, .val (.long mA), .second, .val (.long xA), .second, .val (.long mB), .second, .val (.long xB), .second, .val (.long vA), .second, .val (.long vB), .second, .val (.ref b18), .unset, .unset, .unset, .unset, .unset, .unset, .unset, .unset] [])) _
      refine XS.aload X20.here hx rfl (hb hby at_69) rfl rfl ?_
      show Steps p.tables e below (T20.setTop (mkF m 71 #[.val (.long q0), .second, .val (.long q1), .second, .val (.long q2), .second, .val (.long q3), .second, .val (.long q4), .second, .val (.long q5), .second, .val (.long mA), .second, .val (.long xA), .second, .val (.long mB), .second, .val (.long xB), .second, .val (.long vA), .second, .val (.long vB), .second, .val (.ref b18), .unset, .unset, .unset, .unset, .unset, .unset, .unset, .unset] [(.ref b18)])) _
      exact kt)
  have zs24 := (Nat.le_trans (Nat.le_trans Z0 E18.1) K20.1)
  obtain ⟨T23, h23, X23, e23, E23, A23, D23, -, st23⟩ := newO X20 hx hZW hownW (own_h hw 33 rfl) (own_h hw 34 rfl) (own_h hw 35 rfl) rfl (g := (mkF m 71 #[.val (.long q0), .second, .val (.long q1), .second, .val (.long q2), .second, .val (.long q3), .second, .val (.long q4), .second, .val (.long q5), .second, .val (.long mA), .second, .val (.long xA), .second, .val (.long mB), .second, .val (.long xB), .second, .val (.long vA), .second, .val (.long vB), .second, .val (.ref b18), .unset, .unset, .unset, .unset, .unset, .unset, .unset, .unset] [(.ref b18)])) rfl (hb hby at_71) (by decide) (by decide)
  obtain ⟨b23, g23⟩ : ∃ z, z = T20.heap.size := ⟨_, rfl⟩
  rw [← g23] at A23 D23 st23
  have ks23 : h0.size ≤ T20.heap.size := (Nat.le_trans (Nat.le_trans (ks18) E18.1) K20.1)
  have sz23 : h0.size ≤ b23 := Nat.le_trans ks23 (Nat.le_of_eq g23.symm)
  have ne_b18_b23 : b18 ≠ b23 := Nat.ne_of_lt (Nat.lt_of_lt_of_le iE.lt (Nat.le_of_eq g23.symm))
  have fq25 := ((DV0.ext E18).keep K20 (ninS ne_dd_b18 nin0))
  have ne_dd_b23 : dd ≠ b23 := Nat.ne_of_lt (Nat.lt_of_lt_of_le fq25.lt (Nat.le_of_eq g23.symm))
  have gb23 : n0 ≤ b23 := Nat.le_trans zs24 (Nat.le_of_eq g23.symm)
  have F23_name : Fld Z h23 b23 "com/example/invariant_ink/invariantink/lang/Local" "name" "Ljava/lang/String;" .null := D23 (Or.inr (own_h hw 60 rfl)) (ty := (.object "java/lang/String")) (by decide)
  have F23_kind : Fld Z h23 b23 "com/example/invariant_ink/invariantink/lang/Local" "kind" "Lcom/example/invariant_ink/invariantink/lang/Local$Kind;" .null := D23 (Or.inr (own_h hw 62 rfl)) (ty := (.object "com/example/invariant_ink/invariantink/lang/Local$Kind")) (by decide)
  have F23_slot : Fld Z h23 b23 "com/example/invariant_ink/invariantink/lang/Local" "slot" "I" (.int (0 : Int32)) := D23 (Or.inr (own_h hw 64 rfl)) (ty := .int) (by decide)
  have F23_type : Fld Z h23 b23 "com/example/invariant_ink/invariantink/lang/Local" "type" "Lcom/example/invariant_ink/invariantink/lang/Type;" .null := D23 (Or.inr (own_h hw 66 rfl)) (ty := (.object "com/example/invariant_ink/invariantink/lang/Type")) (by decide)
  have F23_position : Fld Z h23 b23 "com/example/invariant_ink/invariantink/lang/Local" "position" "Lcom/example/invariant_ink/invariantink/lang/Position;" .null := D23 (Or.inr (own_h hw 68 rfl)) (ty := (.object "com/example/invariant_ink/invariantink/lang/Position")) (by decide)
  have go26 : ∀ t, Steps p.tables e below (T23.setTop (mkF m 75 #[.val (.long q0), .second, .val (.long q1), .second, .val (.long q2), .second, .val (.long q3), .second, .val (.long q4), .second, .val (.long q5), .second, .val (.long mA), .second, .val (.long xA), .second, .val (.long mB), .second, .val (.long xB), .second, .val (.long vA), .second, .val (.long vB), .second, .val (.ref b18), .unset, .unset, .unset, .unset, .unset, .unset, .unset, .unset] [(.ref b23), (.ref b23), (.ref b18)])) t → Steps p.tables e below (s₁.setTop (entryFrame m #[(.long q0), (.long q1), (.long q2), (.long q3), (.long q4), (.long q5)] maxLocals)) t := fun t kt => go22 t (by
      refine st23 _ ?_
      show Steps p.tables e below (T23.setTop (mkF m 74 #[.val (.long q0), .second, .val (.long q1), .second, .val (.long q2), .second, .val (.long q3), .second, .val (.long q4), .second, .val (.long q5), .second, .val (.long mA), .second, .val (.long xA), .second, .val (.long mB), .second, .val (.long xB), .second, .val (.long vA), .second, .val (.long vB), .second, .val (.ref b18), .unset, .unset, .unset, .unset, .unset, .unset, .unset, .unset] [(.ref b23), (.ref b18)])) _
      refine XS.dup X23.here hx rfl (hb hby at_74) rfl rfl ?_
      show Steps p.tables e below (T23.setTop (mkF m 75 #[.val (.long q0), .second, .val (.long q1), .second, .val (.long q2), .second, .val (.long q3), .second, .val (.long q4), .second, .val (.long q5), .second, .val (.long mA), .second, .val (.long xA), .second, .val (.long mB), .second, .val (.long xB), .second, .val (.long vA), .second, .val (.long vB), .second, .val (.ref b18), .unset, .unset, .unset, .unset, .unset, .unset, .unset, .unset] [(.ref b23), (.ref b23), (.ref b18)])) _
      exact kt)
  have lc28 := (Nat.le_trans (Nat.le_trans HK E18.1) K20.1)
  have hk29 := (Nat.le_trans lc28 E23.1)
  obtain ⟨b27, T27, h27, k27, X27, e27, E27, HS27, HK27, hZ27, hown27, st27⟩ := ldcS X23 hx hZW hownW (own_h hw 36 rfl) (own_wS a0 Z hw) e23 HS hk29 (g := (mkF m 75 #[.val (.long q0), .second, .val (.long q1), .second, .val (.long q2), .second, .val (.long q3), .second, .val (.long q4), .second, .val (.long q5), .second, .val (.long mA), .second, .val (.long xA), .second, .val (.long mB), .second, .val (.long xB), .second, .val (.long vA), .second, .val (.long vB), .second, .val (.ref b18), .unset, .unset, .unset, .unset, .unset, .unset, .unset, .unset] [(.ref b23), (.ref b23), (.ref b18)])) rfl (hb hby at_75) (n := 4) (by decide) (by decide) (by decide) (by decide)
  have go30 : ∀ t, Steps p.tables e below (T27.setTop (mkF m 79 #[.val (.long q0), .second, .val (.long q1), .second, .val (.long q2), .second, .val (.long q3), .second, .val (.long q4), .second, .val (.long q5), .second, .val (.long mA), .second, .val (.long xA), .second, .val (.long mB), .second, .val (.long xB), .second, .val (.long vA), .second, .val (.long vB), .second, .val (.ref b18), .unset, .unset, .unset, .unset, .unset, .unset, .unset, .unset] [(.int (2 : Int32)), .null, (.ref b27), (.ref b23), (.ref b23), (.ref b18)])) t → Steps p.tables e below (s₁.setTop (entryFrame m #[(.long q0), (.long q1), (.long q2), (.long q3), (.long q4), (.long q5)] maxLocals)) t := fun t kt => go26 t (by
      refine st27 _ ?_
      show Steps p.tables e below (T27.setTop (mkF m 77 #[.val (.long q0), .second, .val (.long q1), .second, .val (.long q2), .second, .val (.long q3), .second, .val (.long q4), .second, .val (.long q5), .second, .val (.long mA), .second, .val (.long xA), .second, .val (.long mB), .second, .val (.long xB), .second, .val (.long vA), .second, .val (.long vB), .second, .val (.ref b18), .unset, .unset, .unset, .unset, .unset, .unset, .unset, .unset] [(.ref b27), (.ref b23), (.ref b23), (.ref b18)])) _
      refine XS.aconstNull X27.here hx rfl (hb hby at_77) ?_
      show Steps p.tables e below (T27.setTop (mkF m 78 #[.val (.long q0), .second, .val (.long q1), .second, .val (.long q2), .second, .val (.long q3), .second, .val (.long q4), .second, .val (.long q5), .second, .val (.long mA), .second, .val (.long xA), .second, .val (.long mB), .second, .val (.long xB), .second, .val (.long vA), .second, .val (.long vB), .second, .val (.ref b18), .unset, .unset, .unset, .unset, .unset, .unset, .unset, .unset] [.null, (.ref b27), (.ref b23), (.ref b23), (.ref b18)])) _
      refine XS.iconst X27.here hx rfl (hb hby at_78) ?_
      show Steps p.tables e below (T27.setTop (mkF m 79 #[.val (.long q0), .second, .val (.long q1), .second, .val (.long q2), .second, .val (.long q3), .second, .val (.long q4), .second, .val (.long q5), .second, .val (.long mA), .second, .val (.long xA), .second, .val (.long mB), .second, .val (.long xB), .second, .val (.long vA), .second, .val (.long vB), .second, .val (.ref b18), .unset, .unset, .unset, .unset, .unset, .unset, .unset, .unset] [(.int (2 : Int32)), .null, (.ref b27), (.ref b23), (.ref b23), (.ref b18)])) _
      exact kt)
  have zs32 := (Nat.le_trans (Nat.le_trans zs24 E23.1) E27.1)
  obtain ⟨T31, h31, X31, e31, E31, A31, D31, -, st31⟩ := newO X27 hx hZ27 hown27 (own_h hw 44 rfl) (own_h hw 45 rfl) (own_h hw 46 rfl) e27 (g := (mkF m 79 #[.val (.long q0), .second, .val (.long q1), .second, .val (.long q2), .second, .val (.long q3), .second, .val (.long q4), .second, .val (.long q5), .second, .val (.long mA), .second, .val (.long xA), .second, .val (.long mB), .second, .val (.long xB), .second, .val (.long vA), .second, .val (.long vB), .second, .val (.ref b18), .unset, .unset, .unset, .unset, .unset, .unset, .unset, .unset] [(.int (2 : Int32)), .null, (.ref b27), (.ref b23), (.ref b23), (.ref b18)])) rfl (hb hby at_79) (by decide) (by decide)
  obtain ⟨b31, g31⟩ : ∃ z, z = h27.size := ⟨_, rfl⟩
  rw [← g31] at A31 D31 st31
  have ks31 : h0.size ≤ h27.size := (Nat.le_trans (Nat.le_trans (ks23) E23.1) E27.1)
  have sz31 : h0.size ≤ b31 := Nat.le_trans ks31 (Nat.le_of_eq g31.symm)
  have fq33 := ((iE.ext E23).ext E27)
  have ne_b18_b31 : b18 ≠ b31 := Nat.ne_of_lt (Nat.lt_of_lt_of_le fq33.lt (Nat.le_of_eq g31.symm))
  have fq34 := (A23.ext E27)
  have ne_b23_b31 : b23 ≠ b31 := Nat.ne_of_lt (Nat.lt_of_lt_of_le fq34.lt (Nat.le_of_eq g31.symm))
  have fq35 := ((fq25.ext E23).ext E27)
  have ne_dd_b31 : dd ≠ b31 := Nat.ne_of_lt (Nat.lt_of_lt_of_le fq35.lt (Nat.le_of_eq g31.symm))
  have gb31 : n0 ≤ b31 := Nat.le_trans zs32 (Nat.le_of_eq g31.symm)
  have F31_low : Fld Z h31 b31 "com/example/invariant_ink/invariantink/lang/RangeType" "low" "J" (.long (0 : Int64)) := D31 (Or.inr (own_h hw 52 rfl)) (ty := .long) (by decide)
  have F31_high : Fld Z h31 b31 "com/example/invariant_ink/invariantink/lang/RangeType" "high" "J" (.long (0 : Int64)) := D31 (Or.inr (own_h hw 54 rfl)) (ty := .long) (by decide)
  have go36 : ∀ t, Steps p.tables e below (T31.setTop (mkF m 87 #[.val (.long q0), .second, .val (.long q1), .second, .val (.long q2), .second, .val (.long q3), .second, .val (.long q4), .second, .val (.long q5), .second, .val (.long mA), .second, .val (.long xA), .second, .val (.long mB), .second, .val (.long xB), .second, .val (.long vA), .second, .val (.long vB), .second, .val (.ref b18), .unset, .unset, .unset, .unset, .unset, .unset, .unset, .unset] [(.long xA), (.long mA), (.ref b31), (.ref b31), (.int (2 : Int32)), .null, (.ref b27), (.ref b23), (.ref b23), (.ref b18)])) t → Steps p.tables e below (s₁.setTop (entryFrame m #[(.long q0), (.long q1), (.long q2), (.long q3), (.long q4), (.long q5)] maxLocals)) t := fun t kt => go30 t (by
      refine st31 _ ?_
      show Steps p.tables e below (T31.setTop (mkF m 82 #[.val (.long q0), .second, .val (.long q1), .second, .val (.long q2), .second, .val (.long q3), .second, .val (.long q4), .second, .val (.long q5), .second, .val (.long mA), .second, .val (.long xA), .second, .val (.long mB), .second, .val (.long xB), .second, .val (.long vA), .second, .val (.long vB), .second, .val (.ref b18), .unset, .unset, .unset, .unset, .unset, .unset, .unset, .unset] [(.ref b31), (.int (2 : Int32)), .null, (.ref b27), (.ref b23), (.ref b23), (.ref b18)])) _
      refine XS.dup X31.here hx rfl (hb hby at_82) rfl rfl ?_
      show Steps p.tables e below (T31.setTop (mkF m 83 #[.val (.long q0), .second, .val (.long q1), .second, .val (.long q2), .second, .val (.long q3), .second, .val (.long q4), .second, .val (.long q5), .second, .val (.long mA), .second, .val (.long xA), .second, .val (.long mB), .second, .val (.long xB), .second, .val (.long vA), .second, .val (.long vB), .second, .val (.ref b18), .unset, .unset, .unset, .unset, .unset, .unset, .unset, .unset] [(.ref b31), (.ref b31), (.int (2 : Int32)), .null, (.ref b27), (.ref b23), (.ref b23), (.ref b18)])) _
      refine XS.lload X31.here hx rfl (hb hby at_83) rfl ?_
      show Steps p.tables e below (T31.setTop (mkF m 85 #[.val (.long q0), .second, .val (.long q1), .second, .val (.long q2), .second, .val (.long q3), .second, .val (.long q4), .second, .val (.long q5), .second, .val (.long mA), .second, .val (.long xA), .second, .val (.long mB), .second, .val (.long xB), .second, .val (.long vA), .second, .val (.long vB), .second, .val (.ref b18), .unset, .unset, .unset, .unset, .unset, .unset, .unset, .unset] [(.long mA), (.ref b31), (.ref b31), (.int (2 : Int32)), .null, (.ref b27), (.ref b23), (.ref b23), (.ref b18)])) _
      refine XS.lload X31.here hx rfl (hb hby at_85) rfl ?_
      show Steps p.tables e below (T31.setTop (mkF m 87 #[.val (.long q0), .second, .val (.long q1), .second, .val (.long q2), .second, .val (.long q3), .second, .val (.long q4), .second, .val (.long q5), .second, .val (.long mA), .second, .val (.long xA), .second, .val (.long mB), .second, .val (.long xB), .second, .val (.long vA), .second, .val (.long vB), .second, .val (.ref b18), .unset, .unset, .unset, .unset, .unset, .unset, .unset, .unset] [(.long xA), (.long mA), (.ref b31), (.ref b31), (.int (2 : Int32)), .null, (.ref b27), (.ref b23), (.ref b23), (.ref b18)])) _
      exact kt)
  obtain ⟨_, _, ⟨T37, L37, k37, n37⟩, -, X37, ⟨Lc37, hQ37, l37, y37, z37⟩, st37⟩ := X31.specialBack hx (y := own_m23) rfl hown27 (mvT hZ27 (own_h hw 47 rfl)) (mvT hZ27 (own_h hw 48 rfl)) (mvT hZ27 (own_h hw 49 rfl)) (by decide) (backOf (W := 7) (rm7 l Z a0 hw [] b31 mA xA h31 n0 A31 F31_low F31_high gb31 (own_le hz_xA hz_mA)) hZ27 (own_h hw 49 rfl) (own_h hw 46 rfl) (by decide) (by decide)) (g := (mkF m 87 #[.val (.long q0), .second, .val (.long q1), .second, .val (.long q2), .second, .val (.long q3), .second, .val (.long q4), .second, .val (.long q5), .second, .val (.long mA), .second, .val (.long xA), .second, .val (.long mB), .second, .val (.long xB), .second, .val (.long vA), .second, .val (.long vB), .second, .val (.ref b18), .unset, .unset, .unset, .unset, .unset, .unset, .unset, .unset] [(.long xA), (.long mA), (.ref b31), (.ref b31), (.int (2 : Int32)), .null, (.ref b27), (.ref b23), (.ref b23), (.ref b18)])) rfl (by rw [hml]; rfl) (Steps.refl _) (a := b31) (argsL := [(.long mA), (.long xA)]) (rest := [(.ref b31), (.int (2 : Int32)), .null, (.ref b27), (.ref b23), (.ref b23), (.ref b18)]) (lenOf pd_2 rfl) rfl (by show 2 * 0 + _ ≤ _; exact Nat.le_of_eq rfl) (hb hby at_87) (fun _ _ => ⟨rfl, e31, (by decide : 5 + 0 ≤ _), (by decide : 18 + 0 ≤ _)⟩)
  dsimp only [Pt.U, Pt.locs, Pt.cells, Pt.slots] at X37 l37 y37 z37 st37 hQ37
  subst y37 z37
  obtain ⟨rfl, N37q, K37, E37x, F37l, F37h⟩ := hQ37
  have N37 := Fr.app N20 N37q
  rw [← l37] at N37
  have go38 : ∀ t, Steps p.tables e below (T37.setTop (mkF m 91 #[.val (.long q0), .second, .val (.long q1), .second, .val (.long q2), .second, .val (.long q3), .second, .val (.long q4), .second, .val (.long q5), .second, .val (.long mA), .second, .val (.long xA), .second, .val (.long mB), .second, .val (.long xB), .second, .val (.long vA), .second, .val (.long vB), .second, .val (.ref b18), .unset, .unset, .unset, .unset, .unset, .unset, .unset, .unset] [.null, (.ref b31), (.int (2 : Int32)), .null, (.ref b27), (.ref b23), (.ref b23), (.ref b18)])) t → Steps p.tables e below (s₁.setTop (entryFrame m #[(.long q0), (.long q1), (.long q2), (.long q3), (.long q4), (.long q5)] maxLocals)) t := fun t kt => go36 t (by
      refine st37.trans ?_
      show Steps p.tables e below (T37.setTop (mkF m 90 #[.val (.long q0), .second, .val (.long q1), .second, .val (.long q2), .second, .val (.long q3), .second, .val (.long q4), .second, .val (.long q5), .second, .val (.long mA), .second, .val (.long xA), .second, .val (.long mB), .second, .val (.long xB), .second, .val (.long vA), .second, .val (.long vB), .second, .val (.ref b18), .unset, .unset, .unset, .unset, .unset, .unset, .unset, .unset] [(.ref b31), (.int (2 : Int32)), .null, (.ref b27), (.ref b23), (.ref b23), (.ref b18)])) _
      refine XS.aconstNull X37.here hx rfl (hb hby at_90) ?_
      show Steps p.tables e below (T37.setTop (mkF m 91 #[.val (.long q0), .second, .val (.long q1), .second, .val (.long q2), .second, .val (.long q3), .second, .val (.long q4), .second, .val (.long q5), .second, .val (.long mA), .second, .val (.long xA), .second, .val (.long mB), .second, .val (.long xB), .second, .val (.long vA), .second, .val (.long vB), .second, .val (.ref b18), .unset, .unset, .unset, .unset, .unset, .unset, .unset, .unset] [.null, (.ref b31), (.int (2 : Int32)), .null, (.ref b27), (.ref b23), (.ref b23), (.ref b18)])) _
      exact kt)
  have fq40 := ((fq34.ext E31).keep K37)
  have fr41 := ((F23_name.ext E27).ext E31)
  have fq42 := (fr41.keep K37 (ninS ne_b23_b31 nin0))
  have fr43 := ((F23_kind.ext E27).ext E31)
  have fq44 := (fr43.keep K37 (ninS ne_b23_b31 nin0))
  have fr45 := ((F23_slot.ext E27).ext E31)
  have fq46 := (fr45.keep K37 (ninS ne_b23_b31 nin0))
  have fr47 := ((F23_type.ext E27).ext E31)
  have fq48 := (fr47.keep K37 (ninS ne_b23_b31 nin0))
  have fr49 := ((F23_position.ext E27).ext E31)
  have fq50 := (fr49.keep K37 (ninS ne_b23_b31 nin0))
  obtain ⟨_, _, ⟨T39, L39, k39, n39⟩, -, X39, ⟨Lc39, hQ39, l39, y39, z39⟩, st39⟩ := X37.specialBack hx (y := own_m24) rfl hown27 (mvT hZ27 (own_h hw 55 rfl)) (mvT hZ27 (own_h hw 56 rfl)) (mvT hZ27 (own_h hw 57 rfl)) (by decide) (backOf (W := 2) (rm8 l Z a0 hw [] b23 b27 (2 : Int32) b31 T37.heap n0 fq40 fq42 fq44 fq46 fq48 fq50 gb23) hZ27 (own_h hw 57 rfl) (own_h hw 35 rfl) (by decide) (by decide)) (g := (mkF m 91 #[.val (.long q0), .second, .val (.long q1), .second, .val (.long q2), .second, .val (.long q3), .second, .val (.long q4), .second, .val (.long q5), .second, .val (.long mA), .second, .val (.long xA), .second, .val (.long mB), .second, .val (.long xB), .second, .val (.long vA), .second, .val (.long vB), .second, .val (.ref b18), .unset, .unset, .unset, .unset, .unset, .unset, .unset, .unset] [.null, (.ref b31), (.int (2 : Int32)), .null, (.ref b27), (.ref b23), (.ref b23), (.ref b18)])) rfl (by rw [hml]; rfl) (Steps.refl _) (a := b23) (argsL := [(.ref b27), .null, (.int (2 : Int32)), (.ref b31), .null]) (rest := [(.ref b23), (.ref b18)]) (lenOf pd_3 rfl) rfl (by show 2 * 0 + _ ≤ _; exact Nat.le_of_eq rfl) (hb hby at_91) (fun _ _ => ⟨rfl, rfl, (by decide : 5 + 0 ≤ _), (by decide : 18 + 0 ≤ _)⟩)
  dsimp only [Pt.U, Pt.locs, Pt.cells, Pt.slots] at X39 l39 y39 z39 st39 hQ39
  subst y39 z39
  obtain ⟨rfl, N39q, K39, E39x, F39l, F39h⟩ := hQ39
  have N39 := Fr.app N37 N39q
  rw [← l39] at N39
  have go51 : ∀ t, Steps p.tables e below (T39.setTop (mkF m 94 #[.val (.long q0), .second, .val (.long q1), .second, .val (.long q2), .second, .val (.long q3), .second, .val (.long q4), .second, .val (.long q5), .second, .val (.long mA), .second, .val (.long xA), .second, .val (.long mB), .second, .val (.long xB), .second, .val (.long vA), .second, .val (.long vB), .second, .val (.ref b18), .unset, .unset, .unset, .unset, .unset, .unset, .unset, .unset] [(.ref b23), (.ref b18)])) t → Steps p.tables e below (s₁.setTop (entryFrame m #[(.long q0), (.long q1), (.long q2), (.long q3), (.long q4), (.long q5)] maxLocals)) t := fun t kt => go38 t (by
      refine st39.trans ?_
      show Steps p.tables e below (T39.setTop (mkF m 94 #[.val (.long q0), .second, .val (.long q1), .second, .val (.long q2), .second, .val (.long q3), .second, .val (.long q4), .second, .val (.long q5), .second, .val (.long mA), .second, .val (.long xA), .second, .val (.long mB), .second, .val (.long xB), .second, .val (.long vA), .second, .val (.long vB), .second, .val (.ref b18), .unset, .unset, .unset, .unset, .unset, .unset, .unset, .unset] [(.ref b23), (.ref b18)])) _
      exact kt)
  have fr53 := ((fq21.keep K20 (allS gb18 all0)).ext E23)
  have fr54 := (((fr53.ext E27).ext E31).keep K37 (allS gb31 all0))
  have fq55 := (fr54.keep K39 (allS gb23 all0))
  have STa := SS.ext fq55.2
  have fr56 := ((fq35.ext E31).keep K37 (ninS ne_dd_b31 nin0))
  have fq57 := (fr56.keep K39 (ninS ne_dd_b23 nin0))
  have lc58 := (Nat.le_trans (Nat.le_trans zs32 E31.1) K37.1)
  have zs59 := (Nat.le_trans lc58 K39.1)
  have fr60 := ((fq33.ext E31).keep K37)
  have fq61 := (fr60.keep K39)
  have fr62 := ((iF1.ext E23).ext E27)
  have fq63 := (((fr62.ext E31).keep K37 (ninS ne_b18_b31 nin0)).keep K39 (ninS ne_b18_b23 nin0))
  have fr64 := ((iF2.ext E23).ext E27)
  have fq65 := (((fr64.ext E31).keep K37 (ninS ne_b18_b31 nin0)).keep K39 (ninS ne_b18_b23 nin0))
  have fr66 := ((iF3.ext E23).ext E27)
  have fq67 := (((fr66.ext E31).keep K37 (ninS ne_b18_b31 nin0)).keep K39 (ninS ne_b18_b23 nin0))
  obtain ⟨cq52, kq52, q52a, q52b, q52c⟩ := isOf hZ27 rfl fq61
  obtain ⟨_, _, ⟨T52, L52, k52, n52⟩, -, X52, ⟨Lc52, hQ52, l52, y52, z52⟩, st52⟩ := X39.virtualBack hx (y := own_m25) (z := own_m25) hown27 (mvT hZ27 (own_h hw 69 rfl)) (mvT hZ27 (own_h hw 70 rfl)) (notFace_of_selects (args := #[]) (mvT hZ27 (own_h hw 72 rfl))) (mvT hZ27 (own_h hw 72 rfl)) (mvT hZ27 (own_h hw 71 rfl)) (by decide) (backOf (W := 0) (rmA0 l Z a0 hw [] b18 b23 dd (0 : Int32) T39.heap n0 STa fq57 ne_dd_b18 zs59 ⟨fq61, fq63, fq65, fq67⟩ gb18 E39x) hZ27 (own_h hw 73 rfl) (own_h hw 9 rfl) (by decide) (by decide)) q52a q52c (g := (mkF m 94 #[.val (.long q0), .second, .val (.long q1), .second, .val (.long q2), .second, .val (.long q3), .second, .val (.long q4), .second, .val (.long q5), .second, .val (.long mA), .second, .val (.long xA), .second, .val (.long mB), .second, .val (.long xB), .second, .val (.long vA), .second, .val (.long vB), .second, .val (.ref b18), .unset, .unset, .unset, .unset, .unset, .unset, .unset, .unset] [(.ref b23), (.ref b18)])) rfl (by rw [hml]; rfl) (Steps.refl _) (argsL := [(.ref b23)]) (rest := []) (lenOf pd_4 rfl) rfl (by show 2 * 0 + _ ≤ _; exact Nat.le_of_eq rfl) (hb hby at_94) (fun _ _ => ⟨rfl, rfl, (by decide : 5 + 1 ≤ _), (by decide : 18 + 10 ≤ _)⟩)
  dsimp only [Pt.U, Pt.locs, Pt.cells, Pt.slots] at X52 l52 y52 z52 st52 hQ52
  subst y52 z52
  obtain ⟨b52, rfl, N52q, K52, LO52, sz52, V52⟩ := hQ52
  have ne_b18_b52 : b18 ≠ b52 := Nat.ne_of_lt (Nat.lt_of_lt_of_le fq61.lt sz52)
  have ne_b23_b52 : b23 ≠ b52 := Nat.ne_of_lt (Nat.lt_of_lt_of_le E39x.lt sz52)
  have fq68 := (E37x.keep K39)
  have ne_b31_b52 : b31 ≠ b52 := Nat.ne_of_lt (Nat.lt_of_lt_of_le fq68.lt sz52)
  have ne_dd_b52 : dd ≠ b52 := Nat.ne_of_lt (Nat.lt_of_lt_of_le fq57.lt sz52)
  have gb52 : n0 ≤ b52 := Nat.le_trans zs59 sz52
  obtain ⟨jE, jF1, jF2, jF3⟩ := id LO52
  have N52 := Fr.app N39 N52q
  rw [← l52] at N52
  have go69 : ∀ t, Steps p.tables e below (T52.setTop (mkF m 100 #[.val (.long q0), .second, .val (.long q1), .second, .val (.long q2), .second, .val (.long q3), .second, .val (.long q4), .second, .val (.long q5), .second, .val (.long mA), .second, .val (.long xA), .second, .val (.long mB), .second, .val (.long xB), .second, .val (.long vA), .second, .val (.long vB), .second, .val (.ref b18), .unset, .unset, .unset, .unset, .unset, .unset, .unset, .unset] [(.ref b18)])) t → Steps p.tables e below (s₁.setTop (entryFrame m #[(.long q0), (.long q1), (.long q2), (.long q3), (.long q4), (.long q5)] maxLocals)) t := fun t kt => go51 t (by
      refine st52.trans ?_
      show Steps p.tables e below (T52.setTop (mkF m 97 #[.val (.long q0), .second, .val (.long q1), .second, .val (.long q2), .second, .val (.long q3), .second, .val (.long q4), .second, .val (.long q5), .second, .val (.long mA), .second, .val (.long xA), .second, .val (.long mB), .second, .val (.long xB), .second, .val (.long vA), .second, .val (.long vB), .second, .val (.ref b18), .unset, .unset, .unset, .unset, .unset, .unset, .unset, .unset] [(.int (1 : Int32))])) _
      refine XS.pop X52.here hx rfl (hb hby at_97) rfl rfl ?_
      show Steps p.tables e below (T52.setTop (mkF m 98 #[.val (.long q0), .second, .val (.long q1), .second, .val (.long q2), .second, .val (.long q3), .second, .val (.long q4), .second, .val (.long q5), .second, .val (.long mA), .second, .val (.long xA), .second, .val (.long mB), .second, .val (.long xB), .second, .val (.long vA), .second, .val (.long vB), .second, .val (.ref b18), .unset, .unset, .unset, .unset, .unset, .unset, .unset, .unset] [])) _
      refine XS.aload X52.here hx rfl (hb hby at_98) rfl rfl ?_
      show Steps p.tables e below (T52.setTop (mkF m 100 #[.val (.long q0), .second, .val (.long q1), .second, .val (.long q2), .second, .val (.long q3), .second, .val (.long q4), .second, .val (.long q5), .second, .val (.long mA), .second, .val (.long xA), .second, .val (.long mB), .second, .val (.long xB), .second, .val (.long vA), .second, .val (.long vB), .second, .val (.ref b18), .unset, .unset, .unset, .unset, .unset, .unset, .unset, .unset] [(.ref b18)])) _
      exact kt)
  have zs71 := (Nat.le_trans zs59 K52.1)
  obtain ⟨T70, h70, X70, e70, E70, A70, D70, -, st70⟩ := newO X52 hx hZ27 hown27 (own_h hw 33 rfl) (own_h hw 34 rfl) (own_h hw 35 rfl) rfl (g := (mkF m 100 #[.val (.long q0), .second, .val (.long q1), .second, .val (.long q2), .second, .val (.long q3), .second, .val (.long q4), .second, .val (.long q5), .second, .val (.long mA), .second, .val (.long xA), .second, .val (.long mB), .second, .val (.long xB), .second, .val (.long vA), .second, .val (.long vB), .second, .val (.ref b18), .unset, .unset, .unset, .unset, .unset, .unset, .unset, .unset] [(.ref b18)])) rfl (hb hby at_100) (by decide) (by decide)
  obtain ⟨b70, g70⟩ : ∃ z, z = T52.heap.size := ⟨_, rfl⟩
  rw [← g70] at A70 D70 st70
  have lc72 := (Nat.le_trans (Nat.le_trans (ks31) E31.1) K37.1)
  have ks70 : h0.size ≤ T52.heap.size := (Nat.le_trans (Nat.le_trans lc72 K39.1) K52.1)
  have sz70 : h0.size ≤ b70 := Nat.le_trans ks70 (Nat.le_of_eq g70.symm)
  have ne_b18_b70 : b18 ≠ b70 := Nat.ne_of_lt (Nat.lt_of_lt_of_le jE.lt (Nat.le_of_eq g70.symm))
  have fq73 := (E39x.keep K52)
  have ne_b23_b70 : b23 ≠ b70 := Nat.ne_of_lt (Nat.lt_of_lt_of_le fq73.lt (Nat.le_of_eq g70.symm))
  have fq74 := (fq68.keep K52)
  have ne_b31_b70 : b31 ≠ b70 := Nat.ne_of_lt (Nat.lt_of_lt_of_le fq74.lt (Nat.le_of_eq g70.symm))
  have ne_b52_b70 : b52 ≠ b70 := Nat.ne_of_lt (Nat.lt_of_lt_of_le V52.lt (Nat.le_of_eq g70.symm))
  have fq75 := (fq57.keep K52 (ninS ne_dd_b18 nin0))
  have ne_dd_b70 : dd ≠ b70 := Nat.ne_of_lt (Nat.lt_of_lt_of_le fq75.lt (Nat.le_of_eq g70.symm))
  have gb70 : n0 ≤ b70 := Nat.le_trans zs71 (Nat.le_of_eq g70.symm)
  have F70_name : Fld Z h70 b70 "com/example/invariant_ink/invariantink/lang/Local" "name" "Ljava/lang/String;" .null := D70 (Or.inr (own_h hw 60 rfl)) (ty := (.object "java/lang/String")) (by decide)
  have F70_kind : Fld Z h70 b70 "com/example/invariant_ink/invariantink/lang/Local" "kind" "Lcom/example/invariant_ink/invariantink/lang/Local$Kind;" .null := D70 (Or.inr (own_h hw 62 rfl)) (ty := (.object "com/example/invariant_ink/invariantink/lang/Local$Kind")) (by decide)
  have F70_slot : Fld Z h70 b70 "com/example/invariant_ink/invariantink/lang/Local" "slot" "I" (.int (0 : Int32)) := D70 (Or.inr (own_h hw 64 rfl)) (ty := .int) (by decide)
  have F70_type : Fld Z h70 b70 "com/example/invariant_ink/invariantink/lang/Local" "type" "Lcom/example/invariant_ink/invariantink/lang/Type;" .null := D70 (Or.inr (own_h hw 66 rfl)) (ty := (.object "com/example/invariant_ink/invariantink/lang/Type")) (by decide)
  have F70_position : Fld Z h70 b70 "com/example/invariant_ink/invariantink/lang/Local" "position" "Lcom/example/invariant_ink/invariantink/lang/Position;" .null := D70 (Or.inr (own_h hw 68 rfl)) (ty := (.object "com/example/invariant_ink/invariantink/lang/Position")) (by decide)
  have go76 : ∀ t, Steps p.tables e below (T70.setTop (mkF m 104 #[.val (.long q0), .second, .val (.long q1), .second, .val (.long q2), .second, .val (.long q3), .second, .val (.long q4), .second, .val (.long q5), .second, .val (.long mA), .second, .val (.long xA), .second, .val (.long mB), .second, .val (.long xB), .second, .val (.long vA), .second, .val (.long vB), .second, .val (.ref b18), .unset, .unset, .unset, .unset, .unset, .unset, .unset, .unset] [(.ref b70), (.ref b70), (.ref b18)])) t → Steps p.tables e below (s₁.setTop (entryFrame m #[(.long q0), (.long q1), (.long q2), (.long q3), (.long q4), (.long q5)] maxLocals)) t := fun t kt => go69 t (by
      refine st70 _ ?_
      show Steps p.tables e below (T70.setTop (mkF m 103 #[.val (.long q0), .second, .val (.long q1), .second, .val (.long q2), .second, .val (.long q3), .second, .val (.long q4), .second, .val (.long q5), .second, .val (.long mA), .second, .val (.long xA), .second, .val (.long mB), .second, .val (.long xB), .second, .val (.long vA), .second, .val (.long vB), .second, .val (.ref b18), .unset, .unset, .unset, .unset, .unset, .unset, .unset, .unset] [(.ref b70), (.ref b18)])) _
      refine XS.dup X70.here hx rfl (hb hby at_103) rfl rfl ?_
      show Steps p.tables e below (T70.setTop (mkF m 104 #[.val (.long q0), .second, .val (.long q1), .second, .val (.long q2), .second, .val (.long q3), .second, .val (.long q4), .second, .val (.long q5), .second, .val (.long mA), .second, .val (.long xA), .second, .val (.long mB), .second, .val (.long xB), .second, .val (.long vA), .second, .val (.long vB), .second, .val (.ref b18), .unset, .unset, .unset, .unset, .unset, .unset, .unset, .unset] [(.ref b70), (.ref b70), (.ref b18)])) _
      exact kt)
  have lc78 := (Nat.le_trans (Nat.le_trans HK27 E31.1) K37.1)
  have lc79 := (Nat.le_trans (Nat.le_trans lc78 K39.1) K52.1)
  have hk80 := (Nat.le_trans lc79 E70.1)
  obtain ⟨b77, T77, h77, k77, X77, e77, E77, HS77, HK77, hZ77, hown77, st77⟩ := ldcS X70 hx hZ27 hown27 (own_h hw 99 rfl) (own_wS a0 Z hw) e70 HS27 hk80 (g := (mkF m 104 #[.val (.long q0), .second, .val (.long q1), .second, .val (.long q2), .second, .val (.long q3), .second, .val (.long q4), .second, .val (.long q5), .second, .val (.long mA), .second, .val (.long xA), .second, .val (.long mB), .second, .val (.long xB), .second, .val (.long vA), .second, .val (.long vB), .second, .val (.ref b18), .unset, .unset, .unset, .unset, .unset, .unset, .unset, .unset] [(.ref b70), (.ref b70), (.ref b18)])) rfl (hb hby at_104) (n := 4) (by decide) (by decide) (by decide) (by decide)
  have go81 : ∀ t, Steps p.tables e below (T77.setTop (mkF m 108 #[.val (.long q0), .second, .val (.long q1), .second, .val (.long q2), .second, .val (.long q3), .second, .val (.long q4), .second, .val (.long q5), .second, .val (.long mA), .second, .val (.long xA), .second, .val (.long mB), .second, .val (.long xB), .second, .val (.long vA), .second, .val (.long vB), .second, .val (.ref b18), .unset, .unset, .unset, .unset, .unset, .unset, .unset, .unset] [(.int (0 : Int32)), .null, (.ref b77), (.ref b70), (.ref b70), (.ref b18)])) t → Steps p.tables e below (s₁.setTop (entryFrame m #[(.long q0), (.long q1), (.long q2), (.long q3), (.long q4), (.long q5)] maxLocals)) t := fun t kt => go76 t (by
      refine st77 _ ?_
      show Steps p.tables e below (T77.setTop (mkF m 106 #[.val (.long q0), .second, .val (.long q1), .second, .val (.long q2), .second, .val (.long q3), .second, .val (.long q4), .second, .val (.long q5), .second, .val (.long mA), .second, .val (.long xA), .second, .val (.long mB), .second, .val (.long xB), .second, .val (.long vA), .second, .val (.long vB), .second, .val (.ref b18), .unset, .unset, .unset, .unset, .unset, .unset, .unset, .unset] [(.ref b77), (.ref b70), (.ref b70), (.ref b18)])) _
      refine XS.aconstNull X77.here hx rfl (hb hby at_106) ?_
      show Steps p.tables e below (T77.setTop (mkF m 107 #[.val (.long q0), .second, .val (.long q1), .second, .val (.long q2), .second, .val (.long q3), .second, .val (.long q4), .second, .val (.long q5), .second, .val (.long mA), .second, .val (.long xA), .second, .val (.long mB), .second, .val (.long xB), .second, .val (.long vA), .second, .val (.long vB), .second, .val (.ref b18), .unset, .unset, .unset, .unset, .unset, .unset, .unset, .unset] [.null, (.ref b77), (.ref b70), (.ref b70), (.ref b18)])) _
      refine XS.iconst X77.here hx rfl (hb hby at_107) ?_
      show Steps p.tables e below (T77.setTop (mkF m 108 #[.val (.long q0), .second, .val (.long q1), .second, .val (.long q2), .second, .val (.long q3), .second, .val (.long q4), .second, .val (.long q5), .second, .val (.long mA), .second, .val (.long xA), .second, .val (.long mB), .second, .val (.long xB), .second, .val (.long vA), .second, .val (.long vB), .second, .val (.ref b18), .unset, .unset, .unset, .unset, .unset, .unset, .unset, .unset] [(.int (0 : Int32)), .null, (.ref b77), (.ref b70), (.ref b70), (.ref b18)])) _
      exact kt)
  have zs83 := (Nat.le_trans (Nat.le_trans zs71 E70.1) E77.1)
  obtain ⟨T82, h82, X82, e82, E82, A82, D82, -, st82⟩ := newO X77 hx hZ77 hown77 (own_h hw 44 rfl) (own_h hw 45 rfl) (own_h hw 46 rfl) e77 (g := (mkF m 108 #[.val (.long q0), .second, .val (.long q1), .second, .val (.long q2), .second, .val (.long q3), .second, .val (.long q4), .second, .val (.long q5), .second, .val (.long mA), .second, .val (.long xA), .second, .val (.long mB), .second, .val (.long xB), .second, .val (.long vA), .second, .val (.long vB), .second, .val (.ref b18), .unset, .unset, .unset, .unset, .unset, .unset, .unset, .unset] [(.int (0 : Int32)), .null, (.ref b77), (.ref b70), (.ref b70), (.ref b18)])) rfl (hb hby at_108) (by decide) (by decide)
  obtain ⟨b82, g82⟩ : ∃ z, z = h77.size := ⟨_, rfl⟩
  rw [← g82] at A82 D82 st82
  have ks82 : h0.size ≤ h77.size := (Nat.le_trans (Nat.le_trans (ks70) E70.1) E77.1)
  have sz82 : h0.size ≤ b82 := Nat.le_trans ks82 (Nat.le_of_eq g82.symm)
  have fq84 := ((jE.ext E70).ext E77)
  have ne_b18_b82 : b18 ≠ b82 := Nat.ne_of_lt (Nat.lt_of_lt_of_le fq84.lt (Nat.le_of_eq g82.symm))
  have fq85 := ((fq73.ext E70).ext E77)
  have ne_b23_b82 : b23 ≠ b82 := Nat.ne_of_lt (Nat.lt_of_lt_of_le fq85.lt (Nat.le_of_eq g82.symm))
  have fq86 := ((fq74.ext E70).ext E77)
  have ne_b31_b82 : b31 ≠ b82 := Nat.ne_of_lt (Nat.lt_of_lt_of_le fq86.lt (Nat.le_of_eq g82.symm))
  have fq87 := ((V52.ext E70).ext E77)
  have ne_b52_b82 : b52 ≠ b82 := Nat.ne_of_lt (Nat.lt_of_lt_of_le fq87.lt (Nat.le_of_eq g82.symm))
  have fq88 := (A70.ext E77)
  have ne_b70_b82 : b70 ≠ b82 := Nat.ne_of_lt (Nat.lt_of_lt_of_le fq88.lt (Nat.le_of_eq g82.symm))
  have fq89 := ((fq75.ext E70).ext E77)
  have ne_dd_b82 : dd ≠ b82 := Nat.ne_of_lt (Nat.lt_of_lt_of_le fq89.lt (Nat.le_of_eq g82.symm))
  have gb82 : n0 ≤ b82 := Nat.le_trans zs83 (Nat.le_of_eq g82.symm)
  have F82_low : Fld Z h82 b82 "com/example/invariant_ink/invariantink/lang/RangeType" "low" "J" (.long (0 : Int64)) := D82 (Or.inr (own_h hw 52 rfl)) (ty := .long) (by decide)
  have F82_high : Fld Z h82 b82 "com/example/invariant_ink/invariantink/lang/RangeType" "high" "J" (.long (0 : Int64)) := D82 (Or.inr (own_h hw 54 rfl)) (ty := .long) (by decide)
  have go90 : ∀ t, Steps p.tables e below (T82.setTop (mkF m 116 #[.val (.long q0), .second, .val (.long q1), .second, .val (.long q2), .second, .val (.long q3), .second, .val (.long q4), .second, .val (.long q5), .second, .val (.long mA), .second, .val (.long xA), .second, .val (.long mB), .second, .val (.long xB), .second, .val (.long vA), .second, .val (.long vB), .second, .val (.ref b18), .unset, .unset, .unset, .unset, .unset, .unset, .unset, .unset] [(.long xB), (.long mB), (.ref b82), (.ref b82), (.int (0 : Int32)), .null, (.ref b77), (.ref b70), (.ref b70), (.ref b18)])) t → Steps p.tables e below (s₁.setTop (entryFrame m #[(.long q0), (.long q1), (.long q2), (.long q3), (.long q4), (.long q5)] maxLocals)) t := fun t kt => go81 t (by
      refine st82 _ ?_
      show Steps p.tables e below (T82.setTop (mkF m 111 #[.val (.long q0), .second, .val (.long q1), .second, .val (.long q2), .second, .val (.long q3), .second, .val (.long q4), .second, .val (.long q5), .second, .val (.long mA), .second, .val (.long xA), .second, .val (.long mB), .second, .val (.long xB), .second, .val (.long vA), .second, .val (.long vB), .second, .val (.ref b18), .unset, .unset, .unset, .unset, .unset, .unset, .unset, .unset] [(.ref b82), (.int (0 : Int32)), .null, (.ref b77), (.ref b70), (.ref b70), (.ref b18)])) _
      refine XS.dup X82.here hx rfl (hb hby at_111) rfl rfl ?_
      show Steps p.tables e below (T82.setTop (mkF m 112 #[.val (.long q0), .second, .val (.long q1), .second, .val (.long q2), .second, .val (.long q3), .second, .val (.long q4), .second, .val (.long q5), .second, .val (.long mA), .second, .val (.long xA), .second, .val (.long mB), .second, .val (.long xB), .second, .val (.long vA), .second, .val (.long vB), .second, .val (.ref b18), .unset, .unset, .unset, .unset, .unset, .unset, .unset, .unset] [(.ref b82), (.ref b82), (.int (0 : Int32)), .null, (.ref b77), (.ref b70), (.ref b70), (.ref b18)])) _
      refine XS.lload X82.here hx rfl (hb hby at_112) rfl ?_
      show Steps p.tables e below (T82.setTop (mkF m 114 #[.val (.long q0), .second, .val (.long q1), .second, .val (.long q2), .second, .val (.long q3), .second, .val (.long q4), .second, .val (.long q5), .second, .val (.long mA), .second, .val (.long xA), .second, .val (.long mB), .second, .val (.long xB), .second, .val (.long vA), .second, .val (.long vB), .second, .val (.ref b18), .unset, .unset, .unset, .unset, .unset, .unset, .unset, .unset] [(.long mB), (.ref b82), (.ref b82), (.int (0 : Int32)), .null, (.ref b77), (.ref b70), (.ref b70), (.ref b18)])) _
      refine XS.lload X82.here hx rfl (hb hby at_114) rfl ?_
      show Steps p.tables e below (T82.setTop (mkF m 116 #[.val (.long q0), .second, .val (.long q1), .second, .val (.long q2), .second, .val (.long q3), .second, .val (.long q4), .second, .val (.long q5), .second, .val (.long mA), .second, .val (.long xA), .second, .val (.long mB), .second, .val (.long xB), .second, .val (.long vA), .second, .val (.long vB), .second, .val (.ref b18), .unset, .unset, .unset, .unset, .unset, .unset, .unset, .unset] [(.long xB), (.long mB), (.ref b82), (.ref b82), (.int (0 : Int32)), .null, (.ref b77), (.ref b70), (.ref b70), (.ref b18)])) _
      exact kt)
  obtain ⟨_, _, ⟨T91, L91, k91, n91⟩, -, X91, ⟨Lc91, hQ91, l91, y91, z91⟩, st91⟩ := X82.specialBack hx (y := own_m23) rfl hown77 (mvT hZ77 (own_h hw 47 rfl)) (mvT hZ77 (own_h hw 48 rfl)) (mvT hZ77 (own_h hw 49 rfl)) (by decide) (backOf (W := 7) (rm7 l Z a0 hw [] b82 mB xB h82 n0 A82 F82_low F82_high gb82 (own_le hz_xB hz_mB)) hZ77 (own_h hw 49 rfl) (own_h hw 46 rfl) (by decide) (by decide)) (g := (mkF m 116 #[.val (.long q0), .second, .val (.long q1), .second, .val (.long q2), .second, .val (.long q3), .second, .val (.long q4), .second, .val (.long q5), .second, .val (.long mA), .second, .val (.long xA), .second, .val (.long mB), .second, .val (.long xB), .second, .val (.long vA), .second, .val (.long vB), .second, .val (.ref b18), .unset, .unset, .unset, .unset, .unset, .unset, .unset, .unset] [(.long xB), (.long mB), (.ref b82), (.ref b82), (.int (0 : Int32)), .null, (.ref b77), (.ref b70), (.ref b70), (.ref b18)])) rfl (by rw [hml]; rfl) (Steps.refl _) (a := b82) (argsL := [(.long mB), (.long xB)]) (rest := [(.ref b82), (.int (0 : Int32)), .null, (.ref b77), (.ref b70), (.ref b70), (.ref b18)]) (lenOf pd_2 rfl) rfl (by show 2 * 0 + _ ≤ _; exact Nat.le_of_eq rfl) (hb hby at_116) (fun _ _ => ⟨rfl, e82, (by decide : 10 + 0 ≤ _), (by decide : 43 + 0 ≤ _)⟩)
  dsimp only [Pt.U, Pt.locs, Pt.cells, Pt.slots] at X91 l91 y91 z91 st91 hQ91
  subst y91 z91
  obtain ⟨rfl, N91q, K91, E91x, F91l, F91h⟩ := hQ91
  have N91 := Fr.app N52 N91q
  rw [← l91] at N91
  have go92 : ∀ t, Steps p.tables e below (T91.setTop (mkF m 120 #[.val (.long q0), .second, .val (.long q1), .second, .val (.long q2), .second, .val (.long q3), .second, .val (.long q4), .second, .val (.long q5), .second, .val (.long mA), .second, .val (.long xA), .second, .val (.long mB), .second, .val (.long xB), .second, .val (.long vA), .second, .val (.long vB), .second, .val (.ref b18), .unset, .unset, .unset, .unset, .unset, .unset, .unset, .unset] [.null, (.ref b82), (.int (0 : Int32)), .null, (.ref b77), (.ref b70), (.ref b70), (.ref b18)])) t → Steps p.tables e below (s₁.setTop (entryFrame m #[(.long q0), (.long q1), (.long q2), (.long q3), (.long q4), (.long q5)] maxLocals)) t := fun t kt => go90 t (by
      refine st91.trans ?_
      show Steps p.tables e below (T91.setTop (mkF m 119 #[.val (.long q0), .second, .val (.long q1), .second, .val (.long q2), .second, .val (.long q3), .second, .val (.long q4), .second, .val (.long q5), .second, .val (.long mA), .second, .val (.long xA), .second, .val (.long mB), .second, .val (.long xB), .second, .val (.long vA), .second, .val (.long vB), .second, .val (.ref b18), .unset, .unset, .unset, .unset, .unset, .unset, .unset, .unset] [(.ref b82), (.int (0 : Int32)), .null, (.ref b77), (.ref b70), (.ref b70), (.ref b18)])) _
      refine XS.aconstNull X91.here hx rfl (hb hby at_119) ?_
      show Steps p.tables e below (T91.setTop (mkF m 120 #[.val (.long q0), .second, .val (.long q1), .second, .val (.long q2), .second, .val (.long q3), .second, .val (.long q4), .second, .val (.long q5), .second, .val (.long mA), .second, .val (.long xA), .second, .val (.long mB), .second, .val (.long xB), .second, .val (.long vA), .second, .val (.long vB), .second, .val (.ref b18), .unset, .unset, .unset, .unset, .unset, .unset, .unset, .unset] [.null, (.ref b82), (.int (0 : Int32)), .null, (.ref b77), (.ref b70), (.ref b70), (.ref b18)])) _
      exact kt)
  have fq94 := ((fq88.ext E82).keep K91)
  have fr95 := ((F70_name.ext E77).ext E82)
  have fq96 := (fr95.keep K91 (ninS ne_b70_b82 nin0))
  have fr97 := ((F70_kind.ext E77).ext E82)
  have fq98 := (fr97.keep K91 (ninS ne_b70_b82 nin0))
  have fr99 := ((F70_slot.ext E77).ext E82)
  have fq100 := (fr99.keep K91 (ninS ne_b70_b82 nin0))
  have fr101 := ((F70_type.ext E77).ext E82)
  have fq102 := (fr101.keep K91 (ninS ne_b70_b82 nin0))
  have fr103 := ((F70_position.ext E77).ext E82)
  have fq104 := (fr103.keep K91 (ninS ne_b70_b82 nin0))
  obtain ⟨_, _, ⟨T93, L93, k93, n93⟩, -, X93, ⟨Lc93, hQ93, l93, y93, z93⟩, st93⟩ := X91.specialBack hx (y := own_m24) rfl hown77 (mvT hZ77 (own_h hw 55 rfl)) (mvT hZ77 (own_h hw 56 rfl)) (mvT hZ77 (own_h hw 57 rfl)) (by decide) (backOf (W := 2) (rm8 l Z a0 hw [] b70 b77 (0 : Int32) b82 T91.heap n0 fq94 fq96 fq98 fq100 fq102 fq104 gb70) hZ77 (own_h hw 57 rfl) (own_h hw 35 rfl) (by decide) (by decide)) (g := (mkF m 120 #[.val (.long q0), .second, .val (.long q1), .second, .val (.long q2), .second, .val (.long q3), .second, .val (.long q4), .second, .val (.long q5), .second, .val (.long mA), .second, .val (.long xA), .second, .val (.long mB), .second, .val (.long xB), .second, .val (.long vA), .second, .val (.long vB), .second, .val (.ref b18), .unset, .unset, .unset, .unset, .unset, .unset, .unset, .unset] [.null, (.ref b82), (.int (0 : Int32)), .null, (.ref b77), (.ref b70), (.ref b70), (.ref b18)])) rfl (by rw [hml]; rfl) (Steps.refl _) (a := b70) (argsL := [(.ref b77), .null, (.int (0 : Int32)), (.ref b82), .null]) (rest := [(.ref b70), (.ref b18)]) (lenOf pd_3 rfl) rfl (by show 2 * 0 + _ ≤ _; exact Nat.le_of_eq rfl) (hb hby at_120) (fun _ _ => ⟨rfl, rfl, (by decide : 10 + 0 ≤ _), (by decide : 43 + 0 ≤ _)⟩)
  dsimp only [Pt.U, Pt.locs, Pt.cells, Pt.slots] at X93 l93 y93 z93 st93 hQ93
  subst y93 z93
  obtain ⟨rfl, N93q, K93, E93x, F93l, F93h⟩ := hQ93
  have N93 := Fr.app N91 N93q
  rw [← l93] at N93
  have go105 : ∀ t, Steps p.tables e below (T93.setTop (mkF m 123 #[.val (.long q0), .second, .val (.long q1), .second, .val (.long q2), .second, .val (.long q3), .second, .val (.long q4), .second, .val (.long q5), .second, .val (.long mA), .second, .val (.long xA), .second, .val (.long mB), .second, .val (.long xB), .second, .val (.long vA), .second, .val (.long vB), .second, .val (.ref b18), .unset, .unset, .unset, .unset, .unset, .unset, .unset, .unset] [(.ref b70), (.ref b18)])) t → Steps p.tables e below (s₁.setTop (entryFrame m #[(.long q0), (.long q1), (.long q2), (.long q3), (.long q4), (.long q5)] maxLocals)) t := fun t kt => go92 t (by
      refine st93.trans ?_
      show Steps p.tables e below (T93.setTop (mkF m 123 #[.val (.long q0), .second, .val (.long q1), .second, .val (.long q2), .second, .val (.long q3), .second, .val (.long q4), .second, .val (.long q5), .second, .val (.long mA), .second, .val (.long xA), .second, .val (.long mB), .second, .val (.long xB), .second, .val (.long vA), .second, .val (.long vB), .second, .val (.ref b18), .unset, .unset, .unset, .unset, .unset, .unset, .unset, .unset] [(.ref b70), (.ref b18)])) _
      exact kt)
  have lc107 := (Nat.le_trans (Nat.le_trans zs83 E82.1) K91.1)
  have zs108 := (Nat.le_trans lc107 K93.1)
  have fr109 := ((fq84.ext E82).keep K91)
  have fq110 := (fr109.keep K93)
  have fr111 := ((jF1.ext E70).ext E77)
  have fq112 := (((fr111.ext E82).keep K91 (ninS ne_b18_b82 nin0)).keep K93 (ninS ne_b18_b70 nin0))
  have fr113 := ((jF2.ext E70).ext E77)
  have fq114 := (((fr113.ext E82).keep K91 (ninS ne_b18_b82 nin0)).keep K93 (ninS ne_b18_b70 nin0))
  have fr115 := ((jF3.ext E70).ext E77)
  have fq116 := (((fr115.ext E82).keep K91 (ninS ne_b18_b82 nin0)).keep K93 (ninS ne_b18_b70 nin0))
  have fr117 := ((fq87.ext E82).keep K91 (ninS ne_b52_b82 nin0))
  have fq118 := (fr117.keep K93 (ninS ne_b52_b70 nin0))
  obtain ⟨cq106, kq106, q106a, q106b, q106c⟩ := isOf hZ77 rfl fq110
  obtain ⟨_, _, ⟨T106, L106, k106, n106⟩, -, X106, ⟨Lc106, hQ106, l106, y106, z106⟩, st106⟩ := X93.virtualBack hx (y := own_m25) (z := own_m25) hown77 (mvT hZ77 (own_h hw 69 rfl)) (mvT hZ77 (own_h hw 70 rfl)) (notFace_of_selects (args := #[]) (mvT hZ77 (own_h hw 72 rfl))) (mvT hZ77 (own_h hw 72 rfl)) (mvT hZ77 (own_h hw 71 rfl)) (by decide) (backOf (W := 0) (rmA1 l Z a0 hw [] b18 b70 b52 ((0 : Int32) + 1) b23 T93.heap n0 zs108 ⟨fq110, fq112, fq114, fq116⟩ fq118 gb18 gb52 E93x) hZ77 (own_h hw 73 rfl) (own_h hw 9 rfl) (by decide) (by decide)) q106a q106c (g := (mkF m 123 #[.val (.long q0), .second, .val (.long q1), .second, .val (.long q2), .second, .val (.long q3), .second, .val (.long q4), .second, .val (.long q5), .second, .val (.long mA), .second, .val (.long xA), .second, .val (.long mB), .second, .val (.long xB), .second, .val (.long vA), .second, .val (.long vB), .second, .val (.ref b18), .unset, .unset, .unset, .unset, .unset, .unset, .unset, .unset] [(.ref b70), (.ref b18)])) rfl (by rw [hml]; rfl) (Steps.refl _) (argsL := [(.ref b70)]) (rest := []) (lenOf pd_4 rfl) rfl (by show 2 * 0 + _ ≤ _; exact Nat.le_of_eq rfl) (hb hby at_123) (fun _ _ => ⟨rfl, rfl, (by decide : 10 + 0 ≤ _), (by decide : 43 + 0 ≤ _)⟩)
  dsimp only [Pt.U, Pt.locs, Pt.cells, Pt.slots] at X106 l106 y106 z106 st106 hQ106
  subst y106 z106
  obtain ⟨rfl, N106q, K106, LO106, V106⟩ := hQ106
  obtain ⟨jjE, jjF1, jjF2, jjF3⟩ := id LO106
  have N106 := Fr.app N93 N106q
  rw [← l106] at N106
  have go119 : ∀ t, Steps p.tables e below (T106.setTop (mkF m 127 #[.val (.long q0), .second, .val (.long q1), .second, .val (.long q2), .second, .val (.long q3), .second, .val (.long q4), .second, .val (.long q5), .second, .val (.long mA), .second, .val (.long xA), .second, .val (.long mB), .second, .val (.long xB), .second, .val (.long vA), .second, .val (.long vB), .second, .val (.ref b18), .unset, .unset, .unset, .unset, .unset, .unset, .unset, .unset] [])) t → Steps p.tables e below (s₁.setTop (entryFrame m #[(.long q0), (.long q1), (.long q2), (.long q3), (.long q4), (.long q5)] maxLocals)) t := fun t kt => go105 t (by
      refine st106.trans ?_
      show Steps p.tables e below (T106.setTop (mkF m 126 #[.val (.long q0), .second, .val (.long q1), .second, .val (.long q2), .second, .val (.long q3), .second, .val (.long q4), .second, .val (.long q5), .second, .val (.long mA), .second, .val (.long xA), .second, .val (.long mB), .second, .val (.long xB), .second, .val (.long vA), .second, .val (.long vB), .second, .val (.ref b18), .unset, .unset, .unset, .unset, .unset, .unset, .unset, .unset] [(.int (1 : Int32))])) _
      refine XS.pop X106.here hx rfl (hb hby at_126) rfl rfl ?_
      show Steps p.tables e below (T106.setTop (mkF m 127 #[.val (.long q0), .second, .val (.long q1), .second, .val (.long q2), .second, .val (.long q3), .second, .val (.long q4), .second, .val (.long q5), .second, .val (.long mA), .second, .val (.long xA), .second, .val (.long mB), .second, .val (.long xB), .second, .val (.long vA), .second, .val (.long vB), .second, .val (.ref b18), .unset, .unset, .unset, .unset, .unset, .unset, .unset, .unset] [])) _
      exact kt)
  have zs121 := (Nat.le_trans zs108 K106.1)
  obtain ⟨T120, h120, X120, e120, E120, A120, D120, -, st120⟩ := newO X106 hx hZ77 hown77 (own_h hw 100 rfl) (own_h hw 101 rfl) (own_h hw 102 rfl) rfl (g := (mkF m 127 #[.val (.long q0), .second, .val (.long q1), .second, .val (.long q2), .second, .val (.long q3), .second, .val (.long q4), .second, .val (.long q5), .second, .val (.long mA), .second, .val (.long xA), .second, .val (.long mB), .second, .val (.long xB), .second, .val (.long vA), .second, .val (.long vB), .second, .val (.ref b18), .unset, .unset, .unset, .unset, .unset, .unset, .unset, .unset] [])) rfl (hb hby at_127) (by decide) (by decide)
  obtain ⟨b120, g120⟩ : ∃ z, z = T106.heap.size := ⟨_, rfl⟩
  rw [← g120] at A120 D120 st120
  have lc122 := (Nat.le_trans (Nat.le_trans (ks82) E82.1) K91.1)
  have ks120 : h0.size ≤ T106.heap.size := (Nat.le_trans (Nat.le_trans lc122 K93.1) K106.1)
  have sz120 : h0.size ≤ b120 := Nat.le_trans ks120 (Nat.le_of_eq g120.symm)
  have ne_b18_b120 : b18 ≠ b120 := Nat.ne_of_lt (Nat.lt_of_lt_of_le jjE.lt (Nat.le_of_eq g120.symm))
  have fr123 := ((fq85.ext E82).keep K91)
  have fq124 := ((fr123.keep K93).keep K106)
  have ne_b23_b120 : b23 ≠ b120 := Nat.ne_of_lt (Nat.lt_of_lt_of_le fq124.lt (Nat.le_of_eq g120.symm))
  have fr125 := ((fq86.ext E82).keep K91)
  have fq126 := ((fr125.keep K93).keep K106)
  have ne_b31_b120 : b31 ≠ b120 := Nat.ne_of_lt (Nat.lt_of_lt_of_le fq126.lt (Nat.le_of_eq g120.symm))
  have ne_b52_b120 : b52 ≠ b120 := Nat.ne_of_lt (Nat.lt_of_lt_of_le V106.lt (Nat.le_of_eq g120.symm))
  have fq127 := (E93x.keep K106)
  have ne_b70_b120 : b70 ≠ b120 := Nat.ne_of_lt (Nat.lt_of_lt_of_le fq127.lt (Nat.le_of_eq g120.symm))
  have fq128 := ((E91x.keep K93).keep K106)
  have ne_b82_b120 : b82 ≠ b120 := Nat.ne_of_lt (Nat.lt_of_lt_of_le fq128.lt (Nat.le_of_eq g120.symm))
  have fr129 := ((fq89.ext E82).keep K91 (ninS ne_dd_b82 nin0))
  have fq130 := ((fr129.keep K93 (ninS ne_dd_b70 nin0)).keep K106 (ninS ne_dd_b18 (ninS ne_dd_b52 nin0)))
  have ne_dd_b120 : dd ≠ b120 := Nat.ne_of_lt (Nat.lt_of_lt_of_le fq130.lt (Nat.le_of_eq g120.symm))
  have gb120 : n0 ≤ b120 := Nat.le_trans zs121 (Nat.le_of_eq g120.symm)
  have F120_slots : Fld Z h120 b120 "com/example/invariant_ink/invariantink/engine/Combinations" "slots" "[I" .null := D120 (Or.inr (own_h hw 121 rfl)) (ty := (.array .int)) (by decide)
  have F120_firsts : Fld Z h120 b120 "com/example/invariant_ink/invariantink/engine/Combinations" "firsts" "[J" .null := D120 (Or.inr (own_h hw 124 rfl)) (ty := (.array .long)) (by decide)
  have F120_lasts : Fld Z h120 b120 "com/example/invariant_ink/invariantink/engine/Combinations" "lasts" "[J" .null := D120 (Or.inr (own_h hw 126 rfl)) (ty := (.array .long)) (by decide)
  have go131 : ∀ t, Steps p.tables e below (T120.setTop (mkF m 133 #[.val (.long q0), .second, .val (.long q1), .second, .val (.long q2), .second, .val (.long q3), .second, .val (.long q4), .second, .val (.long q5), .second, .val (.long mA), .second, .val (.long xA), .second, .val (.long mB), .second, .val (.long xB), .second, .val (.long vA), .second, .val (.long vB), .second, .val (.ref b18), .unset, .unset, .unset, .unset, .unset, .unset, .unset, .unset] [(.ref b18), (.ref b120), (.ref b120)])) t → Steps p.tables e below (s₁.setTop (entryFrame m #[(.long q0), (.long q1), (.long q2), (.long q3), (.long q4), (.long q5)] maxLocals)) t := fun t kt => go119 t (by
      refine st120 _ ?_
      show Steps p.tables e below (T120.setTop (mkF m 130 #[.val (.long q0), .second, .val (.long q1), .second, .val (.long q2), .second, .val (.long q3), .second, .val (.long q4), .second, .val (.long q5), .second, .val (.long mA), .second, .val (.long xA), .second, .val (.long mB), .second, .val (.long xB), .second, .val (.long vA), .second, .val (.long vB), .second, .val (.ref b18), .unset, .unset, .unset, .unset, .unset, .unset, .unset, .unset] [(.ref b120)])) _
      refine XS.dup X120.here hx rfl (hb hby at_130) rfl rfl ?_
      show Steps p.tables e below (T120.setTop (mkF m 131 #[.val (.long q0), .second, .val (.long q1), .second, .val (.long q2), .second, .val (.long q3), .second, .val (.long q4), .second, .val (.long q5), .second, .val (.long mA), .second, .val (.long xA), .second, .val (.long mB), .second, .val (.long xB), .second, .val (.long vA), .second, .val (.long vB), .second, .val (.ref b18), .unset, .unset, .unset, .unset, .unset, .unset, .unset, .unset] [(.ref b120), (.ref b120)])) _
      refine XS.aload X120.here hx rfl (hb hby at_131) rfl rfl ?_
      show Steps p.tables e below (T120.setTop (mkF m 133 #[.val (.long q0), .second, .val (.long q1), .second, .val (.long q2), .second, .val (.long q3), .second, .val (.long q4), .second, .val (.long q5), .second, .val (.long mA), .second, .val (.long xA), .second, .val (.long mB), .second, .val (.long xB), .second, .val (.long vA), .second, .val (.long vB), .second, .val (.ref b18), .unset, .unset, .unset, .unset, .unset, .unset, .unset, .unset] [(.ref b18), (.ref b120), (.ref b120)])) _
      exact kt)
  have zs133 := (Nat.le_trans zs121 E120.1)
  have fq134 := (jjE.ext E120)
  have fq135 := (jjF1.ext E120)
  have fq136 := (jjF2.ext E120)
  have fq137 := (jjF3.ext E120)
  have fq138 := (V106.ext E120)
  have fq139 := (fq124.ext E120)
  have fr140 := ((F39l.keep K52 (ninS (Ne.symm ne_b18_b23) nin0)).ext E70)
  have fr141 := (((fr140.ext E77).ext E82).keep K91 (ninS ne_b23_b82 nin0))
  have fq142 := (((fr141.keep K93 (ninS ne_b23_b70 nin0)).keep K106 (ninS (Ne.symm ne_b18_b23) (ninS ne_b23_b52 nin0))).ext E120)
  have fr143 := ((F39h.keep K52 (ninS (Ne.symm ne_b18_b23) nin0)).ext E70)
  have fr144 := (((fr143.ext E77).ext E82).keep K91 (ninS ne_b23_b82 nin0))
  have fq145 := (((fr144.keep K93 (ninS ne_b23_b70 nin0)).keep K106 (ninS (Ne.symm ne_b18_b23) (ninS ne_b23_b52 nin0))).ext E120)
  have fq146 := (fq126.ext E120)
  have fr147 := ((F37l.keep K39 (ninS (Ne.symm ne_b23_b31) nin0)).keep K52 (ninS (Ne.symm ne_b18_b31) nin0))
  have fr148 := (((fr147.ext E70).ext E77).ext E82)
  have fr149 := (((fr148.keep K91 (ninS ne_b31_b82 nin0)).keep K93 (ninS ne_b31_b70 nin0)).keep K106 (ninS (Ne.symm ne_b18_b31) (ninS ne_b31_b52 nin0)))
  have fq150 := (fr149.ext E120)
  have fr151 := ((F37h.keep K39 (ninS (Ne.symm ne_b23_b31) nin0)).keep K52 (ninS (Ne.symm ne_b18_b31) nin0))
  have fr152 := (((fr151.ext E70).ext E77).ext E82)
  have fr153 := (((fr152.keep K91 (ninS ne_b31_b82 nin0)).keep K93 (ninS ne_b31_b70 nin0)).keep K106 (ninS (Ne.symm ne_b18_b31) (ninS ne_b31_b52 nin0)))
  have fq154 := (fr153.ext E120)
  have fq155 := (fq127.ext E120)
  have fq156 := ((F93l.keep K106 (ninS (Ne.symm ne_b18_b70) (ninS (Ne.symm ne_b52_b70) nin0))).ext E120)
  have fq157 := ((F93h.keep K106 (ninS (Ne.symm ne_b18_b70) (ninS (Ne.symm ne_b52_b70) nin0))).ext E120)
  have fq158 := (fq128.ext E120)
  have fr159 := ((F91l.keep K93 (ninS (Ne.symm ne_b70_b82) nin0)).keep K106 (ninS (Ne.symm ne_b18_b82) (ninS (Ne.symm ne_b52_b82) nin0)))
  have fq160 := (fr159.ext E120)
  have fr161 := ((F91h.keep K93 (ninS (Ne.symm ne_b70_b82) nin0)).keep K106 (ninS (Ne.symm ne_b18_b82) (ninS (Ne.symm ne_b52_b82) nin0)))
  have fq162 := (fr161.ext E120)
  obtain ⟨_, _, ⟨T132, L132, k132, n132⟩, -, X132, ⟨Lc132, hQ132, l132, y132, z132⟩, st132⟩ := X120.specialBack hx (y := own_m26) rfl hown77 (mvT hZ77 (own_h hw 103 rfl)) (mvT hZ77 (own_h hw 104 rfl)) (mvT hZ77 (own_h hw 105 rfl)) (by decide) (backOf (W := 1) (rmC1_2 l Z a0 hw [] b120 b18 b52 (((0 : Int32) + 1) + 1) b23 b70 b31 b82 (2 : Int32) (0 : Int32) mA mB xA xB h120 n0 zs133 A120 F120_slots F120_firsts F120_lasts gb120 ⟨fq134, fq135, fq136, fq137⟩ fq138 fq139 fq142 fq145 fq146 fq150 fq154 fq155 fq156 fq157 fq158 fq160 fq162) hZ77 (own_h hw 105 rfl) (own_h hw 102 rfl) (by decide) (by decide)) (g := (mkF m 133 #[.val (.long q0), .second, .val (.long q1), .second, .val (.long q2), .second, .val (.long q3), .second, .val (.long q4), .second, .val (.long q5), .second, .val (.long mA), .second, .val (.long xA), .second, .val (.long mB), .second, .val (.long xB), .second, .val (.long vA), .second, .val (.long vB), .second, .val (.ref b18), .unset, .unset, .unset, .unset, .unset, .unset, .unset, .unset] [(.ref b18), (.ref b120), (.ref b120)])) rfl (by rw [hml]; rfl) (Steps.refl _) (a := b120) (argsL := [(.ref b18)]) (rest := [(.ref b120)]) (lenOf pd_9 rfl) rfl (by show 2 * 0 + _ ≤ _; exact Nat.le_of_eq rfl) (hb hby at_133) (fun _ _ => ⟨rfl, e120, (by decide : 11 + 3 ≤ _), (by decide : 46 + 6 ≤ _)⟩)
  dsimp only [Pt.U, Pt.locs, Pt.cells, Pt.slots] at X132 l132 y132 z132 st132 hQ132
  subst y132 z132
  obtain ⟨x132, y132, z132, rfl, N132q, K132, E132x, F132a, F132b, F132c, V132a, V132b, V132c, z132a, z132b, z132c⟩ := hQ132
  have ne_b120_x132 : b120 ≠ x132 := Nat.ne_of_lt (Nat.lt_of_lt_of_le A120.lt z132a)
  have ne_b18_x132 : b18 ≠ x132 := Nat.ne_of_lt (Nat.lt_of_lt_of_le fq134.lt z132a)
  have ne_b23_x132 : b23 ≠ x132 := Nat.ne_of_lt (Nat.lt_of_lt_of_le fq139.lt z132a)
  have ne_b31_x132 : b31 ≠ x132 := Nat.ne_of_lt (Nat.lt_of_lt_of_le fq146.lt z132a)
  have ne_b52_x132 : b52 ≠ x132 := Nat.ne_of_lt (Nat.lt_of_lt_of_le fq138.lt z132a)
  have ne_b70_x132 : b70 ≠ x132 := Nat.ne_of_lt (Nat.lt_of_lt_of_le fq155.lt z132a)
  have ne_b82_x132 : b82 ≠ x132 := Nat.ne_of_lt (Nat.lt_of_lt_of_le fq158.lt z132a)
  have fq163 := (fq130.ext E120)
  have ne_dd_x132 : dd ≠ x132 := Nat.ne_of_lt (Nat.lt_of_lt_of_le fq163.lt z132a)
  have ne_b120_y132 : b120 ≠ y132 := Nat.ne_of_lt (Nat.lt_of_lt_of_le A120.lt z132b)
  have ne_b18_y132 : b18 ≠ y132 := Nat.ne_of_lt (Nat.lt_of_lt_of_le fq134.lt z132b)
  have ne_b23_y132 : b23 ≠ y132 := Nat.ne_of_lt (Nat.lt_of_lt_of_le fq139.lt z132b)
  have ne_b31_y132 : b31 ≠ y132 := Nat.ne_of_lt (Nat.lt_of_lt_of_le fq146.lt z132b)
  have ne_b52_y132 : b52 ≠ y132 := Nat.ne_of_lt (Nat.lt_of_lt_of_le fq138.lt z132b)
  have ne_b70_y132 : b70 ≠ y132 := Nat.ne_of_lt (Nat.lt_of_lt_of_le fq155.lt z132b)
  have ne_b82_y132 : b82 ≠ y132 := Nat.ne_of_lt (Nat.lt_of_lt_of_le fq158.lt z132b)
  have ne_dd_y132 : dd ≠ y132 := Nat.ne_of_lt (Nat.lt_of_lt_of_le fq163.lt z132b)
  have ne_b120_z132 : b120 ≠ z132 := Nat.ne_of_lt (Nat.lt_of_lt_of_le A120.lt z132c)
  have ne_b18_z132 : b18 ≠ z132 := Nat.ne_of_lt (Nat.lt_of_lt_of_le fq134.lt z132c)
  have ne_b23_z132 : b23 ≠ z132 := Nat.ne_of_lt (Nat.lt_of_lt_of_le fq139.lt z132c)
  have ne_b31_z132 : b31 ≠ z132 := Nat.ne_of_lt (Nat.lt_of_lt_of_le fq146.lt z132c)
  have ne_b52_z132 : b52 ≠ z132 := Nat.ne_of_lt (Nat.lt_of_lt_of_le fq138.lt z132c)
  have ne_b70_z132 : b70 ≠ z132 := Nat.ne_of_lt (Nat.lt_of_lt_of_le fq155.lt z132c)
  have ne_b82_z132 : b82 ≠ z132 := Nat.ne_of_lt (Nat.lt_of_lt_of_le fq158.lt z132c)
  have ne_dd_z132 : dd ≠ z132 := Nat.ne_of_lt (Nat.lt_of_lt_of_le fq163.lt z132c)
  have N132 := Fr.app N106 N132q
  rw [← l132] at N132
  have go164 : ∀ t, Steps p.tables e below (T132.setTop (mkF m 139 #[.val (.long q0), .second, .val (.long q1), .second, .val (.long q2), .second, .val (.long q3), .second, .val (.long q4), .second, .val (.long q5), .second, .val (.long mA), .second, .val (.long xA), .second, .val (.long mB), .second, .val (.long xB), .second, .val (.long vA), .second, .val (.long vB), .second, .val (.ref b18), .val (.ref b120), .unset, .unset, .unset, .unset, .unset, .unset, .unset] [(.int (3 : Int32))])) t → Steps p.tables e below (s₁.setTop (entryFrame m #[(.long q0), (.long q1), (.long q2), (.long q3), (.long q4), (.long q5)] maxLocals)) t := fun t kt => go131 t (by
      refine st132.trans ?_
      show Steps p.tables e below (T132.setTop (mkF m 136 #[.val (.long q0), .second, .val (.long q1), .second, .val (.long q2), .second, .val (.long q3), .second, .val (.long q4), .second, .val (.long q5), .second, .val (.long mA), .second, .val (.long xA), .second, .val (.long mB), .second, .val (.long xB), .second, .val (.long vA), .second, .val (.long vB), .second, .val (.ref b18), .unset, .unset, .unset, .unset, .unset, .unset, .unset, .unset] [(.ref b120)])) _
      refine XS.astore X132.here hx rfl (hb hby at_136) rfl rfl (l' := #[.val (.long q0), .second, .val (.long q1), .second, .val (.long q2), .second, .val (.long q3), .second, .val (.long q4), .second, .val (.long q5), .second, .val (.long mA), .second, .val (.long xA), .second, .val (.long mB), .second, .val (.long xB), .second, .val (.long vA), .second, .val (.long vB), .second, .val (.ref b18), .val (.ref b120), .unset, .unset, .unset, .unset, .unset, .unset, .unset]) rfl ?_
      show Steps p.tables e below (T132.setTop (mkF m 138 #[.val (.long q0), .second, .val (.long q1), .second, .val (.long q2), .second, .val (.long q3), .second, .val (.long q4), .second, .val (.long q5), .second, .val (.long mA), .second, .val (.long xA), .second, .val (.long mB), .second, .val (.long xB), .second, .val (.long vA), .second, .val (.long vB), .second, .val (.ref b18), .val (.ref b120), .unset, .unset, .unset, .unset, .unset, .unset, .unset] [])) _
      refine XS.iconst X132.here hx rfl (hb hby at_138) ?_
      show Steps p.tables e below (T132.setTop (mkF m 139 #[.val (.long q0), .second, .val (.long q1), .second, .val (.long q2), .second, .val (.long q3), .second, .val (.long q4), .second, .val (.long q5), .second, .val (.long mA), .second, .val (.long xA), .second, .val (.long mB), .second, .val (.long xB), .second, .val (.long vA), .second, .val (.long vB), .second, .val (.ref b18), .val (.ref b120), .unset, .unset, .unset, .unset, .unset, .unset, .unset] [(.int (3 : Int32))])) _
      exact kt)
  have zs166 := (Nat.le_trans zs133 K132.1)
  obtain ⟨T165, h165, k165, X165, e165, E165, A165, st165⟩ := newP X132 hx hZ77 (own_h hw 122 rfl) rfl (g := (mkF m 139 #[.val (.long q0), .second, .val (.long q1), .second, .val (.long q2), .second, .val (.long q3), .second, .val (.long q4), .second, .val (.long q5), .second, .val (.long mA), .second, .val (.long xA), .second, .val (.long mB), .second, .val (.long xB), .second, .val (.long vA), .second, .val (.long vB), .second, .val (.ref b18), .val (.ref b120), .unset, .unset, .unset, .unset, .unset, .unset, .unset] [(.int (3 : Int32))])) rfl (hb hby at_139) rfl (by decide) (cap := 3) (by decide) (by decide) (by decide) (by decide)
  obtain ⟨b165, g165⟩ : ∃ z, z = T132.heap.size := ⟨_, rfl⟩
  rw [← g165] at A165 st165
  have ks165 : h0.size ≤ T132.heap.size := (Nat.le_trans (Nat.le_trans (ks120) E120.1) K132.1)
  have sz165 : h0.size ≤ b165 := Nat.le_trans ks165 (Nat.le_of_eq g165.symm)
  have ne_b120_b165 : b120 ≠ b165 := Nat.ne_of_lt (Nat.lt_of_lt_of_le E132x.lt (Nat.le_of_eq g165.symm))
  have fq167 := (fq134.keep K132)
  have ne_b18_b165 : b18 ≠ b165 := Nat.ne_of_lt (Nat.lt_of_lt_of_le fq167.lt (Nat.le_of_eq g165.symm))
  have fq168 := (fq139.keep K132)
  have ne_b23_b165 : b23 ≠ b165 := Nat.ne_of_lt (Nat.lt_of_lt_of_le fq168.lt (Nat.le_of_eq g165.symm))
  have fq169 := (fq146.keep K132)
  have ne_b31_b165 : b31 ≠ b165 := Nat.ne_of_lt (Nat.lt_of_lt_of_le fq169.lt (Nat.le_of_eq g165.symm))
  have fq170 := (fq138.keep K132 (ninS ne_b52_b120 nin0))
  have ne_b52_b165 : b52 ≠ b165 := Nat.ne_of_lt (Nat.lt_of_lt_of_le fq170.lt (Nat.le_of_eq g165.symm))
  have fq171 := (fq155.keep K132)
  have ne_b70_b165 : b70 ≠ b165 := Nat.ne_of_lt (Nat.lt_of_lt_of_le fq171.lt (Nat.le_of_eq g165.symm))
  have fq172 := (fq158.keep K132)
  have ne_b82_b165 : b82 ≠ b165 := Nat.ne_of_lt (Nat.lt_of_lt_of_le fq172.lt (Nat.le_of_eq g165.symm))
  have fq173 := (fq163.keep K132 (ninS ne_dd_b120 nin0))
  have ne_dd_b165 : dd ≠ b165 := Nat.ne_of_lt (Nat.lt_of_lt_of_le fq173.lt (Nat.le_of_eq g165.symm))
  have ne_x132_b165 : x132 ≠ b165 := Nat.ne_of_lt (Nat.lt_of_lt_of_le V132a.lt (Nat.le_of_eq g165.symm))
  have ne_y132_b165 : y132 ≠ b165 := Nat.ne_of_lt (Nat.lt_of_lt_of_le V132b.lt (Nat.le_of_eq g165.symm))
  have ne_z132_b165 : z132 ≠ b165 := Nat.ne_of_lt (Nat.lt_of_lt_of_le V132c.lt (Nat.le_of_eq g165.symm))
  have V165 : own_AV Z h165 b165 .long [(.long (0 : Int64)), (.long (0 : Int64)), (.long (0 : Int64))] := own_AV.new A165 (i := 3) (by decide)
  have gb165 : n0 ≤ b165 := Nat.le_trans zs166 (Nat.le_of_eq g165.symm)
  have go174 : ∀ t, Steps p.tables e below (T165.setTop (mkF m 148 #[.val (.long q0), .second, .val (.long q1), .second, .val (.long q2), .second, .val (.long q3), .second, .val (.long q4), .second, .val (.long q5), .second, .val (.long mA), .second, .val (.long xA), .second, .val (.long mB), .second, .val (.long xB), .second, .val (.long vA), .second, .val (.long vB), .second, .val (.ref b18), .val (.ref b120), .val (.ref b165), .unset, .unset, .unset, .unset, .unset, .unset] [(.long vB), (.int (0 : Int32)), (.ref b165)])) t → Steps p.tables e below (s₁.setTop (entryFrame m #[(.long q0), (.long q1), (.long q2), (.long q3), (.long q4), (.long q5)] maxLocals)) t := fun t kt => go164 t (by
      refine st165 _ ?_
      show Steps p.tables e below (T165.setTop (mkF m 141 #[.val (.long q0), .second, .val (.long q1), .second, .val (.long q2), .second, .val (.long q3), .second, .val (.long q4), .second, .val (.long q5), .second, .val (.long mA), .second, .val (.long xA), .second, .val (.long mB), .second, .val (.long xB), .second, .val (.long vA), .second, .val (.long vB), .second, .val (.ref b18), .val (.ref b120), .unset, .unset, .unset, .unset, .unset, .unset, .unset] [(.ref b165)])) _
      refine XS.astore X165.here hx rfl (hb hby at_141) rfl rfl (l' := #[.val (.long q0), .second, .val (.long q1), .second, .val (.long q2), .second, .val (.long q3), .second, .val (.long q4), .second, .val (.long q5), .second, .val (.long mA), .second, .val (.long xA), .second, .val (.long mB), .second, .val (.long xB), .second, .val (.long vA), .second, .val (.long vB), .second, .val (.ref b18), .val (.ref b120), .val (.ref b165), .unset, .unset, .unset, .unset, .unset, .unset]) rfl ?_
      show Steps p.tables e below (T165.setTop (mkF m 143 #[.val (.long q0), .second, .val (.long q1), .second, .val (.long q2), .second, .val (.long q3), .second, .val (.long q4), .second, .val (.long q5), .second, .val (.long mA), .second, .val (.long xA), .second, .val (.long mB), .second, .val (.long xB), .second, .val (.long vA), .second, .val (.long vB), .second, .val (.ref b18), .val (.ref b120), .val (.ref b165), .unset, .unset, .unset, .unset, .unset, .unset] [])) _
      refine XS.aload X165.here hx rfl (hb hby at_143) rfl rfl ?_
      show Steps p.tables e below (T165.setTop (mkF m 145 #[.val (.long q0), .second, .val (.long q1), .second, .val (.long q2), .second, .val (.long q3), .second, .val (.long q4), .second, .val (.long q5), .second, .val (.long mA), .second, .val (.long xA), .second, .val (.long mB), .second, .val (.long xB), .second, .val (.long vA), .second, .val (.long vB), .second, .val (.ref b18), .val (.ref b120), .val (.ref b165), .unset, .unset, .unset, .unset, .unset, .unset] [(.ref b165)])) _
      refine XS.iconst X165.here hx rfl (hb hby at_145) ?_
      show Steps p.tables e below (T165.setTop (mkF m 146 #[.val (.long q0), .second, .val (.long q1), .second, .val (.long q2), .second, .val (.long q3), .second, .val (.long q4), .second, .val (.long q5), .second, .val (.long mA), .second, .val (.long xA), .second, .val (.long mB), .second, .val (.long xB), .second, .val (.long vA), .second, .val (.long vB), .second, .val (.ref b18), .val (.ref b120), .val (.ref b165), .unset, .unset, .unset, .unset, .unset, .unset] [(.int (0 : Int32)), (.ref b165)])) _
      refine XS.lload X165.here hx rfl (hb hby at_146) rfl ?_
      show Steps p.tables e below (T165.setTop (mkF m 148 #[.val (.long q0), .second, .val (.long q1), .second, .val (.long q2), .second, .val (.long q3), .second, .val (.long q4), .second, .val (.long q5), .second, .val (.long mA), .second, .val (.long xA), .second, .val (.long mB), .second, .val (.long xB), .second, .val (.long vA), .second, .val (.long vB), .second, .val (.ref b18), .val (.ref b120), .val (.ref b165), .unset, .unset, .unset, .unset, .unset, .unset] [(.long vB), (.int (0 : Int32)), (.ref b165)])) _
      exact kt)
  obtain ⟨c175, Ar175, q175⟩ := id V165
  obtain ⟨T175, h175, X175, e175, W175, st175⟩ := stJ X165 hx hZ77 e165 Ar175 (j := (0 : Int32)) (own_inb q175 (n := 3) rfl (by decide) (by decide)) (g := (mkF m 148 #[.val (.long q0), .second, .val (.long q1), .second, .val (.long q2), .second, .val (.long q3), .second, .val (.long q4), .second, .val (.long q5), .second, .val (.long mA), .second, .val (.long xA), .second, .val (.long mB), .second, .val (.long xB), .second, .val (.long vA), .second, .val (.long vB), .second, .val (.ref b18), .val (.ref b120), .val (.ref b165), .unset, .unset, .unset, .unset, .unset, .unset] [(.long vB), (.int (0 : Int32)), (.ref b165)])) rfl rfl (hb hby at_148)
  have V175 : own_AV Z h175 b165 .long [(.long vB), (.long (0 : Int64)), (.long (0 : Int64))] := own_AV.set Ar175 q175 W175 (i := 0) (by decide) rfl
  obtain ⟨Ls175, X175, N175⟩ := own_loc X175 (Fr.snoc X175 N132 gb165)
  have go176 : ∀ t, Steps p.tables e below (T175.setTop (mkF m 154 #[.val (.long q0), .second, .val (.long q1), .second, .val (.long q2), .second, .val (.long q3), .second, .val (.long q4), .second, .val (.long q5), .second, .val (.long mA), .second, .val (.long xA), .second, .val (.long mB), .second, .val (.long xB), .second, .val (.long vA), .second, .val (.long vB), .second, .val (.ref b18), .val (.ref b120), .val (.ref b165), .unset, .unset, .unset, .unset, .unset, .unset] [(.long q4), (.int (1 : Int32)), (.ref b165)])) t → Steps p.tables e below (s₁.setTop (entryFrame m #[(.long q0), (.long q1), (.long q2), (.long q3), (.long q4), (.long q5)] maxLocals)) t := fun t kt => go174 t (by
      refine st175 _ ?_
      show Steps p.tables e below (T175.setTop (mkF m 149 #[.val (.long q0), .second, .val (.long q1), .second, .val (.long q2), .second, .val (.long q3), .second, .val (.long q4), .second, .val (.long q5), .second, .val (.long mA), .second, .val (.long xA), .second, .val (.long mB), .second, .val (.long xB), .second, .val (.long vA), .second, .val (.long vB), .second, .val (.ref b18), .val (.ref b120), .val (.ref b165), .unset, .unset, .unset, .unset, .unset, .unset] [])) _
      refine XS.aload X175.here hx rfl (hb hby at_149) rfl rfl ?_
      show Steps p.tables e below (T175.setTop (mkF m 151 #[.val (.long q0), .second, .val (.long q1), .second, .val (.long q2), .second, .val (.long q3), .second, .val (.long q4), .second, .val (.long q5), .second, .val (.long mA), .second, .val (.long xA), .second, .val (.long mB), .second, .val (.long xB), .second, .val (.long vA), .second, .val (.long vB), .second, .val (.ref b18), .val (.ref b120), .val (.ref b165), .unset, .unset, .unset, .unset, .unset, .unset] [(.ref b165)])) _
      refine XS.iconst X175.here hx rfl (hb hby at_151) ?_
      show Steps p.tables e below (T175.setTop (mkF m 152 #[.val (.long q0), .second, .val (.long q1), .second, .val (.long q2), .second, .val (.long q3), .second, .val (.long q4), .second, .val (.long q5), .second, .val (.long mA), .second, .val (.long xA), .second, .val (.long mB), .second, .val (.long xB), .second, .val (.long vA), .second, .val (.long vB), .second, .val (.ref b18), .val (.ref b120), .val (.ref b165), .unset, .unset, .unset, .unset, .unset, .unset] [(.int (1 : Int32)), (.ref b165)])) _
      refine XS.lload X175.here hx rfl (hb hby at_152) rfl ?_
      show Steps p.tables e below (T175.setTop (mkF m 154 #[.val (.long q0), .second, .val (.long q1), .second, .val (.long q2), .second, .val (.long q3), .second, .val (.long q4), .second, .val (.long q5), .second, .val (.long mA), .second, .val (.long xA), .second, .val (.long mB), .second, .val (.long xB), .second, .val (.long vA), .second, .val (.long vB), .second, .val (.ref b18), .val (.ref b120), .val (.ref b165), .unset, .unset, .unset, .unset, .unset, .unset] [(.long q4), (.int (1 : Int32)), (.ref b165)])) _
      exact kt)
  obtain ⟨c177, Ar177, q177⟩ := id V175
  obtain ⟨T177, h177, X177, e177, W177, st177⟩ := stJ X175 hx hZ77 e175 Ar177 (j := (1 : Int32)) (own_inb q177 (n := 3) rfl (by decide) (by decide)) (g := (mkF m 154 #[.val (.long q0), .second, .val (.long q1), .second, .val (.long q2), .second, .val (.long q3), .second, .val (.long q4), .second, .val (.long q5), .second, .val (.long mA), .second, .val (.long xA), .second, .val (.long mB), .second, .val (.long xB), .second, .val (.long vA), .second, .val (.long vB), .second, .val (.ref b18), .val (.ref b120), .val (.ref b165), .unset, .unset, .unset, .unset, .unset, .unset] [(.long q4), (.int (1 : Int32)), (.ref b165)])) rfl rfl (hb hby at_154)
  have V177 : own_AV Z h177 b165 .long [(.long vB), (.long q4), (.long (0 : Int64))] := own_AV.set Ar177 q177 W177 (i := 1) (by decide) rfl
  obtain ⟨Ls177, X177, N177⟩ := own_loc X177 (Fr.snoc X177 N175 gb165)
  have go178 : ∀ t, Steps p.tables e below (T177.setTop (mkF m 160 #[.val (.long q0), .second, .val (.long q1), .second, .val (.long q2), .second, .val (.long q3), .second, .val (.long q4), .second, .val (.long q5), .second, .val (.long mA), .second, .val (.long xA), .second, .val (.long mB), .second, .val (.long xB), .second, .val (.long vA), .second, .val (.long vB), .second, .val (.ref b18), .val (.ref b120), .val (.ref b165), .unset, .unset, .unset, .unset, .unset, .unset] [(.long vA), (.int (2 : Int32)), (.ref b165)])) t → Steps p.tables e below (s₁.setTop (entryFrame m #[(.long q0), (.long q1), (.long q2), (.long q3), (.long q4), (.long q5)] maxLocals)) t := fun t kt => go176 t (by
      refine st177 _ ?_
      show Steps p.tables e below (T177.setTop (mkF m 155 #[.val (.long q0), .second, .val (.long q1), .second, .val (.long q2), .second, .val (.long q3), .second, .val (.long q4), .second, .val (.long q5), .second, .val (.long mA), .second, .val (.long xA), .second, .val (.long mB), .second, .val (.long xB), .second, .val (.long vA), .second, .val (.long vB), .second, .val (.ref b18), .val (.ref b120), .val (.ref b165), .unset, .unset, .unset, .unset, .unset, .unset] [])) _
      refine XS.aload X177.here hx rfl (hb hby at_155) rfl rfl ?_
      show Steps p.tables e below (T177.setTop (mkF m 157 #[.val (.long q0), .second, .val (.long q1), .second, .val (.long q2), .second, .val (.long q3), .second, .val (.long q4), .second, .val (.long q5), .second, .val (.long mA), .second, .val (.long xA), .second, .val (.long mB), .second, .val (.long xB), .second, .val (.long vA), .second, .val (.long vB), .second, .val (.ref b18), .val (.ref b120), .val (.ref b165), .unset, .unset, .unset, .unset, .unset, .unset] [(.ref b165)])) _
      refine XS.iconst X177.here hx rfl (hb hby at_157) ?_
      show Steps p.tables e below (T177.setTop (mkF m 158 #[.val (.long q0), .second, .val (.long q1), .second, .val (.long q2), .second, .val (.long q3), .second, .val (.long q4), .second, .val (.long q5), .second, .val (.long mA), .second, .val (.long xA), .second, .val (.long mB), .second, .val (.long xB), .second, .val (.long vA), .second, .val (.long vB), .second, .val (.ref b18), .val (.ref b120), .val (.ref b165), .unset, .unset, .unset, .unset, .unset, .unset] [(.int (2 : Int32)), (.ref b165)])) _
      refine XS.lload X177.here hx rfl (hb hby at_158) rfl ?_
      show Steps p.tables e below (T177.setTop (mkF m 160 #[.val (.long q0), .second, .val (.long q1), .second, .val (.long q2), .second, .val (.long q3), .second, .val (.long q4), .second, .val (.long q5), .second, .val (.long mA), .second, .val (.long xA), .second, .val (.long mB), .second, .val (.long xB), .second, .val (.long vA), .second, .val (.long vB), .second, .val (.ref b18), .val (.ref b120), .val (.ref b165), .unset, .unset, .unset, .unset, .unset, .unset] [(.long vA), (.int (2 : Int32)), (.ref b165)])) _
      exact kt)
  obtain ⟨c179, Ar179, q179⟩ := id V177
  obtain ⟨T179, h179, X179, e179, W179, st179⟩ := stJ X177 hx hZ77 e177 Ar179 (j := (2 : Int32)) (own_inb q179 (n := 3) rfl (by decide) (by decide)) (g := (mkF m 160 #[.val (.long q0), .second, .val (.long q1), .second, .val (.long q2), .second, .val (.long q3), .second, .val (.long q4), .second, .val (.long q5), .second, .val (.long mA), .second, .val (.long xA), .second, .val (.long mB), .second, .val (.long xB), .second, .val (.long vA), .second, .val (.long vB), .second, .val (.ref b18), .val (.ref b120), .val (.ref b165), .unset, .unset, .unset, .unset, .unset, .unset] [(.long vA), (.int (2 : Int32)), (.ref b165)])) rfl rfl (hb hby at_160)
  have V179 : own_AV Z h179 b165 .long [(.long vB), (.long q4), (.long vA)] := own_AV.set Ar179 q179 W179 (i := 2) (by decide) rfl
  obtain ⟨Ls179, X179, N179⟩ := own_loc X179 (Fr.snoc X179 N177 gb165)
  have go180 : ∀ t, Steps p.tables e below (T179.setTop (mkF m 161 #[.val (.long q0), .second, .val (.long q1), .second, .val (.long q2), .second, .val (.long q3), .second, .val (.long q4), .second, .val (.long q5), .second, .val (.long mA), .second, .val (.long xA), .second, .val (.long mB), .second, .val (.long xB), .second, .val (.long vA), .second, .val (.long vB), .second, .val (.ref b18), .val (.ref b120), .val (.ref b165), .unset, .unset, .unset, .unset, .unset, .unset] [])) t → Steps p.tables e below (s₁.setTop (entryFrame m #[(.long q0), (.long q1), (.long q2), (.long q3), (.long q4), (.long q5)] maxLocals)) t := fun t kt => go178 t (by
      refine st179 _ ?_
      show Steps p.tables e below (T179.setTop (mkF m 161 #[.val (.long q0), .second, .val (.long q1), .second, .val (.long q2), .second, .val (.long q3), .second, .val (.long q4), .second, .val (.long q5), .second, .val (.long mA), .second, .val (.long xA), .second, .val (.long mB), .second, .val (.long xB), .second, .val (.long vA), .second, .val (.long vB), .second, .val (.ref b18), .val (.ref b120), .val (.ref b165), .unset, .unset, .unset, .unset, .unset, .unset] [])) _
      exact kt)
  by_cases c1 : vB = xB
  · by_cases c2 : vA = xA
    · have go181 : ∀ t, Steps p.tables e below (T179.setTop (mkF m 165 #[.val (.long q0), .second, .val (.long q1), .second, .val (.long q2), .second, .val (.long q3), .second, .val (.long q4), .second, .val (.long q5), .second, .val (.long mA), .second, .val (.long xA), .second, .val (.long mB), .second, .val (.long xB), .second, .val (.long vA), .second, .val (.long vB), .second, .val (.ref b18), .val (.ref b120), .val (.ref b165), .unset, .unset, .unset, .unset, .unset, .unset] [(.ref b165), (.ref b120)])) t → Steps p.tables e below (s₁.setTop (entryFrame m #[(.long q0), (.long q1), (.long q2), (.long q3), (.long q4), (.long q5)] maxLocals)) t := fun t kt => go180 t (by
          refine XS.aload X179.here hx rfl (hb hby at_161) rfl rfl ?_
          show Steps p.tables e below (T179.setTop (mkF m 163 #[.val (.long q0), .second, .val (.long q1), .second, .val (.long q2), .second, .val (.long q3), .second, .val (.long q4), .second, .val (.long q5), .second, .val (.long mA), .second, .val (.long xA), .second, .val (.long mB), .second, .val (.long xB), .second, .val (.long vA), .second, .val (.long vB), .second, .val (.ref b18), .val (.ref b120), .val (.ref b165), .unset, .unset, .unset, .unset, .unset, .unset] [(.ref b120)])) _
          refine XS.aload X179.here hx rfl (hb hby at_163) rfl rfl ?_
          show Steps p.tables e below (T179.setTop (mkF m 165 #[.val (.long q0), .second, .val (.long q1), .second, .val (.long q2), .second, .val (.long q3), .second, .val (.long q4), .second, .val (.long q5), .second, .val (.long mA), .second, .val (.long xA), .second, .val (.long mB), .second, .val (.long xB), .second, .val (.long vA), .second, .val (.long vB), .second, .val (.ref b18), .val (.ref b120), .val (.ref b165), .unset, .unset, .unset, .unset, .unset, .unset] [(.ref b165), (.ref b120)])) _
          exact kt)
      have lc183 := (Nat.le_trans (Nat.le_trans zs166 E165.1) (Keep.of_wr W175).1)
      have zs184 := (Nat.le_trans (Nat.le_trans lc183 (Keep.of_wr W177).1) (Keep.of_wr W179).1)
      have fr185 := ((F132a.ext E165).other W175 (Or.inl ne_b120_b165))
      have fq186 := ((fr185.other W177 (Or.inl ne_b120_b165)).other W179 (Or.inl ne_b120_b165))
      have fr187 := ((F132b.ext E165).other W175 (Or.inl ne_b120_b165))
      have fq188 := ((fr187.other W177 (Or.inl ne_b120_b165)).other W179 (Or.inl ne_b120_b165))
      have fr189 := ((F132c.ext E165).other W175 (Or.inl ne_b120_b165))
      have fq190 := ((fr189.other W177 (Or.inl ne_b120_b165)).other W179 (Or.inl ne_b120_b165))
      have fr191 := ((V132a.ext E165).other W175 ne_x132_b165)
      have fq192 := ((fr191.other W177 ne_x132_b165).other W179 ne_x132_b165)
      have fr193 := ((V132b.ext E165).other W175 ne_y132_b165)
      have fq194 := ((fr193.other W177 ne_y132_b165).other W179 ne_y132_b165)
      have fr195 := ((V132c.ext E165).other W175 ne_z132_b165)
      have fq196 := ((fr195.other W177 ne_z132_b165).other W179 ne_z132_b165)
      have fr197 := ((E132x.ext E165).wr W175)
      have fq198 := ((fr197.wr W177).wr W179)
      obtain ⟨cq182, kq182, q182a, q182b, q182c⟩ := isOf hZ77 e179 fq198
      obtain ⟨_, _, ⟨T182, L182, k182, n182⟩, -, X182, ⟨Lc182, hQ182, l182, y182, z182⟩, st182⟩ := X179.virtualBack hx (y := own_m27) (z := own_m27) hown77 (mvT hZ77 (own_h hw 180 rfl)) (mvT hZ77 (own_h hw 181 rfl)) (notFace_of_selects (args := #[]) (mvT hZ77 (own_h hw 183 rfl))) (mvT hZ77 (own_h hw 183 rfl)) (mvT hZ77 (own_h hw 182 rfl)) (by decide) (backOf (W := 0) (rmX2 l Z a0 hw [] b120 b165 x132 y132 z132 mA mB xA xB vB q4 vA h179 n0 zs184 fq186 fq188 fq190 fq192 fq194 fq196 V179 gb165 ne_b120_b165 ne_x132_b165 ne_y132_b165 ne_z132_b165 c1 c2) hZ77 (own_h hw 184 rfl) (own_h hw 102 rfl) (by decide) (by decide)) q182a q182c (g := (mkF m 165 #[.val (.long q0), .second, .val (.long q1), .second, .val (.long q2), .second, .val (.long q3), .second, .val (.long q4), .second, .val (.long q5), .second, .val (.long mA), .second, .val (.long xA), .second, .val (.long mB), .second, .val (.long xB), .second, .val (.long vA), .second, .val (.long vB), .second, .val (.ref b18), .val (.ref b120), .val (.ref b165), .unset, .unset, .unset, .unset, .unset, .unset] [(.ref b165), (.ref b120)])) rfl (by rw [hml]; rfl) (Steps.refl _) (argsL := [(.ref b165)]) (rest := []) (lenOf pd_16 rfl) rfl (by show 2 * 0 + _ ≤ _; exact Nat.le_of_eq rfl) (hb hby at_165) (fun _ _ => ⟨rfl, e179, (by decide : 15 + 0 ≤ _), (by decide : 55 + 0 ≤ _)⟩)
      dsimp only [Pt.U, Pt.locs, Pt.cells, Pt.slots] at X182 l182 y182 z182 st182 hQ182
      subst y182 z182
      obtain ⟨rfl, N182q, K182, V182⟩ := hQ182
      have N182 := Fr.app N179 N182q
      rw [← l182] at N182
      have hc175_199 : (lcmpW vB xB) = (0 : Int32) := (lw_eq _ _).mpr c1
      have hc199_200 : (lcmpW vA xA) = (0 : Int32) := (lw_eq _ _).mpr c2
      have hc233_201 : (0 : Int32) = (0 : Int32) := (by decide)
      have go202 : ∀ t, Steps p.tables e below (T182.setTop (mkF m 239 #[.val (.long q0), .second, .val (.long q1), .second, .val (.long q2), .second, .val (.long q3), .second, .val (.long q4), .second, .val (.long q5), .second, .val (.long mA), .second, .val (.long xA), .second, .val (.long mB), .second, .val (.long xB), .second, .val (.long vA), .second, .val (.long vB), .second, .val (.ref b18), .val (.ref b120), .val (.ref b165), .val (.int (0 : Int32)), .val (.int (0 : Int32)), .val (.long mA), .second, .val (.long mB), .second] [(.int (2 : Int32)), (.ref b165)])) t → Steps p.tables e below (s₁.setTop (entryFrame m #[(.long q0), (.long q1), (.long q2), (.long q3), (.long q4), (.long q5)] maxLocals)) t := fun t kt => go181 t (by
          refine st182.trans ?_
          show Steps p.tables e below (T182.setTop (mkF m 168 #[.val (.long q0), .second, .val (.long q1), .second, .val (.long q2), .second, .val (.long q3), .second, .val (.long q4), .second, .val (.long q5), .second, .val (.long mA), .second, .val (.long xA), .second, .val (.long mB), .second, .val (.long xB), .second, .val (.long vA), .second, .val (.long vB), .second, .val (.ref b18), .val (.ref b120), .val (.ref b165), .unset, .unset, .unset, .unset, .unset, .unset] [(.int (0 : Int32))])) _
          refine XS.istore X182.here hx rfl (hb hby at_168) rfl (l' := #[.val (.long q0), .second, .val (.long q1), .second, .val (.long q2), .second, .val (.long q3), .second, .val (.long q4), .second, .val (.long q5), .second, .val (.long mA), .second, .val (.long xA), .second, .val (.long mB), .second, .val (.long xB), .second, .val (.long vA), .second, .val (.long vB), .second, .val (.ref b18), .val (.ref b120), .val (.ref b165), .val (.int (0 : Int32)), .unset, .unset, .unset, .unset, .unset]) rfl ?_
          show Steps p.tables e below (T182.setTop (mkF m 170 #[.val (.long q0), .second, .val (.long q1), .second, .val (.long q2), .second, .val (.long q3), .second, .val (.long q4), .second, .val (.long q5), .second, .val (.long mA), .second, .val (.long xA), .second, .val (.long mB), .second, .val (.long xB), .second, .val (.long vA), .second, .val (.long vB), .second, .val (.ref b18), .val (.ref b120), .val (.ref b165), .val (.int (0 : Int32)), .unset, .unset, .unset, .unset, .unset] [])) _
          refine XS.lload X182.here hx rfl (hb hby at_170) rfl ?_
          show Steps p.tables e below (T182.setTop (mkF m 172 #[.val (.long q0), .second, .val (.long q1), .second, .val (.long q2), .second, .val (.long q3), .second, .val (.long q4), .second, .val (.long q5), .second, .val (.long mA), .second, .val (.long xA), .second, .val (.long mB), .second, .val (.long xB), .second, .val (.long vA), .second, .val (.long vB), .second, .val (.ref b18), .val (.ref b120), .val (.ref b165), .val (.int (0 : Int32)), .unset, .unset, .unset, .unset, .unset] [(.long vB)])) _
          refine XS.lload X182.here hx rfl (hb hby at_172) rfl ?_
          show Steps p.tables e below (T182.setTop (mkF m 174 #[.val (.long q0), .second, .val (.long q1), .second, .val (.long q2), .second, .val (.long q3), .second, .val (.long q4), .second, .val (.long q5), .second, .val (.long mA), .second, .val (.long xA), .second, .val (.long mB), .second, .val (.long xB), .second, .val (.long vA), .second, .val (.long vB), .second, .val (.ref b18), .val (.ref b120), .val (.ref b165), .val (.int (0 : Int32)), .unset, .unset, .unset, .unset, .unset] [(.long xB), (.long vB)])) _
          refine XS.lcmp X182.here hx rfl (hb hby at_174) rfl ?_
          show Steps p.tables e below (T182.setTop (mkF m 175 #[.val (.long q0), .second, .val (.long q1), .second, .val (.long q2), .second, .val (.long q3), .second, .val (.long q4), .second, .val (.long q5), .second, .val (.long mA), .second, .val (.long xA), .second, .val (.long mB), .second, .val (.long xB), .second, .val (.long vA), .second, .val (.long vB), .second, .val (.ref b18), .val (.ref b120), .val (.ref b165), .val (.int (0 : Int32)), .unset, .unset, .unset, .unset, .unset] [(.int (lcmpW vB xB))])) _
          refine XS.ifYes X182.here hx rfl (pc0 := 175) (pc' := 194) rfl (hb hby at_175) rfl ((if0 _ _).trans (teq hc175_199).1) (by decide) (by decide) ?_
          show Steps p.tables e below (T182.setTop (mkF m 194 #[.val (.long q0), .second, .val (.long q1), .second, .val (.long q2), .second, .val (.long q3), .second, .val (.long q4), .second, .val (.long q5), .second, .val (.long mA), .second, .val (.long xA), .second, .val (.long mB), .second, .val (.long xB), .second, .val (.long vA), .second, .val (.long vB), .second, .val (.ref b18), .val (.ref b120), .val (.ref b165), .val (.int (0 : Int32)), .unset, .unset, .unset, .unset, .unset] [])) _
          refine XS.lload X182.here hx rfl (hb hby at_194) rfl ?_
          show Steps p.tables e below (T182.setTop (mkF m 196 #[.val (.long q0), .second, .val (.long q1), .second, .val (.long q2), .second, .val (.long q3), .second, .val (.long q4), .second, .val (.long q5), .second, .val (.long mA), .second, .val (.long xA), .second, .val (.long mB), .second, .val (.long xB), .second, .val (.long vA), .second, .val (.long vB), .second, .val (.ref b18), .val (.ref b120), .val (.ref b165), .val (.int (0 : Int32)), .unset, .unset, .unset, .unset, .unset] [(.long vA)])) _
          refine XS.lload X182.here hx rfl (hb hby at_196) rfl ?_
          show Steps p.tables e below (T182.setTop (mkF m 198 #[.val (.long q0), .second, .val (.long q1), .second, .val (.long q2), .second, .val (.long q3), .second, .val (.long q4), .second, .val (.long q5), .second, .val (.long mA), .second, .val (.long xA), .second, .val (.long mB), .second, .val (.long xB), .second, .val (.long vA), .second, .val (.long vB), .second, .val (.ref b18), .val (.ref b120), .val (.ref b165), .val (.int (0 : Int32)), .unset, .unset, .unset, .unset, .unset] [(.long xA), (.long vA)])) _
          refine XS.lcmp X182.here hx rfl (hb hby at_198) rfl ?_
          show Steps p.tables e below (T182.setTop (mkF m 199 #[.val (.long q0), .second, .val (.long q1), .second, .val (.long q2), .second, .val (.long q3), .second, .val (.long q4), .second, .val (.long q5), .second, .val (.long mA), .second, .val (.long xA), .second, .val (.long mB), .second, .val (.long xB), .second, .val (.long vA), .second, .val (.long vB), .second, .val (.ref b18), .val (.ref b120), .val (.ref b165), .val (.int (0 : Int32)), .unset, .unset, .unset, .unset, .unset] [(.int (lcmpW vA xA))])) _
          refine XS.ifYes X182.here hx rfl (pc0 := 199) (pc' := 218) rfl (hb hby at_199) rfl ((if0 _ _).trans (teq hc199_200).1) (by decide) (by decide) ?_
          show Steps p.tables e below (T182.setTop (mkF m 218 #[.val (.long q0), .second, .val (.long q1), .second, .val (.long q2), .second, .val (.long q3), .second, .val (.long q4), .second, .val (.long q5), .second, .val (.long mA), .second, .val (.long xA), .second, .val (.long mB), .second, .val (.long xB), .second, .val (.long vA), .second, .val (.long vB), .second, .val (.ref b18), .val (.ref b120), .val (.ref b165), .val (.int (0 : Int32)), .unset, .unset, .unset, .unset, .unset] [])) _
          refine XS.iconst X182.here hx rfl (hb hby at_218) ?_
          show Steps p.tables e below (T182.setTop (mkF m 219 #[.val (.long q0), .second, .val (.long q1), .second, .val (.long q2), .second, .val (.long q3), .second, .val (.long q4), .second, .val (.long q5), .second, .val (.long mA), .second, .val (.long xA), .second, .val (.long mB), .second, .val (.long xB), .second, .val (.long vA), .second, .val (.long vB), .second, .val (.ref b18), .val (.ref b120), .val (.ref b165), .val (.int (0 : Int32)), .unset, .unset, .unset, .unset, .unset] [(.int (0 : Int32))])) _
          refine XS.istore X182.here hx rfl (hb hby at_219) rfl (l' := #[.val (.long q0), .second, .val (.long q1), .second, .val (.long q2), .second, .val (.long q3), .second, .val (.long q4), .second, .val (.long q5), .second, .val (.long mA), .second, .val (.long xA), .second, .val (.long mB), .second, .val (.long xB), .second, .val (.long vA), .second, .val (.long vB), .second, .val (.ref b18), .val (.ref b120), .val (.ref b165), .val (.int (0 : Int32)), .val (.int (0 : Int32)), .unset, .unset, .unset, .unset]) rfl ?_
          show Steps p.tables e below (T182.setTop (mkF m 221 #[.val (.long q0), .second, .val (.long q1), .second, .val (.long q2), .second, .val (.long q3), .second, .val (.long q4), .second, .val (.long q5), .second, .val (.long mA), .second, .val (.long xA), .second, .val (.long mB), .second, .val (.long xB), .second, .val (.long vA), .second, .val (.long vB), .second, .val (.ref b18), .val (.ref b120), .val (.ref b165), .val (.int (0 : Int32)), .val (.int (0 : Int32)), .unset, .unset, .unset, .unset] [])) _
          refine XS.lload X182.here hx rfl (hb hby at_221) rfl ?_
          show Steps p.tables e below (T182.setTop (mkF m 223 #[.val (.long q0), .second, .val (.long q1), .second, .val (.long q2), .second, .val (.long q3), .second, .val (.long q4), .second, .val (.long q5), .second, .val (.long mA), .second, .val (.long xA), .second, .val (.long mB), .second, .val (.long xB), .second, .val (.long vA), .second, .val (.long vB), .second, .val (.ref b18), .val (.ref b120), .val (.ref b165), .val (.int (0 : Int32)), .val (.int (0 : Int32)), .unset, .unset, .unset, .unset] [(.long mA)])) _
          refine XS.lstore X182.here hx rfl (hb hby at_223) rfl (l' := #[.val (.long q0), .second, .val (.long q1), .second, .val (.long q2), .second, .val (.long q3), .second, .val (.long q4), .second, .val (.long q5), .second, .val (.long mA), .second, .val (.long xA), .second, .val (.long mB), .second, .val (.long xB), .second, .val (.long vA), .second, .val (.long vB), .second, .val (.ref b18), .val (.ref b120), .val (.ref b165), .val (.int (0 : Int32)), .val (.int (0 : Int32)), .val (.long mA), .second, .unset, .unset]) rfl ?_
          show Steps p.tables e below (T182.setTop (mkF m 225 #[.val (.long q0), .second, .val (.long q1), .second, .val (.long q2), .second, .val (.long q3), .second, .val (.long q4), .second, .val (.long q5), .second, .val (.long mA), .second, .val (.long xA), .second, .val (.long mB), .second, .val (.long xB), .second, .val (.long vA), .second, .val (.long vB), .second, .val (.ref b18), .val (.ref b120), .val (.ref b165), .val (.int (0 : Int32)), .val (.int (0 : Int32)), .val (.long mA), .second, .unset, .unset] [])) _
          refine XS.lload X182.here hx rfl (hb hby at_225) rfl ?_
          show Steps p.tables e below (T182.setTop (mkF m 227 #[.val (.long q0), .second, .val (.long q1), .second, .val (.long q2), .second, .val (.long q3), .second, .val (.long q4), .second, .val (.long q5), .second, .val (.long mA), .second, .val (.long xA), .second, .val (.long mB), .second, .val (.long xB), .second, .val (.long vA), .second, .val (.long vB), .second, .val (.ref b18), .val (.ref b120), .val (.ref b165), .val (.int (0 : Int32)), .val (.int (0 : Int32)), .val (.long mA), .second, .unset, .unset] [(.long mB)])) _
          refine XS.lstore X182.here hx rfl (hb hby at_227) rfl (l' := #[.val (.long q0), .second, .val (.long q1), .second, .val (.long q2), .second, .val (.long q3), .second, .val (.long q4), .second, .val (.long q5), .second, .val (.long mA), .second, .val (.long xA), .second, .val (.long mB), .second, .val (.long xB), .second, .val (.long vA), .second, .val (.long vB), .second, .val (.ref b18), .val (.ref b120), .val (.ref b165), .val (.int (0 : Int32)), .val (.int (0 : Int32)), .val (.long mA), .second, .val (.long mB), .second]) rfl ?_
          show Steps p.tables e below (T182.setTop (mkF m 229 #[.val (.long q0), .second, .val (.long q1), .second, .val (.long q2), .second, .val (.long q3), .second, .val (.long q4), .second, .val (.long q5), .second, .val (.long mA), .second, .val (.long xA), .second, .val (.long mB), .second, .val (.long xB), .second, .val (.long vA), .second, .val (.long vB), .second, .val (.ref b18), .val (.ref b120), .val (.ref b165), .val (.int (0 : Int32)), .val (.int (0 : Int32)), .val (.long mA), .second, .val (.long mB), .second] [])) _
          refine XS.iload X182.here hx rfl (hb hby at_229) rfl ?_
          show Steps p.tables e below (T182.setTop (mkF m 231 #[.val (.long q0), .second, .val (.long q1), .second, .val (.long q2), .second, .val (.long q3), .second, .val (.long q4), .second, .val (.long q5), .second, .val (.long mA), .second, .val (.long xA), .second, .val (.long mB), .second, .val (.long xB), .second, .val (.long vA), .second, .val (.long vB), .second, .val (.ref b18), .val (.ref b120), .val (.ref b165), .val (.int (0 : Int32)), .val (.int (0 : Int32)), .val (.long mA), .second, .val (.long mB), .second] [(.int (0 : Int32))])) _
          refine XS.iload X182.here hx rfl (hb hby at_231) rfl ?_
          show Steps p.tables e below (T182.setTop (mkF m 233 #[.val (.long q0), .second, .val (.long q1), .second, .val (.long q2), .second, .val (.long q3), .second, .val (.long q4), .second, .val (.long q5), .second, .val (.long mA), .second, .val (.long xA), .second, .val (.long mB), .second, .val (.long xB), .second, .val (.long vA), .second, .val (.long vB), .second, .val (.ref b18), .val (.ref b120), .val (.ref b165), .val (.int (0 : Int32)), .val (.int (0 : Int32)), .val (.long mA), .second, .val (.long mB), .second] [(.int (0 : Int32)), (.int (0 : Int32))])) _
          refine XS.icmpNo X182.here hx rfl (hb hby at_233) rfl (teq hc233_201).2 ?_
          show Steps p.tables e below (T182.setTop (mkF m 236 #[.val (.long q0), .second, .val (.long q1), .second, .val (.long q2), .second, .val (.long q3), .second, .val (.long q4), .second, .val (.long q5), .second, .val (.long mA), .second, .val (.long xA), .second, .val (.long mB), .second, .val (.long xB), .second, .val (.long vA), .second, .val (.long vB), .second, .val (.ref b18), .val (.ref b120), .val (.ref b165), .val (.int (0 : Int32)), .val (.int (0 : Int32)), .val (.long mA), .second, .val (.long mB), .second] [])) _
          refine XS.aload X182.here hx rfl (hb hby at_236) rfl rfl ?_
          show Steps p.tables e below (T182.setTop (mkF m 238 #[.val (.long q0), .second, .val (.long q1), .second, .val (.long q2), .second, .val (.long q3), .second, .val (.long q4), .second, .val (.long q5), .second, .val (.long mA), .second, .val (.long xA), .second, .val (.long mB), .second, .val (.long xB), .second, .val (.long vA), .second, .val (.long vB), .second, .val (.ref b18), .val (.ref b120), .val (.ref b165), .val (.int (0 : Int32)), .val (.int (0 : Int32)), .val (.long mA), .second, .val (.long mB), .second] [(.ref b165)])) _
          refine XS.iconst X182.here hx rfl (hb hby at_238) ?_
          show Steps p.tables e below (T182.setTop (mkF m 239 #[.val (.long q0), .second, .val (.long q1), .second, .val (.long q2), .second, .val (.long q3), .second, .val (.long q4), .second, .val (.long q5), .second, .val (.long mA), .second, .val (.long xA), .second, .val (.long mB), .second, .val (.long xB), .second, .val (.long vA), .second, .val (.long vB), .second, .val (.ref b18), .val (.ref b120), .val (.ref b165), .val (.int (0 : Int32)), .val (.int (0 : Int32)), .val (.long mA), .second, .val (.long mB), .second] [(.int (2 : Int32)), (.ref b165)])) _
          exact kt)
      obtain ⟨c203, Ar203, q203⟩ := id V182
      have hc243_204 : (lcmpW mA mA) = (0 : Int32) := (lw_eq _ _).mpr rfl
      have go205 : ∀ t, Steps p.tables e below (T182.setTop (mkF m 249 #[.val (.long q0), .second, .val (.long q1), .second, .val (.long q2), .second, .val (.long q3), .second, .val (.long q4), .second, .val (.long q5), .second, .val (.long mA), .second, .val (.long xA), .second, .val (.long mB), .second, .val (.long xB), .second, .val (.long vA), .second, .val (.long vB), .second, .val (.ref b18), .val (.ref b120), .val (.ref b165), .val (.int (0 : Int32)), .val (.int (0 : Int32)), .val (.long mA), .second, .val (.long mB), .second] [(.int (0 : Int32)), (.ref b165)])) t → Steps p.tables e below (s₁.setTop (entryFrame m #[(.long q0), (.long q1), (.long q2), (.long q3), (.long q4), (.long q5)] maxLocals)) t := fun t kt => go202 t (by
          refine X182.laload hx (j := (2 : Int32)) (v := (.long mA)) Ar203.1 (State.isArrayOf_alike hZ77.alike Ar203.2.1) Ar203.2.2 (own_inb q203 (n := 3) rfl (by decide) (by decide)) (own_get q203 (i := 2) (by decide) rfl) (g := (mkF m 239 #[.val (.long q0), .second, .val (.long q1), .second, .val (.long q2), .second, .val (.long q3), .second, .val (.long q4), .second, .val (.long q5), .second, .val (.long mA), .second, .val (.long xA), .second, .val (.long mB), .second, .val (.long xB), .second, .val (.long vA), .second, .val (.long vB), .second, .val (.ref b18), .val (.ref b120), .val (.ref b165), .val (.int (0 : Int32)), .val (.int (0 : Int32)), .val (.long mA), .second, .val (.long mB), .second] [(.int (2 : Int32)), (.ref b165)])) rfl rfl (hb hby at_239) _ ?_
          show Steps p.tables e below (T182.setTop (mkF m 240 #[.val (.long q0), .second, .val (.long q1), .second, .val (.long q2), .second, .val (.long q3), .second, .val (.long q4), .second, .val (.long q5), .second, .val (.long mA), .second, .val (.long xA), .second, .val (.long mB), .second, .val (.long xB), .second, .val (.long vA), .second, .val (.long vB), .second, .val (.ref b18), .val (.ref b120), .val (.ref b165), .val (.int (0 : Int32)), .val (.int (0 : Int32)), .val (.long mA), .second, .val (.long mB), .second] [(.long mA)])) _
          refine XS.lload X182.here hx rfl (hb hby at_240) rfl ?_
          show Steps p.tables e below (T182.setTop (mkF m 242 #[.val (.long q0), .second, .val (.long q1), .second, .val (.long q2), .second, .val (.long q3), .second, .val (.long q4), .second, .val (.long q5), .second, .val (.long mA), .second, .val (.long xA), .second, .val (.long mB), .second, .val (.long xB), .second, .val (.long vA), .second, .val (.long vB), .second, .val (.ref b18), .val (.ref b120), .val (.ref b165), .val (.int (0 : Int32)), .val (.int (0 : Int32)), .val (.long mA), .second, .val (.long mB), .second] [(.long mA), (.long mA)])) _
          refine XS.lcmp X182.here hx rfl (hb hby at_242) rfl ?_
          show Steps p.tables e below (T182.setTop (mkF m 243 #[.val (.long q0), .second, .val (.long q1), .second, .val (.long q2), .second, .val (.long q3), .second, .val (.long q4), .second, .val (.long q5), .second, .val (.long mA), .second, .val (.long xA), .second, .val (.long mB), .second, .val (.long xB), .second, .val (.long vA), .second, .val (.long vB), .second, .val (.ref b18), .val (.ref b120), .val (.ref b165), .val (.int (0 : Int32)), .val (.int (0 : Int32)), .val (.long mA), .second, .val (.long mB), .second] [(.int (lcmpW mA mA))])) _
          refine XS.ifNo X182.here hx rfl (hb hby at_243) rfl ((if0 _ _).trans (teq hc243_204).2) ?_
          show Steps p.tables e below (T182.setTop (mkF m 246 #[.val (.long q0), .second, .val (.long q1), .second, .val (.long q2), .second, .val (.long q3), .second, .val (.long q4), .second, .val (.long q5), .second, .val (.long mA), .second, .val (.long xA), .second, .val (.long mB), .second, .val (.long xB), .second, .val (.long vA), .second, .val (.long vB), .second, .val (.ref b18), .val (.ref b120), .val (.ref b165), .val (.int (0 : Int32)), .val (.int (0 : Int32)), .val (.long mA), .second, .val (.long mB), .second] [])) _
          refine XS.aload X182.here hx rfl (hb hby at_246) rfl rfl ?_
          show Steps p.tables e below (T182.setTop (mkF m 248 #[.val (.long q0), .second, .val (.long q1), .second, .val (.long q2), .second, .val (.long q3), .second, .val (.long q4), .second, .val (.long q5), .second, .val (.long mA), .second, .val (.long xA), .second, .val (.long mB), .second, .val (.long xB), .second, .val (.long vA), .second, .val (.long vB), .second, .val (.ref b18), .val (.ref b120), .val (.ref b165), .val (.int (0 : Int32)), .val (.int (0 : Int32)), .val (.long mA), .second, .val (.long mB), .second] [(.ref b165)])) _
          refine XS.iconst X182.here hx rfl (hb hby at_248) ?_
          show Steps p.tables e below (T182.setTop (mkF m 249 #[.val (.long q0), .second, .val (.long q1), .second, .val (.long q2), .second, .val (.long q3), .second, .val (.long q4), .second, .val (.long q5), .second, .val (.long mA), .second, .val (.long xA), .second, .val (.long mB), .second, .val (.long xB), .second, .val (.long vA), .second, .val (.long vB), .second, .val (.ref b18), .val (.ref b120), .val (.ref b165), .val (.int (0 : Int32)), .val (.int (0 : Int32)), .val (.long mA), .second, .val (.long mB), .second] [(.int (0 : Int32)), (.ref b165)])) _
          exact kt)
      obtain ⟨c206, Ar206, q206⟩ := id V182
      have hc253_207 : (lcmpW mB mB) = (0 : Int32) := (lw_eq _ _).mpr rfl
      have go208 : ∀ t, Steps p.tables e below (T182.setTop (mkF m 259 #[.val (.long q0), .second, .val (.long q1), .second, .val (.long q2), .second, .val (.long q3), .second, .val (.long q4), .second, .val (.long q5), .second, .val (.long mA), .second, .val (.long xA), .second, .val (.long mB), .second, .val (.long xB), .second, .val (.long vA), .second, .val (.long vB), .second, .val (.ref b18), .val (.ref b120), .val (.ref b165), .val (.int (0 : Int32)), .val (.int (0 : Int32)), .val (.long mA), .second, .val (.long mB), .second] [(.int (1 : Int32)), (.ref b165)])) t → Steps p.tables e below (s₁.setTop (entryFrame m #[(.long q0), (.long q1), (.long q2), (.long q3), (.long q4), (.long q5)] maxLocals)) t := fun t kt => go205 t (by
          refine X182.laload hx (j := (0 : Int32)) (v := (.long mB)) Ar206.1 (State.isArrayOf_alike hZ77.alike Ar206.2.1) Ar206.2.2 (own_inb q206 (n := 3) rfl (by decide) (by decide)) (own_get q206 (i := 0) (by decide) rfl) (g := (mkF m 249 #[.val (.long q0), .second, .val (.long q1), .second, .val (.long q2), .second, .val (.long q3), .second, .val (.long q4), .second, .val (.long q5), .second, .val (.long mA), .second, .val (.long xA), .second, .val (.long mB), .second, .val (.long xB), .second, .val (.long vA), .second, .val (.long vB), .second, .val (.ref b18), .val (.ref b120), .val (.ref b165), .val (.int (0 : Int32)), .val (.int (0 : Int32)), .val (.long mA), .second, .val (.long mB), .second] [(.int (0 : Int32)), (.ref b165)])) rfl rfl (hb hby at_249) _ ?_
          show Steps p.tables e below (T182.setTop (mkF m 250 #[.val (.long q0), .second, .val (.long q1), .second, .val (.long q2), .second, .val (.long q3), .second, .val (.long q4), .second, .val (.long q5), .second, .val (.long mA), .second, .val (.long xA), .second, .val (.long mB), .second, .val (.long xB), .second, .val (.long vA), .second, .val (.long vB), .second, .val (.ref b18), .val (.ref b120), .val (.ref b165), .val (.int (0 : Int32)), .val (.int (0 : Int32)), .val (.long mA), .second, .val (.long mB), .second] [(.long mB)])) _
          refine XS.lload X182.here hx rfl (hb hby at_250) rfl ?_
          show Steps p.tables e below (T182.setTop (mkF m 252 #[.val (.long q0), .second, .val (.long q1), .second, .val (.long q2), .second, .val (.long q3), .second, .val (.long q4), .second, .val (.long q5), .second, .val (.long mA), .second, .val (.long xA), .second, .val (.long mB), .second, .val (.long xB), .second, .val (.long vA), .second, .val (.long vB), .second, .val (.ref b18), .val (.ref b120), .val (.ref b165), .val (.int (0 : Int32)), .val (.int (0 : Int32)), .val (.long mA), .second, .val (.long mB), .second] [(.long mB), (.long mB)])) _
          refine XS.lcmp X182.here hx rfl (hb hby at_252) rfl ?_
          show Steps p.tables e below (T182.setTop (mkF m 253 #[.val (.long q0), .second, .val (.long q1), .second, .val (.long q2), .second, .val (.long q3), .second, .val (.long q4), .second, .val (.long q5), .second, .val (.long mA), .second, .val (.long xA), .second, .val (.long mB), .second, .val (.long xB), .second, .val (.long vA), .second, .val (.long vB), .second, .val (.ref b18), .val (.ref b120), .val (.ref b165), .val (.int (0 : Int32)), .val (.int (0 : Int32)), .val (.long mA), .second, .val (.long mB), .second] [(.int (lcmpW mB mB))])) _
          refine XS.ifNo X182.here hx rfl (hb hby at_253) rfl ((if0 _ _).trans (teq hc253_207).2) ?_
          show Steps p.tables e below (T182.setTop (mkF m 256 #[.val (.long q0), .second, .val (.long q1), .second, .val (.long q2), .second, .val (.long q3), .second, .val (.long q4), .second, .val (.long q5), .second, .val (.long mA), .second, .val (.long xA), .second, .val (.long mB), .second, .val (.long xB), .second, .val (.long vA), .second, .val (.long vB), .second, .val (.ref b18), .val (.ref b120), .val (.ref b165), .val (.int (0 : Int32)), .val (.int (0 : Int32)), .val (.long mA), .second, .val (.long mB), .second] [])) _
          refine XS.aload X182.here hx rfl (hb hby at_256) rfl rfl ?_
          show Steps p.tables e below (T182.setTop (mkF m 258 #[.val (.long q0), .second, .val (.long q1), .second, .val (.long q2), .second, .val (.long q3), .second, .val (.long q4), .second, .val (.long q5), .second, .val (.long mA), .second, .val (.long xA), .second, .val (.long mB), .second, .val (.long xB), .second, .val (.long vA), .second, .val (.long vB), .second, .val (.ref b18), .val (.ref b120), .val (.ref b165), .val (.int (0 : Int32)), .val (.int (0 : Int32)), .val (.long mA), .second, .val (.long mB), .second] [(.ref b165)])) _
          refine XS.iconst X182.here hx rfl (hb hby at_258) ?_
          show Steps p.tables e below (T182.setTop (mkF m 259 #[.val (.long q0), .second, .val (.long q1), .second, .val (.long q2), .second, .val (.long q3), .second, .val (.long q4), .second, .val (.long q5), .second, .val (.long mA), .second, .val (.long xA), .second, .val (.long mB), .second, .val (.long xB), .second, .val (.long vA), .second, .val (.long vB), .second, .val (.ref b18), .val (.ref b120), .val (.ref b165), .val (.int (0 : Int32)), .val (.int (0 : Int32)), .val (.long mA), .second, .val (.long mB), .second] [(.int (1 : Int32)), (.ref b165)])) _
          exact kt)
      obtain ⟨c209, Ar209, q209⟩ := id V182
      have hc263_210 : (lcmpW q4 q4) = (0 : Int32) := (lw_eq _ _).mpr rfl
      have go211 : ∀ t, Steps p.tables e below (T182.setTop (mkF m 271 #[.val (.long q0), .second, .val (.long q1), .second, .val (.long q2), .second, .val (.long q3), .second, .val (.long q4), .second, .val (.long q5), .second, .val (.long mA), .second, .val (.long xA), .second, .val (.long mB), .second, .val (.long xB), .second, .val (.long vA), .second, .val (.long vB), .second, .val (.ref b18), .val (.ref b120), .val (.ref b165), .val (.int (0 : Int32)), .val (.int (0 : Int32)), .val (.long mA), .second, .val (.long mB), .second] [(.int (1 : Int32))])) t → Steps p.tables e below (s₁.setTop (entryFrame m #[(.long q0), (.long q1), (.long q2), (.long q3), (.long q4), (.long q5)] maxLocals)) t := fun t kt => go208 t (by
          refine X182.laload hx (j := (1 : Int32)) (v := (.long q4)) Ar209.1 (State.isArrayOf_alike hZ77.alike Ar209.2.1) Ar209.2.2 (own_inb q209 (n := 3) rfl (by decide) (by decide)) (own_get q209 (i := 1) (by decide) rfl) (g := (mkF m 259 #[.val (.long q0), .second, .val (.long q1), .second, .val (.long q2), .second, .val (.long q3), .second, .val (.long q4), .second, .val (.long q5), .second, .val (.long mA), .second, .val (.long xA), .second, .val (.long mB), .second, .val (.long xB), .second, .val (.long vA), .second, .val (.long vB), .second, .val (.ref b18), .val (.ref b120), .val (.ref b165), .val (.int (0 : Int32)), .val (.int (0 : Int32)), .val (.long mA), .second, .val (.long mB), .second] [(.int (1 : Int32)), (.ref b165)])) rfl rfl (hb hby at_259) _ ?_
          show Steps p.tables e below (T182.setTop (mkF m 260 #[.val (.long q0), .second, .val (.long q1), .second, .val (.long q2), .second, .val (.long q3), .second, .val (.long q4), .second, .val (.long q5), .second, .val (.long mA), .second, .val (.long xA), .second, .val (.long mB), .second, .val (.long xB), .second, .val (.long vA), .second, .val (.long vB), .second, .val (.ref b18), .val (.ref b120), .val (.ref b165), .val (.int (0 : Int32)), .val (.int (0 : Int32)), .val (.long mA), .second, .val (.long mB), .second] [(.long q4)])) _
          refine XS.lload X182.here hx rfl (hb hby at_260) rfl ?_
          show Steps p.tables e below (T182.setTop (mkF m 262 #[.val (.long q0), .second, .val (.long q1), .second, .val (.long q2), .second, .val (.long q3), .second, .val (.long q4), .second, .val (.long q5), .second, .val (.long mA), .second, .val (.long xA), .second, .val (.long mB), .second, .val (.long xB), .second, .val (.long vA), .second, .val (.long vB), .second, .val (.ref b18), .val (.ref b120), .val (.ref b165), .val (.int (0 : Int32)), .val (.int (0 : Int32)), .val (.long mA), .second, .val (.long mB), .second] [(.long q4), (.long q4)])) _
          refine XS.lcmp X182.here hx rfl (hb hby at_262) rfl ?_
          show Steps p.tables e below (T182.setTop (mkF m 263 #[.val (.long q0), .second, .val (.long q1), .second, .val (.long q2), .second, .val (.long q3), .second, .val (.long q4), .second, .val (.long q5), .second, .val (.long mA), .second, .val (.long xA), .second, .val (.long mB), .second, .val (.long xB), .second, .val (.long vA), .second, .val (.long vB), .second, .val (.ref b18), .val (.ref b120), .val (.ref b165), .val (.int (0 : Int32)), .val (.int (0 : Int32)), .val (.long mA), .second, .val (.long mB), .second] [(.int (lcmpW q4 q4))])) _
          refine XS.ifNo X182.here hx rfl (hb hby at_263) rfl ((if0 _ _).trans (teq hc263_210).2) ?_
          show Steps p.tables e below (T182.setTop (mkF m 266 #[.val (.long q0), .second, .val (.long q1), .second, .val (.long q2), .second, .val (.long q3), .second, .val (.long q4), .second, .val (.long q5), .second, .val (.long mA), .second, .val (.long xA), .second, .val (.long mB), .second, .val (.long xB), .second, .val (.long vA), .second, .val (.long vB), .second, .val (.ref b18), .val (.ref b120), .val (.ref b165), .val (.int (0 : Int32)), .val (.int (0 : Int32)), .val (.long mA), .second, .val (.long mB), .second] [])) _
          refine XS.iconst X182.here hx rfl (hb hby at_266) ?_
          show Steps p.tables e below (T182.setTop (mkF m 267 #[.val (.long q0), .second, .val (.long q1), .second, .val (.long q2), .second, .val (.long q3), .second, .val (.long q4), .second, .val (.long q5), .second, .val (.long mA), .second, .val (.long xA), .second, .val (.long mB), .second, .val (.long xB), .second, .val (.long vA), .second, .val (.long vB), .second, .val (.ref b18), .val (.ref b120), .val (.ref b165), .val (.int (0 : Int32)), .val (.int (0 : Int32)), .val (.long mA), .second, .val (.long mB), .second] [(.int (1 : Int32))])) _
          refine XS.goto X182.here hx rfl (pc0 := 267) (pc' := 271) rfl (hb hby at_267) (by decide) (by decide) ?_
          show Steps p.tables e below (T182.setTop (mkF m 271 #[.val (.long q0), .second, .val (.long q1), .second, .val (.long q2), .second, .val (.long q3), .second, .val (.long q4), .second, .val (.long q5), .second, .val (.long mA), .second, .val (.long xA), .second, .val (.long mB), .second, .val (.long xB), .second, .val (.long vA), .second, .val (.long vB), .second, .val (.ref b18), .val (.ref b120), .val (.ref b165), .val (.int (0 : Int32)), .val (.int (0 : Int32)), .val (.long mA), .second, .val (.long mB), .second] [(.int (1 : Int32))])) _
          exact kt)
      have lc212 := (Nat.le_trans (Nat.le_trans HK77 E82.1) K91.1)
      have lc213 := (Nat.le_trans (Nat.le_trans lc212 K93.1) K106.1)
      have lc214 := (Nat.le_trans (Nat.le_trans lc213 E120.1) K132.1)
      have lc215 := (Nat.le_trans (Nat.le_trans lc214 E165.1) (Keep.of_wr W175).1)
      have lc216 := (Nat.le_trans (Nat.le_trans lc215 (Keep.of_wr W177).1) (Keep.of_wr W179).1)
      have hk217 := (Nat.le_trans lc216 K182.1)
      obtain ⟨fs, hr, hrun, hended, hEW⟩ := X182.leaveW HS77 hk217 (v := some (.int (1 : Int32))) (fun h => by rw [Bd.returns] at h; cases h)
      refine ⟨_, _, go211 _ (retN X182 hx (t := .boolean) Bd.returns (by simp) (hb hby at_271) hr), hrun, hended, _, _, rfl, ?_, hEW.1, hEW.2.1, hEW.2.2.1, hEW.2.2.2.mono (by decide) (by decide)⟩
      exact ⟨rfl, N182⟩
    · have go218 : ∀ t, Steps p.tables e below (T179.setTop (mkF m 165 #[.val (.long q0), .second, .val (.long q1), .second, .val (.long q2), .second, .val (.long q3), .second, .val (.long q4), .second, .val (.long q5), .second, .val (.long mA), .second, .val (.long xA), .second, .val (.long mB), .second, .val (.long xB), .second, .val (.long vA), .second, .val (.long vB), .second, .val (.ref b18), .val (.ref b120), .val (.ref b165), .unset, .unset, .unset, .unset, .unset, .unset] [(.ref b165), (.ref b120)])) t → Steps p.tables e below (s₁.setTop (entryFrame m #[(.long q0), (.long q1), (.long q2), (.long q3), (.long q4), (.long q5)] maxLocals)) t := fun t kt => go180 t (by
          refine XS.aload X179.here hx rfl (hb hby at_161) rfl rfl ?_
          show Steps p.tables e below (T179.setTop (mkF m 163 #[.val (.long q0), .second, .val (.long q1), .second, .val (.long q2), .second, .val (.long q3), .second, .val (.long q4), .second, .val (.long q5), .second, .val (.long mA), .second, .val (.long xA), .second, .val (.long mB), .second, .val (.long xB), .second, .val (.long vA), .second, .val (.long vB), .second, .val (.ref b18), .val (.ref b120), .val (.ref b165), .unset, .unset, .unset, .unset, .unset, .unset] [(.ref b120)])) _
          refine XS.aload X179.here hx rfl (hb hby at_163) rfl rfl ?_
          show Steps p.tables e below (T179.setTop (mkF m 165 #[.val (.long q0), .second, .val (.long q1), .second, .val (.long q2), .second, .val (.long q3), .second, .val (.long q4), .second, .val (.long q5), .second, .val (.long mA), .second, .val (.long xA), .second, .val (.long mB), .second, .val (.long xB), .second, .val (.long vA), .second, .val (.long vB), .second, .val (.ref b18), .val (.ref b120), .val (.ref b165), .unset, .unset, .unset, .unset, .unset, .unset] [(.ref b165), (.ref b120)])) _
          exact kt)
      have lc220 := (Nat.le_trans (Nat.le_trans zs166 E165.1) (Keep.of_wr W175).1)
      have zs221 := (Nat.le_trans (Nat.le_trans lc220 (Keep.of_wr W177).1) (Keep.of_wr W179).1)
      have fr222 := ((F132a.ext E165).other W175 (Or.inl ne_b120_b165))
      have fq223 := ((fr222.other W177 (Or.inl ne_b120_b165)).other W179 (Or.inl ne_b120_b165))
      have fr224 := ((F132b.ext E165).other W175 (Or.inl ne_b120_b165))
      have fq225 := ((fr224.other W177 (Or.inl ne_b120_b165)).other W179 (Or.inl ne_b120_b165))
      have fr226 := ((F132c.ext E165).other W175 (Or.inl ne_b120_b165))
      have fq227 := ((fr226.other W177 (Or.inl ne_b120_b165)).other W179 (Or.inl ne_b120_b165))
      have fr228 := ((V132a.ext E165).other W175 ne_x132_b165)
      have fq229 := ((fr228.other W177 ne_x132_b165).other W179 ne_x132_b165)
      have fr230 := ((V132b.ext E165).other W175 ne_y132_b165)
      have fq231 := ((fr230.other W177 ne_y132_b165).other W179 ne_y132_b165)
      have fr232 := ((V132c.ext E165).other W175 ne_z132_b165)
      have fq233 := ((fr232.other W177 ne_z132_b165).other W179 ne_z132_b165)
      have fr234 := ((E132x.ext E165).wr W175)
      have fq235 := ((fr234.wr W177).wr W179)
      obtain ⟨cq219, kq219, q219a, q219b, q219c⟩ := isOf hZ77 e179 fq235
      obtain ⟨_, _, ⟨T219, L219, k219, n219⟩, -, X219, ⟨Lc219, hQ219, l219, y219, z219⟩, st219⟩ := X179.virtualBack hx (y := own_m27) (z := own_m27) hown77 (mvT hZ77 (own_h hw 180 rfl)) (mvT hZ77 (own_h hw 181 rfl)) (notFace_of_selects (args := #[]) (mvT hZ77 (own_h hw 183 rfl))) (mvT hZ77 (own_h hw 183 rfl)) (mvT hZ77 (own_h hw 182 rfl)) (by decide) (backOf (W := 0) (rmX1 l Z a0 hw [] b120 b165 x132 y132 z132 mA mB xA xB vB q4 vA h179 n0 zs221 fq223 fq225 fq227 fq229 fq231 fq233 V179 gb165 ne_b120_b165 ne_x132_b165 ne_y132_b165 ne_z132_b165 c1 c2) hZ77 (own_h hw 184 rfl) (own_h hw 102 rfl) (by decide) (by decide)) q219a q219c (g := (mkF m 165 #[.val (.long q0), .second, .val (.long q1), .second, .val (.long q2), .second, .val (.long q3), .second, .val (.long q4), .second, .val (.long q5), .second, .val (.long mA), .second, .val (.long xA), .second, .val (.long mB), .second, .val (.long xB), .second, .val (.long vA), .second, .val (.long vB), .second, .val (.ref b18), .val (.ref b120), .val (.ref b165), .unset, .unset, .unset, .unset, .unset, .unset] [(.ref b165), (.ref b120)])) rfl (by rw [hml]; rfl) (Steps.refl _) (argsL := [(.ref b165)]) (rest := []) (lenOf pd_16 rfl) rfl (by show 2 * 0 + _ ≤ _; exact Nat.le_of_eq rfl) (hb hby at_165) (fun _ _ => ⟨rfl, e179, (by decide : 15 + 0 ≤ _), (by decide : 55 + 0 ≤ _)⟩)
      dsimp only [Pt.U, Pt.locs, Pt.cells, Pt.slots] at X219 l219 y219 z219 st219 hQ219
      subst y219 z219
      obtain ⟨rfl, N219q, K219, V219⟩ := hQ219
      have N219 := Fr.app N179 N219q
      rw [← l219] at N219
      have hc175_236 : (lcmpW vB xB) = (0 : Int32) := (lw_eq _ _).mpr c1
      have hc199_237 : ¬ ((lcmpW vA xA) = (0 : Int32)) := fun q => c2 ((lw_eq _ _).mp q)
      have hc233_238 : (1 : Int32) = (1 : Int32) := (by decide)
      have go239 : ∀ t, Steps p.tables e below (T219.setTop (mkF m 239 #[.val (.long q0), .second, .val (.long q1), .second, .val (.long q2), .second, .val (.long q3), .second, .val (.long q4), .second, .val (.long q5), .second, .val (.long mA), .second, .val (.long xA), .second, .val (.long mB), .second, .val (.long xB), .second, .val (.long vA), .second, .val (.long vB), .second, .val (.ref b18), .val (.ref b120), .val (.ref b165), .val (.int (1 : Int32)), .val (.int (1 : Int32)), .val (.long (vA + (1 : Int64))), .second, .val (.long mB), .second] [(.int (2 : Int32)), (.ref b165)])) t → Steps p.tables e below (s₁.setTop (entryFrame m #[(.long q0), (.long q1), (.long q2), (.long q3), (.long q4), (.long q5)] maxLocals)) t := fun t kt => go218 t (by
          refine st219.trans ?_
          show Steps p.tables e below (T219.setTop (mkF m 168 #[.val (.long q0), .second, .val (.long q1), .second, .val (.long q2), .second, .val (.long q3), .second, .val (.long q4), .second, .val (.long q5), .second, .val (.long mA), .second, .val (.long xA), .second, .val (.long mB), .second, .val (.long xB), .second, .val (.long vA), .second, .val (.long vB), .second, .val (.ref b18), .val (.ref b120), .val (.ref b165), .unset, .unset, .unset, .unset, .unset, .unset] [(.int (1 : Int32))])) _
          refine XS.istore X219.here hx rfl (hb hby at_168) rfl (l' := #[.val (.long q0), .second, .val (.long q1), .second, .val (.long q2), .second, .val (.long q3), .second, .val (.long q4), .second, .val (.long q5), .second, .val (.long mA), .second, .val (.long xA), .second, .val (.long mB), .second, .val (.long xB), .second, .val (.long vA), .second, .val (.long vB), .second, .val (.ref b18), .val (.ref b120), .val (.ref b165), .val (.int (1 : Int32)), .unset, .unset, .unset, .unset, .unset]) rfl ?_
          show Steps p.tables e below (T219.setTop (mkF m 170 #[.val (.long q0), .second, .val (.long q1), .second, .val (.long q2), .second, .val (.long q3), .second, .val (.long q4), .second, .val (.long q5), .second, .val (.long mA), .second, .val (.long xA), .second, .val (.long mB), .second, .val (.long xB), .second, .val (.long vA), .second, .val (.long vB), .second, .val (.ref b18), .val (.ref b120), .val (.ref b165), .val (.int (1 : Int32)), .unset, .unset, .unset, .unset, .unset] [])) _
          refine XS.lload X219.here hx rfl (hb hby at_170) rfl ?_
          show Steps p.tables e below (T219.setTop (mkF m 172 #[.val (.long q0), .second, .val (.long q1), .second, .val (.long q2), .second, .val (.long q3), .second, .val (.long q4), .second, .val (.long q5), .second, .val (.long mA), .second, .val (.long xA), .second, .val (.long mB), .second, .val (.long xB), .second, .val (.long vA), .second, .val (.long vB), .second, .val (.ref b18), .val (.ref b120), .val (.ref b165), .val (.int (1 : Int32)), .unset, .unset, .unset, .unset, .unset] [(.long vB)])) _
          refine XS.lload X219.here hx rfl (hb hby at_172) rfl ?_
          show Steps p.tables e below (T219.setTop (mkF m 174 #[.val (.long q0), .second, .val (.long q1), .second, .val (.long q2), .second, .val (.long q3), .second, .val (.long q4), .second, .val (.long q5), .second, .val (.long mA), .second, .val (.long xA), .second, .val (.long mB), .second, .val (.long xB), .second, .val (.long vA), .second, .val (.long vB), .second, .val (.ref b18), .val (.ref b120), .val (.ref b165), .val (.int (1 : Int32)), .unset, .unset, .unset, .unset, .unset] [(.long xB), (.long vB)])) _
          refine XS.lcmp X219.here hx rfl (hb hby at_174) rfl ?_
          show Steps p.tables e below (T219.setTop (mkF m 175 #[.val (.long q0), .second, .val (.long q1), .second, .val (.long q2), .second, .val (.long q3), .second, .val (.long q4), .second, .val (.long q5), .second, .val (.long mA), .second, .val (.long xA), .second, .val (.long mB), .second, .val (.long xB), .second, .val (.long vA), .second, .val (.long vB), .second, .val (.ref b18), .val (.ref b120), .val (.ref b165), .val (.int (1 : Int32)), .unset, .unset, .unset, .unset, .unset] [(.int (lcmpW vB xB))])) _
          refine XS.ifYes X219.here hx rfl (pc0 := 175) (pc' := 194) rfl (hb hby at_175) rfl ((if0 _ _).trans (teq hc175_236).1) (by decide) (by decide) ?_
          show Steps p.tables e below (T219.setTop (mkF m 194 #[.val (.long q0), .second, .val (.long q1), .second, .val (.long q2), .second, .val (.long q3), .second, .val (.long q4), .second, .val (.long q5), .second, .val (.long mA), .second, .val (.long xA), .second, .val (.long mB), .second, .val (.long xB), .second, .val (.long vA), .second, .val (.long vB), .second, .val (.ref b18), .val (.ref b120), .val (.ref b165), .val (.int (1 : Int32)), .unset, .unset, .unset, .unset, .unset] [])) _
          refine XS.lload X219.here hx rfl (hb hby at_194) rfl ?_
          show Steps p.tables e below (T219.setTop (mkF m 196 #[.val (.long q0), .second, .val (.long q1), .second, .val (.long q2), .second, .val (.long q3), .second, .val (.long q4), .second, .val (.long q5), .second, .val (.long mA), .second, .val (.long xA), .second, .val (.long mB), .second, .val (.long xB), .second, .val (.long vA), .second, .val (.long vB), .second, .val (.ref b18), .val (.ref b120), .val (.ref b165), .val (.int (1 : Int32)), .unset, .unset, .unset, .unset, .unset] [(.long vA)])) _
          refine XS.lload X219.here hx rfl (hb hby at_196) rfl ?_
          show Steps p.tables e below (T219.setTop (mkF m 198 #[.val (.long q0), .second, .val (.long q1), .second, .val (.long q2), .second, .val (.long q3), .second, .val (.long q4), .second, .val (.long q5), .second, .val (.long mA), .second, .val (.long xA), .second, .val (.long mB), .second, .val (.long xB), .second, .val (.long vA), .second, .val (.long vB), .second, .val (.ref b18), .val (.ref b120), .val (.ref b165), .val (.int (1 : Int32)), .unset, .unset, .unset, .unset, .unset] [(.long xA), (.long vA)])) _
          refine XS.lcmp X219.here hx rfl (hb hby at_198) rfl ?_
          show Steps p.tables e below (T219.setTop (mkF m 199 #[.val (.long q0), .second, .val (.long q1), .second, .val (.long q2), .second, .val (.long q3), .second, .val (.long q4), .second, .val (.long q5), .second, .val (.long mA), .second, .val (.long xA), .second, .val (.long mB), .second, .val (.long xB), .second, .val (.long vA), .second, .val (.long vB), .second, .val (.ref b18), .val (.ref b120), .val (.ref b165), .val (.int (1 : Int32)), .unset, .unset, .unset, .unset, .unset] [(.int (lcmpW vA xA))])) _
          refine XS.ifNo X219.here hx rfl (hb hby at_199) rfl ((if0 _ _).trans (feq hc199_237).1) ?_
          show Steps p.tables e below (T219.setTop (mkF m 202 #[.val (.long q0), .second, .val (.long q1), .second, .val (.long q2), .second, .val (.long q3), .second, .val (.long q4), .second, .val (.long q5), .second, .val (.long mA), .second, .val (.long xA), .second, .val (.long mB), .second, .val (.long xB), .second, .val (.long vA), .second, .val (.long vB), .second, .val (.ref b18), .val (.ref b120), .val (.ref b165), .val (.int (1 : Int32)), .unset, .unset, .unset, .unset, .unset] [])) _
          refine XS.iconst X219.here hx rfl (hb hby at_202) ?_
          show Steps p.tables e below (T219.setTop (mkF m 203 #[.val (.long q0), .second, .val (.long q1), .second, .val (.long q2), .second, .val (.long q3), .second, .val (.long q4), .second, .val (.long q5), .second, .val (.long mA), .second, .val (.long xA), .second, .val (.long mB), .second, .val (.long xB), .second, .val (.long vA), .second, .val (.long vB), .second, .val (.ref b18), .val (.ref b120), .val (.ref b165), .val (.int (1 : Int32)), .unset, .unset, .unset, .unset, .unset] [(.int (1 : Int32))])) _
          refine XS.istore X219.here hx rfl (hb hby at_203) rfl (l' := #[.val (.long q0), .second, .val (.long q1), .second, .val (.long q2), .second, .val (.long q3), .second, .val (.long q4), .second, .val (.long q5), .second, .val (.long mA), .second, .val (.long xA), .second, .val (.long mB), .second, .val (.long xB), .second, .val (.long vA), .second, .val (.long vB), .second, .val (.ref b18), .val (.ref b120), .val (.ref b165), .val (.int (1 : Int32)), .val (.int (1 : Int32)), .unset, .unset, .unset, .unset]) rfl ?_
          show Steps p.tables e below (T219.setTop (mkF m 205 #[.val (.long q0), .second, .val (.long q1), .second, .val (.long q2), .second, .val (.long q3), .second, .val (.long q4), .second, .val (.long q5), .second, .val (.long mA), .second, .val (.long xA), .second, .val (.long mB), .second, .val (.long xB), .second, .val (.long vA), .second, .val (.long vB), .second, .val (.ref b18), .val (.ref b120), .val (.ref b165), .val (.int (1 : Int32)), .val (.int (1 : Int32)), .unset, .unset, .unset, .unset] [])) _
          refine XS.lload X219.here hx rfl (hb hby at_205) rfl ?_
          show Steps p.tables e below (T219.setTop (mkF m 207 #[.val (.long q0), .second, .val (.long q1), .second, .val (.long q2), .second, .val (.long q3), .second, .val (.long q4), .second, .val (.long q5), .second, .val (.long mA), .second, .val (.long xA), .second, .val (.long mB), .second, .val (.long xB), .second, .val (.long vA), .second, .val (.long vB), .second, .val (.ref b18), .val (.ref b120), .val (.ref b165), .val (.int (1 : Int32)), .val (.int (1 : Int32)), .unset, .unset, .unset, .unset] [(.long vA)])) _
          refine XS.lconst X219.here hx rfl (hb hby at_207) ?_
          show Steps p.tables e below (T219.setTop (mkF m 208 #[.val (.long q0), .second, .val (.long q1), .second, .val (.long q2), .second, .val (.long q3), .second, .val (.long q4), .second, .val (.long q5), .second, .val (.long mA), .second, .val (.long xA), .second, .val (.long mB), .second, .val (.long xB), .second, .val (.long vA), .second, .val (.long vB), .second, .val (.ref b18), .val (.ref b120), .val (.ref b165), .val (.int (1 : Int32)), .val (.int (1 : Int32)), .unset, .unset, .unset, .unset] [(.long (1 : Int64)), (.long vA)])) _
          refine XS.ladd X219.here hx rfl (hb hby at_208) rfl ?_
          show Steps p.tables e below (T219.setTop (mkF m 209 #[.val (.long q0), .second, .val (.long q1), .second, .val (.long q2), .second, .val (.long q3), .second, .val (.long q4), .second, .val (.long q5), .second, .val (.long mA), .second, .val (.long xA), .second, .val (.long mB), .second, .val (.long xB), .second, .val (.long vA), .second, .val (.long vB), .second, .val (.ref b18), .val (.ref b120), .val (.ref b165), .val (.int (1 : Int32)), .val (.int (1 : Int32)), .unset, .unset, .unset, .unset] [(.long (vA + (1 : Int64)))])) _
          refine XS.lstore X219.here hx rfl (hb hby at_209) rfl (l' := #[.val (.long q0), .second, .val (.long q1), .second, .val (.long q2), .second, .val (.long q3), .second, .val (.long q4), .second, .val (.long q5), .second, .val (.long mA), .second, .val (.long xA), .second, .val (.long mB), .second, .val (.long xB), .second, .val (.long vA), .second, .val (.long vB), .second, .val (.ref b18), .val (.ref b120), .val (.ref b165), .val (.int (1 : Int32)), .val (.int (1 : Int32)), .val (.long (vA + (1 : Int64))), .second, .unset, .unset]) rfl ?_
          show Steps p.tables e below (T219.setTop (mkF m 211 #[.val (.long q0), .second, .val (.long q1), .second, .val (.long q2), .second, .val (.long q3), .second, .val (.long q4), .second, .val (.long q5), .second, .val (.long mA), .second, .val (.long xA), .second, .val (.long mB), .second, .val (.long xB), .second, .val (.long vA), .second, .val (.long vB), .second, .val (.ref b18), .val (.ref b120), .val (.ref b165), .val (.int (1 : Int32)), .val (.int (1 : Int32)), .val (.long (vA + (1 : Int64))), .second, .unset, .unset] [])) _
          refine XS.lload X219.here hx rfl (hb hby at_211) rfl ?_
          show Steps p.tables e below (T219.setTop (mkF m 213 #[.val (.long q0), .second, .val (.long q1), .second, .val (.long q2), .second, .val (.long q3), .second, .val (.long q4), .second, .val (.long q5), .second, .val (.long mA), .second, .val (.long xA), .second, .val (.long mB), .second, .val (.long xB), .second, .val (.long vA), .second, .val (.long vB), .second, .val (.ref b18), .val (.ref b120), .val (.ref b165), .val (.int (1 : Int32)), .val (.int (1 : Int32)), .val (.long (vA + (1 : Int64))), .second, .unset, .unset] [(.long mB)])) _
          refine XS.lstore X219.here hx rfl (hb hby at_213) rfl (l' := #[.val (.long q0), .second, .val (.long q1), .second, .val (.long q2), .second, .val (.long q3), .second, .val (.long q4), .second, .val (.long q5), .second, .val (.long mA), .second, .val (.long xA), .second, .val (.long mB), .second, .val (.long xB), .second, .val (.long vA), .second, .val (.long vB), .second, .val (.ref b18), .val (.ref b120), .val (.ref b165), .val (.int (1 : Int32)), .val (.int (1 : Int32)), .val (.long (vA + (1 : Int64))), .second, .val (.long mB), .second]) rfl ?_
          show Steps p.tables e below (T219.setTop (mkF m 215 #[.val (.long q0), .second, .val (.long q1), .second, .val (.long q2), .second, .val (.long q3), .second, .val (.long q4), .second, .val (.long q5), .second, .val (.long mA), .second, .val (.long xA), .second, .val (.long mB), .second, .val (.long xB), .second, .val (.long vA), .second, .val (.long vB), .second, .val (.ref b18), .val (.ref b120), .val (.ref b165), .val (.int (1 : Int32)), .val (.int (1 : Int32)), .val (.long (vA + (1 : Int64))), .second, .val (.long mB), .second] [])) _
          refine XS.goto X219.here hx rfl (pc0 := 215) (pc' := 229) rfl (hb hby at_215) (by decide) (by decide) ?_
          show Steps p.tables e below (T219.setTop (mkF m 229 #[.val (.long q0), .second, .val (.long q1), .second, .val (.long q2), .second, .val (.long q3), .second, .val (.long q4), .second, .val (.long q5), .second, .val (.long mA), .second, .val (.long xA), .second, .val (.long mB), .second, .val (.long xB), .second, .val (.long vA), .second, .val (.long vB), .second, .val (.ref b18), .val (.ref b120), .val (.ref b165), .val (.int (1 : Int32)), .val (.int (1 : Int32)), .val (.long (vA + (1 : Int64))), .second, .val (.long mB), .second] [])) _
          refine XS.iload X219.here hx rfl (hb hby at_229) rfl ?_
          show Steps p.tables e below (T219.setTop (mkF m 231 #[.val (.long q0), .second, .val (.long q1), .second, .val (.long q2), .second, .val (.long q3), .second, .val (.long q4), .second, .val (.long q5), .second, .val (.long mA), .second, .val (.long xA), .second, .val (.long mB), .second, .val (.long xB), .second, .val (.long vA), .second, .val (.long vB), .second, .val (.ref b18), .val (.ref b120), .val (.ref b165), .val (.int (1 : Int32)), .val (.int (1 : Int32)), .val (.long (vA + (1 : Int64))), .second, .val (.long mB), .second] [(.int (1 : Int32))])) _
          refine XS.iload X219.here hx rfl (hb hby at_231) rfl ?_
          show Steps p.tables e below (T219.setTop (mkF m 233 #[.val (.long q0), .second, .val (.long q1), .second, .val (.long q2), .second, .val (.long q3), .second, .val (.long q4), .second, .val (.long q5), .second, .val (.long mA), .second, .val (.long xA), .second, .val (.long mB), .second, .val (.long xB), .second, .val (.long vA), .second, .val (.long vB), .second, .val (.ref b18), .val (.ref b120), .val (.ref b165), .val (.int (1 : Int32)), .val (.int (1 : Int32)), .val (.long (vA + (1 : Int64))), .second, .val (.long mB), .second] [(.int (1 : Int32)), (.int (1 : Int32))])) _
          refine XS.icmpNo X219.here hx rfl (hb hby at_233) rfl (teq hc233_238).2 ?_
          show Steps p.tables e below (T219.setTop (mkF m 236 #[.val (.long q0), .second, .val (.long q1), .second, .val (.long q2), .second, .val (.long q3), .second, .val (.long q4), .second, .val (.long q5), .second, .val (.long mA), .second, .val (.long xA), .second, .val (.long mB), .second, .val (.long xB), .second, .val (.long vA), .second, .val (.long vB), .second, .val (.ref b18), .val (.ref b120), .val (.ref b165), .val (.int (1 : Int32)), .val (.int (1 : Int32)), .val (.long (vA + (1 : Int64))), .second, .val (.long mB), .second] [])) _
          refine XS.aload X219.here hx rfl (hb hby at_236) rfl rfl ?_
          show Steps p.tables e below (T219.setTop (mkF m 238 #[.val (.long q0), .second, .val (.long q1), .second, .val (.long q2), .second, .val (.long q3), .second, .val (.long q4), .second, .val (.long q5), .second, .val (.long mA), .second, .val (.long xA), .second, .val (.long mB), .second, .val (.long xB), .second, .val (.long vA), .second, .val (.long vB), .second, .val (.ref b18), .val (.ref b120), .val (.ref b165), .val (.int (1 : Int32)), .val (.int (1 : Int32)), .val (.long (vA + (1 : Int64))), .second, .val (.long mB), .second] [(.ref b165)])) _
          refine XS.iconst X219.here hx rfl (hb hby at_238) ?_
          show Steps p.tables e below (T219.setTop (mkF m 239 #[.val (.long q0), .second, .val (.long q1), .second, .val (.long q2), .second, .val (.long q3), .second, .val (.long q4), .second, .val (.long q5), .second, .val (.long mA), .second, .val (.long xA), .second, .val (.long mB), .second, .val (.long xB), .second, .val (.long vA), .second, .val (.long vB), .second, .val (.ref b18), .val (.ref b120), .val (.ref b165), .val (.int (1 : Int32)), .val (.int (1 : Int32)), .val (.long (vA + (1 : Int64))), .second, .val (.long mB), .second] [(.int (2 : Int32)), (.ref b165)])) _
          exact kt)
      obtain ⟨c240, Ar240, q240⟩ := id V219
      have hc243_241 : (lcmpW (vA + (1 : Int64)) (vA + (1 : Int64))) = (0 : Int32) := (lw_eq _ _).mpr rfl
      have go242 : ∀ t, Steps p.tables e below (T219.setTop (mkF m 249 #[.val (.long q0), .second, .val (.long q1), .second, .val (.long q2), .second, .val (.long q3), .second, .val (.long q4), .second, .val (.long q5), .second, .val (.long mA), .second, .val (.long xA), .second, .val (.long mB), .second, .val (.long xB), .second, .val (.long vA), .second, .val (.long vB), .second, .val (.ref b18), .val (.ref b120), .val (.ref b165), .val (.int (1 : Int32)), .val (.int (1 : Int32)), .val (.long (vA + (1 : Int64))), .second, .val (.long mB), .second] [(.int (0 : Int32)), (.ref b165)])) t → Steps p.tables e below (s₁.setTop (entryFrame m #[(.long q0), (.long q1), (.long q2), (.long q3), (.long q4), (.long q5)] maxLocals)) t := fun t kt => go239 t (by
          refine X219.laload hx (j := (2 : Int32)) (v := (.long (vA + (1 : Int64)))) Ar240.1 (State.isArrayOf_alike hZ77.alike Ar240.2.1) Ar240.2.2 (own_inb q240 (n := 3) rfl (by decide) (by decide)) (own_get q240 (i := 2) (by decide) rfl) (g := (mkF m 239 #[.val (.long q0), .second, .val (.long q1), .second, .val (.long q2), .second, .val (.long q3), .second, .val (.long q4), .second, .val (.long q5), .second, .val (.long mA), .second, .val (.long xA), .second, .val (.long mB), .second, .val (.long xB), .second, .val (.long vA), .second, .val (.long vB), .second, .val (.ref b18), .val (.ref b120), .val (.ref b165), .val (.int (1 : Int32)), .val (.int (1 : Int32)), .val (.long (vA + (1 : Int64))), .second, .val (.long mB), .second] [(.int (2 : Int32)), (.ref b165)])) rfl rfl (hb hby at_239) _ ?_
          show Steps p.tables e below (T219.setTop (mkF m 240 #[.val (.long q0), .second, .val (.long q1), .second, .val (.long q2), .second, .val (.long q3), .second, .val (.long q4), .second, .val (.long q5), .second, .val (.long mA), .second, .val (.long xA), .second, .val (.long mB), .second, .val (.long xB), .second, .val (.long vA), .second, .val (.long vB), .second, .val (.ref b18), .val (.ref b120), .val (.ref b165), .val (.int (1 : Int32)), .val (.int (1 : Int32)), .val (.long (vA + (1 : Int64))), .second, .val (.long mB), .second] [(.long (vA + (1 : Int64)))])) _
          refine XS.lload X219.here hx rfl (hb hby at_240) rfl ?_
          show Steps p.tables e below (T219.setTop (mkF m 242 #[.val (.long q0), .second, .val (.long q1), .second, .val (.long q2), .second, .val (.long q3), .second, .val (.long q4), .second, .val (.long q5), .second, .val (.long mA), .second, .val (.long xA), .second, .val (.long mB), .second, .val (.long xB), .second, .val (.long vA), .second, .val (.long vB), .second, .val (.ref b18), .val (.ref b120), .val (.ref b165), .val (.int (1 : Int32)), .val (.int (1 : Int32)), .val (.long (vA + (1 : Int64))), .second, .val (.long mB), .second] [(.long (vA + (1 : Int64))), (.long (vA + (1 : Int64)))])) _
          refine XS.lcmp X219.here hx rfl (hb hby at_242) rfl ?_
          show Steps p.tables e below (T219.setTop (mkF m 243 #[.val (.long q0), .second, .val (.long q1), .second, .val (.long q2), .second, .val (.long q3), .second, .val (.long q4), .second, .val (.long q5), .second, .val (.long mA), .second, .val (.long xA), .second, .val (.long mB), .second, .val (.long xB), .second, .val (.long vA), .second, .val (.long vB), .second, .val (.ref b18), .val (.ref b120), .val (.ref b165), .val (.int (1 : Int32)), .val (.int (1 : Int32)), .val (.long (vA + (1 : Int64))), .second, .val (.long mB), .second] [(.int (lcmpW (vA + (1 : Int64)) (vA + (1 : Int64))))])) _
          refine XS.ifNo X219.here hx rfl (hb hby at_243) rfl ((if0 _ _).trans (teq hc243_241).2) ?_
          show Steps p.tables e below (T219.setTop (mkF m 246 #[.val (.long q0), .second, .val (.long q1), .second, .val (.long q2), .second, .val (.long q3), .second, .val (.long q4), .second, .val (.long q5), .second, .val (.long mA), .second, .val (.long xA), .second, .val (.long mB), .second, .val (.long xB), .second, .val (.long vA), .second, .val (.long vB), .second, .val (.ref b18), .val (.ref b120), .val (.ref b165), .val (.int (1 : Int32)), .val (.int (1 : Int32)), .val (.long (vA + (1 : Int64))), .second, .val (.long mB), .second] [])) _
          refine XS.aload X219.here hx rfl (hb hby at_246) rfl rfl ?_
          show Steps p.tables e below (T219.setTop (mkF m 248 #[.val (.long q0), .second, .val (.long q1), .second, .val (.long q2), .second, .val (.long q3), .second, .val (.long q4), .second, .val (.long q5), .second, .val (.long mA), .second, .val (.long xA), .second, .val (.long mB), .second, .val (.long xB), .second, .val (.long vA), .second, .val (.long vB), .second, .val (.ref b18), .val (.ref b120), .val (.ref b165), .val (.int (1 : Int32)), .val (.int (1 : Int32)), .val (.long (vA + (1 : Int64))), .second, .val (.long mB), .second] [(.ref b165)])) _
          refine XS.iconst X219.here hx rfl (hb hby at_248) ?_
          show Steps p.tables e below (T219.setTop (mkF m 249 #[.val (.long q0), .second, .val (.long q1), .second, .val (.long q2), .second, .val (.long q3), .second, .val (.long q4), .second, .val (.long q5), .second, .val (.long mA), .second, .val (.long xA), .second, .val (.long mB), .second, .val (.long xB), .second, .val (.long vA), .second, .val (.long vB), .second, .val (.ref b18), .val (.ref b120), .val (.ref b165), .val (.int (1 : Int32)), .val (.int (1 : Int32)), .val (.long (vA + (1 : Int64))), .second, .val (.long mB), .second] [(.int (0 : Int32)), (.ref b165)])) _
          exact kt)
      obtain ⟨c243, Ar243, q243⟩ := id V219
      have hc253_244 : (lcmpW mB mB) = (0 : Int32) := (lw_eq _ _).mpr rfl
      have go245 : ∀ t, Steps p.tables e below (T219.setTop (mkF m 259 #[.val (.long q0), .second, .val (.long q1), .second, .val (.long q2), .second, .val (.long q3), .second, .val (.long q4), .second, .val (.long q5), .second, .val (.long mA), .second, .val (.long xA), .second, .val (.long mB), .second, .val (.long xB), .second, .val (.long vA), .second, .val (.long vB), .second, .val (.ref b18), .val (.ref b120), .val (.ref b165), .val (.int (1 : Int32)), .val (.int (1 : Int32)), .val (.long (vA + (1 : Int64))), .second, .val (.long mB), .second] [(.int (1 : Int32)), (.ref b165)])) t → Steps p.tables e below (s₁.setTop (entryFrame m #[(.long q0), (.long q1), (.long q2), (.long q3), (.long q4), (.long q5)] maxLocals)) t := fun t kt => go242 t (by
          refine X219.laload hx (j := (0 : Int32)) (v := (.long mB)) Ar243.1 (State.isArrayOf_alike hZ77.alike Ar243.2.1) Ar243.2.2 (own_inb q243 (n := 3) rfl (by decide) (by decide)) (own_get q243 (i := 0) (by decide) rfl) (g := (mkF m 249 #[.val (.long q0), .second, .val (.long q1), .second, .val (.long q2), .second, .val (.long q3), .second, .val (.long q4), .second, .val (.long q5), .second, .val (.long mA), .second, .val (.long xA), .second, .val (.long mB), .second, .val (.long xB), .second, .val (.long vA), .second, .val (.long vB), .second, .val (.ref b18), .val (.ref b120), .val (.ref b165), .val (.int (1 : Int32)), .val (.int (1 : Int32)), .val (.long (vA + (1 : Int64))), .second, .val (.long mB), .second] [(.int (0 : Int32)), (.ref b165)])) rfl rfl (hb hby at_249) _ ?_
          show Steps p.tables e below (T219.setTop (mkF m 250 #[.val (.long q0), .second, .val (.long q1), .second, .val (.long q2), .second, .val (.long q3), .second, .val (.long q4), .second, .val (.long q5), .second, .val (.long mA), .second, .val (.long xA), .second, .val (.long mB), .second, .val (.long xB), .second, .val (.long vA), .second, .val (.long vB), .second, .val (.ref b18), .val (.ref b120), .val (.ref b165), .val (.int (1 : Int32)), .val (.int (1 : Int32)), .val (.long (vA + (1 : Int64))), .second, .val (.long mB), .second] [(.long mB)])) _
          refine XS.lload X219.here hx rfl (hb hby at_250) rfl ?_
          show Steps p.tables e below (T219.setTop (mkF m 252 #[.val (.long q0), .second, .val (.long q1), .second, .val (.long q2), .second, .val (.long q3), .second, .val (.long q4), .second, .val (.long q5), .second, .val (.long mA), .second, .val (.long xA), .second, .val (.long mB), .second, .val (.long xB), .second, .val (.long vA), .second, .val (.long vB), .second, .val (.ref b18), .val (.ref b120), .val (.ref b165), .val (.int (1 : Int32)), .val (.int (1 : Int32)), .val (.long (vA + (1 : Int64))), .second, .val (.long mB), .second] [(.long mB), (.long mB)])) _
          refine XS.lcmp X219.here hx rfl (hb hby at_252) rfl ?_
          show Steps p.tables e below (T219.setTop (mkF m 253 #[.val (.long q0), .second, .val (.long q1), .second, .val (.long q2), .second, .val (.long q3), .second, .val (.long q4), .second, .val (.long q5), .second, .val (.long mA), .second, .val (.long xA), .second, .val (.long mB), .second, .val (.long xB), .second, .val (.long vA), .second, .val (.long vB), .second, .val (.ref b18), .val (.ref b120), .val (.ref b165), .val (.int (1 : Int32)), .val (.int (1 : Int32)), .val (.long (vA + (1 : Int64))), .second, .val (.long mB), .second] [(.int (lcmpW mB mB))])) _
          refine XS.ifNo X219.here hx rfl (hb hby at_253) rfl ((if0 _ _).trans (teq hc253_244).2) ?_
          show Steps p.tables e below (T219.setTop (mkF m 256 #[.val (.long q0), .second, .val (.long q1), .second, .val (.long q2), .second, .val (.long q3), .second, .val (.long q4), .second, .val (.long q5), .second, .val (.long mA), .second, .val (.long xA), .second, .val (.long mB), .second, .val (.long xB), .second, .val (.long vA), .second, .val (.long vB), .second, .val (.ref b18), .val (.ref b120), .val (.ref b165), .val (.int (1 : Int32)), .val (.int (1 : Int32)), .val (.long (vA + (1 : Int64))), .second, .val (.long mB), .second] [])) _
          refine XS.aload X219.here hx rfl (hb hby at_256) rfl rfl ?_
          show Steps p.tables e below (T219.setTop (mkF m 258 #[.val (.long q0), .second, .val (.long q1), .second, .val (.long q2), .second, .val (.long q3), .second, .val (.long q4), .second, .val (.long q5), .second, .val (.long mA), .second, .val (.long xA), .second, .val (.long mB), .second, .val (.long xB), .second, .val (.long vA), .second, .val (.long vB), .second, .val (.ref b18), .val (.ref b120), .val (.ref b165), .val (.int (1 : Int32)), .val (.int (1 : Int32)), .val (.long (vA + (1 : Int64))), .second, .val (.long mB), .second] [(.ref b165)])) _
          refine XS.iconst X219.here hx rfl (hb hby at_258) ?_
          show Steps p.tables e below (T219.setTop (mkF m 259 #[.val (.long q0), .second, .val (.long q1), .second, .val (.long q2), .second, .val (.long q3), .second, .val (.long q4), .second, .val (.long q5), .second, .val (.long mA), .second, .val (.long xA), .second, .val (.long mB), .second, .val (.long xB), .second, .val (.long vA), .second, .val (.long vB), .second, .val (.ref b18), .val (.ref b120), .val (.ref b165), .val (.int (1 : Int32)), .val (.int (1 : Int32)), .val (.long (vA + (1 : Int64))), .second, .val (.long mB), .second] [(.int (1 : Int32)), (.ref b165)])) _
          exact kt)
      obtain ⟨c246, Ar246, q246⟩ := id V219
      have hc263_247 : (lcmpW q4 q4) = (0 : Int32) := (lw_eq _ _).mpr rfl
      have go248 : ∀ t, Steps p.tables e below (T219.setTop (mkF m 271 #[.val (.long q0), .second, .val (.long q1), .second, .val (.long q2), .second, .val (.long q3), .second, .val (.long q4), .second, .val (.long q5), .second, .val (.long mA), .second, .val (.long xA), .second, .val (.long mB), .second, .val (.long xB), .second, .val (.long vA), .second, .val (.long vB), .second, .val (.ref b18), .val (.ref b120), .val (.ref b165), .val (.int (1 : Int32)), .val (.int (1 : Int32)), .val (.long (vA + (1 : Int64))), .second, .val (.long mB), .second] [(.int (1 : Int32))])) t → Steps p.tables e below (s₁.setTop (entryFrame m #[(.long q0), (.long q1), (.long q2), (.long q3), (.long q4), (.long q5)] maxLocals)) t := fun t kt => go245 t (by
          refine X219.laload hx (j := (1 : Int32)) (v := (.long q4)) Ar246.1 (State.isArrayOf_alike hZ77.alike Ar246.2.1) Ar246.2.2 (own_inb q246 (n := 3) rfl (by decide) (by decide)) (own_get q246 (i := 1) (by decide) rfl) (g := (mkF m 259 #[.val (.long q0), .second, .val (.long q1), .second, .val (.long q2), .second, .val (.long q3), .second, .val (.long q4), .second, .val (.long q5), .second, .val (.long mA), .second, .val (.long xA), .second, .val (.long mB), .second, .val (.long xB), .second, .val (.long vA), .second, .val (.long vB), .second, .val (.ref b18), .val (.ref b120), .val (.ref b165), .val (.int (1 : Int32)), .val (.int (1 : Int32)), .val (.long (vA + (1 : Int64))), .second, .val (.long mB), .second] [(.int (1 : Int32)), (.ref b165)])) rfl rfl (hb hby at_259) _ ?_
          show Steps p.tables e below (T219.setTop (mkF m 260 #[.val (.long q0), .second, .val (.long q1), .second, .val (.long q2), .second, .val (.long q3), .second, .val (.long q4), .second, .val (.long q5), .second, .val (.long mA), .second, .val (.long xA), .second, .val (.long mB), .second, .val (.long xB), .second, .val (.long vA), .second, .val (.long vB), .second, .val (.ref b18), .val (.ref b120), .val (.ref b165), .val (.int (1 : Int32)), .val (.int (1 : Int32)), .val (.long (vA + (1 : Int64))), .second, .val (.long mB), .second] [(.long q4)])) _
          refine XS.lload X219.here hx rfl (hb hby at_260) rfl ?_
          show Steps p.tables e below (T219.setTop (mkF m 262 #[.val (.long q0), .second, .val (.long q1), .second, .val (.long q2), .second, .val (.long q3), .second, .val (.long q4), .second, .val (.long q5), .second, .val (.long mA), .second, .val (.long xA), .second, .val (.long mB), .second, .val (.long xB), .second, .val (.long vA), .second, .val (.long vB), .second, .val (.ref b18), .val (.ref b120), .val (.ref b165), .val (.int (1 : Int32)), .val (.int (1 : Int32)), .val (.long (vA + (1 : Int64))), .second, .val (.long mB), .second] [(.long q4), (.long q4)])) _
          refine XS.lcmp X219.here hx rfl (hb hby at_262) rfl ?_
          show Steps p.tables e below (T219.setTop (mkF m 263 #[.val (.long q0), .second, .val (.long q1), .second, .val (.long q2), .second, .val (.long q3), .second, .val (.long q4), .second, .val (.long q5), .second, .val (.long mA), .second, .val (.long xA), .second, .val (.long mB), .second, .val (.long xB), .second, .val (.long vA), .second, .val (.long vB), .second, .val (.ref b18), .val (.ref b120), .val (.ref b165), .val (.int (1 : Int32)), .val (.int (1 : Int32)), .val (.long (vA + (1 : Int64))), .second, .val (.long mB), .second] [(.int (lcmpW q4 q4))])) _
          refine XS.ifNo X219.here hx rfl (hb hby at_263) rfl ((if0 _ _).trans (teq hc263_247).2) ?_
          show Steps p.tables e below (T219.setTop (mkF m 266 #[.val (.long q0), .second, .val (.long q1), .second, .val (.long q2), .second, .val (.long q3), .second, .val (.long q4), .second, .val (.long q5), .second, .val (.long mA), .second, .val (.long xA), .second, .val (.long mB), .second, .val (.long xB), .second, .val (.long vA), .second, .val (.long vB), .second, .val (.ref b18), .val (.ref b120), .val (.ref b165), .val (.int (1 : Int32)), .val (.int (1 : Int32)), .val (.long (vA + (1 : Int64))), .second, .val (.long mB), .second] [])) _
          refine XS.iconst X219.here hx rfl (hb hby at_266) ?_
          show Steps p.tables e below (T219.setTop (mkF m 267 #[.val (.long q0), .second, .val (.long q1), .second, .val (.long q2), .second, .val (.long q3), .second, .val (.long q4), .second, .val (.long q5), .second, .val (.long mA), .second, .val (.long xA), .second, .val (.long mB), .second, .val (.long xB), .second, .val (.long vA), .second, .val (.long vB), .second, .val (.ref b18), .val (.ref b120), .val (.ref b165), .val (.int (1 : Int32)), .val (.int (1 : Int32)), .val (.long (vA + (1 : Int64))), .second, .val (.long mB), .second] [(.int (1 : Int32))])) _
          refine XS.goto X219.here hx rfl (pc0 := 267) (pc' := 271) rfl (hb hby at_267) (by decide) (by decide) ?_
          show Steps p.tables e below (T219.setTop (mkF m 271 #[.val (.long q0), .second, .val (.long q1), .second, .val (.long q2), .second, .val (.long q3), .second, .val (.long q4), .second, .val (.long q5), .second, .val (.long mA), .second, .val (.long xA), .second, .val (.long mB), .second, .val (.long xB), .second, .val (.long vA), .second, .val (.long vB), .second, .val (.ref b18), .val (.ref b120), .val (.ref b165), .val (.int (1 : Int32)), .val (.int (1 : Int32)), .val (.long (vA + (1 : Int64))), .second, .val (.long mB), .second] [(.int (1 : Int32))])) _
          exact kt)
      have lc249 := (Nat.le_trans (Nat.le_trans HK77 E82.1) K91.1)
      have lc250 := (Nat.le_trans (Nat.le_trans lc249 K93.1) K106.1)
      have lc251 := (Nat.le_trans (Nat.le_trans lc250 E120.1) K132.1)
      have lc252 := (Nat.le_trans (Nat.le_trans lc251 E165.1) (Keep.of_wr W175).1)
      have lc253 := (Nat.le_trans (Nat.le_trans lc252 (Keep.of_wr W177).1) (Keep.of_wr W179).1)
      have hk254 := (Nat.le_trans lc253 K219.1)
      obtain ⟨fs, hr, hrun, hended, hEW⟩ := X219.leaveW HS77 hk254 (v := some (.int (1 : Int32))) (fun h => by rw [Bd.returns] at h; cases h)
      refine ⟨_, _, go248 _ (retN X219 hx (t := .boolean) Bd.returns (by simp) (hb hby at_271) hr), hrun, hended, _, _, rfl, ?_, hEW.1, hEW.2.1, hEW.2.2.1, hEW.2.2.2.mono (by decide) (by decide)⟩
      exact ⟨rfl, N219⟩
  · have go255 : ∀ t, Steps p.tables e below (T179.setTop (mkF m 165 #[.val (.long q0), .second, .val (.long q1), .second, .val (.long q2), .second, .val (.long q3), .second, .val (.long q4), .second, .val (.long q5), .second, .val (.long mA), .second, .val (.long xA), .second, .val (.long mB), .second, .val (.long xB), .second, .val (.long vA), .second, .val (.long vB), .second, .val (.ref b18), .val (.ref b120), .val (.ref b165), .unset, .unset, .unset, .unset, .unset, .unset] [(.ref b165), (.ref b120)])) t → Steps p.tables e below (s₁.setTop (entryFrame m #[(.long q0), (.long q1), (.long q2), (.long q3), (.long q4), (.long q5)] maxLocals)) t := fun t kt => go180 t (by
        refine XS.aload X179.here hx rfl (hb hby at_161) rfl rfl ?_
        show Steps p.tables e below (T179.setTop (mkF m 163 #[.val (.long q0), .second, .val (.long q1), .second, .val (.long q2), .second, .val (.long q3), .second, .val (.long q4), .second, .val (.long q5), .second, .val (.long mA), .second, .val (.long xA), .second, .val (.long mB), .second, .val (.long xB), .second, .val (.long vA), .second, .val (.long vB), .second, .val (.ref b18), .val (.ref b120), .val (.ref b165), .unset, .unset, .unset, .unset, .unset, .unset] [(.ref b120)])) _
        refine XS.aload X179.here hx rfl (hb hby at_163) rfl rfl ?_
        show Steps p.tables e below (T179.setTop (mkF m 165 #[.val (.long q0), .second, .val (.long q1), .second, .val (.long q2), .second, .val (.long q3), .second, .val (.long q4), .second, .val (.long q5), .second, .val (.long mA), .second, .val (.long xA), .second, .val (.long mB), .second, .val (.long xB), .second, .val (.long vA), .second, .val (.long vB), .second, .val (.ref b18), .val (.ref b120), .val (.ref b165), .unset, .unset, .unset, .unset, .unset, .unset] [(.ref b165), (.ref b120)])) _
        exact kt)
    have lc257 := (Nat.le_trans (Nat.le_trans zs166 E165.1) (Keep.of_wr W175).1)
    have zs258 := (Nat.le_trans (Nat.le_trans lc257 (Keep.of_wr W177).1) (Keep.of_wr W179).1)
    have fr259 := ((F132a.ext E165).other W175 (Or.inl ne_b120_b165))
    have fq260 := ((fr259.other W177 (Or.inl ne_b120_b165)).other W179 (Or.inl ne_b120_b165))
    have fr261 := ((F132b.ext E165).other W175 (Or.inl ne_b120_b165))
    have fq262 := ((fr261.other W177 (Or.inl ne_b120_b165)).other W179 (Or.inl ne_b120_b165))
    have fr263 := ((F132c.ext E165).other W175 (Or.inl ne_b120_b165))
    have fq264 := ((fr263.other W177 (Or.inl ne_b120_b165)).other W179 (Or.inl ne_b120_b165))
    have fr265 := ((V132a.ext E165).other W175 ne_x132_b165)
    have fq266 := ((fr265.other W177 ne_x132_b165).other W179 ne_x132_b165)
    have fr267 := ((V132b.ext E165).other W175 ne_y132_b165)
    have fq268 := ((fr267.other W177 ne_y132_b165).other W179 ne_y132_b165)
    have fr269 := ((V132c.ext E165).other W175 ne_z132_b165)
    have fq270 := ((fr269.other W177 ne_z132_b165).other W179 ne_z132_b165)
    have fr271 := ((E132x.ext E165).wr W175)
    have fq272 := ((fr271.wr W177).wr W179)
    obtain ⟨cq256, kq256, q256a, q256b, q256c⟩ := isOf hZ77 e179 fq272
    obtain ⟨_, _, ⟨T256, L256, k256, n256⟩, -, X256, ⟨Lc256, hQ256, l256, y256, z256⟩, st256⟩ := X179.virtualBack hx (y := own_m27) (z := own_m27) hown77 (mvT hZ77 (own_h hw 180 rfl)) (mvT hZ77 (own_h hw 181 rfl)) (notFace_of_selects (args := #[]) (mvT hZ77 (own_h hw 183 rfl))) (mvT hZ77 (own_h hw 183 rfl)) (mvT hZ77 (own_h hw 182 rfl)) (by decide) (backOf (W := 0) (rmX0 l Z a0 hw [] b120 b165 x132 y132 z132 mA mB xA xB vB q4 vA h179 n0 zs258 fq260 fq262 fq264 fq266 fq268 fq270 V179 gb165 ne_b120_b165 ne_x132_b165 ne_y132_b165 ne_z132_b165 c1 trivial) hZ77 (own_h hw 184 rfl) (own_h hw 102 rfl) (by decide) (by decide)) q256a q256c (g := (mkF m 165 #[.val (.long q0), .second, .val (.long q1), .second, .val (.long q2), .second, .val (.long q3), .second, .val (.long q4), .second, .val (.long q5), .second, .val (.long mA), .second, .val (.long xA), .second, .val (.long mB), .second, .val (.long xB), .second, .val (.long vA), .second, .val (.long vB), .second, .val (.ref b18), .val (.ref b120), .val (.ref b165), .unset, .unset, .unset, .unset, .unset, .unset] [(.ref b165), (.ref b120)])) rfl (by rw [hml]; rfl) (Steps.refl _) (argsL := [(.ref b165)]) (rest := []) (lenOf pd_16 rfl) rfl (by show 2 * 0 + _ ≤ _; exact Nat.le_of_eq rfl) (hb hby at_165) (fun _ _ => ⟨rfl, e179, (by decide : 15 + 0 ≤ _), (by decide : 55 + 0 ≤ _)⟩)
    dsimp only [Pt.U, Pt.locs, Pt.cells, Pt.slots] at X256 l256 y256 z256 st256 hQ256
    subst y256 z256
    obtain ⟨rfl, N256q, K256, V256⟩ := hQ256
    have N256 := Fr.app N179 N256q
    rw [← l256] at N256
    have hc175_273 : ¬ ((lcmpW vB xB) = (0 : Int32)) := fun q => c1 ((lw_eq _ _).mp q)
    have hc233_274 : (1 : Int32) = (1 : Int32) := (by decide)
    have go275 : ∀ t, Steps p.tables e below (T256.setTop (mkF m 239 #[.val (.long q0), .second, .val (.long q1), .second, .val (.long q2), .second, .val (.long q3), .second, .val (.long q4), .second, .val (.long q5), .second, .val (.long mA), .second, .val (.long xA), .second, .val (.long mB), .second, .val (.long xB), .second, .val (.long vA), .second, .val (.long vB), .second, .val (.ref b18), .val (.ref b120), .val (.ref b165), .val (.int (1 : Int32)), .val (.int (1 : Int32)), .val (.long vA), .second, .val (.long (vB + (1 : Int64))), .second] [(.int (2 : Int32)), (.ref b165)])) t → Steps p.tables e below (s₁.setTop (entryFrame m #[(.long q0), (.long q1), (.long q2), (.long q3), (.long q4), (.long q5)] maxLocals)) t := fun t kt => go255 t (by
        refine st256.trans ?_
        show Steps p.tables e below (T256.setTop (mkF m 168 #[.val (.long q0), .second, .val (.long q1), .second, .val (.long q2), .second, .val (.long q3), .second, .val (.long q4), .second, .val (.long q5), .second, .val (.long mA), .second, .val (.long xA), .second, .val (.long mB), .second, .val (.long xB), .second, .val (.long vA), .second, .val (.long vB), .second, .val (.ref b18), .val (.ref b120), .val (.ref b165), .unset, .unset, .unset, .unset, .unset, .unset] [(.int (1 : Int32))])) _
        refine XS.istore X256.here hx rfl (hb hby at_168) rfl (l' := #[.val (.long q0), .second, .val (.long q1), .second, .val (.long q2), .second, .val (.long q3), .second, .val (.long q4), .second, .val (.long q5), .second, .val (.long mA), .second, .val (.long xA), .second, .val (.long mB), .second, .val (.long xB), .second, .val (.long vA), .second, .val (.long vB), .second, .val (.ref b18), .val (.ref b120), .val (.ref b165), .val (.int (1 : Int32)), .unset, .unset, .unset, .unset, .unset]) rfl ?_
        show Steps p.tables e below (T256.setTop (mkF m 170 #[.val (.long q0), .second, .val (.long q1), .second, .val (.long q2), .second, .val (.long q3), .second, .val (.long q4), .second, .val (.long q5), .second, .val (.long mA), .second, .val (.long xA), .second, .val (.long mB), .second, .val (.long xB), .second, .val (.long vA), .second, .val (.long vB), .second, .val (.ref b18), .val (.ref b120), .val (.ref b165), .val (.int (1 : Int32)), .unset, .unset, .unset, .unset, .unset] [])) _
        refine XS.lload X256.here hx rfl (hb hby at_170) rfl ?_
        show Steps p.tables e below (T256.setTop (mkF m 172 #[.val (.long q0), .second, .val (.long q1), .second, .val (.long q2), .second, .val (.long q3), .second, .val (.long q4), .second, .val (.long q5), .second, .val (.long mA), .second, .val (.long xA), .second, .val (.long mB), .second, .val (.long xB), .second, .val (.long vA), .second, .val (.long vB), .second, .val (.ref b18), .val (.ref b120), .val (.ref b165), .val (.int (1 : Int32)), .unset, .unset, .unset, .unset, .unset] [(.long vB)])) _
        refine XS.lload X256.here hx rfl (hb hby at_172) rfl ?_
        show Steps p.tables e below (T256.setTop (mkF m 174 #[.val (.long q0), .second, .val (.long q1), .second, .val (.long q2), .second, .val (.long q3), .second, .val (.long q4), .second, .val (.long q5), .second, .val (.long mA), .second, .val (.long xA), .second, .val (.long mB), .second, .val (.long xB), .second, .val (.long vA), .second, .val (.long vB), .second, .val (.ref b18), .val (.ref b120), .val (.ref b165), .val (.int (1 : Int32)), .unset, .unset, .unset, .unset, .unset] [(.long xB), (.long vB)])) _
        refine XS.lcmp X256.here hx rfl (hb hby at_174) rfl ?_
        show Steps p.tables e below (T256.setTop (mkF m 175 #[.val (.long q0), .second, .val (.long q1), .second, .val (.long q2), .second, .val (.long q3), .second, .val (.long q4), .second, .val (.long q5), .second, .val (.long mA), .second, .val (.long xA), .second, .val (.long mB), .second, .val (.long xB), .second, .val (.long vA), .second, .val (.long vB), .second, .val (.ref b18), .val (.ref b120), .val (.ref b165), .val (.int (1 : Int32)), .unset, .unset, .unset, .unset, .unset] [(.int (lcmpW vB xB))])) _
        refine XS.ifNo X256.here hx rfl (hb hby at_175) rfl ((if0 _ _).trans (feq hc175_273).1) ?_
        show Steps p.tables e below (T256.setTop (mkF m 178 #[.val (.long q0), .second, .val (.long q1), .second, .val (.long q2), .second, .val (.long q3), .second, .val (.long q4), .second, .val (.long q5), .second, .val (.long mA), .second, .val (.long xA), .second, .val (.long mB), .second, .val (.long xB), .second, .val (.long vA), .second, .val (.long vB), .second, .val (.ref b18), .val (.ref b120), .val (.ref b165), .val (.int (1 : Int32)), .unset, .unset, .unset, .unset, .unset] [])) _
        refine XS.iconst X256.here hx rfl (hb hby at_178) ?_
        show Steps p.tables e below (T256.setTop (mkF m 179 #[.val (.long q0), .second, .val (.long q1), .second, .val (.long q2), .second, .val (.long q3), .second, .val (.long q4), .second, .val (.long q5), .second, .val (.long mA), .second, .val (.long xA), .second, .val (.long mB), .second, .val (.long xB), .second, .val (.long vA), .second, .val (.long vB), .second, .val (.ref b18), .val (.ref b120), .val (.ref b165), .val (.int (1 : Int32)), .unset, .unset, .unset, .unset, .unset] [(.int (1 : Int32))])) _
        refine XS.istore X256.here hx rfl (hb hby at_179) rfl (l' := #[.val (.long q0), .second, .val (.long q1), .second, .val (.long q2), .second, .val (.long q3), .second, .val (.long q4), .second, .val (.long q5), .second, .val (.long mA), .second, .val (.long xA), .second, .val (.long mB), .second, .val (.long xB), .second, .val (.long vA), .second, .val (.long vB), .second, .val (.ref b18), .val (.ref b120), .val (.ref b165), .val (.int (1 : Int32)), .val (.int (1 : Int32)), .unset, .unset, .unset, .unset]) rfl ?_
        show Steps p.tables e below (T256.setTop (mkF m 181 #[.val (.long q0), .second, .val (.long q1), .second, .val (.long q2), .second, .val (.long q3), .second, .val (.long q4), .second, .val (.long q5), .second, .val (.long mA), .second, .val (.long xA), .second, .val (.long mB), .second, .val (.long xB), .second, .val (.long vA), .second, .val (.long vB), .second, .val (.ref b18), .val (.ref b120), .val (.ref b165), .val (.int (1 : Int32)), .val (.int (1 : Int32)), .unset, .unset, .unset, .unset] [])) _
        refine XS.lload X256.here hx rfl (hb hby at_181) rfl ?_
        show Steps p.tables e below (T256.setTop (mkF m 183 #[.val (.long q0), .second, .val (.long q1), .second, .val (.long q2), .second, .val (.long q3), .second, .val (.long q4), .second, .val (.long q5), .second, .val (.long mA), .second, .val (.long xA), .second, .val (.long mB), .second, .val (.long xB), .second, .val (.long vA), .second, .val (.long vB), .second, .val (.ref b18), .val (.ref b120), .val (.ref b165), .val (.int (1 : Int32)), .val (.int (1 : Int32)), .unset, .unset, .unset, .unset] [(.long vA)])) _
        refine XS.lstore X256.here hx rfl (hb hby at_183) rfl (l' := #[.val (.long q0), .second, .val (.long q1), .second, .val (.long q2), .second, .val (.long q3), .second, .val (.long q4), .second, .val (.long q5), .second, .val (.long mA), .second, .val (.long xA), .second, .val (.long mB), .second, .val (.long xB), .second, .val (.long vA), .second, .val (.long vB), .second, .val (.ref b18), .val (.ref b120), .val (.ref b165), .val (.int (1 : Int32)), .val (.int (1 : Int32)), .val (.long vA), .second, .unset, .unset]) rfl ?_
        show Steps p.tables e below (T256.setTop (mkF m 185 #[.val (.long q0), .second, .val (.long q1), .second, .val (.long q2), .second, .val (.long q3), .second, .val (.long q4), .second, .val (.long q5), .second, .val (.long mA), .second, .val (.long xA), .second, .val (.long mB), .second, .val (.long xB), .second, .val (.long vA), .second, .val (.long vB), .second, .val (.ref b18), .val (.ref b120), .val (.ref b165), .val (.int (1 : Int32)), .val (.int (1 : Int32)), .val (.long vA), .second, .unset, .unset] [])) _
        refine XS.lload X256.here hx rfl (hb hby at_185) rfl ?_
        show Steps p.tables e below (T256.setTop (mkF m 187 #[.val (.long q0), .second, .val (.long q1), .second, .val (.long q2), .second, .val (.long q3), .second, .val (.long q4), .second, .val (.long q5), .second, .val (.long mA), .second, .val (.long xA), .second, .val (.long mB), .second, .val (.long xB), .second, .val (.long vA), .second, .val (.long vB), .second, .val (.ref b18), .val (.ref b120), .val (.ref b165), .val (.int (1 : Int32)), .val (.int (1 : Int32)), .val (.long vA), .second, .unset, .unset] [(.long vB)])) _
        refine XS.lconst X256.here hx rfl (hb hby at_187) ?_
        show Steps p.tables e below (T256.setTop (mkF m 188 #[.val (.long q0), .second, .val (.long q1), .second, .val (.long q2), .second, .val (.long q3), .second, .val (.long q4), .second, .val (.long q5), .second, .val (.long mA), .second, .val (.long xA), .second, .val (.long mB), .second, .val (.long xB), .second, .val (.long vA), .second, .val (.long vB), .second, .val (.ref b18), .val (.ref b120), .val (.ref b165), .val (.int (1 : Int32)), .val (.int (1 : Int32)), .val (.long vA), .second, .unset, .unset] [(.long (1 : Int64)), (.long vB)])) _
        refine XS.ladd X256.here hx rfl (hb hby at_188) rfl ?_
        show Steps p.tables e below (T256.setTop (mkF m 189 #[.val (.long q0), .second, .val (.long q1), .second, .val (.long q2), .second, .val (.long q3), .second, .val (.long q4), .second, .val (.long q5), .second, .val (.long mA), .second, .val (.long xA), .second, .val (.long mB), .second, .val (.long xB), .second, .val (.long vA), .second, .val (.long vB), .second, .val (.ref b18), .val (.ref b120), .val (.ref b165), .val (.int (1 : Int32)), .val (.int (1 : Int32)), .val (.long vA), .second, .unset, .unset] [(.long (vB + (1 : Int64)))])) _
        refine XS.lstore X256.here hx rfl (hb hby at_189) rfl (l' := #[.val (.long q0), .second, .val (.long q1), .second, .val (.long q2), .second, .val (.long q3), .second, .val (.long q4), .second, .val (.long q5), .second, .val (.long mA), .second, .val (.long xA), .second, .val (.long mB), .second, .val (.long xB), .second, .val (.long vA), .second, .val (.long vB), .second, .val (.ref b18), .val (.ref b120), .val (.ref b165), .val (.int (1 : Int32)), .val (.int (1 : Int32)), .val (.long vA), .second, .val (.long (vB + (1 : Int64))), .second]) rfl ?_
        show Steps p.tables e below (T256.setTop (mkF m 191 #[.val (.long q0), .second, .val (.long q1), .second, .val (.long q2), .second, .val (.long q3), .second, .val (.long q4), .second, .val (.long q5), .second, .val (.long mA), .second, .val (.long xA), .second, .val (.long mB), .second, .val (.long xB), .second, .val (.long vA), .second, .val (.long vB), .second, .val (.ref b18), .val (.ref b120), .val (.ref b165), .val (.int (1 : Int32)), .val (.int (1 : Int32)), .val (.long vA), .second, .val (.long (vB + (1 : Int64))), .second] [])) _
        refine XS.goto X256.here hx rfl (pc0 := 191) (pc' := 229) rfl (hb hby at_191) (by decide) (by decide) ?_
        show Steps p.tables e below (T256.setTop (mkF m 229 #[.val (.long q0), .second, .val (.long q1), .second, .val (.long q2), .second, .val (.long q3), .second, .val (.long q4), .second, .val (.long q5), .second, .val (.long mA), .second, .val (.long xA), .second, .val (.long mB), .second, .val (.long xB), .second, .val (.long vA), .second, .val (.long vB), .second, .val (.ref b18), .val (.ref b120), .val (.ref b165), .val (.int (1 : Int32)), .val (.int (1 : Int32)), .val (.long vA), .second, .val (.long (vB + (1 : Int64))), .second] [])) _
        refine XS.iload X256.here hx rfl (hb hby at_229) rfl ?_
        show Steps p.tables e below (T256.setTop (mkF m 231 #[.val (.long q0), .second, .val (.long q1), .second, .val (.long q2), .second, .val (.long q3), .second, .val (.long q4), .second, .val (.long q5), .second, .val (.long mA), .second, .val (.long xA), .second, .val (.long mB), .second, .val (.long xB), .second, .val (.long vA), .second, .val (.long vB), .second, .val (.ref b18), .val (.ref b120), .val (.ref b165), .val (.int (1 : Int32)), .val (.int (1 : Int32)), .val (.long vA), .second, .val (.long (vB + (1 : Int64))), .second] [(.int (1 : Int32))])) _
        refine XS.iload X256.here hx rfl (hb hby at_231) rfl ?_
        show Steps p.tables e below (T256.setTop (mkF m 233 #[.val (.long q0), .second, .val (.long q1), .second, .val (.long q2), .second, .val (.long q3), .second, .val (.long q4), .second, .val (.long q5), .second, .val (.long mA), .second, .val (.long xA), .second, .val (.long mB), .second, .val (.long xB), .second, .val (.long vA), .second, .val (.long vB), .second, .val (.ref b18), .val (.ref b120), .val (.ref b165), .val (.int (1 : Int32)), .val (.int (1 : Int32)), .val (.long vA), .second, .val (.long (vB + (1 : Int64))), .second] [(.int (1 : Int32)), (.int (1 : Int32))])) _
        refine XS.icmpNo X256.here hx rfl (hb hby at_233) rfl (teq hc233_274).2 ?_
        show Steps p.tables e below (T256.setTop (mkF m 236 #[.val (.long q0), .second, .val (.long q1), .second, .val (.long q2), .second, .val (.long q3), .second, .val (.long q4), .second, .val (.long q5), .second, .val (.long mA), .second, .val (.long xA), .second, .val (.long mB), .second, .val (.long xB), .second, .val (.long vA), .second, .val (.long vB), .second, .val (.ref b18), .val (.ref b120), .val (.ref b165), .val (.int (1 : Int32)), .val (.int (1 : Int32)), .val (.long vA), .second, .val (.long (vB + (1 : Int64))), .second] [])) _
        refine XS.aload X256.here hx rfl (hb hby at_236) rfl rfl ?_
        show Steps p.tables e below (T256.setTop (mkF m 238 #[.val (.long q0), .second, .val (.long q1), .second, .val (.long q2), .second, .val (.long q3), .second, .val (.long q4), .second, .val (.long q5), .second, .val (.long mA), .second, .val (.long xA), .second, .val (.long mB), .second, .val (.long xB), .second, .val (.long vA), .second, .val (.long vB), .second, .val (.ref b18), .val (.ref b120), .val (.ref b165), .val (.int (1 : Int32)), .val (.int (1 : Int32)), .val (.long vA), .second, .val (.long (vB + (1 : Int64))), .second] [(.ref b165)])) _
        refine XS.iconst X256.here hx rfl (hb hby at_238) ?_
        show Steps p.tables e below (T256.setTop (mkF m 239 #[.val (.long q0), .second, .val (.long q1), .second, .val (.long q2), .second, .val (.long q3), .second, .val (.long q4), .second, .val (.long q5), .second, .val (.long mA), .second, .val (.long xA), .second, .val (.long mB), .second, .val (.long xB), .second, .val (.long vA), .second, .val (.long vB), .second, .val (.ref b18), .val (.ref b120), .val (.ref b165), .val (.int (1 : Int32)), .val (.int (1 : Int32)), .val (.long vA), .second, .val (.long (vB + (1 : Int64))), .second] [(.int (2 : Int32)), (.ref b165)])) _
        exact kt)
    obtain ⟨c276, Ar276, q276⟩ := id V256
    have hc243_277 : (lcmpW vA vA) = (0 : Int32) := (lw_eq _ _).mpr rfl
    have go278 : ∀ t, Steps p.tables e below (T256.setTop (mkF m 249 #[.val (.long q0), .second, .val (.long q1), .second, .val (.long q2), .second, .val (.long q3), .second, .val (.long q4), .second, .val (.long q5), .second, .val (.long mA), .second, .val (.long xA), .second, .val (.long mB), .second, .val (.long xB), .second, .val (.long vA), .second, .val (.long vB), .second, .val (.ref b18), .val (.ref b120), .val (.ref b165), .val (.int (1 : Int32)), .val (.int (1 : Int32)), .val (.long vA), .second, .val (.long (vB + (1 : Int64))), .second] [(.int (0 : Int32)), (.ref b165)])) t → Steps p.tables e below (s₁.setTop (entryFrame m #[(.long q0), (.long q1), (.long q2), (.long q3), (.long q4), (.long q5)] maxLocals)) t := fun t kt => go275 t (by
        refine X256.laload hx (j := (2 : Int32)) (v := (.long vA)) Ar276.1 (State.isArrayOf_alike hZ77.alike Ar276.2.1) Ar276.2.2 (own_inb q276 (n := 3) rfl (by decide) (by decide)) (own_get q276 (i := 2) (by decide) rfl) (g := (mkF m 239 #[.val (.long q0), .second, .val (.long q1), .second, .val (.long q2), .second, .val (.long q3), .second, .val (.long q4), .second, .val (.long q5), .second, .val (.long mA), .second, .val (.long xA), .second, .val (.long mB), .second, .val (.long xB), .second, .val (.long vA), .second, .val (.long vB), .second, .val (.ref b18), .val (.ref b120), .val (.ref b165), .val (.int (1 : Int32)), .val (.int (1 : Int32)), .val (.long vA), .second, .val (.long (vB + (1 : Int64))), .second] [(.int (2 : Int32)), (.ref b165)])) rfl rfl (hb hby at_239) _ ?_
        show Steps p.tables e below (T256.setTop (mkF m 240 #[.val (.long q0), .second, .val (.long q1), .second, .val (.long q2), .second, .val (.long q3), .second, .val (.long q4), .second, .val (.long q5), .second, .val (.long mA), .second, .val (.long xA), .second, .val (.long mB), .second, .val (.long xB), .second, .val (.long vA), .second, .val (.long vB), .second, .val (.ref b18), .val (.ref b120), .val (.ref b165), .val (.int (1 : Int32)), .val (.int (1 : Int32)), .val (.long vA), .second, .val (.long (vB + (1 : Int64))), .second] [(.long vA)])) _
        refine XS.lload X256.here hx rfl (hb hby at_240) rfl ?_
        show Steps p.tables e below (T256.setTop (mkF m 242 #[.val (.long q0), .second, .val (.long q1), .second, .val (.long q2), .second, .val (.long q3), .second, .val (.long q4), .second, .val (.long q5), .second, .val (.long mA), .second, .val (.long xA), .second, .val (.long mB), .second, .val (.long xB), .second, .val (.long vA), .second, .val (.long vB), .second, .val (.ref b18), .val (.ref b120), .val (.ref b165), .val (.int (1 : Int32)), .val (.int (1 : Int32)), .val (.long vA), .second, .val (.long (vB + (1 : Int64))), .second] [(.long vA), (.long vA)])) _
        refine XS.lcmp X256.here hx rfl (hb hby at_242) rfl ?_
        show Steps p.tables e below (T256.setTop (mkF m 243 #[.val (.long q0), .second, .val (.long q1), .second, .val (.long q2), .second, .val (.long q3), .second, .val (.long q4), .second, .val (.long q5), .second, .val (.long mA), .second, .val (.long xA), .second, .val (.long mB), .second, .val (.long xB), .second, .val (.long vA), .second, .val (.long vB), .second, .val (.ref b18), .val (.ref b120), .val (.ref b165), .val (.int (1 : Int32)), .val (.int (1 : Int32)), .val (.long vA), .second, .val (.long (vB + (1 : Int64))), .second] [(.int (lcmpW vA vA))])) _
        refine XS.ifNo X256.here hx rfl (hb hby at_243) rfl ((if0 _ _).trans (teq hc243_277).2) ?_
        show Steps p.tables e below (T256.setTop (mkF m 246 #[.val (.long q0), .second, .val (.long q1), .second, .val (.long q2), .second, .val (.long q3), .second, .val (.long q4), .second, .val (.long q5), .second, .val (.long mA), .second, .val (.long xA), .second, .val (.long mB), .second, .val (.long xB), .second, .val (.long vA), .second, .val (.long vB), .second, .val (.ref b18), .val (.ref b120), .val (.ref b165), .val (.int (1 : Int32)), .val (.int (1 : Int32)), .val (.long vA), .second, .val (.long (vB + (1 : Int64))), .second] [])) _
        refine XS.aload X256.here hx rfl (hb hby at_246) rfl rfl ?_
        show Steps p.tables e below (T256.setTop (mkF m 248 #[.val (.long q0), .second, .val (.long q1), .second, .val (.long q2), .second, .val (.long q3), .second, .val (.long q4), .second, .val (.long q5), .second, .val (.long mA), .second, .val (.long xA), .second, .val (.long mB), .second, .val (.long xB), .second, .val (.long vA), .second, .val (.long vB), .second, .val (.ref b18), .val (.ref b120), .val (.ref b165), .val (.int (1 : Int32)), .val (.int (1 : Int32)), .val (.long vA), .second, .val (.long (vB + (1 : Int64))), .second] [(.ref b165)])) _
        refine XS.iconst X256.here hx rfl (hb hby at_248) ?_
        show Steps p.tables e below (T256.setTop (mkF m 249 #[.val (.long q0), .second, .val (.long q1), .second, .val (.long q2), .second, .val (.long q3), .second, .val (.long q4), .second, .val (.long q5), .second, .val (.long mA), .second, .val (.long xA), .second, .val (.long mB), .second, .val (.long xB), .second, .val (.long vA), .second, .val (.long vB), .second, .val (.ref b18), .val (.ref b120), .val (.ref b165), .val (.int (1 : Int32)), .val (.int (1 : Int32)), .val (.long vA), .second, .val (.long (vB + (1 : Int64))), .second] [(.int (0 : Int32)), (.ref b165)])) _
        exact kt)
    obtain ⟨c279, Ar279, q279⟩ := id V256
    have hc253_280 : (lcmpW (vB + (1 : Int64)) (vB + (1 : Int64))) = (0 : Int32) := (lw_eq _ _).mpr rfl
    have go281 : ∀ t, Steps p.tables e below (T256.setTop (mkF m 259 #[.val (.long q0), .second, .val (.long q1), .second, .val (.long q2), .second, .val (.long q3), .second, .val (.long q4), .second, .val (.long q5), .second, .val (.long mA), .second, .val (.long xA), .second, .val (.long mB), .second, .val (.long xB), .second, .val (.long vA), .second, .val (.long vB), .second, .val (.ref b18), .val (.ref b120), .val (.ref b165), .val (.int (1 : Int32)), .val (.int (1 : Int32)), .val (.long vA), .second, .val (.long (vB + (1 : Int64))), .second] [(.int (1 : Int32)), (.ref b165)])) t → Steps p.tables e below (s₁.setTop (entryFrame m #[(.long q0), (.long q1), (.long q2), (.long q3), (.long q4), (.long q5)] maxLocals)) t := fun t kt => go278 t (by
        refine X256.laload hx (j := (0 : Int32)) (v := (.long (vB + (1 : Int64)))) Ar279.1 (State.isArrayOf_alike hZ77.alike Ar279.2.1) Ar279.2.2 (own_inb q279 (n := 3) rfl (by decide) (by decide)) (own_get q279 (i := 0) (by decide) rfl) (g := (mkF m 249 #[.val (.long q0), .second, .val (.long q1), .second, .val (.long q2), .second, .val (.long q3), .second, .val (.long q4), .second, .val (.long q5), .second, .val (.long mA), .second, .val (.long xA), .second, .val (.long mB), .second, .val (.long xB), .second, .val (.long vA), .second, .val (.long vB), .second, .val (.ref b18), .val (.ref b120), .val (.ref b165), .val (.int (1 : Int32)), .val (.int (1 : Int32)), .val (.long vA), .second, .val (.long (vB + (1 : Int64))), .second] [(.int (0 : Int32)), (.ref b165)])) rfl rfl (hb hby at_249) _ ?_
        show Steps p.tables e below (T256.setTop (mkF m 250 #[.val (.long q0), .second, .val (.long q1), .second, .val (.long q2), .second, .val (.long q3), .second, .val (.long q4), .second, .val (.long q5), .second, .val (.long mA), .second, .val (.long xA), .second, .val (.long mB), .second, .val (.long xB), .second, .val (.long vA), .second, .val (.long vB), .second, .val (.ref b18), .val (.ref b120), .val (.ref b165), .val (.int (1 : Int32)), .val (.int (1 : Int32)), .val (.long vA), .second, .val (.long (vB + (1 : Int64))), .second] [(.long (vB + (1 : Int64)))])) _
        refine XS.lload X256.here hx rfl (hb hby at_250) rfl ?_
        show Steps p.tables e below (T256.setTop (mkF m 252 #[.val (.long q0), .second, .val (.long q1), .second, .val (.long q2), .second, .val (.long q3), .second, .val (.long q4), .second, .val (.long q5), .second, .val (.long mA), .second, .val (.long xA), .second, .val (.long mB), .second, .val (.long xB), .second, .val (.long vA), .second, .val (.long vB), .second, .val (.ref b18), .val (.ref b120), .val (.ref b165), .val (.int (1 : Int32)), .val (.int (1 : Int32)), .val (.long vA), .second, .val (.long (vB + (1 : Int64))), .second] [(.long (vB + (1 : Int64))), (.long (vB + (1 : Int64)))])) _
        refine XS.lcmp X256.here hx rfl (hb hby at_252) rfl ?_
        show Steps p.tables e below (T256.setTop (mkF m 253 #[.val (.long q0), .second, .val (.long q1), .second, .val (.long q2), .second, .val (.long q3), .second, .val (.long q4), .second, .val (.long q5), .second, .val (.long mA), .second, .val (.long xA), .second, .val (.long mB), .second, .val (.long xB), .second, .val (.long vA), .second, .val (.long vB), .second, .val (.ref b18), .val (.ref b120), .val (.ref b165), .val (.int (1 : Int32)), .val (.int (1 : Int32)), .val (.long vA), .second, .val (.long (vB + (1 : Int64))), .second] [(.int (lcmpW (vB + (1 : Int64)) (vB + (1 : Int64))))])) _
        refine XS.ifNo X256.here hx rfl (hb hby at_253) rfl ((if0 _ _).trans (teq hc253_280).2) ?_
        show Steps p.tables e below (T256.setTop (mkF m 256 #[.val (.long q0), .second, .val (.long q1), .second, .val (.long q2), .second, .val (.long q3), .second, .val (.long q4), .second, .val (.long q5), .second, .val (.long mA), .second, .val (.long xA), .second, .val (.long mB), .second, .val (.long xB), .second, .val (.long vA), .second, .val (.long vB), .second, .val (.ref b18), .val (.ref b120), .val (.ref b165), .val (.int (1 : Int32)), .val (.int (1 : Int32)), .val (.long vA), .second, .val (.long (vB + (1 : Int64))), .second] [])) _
        refine XS.aload X256.here hx rfl (hb hby at_256) rfl rfl ?_
        show Steps p.tables e below (T256.setTop (mkF m 258 #[.val (.long q0), .second, .val (.long q1), .second, .val (.long q2), .second, .val (.long q3), .second, .val (.long q4), .second, .val (.long q5), .second, .val (.long mA), .second, .val (.long xA), .second, .val (.long mB), .second, .val (.long xB), .second, .val (.long vA), .second, .val (.long vB), .second, .val (.ref b18), .val (.ref b120), .val (.ref b165), .val (.int (1 : Int32)), .val (.int (1 : Int32)), .val (.long vA), .second, .val (.long (vB + (1 : Int64))), .second] [(.ref b165)])) _
        refine XS.iconst X256.here hx rfl (hb hby at_258) ?_
        show Steps p.tables e below (T256.setTop (mkF m 259 #[.val (.long q0), .second, .val (.long q1), .second, .val (.long q2), .second, .val (.long q3), .second, .val (.long q4), .second, .val (.long q5), .second, .val (.long mA), .second, .val (.long xA), .second, .val (.long mB), .second, .val (.long xB), .second, .val (.long vA), .second, .val (.long vB), .second, .val (.ref b18), .val (.ref b120), .val (.ref b165), .val (.int (1 : Int32)), .val (.int (1 : Int32)), .val (.long vA), .second, .val (.long (vB + (1 : Int64))), .second] [(.int (1 : Int32)), (.ref b165)])) _
        exact kt)
    obtain ⟨c282, Ar282, q282⟩ := id V256
    have hc263_283 : (lcmpW q4 q4) = (0 : Int32) := (lw_eq _ _).mpr rfl
    have go284 : ∀ t, Steps p.tables e below (T256.setTop (mkF m 271 #[.val (.long q0), .second, .val (.long q1), .second, .val (.long q2), .second, .val (.long q3), .second, .val (.long q4), .second, .val (.long q5), .second, .val (.long mA), .second, .val (.long xA), .second, .val (.long mB), .second, .val (.long xB), .second, .val (.long vA), .second, .val (.long vB), .second, .val (.ref b18), .val (.ref b120), .val (.ref b165), .val (.int (1 : Int32)), .val (.int (1 : Int32)), .val (.long vA), .second, .val (.long (vB + (1 : Int64))), .second] [(.int (1 : Int32))])) t → Steps p.tables e below (s₁.setTop (entryFrame m #[(.long q0), (.long q1), (.long q2), (.long q3), (.long q4), (.long q5)] maxLocals)) t := fun t kt => go281 t (by
        refine X256.laload hx (j := (1 : Int32)) (v := (.long q4)) Ar282.1 (State.isArrayOf_alike hZ77.alike Ar282.2.1) Ar282.2.2 (own_inb q282 (n := 3) rfl (by decide) (by decide)) (own_get q282 (i := 1) (by decide) rfl) (g := (mkF m 259 #[.val (.long q0), .second, .val (.long q1), .second, .val (.long q2), .second, .val (.long q3), .second, .val (.long q4), .second, .val (.long q5), .second, .val (.long mA), .second, .val (.long xA), .second, .val (.long mB), .second, .val (.long xB), .second, .val (.long vA), .second, .val (.long vB), .second, .val (.ref b18), .val (.ref b120), .val (.ref b165), .val (.int (1 : Int32)), .val (.int (1 : Int32)), .val (.long vA), .second, .val (.long (vB + (1 : Int64))), .second] [(.int (1 : Int32)), (.ref b165)])) rfl rfl (hb hby at_259) _ ?_
        show Steps p.tables e below (T256.setTop (mkF m 260 #[.val (.long q0), .second, .val (.long q1), .second, .val (.long q2), .second, .val (.long q3), .second, .val (.long q4), .second, .val (.long q5), .second, .val (.long mA), .second, .val (.long xA), .second, .val (.long mB), .second, .val (.long xB), .second, .val (.long vA), .second, .val (.long vB), .second, .val (.ref b18), .val (.ref b120), .val (.ref b165), .val (.int (1 : Int32)), .val (.int (1 : Int32)), .val (.long vA), .second, .val (.long (vB + (1 : Int64))), .second] [(.long q4)])) _
        refine XS.lload X256.here hx rfl (hb hby at_260) rfl ?_
        show Steps p.tables e below (T256.setTop (mkF m 262 #[.val (.long q0), .second, .val (.long q1), .second, .val (.long q2), .second, .val (.long q3), .second, .val (.long q4), .second, .val (.long q5), .second, .val (.long mA), .second, .val (.long xA), .second, .val (.long mB), .second, .val (.long xB), .second, .val (.long vA), .second, .val (.long vB), .second, .val (.ref b18), .val (.ref b120), .val (.ref b165), .val (.int (1 : Int32)), .val (.int (1 : Int32)), .val (.long vA), .second, .val (.long (vB + (1 : Int64))), .second] [(.long q4), (.long q4)])) _
        refine XS.lcmp X256.here hx rfl (hb hby at_262) rfl ?_
        show Steps p.tables e below (T256.setTop (mkF m 263 #[.val (.long q0), .second, .val (.long q1), .second, .val (.long q2), .second, .val (.long q3), .second, .val (.long q4), .second, .val (.long q5), .second, .val (.long mA), .second, .val (.long xA), .second, .val (.long mB), .second, .val (.long xB), .second, .val (.long vA), .second, .val (.long vB), .second, .val (.ref b18), .val (.ref b120), .val (.ref b165), .val (.int (1 : Int32)), .val (.int (1 : Int32)), .val (.long vA), .second, .val (.long (vB + (1 : Int64))), .second] [(.int (lcmpW q4 q4))])) _
        refine XS.ifNo X256.here hx rfl (hb hby at_263) rfl ((if0 _ _).trans (teq hc263_283).2) ?_
        show Steps p.tables e below (T256.setTop (mkF m 266 #[.val (.long q0), .second, .val (.long q1), .second, .val (.long q2), .second, .val (.long q3), .second, .val (.long q4), .second, .val (.long q5), .second, .val (.long mA), .second, .val (.long xA), .second, .val (.long mB), .second, .val (.long xB), .second, .val (.long vA), .second, .val (.long vB), .second, .val (.ref b18), .val (.ref b120), .val (.ref b165), .val (.int (1 : Int32)), .val (.int (1 : Int32)), .val (.long vA), .second, .val (.long (vB + (1 : Int64))), .second] [])) _
        refine XS.iconst X256.here hx rfl (hb hby at_266) ?_
        show Steps p.tables e below (T256.setTop (mkF m 267 #[.val (.long q0), .second, .val (.long q1), .second, .val (.long q2), .second, .val (.long q3), .second, .val (.long q4), .second, .val (.long q5), .second, .val (.long mA), .second, .val (.long xA), .second, .val (.long mB), .second, .val (.long xB), .second, .val (.long vA), .second, .val (.long vB), .second, .val (.ref b18), .val (.ref b120), .val (.ref b165), .val (.int (1 : Int32)), .val (.int (1 : Int32)), .val (.long vA), .second, .val (.long (vB + (1 : Int64))), .second] [(.int (1 : Int32))])) _
        refine XS.goto X256.here hx rfl (pc0 := 267) (pc' := 271) rfl (hb hby at_267) (by decide) (by decide) ?_
        show Steps p.tables e below (T256.setTop (mkF m 271 #[.val (.long q0), .second, .val (.long q1), .second, .val (.long q2), .second, .val (.long q3), .second, .val (.long q4), .second, .val (.long q5), .second, .val (.long mA), .second, .val (.long xA), .second, .val (.long mB), .second, .val (.long xB), .second, .val (.long vA), .second, .val (.long vB), .second, .val (.ref b18), .val (.ref b120), .val (.ref b165), .val (.int (1 : Int32)), .val (.int (1 : Int32)), .val (.long vA), .second, .val (.long (vB + (1 : Int64))), .second] [(.int (1 : Int32))])) _
        exact kt)
    have lc285 := (Nat.le_trans (Nat.le_trans HK77 E82.1) K91.1)
    have lc286 := (Nat.le_trans (Nat.le_trans lc285 K93.1) K106.1)
    have lc287 := (Nat.le_trans (Nat.le_trans lc286 E120.1) K132.1)
    have lc288 := (Nat.le_trans (Nat.le_trans lc287 E165.1) (Keep.of_wr W175).1)
    have lc289 := (Nat.le_trans (Nat.le_trans lc288 (Keep.of_wr W177).1) (Keep.of_wr W179).1)
    have hk290 := (Nat.le_trans lc289 K256.1)
    obtain ⟨fs, hr, hrun, hended, hEW⟩ := X256.leaveW HS77 hk290 (v := some (.int (1 : Int32))) (fun h => by rw [Bd.returns] at h; cases h)
    refine ⟨_, _, go284 _ (retN X256 hx (t := .boolean) Bd.returns (by simp) (hb hby at_271) hr), hrun, hended, _, _, rfl, ?_, hEW.1, hEW.2.1, hEW.2.2.1, hEW.2.2.2.mono (by decide) (by decide)⟩
    exact ⟨rfl, N256⟩
set_option maxRecDepth 65536 in
set_option maxHeartbeats 40000000 in
theorem comes_1 {Post : Tables → Env → Array Value → State → Outcome → State → Prop} (hpost : ∀ tb e args s v u, (limb_1_1.after args s (.returned v) u = true ∧ limb_1_2.after args s (.returned v) u = true ∧ True) → ReturnedEndW s (.returned v) u (Jvm.fieldLocs frame_1_writes args s ++ Jvm.arrayLocs frame_1_arrays args s ++ Jvm.staticLocs frame_1_statics s) 40 2240 → Post tb e args s (.returned v) u) :
    ArmFor flags0 classFile x code maxLocals ret World_1 tables_1 room_1 Calls_1 rest_1 Pre_1 Post := by
  intro l hfl _ _ p e ha hc hk s m args below hf hA hF happ hP
  obtain ⟨hcalls, hrest, hpre⟩ := hP
  obtain ⟨-, -, -, hnamed, -, -, -, hat⟩ := (Spec.applies_iff hf).mp happ
  obtain ⟨hg, hn⟩ := and_e (Cond.before_iff.mp (show (Jvm.Cond.and given_1 narrow_1).before args s = true from hpre))
  obtain ⟨g1, g2⟩ := and_e hg
  obtain ⟨g3, g4⟩ := and_e g2
  obtain ⟨g5, g6⟩ := and_e g4
  obtain ⟨g7, g8⟩ := and_e g6
  obtain ⟨g9, g10⟩ := and_e g8
  obtain ⟨g11, g12⟩ := and_e g10
  obtain ⟨w0, w1, w2, w3, w4, w5, rfl⟩ : ∃ w0 w1 w2 w3 w4 w5 : Value, args = #[w0, w1, w2, w3, w4, w5] := by
    have hs : args.size = 6 := by simpa [Cond.value, given_1] using g1
    obtain ⟨L⟩ := args
    match L, hs with
    | [w0, w1, w2, w3, w4, w5], _ => exact ⟨w0, w1, w2, w3, w4, w5, rfl⟩
  have hw := fun d (hd : d ∈ tables_1) => atoms_spec (ws := Jvm.Cond.code x code maxLocals ret :: tables_1) hat d (List.mem_cons_of_mem _ hd)
  have hfit : Fit s := fun {y c} hc i hi => by
    obtain ⟨ha, rfl⟩ := Array.getElem?_eq_some_iff.mp hc
    have q := List.all_eq_true.mp ((Array.all_eq_true_iff_forall_mem.mp hF) _ (Array.getElem_mem ha)) i (List.mem_range.mpr hi)
    simpa [Array.getElem?_eq_getElem hi] using q
  obtain ⟨hsets, hown0⟩ := atoms_of _ (rest_1_c_eq ▸ (show rest_1_c.before _ s = true from hrest))
  have hr0 := Cond.before_iff.mp hown0
  obtain ⟨i0, ei0⟩ := isL_v g3
  obtain rfl : w0 = (.long i0) := Option.some.inj ei0
  obtain ⟨i1, ei1⟩ := isL_v g5
  obtain rfl : w1 = (.long i1) := Option.some.inj ei1
  obtain ⟨i2, ei2⟩ := isL_v g7
  obtain rfl : w2 = (.long i2) := Option.some.inj ei2
  obtain ⟨i3, ei3⟩ := isL_v g9
  obtain rfl : w3 = (.long i3) := Option.some.inj ei3
  obtain ⟨i4, ei4⟩ := isL_v g11
  obtain rfl : w4 = (.long i4) := Option.some.inj ei4
  obtain ⟨i5, ei5⟩ := isL_v g12
  obtain rfl : w5 = (.long i5) := Option.some.inj ei5
  obtain ⟨dd, SS, DV⟩ := own_start s _ hw hsets
  obtain ⟨n, o, h1, h2, h3, v, L, rfl, ⟨hv, N⟩, hq⟩ := rm0 l s _ hw tables_1 i0 i1 i2 i3 i4 i5 dd _ _ _ _ _ _ _ _ s.heap s.heap.size (Nat.le_refl _) (Old.start s) SS DV rfl rfl rfl rfl rfl rfl rfl rfl p e ha hc hk s m _ below hf ((Spec.applies_iff_loose hf).mp happ).1 ⟨rfl, State.Warmed39.refl s, rfl⟩ trivial
  obtain rfl : v = some (.int 1) := hv
  refine ⟨n, _, h1, h2, h3, hpost _ _ _ _ _ _ ⟨Cond.after_iff.mpr rfl, Cond.after_iff.mpr (eq_i res_at (Term.int_eval (1)) rfl), trivial⟩ ⟨hq.1, hq.2.1, hq.2.2.1, (hq.2.2.2.sift fun y hy => Or.inr (N y hy)).mono (by decide) (by decide)⟩⟩
theorem main_1_1 : Claimed_1_1 := comes_1 fun _ _ _ _ _ _ h hF => ⟨h.1, hF⟩
theorem main_1_2 : Claimed_1_2 := comes_1 fun _ _ _ _ _ _ h hF => ⟨h.2.1, hF⟩
end Jvm.Pilot.@@N@@
namespace Jvm.Pilot.@@N@@
open Jvm Jvm.ClassFile Sem Op Lib Jvm.Free Jvm.Stand Jvm.Pilot.@@N@@.Jvm.D
/-! MADE BY PROGRAM (witnessworld.py) out of the Statement's table words and the real class files: 33 classes; the members and pool entries that the words name. The judged class is class 1, her method 1. -/
namespace start1
open Jvm.ClassFile
def u (s : String) : CpInfo := .utf8 (stringToUtf16 s)
/-- a pool by its gaps: so many unusable entries, then the entry; so many at the end -/
def gap : Nat → List CpInfo → List CpInfo
  | 0, r => r
  | n + 1, r => .unusable :: gap n r
def poolList (es : List (Nat × CpInfo)) (last : Nat) : List CpInfo := es.foldr (fun e r => gap e.1 (e.2 :: r)) (gap last [])
def pool (es : List (Nat × CpInfo)) (last : Nat) : Array CpInfo := ⟨poolList es last⟩
def fileOf (pool : Array CpInfo) (this : Nat) (attrs : Array Attribute := #[]) (ms : Array MethodInfo := #[]) (fl : Nat := 33) (sup : Nat := 0) (ifs : Array Nat := #[]) (fds : Array FieldInfo := #[]) : ClassFile where
  minorVersion := 0
  majorVersion := 65
  constantPool := pool
  accessFlags := fl
  thisClass := this
  superClass := sup
  interfaces := ifs
  fields := fds
  methods := ms
  attributes := attrs
def plain (name : String) (sup : Option ClassId) : Class where
  name := name
  kind := .ordinary
  loader := none
  accessFlags := 33
  super := sup
  interfaces := #[]
  cf := none
  fields := #[]
  methods := #[]
  instanceTypes := #[]
  staticTypes := #[]
  resolved := #[]
  callSites := []
  init := .initialized
  statics := none
  mirror := none

def pool0 : Array CpInfo := pool [(5, u "<init>"), (0, u "()V"), (1, .class_ 10), (1, u "java/lang/Object")] 113

def k0c0 : Code := { maxStack := 0, maxLocals := 1, code := object_method_1_code, exceptionTable := #[], attributes := #[] }
def k0m0 : Method := { name := "<init>", desc := "()V", sig := { parameters := [], returnType := none }, accessFlags := 1, code := some k0c0 }
/-- java/lang/Object -/
def k0 : Class := { plain "java/lang/Object" none with
  accessFlags := 33
  interfaces := #[]
  cf := some (fileOf pool0 8 #[] #[{ accessFlags := 1, nameIndex := 5, descriptorIndex := 6, attributes := #[] }] 33 0 #[] #[])
  fields := #[]
  methods := #[k0m0]
  instanceTypes := #[]
  staticTypes := #[]
  resolved := Array.replicate 124 none
  statics := none }

def pool1 : Array CpInfo := pool [(2, .class_ 4), (0, .nameAndType 5 6), (0, u "java/lang/Object"), (0, u "<init>"), (0, u "()V"), (0, .methodref 8 9), (0, .class_ 10), (0, .nameAndType 11 12), (0, u "java/lang/Math"), (0, u "min"), (0, u "(JJ)J"), (0, .methodref 8 14), (0, .nameAndType 15 12), (0, u "max"), (0, .class_ 17), (0, u "java/util/ArrayList"), (0, .methodref 16 3), (0, .class_ 20), (0, u "com/example/invariant_ink/invariantink/lang/Local"), (0, .string 22), (0, u "a"), (0, .class_ 24), (0, u "com/example/invariant_ink/invariantink/lang/RangeType"), (0, .methodref 23 26), (0, .nameAndType 5 27), (0, u "(JJ)V"), (0, .methodref 19 29), (0, .nameAndType 5 30), (0, u "(Ljava/lang/String;Lcom/example/invariant_ink/invariantink/lang/Local$Kind;ILcom/example/invariant_ink/invariantink/lang/Type;Lcom/example/invariant_ink/invariantink/lang/Position;)V"), (0, .methodref 16 32), (0, .nameAndType 33 34), (0, u "add"), (0, u "(Ljava/lang/Object;)Z"), (0, .string 36), (0, u "b"), (0, .class_ 38), (0, u "com/example/invariant_ink/invariantink/engine/Combinations"), (0, .methodref 37 40), (0, .nameAndType 5 41), (0, u "(Ljava/util/List;)V"), (0, .methodref 37 43), (0, .nameAndType 44 45), (0, u "next"), (0, u "([J)Z"), (0, .class_ 47), (0, u "com/example/invariant_ink/invariantink/engine/CombinationsNextPinLaw"), (2, u "law"), (0, u "(JJJJJJ)Z")] 9

def k1m0 : Method := { name := "<init>", desc := "()V", sig := { parameters := [], returnType := none }, accessFlags := 1, code := none }
def k1c1 : Code := { maxStack := 12, maxLocals := 33, code := code, exceptionTable := #[], attributes := #[] }
def k1m1 : Method := { name := "law", desc := "(JJJJJJ)Z", sig := { parameters := [.long, .long, .long, .long, .long, .long], returnType := some .boolean }, accessFlags := 9, code := some k1c1 }
/-- com/example/invariant_ink/invariantink/engine/CombinationsNextPinLaw -/
def k1 : Class := { plain "com/example/invariant_ink/invariantink/engine/CombinationsNextPinLaw" (some 0) with
  accessFlags := 49
  interfaces := #[]
  cf := some (fileOf pool1 46 #[] #[{ accessFlags := 1, nameIndex := 5, descriptorIndex := 6, attributes := #[] }, { accessFlags := 9, nameIndex := 50, descriptorIndex := 51, attributes := #[] }] 49 2 #[] #[])
  fields := #[]
  methods := #[k1m0, k1m1]
  instanceTypes := #[]
  staticTypes := #[]
  resolved := Array.replicate 61 none
  statics := none }

def pool2 : Array CpInfo := pool [(1, .class_ 2), (0, u "java/lang/Math"), (1, .class_ 6), (1, u "java/lang/Object"), (0, u "<init>"), (0, u "()V"), (89, .class_ 100), (1, u "java/lang/Math$RandomNumberGeneratorHolder"), (20, u "(JJ)J"), (50, u "negativeZeroFloatBits"), (0, u "J"), (2, u "negativeZeroDoubleBits"), (21, u "max"), (2, u "min"), (43, u "$assertionsDisabled"), (0, u "Z"), (88, u "(II)I"), (2, u "twoToTheDoubleScaleDown"), (0, u "D"), (4, u "twoToTheDoubleScaleUp"), (9, u "E"), (3, u "PI"), (2, u "TAU"), (2, u "DEGREES_TO_RADIANS"), (0, u "RADIANS_TO_DEGREES")] 94

def k2m0 : Method := { name := "<init>", desc := "()V", sig := { parameters := [], returnType := none }, accessFlags := 2, code := none }
def k2c1 : Code := { maxStack := 2, maxLocals := 2, code := jdk_29_method_65_code, exceptionTable := #[], attributes := #[] }
def k2m1 : Method := { name := "max", desc := "(II)I", sig := { parameters := [.int, .int], returnType := some .int }, accessFlags := 9, code := some k2c1 }
def k2c2 : Code := { maxStack := 4, maxLocals := 4, code := jdk_29_method_66_code, exceptionTable := #[], attributes := #[] }
def k2m2 : Method := { name := "max", desc := "(JJ)J", sig := { parameters := [.long, .long], returnType := some .long }, accessFlags := 9, code := some k2c2 }
def k2c3 : Code := { maxStack := 4, maxLocals := 4, code := jdk_29_method_70_code, exceptionTable := #[], attributes := #[] }
def k2m3 : Method := { name := "min", desc := "(JJ)J", sig := { parameters := [.long, .long], returnType := some .long }, accessFlags := 9, code := some k2c3 }
/-- java/lang/Math -/
def k2 : Class := { plain "java/lang/Math" (some 0) with
  accessFlags := 49
  interfaces := #[]
  cf := some (fileOf pool2 1 #[.nestMembers #[98]] #[{ accessFlags := 2, nameIndex := 7, descriptorIndex := 8, attributes := #[] }, { accessFlags := 9, nameIndex := 198, descriptorIndex := 335, attributes := #[] }, { accessFlags := 9, nameIndex := 198, descriptorIndex := 121, attributes := #[] }, { accessFlags := 9, nameIndex := 201, descriptorIndex := 121, attributes := #[] }] 49 4 #[] #[{ accessFlags := 25, nameIndex := 354, descriptorIndex := 339, attributes := #[] }, { accessFlags := 25, nameIndex := 358, descriptorIndex := 339, attributes := #[] }, { accessFlags := 25, nameIndex := 361, descriptorIndex := 339, attributes := #[] }, { accessFlags := 26, nameIndex := 364, descriptorIndex := 339, attributes := #[] }, { accessFlags := 26, nameIndex := 365, descriptorIndex := 339, attributes := #[] }, { accessFlags := 26, nameIndex := 172, descriptorIndex := 173, attributes := #[] }, { accessFlags := 26, nameIndex := 176, descriptorIndex := 173, attributes := #[] }, { accessFlags := 8, nameIndex := 344, descriptorIndex := 339, attributes := #[] }, { accessFlags := 8, nameIndex := 338, descriptorIndex := 339, attributes := #[] }, { accessFlags := 4120, nameIndex := 245, descriptorIndex := 246, attributes := #[] }])
  fields := #[{ name := "E", type := .double, accessFlags := 25, slot := 0, constantValue := 0 }, { name := "PI", type := .double, accessFlags := 25, slot := 1, constantValue := 0 }, { name := "TAU", type := .double, accessFlags := 25, slot := 2, constantValue := 0 }, { name := "DEGREES_TO_RADIANS", type := .double, accessFlags := 26, slot := 3, constantValue := 0 }, { name := "RADIANS_TO_DEGREES", type := .double, accessFlags := 26, slot := 4, constantValue := 0 }, { name := "negativeZeroFloatBits", type := .long, accessFlags := 26, slot := 5, constantValue := 0 }, { name := "negativeZeroDoubleBits", type := .long, accessFlags := 26, slot := 6, constantValue := 0 }, { name := "twoToTheDoubleScaleUp", type := .double, accessFlags := 8, slot := 7, constantValue := 0 }, { name := "twoToTheDoubleScaleDown", type := .double, accessFlags := 8, slot := 8, constantValue := 0 }, { name := "$assertionsDisabled", type := .boolean, accessFlags := 4120, slot := 9, constantValue := 0 }]
  methods := #[k2m0, k2m1, k2m2, k2m3]
  instanceTypes := #[]
  staticTypes := #[.double, .double, .double, .double, .double, .long, .long, .double, .double, .boolean]
  resolved := Array.replicate 460 none
  statics := none }

def pool3 : Array CpInfo := pool [(8, .class_ 10), (1, u "java/lang/Iterable"), (24, .class_ 36), (0, u "java/lang/Object")] 25

/-- java/lang/Iterable -/
def k3 : Class := { plain "java/lang/Iterable" (some 0) with
  accessFlags := 1537
  interfaces := #[]
  cf := some (fileOf pool3 8 #[] #[] 1537 35 #[] #[])
  fields := #[]
  methods := #[]
  instanceTypes := #[]
  staticTypes := #[]
  resolved := Array.replicate 62 none
  statics := none }

def pool4 : Array CpInfo := pool [(10, .class_ 12), (1, u "java/util/Collection"), (47, .class_ 61), (0, u "java/lang/Object"), (0, .class_ 63), (0, u "java/lang/Iterable")] 51

/-- java/util/Collection -/
def k4 : Class := { plain "java/util/Collection" (some 0) with
  accessFlags := 1537
  interfaces := #[3]
  cf := some (fileOf pool4 10 #[] #[] 1537 60 #[62] #[])
  fields := #[]
  methods := #[]
  instanceTypes := #[]
  staticTypes := #[]
  resolved := Array.replicate 115 none
  statics := none }

def pool5 : Array CpInfo := pool [(1, .methodref 2 3), (0, .class_ 4), (0, .nameAndType 5 6), (0, u "java/lang/Object"), (0, u "<init>"), (0, u "()V"), (1, .class_ 10), (1, u "java/util/AbstractCollection"), (66, .class_ 78), (0, u "java/util/Collection")] 81

def k5c0 : Code := { maxStack := 1, maxLocals := 1, code := jdk_22_method_1_code, exceptionTable := #[], attributes := #[] }
def k5m0 : Method := { name := "<init>", desc := "()V", sig := { parameters := [], returnType := none }, accessFlags := 4, code := some k5c0 }
/-- java/util/AbstractCollection -/
def k5 : Class := { plain "java/util/AbstractCollection" (some 0) with
  accessFlags := 1057
  interfaces := #[4]
  cf := some (fileOf pool5 8 #[] #[{ accessFlags := 4, nameIndex := 5, descriptorIndex := 6, attributes := #[] }] 1057 2 #[77] #[])
  fields := #[]
  methods := #[k5m0]
  instanceTypes := #[]
  staticTypes := #[]
  resolved := Array.replicate 160 none
  statics := none }

def pool6 : Array CpInfo := pool [(8, .class_ 10), (1, u "java/util/SequencedCollection"), (15, .class_ 27), (0, u "java/lang/Object"), (0, .class_ 29), (0, u "java/util/Collection")] 27

/-- java/util/SequencedCollection -/
def k6 : Class := { plain "java/util/SequencedCollection" (some 0) with
  accessFlags := 1537
  interfaces := #[4]
  cf := some (fileOf pool6 8 #[] #[] 1537 26 #[28] #[])
  fields := #[]
  methods := #[]
  instanceTypes := #[]
  staticTypes := #[]
  resolved := Array.replicate 57 none
  statics := none }

def pool7 : Array CpInfo := pool [(8, .class_ 10), (1, u "java/util/List"), (64, u "get"), (0, u "(I)Ljava/lang/Object;"), (2, u "size"), (0, u "()I"), (22, .class_ 104), (0, u "java/lang/Object"), (15, .class_ 121), (0, u "java/util/SequencedCollection")] 129

def k7m0 : Method := { name := "size", desc := "()I", sig := { parameters := [], returnType := some .int }, accessFlags := 1025, code := none }
def k7m1 : Method := { name := "get", desc := "(I)Ljava/lang/Object;", sig := { parameters := [.int], returnType := some (.object "java/lang/Object") }, accessFlags := 1025, code := none }
/-- java/util/List -/
def k7 : Class := { plain "java/util/List" (some 0) with
  accessFlags := 1537
  interfaces := #[6]
  cf := some (fileOf pool7 8 #[] #[{ accessFlags := 1025, nameIndex := 79, descriptorIndex := 80, attributes := #[] }, { accessFlags := 1025, nameIndex := 75, descriptorIndex := 76, attributes := #[] }] 1537 103 #[120] #[])
  fields := #[]
  methods := #[k7m0, k7m1]
  instanceTypes := #[]
  staticTypes := #[]
  resolved := Array.replicate 251 none
  statics := none }

def pool8 : Array CpInfo := pool [(1, .methodref 2 3), (0, .class_ 4), (0, .nameAndType 5 6), (0, u "java/util/AbstractCollection"), (0, u "<init>"), (0, u "()V"), (0, .fieldref 8 9), (0, .class_ 10), (0, .nameAndType 11 12), (0, u "java/util/AbstractList"), (0, u "modCount"), (0, u "I"), (64, .class_ 78), (0, u "java/util/AbstractList$Itr"), (3, .class_ 83), (0, u "java/util/AbstractList$ListItr"), (9, .class_ 94), (0, u "java/util/AbstractList$RandomAccessSubList"), (3, .class_ 99), (0, u "java/util/AbstractList$SubList"), (33, .class_ 134), (0, u "java/util/List"), (73, .class_ 209), (0, u "java/util/AbstractList$SubList$1"), (0, .class_ 211), (0, u "java/util/AbstractList$RandomAccessSpliterator")] 6

def k8c0 : Code := { maxStack := 2, maxLocals := 1, code := jdk_39_method_1_code, exceptionTable := #[], attributes := #[] }
def k8m0 : Method := { name := "<init>", desc := "()V", sig := { parameters := [], returnType := none }, accessFlags := 4, code := some k8c0 }
/-- java/util/AbstractList -/
def k8 : Class := { plain "java/util/AbstractList" (some 5) with
  accessFlags := 1057
  interfaces := #[7]
  cf := some (fileOf pool8 8 #[.nestMembers #[93, 98, 208, 210, 82, 77]] #[{ accessFlags := 4, nameIndex := 5, descriptorIndex := 6, attributes := #[] }] 1057 2 #[133] #[{ accessFlags := 132, nameIndex := 11, descriptorIndex := 12, attributes := #[] }])
  fields := #[{ name := "modCount", type := .int, accessFlags := 132, slot := 0, constantValue := 0 }]
  methods := #[k8m0]
  instanceTypes := #[.int]
  staticTypes := #[]
  resolved := Array.replicate 218 none
  statics := none }

def pool9 : Array CpInfo := pool [(1, .class_ 2), (0, u "java/util/RandomAccess"), (0, .class_ 4), (0, u "java/lang/Object")] 2

/-- java/util/RandomAccess -/
def k9 : Class := { plain "java/util/RandomAccess" (some 0) with
  accessFlags := 1537
  interfaces := #[]
  cf := some (fileOf pool9 1 #[] #[] 1537 3 #[] #[])
  fields := #[]
  methods := #[]
  instanceTypes := #[]
  staticTypes := #[]
  resolved := Array.replicate 7 none
  statics := none }

def pool10 : Array CpInfo := pool [(1, .class_ 2), (0, u "java/lang/Cloneable"), (0, .class_ 4), (0, u "java/lang/Object")] 2

/-- java/lang/Cloneable -/
def k10 : Class := { plain "java/lang/Cloneable" (some 0) with
  accessFlags := 1537
  interfaces := #[]
  cf := some (fileOf pool10 1 #[] #[] 1537 3 #[] #[])
  fields := #[]
  methods := #[]
  instanceTypes := #[]
  staticTypes := #[]
  resolved := Array.replicate 7 none
  statics := none }

def pool11 : Array CpInfo := pool [(1, .class_ 2), (0, u "java/io/Serializable"), (0, .class_ 4), (0, u "java/lang/Object")] 2

/-- java/io/Serializable -/
def k11 : Class := { plain "java/io/Serializable" (some 0) with
  accessFlags := 1537
  interfaces := #[]
  cf := some (fileOf pool11 1 #[] #[] 1537 3 #[] #[])
  fields := #[]
  methods := #[]
  instanceTypes := #[]
  staticTypes := #[]
  resolved := Array.replicate 7 none
  statics := none }

def pool12 : Array CpInfo := pool [(1, .methodref 2 3), (0, .class_ 4), (0, .nameAndType 5 6), (0, u "java/util/AbstractList"), (0, u "<init>"), (0, u "()V"), (0, .class_ 8), (0, u "java/lang/Object"), (0, .fieldref 10 11), (0, .class_ 12), (0, .nameAndType 13 14), (0, u "java/util/ArrayList"), (0, u "elementData"), (0, u "[Ljava/lang/Object;"), (2, u "EMPTY_ELEMENTDATA"), (21, .fieldref 10 40), (0, .nameAndType 41 14), (0, u "DEFAULTCAPACITY_EMPTY_ELEMENTDATA"), (5, u "()[Ljava/lang/Object;"), (0, .fieldref 10 49), (0, .nameAndType 50 51), (0, u "size"), (0, u "I"), (11, .fieldref 10 64), (0, .nameAndType 65 51), (0, u "modCount"), (3, .methodref 10 70), (0, .nameAndType 71 72), (0, u "grow"), (0, u "(I)[Ljava/lang/Object;"), (6, .methodref 80 81), (0, .class_ 82), (0, .nameAndType 83 84), (0, u "java/lang/Math"), (0, u "max"), (0, u "(II)I"), (11, u "(Ljava/lang/Object;)Z"), (21, .methodref 119 120), (0, .class_ 121), (0, .nameAndType 122 84), (0, u "java/util/Objects"), (0, u "checkIndex"), (0, .methodref 10 124), (0, .nameAndType 13 125), (0, u "(I)Ljava/lang/Object;"), (3, .methodref 10 130), (0, .nameAndType 71 47), (0, .methodref 10 132), (0, .nameAndType 133 134), (0, u "add"), (0, u "(Ljava/lang/Object;[Ljava/lang/Object;I)V"), (13, .class_ 149), (0, u "java/util/List"), (36, u "()I"), (75, .class_ 263), (0, u "java/util/ArrayList$ListItr"), (3, .class_ 268), (0, u "java/util/ArrayList$Itr"), (7, .class_ 277), (0, u "java/util/ArrayList$SubList"), (12, .class_ 291), (0, u "java/util/ArrayList$ArrayListSpliterator"), (37, .class_ 330), (0, u "java/util/RandomAccess"), (0, .class_ 332), (0, u "java/lang/Cloneable"), (0, .class_ 334), (0, u "java/io/Serializable"), (0, u "serialVersionUID"), (0, u "J"), (3, u "DEFAULT_CAPACITY"), (40, u "get"), (118, .class_ 501), (0, u "java/util/ArrayList$SubList$2"), (0, .class_ 503), (0, u "java/util/ArrayList$SubList$1")] 5

def k12c0 : Code := { maxStack := 2, maxLocals := 1, code := jdk_38_method_2_code, exceptionTable := #[], attributes := #[] }
def k12m0 : Method := { name := "<init>", desc := "()V", sig := { parameters := [], returnType := none }, accessFlags := 1, code := some k12c0 }
def k12c1 : Code := { maxStack := 4, maxLocals := 4, code := jdk_38_method_6_code, exceptionTable := #[], attributes := #[] }
def k12m1 : Method := { name := "grow", desc := "(I)[Ljava/lang/Object;", sig := { parameters := [.int], returnType := some (.array (.object "java/lang/Object")) }, accessFlags := 2, code := some k12c1 }
def k12c2 : Code := { maxStack := 3, maxLocals := 1, code := jdk_38_method_7_code, exceptionTable := #[], attributes := #[] }
def k12m2 : Method := { name := "grow", desc := "()[Ljava/lang/Object;", sig := { parameters := [], returnType := some (.array (.object "java/lang/Object")) }, accessFlags := 2, code := some k12c2 }
def k12c3 : Code := { maxStack := 1, maxLocals := 1, code := jdk_38_method_8_code, exceptionTable := #[], attributes := #[] }
def k12m3 : Method := { name := "size", desc := "()I", sig := { parameters := [], returnType := some .int }, accessFlags := 1, code := some k12c3 }
def k12c4 : Code := { maxStack := 2, maxLocals := 2, code := jdk_38_method_18_code, exceptionTable := #[], attributes := #[] }
def k12m4 : Method := { name := "elementData", desc := "(I)Ljava/lang/Object;", sig := { parameters := [.int], returnType := some (.object "java/lang/Object") }, accessFlags := 0, code := some k12c4 }
def k12c5 : Code := { maxStack := 2, maxLocals := 2, code := jdk_38_method_20_code, exceptionTable := #[], attributes := #[] }
def k12m5 : Method := { name := "get", desc := "(I)Ljava/lang/Object;", sig := { parameters := [.int], returnType := some (.object "java/lang/Object") }, accessFlags := 1, code := some k12c5 }
def k12c6 : Code := { maxStack := 3, maxLocals := 4, code := jdk_38_method_24_code, exceptionTable := #[], attributes := #[] }
def k12m6 : Method := { name := "add", desc := "(Ljava/lang/Object;[Ljava/lang/Object;I)V", sig := { parameters := [(.object "java/lang/Object"), (.array (.object "java/lang/Object")), .int], returnType := none }, accessFlags := 2, code := some k12c6 }
def k12c7 : Code := { maxStack := 4, maxLocals := 2, code := jdk_38_method_25_code, exceptionTable := #[], attributes := #[] }
def k12m7 : Method := { name := "add", desc := "(Ljava/lang/Object;)Z", sig := { parameters := [(.object "java/lang/Object")], returnType := some .boolean }, accessFlags := 1, code := some k12c7 }
/-- java/util/ArrayList -/
def k12 : Class := { plain "java/util/ArrayList" (some 8) with
  accessFlags := 33
  interfaces := #[7, 9, 10, 11]
  cf := some (fileOf pool12 10 #[.nestMembers #[290, 276, 500, 502, 262, 267]] #[{ accessFlags := 1, nameIndex := 5, descriptorIndex := 6, attributes := #[] }, { accessFlags := 2, nameIndex := 71, descriptorIndex := 72, attributes := #[] }, { accessFlags := 2, nameIndex := 71, descriptorIndex := 47, attributes := #[] }, { accessFlags := 1, nameIndex := 50, descriptorIndex := 186, attributes := #[] }, { accessFlags := 0, nameIndex := 13, descriptorIndex := 125, attributes := #[] }, { accessFlags := 1, nameIndex := 381, descriptorIndex := 125, attributes := #[] }, { accessFlags := 2, nameIndex := 133, descriptorIndex := 134, attributes := #[] }, { accessFlags := 1, nameIndex := 133, descriptorIndex := 96, attributes := #[] }] 33 2 #[148, 329, 331, 333] #[{ accessFlags := 26, nameIndex := 335, descriptorIndex := 336, attributes := #[] }, { accessFlags := 26, nameIndex := 340, descriptorIndex := 51, attributes := #[] }, { accessFlags := 26, nameIndex := 17, descriptorIndex := 14, attributes := #[] }, { accessFlags := 26, nameIndex := 41, descriptorIndex := 14, attributes := #[] }, { accessFlags := 128, nameIndex := 13, descriptorIndex := 14, attributes := #[] }, { accessFlags := 2, nameIndex := 50, descriptorIndex := 51, attributes := #[] }])
  fields := #[{ name := "serialVersionUID", type := .long, accessFlags := 26, slot := 0, constantValue := 0 }, { name := "DEFAULT_CAPACITY", type := .int, accessFlags := 26, slot := 1, constantValue := 0 }, { name := "EMPTY_ELEMENTDATA", type := (.array (.object "java/lang/Object")), accessFlags := 26, slot := 2, constantValue := 0 }, { name := "DEFAULTCAPACITY_EMPTY_ELEMENTDATA", type := (.array (.object "java/lang/Object")), accessFlags := 26, slot := 3, constantValue := 0 }, { name := "elementData", type := (.array (.object "java/lang/Object")), accessFlags := 128, slot := 1, constantValue := 0 }, { name := "size", type := .int, accessFlags := 2, slot := 2, constantValue := 0 }]
  methods := #[k12m0, k12m1, k12m2, k12m3, k12m4, k12m5, k12m6, k12m7]
  instanceTypes := #[.int, (.array (.object "java/lang/Object")), .int]
  staticTypes := #[.long, .int, (.array (.object "java/lang/Object")), (.array (.object "java/lang/Object"))]
  resolved := Array.replicate 509 none
  statics := some 0 }

def pool13 : Array CpInfo := pool [(1, .methodref 2 3), (0, .class_ 4), (0, .nameAndType 5 6), (0, u "java/lang/Object"), (0, u "<init>"), (0, u "()V"), (0, .fieldref 8 9), (0, .class_ 10), (0, .nameAndType 11 12), (0, u "com/example/invariant_ink/invariantink/lang/Local"), (0, u "name"), (0, u "Ljava/lang/String;"), (0, .fieldref 8 14), (0, .nameAndType 15 16), (0, u "kind"), (0, u "Lcom/example/invariant_ink/invariantink/lang/Local$Kind;"), (0, .fieldref 8 18), (0, .nameAndType 19 20), (0, u "slot"), (0, u "I"), (0, .fieldref 8 22), (0, .nameAndType 23 24), (0, u "type"), (0, u "Lcom/example/invariant_ink/invariantink/lang/Type;"), (0, .fieldref 8 26), (0, .nameAndType 27 28), (0, u "position"), (0, u "Lcom/example/invariant_ink/invariantink/lang/Position;"), (0, u "(Ljava/lang/String;Lcom/example/invariant_ink/invariantink/lang/Local$Kind;ILcom/example/invariant_ink/invariantink/lang/Type;Lcom/example/invariant_ink/invariantink/lang/Position;)V"), (6, u "getSlot"), (0, u "()I"), (0, u "getType"), (0, u "()Lcom/example/invariant_ink/invariantink/lang/Type;"), (6, .class_ 47), (0, u "com/example/invariant_ink/invariantink/lang/Local$Kind")] 2

def k13c0 : Code := { maxStack := 2, maxLocals := 6, code := prog_159_method_1_code, exceptionTable := #[], attributes := #[] }
def k13m0 : Method := { name := "<init>", desc := "(Ljava/lang/String;Lcom/example/invariant_ink/invariantink/lang/Local$Kind;ILcom/example/invariant_ink/invariantink/lang/Type;Lcom/example/invariant_ink/invariantink/lang/Position;)V", sig := { parameters := [(.object "java/lang/String"), (.object "com/example/invariant_ink/invariantink/lang/Local$Kind"), .int, (.object "com/example/invariant_ink/invariantink/lang/Type"), (.object "com/example/invariant_ink/invariantink/lang/Position")], returnType := none }, accessFlags := 1, code := some k13c0 }
def k13c1 : Code := { maxStack := 1, maxLocals := 1, code := prog_159_method_4_code, exceptionTable := #[], attributes := #[] }
def k13m1 : Method := { name := "getSlot", desc := "()I", sig := { parameters := [], returnType := some .int }, accessFlags := 1, code := some k13c1 }
def k13c2 : Code := { maxStack := 1, maxLocals := 1, code := prog_159_method_5_code, exceptionTable := #[], attributes := #[] }
def k13m2 : Method := { name := "getType", desc := "()Lcom/example/invariant_ink/invariantink/lang/Type;", sig := { parameters := [], returnType := some (.object "com/example/invariant_ink/invariantink/lang/Type") }, accessFlags := 1, code := some k13c2 }
/-- com/example/invariant_ink/invariantink/lang/Local -/
def k13 : Class := { plain "com/example/invariant_ink/invariantink/lang/Local" (some 0) with
  accessFlags := 33
  interfaces := #[]
  cf := some (fileOf pool13 8 #[.nestMembers #[46]] #[{ accessFlags := 1, nameIndex := 5, descriptorIndex := 29, attributes := #[] }, { accessFlags := 1, nameIndex := 36, descriptorIndex := 37, attributes := #[] }, { accessFlags := 1, nameIndex := 38, descriptorIndex := 39, attributes := #[] }] 33 2 #[] #[{ accessFlags := 18, nameIndex := 11, descriptorIndex := 12, attributes := #[] }, { accessFlags := 18, nameIndex := 15, descriptorIndex := 16, attributes := #[] }, { accessFlags := 18, nameIndex := 19, descriptorIndex := 20, attributes := #[] }, { accessFlags := 18, nameIndex := 23, descriptorIndex := 24, attributes := #[] }, { accessFlags := 18, nameIndex := 27, descriptorIndex := 28, attributes := #[] }])
  fields := #[{ name := "name", type := (.object "java/lang/String"), accessFlags := 18, slot := 0, constantValue := 0 }, { name := "kind", type := (.object "com/example/invariant_ink/invariantink/lang/Local$Kind"), accessFlags := 18, slot := 1, constantValue := 0 }, { name := "slot", type := .int, accessFlags := 18, slot := 2, constantValue := 0 }, { name := "type", type := (.object "com/example/invariant_ink/invariantink/lang/Type"), accessFlags := 18, slot := 3, constantValue := 0 }, { name := "position", type := (.object "com/example/invariant_ink/invariantink/lang/Position"), accessFlags := 18, slot := 4, constantValue := 0 }]
  methods := #[k13m0, k13m1, k13m2]
  instanceTypes := #[(.object "java/lang/String"), (.object "com/example/invariant_ink/invariantink/lang/Local$Kind"), .int, (.object "com/example/invariant_ink/invariantink/lang/Type"), (.object "com/example/invariant_ink/invariantink/lang/Position")]
  staticTypes := #[]
  resolved := Array.replicate 50 none
  statics := none }

def pool14 : Array CpInfo := pool [(1, .class_ 2), (0, u "java/lang/Comparable"), (0, .class_ 4), (0, u "java/lang/Object")] 7

/-- java/lang/Comparable -/
def k14 : Class := { plain "java/lang/Comparable" (some 0) with
  accessFlags := 1537
  interfaces := #[]
  cf := some (fileOf pool14 1 #[] #[] 1537 3 #[] #[])
  fields := #[]
  methods := #[]
  instanceTypes := #[]
  staticTypes := #[]
  resolved := Array.replicate 12 none
  statics := none }

def pool15 : Array CpInfo := pool [(2, .class_ 4), (1, u "java/lang/CharSequence"), (42, .class_ 48), (0, u "java/lang/CharSequence$1CodePointIterator"), (10, .class_ 60), (0, u "java/lang/CharSequence$1CharIterator"), (5, .class_ 67), (0, u "java/lang/Object")] 63

/-- java/lang/CharSequence -/
def k15 : Class := { plain "java/lang/CharSequence" (some 0) with
  accessFlags := 1537
  interfaces := #[]
  cf := some (fileOf pool15 2 #[.nestMembers #[47, 59]] #[] 1537 66 #[] #[])
  fields := #[]
  methods := #[]
  instanceTypes := #[]
  staticTypes := #[]
  resolved := Array.replicate 131 none
  statics := none }

def pool16 : Array CpInfo := pool [(1, .class_ 2), (0, u "java/lang/constant/Constable"), (0, .class_ 4), (0, u "java/lang/Object")] 6

/-- java/lang/constant/Constable -/
def k16 : Class := { plain "java/lang/constant/Constable" (some 0) with
  accessFlags := 1537
  interfaces := #[]
  cf := some (fileOf pool16 1 #[] #[] 1537 3 #[] #[])
  fields := #[]
  methods := #[]
  instanceTypes := #[]
  staticTypes := #[]
  resolved := Array.replicate 11 none
  statics := none }

def pool17 : Array CpInfo := pool [(1, .class_ 2), (0, u "java/lang/constant/ConstantDesc"), (0, .class_ 4), (0, u "java/lang/Object")] 32

/-- java/lang/constant/ConstantDesc -/
def k17 : Class := { plain "java/lang/constant/ConstantDesc" (some 0) with
  accessFlags := 1537
  interfaces := #[]
  cf := some (fileOf pool17 1 #[] #[] 1537 3 #[] #[])
  fields := #[]
  methods := #[]
  instanceTypes := #[]
  staticTypes := #[]
  resolved := Array.replicate 37 none
  statics := none }

def pool18 : Array CpInfo := pool [(2, .class_ 4), (1, u "java/lang/Object"), (0, u "<init>"), (0, u "()V"), (3, .class_ 12), (1, u "java/lang/String"), (0, u "value"), (0, u "[B"), (2, u "coder"), (0, u "B"), (2, u "hash"), (0, u "I"), (2, u "hashIsZero"), (0, u "Z"), (13, u "COMPACT_STRINGS"), (534, .class_ 576), (0, u "java/lang/CharSequence"), (22, u "CASE_INSENSITIVE_ORDER"), (0, u "Ljava/util/Comparator;"), (500, u "serialPersistentFields"), (0, u "[Ljava/io/ObjectStreamField;"), (0, .class_ 1104), (0, u "java/lang/String$CaseInsensitiveComparator"), (1, .class_ 1107), (0, u "java/io/Serializable"), (0, .class_ 1109), (0, u "java/lang/Comparable"), (0, .class_ 1111), (0, u "java/lang/constant/Constable"), (0, .class_ 1113), (0, u "java/lang/constant/ConstantDesc"), (2, u "serialVersionUID"), (0, u "J"), (3, u "REPL"), (0, u "C"), (2, u "LATIN1"), (1, u "UTF16")] 323

def k18m0 : Method := { name := "<init>", desc := "()V", sig := { parameters := [], returnType := none }, accessFlags := 1, code := none }
/-- java/lang/String -/
def k18 : Class := { plain "java/lang/String" (some 0) with
  accessFlags := 49
  interfaces := #[11, 14, 15, 16, 17]
  cf := some (fileOf pool18 10 #[.nestMembers #[1103]] #[{ accessFlags := 1, nameIndex := 5, descriptorIndex := 6, attributes := #[] }] 49 2 #[1106, 1108, 575, 1110, 1112] #[{ accessFlags := 18, nameIndex := 13, descriptorIndex := 14, attributes := #[] }, { accessFlags := 18, nameIndex := 17, descriptorIndex := 18, attributes := #[] }, { accessFlags := 2, nameIndex := 21, descriptorIndex := 22, attributes := #[] }, { accessFlags := 2, nameIndex := 25, descriptorIndex := 26, attributes := #[] }, { accessFlags := 26, nameIndex := 1116, descriptorIndex := 1117, attributes := #[] }, { accessFlags := 24, nameIndex := 40, descriptorIndex := 26, attributes := #[] }, { accessFlags := 26, nameIndex := 1101, descriptorIndex := 1102, attributes := #[] }, { accessFlags := 26, nameIndex := 1121, descriptorIndex := 1122, attributes := #[] }, { accessFlags := 25, nameIndex := 599, descriptorIndex := 600, attributes := #[] }, { accessFlags := 24, nameIndex := 1125, descriptorIndex := 18, attributes := #[] }, { accessFlags := 24, nameIndex := 1127, descriptorIndex := 18, attributes := #[] }])
  fields := #[{ name := "value", type := (.array .byte), accessFlags := 18, slot := 0, constantValue := 0 }, { name := "coder", type := .byte, accessFlags := 18, slot := 1, constantValue := 0 }, { name := "hash", type := .int, accessFlags := 2, slot := 2, constantValue := 0 }, { name := "hashIsZero", type := .boolean, accessFlags := 2, slot := 3, constantValue := 0 }, { name := "serialVersionUID", type := .long, accessFlags := 26, slot := 0, constantValue := 0 }, { name := "COMPACT_STRINGS", type := .boolean, accessFlags := 24, slot := 1, constantValue := 0 }, { name := "serialPersistentFields", type := (.array (.object "java/io/ObjectStreamField")), accessFlags := 26, slot := 2, constantValue := 0 }, { name := "REPL", type := .char, accessFlags := 26, slot := 3, constantValue := 0 }, { name := "CASE_INSENSITIVE_ORDER", type := (.object "java/util/Comparator"), accessFlags := 25, slot := 4, constantValue := 0 }, { name := "LATIN1", type := .byte, accessFlags := 24, slot := 5, constantValue := 0 }, { name := "UTF16", type := .byte, accessFlags := 24, slot := 6, constantValue := 0 }]
  methods := #[k18m0]
  instanceTypes := #[(.array .byte), .byte, .int, .boolean]
  staticTypes := #[.long, .boolean, (.array (.object "java/io/ObjectStreamField")), .char, (.object "java/util/Comparator"), .byte, .byte]
  resolved := Array.replicate 1451 none
  statics := none }

def pool19 : Array CpInfo := pool [(8, .class_ 10), (1, u "com/example/invariant_ink/invariantink/lang/Type"), (0, u "BOOL"), (0, u "Lcom/example/invariant_ink/invariantink/lang/FiniteType;"), (5, u "INTEGER"), (0, u "Lcom/example/invariant_ink/invariantink/lang/Type;"), (0, .class_ 21), (0, u "java/lang/Object")] 12

/-- com/example/invariant_ink/invariantink/lang/Type -/
def k19 : Class := { plain "com/example/invariant_ink/invariantink/lang/Type" (some 0) with
  accessFlags := 1537
  interfaces := #[]
  cf := some (fileOf pool19 8 #[] #[] 1537 20 #[] #[{ accessFlags := 25, nameIndex := 11, descriptorIndex := 12, attributes := #[] }, { accessFlags := 25, nameIndex := 18, descriptorIndex := 19, attributes := #[] }])
  fields := #[{ name := "BOOL", type := (.object "com/example/invariant_ink/invariantink/lang/FiniteType"), accessFlags := 25, slot := 0, constantValue := 0 }, { name := "INTEGER", type := (.object "com/example/invariant_ink/invariantink/lang/Type"), accessFlags := 25, slot := 1, constantValue := 0 }]
  methods := #[]
  instanceTypes := #[]
  staticTypes := #[(.object "com/example/invariant_ink/invariantink/lang/FiniteType"), (.object "com/example/invariant_ink/invariantink/lang/Type")]
  resolved := Array.replicate 34 none
  statics := none }

def pool20 : Array CpInfo := pool [(1, .class_ 2), (0, u "com/example/invariant_ink/invariantink/lang/SimpleType"), (0, .class_ 4), (0, u "java/lang/Object"), (0, .class_ 6), (0, u "com/example/invariant_ink/invariantink/lang/Type"), (0, u "first"), (0, u "()J")] 9

def k20m0 : Method := { name := "first", desc := "()J", sig := { parameters := [], returnType := some .long }, accessFlags := 1025, code := none }
/-- com/example/invariant_ink/invariantink/lang/SimpleType -/
def k20 : Class := { plain "com/example/invariant_ink/invariantink/lang/SimpleType" (some 0) with
  accessFlags := 1537
  interfaces := #[19]
  cf := some (fileOf pool20 1 #[] #[{ accessFlags := 1025, nameIndex := 7, descriptorIndex := 8, attributes := #[] }] 1537 3 #[5] #[])
  fields := #[]
  methods := #[k20m0]
  instanceTypes := #[]
  staticTypes := #[]
  resolved := Array.replicate 18 none
  statics := none }

def pool21 : Array CpInfo := pool [(2, .class_ 4), (1, u "com/example/invariant_ink/invariantink/lang/FiniteType"), (0, u "last"), (0, u "()J"), (18, .class_ 26), (0, u "java/lang/Object"), (0, .class_ 28), (0, u "com/example/invariant_ink/invariantink/lang/SimpleType")] 13

def k21m0 : Method := { name := "last", desc := "()J", sig := { parameters := [], returnType := some .long }, accessFlags := 1025, code := none }
/-- com/example/invariant_ink/invariantink/lang/FiniteType -/
def k21 : Class := { plain "com/example/invariant_ink/invariantink/lang/FiniteType" (some 0) with
  accessFlags := 1537
  interfaces := #[20]
  cf := some (fileOf pool21 2 #[] #[{ accessFlags := 1025, nameIndex := 5, descriptorIndex := 6, attributes := #[] }] 1537 25 #[27] #[])
  fields := #[]
  methods := #[k21m0]
  instanceTypes := #[]
  staticTypes := #[]
  resolved := Array.replicate 42 none
  statics := none }

def pool22 : Array CpInfo := pool [(1, .methodref 2 3), (0, .class_ 4), (0, .nameAndType 5 6), (0, u "java/lang/Object"), (0, u "<init>"), (0, u "()V"), (9, .fieldref 17 18), (0, .class_ 19), (0, .nameAndType 20 21), (0, u "com/example/invariant_ink/invariantink/lang/RangeType"), (0, u "low"), (0, u "J"), (0, .fieldref 17 23), (0, .nameAndType 24 21), (0, u "high"), (7, .class_ 33), (0, u "com/example/invariant_ink/invariantink/lang/FiniteType"), (0, u "(JJ)V"), (7, u "first"), (0, u "()J"), (0, u "last")] 21

def k22c0 : Code := { maxStack := 6, maxLocals := 5, code := prog_172_method_1_code, exceptionTable := #[], attributes := #[] }
def k22m0 : Method := { name := "<init>", desc := "(JJ)V", sig := { parameters := [.long, .long], returnType := none }, accessFlags := 1, code := some k22c0 }
def k22c1 : Code := { maxStack := 2, maxLocals := 1, code := prog_172_method_4_code, exceptionTable := #[], attributes := #[] }
def k22m1 : Method := { name := "first", desc := "()J", sig := { parameters := [], returnType := some .long }, accessFlags := 1, code := some k22c1 }
def k22c2 : Code := { maxStack := 2, maxLocals := 1, code := prog_172_method_5_code, exceptionTable := #[], attributes := #[] }
def k22m2 : Method := { name := "last", desc := "()J", sig := { parameters := [], returnType := some .long }, accessFlags := 1, code := some k22c2 }
/-- com/example/invariant_ink/invariantink/lang/RangeType -/
def k22 : Class := { plain "com/example/invariant_ink/invariantink/lang/RangeType" (some 0) with
  accessFlags := 49
  interfaces := #[21]
  cf := some (fileOf pool22 17 #[] #[{ accessFlags := 1, nameIndex := 5, descriptorIndex := 34, attributes := #[] }, { accessFlags := 1, nameIndex := 42, descriptorIndex := 43, attributes := #[] }, { accessFlags := 1, nameIndex := 44, descriptorIndex := 43, attributes := #[] }] 49 2 #[32] #[{ accessFlags := 18, nameIndex := 20, descriptorIndex := 21, attributes := #[] }, { accessFlags := 18, nameIndex := 24, descriptorIndex := 21, attributes := #[] }])
  fields := #[{ name := "low", type := .long, accessFlags := 18, slot := 0, constantValue := 0 }, { name := "high", type := .long, accessFlags := 18, slot := 1, constantValue := 0 }]
  methods := #[k22m0, k22m1, k22m2]
  instanceTypes := #[.long, .long]
  staticTypes := #[]
  resolved := Array.replicate 66 none
  statics := none }

def pool23 : Array CpInfo := pool [(1, .methodref 2 3), (0, .class_ 4), (0, .nameAndType 5 6), (0, u "java/lang/Object"), (0, u "<init>"), (0, u "()V"), (0, .interfaceMethodref 8 9), (0, .class_ 10), (0, .nameAndType 11 12), (0, u "java/util/List"), (0, u "size"), (0, u "()I"), (0, .fieldref 14 15), (0, .class_ 16), (0, .nameAndType 17 18), (0, u "com/example/invariant_ink/invariantink/engine/Combinations"), (0, u "slots"), (0, u "[I"), (0, .fieldref 14 20), (0, .nameAndType 21 22), (0, u "firsts"), (0, u "[J"), (0, .fieldref 14 24), (0, .nameAndType 25 22), (0, u "lasts"), (0, .interfaceMethodref 8 27), (0, .nameAndType 28 29), (0, u "get"), (0, u "(I)Ljava/lang/Object;"), (0, .class_ 31), (0, u "com/example/invariant_ink/invariantink/lang/Local"), (0, .methodref 30 33), (0, .nameAndType 34 35), (0, u "getType"), (0, u "()Lcom/example/invariant_ink/invariantink/lang/Type;"), (0, .class_ 37), (0, u "com/example/invariant_ink/invariantink/lang/SimpleType"), (0, .methodref 30 39), (0, .nameAndType 40 12), (0, u "getSlot"), (0, .interfaceMethodref 36 42), (0, .nameAndType 43 44), (0, u "first"), (0, u "()J"), (0, .class_ 46), (0, u "com/example/invariant_ink/invariantink/lang/FiniteType"), (0, .interfaceMethodref 45 48), (0, .nameAndType 49 44), (0, u "last"), (5, .methodref 14 56), (0, .nameAndType 5 57), (0, u "(Lcom/example/invariant_ink/invariantink/lang/Instance;Ljava/util/List;)V"), (12, u "(Ljava/util/List;)V"), (4, u "next"), (0, u "([J)Z")] 4

def k23c0 : Code := { maxStack := 4, maxLocals := 6, code := prog_19_method_1_code, exceptionTable := #[], attributes := #[] }
def k23m0 : Method := { name := "<init>", desc := "(Lcom/example/invariant_ink/invariantink/lang/Instance;Ljava/util/List;)V", sig := { parameters := [(.object "com/example/invariant_ink/invariantink/lang/Instance"), (.object "java/util/List")], returnType := none }, accessFlags := 0, code := some k23c0 }
def k23c1 : Code := { maxStack := 3, maxLocals := 2, code := prog_19_method_2_code, exceptionTable := #[], attributes := #[] }
def k23m1 : Method := { name := "<init>", desc := "(Ljava/util/List;)V", sig := { parameters := [(.object "java/util/List")], returnType := none }, accessFlags := 0, code := some k23c1 }
def k23c2 : Code := { maxStack := 6, maxLocals := 3, code := prog_19_method_5_code, exceptionTable := #[], attributes := #[] }
def k23m2 : Method := { name := "next", desc := "([J)Z", sig := { parameters := [(.array .long)], returnType := some .boolean }, accessFlags := 0, code := some k23c2 }
/-- com/example/invariant_ink/invariantink/engine/Combinations -/
def k23 : Class := { plain "com/example/invariant_ink/invariantink/engine/Combinations" (some 0) with
  accessFlags := 32
  interfaces := #[]
  cf := some (fileOf pool23 14 #[] #[{ accessFlags := 0, nameIndex := 5, descriptorIndex := 57, attributes := #[] }, { accessFlags := 0, nameIndex := 5, descriptorIndex := 70, attributes := #[] }, { accessFlags := 0, nameIndex := 75, descriptorIndex := 76, attributes := #[] }] 32 2 #[] #[{ accessFlags := 18, nameIndex := 17, descriptorIndex := 18, attributes := #[] }, { accessFlags := 18, nameIndex := 21, descriptorIndex := 22, attributes := #[] }, { accessFlags := 18, nameIndex := 25, descriptorIndex := 22, attributes := #[] }])
  fields := #[{ name := "slots", type := (.array .int), accessFlags := 18, slot := 0, constantValue := 0 }, { name := "firsts", type := (.array .long), accessFlags := 18, slot := 1, constantValue := 0 }, { name := "lasts", type := (.array .long), accessFlags := 18, slot := 2, constantValue := 0 }]
  methods := #[k23m0, k23m1, k23m2]
  instanceTypes := #[(.array .int), (.array .long), (.array .long)]
  staticTypes := #[]
  resolved := Array.replicate 81 none
  statics := none }

def pool24 : Array CpInfo := pool [(2, .class_ 4), (1, u "java/lang/Object"), (0, u "<init>"), (0, u "()V"), (35, .class_ 44), (1, u "java/util/Objects"), (60, .methodref 106 107), (0, .class_ 108), (0, .nameAndType 109 110), (0, u "jdk/internal/util/Preconditions"), (0, u "checkIndex"), (0, u "(IILjava/util/function/BiFunction;)I"), (60, u "(II)I")] 12

def k24m0 : Method := { name := "<init>", desc := "()V", sig := { parameters := [], returnType := none }, accessFlags := 2, code := none }
def k24c1 : Code := { maxStack := 3, maxLocals := 2, code := jdk_31_method_17_code, exceptionTable := #[], attributes := #[] }
def k24m1 : Method := { name := "checkIndex", desc := "(II)I", sig := { parameters := [.int, .int], returnType := some .int }, accessFlags := 9, code := some k24c1 }
/-- java/util/Objects -/
def k24 : Class := { plain "java/util/Objects" (some 0) with
  accessFlags := 49
  interfaces := #[]
  cf := some (fileOf pool24 42 #[] #[{ accessFlags := 2, nameIndex := 5, descriptorIndex := 6, attributes := #[] }, { accessFlags := 9, nameIndex := 109, descriptorIndex := 171, attributes := #[] }] 49 2 #[] #[])
  fields := #[]
  methods := #[k24m0, k24m1]
  instanceTypes := #[]
  staticTypes := #[]
  resolved := Array.replicate 184 none
  statics := none }

def pool25 : Array CpInfo := pool [(2, .class_ 4), (1, u "java/lang/Object"), (0, u "<init>"), (0, u "()V"), (17, .class_ 26), (1, u "jdk/internal/util/Preconditions"), (6, u "checkIndex"), (21, .class_ 56), (0, u "jdk/internal/util/Preconditions$4"), (57, .class_ 115), (0, u "jdk/internal/util/Preconditions$1"), (7, u "SIOOBE_FORMATTER"), (0, u "Ljava/util/function/BiFunction;"), (0, .class_ 126), (0, u "jdk/internal/util/Preconditions$2"), (3, u "AIOOBE_FORMATTER"), (0, .class_ 132), (0, u "jdk/internal/util/Preconditions$3"), (3, u "IOOBE_FORMATTER"), (41, u "(IILjava/util/function/BiFunction;)I")] 15

def k25m0 : Method := { name := "<init>", desc := "()V", sig := { parameters := [], returnType := none }, accessFlags := 1, code := none }
def k25c1 : Code := { maxStack := 3, maxLocals := 3, code := jdk_41_method_11_code, exceptionTable := #[], attributes := #[] }
def k25m1 : Method := { name := "checkIndex", desc := "(IILjava/util/function/BiFunction;)I", sig := { parameters := [.int, .int, (.object "java/util/function/BiFunction")], returnType := some .int }, accessFlags := 9, code := some k25c1 }
/-- jdk/internal/util/Preconditions -/
def k25 : Class := { plain "jdk/internal/util/Preconditions" (some 0) with
  accessFlags := 33
  interfaces := #[]
  cf := some (fileOf pool25 24 #[.nestMembers #[55, 131, 125, 114]] #[{ accessFlags := 1, nameIndex := 5, descriptorIndex := 6, attributes := #[] }, { accessFlags := 9, nameIndex := 33, descriptorIndex := 178, attributes := #[] }] 33 2 #[] #[{ accessFlags := 25, nameIndex := 123, descriptorIndex := 124, attributes := #[] }, { accessFlags := 25, nameIndex := 130, descriptorIndex := 124, attributes := #[] }, { accessFlags := 25, nameIndex := 136, descriptorIndex := 124, attributes := #[] }])
  fields := #[{ name := "SIOOBE_FORMATTER", type := (.object "java/util/function/BiFunction"), accessFlags := 25, slot := 0, constantValue := 0 }, { name := "AIOOBE_FORMATTER", type := (.object "java/util/function/BiFunction"), accessFlags := 25, slot := 1, constantValue := 0 }, { name := "IOOBE_FORMATTER", type := (.object "java/util/function/BiFunction"), accessFlags := 25, slot := 2, constantValue := 0 }]
  methods := #[k25m0, k25m1]
  instanceTypes := #[]
  staticTypes := #[(.object "java/util/function/BiFunction"), (.object "java/util/function/BiFunction"), (.object "java/util/function/BiFunction")]
  resolved := Array.replicate 194 none
  statics := none }

/-- the primitive byte -/
def k26 : Class := { plain "byte" none with kind := .primitive 'B', accessFlags := 0x411 }
/-- [B -/
def k27 : Class := { plain "[B" (some 0) with kind := .array 26 .byte, interfaces := #[10, 11], accessFlags := 1041 }

/-- the primitive int -/
def k28 : Class := { plain "int" none with kind := .primitive 'I', accessFlags := 0x411 }
/-- [I -/
def k29 : Class := { plain "[I" (some 0) with kind := .array 28 .int, interfaces := #[10, 11], accessFlags := 1041 }

/-- the primitive long -/
def k30 : Class := { plain "long" none with kind := .primitive 'J', accessFlags := 0x411 }
/-- [J -/
def k31 : Class := { plain "[J" (some 0) with kind := .array 30 .long, interfaces := #[10, 11], accessFlags := 1041 }

/-- [Ljava/lang/Object; -/
def k32 : Class := { plain "[Ljava/lang/Object;" (some 0) with kind := .array 0 (.object "java/lang/Object"), interfaces := #[10, 11], accessFlags := 1041 }

def heap : Heap := #[{ cls := 12, slots := #[.long 0, .int 0, .ref 1, .ref 2], vm := .statics 12 },
  { cls := 32, slots := #[], vm := .none },
  { cls := 32, slots := #[], vm := .none }]
def classes : Array Class := #[k0, k1, k2, k3, k4, k5, k6, k7, k8, k9, k10, k11, k12, k13, k14, k15, k16, k17, k18, k19, k20, k21, k22, k23, k24, k25, k26, k27, k28, k29, k30, k31, k32]
def interned : List (Array UInt16 × Addr) := []
def slotsUsed : Nat := 4
def theMethod : MethodId := ⟨1, 1⟩
def args0 : Array Value := #[.long 9, .long 5, .long 7, .long 3, .long 6, .long 2]
def aboutOver (below : List Frame) : State where
  vm := { classes := classes, interned := interned.toArray }
  heap := heap
  slotsUsed := slotsUsed
  threads := #[{ frames := .invoking theMethod args0 :: below }]
def below0 : List Frame := [.native { method := ⟨0, 0⟩, args := #[] }]
def about1 : State := aboutOver below0
def p0 : Program := .bare "" "" ""
def e0 : Env := launch0.env 0 0 0
theorem w_frames : about1.frames = Frame.invoking theMethod args0 :: below0 := rfl
set_option maxRecDepth 65536 in
theorem w_args : argsFit about1.vm theMethod args0 = true := by decide +kernel
set_option maxRecDepth 65536 in
theorem w_heap : heapFits about1 = true := by decide +kernel
set_option maxRecDepth 65536 in
theorem w_runnable : about1.curStatus? = some .runnable := by decide +kernel
set_option maxRecDepth 65536 in
theorem w_alone : about1.alone = true := by decide +kernel
set_option maxRecDepth 65536 in
theorem w_named : about1.methodNamed? x = some theMethod := by decide +kernel
set_option maxRecDepth 65536 in
theorem w_hears : about1.hears theMethod below0 = true := by decide +kernel
set_option maxRecDepth 65536 in
theorem w_ripe : about1.ripe theMethod args0 below0 = true := by decide +kernel
theorem w_running : about1.status = .running := rfl
set_option maxRecDepth 65536 in
theorem w_room : about1.hasRoom e0.platform room_1 = true :=
  launch0.hasRoom_least _ room_1 (by decide +kernel) (by decide +kernel) (by decide +kernel) (by decide +kernel) (by decide +kernel) (by decide +kernel)
theorem allAtoms_all (ts : List Jvm.Cond) (a : Array Jvm.Value) (st : Jvm.State) : (allAtoms ts).before a st = ts.all (fun c => c.before a st) := by
  induction ts with
  | nil => rfl
  | cons c t ih =>
    show (Jvm.Cond.and c (allAtoms t)).before a st = _
    rw [Jvm.Cond.before_and, ih, List.all_cons]
def words1 : List Jvm.Cond := Jvm.Cond.code x code maxLocals ret :: tables_1
/-- a 'code' word, met by the world's own term for the bytes: nothing is compared byte by byte -/
theorem code_word {y : MethodName} {bytes : ByteArray} {mx : Nat} {rt : Option FieldType} {a : Array Value} {s : State} {m : MethodId} {meth : Method} {c : Code} (h1 : s.methodNamed? y = some m) (h2 : s.vm.method? m = some meth) (h3 : meth.code = some c) (h4 : c.code = bytes)
    (h5 : (c.maxLocals == mx && c.exceptionTable.isEmpty && decide (c.maxStack ≤ mostOperands) && decide (meth.sig.returnType = rt) && !meth.locks && decide (parseMethodDescriptor y.desc = some meth.sig)) = true) : (Jvm.Cond.code y bytes mx rt).before a s = true := by
  simp only [Bool.and_eq_true, beq_iff_eq, Bool.not_eq_true', decide_eq_true_eq] at h5
  obtain ⟨⟨⟨⟨⟨g1, g2⟩, g3⟩, g4⟩, g5⟩, g6⟩ := h5
  simp [Cond.before, Cond.holds, Cond.value, h1, h2, h3, h4, g1, g2, g3, g4, g5, g6]
def isCode : Jvm.Cond → Bool
  | .code _ _ _ _ => true
  | _ => false
theorem all_split {L : List Jvm.Cond} {P : Jvm.Cond → Bool} (h1 : L.all (fun c => isCode c || P c) = true) (h2 : ∀ c ∈ L.filter isCode, P c = true) : L.all P = true := by
  refine List.all_eq_true.mpr fun c hc => ?_
  have h := List.all_eq_true.mp h1 c hc
  rcases Bool.eq_false_or_eq_true (isCode c) with hi | hi
  · exact h2 c (List.mem_filter.mpr ⟨hc, hi⟩)
  · simpa [hi] using h
set_option maxRecDepth 65536 in
theorem w_c0 : (Jvm.Cond.code x code maxLocals ret).before args0 about1 = true := code_word (m := ⟨1, 1⟩) (meth := k1m1) (c := k1c1) (by decide +kernel) rfl rfl rfl (by decide +kernel)
set_option maxRecDepth 65536 in
theorem w_c1 : (Jvm.Cond.code ({ cls := "java/lang/Math", name := "min", desc := "(JJ)J" } : Jvm.MethodName) jdk_29_method_70_code (4 : Nat) (Option.some Jvm.ClassFile.FieldType.long)).before args0 about1 = true := code_word (m := ⟨2, 3⟩) (meth := k2m3) (c := k2c3) (by decide +kernel) rfl rfl rfl (by decide +kernel)
set_option maxRecDepth 65536 in
theorem w_c2 : (Jvm.Cond.code ({ cls := "java/lang/Math", name := "max", desc := "(JJ)J" } : Jvm.MethodName) jdk_29_method_66_code (4 : Nat) (Option.some Jvm.ClassFile.FieldType.long)).before args0 about1 = true := code_word (m := ⟨2, 2⟩) (meth := k2m2) (c := k2c2) (by decide +kernel) rfl rfl rfl (by decide +kernel)
set_option maxRecDepth 65536 in
theorem w_c3 : (Jvm.Cond.code ({ cls := "java/util/ArrayList", name := "<init>", desc := "()V" } : Jvm.MethodName) jdk_38_method_2_code (1 : Nat) (Option.none : Option Jvm.ClassFile.FieldType)).before args0 about1 = true := code_word (m := ⟨12, 0⟩) (meth := k12m0) (c := k12c0) (by decide +kernel) rfl rfl rfl (by decide +kernel)
set_option maxRecDepth 65536 in
theorem w_c4 : (Jvm.Cond.code ({ cls := "java/util/AbstractList", name := "<init>", desc := "()V" } : Jvm.MethodName) jdk_39_method_1_code (1 : Nat) (Option.none : Option Jvm.ClassFile.FieldType)).before args0 about1 = true := code_word (m := ⟨8, 0⟩) (meth := k8m0) (c := k8c0) (by decide +kernel) rfl rfl rfl (by decide +kernel)
set_option maxRecDepth 65536 in
theorem w_c5 : (Jvm.Cond.code ({ cls := "java/util/AbstractCollection", name := "<init>", desc := "()V" } : Jvm.MethodName) jdk_22_method_1_code (1 : Nat) (Option.none : Option Jvm.ClassFile.FieldType)).before args0 about1 = true := code_word (m := ⟨5, 0⟩) (meth := k5m0) (c := k5c0) (by decide +kernel) rfl rfl rfl (by decide +kernel)
set_option maxRecDepth 65536 in
theorem w_c6 : (Jvm.Cond.code ({ cls := "java/lang/Object", name := "<init>", desc := "()V" } : Jvm.MethodName) object_method_1_code (1 : Nat) (Option.none : Option Jvm.ClassFile.FieldType)).before args0 about1 = true := code_word (m := ⟨0, 0⟩) (meth := k0m0) (c := k0c0) (by decide +kernel) rfl rfl rfl (by decide +kernel)
set_option maxRecDepth 65536 in
theorem w_c7 : (Jvm.Cond.code ({ cls := "com/example/invariant_ink/invariantink/lang/RangeType", name := "<init>", desc := "(JJ)V" } : Jvm.MethodName) prog_172_method_1_code (5 : Nat) (Option.none : Option Jvm.ClassFile.FieldType)).before args0 about1 = true := code_word (m := ⟨22, 0⟩) (meth := k22m0) (c := k22c0) (by decide +kernel) rfl rfl rfl (by decide +kernel)
set_option maxRecDepth 65536 in
theorem w_c8 : (Jvm.Cond.code ({ cls := "com/example/invariant_ink/invariantink/lang/Local", name := "<init>", desc := "(Ljava/lang/String;Lcom/example/invariant_ink/invariantink/lang/Local$Kind;ILcom/example/invariant_ink/invariantink/lang/Type;Lcom/example/invariant_ink/invariantink/lang/Position;)V" } : Jvm.MethodName) prog_159_method_1_code (6 : Nat) (Option.none : Option Jvm.ClassFile.FieldType)).before args0 about1 = true := code_word (m := ⟨13, 0⟩) (meth := k13m0) (c := k13c0) (by decide +kernel) rfl rfl rfl (by decide +kernel)
set_option maxRecDepth 65536 in
theorem w_c9 : (Jvm.Cond.code ({ cls := "java/util/ArrayList", name := "add", desc := "(Ljava/lang/Object;)Z" } : Jvm.MethodName) jdk_38_method_25_code (2 : Nat) (Option.some Jvm.ClassFile.FieldType.boolean)).before args0 about1 = true := code_word (m := ⟨12, 7⟩) (meth := k12m7) (c := k12c7) (by decide +kernel) rfl rfl rfl (by decide +kernel)
set_option maxRecDepth 65536 in
theorem w_c10 : (Jvm.Cond.code ({ cls := "java/util/ArrayList", name := "add", desc := "(Ljava/lang/Object;[Ljava/lang/Object;I)V" } : Jvm.MethodName) jdk_38_method_24_code (4 : Nat) (Option.none : Option Jvm.ClassFile.FieldType)).before args0 about1 = true := code_word (m := ⟨12, 6⟩) (meth := k12m6) (c := k12c6) (by decide +kernel) rfl rfl rfl (by decide +kernel)
set_option maxRecDepth 65536 in
theorem w_c11 : (Jvm.Cond.code ({ cls := "java/util/ArrayList", name := "grow", desc := "()[Ljava/lang/Object;" } : Jvm.MethodName) jdk_38_method_7_code (1 : Nat) (Option.some (Jvm.ClassFile.FieldType.array (Jvm.ClassFile.FieldType.object "java/lang/Object")))).before args0 about1 = true := code_word (m := ⟨12, 2⟩) (meth := k12m2) (c := k12c2) (by decide +kernel) rfl rfl rfl (by decide +kernel)
set_option maxRecDepth 65536 in
theorem w_c12 : (Jvm.Cond.code ({ cls := "java/util/ArrayList", name := "grow", desc := "(I)[Ljava/lang/Object;" } : Jvm.MethodName) jdk_38_method_6_code (4 : Nat) (Option.some (Jvm.ClassFile.FieldType.array (Jvm.ClassFile.FieldType.object "java/lang/Object")))).before args0 about1 = true := code_word (m := ⟨12, 1⟩) (meth := k12m1) (c := k12c1) (by decide +kernel) rfl rfl rfl (by decide +kernel)
set_option maxRecDepth 65536 in
theorem w_c13 : (Jvm.Cond.code ({ cls := "java/lang/Math", name := "max", desc := "(II)I" } : Jvm.MethodName) jdk_29_method_65_code (2 : Nat) (Option.some Jvm.ClassFile.FieldType.int)).before args0 about1 = true := code_word (m := ⟨2, 1⟩) (meth := k2m1) (c := k2c1) (by decide +kernel) rfl rfl rfl (by decide +kernel)
set_option maxRecDepth 65536 in
theorem w_c14 : (Jvm.Cond.code ({ cls := "com/example/invariant_ink/invariantink/engine/Combinations", name := "<init>", desc := "(Ljava/util/List;)V" } : Jvm.MethodName) prog_19_method_2_code (2 : Nat) (Option.none : Option Jvm.ClassFile.FieldType)).before args0 about1 = true := code_word (m := ⟨23, 1⟩) (meth := k23m1) (c := k23c1) (by decide +kernel) rfl rfl rfl (by decide +kernel)
set_option maxRecDepth 65536 in
theorem w_c15 : (Jvm.Cond.code ({ cls := "com/example/invariant_ink/invariantink/engine/Combinations", name := "<init>", desc := "(Lcom/example/invariant_ink/invariantink/lang/Instance;Ljava/util/List;)V" } : Jvm.MethodName) prog_19_method_1_code (6 : Nat) (Option.none : Option Jvm.ClassFile.FieldType)).before args0 about1 = true := code_word (m := ⟨23, 0⟩) (meth := k23m0) (c := k23c0) (by decide +kernel) rfl rfl rfl (by decide +kernel)
set_option maxRecDepth 65536 in
theorem w_c16 : (Jvm.Cond.code ({ cls := "java/util/ArrayList", name := "size", desc := "()I" } : Jvm.MethodName) jdk_38_method_8_code (1 : Nat) (Option.some Jvm.ClassFile.FieldType.int)).before args0 about1 = true := code_word (m := ⟨12, 3⟩) (meth := k12m3) (c := k12c3) (by decide +kernel) rfl rfl rfl (by decide +kernel)
set_option maxRecDepth 65536 in
theorem w_c17 : (Jvm.Cond.code ({ cls := "java/util/ArrayList", name := "get", desc := "(I)Ljava/lang/Object;" } : Jvm.MethodName) jdk_38_method_20_code (2 : Nat) (Option.some (Jvm.ClassFile.FieldType.object "java/lang/Object"))).before args0 about1 = true := code_word (m := ⟨12, 5⟩) (meth := k12m5) (c := k12c5) (by decide +kernel) rfl rfl rfl (by decide +kernel)
set_option maxRecDepth 65536 in
theorem w_c18 : (Jvm.Cond.code ({ cls := "java/util/Objects", name := "checkIndex", desc := "(II)I" } : Jvm.MethodName) jdk_31_method_17_code (2 : Nat) (Option.some Jvm.ClassFile.FieldType.int)).before args0 about1 = true := code_word (m := ⟨24, 1⟩) (meth := k24m1) (c := k24c1) (by decide +kernel) rfl rfl rfl (by decide +kernel)
set_option maxRecDepth 65536 in
theorem w_c19 : (Jvm.Cond.code ({ cls := "jdk/internal/util/Preconditions", name := "checkIndex", desc := "(IILjava/util/function/BiFunction;)I" } : Jvm.MethodName) jdk_41_method_11_code (3 : Nat) (Option.some Jvm.ClassFile.FieldType.int)).before args0 about1 = true := code_word (m := ⟨25, 1⟩) (meth := k25m1) (c := k25c1) (by decide +kernel) rfl rfl rfl (by decide +kernel)
set_option maxRecDepth 65536 in
theorem w_c20 : (Jvm.Cond.code ({ cls := "java/util/ArrayList", name := "elementData", desc := "(I)Ljava/lang/Object;" } : Jvm.MethodName) jdk_38_method_18_code (2 : Nat) (Option.some (Jvm.ClassFile.FieldType.object "java/lang/Object"))).before args0 about1 = true := code_word (m := ⟨12, 4⟩) (meth := k12m4) (c := k12c4) (by decide +kernel) rfl rfl rfl (by decide +kernel)
set_option maxRecDepth 65536 in
theorem w_c21 : (Jvm.Cond.code ({ cls := "com/example/invariant_ink/invariantink/lang/Local", name := "getType", desc := "()Lcom/example/invariant_ink/invariantink/lang/Type;" } : Jvm.MethodName) prog_159_method_5_code (1 : Nat) (Option.some (Jvm.ClassFile.FieldType.object "com/example/invariant_ink/invariantink/lang/Type"))).before args0 about1 = true := code_word (m := ⟨13, 2⟩) (meth := k13m2) (c := k13c2) (by decide +kernel) rfl rfl rfl (by decide +kernel)
set_option maxRecDepth 65536 in
theorem w_c22 : (Jvm.Cond.code ({ cls := "com/example/invariant_ink/invariantink/lang/Local", name := "getSlot", desc := "()I" } : Jvm.MethodName) prog_159_method_4_code (1 : Nat) (Option.some Jvm.ClassFile.FieldType.int)).before args0 about1 = true := code_word (m := ⟨13, 1⟩) (meth := k13m1) (c := k13c1) (by decide +kernel) rfl rfl rfl (by decide +kernel)
set_option maxRecDepth 65536 in
theorem w_c23 : (Jvm.Cond.code ({ cls := "com/example/invariant_ink/invariantink/lang/RangeType", name := "first", desc := "()J" } : Jvm.MethodName) prog_172_method_4_code (1 : Nat) (Option.some Jvm.ClassFile.FieldType.long)).before args0 about1 = true := code_word (m := ⟨22, 1⟩) (meth := k22m1) (c := k22c1) (by decide +kernel) rfl rfl rfl (by decide +kernel)
set_option maxRecDepth 65536 in
theorem w_c24 : (Jvm.Cond.code ({ cls := "com/example/invariant_ink/invariantink/lang/RangeType", name := "last", desc := "()J" } : Jvm.MethodName) prog_172_method_5_code (1 : Nat) (Option.some Jvm.ClassFile.FieldType.long)).before args0 about1 = true := code_word (m := ⟨22, 2⟩) (meth := k22m2) (c := k22c2) (by decide +kernel) rfl rfl rfl (by decide +kernel)
set_option maxRecDepth 65536 in
theorem w_c25 : (Jvm.Cond.code ({ cls := "com/example/invariant_ink/invariantink/engine/Combinations", name := "next", desc := "([J)Z" } : Jvm.MethodName) prog_19_method_5_code (3 : Nat) (Option.some Jvm.ClassFile.FieldType.boolean)).before args0 about1 = true := code_word (m := ⟨23, 2⟩) (meth := k23m2) (c := k23c2) (by decide +kernel) rfl rfl rfl (by decide +kernel)
def codes1 : List Jvm.Cond := [Jvm.Cond.code x code maxLocals ret, Jvm.Cond.code ({ cls := "java/lang/Math", name := "min", desc := "(JJ)J" } : Jvm.MethodName) jdk_29_method_70_code (4 : Nat) (Option.some Jvm.ClassFile.FieldType.long), Jvm.Cond.code ({ cls := "java/lang/Math", name := "max", desc := "(JJ)J" } : Jvm.MethodName) jdk_29_method_66_code (4 : Nat) (Option.some Jvm.ClassFile.FieldType.long), Jvm.Cond.code ({ cls := "java/util/ArrayList", name := "<init>", desc := "()V" } : Jvm.MethodName) jdk_38_method_2_code (1 : Nat) (Option.none : Option Jvm.ClassFile.FieldType), Jvm.Cond.code ({ cls := "java/util/AbstractList", name := "<init>", desc := "()V" } : Jvm.MethodName) jdk_39_method_1_code (1 : Nat) (Option.none : Option Jvm.ClassFile.FieldType), Jvm.Cond.code ({ cls := "java/util/AbstractCollection", name := "<init>", desc := "()V" } : Jvm.MethodName) jdk_22_method_1_code (1 : Nat) (Option.none : Option Jvm.ClassFile.FieldType), Jvm.Cond.code ({ cls := "java/lang/Object", name := "<init>", desc := "()V" } : Jvm.MethodName) object_method_1_code (1 : Nat) (Option.none : Option Jvm.ClassFile.FieldType), Jvm.Cond.code ({ cls := "com/example/invariant_ink/invariantink/lang/RangeType", name := "<init>", desc := "(JJ)V" } : Jvm.MethodName) prog_172_method_1_code (5 : Nat) (Option.none : Option Jvm.ClassFile.FieldType), Jvm.Cond.code ({ cls := "com/example/invariant_ink/invariantink/lang/Local", name := "<init>", desc := "(Ljava/lang/String;Lcom/example/invariant_ink/invariantink/lang/Local$Kind;ILcom/example/invariant_ink/invariantink/lang/Type;Lcom/example/invariant_ink/invariantink/lang/Position;)V" } : Jvm.MethodName) prog_159_method_1_code (6 : Nat) (Option.none : Option Jvm.ClassFile.FieldType), Jvm.Cond.code ({ cls := "java/util/ArrayList", name := "add", desc := "(Ljava/lang/Object;)Z" } : Jvm.MethodName) jdk_38_method_25_code (2 : Nat) (Option.some Jvm.ClassFile.FieldType.boolean), Jvm.Cond.code ({ cls := "java/util/ArrayList", name := "add", desc := "(Ljava/lang/Object;[Ljava/lang/Object;I)V" } : Jvm.MethodName) jdk_38_method_24_code (4 : Nat) (Option.none : Option Jvm.ClassFile.FieldType), Jvm.Cond.code ({ cls := "java/util/ArrayList", name := "grow", desc := "()[Ljava/lang/Object;" } : Jvm.MethodName) jdk_38_method_7_code (1 : Nat) (Option.some (Jvm.ClassFile.FieldType.array (Jvm.ClassFile.FieldType.object "java/lang/Object"))), Jvm.Cond.code ({ cls := "java/util/ArrayList", name := "grow", desc := "(I)[Ljava/lang/Object;" } : Jvm.MethodName) jdk_38_method_6_code (4 : Nat) (Option.some (Jvm.ClassFile.FieldType.array (Jvm.ClassFile.FieldType.object "java/lang/Object"))), Jvm.Cond.code ({ cls := "java/lang/Math", name := "max", desc := "(II)I" } : Jvm.MethodName) jdk_29_method_65_code (2 : Nat) (Option.some Jvm.ClassFile.FieldType.int), Jvm.Cond.code ({ cls := "com/example/invariant_ink/invariantink/engine/Combinations", name := "<init>", desc := "(Ljava/util/List;)V" } : Jvm.MethodName) prog_19_method_2_code (2 : Nat) (Option.none : Option Jvm.ClassFile.FieldType), Jvm.Cond.code ({ cls := "com/example/invariant_ink/invariantink/engine/Combinations", name := "<init>", desc := "(Lcom/example/invariant_ink/invariantink/lang/Instance;Ljava/util/List;)V" } : Jvm.MethodName) prog_19_method_1_code (6 : Nat) (Option.none : Option Jvm.ClassFile.FieldType), Jvm.Cond.code ({ cls := "java/util/ArrayList", name := "size", desc := "()I" } : Jvm.MethodName) jdk_38_method_8_code (1 : Nat) (Option.some Jvm.ClassFile.FieldType.int), Jvm.Cond.code ({ cls := "java/util/ArrayList", name := "get", desc := "(I)Ljava/lang/Object;" } : Jvm.MethodName) jdk_38_method_20_code (2 : Nat) (Option.some (Jvm.ClassFile.FieldType.object "java/lang/Object")), Jvm.Cond.code ({ cls := "java/util/Objects", name := "checkIndex", desc := "(II)I" } : Jvm.MethodName) jdk_31_method_17_code (2 : Nat) (Option.some Jvm.ClassFile.FieldType.int), Jvm.Cond.code ({ cls := "jdk/internal/util/Preconditions", name := "checkIndex", desc := "(IILjava/util/function/BiFunction;)I" } : Jvm.MethodName) jdk_41_method_11_code (3 : Nat) (Option.some Jvm.ClassFile.FieldType.int), Jvm.Cond.code ({ cls := "java/util/ArrayList", name := "elementData", desc := "(I)Ljava/lang/Object;" } : Jvm.MethodName) jdk_38_method_18_code (2 : Nat) (Option.some (Jvm.ClassFile.FieldType.object "java/lang/Object")), Jvm.Cond.code ({ cls := "com/example/invariant_ink/invariantink/lang/Local", name := "getType", desc := "()Lcom/example/invariant_ink/invariantink/lang/Type;" } : Jvm.MethodName) prog_159_method_5_code (1 : Nat) (Option.some (Jvm.ClassFile.FieldType.object "com/example/invariant_ink/invariantink/lang/Type")), Jvm.Cond.code ({ cls := "com/example/invariant_ink/invariantink/lang/Local", name := "getSlot", desc := "()I" } : Jvm.MethodName) prog_159_method_4_code (1 : Nat) (Option.some Jvm.ClassFile.FieldType.int), Jvm.Cond.code ({ cls := "com/example/invariant_ink/invariantink/lang/RangeType", name := "first", desc := "()J" } : Jvm.MethodName) prog_172_method_4_code (1 : Nat) (Option.some Jvm.ClassFile.FieldType.long), Jvm.Cond.code ({ cls := "com/example/invariant_ink/invariantink/lang/RangeType", name := "last", desc := "()J" } : Jvm.MethodName) prog_172_method_5_code (1 : Nat) (Option.some Jvm.ClassFile.FieldType.long), Jvm.Cond.code ({ cls := "com/example/invariant_ink/invariantink/engine/Combinations", name := "next", desc := "([J)Z" } : Jvm.MethodName) prog_19_method_5_code (3 : Nat) (Option.some Jvm.ClassFile.FieldType.boolean)]
set_option maxRecDepth 65536 in
theorem codes_eq : words1.filter isCode = codes1 := rfl
theorem w_codes : ∀ c ∈ words1.filter isCode, c.before args0 about1 = true := by
  rw [codes_eq]
  intro c hc
  simp only [codes1, List.mem_cons, List.not_mem_nil, or_false] at hc
  rcases hc with rfl | rfl | rfl | rfl | rfl | rfl | rfl | rfl | rfl | rfl | rfl | rfl | rfl | rfl | rfl | rfl | rfl | rfl | rfl | rfl | rfl | rfl | rfl | rfl | rfl | rfl
  · exact w_c0
  · exact w_c1
  · exact w_c2
  · exact w_c3
  · exact w_c4
  · exact w_c5
  · exact w_c6
  · exact w_c7
  · exact w_c8
  · exact w_c9
  · exact w_c10
  · exact w_c11
  · exact w_c12
  · exact w_c13
  · exact w_c14
  · exact w_c15
  · exact w_c16
  · exact w_c17
  · exact w_c18
  · exact w_c19
  · exact w_c20
  · exact w_c21
  · exact w_c22
  · exact w_c23
  · exact w_c24
  · exact w_c25
set_option maxRecDepth 65536 in
theorem w_t1 : (words1.take 24).all (fun c => isCode c || c.before args0 about1) = true := by decide +kernel
set_option maxRecDepth 65536 in
theorem w_t2 : ((words1.drop 24).take 24).all (fun c => isCode c || c.before args0 about1) = true := by decide +kernel
set_option maxRecDepth 65536 in
theorem w_t3 : (((words1.drop 24).drop 24).take 24).all (fun c => isCode c || c.before args0 about1) = true := by decide +kernel
set_option maxRecDepth 65536 in
theorem w_t4 : ((((words1.drop 24).drop 24).drop 24).take 24).all (fun c => isCode c || c.before args0 about1) = true := by decide +kernel
set_option maxRecDepth 65536 in
theorem w_t5 : (((((words1.drop 24).drop 24).drop 24).drop 24).take 24).all (fun c => isCode c || c.before args0 about1) = true := by decide +kernel
set_option maxRecDepth 65536 in
theorem w_t6 : ((((((words1.drop 24).drop 24).drop 24).drop 24).drop 24).take 24).all (fun c => isCode c || c.before args0 about1) = true := by decide +kernel
set_option maxRecDepth 65536 in
theorem w_t7 : (((((((words1.drop 24).drop 24).drop 24).drop 24).drop 24).drop 24).take 24).all (fun c => isCode c || c.before args0 about1) = true := by decide +kernel
set_option maxRecDepth 65536 in
theorem w_t8 : (((((((words1.drop 24).drop 24).drop 24).drop 24).drop 24).drop 24).drop 24).all (fun c => isCode c || c.before args0 about1) = true := by decide +kernel
theorem w_tables : (allAtoms (Jvm.Cond.code x code maxLocals ret :: tables_1)).before args0 about1 = true := by
  rw [allAtoms_all]
  show words1.all (fun c => c.before args0 about1) = true
  refine all_split ?_ w_codes
  rw [← List.take_append_drop 24 words1, List.all_append, w_t1, ← List.take_append_drop 24 (words1.drop 24), List.all_append, w_t2, ← List.take_append_drop 24 ((words1.drop 24).drop 24), List.all_append, w_t3, ← List.take_append_drop 24 (((words1.drop 24).drop 24).drop 24), List.all_append, w_t4, ← List.take_append_drop 24 ((((words1.drop 24).drop 24).drop 24).drop 24), List.all_append, w_t5, ← List.take_append_drop 24 (((((words1.drop 24).drop 24).drop 24).drop 24).drop 24), List.all_append, w_t6, ← List.take_append_drop 24 ((((((words1.drop 24).drop 24).drop 24).drop 24).drop 24).drop 24), List.all_append, w_t7, w_t8]
  rfl
set_option maxRecDepth 65536 in
theorem w_rest : rest_1_c.before args0 about1 = true := by decide +kernel
set_option maxRecDepth 65536 in
theorem w_case : (Jvm.Cond.and given_1 narrow_1).before args0 about1 = true := by decide +kernel
theorem w_applies : (headSpec (Jvm.Cond.code x code maxLocals ret :: tables_1) room_1).applies x e0.platform about1 = true :=
  (Spec.applies_iff w_frames).mpr ⟨w_running, w_runnable, w_alone, w_named, w_hears, w_ripe, w_room, w_tables⟩
theorem atStart : AtStart classFile x code maxLocals ret World_1 tables_1 room_1 Calls_1 rest_1 Pre_1 launch0 p0 e0 about1 theMethod args0 below0 :=
  ⟨lists_1, trivial, launch0.admits_env _ _ _, launch0.least_env, fairChoices_fair.cas, fairChoices_fair.clock, w_frames, w_args, w_heap, w_applies, trivial, w_rest, w_case⟩
end start1
theorem witness_1 : WitnessClaimed_1 := ⟨start1.p0, start1.e0, start1.about1, start1.theMethod, start1.args0, start1.below0, start1.atStart⟩
end Jvm.Pilot.@@N@@
