import JvmDerived
import JvmDerived.Pilot.@@N@@Statement
import JvmDerived.Pilot.@@N@@Code
set_option linter.unusedVariables false
set_option linter.unusedSimpArgs false
namespace Jvm.RoadKit
open Sem ClassFile Op Lib Jvm.Stand Jvm.Free Jvm.LawKit
section New
variable {p : Program} {l : Launch} {e : Env} {R : Room} {s : State} {m : MethodId} {args : Array Value} {below : List Frame} {meth : Method} {c : Code} {T : State} {locs : List Loc} {cells slots : Nat}
theorem retI (X : Stand p l e R s m args below meth c T locs cells slots) (hx : p.tables.exec = Jvm.exec) {pc : Nat} {Ls : Array Slot} {z : Int32} {rest : List Value} (hret : meth.sig.returnType = some .int) (hd : decode c.code pc = .ok (.ireturn, 1)) {fs : List Frame}
    (hl : ∀ (f : JFrame) (acts : List Action), f.method = m → f.locked = none → f.entered = [] → (doReturn e (T.setTop f) acts (some (.int z))).1 = T.setFrames fs) : Steps p.tables e below (T.setTop (mkF m pc Ls (.int z :: rest))) (T.setFrames fs) := by
  have hm' : T.vm.method? m = some meth := X.method'
  have hn : narrow .int (.int z) = .int z := rfl
  show Steps p.tables e below (T.setTop { method := m, pc := pc, locals := Ls, stack := _ :: rest, locked := none }) _
  jvm_step X.here [X.here.top, hx, hd, hm', hret, hn]
  first | (intro acts; rw [hl _ acts rfl rfl rfl]) | rw [hl _ _ rfl rfl rfl]
  exact Steps.refl _
end New
end Jvm.RoadKit
namespace Jvm.Pilot.@@N@@
open Jvm Jvm.ClassFile Sem Op Lib Jvm.Free Jvm.Stand Jvm.LawKit Jvm.RoadKit Bundle Jvm.Pilot.@@N@@.Jvm.D
/-- a body that leaves the heap as it was and returns w -/
def QP (w : Option Value) (h0 : Heap) (n0 : Nat) (v : Option Value) (h : Heap) (L : List Loc) : Prop := v = w ∧ Fr n0 L ∧ h = h0
/-- the places written so far, under a name -/
theorem own_loc {p : Program} {l : Launch} {e : Env} {R : Room} {s : State} {m : MethodId} {args : Array Value} {below : List Frame} {meth : Method} {c : Code} {T : State} {locs : List Loc} {cells slots : Nat} {k : Nat} (X : Stand p l e R s m args below meth c T locs cells slots) (N : Fr k locs) : ∃ Ls, Stand p l e R s m args below meth c T Ls cells slots ∧ Fr k Ls := ⟨_, X, N⟩
theorem pd_0 : parseMethodDescriptor "(JJ)V" = some ⟨[.long, .long], none⟩ := by decide +kernel
theorem pd_1 : parseMethodDescriptor "()V" = some ⟨[], none⟩ := by decide +kernel
theorem pd_2 : parseMethodDescriptor "(Ljava/lang/String;Lcom/example/invariant_ink/invariantink/lang/Local$Kind;ILcom/example/invariant_ink/invariantink/lang/Type;Lcom/example/invariant_ink/invariantink/lang/Position;)V" = some ⟨[(.object "java/lang/String"), (.object "com/example/invariant_ink/invariantink/lang/Local$Kind"), .int, (.object "com/example/invariant_ink/invariantink/lang/Type"), (.object "com/example/invariant_ink/invariantink/lang/Position")], none⟩ := by decide +kernel
theorem pd_3 : parseMethodDescriptor "(Ljava/util/List;)V" = some ⟨[(.object "java/util/List")], none⟩ := by decide +kernel
theorem pd_4 : parseMethodDescriptor "(Lcom/example/invariant_ink/invariantink/lang/Instance;Ljava/util/List;)V" = some ⟨[(.object "com/example/invariant_ink/invariantink/lang/Instance"), (.object "java/util/List")], none⟩ := by decide +kernel
theorem pd_5 : parseMethodDescriptor "()I" = some ⟨[], some .int⟩ := by decide +kernel
theorem pd_6 : parseMethodDescriptor "([J)[J" = some ⟨[(.array .long)], some (.array .long)⟩ := by decide +kernel
theorem pd_7 : parseMethodDescriptor "(Ljava/lang/Object;)Z" = some ⟨[(.object "java/lang/Object")], some .boolean⟩ := by decide +kernel
theorem pd_8 : parseMethodDescriptor "(Ljava/lang/Object;[Ljava/lang/Object;I)V" = some ⟨[(.object "java/lang/Object"), (.array (.object "java/lang/Object")), .int], none⟩ := by decide +kernel
theorem pd_9 : parseMethodDescriptor "()[Ljava/lang/Object;" = some ⟨[], some (.array (.object "java/lang/Object"))⟩ := by decide +kernel
theorem pd_10 : parseMethodDescriptor "(I)[Ljava/lang/Object;" = some ⟨[.int], some (.array (.object "java/lang/Object"))⟩ := by decide +kernel
theorem pd_11 : parseMethodDescriptor "(II)I" = some ⟨[.int, .int], some .int⟩ := by decide +kernel
theorem pd_12 : parseMethodDescriptor "(I)Ljava/lang/Object;" = some ⟨[.int], some (.object "java/lang/Object")⟩ := by decide +kernel
theorem pd_13 : parseMethodDescriptor "(IILjava/util/function/BiFunction;)I" = some ⟨[.int, .int, (.object "java/util/function/BiFunction")], some .int⟩ := by decide +kernel
theorem pd_14 : parseMethodDescriptor "()Lcom/example/invariant_ink/invariantink/lang/Type;" = some ⟨[], some (.object "com/example/invariant_ink/invariantink/lang/Type")⟩ := by decide +kernel
theorem pd_15 : parseMethodDescriptor "()J" = some ⟨[], some .long⟩ := by decide +kernel
theorem pd_16 : parseMethodDescriptor "(IJJJJ)J" = some ⟨[.int, .long, .long, .long, .long], some .long⟩ := by decide +kernel
section OwnAV
/-- an array whose places hold just vs -/
def own_AV (Z : State) (h : Heap) (a : Addr) (ty : FieldType) (vs : List Value) : Prop := ∃ c : Cell, Arr Z h a c ty ∧ c.slots.toList = vs
theorem own_AV.lt {Z : State} {h : Heap} {a : Addr} {ty : FieldType} {vs : List Value} (F : own_AV Z h a ty vs) : a < h.size := by obtain ⟨c, A, -⟩ := F; exact A.lt
theorem own_AV.ext {Z : State} {h h' : Heap} {a : Addr} {ty : FieldType} {vs : List Value} (F : own_AV Z h a ty vs) (E : Ext h h') : own_AV Z h' a ty vs := by obtain ⟨c, A, r⟩ := F; exact ⟨c, A.ext E, r⟩
theorem own_AV.keep {Z : State} {h h' : Heap} {a : Addr} {ty : FieldType} {vs : List Value} {ws : List Addr} (F : own_AV Z h a ty vs) (K : Keep h h' ws) (q : a ∉ ws) : own_AV Z h' a ty vs := by obtain ⟨c, A, r⟩ := F; exact ⟨c, ⟨K.2.1 a c A.1 q, A.2⟩, r⟩
theorem own_AV.other {Z : State} {h h' : Heap} {a b : Addr} {ty : FieldType} {vs : List Value} {sl : Nat} {v : Value} (F : own_AV Z h a ty vs) (W : Wr h h' b sl v) (q : a ≠ b) : own_AV Z h' a ty vs := by obtain ⟨c, A, r⟩ := F; exact ⟨c, A.other W q, r⟩
theorem own_AV.new {Z : State} {h : Heap} {a : Addr} {ty : FieldType} {k : ClassId} {n : Int32} {i : Nat} (A : Arr Z h a (newA k ty n) ty) (hn : n.toNatClampNeg = i) : own_AV Z h a ty (List.replicate i (defaultValue ty)) := ⟨_, A, by subst hn; simp [newA]⟩
theorem own_sz {c : Cell} {vs : List Value} (q : c.slots.toList = vs) : c.slots.size = vs.length := by rw [← q]; simp
theorem own_inb {c : Cell} {vs : List Value} {j : Int32} {n : Nat} (q : c.slots.toList = vs) (hl : vs.length = n) (h0 : ¬ j < 0) (h1 : j.toNatClampNeg < n) : ¬ (j < 0 ∨ c.slots.size ≤ j.toNatClampNeg) := fun r => r.elim h0 fun z => by rw [own_sz q, hl] at z; omega
theorem own_get {c : Cell} {vs : List Value} {j : Int32} {i : Nat} {v : Value} (q : c.slots.toList = vs) (hj : j.toNatClampNeg = i) (hv : vs[i]? = some v) : c.slots[j.toNatClampNeg]? = some v := by rw [hj, ← hv, ← q]; simp
theorem own_len {c : Cell} {vs : List Value} {n : Int32} (q : c.slots.toList = vs) (h : vs.length.toInt32 = n) : c.slots.size.toInt32 = n := by rw [own_sz q, h]
theorem own_AV.set {Z : State} {h h' : Heap} {a : Addr} {ty : FieldType} {vs vs' : List Value} {c : Cell} {j : Int32} {i : Nat} {v : Value} (A : Arr Z h a c ty) (q : c.slots.toList = vs) (W : Wr h h' a j.toNatClampNeg v) (hj : j.toNatClampNeg = i) (e : vs.set i v = vs') : own_AV Z h' a ty vs' := ⟨_, A.same W, by rw [← e, ← q, ← hj]; simp [Cell.setSlot]⟩
end OwnAV
theorem own_h {a0 : Array Value} {Z : State} (hw : ∀ d ∈ tables_1, d.before a0 Z = true) (n : Nat) {d : Jvm.Cond} (h : tables_1[n]? = some d) : d.before a0 Z = true := hw _ (List.mem_of_getElem? h)
/-- an array of objects whose places hold just vs, and what may lie in it -/
def own_AVO (Z : State) (h : Heap) (a : Addr) (vs : List Value) : Prop := ∃ c : Cell, Arr Z h a c (.object "java/lang/Object") ∧ c.slots.toList = vs ∧ Ovr Z c.cls "java/lang/Object"
theorem own_AVO.lt {Z : State} {h : Heap} {a : Addr} {vs : List Value} (F : own_AVO Z h a vs) : a < h.size := by obtain ⟨c, A, -⟩ := F; exact A.lt
theorem own_AVO.ext {Z : State} {h h' : Heap} {a : Addr} {vs : List Value} (F : own_AVO Z h a vs) (E : Ext h h') : own_AVO Z h' a vs := by obtain ⟨c, A, r⟩ := F; exact ⟨c, A.ext E, r⟩
theorem own_AVO.keep {Z : State} {h h' : Heap} {a : Addr} {vs : List Value} {ws : List Addr} (F : own_AVO Z h a vs) (K : Keep h h' ws) (q : a ∉ ws) : own_AVO Z h' a vs := by obtain ⟨c, A, r⟩ := F; exact ⟨c, ⟨K.2.1 a c A.1 q, A.2⟩, r⟩
theorem own_AVO.other {Z : State} {h h' : Heap} {a b : Addr} {vs : List Value} {sl : Nat} {v : Value} (F : own_AVO Z h a vs) (W : Wr h h' b sl v) (q : a ≠ b) : own_AVO Z h' a vs := by obtain ⟨c, A, r⟩ := F; exact ⟨c, A.other W q, r⟩
theorem own_AVO.av {Z : State} {h : Heap} {a : Addr} {vs : List Value} (F : own_AVO Z h a vs) : own_AV Z h a (.object "java/lang/Object") vs := by obtain ⟨c, A, q, -⟩ := F; exact ⟨c, A, q⟩
theorem own_AVO.set {Z : State} {h h' : Heap} {a : Addr} {vs vs' : List Value} {c : Cell} {j : Int32} {i : Nat} {v : Value} (A : Arr Z h a c (.object "java/lang/Object")) (q : c.slots.toList = vs) (O : Ovr Z c.cls "java/lang/Object") (W : Wr h h' a j.toNatClampNeg v) (hj : j.toNatClampNeg = i) (e : vs.set i v = vs') : own_AVO Z h' a vs' := ⟨_, A.same W, by rw [← e, ← q, ← hj]; simp [Cell.setSlot], O⟩
def own_LO (Z : State) (h : Heap) (a : Addr) (ev : Value) (k mc : Int32) : Prop := Exa Z h a "java/util/ArrayList" ∧ Fld Z h a "java/util/ArrayList" "elementData" "[Ljava/lang/Object;" ev ∧ Fld Z h a "java/util/ArrayList" "size" "I" (.int k) ∧ Fld Z h a "java/util/AbstractList" "modCount" "I" (.int mc)
def own_Q0 (n0 : Nat) (v : Option Value) (h : Heap) (L : List Loc) : Prop := v = some (.int 1) ∧ Fr n0 L
def own_QL (Z : State) (a : Addr) (ev : Value) (k mc : Int32) (h0 : Heap) (n0 : Nat) (v : Option Value) (h : Heap) (L : List Loc) : Prop := v = none ∧ Fr n0 L ∧ Keep h0 h [a] ∧ own_LO Z h a ev k mc
def own_QG (Z : State) (a : Addr) (mc : Int32) (h0 : Heap) (n0 : Nat) (v : Option Value) (h : Heap) (L : List Loc) : Prop := ∃ e, v = some (.ref e) ∧ Fr n0 L ∧ Keep h0 h [a] ∧ own_LO Z h a (.ref e) 0 mc ∧ h0.size ≤ e ∧ own_AVO Z h e [.null, .null, .null, .null, .null, .null, .null, .null, .null, .null]
def own_QA (v0 : Option Value) (Z : State) (a x : Addr) (mc : Int32) (h0 : Heap) (n0 : Nat) (v : Option Value) (h : Heap) (L : List Loc) : Prop := ∃ e, v = v0 ∧ Fr n0 L ∧ Keep h0 h [a] ∧ own_LO Z h a (.ref e) 1 mc ∧ h0.size ≤ e ∧ own_AVO Z h e [(.ref x), .null, .null, .null, .null, .null, .null, .null, .null, .null]
def own_QK (v0 : Option Value) (Z : State) (a e : Addr) (k mc : Int32) (vs : List Value) (h0 : Heap) (n0 : Nat) (v : Option Value) (h : Heap) (L : List Loc) : Prop := v = v0 ∧ Fr n0 L ∧ Keep h0 h [a, e] ∧ own_LO Z h a (.ref e) k mc ∧ own_AVO Z h e vs
def own_QR (Z : State) (a : Addr) (lo hi : Int64) (h0 : Heap) (n0 : Nat) (v : Option Value) (h : Heap) (L : List Loc) : Prop := v = none ∧ Fr n0 L ∧ Keep h0 h [a] ∧ Exa Z h a "com/example/invariant_ink/invariantink/lang/RangeType" ∧ Fld Z h a "com/example/invariant_ink/invariantink/lang/RangeType" "low" "J" (.long lo) ∧ Fld Z h a "com/example/invariant_ink/invariantink/lang/RangeType" "high" "J" (.long hi)
def own_QN (Z : State) (a : Addr) (sl : Int32) (t : Addr) (h0 : Heap) (n0 : Nat) (v : Option Value) (h : Heap) (L : List Loc) : Prop := v = none ∧ Fr n0 L ∧ Keep h0 h [a] ∧ Exa Z h a "com/example/invariant_ink/invariantink/lang/Local" ∧ Fld Z h a "com/example/invariant_ink/invariantink/lang/Local" "slot" "I" (.int sl) ∧ Fld Z h a "com/example/invariant_ink/invariantink/lang/Local" "type" "Lcom/example/invariant_ink/invariantink/lang/Type;" (.ref t)
def own_QC (Z : State) (a : Addr) (ss fs ls : List Value) (h0 : Heap) (n0 : Nat) (v : Option Value) (h : Heap) (L : List Loc) : Prop := ∃ x y z, v = none ∧ Fr n0 L ∧ Keep h0 h [a] ∧ Exa Z h a "com/example/invariant_ink/invariantink/engine/Combinations" ∧ Fld Z h a "com/example/invariant_ink/invariantink/engine/Combinations" "slots" "[I" (.ref x) ∧ Fld Z h a "com/example/invariant_ink/invariantink/engine/Combinations" "firsts" "[J" (.ref y) ∧ Fld Z h a "com/example/invariant_ink/invariantink/engine/Combinations" "lasts" "[J" (.ref z) ∧ own_AV Z h x .int ss ∧ own_AV Z h y .long fs ∧ own_AV Z h z .long ls ∧ h0.size ≤ x ∧ h0.size ≤ y ∧ h0.size ≤ z
def own_QV (Z : State) (vs : List Value) (h0 : Heap) (n0 : Nat) (v : Option Value) (h : Heap) (L : List Loc) : Prop := ∃ r, v = some (.ref r) ∧ Fr n0 L ∧ Keep h0 h [] ∧ own_AV Z h r .long vs ∧ h0.size ≤ r
def own_QX (r : Int32) (Z : State) (a : Addr) (vs : List Value) (h0 : Heap) (n0 : Nat) (v : Option Value) (h : Heap) (L : List Loc) : Prop := v = some (.int r) ∧ Fr n0 L ∧ Keep h0 h [a] ∧ own_AV Z h a .long vs
theorem own_wS (a0 : Array Value) (Z : State) (hw : ∀ d ∈ tables_1, d.before a0 Z = true) : ∀ a ∈ Bundle.stringAtoms, a.before a0 Z = true := by
  intro a ha
  simp only [Bundle.stringAtoms, List.mem_cons, List.not_mem_nil, or_false] at ha
  rcases ha with rfl | rfl | rfl | rfl | rfl | rfl | rfl
  · exact (own_h hw 18 rfl)
  · exact (own_h hw 19 rfl)
  · exact (own_h hw 20 rfl)
  · exact (own_h hw 21 rfl)
  · exact (own_h hw 22 rfl)
  · exact (own_h hw 23 rfl)
  · exact (own_h hw 24 rfl)
def own_max (p0 : Int32) (p1 : Int32) : Int32 := (if p0 < p1 then p1 else p0)
theorem d15_0 : decode jdk_29_method_65_code 0 = .ok (.iload_n 0, 1) := by decide +kernel
theorem d15_1 : decode jdk_29_method_65_code 1 = .ok (.iload_n 1, 1) := by decide +kernel
theorem d15_2 : decode jdk_29_method_65_code 2 = .ok (.if_icmp .lt 7, 3) := by decide +kernel
theorem d15_5 : decode jdk_29_method_65_code 5 = .ok (.iload_n 0, 1) := by decide +kernel
theorem d15_6 : decode jdk_29_method_65_code 6 = .ok (.goto 4, 3) := by decide +kernel
theorem d15_9 : decode jdk_29_method_65_code 9 = .ok (.iload_n 1, 1) := by decide +kernel
theorem d15_10 : decode jdk_29_method_65_code 10 = .ok (.ireturn, 1) := by decide +kernel
theorem ef_15 (m : MethodId) (p0 : Int32) (p1 : Int32) : entryFrame m #[(.int p0), (.int p1)] 2 = mkF m 0 #[.val (.int p0), .val (.int p1)] [] := by first | (simp [entryFrame, mkF, argsToLocals, Value.category]; done) | rfl
set_option maxRecDepth 65536 in
set_option maxHeartbeats 40000000 in
theorem rm15 (l : Launch) (Z : State) (a0 : Array Value) (hw : ∀ d ∈ tables_1, d.before a0 Z = true) (ws : List Jvm.Cond) (p0 : Int32) (p1 : Int32) (h0 : Heap) (n0 : Nat) :
    MetFree l (⟨"java/lang/Math", "max", "(II)I"⟩ : MethodName) (head1 (Jvm.Cond.code (⟨"java/lang/Math", "max", "(II)I"⟩ : MethodName) jdk_29_method_65_code 2 (some .int) :: ws) ({ frames := 0, cells := 0, slots := 0, locals := 0 } : Room)) (fun a U => a = #[(.int p0), (.int p1)] ∧ Z.Warmed39 U.vm ∧ U.heap = h0) (fun _ _ _ _ _ => True) (fun _ U o U' => ∃ v L, o = .returned v ∧ QP (some (.int (own_max p0 p1))) h0 n0 v U'.heap L ∧ FrameEnd U o U' L ({ frames := 0, cells := 0, slots := 0, locals := 0 } : Room).cells ({ frames := 0, cells := 0, slots := 0, locals := 0 } : Room).slots) := by
  refine MetFree.of_bodySF (Jvm.Free.JP.mathPlain rfl (by decide +kernel)) hisR ?_
  intro p e s m args below meth c s₁ Bd hml0 hP hK
  obtain ⟨rfl, hZ, hh⟩ := hP
  have hx := Bd.exec
  have hby := Bd.bytes
  have hml : c.maxLocals = 2 := hml0
  have hown : s.vm.findClass "java/lang/Math" = some m.cls := findClass_of_methodNamed Bd.named
  have hnm := (name_of_methodNamed Bd.named Bd.method).1
  have X0 : Stand p l e ({ frames := 0, cells := 0, slots := 0, locals := 0 } : Room) s m #[(.int p0), (.int p1)] below meth c s₁ [] 0 0 := Stand.of_body Bd
  have e0 : s₁.heap = h0 := by rw [← hh, Bd.state]; rfl
  have N0 := Fr.nil n0
  have go0 : ∀ t, Steps p.tables e below (s₁.setTop (mkF m 0 #[.val (.int p0), .val (.int p1)] [])) t → Steps p.tables e below (s₁.setTop (entryFrame m #[(.int p0), (.int p1)] 2)) t := fun t k => castTop (ef_15 m p0 p1) k
  have go1 : ∀ t, Steps p.tables e below (s₁.setTop (mkF m 2 #[.val (.int p0), .val (.int p1)] [(.int p1), (.int p0)])) t → Steps p.tables e below (s₁.setTop (entryFrame m #[(.int p0), (.int p1)] 2)) t := fun t kt => go0 t (by
      refine XS.iloadN X0.here hx rfl (hb hby d15_0) rfl ?_
      show Steps p.tables e below (s₁.setTop (mkF m 1 #[.val (.int p0), .val (.int p1)] [(.int p0)])) _
      refine XS.iloadN X0.here hx rfl (hb hby d15_1) rfl ?_
      show Steps p.tables e below (s₁.setTop (mkF m 2 #[.val (.int p0), .val (.int p1)] [(.int p1), (.int p0)])) _
      exact kt)
  by_cases hc2_2 : p0 < p1
  · have go3 : ∀ t, Steps p.tables e below (s₁.setTop (mkF m 10 #[.val (.int p0), .val (.int p1)] [(.int p1)])) t → Steps p.tables e below (s₁.setTop (entryFrame m #[(.int p0), (.int p1)] 2)) t := fun t kt => go1 t (by
        refine XS.icmpYes X0.here hx rfl (pc0 := 2) (pc' := 9) rfl (hb hby d15_2) rfl (tlt hc2_2).1 (by decide) (by decide) ?_
        show Steps p.tables e below (s₁.setTop (mkF m 9 #[.val (.int p0), .val (.int p1)] [])) _
        refine XS.iloadN X0.here hx rfl (hb hby d15_9) rfl ?_
        show Steps p.tables e below (s₁.setTop (mkF m 10 #[.val (.int p0), .val (.int p1)] [(.int p1)])) _
        exact kt)
    obtain ⟨fs, hr, hrun, hended, hW, hsame⟩ := X0.leave (v := some (.int p1)) (fun h => by rw [Bd.returns] at h; cases h)
    refine ⟨_, _, go3 _ (retI X0 hx Bd.returns (hb hby d15_10) hr), hrun, hended, _, _, rfl, ?_, ⟨_, rfl⟩, hW, hsame.mono (by decide) (by decide)⟩
    refine ⟨?_, N0, e0⟩
    show some (Value.int p1) = some (.int (own_max p0 p1))
    unfold own_max
    rw [if_pos hc2_2]
  · have go4 : ∀ t, Steps p.tables e below (s₁.setTop (mkF m 10 #[.val (.int p0), .val (.int p1)] [(.int p0)])) t → Steps p.tables e below (s₁.setTop (entryFrame m #[(.int p0), (.int p1)] 2)) t := fun t kt => go1 t (by
        refine XS.icmpNo X0.here hx rfl (hb hby d15_2) rfl (flt hc2_2).1 ?_
        show Steps p.tables e below (s₁.setTop (mkF m 5 #[.val (.int p0), .val (.int p1)] [])) _
        refine XS.iloadN X0.here hx rfl (hb hby d15_5) rfl ?_
        show Steps p.tables e below (s₁.setTop (mkF m 6 #[.val (.int p0), .val (.int p1)] [(.int p0)])) _
        refine XS.goto X0.here hx rfl (pc0 := 6) (pc' := 10) rfl (hb hby d15_6) (by decide) (by decide) ?_
        show Steps p.tables e below (s₁.setTop (mkF m 10 #[.val (.int p0), .val (.int p1)] [(.int p0)])) _
        exact kt)
    obtain ⟨fs, hr, hrun, hended, hW, hsame⟩ := X0.leave (v := some (.int p0)) (fun h => by rw [Bd.returns] at h; cases h)
    refine ⟨_, _, go4 _ (retI X0 hx Bd.returns (hb hby d15_10) hr), hrun, hended, _, _, rfl, ?_, ⟨_, rfl⟩, hW, hsame.mono (by decide) (by decide)⟩
    refine ⟨?_, N0, e0⟩
    show some (Value.int p0) = some (.int (own_max p0 p1))
    unfold own_max
    rw [if_neg hc2_2]
def own_at (p0 : Int32) (q1 : Int64) (q2 : Int64) (q3 : Int64) (q4 : Int64) : Int64 := (if p0 = (0 : Int32) then q1 else (if p0 = (1 : Int32) then q2 else (if p0 = (2 : Int32) then q3 else q4)))
theorem d24_0 : decode method_3_code 0 = .ok (.iload_n 0, 1) := by decide +kernel
theorem d24_1 : decode method_3_code 1 = .ok (.ifCond .ne 5, 3) := by decide +kernel
theorem d24_4 : decode method_3_code 4 = .ok (.lload_n 1, 1) := by decide +kernel
theorem d24_5 : decode method_3_code 5 = .ok (.lreturn, 1) := by decide +kernel
theorem d24_6 : decode method_3_code 6 = .ok (.iload_n 0, 1) := by decide +kernel
theorem d24_7 : decode method_3_code 7 = .ok (.iconst 1, 1) := by decide +kernel
theorem d24_8 : decode method_3_code 8 = .ok (.if_icmp .ne 5, 3) := by decide +kernel
theorem d24_11 : decode method_3_code 11 = .ok (.lload_n 3, 1) := by decide +kernel
theorem d24_12 : decode method_3_code 12 = .ok (.lreturn, 1) := by decide +kernel
theorem d24_13 : decode method_3_code 13 = .ok (.iload_n 0, 1) := by decide +kernel
theorem d24_14 : decode method_3_code 14 = .ok (.iconst 2, 1) := by decide +kernel
theorem d24_15 : decode method_3_code 15 = .ok (.if_icmp .ne 6, 3) := by decide +kernel
theorem d24_18 : decode method_3_code 18 = .ok (.lload 5, 2) := by decide +kernel
theorem d24_20 : decode method_3_code 20 = .ok (.lreturn, 1) := by decide +kernel
theorem d24_21 : decode method_3_code 21 = .ok (.lload 7, 2) := by decide +kernel
theorem d24_23 : decode method_3_code 23 = .ok (.lreturn, 1) := by decide +kernel
theorem pn_24 : plainName "com/example/invariant_ink/invariantink/engine/CombinationsValuesPinLaw" = true := by first | (simp [plainName, overriddenIn]; done) | decide +kernel
theorem ef_24 (m : MethodId) (p0 : Int32) (q1 : Int64) (q2 : Int64) (q3 : Int64) (q4 : Int64) : entryFrame m #[(.int p0), (.long q1), (.long q2), (.long q3), (.long q4)] 9 = mkF m 0 #[.val (.int p0), .val (.long q1), .second, .val (.long q2), .second, .val (.long q3), .second, .val (.long q4), .second] [] := by first | (simp [entryFrame, mkF, argsToLocals, Value.category]; done) | rfl
set_option maxRecDepth 65536 in
set_option maxHeartbeats 40000000 in
theorem rm24 (l : Launch) (Z : State) (a0 : Array Value) (hw : ∀ d ∈ tables_1, d.before a0 Z = true) (ws : List Jvm.Cond) (p0 : Int32) (q1 : Int64) (q2 : Int64) (q3 : Int64) (q4 : Int64) (h0 : Heap) (n0 : Nat) :
    MetFree l (⟨"com/example/invariant_ink/invariantink/engine/CombinationsValuesPinLaw", "at", "(IJJJJ)J"⟩ : MethodName) (head1 (Jvm.Cond.code (⟨"com/example/invariant_ink/invariantink/engine/CombinationsValuesPinLaw", "at", "(IJJJJ)J"⟩ : MethodName) method_3_code 9 (some .long) :: ws) ({ frames := 0, cells := 0, slots := 0, locals := 0 } : Room)) (fun a U => a = #[(.int p0), (.long q1), (.long q2), (.long q3), (.long q4)] ∧ Z.Warmed39 U.vm ∧ U.heap = h0) (fun _ _ _ _ _ => True) (fun _ U o U' => ∃ v L, o = .returned v ∧ QP (some (.long (own_at p0 q1 q2 q3 q4))) h0 n0 v U'.heap L ∧ FrameEnd U o U' L ({ frames := 0, cells := 0, slots := 0, locals := 0 } : Room).cells ({ frames := 0, cells := 0, slots := 0, locals := 0 } : Room).slots) := by
  refine MetFree.of_bodySF (plainFor_of_name pn_24) hisR ?_
  intro p e s m args below meth c s₁ Bd hml0 hP hK
  obtain ⟨rfl, hZ, hh⟩ := hP
  have hx := Bd.exec
  have hby := Bd.bytes
  have hml : c.maxLocals = 9 := hml0
  have hown : s.vm.findClass "com/example/invariant_ink/invariantink/engine/CombinationsValuesPinLaw" = some m.cls := findClass_of_methodNamed Bd.named
  have hnm := (name_of_methodNamed Bd.named Bd.method).1
  have X0 : Stand p l e ({ frames := 0, cells := 0, slots := 0, locals := 0 } : Room) s m #[(.int p0), (.long q1), (.long q2), (.long q3), (.long q4)] below meth c s₁ [] 0 0 := Stand.of_body Bd
  have e0 : s₁.heap = h0 := by rw [← hh, Bd.state]; rfl
  have N0 := Fr.nil n0
  have go0 : ∀ t, Steps p.tables e below (s₁.setTop (mkF m 0 #[.val (.int p0), .val (.long q1), .second, .val (.long q2), .second, .val (.long q3), .second, .val (.long q4), .second] [])) t → Steps p.tables e below (s₁.setTop (entryFrame m #[(.int p0), (.long q1), (.long q2), (.long q3), (.long q4)] 9)) t := fun t k => castTop (ef_24 m p0 q1 q2 q3 q4) k
  have go1 : ∀ t, Steps p.tables e below (s₁.setTop (mkF m 1 #[.val (.int p0), .val (.long q1), .second, .val (.long q2), .second, .val (.long q3), .second, .val (.long q4), .second] [(.int p0)])) t → Steps p.tables e below (s₁.setTop (entryFrame m #[(.int p0), (.long q1), (.long q2), (.long q3), (.long q4)] 9)) t := fun t kt => go0 t (by
      refine XS.iloadN X0.here hx rfl (hb hby d24_0) rfl ?_
      show Steps p.tables e below (s₁.setTop (mkF m 1 #[.val (.int p0), .val (.long q1), .second, .val (.long q2), .second, .val (.long q3), .second, .val (.long q4), .second] [(.int p0)])) _
      exact kt)
  by_cases hc1_2 : p0 = (0 : Int32)
  · have go3 : ∀ t, Steps p.tables e below (s₁.setTop (mkF m 5 #[.val (.int p0), .val (.long q1), .second, .val (.long q2), .second, .val (.long q3), .second, .val (.long q4), .second] [(.long q1)])) t → Steps p.tables e below (s₁.setTop (entryFrame m #[(.int p0), (.long q1), (.long q2), (.long q3), (.long q4)] 9)) t := fun t kt => go1 t (by
        refine XS.ifNo X0.here hx rfl (hb hby d24_1) rfl ((if0 _ _).trans (teq hc1_2).2) ?_
        show Steps p.tables e below (s₁.setTop (mkF m 4 #[.val (.int p0), .val (.long q1), .second, .val (.long q2), .second, .val (.long q3), .second, .val (.long q4), .second] [])) _
        refine XS.lloadN X0.here hx rfl (hb hby d24_4) rfl ?_
        show Steps p.tables e below (s₁.setTop (mkF m 5 #[.val (.int p0), .val (.long q1), .second, .val (.long q2), .second, .val (.long q3), .second, .val (.long q4), .second] [(.long q1)])) _
        exact kt)
    obtain ⟨fs, hr, hrun, hended, hW, hsame⟩ := X0.leave (v := some (.long q1)) (fun h => by rw [Bd.returns] at h; cases h)
    refine ⟨_, _, go3 _ (X0.lreturnOut hx Bd.returns (hb hby d24_5) hr), hrun, hended, _, _, rfl, ?_, ⟨_, rfl⟩, hW, hsame.mono (by decide) (by decide)⟩
    refine ⟨?_, N0, e0⟩
    show some (Value.long q1) = some (.long (own_at p0 q1 q2 q3 q4))
    unfold own_at
    rw [if_pos hc1_2]
  · have go4 : ∀ t, Steps p.tables e below (s₁.setTop (mkF m 8 #[.val (.int p0), .val (.long q1), .second, .val (.long q2), .second, .val (.long q3), .second, .val (.long q4), .second] [(.int (1 : Int32)), (.int p0)])) t → Steps p.tables e below (s₁.setTop (entryFrame m #[(.int p0), (.long q1), (.long q2), (.long q3), (.long q4)] 9)) t := fun t kt => go1 t (by
        refine XS.ifYes X0.here hx rfl (pc0 := 1) (pc' := 6) rfl (hb hby d24_1) rfl ((if0 _ _).trans (feq hc1_2).2) (by decide) (by decide) ?_
        show Steps p.tables e below (s₁.setTop (mkF m 6 #[.val (.int p0), .val (.long q1), .second, .val (.long q2), .second, .val (.long q3), .second, .val (.long q4), .second] [])) _
        refine XS.iloadN X0.here hx rfl (hb hby d24_6) rfl ?_
        show Steps p.tables e below (s₁.setTop (mkF m 7 #[.val (.int p0), .val (.long q1), .second, .val (.long q2), .second, .val (.long q3), .second, .val (.long q4), .second] [(.int p0)])) _
        refine XS.iconst X0.here hx rfl (hb hby d24_7) ?_
        show Steps p.tables e below (s₁.setTop (mkF m 8 #[.val (.int p0), .val (.long q1), .second, .val (.long q2), .second, .val (.long q3), .second, .val (.long q4), .second] [(.int (1 : Int32)), (.int p0)])) _
        exact kt)
    by_cases hc8_5 : p0 = (1 : Int32)
    · have go6 : ∀ t, Steps p.tables e below (s₁.setTop (mkF m 12 #[.val (.int p0), .val (.long q1), .second, .val (.long q2), .second, .val (.long q3), .second, .val (.long q4), .second] [(.long q2)])) t → Steps p.tables e below (s₁.setTop (entryFrame m #[(.int p0), (.long q1), (.long q2), (.long q3), (.long q4)] 9)) t := fun t kt => go4 t (by
          refine XS.icmpNo X0.here hx rfl (hb hby d24_8) rfl (teq hc8_5).2 ?_
          show Steps p.tables e below (s₁.setTop (mkF m 11 #[.val (.int p0), .val (.long q1), .second, .val (.long q2), .second, .val (.long q3), .second, .val (.long q4), .second] [])) _
          refine XS.lloadN X0.here hx rfl (hb hby d24_11) rfl ?_
          show Steps p.tables e below (s₁.setTop (mkF m 12 #[.val (.int p0), .val (.long q1), .second, .val (.long q2), .second, .val (.long q3), .second, .val (.long q4), .second] [(.long q2)])) _
          exact kt)
      obtain ⟨fs, hr, hrun, hended, hW, hsame⟩ := X0.leave (v := some (.long q2)) (fun h => by rw [Bd.returns] at h; cases h)
      refine ⟨_, _, go6 _ (X0.lreturnOut hx Bd.returns (hb hby d24_12) hr), hrun, hended, _, _, rfl, ?_, ⟨_, rfl⟩, hW, hsame.mono (by decide) (by decide)⟩
      refine ⟨?_, N0, e0⟩
      show some (Value.long q2) = some (.long (own_at p0 q1 q2 q3 q4))
      unfold own_at
      rw [if_neg hc1_2, if_pos hc8_5]
    · have go7 : ∀ t, Steps p.tables e below (s₁.setTop (mkF m 15 #[.val (.int p0), .val (.long q1), .second, .val (.long q2), .second, .val (.long q3), .second, .val (.long q4), .second] [(.int (2 : Int32)), (.int p0)])) t → Steps p.tables e below (s₁.setTop (entryFrame m #[(.int p0), (.long q1), (.long q2), (.long q3), (.long q4)] 9)) t := fun t kt => go4 t (by
          refine XS.icmpYes X0.here hx rfl (pc0 := 8) (pc' := 13) rfl (hb hby d24_8) rfl (feq hc8_5).2 (by decide) (by decide) ?_
          show Steps p.tables e below (s₁.setTop (mkF m 13 #[.val (.int p0), .val (.long q1), .second, .val (.long q2), .second, .val (.long q3), .second, .val (.long q4), .second] [])) _
          refine XS.iloadN X0.here hx rfl (hb hby d24_13) rfl ?_
          show Steps p.tables e below (s₁.setTop (mkF m 14 #[.val (.int p0), .val (.long q1), .second, .val (.long q2), .second, .val (.long q3), .second, .val (.long q4), .second] [(.int p0)])) _
          refine XS.iconst X0.here hx rfl (hb hby d24_14) ?_
          show Steps p.tables e below (s₁.setTop (mkF m 15 #[.val (.int p0), .val (.long q1), .second, .val (.long q2), .second, .val (.long q3), .second, .val (.long q4), .second] [(.int (2 : Int32)), (.int p0)])) _
          exact kt)
      by_cases hc15_8 : p0 = (2 : Int32)
      · have go9 : ∀ t, Steps p.tables e below (s₁.setTop (mkF m 20 #[.val (.int p0), .val (.long q1), .second, .val (.long q2), .second, .val (.long q3), .second, .val (.long q4), .second] [(.long q3)])) t → Steps p.tables e below (s₁.setTop (entryFrame m #[(.int p0), (.long q1), (.long q2), (.long q3), (.long q4)] 9)) t := fun t kt => go7 t (by
            refine XS.icmpNo X0.here hx rfl (hb hby d24_15) rfl (teq hc15_8).2 ?_
            show Steps p.tables e below (s₁.setTop (mkF m 18 #[.val (.int p0), .val (.long q1), .second, .val (.long q2), .second, .val (.long q3), .second, .val (.long q4), .second] [])) _
            refine XS.lload X0.here hx rfl (hb hby d24_18) rfl ?_
            show Steps p.tables e below (s₁.setTop (mkF m 20 #[.val (.int p0), .val (.long q1), .second, .val (.long q2), .second, .val (.long q3), .second, .val (.long q4), .second] [(.long q3)])) _
            exact kt)
        obtain ⟨fs, hr, hrun, hended, hW, hsame⟩ := X0.leave (v := some (.long q3)) (fun h => by rw [Bd.returns] at h; cases h)
        refine ⟨_, _, go9 _ (X0.lreturnOut hx Bd.returns (hb hby d24_20) hr), hrun, hended, _, _, rfl, ?_, ⟨_, rfl⟩, hW, hsame.mono (by decide) (by decide)⟩
        refine ⟨?_, N0, e0⟩
        show some (Value.long q3) = some (.long (own_at p0 q1 q2 q3 q4))
        unfold own_at
        rw [if_neg hc1_2, if_neg hc8_5, if_pos hc15_8]
      · have go10 : ∀ t, Steps p.tables e below (s₁.setTop (mkF m 23 #[.val (.int p0), .val (.long q1), .second, .val (.long q2), .second, .val (.long q3), .second, .val (.long q4), .second] [(.long q4)])) t → Steps p.tables e below (s₁.setTop (entryFrame m #[(.int p0), (.long q1), (.long q2), (.long q3), (.long q4)] 9)) t := fun t kt => go7 t (by
            refine XS.icmpYes X0.here hx rfl (pc0 := 15) (pc' := 21) rfl (hb hby d24_15) rfl (feq hc15_8).2 (by decide) (by decide) ?_
            show Steps p.tables e below (s₁.setTop (mkF m 21 #[.val (.int p0), .val (.long q1), .second, .val (.long q2), .second, .val (.long q3), .second, .val (.long q4), .second] [])) _
            refine XS.lload X0.here hx rfl (hb hby d24_21) rfl ?_
            show Steps p.tables e below (s₁.setTop (mkF m 23 #[.val (.int p0), .val (.long q1), .second, .val (.long q2), .second, .val (.long q3), .second, .val (.long q4), .second] [(.long q4)])) _
            exact kt)
        obtain ⟨fs, hr, hrun, hended, hW, hsame⟩ := X0.leave (v := some (.long q4)) (fun h => by rw [Bd.returns] at h; cases h)
        refine ⟨_, _, go10 _ (X0.lreturnOut hx Bd.returns (hb hby d24_23) hr), hrun, hended, _, _, rfl, ?_, ⟨_, rfl⟩, hW, hsame.mono (by decide) (by decide)⟩
        refine ⟨?_, N0, e0⟩
        show some (Value.long q4) = some (.long (own_at p0 q1 q2 q3 q4))
        unfold own_at
        rw [if_neg hc1_2, if_neg hc8_5, if_neg hc15_8]
theorem d20_0 : decode prog_159_method_5_code 0 = .ok (.aload_n 0, 1) := by decide +kernel
theorem d20_1 : decode prog_159_method_5_code 1 = .ok (.getfield 21, 3) := by decide +kernel
theorem d20_4 : decode prog_159_method_5_code 4 = .ok (.areturn, 1) := by decide +kernel
theorem pn_20 : plainName "com/example/invariant_ink/invariantink/lang/Local" = true := by first | (simp [plainName, overriddenIn]; done) | decide +kernel
theorem ef_20 (m : MethodId) (a1 : Addr) : entryFrame m #[(.ref a1)] 1 = mkF m 0 #[.val (.ref a1)] [] := by first | (simp [entryFrame, mkF, argsToLocals, Value.category]; done) | rfl
set_option maxRecDepth 65536 in
set_option maxHeartbeats 40000000 in
theorem rm20 (l : Launch) (Z : State) (a0 : Array Value) (hw : ∀ d ∈ tables_1, d.before a0 Z = true) (ws : List Jvm.Cond) (a1 : Addr) (a2 : Addr) (h0 : Heap) (n0 : Nat) (F0 : Fld Z h0 a1 "com/example/invariant_ink/invariantink/lang/Local" "type" "Lcom/example/invariant_ink/invariantink/lang/Type;" (.ref a2)) :
    MetFree l (⟨"com/example/invariant_ink/invariantink/lang/Local", "getType", "()Lcom/example/invariant_ink/invariantink/lang/Type;"⟩ : MethodName) (head1 (Jvm.Cond.code (⟨"com/example/invariant_ink/invariantink/lang/Local", "getType", "()Lcom/example/invariant_ink/invariantink/lang/Type;"⟩ : MethodName) prog_159_method_5_code 1 (some (.object "com/example/invariant_ink/invariantink/lang/Type")) :: ws) ({ frames := 0, cells := 0, slots := 0, locals := 0 } : Room)) (fun a U => a = #[(.ref a1)] ∧ Z.Warmed39 U.vm ∧ U.heap = h0) (fun _ _ _ _ _ => True) (fun _ U o U' => ∃ v L, o = .returned v ∧ QP (some (.ref a2)) h0 n0 v U'.heap L ∧ FrameEnd U o U' L ({ frames := 0, cells := 0, slots := 0, locals := 0 } : Room).cells ({ frames := 0, cells := 0, slots := 0, locals := 0 } : Room).slots) := by
  refine MetFree.of_bodySF (plainFor_of_name pn_20) hisR ?_
  intro p e s m args below meth c s₁ Bd hml0 hP hK
  obtain ⟨rfl, hZ, hh⟩ := hP
  have hx := Bd.exec
  have hby := Bd.bytes
  have hml : c.maxLocals = 1 := hml0
  have hown : s.vm.findClass "com/example/invariant_ink/invariantink/lang/Local" = some m.cls := findClass_of_methodNamed Bd.named
  have hnm := (name_of_methodNamed Bd.named Bd.method).1
  have X0 : Stand p l e ({ frames := 0, cells := 0, slots := 0, locals := 0 } : Room) s m #[(.ref a1)] below meth c s₁ [] 0 0 := Stand.of_body Bd
  have e0 : s₁.heap = h0 := by rw [← hh, Bd.state]; rfl
  have N0 := Fr.nil n0
  have go0 : ∀ t, Steps p.tables e below (s₁.setTop (mkF m 0 #[.val (.ref a1)] [])) t → Steps p.tables e below (s₁.setTop (entryFrame m #[(.ref a1)] 1)) t := fun t k => castTop (ef_20 m a1) k
  have go1 : ∀ t, Steps p.tables e below (s₁.setTop (mkF m 1 #[.val (.ref a1)] [(.ref a1)])) t → Steps p.tables e below (s₁.setTop (entryFrame m #[(.ref a1)] 1)) t := fun t kt => go0 t (by
      refine XS.aloadN X0.here hx rfl (hb hby d20_0) rfl rfl ?_
      show Steps p.tables e below (s₁.setTop (mkF m 1 #[.val (.ref a1)] [(.ref a1)])) _
      exact kt)
  obtain ⟨T2, X2, e2, st2⟩ := getF X0 hx hZ hown (host := "") (Or.inl (own_h hw 35 rfl)) Via.refl e0 F0 (g := (mkF m 1 #[.val (.ref a1)] [(.ref a1)])) rfl rfl (hb hby d20_1)
  have go3 : ∀ t, Steps p.tables e below (T2.setTop (mkF m 4 #[.val (.ref a1)] [(.ref a2)])) t → Steps p.tables e below (s₁.setTop (entryFrame m #[(.ref a1)] 1)) t := fun t kt => go1 t (by
      refine st2 _ ?_
      show Steps p.tables e below (T2.setTop (mkF m 4 #[.val (.ref a1)] [(.ref a2)])) _
      exact kt)
  obtain ⟨fs, hr, hrun, hended, hW, hsame⟩ := X2.leave (v := some (.ref a2)) (fun h => by rw [Bd.returns] at h; cases h)
  refine ⟨_, _, go3 _ (X2.areturnOut hx rfl Bd.returns rfl (hb hby d20_4) hr), hrun, hended, _, _, rfl, ?_, ⟨_, rfl⟩, hW, hsame.mono (by decide) (by decide)⟩
  exact ⟨rfl, N0, e2⟩
theorem d21_0 : decode prog_159_method_4_code 0 = .ok (.aload_n 0, 1) := by decide +kernel
theorem d21_1 : decode prog_159_method_4_code 1 = .ok (.getfield 17, 3) := by decide +kernel
theorem d21_4 : decode prog_159_method_4_code 4 = .ok (.ireturn, 1) := by decide +kernel
theorem pn_21 : plainName "com/example/invariant_ink/invariantink/lang/Local" = true := by first | (simp [plainName, overriddenIn]; done) | decide +kernel
theorem ef_21 (m : MethodId) (a1 : Addr) : entryFrame m #[(.ref a1)] 1 = mkF m 0 #[.val (.ref a1)] [] := by first | (simp [entryFrame, mkF, argsToLocals, Value.category]; done) | rfl
set_option maxRecDepth 65536 in
set_option maxHeartbeats 40000000 in
theorem rm21 (l : Launch) (Z : State) (a0 : Array Value) (hw : ∀ d ∈ tables_1, d.before a0 Z = true) (ws : List Jvm.Cond) (a1 : Addr) (p1 : Int32) (h0 : Heap) (n0 : Nat) (F0 : Fld Z h0 a1 "com/example/invariant_ink/invariantink/lang/Local" "slot" "I" (.int p1)) :
    MetFree l (⟨"com/example/invariant_ink/invariantink/lang/Local", "getSlot", "()I"⟩ : MethodName) (head1 (Jvm.Cond.code (⟨"com/example/invariant_ink/invariantink/lang/Local", "getSlot", "()I"⟩ : MethodName) prog_159_method_4_code 1 (some .int) :: ws) ({ frames := 0, cells := 0, slots := 0, locals := 0 } : Room)) (fun a U => a = #[(.ref a1)] ∧ Z.Warmed39 U.vm ∧ U.heap = h0) (fun _ _ _ _ _ => True) (fun _ U o U' => ∃ v L, o = .returned v ∧ QP (some (.int p1)) h0 n0 v U'.heap L ∧ FrameEnd U o U' L ({ frames := 0, cells := 0, slots := 0, locals := 0 } : Room).cells ({ frames := 0, cells := 0, slots := 0, locals := 0 } : Room).slots) := by
  refine MetFree.of_bodySF (plainFor_of_name pn_21) hisR ?_
  intro p e s m args below meth c s₁ Bd hml0 hP hK
  obtain ⟨rfl, hZ, hh⟩ := hP
  have hx := Bd.exec
  have hby := Bd.bytes
  have hml : c.maxLocals = 1 := hml0
  have hown : s.vm.findClass "com/example/invariant_ink/invariantink/lang/Local" = some m.cls := findClass_of_methodNamed Bd.named
  have hnm := (name_of_methodNamed Bd.named Bd.method).1
  have X0 : Stand p l e ({ frames := 0, cells := 0, slots := 0, locals := 0 } : Room) s m #[(.ref a1)] below meth c s₁ [] 0 0 := Stand.of_body Bd
  have e0 : s₁.heap = h0 := by rw [← hh, Bd.state]; rfl
  have N0 := Fr.nil n0
  have go0 : ∀ t, Steps p.tables e below (s₁.setTop (mkF m 0 #[.val (.ref a1)] [])) t → Steps p.tables e below (s₁.setTop (entryFrame m #[(.ref a1)] 1)) t := fun t k => castTop (ef_21 m a1) k
  have go1 : ∀ t, Steps p.tables e below (s₁.setTop (mkF m 1 #[.val (.ref a1)] [(.ref a1)])) t → Steps p.tables e below (s₁.setTop (entryFrame m #[(.ref a1)] 1)) t := fun t kt => go0 t (by
      refine XS.aloadN X0.here hx rfl (hb hby d21_0) rfl rfl ?_
      show Steps p.tables e below (s₁.setTop (mkF m 1 #[.val (.ref a1)] [(.ref a1)])) _
      exact kt)
  obtain ⟨T2, X2, e2, st2⟩ := getF X0 hx hZ hown (host := "") (Or.inl (own_h hw 33 rfl)) Via.refl e0 F0 (g := (mkF m 1 #[.val (.ref a1)] [(.ref a1)])) rfl rfl (hb hby d21_1)
  have go3 : ∀ t, Steps p.tables e below (T2.setTop (mkF m 4 #[.val (.ref a1)] [(.int p1)])) t → Steps p.tables e below (s₁.setTop (entryFrame m #[(.ref a1)] 1)) t := fun t kt => go1 t (by
      refine st2 _ ?_
      show Steps p.tables e below (T2.setTop (mkF m 4 #[.val (.ref a1)] [(.int p1)])) _
      exact kt)
  obtain ⟨fs, hr, hrun, hended, hW, hsame⟩ := X2.leave (v := some (.int p1)) (fun h => by rw [Bd.returns] at h; cases h)
  refine ⟨_, _, go3 _ (retI X2 hx Bd.returns (hb hby d21_4) hr), hrun, hended, _, _, rfl, ?_, ⟨_, rfl⟩, hW, hsame.mono (by decide) (by decide)⟩
  exact ⟨rfl, N0, e2⟩
theorem d22_0 : decode prog_172_method_4_code 0 = .ok (.aload_n 0, 1) := by decide +kernel
theorem d22_1 : decode prog_172_method_4_code 1 = .ok (.getfield 16, 3) := by decide +kernel
theorem d22_4 : decode prog_172_method_4_code 4 = .ok (.lreturn, 1) := by decide +kernel
theorem pn_22 : plainName "com/example/invariant_ink/invariantink/lang/RangeType" = true := by first | (simp [plainName, overriddenIn]; done) | decide +kernel
theorem ef_22 (m : MethodId) (a1 : Addr) : entryFrame m #[(.ref a1)] 1 = mkF m 0 #[.val (.ref a1)] [] := by first | (simp [entryFrame, mkF, argsToLocals, Value.category]; done) | rfl
set_option maxRecDepth 65536 in
set_option maxHeartbeats 40000000 in
theorem rm22 (l : Launch) (Z : State) (a0 : Array Value) (hw : ∀ d ∈ tables_1, d.before a0 Z = true) (ws : List Jvm.Cond) (a1 : Addr) (q1 : Int64) (h0 : Heap) (n0 : Nat) (F0 : Fld Z h0 a1 "com/example/invariant_ink/invariantink/lang/RangeType" "low" "J" (.long q1)) :
    MetFree l (⟨"com/example/invariant_ink/invariantink/lang/RangeType", "first", "()J"⟩ : MethodName) (head1 (Jvm.Cond.code (⟨"com/example/invariant_ink/invariantink/lang/RangeType", "first", "()J"⟩ : MethodName) prog_172_method_4_code 1 (some .long) :: ws) ({ frames := 0, cells := 0, slots := 0, locals := 0 } : Room)) (fun a U => a = #[(.ref a1)] ∧ Z.Warmed39 U.vm ∧ U.heap = h0) (fun _ _ _ _ _ => True) (fun _ U o U' => ∃ v L, o = .returned v ∧ QP (some (.long q1)) h0 n0 v U'.heap L ∧ FrameEnd U o U' L ({ frames := 0, cells := 0, slots := 0, locals := 0 } : Room).cells ({ frames := 0, cells := 0, slots := 0, locals := 0 } : Room).slots) := by
  refine MetFree.of_bodySF (plainFor_of_name pn_22) hisR ?_
  intro p e s m args below meth c s₁ Bd hml0 hP hK
  obtain ⟨rfl, hZ, hh⟩ := hP
  have hx := Bd.exec
  have hby := Bd.bytes
  have hml : c.maxLocals = 1 := hml0
  have hown : s.vm.findClass "com/example/invariant_ink/invariantink/lang/RangeType" = some m.cls := findClass_of_methodNamed Bd.named
  have hnm := (name_of_methodNamed Bd.named Bd.method).1
  have X0 : Stand p l e ({ frames := 0, cells := 0, slots := 0, locals := 0 } : Room) s m #[(.ref a1)] below meth c s₁ [] 0 0 := Stand.of_body Bd
  have e0 : s₁.heap = h0 := by rw [← hh, Bd.state]; rfl
  have N0 := Fr.nil n0
  have go0 : ∀ t, Steps p.tables e below (s₁.setTop (mkF m 0 #[.val (.ref a1)] [])) t → Steps p.tables e below (s₁.setTop (entryFrame m #[(.ref a1)] 1)) t := fun t k => castTop (ef_22 m a1) k
  have go1 : ∀ t, Steps p.tables e below (s₁.setTop (mkF m 1 #[.val (.ref a1)] [(.ref a1)])) t → Steps p.tables e below (s₁.setTop (entryFrame m #[(.ref a1)] 1)) t := fun t kt => go0 t (by
      refine XS.aloadN X0.here hx rfl (hb hby d22_0) rfl rfl ?_
      show Steps p.tables e below (s₁.setTop (mkF m 1 #[.val (.ref a1)] [(.ref a1)])) _
      exact kt)
  obtain ⟨T2, X2, e2, st2⟩ := getF X0 hx hZ hown (host := "") (Or.inl (own_h hw 10 rfl)) Via.refl e0 F0 (g := (mkF m 1 #[.val (.ref a1)] [(.ref a1)])) rfl rfl (hb hby d22_1)
  have go3 : ∀ t, Steps p.tables e below (T2.setTop (mkF m 4 #[.val (.ref a1)] [(.long q1)])) t → Steps p.tables e below (s₁.setTop (entryFrame m #[(.ref a1)] 1)) t := fun t kt => go1 t (by
      refine st2 _ ?_
      show Steps p.tables e below (T2.setTop (mkF m 4 #[.val (.ref a1)] [(.long q1)])) _
      exact kt)
  obtain ⟨fs, hr, hrun, hended, hW, hsame⟩ := X2.leave (v := some (.long q1)) (fun h => by rw [Bd.returns] at h; cases h)
  refine ⟨_, _, go3 _ (X2.lreturnOut hx Bd.returns (hb hby d22_4) hr), hrun, hended, _, _, rfl, ?_, ⟨_, rfl⟩, hW, hsame.mono (by decide) (by decide)⟩
  exact ⟨rfl, N0, e2⟩
theorem d23_0 : decode prog_172_method_5_code 0 = .ok (.aload_n 0, 1) := by decide +kernel
theorem d23_1 : decode prog_172_method_5_code 1 = .ok (.getfield 22, 3) := by decide +kernel
theorem d23_4 : decode prog_172_method_5_code 4 = .ok (.lreturn, 1) := by decide +kernel
theorem pn_23 : plainName "com/example/invariant_ink/invariantink/lang/RangeType" = true := by first | (simp [plainName, overriddenIn]; done) | decide +kernel
theorem ef_23 (m : MethodId) (a1 : Addr) : entryFrame m #[(.ref a1)] 1 = mkF m 0 #[.val (.ref a1)] [] := by first | (simp [entryFrame, mkF, argsToLocals, Value.category]; done) | rfl
set_option maxRecDepth 65536 in
set_option maxHeartbeats 40000000 in
theorem rm23 (l : Launch) (Z : State) (a0 : Array Value) (hw : ∀ d ∈ tables_1, d.before a0 Z = true) (ws : List Jvm.Cond) (a1 : Addr) (q1 : Int64) (h0 : Heap) (n0 : Nat) (F0 : Fld Z h0 a1 "com/example/invariant_ink/invariantink/lang/RangeType" "high" "J" (.long q1)) :
    MetFree l (⟨"com/example/invariant_ink/invariantink/lang/RangeType", "last", "()J"⟩ : MethodName) (head1 (Jvm.Cond.code (⟨"com/example/invariant_ink/invariantink/lang/RangeType", "last", "()J"⟩ : MethodName) prog_172_method_5_code 1 (some .long) :: ws) ({ frames := 0, cells := 0, slots := 0, locals := 0 } : Room)) (fun a U => a = #[(.ref a1)] ∧ Z.Warmed39 U.vm ∧ U.heap = h0) (fun _ _ _ _ _ => True) (fun _ U o U' => ∃ v L, o = .returned v ∧ QP (some (.long q1)) h0 n0 v U'.heap L ∧ FrameEnd U o U' L ({ frames := 0, cells := 0, slots := 0, locals := 0 } : Room).cells ({ frames := 0, cells := 0, slots := 0, locals := 0 } : Room).slots) := by
  refine MetFree.of_bodySF (plainFor_of_name pn_23) hisR ?_
  intro p e s m args below meth c s₁ Bd hml0 hP hK
  obtain ⟨rfl, hZ, hh⟩ := hP
  have hx := Bd.exec
  have hby := Bd.bytes
  have hml : c.maxLocals = 1 := hml0
  have hown : s.vm.findClass "com/example/invariant_ink/invariantink/lang/RangeType" = some m.cls := findClass_of_methodNamed Bd.named
  have hnm := (name_of_methodNamed Bd.named Bd.method).1
  have X0 : Stand p l e ({ frames := 0, cells := 0, slots := 0, locals := 0 } : Room) s m #[(.ref a1)] below meth c s₁ [] 0 0 := Stand.of_body Bd
  have e0 : s₁.heap = h0 := by rw [← hh, Bd.state]; rfl
  have N0 := Fr.nil n0
  have go0 : ∀ t, Steps p.tables e below (s₁.setTop (mkF m 0 #[.val (.ref a1)] [])) t → Steps p.tables e below (s₁.setTop (entryFrame m #[(.ref a1)] 1)) t := fun t k => castTop (ef_23 m a1) k
  have go1 : ∀ t, Steps p.tables e below (s₁.setTop (mkF m 1 #[.val (.ref a1)] [(.ref a1)])) t → Steps p.tables e below (s₁.setTop (entryFrame m #[(.ref a1)] 1)) t := fun t kt => go0 t (by
      refine XS.aloadN X0.here hx rfl (hb hby d23_0) rfl rfl ?_
      show Steps p.tables e below (s₁.setTop (mkF m 1 #[.val (.ref a1)] [(.ref a1)])) _
      exact kt)
  obtain ⟨T2, X2, e2, st2⟩ := getF X0 hx hZ hown (host := "") (Or.inl (own_h hw 12 rfl)) Via.refl e0 F0 (g := (mkF m 1 #[.val (.ref a1)] [(.ref a1)])) rfl rfl (hb hby d23_1)
  have go3 : ∀ t, Steps p.tables e below (T2.setTop (mkF m 4 #[.val (.ref a1)] [(.long q1)])) t → Steps p.tables e below (s₁.setTop (entryFrame m #[(.ref a1)] 1)) t := fun t kt => go1 t (by
      refine st2 _ ?_
      show Steps p.tables e below (T2.setTop (mkF m 4 #[.val (.ref a1)] [(.long q1)])) _
      exact kt)
  obtain ⟨fs, hr, hrun, hended, hW, hsame⟩ := X2.leave (v := some (.long q1)) (fun h => by rw [Bd.returns] at h; cases h)
  refine ⟨_, _, go3 _ (X2.lreturnOut hx Bd.returns (hb hby d23_4) hr), hrun, hended, _, _, rfl, ?_, ⟨_, rfl⟩, hW, hsame.mono (by decide) (by decide)⟩
  exact ⟨rfl, N0, e2⟩
theorem d9_0 : decode jdk_38_method_8_code 0 = .ok (.aload_n 0, 1) := by decide +kernel
theorem d9_1 : decode jdk_38_method_8_code 1 = .ok (.getfield 48, 3) := by decide +kernel
theorem d9_4 : decode jdk_38_method_8_code 4 = .ok (.ireturn, 1) := by decide +kernel
theorem pn_9 : plainName "java/util/ArrayList" = true := by first | (simp [plainName, overriddenIn]; done) | decide +kernel
theorem ef_9 (m : MethodId) (a1 : Addr) : entryFrame m #[(.ref a1)] 1 = mkF m 0 #[.val (.ref a1)] [] := by first | (simp [entryFrame, mkF, argsToLocals, Value.category]; done) | rfl
set_option maxRecDepth 65536 in
set_option maxHeartbeats 40000000 in
theorem rm9 (l : Launch) (Z : State) (a0 : Array Value) (hw : ∀ d ∈ tables_1, d.before a0 Z = true) (ws : List Jvm.Cond) (a1 : Addr) (p1 : Int32) (h0 : Heap) (n0 : Nat) (F0 : Fld Z h0 a1 "java/util/ArrayList" "size" "I" (.int p1)) :
    MetFree l (⟨"java/util/ArrayList", "size", "()I"⟩ : MethodName) (head1 (Jvm.Cond.code (⟨"java/util/ArrayList", "size", "()I"⟩ : MethodName) jdk_38_method_8_code 1 (some .int) :: ws) ({ frames := 0, cells := 0, slots := 0, locals := 0 } : Room)) (fun a U => a = #[(.ref a1)] ∧ Z.Warmed39 U.vm ∧ U.heap = h0) (fun _ _ _ _ _ => True) (fun _ U o U' => ∃ v L, o = .returned v ∧ QP (some (.int p1)) h0 n0 v U'.heap L ∧ FrameEnd U o U' L ({ frames := 0, cells := 0, slots := 0, locals := 0 } : Room).cells ({ frames := 0, cells := 0, slots := 0, locals := 0 } : Room).slots) := by
  refine MetFree.of_bodySF (plainFor_of_name pn_9) hisR ?_
  intro p e s m args below meth c s₁ Bd hml0 hP hK
  obtain ⟨rfl, hZ, hh⟩ := hP
  have hx := Bd.exec
  have hby := Bd.bytes
  have hml : c.maxLocals = 1 := hml0
  have hown : s.vm.findClass "java/util/ArrayList" = some m.cls := findClass_of_methodNamed Bd.named
  have hnm := (name_of_methodNamed Bd.named Bd.method).1
  have X0 : Stand p l e ({ frames := 0, cells := 0, slots := 0, locals := 0 } : Room) s m #[(.ref a1)] below meth c s₁ [] 0 0 := Stand.of_body Bd
  have e0 : s₁.heap = h0 := by rw [← hh, Bd.state]; rfl
  have N0 := Fr.nil n0
  have go0 : ∀ t, Steps p.tables e below (s₁.setTop (mkF m 0 #[.val (.ref a1)] [])) t → Steps p.tables e below (s₁.setTop (entryFrame m #[(.ref a1)] 1)) t := fun t k => castTop (ef_9 m a1) k
  have go1 : ∀ t, Steps p.tables e below (s₁.setTop (mkF m 1 #[.val (.ref a1)] [(.ref a1)])) t → Steps p.tables e below (s₁.setTop (entryFrame m #[(.ref a1)] 1)) t := fun t kt => go0 t (by
      refine XS.aloadN X0.here hx rfl (hb hby d9_0) rfl rfl ?_
      show Steps p.tables e below (s₁.setTop (mkF m 1 #[.val (.ref a1)] [(.ref a1)])) _
      exact kt)
  obtain ⟨T2, X2, e2, st2⟩ := getF X0 hx hZ hown (host := "") (Or.inl (own_h hw 84 rfl)) Via.refl e0 F0 (g := (mkF m 1 #[.val (.ref a1)] [(.ref a1)])) rfl rfl (hb hby d9_1)
  have go3 : ∀ t, Steps p.tables e below (T2.setTop (mkF m 4 #[.val (.ref a1)] [(.int p1)])) t → Steps p.tables e below (s₁.setTop (entryFrame m #[(.ref a1)] 1)) t := fun t kt => go1 t (by
      refine st2 _ ?_
      show Steps p.tables e below (T2.setTop (mkF m 4 #[.val (.ref a1)] [(.int p1)])) _
      exact kt)
  obtain ⟨fs, hr, hrun, hended, hW, hsame⟩ := X2.leave (v := some (.int p1)) (fun h => by rw [Bd.returns] at h; cases h)
  refine ⟨_, _, go3 _ (retI X2 hx Bd.returns (hb hby d9_4) hr), hrun, hended, _, _, rfl, ?_, ⟨_, rfl⟩, hW, hsame.mono (by decide) (by decide)⟩
  exact ⟨rfl, N0, e2⟩
theorem d18_0 : decode jdk_41_method_11_code 0 = .ok (.iload_n 0, 1) := by decide +kernel
theorem d18_1 : decode jdk_41_method_11_code 1 = .ok (.ifCond .lt 8, 3) := by decide +kernel
theorem d18_4 : decode jdk_41_method_11_code 4 = .ok (.iload_n 0, 1) := by decide +kernel
theorem d18_5 : decode jdk_41_method_11_code 5 = .ok (.iload_n 1, 1) := by decide +kernel
theorem d18_6 : decode jdk_41_method_11_code 6 = .ok (.if_icmp .lt 10, 3) := by decide +kernel
theorem d18_16 : decode jdk_41_method_11_code 16 = .ok (.iload_n 0, 1) := by decide +kernel
theorem d18_17 : decode jdk_41_method_11_code 17 = .ok (.ireturn, 1) := by decide +kernel
theorem pn_18 : plainName "jdk/internal/util/Preconditions" = true := by first | (simp [plainName, overriddenIn]; done) | decide +kernel
theorem ef_18 (m : MethodId) (p1 : Int32) (p2 : Int32) : entryFrame m #[(.int p1), (.int p2), .null] 3 = mkF m 0 #[.val (.int p1), .val (.int p2), .val .null] [] := by first | (simp [entryFrame, mkF, argsToLocals, Value.category]; done) | rfl
set_option maxRecDepth 65536 in
set_option maxHeartbeats 40000000 in
theorem rm18 (l : Launch) (Z : State) (a0 : Array Value) (hw : ∀ d ∈ tables_1, d.before a0 Z = true) (ws : List Jvm.Cond) (p1 p2 : Int32) (h0 : Heap) (n0 : Nat) (h1 : ¬ p1 < (0 : Int32)) (h2 : p1 < p2) :
    MetFree l (⟨"jdk/internal/util/Preconditions", "checkIndex", "(IILjava/util/function/BiFunction;)I"⟩ : MethodName) (head1 (Jvm.Cond.code (⟨"jdk/internal/util/Preconditions", "checkIndex", "(IILjava/util/function/BiFunction;)I"⟩ : MethodName) jdk_41_method_11_code 3 (some .int) :: ws) ({ frames := 0, cells := 0, slots := 0, locals := 0 } : Room)) (fun a U => a = #[(.int p1), (.int p2), .null] ∧ Z.Warmed39 U.vm ∧ U.heap = h0) (fun _ _ _ _ _ => True) (fun _ U o U' => ∃ v L, o = .returned v ∧ QP (some (.int p1)) h0 n0 v U'.heap L ∧ FrameEnd U o U' L ({ frames := 0, cells := 0, slots := 0, locals := 0 } : Room).cells ({ frames := 0, cells := 0, slots := 0, locals := 0 } : Room).slots) := by
  refine MetFree.of_bodySF (plainFor_of_name pn_18) hisR ?_
  intro p e s m args below meth c s₁ Bd hml0 hP hK
  obtain ⟨rfl, hZ, hh⟩ := hP
  have hx := Bd.exec
  have hby := Bd.bytes
  have hml : c.maxLocals = 3 := hml0
  have hown : s.vm.findClass "jdk/internal/util/Preconditions" = some m.cls := findClass_of_methodNamed Bd.named
  have hnm := (name_of_methodNamed Bd.named Bd.method).1
  have X0 : Stand p l e ({ frames := 0, cells := 0, slots := 0, locals := 0 } : Room) s m #[(.int p1), (.int p2), .null] below meth c s₁ [] 0 0 := Stand.of_body Bd
  have e0 : s₁.heap = h0 := by rw [← hh, Bd.state]; rfl
  have N0 := Fr.nil n0
  have go0 : ∀ t, Steps p.tables e below (s₁.setTop (mkF m 0 #[.val (.int p1), .val (.int p2), .val .null] [])) t → Steps p.tables e below (s₁.setTop (entryFrame m #[(.int p1), (.int p2), .null] 3)) t := fun t k => castTop (ef_18 m p1 p2) k
  have hc1_1 : ¬ (p1 < (0 : Int32)) := h1
  have hc6_2 : p1 < p2 := h2
  have go3 : ∀ t, Steps p.tables e below (s₁.setTop (mkF m 17 #[.val (.int p1), .val (.int p2), .val .null] [(.int p1)])) t → Steps p.tables e below (s₁.setTop (entryFrame m #[(.int p1), (.int p2), .null] 3)) t := fun t kt => go0 t (by
      refine XS.iloadN X0.here hx rfl (hb hby d18_0) rfl ?_
      show Steps p.tables e below (s₁.setTop (mkF m 1 #[.val (.int p1), .val (.int p2), .val .null] [(.int p1)])) _
      refine XS.ifNo X0.here hx rfl (hb hby d18_1) rfl ((if0 _ _).trans (flt hc1_1).1) ?_
      show Steps p.tables e below (s₁.setTop (mkF m 4 #[.val (.int p1), .val (.int p2), .val .null] [])) _
      refine XS.iloadN X0.here hx rfl (hb hby d18_4) rfl ?_
      show Steps p.tables e below (s₁.setTop (mkF m 5 #[.val (.int p1), .val (.int p2), .val .null] [(.int p1)])) _
      refine XS.iloadN X0.here hx rfl (hb hby d18_5) rfl ?_
      show Steps p.tables e below (s₁.setTop (mkF m 6 #[.val (.int p1), .val (.int p2), .val .null] [(.int p2), (.int p1)])) _
      refine XS.icmpYes X0.here hx rfl (pc0 := 6) (pc' := 16) rfl (hb hby d18_6) rfl (tlt hc6_2).1 (by decide) (by decide) ?_
      show Steps p.tables e below (s₁.setTop (mkF m 16 #[.val (.int p1), .val (.int p2), .val .null] [])) _
      refine XS.iloadN X0.here hx rfl (hb hby d18_16) rfl ?_
      show Steps p.tables e below (s₁.setTop (mkF m 17 #[.val (.int p1), .val (.int p2), .val .null] [(.int p1)])) _
      exact kt)
  obtain ⟨fs, hr, hrun, hended, hW, hsame⟩ := X0.leave (v := some (.int p1)) (fun h => by rw [Bd.returns] at h; cases h)
  refine ⟨_, _, go3 _ (retI X0 hx Bd.returns (hb hby d18_17) hr), hrun, hended, _, _, rfl, ?_, ⟨_, rfl⟩, hW, hsame.mono (by decide) (by decide)⟩
  exact ⟨rfl, N0, e0⟩
abbrev own_m0 : MethodName := ⟨"jdk/internal/util/Preconditions", "checkIndex", "(IILjava/util/function/BiFunction;)I"⟩
theorem d17_0 : decode jdk_31_method_17_code 0 = .ok (.iload_n 0, 1) := by decide +kernel
theorem d17_1 : decode jdk_31_method_17_code 1 = .ok (.iload_n 1, 1) := by decide +kernel
theorem d17_2 : decode jdk_31_method_17_code 2 = .ok (.aconst_null, 1) := by decide +kernel
theorem d17_3 : decode jdk_31_method_17_code 3 = .ok (.invokestatic 105, 3) := by decide +kernel
theorem d17_6 : decode jdk_31_method_17_code 6 = .ok (.ireturn, 1) := by decide +kernel
theorem pn_17 : plainName "java/util/Objects" = true := by first | (simp [plainName, overriddenIn]; done) | decide +kernel
theorem ef_17 (m : MethodId) (p1 : Int32) (p2 : Int32) : entryFrame m #[(.int p1), (.int p2)] 2 = mkF m 0 #[.val (.int p1), .val (.int p2)] [] := by first | (simp [entryFrame, mkF, argsToLocals, Value.category]; done) | rfl
set_option maxRecDepth 65536 in
set_option maxHeartbeats 40000000 in
theorem rm17 (l : Launch) (Z : State) (a0 : Array Value) (hw : ∀ d ∈ tables_1, d.before a0 Z = true) (ws : List Jvm.Cond) (p1 p2 : Int32) (h0 : Heap) (n0 : Nat) (h1 : ¬ p1 < (0 : Int32)) (h2 : p1 < p2) :
    MetFree l (⟨"java/util/Objects", "checkIndex", "(II)I"⟩ : MethodName) (head1 (Jvm.Cond.code (⟨"java/util/Objects", "checkIndex", "(II)I"⟩ : MethodName) jdk_31_method_17_code 2 (some .int) :: ws) ({ frames := 1, cells := 0, slots := 0, locals := 14 } : Room)) (fun a U => a = #[(.int p1), (.int p2)] ∧ Z.Warmed39 U.vm ∧ U.heap = h0) (fun _ _ _ _ _ => True) (fun _ U o U' => ∃ v L, o = .returned v ∧ QP (some (.int p1)) h0 n0 v U'.heap L ∧ FrameEnd U o U' L ({ frames := 1, cells := 0, slots := 0, locals := 14 } : Room).cells ({ frames := 1, cells := 0, slots := 0, locals := 14 } : Room).slots) := by
  refine MetFree.of_bodySF (plainFor_of_name pn_17) hisR ?_
  intro p e s m args below meth c s₁ Bd hml0 hP hK
  obtain ⟨rfl, hZ, hh⟩ := hP
  have hx := Bd.exec
  have hby := Bd.bytes
  have hml : c.maxLocals = 2 := hml0
  have hown : s.vm.findClass "java/util/Objects" = some m.cls := findClass_of_methodNamed Bd.named
  have hnm := (name_of_methodNamed Bd.named Bd.method).1
  have X0 : Stand p l e ({ frames := 1, cells := 0, slots := 0, locals := 14 } : Room) s m #[(.int p1), (.int p2)] below meth c s₁ [] 0 0 := Stand.of_body Bd
  have e0 : s₁.heap = h0 := by rw [← hh, Bd.state]; rfl
  have N0 := Fr.nil n0
  have go0 : ∀ t, Steps p.tables e below (s₁.setTop (mkF m 0 #[.val (.int p1), .val (.int p2)] [])) t → Steps p.tables e below (s₁.setTop (entryFrame m #[(.int p1), (.int p2)] 2)) t := fun t k => castTop (ef_17 m p1 p2) k
  have go1 : ∀ t, Steps p.tables e below (s₁.setTop (mkF m 3 #[.val (.int p1), .val (.int p2)] [.null, (.int p2), (.int p1)])) t → Steps p.tables e below (s₁.setTop (entryFrame m #[(.int p1), (.int p2)] 2)) t := fun t kt => go0 t (by
      refine XS.iloadN X0.here hx rfl (hb hby d17_0) rfl ?_
      show Steps p.tables e below (s₁.setTop (mkF m 1 #[.val (.int p1), .val (.int p2)] [(.int p1)])) _
      refine XS.iloadN X0.here hx rfl (hb hby d17_1) rfl ?_
      show Steps p.tables e below (s₁.setTop (mkF m 2 #[.val (.int p1), .val (.int p2)] [(.int p2), (.int p1)])) _
      refine XS.aconstNull X0.here hx rfl (hb hby d17_2) ?_
      show Steps p.tables e below (s₁.setTop (mkF m 3 #[.val (.int p1), .val (.int p2)] [.null, (.int p2), (.int p1)])) _
      exact kt)
  obtain ⟨_, _, ⟨T2, L2, k2, n2⟩, -, X2, ⟨Lc2, hQ2, l2, y2, z2⟩, st2⟩ := Jvm.LawKit.callS X0 hx (y := own_m0) hown (mvT hZ (own_h hw 139 rfl)) (mvT hZ (own_h hw 140 rfl)) (mvT hZ (own_h hw 141 rfl)) (mvT hZ (own_h hw 142 rfl)) (by decide) (backOf (W := 0) (rm18 l Z a0 hw [] p1 p2 h0 n0 h1 h2) hZ (own_h hw 142 rfl) (own_h hw 141 rfl) (by decide) (by decide)) (g := (mkF m 3 #[.val (.int p1), .val (.int p2)] [.null, (.int p2), (.int p1)])) rfl (by rw [hml]; rfl) (argsL := [(.int p1), (.int p2), .null]) (rest := []) (lenOf pd_13 rfl) rfl (by show 2 * 0 + _ ≤ _; exact Nat.le_of_eq rfl) (hb hby d17_3) (fun _ _ => ⟨rfl, e0, (by decide : 0 + 0 ≤ _), (by decide : 0 + 0 ≤ _)⟩)
  dsimp only [Pt.U, Pt.locs, Pt.cells, Pt.slots] at X2 l2 y2 z2 st2 hQ2
  subst y2 z2
  obtain ⟨rfl, N2q, e2⟩ := hQ2
  have N2 := Fr.app N0 N2q
  rw [← l2] at N2
  have go3 : ∀ t, Steps p.tables e below (T2.setTop (mkF m 6 #[.val (.int p1), .val (.int p2)] [(.int p1)])) t → Steps p.tables e below (s₁.setTop (entryFrame m #[(.int p1), (.int p2)] 2)) t := fun t kt => go1 t (by
      refine st2 _ ?_
      show Steps p.tables e below (T2.setTop (mkF m 6 #[.val (.int p1), .val (.int p2)] [(.int p1)])) _
      exact kt)
  obtain ⟨fs, hr, hrun, hended, hW, hsame⟩ := X2.leave (v := some (.int p1)) (fun h => by rw [Bd.returns] at h; cases h)
  refine ⟨_, _, go3 _ (retI X2 hx Bd.returns (hb hby d17_6) hr), hrun, hended, _, _, rfl, ?_, ⟨_, rfl⟩, hW, hsame.mono (by decide) (by decide)⟩
  exact ⟨rfl, N2, e2⟩
theorem d19_0 : decode jdk_38_method_18_code 0 = .ok (.aload_n 0, 1) := by decide +kernel
theorem d19_1 : decode jdk_38_method_18_code 1 = .ok (.getfield 9, 3) := by decide +kernel
theorem d19_4 : decode jdk_38_method_18_code 4 = .ok (.iload_n 1, 1) := by decide +kernel
theorem d19_5 : decode jdk_38_method_18_code 5 = .ok (.aaload, 1) := by decide +kernel
theorem d19_6 : decode jdk_38_method_18_code 6 = .ok (.areturn, 1) := by decide +kernel
theorem pn_19 : plainName "java/util/ArrayList" = true := by first | (simp [plainName, overriddenIn]; done) | decide +kernel
theorem ef_19 (m : MethodId) (a1 : Addr) (p2 : Int32) : entryFrame m #[(.ref a1), (.int p2)] 2 = mkF m 0 #[.val (.ref a1), .val (.int p2)] [] := by first | (simp [entryFrame, mkF, argsToLocals, Value.category]; done) | rfl
set_option maxRecDepth 65536 in
set_option maxHeartbeats 40000000 in
theorem rm19 (l : Launch) (Z : State) (a0 : Array Value) (hw : ∀ d ∈ tables_1, d.before a0 Z = true) (ws : List Jvm.Cond) (a1 : Addr) (p2 : Int32) (a3 a4 : Addr) (vs : List Value) (i : Nat) (h0 : Heap) (n0 : Nat) (F0 : Fld Z h0 a1 "java/util/ArrayList" "elementData" "[Ljava/lang/Object;" (.ref a3)) (V0 : own_AV Z h0 a3 (.object "java/lang/Object") vs) (h1 : ¬ p2 < (0 : Int32)) (h3 : p2.toNatClampNeg = i) (h4 : vs[i]? = some (.ref a4)) :
    MetFree l (⟨"java/util/ArrayList", "elementData", "(I)Ljava/lang/Object;"⟩ : MethodName) (head1 (Jvm.Cond.code (⟨"java/util/ArrayList", "elementData", "(I)Ljava/lang/Object;"⟩ : MethodName) jdk_38_method_18_code 2 (some (.object "java/lang/Object")) :: ws) ({ frames := 0, cells := 0, slots := 0, locals := 0 } : Room)) (fun a U => a = #[(.ref a1), (.int p2)] ∧ Z.Warmed39 U.vm ∧ U.heap = h0) (fun _ _ _ _ _ => True) (fun _ U o U' => ∃ v L, o = .returned v ∧ QP (some (.ref a4)) h0 n0 v U'.heap L ∧ FrameEnd U o U' L ({ frames := 0, cells := 0, slots := 0, locals := 0 } : Room).cells ({ frames := 0, cells := 0, slots := 0, locals := 0 } : Room).slots) := by
  refine MetFree.of_bodySF (plainFor_of_name pn_19) hisR ?_
  intro p e s m args below meth c s₁ Bd hml0 hP hK
  obtain ⟨rfl, hZ, hh⟩ := hP
  have hx := Bd.exec
  have hby := Bd.bytes
  have hml : c.maxLocals = 2 := hml0
  have hown : s.vm.findClass "java/util/ArrayList" = some m.cls := findClass_of_methodNamed Bd.named
  have hnm := (name_of_methodNamed Bd.named Bd.method).1
  have X0 : Stand p l e ({ frames := 0, cells := 0, slots := 0, locals := 0 } : Room) s m #[(.ref a1), (.int p2)] below meth c s₁ [] 0 0 := Stand.of_body Bd
  have e0 : s₁.heap = h0 := by rw [← hh, Bd.state]; rfl
  have N0 := Fr.nil n0
  have go0 : ∀ t, Steps p.tables e below (s₁.setTop (mkF m 0 #[.val (.ref a1), .val (.int p2)] [])) t → Steps p.tables e below (s₁.setTop (entryFrame m #[(.ref a1), (.int p2)] 2)) t := fun t k => castTop (ef_19 m a1 p2) k
  have go1 : ∀ t, Steps p.tables e below (s₁.setTop (mkF m 1 #[.val (.ref a1), .val (.int p2)] [(.ref a1)])) t → Steps p.tables e below (s₁.setTop (entryFrame m #[(.ref a1), (.int p2)] 2)) t := fun t kt => go0 t (by
      refine XS.aloadN X0.here hx rfl (hb hby d19_0) rfl rfl ?_
      show Steps p.tables e below (s₁.setTop (mkF m 1 #[.val (.ref a1), .val (.int p2)] [(.ref a1)])) _
      exact kt)
  obtain ⟨T2, X2, e2, st2⟩ := getF X0 hx hZ hown (host := "") (Or.inl (own_h hw 63 rfl)) Via.refl e0 F0 (g := (mkF m 1 #[.val (.ref a1), .val (.int p2)] [(.ref a1)])) rfl rfl (hb hby d19_1)
  have go3 : ∀ t, Steps p.tables e below (T2.setTop (mkF m 5 #[.val (.ref a1), .val (.int p2)] [(.int p2), (.ref a3)])) t → Steps p.tables e below (s₁.setTop (entryFrame m #[(.ref a1), (.int p2)] 2)) t := fun t kt => go1 t (by
      refine st2 _ ?_
      show Steps p.tables e below (T2.setTop (mkF m 4 #[.val (.ref a1), .val (.int p2)] [(.ref a3)])) _
      refine XS.iloadN X2.here hx rfl (hb hby d19_4) rfl ?_
      show Steps p.tables e below (T2.setTop (mkF m 5 #[.val (.ref a1), .val (.int p2)] [(.int p2), (.ref a3)])) _
      exact kt)
  obtain ⟨c4, Ar4, q4⟩ := id V0
  have go5 : ∀ t, Steps p.tables e below (T2.setTop (mkF m 6 #[.val (.ref a1), .val (.int p2)] [(.ref a4)])) t → Steps p.tables e below (s₁.setTop (entryFrame m #[(.ref a1), (.int p2)] 2)) t := fun t kt => go3 t (by
      refine X2.aaload hx (j := p2) (v := (.ref a4)) (by rw [e2]; exact Ar4.1) (State.isArrayOf_alike hZ.alike Ar4.2.1) rfl Ar4.2.2 (own_inb q4 rfl h1 (by rw [h3]; exact (List.getElem?_eq_some_iff.mp h4).1)) (own_get q4 h3 h4) (g := (mkF m 5 #[.val (.ref a1), .val (.int p2)] [(.int p2), (.ref a3)])) rfl rfl (hb hby d19_5) _ ?_
      show Steps p.tables e below (T2.setTop (mkF m 6 #[.val (.ref a1), .val (.int p2)] [(.ref a4)])) _
      exact kt)
  obtain ⟨fs, hr, hrun, hended, hW, hsame⟩ := X2.leave (v := some (.ref a4)) (fun h => by rw [Bd.returns] at h; cases h)
  refine ⟨_, _, go5 _ (X2.areturnOut hx rfl Bd.returns rfl (hb hby d19_6) hr), hrun, hended, _, _, rfl, ?_, ⟨_, rfl⟩, hW, hsame.mono (by decide) (by decide)⟩
  exact ⟨rfl, N0, e2⟩
abbrev own_m1 : MethodName := ⟨"java/util/Objects", "checkIndex", "(II)I"⟩
abbrev own_m2 : MethodName := ⟨"java/util/ArrayList", "elementData", "(I)Ljava/lang/Object;"⟩
theorem d16_0 : decode jdk_38_method_20_code 0 = .ok (.iload_n 1, 1) := by decide +kernel
theorem d16_1 : decode jdk_38_method_20_code 1 = .ok (.aload_n 0, 1) := by decide +kernel
theorem d16_2 : decode jdk_38_method_20_code 2 = .ok (.getfield 48, 3) := by decide +kernel
theorem d16_5 : decode jdk_38_method_20_code 5 = .ok (.invokestatic 118, 3) := by decide +kernel
theorem d16_8 : decode jdk_38_method_20_code 8 = .ok (.pop, 1) := by decide +kernel
theorem d16_9 : decode jdk_38_method_20_code 9 = .ok (.aload_n 0, 1) := by decide +kernel
theorem d16_10 : decode jdk_38_method_20_code 10 = .ok (.iload_n 1, 1) := by decide +kernel
theorem d16_11 : decode jdk_38_method_20_code 11 = .ok (.invokevirtual 123, 3) := by decide +kernel
theorem d16_14 : decode jdk_38_method_20_code 14 = .ok (.areturn, 1) := by decide +kernel
theorem pn_16 : plainName "java/util/ArrayList" = true := by first | (simp [plainName, overriddenIn]; done) | decide +kernel
theorem ef_16 (m : MethodId) (a1 : Addr) (p2 : Int32) : entryFrame m #[(.ref a1), (.int p2)] 2 = mkF m 0 #[.val (.ref a1), .val (.int p2)] [] := by first | (simp [entryFrame, mkF, argsToLocals, Value.category]; done) | rfl
set_option maxRecDepth 65536 in
set_option maxHeartbeats 40000000 in
theorem rm16 (l : Launch) (Z : State) (a0 : Array Value) (hw : ∀ d ∈ tables_1, d.before a0 Z = true) (ws : List Jvm.Cond) (a1 : Addr) (p2 : Int32) (a3 a4 : Addr) (vs : List Value) (i : Nat) (p5 : Int32) (h0 : Heap) (n0 : Nat) (F0 : Fld Z h0 a1 "java/util/ArrayList" "elementData" "[Ljava/lang/Object;" (.ref a3)) (V0 : own_AV Z h0 a3 (.object "java/lang/Object") vs) (h1 : ¬ p2 < (0 : Int32)) (h3 : p2.toNatClampNeg = i) (h4 : vs[i]? = some (.ref a4)) (E0 : Exa Z h0 a1 "java/util/ArrayList") (F1 : Fld Z h0 a1 "java/util/ArrayList" "size" "I" (.int p5)) (h2 : p2 < p5) :
    MetFree l (⟨"java/util/ArrayList", "get", "(I)Ljava/lang/Object;"⟩ : MethodName) (head1 (Jvm.Cond.code (⟨"java/util/ArrayList", "get", "(I)Ljava/lang/Object;"⟩ : MethodName) jdk_38_method_20_code 2 (some (.object "java/lang/Object")) :: ws) ({ frames := 2, cells := 0, slots := 0, locals := 27 } : Room)) (fun a U => a = #[(.ref a1), (.int p2)] ∧ Z.Warmed39 U.vm ∧ U.heap = h0) (fun _ _ _ _ _ => True) (fun _ U o U' => ∃ v L, o = .returned v ∧ QP (some (.ref a4)) h0 n0 v U'.heap L ∧ FrameEnd U o U' L ({ frames := 2, cells := 0, slots := 0, locals := 27 } : Room).cells ({ frames := 2, cells := 0, slots := 0, locals := 27 } : Room).slots) := by
  refine MetFree.of_bodySF (plainFor_of_name pn_16) hisR ?_
  intro p e s m args below meth c s₁ Bd hml0 hP hK
  obtain ⟨rfl, hZ, hh⟩ := hP
  have hx := Bd.exec
  have hby := Bd.bytes
  have hml : c.maxLocals = 2 := hml0
  have hown : s.vm.findClass "java/util/ArrayList" = some m.cls := findClass_of_methodNamed Bd.named
  have hnm := (name_of_methodNamed Bd.named Bd.method).1
  have X0 : Stand p l e ({ frames := 2, cells := 0, slots := 0, locals := 27 } : Room) s m #[(.ref a1), (.int p2)] below meth c s₁ [] 0 0 := Stand.of_body Bd
  have e0 : s₁.heap = h0 := by rw [← hh, Bd.state]; rfl
  have N0 := Fr.nil n0
  have go0 : ∀ t, Steps p.tables e below (s₁.setTop (mkF m 0 #[.val (.ref a1), .val (.int p2)] [])) t → Steps p.tables e below (s₁.setTop (entryFrame m #[(.ref a1), (.int p2)] 2)) t := fun t k => castTop (ef_16 m a1 p2) k
  have go1 : ∀ t, Steps p.tables e below (s₁.setTop (mkF m 2 #[.val (.ref a1), .val (.int p2)] [(.ref a1), (.int p2)])) t → Steps p.tables e below (s₁.setTop (entryFrame m #[(.ref a1), (.int p2)] 2)) t := fun t kt => go0 t (by
      refine XS.iloadN X0.here hx rfl (hb hby d16_0) rfl ?_
      show Steps p.tables e below (s₁.setTop (mkF m 1 #[.val (.ref a1), .val (.int p2)] [(.int p2)])) _
      refine XS.aloadN X0.here hx rfl (hb hby d16_1) rfl rfl ?_
      show Steps p.tables e below (s₁.setTop (mkF m 2 #[.val (.ref a1), .val (.int p2)] [(.ref a1), (.int p2)])) _
      exact kt)
  obtain ⟨T2, X2, e2, st2⟩ := getF X0 hx hZ hown (host := "") (Or.inl (own_h hw 84 rfl)) Via.refl e0 F1 (g := (mkF m 2 #[.val (.ref a1), .val (.int p2)] [(.ref a1), (.int p2)])) rfl rfl (hb hby d16_2)
  have go3 : ∀ t, Steps p.tables e below (T2.setTop (mkF m 5 #[.val (.ref a1), .val (.int p2)] [(.int p5), (.int p2)])) t → Steps p.tables e below (s₁.setTop (entryFrame m #[(.ref a1), (.int p2)] 2)) t := fun t kt => go1 t (by
      refine st2 _ ?_
      show Steps p.tables e below (T2.setTop (mkF m 5 #[.val (.ref a1), .val (.int p2)] [(.int p5), (.int p2)])) _
      exact kt)
  obtain ⟨_, _, ⟨T4, L4, k4, n4⟩, -, X4, ⟨Lc4, hQ4, l4, y4, z4⟩, st4⟩ := Jvm.LawKit.callS X2 hx (y := own_m1) hown (mvT hZ (own_h hw 135 rfl)) (mvT hZ (own_h hw 136 rfl)) (mvT hZ (own_h hw 137 rfl)) (mvT hZ (own_h hw 138 rfl)) (by decide) (backOf (W := 0) (rm17 l Z a0 hw [] p2 p5 h0 n0 h1 h2) hZ (own_h hw 138 rfl) (own_h hw 137 rfl) (by decide) (by decide)) (g := (mkF m 5 #[.val (.ref a1), .val (.int p2)] [(.int p5), (.int p2)])) rfl (by rw [hml]; rfl) (argsL := [(.int p2), (.int p5)]) (rest := []) (lenOf pd_11 rfl) rfl (by show 2 * 0 + _ ≤ _; exact Nat.le_of_eq rfl) (hb hby d16_5) (fun _ _ => ⟨rfl, e2, (by decide : 0 + 0 ≤ _), (by decide : 0 + 0 ≤ _)⟩)
  dsimp only [Pt.U, Pt.locs, Pt.cells, Pt.slots] at X4 l4 y4 z4 st4 hQ4
  subst y4 z4
  obtain ⟨rfl, N4q, e4⟩ := hQ4
  have N4 := Fr.app N0 N4q
  rw [← l4] at N4
  have go5 : ∀ t, Steps p.tables e below (T4.setTop (mkF m 11 #[.val (.ref a1), .val (.int p2)] [(.int p2), (.ref a1)])) t → Steps p.tables e below (s₁.setTop (entryFrame m #[(.ref a1), (.int p2)] 2)) t := fun t kt => go3 t (by
      refine st4 _ ?_
      show Steps p.tables e below (T4.setTop (mkF m 8 #[.val (.ref a1), .val (.int p2)] [(.int p2)])) _
      refine XS.pop X4.here hx rfl (hb hby d16_8) rfl rfl ?_
      show Steps p.tables e below (T4.setTop (mkF m 9 #[.val (.ref a1), .val (.int p2)] [])) _
      refine XS.aloadN X4.here hx rfl (hb hby d16_9) rfl rfl ?_
      show Steps p.tables e below (T4.setTop (mkF m 10 #[.val (.ref a1), .val (.int p2)] [(.ref a1)])) _
      refine XS.iloadN X4.here hx rfl (hb hby d16_10) rfl ?_
      show Steps p.tables e below (T4.setTop (mkF m 11 #[.val (.ref a1), .val (.int p2)] [(.int p2), (.ref a1)])) _
      exact kt)
  obtain ⟨cq6, kq6, q6a, q6b, q6c⟩ := isOf hZ e4 E0
  obtain ⟨_, _, ⟨T6, L6, k6, n6⟩, -, X6, ⟨Lc6, hQ6, l6, y6, z6⟩, st6⟩ := X4.virtualBack hx (y := own_m2) (z := own_m2) hown (mvT hZ (own_h hw 143 rfl)) (mvT hZ (own_h hw 144 rfl)) (notFace_of_selects (args := #[]) (mvT hZ (own_h hw 146 rfl))) (mvT hZ (own_h hw 146 rfl)) (mvT hZ (own_h hw 145 rfl)) (by decide) (backOf (W := 0) (rm19 l Z a0 hw [] a1 p2 a3 a4 vs i h0 n0 F0 V0 h1 h3 h4) hZ (own_h hw 147 rfl) (own_h hw 43 rfl) (by decide) (by decide)) q6a q6c (g := (mkF m 11 #[.val (.ref a1), .val (.int p2)] [(.int p2), (.ref a1)])) rfl (by rw [hml]; rfl) (Steps.refl _) (argsL := [(.int p2)]) (rest := []) (lenOf pd_12 rfl) rfl (by show 2 * 0 + _ ≤ _; exact Nat.le_of_eq rfl) (hb hby d16_11) (fun _ _ => ⟨rfl, e4, (by decide : 0 + 0 ≤ _), (by decide : 0 + 0 ≤ _)⟩)
  dsimp only [Pt.U, Pt.locs, Pt.cells, Pt.slots] at X6 l6 y6 z6 st6 hQ6
  subst y6 z6
  obtain ⟨rfl, N6q, e6⟩ := hQ6
  have N6 := Fr.app N4 N6q
  rw [← l6] at N6
  have go7 : ∀ t, Steps p.tables e below (T6.setTop (mkF m 14 #[.val (.ref a1), .val (.int p2)] [(.ref a4)])) t → Steps p.tables e below (s₁.setTop (entryFrame m #[(.ref a1), (.int p2)] 2)) t := fun t kt => go5 t (by
      refine st6.trans ?_
      show Steps p.tables e below (T6.setTop (mkF m 14 #[.val (.ref a1), .val (.int p2)] [(.ref a4)])) _
      exact kt)
  obtain ⟨fs, hr, hrun, hended, hW, hsame⟩ := X6.leave (v := some (.ref a4)) (fun h => by rw [Bd.returns] at h; cases h)
  refine ⟨_, _, go7 _ (X6.areturnOut hx rfl Bd.returns rfl (hb hby d16_14) hr), hrun, hended, _, _, rfl, ?_, ⟨_, rfl⟩, hW, hsame.mono (by decide) (by decide)⟩
  exact ⟨rfl, N6, e6⟩
theorem d1_0 : decode prog_172_method_1_code 0 = .ok (.aload_n 0, 1) := by decide +kernel
theorem d1_1 : decode prog_172_method_1_code 1 = .ok (.invokespecial 1, 3) := by decide +kernel
theorem d1_4 : decode prog_172_method_1_code 4 = .ok (.lload_n 1, 1) := by decide +kernel
theorem d1_5 : decode prog_172_method_1_code 5 = .ok (.lload_n 3, 1) := by decide +kernel
theorem d1_6 : decode prog_172_method_1_code 6 = .ok (.lcmp, 1) := by decide +kernel
theorem d1_7 : decode prog_172_method_1_code 7 = .ok (.ifCond .le 18, 3) := by decide +kernel
theorem d1_25 : decode prog_172_method_1_code 25 = .ok (.aload_n 0, 1) := by decide +kernel
theorem d1_26 : decode prog_172_method_1_code 26 = .ok (.lload_n 1, 1) := by decide +kernel
theorem d1_27 : decode prog_172_method_1_code 27 = .ok (.putfield 16, 3) := by decide +kernel
theorem d1_30 : decode prog_172_method_1_code 30 = .ok (.aload_n 0, 1) := by decide +kernel
theorem d1_31 : decode prog_172_method_1_code 31 = .ok (.lload_n 3, 1) := by decide +kernel
theorem d1_32 : decode prog_172_method_1_code 32 = .ok (.putfield 22, 3) := by decide +kernel
theorem d1_35 : decode prog_172_method_1_code 35 = .ok (.return_, 1) := by decide +kernel
theorem pn_1 : plainName "com/example/invariant_ink/invariantink/lang/RangeType" = true := by first | (simp [plainName, overriddenIn]; done) | decide +kernel
theorem ef_1 (m : MethodId) (a1 : Addr) (q2 : Int64) (q3 : Int64) : entryFrame m #[(.ref a1), (.long q2), (.long q3)] 5 = mkF m 0 #[.val (.ref a1), .val (.long q2), .second, .val (.long q3), .second] [] := by first | (simp [entryFrame, mkF, argsToLocals, Value.category]; done) | rfl
set_option maxRecDepth 65536 in
set_option maxHeartbeats 40000000 in
theorem rm1 (l : Launch) (Z : State) (a0 : Array Value) (hw : ∀ d ∈ tables_1, d.before a0 Z = true) (ws : List Jvm.Cond) (a1 : Addr) (q2 q3 : Int64) (h0 : Heap) (n0 : Nat) (E0 : Exa Z h0 a1 "com/example/invariant_ink/invariantink/lang/RangeType") (F_low : Fld Z h0 a1 "com/example/invariant_ink/invariantink/lang/RangeType" "low" "J" (.long (0 : Int64))) (F_high : Fld Z h0 a1 "com/example/invariant_ink/invariantink/lang/RangeType" "high" "J" (.long (0 : Int64))) (ga : n0 ≤ a1) (hle : ¬ q3 < q2) :
    MetFree l (⟨"com/example/invariant_ink/invariantink/lang/RangeType", "<init>", "(JJ)V"⟩ : MethodName) (head1 (Jvm.Cond.code (⟨"com/example/invariant_ink/invariantink/lang/RangeType", "<init>", "(JJ)V"⟩ : MethodName) prog_172_method_1_code 5 none :: ws) ({ frames := 1, cells := 0, slots := 0, locals := 12 } : Room)) (fun a U => a = #[(.ref a1), (.long q2), (.long q3)] ∧ Z.Warmed39 U.vm ∧ U.heap = h0) (fun _ _ _ _ _ => True) (fun _ U o U' => ∃ v L, o = .returned v ∧ own_QR Z a1 q2 q3 h0 n0 v U'.heap L ∧ FrameEnd U o U' L ({ frames := 1, cells := 0, slots := 0, locals := 12 } : Room).cells ({ frames := 1, cells := 0, slots := 0, locals := 12 } : Room).slots) := by
  refine MetFree.of_bodySF (plainFor_of_name pn_1) hisR ?_
  intro p e s m args below meth c s₁ Bd hml0 hP hK
  obtain ⟨rfl, hZ, hh⟩ := hP
  have hx := Bd.exec
  have hby := Bd.bytes
  have hml : c.maxLocals = 5 := hml0
  have hown : s.vm.findClass "com/example/invariant_ink/invariantink/lang/RangeType" = some m.cls := findClass_of_methodNamed Bd.named
  have hnm := (name_of_methodNamed Bd.named Bd.method).1
  have X0 : Stand p l e ({ frames := 1, cells := 0, slots := 0, locals := 12 } : Room) s m #[(.ref a1), (.long q2), (.long q3)] below meth c s₁ [] 0 0 := Stand.of_body Bd
  have e0 : s₁.heap = h0 := by rw [← hh, Bd.state]; rfl
  have N0 := Fr.nil n0
  have go0 : ∀ t, Steps p.tables e below (s₁.setTop (mkF m 0 #[.val (.ref a1), .val (.long q2), .second, .val (.long q3), .second] [])) t → Steps p.tables e below (s₁.setTop (entryFrame m #[(.ref a1), (.long q2), (.long q3)] 5)) t := fun t k => castTop (ef_1 m a1 q2 q3) k
  have go1 : ∀ t, Steps p.tables e below (s₁.setTop (mkF m 1 #[.val (.ref a1), .val (.long q2), .second, .val (.long q3), .second] [(.ref a1)])) t → Steps p.tables e below (s₁.setTop (entryFrame m #[(.ref a1), (.long q2), (.long q3)] 5)) t := fun t kt => go0 t (by
      refine XS.aloadN X0.here hx rfl (hb hby d1_0) rfl rfl ?_
      show Steps p.tables e below (s₁.setTop (mkF m 1 #[.val (.ref a1), .val (.long q2), .second, .val (.long q3), .second] [(.ref a1)])) _
      exact kt)
  obtain ⟨T2, X2, e2, st2⟩ := initO X0 hx hZ hown (own_h hw 7 rfl) (own_h hw 8 rfl) (own_h hw 9 rfl) e0 (g := (mkF m 1 #[.val (.ref a1), .val (.long q2), .second, .val (.long q3), .second] [(.ref a1)])) rfl (by rw [hml]; rfl) rfl (hb hby d1_1) (by decide) (W := 0) (by show 2 * 0 + _ ≤ _; exact Nat.le_of_eq rfl) (by decide)
  have hc7_3 : ¬ ((0 : Int32) < (lcmpW q2 q3)) := fun q => hle ((lw_gt _ _).mp q)
  have go4 : ∀ t, Steps p.tables e below (T2.setTop (mkF m 27 #[.val (.ref a1), .val (.long q2), .second, .val (.long q3), .second] [(.long q2), (.ref a1)])) t → Steps p.tables e below (s₁.setTop (entryFrame m #[(.ref a1), (.long q2), (.long q3)] 5)) t := fun t kt => go1 t (by
      refine st2 _ ?_
      show Steps p.tables e below (T2.setTop (mkF m 4 #[.val (.ref a1), .val (.long q2), .second, .val (.long q3), .second] [])) _
      refine XS.lloadN X2.here hx rfl (hb hby d1_4) rfl ?_
      show Steps p.tables e below (T2.setTop (mkF m 5 #[.val (.ref a1), .val (.long q2), .second, .val (.long q3), .second] [(.long q2)])) _
      refine XS.lloadN X2.here hx rfl (hb hby d1_5) rfl ?_
      show Steps p.tables e below (T2.setTop (mkF m 6 #[.val (.ref a1), .val (.long q2), .second, .val (.long q3), .second] [(.long q3), (.long q2)])) _
      refine XS.lcmp X2.here hx rfl (hb hby d1_6) rfl ?_
      show Steps p.tables e below (T2.setTop (mkF m 7 #[.val (.ref a1), .val (.long q2), .second, .val (.long q3), .second] [(.int (lcmpW q2 q3))])) _
      refine XS.ifYes X2.here hx rfl (pc0 := 7) (pc' := 25) rfl (hb hby d1_7) rfl ((if0 _ _).trans (flt hc7_3).2.2.2) (by decide) (by decide) ?_
      show Steps p.tables e below (T2.setTop (mkF m 25 #[.val (.ref a1), .val (.long q2), .second, .val (.long q3), .second] [])) _
      refine XS.aloadN X2.here hx rfl (hb hby d1_25) rfl rfl ?_
      show Steps p.tables e below (T2.setTop (mkF m 26 #[.val (.ref a1), .val (.long q2), .second, .val (.long q3), .second] [(.ref a1)])) _
      refine XS.lloadN X2.here hx rfl (hb hby d1_26) rfl ?_
      show Steps p.tables e below (T2.setTop (mkF m 27 #[.val (.ref a1), .val (.long q2), .second, .val (.long q3), .second] [(.long q2), (.ref a1)])) _
      exact kt)
  obtain ⟨T5, h5, X5, e5, W5, st5⟩ := putF X2 hx hZ hown (host := "") (Or.inl (own_h hw 10 rfl)) Via.refl e2 F_low E0 (Or.inr ⟨(own_h hw 11 rfl), rfl, hnm⟩) (own_h hw 2 rfl) (ty := .long) (by decide) rfl rfl (g := (mkF m 27 #[.val (.ref a1), .val (.long q2), .second, .val (.long q3), .second] [(.long q2), (.ref a1)])) rfl rfl (hb hby d1_27)
  have Fw5 := F_low.same W5
  obtain ⟨Ls5, X5, N5⟩ := own_loc X5 (Fr.snoc X5 N0 ga)
  have go6 : ∀ t, Steps p.tables e below (T5.setTop (mkF m 32 #[.val (.ref a1), .val (.long q2), .second, .val (.long q3), .second] [(.long q3), (.ref a1)])) t → Steps p.tables e below (s₁.setTop (entryFrame m #[(.ref a1), (.long q2), (.long q3)] 5)) t := fun t kt => go4 t (by
      refine st5 _ ?_
      show Steps p.tables e below (T5.setTop (mkF m 30 #[.val (.ref a1), .val (.long q2), .second, .val (.long q3), .second] [])) _
      refine XS.aloadN X5.here hx rfl (hb hby d1_30) rfl rfl ?_
      show Steps p.tables e below (T5.setTop (mkF m 31 #[.val (.ref a1), .val (.long q2), .second, .val (.long q3), .second] [(.ref a1)])) _
      refine XS.lloadN X5.here hx rfl (hb hby d1_31) rfl ?_
      show Steps p.tables e below (T5.setTop (mkF m 32 #[.val (.ref a1), .val (.long q2), .second, .val (.long q3), .second] [(.long q3), (.ref a1)])) _
      exact kt)
  have fq7 := (F_high.other W5 (Or.inr (slot_ne (Or.inr (own_h hw 13 rfl)) (Or.inr (own_h hw 11 rfl)) (by decide) (t := .long) (t' := .long) (by decide) (by decide))))
  have fq8 := (E0.wr W5)
  obtain ⟨T9, h9, X9, e9, W9, st9⟩ := putF X5 hx hZ hown (host := "") (Or.inl (own_h hw 12 rfl)) Via.refl e5 fq7 fq8 (Or.inr ⟨(own_h hw 13 rfl), rfl, hnm⟩) (own_h hw 2 rfl) (ty := .long) (by decide) rfl rfl (g := (mkF m 32 #[.val (.ref a1), .val (.long q2), .second, .val (.long q3), .second] [(.long q3), (.ref a1)])) rfl rfl (hb hby d1_32)
  have Fw9 := fq7.same W9
  obtain ⟨Ls9, X9, N9⟩ := own_loc X9 (Fr.snoc X9 N5 ga)
  have go10 : ∀ t, Steps p.tables e below (T9.setTop (mkF m 35 #[.val (.ref a1), .val (.long q2), .second, .val (.long q3), .second] [])) t → Steps p.tables e below (s₁.setTop (entryFrame m #[(.ref a1), (.long q2), (.long q3)] 5)) t := fun t kt => go6 t (by
      refine st9 _ ?_
      show Steps p.tables e below (T9.setTop (mkF m 35 #[.val (.ref a1), .val (.long q2), .second, .val (.long q3), .second] [])) _
      exact kt)
  obtain ⟨fs, hr, hrun, hended, hW, hsame⟩ := X9.leave (v := none) (fun _ => rfl)
  refine ⟨_, _, go10 _ (X9.returnOut hx Bd.returns (hb hby d1_35) hr), hrun, hended, _, _, rfl, ?_, ⟨_, rfl⟩, hW, hsame.mono (by decide) (by decide)⟩
  show own_QR _ _ _ _ _ _ _ T9.heap _
  rw [e9]
  have kp11 := ((Keep.refl h0 [a1]).wr W5 (Or.inl (List.mem_of_getElem? (i := 0) rfl)))
  have fq12 := (fq8.wr W9)
  have fq13 := (Fw5.other W9 (Or.inr (slot_ne (Or.inr (own_h hw 11 rfl)) (Or.inr (own_h hw 13 rfl)) (by decide) (t := .long) (t' := .long) (by decide) (by decide))))
  exact ⟨rfl, N9, (kp11.wr W9 (Or.inl (List.mem_of_getElem? (i := 0) rfl))), fq12, fq13, Fw9⟩
theorem d3_0 : decode prog_159_method_1_code 0 = .ok (.aload_n 0, 1) := by decide +kernel
theorem d3_1 : decode prog_159_method_1_code 1 = .ok (.invokespecial 1, 3) := by decide +kernel
theorem d3_4 : decode prog_159_method_1_code 4 = .ok (.aload_n 0, 1) := by decide +kernel
theorem d3_5 : decode prog_159_method_1_code 5 = .ok (.aload_n 1, 1) := by decide +kernel
theorem d3_6 : decode prog_159_method_1_code 6 = .ok (.putfield 7, 3) := by decide +kernel
theorem d3_9 : decode prog_159_method_1_code 9 = .ok (.aload_n 0, 1) := by decide +kernel
theorem d3_10 : decode prog_159_method_1_code 10 = .ok (.aload_n 2, 1) := by decide +kernel
theorem d3_11 : decode prog_159_method_1_code 11 = .ok (.putfield 13, 3) := by decide +kernel
theorem d3_14 : decode prog_159_method_1_code 14 = .ok (.aload_n 0, 1) := by decide +kernel
theorem d3_15 : decode prog_159_method_1_code 15 = .ok (.iload_n 3, 1) := by decide +kernel
theorem d3_16 : decode prog_159_method_1_code 16 = .ok (.putfield 17, 3) := by decide +kernel
theorem d3_19 : decode prog_159_method_1_code 19 = .ok (.aload_n 0, 1) := by decide +kernel
theorem d3_20 : decode prog_159_method_1_code 20 = .ok (.aload 4, 2) := by decide +kernel
theorem d3_22 : decode prog_159_method_1_code 22 = .ok (.putfield 21, 3) := by decide +kernel
theorem d3_25 : decode prog_159_method_1_code 25 = .ok (.aload_n 0, 1) := by decide +kernel
theorem d3_26 : decode prog_159_method_1_code 26 = .ok (.aload 5, 2) := by decide +kernel
theorem d3_28 : decode prog_159_method_1_code 28 = .ok (.putfield 25, 3) := by decide +kernel
theorem d3_31 : decode prog_159_method_1_code 31 = .ok (.return_, 1) := by decide +kernel
theorem pn_3 : plainName "com/example/invariant_ink/invariantink/lang/Local" = true := by first | (simp [plainName, overriddenIn]; done) | decide +kernel
theorem ef_3 (m : MethodId) (a1 : Addr) (a2 : Addr) (p4 : Int32) (a5 : Addr) : entryFrame m #[(.ref a1), (.ref a2), .null, (.int p4), (.ref a5), .null] 6 = mkF m 0 #[.val (.ref a1), .val (.ref a2), .val .null, .val (.int p4), .val (.ref a5), .val .null] [] := by first | (simp [entryFrame, mkF, argsToLocals, Value.category]; done) | rfl
set_option maxRecDepth 65536 in
set_option maxHeartbeats 40000000 in
theorem rm3 (l : Launch) (Z : State) (a0 : Array Value) (hw : ∀ d ∈ tables_1, d.before a0 Z = true) (ws : List Jvm.Cond) (a1 a2 : Addr) (p4 : Int32) (a5 : Addr) (h0 : Heap) (n0 : Nat) (E0 : Exa Z h0 a1 "com/example/invariant_ink/invariantink/lang/Local") (F_name : Fld Z h0 a1 "com/example/invariant_ink/invariantink/lang/Local" "name" "Ljava/lang/String;" .null) (F_kind : Fld Z h0 a1 "com/example/invariant_ink/invariantink/lang/Local" "kind" "Lcom/example/invariant_ink/invariantink/lang/Local$Kind;" .null) (F_slot : Fld Z h0 a1 "com/example/invariant_ink/invariantink/lang/Local" "slot" "I" (.int (0 : Int32))) (F_type : Fld Z h0 a1 "com/example/invariant_ink/invariantink/lang/Local" "type" "Lcom/example/invariant_ink/invariantink/lang/Type;" .null) (F_position : Fld Z h0 a1 "com/example/invariant_ink/invariantink/lang/Local" "position" "Lcom/example/invariant_ink/invariantink/lang/Position;" .null) (ga : n0 ≤ a1) :
    MetFree l (⟨"com/example/invariant_ink/invariantink/lang/Local", "<init>", "(Ljava/lang/String;Lcom/example/invariant_ink/invariantink/lang/Local$Kind;ILcom/example/invariant_ink/invariantink/lang/Type;Lcom/example/invariant_ink/invariantink/lang/Position;)V"⟩ : MethodName) (head1 (Jvm.Cond.code (⟨"com/example/invariant_ink/invariantink/lang/Local", "<init>", "(Ljava/lang/String;Lcom/example/invariant_ink/invariantink/lang/Local$Kind;ILcom/example/invariant_ink/invariantink/lang/Type;Lcom/example/invariant_ink/invariantink/lang/Position;)V"⟩ : MethodName) prog_159_method_1_code 6 none :: ws) ({ frames := 1, cells := 0, slots := 0, locals := 12 } : Room)) (fun a U => a = #[(.ref a1), (.ref a2), .null, (.int p4), (.ref a5), .null] ∧ Z.Warmed39 U.vm ∧ U.heap = h0) (fun _ _ _ _ _ => True) (fun _ U o U' => ∃ v L, o = .returned v ∧ own_QN Z a1 p4 a5 h0 n0 v U'.heap L ∧ FrameEnd U o U' L ({ frames := 1, cells := 0, slots := 0, locals := 12 } : Room).cells ({ frames := 1, cells := 0, slots := 0, locals := 12 } : Room).slots) := by
  refine MetFree.of_bodySF (plainFor_of_name pn_3) hisR ?_
  intro p e s m args below meth c s₁ Bd hml0 hP hK
  obtain ⟨rfl, hZ, hh⟩ := hP
  have hx := Bd.exec
  have hby := Bd.bytes
  have hml : c.maxLocals = 6 := hml0
  have hown : s.vm.findClass "com/example/invariant_ink/invariantink/lang/Local" = some m.cls := findClass_of_methodNamed Bd.named
  have hnm := (name_of_methodNamed Bd.named Bd.method).1
  have X0 : Stand p l e ({ frames := 1, cells := 0, slots := 0, locals := 12 } : Room) s m #[(.ref a1), (.ref a2), .null, (.int p4), (.ref a5), .null] below meth c s₁ [] 0 0 := Stand.of_body Bd
  have e0 : s₁.heap = h0 := by rw [← hh, Bd.state]; rfl
  have N0 := Fr.nil n0
  have go0 : ∀ t, Steps p.tables e below (s₁.setTop (mkF m 0 #[.val (.ref a1), .val (.ref a2), .val .null, .val (.int p4), .val (.ref a5), .val .null] [])) t → Steps p.tables e below (s₁.setTop (entryFrame m #[(.ref a1), (.ref a2), .null, (.int p4), (.ref a5), .null] 6)) t := fun t k => castTop (ef_3 m a1 a2 p4 a5) k
  have go1 : ∀ t, Steps p.tables e below (s₁.setTop (mkF m 1 #[.val (.ref a1), .val (.ref a2), .val .null, .val (.int p4), .val (.ref a5), .val .null] [(.ref a1)])) t → Steps p.tables e below (s₁.setTop (entryFrame m #[(.ref a1), (.ref a2), .null, (.int p4), (.ref a5), .null] 6)) t := fun t kt => go0 t (by
      refine XS.aloadN X0.here hx rfl (hb hby d3_0) rfl rfl ?_
      show Steps p.tables e below (s₁.setTop (mkF m 1 #[.val (.ref a1), .val (.ref a2), .val .null, .val (.int p4), .val (.ref a5), .val .null] [(.ref a1)])) _
      exact kt)
  obtain ⟨T2, X2, e2, st2⟩ := initO X0 hx hZ hown (own_h hw 28 rfl) (own_h hw 8 rfl) (own_h hw 9 rfl) e0 (g := (mkF m 1 #[.val (.ref a1), .val (.ref a2), .val .null, .val (.int p4), .val (.ref a5), .val .null] [(.ref a1)])) rfl (by rw [hml]; rfl) rfl (hb hby d3_1) (by decide) (W := 0) (by show 2 * 0 + _ ≤ _; exact Nat.le_of_eq rfl) (by decide)
  have go3 : ∀ t, Steps p.tables e below (T2.setTop (mkF m 6 #[.val (.ref a1), .val (.ref a2), .val .null, .val (.int p4), .val (.ref a5), .val .null] [(.ref a2), (.ref a1)])) t → Steps p.tables e below (s₁.setTop (entryFrame m #[(.ref a1), (.ref a2), .null, (.int p4), (.ref a5), .null] 6)) t := fun t kt => go1 t (by
      refine st2 _ ?_
      show Steps p.tables e below (T2.setTop (mkF m 4 #[.val (.ref a1), .val (.ref a2), .val .null, .val (.int p4), .val (.ref a5), .val .null] [])) _
      refine XS.aloadN X2.here hx rfl (hb hby d3_4) rfl rfl ?_
      show Steps p.tables e below (T2.setTop (mkF m 5 #[.val (.ref a1), .val (.ref a2), .val .null, .val (.int p4), .val (.ref a5), .val .null] [(.ref a1)])) _
      refine XS.aloadN X2.here hx rfl (hb hby d3_5) rfl rfl ?_
      show Steps p.tables e below (T2.setTop (mkF m 6 #[.val (.ref a1), .val (.ref a2), .val .null, .val (.int p4), .val (.ref a5), .val .null] [(.ref a2), (.ref a1)])) _
      exact kt)
  obtain ⟨T4, h4, X4, e4, W4, st4⟩ := putF X2 hx hZ hown (host := "") (Or.inl (own_h hw 29 rfl)) Via.refl e2 F_name E0 (Or.inr ⟨(own_h hw 30 rfl), rfl, hnm⟩) (own_h hw 15 rfl) (ty := (.object "java/lang/String")) (by decide) rfl rfl (g := (mkF m 6 #[.val (.ref a1), .val (.ref a2), .val .null, .val (.int p4), .val (.ref a5), .val .null] [(.ref a2), (.ref a1)])) rfl rfl (hb hby d3_6)
  have Fw4 := F_name.same W4
  obtain ⟨Ls4, X4, N4⟩ := own_loc X4 (Fr.snoc X4 N0 ga)
  have go5 : ∀ t, Steps p.tables e below (T4.setTop (mkF m 11 #[.val (.ref a1), .val (.ref a2), .val .null, .val (.int p4), .val (.ref a5), .val .null] [.null, (.ref a1)])) t → Steps p.tables e below (s₁.setTop (entryFrame m #[(.ref a1), (.ref a2), .null, (.int p4), (.ref a5), .null] 6)) t := fun t kt => go3 t (by
      refine st4 _ ?_
      show Steps p.tables e below (T4.setTop (mkF m 9 #[.val (.ref a1), .val (.ref a2), .val .null, .val (.int p4), .val (.ref a5), .val .null] [])) _
      refine XS.aloadN X4.here hx rfl (hb hby d3_9) rfl rfl ?_
      show Steps p.tables e below (T4.setTop (mkF m 10 #[.val (.ref a1), .val (.ref a2), .val .null, .val (.int p4), .val (.ref a5), .val .null] [(.ref a1)])) _
      refine XS.aloadN X4.here hx rfl (hb hby d3_10) rfl rfl ?_
      show Steps p.tables e below (T4.setTop (mkF m 11 #[.val (.ref a1), .val (.ref a2), .val .null, .val (.int p4), .val (.ref a5), .val .null] [.null, (.ref a1)])) _
      exact kt)
  have fq6 := (F_kind.other W4 (Or.inr (slot_ne (Or.inr (own_h hw 32 rfl)) (Or.inr (own_h hw 30 rfl)) (by decide) (t := (.object "com/example/invariant_ink/invariantink/lang/Local$Kind")) (t' := (.object "java/lang/String")) (by decide) (by decide))))
  have fq7 := (E0.wr W4)
  obtain ⟨T8, h8, X8, e8, W8, st8⟩ := putF X4 hx hZ hown (host := "") (Or.inl (own_h hw 31 rfl)) Via.refl e4 fq6 fq7 (Or.inr ⟨(own_h hw 32 rfl), rfl, hnm⟩) (own_h hw 15 rfl) (ty := (.object "com/example/invariant_ink/invariantink/lang/Local$Kind")) (by decide) rfl rfl (g := (mkF m 11 #[.val (.ref a1), .val (.ref a2), .val .null, .val (.int p4), .val (.ref a5), .val .null] [.null, (.ref a1)])) rfl rfl (hb hby d3_11)
  have Fw8 := fq6.same W8
  obtain ⟨Ls8, X8, N8⟩ := own_loc X8 (Fr.snoc X8 N4 ga)
  have go9 : ∀ t, Steps p.tables e below (T8.setTop (mkF m 16 #[.val (.ref a1), .val (.ref a2), .val .null, .val (.int p4), .val (.ref a5), .val .null] [(.int p4), (.ref a1)])) t → Steps p.tables e below (s₁.setTop (entryFrame m #[(.ref a1), (.ref a2), .null, (.int p4), (.ref a5), .null] 6)) t := fun t kt => go5 t (by
      refine st8 _ ?_
      show Steps p.tables e below (T8.setTop (mkF m 14 #[.val (.ref a1), .val (.ref a2), .val .null, .val (.int p4), .val (.ref a5), .val .null] [])) _
      refine XS.aloadN X8.here hx rfl (hb hby d3_14) rfl rfl ?_
      show Steps p.tables e below (T8.setTop (mkF m 15 #[.val (.ref a1), .val (.ref a2), .val .null, .val (.int p4), .val (.ref a5), .val .null] [(.ref a1)])) _
      refine XS.iloadN X8.here hx rfl (hb hby d3_15) rfl ?_
      show Steps p.tables e below (T8.setTop (mkF m 16 #[.val (.ref a1), .val (.ref a2), .val .null, .val (.int p4), .val (.ref a5), .val .null] [(.int p4), (.ref a1)])) _
      exact kt)
  have fq10 := ((F_slot.other W4 (Or.inr (slot_ne (Or.inr (own_h hw 34 rfl)) (Or.inr (own_h hw 30 rfl)) (by decide) (t := .int) (t' := (.object "java/lang/String")) (by decide) (by decide)))).other W8 (Or.inr (slot_ne (Or.inr (own_h hw 34 rfl)) (Or.inr (own_h hw 32 rfl)) (by decide) (t := .int) (t' := (.object "com/example/invariant_ink/invariantink/lang/Local$Kind")) (by decide) (by decide))))
  have fq11 := (fq7.wr W8)
  obtain ⟨T12, h12, X12, e12, W12, st12⟩ := putF X8 hx hZ hown (host := "") (Or.inl (own_h hw 33 rfl)) Via.refl e8 fq10 fq11 (Or.inr ⟨(own_h hw 34 rfl), rfl, hnm⟩) (own_h hw 15 rfl) (ty := .int) (by decide) rfl rfl (g := (mkF m 16 #[.val (.ref a1), .val (.ref a2), .val .null, .val (.int p4), .val (.ref a5), .val .null] [(.int p4), (.ref a1)])) rfl rfl (hb hby d3_16)
  have Fw12 := fq10.same W12
  obtain ⟨Ls12, X12, N12⟩ := own_loc X12 (Fr.snoc X12 N8 ga)
  have go13 : ∀ t, Steps p.tables e below (T12.setTop (mkF m 22 #[.val (.ref a1), .val (.ref a2), .val .null, .val (.int p4), .val (.ref a5), .val .null] [(.ref a5), (.ref a1)])) t → Steps p.tables e below (s₁.setTop (entryFrame m #[(.ref a1), (.ref a2), .null, (.int p4), (.ref a5), .null] 6)) t := fun t kt => go9 t (by
      refine st12 _ ?_
      show Steps p.tables e below (T12.setTop (mkF m 19 #[.val (.ref a1), .val (.ref a2), .val .null, .val (.int p4), .val (.ref a5), .val .null] [])) _
      refine XS.aloadN X12.here hx rfl (hb hby d3_19) rfl rfl ?_
      show Steps p.tables e below (T12.setTop (mkF m 20 #[.val (.ref a1), .val (.ref a2), .val .null, .val (.int p4), .val (.ref a5), .val .null] [(.ref a1)])) _
      refine XS.aload X12.here hx rfl (hb hby d3_20) rfl rfl ?_
      show Steps p.tables e below (T12.setTop (mkF m 22 #[.val (.ref a1), .val (.ref a2), .val .null, .val (.int p4), .val (.ref a5), .val .null] [(.ref a5), (.ref a1)])) _
      exact kt)
  have fr14 := ((F_type.other W4 (Or.inr (slot_ne (Or.inr (own_h hw 36 rfl)) (Or.inr (own_h hw 30 rfl)) (by decide) (t := (.object "com/example/invariant_ink/invariantink/lang/Type")) (t' := (.object "java/lang/String")) (by decide) (by decide)))).other W8 (Or.inr (slot_ne (Or.inr (own_h hw 36 rfl)) (Or.inr (own_h hw 32 rfl)) (by decide) (t := (.object "com/example/invariant_ink/invariantink/lang/Type")) (t' := (.object "com/example/invariant_ink/invariantink/lang/Local$Kind")) (by decide) (by decide))))
  have fq15 := (fr14.other W12 (Or.inr (slot_ne (Or.inr (own_h hw 36 rfl)) (Or.inr (own_h hw 34 rfl)) (by decide) (t := (.object "com/example/invariant_ink/invariantink/lang/Type")) (t' := .int) (by decide) (by decide))))
  have fq16 := (fq11.wr W12)
  obtain ⟨T17, h17, X17, e17, W17, st17⟩ := putF X12 hx hZ hown (host := "") (Or.inl (own_h hw 35 rfl)) Via.refl e12 fq15 fq16 (Or.inr ⟨(own_h hw 36 rfl), rfl, hnm⟩) (own_h hw 15 rfl) (ty := (.object "com/example/invariant_ink/invariantink/lang/Type")) (by decide) rfl rfl (g := (mkF m 22 #[.val (.ref a1), .val (.ref a2), .val .null, .val (.int p4), .val (.ref a5), .val .null] [(.ref a5), (.ref a1)])) rfl rfl (hb hby d3_22)
  have Fw17 := fq15.same W17
  obtain ⟨Ls17, X17, N17⟩ := own_loc X17 (Fr.snoc X17 N12 ga)
  have go18 : ∀ t, Steps p.tables e below (T17.setTop (mkF m 28 #[.val (.ref a1), .val (.ref a2), .val .null, .val (.int p4), .val (.ref a5), .val .null] [.null, (.ref a1)])) t → Steps p.tables e below (s₁.setTop (entryFrame m #[(.ref a1), (.ref a2), .null, (.int p4), (.ref a5), .null] 6)) t := fun t kt => go13 t (by
      refine st17 _ ?_
      show Steps p.tables e below (T17.setTop (mkF m 25 #[.val (.ref a1), .val (.ref a2), .val .null, .val (.int p4), .val (.ref a5), .val .null] [])) _
      refine XS.aloadN X17.here hx rfl (hb hby d3_25) rfl rfl ?_
      show Steps p.tables e below (T17.setTop (mkF m 26 #[.val (.ref a1), .val (.ref a2), .val .null, .val (.int p4), .val (.ref a5), .val .null] [(.ref a1)])) _
      refine XS.aload X17.here hx rfl (hb hby d3_26) rfl rfl ?_
      show Steps p.tables e below (T17.setTop (mkF m 28 #[.val (.ref a1), .val (.ref a2), .val .null, .val (.int p4), .val (.ref a5), .val .null] [.null, (.ref a1)])) _
      exact kt)
  have fr19 := ((F_position.other W4 (Or.inr (slot_ne (Or.inr (own_h hw 38 rfl)) (Or.inr (own_h hw 30 rfl)) (by decide) (t := (.object "com/example/invariant_ink/invariantink/lang/Position")) (t' := (.object "java/lang/String")) (by decide) (by decide)))).other W8 (Or.inr (slot_ne (Or.inr (own_h hw 38 rfl)) (Or.inr (own_h hw 32 rfl)) (by decide) (t := (.object "com/example/invariant_ink/invariantink/lang/Position")) (t' := (.object "com/example/invariant_ink/invariantink/lang/Local$Kind")) (by decide) (by decide))))
  have fq20 := ((fr19.other W12 (Or.inr (slot_ne (Or.inr (own_h hw 38 rfl)) (Or.inr (own_h hw 34 rfl)) (by decide) (t := (.object "com/example/invariant_ink/invariantink/lang/Position")) (t' := .int) (by decide) (by decide)))).other W17 (Or.inr (slot_ne (Or.inr (own_h hw 38 rfl)) (Or.inr (own_h hw 36 rfl)) (by decide) (t := (.object "com/example/invariant_ink/invariantink/lang/Position")) (t' := (.object "com/example/invariant_ink/invariantink/lang/Type")) (by decide) (by decide))))
  have fq21 := (fq16.wr W17)
  obtain ⟨T22, h22, X22, e22, W22, st22⟩ := putF X17 hx hZ hown (host := "") (Or.inl (own_h hw 37 rfl)) Via.refl e17 fq20 fq21 (Or.inr ⟨(own_h hw 38 rfl), rfl, hnm⟩) (own_h hw 15 rfl) (ty := (.object "com/example/invariant_ink/invariantink/lang/Position")) (by decide) rfl rfl (g := (mkF m 28 #[.val (.ref a1), .val (.ref a2), .val .null, .val (.int p4), .val (.ref a5), .val .null] [.null, (.ref a1)])) rfl rfl (hb hby d3_28)
  have Fw22 := fq20.same W22
  obtain ⟨Ls22, X22, N22⟩ := own_loc X22 (Fr.snoc X22 N17 ga)
  have go23 : ∀ t, Steps p.tables e below (T22.setTop (mkF m 31 #[.val (.ref a1), .val (.ref a2), .val .null, .val (.int p4), .val (.ref a5), .val .null] [])) t → Steps p.tables e below (s₁.setTop (entryFrame m #[(.ref a1), (.ref a2), .null, (.int p4), (.ref a5), .null] 6)) t := fun t kt => go18 t (by
      refine st22 _ ?_
      show Steps p.tables e below (T22.setTop (mkF m 31 #[.val (.ref a1), .val (.ref a2), .val .null, .val (.int p4), .val (.ref a5), .val .null] [])) _
      exact kt)
  obtain ⟨fs, hr, hrun, hended, hW, hsame⟩ := X22.leave (v := none) (fun _ => rfl)
  refine ⟨_, _, go23 _ (X22.returnOut hx Bd.returns (hb hby d3_31) hr), hrun, hended, _, _, rfl, ?_, ⟨_, rfl⟩, hW, hsame.mono (by decide) (by decide)⟩
  show own_QN _ _ _ _ _ _ _ T22.heap _
  rw [e22]
  have kp24 := ((Keep.refl h0 [a1]).wr W4 (Or.inl (List.mem_of_getElem? (i := 0) rfl)))
  have kp25 := (kp24.wr W8 (Or.inl (List.mem_of_getElem? (i := 0) rfl)))
  have kp26 := (kp25.wr W12 (Or.inl (List.mem_of_getElem? (i := 0) rfl)))
  have kp27 := (kp26.wr W17 (Or.inl (List.mem_of_getElem? (i := 0) rfl)))
  have fq28 := (fq21.wr W22)
  have fq29 := ((Fw12.other W17 (Or.inr (slot_ne (Or.inr (own_h hw 34 rfl)) (Or.inr (own_h hw 36 rfl)) (by decide) (t := .int) (t' := (.object "com/example/invariant_ink/invariantink/lang/Type")) (by decide) (by decide)))).other W22 (Or.inr (slot_ne (Or.inr (own_h hw 34 rfl)) (Or.inr (own_h hw 38 rfl)) (by decide) (t := .int) (t' := (.object "com/example/invariant_ink/invariantink/lang/Position")) (by decide) (by decide))))
  have fq30 := (Fw17.other W22 (Or.inr (slot_ne (Or.inr (own_h hw 36 rfl)) (Or.inr (own_h hw 38 rfl)) (by decide) (t := (.object "com/example/invariant_ink/invariantink/lang/Type")) (t' := (.object "com/example/invariant_ink/invariantink/lang/Position")) (by decide) (by decide))))
  exact ⟨rfl, N22, (kp27.wr W22 (Or.inl (List.mem_of_getElem? (i := 0) rfl))), fq28, fq29, fq30⟩
theorem d6_0 : decode jdk_22_method_1_code 0 = .ok (.aload_n 0, 1) := by decide +kernel
theorem d6_1 : decode jdk_22_method_1_code 1 = .ok (.invokespecial 1, 3) := by decide +kernel
theorem d6_4 : decode jdk_22_method_1_code 4 = .ok (.return_, 1) := by decide +kernel
theorem pn_6 : plainName "java/util/AbstractCollection" = true := by first | (simp [plainName, overriddenIn]; done) | decide +kernel
theorem ef_6 (m : MethodId) (a1 : Addr) : entryFrame m #[(.ref a1)] 1 = mkF m 0 #[.val (.ref a1)] [] := by first | (simp [entryFrame, mkF, argsToLocals, Value.category]; done) | rfl
set_option maxRecDepth 65536 in
set_option maxHeartbeats 40000000 in
theorem rm6 (l : Launch) (Z : State) (a0 : Array Value) (hw : ∀ d ∈ tables_1, d.before a0 Z = true) (ws : List Jvm.Cond) (a1 : Addr) (h0 : Heap) (n0 : Nat) :
    MetFree l (⟨"java/util/AbstractCollection", "<init>", "()V"⟩ : MethodName) (head1 (Jvm.Cond.code (⟨"java/util/AbstractCollection", "<init>", "()V"⟩ : MethodName) jdk_22_method_1_code 1 none :: ws) ({ frames := 1, cells := 0, slots := 0, locals := 12 } : Room)) (fun a U => a = #[(.ref a1)] ∧ Z.Warmed39 U.vm ∧ U.heap = h0) (fun _ _ _ _ _ => True) (fun _ U o U' => ∃ v L, o = .returned v ∧ QP none h0 n0 v U'.heap L ∧ FrameEnd U o U' L ({ frames := 1, cells := 0, slots := 0, locals := 12 } : Room).cells ({ frames := 1, cells := 0, slots := 0, locals := 12 } : Room).slots) := by
  refine MetFree.of_bodySF (plainFor_of_name pn_6) hisR ?_
  intro p e s m args below meth c s₁ Bd hml0 hP hK
  obtain ⟨rfl, hZ, hh⟩ := hP
  have hx := Bd.exec
  have hby := Bd.bytes
  have hml : c.maxLocals = 1 := hml0
  have hown : s.vm.findClass "java/util/AbstractCollection" = some m.cls := findClass_of_methodNamed Bd.named
  have hnm := (name_of_methodNamed Bd.named Bd.method).1
  have X0 : Stand p l e ({ frames := 1, cells := 0, slots := 0, locals := 12 } : Room) s m #[(.ref a1)] below meth c s₁ [] 0 0 := Stand.of_body Bd
  have e0 : s₁.heap = h0 := by rw [← hh, Bd.state]; rfl
  have N0 := Fr.nil n0
  have go0 : ∀ t, Steps p.tables e below (s₁.setTop (mkF m 0 #[.val (.ref a1)] [])) t → Steps p.tables e below (s₁.setTop (entryFrame m #[(.ref a1)] 1)) t := fun t k => castTop (ef_6 m a1) k
  have go1 : ∀ t, Steps p.tables e below (s₁.setTop (mkF m 1 #[.val (.ref a1)] [(.ref a1)])) t → Steps p.tables e below (s₁.setTop (entryFrame m #[(.ref a1)] 1)) t := fun t kt => go0 t (by
      refine XS.aloadN X0.here hx rfl (hb hby d6_0) rfl rfl ?_
      show Steps p.tables e below (s₁.setTop (mkF m 1 #[.val (.ref a1)] [(.ref a1)])) _
      exact kt)
  obtain ⟨T2, X2, e2, st2⟩ := initO X0 hx hZ hown (own_h hw 59 rfl) (own_h hw 8 rfl) (own_h hw 9 rfl) e0 (g := (mkF m 1 #[.val (.ref a1)] [(.ref a1)])) rfl (by rw [hml]; rfl) rfl (hb hby d6_1) (by decide) (W := 0) (by show 2 * 0 + _ ≤ _; exact Nat.le_of_eq rfl) (by decide)
  have go3 : ∀ t, Steps p.tables e below (T2.setTop (mkF m 4 #[.val (.ref a1)] [])) t → Steps p.tables e below (s₁.setTop (entryFrame m #[(.ref a1)] 1)) t := fun t kt => go1 t (by
      refine st2 _ ?_
      show Steps p.tables e below (T2.setTop (mkF m 4 #[.val (.ref a1)] [])) _
      exact kt)
  obtain ⟨fs, hr, hrun, hended, hW, hsame⟩ := X2.leave (v := none) (fun _ => rfl)
  refine ⟨_, _, go3 _ (X2.returnOut hx Bd.returns (hb hby d6_4) hr), hrun, hended, _, _, rfl, ?_, ⟨_, rfl⟩, hW, hsame.mono (by decide) (by decide)⟩
  exact ⟨rfl, N0, e2⟩
abbrev own_m3 : MethodName := ⟨"java/util/AbstractCollection", "<init>", "()V"⟩
theorem d5_0 : decode jdk_39_method_1_code 0 = .ok (.aload_n 0, 1) := by decide +kernel
theorem d5_1 : decode jdk_39_method_1_code 1 = .ok (.invokespecial 1, 3) := by decide +kernel
theorem d5_4 : decode jdk_39_method_1_code 4 = .ok (.aload_n 0, 1) := by decide +kernel
theorem d5_5 : decode jdk_39_method_1_code 5 = .ok (.iconst 0, 1) := by decide +kernel
theorem d5_6 : decode jdk_39_method_1_code 6 = .ok (.putfield 7, 3) := by decide +kernel
theorem d5_9 : decode jdk_39_method_1_code 9 = .ok (.return_, 1) := by decide +kernel
theorem pn_5 : plainName "java/util/AbstractList" = true := by first | (simp [plainName, overriddenIn]; done) | decide +kernel
theorem ef_5 (m : MethodId) (a1 : Addr) : entryFrame m #[(.ref a1)] 1 = mkF m 0 #[.val (.ref a1)] [] := by first | (simp [entryFrame, mkF, argsToLocals, Value.category]; done) | rfl
set_option maxRecDepth 65536 in
set_option maxHeartbeats 40000000 in
theorem rm5 (l : Launch) (Z : State) (a0 : Array Value) (hw : ∀ d ∈ tables_1, d.before a0 Z = true) (ws : List Jvm.Cond) (a1 : Addr) (h0 : Heap) (n0 : Nat) (LO : own_LO Z h0 a1 .null 0 0) (ga : n0 ≤ a1) :
    MetFree l (⟨"java/util/AbstractList", "<init>", "()V"⟩ : MethodName) (head1 (Jvm.Cond.code (⟨"java/util/AbstractList", "<init>", "()V"⟩ : MethodName) jdk_39_method_1_code 1 none :: ws) ({ frames := 2, cells := 0, slots := 0, locals := 24 } : Room)) (fun a U => a = #[(.ref a1)] ∧ Z.Warmed39 U.vm ∧ U.heap = h0) (fun _ _ _ _ _ => True) (fun _ U o U' => ∃ v L, o = .returned v ∧ own_QL Z a1 .null 0 0 h0 n0 v U'.heap L ∧ FrameEnd U o U' L ({ frames := 2, cells := 0, slots := 0, locals := 24 } : Room).cells ({ frames := 2, cells := 0, slots := 0, locals := 24 } : Room).slots) := by
  refine MetFree.of_bodySF (plainFor_of_name pn_5) hisR ?_
  intro p e s m args below meth c s₁ Bd hml0 hP hK
  obtain ⟨rfl, hZ, hh⟩ := hP
  have hx := Bd.exec
  have hby := Bd.bytes
  have hml : c.maxLocals = 1 := hml0
  have hown : s.vm.findClass "java/util/AbstractList" = some m.cls := findClass_of_methodNamed Bd.named
  have hnm := (name_of_methodNamed Bd.named Bd.method).1
  have X0 : Stand p l e ({ frames := 2, cells := 0, slots := 0, locals := 24 } : Room) s m #[(.ref a1)] below meth c s₁ [] 0 0 := Stand.of_body Bd
  have e0 : s₁.heap = h0 := by rw [← hh, Bd.state]; rfl
  have N0 := Fr.nil n0
  have go0 : ∀ t, Steps p.tables e below (s₁.setTop (mkF m 0 #[.val (.ref a1)] [])) t → Steps p.tables e below (s₁.setTop (entryFrame m #[(.ref a1)] 1)) t := fun t k => castTop (ef_5 m a1) k
  obtain ⟨OE, OF1, OF2, OF3⟩ := id LO
  have go1 : ∀ t, Steps p.tables e below (s₁.setTop (mkF m 1 #[.val (.ref a1)] [(.ref a1)])) t → Steps p.tables e below (s₁.setTop (entryFrame m #[(.ref a1)] 1)) t := fun t kt => go0 t (by
      refine XS.aloadN X0.here hx rfl (hb hby d5_0) rfl rfl ?_
      show Steps p.tables e below (s₁.setTop (mkF m 1 #[.val (.ref a1)] [(.ref a1)])) _
      exact kt)
  obtain ⟨_, _, ⟨T2, L2, k2, n2⟩, -, X2, ⟨Lc2, hQ2, l2, y2, z2⟩, st2⟩ := X0.specialBack hx (y := own_m3) rfl hown (mvT hZ (own_h hw 53 rfl)) (mvT hZ (own_h hw 54 rfl)) (mvT hZ (own_h hw 58 rfl)) (by decide) (backOf (W := 0) (rm6 l Z a0 hw [] a1 h0 n0) hZ (own_h hw 58 rfl) (own_h hw 57 rfl) (by decide) (by decide)) (g := (mkF m 1 #[.val (.ref a1)] [(.ref a1)])) rfl (by rw [hml]; rfl) (Steps.refl _) (a := a1) (argsL := []) (rest := []) (lenOf pd_1 rfl) rfl (by show 2 * 0 + _ ≤ _; exact Nat.le_of_eq rfl) (hb hby d5_1) (fun _ _ => ⟨rfl, e0, (by decide : 0 + 0 ≤ _), (by decide : 0 + 0 ≤ _)⟩)
  dsimp only [Pt.U, Pt.locs, Pt.cells, Pt.slots] at X2 l2 y2 z2 st2 hQ2
  subst y2 z2
  obtain ⟨rfl, N2q, e2⟩ := hQ2
  have N2 := Fr.app N0 N2q
  rw [← l2] at N2
  have go3 : ∀ t, Steps p.tables e below (T2.setTop (mkF m 6 #[.val (.ref a1)] [(.int (0 : Int32)), (.ref a1)])) t → Steps p.tables e below (s₁.setTop (entryFrame m #[(.ref a1)] 1)) t := fun t kt => go1 t (by
      refine st2.trans ?_
      show Steps p.tables e below (T2.setTop (mkF m 4 #[.val (.ref a1)] [])) _
      refine XS.aloadN X2.here hx rfl (hb hby d5_4) rfl rfl ?_
      show Steps p.tables e below (T2.setTop (mkF m 5 #[.val (.ref a1)] [(.ref a1)])) _
      refine XS.iconst X2.here hx rfl (hb hby d5_5) ?_
      show Steps p.tables e below (T2.setTop (mkF m 6 #[.val (.ref a1)] [(.int (0 : Int32)), (.ref a1)])) _
      exact kt)
  obtain ⟨T4, h4, X4, e4, W4, st4⟩ := putF X2 hx hZ hown (host := "") (Or.inl (own_h hw 60 rfl)) Via.refl e2 OF3 OE (Or.inl (own_h hw 61 rfl)) (own_h hw 42 rfl) (ty := .int) (by decide) rfl rfl (g := (mkF m 6 #[.val (.ref a1)] [(.int (0 : Int32)), (.ref a1)])) rfl rfl (hb hby d5_6)
  have Fw4 := OF3.same W4
  obtain ⟨Ls4, X4, N4⟩ := own_loc X4 (Fr.snoc X4 N2 ga)
  have go5 : ∀ t, Steps p.tables e below (T4.setTop (mkF m 9 #[.val (.ref a1)] [])) t → Steps p.tables e below (s₁.setTop (entryFrame m #[(.ref a1)] 1)) t := fun t kt => go3 t (by
      refine st4 _ ?_
      show Steps p.tables e below (T4.setTop (mkF m 9 #[.val (.ref a1)] [])) _
      exact kt)
  obtain ⟨fs, hr, hrun, hended, hW, hsame⟩ := X4.leave (v := none) (fun _ => rfl)
  refine ⟨_, _, go5 _ (X4.returnOut hx Bd.returns (hb hby d5_9) hr), hrun, hended, _, _, rfl, ?_, ⟨_, rfl⟩, hW, hsame.mono (by decide) (by decide)⟩
  show own_QL _ _ _ _ _ _ _ _ T4.heap _
  rw [e4]
  have fq6 := (OE.wr W4)
  have fq7 := (OF1.other W4 (Or.inr (slot_ne (Or.inl (own_h hw 64 rfl)) (Or.inl (own_h hw 61 rfl)) (by decide) (t := (.array (.object "java/lang/Object"))) (t' := .int) (by decide) (by decide))))
  have fq8 := (OF2.other W4 (Or.inr (slot_ne (Or.inl (own_h hw 85 rfl)) (Or.inl (own_h hw 61 rfl)) (by decide) (t := .int) (t' := .int) (by decide) (by decide))))
  exact ⟨rfl, N4, ((Keep.refl h0 [a1]).wr W4 (Or.inl (List.mem_of_getElem? (i := 0) rfl))), ⟨fq6, fq7, fq8, Fw4⟩⟩
abbrev own_m4 : MethodName := ⟨"java/util/AbstractList", "<init>", "()V"⟩
theorem d4_0 : decode jdk_38_method_2_code 0 = .ok (.aload_n 0, 1) := by decide +kernel
theorem d4_1 : decode jdk_38_method_2_code 1 = .ok (.invokespecial 1, 3) := by decide +kernel
theorem d4_4 : decode jdk_38_method_2_code 4 = .ok (.aload_n 0, 1) := by decide +kernel
theorem d4_5 : decode jdk_38_method_2_code 5 = .ok (.getstatic 39, 3) := by decide +kernel
theorem d4_8 : decode jdk_38_method_2_code 8 = .ok (.putfield 9, 3) := by decide +kernel
theorem d4_11 : decode jdk_38_method_2_code 11 = .ok (.return_, 1) := by decide +kernel
theorem pn_4 : plainName "java/util/ArrayList" = true := by first | (simp [plainName, overriddenIn]; done) | decide +kernel
theorem ef_4 (m : MethodId) (a1 : Addr) : entryFrame m #[(.ref a1)] 1 = mkF m 0 #[.val (.ref a1)] [] := by first | (simp [entryFrame, mkF, argsToLocals, Value.category]; done) | rfl
set_option maxRecDepth 65536 in
set_option maxHeartbeats 40000000 in
theorem rm4 (l : Launch) (Z : State) (a0 : Array Value) (hw : ∀ d ∈ tables_1, d.before a0 Z = true) (ws : List Jvm.Cond) (a1 dd : Addr) (h0 : Heap) (n0 : Nat) (LO : own_LO Z h0 a1 .null 0 0) (ga : n0 ≤ a1) (Old1 : Old Z n0 h0) (SS : Sta Z Z.heap "java/util/ArrayList" "DEFAULTCAPACITY_EMPTY_ELEMENTDATA" "[Ljava/lang/Object;" (.ref dd)) :
    MetFree l (⟨"java/util/ArrayList", "<init>", "()V"⟩ : MethodName) (head1 (Jvm.Cond.code (⟨"java/util/ArrayList", "<init>", "()V"⟩ : MethodName) jdk_38_method_2_code 1 none :: ws) ({ frames := 3, cells := 0, slots := 0, locals := 36 } : Room)) (fun a U => a = #[(.ref a1)] ∧ Z.Warmed39 U.vm ∧ U.heap = h0) (fun _ _ _ _ _ => True) (fun _ U o U' => ∃ v L, o = .returned v ∧ own_QL Z a1 (.ref dd) 0 0 h0 n0 v U'.heap L ∧ FrameEnd U o U' L ({ frames := 3, cells := 0, slots := 0, locals := 36 } : Room).cells ({ frames := 3, cells := 0, slots := 0, locals := 36 } : Room).slots) := by
  refine MetFree.of_bodySF (plainFor_of_name pn_4) hisR ?_
  intro p e s m args below meth c s₁ Bd hml0 hP hK
  obtain ⟨rfl, hZ, hh⟩ := hP
  have hx := Bd.exec
  have hby := Bd.bytes
  have hml : c.maxLocals = 1 := hml0
  have hown : s.vm.findClass "java/util/ArrayList" = some m.cls := findClass_of_methodNamed Bd.named
  have hnm := (name_of_methodNamed Bd.named Bd.method).1
  have X0 : Stand p l e ({ frames := 3, cells := 0, slots := 0, locals := 36 } : Room) s m #[(.ref a1)] below meth c s₁ [] 0 0 := Stand.of_body Bd
  have e0 : s₁.heap = h0 := by rw [← hh, Bd.state]; rfl
  have N0 := Fr.nil n0
  have go0 : ∀ t, Steps p.tables e below (s₁.setTop (mkF m 0 #[.val (.ref a1)] [])) t → Steps p.tables e below (s₁.setTop (entryFrame m #[(.ref a1)] 1)) t := fun t k => castTop (ef_4 m a1) k
  have go1 : ∀ t, Steps p.tables e below (s₁.setTop (mkF m 1 #[.val (.ref a1)] [(.ref a1)])) t → Steps p.tables e below (s₁.setTop (entryFrame m #[(.ref a1)] 1)) t := fun t kt => go0 t (by
      refine XS.aloadN X0.here hx rfl (hb hby d4_0) rfl rfl ?_
      show Steps p.tables e below (s₁.setTop (mkF m 1 #[.val (.ref a1)] [(.ref a1)])) _
      exact kt)
  have Old0 := Old1
  obtain ⟨_, _, ⟨T2, L2, k2, n2⟩, -, X2, ⟨Lc2, hQ2, l2, y2, z2⟩, st2⟩ := X0.specialBack hx (y := own_m4) rfl hown (mvT hZ (own_h hw 47 rfl)) (mvT hZ (own_h hw 48 rfl)) (mvT hZ (own_h hw 52 rfl)) (by decide) (backOf (W := 0) (rm5 l Z a0 hw [] a1 h0 n0 LO ga) hZ (own_h hw 52 rfl) (own_h hw 51 rfl) (by decide) (by decide)) (g := (mkF m 1 #[.val (.ref a1)] [(.ref a1)])) rfl (by rw [hml]; rfl) (Steps.refl _) (a := a1) (argsL := []) (rest := []) (lenOf pd_1 rfl) rfl (by show 2 * 0 + _ ≤ _; exact Nat.le_of_eq rfl) (hb hby d4_1) (fun _ _ => ⟨rfl, e0, (by decide : 0 + 0 ≤ _), (by decide : 0 + 0 ≤ _)⟩)
  dsimp only [Pt.U, Pt.locs, Pt.cells, Pt.slots] at X2 l2 y2 z2 st2 hQ2
  subst y2 z2
  obtain ⟨rfl, N2q, K2, LO2⟩ := hQ2
  obtain ⟨PE, PF1, PF2, PF3⟩ := id LO2
  have fq3 := (Old1.keep K2 (allS ga all0))
  have ST2 := SS.ext fq3.2
  have N2 := Fr.app N0 N2q
  rw [← l2] at N2
  have go4 : ∀ t, Steps p.tables e below (T2.setTop (mkF m 5 #[.val (.ref a1)] [(.ref a1)])) t → Steps p.tables e below (s₁.setTop (entryFrame m #[(.ref a1)] 1)) t := fun t kt => go1 t (by
      refine st2.trans ?_
      show Steps p.tables e below (T2.setTop (mkF m 4 #[.val (.ref a1)] [])) _
      refine XS.aloadN X2.here hx rfl (hb hby d4_4) rfl rfl ?_
      show Steps p.tables e below (T2.setTop (mkF m 5 #[.val (.ref a1)] [(.ref a1)])) _
      exact kt)
  obtain ⟨T5, X5, e5, st5⟩ := getS2 X2 hx hZ hown (host := "") (Or.inl (own_h hw 62 rfl)) Via.refl rfl ST2 (g := (mkF m 5 #[.val (.ref a1)] [(.ref a1)])) rfl (hb hby d4_5)
  have go6 : ∀ t, Steps p.tables e below (T5.setTop (mkF m 8 #[.val (.ref a1)] [(.ref dd), (.ref a1)])) t → Steps p.tables e below (s₁.setTop (entryFrame m #[(.ref a1)] 1)) t := fun t kt => go4 t (by
      refine st5 _ ?_
      show Steps p.tables e below (T5.setTop (mkF m 8 #[.val (.ref a1)] [(.ref dd), (.ref a1)])) _
      exact kt)
  obtain ⟨T7, h7, X7, e7, W7, st7⟩ := putF X5 hx hZ hown (host := "") (Or.inl (own_h hw 63 rfl)) Via.refl e5 PF1 PE (Or.inl (own_h hw 64 rfl)) (own_h hw 42 rfl) (ty := (.array (.object "java/lang/Object"))) (by decide) rfl rfl (g := (mkF m 8 #[.val (.ref a1)] [(.ref dd), (.ref a1)])) rfl rfl (hb hby d4_8)
  have Fw7 := PF1.same W7
  obtain ⟨Ls7, X7, N7⟩ := own_loc X7 (Fr.snoc X7 N2 ga)
  have go8 : ∀ t, Steps p.tables e below (T7.setTop (mkF m 11 #[.val (.ref a1)] [])) t → Steps p.tables e below (s₁.setTop (entryFrame m #[(.ref a1)] 1)) t := fun t kt => go6 t (by
      refine st7 _ ?_
      show Steps p.tables e below (T7.setTop (mkF m 11 #[.val (.ref a1)] [])) _
      exact kt)
  obtain ⟨fs, hr, hrun, hended, hW, hsame⟩ := X7.leave (v := none) (fun _ => rfl)
  refine ⟨_, _, go8 _ (X7.returnOut hx Bd.returns (hb hby d4_11) hr), hrun, hended, _, _, rfl, ?_, ⟨_, rfl⟩, hW, hsame.mono (by decide) (by decide)⟩
  show own_QL _ _ _ _ _ _ _ _ T7.heap _
  rw [e7]
  have kp9 := ((Keep.refl h0 [a1]).trans K2 (allS (Or.inl (List.mem_of_getElem? (i := 0) rfl)) all0))
  have fq10 := (PE.wr W7)
  have fq11 := (PF2.other W7 (Or.inr (slot_ne (Or.inl (own_h hw 85 rfl)) (Or.inl (own_h hw 64 rfl)) (by decide) (t := .int) (t' := (.array (.object "java/lang/Object"))) (by decide) (by decide))))
  have fq12 := (PF3.other W7 (Or.inr (slot_ne (Or.inl (own_h hw 61 rfl)) (Or.inl (own_h hw 64 rfl)) (by decide) (t := .int) (t' := (.array (.object "java/lang/Object"))) (by decide) (by decide))))
  exact ⟨rfl, N7, (kp9.wr W7 (Or.inl (List.mem_of_getElem? (i := 0) rfl))), ⟨fq10, Fw7, fq11, fq12⟩⟩
abbrev own_m5 : MethodName := ⟨"java/lang/Math", "max", "(II)I"⟩
theorem d14_0 : decode jdk_38_method_6_code 0 = .ok (.aload_n 0, 1) := by decide +kernel
theorem d14_1 : decode jdk_38_method_6_code 1 = .ok (.getfield 9, 3) := by decide +kernel
theorem d14_4 : decode jdk_38_method_6_code 4 = .ok (.arraylength, 1) := by decide +kernel
theorem d14_5 : decode jdk_38_method_6_code 5 = .ok (.istore_n 2, 1) := by decide +kernel
theorem d14_6 : decode jdk_38_method_6_code 6 = .ok (.iload_n 2, 1) := by decide +kernel
theorem d14_7 : decode jdk_38_method_6_code 7 = .ok (.ifCond .gt 13, 3) := by decide +kernel
theorem d14_10 : decode jdk_38_method_6_code 10 = .ok (.aload_n 0, 1) := by decide +kernel
theorem d14_11 : decode jdk_38_method_6_code 11 = .ok (.getfield 9, 3) := by decide +kernel
theorem d14_14 : decode jdk_38_method_6_code 14 = .ok (.getstatic 39, 3) := by decide +kernel
theorem d14_17 : decode jdk_38_method_6_code 17 = .ok (.if_acmp .eq 28, 3) := by decide +kernel
theorem d14_45 : decode jdk_38_method_6_code 45 = .ok (.aload_n 0, 1) := by decide +kernel
theorem d14_46 : decode jdk_38_method_6_code 46 = .ok (.bipush 10, 2) := by decide +kernel
theorem d14_48 : decode jdk_38_method_6_code 48 = .ok (.iload_n 1, 1) := by decide +kernel
theorem d14_49 : decode jdk_38_method_6_code 49 = .ok (.invokestatic 79, 3) := by decide +kernel
theorem d14_52 : decode jdk_38_method_6_code 52 = .ok (.anewarray 7, 3) := by decide +kernel
theorem d14_55 : decode jdk_38_method_6_code 55 = .ok (.dup_x1, 1) := by decide +kernel
theorem d14_56 : decode jdk_38_method_6_code 56 = .ok (.putfield 9, 3) := by decide +kernel
theorem d14_59 : decode jdk_38_method_6_code 59 = .ok (.areturn, 1) := by decide +kernel
theorem pn_14 : plainName "java/util/ArrayList" = true := by first | (simp [plainName, overriddenIn]; done) | decide +kernel
theorem ef_14 (m : MethodId) (a1 : Addr) : entryFrame m #[(.ref a1), (.int (1 : Int32))] 4 = mkF m 0 #[.val (.ref a1), .val (.int (1 : Int32)), .unset, .unset] [] := by first | (simp [entryFrame, mkF, argsToLocals, Value.category]; done) | rfl
set_option maxRecDepth 65536 in
set_option maxHeartbeats 40000000 in
theorem rm14 (l : Launch) (Z : State) (a0 : Array Value) (hw : ∀ d ∈ tables_1, d.before a0 Z = true) (ws : List Jvm.Cond) (a1 dd : Addr) (mc : Int32) (h0 : Heap) (n0 : Nat) (ST : Sta Z h0 "java/util/ArrayList" "DEFAULTCAPACITY_EMPTY_ELEMENTDATA" "[Ljava/lang/Object;" (.ref dd)) (DV : own_AV Z h0 dd (.object "java/lang/Object") []) (nd : dd ≠ a1) (Z0 : n0 ≤ h0.size) (LO : own_LO Z h0 a1 (.ref dd) 0 mc) (ga : n0 ≤ a1) :
    MetFree l (⟨"java/util/ArrayList", "grow", "(I)[Ljava/lang/Object;"⟩ : MethodName) (head1 (Jvm.Cond.code (⟨"java/util/ArrayList", "grow", "(I)[Ljava/lang/Object;"⟩ : MethodName) jdk_38_method_6_code 4 (some (.array (.object "java/lang/Object"))) :: ws) ({ frames := 1, cells := 1, slots := 10, locals := 14 } : Room)) (fun a U => a = #[(.ref a1), (.int (1 : Int32))] ∧ Z.Warmed39 U.vm ∧ U.heap = h0) (fun _ _ _ _ _ => True) (fun _ U o U' => ∃ v L, o = .returned v ∧ own_QG Z a1 mc h0 n0 v U'.heap L ∧ FrameEnd U o U' L ({ frames := 1, cells := 1, slots := 10, locals := 14 } : Room).cells ({ frames := 1, cells := 1, slots := 10, locals := 14 } : Room).slots) := by
  refine MetFree.of_bodySF (plainFor_of_name pn_14) hisR ?_
  intro p e s m args below meth c s₁ Bd hml0 hP hK
  obtain ⟨rfl, hZ, hh⟩ := hP
  have hx := Bd.exec
  have hby := Bd.bytes
  have hml : c.maxLocals = 4 := hml0
  have hown : s.vm.findClass "java/util/ArrayList" = some m.cls := findClass_of_methodNamed Bd.named
  have hnm := (name_of_methodNamed Bd.named Bd.method).1
  have X0 : Stand p l e ({ frames := 1, cells := 1, slots := 10, locals := 14 } : Room) s m #[(.ref a1), (.int (1 : Int32))] below meth c s₁ [] 0 0 := Stand.of_body Bd
  have e0 : s₁.heap = h0 := by rw [← hh, Bd.state]; rfl
  have N0 := Fr.nil n0
  have go0 : ∀ t, Steps p.tables e below (s₁.setTop (mkF m 0 #[.val (.ref a1), .val (.int (1 : Int32)), .unset, .unset] [])) t → Steps p.tables e below (s₁.setTop (entryFrame m #[(.ref a1), (.int (1 : Int32))] 4)) t := fun t k => castTop (ef_14 m a1) k
  obtain ⟨OE, OF1, OF2, OF3⟩ := id LO
  have go1 : ∀ t, Steps p.tables e below (s₁.setTop (mkF m 1 #[.val (.ref a1), .val (.int (1 : Int32)), .unset, .unset] [(.ref a1)])) t → Steps p.tables e below (s₁.setTop (entryFrame m #[(.ref a1), (.int (1 : Int32))] 4)) t := fun t kt => go0 t (by
      refine XS.aloadN X0.here hx rfl (hb hby d14_0) rfl rfl ?_
      show Steps p.tables e below (s₁.setTop (mkF m 1 #[.val (.ref a1), .val (.int (1 : Int32)), .unset, .unset] [(.ref a1)])) _
      exact kt)
  obtain ⟨T2, X2, e2, st2⟩ := getF X0 hx hZ hown (host := "") (Or.inl (own_h hw 63 rfl)) Via.refl e0 OF1 (g := (mkF m 1 #[.val (.ref a1), .val (.int (1 : Int32)), .unset, .unset] [(.ref a1)])) rfl rfl (hb hby d14_1)
  have go3 : ∀ t, Steps p.tables e below (T2.setTop (mkF m 4 #[.val (.ref a1), .val (.int (1 : Int32)), .unset, .unset] [(.ref dd)])) t → Steps p.tables e below (s₁.setTop (entryFrame m #[(.ref a1), (.int (1 : Int32))] 4)) t := fun t kt => go1 t (by
      refine st2 _ ?_
      show Steps p.tables e below (T2.setTop (mkF m 4 #[.val (.ref a1), .val (.int (1 : Int32)), .unset, .unset] [(.ref dd)])) _
      exact kt)
  obtain ⟨c4, Ar4, q4⟩ := id DV
  have hc7_5 : ¬ ((0 : Int32) < (0 : Int32)) := (by decide)
  have go6 : ∀ t, Steps p.tables e below (T2.setTop (mkF m 11 #[.val (.ref a1), .val (.int (1 : Int32)), .val (.int (0 : Int32)), .unset] [(.ref a1)])) t → Steps p.tables e below (s₁.setTop (entryFrame m #[(.ref a1), (.int (1 : Int32))] 4)) t := fun t kt => go3 t (by
      refine X2.arraylength hx (by rw [e2]; exact Ar4.1) (State.isArrayOf_alike hZ.alike Ar4.2.1) (g := (mkF m 4 #[.val (.ref a1), .val (.int (1 : Int32)), .unset, .unset] [(.ref dd)])) rfl rfl (hb hby d14_4) _ ?_
      rw [own_len q4 (n := (0 : Int32)) rfl]
      show Steps p.tables e below (T2.setTop (mkF m 5 #[.val (.ref a1), .val (.int (1 : Int32)), .unset, .unset] [(.int (0 : Int32))])) _
      refine XS.istoreN X2.here hx rfl (hb hby d14_5) rfl (l' := #[.val (.ref a1), .val (.int (1 : Int32)), .val (.int (0 : Int32)), .unset]) rfl ?_
      show Steps p.tables e below (T2.setTop (mkF m 6 #[.val (.ref a1), .val (.int (1 : Int32)), .val (.int (0 : Int32)), .unset] [])) _
      refine XS.iloadN X2.here hx rfl (hb hby d14_6) rfl ?_
      show Steps p.tables e below (T2.setTop (mkF m 7 #[.val (.ref a1), .val (.int (1 : Int32)), .val (.int (0 : Int32)), .unset] [(.int (0 : Int32))])) _
      refine XS.ifNo X2.here hx rfl (hb hby d14_7) rfl ((if0 _ _).trans (flt hc7_5).2.2.1) ?_
      show Steps p.tables e below (T2.setTop (mkF m 10 #[.val (.ref a1), .val (.int (1 : Int32)), .val (.int (0 : Int32)), .unset] [])) _
      refine XS.aloadN X2.here hx rfl (hb hby d14_10) rfl rfl ?_
      show Steps p.tables e below (T2.setTop (mkF m 11 #[.val (.ref a1), .val (.int (1 : Int32)), .val (.int (0 : Int32)), .unset] [(.ref a1)])) _
      exact kt)
  obtain ⟨T7, X7, e7, st7⟩ := getF X2 hx hZ hown (host := "") (Or.inl (own_h hw 63 rfl)) Via.refl e2 OF1 (g := (mkF m 11 #[.val (.ref a1), .val (.int (1 : Int32)), .val (.int (0 : Int32)), .unset] [(.ref a1)])) rfl rfl (hb hby d14_11)
  have go8 : ∀ t, Steps p.tables e below (T7.setTop (mkF m 14 #[.val (.ref a1), .val (.int (1 : Int32)), .val (.int (0 : Int32)), .unset] [(.ref dd)])) t → Steps p.tables e below (s₁.setTop (entryFrame m #[(.ref a1), (.int (1 : Int32))] 4)) t := fun t kt => go6 t (by
      refine st7 _ ?_
      show Steps p.tables e below (T7.setTop (mkF m 14 #[.val (.ref a1), .val (.int (1 : Int32)), .val (.int (0 : Int32)), .unset] [(.ref dd)])) _
      exact kt)
  obtain ⟨T9, X9, e9, st9⟩ := getS2 X7 hx hZ hown (host := "") (Or.inl (own_h hw 62 rfl)) Via.refl e7 ST (g := (mkF m 14 #[.val (.ref a1), .val (.int (1 : Int32)), .val (.int (0 : Int32)), .unset] [(.ref dd)])) rfl (hb hby d14_14)
  have go10 : ∀ t, Steps p.tables e below (T9.setTop (mkF m 49 #[.val (.ref a1), .val (.int (1 : Int32)), .val (.int (0 : Int32)), .unset] [(.int (1 : Int32)), (.int (10 : Int32)), (.ref a1)])) t → Steps p.tables e below (s₁.setTop (entryFrame m #[(.ref a1), (.int (1 : Int32))] 4)) t := fun t kt => go8 t (by
      refine st9 _ ?_
      show Steps p.tables e below (T9.setTop (mkF m 17 #[.val (.ref a1), .val (.int (1 : Int32)), .val (.int (0 : Int32)), .unset] [(.ref dd), (.ref dd)])) _
      refine Jvm.RoadKit.acmp (g := (mkF m 17 #[.val (.ref a1), .val (.int (1 : Int32)), .val (.int (0 : Int32)), .unset] [(.ref dd), (.ref dd)])) X9 hx rfl rfl rfl (pc0 := 17) (pc' := 45) (same := true) rfl (hb hby d14_17) rfl (decide_eq_true rfl) (by decide) (by decide) ?_
      show Steps p.tables e below (T9.setTop (mkF m 45 #[.val (.ref a1), .val (.int (1 : Int32)), .val (.int (0 : Int32)), .unset] [])) _
      refine XS.aloadN X9.here hx rfl (hb hby d14_45) rfl rfl ?_
      show Steps p.tables e below (T9.setTop (mkF m 46 #[.val (.ref a1), .val (.int (1 : Int32)), .val (.int (0 : Int32)), .unset] [(.ref a1)])) _
      refine XS.bipush X9.here hx rfl (hb hby d14_46) ?_
      show Steps p.tables e below (T9.setTop (mkF m 48 #[.val (.ref a1), .val (.int (1 : Int32)), .val (.int (0 : Int32)), .unset] [(.int (10 : Int32)), (.ref a1)])) _
      refine XS.iloadN X9.here hx rfl (hb hby d14_48) rfl ?_
      show Steps p.tables e below (T9.setTop (mkF m 49 #[.val (.ref a1), .val (.int (1 : Int32)), .val (.int (0 : Int32)), .unset] [(.int (1 : Int32)), (.int (10 : Int32)), (.ref a1)])) _
      exact kt)
  obtain ⟨_, _, ⟨T11, L11, k11, n11⟩, -, X11, ⟨Lc11, hQ11, l11, y11, z11⟩, st11⟩ := Jvm.LawKit.callS X9 hx (y := own_m5) hown (mvT hZ (own_h hw 120 rfl)) (mvT hZ (own_h hw 121 rfl)) (mvT hZ (own_h hw 122 rfl)) (mvT hZ (own_h hw 123 rfl)) (by decide) (backOf (W := 1) (rm15 l Z a0 hw [] (10 : Int32) (1 : Int32) h0 n0) hZ (own_h hw 123 rfl) (own_h hw 122 rfl) (by decide) (by decide)) (g := (mkF m 49 #[.val (.ref a1), .val (.int (1 : Int32)), .val (.int (0 : Int32)), .unset] [(.int (1 : Int32)), (.int (10 : Int32)), (.ref a1)])) rfl (by rw [hml]; rfl) (argsL := [(.int (10 : Int32)), (.int (1 : Int32))]) (rest := [(.ref a1)]) (lenOf pd_11 rfl) rfl (by show 2 * 0 + _ ≤ _; exact Nat.le_of_eq rfl) (hb hby d14_49) (fun _ _ => ⟨rfl, e9, (by decide : 0 + 0 ≤ _), (by decide : 0 + 0 ≤ _)⟩)
  dsimp only [Pt.U, Pt.locs, Pt.cells, Pt.slots] at X11 l11 y11 z11 st11 hQ11
  subst y11 z11
  obtain ⟨rfl, N11q, e11⟩ := hQ11
  have N11 := Fr.app N0 N11q
  rw [← l11] at N11
  have go12 : ∀ t, Steps p.tables e below (T11.setTop (mkF m 52 #[.val (.ref a1), .val (.int (1 : Int32)), .val (.int (0 : Int32)), .unset] [(.int (own_max (10 : Int32) (1 : Int32))), (.ref a1)])) t → Steps p.tables e below (s₁.setTop (entryFrame m #[(.ref a1), (.int (1 : Int32))] 4)) t := fun t kt => go10 t (by
      refine st11 _ ?_
      show Steps p.tables e below (T11.setTop (mkF m 52 #[.val (.ref a1), .val (.int (1 : Int32)), .val (.int (0 : Int32)), .unset] [(.int (own_max (10 : Int32) (1 : Int32))), (.ref a1)])) _
      exact kt)
  rw [show (own_max (10 : Int32) (1 : Int32)) = (10 : Int32) from (by decide)] at go12
  obtain ⟨T13, h13, k13, X13, e13, E13, A13, O13, st13⟩ := newR X11 hx hZ hown (own_h hw 124 rfl) (own_h hw 125 rfl) e11 (g := (mkF m 52 #[.val (.ref a1), .val (.int (1 : Int32)), .val (.int (0 : Int32)), .unset] [(.int (10 : Int32)), (.ref a1)])) rfl (hb hby d14_52) rfl (by decide) (cap := 10) (by decide) (by decide) (by decide) (by decide)
  obtain ⟨b13, g13⟩ : ∃ z, z = h0.size := ⟨_, rfl⟩
  rw [← g13] at A13 st13
  have ks13 : h0.size ≤ h0.size := Nat.le_refl _
  have sz13 : h0.size ≤ b13 := Nat.le_trans ks13 (Nat.le_of_eq g13.symm)
  have ne_a1_b13 : a1 ≠ b13 := Nat.ne_of_lt (Nat.lt_of_lt_of_le OE.lt (Nat.le_of_eq g13.symm))
  have ne_dd_b13 : dd ≠ b13 := Nat.ne_of_lt (Nat.lt_of_lt_of_le DV.lt (Nat.le_of_eq g13.symm))
  have V13 : own_AVO Z h13 b13 [.null, .null, .null, .null, .null, .null, .null, .null, .null, .null] := ⟨_, A13, by simp [newA]; decide, O13⟩
  have gb13 : n0 ≤ b13 := Nat.le_trans Z0 (Nat.le_of_eq g13.symm)
  have go14 : ∀ t, Steps p.tables e below (T13.setTop (mkF m 56 #[.val (.ref a1), .val (.int (1 : Int32)), .val (.int (0 : Int32)), .unset] [(.ref b13), (.ref a1), (.ref b13)])) t → Steps p.tables e below (s₁.setTop (entryFrame m #[(.ref a1), (.int (1 : Int32))] 4)) t := fun t kt => go12 t (by
      refine st13 _ ?_
      show Steps p.tables e below (T13.setTop (mkF m 55 #[.val (.ref a1), .val (.int (1 : Int32)), .val (.int (0 : Int32)), .unset] [(.ref b13), (.ref a1)])) _
      refine XS.dupX1 X13.here hx rfl (hb hby d14_55) rfl rfl rfl ?_
      show Steps p.tables e below (T13.setTop (mkF m 56 #[.val (.ref a1), .val (.int (1 : Int32)), .val (.int (0 : Int32)), .unset] [(.ref b13), (.ref a1), (.ref b13)])) _
      exact kt)
  have fq15 := (OF1.ext E13)
  have fq16 := (OE.ext E13)
  obtain ⟨T17, h17, X17, e17, W17, st17⟩ := putF X13 hx hZ hown (host := "") (Or.inl (own_h hw 63 rfl)) Via.refl e13 fq15 fq16 (Or.inl (own_h hw 64 rfl)) (own_h hw 42 rfl) (ty := (.array (.object "java/lang/Object"))) (by decide) rfl rfl (g := (mkF m 56 #[.val (.ref a1), .val (.int (1 : Int32)), .val (.int (0 : Int32)), .unset] [(.ref b13), (.ref a1), (.ref b13)])) rfl rfl (hb hby d14_56)
  have Fw17 := fq15.same W17
  obtain ⟨Ls17, X17, N17⟩ := own_loc X17 (Fr.snoc X17 N11 ga)
  have go18 : ∀ t, Steps p.tables e below (T17.setTop (mkF m 59 #[.val (.ref a1), .val (.int (1 : Int32)), .val (.int (0 : Int32)), .unset] [(.ref b13)])) t → Steps p.tables e below (s₁.setTop (entryFrame m #[(.ref a1), (.int (1 : Int32))] 4)) t := fun t kt => go14 t (by
      refine st17 _ ?_
      show Steps p.tables e below (T17.setTop (mkF m 59 #[.val (.ref a1), .val (.int (1 : Int32)), .val (.int (0 : Int32)), .unset] [(.ref b13)])) _
      exact kt)
  obtain ⟨fs, hr, hrun, hended, hW, hsame⟩ := X17.leave (v := some (.ref b13)) (fun h => by rw [Bd.returns] at h; cases h)
  refine ⟨_, _, go18 _ (X17.areturnOut hx rfl Bd.returns rfl (hb hby d14_59) hr), hrun, hended, _, _, rfl, ?_, ⟨_, rfl⟩, hW, hsame.mono (by decide) (by decide)⟩
  show own_QG _ _ _ _ _ _ T17.heap _
  rw [e17]
  have kp19 := ((Keep.refl h0 [a1]).ext E13)
  have fq20 := (fq16.wr W17)
  have fq21 := ((OF2.ext E13).other W17 (Or.inr (slot_ne (Or.inl (own_h hw 85 rfl)) (Or.inl (own_h hw 64 rfl)) (by decide) (t := .int) (t' := (.array (.object "java/lang/Object"))) (by decide) (by decide))))
  have fq22 := ((OF3.ext E13).other W17 (Or.inr (slot_ne (Or.inl (own_h hw 61 rfl)) (Or.inl (own_h hw 64 rfl)) (by decide) (t := .int) (t' := (.array (.object "java/lang/Object"))) (by decide) (by decide))))
  have fq23 := (V13.other W17 (Ne.symm ne_a1_b13))
  exact ⟨b13, rfl, N17, (kp19.wr W17 (Or.inl (List.mem_of_getElem? (i := 0) rfl))), ⟨fq20, Fw17, fq21, fq22⟩, sz13, fq23⟩
abbrev own_m6 : MethodName := ⟨"java/util/ArrayList", "grow", "(I)[Ljava/lang/Object;"⟩
theorem d13_0 : decode jdk_38_method_7_code 0 = .ok (.aload_n 0, 1) := by decide +kernel
theorem d13_1 : decode jdk_38_method_7_code 1 = .ok (.aload_n 0, 1) := by decide +kernel
theorem d13_2 : decode jdk_38_method_7_code 2 = .ok (.getfield 48, 3) := by decide +kernel
theorem d13_5 : decode jdk_38_method_7_code 5 = .ok (.iconst 1, 1) := by decide +kernel
theorem d13_6 : decode jdk_38_method_7_code 6 = .ok (.iadd, 1) := by decide +kernel
theorem d13_7 : decode jdk_38_method_7_code 7 = .ok (.invokevirtual 69, 3) := by decide +kernel
theorem d13_10 : decode jdk_38_method_7_code 10 = .ok (.areturn, 1) := by decide +kernel
theorem pn_13 : plainName "java/util/ArrayList" = true := by first | (simp [plainName, overriddenIn]; done) | decide +kernel
theorem ef_13 (m : MethodId) (a1 : Addr) : entryFrame m #[(.ref a1)] 1 = mkF m 0 #[.val (.ref a1)] [] := by first | (simp [entryFrame, mkF, argsToLocals, Value.category]; done) | rfl
set_option maxRecDepth 65536 in
set_option maxHeartbeats 40000000 in
theorem rm13 (l : Launch) (Z : State) (a0 : Array Value) (hw : ∀ d ∈ tables_1, d.before a0 Z = true) (ws : List Jvm.Cond) (a1 dd : Addr) (mc : Int32) (h0 : Heap) (n0 : Nat) (ST : Sta Z h0 "java/util/ArrayList" "DEFAULTCAPACITY_EMPTY_ELEMENTDATA" "[Ljava/lang/Object;" (.ref dd)) (DV : own_AV Z h0 dd (.object "java/lang/Object") []) (nd : dd ≠ a1) (Z0 : n0 ≤ h0.size) (LO : own_LO Z h0 a1 (.ref dd) 0 mc) (ga : n0 ≤ a1) :
    MetFree l (⟨"java/util/ArrayList", "grow", "()[Ljava/lang/Object;"⟩ : MethodName) (head1 (Jvm.Cond.code (⟨"java/util/ArrayList", "grow", "()[Ljava/lang/Object;"⟩ : MethodName) jdk_38_method_7_code 1 (some (.array (.object "java/lang/Object"))) :: ws) ({ frames := 2, cells := 1, slots := 10, locals := 29 } : Room)) (fun a U => a = #[(.ref a1)] ∧ Z.Warmed39 U.vm ∧ U.heap = h0) (fun _ _ _ _ _ => True) (fun _ U o U' => ∃ v L, o = .returned v ∧ own_QG Z a1 mc h0 n0 v U'.heap L ∧ FrameEnd U o U' L ({ frames := 2, cells := 1, slots := 10, locals := 29 } : Room).cells ({ frames := 2, cells := 1, slots := 10, locals := 29 } : Room).slots) := by
  refine MetFree.of_bodySF (plainFor_of_name pn_13) hisR ?_
  intro p e s m args below meth c s₁ Bd hml0 hP hK
  obtain ⟨rfl, hZ, hh⟩ := hP
  have hx := Bd.exec
  have hby := Bd.bytes
  have hml : c.maxLocals = 1 := hml0
  have hown : s.vm.findClass "java/util/ArrayList" = some m.cls := findClass_of_methodNamed Bd.named
  have hnm := (name_of_methodNamed Bd.named Bd.method).1
  have X0 : Stand p l e ({ frames := 2, cells := 1, slots := 10, locals := 29 } : Room) s m #[(.ref a1)] below meth c s₁ [] 0 0 := Stand.of_body Bd
  have e0 : s₁.heap = h0 := by rw [← hh, Bd.state]; rfl
  have N0 := Fr.nil n0
  have go0 : ∀ t, Steps p.tables e below (s₁.setTop (mkF m 0 #[.val (.ref a1)] [])) t → Steps p.tables e below (s₁.setTop (entryFrame m #[(.ref a1)] 1)) t := fun t k => castTop (ef_13 m a1) k
  obtain ⟨OE, OF1, OF2, OF3⟩ := id LO
  have go1 : ∀ t, Steps p.tables e below (s₁.setTop (mkF m 2 #[.val (.ref a1)] [(.ref a1), (.ref a1)])) t → Steps p.tables e below (s₁.setTop (entryFrame m #[(.ref a1)] 1)) t := fun t kt => go0 t (by
      refine XS.aloadN X0.here hx rfl (hb hby d13_0) rfl rfl ?_
      show Steps p.tables e below (s₁.setTop (mkF m 1 #[.val (.ref a1)] [(.ref a1)])) _
      refine XS.aloadN X0.here hx rfl (hb hby d13_1) rfl rfl ?_
      show Steps p.tables e below (s₁.setTop (mkF m 2 #[.val (.ref a1)] [(.ref a1), (.ref a1)])) _
      exact kt)
  obtain ⟨T2, X2, e2, st2⟩ := getF X0 hx hZ hown (host := "") (Or.inl (own_h hw 84 rfl)) Via.refl e0 OF2 (g := (mkF m 2 #[.val (.ref a1)] [(.ref a1), (.ref a1)])) rfl rfl (hb hby d13_2)
  have go3 : ∀ t, Steps p.tables e below (T2.setTop (mkF m 7 #[.val (.ref a1)] [(.int ((0 : Int32) + (1 : Int32))), (.ref a1)])) t → Steps p.tables e below (s₁.setTop (entryFrame m #[(.ref a1)] 1)) t := fun t kt => go1 t (by
      refine st2 _ ?_
      show Steps p.tables e below (T2.setTop (mkF m 5 #[.val (.ref a1)] [(.int (0 : Int32)), (.ref a1)])) _
      refine XS.iconst X2.here hx rfl (hb hby d13_5) ?_
      show Steps p.tables e below (T2.setTop (mkF m 6 #[.val (.ref a1)] [(.int (1 : Int32)), (.int (0 : Int32)), (.ref a1)])) _
      refine XS.iadd X2.here hx rfl (hb hby d13_6) rfl ?_
      show Steps p.tables e below (T2.setTop (mkF m 7 #[.val (.ref a1)] [(.int ((0 : Int32) + (1 : Int32))), (.ref a1)])) _
      exact kt)
  rw [show ((0 : Int32) + (1 : Int32)) = (1 : Int32) from by decide] at go3
  obtain ⟨cq4, q4, q4'⟩ := OE.cell
  obtain ⟨_, _, ⟨T4, L4, k4, n4⟩, -, X4, ⟨Lc4, hQ4, l4, y4, z4⟩, st4⟩ := X2.privateBack hx (y := own_m6) hown (mvT hZ (own_h hw 115 rfl)) (mvT hZ (own_h hw 116 rfl)) (mvT hZ (own_h hw 118 rfl)) (Cond.privateMethod_at (mvP hZ (own_h hw 117 rfl) (args := #[]))) (mvT hZ (own_h hw 119 rfl)) (by decide) (backOf (W := 0) (rm14 l Z a0 hw [] a1 dd mc h0 n0 ST DV nd Z0 LO ga) hZ (own_h hw 119 rfl) (own_h hw 43 rfl) (by decide) (by decide)) (g := (mkF m 7 #[.val (.ref a1)] [(.int (1 : Int32)), (.ref a1)])) rfl (by rw [hml]; rfl) (Steps.refl _) (a := a1) (by rw [e2]; exact q4) q4' (argsL := [(.int (1 : Int32))]) (rest := []) (lenOf pd_10 rfl) rfl (by show 2 * 0 + _ ≤ _; exact Nat.le_of_eq rfl) (hb hby d13_7) (fun _ _ => ⟨rfl, e2, (by decide : 0 + 1 ≤ _), (by decide : 0 + 10 ≤ _)⟩)
  dsimp only [Pt.U, Pt.locs, Pt.cells, Pt.slots] at X4 l4 y4 z4 st4 hQ4
  subst y4 z4
  obtain ⟨b4, rfl, N4q, K4, LO4, sz4, V4⟩ := hQ4
  have N4 := Fr.app N0 N4q
  rw [← l4] at N4
  have go5 : ∀ t, Steps p.tables e below (T4.setTop (mkF m 10 #[.val (.ref a1)] [(.ref b4)])) t → Steps p.tables e below (s₁.setTop (entryFrame m #[(.ref a1)] 1)) t := fun t kt => go3 t (by
      refine st4.trans ?_
      show Steps p.tables e below (T4.setTop (mkF m 10 #[.val (.ref a1)] [(.ref b4)])) _
      exact kt)
  obtain ⟨fs, hr, hrun, hended, hW, hsame⟩ := X4.leave (v := some (.ref b4)) (fun h => by rw [Bd.returns] at h; cases h)
  refine ⟨_, _, go5 _ (X4.areturnOut hx rfl Bd.returns rfl (hb hby d13_10) hr), hrun, hended, _, _, rfl, ?_, ⟨_, rfl⟩, hW, hsame.mono (by decide) (by decide)⟩
  exact ⟨b4, rfl, N4, K4, LO4, sz4, V4⟩
abbrev own_m7 : MethodName := ⟨"java/util/ArrayList", "grow", "()[Ljava/lang/Object;"⟩
theorem d12_0 : decode jdk_38_method_24_code 0 = .ok (.iload_n 3, 1) := by decide +kernel
theorem d12_1 : decode jdk_38_method_24_code 1 = .ok (.aload_n 2, 1) := by decide +kernel
theorem d12_2 : decode jdk_38_method_24_code 2 = .ok (.arraylength, 1) := by decide +kernel
theorem d12_3 : decode jdk_38_method_24_code 3 = .ok (.if_icmp .ne 8, 3) := by decide +kernel
theorem d12_6 : decode jdk_38_method_24_code 6 = .ok (.aload_n 0, 1) := by decide +kernel
theorem d12_7 : decode jdk_38_method_24_code 7 = .ok (.invokevirtual 129, 3) := by decide +kernel
theorem d12_10 : decode jdk_38_method_24_code 10 = .ok (.astore_n 2, 1) := by decide +kernel
theorem d12_11 : decode jdk_38_method_24_code 11 = .ok (.aload_n 2, 1) := by decide +kernel
theorem d12_12 : decode jdk_38_method_24_code 12 = .ok (.iload_n 3, 1) := by decide +kernel
theorem d12_13 : decode jdk_38_method_24_code 13 = .ok (.aload_n 1, 1) := by decide +kernel
theorem d12_14 : decode jdk_38_method_24_code 14 = .ok (.aastore, 1) := by decide +kernel
theorem d12_15 : decode jdk_38_method_24_code 15 = .ok (.aload_n 0, 1) := by decide +kernel
theorem d12_16 : decode jdk_38_method_24_code 16 = .ok (.iload_n 3, 1) := by decide +kernel
theorem d12_17 : decode jdk_38_method_24_code 17 = .ok (.iconst 1, 1) := by decide +kernel
theorem d12_18 : decode jdk_38_method_24_code 18 = .ok (.iadd, 1) := by decide +kernel
theorem d12_19 : decode jdk_38_method_24_code 19 = .ok (.putfield 48, 3) := by decide +kernel
theorem d12_22 : decode jdk_38_method_24_code 22 = .ok (.return_, 1) := by decide +kernel
theorem pn_12 : plainName "java/util/ArrayList" = true := by first | (simp [plainName, overriddenIn]; done) | decide +kernel
theorem ef_rmH0 (m : MethodId) (a1 : Addr) (a2 : Addr) (dd : Addr) : entryFrame m #[(.ref a1), (.ref a2), (.ref dd), (.int (0 : Int32))] 4 = mkF m 0 #[.val (.ref a1), .val (.ref a2), .val (.ref dd), .val (.int (0 : Int32))] [] := by first | (simp [entryFrame, mkF, argsToLocals, Value.category]; done) | rfl
set_option maxRecDepth 65536 in
set_option maxHeartbeats 40000000 in
theorem rmH0 (l : Launch) (Z : State) (a0 : Array Value) (hw : ∀ d ∈ tables_1, d.before a0 Z = true) (ws : List Jvm.Cond) (a1 a2 dd : Addr) (mc : Int32) (h0 : Heap) (n0 : Nat) (ST : Sta Z h0 "java/util/ArrayList" "DEFAULTCAPACITY_EMPTY_ELEMENTDATA" "[Ljava/lang/Object;" (.ref dd)) (DV : own_AV Z h0 dd (.object "java/lang/Object") []) (nd : dd ≠ a1) (Z0 : n0 ≤ h0.size) (LO : own_LO Z h0 a1 (.ref dd) 0 mc) (ga : n0 ≤ a1) (EX : Exa Z h0 a2 "com/example/invariant_ink/invariantink/lang/Local") :
    MetFree l (⟨"java/util/ArrayList", "add", "(Ljava/lang/Object;[Ljava/lang/Object;I)V"⟩ : MethodName) (head1 (Jvm.Cond.code (⟨"java/util/ArrayList", "add", "(Ljava/lang/Object;[Ljava/lang/Object;I)V"⟩ : MethodName) jdk_38_method_24_code 4 none :: ws) ({ frames := 3, cells := 1, slots := 10, locals := 41 } : Room)) (fun a U => a = #[(.ref a1), (.ref a2), (.ref dd), (.int (0 : Int32))] ∧ Z.Warmed39 U.vm ∧ U.heap = h0) (fun _ _ _ _ _ => True) (fun _ U o U' => ∃ v L, o = .returned v ∧ own_QA none Z a1 a2 mc h0 n0 v U'.heap L ∧ FrameEnd U o U' L ({ frames := 3, cells := 1, slots := 10, locals := 41 } : Room).cells ({ frames := 3, cells := 1, slots := 10, locals := 41 } : Room).slots) := by
  refine MetFree.of_bodySF (plainFor_of_name pn_12) hisR ?_
  intro p e s m args below meth c s₁ Bd hml0 hP hK
  obtain ⟨rfl, hZ, hh⟩ := hP
  have hx := Bd.exec
  have hby := Bd.bytes
  have hml : c.maxLocals = 4 := hml0
  have hown : s.vm.findClass "java/util/ArrayList" = some m.cls := findClass_of_methodNamed Bd.named
  have hnm := (name_of_methodNamed Bd.named Bd.method).1
  have X0 : Stand p l e ({ frames := 3, cells := 1, slots := 10, locals := 41 } : Room) s m #[(.ref a1), (.ref a2), (.ref dd), (.int (0 : Int32))] below meth c s₁ [] 0 0 := Stand.of_body Bd
  have e0 : s₁.heap = h0 := by rw [← hh, Bd.state]; rfl
  have N0 := Fr.nil n0
  have go0 : ∀ t, Steps p.tables e below (s₁.setTop (mkF m 0 #[.val (.ref a1), .val (.ref a2), .val (.ref dd), .val (.int (0 : Int32))] [])) t → Steps p.tables e below (s₁.setTop (entryFrame m #[(.ref a1), (.ref a2), (.ref dd), (.int (0 : Int32))] 4)) t := fun t k => castTop (ef_rmH0 m a1 a2 dd) k
  obtain ⟨OE, OF1, OF2, OF3⟩ := id LO
  have nx : a2 ≠ a1 := Exa.ne EX OE (by decide)
  have go1 : ∀ t, Steps p.tables e below (s₁.setTop (mkF m 2 #[.val (.ref a1), .val (.ref a2), .val (.ref dd), .val (.int (0 : Int32))] [(.ref dd), (.int (0 : Int32))])) t → Steps p.tables e below (s₁.setTop (entryFrame m #[(.ref a1), (.ref a2), (.ref dd), (.int (0 : Int32))] 4)) t := fun t kt => go0 t (by
      refine XS.iloadN X0.here hx rfl (hb hby d12_0) rfl ?_
      show Steps p.tables e below (s₁.setTop (mkF m 1 #[.val (.ref a1), .val (.ref a2), .val (.ref dd), .val (.int (0 : Int32))] [(.int (0 : Int32))])) _
      refine XS.aloadN X0.here hx rfl (hb hby d12_1) rfl rfl ?_
      show Steps p.tables e below (s₁.setTop (mkF m 2 #[.val (.ref a1), .val (.ref a2), .val (.ref dd), .val (.int (0 : Int32))] [(.ref dd), (.int (0 : Int32))])) _
      exact kt)
  obtain ⟨c2, Ar2, q2⟩ := id DV
  have hc3_3 : (0 : Int32) = (0 : Int32) := (by decide)
  have go4 : ∀ t, Steps p.tables e below (s₁.setTop (mkF m 7 #[.val (.ref a1), .val (.ref a2), .val (.ref dd), .val (.int (0 : Int32))] [(.ref a1)])) t → Steps p.tables e below (s₁.setTop (entryFrame m #[(.ref a1), (.ref a2), (.ref dd), (.int (0 : Int32))] 4)) t := fun t kt => go1 t (by
      refine X0.arraylength hx (by rw [e0]; exact Ar2.1) (State.isArrayOf_alike hZ.alike Ar2.2.1) (g := (mkF m 2 #[.val (.ref a1), .val (.ref a2), .val (.ref dd), .val (.int (0 : Int32))] [(.ref dd), (.int (0 : Int32))])) rfl rfl (hb hby d12_2) _ ?_
      rw [own_len q2 (n := (0 : Int32)) rfl]
      show Steps p.tables e below (s₁.setTop (mkF m 3 #[.val (.ref a1), .val (.ref a2), .val (.ref dd), .val (.int (0 : Int32))] [(.int (0 : Int32)), (.int (0 : Int32))])) _
      refine XS.icmpNo X0.here hx rfl (hb hby d12_3) rfl (teq hc3_3).2 ?_
      show Steps p.tables e below (s₁.setTop (mkF m 6 #[.val (.ref a1), .val (.ref a2), .val (.ref dd), .val (.int (0 : Int32))] [])) _
      refine XS.aloadN X0.here hx rfl (hb hby d12_6) rfl rfl ?_
      show Steps p.tables e below (s₁.setTop (mkF m 7 #[.val (.ref a1), .val (.ref a2), .val (.ref dd), .val (.int (0 : Int32))] [(.ref a1)])) _
      exact kt)
  obtain ⟨cq5, q5, q5'⟩ := OE.cell
  obtain ⟨_, _, ⟨T5, L5, k5, n5⟩, -, X5, ⟨Lc5, hQ5, l5, y5, z5⟩, st5⟩ := X0.privateBack hx (y := own_m7) hown (mvT hZ (own_h hw 110 rfl)) (mvT hZ (own_h hw 111 rfl)) (mvT hZ (own_h hw 113 rfl)) (Cond.privateMethod_at (mvP hZ (own_h hw 112 rfl) (args := #[]))) (mvT hZ (own_h hw 114 rfl)) (by decide) (backOf (W := 0) (rm13 l Z a0 hw [] a1 dd mc h0 n0 ST DV nd Z0 LO ga) hZ (own_h hw 114 rfl) (own_h hw 43 rfl) (by decide) (by decide)) (g := (mkF m 7 #[.val (.ref a1), .val (.ref a2), .val (.ref dd), .val (.int (0 : Int32))] [(.ref a1)])) rfl (by rw [hml]; rfl) (Steps.refl _) (a := a1) (by rw [e0]; exact q5) q5' (argsL := []) (rest := []) (lenOf pd_9 rfl) rfl (by show 2 * 0 + _ ≤ _; exact Nat.le_of_eq rfl) (hb hby d12_7) (fun _ _ => ⟨rfl, e0, (by decide : 0 + 1 ≤ _), (by decide : 0 + 10 ≤ _)⟩)
  dsimp only [Pt.U, Pt.locs, Pt.cells, Pt.slots] at X5 l5 y5 z5 st5 hQ5
  subst y5 z5
  obtain ⟨b5, rfl, N5q, K5, LO5, sz5, V5⟩ := hQ5
  have ne_a1_b5 : a1 ≠ b5 := Nat.ne_of_lt (Nat.lt_of_lt_of_le OE.lt sz5)
  have ne_a2_b5 : a2 ≠ b5 := Nat.ne_of_lt (Nat.lt_of_lt_of_le EX.lt sz5)
  have ne_dd_b5 : dd ≠ b5 := Nat.ne_of_lt (Nat.lt_of_lt_of_le DV.lt sz5)
  have gb5 : n0 ≤ b5 := Nat.le_trans Z0 sz5
  obtain ⟨PE, PF1, PF2, PF3⟩ := id LO5
  have N5 := Fr.app N0 N5q
  rw [← l5] at N5
  have go6 : ∀ t, Steps p.tables e below (T5.setTop (mkF m 14 #[.val (.ref a1), .val (.ref a2), .val (.ref b5), .val (.int (0 : Int32))] [(.ref a2), (.int (0 : Int32)), (.ref b5)])) t → Steps p.tables e below (s₁.setTop (entryFrame m #[(.ref a1), (.ref a2), (.ref dd), (.int (0 : Int32))] 4)) t := fun t kt => go4 t (by
      refine st5.trans ?_
      show Steps p.tables e below (T5.setTop (mkF m 10 #[.val (.ref a1), .val (.ref a2), .val (.ref dd), .val (.int (0 : Int32))] [(.ref b5)])) _
      refine XS.astoreN X5.here hx rfl (hb hby d12_10) rfl rfl (l' := #[.val (.ref a1), .val (.ref a2), .val (.ref b5), .val (.int (0 : Int32))]) rfl ?_
      show Steps p.tables e below (T5.setTop (mkF m 11 #[.val (.ref a1), .val (.ref a2), .val (.ref b5), .val (.int (0 : Int32))] [])) _
      refine XS.aloadN X5.here hx rfl (hb hby d12_11) rfl rfl ?_
      show Steps p.tables e below (T5.setTop (mkF m 12 #[.val (.ref a1), .val (.ref a2), .val (.ref b5), .val (.int (0 : Int32))] [(.ref b5)])) _
      refine XS.iloadN X5.here hx rfl (hb hby d12_12) rfl ?_
      show Steps p.tables e below (T5.setTop (mkF m 13 #[.val (.ref a1), .val (.ref a2), .val (.ref b5), .val (.int (0 : Int32))] [(.int (0 : Int32)), (.ref b5)])) _
      refine XS.aloadN X5.here hx rfl (hb hby d12_13) rfl rfl ?_
      show Steps p.tables e below (T5.setTop (mkF m 14 #[.val (.ref a1), .val (.ref a2), .val (.ref b5), .val (.int (0 : Int32))] [(.ref a2), (.int (0 : Int32)), (.ref b5)])) _
      exact kt)
  have fq7 := (EX.keep K5)
  obtain ⟨c8, Ar8, q8, O8⟩ := id V5
  obtain ⟨T8, h8, X8, e8, W8, st8⟩ := stR X5 hx hZ rfl Ar8 (j := (0 : Int32)) (own_inb q8 (n := 10) rfl (by decide) (by decide)) rfl (Sto.of Ar8 O8 (Ins.of_exa fq7 (own_h hw 126 rfl))) (g := (mkF m 14 #[.val (.ref a1), .val (.ref a2), .val (.ref b5), .val (.int (0 : Int32))] [(.ref a2), (.int (0 : Int32)), (.ref b5)])) rfl rfl (hb hby d12_14)
  have V8 : own_AVO Z h8 b5 [(.ref a2), .null, .null, .null, .null, .null, .null, .null, .null, .null] := own_AVO.set Ar8 q8 O8 W8 (i := 0) (by decide) rfl
  obtain ⟨Ls8, X8, N8⟩ := own_loc X8 (Fr.snoc X8 N5 gb5)
  have go9 : ∀ t, Steps p.tables e below (T8.setTop (mkF m 19 #[.val (.ref a1), .val (.ref a2), .val (.ref b5), .val (.int (0 : Int32))] [(.int ((0 : Int32) + (1 : Int32))), (.ref a1)])) t → Steps p.tables e below (s₁.setTop (entryFrame m #[(.ref a1), (.ref a2), (.ref dd), (.int (0 : Int32))] 4)) t := fun t kt => go6 t (by
      refine st8 _ ?_
      show Steps p.tables e below (T8.setTop (mkF m 15 #[.val (.ref a1), .val (.ref a2), .val (.ref b5), .val (.int (0 : Int32))] [])) _
      refine XS.aloadN X8.here hx rfl (hb hby d12_15) rfl rfl ?_
      show Steps p.tables e below (T8.setTop (mkF m 16 #[.val (.ref a1), .val (.ref a2), .val (.ref b5), .val (.int (0 : Int32))] [(.ref a1)])) _
      refine XS.iloadN X8.here hx rfl (hb hby d12_16) rfl ?_
      show Steps p.tables e below (T8.setTop (mkF m 17 #[.val (.ref a1), .val (.ref a2), .val (.ref b5), .val (.int (0 : Int32))] [(.int (0 : Int32)), (.ref a1)])) _
      refine XS.iconst X8.here hx rfl (hb hby d12_17) ?_
      show Steps p.tables e below (T8.setTop (mkF m 18 #[.val (.ref a1), .val (.ref a2), .val (.ref b5), .val (.int (0 : Int32))] [(.int (1 : Int32)), (.int (0 : Int32)), (.ref a1)])) _
      refine XS.iadd X8.here hx rfl (hb hby d12_18) rfl ?_
      show Steps p.tables e below (T8.setTop (mkF m 19 #[.val (.ref a1), .val (.ref a2), .val (.ref b5), .val (.int (0 : Int32))] [(.int ((0 : Int32) + (1 : Int32))), (.ref a1)])) _
      exact kt)
  rw [show ((0 : Int32) + (1 : Int32)) = (1 : Int32) from by decide] at go9
  have fq10 := (PF2.other W8 (Or.inl ne_a1_b5))
  have fq11 := (PE.wr W8)
  obtain ⟨T12, h12, X12, e12, W12, st12⟩ := putF X8 hx hZ hown (host := "") (Or.inl (own_h hw 84 rfl)) Via.refl e8 fq10 fq11 (Or.inl (own_h hw 85 rfl)) (own_h hw 42 rfl) (ty := .int) (by decide) rfl rfl (g := (mkF m 19 #[.val (.ref a1), .val (.ref a2), .val (.ref b5), .val (.int (0 : Int32))] [(.int (1 : Int32)), (.ref a1)])) rfl rfl (hb hby d12_19)
  have Fw12 := fq10.same W12
  obtain ⟨Ls12, X12, N12⟩ := own_loc X12 (Fr.snoc X12 N8 ga)
  have go13 : ∀ t, Steps p.tables e below (T12.setTop (mkF m 22 #[.val (.ref a1), .val (.ref a2), .val (.ref b5), .val (.int (0 : Int32))] [])) t → Steps p.tables e below (s₁.setTop (entryFrame m #[(.ref a1), (.ref a2), (.ref dd), (.int (0 : Int32))] 4)) t := fun t kt => go9 t (by
      refine st12 _ ?_
      show Steps p.tables e below (T12.setTop (mkF m 22 #[.val (.ref a1), .val (.ref a2), .val (.ref b5), .val (.int (0 : Int32))] [])) _
      exact kt)
  obtain ⟨fs, hr, hrun, hended, hW, hsame⟩ := X12.leave (v := none) (fun _ => rfl)
  refine ⟨_, _, go13 _ (X12.returnOut hx Bd.returns (hb hby d12_22) hr), hrun, hended, _, _, rfl, ?_, ⟨_, rfl⟩, hW, hsame.mono (by decide) (by decide)⟩
  show own_QA _ _ _ _ _ _ _ _ T12.heap _
  rw [e12]
  have kp14 := ((Keep.refl h0 [a1]).trans K5 (allS (Or.inl (List.mem_of_getElem? (i := 0) rfl)) all0))
  have kp15 := (kp14.wr W8 (Or.inr sz5))
  have fq16 := (fq11.wr W12)
  have fq17 := ((PF1.other W8 (Or.inl ne_a1_b5)).other W12 (Or.inr (slot_ne (Or.inl (own_h hw 64 rfl)) (Or.inl (own_h hw 85 rfl)) (by decide) (t := (.array (.object "java/lang/Object"))) (t' := .int) (by decide) (by decide))))
  have fq18 := ((PF3.other W8 (Or.inl ne_a1_b5)).other W12 (Or.inr (slot_ne (Or.inl (own_h hw 61 rfl)) (Or.inl (own_h hw 85 rfl)) (by decide) (t := .int) (t' := .int) (by decide) (by decide))))
  have fq19 := (V8.other W12 (Ne.symm ne_a1_b5))
  exact ⟨b5, rfl, N12, (kp15.wr W12 (Or.inl (List.mem_of_getElem? (i := 0) rfl))), ⟨fq16, fq17, Fw12, fq18⟩, sz5, fq19⟩
abbrev own_m8 : MethodName := ⟨"java/util/ArrayList", "add", "(Ljava/lang/Object;[Ljava/lang/Object;I)V"⟩
theorem d11_0 : decode jdk_38_method_25_code 0 = .ok (.aload_n 0, 1) := by decide +kernel
theorem d11_1 : decode jdk_38_method_25_code 1 = .ok (.dup, 1) := by decide +kernel
theorem d11_2 : decode jdk_38_method_25_code 2 = .ok (.getfield 63, 3) := by decide +kernel
theorem d11_5 : decode jdk_38_method_25_code 5 = .ok (.iconst 1, 1) := by decide +kernel
theorem d11_6 : decode jdk_38_method_25_code 6 = .ok (.iadd, 1) := by decide +kernel
theorem d11_7 : decode jdk_38_method_25_code 7 = .ok (.putfield 63, 3) := by decide +kernel
theorem d11_10 : decode jdk_38_method_25_code 10 = .ok (.aload_n 0, 1) := by decide +kernel
theorem d11_11 : decode jdk_38_method_25_code 11 = .ok (.aload_n 1, 1) := by decide +kernel
theorem d11_12 : decode jdk_38_method_25_code 12 = .ok (.aload_n 0, 1) := by decide +kernel
theorem d11_13 : decode jdk_38_method_25_code 13 = .ok (.getfield 9, 3) := by decide +kernel
theorem d11_16 : decode jdk_38_method_25_code 16 = .ok (.aload_n 0, 1) := by decide +kernel
theorem d11_17 : decode jdk_38_method_25_code 17 = .ok (.getfield 48, 3) := by decide +kernel
theorem d11_20 : decode jdk_38_method_25_code 20 = .ok (.invokevirtual 131, 3) := by decide +kernel
theorem d11_23 : decode jdk_38_method_25_code 23 = .ok (.iconst 1, 1) := by decide +kernel
theorem d11_24 : decode jdk_38_method_25_code 24 = .ok (.ireturn, 1) := by decide +kernel
theorem pn_11 : plainName "java/util/ArrayList" = true := by first | (simp [plainName, overriddenIn]; done) | decide +kernel
theorem ef_rmA0 (m : MethodId) (a1 : Addr) (a2 : Addr) : entryFrame m #[(.ref a1), (.ref a2)] 2 = mkF m 0 #[.val (.ref a1), .val (.ref a2)] [] := by first | (simp [entryFrame, mkF, argsToLocals, Value.category]; done) | rfl
set_option maxRecDepth 65536 in
set_option maxHeartbeats 40000000 in
theorem rmA0 (l : Launch) (Z : State) (a0 : Array Value) (hw : ∀ d ∈ tables_1, d.before a0 Z = true) (ws : List Jvm.Cond) (a1 a2 dd : Addr) (mc : Int32) (h0 : Heap) (n0 : Nat) (ST : Sta Z h0 "java/util/ArrayList" "DEFAULTCAPACITY_EMPTY_ELEMENTDATA" "[Ljava/lang/Object;" (.ref dd)) (DV : own_AV Z h0 dd (.object "java/lang/Object") []) (nd : dd ≠ a1) (Z0 : n0 ≤ h0.size) (LO : own_LO Z h0 a1 (.ref dd) 0 mc) (ga : n0 ≤ a1) (EX : Exa Z h0 a2 "com/example/invariant_ink/invariantink/lang/Local") :
    MetFree l (⟨"java/util/ArrayList", "add", "(Ljava/lang/Object;)Z"⟩ : MethodName) (head1 (Jvm.Cond.code (⟨"java/util/ArrayList", "add", "(Ljava/lang/Object;)Z"⟩ : MethodName) jdk_38_method_25_code 2 (some .boolean) :: ws) ({ frames := 4, cells := 1, slots := 10, locals := 56 } : Room)) (fun a U => a = #[(.ref a1), (.ref a2)] ∧ Z.Warmed39 U.vm ∧ U.heap = h0) (fun _ _ _ _ _ => True) (fun _ U o U' => ∃ v L, o = .returned v ∧ own_QA (some (.int 1)) Z a1 a2 (mc + 1) h0 n0 v U'.heap L ∧ FrameEnd U o U' L ({ frames := 4, cells := 1, slots := 10, locals := 56 } : Room).cells ({ frames := 4, cells := 1, slots := 10, locals := 56 } : Room).slots) := by
  refine MetFree.of_bodySF (plainFor_of_name pn_11) hisR ?_
  intro p e s m args below meth c s₁ Bd hml0 hP hK
  obtain ⟨rfl, hZ, hh⟩ := hP
  have hx := Bd.exec
  have hby := Bd.bytes
  have hml : c.maxLocals = 2 := hml0
  have hown : s.vm.findClass "java/util/ArrayList" = some m.cls := findClass_of_methodNamed Bd.named
  have hnm := (name_of_methodNamed Bd.named Bd.method).1
  have X0 : Stand p l e ({ frames := 4, cells := 1, slots := 10, locals := 56 } : Room) s m #[(.ref a1), (.ref a2)] below meth c s₁ [] 0 0 := Stand.of_body Bd
  have e0 : s₁.heap = h0 := by rw [← hh, Bd.state]; rfl
  have N0 := Fr.nil n0
  have go0 : ∀ t, Steps p.tables e below (s₁.setTop (mkF m 0 #[.val (.ref a1), .val (.ref a2)] [])) t → Steps p.tables e below (s₁.setTop (entryFrame m #[(.ref a1), (.ref a2)] 2)) t := fun t k => castTop (ef_rmA0 m a1 a2) k
  obtain ⟨OE, OF1, OF2, OF3⟩ := id LO
  have nx : a2 ≠ a1 := Exa.ne EX OE (by decide)
  have go1 : ∀ t, Steps p.tables e below (s₁.setTop (mkF m 2 #[.val (.ref a1), .val (.ref a2)] [(.ref a1), (.ref a1)])) t → Steps p.tables e below (s₁.setTop (entryFrame m #[(.ref a1), (.ref a2)] 2)) t := fun t kt => go0 t (by
      refine XS.aloadN X0.here hx rfl (hb hby d11_0) rfl rfl ?_
      show Steps p.tables e below (s₁.setTop (mkF m 1 #[.val (.ref a1), .val (.ref a2)] [(.ref a1)])) _
      refine XS.dup X0.here hx rfl (hb hby d11_1) rfl rfl ?_
      show Steps p.tables e below (s₁.setTop (mkF m 2 #[.val (.ref a1), .val (.ref a2)] [(.ref a1), (.ref a1)])) _
      exact kt)
  obtain ⟨T2, X2, e2, st2⟩ := getF X0 hx hZ hown (host := "") (Or.inl (own_h hw 103 rfl)) (Via.of (own_h hw 104 rfl)) e0 OF3 (g := (mkF m 2 #[.val (.ref a1), .val (.ref a2)] [(.ref a1), (.ref a1)])) rfl rfl (hb hby d11_2)
  have go3 : ∀ t, Steps p.tables e below (T2.setTop (mkF m 7 #[.val (.ref a1), .val (.ref a2)] [(.int (mc + (1 : Int32))), (.ref a1)])) t → Steps p.tables e below (s₁.setTop (entryFrame m #[(.ref a1), (.ref a2)] 2)) t := fun t kt => go1 t (by
      refine st2 _ ?_
      show Steps p.tables e below (T2.setTop (mkF m 5 #[.val (.ref a1), .val (.ref a2)] [(.int mc), (.ref a1)])) _
      refine XS.iconst X2.here hx rfl (hb hby d11_5) ?_
      show Steps p.tables e below (T2.setTop (mkF m 6 #[.val (.ref a1), .val (.ref a2)] [(.int (1 : Int32)), (.int mc), (.ref a1)])) _
      refine XS.iadd X2.here hx rfl (hb hby d11_6) rfl ?_
      show Steps p.tables e below (T2.setTop (mkF m 7 #[.val (.ref a1), .val (.ref a2)] [(.int (mc + (1 : Int32))), (.ref a1)])) _
      exact kt)
  obtain ⟨T4, h4, X4, e4, W4, st4⟩ := putF X2 hx hZ hown (host := "") (Or.inl (own_h hw 103 rfl)) (Via.of (own_h hw 104 rfl)) e2 OF3 OE (Or.inl (own_h hw 61 rfl)) (own_h hw 42 rfl) (ty := .int) (by decide) rfl rfl (g := (mkF m 7 #[.val (.ref a1), .val (.ref a2)] [(.int (mc + (1 : Int32))), (.ref a1)])) rfl rfl (hb hby d11_7)
  have Fw4 := OF3.same W4
  obtain ⟨Ls4, X4, N4⟩ := own_loc X4 (Fr.snoc X4 N0 ga)
  have go5 : ∀ t, Steps p.tables e below (T4.setTop (mkF m 13 #[.val (.ref a1), .val (.ref a2)] [(.ref a1), (.ref a2), (.ref a1)])) t → Steps p.tables e below (s₁.setTop (entryFrame m #[(.ref a1), (.ref a2)] 2)) t := fun t kt => go3 t (by
      refine st4 _ ?_
      show Steps p.tables e below (T4.setTop (mkF m 10 #[.val (.ref a1), .val (.ref a2)] [])) _
      refine XS.aloadN X4.here hx rfl (hb hby d11_10) rfl rfl ?_
      show Steps p.tables e below (T4.setTop (mkF m 11 #[.val (.ref a1), .val (.ref a2)] [(.ref a1)])) _
      refine XS.aloadN X4.here hx rfl (hb hby d11_11) rfl rfl ?_
      show Steps p.tables e below (T4.setTop (mkF m 12 #[.val (.ref a1), .val (.ref a2)] [(.ref a2), (.ref a1)])) _
      refine XS.aloadN X4.here hx rfl (hb hby d11_12) rfl rfl ?_
      show Steps p.tables e below (T4.setTop (mkF m 13 #[.val (.ref a1), .val (.ref a2)] [(.ref a1), (.ref a2), (.ref a1)])) _
      exact kt)
  have fq6 := (OF1.other W4 (Or.inr (slot_ne (Or.inl (own_h hw 64 rfl)) (Or.inl (own_h hw 61 rfl)) (by decide) (t := (.array (.object "java/lang/Object"))) (t' := .int) (by decide) (by decide))))
  obtain ⟨T7, X7, e7, st7⟩ := getF X4 hx hZ hown (host := "") (Or.inl (own_h hw 63 rfl)) Via.refl e4 fq6 (g := (mkF m 13 #[.val (.ref a1), .val (.ref a2)] [(.ref a1), (.ref a2), (.ref a1)])) rfl rfl (hb hby d11_13)
  have go8 : ∀ t, Steps p.tables e below (T7.setTop (mkF m 17 #[.val (.ref a1), .val (.ref a2)] [(.ref a1), (.ref dd), (.ref a2), (.ref a1)])) t → Steps p.tables e below (s₁.setTop (entryFrame m #[(.ref a1), (.ref a2)] 2)) t := fun t kt => go5 t (by
      refine st7 _ ?_
      show Steps p.tables e below (T7.setTop (mkF m 16 #[.val (.ref a1), .val (.ref a2)] [(.ref dd), (.ref a2), (.ref a1)])) _
      refine XS.aloadN X7.here hx rfl (hb hby d11_16) rfl rfl ?_
      show Steps p.tables e below (T7.setTop (mkF m 17 #[.val (.ref a1), .val (.ref a2)] [(.ref a1), (.ref dd), (.ref a2), (.ref a1)])) _
      exact kt)
  have fq9 := (OF2.other W4 (Or.inr (slot_ne (Or.inl (own_h hw 85 rfl)) (Or.inl (own_h hw 61 rfl)) (by decide) (t := .int) (t' := .int) (by decide) (by decide))))
  obtain ⟨T10, X10, e10, st10⟩ := getF X7 hx hZ hown (host := "") (Or.inl (own_h hw 84 rfl)) Via.refl e7 fq9 (g := (mkF m 17 #[.val (.ref a1), .val (.ref a2)] [(.ref a1), (.ref dd), (.ref a2), (.ref a1)])) rfl rfl (hb hby d11_17)
  have go11 : ∀ t, Steps p.tables e below (T10.setTop (mkF m 20 #[.val (.ref a1), .val (.ref a2)] [(.int (0 : Int32)), (.ref dd), (.ref a2), (.ref a1)])) t → Steps p.tables e below (s₁.setTop (entryFrame m #[(.ref a1), (.ref a2)] 2)) t := fun t kt => go8 t (by
      refine st10 _ ?_
      show Steps p.tables e below (T10.setTop (mkF m 20 #[.val (.ref a1), .val (.ref a2)] [(.int (0 : Int32)), (.ref dd), (.ref a2), (.ref a1)])) _
      exact kt)
  have fq13 := (OE.wr W4)
  have LOq : own_LO Z h4 a1 (.ref dd) 0 (mc + (1 : Int32)) := ⟨fq13, fq6, fq9, Fw4⟩
  have fq14 := (ST.wr W4)
  have fq15 := (DV.other W4 nd)
  have zs16 := (Nat.le_trans Z0 (Keep.of_wr W4).1)
  have fq17 := (EX.wr W4)
  obtain ⟨cq12, q12, q12'⟩ := fq13.cell
  obtain ⟨_, _, ⟨T12, L12, k12, n12⟩, -, X12, ⟨Lc12, hQ12, l12, y12, z12⟩, st12⟩ := X10.privateBack hx (y := own_m8) hown (mvT hZ (own_h hw 105 rfl)) (mvT hZ (own_h hw 106 rfl)) (mvT hZ (own_h hw 108 rfl)) (Cond.privateMethod_at (mvP hZ (own_h hw 107 rfl) (args := #[]))) (mvT hZ (own_h hw 109 rfl)) (by decide) (backOf (W := 0) (rmH0 l Z a0 hw [] a1 a2 dd (mc + (1 : Int32)) h4 n0 fq14 fq15 nd zs16 LOq ga fq17) hZ (own_h hw 109 rfl) (own_h hw 43 rfl) (by decide) (by decide)) (g := (mkF m 20 #[.val (.ref a1), .val (.ref a2)] [(.int (0 : Int32)), (.ref dd), (.ref a2), (.ref a1)])) rfl (by rw [hml]; rfl) (Steps.refl _) (a := a1) (by rw [e10]; exact q12) q12' (argsL := [(.ref a2), (.ref dd), (.int (0 : Int32))]) (rest := []) (lenOf pd_8 rfl) rfl (by show 2 * 0 + _ ≤ _; exact Nat.le_of_eq rfl) (hb hby d11_20) (fun _ _ => ⟨rfl, e10, (by decide : 0 + 1 ≤ _), (by decide : 0 + 10 ≤ _)⟩)
  dsimp only [Pt.U, Pt.locs, Pt.cells, Pt.slots] at X12 l12 y12 z12 st12 hQ12
  subst y12 z12
  have ks18 := Nat.le_trans (Nat.le_refl _) (Keep.of_wr W4).1
  obtain ⟨b12, rfl, N12q, K12, LO12, sz12, V12⟩ := hQ12
  have N12 := Fr.app N4 N12q
  rw [← l12] at N12
  have go19 : ∀ t, Steps p.tables e below (T12.setTop (mkF m 24 #[.val (.ref a1), .val (.ref a2)] [(.int (1 : Int32))])) t → Steps p.tables e below (s₁.setTop (entryFrame m #[(.ref a1), (.ref a2)] 2)) t := fun t kt => go11 t (by
      refine st12.trans ?_
      show Steps p.tables e below (T12.setTop (mkF m 23 #[.val (.ref a1), .val (.ref a2)] [])) _
      refine XS.iconst X12.here hx rfl (hb hby d11_23) ?_
      show Steps p.tables e below (T12.setTop (mkF m 24 #[.val (.ref a1), .val (.ref a2)] [(.int (1 : Int32))])) _
      exact kt)
  obtain ⟨fs, hr, hrun, hended, hW, hsame⟩ := X12.leave (v := some (.int (1 : Int32))) (fun h => by rw [Bd.returns] at h; cases h)
  refine ⟨_, _, go19 _ (retN X12 hx (t := .boolean) Bd.returns (by simp) (hb hby d11_24) hr), hrun, hended, _, _, rfl, ?_, ⟨_, rfl⟩, hW, hsame.mono (by decide) (by decide)⟩
  have kp20 := ((Keep.refl h0 [a1]).wr W4 (Or.inl (List.mem_of_getElem? (i := 0) rfl)))
  exact ⟨b12, rfl, N12, (kp20.trans K12 (allS (Or.inl (List.mem_of_getElem? (i := 0) rfl)) all0)), LO12, Nat.le_trans ks18 sz12, V12⟩
theorem ef_rmH1 (m : MethodId) (a1 : Addr) (a2 : Addr) (ea : Addr) : entryFrame m #[(.ref a1), (.ref a2), (.ref ea), (.int (1 : Int32))] 4 = mkF m 0 #[.val (.ref a1), .val (.ref a2), .val (.ref ea), .val (.int (1 : Int32))] [] := by first | (simp [entryFrame, mkF, argsToLocals, Value.category]; done) | rfl
set_option maxRecDepth 65536 in
set_option maxHeartbeats 40000000 in
theorem rmH1 (l : Launch) (Z : State) (a0 : Array Value) (hw : ∀ d ∈ tables_1, d.before a0 Z = true) (ws : List Jvm.Cond) (a1 a2 ea : Addr) (mc : Int32) (y0 : Addr) (h0 : Heap) (n0 : Nat) (Z0 : n0 ≤ h0.size) (LO : own_LO Z h0 a1 (.ref ea) 1 mc) (EV0 : own_AVO Z h0 ea [(.ref y0), .null, .null, .null, .null, .null, .null, .null, .null, .null]) (ga : n0 ≤ a1) (ge : n0 ≤ ea) (EX : Exa Z h0 a2 "com/example/invariant_ink/invariantink/lang/Local") :
    MetFree l (⟨"java/util/ArrayList", "add", "(Ljava/lang/Object;[Ljava/lang/Object;I)V"⟩ : MethodName) (head1 (Jvm.Cond.code (⟨"java/util/ArrayList", "add", "(Ljava/lang/Object;[Ljava/lang/Object;I)V"⟩ : MethodName) jdk_38_method_24_code 4 none :: ws) ({ frames := 0, cells := 0, slots := 0, locals := 0 } : Room)) (fun a U => a = #[(.ref a1), (.ref a2), (.ref ea), (.int (1 : Int32))] ∧ Z.Warmed39 U.vm ∧ U.heap = h0) (fun _ _ _ _ _ => True) (fun _ U o U' => ∃ v L, o = .returned v ∧ own_QK none Z a1 ea 2 mc [(.ref y0), (.ref a2), .null, .null, .null, .null, .null, .null, .null, .null] h0 n0 v U'.heap L ∧ FrameEnd U o U' L ({ frames := 0, cells := 0, slots := 0, locals := 0 } : Room).cells ({ frames := 0, cells := 0, slots := 0, locals := 0 } : Room).slots) := by
  refine MetFree.of_bodySF (plainFor_of_name pn_12) hisR ?_
  intro p e s m args below meth c s₁ Bd hml0 hP hK
  obtain ⟨rfl, hZ, hh⟩ := hP
  have hx := Bd.exec
  have hby := Bd.bytes
  have hml : c.maxLocals = 4 := hml0
  have hown : s.vm.findClass "java/util/ArrayList" = some m.cls := findClass_of_methodNamed Bd.named
  have hnm := (name_of_methodNamed Bd.named Bd.method).1
  have X0 : Stand p l e ({ frames := 0, cells := 0, slots := 0, locals := 0 } : Room) s m #[(.ref a1), (.ref a2), (.ref ea), (.int (1 : Int32))] below meth c s₁ [] 0 0 := Stand.of_body Bd
  have e0 : s₁.heap = h0 := by rw [← hh, Bd.state]; rfl
  have N0 := Fr.nil n0
  have go0 : ∀ t, Steps p.tables e below (s₁.setTop (mkF m 0 #[.val (.ref a1), .val (.ref a2), .val (.ref ea), .val (.int (1 : Int32))] [])) t → Steps p.tables e below (s₁.setTop (entryFrame m #[(.ref a1), (.ref a2), (.ref ea), (.int (1 : Int32))] 4)) t := fun t k => castTop (ef_rmH1 m a1 a2 ea) k
  obtain ⟨OE, OF1, OF2, OF3⟩ := id LO
  have nx : a2 ≠ a1 := Exa.ne EX OE (by decide)
  have n1 : a1 ≠ ea := by obtain ⟨_, A, _⟩ := EV0; exact ne_arr OE (own_h hw 42 rfl) A
  have n2 : a2 ≠ ea := by obtain ⟨_, A, _⟩ := EV0; exact ne_arr EX (own_h hw 15 rfl) A
  have go1 : ∀ t, Steps p.tables e below (s₁.setTop (mkF m 2 #[.val (.ref a1), .val (.ref a2), .val (.ref ea), .val (.int (1 : Int32))] [(.ref ea), (.int (1 : Int32))])) t → Steps p.tables e below (s₁.setTop (entryFrame m #[(.ref a1), (.ref a2), (.ref ea), (.int (1 : Int32))] 4)) t := fun t kt => go0 t (by
      refine XS.iloadN X0.here hx rfl (hb hby d12_0) rfl ?_
      show Steps p.tables e below (s₁.setTop (mkF m 1 #[.val (.ref a1), .val (.ref a2), .val (.ref ea), .val (.int (1 : Int32))] [(.int (1 : Int32))])) _
      refine XS.aloadN X0.here hx rfl (hb hby d12_1) rfl rfl ?_
      show Steps p.tables e below (s₁.setTop (mkF m 2 #[.val (.ref a1), .val (.ref a2), .val (.ref ea), .val (.int (1 : Int32))] [(.ref ea), (.int (1 : Int32))])) _
      exact kt)
  obtain ⟨c2, Ar2, q2, -⟩ := id EV0
  have hc3_3 : ¬ ((1 : Int32) = (10 : Int32)) := (by decide)
  have go4 : ∀ t, Steps p.tables e below (s₁.setTop (mkF m 14 #[.val (.ref a1), .val (.ref a2), .val (.ref ea), .val (.int (1 : Int32))] [(.ref a2), (.int (1 : Int32)), (.ref ea)])) t → Steps p.tables e below (s₁.setTop (entryFrame m #[(.ref a1), (.ref a2), (.ref ea), (.int (1 : Int32))] 4)) t := fun t kt => go1 t (by
      refine X0.arraylength hx (by rw [e0]; exact Ar2.1) (State.isArrayOf_alike hZ.alike Ar2.2.1) (g := (mkF m 2 #[.val (.ref a1), .val (.ref a2), .val (.ref ea), .val (.int (1 : Int32))] [(.ref ea), (.int (1 : Int32))])) rfl rfl (hb hby d12_2) _ ?_
      rw [own_len q2 (n := (10 : Int32)) rfl]
      show Steps p.tables e below (s₁.setTop (mkF m 3 #[.val (.ref a1), .val (.ref a2), .val (.ref ea), .val (.int (1 : Int32))] [(.int (10 : Int32)), (.int (1 : Int32))])) _
      refine XS.icmpYes X0.here hx rfl (pc0 := 3) (pc' := 11) rfl (hb hby d12_3) rfl (feq hc3_3).2 (by decide) (by decide) ?_
      show Steps p.tables e below (s₁.setTop (mkF m 11 #[.val (.ref a1), .val (.ref a2), .val (.ref ea), .val (.int (1 : Int32))] [])) _
      refine XS.aloadN X0.here hx rfl (hb hby d12_11) rfl rfl ?_
      show Steps p.tables e below (s₁.setTop (mkF m 12 #[.val (.ref a1), .val (.ref a2), .val (.ref ea), .val (.int (1 : Int32))] [(.ref ea)])) _
      refine XS.iloadN X0.here hx rfl (hb hby d12_12) rfl ?_
      show Steps p.tables e below (s₁.setTop (mkF m 13 #[.val (.ref a1), .val (.ref a2), .val (.ref ea), .val (.int (1 : Int32))] [(.int (1 : Int32)), (.ref ea)])) _
      refine XS.aloadN X0.here hx rfl (hb hby d12_13) rfl rfl ?_
      show Steps p.tables e below (s₁.setTop (mkF m 14 #[.val (.ref a1), .val (.ref a2), .val (.ref ea), .val (.int (1 : Int32))] [(.ref a2), (.int (1 : Int32)), (.ref ea)])) _
      exact kt)
  obtain ⟨c5, Ar5, q5, O5⟩ := id EV0
  obtain ⟨T5, h5, X5, e5, W5, st5⟩ := stR X0 hx hZ e0 Ar5 (j := (1 : Int32)) (own_inb q5 (n := 10) rfl (by decide) (by decide)) rfl (Sto.of Ar5 O5 (Ins.of_exa EX (own_h hw 126 rfl))) (g := (mkF m 14 #[.val (.ref a1), .val (.ref a2), .val (.ref ea), .val (.int (1 : Int32))] [(.ref a2), (.int (1 : Int32)), (.ref ea)])) rfl rfl (hb hby d12_14)
  have V5 : own_AVO Z h5 ea [(.ref y0), (.ref a2), .null, .null, .null, .null, .null, .null, .null, .null] := own_AVO.set Ar5 q5 O5 W5 (i := 1) (by decide) rfl
  obtain ⟨Ls5, X5, N5⟩ := own_loc X5 (Fr.snoc X5 N0 ge)
  have go6 : ∀ t, Steps p.tables e below (T5.setTop (mkF m 19 #[.val (.ref a1), .val (.ref a2), .val (.ref ea), .val (.int (1 : Int32))] [(.int ((1 : Int32) + (1 : Int32))), (.ref a1)])) t → Steps p.tables e below (s₁.setTop (entryFrame m #[(.ref a1), (.ref a2), (.ref ea), (.int (1 : Int32))] 4)) t := fun t kt => go4 t (by
      refine st5 _ ?_
      show Steps p.tables e below (T5.setTop (mkF m 15 #[.val (.ref a1), .val (.ref a2), .val (.ref ea), .val (.int (1 : Int32))] [])) _
      refine XS.aloadN X5.here hx rfl (hb hby d12_15) rfl rfl ?_
      show Steps p.tables e below (T5.setTop (mkF m 16 #[.val (.ref a1), .val (.ref a2), .val (.ref ea), .val (.int (1 : Int32))] [(.ref a1)])) _
      refine XS.iloadN X5.here hx rfl (hb hby d12_16) rfl ?_
      show Steps p.tables e below (T5.setTop (mkF m 17 #[.val (.ref a1), .val (.ref a2), .val (.ref ea), .val (.int (1 : Int32))] [(.int (1 : Int32)), (.ref a1)])) _
      refine XS.iconst X5.here hx rfl (hb hby d12_17) ?_
      show Steps p.tables e below (T5.setTop (mkF m 18 #[.val (.ref a1), .val (.ref a2), .val (.ref ea), .val (.int (1 : Int32))] [(.int (1 : Int32)), (.int (1 : Int32)), (.ref a1)])) _
      refine XS.iadd X5.here hx rfl (hb hby d12_18) rfl ?_
      show Steps p.tables e below (T5.setTop (mkF m 19 #[.val (.ref a1), .val (.ref a2), .val (.ref ea), .val (.int (1 : Int32))] [(.int ((1 : Int32) + (1 : Int32))), (.ref a1)])) _
      exact kt)
  rw [show ((1 : Int32) + (1 : Int32)) = (2 : Int32) from by decide] at go6
  have fq7 := (OF2.other W5 (Or.inl n1))
  have fq8 := (OE.wr W5)
  obtain ⟨T9, h9, X9, e9, W9, st9⟩ := putF X5 hx hZ hown (host := "") (Or.inl (own_h hw 84 rfl)) Via.refl e5 fq7 fq8 (Or.inl (own_h hw 85 rfl)) (own_h hw 42 rfl) (ty := .int) (by decide) rfl rfl (g := (mkF m 19 #[.val (.ref a1), .val (.ref a2), .val (.ref ea), .val (.int (1 : Int32))] [(.int (2 : Int32)), (.ref a1)])) rfl rfl (hb hby d12_19)
  have Fw9 := fq7.same W9
  obtain ⟨Ls9, X9, N9⟩ := own_loc X9 (Fr.snoc X9 N5 ga)
  have go10 : ∀ t, Steps p.tables e below (T9.setTop (mkF m 22 #[.val (.ref a1), .val (.ref a2), .val (.ref ea), .val (.int (1 : Int32))] [])) t → Steps p.tables e below (s₁.setTop (entryFrame m #[(.ref a1), (.ref a2), (.ref ea), (.int (1 : Int32))] 4)) t := fun t kt => go6 t (by
      refine st9 _ ?_
      show Steps p.tables e below (T9.setTop (mkF m 22 #[.val (.ref a1), .val (.ref a2), .val (.ref ea), .val (.int (1 : Int32))] [])) _
      exact kt)
  obtain ⟨fs, hr, hrun, hended, hW, hsame⟩ := X9.leave (v := none) (fun _ => rfl)
  refine ⟨_, _, go10 _ (X9.returnOut hx Bd.returns (hb hby d12_22) hr), hrun, hended, _, _, rfl, ?_, ⟨_, rfl⟩, hW, hsame.mono (by decide) (by decide)⟩
  show own_QK _ _ _ _ _ _ _ _ _ _ T9.heap _
  rw [e9]
  have kp11 := ((Keep.refl h0 [a1, ea]).wr W5 (Or.inl (List.mem_of_getElem? (i := 1) rfl)))
  have fq12 := (fq8.wr W9)
  have fq13 := ((OF1.other W5 (Or.inl n1)).other W9 (Or.inr (slot_ne (Or.inl (own_h hw 64 rfl)) (Or.inl (own_h hw 85 rfl)) (by decide) (t := (.array (.object "java/lang/Object"))) (t' := .int) (by decide) (by decide))))
  have fq14 := ((OF3.other W5 (Or.inl n1)).other W9 (Or.inr (slot_ne (Or.inl (own_h hw 61 rfl)) (Or.inl (own_h hw 85 rfl)) (by decide) (t := .int) (t' := .int) (by decide) (by decide))))
  have fq15 := (V5.other W9 (Ne.symm n1))
  exact ⟨rfl, N9, (kp11.wr W9 (Or.inl (List.mem_of_getElem? (i := 0) rfl))), ⟨fq12, fq13, Fw9, fq14⟩, fq15⟩
theorem ef_rmA1 (m : MethodId) (a1 : Addr) (a2 : Addr) : entryFrame m #[(.ref a1), (.ref a2)] 2 = mkF m 0 #[.val (.ref a1), .val (.ref a2)] [] := by first | (simp [entryFrame, mkF, argsToLocals, Value.category]; done) | rfl
set_option maxRecDepth 65536 in
set_option maxHeartbeats 40000000 in
theorem rmA1 (l : Launch) (Z : State) (a0 : Array Value) (hw : ∀ d ∈ tables_1, d.before a0 Z = true) (ws : List Jvm.Cond) (a1 a2 ea : Addr) (mc : Int32) (y0 : Addr) (h0 : Heap) (n0 : Nat) (Z0 : n0 ≤ h0.size) (LO : own_LO Z h0 a1 (.ref ea) 1 mc) (EV0 : own_AVO Z h0 ea [(.ref y0), .null, .null, .null, .null, .null, .null, .null, .null, .null]) (ga : n0 ≤ a1) (ge : n0 ≤ ea) (EX : Exa Z h0 a2 "com/example/invariant_ink/invariantink/lang/Local") :
    MetFree l (⟨"java/util/ArrayList", "add", "(Ljava/lang/Object;)Z"⟩ : MethodName) (head1 (Jvm.Cond.code (⟨"java/util/ArrayList", "add", "(Ljava/lang/Object;)Z"⟩ : MethodName) jdk_38_method_25_code 2 (some .boolean) :: ws) ({ frames := 1, cells := 0, slots := 0, locals := 15 } : Room)) (fun a U => a = #[(.ref a1), (.ref a2)] ∧ Z.Warmed39 U.vm ∧ U.heap = h0) (fun _ _ _ _ _ => True) (fun _ U o U' => ∃ v L, o = .returned v ∧ own_QK (some (.int 1)) Z a1 ea 2 (mc + 1) [(.ref y0), (.ref a2), .null, .null, .null, .null, .null, .null, .null, .null] h0 n0 v U'.heap L ∧ FrameEnd U o U' L ({ frames := 1, cells := 0, slots := 0, locals := 15 } : Room).cells ({ frames := 1, cells := 0, slots := 0, locals := 15 } : Room).slots) := by
  refine MetFree.of_bodySF (plainFor_of_name pn_11) hisR ?_
  intro p e s m args below meth c s₁ Bd hml0 hP hK
  obtain ⟨rfl, hZ, hh⟩ := hP
  have hx := Bd.exec
  have hby := Bd.bytes
  have hml : c.maxLocals = 2 := hml0
  have hown : s.vm.findClass "java/util/ArrayList" = some m.cls := findClass_of_methodNamed Bd.named
  have hnm := (name_of_methodNamed Bd.named Bd.method).1
  have X0 : Stand p l e ({ frames := 1, cells := 0, slots := 0, locals := 15 } : Room) s m #[(.ref a1), (.ref a2)] below meth c s₁ [] 0 0 := Stand.of_body Bd
  have e0 : s₁.heap = h0 := by rw [← hh, Bd.state]; rfl
  have N0 := Fr.nil n0
  have go0 : ∀ t, Steps p.tables e below (s₁.setTop (mkF m 0 #[.val (.ref a1), .val (.ref a2)] [])) t → Steps p.tables e below (s₁.setTop (entryFrame m #[(.ref a1), (.ref a2)] 2)) t := fun t k => castTop (ef_rmA1 m a1 a2) k
  obtain ⟨OE, OF1, OF2, OF3⟩ := id LO
  have nx : a2 ≠ a1 := Exa.ne EX OE (by decide)
  have n1 : a1 ≠ ea := by obtain ⟨_, A, _⟩ := EV0; exact ne_arr OE (own_h hw 42 rfl) A
  have n2 : a2 ≠ ea := by obtain ⟨_, A, _⟩ := EV0; exact ne_arr EX (own_h hw 15 rfl) A
  have go1 : ∀ t, Steps p.tables e below (s₁.setTop (mkF m 2 #[.val (.ref a1), .val (.ref a2)] [(.ref a1), (.ref a1)])) t → Steps p.tables e below (s₁.setTop (entryFrame m #[(.ref a1), (.ref a2)] 2)) t := fun t kt => go0 t (by
      refine XS.aloadN X0.here hx rfl (hb hby d11_0) rfl rfl ?_
      show Steps p.tables e below (s₁.setTop (mkF m 1 #[.val (.ref a1), .val (.ref a2)] [(.ref a1)])) _
      refine XS.dup X0.here hx rfl (hb hby d11_1) rfl rfl ?_
      show Steps p.tables e below (s₁.setTop (mkF m 2 #[.val (.ref a1), .val (.ref a2)] [(.ref a1), (.ref a1)])) _
      exact kt)
  obtain ⟨T2, X2, e2, st2⟩ := getF X0 hx hZ hown (host := "") (Or.inl (own_h hw 103 rfl)) (Via.of (own_h hw 104 rfl)) e0 OF3 (g := (mkF m 2 #[.val (.ref a1), .val (.ref a2)] [(.ref a1), (.ref a1)])) rfl rfl (hb hby d11_2)
  have go3 : ∀ t, Steps p.tables e below (T2.setTop (mkF m 7 #[.val (.ref a1), .val (.ref a2)] [(.int (mc + (1 : Int32))), (.ref a1)])) t → Steps p.tables e below (s₁.setTop (entryFrame m #[(.ref a1), (.ref a2)] 2)) t := fun t kt => go1 t (by
      refine st2 _ ?_
      show Steps p.tables e below (T2.setTop (mkF m 5 #[.val (.ref a1), .val (.ref a2)] [(.int mc), (.ref a1)])) _
      refine XS.iconst X2.here hx rfl (hb hby d11_5) ?_
      show Steps p.tables e below (T2.setTop (mkF m 6 #[.val (.ref a1), .val (.ref a2)] [(.int (1 : Int32)), (.int mc), (.ref a1)])) _
      refine XS.iadd X2.here hx rfl (hb hby d11_6) rfl ?_
      show Steps p.tables e below (T2.setTop (mkF m 7 #[.val (.ref a1), .val (.ref a2)] [(.int (mc + (1 : Int32))), (.ref a1)])) _
      exact kt)
  obtain ⟨T4, h4, X4, e4, W4, st4⟩ := putF X2 hx hZ hown (host := "") (Or.inl (own_h hw 103 rfl)) (Via.of (own_h hw 104 rfl)) e2 OF3 OE (Or.inl (own_h hw 61 rfl)) (own_h hw 42 rfl) (ty := .int) (by decide) rfl rfl (g := (mkF m 7 #[.val (.ref a1), .val (.ref a2)] [(.int (mc + (1 : Int32))), (.ref a1)])) rfl rfl (hb hby d11_7)
  have Fw4 := OF3.same W4
  obtain ⟨Ls4, X4, N4⟩ := own_loc X4 (Fr.snoc X4 N0 ga)
  have go5 : ∀ t, Steps p.tables e below (T4.setTop (mkF m 13 #[.val (.ref a1), .val (.ref a2)] [(.ref a1), (.ref a2), (.ref a1)])) t → Steps p.tables e below (s₁.setTop (entryFrame m #[(.ref a1), (.ref a2)] 2)) t := fun t kt => go3 t (by
      refine st4 _ ?_
      show Steps p.tables e below (T4.setTop (mkF m 10 #[.val (.ref a1), .val (.ref a2)] [])) _
      refine XS.aloadN X4.here hx rfl (hb hby d11_10) rfl rfl ?_
      show Steps p.tables e below (T4.setTop (mkF m 11 #[.val (.ref a1), .val (.ref a2)] [(.ref a1)])) _
      refine XS.aloadN X4.here hx rfl (hb hby d11_11) rfl rfl ?_
      show Steps p.tables e below (T4.setTop (mkF m 12 #[.val (.ref a1), .val (.ref a2)] [(.ref a2), (.ref a1)])) _
      refine XS.aloadN X4.here hx rfl (hb hby d11_12) rfl rfl ?_
      show Steps p.tables e below (T4.setTop (mkF m 13 #[.val (.ref a1), .val (.ref a2)] [(.ref a1), (.ref a2), (.ref a1)])) _
      exact kt)
  have fq6 := (OF1.other W4 (Or.inr (slot_ne (Or.inl (own_h hw 64 rfl)) (Or.inl (own_h hw 61 rfl)) (by decide) (t := (.array (.object "java/lang/Object"))) (t' := .int) (by decide) (by decide))))
  obtain ⟨T7, X7, e7, st7⟩ := getF X4 hx hZ hown (host := "") (Or.inl (own_h hw 63 rfl)) Via.refl e4 fq6 (g := (mkF m 13 #[.val (.ref a1), .val (.ref a2)] [(.ref a1), (.ref a2), (.ref a1)])) rfl rfl (hb hby d11_13)
  have go8 : ∀ t, Steps p.tables e below (T7.setTop (mkF m 17 #[.val (.ref a1), .val (.ref a2)] [(.ref a1), (.ref ea), (.ref a2), (.ref a1)])) t → Steps p.tables e below (s₁.setTop (entryFrame m #[(.ref a1), (.ref a2)] 2)) t := fun t kt => go5 t (by
      refine st7 _ ?_
      show Steps p.tables e below (T7.setTop (mkF m 16 #[.val (.ref a1), .val (.ref a2)] [(.ref ea), (.ref a2), (.ref a1)])) _
      refine XS.aloadN X7.here hx rfl (hb hby d11_16) rfl rfl ?_
      show Steps p.tables e below (T7.setTop (mkF m 17 #[.val (.ref a1), .val (.ref a2)] [(.ref a1), (.ref ea), (.ref a2), (.ref a1)])) _
      exact kt)
  have fq9 := (OF2.other W4 (Or.inr (slot_ne (Or.inl (own_h hw 85 rfl)) (Or.inl (own_h hw 61 rfl)) (by decide) (t := .int) (t' := .int) (by decide) (by decide))))
  obtain ⟨T10, X10, e10, st10⟩ := getF X7 hx hZ hown (host := "") (Or.inl (own_h hw 84 rfl)) Via.refl e7 fq9 (g := (mkF m 17 #[.val (.ref a1), .val (.ref a2)] [(.ref a1), (.ref ea), (.ref a2), (.ref a1)])) rfl rfl (hb hby d11_17)
  have go11 : ∀ t, Steps p.tables e below (T10.setTop (mkF m 20 #[.val (.ref a1), .val (.ref a2)] [(.int (1 : Int32)), (.ref ea), (.ref a2), (.ref a1)])) t → Steps p.tables e below (s₁.setTop (entryFrame m #[(.ref a1), (.ref a2)] 2)) t := fun t kt => go8 t (by
      refine st10 _ ?_
      show Steps p.tables e below (T10.setTop (mkF m 20 #[.val (.ref a1), .val (.ref a2)] [(.int (1 : Int32)), (.ref ea), (.ref a2), (.ref a1)])) _
      exact kt)
  have fq13 := (OE.wr W4)
  have LOq : own_LO Z h4 a1 (.ref ea) 1 (mc + (1 : Int32)) := ⟨fq13, fq6, fq9, Fw4⟩
  have zs14 := (Nat.le_trans Z0 (Keep.of_wr W4).1)
  have fq15 := (EV0.other W4 (Ne.symm n1))
  have fq16 := (EX.wr W4)
  obtain ⟨cq12, q12, q12'⟩ := fq13.cell
  obtain ⟨_, _, ⟨T12, L12, k12, n12⟩, -, X12, ⟨Lc12, hQ12, l12, y12, z12⟩, st12⟩ := X10.privateBack hx (y := own_m8) hown (mvT hZ (own_h hw 105 rfl)) (mvT hZ (own_h hw 106 rfl)) (mvT hZ (own_h hw 108 rfl)) (Cond.privateMethod_at (mvP hZ (own_h hw 107 rfl) (args := #[]))) (mvT hZ (own_h hw 109 rfl)) (by decide) (backOf (W := 0) (rmH1 l Z a0 hw [] a1 a2 ea (mc + (1 : Int32)) y0 h4 n0 zs14 LOq fq15 ga ge fq16) hZ (own_h hw 109 rfl) (own_h hw 43 rfl) (by decide) (by decide)) (g := (mkF m 20 #[.val (.ref a1), .val (.ref a2)] [(.int (1 : Int32)), (.ref ea), (.ref a2), (.ref a1)])) rfl (by rw [hml]; rfl) (Steps.refl _) (a := a1) (by rw [e10]; exact q12) q12' (argsL := [(.ref a2), (.ref ea), (.int (1 : Int32))]) (rest := []) (lenOf pd_8 rfl) rfl (by show 2 * 0 + _ ≤ _; exact Nat.le_of_eq rfl) (hb hby d11_20) (fun _ _ => ⟨rfl, e10, (by decide : 0 + 0 ≤ _), (by decide : 0 + 0 ≤ _)⟩)
  dsimp only [Pt.U, Pt.locs, Pt.cells, Pt.slots] at X12 l12 y12 z12 st12 hQ12
  subst y12 z12
  obtain ⟨rfl, N12q, K12, LO12, V12⟩ := hQ12
  have N12 := Fr.app N4 N12q
  rw [← l12] at N12
  have go17 : ∀ t, Steps p.tables e below (T12.setTop (mkF m 24 #[.val (.ref a1), .val (.ref a2)] [(.int (1 : Int32))])) t → Steps p.tables e below (s₁.setTop (entryFrame m #[(.ref a1), (.ref a2)] 2)) t := fun t kt => go11 t (by
      refine st12.trans ?_
      show Steps p.tables e below (T12.setTop (mkF m 23 #[.val (.ref a1), .val (.ref a2)] [])) _
      refine XS.iconst X12.here hx rfl (hb hby d11_23) ?_
      show Steps p.tables e below (T12.setTop (mkF m 24 #[.val (.ref a1), .val (.ref a2)] [(.int (1 : Int32))])) _
      exact kt)
  obtain ⟨fs, hr, hrun, hended, hW, hsame⟩ := X12.leave (v := some (.int (1 : Int32))) (fun h => by rw [Bd.returns] at h; cases h)
  refine ⟨_, _, go17 _ (retN X12 hx (t := .boolean) Bd.returns (by simp) (hb hby d11_24) hr), hrun, hended, _, _, rfl, ?_, ⟨_, rfl⟩, hW, hsame.mono (by decide) (by decide)⟩
  have kp18 := ((Keep.refl h0 [a1, ea]).wr W4 (Or.inl (List.mem_of_getElem? (i := 0) rfl)))
  exact ⟨rfl, N12, (kp18.trans K12 (allS (Or.inl (List.mem_of_getElem? (i := 0) rfl)) (allS (Or.inl (List.mem_of_getElem? (i := 1) rfl)) all0))), LO12, V12⟩
theorem ef_rmH2 (m : MethodId) (a1 : Addr) (a2 : Addr) (ea : Addr) : entryFrame m #[(.ref a1), (.ref a2), (.ref ea), (.int (2 : Int32))] 4 = mkF m 0 #[.val (.ref a1), .val (.ref a2), .val (.ref ea), .val (.int (2 : Int32))] [] := by first | (simp [entryFrame, mkF, argsToLocals, Value.category]; done) | rfl
set_option maxRecDepth 65536 in
set_option maxHeartbeats 40000000 in
theorem rmH2 (l : Launch) (Z : State) (a0 : Array Value) (hw : ∀ d ∈ tables_1, d.before a0 Z = true) (ws : List Jvm.Cond) (a1 a2 ea : Addr) (mc : Int32) (y0 y1 : Addr) (h0 : Heap) (n0 : Nat) (Z0 : n0 ≤ h0.size) (LO : own_LO Z h0 a1 (.ref ea) 2 mc) (EV0 : own_AVO Z h0 ea [(.ref y0), (.ref y1), .null, .null, .null, .null, .null, .null, .null, .null]) (ga : n0 ≤ a1) (ge : n0 ≤ ea) (EX : Exa Z h0 a2 "com/example/invariant_ink/invariantink/lang/Local") :
    MetFree l (⟨"java/util/ArrayList", "add", "(Ljava/lang/Object;[Ljava/lang/Object;I)V"⟩ : MethodName) (head1 (Jvm.Cond.code (⟨"java/util/ArrayList", "add", "(Ljava/lang/Object;[Ljava/lang/Object;I)V"⟩ : MethodName) jdk_38_method_24_code 4 none :: ws) ({ frames := 0, cells := 0, slots := 0, locals := 0 } : Room)) (fun a U => a = #[(.ref a1), (.ref a2), (.ref ea), (.int (2 : Int32))] ∧ Z.Warmed39 U.vm ∧ U.heap = h0) (fun _ _ _ _ _ => True) (fun _ U o U' => ∃ v L, o = .returned v ∧ own_QK none Z a1 ea 3 mc [(.ref y0), (.ref y1), (.ref a2), .null, .null, .null, .null, .null, .null, .null] h0 n0 v U'.heap L ∧ FrameEnd U o U' L ({ frames := 0, cells := 0, slots := 0, locals := 0 } : Room).cells ({ frames := 0, cells := 0, slots := 0, locals := 0 } : Room).slots) := by
  refine MetFree.of_bodySF (plainFor_of_name pn_12) hisR ?_
  intro p e s m args below meth c s₁ Bd hml0 hP hK
  obtain ⟨rfl, hZ, hh⟩ := hP
  have hx := Bd.exec
  have hby := Bd.bytes
  have hml : c.maxLocals = 4 := hml0
  have hown : s.vm.findClass "java/util/ArrayList" = some m.cls := findClass_of_methodNamed Bd.named
  have hnm := (name_of_methodNamed Bd.named Bd.method).1
  have X0 : Stand p l e ({ frames := 0, cells := 0, slots := 0, locals := 0 } : Room) s m #[(.ref a1), (.ref a2), (.ref ea), (.int (2 : Int32))] below meth c s₁ [] 0 0 := Stand.of_body Bd
  have e0 : s₁.heap = h0 := by rw [← hh, Bd.state]; rfl
  have N0 := Fr.nil n0
  have go0 : ∀ t, Steps p.tables e below (s₁.setTop (mkF m 0 #[.val (.ref a1), .val (.ref a2), .val (.ref ea), .val (.int (2 : Int32))] [])) t → Steps p.tables e below (s₁.setTop (entryFrame m #[(.ref a1), (.ref a2), (.ref ea), (.int (2 : Int32))] 4)) t := fun t k => castTop (ef_rmH2 m a1 a2 ea) k
  obtain ⟨OE, OF1, OF2, OF3⟩ := id LO
  have nx : a2 ≠ a1 := Exa.ne EX OE (by decide)
  have n1 : a1 ≠ ea := by obtain ⟨_, A, _⟩ := EV0; exact ne_arr OE (own_h hw 42 rfl) A
  have n2 : a2 ≠ ea := by obtain ⟨_, A, _⟩ := EV0; exact ne_arr EX (own_h hw 15 rfl) A
  have go1 : ∀ t, Steps p.tables e below (s₁.setTop (mkF m 2 #[.val (.ref a1), .val (.ref a2), .val (.ref ea), .val (.int (2 : Int32))] [(.ref ea), (.int (2 : Int32))])) t → Steps p.tables e below (s₁.setTop (entryFrame m #[(.ref a1), (.ref a2), (.ref ea), (.int (2 : Int32))] 4)) t := fun t kt => go0 t (by
      refine XS.iloadN X0.here hx rfl (hb hby d12_0) rfl ?_
      show Steps p.tables e below (s₁.setTop (mkF m 1 #[.val (.ref a1), .val (.ref a2), .val (.ref ea), .val (.int (2 : Int32))] [(.int (2 : Int32))])) _
      refine XS.aloadN X0.here hx rfl (hb hby d12_1) rfl rfl ?_
      show Steps p.tables e below (s₁.setTop (mkF m 2 #[.val (.ref a1), .val (.ref a2), .val (.ref ea), .val (.int (2 : Int32))] [(.ref ea), (.int (2 : Int32))])) _
      exact kt)
  obtain ⟨c2, Ar2, q2, -⟩ := id EV0
  have hc3_3 : ¬ ((2 : Int32) = (10 : Int32)) := (by decide)
  have go4 : ∀ t, Steps p.tables e below (s₁.setTop (mkF m 14 #[.val (.ref a1), .val (.ref a2), .val (.ref ea), .val (.int (2 : Int32))] [(.ref a2), (.int (2 : Int32)), (.ref ea)])) t → Steps p.tables e below (s₁.setTop (entryFrame m #[(.ref a1), (.ref a2), (.ref ea), (.int (2 : Int32))] 4)) t := fun t kt => go1 t (by
      refine X0.arraylength hx (by rw [e0]; exact Ar2.1) (State.isArrayOf_alike hZ.alike Ar2.2.1) (g := (mkF m 2 #[.val (.ref a1), .val (.ref a2), .val (.ref ea), .val (.int (2 : Int32))] [(.ref ea), (.int (2 : Int32))])) rfl rfl (hb hby d12_2) _ ?_
      rw [own_len q2 (n := (10 : Int32)) rfl]
      show Steps p.tables e below (s₁.setTop (mkF m 3 #[.val (.ref a1), .val (.ref a2), .val (.ref ea), .val (.int (2 : Int32))] [(.int (10 : Int32)), (.int (2 : Int32))])) _
      refine XS.icmpYes X0.here hx rfl (pc0 := 3) (pc' := 11) rfl (hb hby d12_3) rfl (feq hc3_3).2 (by decide) (by decide) ?_
      show Steps p.tables e below (s₁.setTop (mkF m 11 #[.val (.ref a1), .val (.ref a2), .val (.ref ea), .val (.int (2 : Int32))] [])) _
      refine XS.aloadN X0.here hx rfl (hb hby d12_11) rfl rfl ?_
      show Steps p.tables e below (s₁.setTop (mkF m 12 #[.val (.ref a1), .val (.ref a2), .val (.ref ea), .val (.int (2 : Int32))] [(.ref ea)])) _
      refine XS.iloadN X0.here hx rfl (hb hby d12_12) rfl ?_
      show Steps p.tables e below (s₁.setTop (mkF m 13 #[.val (.ref a1), .val (.ref a2), .val (.ref ea), .val (.int (2 : Int32))] [(.int (2 : Int32)), (.ref ea)])) _
      refine XS.aloadN X0.here hx rfl (hb hby d12_13) rfl rfl ?_
      show Steps p.tables e below (s₁.setTop (mkF m 14 #[.val (.ref a1), .val (.ref a2), .val (.ref ea), .val (.int (2 : Int32))] [(.ref a2), (.int (2 : Int32)), (.ref ea)])) _
      exact kt)
  obtain ⟨c5, Ar5, q5, O5⟩ := id EV0
  obtain ⟨T5, h5, X5, e5, W5, st5⟩ := stR X0 hx hZ e0 Ar5 (j := (2 : Int32)) (own_inb q5 (n := 10) rfl (by decide) (by decide)) rfl (Sto.of Ar5 O5 (Ins.of_exa EX (own_h hw 126 rfl))) (g := (mkF m 14 #[.val (.ref a1), .val (.ref a2), .val (.ref ea), .val (.int (2 : Int32))] [(.ref a2), (.int (2 : Int32)), (.ref ea)])) rfl rfl (hb hby d12_14)
  have V5 : own_AVO Z h5 ea [(.ref y0), (.ref y1), (.ref a2), .null, .null, .null, .null, .null, .null, .null] := own_AVO.set Ar5 q5 O5 W5 (i := 2) (by decide) rfl
  obtain ⟨Ls5, X5, N5⟩ := own_loc X5 (Fr.snoc X5 N0 ge)
  have go6 : ∀ t, Steps p.tables e below (T5.setTop (mkF m 19 #[.val (.ref a1), .val (.ref a2), .val (.ref ea), .val (.int (2 : Int32))] [(.int ((2 : Int32) + (1 : Int32))), (.ref a1)])) t → Steps p.tables e below (s₁.setTop (entryFrame m #[(.ref a1), (.ref a2), (.ref ea), (.int (2 : Int32))] 4)) t := fun t kt => go4 t (by
      refine st5 _ ?_
      show Steps p.tables e below (T5.setTop (mkF m 15 #[.val (.ref a1), .val (.ref a2), .val (.ref ea), .val (.int (2 : Int32))] [])) _
      refine XS.aloadN X5.here hx rfl (hb hby d12_15) rfl rfl ?_
      show Steps p.tables e below (T5.setTop (mkF m 16 #[.val (.ref a1), .val (.ref a2), .val (.ref ea), .val (.int (2 : Int32))] [(.ref a1)])) _
      refine XS.iloadN X5.here hx rfl (hb hby d12_16) rfl ?_
      show Steps p.tables e below (T5.setTop (mkF m 17 #[.val (.ref a1), .val (.ref a2), .val (.ref ea), .val (.int (2 : Int32))] [(.int (2 : Int32)), (.ref a1)])) _
      refine XS.iconst X5.here hx rfl (hb hby d12_17) ?_
      show Steps p.tables e below (T5.setTop (mkF m 18 #[.val (.ref a1), .val (.ref a2), .val (.ref ea), .val (.int (2 : Int32))] [(.int (1 : Int32)), (.int (2 : Int32)), (.ref a1)])) _
      refine XS.iadd X5.here hx rfl (hb hby d12_18) rfl ?_
      show Steps p.tables e below (T5.setTop (mkF m 19 #[.val (.ref a1), .val (.ref a2), .val (.ref ea), .val (.int (2 : Int32))] [(.int ((2 : Int32) + (1 : Int32))), (.ref a1)])) _
      exact kt)
  rw [show ((2 : Int32) + (1 : Int32)) = (3 : Int32) from by decide] at go6
  have fq7 := (OF2.other W5 (Or.inl n1))
  have fq8 := (OE.wr W5)
  obtain ⟨T9, h9, X9, e9, W9, st9⟩ := putF X5 hx hZ hown (host := "") (Or.inl (own_h hw 84 rfl)) Via.refl e5 fq7 fq8 (Or.inl (own_h hw 85 rfl)) (own_h hw 42 rfl) (ty := .int) (by decide) rfl rfl (g := (mkF m 19 #[.val (.ref a1), .val (.ref a2), .val (.ref ea), .val (.int (2 : Int32))] [(.int (3 : Int32)), (.ref a1)])) rfl rfl (hb hby d12_19)
  have Fw9 := fq7.same W9
  obtain ⟨Ls9, X9, N9⟩ := own_loc X9 (Fr.snoc X9 N5 ga)
  have go10 : ∀ t, Steps p.tables e below (T9.setTop (mkF m 22 #[.val (.ref a1), .val (.ref a2), .val (.ref ea), .val (.int (2 : Int32))] [])) t → Steps p.tables e below (s₁.setTop (entryFrame m #[(.ref a1), (.ref a2), (.ref ea), (.int (2 : Int32))] 4)) t := fun t kt => go6 t (by
      refine st9 _ ?_
      show Steps p.tables e below (T9.setTop (mkF m 22 #[.val (.ref a1), .val (.ref a2), .val (.ref ea), .val (.int (2 : Int32))] [])) _
      exact kt)
  obtain ⟨fs, hr, hrun, hended, hW, hsame⟩ := X9.leave (v := none) (fun _ => rfl)
  refine ⟨_, _, go10 _ (X9.returnOut hx Bd.returns (hb hby d12_22) hr), hrun, hended, _, _, rfl, ?_, ⟨_, rfl⟩, hW, hsame.mono (by decide) (by decide)⟩
  show own_QK _ _ _ _ _ _ _ _ _ _ T9.heap _
  rw [e9]
  have kp11 := ((Keep.refl h0 [a1, ea]).wr W5 (Or.inl (List.mem_of_getElem? (i := 1) rfl)))
  have fq12 := (fq8.wr W9)
  have fq13 := ((OF1.other W5 (Or.inl n1)).other W9 (Or.inr (slot_ne (Or.inl (own_h hw 64 rfl)) (Or.inl (own_h hw 85 rfl)) (by decide) (t := (.array (.object "java/lang/Object"))) (t' := .int) (by decide) (by decide))))
  have fq14 := ((OF3.other W5 (Or.inl n1)).other W9 (Or.inr (slot_ne (Or.inl (own_h hw 61 rfl)) (Or.inl (own_h hw 85 rfl)) (by decide) (t := .int) (t' := .int) (by decide) (by decide))))
  have fq15 := (V5.other W9 (Ne.symm n1))
  exact ⟨rfl, N9, (kp11.wr W9 (Or.inl (List.mem_of_getElem? (i := 0) rfl))), ⟨fq12, fq13, Fw9, fq14⟩, fq15⟩
theorem ef_rmA2 (m : MethodId) (a1 : Addr) (a2 : Addr) : entryFrame m #[(.ref a1), (.ref a2)] 2 = mkF m 0 #[.val (.ref a1), .val (.ref a2)] [] := by first | (simp [entryFrame, mkF, argsToLocals, Value.category]; done) | rfl
set_option maxRecDepth 65536 in
set_option maxHeartbeats 40000000 in
theorem rmA2 (l : Launch) (Z : State) (a0 : Array Value) (hw : ∀ d ∈ tables_1, d.before a0 Z = true) (ws : List Jvm.Cond) (a1 a2 ea : Addr) (mc : Int32) (y0 y1 : Addr) (h0 : Heap) (n0 : Nat) (Z0 : n0 ≤ h0.size) (LO : own_LO Z h0 a1 (.ref ea) 2 mc) (EV0 : own_AVO Z h0 ea [(.ref y0), (.ref y1), .null, .null, .null, .null, .null, .null, .null, .null]) (ga : n0 ≤ a1) (ge : n0 ≤ ea) (EX : Exa Z h0 a2 "com/example/invariant_ink/invariantink/lang/Local") :
    MetFree l (⟨"java/util/ArrayList", "add", "(Ljava/lang/Object;)Z"⟩ : MethodName) (head1 (Jvm.Cond.code (⟨"java/util/ArrayList", "add", "(Ljava/lang/Object;)Z"⟩ : MethodName) jdk_38_method_25_code 2 (some .boolean) :: ws) ({ frames := 1, cells := 0, slots := 0, locals := 15 } : Room)) (fun a U => a = #[(.ref a1), (.ref a2)] ∧ Z.Warmed39 U.vm ∧ U.heap = h0) (fun _ _ _ _ _ => True) (fun _ U o U' => ∃ v L, o = .returned v ∧ own_QK (some (.int 1)) Z a1 ea 3 (mc + 1) [(.ref y0), (.ref y1), (.ref a2), .null, .null, .null, .null, .null, .null, .null] h0 n0 v U'.heap L ∧ FrameEnd U o U' L ({ frames := 1, cells := 0, slots := 0, locals := 15 } : Room).cells ({ frames := 1, cells := 0, slots := 0, locals := 15 } : Room).slots) := by
  refine MetFree.of_bodySF (plainFor_of_name pn_11) hisR ?_
  intro p e s m args below meth c s₁ Bd hml0 hP hK
  obtain ⟨rfl, hZ, hh⟩ := hP
  have hx := Bd.exec
  have hby := Bd.bytes
  have hml : c.maxLocals = 2 := hml0
  have hown : s.vm.findClass "java/util/ArrayList" = some m.cls := findClass_of_methodNamed Bd.named
  have hnm := (name_of_methodNamed Bd.named Bd.method).1
  have X0 : Stand p l e ({ frames := 1, cells := 0, slots := 0, locals := 15 } : Room) s m #[(.ref a1), (.ref a2)] below meth c s₁ [] 0 0 := Stand.of_body Bd
  have e0 : s₁.heap = h0 := by rw [← hh, Bd.state]; rfl
  have N0 := Fr.nil n0
  have go0 : ∀ t, Steps p.tables e below (s₁.setTop (mkF m 0 #[.val (.ref a1), .val (.ref a2)] [])) t → Steps p.tables e below (s₁.setTop (entryFrame m #[(.ref a1), (.ref a2)] 2)) t := fun t k => castTop (ef_rmA2 m a1 a2) k
  obtain ⟨OE, OF1, OF2, OF3⟩ := id LO
  have nx : a2 ≠ a1 := Exa.ne EX OE (by decide)
  have n1 : a1 ≠ ea := by obtain ⟨_, A, _⟩ := EV0; exact ne_arr OE (own_h hw 42 rfl) A
  have n2 : a2 ≠ ea := by obtain ⟨_, A, _⟩ := EV0; exact ne_arr EX (own_h hw 15 rfl) A
  have go1 : ∀ t, Steps p.tables e below (s₁.setTop (mkF m 2 #[.val (.ref a1), .val (.ref a2)] [(.ref a1), (.ref a1)])) t → Steps p.tables e below (s₁.setTop (entryFrame m #[(.ref a1), (.ref a2)] 2)) t := fun t kt => go0 t (by
      refine XS.aloadN X0.here hx rfl (hb hby d11_0) rfl rfl ?_
      show Steps p.tables e below (s₁.setTop (mkF m 1 #[.val (.ref a1), .val (.ref a2)] [(.ref a1)])) _
      refine XS.dup X0.here hx rfl (hb hby d11_1) rfl rfl ?_
      show Steps p.tables e below (s₁.setTop (mkF m 2 #[.val (.ref a1), .val (.ref a2)] [(.ref a1), (.ref a1)])) _
      exact kt)
  obtain ⟨T2, X2, e2, st2⟩ := getF X0 hx hZ hown (host := "") (Or.inl (own_h hw 103 rfl)) (Via.of (own_h hw 104 rfl)) e0 OF3 (g := (mkF m 2 #[.val (.ref a1), .val (.ref a2)] [(.ref a1), (.ref a1)])) rfl rfl (hb hby d11_2)
  have go3 : ∀ t, Steps p.tables e below (T2.setTop (mkF m 7 #[.val (.ref a1), .val (.ref a2)] [(.int (mc + (1 : Int32))), (.ref a1)])) t → Steps p.tables e below (s₁.setTop (entryFrame m #[(.ref a1), (.ref a2)] 2)) t := fun t kt => go1 t (by
      refine st2 _ ?_
      show Steps p.tables e below (T2.setTop (mkF m 5 #[.val (.ref a1), .val (.ref a2)] [(.int mc), (.ref a1)])) _
      refine XS.iconst X2.here hx rfl (hb hby d11_5) ?_
      show Steps p.tables e below (T2.setTop (mkF m 6 #[.val (.ref a1), .val (.ref a2)] [(.int (1 : Int32)), (.int mc), (.ref a1)])) _
      refine XS.iadd X2.here hx rfl (hb hby d11_6) rfl ?_
      show Steps p.tables e below (T2.setTop (mkF m 7 #[.val (.ref a1), .val (.ref a2)] [(.int (mc + (1 : Int32))), (.ref a1)])) _
      exact kt)
  obtain ⟨T4, h4, X4, e4, W4, st4⟩ := putF X2 hx hZ hown (host := "") (Or.inl (own_h hw 103 rfl)) (Via.of (own_h hw 104 rfl)) e2 OF3 OE (Or.inl (own_h hw 61 rfl)) (own_h hw 42 rfl) (ty := .int) (by decide) rfl rfl (g := (mkF m 7 #[.val (.ref a1), .val (.ref a2)] [(.int (mc + (1 : Int32))), (.ref a1)])) rfl rfl (hb hby d11_7)
  have Fw4 := OF3.same W4
  obtain ⟨Ls4, X4, N4⟩ := own_loc X4 (Fr.snoc X4 N0 ga)
  have go5 : ∀ t, Steps p.tables e below (T4.setTop (mkF m 13 #[.val (.ref a1), .val (.ref a2)] [(.ref a1), (.ref a2), (.ref a1)])) t → Steps p.tables e below (s₁.setTop (entryFrame m #[(.ref a1), (.ref a2)] 2)) t := fun t kt => go3 t (by
      refine st4 _ ?_
      show Steps p.tables e below (T4.setTop (mkF m 10 #[.val (.ref a1), .val (.ref a2)] [])) _
      refine XS.aloadN X4.here hx rfl (hb hby d11_10) rfl rfl ?_
      show Steps p.tables e below (T4.setTop (mkF m 11 #[.val (.ref a1), .val (.ref a2)] [(.ref a1)])) _
      refine XS.aloadN X4.here hx rfl (hb hby d11_11) rfl rfl ?_
      show Steps p.tables e below (T4.setTop (mkF m 12 #[.val (.ref a1), .val (.ref a2)] [(.ref a2), (.ref a1)])) _
      refine XS.aloadN X4.here hx rfl (hb hby d11_12) rfl rfl ?_
      show Steps p.tables e below (T4.setTop (mkF m 13 #[.val (.ref a1), .val (.ref a2)] [(.ref a1), (.ref a2), (.ref a1)])) _
      exact kt)
  have fq6 := (OF1.other W4 (Or.inr (slot_ne (Or.inl (own_h hw 64 rfl)) (Or.inl (own_h hw 61 rfl)) (by decide) (t := (.array (.object "java/lang/Object"))) (t' := .int) (by decide) (by decide))))
  obtain ⟨T7, X7, e7, st7⟩ := getF X4 hx hZ hown (host := "") (Or.inl (own_h hw 63 rfl)) Via.refl e4 fq6 (g := (mkF m 13 #[.val (.ref a1), .val (.ref a2)] [(.ref a1), (.ref a2), (.ref a1)])) rfl rfl (hb hby d11_13)
  have go8 : ∀ t, Steps p.tables e below (T7.setTop (mkF m 17 #[.val (.ref a1), .val (.ref a2)] [(.ref a1), (.ref ea), (.ref a2), (.ref a1)])) t → Steps p.tables e below (s₁.setTop (entryFrame m #[(.ref a1), (.ref a2)] 2)) t := fun t kt => go5 t (by
      refine st7 _ ?_
      show Steps p.tables e below (T7.setTop (mkF m 16 #[.val (.ref a1), .val (.ref a2)] [(.ref ea), (.ref a2), (.ref a1)])) _
      refine XS.aloadN X7.here hx rfl (hb hby d11_16) rfl rfl ?_
      show Steps p.tables e below (T7.setTop (mkF m 17 #[.val (.ref a1), .val (.ref a2)] [(.ref a1), (.ref ea), (.ref a2), (.ref a1)])) _
      exact kt)
  have fq9 := (OF2.other W4 (Or.inr (slot_ne (Or.inl (own_h hw 85 rfl)) (Or.inl (own_h hw 61 rfl)) (by decide) (t := .int) (t' := .int) (by decide) (by decide))))
  obtain ⟨T10, X10, e10, st10⟩ := getF X7 hx hZ hown (host := "") (Or.inl (own_h hw 84 rfl)) Via.refl e7 fq9 (g := (mkF m 17 #[.val (.ref a1), .val (.ref a2)] [(.ref a1), (.ref ea), (.ref a2), (.ref a1)])) rfl rfl (hb hby d11_17)
  have go11 : ∀ t, Steps p.tables e below (T10.setTop (mkF m 20 #[.val (.ref a1), .val (.ref a2)] [(.int (2 : Int32)), (.ref ea), (.ref a2), (.ref a1)])) t → Steps p.tables e below (s₁.setTop (entryFrame m #[(.ref a1), (.ref a2)] 2)) t := fun t kt => go8 t (by
      refine st10 _ ?_
      show Steps p.tables e below (T10.setTop (mkF m 20 #[.val (.ref a1), .val (.ref a2)] [(.int (2 : Int32)), (.ref ea), (.ref a2), (.ref a1)])) _
      exact kt)
  have fq13 := (OE.wr W4)
  have LOq : own_LO Z h4 a1 (.ref ea) 2 (mc + (1 : Int32)) := ⟨fq13, fq6, fq9, Fw4⟩
  have zs14 := (Nat.le_trans Z0 (Keep.of_wr W4).1)
  have fq15 := (EV0.other W4 (Ne.symm n1))
  have fq16 := (EX.wr W4)
  obtain ⟨cq12, q12, q12'⟩ := fq13.cell
  obtain ⟨_, _, ⟨T12, L12, k12, n12⟩, -, X12, ⟨Lc12, hQ12, l12, y12, z12⟩, st12⟩ := X10.privateBack hx (y := own_m8) hown (mvT hZ (own_h hw 105 rfl)) (mvT hZ (own_h hw 106 rfl)) (mvT hZ (own_h hw 108 rfl)) (Cond.privateMethod_at (mvP hZ (own_h hw 107 rfl) (args := #[]))) (mvT hZ (own_h hw 109 rfl)) (by decide) (backOf (W := 0) (rmH2 l Z a0 hw [] a1 a2 ea (mc + (1 : Int32)) y0 y1 h4 n0 zs14 LOq fq15 ga ge fq16) hZ (own_h hw 109 rfl) (own_h hw 43 rfl) (by decide) (by decide)) (g := (mkF m 20 #[.val (.ref a1), .val (.ref a2)] [(.int (2 : Int32)), (.ref ea), (.ref a2), (.ref a1)])) rfl (by rw [hml]; rfl) (Steps.refl _) (a := a1) (by rw [e10]; exact q12) q12' (argsL := [(.ref a2), (.ref ea), (.int (2 : Int32))]) (rest := []) (lenOf pd_8 rfl) rfl (by show 2 * 0 + _ ≤ _; exact Nat.le_of_eq rfl) (hb hby d11_20) (fun _ _ => ⟨rfl, e10, (by decide : 0 + 0 ≤ _), (by decide : 0 + 0 ≤ _)⟩)
  dsimp only [Pt.U, Pt.locs, Pt.cells, Pt.slots] at X12 l12 y12 z12 st12 hQ12
  subst y12 z12
  obtain ⟨rfl, N12q, K12, LO12, V12⟩ := hQ12
  have N12 := Fr.app N4 N12q
  rw [← l12] at N12
  have go17 : ∀ t, Steps p.tables e below (T12.setTop (mkF m 24 #[.val (.ref a1), .val (.ref a2)] [(.int (1 : Int32))])) t → Steps p.tables e below (s₁.setTop (entryFrame m #[(.ref a1), (.ref a2)] 2)) t := fun t kt => go11 t (by
      refine st12.trans ?_
      show Steps p.tables e below (T12.setTop (mkF m 23 #[.val (.ref a1), .val (.ref a2)] [])) _
      refine XS.iconst X12.here hx rfl (hb hby d11_23) ?_
      show Steps p.tables e below (T12.setTop (mkF m 24 #[.val (.ref a1), .val (.ref a2)] [(.int (1 : Int32))])) _
      exact kt)
  obtain ⟨fs, hr, hrun, hended, hW, hsame⟩ := X12.leave (v := some (.int (1 : Int32))) (fun h => by rw [Bd.returns] at h; cases h)
  refine ⟨_, _, go17 _ (retN X12 hx (t := .boolean) Bd.returns (by simp) (hb hby d11_24) hr), hrun, hended, _, _, rfl, ?_, ⟨_, rfl⟩, hW, hsame.mono (by decide) (by decide)⟩
  have kp18 := ((Keep.refl h0 [a1, ea]).wr W4 (Or.inl (List.mem_of_getElem? (i := 0) rfl)))
  exact ⟨rfl, N12, (kp18.trans K12 (allS (Or.inl (List.mem_of_getElem? (i := 0) rfl)) (allS (Or.inl (List.mem_of_getElem? (i := 1) rfl)) all0))), LO12, V12⟩
abbrev own_m9 : MethodName := ⟨"java/util/List", "size", "()I"⟩
abbrev own_m10 : MethodName := ⟨"java/util/ArrayList", "size", "()I"⟩
theorem d8_0 : decode prog_19_method_1_code 0 = .ok (.aload_n 0, 1) := by decide +kernel
theorem d8_1 : decode prog_19_method_1_code 1 = .ok (.invokespecial 1, 3) := by decide +kernel
theorem d8_4 : decode prog_19_method_1_code 4 = .ok (.aload_n 0, 1) := by decide +kernel
theorem d8_5 : decode prog_19_method_1_code 5 = .ok (.aload_n 2, 1) := by decide +kernel
theorem d8_6 : decode prog_19_method_1_code 6 = .ok (.invokeinterface 7 1, 5) := by decide +kernel
theorem d8_11 : decode prog_19_method_1_code 11 = .ok (.newarray .int, 2) := by decide +kernel
theorem d8_13 : decode prog_19_method_1_code 13 = .ok (.putfield 13, 3) := by decide +kernel
theorem d8_16 : decode prog_19_method_1_code 16 = .ok (.aload_n 0, 1) := by decide +kernel
theorem d8_17 : decode prog_19_method_1_code 17 = .ok (.aload_n 2, 1) := by decide +kernel
theorem d8_18 : decode prog_19_method_1_code 18 = .ok (.invokeinterface 7 1, 5) := by decide +kernel
theorem d8_23 : decode prog_19_method_1_code 23 = .ok (.newarray .long, 2) := by decide +kernel
theorem d8_25 : decode prog_19_method_1_code 25 = .ok (.putfield 19, 3) := by decide +kernel
theorem d8_28 : decode prog_19_method_1_code 28 = .ok (.aload_n 0, 1) := by decide +kernel
theorem d8_29 : decode prog_19_method_1_code 29 = .ok (.aload_n 2, 1) := by decide +kernel
theorem d8_30 : decode prog_19_method_1_code 30 = .ok (.invokeinterface 7 1, 5) := by decide +kernel
theorem d8_35 : decode prog_19_method_1_code 35 = .ok (.newarray .long, 2) := by decide +kernel
theorem d8_37 : decode prog_19_method_1_code 37 = .ok (.putfield 23, 3) := by decide +kernel
theorem d8_40 : decode prog_19_method_1_code 40 = .ok (.iconst 0, 1) := by decide +kernel
theorem d8_41 : decode prog_19_method_1_code 41 = .ok (.istore_n 3, 1) := by decide +kernel
theorem d8_42 : decode prog_19_method_1_code 42 = .ok (.iload_n 3, 1) := by decide +kernel
theorem d8_43 : decode prog_19_method_1_code 43 = .ok (.aload_n 0, 1) := by decide +kernel
theorem d8_44 : decode prog_19_method_1_code 44 = .ok (.getfield 13, 3) := by decide +kernel
theorem d8_47 : decode prog_19_method_1_code 47 = .ok (.arraylength, 1) := by decide +kernel
theorem d8_48 : decode prog_19_method_1_code 48 = .ok (.if_icmp .ge 96, 3) := by decide +kernel
theorem d8_144 : decode prog_19_method_1_code 144 = .ok (.return_, 1) := by decide +kernel
theorem pn_8 : plainName "com/example/invariant_ink/invariantink/engine/Combinations" = true := by first | (simp [plainName, overriddenIn]; done) | decide +kernel
theorem ef_rmC2_0 (m : MethodId) (a1 : Addr) (a3 : Addr) : entryFrame m #[(.ref a1), .null, (.ref a3)] 6 = mkF m 0 #[.val (.ref a1), .val .null, .val (.ref a3), .unset, .unset, .unset] [] := by first | (simp [entryFrame, mkF, argsToLocals, Value.category]; done) | rfl
set_option maxRecDepth 65536 in
set_option maxHeartbeats 40000000 in
theorem rmC2_0 (l : Launch) (Z : State) (a0 : Array Value) (hw : ∀ d ∈ tables_1, d.before a0 Z = true) (ws : List Jvm.Cond) (a1 a3 ea : Addr) (mc : Int32) (h0 : Heap) (n0 : Nat) (Z0 : n0 ≤ h0.size) (E0 : Exa Z h0 a1 "com/example/invariant_ink/invariantink/engine/Combinations") (F_slots : Fld Z h0 a1 "com/example/invariant_ink/invariantink/engine/Combinations" "slots" "[I" .null) (F_firsts : Fld Z h0 a1 "com/example/invariant_ink/invariantink/engine/Combinations" "firsts" "[J" .null) (F_lasts : Fld Z h0 a1 "com/example/invariant_ink/invariantink/engine/Combinations" "lasts" "[J" .null) (ga : n0 ≤ a1) (LO : own_LO Z h0 a3 (.ref ea) 0 mc) :
    MetFree l (⟨"com/example/invariant_ink/invariantink/engine/Combinations", "<init>", "(Lcom/example/invariant_ink/invariantink/lang/Instance;Ljava/util/List;)V"⟩ : MethodName) (head1 (Jvm.Cond.code (⟨"com/example/invariant_ink/invariantink/engine/Combinations", "<init>", "(Lcom/example/invariant_ink/invariantink/lang/Instance;Ljava/util/List;)V"⟩ : MethodName) prog_19_method_1_code 6 none :: ws) ({ frames := 1, cells := 3, slots := 0, locals := 13 } : Room)) (fun a U => a = #[(.ref a1), .null, (.ref a3)] ∧ Z.Warmed39 U.vm ∧ U.heap = h0) (fun _ _ _ _ _ => True) (fun _ U o U' => ∃ v L, o = .returned v ∧ own_QC Z a1 [] [] [] h0 n0 v U'.heap L ∧ FrameEnd U o U' L ({ frames := 1, cells := 3, slots := 0, locals := 13 } : Room).cells ({ frames := 1, cells := 3, slots := 0, locals := 13 } : Room).slots) := by
  refine MetFree.of_bodySF (plainFor_of_name pn_8) hisR ?_
  intro p e s m args below meth c s₁ Bd hml0 hP hK
  obtain ⟨rfl, hZ, hh⟩ := hP
  have hx := Bd.exec
  have hby := Bd.bytes
  have hml : c.maxLocals = 6 := hml0
  have hown : s.vm.findClass "com/example/invariant_ink/invariantink/engine/Combinations" = some m.cls := findClass_of_methodNamed Bd.named
  have hnm := (name_of_methodNamed Bd.named Bd.method).1
  have X0 : Stand p l e ({ frames := 1, cells := 3, slots := 0, locals := 13 } : Room) s m #[(.ref a1), .null, (.ref a3)] below meth c s₁ [] 0 0 := Stand.of_body Bd
  have e0 : s₁.heap = h0 := by rw [← hh, Bd.state]; rfl
  have N0 := Fr.nil n0
  have go0 : ∀ t, Steps p.tables e below (s₁.setTop (mkF m 0 #[.val (.ref a1), .val .null, .val (.ref a3), .unset, .unset, .unset] [])) t → Steps p.tables e below (s₁.setTop (entryFrame m #[(.ref a1), .null, (.ref a3)] 6)) t := fun t k => castTop (ef_rmC2_0 m a1 a3) k
  obtain ⟨OE, OF1, OF2, OF3⟩ := id LO
  have na3 : a3 ≠ a1 := Exa.ne OE E0 (by decide)
  have go1 : ∀ t, Steps p.tables e below (s₁.setTop (mkF m 1 #[.val (.ref a1), .val .null, .val (.ref a3), .unset, .unset, .unset] [(.ref a1)])) t → Steps p.tables e below (s₁.setTop (entryFrame m #[(.ref a1), .null, (.ref a3)] 6)) t := fun t kt => go0 t (by
      refine XS.aloadN X0.here hx rfl (hb hby d8_0) rfl rfl ?_
      show Steps p.tables e below (s₁.setTop (mkF m 1 #[.val (.ref a1), .val .null, .val (.ref a3), .unset, .unset, .unset] [(.ref a1)])) _
      exact kt)
  obtain ⟨T2, X2, e2, st2⟩ := initO X0 hx hZ hown (own_h hw 74 rfl) (own_h hw 8 rfl) (own_h hw 9 rfl) e0 (g := (mkF m 1 #[.val (.ref a1), .val .null, .val (.ref a3), .unset, .unset, .unset] [(.ref a1)])) rfl (by rw [hml]; rfl) rfl (hb hby d8_1) (by decide) (W := 0) (by show 2 * 0 + _ ≤ _; exact Nat.le_of_eq rfl) (by decide)
  have go3 : ∀ t, Steps p.tables e below (T2.setTop (mkF m 6 #[.val (.ref a1), .val .null, .val (.ref a3), .unset, .unset, .unset] [(.ref a3), (.ref a1)])) t → Steps p.tables e below (s₁.setTop (entryFrame m #[(.ref a1), .null, (.ref a3)] 6)) t := fun t kt => go1 t (by
      refine st2 _ ?_
      show Steps p.tables e below (T2.setTop (mkF m 4 #[.val (.ref a1), .val .null, .val (.ref a3), .unset, .unset, .unset] [])) _
      refine XS.aloadN X2.here hx rfl (hb hby d8_4) rfl rfl ?_
      show Steps p.tables e below (T2.setTop (mkF m 5 #[.val (.ref a1), .val .null, .val (.ref a3), .unset, .unset, .unset] [(.ref a1)])) _
      refine XS.aloadN X2.here hx rfl (hb hby d8_5) rfl rfl ?_
      show Steps p.tables e below (T2.setTop (mkF m 6 #[.val (.ref a1), .val .null, .val (.ref a3), .unset, .unset, .unset] [(.ref a3), (.ref a1)])) _
      exact kt)
  obtain ⟨cq4, kq4, q4a, q4b, q4c⟩ := isOf hZ e2 OE
  obtain ⟨_, _, ⟨T4, L4, k4, n4⟩, -, X4, ⟨Lc4, hQ4, l4, y4, z4⟩, st4⟩ := X2.interfaceBack hx (xi := own_m9) (y := own_m10) hown (mvT hZ (own_h hw 75 rfl)) (mvT hZ (own_h hw 76 rfl)) (mvT hZ (own_h hw 77 rfl)) (mvT hZ (own_h hw 78 rfl)) (mvT hZ (own_h hw 79 rfl)) (mvT hZ (own_h hw 80 rfl)) (mvT hZ (own_h hw 81 rfl)) (mvT hZ (own_h hw 82 rfl)) (by decide) (backOf (W := 1) (rm9 l Z a0 hw [] a3 (0 : Int32) h0 n0 OF2) hZ (own_h hw 83 rfl) (own_h hw 43 rfl) (by decide) (by decide)) q4a q4b q4c (g := (mkF m 6 #[.val (.ref a1), .val .null, .val (.ref a3), .unset, .unset, .unset] [(.ref a3), (.ref a1)])) rfl (by rw [hml]; rfl) (Steps.refl _) (argsL := []) (rest := [(.ref a1)]) (lenOf pd_5 rfl) rfl (by show 2 * 0 + _ ≤ _; exact Nat.le_of_eq rfl) (hb hby d8_6) (fun _ _ => ⟨rfl, e2, (by decide : 0 + 0 ≤ _), (by decide : 0 + 0 ≤ _)⟩)
  dsimp only [Pt.U, Pt.locs, Pt.cells, Pt.slots] at X4 l4 y4 z4 st4 hQ4
  subst y4 z4
  obtain ⟨rfl, N4q, e4⟩ := hQ4
  have N4 := Fr.app N0 N4q
  rw [← l4] at N4
  have go5 : ∀ t, Steps p.tables e below (T4.setTop (mkF m 11 #[.val (.ref a1), .val .null, .val (.ref a3), .unset, .unset, .unset] [(.int (0 : Int32)), (.ref a1)])) t → Steps p.tables e below (s₁.setTop (entryFrame m #[(.ref a1), .null, (.ref a3)] 6)) t := fun t kt => go3 t (by
      refine st4.trans ?_
      show Steps p.tables e below (T4.setTop (mkF m 11 #[.val (.ref a1), .val .null, .val (.ref a3), .unset, .unset, .unset] [(.int (0 : Int32)), (.ref a1)])) _
      exact kt)
  obtain ⟨T6, h6, k6, X6, e6, E6, A6, st6⟩ := newP X4 hx hZ (own_h hw 86 rfl) e4 (g := (mkF m 11 #[.val (.ref a1), .val .null, .val (.ref a3), .unset, .unset, .unset] [(.int (0 : Int32)), (.ref a1)])) rfl (hb hby d8_11) rfl (by decide) (cap := 0) (by decide) (by decide) (by decide) (by decide)
  obtain ⟨b6, g6⟩ : ∃ z, z = h0.size := ⟨_, rfl⟩
  rw [← g6] at A6 st6
  have ks6 : h0.size ≤ h0.size := Nat.le_refl _
  have sz6 : h0.size ≤ b6 := Nat.le_trans ks6 (Nat.le_of_eq g6.symm)
  have ne_a1_b6 : a1 ≠ b6 := Nat.ne_of_lt (Nat.lt_of_lt_of_le E0.lt (Nat.le_of_eq g6.symm))
  have ne_a3_b6 : a3 ≠ b6 := Nat.ne_of_lt (Nat.lt_of_lt_of_le OE.lt (Nat.le_of_eq g6.symm))
  have V6 : own_AV Z h6 b6 .int [] := own_AV.new A6 (i := 0) (by decide)
  have gb6 : n0 ≤ b6 := Nat.le_trans Z0 (Nat.le_of_eq g6.symm)
  have go7 : ∀ t, Steps p.tables e below (T6.setTop (mkF m 13 #[.val (.ref a1), .val .null, .val (.ref a3), .unset, .unset, .unset] [(.ref b6), (.ref a1)])) t → Steps p.tables e below (s₁.setTop (entryFrame m #[(.ref a1), .null, (.ref a3)] 6)) t := fun t kt => go5 t (by
      refine st6 _ ?_
      show Steps p.tables e below (T6.setTop (mkF m 13 #[.val (.ref a1), .val .null, .val (.ref a3), .unset, .unset, .unset] [(.ref b6), (.ref a1)])) _
      exact kt)
  have fq8 := (F_slots.ext E6)
  have fq9 := (E0.ext E6)
  obtain ⟨T10, h10, X10, e10, W10, st10⟩ := putF X6 hx hZ hown (host := "") (Or.inl (own_h hw 87 rfl)) Via.refl e6 fq8 fq9 (Or.inr ⟨(own_h hw 88 rfl), rfl, hnm⟩) (own_h hw 66 rfl) (ty := (.array .int)) (by decide) rfl rfl (g := (mkF m 13 #[.val (.ref a1), .val .null, .val (.ref a3), .unset, .unset, .unset] [(.ref b6), (.ref a1)])) rfl rfl (hb hby d8_13)
  have Fw10 := fq8.same W10
  obtain ⟨Ls10, X10, N10⟩ := own_loc X10 (Fr.snoc X10 N4 ga)
  have go11 : ∀ t, Steps p.tables e below (T10.setTop (mkF m 18 #[.val (.ref a1), .val .null, .val (.ref a3), .unset, .unset, .unset] [(.ref a3), (.ref a1)])) t → Steps p.tables e below (s₁.setTop (entryFrame m #[(.ref a1), .null, (.ref a3)] 6)) t := fun t kt => go7 t (by
      refine st10 _ ?_
      show Steps p.tables e below (T10.setTop (mkF m 16 #[.val (.ref a1), .val .null, .val (.ref a3), .unset, .unset, .unset] [])) _
      refine XS.aloadN X10.here hx rfl (hb hby d8_16) rfl rfl ?_
      show Steps p.tables e below (T10.setTop (mkF m 17 #[.val (.ref a1), .val .null, .val (.ref a3), .unset, .unset, .unset] [(.ref a1)])) _
      refine XS.aloadN X10.here hx rfl (hb hby d8_17) rfl rfl ?_
      show Steps p.tables e below (T10.setTop (mkF m 18 #[.val (.ref a1), .val .null, .val (.ref a3), .unset, .unset, .unset] [(.ref a3), (.ref a1)])) _
      exact kt)
  have fq13 := ((OF2.ext E6).other W10 (Or.inl na3))
  have fq14 := ((OE.ext E6).wr W10)
  obtain ⟨cq12, kq12, q12a, q12b, q12c⟩ := isOf hZ e10 fq14
  obtain ⟨_, _, ⟨T12, L12, k12, n12⟩, -, X12, ⟨Lc12, hQ12, l12, y12, z12⟩, st12⟩ := X10.interfaceBack hx (xi := own_m9) (y := own_m10) hown (mvT hZ (own_h hw 75 rfl)) (mvT hZ (own_h hw 76 rfl)) (mvT hZ (own_h hw 77 rfl)) (mvT hZ (own_h hw 78 rfl)) (mvT hZ (own_h hw 79 rfl)) (mvT hZ (own_h hw 80 rfl)) (mvT hZ (own_h hw 81 rfl)) (mvT hZ (own_h hw 82 rfl)) (by decide) (backOf (W := 1) (rm9 l Z a0 hw [] a3 (0 : Int32) h10 n0 fq13) hZ (own_h hw 83 rfl) (own_h hw 43 rfl) (by decide) (by decide)) q12a q12b q12c (g := (mkF m 18 #[.val (.ref a1), .val .null, .val (.ref a3), .unset, .unset, .unset] [(.ref a3), (.ref a1)])) rfl (by rw [hml]; rfl) (Steps.refl _) (argsL := []) (rest := [(.ref a1)]) (lenOf pd_5 rfl) rfl (by show 2 * 0 + _ ≤ _; exact Nat.le_of_eq rfl) (hb hby d8_18) (fun _ _ => ⟨rfl, e10, (by decide : 1 + 0 ≤ _), (by decide : 0 + 0 ≤ _)⟩)
  dsimp only [Pt.U, Pt.locs, Pt.cells, Pt.slots] at X12 l12 y12 z12 st12 hQ12
  subst y12 z12
  obtain ⟨rfl, N12q, e12⟩ := hQ12
  have N12 := Fr.app N10 N12q
  rw [← l12] at N12
  have go15 : ∀ t, Steps p.tables e below (T12.setTop (mkF m 23 #[.val (.ref a1), .val .null, .val (.ref a3), .unset, .unset, .unset] [(.int (0 : Int32)), (.ref a1)])) t → Steps p.tables e below (s₁.setTop (entryFrame m #[(.ref a1), .null, (.ref a3)] 6)) t := fun t kt => go11 t (by
      refine st12.trans ?_
      show Steps p.tables e below (T12.setTop (mkF m 23 #[.val (.ref a1), .val .null, .val (.ref a3), .unset, .unset, .unset] [(.int (0 : Int32)), (.ref a1)])) _
      exact kt)
  have zs17 := (Nat.le_trans (Nat.le_trans Z0 E6.1) (Keep.of_wr W10).1)
  obtain ⟨T16, h16, k16, X16, e16, E16, A16, st16⟩ := newP X12 hx hZ (own_h hw 0 rfl) e12 (g := (mkF m 23 #[.val (.ref a1), .val .null, .val (.ref a3), .unset, .unset, .unset] [(.int (0 : Int32)), (.ref a1)])) rfl (hb hby d8_23) rfl (by decide) (cap := 0) (by decide) (by decide) (by decide) (by decide)
  obtain ⟨b16, g16⟩ : ∃ z, z = h10.size := ⟨_, rfl⟩
  rw [← g16] at A16 st16
  have ks16 : h0.size ≤ h10.size := Nat.le_trans (Nat.le_trans (ks6) E6.1) (Keep.of_wr W10).1
  have sz16 : h0.size ≤ b16 := Nat.le_trans ks16 (Nat.le_of_eq g16.symm)
  have fq18 := (fq9.wr W10)
  have ne_a1_b16 : a1 ≠ b16 := Nat.ne_of_lt (Nat.lt_of_lt_of_le fq18.lt (Nat.le_of_eq g16.symm))
  have ne_a3_b16 : a3 ≠ b16 := Nat.ne_of_lt (Nat.lt_of_lt_of_le fq14.lt (Nat.le_of_eq g16.symm))
  have fq19 := (V6.other W10 (Ne.symm ne_a1_b6))
  have ne_b6_b16 : b6 ≠ b16 := Nat.ne_of_lt (Nat.lt_of_lt_of_le fq19.lt (Nat.le_of_eq g16.symm))
  have V16 : own_AV Z h16 b16 .long [] := own_AV.new A16 (i := 0) (by decide)
  have gb16 : n0 ≤ b16 := Nat.le_trans zs17 (Nat.le_of_eq g16.symm)
  have go20 : ∀ t, Steps p.tables e below (T16.setTop (mkF m 25 #[.val (.ref a1), .val .null, .val (.ref a3), .unset, .unset, .unset] [(.ref b16), (.ref a1)])) t → Steps p.tables e below (s₁.setTop (entryFrame m #[(.ref a1), .null, (.ref a3)] 6)) t := fun t kt => go15 t (by
      refine st16 _ ?_
      show Steps p.tables e below (T16.setTop (mkF m 25 #[.val (.ref a1), .val .null, .val (.ref a3), .unset, .unset, .unset] [(.ref b16), (.ref a1)])) _
      exact kt)
  have fr21 := ((F_firsts.ext E6).other W10 (Or.inr (slot_ne (Or.inr (own_h hw 90 rfl)) (Or.inr (own_h hw 88 rfl)) (by decide) (t := (.array .long)) (t' := (.array .int)) (by decide) (by decide))))
  have fq22 := (fr21.ext E16)
  have fq23 := (fq18.ext E16)
  obtain ⟨T24, h24, X24, e24, W24, st24⟩ := putF X16 hx hZ hown (host := "") (Or.inl (own_h hw 89 rfl)) Via.refl e16 fq22 fq23 (Or.inr ⟨(own_h hw 90 rfl), rfl, hnm⟩) (own_h hw 66 rfl) (ty := (.array .long)) (by decide) rfl rfl (g := (mkF m 25 #[.val (.ref a1), .val .null, .val (.ref a3), .unset, .unset, .unset] [(.ref b16), (.ref a1)])) rfl rfl (hb hby d8_25)
  have Fw24 := fq22.same W24
  obtain ⟨Ls24, X24, N24⟩ := own_loc X24 (Fr.snoc X24 N12 ga)
  have go25 : ∀ t, Steps p.tables e below (T24.setTop (mkF m 30 #[.val (.ref a1), .val .null, .val (.ref a3), .unset, .unset, .unset] [(.ref a3), (.ref a1)])) t → Steps p.tables e below (s₁.setTop (entryFrame m #[(.ref a1), .null, (.ref a3)] 6)) t := fun t kt => go20 t (by
      refine st24 _ ?_
      show Steps p.tables e below (T24.setTop (mkF m 28 #[.val (.ref a1), .val .null, .val (.ref a3), .unset, .unset, .unset] [])) _
      refine XS.aloadN X24.here hx rfl (hb hby d8_28) rfl rfl ?_
      show Steps p.tables e below (T24.setTop (mkF m 29 #[.val (.ref a1), .val .null, .val (.ref a3), .unset, .unset, .unset] [(.ref a1)])) _
      refine XS.aloadN X24.here hx rfl (hb hby d8_29) rfl rfl ?_
      show Steps p.tables e below (T24.setTop (mkF m 30 #[.val (.ref a1), .val .null, .val (.ref a3), .unset, .unset, .unset] [(.ref a3), (.ref a1)])) _
      exact kt)
  have fq27 := ((fq13.ext E16).other W24 (Or.inl na3))
  have fq28 := ((fq14.ext E16).wr W24)
  obtain ⟨cq26, kq26, q26a, q26b, q26c⟩ := isOf hZ e24 fq28
  obtain ⟨_, _, ⟨T26, L26, k26, n26⟩, -, X26, ⟨Lc26, hQ26, l26, y26, z26⟩, st26⟩ := X24.interfaceBack hx (xi := own_m9) (y := own_m10) hown (mvT hZ (own_h hw 75 rfl)) (mvT hZ (own_h hw 76 rfl)) (mvT hZ (own_h hw 77 rfl)) (mvT hZ (own_h hw 78 rfl)) (mvT hZ (own_h hw 79 rfl)) (mvT hZ (own_h hw 80 rfl)) (mvT hZ (own_h hw 81 rfl)) (mvT hZ (own_h hw 82 rfl)) (by decide) (backOf (W := 1) (rm9 l Z a0 hw [] a3 (0 : Int32) h24 n0 fq27) hZ (own_h hw 83 rfl) (own_h hw 43 rfl) (by decide) (by decide)) q26a q26b q26c (g := (mkF m 30 #[.val (.ref a1), .val .null, .val (.ref a3), .unset, .unset, .unset] [(.ref a3), (.ref a1)])) rfl (by rw [hml]; rfl) (Steps.refl _) (argsL := []) (rest := [(.ref a1)]) (lenOf pd_5 rfl) rfl (by show 2 * 0 + _ ≤ _; exact Nat.le_of_eq rfl) (hb hby d8_30) (fun _ _ => ⟨rfl, e24, (by decide : 2 + 0 ≤ _), (by decide : 0 + 0 ≤ _)⟩)
  dsimp only [Pt.U, Pt.locs, Pt.cells, Pt.slots] at X26 l26 y26 z26 st26 hQ26
  subst y26 z26
  obtain ⟨rfl, N26q, e26⟩ := hQ26
  have N26 := Fr.app N24 N26q
  rw [← l26] at N26
  have go29 : ∀ t, Steps p.tables e below (T26.setTop (mkF m 35 #[.val (.ref a1), .val .null, .val (.ref a3), .unset, .unset, .unset] [(.int (0 : Int32)), (.ref a1)])) t → Steps p.tables e below (s₁.setTop (entryFrame m #[(.ref a1), .null, (.ref a3)] 6)) t := fun t kt => go25 t (by
      refine st26.trans ?_
      show Steps p.tables e below (T26.setTop (mkF m 35 #[.val (.ref a1), .val .null, .val (.ref a3), .unset, .unset, .unset] [(.int (0 : Int32)), (.ref a1)])) _
      exact kt)
  have zs31 := (Nat.le_trans (Nat.le_trans zs17 E16.1) (Keep.of_wr W24).1)
  obtain ⟨T30, h30, k30, X30, e30, E30, A30, st30⟩ := newP X26 hx hZ (own_h hw 0 rfl) e26 (g := (mkF m 35 #[.val (.ref a1), .val .null, .val (.ref a3), .unset, .unset, .unset] [(.int (0 : Int32)), (.ref a1)])) rfl (hb hby d8_35) rfl (by decide) (cap := 0) (by decide) (by decide) (by decide) (by decide)
  obtain ⟨b30, g30⟩ : ∃ z, z = h24.size := ⟨_, rfl⟩
  rw [← g30] at A30 st30
  have ks30 : h0.size ≤ h24.size := Nat.le_trans (Nat.le_trans (ks16) E16.1) (Keep.of_wr W24).1
  have sz30 : h0.size ≤ b30 := Nat.le_trans ks30 (Nat.le_of_eq g30.symm)
  have fq32 := (fq23.wr W24)
  have ne_a1_b30 : a1 ≠ b30 := Nat.ne_of_lt (Nat.lt_of_lt_of_le fq32.lt (Nat.le_of_eq g30.symm))
  have ne_a3_b30 : a3 ≠ b30 := Nat.ne_of_lt (Nat.lt_of_lt_of_le fq28.lt (Nat.le_of_eq g30.symm))
  have fq33 := (V16.other W24 (Ne.symm ne_a1_b16))
  have ne_b16_b30 : b16 ≠ b30 := Nat.ne_of_lt (Nat.lt_of_lt_of_le fq33.lt (Nat.le_of_eq g30.symm))
  have fq34 := ((fq19.ext E16).other W24 (Ne.symm ne_a1_b6))
  have ne_b6_b30 : b6 ≠ b30 := Nat.ne_of_lt (Nat.lt_of_lt_of_le fq34.lt (Nat.le_of_eq g30.symm))
  have V30 : own_AV Z h30 b30 .long [] := own_AV.new A30 (i := 0) (by decide)
  have gb30 : n0 ≤ b30 := Nat.le_trans zs31 (Nat.le_of_eq g30.symm)
  have go35 : ∀ t, Steps p.tables e below (T30.setTop (mkF m 37 #[.val (.ref a1), .val .null, .val (.ref a3), .unset, .unset, .unset] [(.ref b30), (.ref a1)])) t → Steps p.tables e below (s₁.setTop (entryFrame m #[(.ref a1), .null, (.ref a3)] 6)) t := fun t kt => go29 t (by
      refine st30 _ ?_
      show Steps p.tables e below (T30.setTop (mkF m 37 #[.val (.ref a1), .val .null, .val (.ref a3), .unset, .unset, .unset] [(.ref b30), (.ref a1)])) _
      exact kt)
  have fr36 := ((F_lasts.ext E6).other W10 (Or.inr (slot_ne (Or.inr (own_h hw 92 rfl)) (Or.inr (own_h hw 88 rfl)) (by decide) (t := (.array .long)) (t' := (.array .int)) (by decide) (by decide))))
  have fq37 := (((fr36.ext E16).other W24 (Or.inr (slot_ne (Or.inr (own_h hw 92 rfl)) (Or.inr (own_h hw 90 rfl)) (by decide) (t := (.array .long)) (t' := (.array .long)) (by decide) (by decide)))).ext E30)
  have fq38 := (fq32.ext E30)
  obtain ⟨T39, h39, X39, e39, W39, st39⟩ := putF X30 hx hZ hown (host := "") (Or.inl (own_h hw 91 rfl)) Via.refl e30 fq37 fq38 (Or.inr ⟨(own_h hw 92 rfl), rfl, hnm⟩) (own_h hw 66 rfl) (ty := (.array .long)) (by decide) rfl rfl (g := (mkF m 37 #[.val (.ref a1), .val .null, .val (.ref a3), .unset, .unset, .unset] [(.ref b30), (.ref a1)])) rfl rfl (hb hby d8_37)
  have Fw39 := fq37.same W39
  obtain ⟨Ls39, X39, N39⟩ := own_loc X39 (Fr.snoc X39 N26 ga)
  have go40 : ∀ t, Steps p.tables e below (T39.setTop (mkF m 44 #[.val (.ref a1), .val .null, .val (.ref a3), .val (.int (0 : Int32)), .unset, .unset] [(.ref a1), (.int (0 : Int32))])) t → Steps p.tables e below (s₁.setTop (entryFrame m #[(.ref a1), .null, (.ref a3)] 6)) t := fun t kt => go35 t (by
      refine st39 _ ?_
      show Steps p.tables e below (T39.setTop (mkF m 40 #[.val (.ref a1), .val .null, .val (.ref a3), .unset, .unset, .unset] [])) _
      refine XS.iconst X39.here hx rfl (hb hby d8_40) ?_
      show Steps p.tables e below (T39.setTop (mkF m 41 #[.val (.ref a1), .val .null, .val (.ref a3), .unset, .unset, .unset] [(.int (0 : Int32))])) _
      refine XS.istoreN X39.here hx rfl (hb hby d8_41) rfl (l' := #[.val (.ref a1), .val .null, .val (.ref a3), .val (.int (0 : Int32)), .unset, .unset]) rfl ?_
      show Steps p.tables e below (T39.setTop (mkF m 42 #[.val (.ref a1), .val .null, .val (.ref a3), .val (.int (0 : Int32)), .unset, .unset] [])) _
      refine XS.iloadN X39.here hx rfl (hb hby d8_42) rfl ?_
      show Steps p.tables e below (T39.setTop (mkF m 43 #[.val (.ref a1), .val .null, .val (.ref a3), .val (.int (0 : Int32)), .unset, .unset] [(.int (0 : Int32))])) _
      refine XS.aloadN X39.here hx rfl (hb hby d8_43) rfl rfl ?_
      show Steps p.tables e below (T39.setTop (mkF m 44 #[.val (.ref a1), .val .null, .val (.ref a3), .val (.int (0 : Int32)), .unset, .unset] [(.ref a1), (.int (0 : Int32))])) _
      exact kt)
  have fr41 := ((Fw10.ext E16).other W24 (Or.inr (slot_ne (Or.inr (own_h hw 88 rfl)) (Or.inr (own_h hw 90 rfl)) (by decide) (t := (.array .int)) (t' := (.array .long)) (by decide) (by decide))))
  have fq42 := ((fr41.ext E30).other W39 (Or.inr (slot_ne (Or.inr (own_h hw 88 rfl)) (Or.inr (own_h hw 92 rfl)) (by decide) (t := (.array .int)) (t' := (.array .long)) (by decide) (by decide))))
  obtain ⟨T43, X43, e43, st43⟩ := getF X39 hx hZ hown (host := "") (Or.inl (own_h hw 87 rfl)) Via.refl e39 fq42 (g := (mkF m 44 #[.val (.ref a1), .val .null, .val (.ref a3), .val (.int (0 : Int32)), .unset, .unset] [(.ref a1), (.int (0 : Int32))])) rfl rfl (hb hby d8_44)
  have go44 : ∀ t, Steps p.tables e below (T43.setTop (mkF m 47 #[.val (.ref a1), .val .null, .val (.ref a3), .val (.int (0 : Int32)), .unset, .unset] [(.ref b6), (.int (0 : Int32))])) t → Steps p.tables e below (s₁.setTop (entryFrame m #[(.ref a1), .null, (.ref a3)] 6)) t := fun t kt => go40 t (by
      refine st43 _ ?_
      show Steps p.tables e below (T43.setTop (mkF m 47 #[.val (.ref a1), .val .null, .val (.ref a3), .val (.int (0 : Int32)), .unset, .unset] [(.ref b6), (.int (0 : Int32))])) _
      exact kt)
  have fq45 := ((fq34.ext E30).other W39 (Ne.symm ne_a1_b6))
  obtain ⟨c46, Ar46, q46⟩ := id fq45
  have hc48_47 : ¬ ((0 : Int32) < (0 : Int32)) := (by decide)
  have go48 : ∀ t, Steps p.tables e below (T43.setTop (mkF m 144 #[.val (.ref a1), .val .null, .val (.ref a3), .val (.int (0 : Int32)), .unset, .unset] [])) t → Steps p.tables e below (s₁.setTop (entryFrame m #[(.ref a1), .null, (.ref a3)] 6)) t := fun t kt => go44 t (by
      refine X43.arraylength hx (by rw [e43]; exact Ar46.1) (State.isArrayOf_alike hZ.alike Ar46.2.1) (g := (mkF m 47 #[.val (.ref a1), .val .null, .val (.ref a3), .val (.int (0 : Int32)), .unset, .unset] [(.ref b6), (.int (0 : Int32))])) rfl rfl (hb hby d8_47) _ ?_
      rw [own_len q46 (n := (0 : Int32)) rfl]
      show Steps p.tables e below (T43.setTop (mkF m 48 #[.val (.ref a1), .val .null, .val (.ref a3), .val (.int (0 : Int32)), .unset, .unset] [(.int (0 : Int32)), (.int (0 : Int32))])) _
      refine XS.icmpYes X43.here hx rfl (pc0 := 48) (pc' := 144) rfl (hb hby d8_48) rfl (flt hc48_47).2.1 (by decide) (by decide) ?_
      show Steps p.tables e below (T43.setTop (mkF m 144 #[.val (.ref a1), .val .null, .val (.ref a3), .val (.int (0 : Int32)), .unset, .unset] [])) _
      exact kt)
  obtain ⟨fs, hr, hrun, hended, hW, hsame⟩ := X43.leave (v := none) (fun _ => rfl)
  refine ⟨_, _, go48 _ (X43.returnOut hx Bd.returns (hb hby d8_144) hr), hrun, hended, _, _, rfl, ?_, ⟨_, rfl⟩, hW, hsame.mono (by decide) (by decide)⟩
  show own_QC _ _ _ _ _ _ _ _ T43.heap _
  rw [e43]
  have kp49 := ((Keep.refl h0 [a1]).ext E6)
  have kp50 := (kp49.wr W10 (Or.inl (List.mem_of_getElem? (i := 0) rfl)))
  have kp51 := (kp50.ext E16)
  have kp52 := (kp51.wr W24 (Or.inl (List.mem_of_getElem? (i := 0) rfl)))
  have kp53 := (kp52.ext E30)
  have fq54 := (fq38.wr W39)
  have fq55 := ((Fw24.ext E30).other W39 (Or.inr (slot_ne (Or.inr (own_h hw 90 rfl)) (Or.inr (own_h hw 92 rfl)) (by decide) (t := (.array .long)) (t' := (.array .long)) (by decide) (by decide))))
  have fq56 := ((fq33.ext E30).other W39 (Ne.symm ne_a1_b16))
  have fq57 := (V30.other W39 (Ne.symm ne_a1_b30))
  exact ⟨b6, b16, b30, rfl, N39, (kp53.wr W39 (Or.inl (List.mem_of_getElem? (i := 0) rfl))), fq54, fq42, fq55, Fw39, fq45, fq56, fq57, sz6, sz16, sz30⟩
abbrev own_m11 : MethodName := ⟨"com/example/invariant_ink/invariantink/engine/Combinations", "<init>", "(Lcom/example/invariant_ink/invariantink/lang/Instance;Ljava/util/List;)V"⟩
theorem d7_0 : decode prog_19_method_2_code 0 = .ok (.aload_n 0, 1) := by decide +kernel
theorem d7_1 : decode prog_19_method_2_code 1 = .ok (.aconst_null, 1) := by decide +kernel
theorem d7_2 : decode prog_19_method_2_code 2 = .ok (.aload_n 1, 1) := by decide +kernel
theorem d7_3 : decode prog_19_method_2_code 3 = .ok (.invokespecial 55, 3) := by decide +kernel
theorem d7_6 : decode prog_19_method_2_code 6 = .ok (.return_, 1) := by decide +kernel
theorem pn_7 : plainName "com/example/invariant_ink/invariantink/engine/Combinations" = true := by first | (simp [plainName, overriddenIn]; done) | decide +kernel
theorem ef_rmC1_0 (m : MethodId) (a1 : Addr) (a3 : Addr) : entryFrame m #[(.ref a1), (.ref a3)] 2 = mkF m 0 #[.val (.ref a1), .val (.ref a3)] [] := by first | (simp [entryFrame, mkF, argsToLocals, Value.category]; done) | rfl
set_option maxRecDepth 65536 in
set_option maxHeartbeats 40000000 in
theorem rmC1_0 (l : Launch) (Z : State) (a0 : Array Value) (hw : ∀ d ∈ tables_1, d.before a0 Z = true) (ws : List Jvm.Cond) (a1 a3 ea : Addr) (mc : Int32) (h0 : Heap) (n0 : Nat) (Z0 : n0 ≤ h0.size) (E0 : Exa Z h0 a1 "com/example/invariant_ink/invariantink/engine/Combinations") (F_slots : Fld Z h0 a1 "com/example/invariant_ink/invariantink/engine/Combinations" "slots" "[I" .null) (F_firsts : Fld Z h0 a1 "com/example/invariant_ink/invariantink/engine/Combinations" "firsts" "[J" .null) (F_lasts : Fld Z h0 a1 "com/example/invariant_ink/invariantink/engine/Combinations" "lasts" "[J" .null) (ga : n0 ≤ a1) (LO : own_LO Z h0 a3 (.ref ea) 0 mc) :
    MetFree l (⟨"com/example/invariant_ink/invariantink/engine/Combinations", "<init>", "(Ljava/util/List;)V"⟩ : MethodName) (head1 (Jvm.Cond.code (⟨"com/example/invariant_ink/invariantink/engine/Combinations", "<init>", "(Ljava/util/List;)V"⟩ : MethodName) prog_19_method_2_code 2 none :: ws) ({ frames := 2, cells := 3, slots := 0, locals := 30 } : Room)) (fun a U => a = #[(.ref a1), (.ref a3)] ∧ Z.Warmed39 U.vm ∧ U.heap = h0) (fun _ _ _ _ _ => True) (fun _ U o U' => ∃ v L, o = .returned v ∧ own_QC Z a1 [] [] [] h0 n0 v U'.heap L ∧ FrameEnd U o U' L ({ frames := 2, cells := 3, slots := 0, locals := 30 } : Room).cells ({ frames := 2, cells := 3, slots := 0, locals := 30 } : Room).slots) := by
  refine MetFree.of_bodySF (plainFor_of_name pn_7) hisR ?_
  intro p e s m args below meth c s₁ Bd hml0 hP hK
  obtain ⟨rfl, hZ, hh⟩ := hP
  have hx := Bd.exec
  have hby := Bd.bytes
  have hml : c.maxLocals = 2 := hml0
  have hown : s.vm.findClass "com/example/invariant_ink/invariantink/engine/Combinations" = some m.cls := findClass_of_methodNamed Bd.named
  have hnm := (name_of_methodNamed Bd.named Bd.method).1
  have X0 : Stand p l e ({ frames := 2, cells := 3, slots := 0, locals := 30 } : Room) s m #[(.ref a1), (.ref a3)] below meth c s₁ [] 0 0 := Stand.of_body Bd
  have e0 : s₁.heap = h0 := by rw [← hh, Bd.state]; rfl
  have N0 := Fr.nil n0
  have go0 : ∀ t, Steps p.tables e below (s₁.setTop (mkF m 0 #[.val (.ref a1), .val (.ref a3)] [])) t → Steps p.tables e below (s₁.setTop (entryFrame m #[(.ref a1), (.ref a3)] 2)) t := fun t k => castTop (ef_rmC1_0 m a1 a3) k
  have go1 : ∀ t, Steps p.tables e below (s₁.setTop (mkF m 3 #[.val (.ref a1), .val (.ref a3)] [(.ref a3), .null, (.ref a1)])) t → Steps p.tables e below (s₁.setTop (entryFrame m #[(.ref a1), (.ref a3)] 2)) t := fun t kt => go0 t (by
      refine XS.aloadN X0.here hx rfl (hb hby d7_0) rfl rfl ?_
      show Steps p.tables e below (s₁.setTop (mkF m 1 #[.val (.ref a1), .val (.ref a3)] [(.ref a1)])) _
      refine XS.aconstNull X0.here hx rfl (hb hby d7_1) ?_
      show Steps p.tables e below (s₁.setTop (mkF m 2 #[.val (.ref a1), .val (.ref a3)] [.null, (.ref a1)])) _
      refine XS.aloadN X0.here hx rfl (hb hby d7_2) rfl rfl ?_
      show Steps p.tables e below (s₁.setTop (mkF m 3 #[.val (.ref a1), .val (.ref a3)] [(.ref a3), .null, (.ref a1)])) _
      exact kt)
  obtain ⟨_, _, ⟨T2, L2, k2, n2⟩, -, X2, ⟨Lc2, hQ2, l2, y2, z2⟩, st2⟩ := X0.specialBack hx (y := own_m11) rfl hown (mvT hZ (own_h hw 71 rfl)) (mvT hZ (own_h hw 72 rfl)) (mvT hZ (own_h hw 73 rfl)) (by decide) (backOf (W := 0) (rmC2_0 l Z a0 hw [] a1 a3 ea mc h0 n0 Z0 E0 F_slots F_firsts F_lasts ga LO) hZ (own_h hw 73 rfl) (own_h hw 67 rfl) (by decide) (by decide)) (g := (mkF m 3 #[.val (.ref a1), .val (.ref a3)] [(.ref a3), .null, (.ref a1)])) rfl (by rw [hml]; rfl) (Steps.refl _) (a := a1) (argsL := [.null, (.ref a3)]) (rest := []) (lenOf pd_4 rfl) rfl (by show 2 * 0 + _ ≤ _; exact Nat.le_of_eq rfl) (hb hby d7_3) (fun _ _ => ⟨rfl, e0, (by decide : 0 + 3 ≤ _), (by decide : 0 + 0 ≤ _)⟩)
  dsimp only [Pt.U, Pt.locs, Pt.cells, Pt.slots] at X2 l2 y2 z2 st2 hQ2
  subst y2 z2
  obtain ⟨x2, y2, z2, rfl, N2q, r2⟩ := hQ2
  have N2 := Fr.app N0 N2q
  rw [← l2] at N2
  have go3 : ∀ t, Steps p.tables e below (T2.setTop (mkF m 6 #[.val (.ref a1), .val (.ref a3)] [])) t → Steps p.tables e below (s₁.setTop (entryFrame m #[(.ref a1), (.ref a3)] 2)) t := fun t kt => go1 t (by
      refine st2.trans ?_
      show Steps p.tables e below (T2.setTop (mkF m 6 #[.val (.ref a1), .val (.ref a3)] [])) _
      exact kt)
  obtain ⟨fs, hr, hrun, hended, hW, hsame⟩ := X2.leave (v := none) (fun _ => rfl)
  refine ⟨_, _, go3 _ (X2.returnOut hx Bd.returns (hb hby d7_6) hr), hrun, hended, _, _, rfl, ?_, ⟨_, rfl⟩, hW, hsame.mono (by decide) (by decide)⟩
  exact ⟨x2, y2, z2, rfl, N2, r2⟩
abbrev own_m12 : MethodName := ⟨"java/util/List", "get", "(I)Ljava/lang/Object;"⟩
abbrev own_m13 : MethodName := ⟨"java/util/ArrayList", "get", "(I)Ljava/lang/Object;"⟩
abbrev own_m14 : MethodName := ⟨"com/example/invariant_ink/invariantink/lang/Local", "getType", "()Lcom/example/invariant_ink/invariantink/lang/Type;"⟩
abbrev own_m15 : MethodName := ⟨"com/example/invariant_ink/invariantink/lang/Local", "getSlot", "()I"⟩
abbrev own_m16 : MethodName := ⟨"com/example/invariant_ink/invariantink/lang/SimpleType", "first", "()J"⟩
abbrev own_m17 : MethodName := ⟨"com/example/invariant_ink/invariantink/lang/RangeType", "first", "()J"⟩
abbrev own_m18 : MethodName := ⟨"com/example/invariant_ink/invariantink/lang/FiniteType", "last", "()J"⟩
abbrev own_m19 : MethodName := ⟨"com/example/invariant_ink/invariantink/lang/RangeType", "last", "()J"⟩
theorem d8_51 : decode prog_19_method_1_code 51 = .ok (.aload_n 2, 1) := by decide +kernel
theorem d8_52 : decode prog_19_method_1_code 52 = .ok (.iload_n 3, 1) := by decide +kernel
theorem d8_53 : decode prog_19_method_1_code 53 = .ok (.invokeinterface 26 2, 5) := by decide +kernel
theorem d8_58 : decode prog_19_method_1_code 58 = .ok (.checkcast 30, 3) := by decide +kernel
theorem d8_61 : decode prog_19_method_1_code 61 = .ok (.invokevirtual 32, 3) := by decide +kernel
theorem d8_64 : decode prog_19_method_1_code 64 = .ok (.checkcast 36, 3) := by decide +kernel
theorem d8_67 : decode prog_19_method_1_code 67 = .ok (.astore 4, 2) := by decide +kernel
theorem d8_69 : decode prog_19_method_1_code 69 = .ok (.aload_n 0, 1) := by decide +kernel
theorem d8_70 : decode prog_19_method_1_code 70 = .ok (.getfield 13, 3) := by decide +kernel
theorem d8_73 : decode prog_19_method_1_code 73 = .ok (.iload_n 3, 1) := by decide +kernel
theorem d8_74 : decode prog_19_method_1_code 74 = .ok (.aload_n 2, 1) := by decide +kernel
theorem d8_75 : decode prog_19_method_1_code 75 = .ok (.iload_n 3, 1) := by decide +kernel
theorem d8_76 : decode prog_19_method_1_code 76 = .ok (.invokeinterface 26 2, 5) := by decide +kernel
theorem d8_81 : decode prog_19_method_1_code 81 = .ok (.checkcast 30, 3) := by decide +kernel
theorem d8_84 : decode prog_19_method_1_code 84 = .ok (.invokevirtual 38, 3) := by decide +kernel
theorem d8_87 : decode prog_19_method_1_code 87 = .ok (.iastore, 1) := by decide +kernel
theorem d8_88 : decode prog_19_method_1_code 88 = .ok (.aload_n 0, 1) := by decide +kernel
theorem d8_89 : decode prog_19_method_1_code 89 = .ok (.getfield 19, 3) := by decide +kernel
theorem d8_92 : decode prog_19_method_1_code 92 = .ok (.iload_n 3, 1) := by decide +kernel
theorem d8_93 : decode prog_19_method_1_code 93 = .ok (.aload 4, 2) := by decide +kernel
theorem d8_95 : decode prog_19_method_1_code 95 = .ok (.invokeinterface 41 1, 5) := by decide +kernel
theorem d8_100 : decode prog_19_method_1_code 100 = .ok (.lastore, 1) := by decide +kernel
theorem d8_101 : decode prog_19_method_1_code 101 = .ok (.aload_n 0, 1) := by decide +kernel
theorem d8_102 : decode prog_19_method_1_code 102 = .ok (.getfield 23, 3) := by decide +kernel
theorem d8_105 : decode prog_19_method_1_code 105 = .ok (.iload_n 3, 1) := by decide +kernel
theorem d8_106 : decode prog_19_method_1_code 106 = .ok (.aload 4, 2) := by decide +kernel
theorem d8_108 : decode prog_19_method_1_code 108 = .ok (.instanceof 45, 3) := by decide +kernel
theorem d8_111 : decode prog_19_method_1_code 111 = .ok (.ifCond .eq 20, 3) := by decide +kernel
theorem d8_114 : decode prog_19_method_1_code 114 = .ok (.aload 4, 2) := by decide +kernel
theorem d8_116 : decode prog_19_method_1_code 116 = .ok (.checkcast 45, 3) := by decide +kernel
theorem d8_119 : decode prog_19_method_1_code 119 = .ok (.astore 5, 2) := by decide +kernel
theorem d8_121 : decode prog_19_method_1_code 121 = .ok (.aload 5, 2) := by decide +kernel
theorem d8_123 : decode prog_19_method_1_code 123 = .ok (.invokeinterface 47 1, 5) := by decide +kernel
theorem d8_128 : decode prog_19_method_1_code 128 = .ok (.goto 9, 3) := by decide +kernel
theorem d8_137 : decode prog_19_method_1_code 137 = .ok (.lastore, 1) := by decide +kernel
theorem d8_138 : decode prog_19_method_1_code 138 = .ok (.iinc 3 1, 3) := by decide +kernel
theorem d8_141 : decode prog_19_method_1_code 141 = .ok (.goto (-99), 3) := by decide +kernel
theorem ef_rmC2_1 (m : MethodId) (a1 : Addr) (a3 : Addr) : entryFrame m #[(.ref a1), .null, (.ref a3)] 6 = mkF m 0 #[.val (.ref a1), .val .null, .val (.ref a3), .unset, .unset, .unset] [] := by first | (simp [entryFrame, mkF, argsToLocals, Value.category]; done) | rfl
set_option maxRecDepth 65536 in
set_option maxHeartbeats 40000000 in
theorem rmC2_1 (l : Launch) (Z : State) (a0 : Array Value) (hw : ∀ d ∈ tables_1, d.before a0 Z = true) (ws : List Jvm.Cond) (a1 a3 ea : Addr) (mc : Int32) (l0 t0 : Addr) (s0 : Int32) (f0 u0 : Int64) (h0 : Heap) (n0 : Nat) (Z0 : n0 ≤ h0.size) (E0 : Exa Z h0 a1 "com/example/invariant_ink/invariantink/engine/Combinations") (F_slots : Fld Z h0 a1 "com/example/invariant_ink/invariantink/engine/Combinations" "slots" "[I" .null) (F_firsts : Fld Z h0 a1 "com/example/invariant_ink/invariantink/engine/Combinations" "firsts" "[J" .null) (F_lasts : Fld Z h0 a1 "com/example/invariant_ink/invariantink/engine/Combinations" "lasts" "[J" .null) (ga : n0 ≤ a1) (LO : own_LO Z h0 a3 (.ref ea) 1 mc) (EV0 : own_AVO Z h0 ea [(.ref l0), .null, .null, .null, .null, .null, .null, .null, .null, .null]) (EL0 : Exa Z h0 l0 "com/example/invariant_ink/invariantink/lang/Local") (FS0 : Fld Z h0 l0 "com/example/invariant_ink/invariantink/lang/Local" "slot" "I" (.int s0)) (FT0 : Fld Z h0 l0 "com/example/invariant_ink/invariantink/lang/Local" "type" "Lcom/example/invariant_ink/invariantink/lang/Type;" (.ref t0)) (ET0 : Exa Z h0 t0 "com/example/invariant_ink/invariantink/lang/RangeType") (FL0 : Fld Z h0 t0 "com/example/invariant_ink/invariantink/lang/RangeType" "low" "J" (.long f0)) (FH0 : Fld Z h0 t0 "com/example/invariant_ink/invariantink/lang/RangeType" "high" "J" (.long u0)) :
    MetFree l (⟨"com/example/invariant_ink/invariantink/engine/Combinations", "<init>", "(Lcom/example/invariant_ink/invariantink/lang/Instance;Ljava/util/List;)V"⟩ : MethodName) (head1 (Jvm.Cond.code (⟨"com/example/invariant_ink/invariantink/engine/Combinations", "<init>", "(Lcom/example/invariant_ink/invariantink/lang/Instance;Ljava/util/List;)V"⟩ : MethodName) prog_19_method_1_code 6 none :: ws) ({ frames := 3, cells := 3, slots := 3, locals := 42 } : Room)) (fun a U => a = #[(.ref a1), .null, (.ref a3)] ∧ Z.Warmed39 U.vm ∧ U.heap = h0) (fun _ _ _ _ _ => True) (fun _ U o U' => ∃ v L, o = .returned v ∧ own_QC Z a1 [(.int s0)] [(.long f0)] [(.long u0)] h0 n0 v U'.heap L ∧ FrameEnd U o U' L ({ frames := 3, cells := 3, slots := 3, locals := 42 } : Room).cells ({ frames := 3, cells := 3, slots := 3, locals := 42 } : Room).slots) := by
  refine MetFree.of_bodySF (plainFor_of_name pn_8) hisR ?_
  intro p e s m args below meth c s₁ Bd hml0 hP hK
  obtain ⟨rfl, hZ, hh⟩ := hP
  have hx := Bd.exec
  have hby := Bd.bytes
  have hml : c.maxLocals = 6 := hml0
  have hown : s.vm.findClass "com/example/invariant_ink/invariantink/engine/Combinations" = some m.cls := findClass_of_methodNamed Bd.named
  have hnm := (name_of_methodNamed Bd.named Bd.method).1
  have X0 : Stand p l e ({ frames := 3, cells := 3, slots := 3, locals := 42 } : Room) s m #[(.ref a1), .null, (.ref a3)] below meth c s₁ [] 0 0 := Stand.of_body Bd
  have e0 : s₁.heap = h0 := by rw [← hh, Bd.state]; rfl
  have N0 := Fr.nil n0
  have go0 : ∀ t, Steps p.tables e below (s₁.setTop (mkF m 0 #[.val (.ref a1), .val .null, .val (.ref a3), .unset, .unset, .unset] [])) t → Steps p.tables e below (s₁.setTop (entryFrame m #[(.ref a1), .null, (.ref a3)] 6)) t := fun t k => castTop (ef_rmC2_1 m a1 a3) k
  obtain ⟨OE, OF1, OF2, OF3⟩ := id LO
  have na3 : a3 ≠ a1 := Exa.ne OE E0 (by decide)
  have ne0 : a1 ≠ ea := by obtain ⟨_, A, _⟩ := EV0; exact ne_arr E0 (own_h hw 66 rfl) A
  have nl0 : l0 ≠ a1 := Exa.ne EL0 E0 (by decide)
  have nt0 : t0 ≠ a1 := Exa.ne ET0 E0 (by decide)
  have go1 : ∀ t, Steps p.tables e below (s₁.setTop (mkF m 1 #[.val (.ref a1), .val .null, .val (.ref a3), .unset, .unset, .unset] [(.ref a1)])) t → Steps p.tables e below (s₁.setTop (entryFrame m #[(.ref a1), .null, (.ref a3)] 6)) t := fun t kt => go0 t (by
      refine XS.aloadN X0.here hx rfl (hb hby d8_0) rfl rfl ?_
      show Steps p.tables e below (s₁.setTop (mkF m 1 #[.val (.ref a1), .val .null, .val (.ref a3), .unset, .unset, .unset] [(.ref a1)])) _
      exact kt)
  obtain ⟨T2, X2, e2, st2⟩ := initO X0 hx hZ hown (own_h hw 74 rfl) (own_h hw 8 rfl) (own_h hw 9 rfl) e0 (g := (mkF m 1 #[.val (.ref a1), .val .null, .val (.ref a3), .unset, .unset, .unset] [(.ref a1)])) rfl (by rw [hml]; rfl) rfl (hb hby d8_1) (by decide) (W := 0) (by show 2 * 0 + _ ≤ _; exact Nat.le_of_eq rfl) (by decide)
  have go3 : ∀ t, Steps p.tables e below (T2.setTop (mkF m 6 #[.val (.ref a1), .val .null, .val (.ref a3), .unset, .unset, .unset] [(.ref a3), (.ref a1)])) t → Steps p.tables e below (s₁.setTop (entryFrame m #[(.ref a1), .null, (.ref a3)] 6)) t := fun t kt => go1 t (by
      refine st2 _ ?_
      show Steps p.tables e below (T2.setTop (mkF m 4 #[.val (.ref a1), .val .null, .val (.ref a3), .unset, .unset, .unset] [])) _
      refine XS.aloadN X2.here hx rfl (hb hby d8_4) rfl rfl ?_
      show Steps p.tables e below (T2.setTop (mkF m 5 #[.val (.ref a1), .val .null, .val (.ref a3), .unset, .unset, .unset] [(.ref a1)])) _
      refine XS.aloadN X2.here hx rfl (hb hby d8_5) rfl rfl ?_
      show Steps p.tables e below (T2.setTop (mkF m 6 #[.val (.ref a1), .val .null, .val (.ref a3), .unset, .unset, .unset] [(.ref a3), (.ref a1)])) _
      exact kt)
  obtain ⟨cq4, kq4, q4a, q4b, q4c⟩ := isOf hZ e2 OE
  obtain ⟨_, _, ⟨T4, L4, k4, n4⟩, -, X4, ⟨Lc4, hQ4, l4, y4, z4⟩, st4⟩ := X2.interfaceBack hx (xi := own_m9) (y := own_m10) hown (mvT hZ (own_h hw 75 rfl)) (mvT hZ (own_h hw 76 rfl)) (mvT hZ (own_h hw 77 rfl)) (mvT hZ (own_h hw 78 rfl)) (mvT hZ (own_h hw 79 rfl)) (mvT hZ (own_h hw 80 rfl)) (mvT hZ (own_h hw 81 rfl)) (mvT hZ (own_h hw 82 rfl)) (by decide) (backOf (W := 1) (rm9 l Z a0 hw [] a3 (1 : Int32) h0 n0 OF2) hZ (own_h hw 83 rfl) (own_h hw 43 rfl) (by decide) (by decide)) q4a q4b q4c (g := (mkF m 6 #[.val (.ref a1), .val .null, .val (.ref a3), .unset, .unset, .unset] [(.ref a3), (.ref a1)])) rfl (by rw [hml]; rfl) (Steps.refl _) (argsL := []) (rest := [(.ref a1)]) (lenOf pd_5 rfl) rfl (by show 2 * 0 + _ ≤ _; exact Nat.le_of_eq rfl) (hb hby d8_6) (fun _ _ => ⟨rfl, e2, (by decide : 0 + 0 ≤ _), (by decide : 0 + 0 ≤ _)⟩)
  dsimp only [Pt.U, Pt.locs, Pt.cells, Pt.slots] at X4 l4 y4 z4 st4 hQ4
  subst y4 z4
  obtain ⟨rfl, N4q, e4⟩ := hQ4
  have N4 := Fr.app N0 N4q
  rw [← l4] at N4
  have go5 : ∀ t, Steps p.tables e below (T4.setTop (mkF m 11 #[.val (.ref a1), .val .null, .val (.ref a3), .unset, .unset, .unset] [(.int (1 : Int32)), (.ref a1)])) t → Steps p.tables e below (s₁.setTop (entryFrame m #[(.ref a1), .null, (.ref a3)] 6)) t := fun t kt => go3 t (by
      refine st4.trans ?_
      show Steps p.tables e below (T4.setTop (mkF m 11 #[.val (.ref a1), .val .null, .val (.ref a3), .unset, .unset, .unset] [(.int (1 : Int32)), (.ref a1)])) _
      exact kt)
  obtain ⟨T6, h6, k6, X6, e6, E6, A6, st6⟩ := newP X4 hx hZ (own_h hw 86 rfl) e4 (g := (mkF m 11 #[.val (.ref a1), .val .null, .val (.ref a3), .unset, .unset, .unset] [(.int (1 : Int32)), (.ref a1)])) rfl (hb hby d8_11) rfl (by decide) (cap := 1) (by decide) (by decide) (by decide) (by decide)
  obtain ⟨b6, g6⟩ : ∃ z, z = h0.size := ⟨_, rfl⟩
  rw [← g6] at A6 st6
  have ks6 : h0.size ≤ h0.size := Nat.le_refl _
  have sz6 : h0.size ≤ b6 := Nat.le_trans ks6 (Nat.le_of_eq g6.symm)
  have ne_a1_b6 : a1 ≠ b6 := Nat.ne_of_lt (Nat.lt_of_lt_of_le E0.lt (Nat.le_of_eq g6.symm))
  have ne_a3_b6 : a3 ≠ b6 := Nat.ne_of_lt (Nat.lt_of_lt_of_le OE.lt (Nat.le_of_eq g6.symm))
  have ne_ea_b6 : ea ≠ b6 := Nat.ne_of_lt (Nat.lt_of_lt_of_le EV0.lt (Nat.le_of_eq g6.symm))
  have ne_l0_b6 : l0 ≠ b6 := Nat.ne_of_lt (Nat.lt_of_lt_of_le EL0.lt (Nat.le_of_eq g6.symm))
  have ne_t0_b6 : t0 ≠ b6 := Nat.ne_of_lt (Nat.lt_of_lt_of_le ET0.lt (Nat.le_of_eq g6.symm))
  have V6 : own_AV Z h6 b6 .int [(.int (0 : Int32))] := own_AV.new A6 (i := 1) (by decide)
  have gb6 : n0 ≤ b6 := Nat.le_trans Z0 (Nat.le_of_eq g6.symm)
  have go7 : ∀ t, Steps p.tables e below (T6.setTop (mkF m 13 #[.val (.ref a1), .val .null, .val (.ref a3), .unset, .unset, .unset] [(.ref b6), (.ref a1)])) t → Steps p.tables e below (s₁.setTop (entryFrame m #[(.ref a1), .null, (.ref a3)] 6)) t := fun t kt => go5 t (by
      refine st6 _ ?_
      show Steps p.tables e below (T6.setTop (mkF m 13 #[.val (.ref a1), .val .null, .val (.ref a3), .unset, .unset, .unset] [(.ref b6), (.ref a1)])) _
      exact kt)
  have fq8 := (F_slots.ext E6)
  have fq9 := (E0.ext E6)
  obtain ⟨T10, h10, X10, e10, W10, st10⟩ := putF X6 hx hZ hown (host := "") (Or.inl (own_h hw 87 rfl)) Via.refl e6 fq8 fq9 (Or.inr ⟨(own_h hw 88 rfl), rfl, hnm⟩) (own_h hw 66 rfl) (ty := (.array .int)) (by decide) rfl rfl (g := (mkF m 13 #[.val (.ref a1), .val .null, .val (.ref a3), .unset, .unset, .unset] [(.ref b6), (.ref a1)])) rfl rfl (hb hby d8_13)
  have Fw10 := fq8.same W10
  obtain ⟨Ls10, X10, N10⟩ := own_loc X10 (Fr.snoc X10 N4 ga)
  have go11 : ∀ t, Steps p.tables e below (T10.setTop (mkF m 18 #[.val (.ref a1), .val .null, .val (.ref a3), .unset, .unset, .unset] [(.ref a3), (.ref a1)])) t → Steps p.tables e below (s₁.setTop (entryFrame m #[(.ref a1), .null, (.ref a3)] 6)) t := fun t kt => go7 t (by
      refine st10 _ ?_
      show Steps p.tables e below (T10.setTop (mkF m 16 #[.val (.ref a1), .val .null, .val (.ref a3), .unset, .unset, .unset] [])) _
      refine XS.aloadN X10.here hx rfl (hb hby d8_16) rfl rfl ?_
      show Steps p.tables e below (T10.setTop (mkF m 17 #[.val (.ref a1), .val .null, .val (.ref a3), .unset, .unset, .unset] [(.ref a1)])) _
      refine XS.aloadN X10.here hx rfl (hb hby d8_17) rfl rfl ?_
      show Steps p.tables e below (T10.setTop (mkF m 18 #[.val (.ref a1), .val .null, .val (.ref a3), .unset, .unset, .unset] [(.ref a3), (.ref a1)])) _
      exact kt)
  have fq13 := ((OF2.ext E6).other W10 (Or.inl na3))
  have fq14 := ((OE.ext E6).wr W10)
  obtain ⟨cq12, kq12, q12a, q12b, q12c⟩ := isOf hZ e10 fq14
  obtain ⟨_, _, ⟨T12, L12, k12, n12⟩, -, X12, ⟨Lc12, hQ12, l12, y12, z12⟩, st12⟩ := X10.interfaceBack hx (xi := own_m9) (y := own_m10) hown (mvT hZ (own_h hw 75 rfl)) (mvT hZ (own_h hw 76 rfl)) (mvT hZ (own_h hw 77 rfl)) (mvT hZ (own_h hw 78 rfl)) (mvT hZ (own_h hw 79 rfl)) (mvT hZ (own_h hw 80 rfl)) (mvT hZ (own_h hw 81 rfl)) (mvT hZ (own_h hw 82 rfl)) (by decide) (backOf (W := 1) (rm9 l Z a0 hw [] a3 (1 : Int32) h10 n0 fq13) hZ (own_h hw 83 rfl) (own_h hw 43 rfl) (by decide) (by decide)) q12a q12b q12c (g := (mkF m 18 #[.val (.ref a1), .val .null, .val (.ref a3), .unset, .unset, .unset] [(.ref a3), (.ref a1)])) rfl (by rw [hml]; rfl) (Steps.refl _) (argsL := []) (rest := [(.ref a1)]) (lenOf pd_5 rfl) rfl (by show 2 * 0 + _ ≤ _; exact Nat.le_of_eq rfl) (hb hby d8_18) (fun _ _ => ⟨rfl, e10, (by decide : 1 + 0 ≤ _), (by decide : 1 + 0 ≤ _)⟩)
  dsimp only [Pt.U, Pt.locs, Pt.cells, Pt.slots] at X12 l12 y12 z12 st12 hQ12
  subst y12 z12
  obtain ⟨rfl, N12q, e12⟩ := hQ12
  have N12 := Fr.app N10 N12q
  rw [← l12] at N12
  have go15 : ∀ t, Steps p.tables e below (T12.setTop (mkF m 23 #[.val (.ref a1), .val .null, .val (.ref a3), .unset, .unset, .unset] [(.int (1 : Int32)), (.ref a1)])) t → Steps p.tables e below (s₁.setTop (entryFrame m #[(.ref a1), .null, (.ref a3)] 6)) t := fun t kt => go11 t (by
      refine st12.trans ?_
      show Steps p.tables e below (T12.setTop (mkF m 23 #[.val (.ref a1), .val .null, .val (.ref a3), .unset, .unset, .unset] [(.int (1 : Int32)), (.ref a1)])) _
      exact kt)
  have zs17 := (Nat.le_trans (Nat.le_trans Z0 E6.1) (Keep.of_wr W10).1)
  obtain ⟨T16, h16, k16, X16, e16, E16, A16, st16⟩ := newP X12 hx hZ (own_h hw 0 rfl) e12 (g := (mkF m 23 #[.val (.ref a1), .val .null, .val (.ref a3), .unset, .unset, .unset] [(.int (1 : Int32)), (.ref a1)])) rfl (hb hby d8_23) rfl (by decide) (cap := 1) (by decide) (by decide) (by decide) (by decide)
  obtain ⟨b16, g16⟩ : ∃ z, z = h10.size := ⟨_, rfl⟩
  rw [← g16] at A16 st16
  have ks16 : h0.size ≤ h10.size := Nat.le_trans (Nat.le_trans (ks6) E6.1) (Keep.of_wr W10).1
  have sz16 : h0.size ≤ b16 := Nat.le_trans ks16 (Nat.le_of_eq g16.symm)
  have fq18 := (fq9.wr W10)
  have ne_a1_b16 : a1 ≠ b16 := Nat.ne_of_lt (Nat.lt_of_lt_of_le fq18.lt (Nat.le_of_eq g16.symm))
  have ne_a3_b16 : a3 ≠ b16 := Nat.ne_of_lt (Nat.lt_of_lt_of_le fq14.lt (Nat.le_of_eq g16.symm))
  have fq19 := (V6.other W10 (Ne.symm ne_a1_b6))
  have ne_b6_b16 : b6 ≠ b16 := Nat.ne_of_lt (Nat.lt_of_lt_of_le fq19.lt (Nat.le_of_eq g16.symm))
  have fq20 := ((EV0.ext E6).other W10 (Ne.symm ne0))
  have ne_ea_b16 : ea ≠ b16 := Nat.ne_of_lt (Nat.lt_of_lt_of_le fq20.lt (Nat.le_of_eq g16.symm))
  have fq21 := ((EL0.ext E6).wr W10)
  have ne_l0_b16 : l0 ≠ b16 := Nat.ne_of_lt (Nat.lt_of_lt_of_le fq21.lt (Nat.le_of_eq g16.symm))
  have fq22 := ((ET0.ext E6).wr W10)
  have ne_t0_b16 : t0 ≠ b16 := Nat.ne_of_lt (Nat.lt_of_lt_of_le fq22.lt (Nat.le_of_eq g16.symm))
  have V16 : own_AV Z h16 b16 .long [(.long (0 : Int64))] := own_AV.new A16 (i := 1) (by decide)
  have gb16 : n0 ≤ b16 := Nat.le_trans zs17 (Nat.le_of_eq g16.symm)
  have go23 : ∀ t, Steps p.tables e below (T16.setTop (mkF m 25 #[.val (.ref a1), .val .null, .val (.ref a3), .unset, .unset, .unset] [(.ref b16), (.ref a1)])) t → Steps p.tables e below (s₁.setTop (entryFrame m #[(.ref a1), .null, (.ref a3)] 6)) t := fun t kt => go15 t (by
      refine st16 _ ?_
      show Steps p.tables e below (T16.setTop (mkF m 25 #[.val (.ref a1), .val .null, .val (.ref a3), .unset, .unset, .unset] [(.ref b16), (.ref a1)])) _
      exact kt)
  have fr24 := ((F_firsts.ext E6).other W10 (Or.inr (slot_ne (Or.inr (own_h hw 90 rfl)) (Or.inr (own_h hw 88 rfl)) (by decide) (t := (.array .long)) (t' := (.array .int)) (by decide) (by decide))))
  have fq25 := (fr24.ext E16)
  have fq26 := (fq18.ext E16)
  obtain ⟨T27, h27, X27, e27, W27, st27⟩ := putF X16 hx hZ hown (host := "") (Or.inl (own_h hw 89 rfl)) Via.refl e16 fq25 fq26 (Or.inr ⟨(own_h hw 90 rfl), rfl, hnm⟩) (own_h hw 66 rfl) (ty := (.array .long)) (by decide) rfl rfl (g := (mkF m 25 #[.val (.ref a1), .val .null, .val (.ref a3), .unset, .unset, .unset] [(.ref b16), (.ref a1)])) rfl rfl (hb hby d8_25)
  have Fw27 := fq25.same W27
  obtain ⟨Ls27, X27, N27⟩ := own_loc X27 (Fr.snoc X27 N12 ga)
  have go28 : ∀ t, Steps p.tables e below (T27.setTop (mkF m 30 #[.val (.ref a1), .val .null, .val (.ref a3), .unset, .unset, .unset] [(.ref a3), (.ref a1)])) t → Steps p.tables e below (s₁.setTop (entryFrame m #[(.ref a1), .null, (.ref a3)] 6)) t := fun t kt => go23 t (by
      refine st27 _ ?_
      show Steps p.tables e below (T27.setTop (mkF m 28 #[.val (.ref a1), .val .null, .val (.ref a3), .unset, .unset, .unset] [])) _
      refine XS.aloadN X27.here hx rfl (hb hby d8_28) rfl rfl ?_
      show Steps p.tables e below (T27.setTop (mkF m 29 #[.val (.ref a1), .val .null, .val (.ref a3), .unset, .unset, .unset] [(.ref a1)])) _
      refine XS.aloadN X27.here hx rfl (hb hby d8_29) rfl rfl ?_
      show Steps p.tables e below (T27.setTop (mkF m 30 #[.val (.ref a1), .val .null, .val (.ref a3), .unset, .unset, .unset] [(.ref a3), (.ref a1)])) _
      exact kt)
  have fq30 := ((fq13.ext E16).other W27 (Or.inl na3))
  have fq31 := ((fq14.ext E16).wr W27)
  obtain ⟨cq29, kq29, q29a, q29b, q29c⟩ := isOf hZ e27 fq31
  obtain ⟨_, _, ⟨T29, L29, k29, n29⟩, -, X29, ⟨Lc29, hQ29, l29, y29, z29⟩, st29⟩ := X27.interfaceBack hx (xi := own_m9) (y := own_m10) hown (mvT hZ (own_h hw 75 rfl)) (mvT hZ (own_h hw 76 rfl)) (mvT hZ (own_h hw 77 rfl)) (mvT hZ (own_h hw 78 rfl)) (mvT hZ (own_h hw 79 rfl)) (mvT hZ (own_h hw 80 rfl)) (mvT hZ (own_h hw 81 rfl)) (mvT hZ (own_h hw 82 rfl)) (by decide) (backOf (W := 1) (rm9 l Z a0 hw [] a3 (1 : Int32) h27 n0 fq30) hZ (own_h hw 83 rfl) (own_h hw 43 rfl) (by decide) (by decide)) q29a q29b q29c (g := (mkF m 30 #[.val (.ref a1), .val .null, .val (.ref a3), .unset, .unset, .unset] [(.ref a3), (.ref a1)])) rfl (by rw [hml]; rfl) (Steps.refl _) (argsL := []) (rest := [(.ref a1)]) (lenOf pd_5 rfl) rfl (by show 2 * 0 + _ ≤ _; exact Nat.le_of_eq rfl) (hb hby d8_30) (fun _ _ => ⟨rfl, e27, (by decide : 2 + 0 ≤ _), (by decide : 2 + 0 ≤ _)⟩)
  dsimp only [Pt.U, Pt.locs, Pt.cells, Pt.slots] at X29 l29 y29 z29 st29 hQ29
  subst y29 z29
  obtain ⟨rfl, N29q, e29⟩ := hQ29
  have N29 := Fr.app N27 N29q
  rw [← l29] at N29
  have go32 : ∀ t, Steps p.tables e below (T29.setTop (mkF m 35 #[.val (.ref a1), .val .null, .val (.ref a3), .unset, .unset, .unset] [(.int (1 : Int32)), (.ref a1)])) t → Steps p.tables e below (s₁.setTop (entryFrame m #[(.ref a1), .null, (.ref a3)] 6)) t := fun t kt => go28 t (by
      refine st29.trans ?_
      show Steps p.tables e below (T29.setTop (mkF m 35 #[.val (.ref a1), .val .null, .val (.ref a3), .unset, .unset, .unset] [(.int (1 : Int32)), (.ref a1)])) _
      exact kt)
  have zs34 := (Nat.le_trans (Nat.le_trans zs17 E16.1) (Keep.of_wr W27).1)
  obtain ⟨T33, h33, k33, X33, e33, E33, A33, st33⟩ := newP X29 hx hZ (own_h hw 0 rfl) e29 (g := (mkF m 35 #[.val (.ref a1), .val .null, .val (.ref a3), .unset, .unset, .unset] [(.int (1 : Int32)), (.ref a1)])) rfl (hb hby d8_35) rfl (by decide) (cap := 1) (by decide) (by decide) (by decide) (by decide)
  obtain ⟨b33, g33⟩ : ∃ z, z = h27.size := ⟨_, rfl⟩
  rw [← g33] at A33 st33
  have ks33 : h0.size ≤ h27.size := Nat.le_trans (Nat.le_trans (ks16) E16.1) (Keep.of_wr W27).1
  have sz33 : h0.size ≤ b33 := Nat.le_trans ks33 (Nat.le_of_eq g33.symm)
  have fq35 := (fq26.wr W27)
  have ne_a1_b33 : a1 ≠ b33 := Nat.ne_of_lt (Nat.lt_of_lt_of_le fq35.lt (Nat.le_of_eq g33.symm))
  have ne_a3_b33 : a3 ≠ b33 := Nat.ne_of_lt (Nat.lt_of_lt_of_le fq31.lt (Nat.le_of_eq g33.symm))
  have fq36 := (V16.other W27 (Ne.symm ne_a1_b16))
  have ne_b16_b33 : b16 ≠ b33 := Nat.ne_of_lt (Nat.lt_of_lt_of_le fq36.lt (Nat.le_of_eq g33.symm))
  have fq37 := ((fq19.ext E16).other W27 (Ne.symm ne_a1_b6))
  have ne_b6_b33 : b6 ≠ b33 := Nat.ne_of_lt (Nat.lt_of_lt_of_le fq37.lt (Nat.le_of_eq g33.symm))
  have fq38 := ((fq20.ext E16).other W27 (Ne.symm ne0))
  have ne_ea_b33 : ea ≠ b33 := Nat.ne_of_lt (Nat.lt_of_lt_of_le fq38.lt (Nat.le_of_eq g33.symm))
  have fq39 := ((fq21.ext E16).wr W27)
  have ne_l0_b33 : l0 ≠ b33 := Nat.ne_of_lt (Nat.lt_of_lt_of_le fq39.lt (Nat.le_of_eq g33.symm))
  have fq40 := ((fq22.ext E16).wr W27)
  have ne_t0_b33 : t0 ≠ b33 := Nat.ne_of_lt (Nat.lt_of_lt_of_le fq40.lt (Nat.le_of_eq g33.symm))
  have V33 : own_AV Z h33 b33 .long [(.long (0 : Int64))] := own_AV.new A33 (i := 1) (by decide)
  have gb33 : n0 ≤ b33 := Nat.le_trans zs34 (Nat.le_of_eq g33.symm)
  have go41 : ∀ t, Steps p.tables e below (T33.setTop (mkF m 37 #[.val (.ref a1), .val .null, .val (.ref a3), .unset, .unset, .unset] [(.ref b33), (.ref a1)])) t → Steps p.tables e below (s₁.setTop (entryFrame m #[(.ref a1), .null, (.ref a3)] 6)) t := fun t kt => go32 t (by
      refine st33 _ ?_
      show Steps p.tables e below (T33.setTop (mkF m 37 #[.val (.ref a1), .val .null, .val (.ref a3), .unset, .unset, .unset] [(.ref b33), (.ref a1)])) _
      exact kt)
  have fr42 := ((F_lasts.ext E6).other W10 (Or.inr (slot_ne (Or.inr (own_h hw 92 rfl)) (Or.inr (own_h hw 88 rfl)) (by decide) (t := (.array .long)) (t' := (.array .int)) (by decide) (by decide))))
  have fq43 := (((fr42.ext E16).other W27 (Or.inr (slot_ne (Or.inr (own_h hw 92 rfl)) (Or.inr (own_h hw 90 rfl)) (by decide) (t := (.array .long)) (t' := (.array .long)) (by decide) (by decide)))).ext E33)
  have fq44 := (fq35.ext E33)
  obtain ⟨T45, h45, X45, e45, W45, st45⟩ := putF X33 hx hZ hown (host := "") (Or.inl (own_h hw 91 rfl)) Via.refl e33 fq43 fq44 (Or.inr ⟨(own_h hw 92 rfl), rfl, hnm⟩) (own_h hw 66 rfl) (ty := (.array .long)) (by decide) rfl rfl (g := (mkF m 37 #[.val (.ref a1), .val .null, .val (.ref a3), .unset, .unset, .unset] [(.ref b33), (.ref a1)])) rfl rfl (hb hby d8_37)
  have Fw45 := fq43.same W45
  obtain ⟨Ls45, X45, N45⟩ := own_loc X45 (Fr.snoc X45 N29 ga)
  have go46 : ∀ t, Steps p.tables e below (T45.setTop (mkF m 44 #[.val (.ref a1), .val .null, .val (.ref a3), .val (.int (0 : Int32)), .unset, .unset] [(.ref a1), (.int (0 : Int32))])) t → Steps p.tables e below (s₁.setTop (entryFrame m #[(.ref a1), .null, (.ref a3)] 6)) t := fun t kt => go41 t (by
      refine st45 _ ?_
      show Steps p.tables e below (T45.setTop (mkF m 40 #[.val (.ref a1), .val .null, .val (.ref a3), .unset, .unset, .unset] [])) _
      refine XS.iconst X45.here hx rfl (hb hby d8_40) ?_
      show Steps p.tables e below (T45.setTop (mkF m 41 #[.val (.ref a1), .val .null, .val (.ref a3), .unset, .unset, .unset] [(.int (0 : Int32))])) _
      refine XS.istoreN X45.here hx rfl (hb hby d8_41) rfl (l' := #[.val (.ref a1), .val .null, .val (.ref a3), .val (.int (0 : Int32)), .unset, .unset]) rfl ?_
      show Steps p.tables e below (T45.setTop (mkF m 42 #[.val (.ref a1), .val .null, .val (.ref a3), .val (.int (0 : Int32)), .unset, .unset] [])) _
      refine XS.iloadN X45.here hx rfl (hb hby d8_42) rfl ?_
      show Steps p.tables e below (T45.setTop (mkF m 43 #[.val (.ref a1), .val .null, .val (.ref a3), .val (.int (0 : Int32)), .unset, .unset] [(.int (0 : Int32))])) _
      refine XS.aloadN X45.here hx rfl (hb hby d8_43) rfl rfl ?_
      show Steps p.tables e below (T45.setTop (mkF m 44 #[.val (.ref a1), .val .null, .val (.ref a3), .val (.int (0 : Int32)), .unset, .unset] [(.ref a1), (.int (0 : Int32))])) _
      exact kt)
  have fr47 := ((Fw10.ext E16).other W27 (Or.inr (slot_ne (Or.inr (own_h hw 88 rfl)) (Or.inr (own_h hw 90 rfl)) (by decide) (t := (.array .int)) (t' := (.array .long)) (by decide) (by decide))))
  have fq48 := ((fr47.ext E33).other W45 (Or.inr (slot_ne (Or.inr (own_h hw 88 rfl)) (Or.inr (own_h hw 92 rfl)) (by decide) (t := (.array .int)) (t' := (.array .long)) (by decide) (by decide))))
  obtain ⟨T49, X49, e49, st49⟩ := getF X45 hx hZ hown (host := "") (Or.inl (own_h hw 87 rfl)) Via.refl e45 fq48 (g := (mkF m 44 #[.val (.ref a1), .val .null, .val (.ref a3), .val (.int (0 : Int32)), .unset, .unset] [(.ref a1), (.int (0 : Int32))])) rfl rfl (hb hby d8_44)
  have go50 : ∀ t, Steps p.tables e below (T49.setTop (mkF m 47 #[.val (.ref a1), .val .null, .val (.ref a3), .val (.int (0 : Int32)), .unset, .unset] [(.ref b6), (.int (0 : Int32))])) t → Steps p.tables e below (s₁.setTop (entryFrame m #[(.ref a1), .null, (.ref a3)] 6)) t := fun t kt => go46 t (by
      refine st49 _ ?_
      show Steps p.tables e below (T49.setTop (mkF m 47 #[.val (.ref a1), .val .null, .val (.ref a3), .val (.int (0 : Int32)), .unset, .unset] [(.ref b6), (.int (0 : Int32))])) _
      exact kt)
  have fq51 := ((fq37.ext E33).other W45 (Ne.symm ne_a1_b6))
  obtain ⟨c52, Ar52, q52⟩ := id fq51
  have hc48_53 : (0 : Int32) < (1 : Int32) := (by decide)
  have go54 : ∀ t, Steps p.tables e below (T49.setTop (mkF m 53 #[.val (.ref a1), .val .null, .val (.ref a3), .val (.int (0 : Int32)), .unset, .unset] [(.int (0 : Int32)), (.ref a3)])) t → Steps p.tables e below (s₁.setTop (entryFrame m #[(.ref a1), .null, (.ref a3)] 6)) t := fun t kt => go50 t (by
      refine X49.arraylength hx (by rw [e49]; exact Ar52.1) (State.isArrayOf_alike hZ.alike Ar52.2.1) (g := (mkF m 47 #[.val (.ref a1), .val .null, .val (.ref a3), .val (.int (0 : Int32)), .unset, .unset] [(.ref b6), (.int (0 : Int32))])) rfl rfl (hb hby d8_47) _ ?_
      rw [own_len q52 (n := (1 : Int32)) rfl]
      show Steps p.tables e below (T49.setTop (mkF m 48 #[.val (.ref a1), .val .null, .val (.ref a3), .val (.int (0 : Int32)), .unset, .unset] [(.int (1 : Int32)), (.int (0 : Int32))])) _
      refine XS.icmpNo X49.here hx rfl (hb hby d8_48) rfl (tlt hc48_53).2.1 ?_
      show Steps p.tables e below (T49.setTop (mkF m 51 #[.val (.ref a1), .val .null, .val (.ref a3), .val (.int (0 : Int32)), .unset, .unset] [])) _
      refine XS.aloadN X49.here hx rfl (hb hby d8_51) rfl rfl ?_
      show Steps p.tables e below (T49.setTop (mkF m 52 #[.val (.ref a1), .val .null, .val (.ref a3), .val (.int (0 : Int32)), .unset, .unset] [(.ref a3)])) _
      refine XS.iloadN X49.here hx rfl (hb hby d8_52) rfl ?_
      show Steps p.tables e below (T49.setTop (mkF m 53 #[.val (.ref a1), .val .null, .val (.ref a3), .val (.int (0 : Int32)), .unset, .unset] [(.int (0 : Int32)), (.ref a3)])) _
      exact kt)
  have fr56 := ((OF1.ext E6).other W10 (Or.inl na3))
  have fr57 := (((fr56.ext E16).other W27 (Or.inl na3)).ext E33)
  have fq58 := (fr57.other W45 (Or.inl na3))
  have fq59 := ((fq38.ext E33).other W45 (Ne.symm ne0))
  have fq60 := ((fq31.ext E33).wr W45)
  have fq61 := ((fq30.ext E33).other W45 (Or.inl na3))
  obtain ⟨cq55, kq55, q55a, q55b, q55c⟩ := isOf hZ e49 fq60
  obtain ⟨_, _, ⟨T55, L55, k55, n55⟩, -, X55, ⟨Lc55, hQ55, l55, y55, z55⟩, st55⟩ := X49.interfaceBack hx (xi := own_m12) (y := own_m13) hown (mvT hZ (own_h hw 127 rfl)) (mvT hZ (own_h hw 128 rfl)) (mvT hZ (own_h hw 129 rfl)) (mvT hZ (own_h hw 130 rfl)) (mvT hZ (own_h hw 131 rfl)) (mvT hZ (own_h hw 132 rfl)) (mvT hZ (own_h hw 133 rfl)) (mvT hZ (own_h hw 82 rfl)) (by decide) (backOf (W := 0) (rm16 l Z a0 hw [] a3 (0 : Int32) ea l0 [(.ref l0), .null, .null, .null, .null, .null, .null, .null, .null, .null] 0 (1 : Int32) h45 n0 fq58 (fq59).av (by decide) (by decide) rfl fq60 fq61 (by decide)) hZ (own_h hw 134 rfl) (own_h hw 43 rfl) (by decide) (by decide)) q55a q55b q55c (g := (mkF m 53 #[.val (.ref a1), .val .null, .val (.ref a3), .val (.int (0 : Int32)), .unset, .unset] [(.int (0 : Int32)), (.ref a3)])) rfl (by rw [hml]; rfl) (Steps.refl _) (argsL := [(.int (0 : Int32))]) (rest := []) (lenOf pd_12 rfl) rfl (by show 2 * 0 + _ ≤ _; exact Nat.le_of_eq rfl) (hb hby d8_53) (fun _ _ => ⟨rfl, e49, (by decide : 3 + 0 ≤ _), (by decide : 3 + 0 ≤ _)⟩)
  dsimp only [Pt.U, Pt.locs, Pt.cells, Pt.slots] at X55 l55 y55 z55 st55 hQ55
  subst y55 z55
  obtain ⟨rfl, N55q, e55⟩ := hQ55
  have N55 := Fr.app N45 N55q
  rw [← l55] at N55
  have go62 : ∀ t, Steps p.tables e below (T55.setTop (mkF m 58 #[.val (.ref a1), .val .null, .val (.ref a3), .val (.int (0 : Int32)), .unset, .unset] [(.ref l0)])) t → Steps p.tables e below (s₁.setTop (entryFrame m #[(.ref a1), .null, (.ref a3)] 6)) t := fun t kt => go54 t (by
      refine st55.trans ?_
      show Steps p.tables e below (T55.setTop (mkF m 58 #[.val (.ref a1), .val .null, .val (.ref a3), .val (.int (0 : Int32)), .unset, .unset] [(.ref l0)])) _
      exact kt)
  have fq64 := ((fq39.ext E33).wr W45)
  obtain ⟨T63, X63, e63, st63⟩ := castY X55 hx hZ hown (own_h hw 148 rfl) e55 (Ins.self fq64) (g := (mkF m 58 #[.val (.ref a1), .val .null, .val (.ref a3), .val (.int (0 : Int32)), .unset, .unset] [(.ref l0)])) rfl rfl (hb hby d8_58)
  have go65 : ∀ t, Steps p.tables e below (T63.setTop (mkF m 61 #[.val (.ref a1), .val .null, .val (.ref a3), .val (.int (0 : Int32)), .unset, .unset] [(.ref l0)])) t → Steps p.tables e below (s₁.setTop (entryFrame m #[(.ref a1), .null, (.ref a3)] 6)) t := fun t kt => go62 t (by
      refine st63 _ ?_
      show Steps p.tables e below (T63.setTop (mkF m 61 #[.val (.ref a1), .val .null, .val (.ref a3), .val (.int (0 : Int32)), .unset, .unset] [(.ref l0)])) _
      exact kt)
  have fr67 := ((FT0.ext E6).other W10 (Or.inl nl0))
  have fr68 := (((fr67.ext E16).other W27 (Or.inl nl0)).ext E33)
  have fq69 := (fr68.other W45 (Or.inl nl0))
  obtain ⟨cq66, kq66, q66a, q66b, q66c⟩ := isOf hZ e63 fq64
  obtain ⟨_, _, ⟨T66, L66, k66, n66⟩, -, X66, ⟨Lc66, hQ66, l66, y66, z66⟩, st66⟩ := X63.virtualBack hx (y := own_m14) (z := own_m14) hown (mvT hZ (own_h hw 150 rfl)) (mvT hZ (own_h hw 151 rfl)) (notFace_of_selects (args := #[]) (mvT hZ (own_h hw 153 rfl))) (mvT hZ (own_h hw 153 rfl)) (mvT hZ (own_h hw 152 rfl)) (by decide) (backOf (W := 0) (rm20 l Z a0 hw [] l0 t0 h45 n0 fq69) hZ (own_h hw 154 rfl) (own_h hw 16 rfl) (by decide) (by decide)) q66a q66c (g := (mkF m 61 #[.val (.ref a1), .val .null, .val (.ref a3), .val (.int (0 : Int32)), .unset, .unset] [(.ref l0)])) rfl (by rw [hml]; rfl) (Steps.refl _) (argsL := []) (rest := []) (lenOf pd_14 rfl) rfl (by show 2 * 0 + _ ≤ _; exact Nat.le_of_eq rfl) (hb hby d8_61) (fun _ _ => ⟨rfl, e63, (by decide : 3 + 0 ≤ _), (by decide : 3 + 0 ≤ _)⟩)
  dsimp only [Pt.U, Pt.locs, Pt.cells, Pt.slots] at X66 l66 y66 z66 st66 hQ66
  subst y66 z66
  obtain ⟨rfl, N66q, e66⟩ := hQ66
  have N66 := Fr.app N55 N66q
  rw [← l66] at N66
  have go70 : ∀ t, Steps p.tables e below (T66.setTop (mkF m 64 #[.val (.ref a1), .val .null, .val (.ref a3), .val (.int (0 : Int32)), .unset, .unset] [(.ref t0)])) t → Steps p.tables e below (s₁.setTop (entryFrame m #[(.ref a1), .null, (.ref a3)] 6)) t := fun t kt => go65 t (by
      refine st66.trans ?_
      show Steps p.tables e below (T66.setTop (mkF m 64 #[.val (.ref a1), .val .null, .val (.ref a3), .val (.int (0 : Int32)), .unset, .unset] [(.ref t0)])) _
      exact kt)
  have fq72 := ((fq40.ext E33).wr W45)
  obtain ⟨T71, X71, e71, st71⟩ := castY X66 hx hZ hown (own_h hw 155 rfl) e66 (Ins.of_exa fq72 (own_h hw 156 rfl)) (g := (mkF m 64 #[.val (.ref a1), .val .null, .val (.ref a3), .val (.int (0 : Int32)), .unset, .unset] [(.ref t0)])) rfl rfl (hb hby d8_64)
  have go73 : ∀ t, Steps p.tables e below (T71.setTop (mkF m 70 #[.val (.ref a1), .val .null, .val (.ref a3), .val (.int (0 : Int32)), .val (.ref t0), .unset] [(.ref a1)])) t → Steps p.tables e below (s₁.setTop (entryFrame m #[(.ref a1), .null, (.ref a3)] 6)) t := fun t kt => go70 t (by
      refine st71 _ ?_
      show Steps p.tables e below (T71.setTop (mkF m 67 #[.val (.ref a1), .val .null, .val (.ref a3), .val (.int (0 : Int32)), .unset, .unset] [(.ref t0)])) _
      refine XS.astore X71.here hx rfl (hb hby d8_67) rfl rfl (l' := #[.val (.ref a1), .val .null, .val (.ref a3), .val (.int (0 : Int32)), .val (.ref t0), .unset]) rfl ?_
      show Steps p.tables e below (T71.setTop (mkF m 69 #[.val (.ref a1), .val .null, .val (.ref a3), .val (.int (0 : Int32)), .val (.ref t0), .unset] [])) _
      refine XS.aloadN X71.here hx rfl (hb hby d8_69) rfl rfl ?_
      show Steps p.tables e below (T71.setTop (mkF m 70 #[.val (.ref a1), .val .null, .val (.ref a3), .val (.int (0 : Int32)), .val (.ref t0), .unset] [(.ref a1)])) _
      exact kt)
  obtain ⟨T74, X74, e74, st74⟩ := getF X71 hx hZ hown (host := "") (Or.inl (own_h hw 87 rfl)) Via.refl e71 fq48 (g := (mkF m 70 #[.val (.ref a1), .val .null, .val (.ref a3), .val (.int (0 : Int32)), .val (.ref t0), .unset] [(.ref a1)])) rfl rfl (hb hby d8_70)
  have go75 : ∀ t, Steps p.tables e below (T74.setTop (mkF m 76 #[.val (.ref a1), .val .null, .val (.ref a3), .val (.int (0 : Int32)), .val (.ref t0), .unset] [(.int (0 : Int32)), (.ref a3), (.int (0 : Int32)), (.ref b6)])) t → Steps p.tables e below (s₁.setTop (entryFrame m #[(.ref a1), .null, (.ref a3)] 6)) t := fun t kt => go73 t (by
      refine st74 _ ?_
      show Steps p.tables e below (T74.setTop (mkF m 73 #[.val (.ref a1), .val .null, .val (.ref a3), .val (.int (0 : Int32)), .val (.ref t0), .unset] [(.ref b6)])) _
      refine XS.iloadN X74.here hx rfl (hb hby d8_73) rfl ?_
      show Steps p.tables e below (T74.setTop (mkF m 74 #[.val (.ref a1), .val .null, .val (.ref a3), .val (.int (0 : Int32)), .val (.ref t0), .unset] [(.int (0 : Int32)), (.ref b6)])) _
      refine XS.aloadN X74.here hx rfl (hb hby d8_74) rfl rfl ?_
      show Steps p.tables e below (T74.setTop (mkF m 75 #[.val (.ref a1), .val .null, .val (.ref a3), .val (.int (0 : Int32)), .val (.ref t0), .unset] [(.ref a3), (.int (0 : Int32)), (.ref b6)])) _
      refine XS.iloadN X74.here hx rfl (hb hby d8_75) rfl ?_
      show Steps p.tables e below (T74.setTop (mkF m 76 #[.val (.ref a1), .val .null, .val (.ref a3), .val (.int (0 : Int32)), .val (.ref t0), .unset] [(.int (0 : Int32)), (.ref a3), (.int (0 : Int32)), (.ref b6)])) _
      exact kt)
  obtain ⟨cq76, kq76, q76a, q76b, q76c⟩ := isOf hZ e74 fq60
  obtain ⟨_, _, ⟨T76, L76, k76, n76⟩, -, X76, ⟨Lc76, hQ76, l76, y76, z76⟩, st76⟩ := X74.interfaceBack hx (xi := own_m12) (y := own_m13) hown (mvT hZ (own_h hw 127 rfl)) (mvT hZ (own_h hw 128 rfl)) (mvT hZ (own_h hw 129 rfl)) (mvT hZ (own_h hw 130 rfl)) (mvT hZ (own_h hw 131 rfl)) (mvT hZ (own_h hw 132 rfl)) (mvT hZ (own_h hw 133 rfl)) (mvT hZ (own_h hw 82 rfl)) (by decide) (backOf (W := 2) (rm16 l Z a0 hw [] a3 (0 : Int32) ea l0 [(.ref l0), .null, .null, .null, .null, .null, .null, .null, .null, .null] 0 (1 : Int32) h45 n0 fq58 (fq59).av (by decide) (by decide) rfl fq60 fq61 (by decide)) hZ (own_h hw 134 rfl) (own_h hw 43 rfl) (by decide) (by decide)) q76a q76b q76c (g := (mkF m 76 #[.val (.ref a1), .val .null, .val (.ref a3), .val (.int (0 : Int32)), .val (.ref t0), .unset] [(.int (0 : Int32)), (.ref a3), (.int (0 : Int32)), (.ref b6)])) rfl (by rw [hml]; rfl) (Steps.refl _) (argsL := [(.int (0 : Int32))]) (rest := [(.int (0 : Int32)), (.ref b6)]) (lenOf pd_12 rfl) rfl (by show 2 * 0 + _ ≤ _; exact Nat.le_of_eq rfl) (hb hby d8_76) (fun _ _ => ⟨rfl, e74, (by decide : 3 + 0 ≤ _), (by decide : 3 + 0 ≤ _)⟩)
  dsimp only [Pt.U, Pt.locs, Pt.cells, Pt.slots] at X76 l76 y76 z76 st76 hQ76
  subst y76 z76
  obtain ⟨rfl, N76q, e76⟩ := hQ76
  have N76 := Fr.app N66 N76q
  rw [← l76] at N76
  have go77 : ∀ t, Steps p.tables e below (T76.setTop (mkF m 81 #[.val (.ref a1), .val .null, .val (.ref a3), .val (.int (0 : Int32)), .val (.ref t0), .unset] [(.ref l0), (.int (0 : Int32)), (.ref b6)])) t → Steps p.tables e below (s₁.setTop (entryFrame m #[(.ref a1), .null, (.ref a3)] 6)) t := fun t kt => go75 t (by
      refine st76.trans ?_
      show Steps p.tables e below (T76.setTop (mkF m 81 #[.val (.ref a1), .val .null, .val (.ref a3), .val (.int (0 : Int32)), .val (.ref t0), .unset] [(.ref l0), (.int (0 : Int32)), (.ref b6)])) _
      exact kt)
  obtain ⟨T78, X78, e78, st78⟩ := castY X76 hx hZ hown (own_h hw 148 rfl) e76 (Ins.self fq64) (g := (mkF m 81 #[.val (.ref a1), .val .null, .val (.ref a3), .val (.int (0 : Int32)), .val (.ref t0), .unset] [(.ref l0), (.int (0 : Int32)), (.ref b6)])) rfl rfl (hb hby d8_81)
  have go79 : ∀ t, Steps p.tables e below (T78.setTop (mkF m 84 #[.val (.ref a1), .val .null, .val (.ref a3), .val (.int (0 : Int32)), .val (.ref t0), .unset] [(.ref l0), (.int (0 : Int32)), (.ref b6)])) t → Steps p.tables e below (s₁.setTop (entryFrame m #[(.ref a1), .null, (.ref a3)] 6)) t := fun t kt => go77 t (by
      refine st78 _ ?_
      show Steps p.tables e below (T78.setTop (mkF m 84 #[.val (.ref a1), .val .null, .val (.ref a3), .val (.int (0 : Int32)), .val (.ref t0), .unset] [(.ref l0), (.int (0 : Int32)), (.ref b6)])) _
      exact kt)
  have fr81 := ((FS0.ext E6).other W10 (Or.inl nl0))
  have fr82 := (((fr81.ext E16).other W27 (Or.inl nl0)).ext E33)
  have fq83 := (fr82.other W45 (Or.inl nl0))
  obtain ⟨cq80, kq80, q80a, q80b, q80c⟩ := isOf hZ e78 fq64
  obtain ⟨_, _, ⟨T80, L80, k80, n80⟩, -, X80, ⟨Lc80, hQ80, l80, y80, z80⟩, st80⟩ := X78.virtualBack hx (y := own_m15) (z := own_m15) hown (mvT hZ (own_h hw 157 rfl)) (mvT hZ (own_h hw 158 rfl)) (notFace_of_selects (args := #[]) (mvT hZ (own_h hw 160 rfl))) (mvT hZ (own_h hw 160 rfl)) (mvT hZ (own_h hw 159 rfl)) (by decide) (backOf (W := 2) (rm21 l Z a0 hw [] l0 s0 h45 n0 fq83) hZ (own_h hw 161 rfl) (own_h hw 16 rfl) (by decide) (by decide)) q80a q80c (g := (mkF m 84 #[.val (.ref a1), .val .null, .val (.ref a3), .val (.int (0 : Int32)), .val (.ref t0), .unset] [(.ref l0), (.int (0 : Int32)), (.ref b6)])) rfl (by rw [hml]; rfl) (Steps.refl _) (argsL := []) (rest := [(.int (0 : Int32)), (.ref b6)]) (lenOf pd_5 rfl) rfl (by show 2 * 0 + _ ≤ _; exact Nat.le_of_eq rfl) (hb hby d8_84) (fun _ _ => ⟨rfl, e78, (by decide : 3 + 0 ≤ _), (by decide : 3 + 0 ≤ _)⟩)
  dsimp only [Pt.U, Pt.locs, Pt.cells, Pt.slots] at X80 l80 y80 z80 st80 hQ80
  subst y80 z80
  obtain ⟨rfl, N80q, e80⟩ := hQ80
  have N80 := Fr.app N76 N80q
  rw [← l80] at N80
  have go84 : ∀ t, Steps p.tables e below (T80.setTop (mkF m 87 #[.val (.ref a1), .val .null, .val (.ref a3), .val (.int (0 : Int32)), .val (.ref t0), .unset] [(.int s0), (.int (0 : Int32)), (.ref b6)])) t → Steps p.tables e below (s₁.setTop (entryFrame m #[(.ref a1), .null, (.ref a3)] 6)) t := fun t kt => go79 t (by
      refine st80.trans ?_
      show Steps p.tables e below (T80.setTop (mkF m 87 #[.val (.ref a1), .val .null, .val (.ref a3), .val (.int (0 : Int32)), .val (.ref t0), .unset] [(.int s0), (.int (0 : Int32)), (.ref b6)])) _
      exact kt)
  obtain ⟨c85, Ar85, q85⟩ := id fq51
  obtain ⟨T85, h85, X85, e85, W85, st85⟩ := stI X80 hx hZ e80 Ar85 (j := (0 : Int32)) (own_inb q85 (n := 1) rfl (by decide) (by decide)) (g := (mkF m 87 #[.val (.ref a1), .val .null, .val (.ref a3), .val (.int (0 : Int32)), .val (.ref t0), .unset] [(.int s0), (.int (0 : Int32)), (.ref b6)])) rfl rfl (hb hby d8_87)
  have V85 : own_AV Z h85 b6 .int [(.int s0)] := own_AV.set Ar85 q85 W85 (i := 0) (by decide) rfl
  obtain ⟨Ls85, X85, N85⟩ := own_loc X85 (Fr.snoc X85 N80 gb6)
  have go86 : ∀ t, Steps p.tables e below (T85.setTop (mkF m 89 #[.val (.ref a1), .val .null, .val (.ref a3), .val (.int (0 : Int32)), .val (.ref t0), .unset] [(.ref a1)])) t → Steps p.tables e below (s₁.setTop (entryFrame m #[(.ref a1), .null, (.ref a3)] 6)) t := fun t kt => go84 t (by
      refine st85 _ ?_
      show Steps p.tables e below (T85.setTop (mkF m 88 #[.val (.ref a1), .val .null, .val (.ref a3), .val (.int (0 : Int32)), .val (.ref t0), .unset] [])) _
      refine XS.aloadN X85.here hx rfl (hb hby d8_88) rfl rfl ?_
      show Steps p.tables e below (T85.setTop (mkF m 89 #[.val (.ref a1), .val .null, .val (.ref a3), .val (.int (0 : Int32)), .val (.ref t0), .unset] [(.ref a1)])) _
      exact kt)
  have fr87 := ((Fw27.ext E33).other W45 (Or.inr (slot_ne (Or.inr (own_h hw 90 rfl)) (Or.inr (own_h hw 92 rfl)) (by decide) (t := (.array .long)) (t' := (.array .long)) (by decide) (by decide))))
  have fq88 := (fr87.other W85 (Or.inl ne_a1_b6))
  obtain ⟨T89, X89, e89, st89⟩ := getF X85 hx hZ hown (host := "") (Or.inl (own_h hw 89 rfl)) Via.refl e85 fq88 (g := (mkF m 89 #[.val (.ref a1), .val .null, .val (.ref a3), .val (.int (0 : Int32)), .val (.ref t0), .unset] [(.ref a1)])) rfl rfl (hb hby d8_89)
  have go90 : ∀ t, Steps p.tables e below (T89.setTop (mkF m 95 #[.val (.ref a1), .val .null, .val (.ref a3), .val (.int (0 : Int32)), .val (.ref t0), .unset] [(.ref t0), (.int (0 : Int32)), (.ref b16)])) t → Steps p.tables e below (s₁.setTop (entryFrame m #[(.ref a1), .null, (.ref a3)] 6)) t := fun t kt => go86 t (by
      refine st89 _ ?_
      show Steps p.tables e below (T89.setTop (mkF m 92 #[.val (.ref a1), .val .null, .val (.ref a3), .val (.int (0 : Int32)), .val (.ref t0), .unset] [(.ref b16)])) _
      refine XS.iloadN X89.here hx rfl (hb hby d8_92) rfl ?_
      show Steps p.tables e below (T89.setTop (mkF m 93 #[.val (.ref a1), .val .null, .val (.ref a3), .val (.int (0 : Int32)), .val (.ref t0), .unset] [(.int (0 : Int32)), (.ref b16)])) _
      refine XS.aload X89.here hx rfl (hb hby d8_93) rfl rfl ?_
      show Steps p.tables e below (T89.setTop (mkF m 95 #[.val (.ref a1), .val .null, .val (.ref a3), .val (.int (0 : Int32)), .val (.ref t0), .unset] [(.ref t0), (.int (0 : Int32)), (.ref b16)])) _
      exact kt)
  have fr92 := ((FL0.ext E6).other W10 (Or.inl nt0))
  have fr93 := (((fr92.ext E16).other W27 (Or.inl nt0)).ext E33)
  have fq94 := ((fr93.other W45 (Or.inl nt0)).other W85 (Or.inl ne_t0_b6))
  have fq95 := (fq72.wr W85)
  obtain ⟨cq91, kq91, q91a, q91b, q91c⟩ := isOf hZ e89 fq95
  obtain ⟨_, _, ⟨T91, L91, k91, n91⟩, -, X91, ⟨Lc91, hQ91, l91, y91, z91⟩, st91⟩ := X89.interfaceBack hx (xi := own_m16) (y := own_m17) hown (mvT hZ (own_h hw 162 rfl)) (mvT hZ (own_h hw 163 rfl)) (mvT hZ (own_h hw 164 rfl)) (mvT hZ (own_h hw 165 rfl)) (mvT hZ (own_h hw 166 rfl)) (mvT hZ (own_h hw 167 rfl)) (mvT hZ (own_h hw 168 rfl)) (mvT hZ (own_h hw 156 rfl)) (by decide) (backOf (W := 2) (rm22 l Z a0 hw [] t0 f0 h85 n0 fq94) hZ (own_h hw 169 rfl) (own_h hw 3 rfl) (by decide) (by decide)) q91a q91b q91c (g := (mkF m 95 #[.val (.ref a1), .val .null, .val (.ref a3), .val (.int (0 : Int32)), .val (.ref t0), .unset] [(.ref t0), (.int (0 : Int32)), (.ref b16)])) rfl (by rw [hml]; rfl) (Steps.refl _) (argsL := []) (rest := [(.int (0 : Int32)), (.ref b16)]) (lenOf pd_15 rfl) rfl (by show 2 * 0 + _ ≤ _; exact Nat.le_of_eq rfl) (hb hby d8_95) (fun _ _ => ⟨rfl, e89, (by decide : 3 + 0 ≤ _), (by decide : 3 + 0 ≤ _)⟩)
  dsimp only [Pt.U, Pt.locs, Pt.cells, Pt.slots] at X91 l91 y91 z91 st91 hQ91
  subst y91 z91
  obtain ⟨rfl, N91q, e91⟩ := hQ91
  have N91 := Fr.app N85 N91q
  rw [← l91] at N91
  have go96 : ∀ t, Steps p.tables e below (T91.setTop (mkF m 100 #[.val (.ref a1), .val .null, .val (.ref a3), .val (.int (0 : Int32)), .val (.ref t0), .unset] [(.long f0), (.int (0 : Int32)), (.ref b16)])) t → Steps p.tables e below (s₁.setTop (entryFrame m #[(.ref a1), .null, (.ref a3)] 6)) t := fun t kt => go90 t (by
      refine st91.trans ?_
      show Steps p.tables e below (T91.setTop (mkF m 100 #[.val (.ref a1), .val .null, .val (.ref a3), .val (.int (0 : Int32)), .val (.ref t0), .unset] [(.long f0), (.int (0 : Int32)), (.ref b16)])) _
      exact kt)
  have fr97 := ((fq36.ext E33).other W45 (Ne.symm ne_a1_b16))
  have fq98 := (fr97.other W85 (Ne.symm ne_b6_b16))
  obtain ⟨c99, Ar99, q99⟩ := id fq98
  obtain ⟨T99, h99, X99, e99, W99, st99⟩ := stJ X91 hx hZ e91 Ar99 (j := (0 : Int32)) (own_inb q99 (n := 1) rfl (by decide) (by decide)) (g := (mkF m 100 #[.val (.ref a1), .val .null, .val (.ref a3), .val (.int (0 : Int32)), .val (.ref t0), .unset] [(.long f0), (.int (0 : Int32)), (.ref b16)])) rfl rfl (hb hby d8_100)
  have V99 : own_AV Z h99 b16 .long [(.long f0)] := own_AV.set Ar99 q99 W99 (i := 0) (by decide) rfl
  obtain ⟨Ls99, X99, N99⟩ := own_loc X99 (Fr.snoc X99 N91 gb16)
  have go100 : ∀ t, Steps p.tables e below (T99.setTop (mkF m 102 #[.val (.ref a1), .val .null, .val (.ref a3), .val (.int (0 : Int32)), .val (.ref t0), .unset] [(.ref a1)])) t → Steps p.tables e below (s₁.setTop (entryFrame m #[(.ref a1), .null, (.ref a3)] 6)) t := fun t kt => go96 t (by
      refine st99 _ ?_
      show Steps p.tables e below (T99.setTop (mkF m 101 #[.val (.ref a1), .val .null, .val (.ref a3), .val (.int (0 : Int32)), .val (.ref t0), .unset] [])) _
      refine XS.aloadN X99.here hx rfl (hb hby d8_101) rfl rfl ?_
      show Steps p.tables e below (T99.setTop (mkF m 102 #[.val (.ref a1), .val .null, .val (.ref a3), .val (.int (0 : Int32)), .val (.ref t0), .unset] [(.ref a1)])) _
      exact kt)
  have fq101 := ((Fw45.other W85 (Or.inl ne_a1_b6)).other W99 (Or.inl ne_a1_b16))
  obtain ⟨T102, X102, e102, st102⟩ := getF X99 hx hZ hown (host := "") (Or.inl (own_h hw 91 rfl)) Via.refl e99 fq101 (g := (mkF m 102 #[.val (.ref a1), .val .null, .val (.ref a3), .val (.int (0 : Int32)), .val (.ref t0), .unset] [(.ref a1)])) rfl rfl (hb hby d8_102)
  have go103 : ∀ t, Steps p.tables e below (T102.setTop (mkF m 108 #[.val (.ref a1), .val .null, .val (.ref a3), .val (.int (0 : Int32)), .val (.ref t0), .unset] [(.ref t0), (.int (0 : Int32)), (.ref b33)])) t → Steps p.tables e below (s₁.setTop (entryFrame m #[(.ref a1), .null, (.ref a3)] 6)) t := fun t kt => go100 t (by
      refine st102 _ ?_
      show Steps p.tables e below (T102.setTop (mkF m 105 #[.val (.ref a1), .val .null, .val (.ref a3), .val (.int (0 : Int32)), .val (.ref t0), .unset] [(.ref b33)])) _
      refine XS.iloadN X102.here hx rfl (hb hby d8_105) rfl ?_
      show Steps p.tables e below (T102.setTop (mkF m 106 #[.val (.ref a1), .val .null, .val (.ref a3), .val (.int (0 : Int32)), .val (.ref t0), .unset] [(.int (0 : Int32)), (.ref b33)])) _
      refine XS.aload X102.here hx rfl (hb hby d8_106) rfl rfl ?_
      show Steps p.tables e below (T102.setTop (mkF m 108 #[.val (.ref a1), .val .null, .val (.ref a3), .val (.int (0 : Int32)), .val (.ref t0), .unset] [(.ref t0), (.int (0 : Int32)), (.ref b33)])) _
      exact kt)
  have fq105 := (fq95.wr W99)
  obtain ⟨T104, X104, e104, st104⟩ := instY X102 hx hZ hown (own_h hw 170 rfl) e102 (Ins.of_exa fq105 (own_h hw 171 rfl)) (g := (mkF m 108 #[.val (.ref a1), .val .null, .val (.ref a3), .val (.int (0 : Int32)), .val (.ref t0), .unset] [(.ref t0), (.int (0 : Int32)), (.ref b33)])) rfl rfl (hb hby d8_108)
  have hc111_106 : ¬ ((1 : Int32) = (0 : Int32)) := (by decide)
  have go107 : ∀ t, Steps p.tables e below (T104.setTop (mkF m 116 #[.val (.ref a1), .val .null, .val (.ref a3), .val (.int (0 : Int32)), .val (.ref t0), .unset] [(.ref t0), (.int (0 : Int32)), (.ref b33)])) t → Steps p.tables e below (s₁.setTop (entryFrame m #[(.ref a1), .null, (.ref a3)] 6)) t := fun t kt => go103 t (by
      refine st104 _ ?_
      show Steps p.tables e below (T104.setTop (mkF m 111 #[.val (.ref a1), .val .null, .val (.ref a3), .val (.int (0 : Int32)), .val (.ref t0), .unset] [(.int (1 : Int32)), (.int (0 : Int32)), (.ref b33)])) _
      refine XS.ifNo X104.here hx rfl (hb hby d8_111) rfl ((if0 _ _).trans (feq hc111_106).1) ?_
      show Steps p.tables e below (T104.setTop (mkF m 114 #[.val (.ref a1), .val .null, .val (.ref a3), .val (.int (0 : Int32)), .val (.ref t0), .unset] [(.int (0 : Int32)), (.ref b33)])) _
      refine XS.aload X104.here hx rfl (hb hby d8_114) rfl rfl ?_
      show Steps p.tables e below (T104.setTop (mkF m 116 #[.val (.ref a1), .val .null, .val (.ref a3), .val (.int (0 : Int32)), .val (.ref t0), .unset] [(.ref t0), (.int (0 : Int32)), (.ref b33)])) _
      exact kt)
  obtain ⟨T108, X108, e108, st108⟩ := castY X104 hx hZ hown (own_h hw 170 rfl) e104 (Ins.of_exa fq105 (own_h hw 171 rfl)) (g := (mkF m 116 #[.val (.ref a1), .val .null, .val (.ref a3), .val (.int (0 : Int32)), .val (.ref t0), .unset] [(.ref t0), (.int (0 : Int32)), (.ref b33)])) rfl rfl (hb hby d8_116)
  have go109 : ∀ t, Steps p.tables e below (T108.setTop (mkF m 123 #[.val (.ref a1), .val .null, .val (.ref a3), .val (.int (0 : Int32)), .val (.ref t0), .val (.ref t0)] [(.ref t0), (.int (0 : Int32)), (.ref b33)])) t → Steps p.tables e below (s₁.setTop (entryFrame m #[(.ref a1), .null, (.ref a3)] 6)) t := fun t kt => go107 t (by
      refine st108 _ ?_
      show Steps p.tables e below (T108.setTop (mkF m 119 #[.val (.ref a1), .val .null, .val (.ref a3), .val (.int (0 : Int32)), .val (.ref t0), .unset] [(.ref t0), (.int (0 : Int32)), (.ref b33)])) _
      refine XS.astore X108.here hx rfl (hb hby d8_119) rfl rfl (l' := #[.val (.ref a1), .val .null, .val (.ref a3), .val (.int (0 : Int32)), .val (.ref t0), .val (.ref t0)]) rfl ?_
      show Steps p.tables e below (T108.setTop (mkF m 121 #[.val (.ref a1), .val .null, .val (.ref a3), .val (.int (0 : Int32)), .val (.ref t0), .val (.ref t0)] [(.int (0 : Int32)), (.ref b33)])) _
      refine XS.aload X108.here hx rfl (hb hby d8_121) rfl rfl ?_
      show Steps p.tables e below (T108.setTop (mkF m 123 #[.val (.ref a1), .val .null, .val (.ref a3), .val (.int (0 : Int32)), .val (.ref t0), .val (.ref t0)] [(.ref t0), (.int (0 : Int32)), (.ref b33)])) _
      exact kt)
  have fr111 := ((FH0.ext E6).other W10 (Or.inl nt0))
  have fr112 := (((fr111.ext E16).other W27 (Or.inl nt0)).ext E33)
  have fq113 := (((fr112.other W45 (Or.inl nt0)).other W85 (Or.inl ne_t0_b6)).other W99 (Or.inl ne_t0_b16))
  obtain ⟨cq110, kq110, q110a, q110b, q110c⟩ := isOf hZ e108 fq105
  obtain ⟨_, _, ⟨T110, L110, k110, n110⟩, -, X110, ⟨Lc110, hQ110, l110, y110, z110⟩, st110⟩ := X108.interfaceBack hx (xi := own_m18) (y := own_m19) hown (mvT hZ (own_h hw 172 rfl)) (mvT hZ (own_h hw 173 rfl)) (mvT hZ (own_h hw 174 rfl)) (mvT hZ (own_h hw 175 rfl)) (mvT hZ (own_h hw 176 rfl)) (mvT hZ (own_h hw 177 rfl)) (mvT hZ (own_h hw 178 rfl)) (mvT hZ (own_h hw 171 rfl)) (by decide) (backOf (W := 2) (rm23 l Z a0 hw [] t0 u0 h99 n0 fq113) hZ (own_h hw 179 rfl) (own_h hw 3 rfl) (by decide) (by decide)) q110a q110b q110c (g := (mkF m 123 #[.val (.ref a1), .val .null, .val (.ref a3), .val (.int (0 : Int32)), .val (.ref t0), .val (.ref t0)] [(.ref t0), (.int (0 : Int32)), (.ref b33)])) rfl (by rw [hml]; rfl) (Steps.refl _) (argsL := []) (rest := [(.int (0 : Int32)), (.ref b33)]) (lenOf pd_15 rfl) rfl (by show 2 * 0 + _ ≤ _; exact Nat.le_of_eq rfl) (hb hby d8_123) (fun _ _ => ⟨rfl, e108, (by decide : 3 + 0 ≤ _), (by decide : 3 + 0 ≤ _)⟩)
  dsimp only [Pt.U, Pt.locs, Pt.cells, Pt.slots] at X110 l110 y110 z110 st110 hQ110
  subst y110 z110
  obtain ⟨rfl, N110q, e110⟩ := hQ110
  have N110 := Fr.app N99 N110q
  rw [← l110] at N110
  have go114 : ∀ t, Steps p.tables e below (T110.setTop (mkF m 137 #[.val (.ref a1), .val .null, .val (.ref a3), .val (.int (0 : Int32)), .val (.ref t0), .val (.ref t0)] [(.long u0), (.int (0 : Int32)), (.ref b33)])) t → Steps p.tables e below (s₁.setTop (entryFrame m #[(.ref a1), .null, (.ref a3)] 6)) t := fun t kt => go109 t (by
      refine st110.trans ?_
      show Steps p.tables e below (T110.setTop (mkF m 128 #[.val (.ref a1), .val .null, .val (.ref a3), .val (.int (0 : Int32)), .val (.ref t0), .val (.ref t0)] [(.long u0), (.int (0 : Int32)), (.ref b33)])) _
      refine XS.goto X110.here hx rfl (pc0 := 128) (pc' := 137) rfl (hb hby d8_128) (by decide) (by decide) ?_
      show Steps p.tables e below (T110.setTop (mkF m 137 #[.val (.ref a1), .val .null, .val (.ref a3), .val (.int (0 : Int32)), .val (.ref t0), .val (.ref t0)] [(.long u0), (.int (0 : Int32)), (.ref b33)])) _
      exact kt)
  have fr115 := ((V33.other W45 (Ne.symm ne_a1_b33)).other W85 (Ne.symm ne_b6_b33))
  have fq116 := (fr115.other W99 (Ne.symm ne_b16_b33))
  obtain ⟨c117, Ar117, q117⟩ := id fq116
  obtain ⟨T117, h117, X117, e117, W117, st117⟩ := stJ X110 hx hZ e110 Ar117 (j := (0 : Int32)) (own_inb q117 (n := 1) rfl (by decide) (by decide)) (g := (mkF m 137 #[.val (.ref a1), .val .null, .val (.ref a3), .val (.int (0 : Int32)), .val (.ref t0), .val (.ref t0)] [(.long u0), (.int (0 : Int32)), (.ref b33)])) rfl rfl (hb hby d8_137)
  have V117 : own_AV Z h117 b33 .long [(.long u0)] := own_AV.set Ar117 q117 W117 (i := 0) (by decide) rfl
  obtain ⟨Ls117, X117, N117⟩ := own_loc X117 (Fr.snoc X117 N110 gb33)
  have go118 : ∀ t, Steps p.tables e below (T117.setTop (mkF m 141 #[.val (.ref a1), .val .null, .val (.ref a3), .val (.int ((0 : Int32) + (1 : Int32))), .val (.ref t0), .val (.ref t0)] [])) t → Steps p.tables e below (s₁.setTop (entryFrame m #[(.ref a1), .null, (.ref a3)] 6)) t := fun t kt => go114 t (by
      refine st117 _ ?_
      show Steps p.tables e below (T117.setTop (mkF m 138 #[.val (.ref a1), .val .null, .val (.ref a3), .val (.int (0 : Int32)), .val (.ref t0), .val (.ref t0)] [])) _
      refine XS.iinc X117.here hx rfl (hb hby d8_138) rfl (l' := #[.val (.ref a1), .val .null, .val (.ref a3), .val (.int ((0 : Int32) + (1 : Int32))), .val (.ref t0), .val (.ref t0)]) rfl ?_
      show Steps p.tables e below (T117.setTop (mkF m 141 #[.val (.ref a1), .val .null, .val (.ref a3), .val (.int ((0 : Int32) + (1 : Int32))), .val (.ref t0), .val (.ref t0)] [])) _
      exact kt)
  rw [show ((0 : Int32) + (1 : Int32)) = (1 : Int32) from by decide] at go118
  have go119 : ∀ t, Steps p.tables e below (T117.setTop (mkF m 44 #[.val (.ref a1), .val .null, .val (.ref a3), .val (.int (1 : Int32)), .val (.ref t0), .val (.ref t0)] [(.ref a1), (.int (1 : Int32))])) t → Steps p.tables e below (s₁.setTop (entryFrame m #[(.ref a1), .null, (.ref a3)] 6)) t := fun t kt => go118 t (by
      refine XS.goto X117.here hx rfl (pc0 := 141) (pc' := 42) rfl (hb hby d8_141) (by decide) (by decide) ?_
      show Steps p.tables e below (T117.setTop (mkF m 42 #[.val (.ref a1), .val .null, .val (.ref a3), .val (.int (1 : Int32)), .val (.ref t0), .val (.ref t0)] [])) _
      refine XS.iloadN X117.here hx rfl (hb hby d8_42) rfl ?_
      show Steps p.tables e below (T117.setTop (mkF m 43 #[.val (.ref a1), .val .null, .val (.ref a3), .val (.int (1 : Int32)), .val (.ref t0), .val (.ref t0)] [(.int (1 : Int32))])) _
      refine XS.aloadN X117.here hx rfl (hb hby d8_43) rfl rfl ?_
      show Steps p.tables e below (T117.setTop (mkF m 44 #[.val (.ref a1), .val .null, .val (.ref a3), .val (.int (1 : Int32)), .val (.ref t0), .val (.ref t0)] [(.ref a1), (.int (1 : Int32))])) _
      exact kt)
  have fr120 := ((fq48.other W85 (Or.inl ne_a1_b6)).other W99 (Or.inl ne_a1_b16))
  have fq121 := (fr120.other W117 (Or.inl ne_a1_b33))
  obtain ⟨T122, X122, e122, st122⟩ := getF X117 hx hZ hown (host := "") (Or.inl (own_h hw 87 rfl)) Via.refl e117 fq121 (g := (mkF m 44 #[.val (.ref a1), .val .null, .val (.ref a3), .val (.int (1 : Int32)), .val (.ref t0), .val (.ref t0)] [(.ref a1), (.int (1 : Int32))])) rfl rfl (hb hby d8_44)
  have go123 : ∀ t, Steps p.tables e below (T122.setTop (mkF m 47 #[.val (.ref a1), .val .null, .val (.ref a3), .val (.int (1 : Int32)), .val (.ref t0), .val (.ref t0)] [(.ref b6), (.int (1 : Int32))])) t → Steps p.tables e below (s₁.setTop (entryFrame m #[(.ref a1), .null, (.ref a3)] 6)) t := fun t kt => go119 t (by
      refine st122 _ ?_
      show Steps p.tables e below (T122.setTop (mkF m 47 #[.val (.ref a1), .val .null, .val (.ref a3), .val (.int (1 : Int32)), .val (.ref t0), .val (.ref t0)] [(.ref b6), (.int (1 : Int32))])) _
      exact kt)
  have fq124 := ((V85.other W99 ne_b6_b16).other W117 ne_b6_b33)
  obtain ⟨c125, Ar125, q125⟩ := id fq124
  have hc48_126 : ¬ ((1 : Int32) < (1 : Int32)) := (by decide)
  have go127 : ∀ t, Steps p.tables e below (T122.setTop (mkF m 144 #[.val (.ref a1), .val .null, .val (.ref a3), .val (.int (1 : Int32)), .val (.ref t0), .val (.ref t0)] [])) t → Steps p.tables e below (s₁.setTop (entryFrame m #[(.ref a1), .null, (.ref a3)] 6)) t := fun t kt => go123 t (by
      refine X122.arraylength hx (by rw [e122]; exact Ar125.1) (State.isArrayOf_alike hZ.alike Ar125.2.1) (g := (mkF m 47 #[.val (.ref a1), .val .null, .val (.ref a3), .val (.int (1 : Int32)), .val (.ref t0), .val (.ref t0)] [(.ref b6), (.int (1 : Int32))])) rfl rfl (hb hby d8_47) _ ?_
      rw [own_len q125 (n := (1 : Int32)) rfl]
      show Steps p.tables e below (T122.setTop (mkF m 48 #[.val (.ref a1), .val .null, .val (.ref a3), .val (.int (1 : Int32)), .val (.ref t0), .val (.ref t0)] [(.int (1 : Int32)), (.int (1 : Int32))])) _
      refine XS.icmpYes X122.here hx rfl (pc0 := 48) (pc' := 144) rfl (hb hby d8_48) rfl (flt hc48_126).2.1 (by decide) (by decide) ?_
      show Steps p.tables e below (T122.setTop (mkF m 144 #[.val (.ref a1), .val .null, .val (.ref a3), .val (.int (1 : Int32)), .val (.ref t0), .val (.ref t0)] [])) _
      exact kt)
  obtain ⟨fs, hr, hrun, hended, hW, hsame⟩ := X122.leave (v := none) (fun _ => rfl)
  refine ⟨_, _, go127 _ (X122.returnOut hx Bd.returns (hb hby d8_144) hr), hrun, hended, _, _, rfl, ?_, ⟨_, rfl⟩, hW, hsame.mono (by decide) (by decide)⟩
  show own_QC _ _ _ _ _ _ _ _ T122.heap _
  rw [e122]
  have kp128 := ((Keep.refl h0 [a1]).ext E6)
  have kp129 := (kp128.wr W10 (Or.inl (List.mem_of_getElem? (i := 0) rfl)))
  have kp130 := (kp129.ext E16)
  have kp131 := (kp130.wr W27 (Or.inl (List.mem_of_getElem? (i := 0) rfl)))
  have kp132 := (kp131.ext E33)
  have kp133 := (kp132.wr W45 (Or.inl (List.mem_of_getElem? (i := 0) rfl)))
  have kp134 := (kp133.wr W85 (Or.inr sz6))
  have kp135 := (kp134.wr W99 (Or.inr sz16))
  have fr136 := ((fq44.wr W45).wr W85)
  have fq137 := ((fr136.wr W99).wr W117)
  have fq138 := ((fq88.other W99 (Or.inl ne_a1_b16)).other W117 (Or.inl ne_a1_b33))
  have fq139 := (fq101.other W117 (Or.inl ne_a1_b33))
  have fq140 := (V99.other W117 ne_b16_b33)
  exact ⟨b6, b16, b33, rfl, N117, (kp135.wr W117 (Or.inr sz33)), fq137, fq121, fq138, fq139, fq124, fq140, V117, sz6, sz16, sz33⟩
theorem ef_rmC1_1 (m : MethodId) (a1 : Addr) (a3 : Addr) : entryFrame m #[(.ref a1), (.ref a3)] 2 = mkF m 0 #[.val (.ref a1), .val (.ref a3)] [] := by first | (simp [entryFrame, mkF, argsToLocals, Value.category]; done) | rfl
set_option maxRecDepth 65536 in
set_option maxHeartbeats 40000000 in
theorem rmC1_1 (l : Launch) (Z : State) (a0 : Array Value) (hw : ∀ d ∈ tables_1, d.before a0 Z = true) (ws : List Jvm.Cond) (a1 a3 ea : Addr) (mc : Int32) (l0 t0 : Addr) (s0 : Int32) (f0 u0 : Int64) (h0 : Heap) (n0 : Nat) (Z0 : n0 ≤ h0.size) (E0 : Exa Z h0 a1 "com/example/invariant_ink/invariantink/engine/Combinations") (F_slots : Fld Z h0 a1 "com/example/invariant_ink/invariantink/engine/Combinations" "slots" "[I" .null) (F_firsts : Fld Z h0 a1 "com/example/invariant_ink/invariantink/engine/Combinations" "firsts" "[J" .null) (F_lasts : Fld Z h0 a1 "com/example/invariant_ink/invariantink/engine/Combinations" "lasts" "[J" .null) (ga : n0 ≤ a1) (LO : own_LO Z h0 a3 (.ref ea) 1 mc) (EV0 : own_AVO Z h0 ea [(.ref l0), .null, .null, .null, .null, .null, .null, .null, .null, .null]) (EL0 : Exa Z h0 l0 "com/example/invariant_ink/invariantink/lang/Local") (FS0 : Fld Z h0 l0 "com/example/invariant_ink/invariantink/lang/Local" "slot" "I" (.int s0)) (FT0 : Fld Z h0 l0 "com/example/invariant_ink/invariantink/lang/Local" "type" "Lcom/example/invariant_ink/invariantink/lang/Type;" (.ref t0)) (ET0 : Exa Z h0 t0 "com/example/invariant_ink/invariantink/lang/RangeType") (FL0 : Fld Z h0 t0 "com/example/invariant_ink/invariantink/lang/RangeType" "low" "J" (.long f0)) (FH0 : Fld Z h0 t0 "com/example/invariant_ink/invariantink/lang/RangeType" "high" "J" (.long u0)) :
    MetFree l (⟨"com/example/invariant_ink/invariantink/engine/Combinations", "<init>", "(Ljava/util/List;)V"⟩ : MethodName) (head1 (Jvm.Cond.code (⟨"com/example/invariant_ink/invariantink/engine/Combinations", "<init>", "(Ljava/util/List;)V"⟩ : MethodName) prog_19_method_2_code 2 none :: ws) ({ frames := 4, cells := 3, slots := 3, locals := 59 } : Room)) (fun a U => a = #[(.ref a1), (.ref a3)] ∧ Z.Warmed39 U.vm ∧ U.heap = h0) (fun _ _ _ _ _ => True) (fun _ U o U' => ∃ v L, o = .returned v ∧ own_QC Z a1 [(.int s0)] [(.long f0)] [(.long u0)] h0 n0 v U'.heap L ∧ FrameEnd U o U' L ({ frames := 4, cells := 3, slots := 3, locals := 59 } : Room).cells ({ frames := 4, cells := 3, slots := 3, locals := 59 } : Room).slots) := by
  refine MetFree.of_bodySF (plainFor_of_name pn_7) hisR ?_
  intro p e s m args below meth c s₁ Bd hml0 hP hK
  obtain ⟨rfl, hZ, hh⟩ := hP
  have hx := Bd.exec
  have hby := Bd.bytes
  have hml : c.maxLocals = 2 := hml0
  have hown : s.vm.findClass "com/example/invariant_ink/invariantink/engine/Combinations" = some m.cls := findClass_of_methodNamed Bd.named
  have hnm := (name_of_methodNamed Bd.named Bd.method).1
  have X0 : Stand p l e ({ frames := 4, cells := 3, slots := 3, locals := 59 } : Room) s m #[(.ref a1), (.ref a3)] below meth c s₁ [] 0 0 := Stand.of_body Bd
  have e0 : s₁.heap = h0 := by rw [← hh, Bd.state]; rfl
  have N0 := Fr.nil n0
  have go0 : ∀ t, Steps p.tables e below (s₁.setTop (mkF m 0 #[.val (.ref a1), .val (.ref a3)] [])) t → Steps p.tables e below (s₁.setTop (entryFrame m #[(.ref a1), (.ref a3)] 2)) t := fun t k => castTop (ef_rmC1_1 m a1 a3) k
  have go1 : ∀ t, Steps p.tables e below (s₁.setTop (mkF m 3 #[.val (.ref a1), .val (.ref a3)] [(.ref a3), .null, (.ref a1)])) t → Steps p.tables e below (s₁.setTop (entryFrame m #[(.ref a1), (.ref a3)] 2)) t := fun t kt => go0 t (by
      refine XS.aloadN X0.here hx rfl (hb hby d7_0) rfl rfl ?_
      show Steps p.tables e below (s₁.setTop (mkF m 1 #[.val (.ref a1), .val (.ref a3)] [(.ref a1)])) _
      refine XS.aconstNull X0.here hx rfl (hb hby d7_1) ?_
      show Steps p.tables e below (s₁.setTop (mkF m 2 #[.val (.ref a1), .val (.ref a3)] [.null, (.ref a1)])) _
      refine XS.aloadN X0.here hx rfl (hb hby d7_2) rfl rfl ?_
      show Steps p.tables e below (s₁.setTop (mkF m 3 #[.val (.ref a1), .val (.ref a3)] [(.ref a3), .null, (.ref a1)])) _
      exact kt)
  obtain ⟨_, _, ⟨T2, L2, k2, n2⟩, -, X2, ⟨Lc2, hQ2, l2, y2, z2⟩, st2⟩ := X0.specialBack hx (y := own_m11) rfl hown (mvT hZ (own_h hw 71 rfl)) (mvT hZ (own_h hw 72 rfl)) (mvT hZ (own_h hw 73 rfl)) (by decide) (backOf (W := 0) (rmC2_1 l Z a0 hw [] a1 a3 ea mc l0 t0 s0 f0 u0 h0 n0 Z0 E0 F_slots F_firsts F_lasts ga LO EV0 EL0 FS0 FT0 ET0 FL0 FH0) hZ (own_h hw 73 rfl) (own_h hw 67 rfl) (by decide) (by decide)) (g := (mkF m 3 #[.val (.ref a1), .val (.ref a3)] [(.ref a3), .null, (.ref a1)])) rfl (by rw [hml]; rfl) (Steps.refl _) (a := a1) (argsL := [.null, (.ref a3)]) (rest := []) (lenOf pd_4 rfl) rfl (by show 2 * 0 + _ ≤ _; exact Nat.le_of_eq rfl) (hb hby d7_3) (fun _ _ => ⟨rfl, e0, (by decide : 0 + 3 ≤ _), (by decide : 0 + 3 ≤ _)⟩)
  dsimp only [Pt.U, Pt.locs, Pt.cells, Pt.slots] at X2 l2 y2 z2 st2 hQ2
  subst y2 z2
  obtain ⟨x2, y2, z2, rfl, N2q, r2⟩ := hQ2
  have N2 := Fr.app N0 N2q
  rw [← l2] at N2
  have go3 : ∀ t, Steps p.tables e below (T2.setTop (mkF m 6 #[.val (.ref a1), .val (.ref a3)] [])) t → Steps p.tables e below (s₁.setTop (entryFrame m #[(.ref a1), (.ref a3)] 2)) t := fun t kt => go1 t (by
      refine st2.trans ?_
      show Steps p.tables e below (T2.setTop (mkF m 6 #[.val (.ref a1), .val (.ref a3)] [])) _
      exact kt)
  obtain ⟨fs, hr, hrun, hended, hW, hsame⟩ := X2.leave (v := none) (fun _ => rfl)
  refine ⟨_, _, go3 _ (X2.returnOut hx Bd.returns (hb hby d7_6) hr), hrun, hended, _, _, rfl, ?_, ⟨_, rfl⟩, hW, hsame.mono (by decide) (by decide)⟩
  exact ⟨x2, y2, z2, rfl, N2, r2⟩
theorem ef_rmC2_2 (m : MethodId) (a1 : Addr) (a3 : Addr) : entryFrame m #[(.ref a1), .null, (.ref a3)] 6 = mkF m 0 #[.val (.ref a1), .val .null, .val (.ref a3), .unset, .unset, .unset] [] := by first | (simp [entryFrame, mkF, argsToLocals, Value.category]; done) | rfl
set_option maxRecDepth 65536 in
set_option maxHeartbeats 40000000 in
theorem rmC2_2 (l : Launch) (Z : State) (a0 : Array Value) (hw : ∀ d ∈ tables_1, d.before a0 Z = true) (ws : List Jvm.Cond) (a1 a3 ea : Addr) (mc : Int32) (l0 l1 t0 t1 : Addr) (s0 s1 : Int32) (f0 f1 u0 u1 : Int64) (h0 : Heap) (n0 : Nat) (Z0 : n0 ≤ h0.size) (E0 : Exa Z h0 a1 "com/example/invariant_ink/invariantink/engine/Combinations") (F_slots : Fld Z h0 a1 "com/example/invariant_ink/invariantink/engine/Combinations" "slots" "[I" .null) (F_firsts : Fld Z h0 a1 "com/example/invariant_ink/invariantink/engine/Combinations" "firsts" "[J" .null) (F_lasts : Fld Z h0 a1 "com/example/invariant_ink/invariantink/engine/Combinations" "lasts" "[J" .null) (ga : n0 ≤ a1) (LO : own_LO Z h0 a3 (.ref ea) 2 mc) (EV0 : own_AVO Z h0 ea [(.ref l0), (.ref l1), .null, .null, .null, .null, .null, .null, .null, .null]) (EL0 : Exa Z h0 l0 "com/example/invariant_ink/invariantink/lang/Local") (FS0 : Fld Z h0 l0 "com/example/invariant_ink/invariantink/lang/Local" "slot" "I" (.int s0)) (FT0 : Fld Z h0 l0 "com/example/invariant_ink/invariantink/lang/Local" "type" "Lcom/example/invariant_ink/invariantink/lang/Type;" (.ref t0)) (ET0 : Exa Z h0 t0 "com/example/invariant_ink/invariantink/lang/RangeType") (FL0 : Fld Z h0 t0 "com/example/invariant_ink/invariantink/lang/RangeType" "low" "J" (.long f0)) (FH0 : Fld Z h0 t0 "com/example/invariant_ink/invariantink/lang/RangeType" "high" "J" (.long u0)) (EL1 : Exa Z h0 l1 "com/example/invariant_ink/invariantink/lang/Local") (FS1 : Fld Z h0 l1 "com/example/invariant_ink/invariantink/lang/Local" "slot" "I" (.int s1)) (FT1 : Fld Z h0 l1 "com/example/invariant_ink/invariantink/lang/Local" "type" "Lcom/example/invariant_ink/invariantink/lang/Type;" (.ref t1)) (ET1 : Exa Z h0 t1 "com/example/invariant_ink/invariantink/lang/RangeType") (FL1 : Fld Z h0 t1 "com/example/invariant_ink/invariantink/lang/RangeType" "low" "J" (.long f1)) (FH1 : Fld Z h0 t1 "com/example/invariant_ink/invariantink/lang/RangeType" "high" "J" (.long u1)) :
    MetFree l (⟨"com/example/invariant_ink/invariantink/engine/Combinations", "<init>", "(Lcom/example/invariant_ink/invariantink/lang/Instance;Ljava/util/List;)V"⟩ : MethodName) (head1 (Jvm.Cond.code (⟨"com/example/invariant_ink/invariantink/engine/Combinations", "<init>", "(Lcom/example/invariant_ink/invariantink/lang/Instance;Ljava/util/List;)V"⟩ : MethodName) prog_19_method_1_code 6 none :: ws) ({ frames := 3, cells := 3, slots := 6, locals := 42 } : Room)) (fun a U => a = #[(.ref a1), .null, (.ref a3)] ∧ Z.Warmed39 U.vm ∧ U.heap = h0) (fun _ _ _ _ _ => True) (fun _ U o U' => ∃ v L, o = .returned v ∧ own_QC Z a1 [(.int s0), (.int s1)] [(.long f0), (.long f1)] [(.long u0), (.long u1)] h0 n0 v U'.heap L ∧ FrameEnd U o U' L ({ frames := 3, cells := 3, slots := 6, locals := 42 } : Room).cells ({ frames := 3, cells := 3, slots := 6, locals := 42 } : Room).slots) := by
  refine MetFree.of_bodySF (plainFor_of_name pn_8) hisR ?_
  intro p e s m args below meth c s₁ Bd hml0 hP hK
  obtain ⟨rfl, hZ, hh⟩ := hP
  have hx := Bd.exec
  have hby := Bd.bytes
  have hml : c.maxLocals = 6 := hml0
  have hown : s.vm.findClass "com/example/invariant_ink/invariantink/engine/Combinations" = some m.cls := findClass_of_methodNamed Bd.named
  have hnm := (name_of_methodNamed Bd.named Bd.method).1
  have X0 : Stand p l e ({ frames := 3, cells := 3, slots := 6, locals := 42 } : Room) s m #[(.ref a1), .null, (.ref a3)] below meth c s₁ [] 0 0 := Stand.of_body Bd
  have e0 : s₁.heap = h0 := by rw [← hh, Bd.state]; rfl
  have N0 := Fr.nil n0
  have go0 : ∀ t, Steps p.tables e below (s₁.setTop (mkF m 0 #[.val (.ref a1), .val .null, .val (.ref a3), .unset, .unset, .unset] [])) t → Steps p.tables e below (s₁.setTop (entryFrame m #[(.ref a1), .null, (.ref a3)] 6)) t := fun t k => castTop (ef_rmC2_2 m a1 a3) k
  obtain ⟨OE, OF1, OF2, OF3⟩ := id LO
  have na3 : a3 ≠ a1 := Exa.ne OE E0 (by decide)
  have ne0 : a1 ≠ ea := by obtain ⟨_, A, _⟩ := EV0; exact ne_arr E0 (own_h hw 66 rfl) A
  have nl0 : l0 ≠ a1 := Exa.ne EL0 E0 (by decide)
  have nt0 : t0 ≠ a1 := Exa.ne ET0 E0 (by decide)
  have nl1 : l1 ≠ a1 := Exa.ne EL1 E0 (by decide)
  have nt1 : t1 ≠ a1 := Exa.ne ET1 E0 (by decide)
  have go1 : ∀ t, Steps p.tables e below (s₁.setTop (mkF m 1 #[.val (.ref a1), .val .null, .val (.ref a3), .unset, .unset, .unset] [(.ref a1)])) t → Steps p.tables e below (s₁.setTop (entryFrame m #[(.ref a1), .null, (.ref a3)] 6)) t := fun t kt => go0 t (by
      refine XS.aloadN X0.here hx rfl (hb hby d8_0) rfl rfl ?_
      show Steps p.tables e below (s₁.setTop (mkF m 1 #[.val (.ref a1), .val .null, .val (.ref a3), .unset, .unset, .unset] [(.ref a1)])) _
      exact kt)
  obtain ⟨T2, X2, e2, st2⟩ := initO X0 hx hZ hown (own_h hw 74 rfl) (own_h hw 8 rfl) (own_h hw 9 rfl) e0 (g := (mkF m 1 #[.val (.ref a1), .val .null, .val (.ref a3), .unset, .unset, .unset] [(.ref a1)])) rfl (by rw [hml]; rfl) rfl (hb hby d8_1) (by decide) (W := 0) (by show 2 * 0 + _ ≤ _; exact Nat.le_of_eq rfl) (by decide)
  have go3 : ∀ t, Steps p.tables e below (T2.setTop (mkF m 6 #[.val (.ref a1), .val .null, .val (.ref a3), .unset, .unset, .unset] [(.ref a3), (.ref a1)])) t → Steps p.tables e below (s₁.setTop (entryFrame m #[(.ref a1), .null, (.ref a3)] 6)) t := fun t kt => go1 t (by
      refine st2 _ ?_
      show Steps p.tables e below (T2.setTop (mkF m 4 #[.val (.ref a1), .val .null, .val (.ref a3), .unset, .unset, .unset] [])) _
      refine XS.aloadN X2.here hx rfl (hb hby d8_4) rfl rfl ?_
      show Steps p.tables e below (T2.setTop (mkF m 5 #[.val (.ref a1), .val .null, .val (.ref a3), .unset, .unset, .unset] [(.ref a1)])) _
      refine XS.aloadN X2.here hx rfl (hb hby d8_5) rfl rfl ?_
      show Steps p.tables e below (T2.setTop (mkF m 6 #[.val (.ref a1), .val .null, .val (.ref a3), .unset, .unset, .unset] [(.ref a3), (.ref a1)])) _
      exact kt)
  obtain ⟨cq4, kq4, q4a, q4b, q4c⟩ := isOf hZ e2 OE
  obtain ⟨_, _, ⟨T4, L4, k4, n4⟩, -, X4, ⟨Lc4, hQ4, l4, y4, z4⟩, st4⟩ := X2.interfaceBack hx (xi := own_m9) (y := own_m10) hown (mvT hZ (own_h hw 75 rfl)) (mvT hZ (own_h hw 76 rfl)) (mvT hZ (own_h hw 77 rfl)) (mvT hZ (own_h hw 78 rfl)) (mvT hZ (own_h hw 79 rfl)) (mvT hZ (own_h hw 80 rfl)) (mvT hZ (own_h hw 81 rfl)) (mvT hZ (own_h hw 82 rfl)) (by decide) (backOf (W := 1) (rm9 l Z a0 hw [] a3 (2 : Int32) h0 n0 OF2) hZ (own_h hw 83 rfl) (own_h hw 43 rfl) (by decide) (by decide)) q4a q4b q4c (g := (mkF m 6 #[.val (.ref a1), .val .null, .val (.ref a3), .unset, .unset, .unset] [(.ref a3), (.ref a1)])) rfl (by rw [hml]; rfl) (Steps.refl _) (argsL := []) (rest := [(.ref a1)]) (lenOf pd_5 rfl) rfl (by show 2 * 0 + _ ≤ _; exact Nat.le_of_eq rfl) (hb hby d8_6) (fun _ _ => ⟨rfl, e2, (by decide : 0 + 0 ≤ _), (by decide : 0 + 0 ≤ _)⟩)
  dsimp only [Pt.U, Pt.locs, Pt.cells, Pt.slots] at X4 l4 y4 z4 st4 hQ4
  subst y4 z4
  obtain ⟨rfl, N4q, e4⟩ := hQ4
  have N4 := Fr.app N0 N4q
  rw [← l4] at N4
  have go5 : ∀ t, Steps p.tables e below (T4.setTop (mkF m 11 #[.val (.ref a1), .val .null, .val (.ref a3), .unset, .unset, .unset] [(.int (2 : Int32)), (.ref a1)])) t → Steps p.tables e below (s₁.setTop (entryFrame m #[(.ref a1), .null, (.ref a3)] 6)) t := fun t kt => go3 t (by
      refine st4.trans ?_
      show Steps p.tables e below (T4.setTop (mkF m 11 #[.val (.ref a1), .val .null, .val (.ref a3), .unset, .unset, .unset] [(.int (2 : Int32)), (.ref a1)])) _
      exact kt)
  obtain ⟨T6, h6, k6, X6, e6, E6, A6, st6⟩ := newP X4 hx hZ (own_h hw 86 rfl) e4 (g := (mkF m 11 #[.val (.ref a1), .val .null, .val (.ref a3), .unset, .unset, .unset] [(.int (2 : Int32)), (.ref a1)])) rfl (hb hby d8_11) rfl (by decide) (cap := 2) (by decide) (by decide) (by decide) (by decide)
  obtain ⟨b6, g6⟩ : ∃ z, z = h0.size := ⟨_, rfl⟩
  rw [← g6] at A6 st6
  have ks6 : h0.size ≤ h0.size := Nat.le_refl _
  have sz6 : h0.size ≤ b6 := Nat.le_trans ks6 (Nat.le_of_eq g6.symm)
  have ne_a1_b6 : a1 ≠ b6 := Nat.ne_of_lt (Nat.lt_of_lt_of_le E0.lt (Nat.le_of_eq g6.symm))
  have ne_a3_b6 : a3 ≠ b6 := Nat.ne_of_lt (Nat.lt_of_lt_of_le OE.lt (Nat.le_of_eq g6.symm))
  have ne_ea_b6 : ea ≠ b6 := Nat.ne_of_lt (Nat.lt_of_lt_of_le EV0.lt (Nat.le_of_eq g6.symm))
  have ne_l0_b6 : l0 ≠ b6 := Nat.ne_of_lt (Nat.lt_of_lt_of_le EL0.lt (Nat.le_of_eq g6.symm))
  have ne_l1_b6 : l1 ≠ b6 := Nat.ne_of_lt (Nat.lt_of_lt_of_le EL1.lt (Nat.le_of_eq g6.symm))
  have ne_t0_b6 : t0 ≠ b6 := Nat.ne_of_lt (Nat.lt_of_lt_of_le ET0.lt (Nat.le_of_eq g6.symm))
  have ne_t1_b6 : t1 ≠ b6 := Nat.ne_of_lt (Nat.lt_of_lt_of_le ET1.lt (Nat.le_of_eq g6.symm))
  have V6 : own_AV Z h6 b6 .int [(.int (0 : Int32)), (.int (0 : Int32))] := own_AV.new A6 (i := 2) (by decide)
  have gb6 : n0 ≤ b6 := Nat.le_trans Z0 (Nat.le_of_eq g6.symm)
  have go7 : ∀ t, Steps p.tables e below (T6.setTop (mkF m 13 #[.val (.ref a1), .val .null, .val (.ref a3), .unset, .unset, .unset] [(.ref b6), (.ref a1)])) t → Steps p.tables e below (s₁.setTop (entryFrame m #[(.ref a1), .null, (.ref a3)] 6)) t := fun t kt => go5 t (by
      refine st6 _ ?_
      show Steps p.tables e below (T6.setTop (mkF m 13 #[.val (.ref a1), .val .null, .val (.ref a3), .unset, .unset, .unset] [(.ref b6), (.ref a1)])) _
      exact kt)
  have fq8 := (F_slots.ext E6)
  have fq9 := (E0.ext E6)
  obtain ⟨T10, h10, X10, e10, W10, st10⟩ := putF X6 hx hZ hown (host := "") (Or.inl (own_h hw 87 rfl)) Via.refl e6 fq8 fq9 (Or.inr ⟨(own_h hw 88 rfl), rfl, hnm⟩) (own_h hw 66 rfl) (ty := (.array .int)) (by decide) rfl rfl (g := (mkF m 13 #[.val (.ref a1), .val .null, .val (.ref a3), .unset, .unset, .unset] [(.ref b6), (.ref a1)])) rfl rfl (hb hby d8_13)
  have Fw10 := fq8.same W10
  obtain ⟨Ls10, X10, N10⟩ := own_loc X10 (Fr.snoc X10 N4 ga)
  have go11 : ∀ t, Steps p.tables e below (T10.setTop (mkF m 18 #[.val (.ref a1), .val .null, .val (.ref a3), .unset, .unset, .unset] [(.ref a3), (.ref a1)])) t → Steps p.tables e below (s₁.setTop (entryFrame m #[(.ref a1), .null, (.ref a3)] 6)) t := fun t kt => go7 t (by
      refine st10 _ ?_
      show Steps p.tables e below (T10.setTop (mkF m 16 #[.val (.ref a1), .val .null, .val (.ref a3), .unset, .unset, .unset] [])) _
      refine XS.aloadN X10.here hx rfl (hb hby d8_16) rfl rfl ?_
      show Steps p.tables e below (T10.setTop (mkF m 17 #[.val (.ref a1), .val .null, .val (.ref a3), .unset, .unset, .unset] [(.ref a1)])) _
      refine XS.aloadN X10.here hx rfl (hb hby d8_17) rfl rfl ?_
      show Steps p.tables e below (T10.setTop (mkF m 18 #[.val (.ref a1), .val .null, .val (.ref a3), .unset, .unset, .unset] [(.ref a3), (.ref a1)])) _
      exact kt)
  have fq13 := ((OF2.ext E6).other W10 (Or.inl na3))
  have fq14 := ((OE.ext E6).wr W10)
  obtain ⟨cq12, kq12, q12a, q12b, q12c⟩ := isOf hZ e10 fq14
  obtain ⟨_, _, ⟨T12, L12, k12, n12⟩, -, X12, ⟨Lc12, hQ12, l12, y12, z12⟩, st12⟩ := X10.interfaceBack hx (xi := own_m9) (y := own_m10) hown (mvT hZ (own_h hw 75 rfl)) (mvT hZ (own_h hw 76 rfl)) (mvT hZ (own_h hw 77 rfl)) (mvT hZ (own_h hw 78 rfl)) (mvT hZ (own_h hw 79 rfl)) (mvT hZ (own_h hw 80 rfl)) (mvT hZ (own_h hw 81 rfl)) (mvT hZ (own_h hw 82 rfl)) (by decide) (backOf (W := 1) (rm9 l Z a0 hw [] a3 (2 : Int32) h10 n0 fq13) hZ (own_h hw 83 rfl) (own_h hw 43 rfl) (by decide) (by decide)) q12a q12b q12c (g := (mkF m 18 #[.val (.ref a1), .val .null, .val (.ref a3), .unset, .unset, .unset] [(.ref a3), (.ref a1)])) rfl (by rw [hml]; rfl) (Steps.refl _) (argsL := []) (rest := [(.ref a1)]) (lenOf pd_5 rfl) rfl (by show 2 * 0 + _ ≤ _; exact Nat.le_of_eq rfl) (hb hby d8_18) (fun _ _ => ⟨rfl, e10, (by decide : 1 + 0 ≤ _), (by decide : 2 + 0 ≤ _)⟩)
  dsimp only [Pt.U, Pt.locs, Pt.cells, Pt.slots] at X12 l12 y12 z12 st12 hQ12
  subst y12 z12
  obtain ⟨rfl, N12q, e12⟩ := hQ12
  have N12 := Fr.app N10 N12q
  rw [← l12] at N12
  have go15 : ∀ t, Steps p.tables e below (T12.setTop (mkF m 23 #[.val (.ref a1), .val .null, .val (.ref a3), .unset, .unset, .unset] [(.int (2 : Int32)), (.ref a1)])) t → Steps p.tables e below (s₁.setTop (entryFrame m #[(.ref a1), .null, (.ref a3)] 6)) t := fun t kt => go11 t (by
      refine st12.trans ?_
      show Steps p.tables e below (T12.setTop (mkF m 23 #[.val (.ref a1), .val .null, .val (.ref a3), .unset, .unset, .unset] [(.int (2 : Int32)), (.ref a1)])) _
      exact kt)
  have zs17 := (Nat.le_trans (Nat.le_trans Z0 E6.1) (Keep.of_wr W10).1)
  obtain ⟨T16, h16, k16, X16, e16, E16, A16, st16⟩ := newP X12 hx hZ (own_h hw 0 rfl) e12 (g := (mkF m 23 #[.val (.ref a1), .val .null, .val (.ref a3), .unset, .unset, .unset] [(.int (2 : Int32)), (.ref a1)])) rfl (hb hby d8_23) rfl (by decide) (cap := 2) (by decide) (by decide) (by decide) (by decide)
  obtain ⟨b16, g16⟩ : ∃ z, z = h10.size := ⟨_, rfl⟩
  rw [← g16] at A16 st16
  have ks16 : h0.size ≤ h10.size := Nat.le_trans (Nat.le_trans (ks6) E6.1) (Keep.of_wr W10).1
  have sz16 : h0.size ≤ b16 := Nat.le_trans ks16 (Nat.le_of_eq g16.symm)
  have fq18 := (fq9.wr W10)
  have ne_a1_b16 : a1 ≠ b16 := Nat.ne_of_lt (Nat.lt_of_lt_of_le fq18.lt (Nat.le_of_eq g16.symm))
  have ne_a3_b16 : a3 ≠ b16 := Nat.ne_of_lt (Nat.lt_of_lt_of_le fq14.lt (Nat.le_of_eq g16.symm))
  have fq19 := (V6.other W10 (Ne.symm ne_a1_b6))
  have ne_b6_b16 : b6 ≠ b16 := Nat.ne_of_lt (Nat.lt_of_lt_of_le fq19.lt (Nat.le_of_eq g16.symm))
  have fq20 := ((EV0.ext E6).other W10 (Ne.symm ne0))
  have ne_ea_b16 : ea ≠ b16 := Nat.ne_of_lt (Nat.lt_of_lt_of_le fq20.lt (Nat.le_of_eq g16.symm))
  have fq21 := ((EL0.ext E6).wr W10)
  have ne_l0_b16 : l0 ≠ b16 := Nat.ne_of_lt (Nat.lt_of_lt_of_le fq21.lt (Nat.le_of_eq g16.symm))
  have fq22 := ((EL1.ext E6).wr W10)
  have ne_l1_b16 : l1 ≠ b16 := Nat.ne_of_lt (Nat.lt_of_lt_of_le fq22.lt (Nat.le_of_eq g16.symm))
  have fq23 := ((ET0.ext E6).wr W10)
  have ne_t0_b16 : t0 ≠ b16 := Nat.ne_of_lt (Nat.lt_of_lt_of_le fq23.lt (Nat.le_of_eq g16.symm))
  have fq24 := ((ET1.ext E6).wr W10)
  have ne_t1_b16 : t1 ≠ b16 := Nat.ne_of_lt (Nat.lt_of_lt_of_le fq24.lt (Nat.le_of_eq g16.symm))
  have V16 : own_AV Z h16 b16 .long [(.long (0 : Int64)), (.long (0 : Int64))] := own_AV.new A16 (i := 2) (by decide)
  have gb16 : n0 ≤ b16 := Nat.le_trans zs17 (Nat.le_of_eq g16.symm)
  have go25 : ∀ t, Steps p.tables e below (T16.setTop (mkF m 25 #[.val (.ref a1), .val .null, .val (.ref a3), .unset, .unset, .unset] [(.ref b16), (.ref a1)])) t → Steps p.tables e below (s₁.setTop (entryFrame m #[(.ref a1), .null, (.ref a3)] 6)) t := fun t kt => go15 t (by
      refine st16 _ ?_
      show Steps p.tables e below (T16.setTop (mkF m 25 #[.val (.ref a1), .val .null, .val (.ref a3), .unset, .unset, .unset] [(.ref b16), (.ref a1)])) _
      exact kt)
  have fr26 := ((F_firsts.ext E6).other W10 (Or.inr (slot_ne (Or.inr (own_h hw 90 rfl)) (Or.inr (own_h hw 88 rfl)) (by decide) (t := (.array .long)) (t' := (.array .int)) (by decide) (by decide))))
  have fq27 := (fr26.ext E16)
  have fq28 := (fq18.ext E16)
  obtain ⟨T29, h29, X29, e29, W29, st29⟩ := putF X16 hx hZ hown (host := "") (Or.inl (own_h hw 89 rfl)) Via.refl e16 fq27 fq28 (Or.inr ⟨(own_h hw 90 rfl), rfl, hnm⟩) (own_h hw 66 rfl) (ty := (.array .long)) (by decide) rfl rfl (g := (mkF m 25 #[.val (.ref a1), .val .null, .val (.ref a3), .unset, .unset, .unset] [(.ref b16), (.ref a1)])) rfl rfl (hb hby d8_25)
  have Fw29 := fq27.same W29
  obtain ⟨Ls29, X29, N29⟩ := own_loc X29 (Fr.snoc X29 N12 ga)
  have go30 : ∀ t, Steps p.tables e below (T29.setTop (mkF m 30 #[.val (.ref a1), .val .null, .val (.ref a3), .unset, .unset, .unset] [(.ref a3), (.ref a1)])) t → Steps p.tables e below (s₁.setTop (entryFrame m #[(.ref a1), .null, (.ref a3)] 6)) t := fun t kt => go25 t (by
      refine st29 _ ?_
      show Steps p.tables e below (T29.setTop (mkF m 28 #[.val (.ref a1), .val .null, .val (.ref a3), .unset, .unset, .unset] [])) _
      refine XS.aloadN X29.here hx rfl (hb hby d8_28) rfl rfl ?_
      show Steps p.tables e below (T29.setTop (mkF m 29 #[.val (.ref a1), .val .null, .val (.ref a3), .unset, .unset, .unset] [(.ref a1)])) _
      refine XS.aloadN X29.here hx rfl (hb hby d8_29) rfl rfl ?_
      show Steps p.tables e below (T29.setTop (mkF m 30 #[.val (.ref a1), .val .null, .val (.ref a3), .unset, .unset, .unset] [(.ref a3), (.ref a1)])) _
      exact kt)
  have fq32 := ((fq13.ext E16).other W29 (Or.inl na3))
  have fq33 := ((fq14.ext E16).wr W29)
  obtain ⟨cq31, kq31, q31a, q31b, q31c⟩ := isOf hZ e29 fq33
  obtain ⟨_, _, ⟨T31, L31, k31, n31⟩, -, X31, ⟨Lc31, hQ31, l31, y31, z31⟩, st31⟩ := X29.interfaceBack hx (xi := own_m9) (y := own_m10) hown (mvT hZ (own_h hw 75 rfl)) (mvT hZ (own_h hw 76 rfl)) (mvT hZ (own_h hw 77 rfl)) (mvT hZ (own_h hw 78 rfl)) (mvT hZ (own_h hw 79 rfl)) (mvT hZ (own_h hw 80 rfl)) (mvT hZ (own_h hw 81 rfl)) (mvT hZ (own_h hw 82 rfl)) (by decide) (backOf (W := 1) (rm9 l Z a0 hw [] a3 (2 : Int32) h29 n0 fq32) hZ (own_h hw 83 rfl) (own_h hw 43 rfl) (by decide) (by decide)) q31a q31b q31c (g := (mkF m 30 #[.val (.ref a1), .val .null, .val (.ref a3), .unset, .unset, .unset] [(.ref a3), (.ref a1)])) rfl (by rw [hml]; rfl) (Steps.refl _) (argsL := []) (rest := [(.ref a1)]) (lenOf pd_5 rfl) rfl (by show 2 * 0 + _ ≤ _; exact Nat.le_of_eq rfl) (hb hby d8_30) (fun _ _ => ⟨rfl, e29, (by decide : 2 + 0 ≤ _), (by decide : 4 + 0 ≤ _)⟩)
  dsimp only [Pt.U, Pt.locs, Pt.cells, Pt.slots] at X31 l31 y31 z31 st31 hQ31
  subst y31 z31
  obtain ⟨rfl, N31q, e31⟩ := hQ31
  have N31 := Fr.app N29 N31q
  rw [← l31] at N31
  have go34 : ∀ t, Steps p.tables e below (T31.setTop (mkF m 35 #[.val (.ref a1), .val .null, .val (.ref a3), .unset, .unset, .unset] [(.int (2 : Int32)), (.ref a1)])) t → Steps p.tables e below (s₁.setTop (entryFrame m #[(.ref a1), .null, (.ref a3)] 6)) t := fun t kt => go30 t (by
      refine st31.trans ?_
      show Steps p.tables e below (T31.setTop (mkF m 35 #[.val (.ref a1), .val .null, .val (.ref a3), .unset, .unset, .unset] [(.int (2 : Int32)), (.ref a1)])) _
      exact kt)
  have zs36 := (Nat.le_trans (Nat.le_trans zs17 E16.1) (Keep.of_wr W29).1)
  obtain ⟨T35, h35, k35, X35, e35, E35, A35, st35⟩ := newP X31 hx hZ (own_h hw 0 rfl) e31 (g := (mkF m 35 #[.val (.ref a1), .val .null, .val (.ref a3), .unset, .unset, .unset] [(.int (2 : Int32)), (.ref a1)])) rfl (hb hby d8_35) rfl (by decide) (cap := 2) (by decide) (by decide) (by decide) (by decide)
  obtain ⟨b35, g35⟩ : ∃ z, z = h29.size := ⟨_, rfl⟩
  rw [← g35] at A35 st35
  have ks35 : h0.size ≤ h29.size := Nat.le_trans (Nat.le_trans (ks16) E16.1) (Keep.of_wr W29).1
  have sz35 : h0.size ≤ b35 := Nat.le_trans ks35 (Nat.le_of_eq g35.symm)
  have fq37 := (fq28.wr W29)
  have ne_a1_b35 : a1 ≠ b35 := Nat.ne_of_lt (Nat.lt_of_lt_of_le fq37.lt (Nat.le_of_eq g35.symm))
  have ne_a3_b35 : a3 ≠ b35 := Nat.ne_of_lt (Nat.lt_of_lt_of_le fq33.lt (Nat.le_of_eq g35.symm))
  have fq38 := (V16.other W29 (Ne.symm ne_a1_b16))
  have ne_b16_b35 : b16 ≠ b35 := Nat.ne_of_lt (Nat.lt_of_lt_of_le fq38.lt (Nat.le_of_eq g35.symm))
  have fq39 := ((fq19.ext E16).other W29 (Ne.symm ne_a1_b6))
  have ne_b6_b35 : b6 ≠ b35 := Nat.ne_of_lt (Nat.lt_of_lt_of_le fq39.lt (Nat.le_of_eq g35.symm))
  have fq40 := ((fq20.ext E16).other W29 (Ne.symm ne0))
  have ne_ea_b35 : ea ≠ b35 := Nat.ne_of_lt (Nat.lt_of_lt_of_le fq40.lt (Nat.le_of_eq g35.symm))
  have fq41 := ((fq21.ext E16).wr W29)
  have ne_l0_b35 : l0 ≠ b35 := Nat.ne_of_lt (Nat.lt_of_lt_of_le fq41.lt (Nat.le_of_eq g35.symm))
  have fq42 := ((fq22.ext E16).wr W29)
  have ne_l1_b35 : l1 ≠ b35 := Nat.ne_of_lt (Nat.lt_of_lt_of_le fq42.lt (Nat.le_of_eq g35.symm))
  have fq43 := ((fq23.ext E16).wr W29)
  have ne_t0_b35 : t0 ≠ b35 := Nat.ne_of_lt (Nat.lt_of_lt_of_le fq43.lt (Nat.le_of_eq g35.symm))
  have fq44 := ((fq24.ext E16).wr W29)
  have ne_t1_b35 : t1 ≠ b35 := Nat.ne_of_lt (Nat.lt_of_lt_of_le fq44.lt (Nat.le_of_eq g35.symm))
  have V35 : own_AV Z h35 b35 .long [(.long (0 : Int64)), (.long (0 : Int64))] := own_AV.new A35 (i := 2) (by decide)
  have gb35 : n0 ≤ b35 := Nat.le_trans zs36 (Nat.le_of_eq g35.symm)
  have go45 : ∀ t, Steps p.tables e below (T35.setTop (mkF m 37 #[.val (.ref a1), .val .null, .val (.ref a3), .unset, .unset, .unset] [(.ref b35), (.ref a1)])) t → Steps p.tables e below (s₁.setTop (entryFrame m #[(.ref a1), .null, (.ref a3)] 6)) t := fun t kt => go34 t (by
      refine st35 _ ?_
      show Steps p.tables e below (T35.setTop (mkF m 37 #[.val (.ref a1), .val .null, .val (.ref a3), .unset, .unset, .unset] [(.ref b35), (.ref a1)])) _
      exact kt)
  have fr46 := ((F_lasts.ext E6).other W10 (Or.inr (slot_ne (Or.inr (own_h hw 92 rfl)) (Or.inr (own_h hw 88 rfl)) (by decide) (t := (.array .long)) (t' := (.array .int)) (by decide) (by decide))))
  have fq47 := (((fr46.ext E16).other W29 (Or.inr (slot_ne (Or.inr (own_h hw 92 rfl)) (Or.inr (own_h hw 90 rfl)) (by decide) (t := (.array .long)) (t' := (.array .long)) (by decide) (by decide)))).ext E35)
  have fq48 := (fq37.ext E35)
  obtain ⟨T49, h49, X49, e49, W49, st49⟩ := putF X35 hx hZ hown (host := "") (Or.inl (own_h hw 91 rfl)) Via.refl e35 fq47 fq48 (Or.inr ⟨(own_h hw 92 rfl), rfl, hnm⟩) (own_h hw 66 rfl) (ty := (.array .long)) (by decide) rfl rfl (g := (mkF m 37 #[.val (.ref a1), .val .null, .val (.ref a3), .unset, .unset, .unset] [(.ref b35), (.ref a1)])) rfl rfl (hb hby d8_37)
  have Fw49 := fq47.same W49
  obtain ⟨Ls49, X49, N49⟩ := own_loc X49 (Fr.snoc X49 N31 ga)
  have go50 : ∀ t, Steps p.tables e below (T49.setTop (mkF m 44 #[.val (.ref a1), .val .null, .val (.ref a3), .val (.int (0 : Int32)), .unset, .unset] [(.ref a1), (.int (0 : Int32))])) t → Steps p.tables e below (s₁.setTop (entryFrame m #[(.ref a1), .null, (.ref a3)] 6)) t := fun t kt => go45 t (by
      refine st49 _ ?_
      show Steps p.tables e below (T49.setTop (mkF m 40 #[.val (.ref a1), .val .null, .val (.ref a3), .unset, .unset, .unset] [])) _
      refine XS.iconst X49.here hx rfl (hb hby d8_40) ?_
      show Steps p.tables e below (T49.setTop (mkF m 41 #[.val (.ref a1), .val .null, .val (.ref a3), .unset, .unset, .unset] [(.int (0 : Int32))])) _
      refine XS.istoreN X49.here hx rfl (hb hby d8_41) rfl (l' := #[.val (.ref a1), .val .null, .val (.ref a3), .val (.int (0 : Int32)), .unset, .unset]) rfl ?_
      show Steps p.tables e below (T49.setTop (mkF m 42 #[.val (.ref a1), .val .null, .val (.ref a3), .val (.int (0 : Int32)), .unset, .unset] [])) _
      refine XS.iloadN X49.here hx rfl (hb hby d8_42) rfl ?_
      show Steps p.tables e below (T49.setTop (mkF m 43 #[.val (.ref a1), .val .null, .val (.ref a3), .val (.int (0 : Int32)), .unset, .unset] [(.int (0 : Int32))])) _
      refine XS.aloadN X49.here hx rfl (hb hby d8_43) rfl rfl ?_
      show Steps p.tables e below (T49.setTop (mkF m 44 #[.val (.ref a1), .val .null, .val (.ref a3), .val (.int (0 : Int32)), .unset, .unset] [(.ref a1), (.int (0 : Int32))])) _
      exact kt)
  have fr51 := ((Fw10.ext E16).other W29 (Or.inr (slot_ne (Or.inr (own_h hw 88 rfl)) (Or.inr (own_h hw 90 rfl)) (by decide) (t := (.array .int)) (t' := (.array .long)) (by decide) (by decide))))
  have fq52 := ((fr51.ext E35).other W49 (Or.inr (slot_ne (Or.inr (own_h hw 88 rfl)) (Or.inr (own_h hw 92 rfl)) (by decide) (t := (.array .int)) (t' := (.array .long)) (by decide) (by decide))))
  obtain ⟨T53, X53, e53, st53⟩ := getF X49 hx hZ hown (host := "") (Or.inl (own_h hw 87 rfl)) Via.refl e49 fq52 (g := (mkF m 44 #[.val (.ref a1), .val .null, .val (.ref a3), .val (.int (0 : Int32)), .unset, .unset] [(.ref a1), (.int (0 : Int32))])) rfl rfl (hb hby d8_44)
  have go54 : ∀ t, Steps p.tables e below (T53.setTop (mkF m 47 #[.val (.ref a1), .val .null, .val (.ref a3), .val (.int (0 : Int32)), .unset, .unset] [(.ref b6), (.int (0 : Int32))])) t → Steps p.tables e below (s₁.setTop (entryFrame m #[(.ref a1), .null, (.ref a3)] 6)) t := fun t kt => go50 t (by
      refine st53 _ ?_
      show Steps p.tables e below (T53.setTop (mkF m 47 #[.val (.ref a1), .val .null, .val (.ref a3), .val (.int (0 : Int32)), .unset, .unset] [(.ref b6), (.int (0 : Int32))])) _
      exact kt)
  have fq55 := ((fq39.ext E35).other W49 (Ne.symm ne_a1_b6))
  obtain ⟨c56, Ar56, q56⟩ := id fq55
  have hc48_57 : (0 : Int32) < (2 : Int32) := (by decide)
  have go58 : ∀ t, Steps p.tables e below (T53.setTop (mkF m 53 #[.val (.ref a1), .val .null, .val (.ref a3), .val (.int (0 : Int32)), .unset, .unset] [(.int (0 : Int32)), (.ref a3)])) t → Steps p.tables e below (s₁.setTop (entryFrame m #[(.ref a1), .null, (.ref a3)] 6)) t := fun t kt => go54 t (by
      refine X53.arraylength hx (by rw [e53]; exact Ar56.1) (State.isArrayOf_alike hZ.alike Ar56.2.1) (g := (mkF m 47 #[.val (.ref a1), .val .null, .val (.ref a3), .val (.int (0 : Int32)), .unset, .unset] [(.ref b6), (.int (0 : Int32))])) rfl rfl (hb hby d8_47) _ ?_
      rw [own_len q56 (n := (2 : Int32)) rfl]
      show Steps p.tables e below (T53.setTop (mkF m 48 #[.val (.ref a1), .val .null, .val (.ref a3), .val (.int (0 : Int32)), .unset, .unset] [(.int (2 : Int32)), (.int (0 : Int32))])) _
      refine XS.icmpNo X53.here hx rfl (hb hby d8_48) rfl (tlt hc48_57).2.1 ?_
      show Steps p.tables e below (T53.setTop (mkF m 51 #[.val (.ref a1), .val .null, .val (.ref a3), .val (.int (0 : Int32)), .unset, .unset] [])) _
      refine XS.aloadN X53.here hx rfl (hb hby d8_51) rfl rfl ?_
      show Steps p.tables e below (T53.setTop (mkF m 52 #[.val (.ref a1), .val .null, .val (.ref a3), .val (.int (0 : Int32)), .unset, .unset] [(.ref a3)])) _
      refine XS.iloadN X53.here hx rfl (hb hby d8_52) rfl ?_
      show Steps p.tables e below (T53.setTop (mkF m 53 #[.val (.ref a1), .val .null, .val (.ref a3), .val (.int (0 : Int32)), .unset, .unset] [(.int (0 : Int32)), (.ref a3)])) _
      exact kt)
  have fr60 := ((OF1.ext E6).other W10 (Or.inl na3))
  have fr61 := (((fr60.ext E16).other W29 (Or.inl na3)).ext E35)
  have fq62 := (fr61.other W49 (Or.inl na3))
  have fq63 := ((fq40.ext E35).other W49 (Ne.symm ne0))
  have fq64 := ((fq33.ext E35).wr W49)
  have fq65 := ((fq32.ext E35).other W49 (Or.inl na3))
  obtain ⟨cq59, kq59, q59a, q59b, q59c⟩ := isOf hZ e53 fq64
  obtain ⟨_, _, ⟨T59, L59, k59, n59⟩, -, X59, ⟨Lc59, hQ59, l59, y59, z59⟩, st59⟩ := X53.interfaceBack hx (xi := own_m12) (y := own_m13) hown (mvT hZ (own_h hw 127 rfl)) (mvT hZ (own_h hw 128 rfl)) (mvT hZ (own_h hw 129 rfl)) (mvT hZ (own_h hw 130 rfl)) (mvT hZ (own_h hw 131 rfl)) (mvT hZ (own_h hw 132 rfl)) (mvT hZ (own_h hw 133 rfl)) (mvT hZ (own_h hw 82 rfl)) (by decide) (backOf (W := 0) (rm16 l Z a0 hw [] a3 (0 : Int32) ea l0 [(.ref l0), (.ref l1), .null, .null, .null, .null, .null, .null, .null, .null] 0 (2 : Int32) h49 n0 fq62 (fq63).av (by decide) (by decide) rfl fq64 fq65 (by decide)) hZ (own_h hw 134 rfl) (own_h hw 43 rfl) (by decide) (by decide)) q59a q59b q59c (g := (mkF m 53 #[.val (.ref a1), .val .null, .val (.ref a3), .val (.int (0 : Int32)), .unset, .unset] [(.int (0 : Int32)), (.ref a3)])) rfl (by rw [hml]; rfl) (Steps.refl _) (argsL := [(.int (0 : Int32))]) (rest := []) (lenOf pd_12 rfl) rfl (by show 2 * 0 + _ ≤ _; exact Nat.le_of_eq rfl) (hb hby d8_53) (fun _ _ => ⟨rfl, e53, (by decide : 3 + 0 ≤ _), (by decide : 6 + 0 ≤ _)⟩)
  dsimp only [Pt.U, Pt.locs, Pt.cells, Pt.slots] at X59 l59 y59 z59 st59 hQ59
  subst y59 z59
  obtain ⟨rfl, N59q, e59⟩ := hQ59
  have N59 := Fr.app N49 N59q
  rw [← l59] at N59
  have go66 : ∀ t, Steps p.tables e below (T59.setTop (mkF m 58 #[.val (.ref a1), .val .null, .val (.ref a3), .val (.int (0 : Int32)), .unset, .unset] [(.ref l0)])) t → Steps p.tables e below (s₁.setTop (entryFrame m #[(.ref a1), .null, (.ref a3)] 6)) t := fun t kt => go58 t (by
      refine st59.trans ?_
      show Steps p.tables e below (T59.setTop (mkF m 58 #[.val (.ref a1), .val .null, .val (.ref a3), .val (.int (0 : Int32)), .unset, .unset] [(.ref l0)])) _
      exact kt)
  have fq68 := ((fq41.ext E35).wr W49)
  obtain ⟨T67, X67, e67, st67⟩ := castY X59 hx hZ hown (own_h hw 148 rfl) e59 (Ins.self fq68) (g := (mkF m 58 #[.val (.ref a1), .val .null, .val (.ref a3), .val (.int (0 : Int32)), .unset, .unset] [(.ref l0)])) rfl rfl (hb hby d8_58)
  have go69 : ∀ t, Steps p.tables e below (T67.setTop (mkF m 61 #[.val (.ref a1), .val .null, .val (.ref a3), .val (.int (0 : Int32)), .unset, .unset] [(.ref l0)])) t → Steps p.tables e below (s₁.setTop (entryFrame m #[(.ref a1), .null, (.ref a3)] 6)) t := fun t kt => go66 t (by
      refine st67 _ ?_
      show Steps p.tables e below (T67.setTop (mkF m 61 #[.val (.ref a1), .val .null, .val (.ref a3), .val (.int (0 : Int32)), .unset, .unset] [(.ref l0)])) _
      exact kt)
  have fr71 := ((FT0.ext E6).other W10 (Or.inl nl0))
  have fr72 := (((fr71.ext E16).other W29 (Or.inl nl0)).ext E35)
  have fq73 := (fr72.other W49 (Or.inl nl0))
  obtain ⟨cq70, kq70, q70a, q70b, q70c⟩ := isOf hZ e67 fq68
  obtain ⟨_, _, ⟨T70, L70, k70, n70⟩, -, X70, ⟨Lc70, hQ70, l70, y70, z70⟩, st70⟩ := X67.virtualBack hx (y := own_m14) (z := own_m14) hown (mvT hZ (own_h hw 150 rfl)) (mvT hZ (own_h hw 151 rfl)) (notFace_of_selects (args := #[]) (mvT hZ (own_h hw 153 rfl))) (mvT hZ (own_h hw 153 rfl)) (mvT hZ (own_h hw 152 rfl)) (by decide) (backOf (W := 0) (rm20 l Z a0 hw [] l0 t0 h49 n0 fq73) hZ (own_h hw 154 rfl) (own_h hw 16 rfl) (by decide) (by decide)) q70a q70c (g := (mkF m 61 #[.val (.ref a1), .val .null, .val (.ref a3), .val (.int (0 : Int32)), .unset, .unset] [(.ref l0)])) rfl (by rw [hml]; rfl) (Steps.refl _) (argsL := []) (rest := []) (lenOf pd_14 rfl) rfl (by show 2 * 0 + _ ≤ _; exact Nat.le_of_eq rfl) (hb hby d8_61) (fun _ _ => ⟨rfl, e67, (by decide : 3 + 0 ≤ _), (by decide : 6 + 0 ≤ _)⟩)
  dsimp only [Pt.U, Pt.locs, Pt.cells, Pt.slots] at X70 l70 y70 z70 st70 hQ70
  subst y70 z70
  obtain ⟨rfl, N70q, e70⟩ := hQ70
  have N70 := Fr.app N59 N70q
  rw [← l70] at N70
  have go74 : ∀ t, Steps p.tables e below (T70.setTop (mkF m 64 #[.val (.ref a1), .val .null, .val (.ref a3), .val (.int (0 : Int32)), .unset, .unset] [(.ref t0)])) t → Steps p.tables e below (s₁.setTop (entryFrame m #[(.ref a1), .null, (.ref a3)] 6)) t := fun t kt => go69 t (by
      refine st70.trans ?_
      show Steps p.tables e below (T70.setTop (mkF m 64 #[.val (.ref a1), .val .null, .val (.ref a3), .val (.int (0 : Int32)), .unset, .unset] [(.ref t0)])) _
      exact kt)
  have fq76 := ((fq43.ext E35).wr W49)
  obtain ⟨T75, X75, e75, st75⟩ := castY X70 hx hZ hown (own_h hw 155 rfl) e70 (Ins.of_exa fq76 (own_h hw 156 rfl)) (g := (mkF m 64 #[.val (.ref a1), .val .null, .val (.ref a3), .val (.int (0 : Int32)), .unset, .unset] [(.ref t0)])) rfl rfl (hb hby d8_64)
  have go77 : ∀ t, Steps p.tables e below (T75.setTop (mkF m 70 #[.val (.ref a1), .val .null, .val (.ref a3), .val (.int (0 : Int32)), .val (.ref t0), .unset] [(.ref a1)])) t → Steps p.tables e below (s₁.setTop (entryFrame m #[(.ref a1), .null, (.ref a3)] 6)) t := fun t kt => go74 t (by
      refine st75 _ ?_
      show Steps p.tables e below (T75.setTop (mkF m 67 #[.val (.ref a1), .val .null, .val (.ref a3), .val (.int (0 : Int32)), .unset, .unset] [(.ref t0)])) _
      refine XS.astore X75.here hx rfl (hb hby d8_67) rfl rfl (l' := #[.val (.ref a1), .val .null, .val (.ref a3), .val (.int (0 : Int32)), .val (.ref t0), .unset]) rfl ?_
      show Steps p.tables e below (T75.setTop (mkF m 69 #[.val (.ref a1), .val .null, .val (.ref a3), .val (.int (0 : Int32)), .val (.ref t0), .unset] [])) _
      refine XS.aloadN X75.here hx rfl (hb hby d8_69) rfl rfl ?_
      show Steps p.tables e below (T75.setTop (mkF m 70 #[.val (.ref a1), .val .null, .val (.ref a3), .val (.int (0 : Int32)), .val (.ref t0), .unset] [(.ref a1)])) _
      exact kt)
  obtain ⟨T78, X78, e78, st78⟩ := getF X75 hx hZ hown (host := "") (Or.inl (own_h hw 87 rfl)) Via.refl e75 fq52 (g := (mkF m 70 #[.val (.ref a1), .val .null, .val (.ref a3), .val (.int (0 : Int32)), .val (.ref t0), .unset] [(.ref a1)])) rfl rfl (hb hby d8_70)
  have go79 : ∀ t, Steps p.tables e below (T78.setTop (mkF m 76 #[.val (.ref a1), .val .null, .val (.ref a3), .val (.int (0 : Int32)), .val (.ref t0), .unset] [(.int (0 : Int32)), (.ref a3), (.int (0 : Int32)), (.ref b6)])) t → Steps p.tables e below (s₁.setTop (entryFrame m #[(.ref a1), .null, (.ref a3)] 6)) t := fun t kt => go77 t (by
      refine st78 _ ?_
      show Steps p.tables e below (T78.setTop (mkF m 73 #[.val (.ref a1), .val .null, .val (.ref a3), .val (.int (0 : Int32)), .val (.ref t0), .unset] [(.ref b6)])) _
      refine XS.iloadN X78.here hx rfl (hb hby d8_73) rfl ?_
      show Steps p.tables e below (T78.setTop (mkF m 74 #[.val (.ref a1), .val .null, .val (.ref a3), .val (.int (0 : Int32)), .val (.ref t0), .unset] [(.int (0 : Int32)), (.ref b6)])) _
      refine XS.aloadN X78.here hx rfl (hb hby d8_74) rfl rfl ?_
      show Steps p.tables e below (T78.setTop (mkF m 75 #[.val (.ref a1), .val .null, .val (.ref a3), .val (.int (0 : Int32)), .val (.ref t0), .unset] [(.ref a3), (.int (0 : Int32)), (.ref b6)])) _
      refine XS.iloadN X78.here hx rfl (hb hby d8_75) rfl ?_
      show Steps p.tables e below (T78.setTop (mkF m 76 #[.val (.ref a1), .val .null, .val (.ref a3), .val (.int (0 : Int32)), .val (.ref t0), .unset] [(.int (0 : Int32)), (.ref a3), (.int (0 : Int32)), (.ref b6)])) _
      exact kt)
  obtain ⟨cq80, kq80, q80a, q80b, q80c⟩ := isOf hZ e78 fq64
  obtain ⟨_, _, ⟨T80, L80, k80, n80⟩, -, X80, ⟨Lc80, hQ80, l80, y80, z80⟩, st80⟩ := X78.interfaceBack hx (xi := own_m12) (y := own_m13) hown (mvT hZ (own_h hw 127 rfl)) (mvT hZ (own_h hw 128 rfl)) (mvT hZ (own_h hw 129 rfl)) (mvT hZ (own_h hw 130 rfl)) (mvT hZ (own_h hw 131 rfl)) (mvT hZ (own_h hw 132 rfl)) (mvT hZ (own_h hw 133 rfl)) (mvT hZ (own_h hw 82 rfl)) (by decide) (backOf (W := 2) (rm16 l Z a0 hw [] a3 (0 : Int32) ea l0 [(.ref l0), (.ref l1), .null, .null, .null, .null, .null, .null, .null, .null] 0 (2 : Int32) h49 n0 fq62 (fq63).av (by decide) (by decide) rfl fq64 fq65 (by decide)) hZ (own_h hw 134 rfl) (own_h hw 43 rfl) (by decide) (by decide)) q80a q80b q80c (g := (mkF m 76 #[.val (.ref a1), .val .null, .val (.ref a3), .val (.int (0 : Int32)), .val (.ref t0), .unset] [(.int (0 : Int32)), (.ref a3), (.int (0 : Int32)), (.ref b6)])) rfl (by rw [hml]; rfl) (Steps.refl _) (argsL := [(.int (0 : Int32))]) (rest := [(.int (0 : Int32)), (.ref b6)]) (lenOf pd_12 rfl) rfl (by show 2 * 0 + _ ≤ _; exact Nat.le_of_eq rfl) (hb hby d8_76) (fun _ _ => ⟨rfl, e78, (by decide : 3 + 0 ≤ _), (by decide : 6 + 0 ≤ _)⟩)
  dsimp only [Pt.U, Pt.locs, Pt.cells, Pt.slots] at X80 l80 y80 z80 st80 hQ80
  subst y80 z80
  obtain ⟨rfl, N80q, e80⟩ := hQ80
  have N80 := Fr.app N70 N80q
  rw [← l80] at N80
  have go81 : ∀ t, Steps p.tables e below (T80.setTop (mkF m 81 #[.val (.ref a1), .val .null, .val (.ref a3), .val (.int (0 : Int32)), .val (.ref t0), .unset] [(.ref l0), (.int (0 : Int32)), (.ref b6)])) t → Steps p.tables e below (s₁.setTop (entryFrame m #[(.ref a1), .null, (.ref a3)] 6)) t := fun t kt => go79 t (by
      refine st80.trans ?_
      show Steps p.tables e below (T80.setTop (mkF m 81 #[.val (.ref a1), .val .null, .val (.ref a3), .val (.int (0 : Int32)), .val (.ref t0), .unset] [(.ref l0), (.int (0 : Int32)), (.ref b6)])) _
      exact kt)
  obtain ⟨T82, X82, e82, st82⟩ := castY X80 hx hZ hown (own_h hw 148 rfl) e80 (Ins.self fq68) (g := (mkF m 81 #[.val (.ref a1), .val .null, .val (.ref a3), .val (.int (0 : Int32)), .val (.ref t0), .unset] [(.ref l0), (.int (0 : Int32)), (.ref b6)])) rfl rfl (hb hby d8_81)
  have go83 : ∀ t, Steps p.tables e below (T82.setTop (mkF m 84 #[.val (.ref a1), .val .null, .val (.ref a3), .val (.int (0 : Int32)), .val (.ref t0), .unset] [(.ref l0), (.int (0 : Int32)), (.ref b6)])) t → Steps p.tables e below (s₁.setTop (entryFrame m #[(.ref a1), .null, (.ref a3)] 6)) t := fun t kt => go81 t (by
      refine st82 _ ?_
      show Steps p.tables e below (T82.setTop (mkF m 84 #[.val (.ref a1), .val .null, .val (.ref a3), .val (.int (0 : Int32)), .val (.ref t0), .unset] [(.ref l0), (.int (0 : Int32)), (.ref b6)])) _
      exact kt)
  have fr85 := ((FS0.ext E6).other W10 (Or.inl nl0))
  have fr86 := (((fr85.ext E16).other W29 (Or.inl nl0)).ext E35)
  have fq87 := (fr86.other W49 (Or.inl nl0))
  obtain ⟨cq84, kq84, q84a, q84b, q84c⟩ := isOf hZ e82 fq68
  obtain ⟨_, _, ⟨T84, L84, k84, n84⟩, -, X84, ⟨Lc84, hQ84, l84, y84, z84⟩, st84⟩ := X82.virtualBack hx (y := own_m15) (z := own_m15) hown (mvT hZ (own_h hw 157 rfl)) (mvT hZ (own_h hw 158 rfl)) (notFace_of_selects (args := #[]) (mvT hZ (own_h hw 160 rfl))) (mvT hZ (own_h hw 160 rfl)) (mvT hZ (own_h hw 159 rfl)) (by decide) (backOf (W := 2) (rm21 l Z a0 hw [] l0 s0 h49 n0 fq87) hZ (own_h hw 161 rfl) (own_h hw 16 rfl) (by decide) (by decide)) q84a q84c (g := (mkF m 84 #[.val (.ref a1), .val .null, .val (.ref a3), .val (.int (0 : Int32)), .val (.ref t0), .unset] [(.ref l0), (.int (0 : Int32)), (.ref b6)])) rfl (by rw [hml]; rfl) (Steps.refl _) (argsL := []) (rest := [(.int (0 : Int32)), (.ref b6)]) (lenOf pd_5 rfl) rfl (by show 2 * 0 + _ ≤ _; exact Nat.le_of_eq rfl) (hb hby d8_84) (fun _ _ => ⟨rfl, e82, (by decide : 3 + 0 ≤ _), (by decide : 6 + 0 ≤ _)⟩)
  dsimp only [Pt.U, Pt.locs, Pt.cells, Pt.slots] at X84 l84 y84 z84 st84 hQ84
  subst y84 z84
  obtain ⟨rfl, N84q, e84⟩ := hQ84
  have N84 := Fr.app N80 N84q
  rw [← l84] at N84
  have go88 : ∀ t, Steps p.tables e below (T84.setTop (mkF m 87 #[.val (.ref a1), .val .null, .val (.ref a3), .val (.int (0 : Int32)), .val (.ref t0), .unset] [(.int s0), (.int (0 : Int32)), (.ref b6)])) t → Steps p.tables e below (s₁.setTop (entryFrame m #[(.ref a1), .null, (.ref a3)] 6)) t := fun t kt => go83 t (by
      refine st84.trans ?_
      show Steps p.tables e below (T84.setTop (mkF m 87 #[.val (.ref a1), .val .null, .val (.ref a3), .val (.int (0 : Int32)), .val (.ref t0), .unset] [(.int s0), (.int (0 : Int32)), (.ref b6)])) _
      exact kt)
  obtain ⟨c89, Ar89, q89⟩ := id fq55
  obtain ⟨T89, h89, X89, e89, W89, st89⟩ := stI X84 hx hZ e84 Ar89 (j := (0 : Int32)) (own_inb q89 (n := 2) rfl (by decide) (by decide)) (g := (mkF m 87 #[.val (.ref a1), .val .null, .val (.ref a3), .val (.int (0 : Int32)), .val (.ref t0), .unset] [(.int s0), (.int (0 : Int32)), (.ref b6)])) rfl rfl (hb hby d8_87)
  have V89 : own_AV Z h89 b6 .int [(.int s0), (.int (0 : Int32))] := own_AV.set Ar89 q89 W89 (i := 0) (by decide) rfl
  obtain ⟨Ls89, X89, N89⟩ := own_loc X89 (Fr.snoc X89 N84 gb6)
  have go90 : ∀ t, Steps p.tables e below (T89.setTop (mkF m 89 #[.val (.ref a1), .val .null, .val (.ref a3), .val (.int (0 : Int32)), .val (.ref t0), .unset] [(.ref a1)])) t → Steps p.tables e below (s₁.setTop (entryFrame m #[(.ref a1), .null, (.ref a3)] 6)) t := fun t kt => go88 t (by
      refine st89 _ ?_
      show Steps p.tables e below (T89.setTop (mkF m 88 #[.val (.ref a1), .val .null, .val (.ref a3), .val (.int (0 : Int32)), .val (.ref t0), .unset] [])) _
      refine XS.aloadN X89.here hx rfl (hb hby d8_88) rfl rfl ?_
      show Steps p.tables e below (T89.setTop (mkF m 89 #[.val (.ref a1), .val .null, .val (.ref a3), .val (.int (0 : Int32)), .val (.ref t0), .unset] [(.ref a1)])) _
      exact kt)
  have fr91 := ((Fw29.ext E35).other W49 (Or.inr (slot_ne (Or.inr (own_h hw 90 rfl)) (Or.inr (own_h hw 92 rfl)) (by decide) (t := (.array .long)) (t' := (.array .long)) (by decide) (by decide))))
  have fq92 := (fr91.other W89 (Or.inl ne_a1_b6))
  obtain ⟨T93, X93, e93, st93⟩ := getF X89 hx hZ hown (host := "") (Or.inl (own_h hw 89 rfl)) Via.refl e89 fq92 (g := (mkF m 89 #[.val (.ref a1), .val .null, .val (.ref a3), .val (.int (0 : Int32)), .val (.ref t0), .unset] [(.ref a1)])) rfl rfl (hb hby d8_89)
  have go94 : ∀ t, Steps p.tables e below (T93.setTop (mkF m 95 #[.val (.ref a1), .val .null, .val (.ref a3), .val (.int (0 : Int32)), .val (.ref t0), .unset] [(.ref t0), (.int (0 : Int32)), (.ref b16)])) t → Steps p.tables e below (s₁.setTop (entryFrame m #[(.ref a1), .null, (.ref a3)] 6)) t := fun t kt => go90 t (by
      refine st93 _ ?_
      show Steps p.tables e below (T93.setTop (mkF m 92 #[.val (.ref a1), .val .null, .val (.ref a3), .val (.int (0 : Int32)), .val (.ref t0), .unset] [(.ref b16)])) _
      refine XS.iloadN X93.here hx rfl (hb hby d8_92) rfl ?_
      show Steps p.tables e below (T93.setTop (mkF m 93 #[.val (.ref a1), .val .null, .val (.ref a3), .val (.int (0 : Int32)), .val (.ref t0), .unset] [(.int (0 : Int32)), (.ref b16)])) _
      refine XS.aload X93.here hx rfl (hb hby d8_93) rfl rfl ?_
      show Steps p.tables e below (T93.setTop (mkF m 95 #[.val (.ref a1), .val .null, .val (.ref a3), .val (.int (0 : Int32)), .val (.ref t0), .unset] [(.ref t0), (.int (0 : Int32)), (.ref b16)])) _
      exact kt)
  have fr96 := ((FL0.ext E6).other W10 (Or.inl nt0))
  have fr97 := (((fr96.ext E16).other W29 (Or.inl nt0)).ext E35)
  have fq98 := ((fr97.other W49 (Or.inl nt0)).other W89 (Or.inl ne_t0_b6))
  have fq99 := (fq76.wr W89)
  obtain ⟨cq95, kq95, q95a, q95b, q95c⟩ := isOf hZ e93 fq99
  obtain ⟨_, _, ⟨T95, L95, k95, n95⟩, -, X95, ⟨Lc95, hQ95, l95, y95, z95⟩, st95⟩ := X93.interfaceBack hx (xi := own_m16) (y := own_m17) hown (mvT hZ (own_h hw 162 rfl)) (mvT hZ (own_h hw 163 rfl)) (mvT hZ (own_h hw 164 rfl)) (mvT hZ (own_h hw 165 rfl)) (mvT hZ (own_h hw 166 rfl)) (mvT hZ (own_h hw 167 rfl)) (mvT hZ (own_h hw 168 rfl)) (mvT hZ (own_h hw 156 rfl)) (by decide) (backOf (W := 2) (rm22 l Z a0 hw [] t0 f0 h89 n0 fq98) hZ (own_h hw 169 rfl) (own_h hw 3 rfl) (by decide) (by decide)) q95a q95b q95c (g := (mkF m 95 #[.val (.ref a1), .val .null, .val (.ref a3), .val (.int (0 : Int32)), .val (.ref t0), .unset] [(.ref t0), (.int (0 : Int32)), (.ref b16)])) rfl (by rw [hml]; rfl) (Steps.refl _) (argsL := []) (rest := [(.int (0 : Int32)), (.ref b16)]) (lenOf pd_15 rfl) rfl (by show 2 * 0 + _ ≤ _; exact Nat.le_of_eq rfl) (hb hby d8_95) (fun _ _ => ⟨rfl, e93, (by decide : 3 + 0 ≤ _), (by decide : 6 + 0 ≤ _)⟩)
  dsimp only [Pt.U, Pt.locs, Pt.cells, Pt.slots] at X95 l95 y95 z95 st95 hQ95
  subst y95 z95
  obtain ⟨rfl, N95q, e95⟩ := hQ95
  have N95 := Fr.app N89 N95q
  rw [← l95] at N95
  have go100 : ∀ t, Steps p.tables e below (T95.setTop (mkF m 100 #[.val (.ref a1), .val .null, .val (.ref a3), .val (.int (0 : Int32)), .val (.ref t0), .unset] [(.long f0), (.int (0 : Int32)), (.ref b16)])) t → Steps p.tables e below (s₁.setTop (entryFrame m #[(.ref a1), .null, (.ref a3)] 6)) t := fun t kt => go94 t (by
      refine st95.trans ?_
      show Steps p.tables e below (T95.setTop (mkF m 100 #[.val (.ref a1), .val .null, .val (.ref a3), .val (.int (0 : Int32)), .val (.ref t0), .unset] [(.long f0), (.int (0 : Int32)), (.ref b16)])) _
      exact kt)
  have fr101 := ((fq38.ext E35).other W49 (Ne.symm ne_a1_b16))
  have fq102 := (fr101.other W89 (Ne.symm ne_b6_b16))
  obtain ⟨c103, Ar103, q103⟩ := id fq102
  obtain ⟨T103, h103, X103, e103, W103, st103⟩ := stJ X95 hx hZ e95 Ar103 (j := (0 : Int32)) (own_inb q103 (n := 2) rfl (by decide) (by decide)) (g := (mkF m 100 #[.val (.ref a1), .val .null, .val (.ref a3), .val (.int (0 : Int32)), .val (.ref t0), .unset] [(.long f0), (.int (0 : Int32)), (.ref b16)])) rfl rfl (hb hby d8_100)
  have V103 : own_AV Z h103 b16 .long [(.long f0), (.long (0 : Int64))] := own_AV.set Ar103 q103 W103 (i := 0) (by decide) rfl
  obtain ⟨Ls103, X103, N103⟩ := own_loc X103 (Fr.snoc X103 N95 gb16)
  have go104 : ∀ t, Steps p.tables e below (T103.setTop (mkF m 102 #[.val (.ref a1), .val .null, .val (.ref a3), .val (.int (0 : Int32)), .val (.ref t0), .unset] [(.ref a1)])) t → Steps p.tables e below (s₁.setTop (entryFrame m #[(.ref a1), .null, (.ref a3)] 6)) t := fun t kt => go100 t (by
      refine st103 _ ?_
      show Steps p.tables e below (T103.setTop (mkF m 101 #[.val (.ref a1), .val .null, .val (.ref a3), .val (.int (0 : Int32)), .val (.ref t0), .unset] [])) _
      refine XS.aloadN X103.here hx rfl (hb hby d8_101) rfl rfl ?_
      show Steps p.tables e below (T103.setTop (mkF m 102 #[.val (.ref a1), .val .null, .val (.ref a3), .val (.int (0 : Int32)), .val (.ref t0), .unset] [(.ref a1)])) _
      exact kt)
  have fq105 := ((Fw49.other W89 (Or.inl ne_a1_b6)).other W103 (Or.inl ne_a1_b16))
  obtain ⟨T106, X106, e106, st106⟩ := getF X103 hx hZ hown (host := "") (Or.inl (own_h hw 91 rfl)) Via.refl e103 fq105 (g := (mkF m 102 #[.val (.ref a1), .val .null, .val (.ref a3), .val (.int (0 : Int32)), .val (.ref t0), .unset] [(.ref a1)])) rfl rfl (hb hby d8_102)
  have go107 : ∀ t, Steps p.tables e below (T106.setTop (mkF m 108 #[.val (.ref a1), .val .null, .val (.ref a3), .val (.int (0 : Int32)), .val (.ref t0), .unset] [(.ref t0), (.int (0 : Int32)), (.ref b35)])) t → Steps p.tables e below (s₁.setTop (entryFrame m #[(.ref a1), .null, (.ref a3)] 6)) t := fun t kt => go104 t (by
      refine st106 _ ?_
      show Steps p.tables e below (T106.setTop (mkF m 105 #[.val (.ref a1), .val .null, .val (.ref a3), .val (.int (0 : Int32)), .val (.ref t0), .unset] [(.ref b35)])) _
      refine XS.iloadN X106.here hx rfl (hb hby d8_105) rfl ?_
      show Steps p.tables e below (T106.setTop (mkF m 106 #[.val (.ref a1), .val .null, .val (.ref a3), .val (.int (0 : Int32)), .val (.ref t0), .unset] [(.int (0 : Int32)), (.ref b35)])) _
      refine XS.aload X106.here hx rfl (hb hby d8_106) rfl rfl ?_
      show Steps p.tables e below (T106.setTop (mkF m 108 #[.val (.ref a1), .val .null, .val (.ref a3), .val (.int (0 : Int32)), .val (.ref t0), .unset] [(.ref t0), (.int (0 : Int32)), (.ref b35)])) _
      exact kt)
  have fq109 := (fq99.wr W103)
  obtain ⟨T108, X108, e108, st108⟩ := instY X106 hx hZ hown (own_h hw 170 rfl) e106 (Ins.of_exa fq109 (own_h hw 171 rfl)) (g := (mkF m 108 #[.val (.ref a1), .val .null, .val (.ref a3), .val (.int (0 : Int32)), .val (.ref t0), .unset] [(.ref t0), (.int (0 : Int32)), (.ref b35)])) rfl rfl (hb hby d8_108)
  have hc111_110 : ¬ ((1 : Int32) = (0 : Int32)) := (by decide)
  have go111 : ∀ t, Steps p.tables e below (T108.setTop (mkF m 116 #[.val (.ref a1), .val .null, .val (.ref a3), .val (.int (0 : Int32)), .val (.ref t0), .unset] [(.ref t0), (.int (0 : Int32)), (.ref b35)])) t → Steps p.tables e below (s₁.setTop (entryFrame m #[(.ref a1), .null, (.ref a3)] 6)) t := fun t kt => go107 t (by
      refine st108 _ ?_
      show Steps p.tables e below (T108.setTop (mkF m 111 #[.val (.ref a1), .val .null, .val (.ref a3), .val (.int (0 : Int32)), .val (.ref t0), .unset] [(.int (1 : Int32)), (.int (0 : Int32)), (.ref b35)])) _
      refine XS.ifNo X108.here hx rfl (hb hby d8_111) rfl ((if0 _ _).trans (feq hc111_110).1) ?_
      show Steps p.tables e below (T108.setTop (mkF m 114 #[.val (.ref a1), .val .null, .val (.ref a3), .val (.int (0 : Int32)), .val (.ref t0), .unset] [(.int (0 : Int32)), (.ref b35)])) _
      refine XS.aload X108.here hx rfl (hb hby d8_114) rfl rfl ?_
      show Steps p.tables e below (T108.setTop (mkF m 116 #[.val (.ref a1), .val .null, .val (.ref a3), .val (.int (0 : Int32)), .val (.ref t0), .unset] [(.ref t0), (.int (0 : Int32)), (.ref b35)])) _
      exact kt)
  obtain ⟨T112, X112, e112, st112⟩ := castY X108 hx hZ hown (own_h hw 170 rfl) e108 (Ins.of_exa fq109 (own_h hw 171 rfl)) (g := (mkF m 116 #[.val (.ref a1), .val .null, .val (.ref a3), .val (.int (0 : Int32)), .val (.ref t0), .unset] [(.ref t0), (.int (0 : Int32)), (.ref b35)])) rfl rfl (hb hby d8_116)
  have go113 : ∀ t, Steps p.tables e below (T112.setTop (mkF m 123 #[.val (.ref a1), .val .null, .val (.ref a3), .val (.int (0 : Int32)), .val (.ref t0), .val (.ref t0)] [(.ref t0), (.int (0 : Int32)), (.ref b35)])) t → Steps p.tables e below (s₁.setTop (entryFrame m #[(.ref a1), .null, (.ref a3)] 6)) t := fun t kt => go111 t (by
      refine st112 _ ?_
      show Steps p.tables e below (T112.setTop (mkF m 119 #[.val (.ref a1), .val .null, .val (.ref a3), .val (.int (0 : Int32)), .val (.ref t0), .unset] [(.ref t0), (.int (0 : Int32)), (.ref b35)])) _
      refine XS.astore X112.here hx rfl (hb hby d8_119) rfl rfl (l' := #[.val (.ref a1), .val .null, .val (.ref a3), .val (.int (0 : Int32)), .val (.ref t0), .val (.ref t0)]) rfl ?_
      show Steps p.tables e below (T112.setTop (mkF m 121 #[.val (.ref a1), .val .null, .val (.ref a3), .val (.int (0 : Int32)), .val (.ref t0), .val (.ref t0)] [(.int (0 : Int32)), (.ref b35)])) _
      refine XS.aload X112.here hx rfl (hb hby d8_121) rfl rfl ?_
      show Steps p.tables e below (T112.setTop (mkF m 123 #[.val (.ref a1), .val .null, .val (.ref a3), .val (.int (0 : Int32)), .val (.ref t0), .val (.ref t0)] [(.ref t0), (.int (0 : Int32)), (.ref b35)])) _
      exact kt)
  have fr115 := ((FH0.ext E6).other W10 (Or.inl nt0))
  have fr116 := (((fr115.ext E16).other W29 (Or.inl nt0)).ext E35)
  have fq117 := (((fr116.other W49 (Or.inl nt0)).other W89 (Or.inl ne_t0_b6)).other W103 (Or.inl ne_t0_b16))
  obtain ⟨cq114, kq114, q114a, q114b, q114c⟩ := isOf hZ e112 fq109
  obtain ⟨_, _, ⟨T114, L114, k114, n114⟩, -, X114, ⟨Lc114, hQ114, l114, y114, z114⟩, st114⟩ := X112.interfaceBack hx (xi := own_m18) (y := own_m19) hown (mvT hZ (own_h hw 172 rfl)) (mvT hZ (own_h hw 173 rfl)) (mvT hZ (own_h hw 174 rfl)) (mvT hZ (own_h hw 175 rfl)) (mvT hZ (own_h hw 176 rfl)) (mvT hZ (own_h hw 177 rfl)) (mvT hZ (own_h hw 178 rfl)) (mvT hZ (own_h hw 171 rfl)) (by decide) (backOf (W := 2) (rm23 l Z a0 hw [] t0 u0 h103 n0 fq117) hZ (own_h hw 179 rfl) (own_h hw 3 rfl) (by decide) (by decide)) q114a q114b q114c (g := (mkF m 123 #[.val (.ref a1), .val .null, .val (.ref a3), .val (.int (0 : Int32)), .val (.ref t0), .val (.ref t0)] [(.ref t0), (.int (0 : Int32)), (.ref b35)])) rfl (by rw [hml]; rfl) (Steps.refl _) (argsL := []) (rest := [(.int (0 : Int32)), (.ref b35)]) (lenOf pd_15 rfl) rfl (by show 2 * 0 + _ ≤ _; exact Nat.le_of_eq rfl) (hb hby d8_123) (fun _ _ => ⟨rfl, e112, (by decide : 3 + 0 ≤ _), (by decide : 6 + 0 ≤ _)⟩)
  dsimp only [Pt.U, Pt.locs, Pt.cells, Pt.slots] at X114 l114 y114 z114 st114 hQ114
  subst y114 z114
  obtain ⟨rfl, N114q, e114⟩ := hQ114
  have N114 := Fr.app N103 N114q
  rw [← l114] at N114
  have go118 : ∀ t, Steps p.tables e below (T114.setTop (mkF m 137 #[.val (.ref a1), .val .null, .val (.ref a3), .val (.int (0 : Int32)), .val (.ref t0), .val (.ref t0)] [(.long u0), (.int (0 : Int32)), (.ref b35)])) t → Steps p.tables e below (s₁.setTop (entryFrame m #[(.ref a1), .null, (.ref a3)] 6)) t := fun t kt => go113 t (by
      refine st114.trans ?_
      show Steps p.tables e below (T114.setTop (mkF m 128 #[.val (.ref a1), .val .null, .val (.ref a3), .val (.int (0 : Int32)), .val (.ref t0), .val (.ref t0)] [(.long u0), (.int (0 : Int32)), (.ref b35)])) _
      refine XS.goto X114.here hx rfl (pc0 := 128) (pc' := 137) rfl (hb hby d8_128) (by decide) (by decide) ?_
      show Steps p.tables e below (T114.setTop (mkF m 137 #[.val (.ref a1), .val .null, .val (.ref a3), .val (.int (0 : Int32)), .val (.ref t0), .val (.ref t0)] [(.long u0), (.int (0 : Int32)), (.ref b35)])) _
      exact kt)
  have fr119 := ((V35.other W49 (Ne.symm ne_a1_b35)).other W89 (Ne.symm ne_b6_b35))
  have fq120 := (fr119.other W103 (Ne.symm ne_b16_b35))
  obtain ⟨c121, Ar121, q121⟩ := id fq120
  obtain ⟨T121, h121, X121, e121, W121, st121⟩ := stJ X114 hx hZ e114 Ar121 (j := (0 : Int32)) (own_inb q121 (n := 2) rfl (by decide) (by decide)) (g := (mkF m 137 #[.val (.ref a1), .val .null, .val (.ref a3), .val (.int (0 : Int32)), .val (.ref t0), .val (.ref t0)] [(.long u0), (.int (0 : Int32)), (.ref b35)])) rfl rfl (hb hby d8_137)
  have V121 : own_AV Z h121 b35 .long [(.long u0), (.long (0 : Int64))] := own_AV.set Ar121 q121 W121 (i := 0) (by decide) rfl
  obtain ⟨Ls121, X121, N121⟩ := own_loc X121 (Fr.snoc X121 N114 gb35)
  have go122 : ∀ t, Steps p.tables e below (T121.setTop (mkF m 141 #[.val (.ref a1), .val .null, .val (.ref a3), .val (.int ((0 : Int32) + (1 : Int32))), .val (.ref t0), .val (.ref t0)] [])) t → Steps p.tables e below (s₁.setTop (entryFrame m #[(.ref a1), .null, (.ref a3)] 6)) t := fun t kt => go118 t (by
      refine st121 _ ?_
      show Steps p.tables e below (T121.setTop (mkF m 138 #[.val (.ref a1), .val .null, .val (.ref a3), .val (.int (0 : Int32)), .val (.ref t0), .val (.ref t0)] [])) _
      refine XS.iinc X121.here hx rfl (hb hby d8_138) rfl (l' := #[.val (.ref a1), .val .null, .val (.ref a3), .val (.int ((0 : Int32) + (1 : Int32))), .val (.ref t0), .val (.ref t0)]) rfl ?_
      show Steps p.tables e below (T121.setTop (mkF m 141 #[.val (.ref a1), .val .null, .val (.ref a3), .val (.int ((0 : Int32) + (1 : Int32))), .val (.ref t0), .val (.ref t0)] [])) _
      exact kt)
  rw [show ((0 : Int32) + (1 : Int32)) = (1 : Int32) from by decide] at go122
  have go123 : ∀ t, Steps p.tables e below (T121.setTop (mkF m 44 #[.val (.ref a1), .val .null, .val (.ref a3), .val (.int (1 : Int32)), .val (.ref t0), .val (.ref t0)] [(.ref a1), (.int (1 : Int32))])) t → Steps p.tables e below (s₁.setTop (entryFrame m #[(.ref a1), .null, (.ref a3)] 6)) t := fun t kt => go122 t (by
      refine XS.goto X121.here hx rfl (pc0 := 141) (pc' := 42) rfl (hb hby d8_141) (by decide) (by decide) ?_
      show Steps p.tables e below (T121.setTop (mkF m 42 #[.val (.ref a1), .val .null, .val (.ref a3), .val (.int (1 : Int32)), .val (.ref t0), .val (.ref t0)] [])) _
      refine XS.iloadN X121.here hx rfl (hb hby d8_42) rfl ?_
      show Steps p.tables e below (T121.setTop (mkF m 43 #[.val (.ref a1), .val .null, .val (.ref a3), .val (.int (1 : Int32)), .val (.ref t0), .val (.ref t0)] [(.int (1 : Int32))])) _
      refine XS.aloadN X121.here hx rfl (hb hby d8_43) rfl rfl ?_
      show Steps p.tables e below (T121.setTop (mkF m 44 #[.val (.ref a1), .val .null, .val (.ref a3), .val (.int (1 : Int32)), .val (.ref t0), .val (.ref t0)] [(.ref a1), (.int (1 : Int32))])) _
      exact kt)
  have fr124 := ((fq52.other W89 (Or.inl ne_a1_b6)).other W103 (Or.inl ne_a1_b16))
  have fq125 := (fr124.other W121 (Or.inl ne_a1_b35))
  obtain ⟨T126, X126, e126, st126⟩ := getF X121 hx hZ hown (host := "") (Or.inl (own_h hw 87 rfl)) Via.refl e121 fq125 (g := (mkF m 44 #[.val (.ref a1), .val .null, .val (.ref a3), .val (.int (1 : Int32)), .val (.ref t0), .val (.ref t0)] [(.ref a1), (.int (1 : Int32))])) rfl rfl (hb hby d8_44)
  have go127 : ∀ t, Steps p.tables e below (T126.setTop (mkF m 47 #[.val (.ref a1), .val .null, .val (.ref a3), .val (.int (1 : Int32)), .val (.ref t0), .val (.ref t0)] [(.ref b6), (.int (1 : Int32))])) t → Steps p.tables e below (s₁.setTop (entryFrame m #[(.ref a1), .null, (.ref a3)] 6)) t := fun t kt => go123 t (by
      refine st126 _ ?_
      show Steps p.tables e below (T126.setTop (mkF m 47 #[.val (.ref a1), .val .null, .val (.ref a3), .val (.int (1 : Int32)), .val (.ref t0), .val (.ref t0)] [(.ref b6), (.int (1 : Int32))])) _
      exact kt)
  have fq128 := ((V89.other W103 ne_b6_b16).other W121 ne_b6_b35)
  obtain ⟨c129, Ar129, q129⟩ := id fq128
  have hc48_130 : (1 : Int32) < (2 : Int32) := (by decide)
  have go131 : ∀ t, Steps p.tables e below (T126.setTop (mkF m 53 #[.val (.ref a1), .val .null, .val (.ref a3), .val (.int (1 : Int32)), .val (.ref t0), .val (.ref t0)] [(.int (1 : Int32)), (.ref a3)])) t → Steps p.tables e below (s₁.setTop (entryFrame m #[(.ref a1), .null, (.ref a3)] 6)) t := fun t kt => go127 t (by
      refine X126.arraylength hx (by rw [e126]; exact Ar129.1) (State.isArrayOf_alike hZ.alike Ar129.2.1) (g := (mkF m 47 #[.val (.ref a1), .val .null, .val (.ref a3), .val (.int (1 : Int32)), .val (.ref t0), .val (.ref t0)] [(.ref b6), (.int (1 : Int32))])) rfl rfl (hb hby d8_47) _ ?_
      rw [own_len q129 (n := (2 : Int32)) rfl]
      show Steps p.tables e below (T126.setTop (mkF m 48 #[.val (.ref a1), .val .null, .val (.ref a3), .val (.int (1 : Int32)), .val (.ref t0), .val (.ref t0)] [(.int (2 : Int32)), (.int (1 : Int32))])) _
      refine XS.icmpNo X126.here hx rfl (hb hby d8_48) rfl (tlt hc48_130).2.1 ?_
      show Steps p.tables e below (T126.setTop (mkF m 51 #[.val (.ref a1), .val .null, .val (.ref a3), .val (.int (1 : Int32)), .val (.ref t0), .val (.ref t0)] [])) _
      refine XS.aloadN X126.here hx rfl (hb hby d8_51) rfl rfl ?_
      show Steps p.tables e below (T126.setTop (mkF m 52 #[.val (.ref a1), .val .null, .val (.ref a3), .val (.int (1 : Int32)), .val (.ref t0), .val (.ref t0)] [(.ref a3)])) _
      refine XS.iloadN X126.here hx rfl (hb hby d8_52) rfl ?_
      show Steps p.tables e below (T126.setTop (mkF m 53 #[.val (.ref a1), .val .null, .val (.ref a3), .val (.int (1 : Int32)), .val (.ref t0), .val (.ref t0)] [(.int (1 : Int32)), (.ref a3)])) _
      exact kt)
  have fr133 := ((fq62.other W89 (Or.inl ne_a3_b6)).other W103 (Or.inl ne_a3_b16))
  have fq134 := (fr133.other W121 (Or.inl ne_a3_b35))
  have fr135 := ((fq63.other W89 ne_ea_b6).other W103 ne_ea_b16)
  have fq136 := (fr135.other W121 ne_ea_b35)
  have fr137 := ((fq64.wr W89).wr W103)
  have fq138 := (fr137.wr W121)
  have fr139 := ((fq65.other W89 (Or.inl ne_a3_b6)).other W103 (Or.inl ne_a3_b16))
  have fq140 := (fr139.other W121 (Or.inl ne_a3_b35))
  obtain ⟨cq132, kq132, q132a, q132b, q132c⟩ := isOf hZ e126 fq138
  obtain ⟨_, _, ⟨T132, L132, k132, n132⟩, -, X132, ⟨Lc132, hQ132, l132, y132, z132⟩, st132⟩ := X126.interfaceBack hx (xi := own_m12) (y := own_m13) hown (mvT hZ (own_h hw 127 rfl)) (mvT hZ (own_h hw 128 rfl)) (mvT hZ (own_h hw 129 rfl)) (mvT hZ (own_h hw 130 rfl)) (mvT hZ (own_h hw 131 rfl)) (mvT hZ (own_h hw 132 rfl)) (mvT hZ (own_h hw 133 rfl)) (mvT hZ (own_h hw 82 rfl)) (by decide) (backOf (W := 0) (rm16 l Z a0 hw [] a3 (1 : Int32) ea l1 [(.ref l0), (.ref l1), .null, .null, .null, .null, .null, .null, .null, .null] 1 (2 : Int32) h121 n0 fq134 (fq136).av (by decide) (by decide) rfl fq138 fq140 (by decide)) hZ (own_h hw 134 rfl) (own_h hw 43 rfl) (by decide) (by decide)) q132a q132b q132c (g := (mkF m 53 #[.val (.ref a1), .val .null, .val (.ref a3), .val (.int (1 : Int32)), .val (.ref t0), .val (.ref t0)] [(.int (1 : Int32)), (.ref a3)])) rfl (by rw [hml]; rfl) (Steps.refl _) (argsL := [(.int (1 : Int32))]) (rest := []) (lenOf pd_12 rfl) rfl (by show 2 * 0 + _ ≤ _; exact Nat.le_of_eq rfl) (hb hby d8_53) (fun _ _ => ⟨rfl, e126, (by decide : 3 + 0 ≤ _), (by decide : 6 + 0 ≤ _)⟩)
  dsimp only [Pt.U, Pt.locs, Pt.cells, Pt.slots] at X132 l132 y132 z132 st132 hQ132
  subst y132 z132
  obtain ⟨rfl, N132q, e132⟩ := hQ132
  have N132 := Fr.app N121 N132q
  rw [← l132] at N132
  have go141 : ∀ t, Steps p.tables e below (T132.setTop (mkF m 58 #[.val (.ref a1), .val .null, .val (.ref a3), .val (.int (1 : Int32)), .val (.ref t0), .val (.ref t0)] [(.ref l1)])) t → Steps p.tables e below (s₁.setTop (entryFrame m #[(.ref a1), .null, (.ref a3)] 6)) t := fun t kt => go131 t (by
      refine st132.trans ?_
      show Steps p.tables e below (T132.setTop (mkF m 58 #[.val (.ref a1), .val .null, .val (.ref a3), .val (.int (1 : Int32)), .val (.ref t0), .val (.ref t0)] [(.ref l1)])) _
      exact kt)
  have fr143 := ((fq42.ext E35).wr W49)
  have fq144 := (((fr143.wr W89).wr W103).wr W121)
  obtain ⟨T142, X142, e142, st142⟩ := castY X132 hx hZ hown (own_h hw 148 rfl) e132 (Ins.self fq144) (g := (mkF m 58 #[.val (.ref a1), .val .null, .val (.ref a3), .val (.int (1 : Int32)), .val (.ref t0), .val (.ref t0)] [(.ref l1)])) rfl rfl (hb hby d8_58)
  have go145 : ∀ t, Steps p.tables e below (T142.setTop (mkF m 61 #[.val (.ref a1), .val .null, .val (.ref a3), .val (.int (1 : Int32)), .val (.ref t0), .val (.ref t0)] [(.ref l1)])) t → Steps p.tables e below (s₁.setTop (entryFrame m #[(.ref a1), .null, (.ref a3)] 6)) t := fun t kt => go141 t (by
      refine st142 _ ?_
      show Steps p.tables e below (T142.setTop (mkF m 61 #[.val (.ref a1), .val .null, .val (.ref a3), .val (.int (1 : Int32)), .val (.ref t0), .val (.ref t0)] [(.ref l1)])) _
      exact kt)
  have fr147 := ((FT1.ext E6).other W10 (Or.inl nl1))
  have fr148 := (((fr147.ext E16).other W29 (Or.inl nl1)).ext E35)
  have fr149 := (((fr148.other W49 (Or.inl nl1)).other W89 (Or.inl ne_l1_b6)).other W103 (Or.inl ne_l1_b16))
  have fq150 := (fr149.other W121 (Or.inl ne_l1_b35))
  obtain ⟨cq146, kq146, q146a, q146b, q146c⟩ := isOf hZ e142 fq144
  obtain ⟨_, _, ⟨T146, L146, k146, n146⟩, -, X146, ⟨Lc146, hQ146, l146, y146, z146⟩, st146⟩ := X142.virtualBack hx (y := own_m14) (z := own_m14) hown (mvT hZ (own_h hw 150 rfl)) (mvT hZ (own_h hw 151 rfl)) (notFace_of_selects (args := #[]) (mvT hZ (own_h hw 153 rfl))) (mvT hZ (own_h hw 153 rfl)) (mvT hZ (own_h hw 152 rfl)) (by decide) (backOf (W := 0) (rm20 l Z a0 hw [] l1 t1 h121 n0 fq150) hZ (own_h hw 154 rfl) (own_h hw 16 rfl) (by decide) (by decide)) q146a q146c (g := (mkF m 61 #[.val (.ref a1), .val .null, .val (.ref a3), .val (.int (1 : Int32)), .val (.ref t0), .val (.ref t0)] [(.ref l1)])) rfl (by rw [hml]; rfl) (Steps.refl _) (argsL := []) (rest := []) (lenOf pd_14 rfl) rfl (by show 2 * 0 + _ ≤ _; exact Nat.le_of_eq rfl) (hb hby d8_61) (fun _ _ => ⟨rfl, e142, (by decide : 3 + 0 ≤ _), (by decide : 6 + 0 ≤ _)⟩)
  dsimp only [Pt.U, Pt.locs, Pt.cells, Pt.slots] at X146 l146 y146 z146 st146 hQ146
  subst y146 z146
  obtain ⟨rfl, N146q, e146⟩ := hQ146
  have N146 := Fr.app N132 N146q
  rw [← l146] at N146
  have go151 : ∀ t, Steps p.tables e below (T146.setTop (mkF m 64 #[.val (.ref a1), .val .null, .val (.ref a3), .val (.int (1 : Int32)), .val (.ref t0), .val (.ref t0)] [(.ref t1)])) t → Steps p.tables e below (s₁.setTop (entryFrame m #[(.ref a1), .null, (.ref a3)] 6)) t := fun t kt => go145 t (by
      refine st146.trans ?_
      show Steps p.tables e below (T146.setTop (mkF m 64 #[.val (.ref a1), .val .null, .val (.ref a3), .val (.int (1 : Int32)), .val (.ref t0), .val (.ref t0)] [(.ref t1)])) _
      exact kt)
  have fr153 := ((fq44.ext E35).wr W49)
  have fq154 := (((fr153.wr W89).wr W103).wr W121)
  obtain ⟨T152, X152, e152, st152⟩ := castY X146 hx hZ hown (own_h hw 155 rfl) e146 (Ins.of_exa fq154 (own_h hw 156 rfl)) (g := (mkF m 64 #[.val (.ref a1), .val .null, .val (.ref a3), .val (.int (1 : Int32)), .val (.ref t0), .val (.ref t0)] [(.ref t1)])) rfl rfl (hb hby d8_64)
  have go155 : ∀ t, Steps p.tables e below (T152.setTop (mkF m 70 #[.val (.ref a1), .val .null, .val (.ref a3), .val (.int (1 : Int32)), .val (.ref t1), .val (.ref t0)] [(.ref a1)])) t → Steps p.tables e below (s₁.setTop (entryFrame m #[(.ref a1), .null, (.ref a3)] 6)) t := fun t kt => go151 t (by
      refine st152 _ ?_
      show Steps p.tables e below (T152.setTop (mkF m 67 #[.val (.ref a1), .val .null, .val (.ref a3), .val (.int (1 : Int32)), .val (.ref t0), .val (.ref t0)] [(.ref t1)])) _
      refine XS.astore X152.here hx rfl (hb hby d8_67) rfl rfl (l' := #[.val (.ref a1), .val .null, .val (.ref a3), .val (.int (1 : Int32)), .val (.ref t1), .val (.ref t0)]) rfl ?_
      show Steps p.tables e below (T152.setTop (mkF m 69 #[.val (.ref a1), .val .null, .val (.ref a3), .val (.int (1 : Int32)), .val (.ref t1), .val (.ref t0)] [])) _
      refine XS.aloadN X152.here hx rfl (hb hby d8_69) rfl rfl ?_
      show Steps p.tables e below (T152.setTop (mkF m 70 #[.val (.ref a1), .val .null, .val (.ref a3), .val (.int (1 : Int32)), .val (.ref t1), .val (.ref t0)] [(.ref a1)])) _
      exact kt)
  obtain ⟨T156, X156, e156, st156⟩ := getF X152 hx hZ hown (host := "") (Or.inl (own_h hw 87 rfl)) Via.refl e152 fq125 (g := (mkF m 70 #[.val (.ref a1), .val .null, .val (.ref a3), .val (.int (1 : Int32)), .val (.ref t1), .val (.ref t0)] [(.ref a1)])) rfl rfl (hb hby d8_70)
  have go157 : ∀ t, Steps p.tables e below (T156.setTop (mkF m 76 #[.val (.ref a1), .val .null, .val (.ref a3), .val (.int (1 : Int32)), .val (.ref t1), .val (.ref t0)] [(.int (1 : Int32)), (.ref a3), (.int (1 : Int32)), (.ref b6)])) t → Steps p.tables e below (s₁.setTop (entryFrame m #[(.ref a1), .null, (.ref a3)] 6)) t := fun t kt => go155 t (by
      refine st156 _ ?_
      show Steps p.tables e below (T156.setTop (mkF m 73 #[.val (.ref a1), .val .null, .val (.ref a3), .val (.int (1 : Int32)), .val (.ref t1), .val (.ref t0)] [(.ref b6)])) _
      refine XS.iloadN X156.here hx rfl (hb hby d8_73) rfl ?_
      show Steps p.tables e below (T156.setTop (mkF m 74 #[.val (.ref a1), .val .null, .val (.ref a3), .val (.int (1 : Int32)), .val (.ref t1), .val (.ref t0)] [(.int (1 : Int32)), (.ref b6)])) _
      refine XS.aloadN X156.here hx rfl (hb hby d8_74) rfl rfl ?_
      show Steps p.tables e below (T156.setTop (mkF m 75 #[.val (.ref a1), .val .null, .val (.ref a3), .val (.int (1 : Int32)), .val (.ref t1), .val (.ref t0)] [(.ref a3), (.int (1 : Int32)), (.ref b6)])) _
      refine XS.iloadN X156.here hx rfl (hb hby d8_75) rfl ?_
      show Steps p.tables e below (T156.setTop (mkF m 76 #[.val (.ref a1), .val .null, .val (.ref a3), .val (.int (1 : Int32)), .val (.ref t1), .val (.ref t0)] [(.int (1 : Int32)), (.ref a3), (.int (1 : Int32)), (.ref b6)])) _
      exact kt)
  obtain ⟨cq158, kq158, q158a, q158b, q158c⟩ := isOf hZ e156 fq138
  obtain ⟨_, _, ⟨T158, L158, k158, n158⟩, -, X158, ⟨Lc158, hQ158, l158, y158, z158⟩, st158⟩ := X156.interfaceBack hx (xi := own_m12) (y := own_m13) hown (mvT hZ (own_h hw 127 rfl)) (mvT hZ (own_h hw 128 rfl)) (mvT hZ (own_h hw 129 rfl)) (mvT hZ (own_h hw 130 rfl)) (mvT hZ (own_h hw 131 rfl)) (mvT hZ (own_h hw 132 rfl)) (mvT hZ (own_h hw 133 rfl)) (mvT hZ (own_h hw 82 rfl)) (by decide) (backOf (W := 2) (rm16 l Z a0 hw [] a3 (1 : Int32) ea l1 [(.ref l0), (.ref l1), .null, .null, .null, .null, .null, .null, .null, .null] 1 (2 : Int32) h121 n0 fq134 (fq136).av (by decide) (by decide) rfl fq138 fq140 (by decide)) hZ (own_h hw 134 rfl) (own_h hw 43 rfl) (by decide) (by decide)) q158a q158b q158c (g := (mkF m 76 #[.val (.ref a1), .val .null, .val (.ref a3), .val (.int (1 : Int32)), .val (.ref t1), .val (.ref t0)] [(.int (1 : Int32)), (.ref a3), (.int (1 : Int32)), (.ref b6)])) rfl (by rw [hml]; rfl) (Steps.refl _) (argsL := [(.int (1 : Int32))]) (rest := [(.int (1 : Int32)), (.ref b6)]) (lenOf pd_12 rfl) rfl (by show 2 * 0 + _ ≤ _; exact Nat.le_of_eq rfl) (hb hby d8_76) (fun _ _ => ⟨rfl, e156, (by decide : 3 + 0 ≤ _), (by decide : 6 + 0 ≤ _)⟩)
  dsimp only [Pt.U, Pt.locs, Pt.cells, Pt.slots] at X158 l158 y158 z158 st158 hQ158
  subst y158 z158
  obtain ⟨rfl, N158q, e158⟩ := hQ158
  have N158 := Fr.app N146 N158q
  rw [← l158] at N158
  have go159 : ∀ t, Steps p.tables e below (T158.setTop (mkF m 81 #[.val (.ref a1), .val .null, .val (.ref a3), .val (.int (1 : Int32)), .val (.ref t1), .val (.ref t0)] [(.ref l1), (.int (1 : Int32)), (.ref b6)])) t → Steps p.tables e below (s₁.setTop (entryFrame m #[(.ref a1), .null, (.ref a3)] 6)) t := fun t kt => go157 t (by
      refine st158.trans ?_
      show Steps p.tables e below (T158.setTop (mkF m 81 #[.val (.ref a1), .val .null, .val (.ref a3), .val (.int (1 : Int32)), .val (.ref t1), .val (.ref t0)] [(.ref l1), (.int (1 : Int32)), (.ref b6)])) _
      exact kt)
  obtain ⟨T160, X160, e160, st160⟩ := castY X158 hx hZ hown (own_h hw 148 rfl) e158 (Ins.self fq144) (g := (mkF m 81 #[.val (.ref a1), .val .null, .val (.ref a3), .val (.int (1 : Int32)), .val (.ref t1), .val (.ref t0)] [(.ref l1), (.int (1 : Int32)), (.ref b6)])) rfl rfl (hb hby d8_81)
  have go161 : ∀ t, Steps p.tables e below (T160.setTop (mkF m 84 #[.val (.ref a1), .val .null, .val (.ref a3), .val (.int (1 : Int32)), .val (.ref t1), .val (.ref t0)] [(.ref l1), (.int (1 : Int32)), (.ref b6)])) t → Steps p.tables e below (s₁.setTop (entryFrame m #[(.ref a1), .null, (.ref a3)] 6)) t := fun t kt => go159 t (by
      refine st160 _ ?_
      show Steps p.tables e below (T160.setTop (mkF m 84 #[.val (.ref a1), .val .null, .val (.ref a3), .val (.int (1 : Int32)), .val (.ref t1), .val (.ref t0)] [(.ref l1), (.int (1 : Int32)), (.ref b6)])) _
      exact kt)
  have fr163 := ((FS1.ext E6).other W10 (Or.inl nl1))
  have fr164 := (((fr163.ext E16).other W29 (Or.inl nl1)).ext E35)
  have fr165 := (((fr164.other W49 (Or.inl nl1)).other W89 (Or.inl ne_l1_b6)).other W103 (Or.inl ne_l1_b16))
  have fq166 := (fr165.other W121 (Or.inl ne_l1_b35))
  obtain ⟨cq162, kq162, q162a, q162b, q162c⟩ := isOf hZ e160 fq144
  obtain ⟨_, _, ⟨T162, L162, k162, n162⟩, -, X162, ⟨Lc162, hQ162, l162, y162, z162⟩, st162⟩ := X160.virtualBack hx (y := own_m15) (z := own_m15) hown (mvT hZ (own_h hw 157 rfl)) (mvT hZ (own_h hw 158 rfl)) (notFace_of_selects (args := #[]) (mvT hZ (own_h hw 160 rfl))) (mvT hZ (own_h hw 160 rfl)) (mvT hZ (own_h hw 159 rfl)) (by decide) (backOf (W := 2) (rm21 l Z a0 hw [] l1 s1 h121 n0 fq166) hZ (own_h hw 161 rfl) (own_h hw 16 rfl) (by decide) (by decide)) q162a q162c (g := (mkF m 84 #[.val (.ref a1), .val .null, .val (.ref a3), .val (.int (1 : Int32)), .val (.ref t1), .val (.ref t0)] [(.ref l1), (.int (1 : Int32)), (.ref b6)])) rfl (by rw [hml]; rfl) (Steps.refl _) (argsL := []) (rest := [(.int (1 : Int32)), (.ref b6)]) (lenOf pd_5 rfl) rfl (by show 2 * 0 + _ ≤ _; exact Nat.le_of_eq rfl) (hb hby d8_84) (fun _ _ => ⟨rfl, e160, (by decide : 3 + 0 ≤ _), (by decide : 6 + 0 ≤ _)⟩)
  dsimp only [Pt.U, Pt.locs, Pt.cells, Pt.slots] at X162 l162 y162 z162 st162 hQ162
  subst y162 z162
  obtain ⟨rfl, N162q, e162⟩ := hQ162
  have N162 := Fr.app N158 N162q
  rw [← l162] at N162
  have go167 : ∀ t, Steps p.tables e below (T162.setTop (mkF m 87 #[.val (.ref a1), .val .null, .val (.ref a3), .val (.int (1 : Int32)), .val (.ref t1), .val (.ref t0)] [(.int s1), (.int (1 : Int32)), (.ref b6)])) t → Steps p.tables e below (s₁.setTop (entryFrame m #[(.ref a1), .null, (.ref a3)] 6)) t := fun t kt => go161 t (by
      refine st162.trans ?_
      show Steps p.tables e below (T162.setTop (mkF m 87 #[.val (.ref a1), .val .null, .val (.ref a3), .val (.int (1 : Int32)), .val (.ref t1), .val (.ref t0)] [(.int s1), (.int (1 : Int32)), (.ref b6)])) _
      exact kt)
  obtain ⟨c168, Ar168, q168⟩ := id fq128
  obtain ⟨T168, h168, X168, e168, W168, st168⟩ := stI X162 hx hZ e162 Ar168 (j := (1 : Int32)) (own_inb q168 (n := 2) rfl (by decide) (by decide)) (g := (mkF m 87 #[.val (.ref a1), .val .null, .val (.ref a3), .val (.int (1 : Int32)), .val (.ref t1), .val (.ref t0)] [(.int s1), (.int (1 : Int32)), (.ref b6)])) rfl rfl (hb hby d8_87)
  have V168 : own_AV Z h168 b6 .int [(.int s0), (.int s1)] := own_AV.set Ar168 q168 W168 (i := 1) (by decide) rfl
  obtain ⟨Ls168, X168, N168⟩ := own_loc X168 (Fr.snoc X168 N162 gb6)
  have go169 : ∀ t, Steps p.tables e below (T168.setTop (mkF m 89 #[.val (.ref a1), .val .null, .val (.ref a3), .val (.int (1 : Int32)), .val (.ref t1), .val (.ref t0)] [(.ref a1)])) t → Steps p.tables e below (s₁.setTop (entryFrame m #[(.ref a1), .null, (.ref a3)] 6)) t := fun t kt => go167 t (by
      refine st168 _ ?_
      show Steps p.tables e below (T168.setTop (mkF m 88 #[.val (.ref a1), .val .null, .val (.ref a3), .val (.int (1 : Int32)), .val (.ref t1), .val (.ref t0)] [])) _
      refine XS.aloadN X168.here hx rfl (hb hby d8_88) rfl rfl ?_
      show Steps p.tables e below (T168.setTop (mkF m 89 #[.val (.ref a1), .val .null, .val (.ref a3), .val (.int (1 : Int32)), .val (.ref t1), .val (.ref t0)] [(.ref a1)])) _
      exact kt)
  have fr170 := ((fq92.other W103 (Or.inl ne_a1_b16)).other W121 (Or.inl ne_a1_b35))
  have fq171 := (fr170.other W168 (Or.inl ne_a1_b6))
  obtain ⟨T172, X172, e172, st172⟩ := getF X168 hx hZ hown (host := "") (Or.inl (own_h hw 89 rfl)) Via.refl e168 fq171 (g := (mkF m 89 #[.val (.ref a1), .val .null, .val (.ref a3), .val (.int (1 : Int32)), .val (.ref t1), .val (.ref t0)] [(.ref a1)])) rfl rfl (hb hby d8_89)
  have go173 : ∀ t, Steps p.tables e below (T172.setTop (mkF m 95 #[.val (.ref a1), .val .null, .val (.ref a3), .val (.int (1 : Int32)), .val (.ref t1), .val (.ref t0)] [(.ref t1), (.int (1 : Int32)), (.ref b16)])) t → Steps p.tables e below (s₁.setTop (entryFrame m #[(.ref a1), .null, (.ref a3)] 6)) t := fun t kt => go169 t (by
      refine st172 _ ?_
      show Steps p.tables e below (T172.setTop (mkF m 92 #[.val (.ref a1), .val .null, .val (.ref a3), .val (.int (1 : Int32)), .val (.ref t1), .val (.ref t0)] [(.ref b16)])) _
      refine XS.iloadN X172.here hx rfl (hb hby d8_92) rfl ?_
      show Steps p.tables e below (T172.setTop (mkF m 93 #[.val (.ref a1), .val .null, .val (.ref a3), .val (.int (1 : Int32)), .val (.ref t1), .val (.ref t0)] [(.int (1 : Int32)), (.ref b16)])) _
      refine XS.aload X172.here hx rfl (hb hby d8_93) rfl rfl ?_
      show Steps p.tables e below (T172.setTop (mkF m 95 #[.val (.ref a1), .val .null, .val (.ref a3), .val (.int (1 : Int32)), .val (.ref t1), .val (.ref t0)] [(.ref t1), (.int (1 : Int32)), (.ref b16)])) _
      exact kt)
  have fr175 := ((FL1.ext E6).other W10 (Or.inl nt1))
  have fr176 := (((fr175.ext E16).other W29 (Or.inl nt1)).ext E35)
  have fr177 := (((fr176.other W49 (Or.inl nt1)).other W89 (Or.inl ne_t1_b6)).other W103 (Or.inl ne_t1_b16))
  have fq178 := ((fr177.other W121 (Or.inl ne_t1_b35)).other W168 (Or.inl ne_t1_b6))
  have fq179 := (fq154.wr W168)
  obtain ⟨cq174, kq174, q174a, q174b, q174c⟩ := isOf hZ e172 fq179
  obtain ⟨_, _, ⟨T174, L174, k174, n174⟩, -, X174, ⟨Lc174, hQ174, l174, y174, z174⟩, st174⟩ := X172.interfaceBack hx (xi := own_m16) (y := own_m17) hown (mvT hZ (own_h hw 162 rfl)) (mvT hZ (own_h hw 163 rfl)) (mvT hZ (own_h hw 164 rfl)) (mvT hZ (own_h hw 165 rfl)) (mvT hZ (own_h hw 166 rfl)) (mvT hZ (own_h hw 167 rfl)) (mvT hZ (own_h hw 168 rfl)) (mvT hZ (own_h hw 156 rfl)) (by decide) (backOf (W := 2) (rm22 l Z a0 hw [] t1 f1 h168 n0 fq178) hZ (own_h hw 169 rfl) (own_h hw 3 rfl) (by decide) (by decide)) q174a q174b q174c (g := (mkF m 95 #[.val (.ref a1), .val .null, .val (.ref a3), .val (.int (1 : Int32)), .val (.ref t1), .val (.ref t0)] [(.ref t1), (.int (1 : Int32)), (.ref b16)])) rfl (by rw [hml]; rfl) (Steps.refl _) (argsL := []) (rest := [(.int (1 : Int32)), (.ref b16)]) (lenOf pd_15 rfl) rfl (by show 2 * 0 + _ ≤ _; exact Nat.le_of_eq rfl) (hb hby d8_95) (fun _ _ => ⟨rfl, e172, (by decide : 3 + 0 ≤ _), (by decide : 6 + 0 ≤ _)⟩)
  dsimp only [Pt.U, Pt.locs, Pt.cells, Pt.slots] at X174 l174 y174 z174 st174 hQ174
  subst y174 z174
  obtain ⟨rfl, N174q, e174⟩ := hQ174
  have N174 := Fr.app N168 N174q
  rw [← l174] at N174
  have go180 : ∀ t, Steps p.tables e below (T174.setTop (mkF m 100 #[.val (.ref a1), .val .null, .val (.ref a3), .val (.int (1 : Int32)), .val (.ref t1), .val (.ref t0)] [(.long f1), (.int (1 : Int32)), (.ref b16)])) t → Steps p.tables e below (s₁.setTop (entryFrame m #[(.ref a1), .null, (.ref a3)] 6)) t := fun t kt => go173 t (by
      refine st174.trans ?_
      show Steps p.tables e below (T174.setTop (mkF m 100 #[.val (.ref a1), .val .null, .val (.ref a3), .val (.int (1 : Int32)), .val (.ref t1), .val (.ref t0)] [(.long f1), (.int (1 : Int32)), (.ref b16)])) _
      exact kt)
  have fq181 := ((V103.other W121 ne_b16_b35).other W168 (Ne.symm ne_b6_b16))
  obtain ⟨c182, Ar182, q182⟩ := id fq181
  obtain ⟨T182, h182, X182, e182, W182, st182⟩ := stJ X174 hx hZ e174 Ar182 (j := (1 : Int32)) (own_inb q182 (n := 2) rfl (by decide) (by decide)) (g := (mkF m 100 #[.val (.ref a1), .val .null, .val (.ref a3), .val (.int (1 : Int32)), .val (.ref t1), .val (.ref t0)] [(.long f1), (.int (1 : Int32)), (.ref b16)])) rfl rfl (hb hby d8_100)
  have V182 : own_AV Z h182 b16 .long [(.long f0), (.long f1)] := own_AV.set Ar182 q182 W182 (i := 1) (by decide) rfl
  obtain ⟨Ls182, X182, N182⟩ := own_loc X182 (Fr.snoc X182 N174 gb16)
  have go183 : ∀ t, Steps p.tables e below (T182.setTop (mkF m 102 #[.val (.ref a1), .val .null, .val (.ref a3), .val (.int (1 : Int32)), .val (.ref t1), .val (.ref t0)] [(.ref a1)])) t → Steps p.tables e below (s₁.setTop (entryFrame m #[(.ref a1), .null, (.ref a3)] 6)) t := fun t kt => go180 t (by
      refine st182 _ ?_
      show Steps p.tables e below (T182.setTop (mkF m 101 #[.val (.ref a1), .val .null, .val (.ref a3), .val (.int (1 : Int32)), .val (.ref t1), .val (.ref t0)] [])) _
      refine XS.aloadN X182.here hx rfl (hb hby d8_101) rfl rfl ?_
      show Steps p.tables e below (T182.setTop (mkF m 102 #[.val (.ref a1), .val .null, .val (.ref a3), .val (.int (1 : Int32)), .val (.ref t1), .val (.ref t0)] [(.ref a1)])) _
      exact kt)
  have fr184 := ((fq105.other W121 (Or.inl ne_a1_b35)).other W168 (Or.inl ne_a1_b6))
  have fq185 := (fr184.other W182 (Or.inl ne_a1_b16))
  obtain ⟨T186, X186, e186, st186⟩ := getF X182 hx hZ hown (host := "") (Or.inl (own_h hw 91 rfl)) Via.refl e182 fq185 (g := (mkF m 102 #[.val (.ref a1), .val .null, .val (.ref a3), .val (.int (1 : Int32)), .val (.ref t1), .val (.ref t0)] [(.ref a1)])) rfl rfl (hb hby d8_102)
  have go187 : ∀ t, Steps p.tables e below (T186.setTop (mkF m 108 #[.val (.ref a1), .val .null, .val (.ref a3), .val (.int (1 : Int32)), .val (.ref t1), .val (.ref t0)] [(.ref t1), (.int (1 : Int32)), (.ref b35)])) t → Steps p.tables e below (s₁.setTop (entryFrame m #[(.ref a1), .null, (.ref a3)] 6)) t := fun t kt => go183 t (by
      refine st186 _ ?_
      show Steps p.tables e below (T186.setTop (mkF m 105 #[.val (.ref a1), .val .null, .val (.ref a3), .val (.int (1 : Int32)), .val (.ref t1), .val (.ref t0)] [(.ref b35)])) _
      refine XS.iloadN X186.here hx rfl (hb hby d8_105) rfl ?_
      show Steps p.tables e below (T186.setTop (mkF m 106 #[.val (.ref a1), .val .null, .val (.ref a3), .val (.int (1 : Int32)), .val (.ref t1), .val (.ref t0)] [(.int (1 : Int32)), (.ref b35)])) _
      refine XS.aload X186.here hx rfl (hb hby d8_106) rfl rfl ?_
      show Steps p.tables e below (T186.setTop (mkF m 108 #[.val (.ref a1), .val .null, .val (.ref a3), .val (.int (1 : Int32)), .val (.ref t1), .val (.ref t0)] [(.ref t1), (.int (1 : Int32)), (.ref b35)])) _
      exact kt)
  have fq189 := (fq179.wr W182)
  obtain ⟨T188, X188, e188, st188⟩ := instY X186 hx hZ hown (own_h hw 170 rfl) e186 (Ins.of_exa fq189 (own_h hw 171 rfl)) (g := (mkF m 108 #[.val (.ref a1), .val .null, .val (.ref a3), .val (.int (1 : Int32)), .val (.ref t1), .val (.ref t0)] [(.ref t1), (.int (1 : Int32)), (.ref b35)])) rfl rfl (hb hby d8_108)
  have hc111_190 : ¬ ((1 : Int32) = (0 : Int32)) := (by decide)
  have go191 : ∀ t, Steps p.tables e below (T188.setTop (mkF m 116 #[.val (.ref a1), .val .null, .val (.ref a3), .val (.int (1 : Int32)), .val (.ref t1), .val (.ref t0)] [(.ref t1), (.int (1 : Int32)), (.ref b35)])) t → Steps p.tables e below (s₁.setTop (entryFrame m #[(.ref a1), .null, (.ref a3)] 6)) t := fun t kt => go187 t (by
      refine st188 _ ?_
      show Steps p.tables e below (T188.setTop (mkF m 111 #[.val (.ref a1), .val .null, .val (.ref a3), .val (.int (1 : Int32)), .val (.ref t1), .val (.ref t0)] [(.int (1 : Int32)), (.int (1 : Int32)), (.ref b35)])) _
      refine XS.ifNo X188.here hx rfl (hb hby d8_111) rfl ((if0 _ _).trans (feq hc111_190).1) ?_
      show Steps p.tables e below (T188.setTop (mkF m 114 #[.val (.ref a1), .val .null, .val (.ref a3), .val (.int (1 : Int32)), .val (.ref t1), .val (.ref t0)] [(.int (1 : Int32)), (.ref b35)])) _
      refine XS.aload X188.here hx rfl (hb hby d8_114) rfl rfl ?_
      show Steps p.tables e below (T188.setTop (mkF m 116 #[.val (.ref a1), .val .null, .val (.ref a3), .val (.int (1 : Int32)), .val (.ref t1), .val (.ref t0)] [(.ref t1), (.int (1 : Int32)), (.ref b35)])) _
      exact kt)
  obtain ⟨T192, X192, e192, st192⟩ := castY X188 hx hZ hown (own_h hw 170 rfl) e188 (Ins.of_exa fq189 (own_h hw 171 rfl)) (g := (mkF m 116 #[.val (.ref a1), .val .null, .val (.ref a3), .val (.int (1 : Int32)), .val (.ref t1), .val (.ref t0)] [(.ref t1), (.int (1 : Int32)), (.ref b35)])) rfl rfl (hb hby d8_116)
  have go193 : ∀ t, Steps p.tables e below (T192.setTop (mkF m 123 #[.val (.ref a1), .val .null, .val (.ref a3), .val (.int (1 : Int32)), .val (.ref t1), .val (.ref t1)] [(.ref t1), (.int (1 : Int32)), (.ref b35)])) t → Steps p.tables e below (s₁.setTop (entryFrame m #[(.ref a1), .null, (.ref a3)] 6)) t := fun t kt => go191 t (by
      refine st192 _ ?_
      show Steps p.tables e below (T192.setTop (mkF m 119 #[.val (.ref a1), .val .null, .val (.ref a3), .val (.int (1 : Int32)), .val (.ref t1), .val (.ref t0)] [(.ref t1), (.int (1 : Int32)), (.ref b35)])) _
      refine XS.astore X192.here hx rfl (hb hby d8_119) rfl rfl (l' := #[.val (.ref a1), .val .null, .val (.ref a3), .val (.int (1 : Int32)), .val (.ref t1), .val (.ref t1)]) rfl ?_
      show Steps p.tables e below (T192.setTop (mkF m 121 #[.val (.ref a1), .val .null, .val (.ref a3), .val (.int (1 : Int32)), .val (.ref t1), .val (.ref t1)] [(.int (1 : Int32)), (.ref b35)])) _
      refine XS.aload X192.here hx rfl (hb hby d8_121) rfl rfl ?_
      show Steps p.tables e below (T192.setTop (mkF m 123 #[.val (.ref a1), .val .null, .val (.ref a3), .val (.int (1 : Int32)), .val (.ref t1), .val (.ref t1)] [(.ref t1), (.int (1 : Int32)), (.ref b35)])) _
      exact kt)
  have fr195 := ((FH1.ext E6).other W10 (Or.inl nt1))
  have fr196 := (((fr195.ext E16).other W29 (Or.inl nt1)).ext E35)
  have fr197 := (((fr196.other W49 (Or.inl nt1)).other W89 (Or.inl ne_t1_b6)).other W103 (Or.inl ne_t1_b16))
  have fq198 := (((fr197.other W121 (Or.inl ne_t1_b35)).other W168 (Or.inl ne_t1_b6)).other W182 (Or.inl ne_t1_b16))
  obtain ⟨cq194, kq194, q194a, q194b, q194c⟩ := isOf hZ e192 fq189
  obtain ⟨_, _, ⟨T194, L194, k194, n194⟩, -, X194, ⟨Lc194, hQ194, l194, y194, z194⟩, st194⟩ := X192.interfaceBack hx (xi := own_m18) (y := own_m19) hown (mvT hZ (own_h hw 172 rfl)) (mvT hZ (own_h hw 173 rfl)) (mvT hZ (own_h hw 174 rfl)) (mvT hZ (own_h hw 175 rfl)) (mvT hZ (own_h hw 176 rfl)) (mvT hZ (own_h hw 177 rfl)) (mvT hZ (own_h hw 178 rfl)) (mvT hZ (own_h hw 171 rfl)) (by decide) (backOf (W := 2) (rm23 l Z a0 hw [] t1 u1 h182 n0 fq198) hZ (own_h hw 179 rfl) (own_h hw 3 rfl) (by decide) (by decide)) q194a q194b q194c (g := (mkF m 123 #[.val (.ref a1), .val .null, .val (.ref a3), .val (.int (1 : Int32)), .val (.ref t1), .val (.ref t1)] [(.ref t1), (.int (1 : Int32)), (.ref b35)])) rfl (by rw [hml]; rfl) (Steps.refl _) (argsL := []) (rest := [(.int (1 : Int32)), (.ref b35)]) (lenOf pd_15 rfl) rfl (by show 2 * 0 + _ ≤ _; exact Nat.le_of_eq rfl) (hb hby d8_123) (fun _ _ => ⟨rfl, e192, (by decide : 3 + 0 ≤ _), (by decide : 6 + 0 ≤ _)⟩)
  dsimp only [Pt.U, Pt.locs, Pt.cells, Pt.slots] at X194 l194 y194 z194 st194 hQ194
  subst y194 z194
  obtain ⟨rfl, N194q, e194⟩ := hQ194
  have N194 := Fr.app N182 N194q
  rw [← l194] at N194
  have go199 : ∀ t, Steps p.tables e below (T194.setTop (mkF m 137 #[.val (.ref a1), .val .null, .val (.ref a3), .val (.int (1 : Int32)), .val (.ref t1), .val (.ref t1)] [(.long u1), (.int (1 : Int32)), (.ref b35)])) t → Steps p.tables e below (s₁.setTop (entryFrame m #[(.ref a1), .null, (.ref a3)] 6)) t := fun t kt => go193 t (by
      refine st194.trans ?_
      show Steps p.tables e below (T194.setTop (mkF m 128 #[.val (.ref a1), .val .null, .val (.ref a3), .val (.int (1 : Int32)), .val (.ref t1), .val (.ref t1)] [(.long u1), (.int (1 : Int32)), (.ref b35)])) _
      refine XS.goto X194.here hx rfl (pc0 := 128) (pc' := 137) rfl (hb hby d8_128) (by decide) (by decide) ?_
      show Steps p.tables e below (T194.setTop (mkF m 137 #[.val (.ref a1), .val .null, .val (.ref a3), .val (.int (1 : Int32)), .val (.ref t1), .val (.ref t1)] [(.long u1), (.int (1 : Int32)), (.ref b35)])) _
      exact kt)
  have fq200 := ((V121.other W168 (Ne.symm ne_b6_b35)).other W182 (Ne.symm ne_b16_b35))
  obtain ⟨c201, Ar201, q201⟩ := id fq200
  obtain ⟨T201, h201, X201, e201, W201, st201⟩ := stJ X194 hx hZ e194 Ar201 (j := (1 : Int32)) (own_inb q201 (n := 2) rfl (by decide) (by decide)) (g := (mkF m 137 #[.val (.ref a1), .val .null, .val (.ref a3), .val (.int (1 : Int32)), .val (.ref t1), .val (.ref t1)] [(.long u1), (.int (1 : Int32)), (.ref b35)])) rfl rfl (hb hby d8_137)
  have V201 : own_AV Z h201 b35 .long [(.long u0), (.long u1)] := own_AV.set Ar201 q201 W201 (i := 1) (by decide) rfl
  obtain ⟨Ls201, X201, N201⟩ := own_loc X201 (Fr.snoc X201 N194 gb35)
  have go202 : ∀ t, Steps p.tables e below (T201.setTop (mkF m 141 #[.val (.ref a1), .val .null, .val (.ref a3), .val (.int ((1 : Int32) + (1 : Int32))), .val (.ref t1), .val (.ref t1)] [])) t → Steps p.tables e below (s₁.setTop (entryFrame m #[(.ref a1), .null, (.ref a3)] 6)) t := fun t kt => go199 t (by
      refine st201 _ ?_
      show Steps p.tables e below (T201.setTop (mkF m 138 #[.val (.ref a1), .val .null, .val (.ref a3), .val (.int (1 : Int32)), .val (.ref t1), .val (.ref t1)] [])) _
      refine XS.iinc X201.here hx rfl (hb hby d8_138) rfl (l' := #[.val (.ref a1), .val .null, .val (.ref a3), .val (.int ((1 : Int32) + (1 : Int32))), .val (.ref t1), .val (.ref t1)]) rfl ?_
      show Steps p.tables e below (T201.setTop (mkF m 141 #[.val (.ref a1), .val .null, .val (.ref a3), .val (.int ((1 : Int32) + (1 : Int32))), .val (.ref t1), .val (.ref t1)] [])) _
      exact kt)
  rw [show ((1 : Int32) + (1 : Int32)) = (2 : Int32) from by decide] at go202
  have go203 : ∀ t, Steps p.tables e below (T201.setTop (mkF m 44 #[.val (.ref a1), .val .null, .val (.ref a3), .val (.int (2 : Int32)), .val (.ref t1), .val (.ref t1)] [(.ref a1), (.int (2 : Int32))])) t → Steps p.tables e below (s₁.setTop (entryFrame m #[(.ref a1), .null, (.ref a3)] 6)) t := fun t kt => go202 t (by
      refine XS.goto X201.here hx rfl (pc0 := 141) (pc' := 42) rfl (hb hby d8_141) (by decide) (by decide) ?_
      show Steps p.tables e below (T201.setTop (mkF m 42 #[.val (.ref a1), .val .null, .val (.ref a3), .val (.int (2 : Int32)), .val (.ref t1), .val (.ref t1)] [])) _
      refine XS.iloadN X201.here hx rfl (hb hby d8_42) rfl ?_
      show Steps p.tables e below (T201.setTop (mkF m 43 #[.val (.ref a1), .val .null, .val (.ref a3), .val (.int (2 : Int32)), .val (.ref t1), .val (.ref t1)] [(.int (2 : Int32))])) _
      refine XS.aloadN X201.here hx rfl (hb hby d8_43) rfl rfl ?_
      show Steps p.tables e below (T201.setTop (mkF m 44 #[.val (.ref a1), .val .null, .val (.ref a3), .val (.int (2 : Int32)), .val (.ref t1), .val (.ref t1)] [(.ref a1), (.int (2 : Int32))])) _
      exact kt)
  have fr204 := ((fq125.other W168 (Or.inl ne_a1_b6)).other W182 (Or.inl ne_a1_b16))
  have fq205 := (fr204.other W201 (Or.inl ne_a1_b35))
  obtain ⟨T206, X206, e206, st206⟩ := getF X201 hx hZ hown (host := "") (Or.inl (own_h hw 87 rfl)) Via.refl e201 fq205 (g := (mkF m 44 #[.val (.ref a1), .val .null, .val (.ref a3), .val (.int (2 : Int32)), .val (.ref t1), .val (.ref t1)] [(.ref a1), (.int (2 : Int32))])) rfl rfl (hb hby d8_44)
  have go207 : ∀ t, Steps p.tables e below (T206.setTop (mkF m 47 #[.val (.ref a1), .val .null, .val (.ref a3), .val (.int (2 : Int32)), .val (.ref t1), .val (.ref t1)] [(.ref b6), (.int (2 : Int32))])) t → Steps p.tables e below (s₁.setTop (entryFrame m #[(.ref a1), .null, (.ref a3)] 6)) t := fun t kt => go203 t (by
      refine st206 _ ?_
      show Steps p.tables e below (T206.setTop (mkF m 47 #[.val (.ref a1), .val .null, .val (.ref a3), .val (.int (2 : Int32)), .val (.ref t1), .val (.ref t1)] [(.ref b6), (.int (2 : Int32))])) _
      exact kt)
  have fq208 := ((V168.other W182 ne_b6_b16).other W201 ne_b6_b35)
  obtain ⟨c209, Ar209, q209⟩ := id fq208
  have hc48_210 : ¬ ((2 : Int32) < (2 : Int32)) := (by decide)
  have go211 : ∀ t, Steps p.tables e below (T206.setTop (mkF m 144 #[.val (.ref a1), .val .null, .val (.ref a3), .val (.int (2 : Int32)), .val (.ref t1), .val (.ref t1)] [])) t → Steps p.tables e below (s₁.setTop (entryFrame m #[(.ref a1), .null, (.ref a3)] 6)) t := fun t kt => go207 t (by
      refine X206.arraylength hx (by rw [e206]; exact Ar209.1) (State.isArrayOf_alike hZ.alike Ar209.2.1) (g := (mkF m 47 #[.val (.ref a1), .val .null, .val (.ref a3), .val (.int (2 : Int32)), .val (.ref t1), .val (.ref t1)] [(.ref b6), (.int (2 : Int32))])) rfl rfl (hb hby d8_47) _ ?_
      rw [own_len q209 (n := (2 : Int32)) rfl]
      show Steps p.tables e below (T206.setTop (mkF m 48 #[.val (.ref a1), .val .null, .val (.ref a3), .val (.int (2 : Int32)), .val (.ref t1), .val (.ref t1)] [(.int (2 : Int32)), (.int (2 : Int32))])) _
      refine XS.icmpYes X206.here hx rfl (pc0 := 48) (pc' := 144) rfl (hb hby d8_48) rfl (flt hc48_210).2.1 (by decide) (by decide) ?_
      show Steps p.tables e below (T206.setTop (mkF m 144 #[.val (.ref a1), .val .null, .val (.ref a3), .val (.int (2 : Int32)), .val (.ref t1), .val (.ref t1)] [])) _
      exact kt)
  obtain ⟨fs, hr, hrun, hended, hW, hsame⟩ := X206.leave (v := none) (fun _ => rfl)
  refine ⟨_, _, go211 _ (X206.returnOut hx Bd.returns (hb hby d8_144) hr), hrun, hended, _, _, rfl, ?_, ⟨_, rfl⟩, hW, hsame.mono (by decide) (by decide)⟩
  show own_QC _ _ _ _ _ _ _ _ T206.heap _
  rw [e206]
  have kp212 := ((Keep.refl h0 [a1]).ext E6)
  have kp213 := (kp212.wr W10 (Or.inl (List.mem_of_getElem? (i := 0) rfl)))
  have kp214 := (kp213.ext E16)
  have kp215 := (kp214.wr W29 (Or.inl (List.mem_of_getElem? (i := 0) rfl)))
  have kp216 := (kp215.ext E35)
  have kp217 := (kp216.wr W49 (Or.inl (List.mem_of_getElem? (i := 0) rfl)))
  have kp218 := (kp217.wr W89 (Or.inr sz6))
  have kp219 := (kp218.wr W103 (Or.inr sz16))
  have kp220 := (kp219.wr W121 (Or.inr sz35))
  have kp221 := (kp220.wr W168 (Or.inr sz6))
  have kp222 := (kp221.wr W182 (Or.inr sz16))
  have fr223 := ((fq48.wr W49).wr W89)
  have fr224 := (((fr223.wr W103).wr W121).wr W168)
  have fq225 := ((fr224.wr W182).wr W201)
  have fq226 := ((fq171.other W182 (Or.inl ne_a1_b16)).other W201 (Or.inl ne_a1_b35))
  have fq227 := (fq185.other W201 (Or.inl ne_a1_b35))
  have fq228 := (V182.other W201 ne_b16_b35)
  exact ⟨b6, b16, b35, rfl, N201, (kp222.wr W201 (Or.inr sz35)), fq225, fq205, fq226, fq227, fq208, fq228, V201, sz6, sz16, sz35⟩
theorem ef_rmC1_2 (m : MethodId) (a1 : Addr) (a3 : Addr) : entryFrame m #[(.ref a1), (.ref a3)] 2 = mkF m 0 #[.val (.ref a1), .val (.ref a3)] [] := by first | (simp [entryFrame, mkF, argsToLocals, Value.category]; done) | rfl
set_option maxRecDepth 65536 in
set_option maxHeartbeats 40000000 in
theorem rmC1_2 (l : Launch) (Z : State) (a0 : Array Value) (hw : ∀ d ∈ tables_1, d.before a0 Z = true) (ws : List Jvm.Cond) (a1 a3 ea : Addr) (mc : Int32) (l0 l1 t0 t1 : Addr) (s0 s1 : Int32) (f0 f1 u0 u1 : Int64) (h0 : Heap) (n0 : Nat) (Z0 : n0 ≤ h0.size) (E0 : Exa Z h0 a1 "com/example/invariant_ink/invariantink/engine/Combinations") (F_slots : Fld Z h0 a1 "com/example/invariant_ink/invariantink/engine/Combinations" "slots" "[I" .null) (F_firsts : Fld Z h0 a1 "com/example/invariant_ink/invariantink/engine/Combinations" "firsts" "[J" .null) (F_lasts : Fld Z h0 a1 "com/example/invariant_ink/invariantink/engine/Combinations" "lasts" "[J" .null) (ga : n0 ≤ a1) (LO : own_LO Z h0 a3 (.ref ea) 2 mc) (EV0 : own_AVO Z h0 ea [(.ref l0), (.ref l1), .null, .null, .null, .null, .null, .null, .null, .null]) (EL0 : Exa Z h0 l0 "com/example/invariant_ink/invariantink/lang/Local") (FS0 : Fld Z h0 l0 "com/example/invariant_ink/invariantink/lang/Local" "slot" "I" (.int s0)) (FT0 : Fld Z h0 l0 "com/example/invariant_ink/invariantink/lang/Local" "type" "Lcom/example/invariant_ink/invariantink/lang/Type;" (.ref t0)) (ET0 : Exa Z h0 t0 "com/example/invariant_ink/invariantink/lang/RangeType") (FL0 : Fld Z h0 t0 "com/example/invariant_ink/invariantink/lang/RangeType" "low" "J" (.long f0)) (FH0 : Fld Z h0 t0 "com/example/invariant_ink/invariantink/lang/RangeType" "high" "J" (.long u0)) (EL1 : Exa Z h0 l1 "com/example/invariant_ink/invariantink/lang/Local") (FS1 : Fld Z h0 l1 "com/example/invariant_ink/invariantink/lang/Local" "slot" "I" (.int s1)) (FT1 : Fld Z h0 l1 "com/example/invariant_ink/invariantink/lang/Local" "type" "Lcom/example/invariant_ink/invariantink/lang/Type;" (.ref t1)) (ET1 : Exa Z h0 t1 "com/example/invariant_ink/invariantink/lang/RangeType") (FL1 : Fld Z h0 t1 "com/example/invariant_ink/invariantink/lang/RangeType" "low" "J" (.long f1)) (FH1 : Fld Z h0 t1 "com/example/invariant_ink/invariantink/lang/RangeType" "high" "J" (.long u1)) :
    MetFree l (⟨"com/example/invariant_ink/invariantink/engine/Combinations", "<init>", "(Ljava/util/List;)V"⟩ : MethodName) (head1 (Jvm.Cond.code (⟨"com/example/invariant_ink/invariantink/engine/Combinations", "<init>", "(Ljava/util/List;)V"⟩ : MethodName) prog_19_method_2_code 2 none :: ws) ({ frames := 4, cells := 3, slots := 6, locals := 59 } : Room)) (fun a U => a = #[(.ref a1), (.ref a3)] ∧ Z.Warmed39 U.vm ∧ U.heap = h0) (fun _ _ _ _ _ => True) (fun _ U o U' => ∃ v L, o = .returned v ∧ own_QC Z a1 [(.int s0), (.int s1)] [(.long f0), (.long f1)] [(.long u0), (.long u1)] h0 n0 v U'.heap L ∧ FrameEnd U o U' L ({ frames := 4, cells := 3, slots := 6, locals := 59 } : Room).cells ({ frames := 4, cells := 3, slots := 6, locals := 59 } : Room).slots) := by
  refine MetFree.of_bodySF (plainFor_of_name pn_7) hisR ?_
  intro p e s m args below meth c s₁ Bd hml0 hP hK
  obtain ⟨rfl, hZ, hh⟩ := hP
  have hx := Bd.exec
  have hby := Bd.bytes
  have hml : c.maxLocals = 2 := hml0
  have hown : s.vm.findClass "com/example/invariant_ink/invariantink/engine/Combinations" = some m.cls := findClass_of_methodNamed Bd.named
  have hnm := (name_of_methodNamed Bd.named Bd.method).1
  have X0 : Stand p l e ({ frames := 4, cells := 3, slots := 6, locals := 59 } : Room) s m #[(.ref a1), (.ref a3)] below meth c s₁ [] 0 0 := Stand.of_body Bd
  have e0 : s₁.heap = h0 := by rw [← hh, Bd.state]; rfl
  have N0 := Fr.nil n0
  have go0 : ∀ t, Steps p.tables e below (s₁.setTop (mkF m 0 #[.val (.ref a1), .val (.ref a3)] [])) t → Steps p.tables e below (s₁.setTop (entryFrame m #[(.ref a1), (.ref a3)] 2)) t := fun t k => castTop (ef_rmC1_2 m a1 a3) k
  have go1 : ∀ t, Steps p.tables e below (s₁.setTop (mkF m 3 #[.val (.ref a1), .val (.ref a3)] [(.ref a3), .null, (.ref a1)])) t → Steps p.tables e below (s₁.setTop (entryFrame m #[(.ref a1), (.ref a3)] 2)) t := fun t kt => go0 t (by
      refine XS.aloadN X0.here hx rfl (hb hby d7_0) rfl rfl ?_
      show Steps p.tables e below (s₁.setTop (mkF m 1 #[.val (.ref a1), .val (.ref a3)] [(.ref a1)])) _
      refine XS.aconstNull X0.here hx rfl (hb hby d7_1) ?_
      show Steps p.tables e below (s₁.setTop (mkF m 2 #[.val (.ref a1), .val (.ref a3)] [.null, (.ref a1)])) _
      refine XS.aloadN X0.here hx rfl (hb hby d7_2) rfl rfl ?_
      show Steps p.tables e below (s₁.setTop (mkF m 3 #[.val (.ref a1), .val (.ref a3)] [(.ref a3), .null, (.ref a1)])) _
      exact kt)
  obtain ⟨_, _, ⟨T2, L2, k2, n2⟩, -, X2, ⟨Lc2, hQ2, l2, y2, z2⟩, st2⟩ := X0.specialBack hx (y := own_m11) rfl hown (mvT hZ (own_h hw 71 rfl)) (mvT hZ (own_h hw 72 rfl)) (mvT hZ (own_h hw 73 rfl)) (by decide) (backOf (W := 0) (rmC2_2 l Z a0 hw [] a1 a3 ea mc l0 l1 t0 t1 s0 s1 f0 f1 u0 u1 h0 n0 Z0 E0 F_slots F_firsts F_lasts ga LO EV0 EL0 FS0 FT0 ET0 FL0 FH0 EL1 FS1 FT1 ET1 FL1 FH1) hZ (own_h hw 73 rfl) (own_h hw 67 rfl) (by decide) (by decide)) (g := (mkF m 3 #[.val (.ref a1), .val (.ref a3)] [(.ref a3), .null, (.ref a1)])) rfl (by rw [hml]; rfl) (Steps.refl _) (a := a1) (argsL := [.null, (.ref a3)]) (rest := []) (lenOf pd_4 rfl) rfl (by show 2 * 0 + _ ≤ _; exact Nat.le_of_eq rfl) (hb hby d7_3) (fun _ _ => ⟨rfl, e0, (by decide : 0 + 3 ≤ _), (by decide : 0 + 6 ≤ _)⟩)
  dsimp only [Pt.U, Pt.locs, Pt.cells, Pt.slots] at X2 l2 y2 z2 st2 hQ2
  subst y2 z2
  obtain ⟨x2, y2, z2, rfl, N2q, r2⟩ := hQ2
  have N2 := Fr.app N0 N2q
  rw [← l2] at N2
  have go3 : ∀ t, Steps p.tables e below (T2.setTop (mkF m 6 #[.val (.ref a1), .val (.ref a3)] [])) t → Steps p.tables e below (s₁.setTop (entryFrame m #[(.ref a1), (.ref a3)] 2)) t := fun t kt => go1 t (by
      refine st2.trans ?_
      show Steps p.tables e below (T2.setTop (mkF m 6 #[.val (.ref a1), .val (.ref a3)] [])) _
      exact kt)
  obtain ⟨fs, hr, hrun, hended, hW, hsame⟩ := X2.leave (v := none) (fun _ => rfl)
  refine ⟨_, _, go3 _ (X2.returnOut hx Bd.returns (hb hby d7_6) hr), hrun, hended, _, _, rfl, ?_, ⟨_, rfl⟩, hW, hsame.mono (by decide) (by decide)⟩
  exact ⟨x2, y2, z2, rfl, N2, r2⟩
theorem ef_rmC2_3 (m : MethodId) (a1 : Addr) (a3 : Addr) : entryFrame m #[(.ref a1), .null, (.ref a3)] 6 = mkF m 0 #[.val (.ref a1), .val .null, .val (.ref a3), .unset, .unset, .unset] [] := by first | (simp [entryFrame, mkF, argsToLocals, Value.category]; done) | rfl
set_option maxRecDepth 65536 in
set_option maxHeartbeats 40000000 in
theorem rmC2_3 (l : Launch) (Z : State) (a0 : Array Value) (hw : ∀ d ∈ tables_1, d.before a0 Z = true) (ws : List Jvm.Cond) (a1 a3 ea : Addr) (mc : Int32) (l0 l1 l2 t0 t1 t2 : Addr) (s0 s1 s2 : Int32) (f0 f1 f2 u0 u1 u2 : Int64) (h0 : Heap) (n0 : Nat) (Z0 : n0 ≤ h0.size) (E0 : Exa Z h0 a1 "com/example/invariant_ink/invariantink/engine/Combinations") (F_slots : Fld Z h0 a1 "com/example/invariant_ink/invariantink/engine/Combinations" "slots" "[I" .null) (F_firsts : Fld Z h0 a1 "com/example/invariant_ink/invariantink/engine/Combinations" "firsts" "[J" .null) (F_lasts : Fld Z h0 a1 "com/example/invariant_ink/invariantink/engine/Combinations" "lasts" "[J" .null) (ga : n0 ≤ a1) (LO : own_LO Z h0 a3 (.ref ea) 3 mc) (EV0 : own_AVO Z h0 ea [(.ref l0), (.ref l1), (.ref l2), .null, .null, .null, .null, .null, .null, .null]) (EL0 : Exa Z h0 l0 "com/example/invariant_ink/invariantink/lang/Local") (FS0 : Fld Z h0 l0 "com/example/invariant_ink/invariantink/lang/Local" "slot" "I" (.int s0)) (FT0 : Fld Z h0 l0 "com/example/invariant_ink/invariantink/lang/Local" "type" "Lcom/example/invariant_ink/invariantink/lang/Type;" (.ref t0)) (ET0 : Exa Z h0 t0 "com/example/invariant_ink/invariantink/lang/RangeType") (FL0 : Fld Z h0 t0 "com/example/invariant_ink/invariantink/lang/RangeType" "low" "J" (.long f0)) (FH0 : Fld Z h0 t0 "com/example/invariant_ink/invariantink/lang/RangeType" "high" "J" (.long u0)) (EL1 : Exa Z h0 l1 "com/example/invariant_ink/invariantink/lang/Local") (FS1 : Fld Z h0 l1 "com/example/invariant_ink/invariantink/lang/Local" "slot" "I" (.int s1)) (FT1 : Fld Z h0 l1 "com/example/invariant_ink/invariantink/lang/Local" "type" "Lcom/example/invariant_ink/invariantink/lang/Type;" (.ref t1)) (ET1 : Exa Z h0 t1 "com/example/invariant_ink/invariantink/lang/RangeType") (FL1 : Fld Z h0 t1 "com/example/invariant_ink/invariantink/lang/RangeType" "low" "J" (.long f1)) (FH1 : Fld Z h0 t1 "com/example/invariant_ink/invariantink/lang/RangeType" "high" "J" (.long u1)) (EL2 : Exa Z h0 l2 "com/example/invariant_ink/invariantink/lang/Local") (FS2 : Fld Z h0 l2 "com/example/invariant_ink/invariantink/lang/Local" "slot" "I" (.int s2)) (FT2 : Fld Z h0 l2 "com/example/invariant_ink/invariantink/lang/Local" "type" "Lcom/example/invariant_ink/invariantink/lang/Type;" (.ref t2)) (ET2 : Exa Z h0 t2 "com/example/invariant_ink/invariantink/lang/RangeType") (FL2 : Fld Z h0 t2 "com/example/invariant_ink/invariantink/lang/RangeType" "low" "J" (.long f2)) (FH2 : Fld Z h0 t2 "com/example/invariant_ink/invariantink/lang/RangeType" "high" "J" (.long u2)) :
    MetFree l (⟨"com/example/invariant_ink/invariantink/engine/Combinations", "<init>", "(Lcom/example/invariant_ink/invariantink/lang/Instance;Ljava/util/List;)V"⟩ : MethodName) (head1 (Jvm.Cond.code (⟨"com/example/invariant_ink/invariantink/engine/Combinations", "<init>", "(Lcom/example/invariant_ink/invariantink/lang/Instance;Ljava/util/List;)V"⟩ : MethodName) prog_19_method_1_code 6 none :: ws) ({ frames := 3, cells := 3, slots := 9, locals := 42 } : Room)) (fun a U => a = #[(.ref a1), .null, (.ref a3)] ∧ Z.Warmed39 U.vm ∧ U.heap = h0) (fun _ _ _ _ _ => True) (fun _ U o U' => ∃ v L, o = .returned v ∧ own_QC Z a1 [(.int s0), (.int s1), (.int s2)] [(.long f0), (.long f1), (.long f2)] [(.long u0), (.long u1), (.long u2)] h0 n0 v U'.heap L ∧ FrameEnd U o U' L ({ frames := 3, cells := 3, slots := 9, locals := 42 } : Room).cells ({ frames := 3, cells := 3, slots := 9, locals := 42 } : Room).slots) := by
  refine MetFree.of_bodySF (plainFor_of_name pn_8) hisR ?_
  intro p e s m args below meth c s₁ Bd hml0 hP hK
  obtain ⟨rfl, hZ, hh⟩ := hP
  have hx := Bd.exec
  have hby := Bd.bytes
  have hml : c.maxLocals = 6 := hml0
  have hown : s.vm.findClass "com/example/invariant_ink/invariantink/engine/Combinations" = some m.cls := findClass_of_methodNamed Bd.named
  have hnm := (name_of_methodNamed Bd.named Bd.method).1
  have X0 : Stand p l e ({ frames := 3, cells := 3, slots := 9, locals := 42 } : Room) s m #[(.ref a1), .null, (.ref a3)] below meth c s₁ [] 0 0 := Stand.of_body Bd
  have e0 : s₁.heap = h0 := by rw [← hh, Bd.state]; rfl
  have N0 := Fr.nil n0
  have go0 : ∀ t, Steps p.tables e below (s₁.setTop (mkF m 0 #[.val (.ref a1), .val .null, .val (.ref a3), .unset, .unset, .unset] [])) t → Steps p.tables e below (s₁.setTop (entryFrame m #[(.ref a1), .null, (.ref a3)] 6)) t := fun t k => castTop (ef_rmC2_3 m a1 a3) k
  obtain ⟨OE, OF1, OF2, OF3⟩ := id LO
  have na3 : a3 ≠ a1 := Exa.ne OE E0 (by decide)
  have ne0 : a1 ≠ ea := by obtain ⟨_, A, _⟩ := EV0; exact ne_arr E0 (own_h hw 66 rfl) A
  have nl0 : l0 ≠ a1 := Exa.ne EL0 E0 (by decide)
  have nt0 : t0 ≠ a1 := Exa.ne ET0 E0 (by decide)
  have nl1 : l1 ≠ a1 := Exa.ne EL1 E0 (by decide)
  have nt1 : t1 ≠ a1 := Exa.ne ET1 E0 (by decide)
  have nl2 : l2 ≠ a1 := Exa.ne EL2 E0 (by decide)
  have nt2 : t2 ≠ a1 := Exa.ne ET2 E0 (by decide)
  have go1 : ∀ t, Steps p.tables e below (s₁.setTop (mkF m 1 #[.val (.ref a1), .val .null, .val (.ref a3), .unset, .unset, .unset] [(.ref a1)])) t → Steps p.tables e below (s₁.setTop (entryFrame m #[(.ref a1), .null, (.ref a3)] 6)) t := fun t kt => go0 t (by
      refine XS.aloadN X0.here hx rfl (hb hby d8_0) rfl rfl ?_
      show Steps p.tables e below (s₁.setTop (mkF m 1 #[.val (.ref a1), .val .null, .val (.ref a3), .unset, .unset, .unset] [(.ref a1)])) _
      exact kt)
  obtain ⟨T2, X2, e2, st2⟩ := initO X0 hx hZ hown (own_h hw 74 rfl) (own_h hw 8 rfl) (own_h hw 9 rfl) e0 (g := (mkF m 1 #[.val (.ref a1), .val .null, .val (.ref a3), .unset, .unset, .unset] [(.ref a1)])) rfl (by rw [hml]; rfl) rfl (hb hby d8_1) (by decide) (W := 0) (by show 2 * 0 + _ ≤ _; exact Nat.le_of_eq rfl) (by decide)
  have go3 : ∀ t, Steps p.tables e below (T2.setTop (mkF m 6 #[.val (.ref a1), .val .null, .val (.ref a3), .unset, .unset, .unset] [(.ref a3), (.ref a1)])) t → Steps p.tables e below (s₁.setTop (entryFrame m #[(.ref a1), .null, (.ref a3)] 6)) t := fun t kt => go1 t (by
      refine st2 _ ?_
      show Steps p.tables e below (T2.setTop (mkF m 4 #[.val (.ref a1), .val .null, .val (.ref a3), .unset, .unset, .unset] [])) _
      refine XS.aloadN X2.here hx rfl (hb hby d8_4) rfl rfl ?_
      show Steps p.tables e below (T2.setTop (mkF m 5 #[.val (.ref a1), .val .null, .val (.ref a3), .unset, .unset, .unset] [(.ref a1)])) _
      refine XS.aloadN X2.here hx rfl (hb hby d8_5) rfl rfl ?_
      show Steps p.tables e below (T2.setTop (mkF m 6 #[.val (.ref a1), .val .null, .val (.ref a3), .unset, .unset, .unset] [(.ref a3), (.ref a1)])) _
      exact kt)
  obtain ⟨cq4, kq4, q4a, q4b, q4c⟩ := isOf hZ e2 OE
  obtain ⟨_, _, ⟨T4, L4, k4, n4⟩, -, X4, ⟨Lc4, hQ4, l4, y4, z4⟩, st4⟩ := X2.interfaceBack hx (xi := own_m9) (y := own_m10) hown (mvT hZ (own_h hw 75 rfl)) (mvT hZ (own_h hw 76 rfl)) (mvT hZ (own_h hw 77 rfl)) (mvT hZ (own_h hw 78 rfl)) (mvT hZ (own_h hw 79 rfl)) (mvT hZ (own_h hw 80 rfl)) (mvT hZ (own_h hw 81 rfl)) (mvT hZ (own_h hw 82 rfl)) (by decide) (backOf (W := 1) (rm9 l Z a0 hw [] a3 (3 : Int32) h0 n0 OF2) hZ (own_h hw 83 rfl) (own_h hw 43 rfl) (by decide) (by decide)) q4a q4b q4c (g := (mkF m 6 #[.val (.ref a1), .val .null, .val (.ref a3), .unset, .unset, .unset] [(.ref a3), (.ref a1)])) rfl (by rw [hml]; rfl) (Steps.refl _) (argsL := []) (rest := [(.ref a1)]) (lenOf pd_5 rfl) rfl (by show 2 * 0 + _ ≤ _; exact Nat.le_of_eq rfl) (hb hby d8_6) (fun _ _ => ⟨rfl, e2, (by decide : 0 + 0 ≤ _), (by decide : 0 + 0 ≤ _)⟩)
  dsimp only [Pt.U, Pt.locs, Pt.cells, Pt.slots] at X4 l4 y4 z4 st4 hQ4
  subst y4 z4
  obtain ⟨rfl, N4q, e4⟩ := hQ4
  have N4 := Fr.app N0 N4q
  rw [← l4] at N4
  have go5 : ∀ t, Steps p.tables e below (T4.setTop (mkF m 11 #[.val (.ref a1), .val .null, .val (.ref a3), .unset, .unset, .unset] [(.int (3 : Int32)), (.ref a1)])) t → Steps p.tables e below (s₁.setTop (entryFrame m #[(.ref a1), .null, (.ref a3)] 6)) t := fun t kt => go3 t (by
      refine st4.trans ?_
      show Steps p.tables e below (T4.setTop (mkF m 11 #[.val (.ref a1), .val .null, .val (.ref a3), .unset, .unset, .unset] [(.int (3 : Int32)), (.ref a1)])) _
      exact kt)
  obtain ⟨T6, h6, k6, X6, e6, E6, A6, st6⟩ := newP X4 hx hZ (own_h hw 86 rfl) e4 (g := (mkF m 11 #[.val (.ref a1), .val .null, .val (.ref a3), .unset, .unset, .unset] [(.int (3 : Int32)), (.ref a1)])) rfl (hb hby d8_11) rfl (by decide) (cap := 3) (by decide) (by decide) (by decide) (by decide)
  obtain ⟨b6, g6⟩ : ∃ z, z = h0.size := ⟨_, rfl⟩
  rw [← g6] at A6 st6
  have ks6 : h0.size ≤ h0.size := Nat.le_refl _
  have sz6 : h0.size ≤ b6 := Nat.le_trans ks6 (Nat.le_of_eq g6.symm)
  have ne_a1_b6 : a1 ≠ b6 := Nat.ne_of_lt (Nat.lt_of_lt_of_le E0.lt (Nat.le_of_eq g6.symm))
  have ne_a3_b6 : a3 ≠ b6 := Nat.ne_of_lt (Nat.lt_of_lt_of_le OE.lt (Nat.le_of_eq g6.symm))
  have ne_ea_b6 : ea ≠ b6 := Nat.ne_of_lt (Nat.lt_of_lt_of_le EV0.lt (Nat.le_of_eq g6.symm))
  have ne_l0_b6 : l0 ≠ b6 := Nat.ne_of_lt (Nat.lt_of_lt_of_le EL0.lt (Nat.le_of_eq g6.symm))
  have ne_l1_b6 : l1 ≠ b6 := Nat.ne_of_lt (Nat.lt_of_lt_of_le EL1.lt (Nat.le_of_eq g6.symm))
  have ne_l2_b6 : l2 ≠ b6 := Nat.ne_of_lt (Nat.lt_of_lt_of_le EL2.lt (Nat.le_of_eq g6.symm))
  have ne_t0_b6 : t0 ≠ b6 := Nat.ne_of_lt (Nat.lt_of_lt_of_le ET0.lt (Nat.le_of_eq g6.symm))
  have ne_t1_b6 : t1 ≠ b6 := Nat.ne_of_lt (Nat.lt_of_lt_of_le ET1.lt (Nat.le_of_eq g6.symm))
  have ne_t2_b6 : t2 ≠ b6 := Nat.ne_of_lt (Nat.lt_of_lt_of_le ET2.lt (Nat.le_of_eq g6.symm))
  have V6 : own_AV Z h6 b6 .int [(.int (0 : Int32)), (.int (0 : Int32)), (.int (0 : Int32))] := own_AV.new A6 (i := 3) (by decide)
  have gb6 : n0 ≤ b6 := Nat.le_trans Z0 (Nat.le_of_eq g6.symm)
  have go7 : ∀ t, Steps p.tables e below (T6.setTop (mkF m 13 #[.val (.ref a1), .val .null, .val (.ref a3), .unset, .unset, .unset] [(.ref b6), (.ref a1)])) t → Steps p.tables e below (s₁.setTop (entryFrame m #[(.ref a1), .null, (.ref a3)] 6)) t := fun t kt => go5 t (by
      refine st6 _ ?_
      show Steps p.tables e below (T6.setTop (mkF m 13 #[.val (.ref a1), .val .null, .val (.ref a3), .unset, .unset, .unset] [(.ref b6), (.ref a1)])) _
      exact kt)
  have fq8 := (F_slots.ext E6)
  have fq9 := (E0.ext E6)
  obtain ⟨T10, h10, X10, e10, W10, st10⟩ := putF X6 hx hZ hown (host := "") (Or.inl (own_h hw 87 rfl)) Via.refl e6 fq8 fq9 (Or.inr ⟨(own_h hw 88 rfl), rfl, hnm⟩) (own_h hw 66 rfl) (ty := (.array .int)) (by decide) rfl rfl (g := (mkF m 13 #[.val (.ref a1), .val .null, .val (.ref a3), .unset, .unset, .unset] [(.ref b6), (.ref a1)])) rfl rfl (hb hby d8_13)
  have Fw10 := fq8.same W10
  obtain ⟨Ls10, X10, N10⟩ := own_loc X10 (Fr.snoc X10 N4 ga)
  have go11 : ∀ t, Steps p.tables e below (T10.setTop (mkF m 18 #[.val (.ref a1), .val .null, .val (.ref a3), .unset, .unset, .unset] [(.ref a3), (.ref a1)])) t → Steps p.tables e below (s₁.setTop (entryFrame m #[(.ref a1), .null, (.ref a3)] 6)) t := fun t kt => go7 t (by
      refine st10 _ ?_
      show Steps p.tables e below (T10.setTop (mkF m 16 #[.val (.ref a1), .val .null, .val (.ref a3), .unset, .unset, .unset] [])) _
      refine XS.aloadN X10.here hx rfl (hb hby d8_16) rfl rfl ?_
      show Steps p.tables e below (T10.setTop (mkF m 17 #[.val (.ref a1), .val .null, .val (.ref a3), .unset, .unset, .unset] [(.ref a1)])) _
      refine XS.aloadN X10.here hx rfl (hb hby d8_17) rfl rfl ?_
      show Steps p.tables e below (T10.setTop (mkF m 18 #[.val (.ref a1), .val .null, .val (.ref a3), .unset, .unset, .unset] [(.ref a3), (.ref a1)])) _
      exact kt)
  have fq13 := ((OF2.ext E6).other W10 (Or.inl na3))
  have fq14 := ((OE.ext E6).wr W10)
  obtain ⟨cq12, kq12, q12a, q12b, q12c⟩ := isOf hZ e10 fq14
  obtain ⟨_, _, ⟨T12, L12, k12, n12⟩, -, X12, ⟨Lc12, hQ12, l12, y12, z12⟩, st12⟩ := X10.interfaceBack hx (xi := own_m9) (y := own_m10) hown (mvT hZ (own_h hw 75 rfl)) (mvT hZ (own_h hw 76 rfl)) (mvT hZ (own_h hw 77 rfl)) (mvT hZ (own_h hw 78 rfl)) (mvT hZ (own_h hw 79 rfl)) (mvT hZ (own_h hw 80 rfl)) (mvT hZ (own_h hw 81 rfl)) (mvT hZ (own_h hw 82 rfl)) (by decide) (backOf (W := 1) (rm9 l Z a0 hw [] a3 (3 : Int32) h10 n0 fq13) hZ (own_h hw 83 rfl) (own_h hw 43 rfl) (by decide) (by decide)) q12a q12b q12c (g := (mkF m 18 #[.val (.ref a1), .val .null, .val (.ref a3), .unset, .unset, .unset] [(.ref a3), (.ref a1)])) rfl (by rw [hml]; rfl) (Steps.refl _) (argsL := []) (rest := [(.ref a1)]) (lenOf pd_5 rfl) rfl (by show 2 * 0 + _ ≤ _; exact Nat.le_of_eq rfl) (hb hby d8_18) (fun _ _ => ⟨rfl, e10, (by decide : 1 + 0 ≤ _), (by decide : 3 + 0 ≤ _)⟩)
  dsimp only [Pt.U, Pt.locs, Pt.cells, Pt.slots] at X12 l12 y12 z12 st12 hQ12
  subst y12 z12
  obtain ⟨rfl, N12q, e12⟩ := hQ12
  have N12 := Fr.app N10 N12q
  rw [← l12] at N12
  have go15 : ∀ t, Steps p.tables e below (T12.setTop (mkF m 23 #[.val (.ref a1), .val .null, .val (.ref a3), .unset, .unset, .unset] [(.int (3 : Int32)), (.ref a1)])) t → Steps p.tables e below (s₁.setTop (entryFrame m #[(.ref a1), .null, (.ref a3)] 6)) t := fun t kt => go11 t (by
      refine st12.trans ?_
      show Steps p.tables e below (T12.setTop (mkF m 23 #[.val (.ref a1), .val .null, .val (.ref a3), .unset, .unset, .unset] [(.int (3 : Int32)), (.ref a1)])) _
      exact kt)
  have zs17 := (Nat.le_trans (Nat.le_trans Z0 E6.1) (Keep.of_wr W10).1)
  obtain ⟨T16, h16, k16, X16, e16, E16, A16, st16⟩ := newP X12 hx hZ (own_h hw 0 rfl) e12 (g := (mkF m 23 #[.val (.ref a1), .val .null, .val (.ref a3), .unset, .unset, .unset] [(.int (3 : Int32)), (.ref a1)])) rfl (hb hby d8_23) rfl (by decide) (cap := 3) (by decide) (by decide) (by decide) (by decide)
  obtain ⟨b16, g16⟩ : ∃ z, z = h10.size := ⟨_, rfl⟩
  rw [← g16] at A16 st16
  have ks16 : h0.size ≤ h10.size := Nat.le_trans (Nat.le_trans (ks6) E6.1) (Keep.of_wr W10).1
  have sz16 : h0.size ≤ b16 := Nat.le_trans ks16 (Nat.le_of_eq g16.symm)
  have fq18 := (fq9.wr W10)
  have ne_a1_b16 : a1 ≠ b16 := Nat.ne_of_lt (Nat.lt_of_lt_of_le fq18.lt (Nat.le_of_eq g16.symm))
  have ne_a3_b16 : a3 ≠ b16 := Nat.ne_of_lt (Nat.lt_of_lt_of_le fq14.lt (Nat.le_of_eq g16.symm))
  have fq19 := (V6.other W10 (Ne.symm ne_a1_b6))
  have ne_b6_b16 : b6 ≠ b16 := Nat.ne_of_lt (Nat.lt_of_lt_of_le fq19.lt (Nat.le_of_eq g16.symm))
  have fq20 := ((EV0.ext E6).other W10 (Ne.symm ne0))
  have ne_ea_b16 : ea ≠ b16 := Nat.ne_of_lt (Nat.lt_of_lt_of_le fq20.lt (Nat.le_of_eq g16.symm))
  have fq21 := ((EL0.ext E6).wr W10)
  have ne_l0_b16 : l0 ≠ b16 := Nat.ne_of_lt (Nat.lt_of_lt_of_le fq21.lt (Nat.le_of_eq g16.symm))
  have fq22 := ((EL1.ext E6).wr W10)
  have ne_l1_b16 : l1 ≠ b16 := Nat.ne_of_lt (Nat.lt_of_lt_of_le fq22.lt (Nat.le_of_eq g16.symm))
  have fq23 := ((EL2.ext E6).wr W10)
  have ne_l2_b16 : l2 ≠ b16 := Nat.ne_of_lt (Nat.lt_of_lt_of_le fq23.lt (Nat.le_of_eq g16.symm))
  have fq24 := ((ET0.ext E6).wr W10)
  have ne_t0_b16 : t0 ≠ b16 := Nat.ne_of_lt (Nat.lt_of_lt_of_le fq24.lt (Nat.le_of_eq g16.symm))
  have fq25 := ((ET1.ext E6).wr W10)
  have ne_t1_b16 : t1 ≠ b16 := Nat.ne_of_lt (Nat.lt_of_lt_of_le fq25.lt (Nat.le_of_eq g16.symm))
  have fq26 := ((ET2.ext E6).wr W10)
  have ne_t2_b16 : t2 ≠ b16 := Nat.ne_of_lt (Nat.lt_of_lt_of_le fq26.lt (Nat.le_of_eq g16.symm))
  have V16 : own_AV Z h16 b16 .long [(.long (0 : Int64)), (.long (0 : Int64)), (.long (0 : Int64))] := own_AV.new A16 (i := 3) (by decide)
  have gb16 : n0 ≤ b16 := Nat.le_trans zs17 (Nat.le_of_eq g16.symm)
  have go27 : ∀ t, Steps p.tables e below (T16.setTop (mkF m 25 #[.val (.ref a1), .val .null, .val (.ref a3), .unset, .unset, .unset] [(.ref b16), (.ref a1)])) t → Steps p.tables e below (s₁.setTop (entryFrame m #[(.ref a1), .null, (.ref a3)] 6)) t := fun t kt => go15 t (by
      refine st16 _ ?_
      show Steps p.tables e below (T16.setTop (mkF m 25 #[.val (.ref a1), .val .null, .val (.ref a3), .unset, .unset, .unset] [(.ref b16), (.ref a1)])) _
      exact kt)
  have fr28 := ((F_firsts.ext E6).other W10 (Or.inr (slot_ne (Or.inr (own_h hw 90 rfl)) (Or.inr (own_h hw 88 rfl)) (by decide) (t := (.array .long)) (t' := (.array .int)) (by decide) (by decide))))
  have fq29 := (fr28.ext E16)
  have fq30 := (fq18.ext E16)
  obtain ⟨T31, h31, X31, e31, W31, st31⟩ := putF X16 hx hZ hown (host := "") (Or.inl (own_h hw 89 rfl)) Via.refl e16 fq29 fq30 (Or.inr ⟨(own_h hw 90 rfl), rfl, hnm⟩) (own_h hw 66 rfl) (ty := (.array .long)) (by decide) rfl rfl (g := (mkF m 25 #[.val (.ref a1), .val .null, .val (.ref a3), .unset, .unset, .unset] [(.ref b16), (.ref a1)])) rfl rfl (hb hby d8_25)
  have Fw31 := fq29.same W31
  obtain ⟨Ls31, X31, N31⟩ := own_loc X31 (Fr.snoc X31 N12 ga)
  have go32 : ∀ t, Steps p.tables e below (T31.setTop (mkF m 30 #[.val (.ref a1), .val .null, .val (.ref a3), .unset, .unset, .unset] [(.ref a3), (.ref a1)])) t → Steps p.tables e below (s₁.setTop (entryFrame m #[(.ref a1), .null, (.ref a3)] 6)) t := fun t kt => go27 t (by
      refine st31 _ ?_
      show Steps p.tables e below (T31.setTop (mkF m 28 #[.val (.ref a1), .val .null, .val (.ref a3), .unset, .unset, .unset] [])) _
      refine XS.aloadN X31.here hx rfl (hb hby d8_28) rfl rfl ?_
      show Steps p.tables e below (T31.setTop (mkF m 29 #[.val (.ref a1), .val .null, .val (.ref a3), .unset, .unset, .unset] [(.ref a1)])) _
      refine XS.aloadN X31.here hx rfl (hb hby d8_29) rfl rfl ?_
      show Steps p.tables e below (T31.setTop (mkF m 30 #[.val (.ref a1), .val .null, .val (.ref a3), .unset, .unset, .unset] [(.ref a3), (.ref a1)])) _
      exact kt)
  have fq34 := ((fq13.ext E16).other W31 (Or.inl na3))
  have fq35 := ((fq14.ext E16).wr W31)
  obtain ⟨cq33, kq33, q33a, q33b, q33c⟩ := isOf hZ e31 fq35
  obtain ⟨_, _, ⟨T33, L33, k33, n33⟩, -, X33, ⟨Lc33, hQ33, l33, y33, z33⟩, st33⟩ := X31.interfaceBack hx (xi := own_m9) (y := own_m10) hown (mvT hZ (own_h hw 75 rfl)) (mvT hZ (own_h hw 76 rfl)) (mvT hZ (own_h hw 77 rfl)) (mvT hZ (own_h hw 78 rfl)) (mvT hZ (own_h hw 79 rfl)) (mvT hZ (own_h hw 80 rfl)) (mvT hZ (own_h hw 81 rfl)) (mvT hZ (own_h hw 82 rfl)) (by decide) (backOf (W := 1) (rm9 l Z a0 hw [] a3 (3 : Int32) h31 n0 fq34) hZ (own_h hw 83 rfl) (own_h hw 43 rfl) (by decide) (by decide)) q33a q33b q33c (g := (mkF m 30 #[.val (.ref a1), .val .null, .val (.ref a3), .unset, .unset, .unset] [(.ref a3), (.ref a1)])) rfl (by rw [hml]; rfl) (Steps.refl _) (argsL := []) (rest := [(.ref a1)]) (lenOf pd_5 rfl) rfl (by show 2 * 0 + _ ≤ _; exact Nat.le_of_eq rfl) (hb hby d8_30) (fun _ _ => ⟨rfl, e31, (by decide : 2 + 0 ≤ _), (by decide : 6 + 0 ≤ _)⟩)
  dsimp only [Pt.U, Pt.locs, Pt.cells, Pt.slots] at X33 l33 y33 z33 st33 hQ33
  subst y33 z33
  obtain ⟨rfl, N33q, e33⟩ := hQ33
  have N33 := Fr.app N31 N33q
  rw [← l33] at N33
  have go36 : ∀ t, Steps p.tables e below (T33.setTop (mkF m 35 #[.val (.ref a1), .val .null, .val (.ref a3), .unset, .unset, .unset] [(.int (3 : Int32)), (.ref a1)])) t → Steps p.tables e below (s₁.setTop (entryFrame m #[(.ref a1), .null, (.ref a3)] 6)) t := fun t kt => go32 t (by
      refine st33.trans ?_
      show Steps p.tables e below (T33.setTop (mkF m 35 #[.val (.ref a1), .val .null, .val (.ref a3), .unset, .unset, .unset] [(.int (3 : Int32)), (.ref a1)])) _
      exact kt)
  have zs38 := (Nat.le_trans (Nat.le_trans zs17 E16.1) (Keep.of_wr W31).1)
  obtain ⟨T37, h37, k37, X37, e37, E37, A37, st37⟩ := newP X33 hx hZ (own_h hw 0 rfl) e33 (g := (mkF m 35 #[.val (.ref a1), .val .null, .val (.ref a3), .unset, .unset, .unset] [(.int (3 : Int32)), (.ref a1)])) rfl (hb hby d8_35) rfl (by decide) (cap := 3) (by decide) (by decide) (by decide) (by decide)
  obtain ⟨b37, g37⟩ : ∃ z, z = h31.size := ⟨_, rfl⟩
  rw [← g37] at A37 st37
  have ks37 : h0.size ≤ h31.size := Nat.le_trans (Nat.le_trans (ks16) E16.1) (Keep.of_wr W31).1
  have sz37 : h0.size ≤ b37 := Nat.le_trans ks37 (Nat.le_of_eq g37.symm)
  have fq39 := (fq30.wr W31)
  have ne_a1_b37 : a1 ≠ b37 := Nat.ne_of_lt (Nat.lt_of_lt_of_le fq39.lt (Nat.le_of_eq g37.symm))
  have ne_a3_b37 : a3 ≠ b37 := Nat.ne_of_lt (Nat.lt_of_lt_of_le fq35.lt (Nat.le_of_eq g37.symm))
  have fq40 := (V16.other W31 (Ne.symm ne_a1_b16))
  have ne_b16_b37 : b16 ≠ b37 := Nat.ne_of_lt (Nat.lt_of_lt_of_le fq40.lt (Nat.le_of_eq g37.symm))
  have fq41 := ((fq19.ext E16).other W31 (Ne.symm ne_a1_b6))
  have ne_b6_b37 : b6 ≠ b37 := Nat.ne_of_lt (Nat.lt_of_lt_of_le fq41.lt (Nat.le_of_eq g37.symm))
  have fq42 := ((fq20.ext E16).other W31 (Ne.symm ne0))
  have ne_ea_b37 : ea ≠ b37 := Nat.ne_of_lt (Nat.lt_of_lt_of_le fq42.lt (Nat.le_of_eq g37.symm))
  have fq43 := ((fq21.ext E16).wr W31)
  have ne_l0_b37 : l0 ≠ b37 := Nat.ne_of_lt (Nat.lt_of_lt_of_le fq43.lt (Nat.le_of_eq g37.symm))
  have fq44 := ((fq22.ext E16).wr W31)
  have ne_l1_b37 : l1 ≠ b37 := Nat.ne_of_lt (Nat.lt_of_lt_of_le fq44.lt (Nat.le_of_eq g37.symm))
  have fq45 := ((fq23.ext E16).wr W31)
  have ne_l2_b37 : l2 ≠ b37 := Nat.ne_of_lt (Nat.lt_of_lt_of_le fq45.lt (Nat.le_of_eq g37.symm))
  have fq46 := ((fq24.ext E16).wr W31)
  have ne_t0_b37 : t0 ≠ b37 := Nat.ne_of_lt (Nat.lt_of_lt_of_le fq46.lt (Nat.le_of_eq g37.symm))
  have fq47 := ((fq25.ext E16).wr W31)
  have ne_t1_b37 : t1 ≠ b37 := Nat.ne_of_lt (Nat.lt_of_lt_of_le fq47.lt (Nat.le_of_eq g37.symm))
  have fq48 := ((fq26.ext E16).wr W31)
  have ne_t2_b37 : t2 ≠ b37 := Nat.ne_of_lt (Nat.lt_of_lt_of_le fq48.lt (Nat.le_of_eq g37.symm))
  have V37 : own_AV Z h37 b37 .long [(.long (0 : Int64)), (.long (0 : Int64)), (.long (0 : Int64))] := own_AV.new A37 (i := 3) (by decide)
  have gb37 : n0 ≤ b37 := Nat.le_trans zs38 (Nat.le_of_eq g37.symm)
  have go49 : ∀ t, Steps p.tables e below (T37.setTop (mkF m 37 #[.val (.ref a1), .val .null, .val (.ref a3), .unset, .unset, .unset] [(.ref b37), (.ref a1)])) t → Steps p.tables e below (s₁.setTop (entryFrame m #[(.ref a1), .null, (.ref a3)] 6)) t := fun t kt => go36 t (by
      refine st37 _ ?_
      show Steps p.tables e below (T37.setTop (mkF m 37 #[.val (.ref a1), .val .null, .val (.ref a3), .unset, .unset, .unset] [(.ref b37), (.ref a1)])) _
      exact kt)
  have fr50 := ((F_lasts.ext E6).other W10 (Or.inr (slot_ne (Or.inr (own_h hw 92 rfl)) (Or.inr (own_h hw 88 rfl)) (by decide) (t := (.array .long)) (t' := (.array .int)) (by decide) (by decide))))
  have fq51 := (((fr50.ext E16).other W31 (Or.inr (slot_ne (Or.inr (own_h hw 92 rfl)) (Or.inr (own_h hw 90 rfl)) (by decide) (t := (.array .long)) (t' := (.array .long)) (by decide) (by decide)))).ext E37)
  have fq52 := (fq39.ext E37)
  obtain ⟨T53, h53, X53, e53, W53, st53⟩ := putF X37 hx hZ hown (host := "") (Or.inl (own_h hw 91 rfl)) Via.refl e37 fq51 fq52 (Or.inr ⟨(own_h hw 92 rfl), rfl, hnm⟩) (own_h hw 66 rfl) (ty := (.array .long)) (by decide) rfl rfl (g := (mkF m 37 #[.val (.ref a1), .val .null, .val (.ref a3), .unset, .unset, .unset] [(.ref b37), (.ref a1)])) rfl rfl (hb hby d8_37)
  have Fw53 := fq51.same W53
  obtain ⟨Ls53, X53, N53⟩ := own_loc X53 (Fr.snoc X53 N33 ga)
  have go54 : ∀ t, Steps p.tables e below (T53.setTop (mkF m 44 #[.val (.ref a1), .val .null, .val (.ref a3), .val (.int (0 : Int32)), .unset, .unset] [(.ref a1), (.int (0 : Int32))])) t → Steps p.tables e below (s₁.setTop (entryFrame m #[(.ref a1), .null, (.ref a3)] 6)) t := fun t kt => go49 t (by
      refine st53 _ ?_
      show Steps p.tables e below (T53.setTop (mkF m 40 #[.val (.ref a1), .val .null, .val (.ref a3), .unset, .unset, .unset] [])) _
      refine XS.iconst X53.here hx rfl (hb hby d8_40) ?_
      show Steps p.tables e below (T53.setTop (mkF m 41 #[.val (.ref a1), .val .null, .val (.ref a3), .unset, .unset, .unset] [(.int (0 : Int32))])) _
      refine XS.istoreN X53.here hx rfl (hb hby d8_41) rfl (l' := #[.val (.ref a1), .val .null, .val (.ref a3), .val (.int (0 : Int32)), .unset, .unset]) rfl ?_
      show Steps p.tables e below (T53.setTop (mkF m 42 #[.val (.ref a1), .val .null, .val (.ref a3), .val (.int (0 : Int32)), .unset, .unset] [])) _
      refine XS.iloadN X53.here hx rfl (hb hby d8_42) rfl ?_
      show Steps p.tables e below (T53.setTop (mkF m 43 #[.val (.ref a1), .val .null, .val (.ref a3), .val (.int (0 : Int32)), .unset, .unset] [(.int (0 : Int32))])) _
      refine XS.aloadN X53.here hx rfl (hb hby d8_43) rfl rfl ?_
      show Steps p.tables e below (T53.setTop (mkF m 44 #[.val (.ref a1), .val .null, .val (.ref a3), .val (.int (0 : Int32)), .unset, .unset] [(.ref a1), (.int (0 : Int32))])) _
      exact kt)
  have fr55 := ((Fw10.ext E16).other W31 (Or.inr (slot_ne (Or.inr (own_h hw 88 rfl)) (Or.inr (own_h hw 90 rfl)) (by decide) (t := (.array .int)) (t' := (.array .long)) (by decide) (by decide))))
  have fq56 := ((fr55.ext E37).other W53 (Or.inr (slot_ne (Or.inr (own_h hw 88 rfl)) (Or.inr (own_h hw 92 rfl)) (by decide) (t := (.array .int)) (t' := (.array .long)) (by decide) (by decide))))
  obtain ⟨T57, X57, e57, st57⟩ := getF X53 hx hZ hown (host := "") (Or.inl (own_h hw 87 rfl)) Via.refl e53 fq56 (g := (mkF m 44 #[.val (.ref a1), .val .null, .val (.ref a3), .val (.int (0 : Int32)), .unset, .unset] [(.ref a1), (.int (0 : Int32))])) rfl rfl (hb hby d8_44)
  have go58 : ∀ t, Steps p.tables e below (T57.setTop (mkF m 47 #[.val (.ref a1), .val .null, .val (.ref a3), .val (.int (0 : Int32)), .unset, .unset] [(.ref b6), (.int (0 : Int32))])) t → Steps p.tables e below (s₁.setTop (entryFrame m #[(.ref a1), .null, (.ref a3)] 6)) t := fun t kt => go54 t (by
      refine st57 _ ?_
      show Steps p.tables e below (T57.setTop (mkF m 47 #[.val (.ref a1), .val .null, .val (.ref a3), .val (.int (0 : Int32)), .unset, .unset] [(.ref b6), (.int (0 : Int32))])) _
      exact kt)
  have fq59 := ((fq41.ext E37).other W53 (Ne.symm ne_a1_b6))
  obtain ⟨c60, Ar60, q60⟩ := id fq59
  have hc48_61 : (0 : Int32) < (3 : Int32) := (by decide)
  have go62 : ∀ t, Steps p.tables e below (T57.setTop (mkF m 53 #[.val (.ref a1), .val .null, .val (.ref a3), .val (.int (0 : Int32)), .unset, .unset] [(.int (0 : Int32)), (.ref a3)])) t → Steps p.tables e below (s₁.setTop (entryFrame m #[(.ref a1), .null, (.ref a3)] 6)) t := fun t kt => go58 t (by
      refine X57.arraylength hx (by rw [e57]; exact Ar60.1) (State.isArrayOf_alike hZ.alike Ar60.2.1) (g := (mkF m 47 #[.val (.ref a1), .val .null, .val (.ref a3), .val (.int (0 : Int32)), .unset, .unset] [(.ref b6), (.int (0 : Int32))])) rfl rfl (hb hby d8_47) _ ?_
      rw [own_len q60 (n := (3 : Int32)) rfl]
      show Steps p.tables e below (T57.setTop (mkF m 48 #[.val (.ref a1), .val .null, .val (.ref a3), .val (.int (0 : Int32)), .unset, .unset] [(.int (3 : Int32)), (.int (0 : Int32))])) _
      refine XS.icmpNo X57.here hx rfl (hb hby d8_48) rfl (tlt hc48_61).2.1 ?_
      show Steps p.tables e below (T57.setTop (mkF m 51 #[.val (.ref a1), .val .null, .val (.ref a3), .val (.int (0 : Int32)), .unset, .unset] [])) _
      refine XS.aloadN X57.here hx rfl (hb hby d8_51) rfl rfl ?_
      show Steps p.tables e below (T57.setTop (mkF m 52 #[.val (.ref a1), .val .null, .val (.ref a3), .val (.int (0 : Int32)), .unset, .unset] [(.ref a3)])) _
      refine XS.iloadN X57.here hx rfl (hb hby d8_52) rfl ?_
      show Steps p.tables e below (T57.setTop (mkF m 53 #[.val (.ref a1), .val .null, .val (.ref a3), .val (.int (0 : Int32)), .unset, .unset] [(.int (0 : Int32)), (.ref a3)])) _
      exact kt)
  have fr64 := ((OF1.ext E6).other W10 (Or.inl na3))
  have fr65 := (((fr64.ext E16).other W31 (Or.inl na3)).ext E37)
  have fq66 := (fr65.other W53 (Or.inl na3))
  have fq67 := ((fq42.ext E37).other W53 (Ne.symm ne0))
  have fq68 := ((fq35.ext E37).wr W53)
  have fq69 := ((fq34.ext E37).other W53 (Or.inl na3))
  obtain ⟨cq63, kq63, q63a, q63b, q63c⟩ := isOf hZ e57 fq68
  obtain ⟨_, _, ⟨T63, L63, k63, n63⟩, -, X63, ⟨Lc63, hQ63, l63, y63, z63⟩, st63⟩ := X57.interfaceBack hx (xi := own_m12) (y := own_m13) hown (mvT hZ (own_h hw 127 rfl)) (mvT hZ (own_h hw 128 rfl)) (mvT hZ (own_h hw 129 rfl)) (mvT hZ (own_h hw 130 rfl)) (mvT hZ (own_h hw 131 rfl)) (mvT hZ (own_h hw 132 rfl)) (mvT hZ (own_h hw 133 rfl)) (mvT hZ (own_h hw 82 rfl)) (by decide) (backOf (W := 0) (rm16 l Z a0 hw [] a3 (0 : Int32) ea l0 [(.ref l0), (.ref l1), (.ref l2), .null, .null, .null, .null, .null, .null, .null] 0 (3 : Int32) h53 n0 fq66 (fq67).av (by decide) (by decide) rfl fq68 fq69 (by decide)) hZ (own_h hw 134 rfl) (own_h hw 43 rfl) (by decide) (by decide)) q63a q63b q63c (g := (mkF m 53 #[.val (.ref a1), .val .null, .val (.ref a3), .val (.int (0 : Int32)), .unset, .unset] [(.int (0 : Int32)), (.ref a3)])) rfl (by rw [hml]; rfl) (Steps.refl _) (argsL := [(.int (0 : Int32))]) (rest := []) (lenOf pd_12 rfl) rfl (by show 2 * 0 + _ ≤ _; exact Nat.le_of_eq rfl) (hb hby d8_53) (fun _ _ => ⟨rfl, e57, (by decide : 3 + 0 ≤ _), (by decide : 9 + 0 ≤ _)⟩)
  dsimp only [Pt.U, Pt.locs, Pt.cells, Pt.slots] at X63 l63 y63 z63 st63 hQ63
  subst y63 z63
  obtain ⟨rfl, N63q, e63⟩ := hQ63
  have N63 := Fr.app N53 N63q
  rw [← l63] at N63
  have go70 : ∀ t, Steps p.tables e below (T63.setTop (mkF m 58 #[.val (.ref a1), .val .null, .val (.ref a3), .val (.int (0 : Int32)), .unset, .unset] [(.ref l0)])) t → Steps p.tables e below (s₁.setTop (entryFrame m #[(.ref a1), .null, (.ref a3)] 6)) t := fun t kt => go62 t (by
      refine st63.trans ?_
      show Steps p.tables e below (T63.setTop (mkF m 58 #[.val (.ref a1), .val .null, .val (.ref a3), .val (.int (0 : Int32)), .unset, .unset] [(.ref l0)])) _
      exact kt)
  have fq72 := ((fq43.ext E37).wr W53)
  obtain ⟨T71, X71, e71, st71⟩ := castY X63 hx hZ hown (own_h hw 148 rfl) e63 (Ins.self fq72) (g := (mkF m 58 #[.val (.ref a1), .val .null, .val (.ref a3), .val (.int (0 : Int32)), .unset, .unset] [(.ref l0)])) rfl rfl (hb hby d8_58)
  have go73 : ∀ t, Steps p.tables e below (T71.setTop (mkF m 61 #[.val (.ref a1), .val .null, .val (.ref a3), .val (.int (0 : Int32)), .unset, .unset] [(.ref l0)])) t → Steps p.tables e below (s₁.setTop (entryFrame m #[(.ref a1), .null, (.ref a3)] 6)) t := fun t kt => go70 t (by
      refine st71 _ ?_
      show Steps p.tables e below (T71.setTop (mkF m 61 #[.val (.ref a1), .val .null, .val (.ref a3), .val (.int (0 : Int32)), .unset, .unset] [(.ref l0)])) _
      exact kt)
  have fr75 := ((FT0.ext E6).other W10 (Or.inl nl0))
  have fr76 := (((fr75.ext E16).other W31 (Or.inl nl0)).ext E37)
  have fq77 := (fr76.other W53 (Or.inl nl0))
  obtain ⟨cq74, kq74, q74a, q74b, q74c⟩ := isOf hZ e71 fq72
  obtain ⟨_, _, ⟨T74, L74, k74, n74⟩, -, X74, ⟨Lc74, hQ74, l74, y74, z74⟩, st74⟩ := X71.virtualBack hx (y := own_m14) (z := own_m14) hown (mvT hZ (own_h hw 150 rfl)) (mvT hZ (own_h hw 151 rfl)) (notFace_of_selects (args := #[]) (mvT hZ (own_h hw 153 rfl))) (mvT hZ (own_h hw 153 rfl)) (mvT hZ (own_h hw 152 rfl)) (by decide) (backOf (W := 0) (rm20 l Z a0 hw [] l0 t0 h53 n0 fq77) hZ (own_h hw 154 rfl) (own_h hw 16 rfl) (by decide) (by decide)) q74a q74c (g := (mkF m 61 #[.val (.ref a1), .val .null, .val (.ref a3), .val (.int (0 : Int32)), .unset, .unset] [(.ref l0)])) rfl (by rw [hml]; rfl) (Steps.refl _) (argsL := []) (rest := []) (lenOf pd_14 rfl) rfl (by show 2 * 0 + _ ≤ _; exact Nat.le_of_eq rfl) (hb hby d8_61) (fun _ _ => ⟨rfl, e71, (by decide : 3 + 0 ≤ _), (by decide : 9 + 0 ≤ _)⟩)
  dsimp only [Pt.U, Pt.locs, Pt.cells, Pt.slots] at X74 l74 y74 z74 st74 hQ74
  subst y74 z74
  obtain ⟨rfl, N74q, e74⟩ := hQ74
  have N74 := Fr.app N63 N74q
  rw [← l74] at N74
  have go78 : ∀ t, Steps p.tables e below (T74.setTop (mkF m 64 #[.val (.ref a1), .val .null, .val (.ref a3), .val (.int (0 : Int32)), .unset, .unset] [(.ref t0)])) t → Steps p.tables e below (s₁.setTop (entryFrame m #[(.ref a1), .null, (.ref a3)] 6)) t := fun t kt => go73 t (by
      refine st74.trans ?_
      show Steps p.tables e below (T74.setTop (mkF m 64 #[.val (.ref a1), .val .null, .val (.ref a3), .val (.int (0 : Int32)), .unset, .unset] [(.ref t0)])) _
      exact kt)
  have fq80 := ((fq46.ext E37).wr W53)
  obtain ⟨T79, X79, e79, st79⟩ := castY X74 hx hZ hown (own_h hw 155 rfl) e74 (Ins.of_exa fq80 (own_h hw 156 rfl)) (g := (mkF m 64 #[.val (.ref a1), .val .null, .val (.ref a3), .val (.int (0 : Int32)), .unset, .unset] [(.ref t0)])) rfl rfl (hb hby d8_64)
  have go81 : ∀ t, Steps p.tables e below (T79.setTop (mkF m 70 #[.val (.ref a1), .val .null, .val (.ref a3), .val (.int (0 : Int32)), .val (.ref t0), .unset] [(.ref a1)])) t → Steps p.tables e below (s₁.setTop (entryFrame m #[(.ref a1), .null, (.ref a3)] 6)) t := fun t kt => go78 t (by
      refine st79 _ ?_
      show Steps p.tables e below (T79.setTop (mkF m 67 #[.val (.ref a1), .val .null, .val (.ref a3), .val (.int (0 : Int32)), .unset, .unset] [(.ref t0)])) _
      refine XS.astore X79.here hx rfl (hb hby d8_67) rfl rfl (l' := #[.val (.ref a1), .val .null, .val (.ref a3), .val (.int (0 : Int32)), .val (.ref t0), .unset]) rfl ?_
      show Steps p.tables e below (T79.setTop (mkF m 69 #[.val (.ref a1), .val .null, .val (.ref a3), .val (.int (0 : Int32)), .val (.ref t0), .unset] [])) _
      refine XS.aloadN X79.here hx rfl (hb hby d8_69) rfl rfl ?_
      show Steps p.tables e below (T79.setTop (mkF m 70 #[.val (.ref a1), .val .null, .val (.ref a3), .val (.int (0 : Int32)), .val (.ref t0), .unset] [(.ref a1)])) _
      exact kt)
  obtain ⟨T82, X82, e82, st82⟩ := getF X79 hx hZ hown (host := "") (Or.inl (own_h hw 87 rfl)) Via.refl e79 fq56 (g := (mkF m 70 #[.val (.ref a1), .val .null, .val (.ref a3), .val (.int (0 : Int32)), .val (.ref t0), .unset] [(.ref a1)])) rfl rfl (hb hby d8_70)
  have go83 : ∀ t, Steps p.tables e below (T82.setTop (mkF m 76 #[.val (.ref a1), .val .null, .val (.ref a3), .val (.int (0 : Int32)), .val (.ref t0), .unset] [(.int (0 : Int32)), (.ref a3), (.int (0 : Int32)), (.ref b6)])) t → Steps p.tables e below (s₁.setTop (entryFrame m #[(.ref a1), .null, (.ref a3)] 6)) t := fun t kt => go81 t (by
      refine st82 _ ?_
      show Steps p.tables e below (T82.setTop (mkF m 73 #[.val (.ref a1), .val .null, .val (.ref a3), .val (.int (0 : Int32)), .val (.ref t0), .unset] [(.ref b6)])) _
      refine XS.iloadN X82.here hx rfl (hb hby d8_73) rfl ?_
      show Steps p.tables e below (T82.setTop (mkF m 74 #[.val (.ref a1), .val .null, .val (.ref a3), .val (.int (0 : Int32)), .val (.ref t0), .unset] [(.int (0 : Int32)), (.ref b6)])) _
      refine XS.aloadN X82.here hx rfl (hb hby d8_74) rfl rfl ?_
      show Steps p.tables e below (T82.setTop (mkF m 75 #[.val (.ref a1), .val .null, .val (.ref a3), .val (.int (0 : Int32)), .val (.ref t0), .unset] [(.ref a3), (.int (0 : Int32)), (.ref b6)])) _
      refine XS.iloadN X82.here hx rfl (hb hby d8_75) rfl ?_
      show Steps p.tables e below (T82.setTop (mkF m 76 #[.val (.ref a1), .val .null, .val (.ref a3), .val (.int (0 : Int32)), .val (.ref t0), .unset] [(.int (0 : Int32)), (.ref a3), (.int (0 : Int32)), (.ref b6)])) _
      exact kt)
  obtain ⟨cq84, kq84, q84a, q84b, q84c⟩ := isOf hZ e82 fq68
  obtain ⟨_, _, ⟨T84, L84, k84, n84⟩, -, X84, ⟨Lc84, hQ84, l84, y84, z84⟩, st84⟩ := X82.interfaceBack hx (xi := own_m12) (y := own_m13) hown (mvT hZ (own_h hw 127 rfl)) (mvT hZ (own_h hw 128 rfl)) (mvT hZ (own_h hw 129 rfl)) (mvT hZ (own_h hw 130 rfl)) (mvT hZ (own_h hw 131 rfl)) (mvT hZ (own_h hw 132 rfl)) (mvT hZ (own_h hw 133 rfl)) (mvT hZ (own_h hw 82 rfl)) (by decide) (backOf (W := 2) (rm16 l Z a0 hw [] a3 (0 : Int32) ea l0 [(.ref l0), (.ref l1), (.ref l2), .null, .null, .null, .null, .null, .null, .null] 0 (3 : Int32) h53 n0 fq66 (fq67).av (by decide) (by decide) rfl fq68 fq69 (by decide)) hZ (own_h hw 134 rfl) (own_h hw 43 rfl) (by decide) (by decide)) q84a q84b q84c (g := (mkF m 76 #[.val (.ref a1), .val .null, .val (.ref a3), .val (.int (0 : Int32)), .val (.ref t0), .unset] [(.int (0 : Int32)), (.ref a3), (.int (0 : Int32)), (.ref b6)])) rfl (by rw [hml]; rfl) (Steps.refl _) (argsL := [(.int (0 : Int32))]) (rest := [(.int (0 : Int32)), (.ref b6)]) (lenOf pd_12 rfl) rfl (by show 2 * 0 + _ ≤ _; exact Nat.le_of_eq rfl) (hb hby d8_76) (fun _ _ => ⟨rfl, e82, (by decide : 3 + 0 ≤ _), (by decide : 9 + 0 ≤ _)⟩)
  dsimp only [Pt.U, Pt.locs, Pt.cells, Pt.slots] at X84 l84 y84 z84 st84 hQ84
  subst y84 z84
  obtain ⟨rfl, N84q, e84⟩ := hQ84
  have N84 := Fr.app N74 N84q
  rw [← l84] at N84
  have go85 : ∀ t, Steps p.tables e below (T84.setTop (mkF m 81 #[.val (.ref a1), .val .null, .val (.ref a3), .val (.int (0 : Int32)), .val (.ref t0), .unset] [(.ref l0), (.int (0 : Int32)), (.ref b6)])) t → Steps p.tables e below (s₁.setTop (entryFrame m #[(.ref a1), .null, (.ref a3)] 6)) t := fun t kt => go83 t (by
      refine st84.trans ?_
      show Steps p.tables e below (T84.setTop (mkF m 81 #[.val (.ref a1), .val .null, .val (.ref a3), .val (.int (0 : Int32)), .val (.ref t0), .unset] [(.ref l0), (.int (0 : Int32)), (.ref b6)])) _
      exact kt)
  obtain ⟨T86, X86, e86, st86⟩ := castY X84 hx hZ hown (own_h hw 148 rfl) e84 (Ins.self fq72) (g := (mkF m 81 #[.val (.ref a1), .val .null, .val (.ref a3), .val (.int (0 : Int32)), .val (.ref t0), .unset] [(.ref l0), (.int (0 : Int32)), (.ref b6)])) rfl rfl (hb hby d8_81)
  have go87 : ∀ t, Steps p.tables e below (T86.setTop (mkF m 84 #[.val (.ref a1), .val .null, .val (.ref a3), .val (.int (0 : Int32)), .val (.ref t0), .unset] [(.ref l0), (.int (0 : Int32)), (.ref b6)])) t → Steps p.tables e below (s₁.setTop (entryFrame m #[(.ref a1), .null, (.ref a3)] 6)) t := fun t kt => go85 t (by
      refine st86 _ ?_
      show Steps p.tables e below (T86.setTop (mkF m 84 #[.val (.ref a1), .val .null, .val (.ref a3), .val (.int (0 : Int32)), .val (.ref t0), .unset] [(.ref l0), (.int (0 : Int32)), (.ref b6)])) _
      exact kt)
  have fr89 := ((FS0.ext E6).other W10 (Or.inl nl0))
  have fr90 := (((fr89.ext E16).other W31 (Or.inl nl0)).ext E37)
  have fq91 := (fr90.other W53 (Or.inl nl0))
  obtain ⟨cq88, kq88, q88a, q88b, q88c⟩ := isOf hZ e86 fq72
  obtain ⟨_, _, ⟨T88, L88, k88, n88⟩, -, X88, ⟨Lc88, hQ88, l88, y88, z88⟩, st88⟩ := X86.virtualBack hx (y := own_m15) (z := own_m15) hown (mvT hZ (own_h hw 157 rfl)) (mvT hZ (own_h hw 158 rfl)) (notFace_of_selects (args := #[]) (mvT hZ (own_h hw 160 rfl))) (mvT hZ (own_h hw 160 rfl)) (mvT hZ (own_h hw 159 rfl)) (by decide) (backOf (W := 2) (rm21 l Z a0 hw [] l0 s0 h53 n0 fq91) hZ (own_h hw 161 rfl) (own_h hw 16 rfl) (by decide) (by decide)) q88a q88c (g := (mkF m 84 #[.val (.ref a1), .val .null, .val (.ref a3), .val (.int (0 : Int32)), .val (.ref t0), .unset] [(.ref l0), (.int (0 : Int32)), (.ref b6)])) rfl (by rw [hml]; rfl) (Steps.refl _) (argsL := []) (rest := [(.int (0 : Int32)), (.ref b6)]) (lenOf pd_5 rfl) rfl (by show 2 * 0 + _ ≤ _; exact Nat.le_of_eq rfl) (hb hby d8_84) (fun _ _ => ⟨rfl, e86, (by decide : 3 + 0 ≤ _), (by decide : 9 + 0 ≤ _)⟩)
  dsimp only [Pt.U, Pt.locs, Pt.cells, Pt.slots] at X88 l88 y88 z88 st88 hQ88
  subst y88 z88
  obtain ⟨rfl, N88q, e88⟩ := hQ88
  have N88 := Fr.app N84 N88q
  rw [← l88] at N88
  have go92 : ∀ t, Steps p.tables e below (T88.setTop (mkF m 87 #[.val (.ref a1), .val .null, .val (.ref a3), .val (.int (0 : Int32)), .val (.ref t0), .unset] [(.int s0), (.int (0 : Int32)), (.ref b6)])) t → Steps p.tables e below (s₁.setTop (entryFrame m #[(.ref a1), .null, (.ref a3)] 6)) t := fun t kt => go87 t (by
      refine st88.trans ?_
      show Steps p.tables e below (T88.setTop (mkF m 87 #[.val (.ref a1), .val .null, .val (.ref a3), .val (.int (0 : Int32)), .val (.ref t0), .unset] [(.int s0), (.int (0 : Int32)), (.ref b6)])) _
      exact kt)
  obtain ⟨c93, Ar93, q93⟩ := id fq59
  obtain ⟨T93, h93, X93, e93, W93, st93⟩ := stI X88 hx hZ e88 Ar93 (j := (0 : Int32)) (own_inb q93 (n := 3) rfl (by decide) (by decide)) (g := (mkF m 87 #[.val (.ref a1), .val .null, .val (.ref a3), .val (.int (0 : Int32)), .val (.ref t0), .unset] [(.int s0), (.int (0 : Int32)), (.ref b6)])) rfl rfl (hb hby d8_87)
  have V93 : own_AV Z h93 b6 .int [(.int s0), (.int (0 : Int32)), (.int (0 : Int32))] := own_AV.set Ar93 q93 W93 (i := 0) (by decide) rfl
  obtain ⟨Ls93, X93, N93⟩ := own_loc X93 (Fr.snoc X93 N88 gb6)
  have go94 : ∀ t, Steps p.tables e below (T93.setTop (mkF m 89 #[.val (.ref a1), .val .null, .val (.ref a3), .val (.int (0 : Int32)), .val (.ref t0), .unset] [(.ref a1)])) t → Steps p.tables e below (s₁.setTop (entryFrame m #[(.ref a1), .null, (.ref a3)] 6)) t := fun t kt => go92 t (by
      refine st93 _ ?_
      show Steps p.tables e below (T93.setTop (mkF m 88 #[.val (.ref a1), .val .null, .val (.ref a3), .val (.int (0 : Int32)), .val (.ref t0), .unset] [])) _
      refine XS.aloadN X93.here hx rfl (hb hby d8_88) rfl rfl ?_
      show Steps p.tables e below (T93.setTop (mkF m 89 #[.val (.ref a1), .val .null, .val (.ref a3), .val (.int (0 : Int32)), .val (.ref t0), .unset] [(.ref a1)])) _
      exact kt)
  have fr95 := ((Fw31.ext E37).other W53 (Or.inr (slot_ne (Or.inr (own_h hw 90 rfl)) (Or.inr (own_h hw 92 rfl)) (by decide) (t := (.array .long)) (t' := (.array .long)) (by decide) (by decide))))
  have fq96 := (fr95.other W93 (Or.inl ne_a1_b6))
  obtain ⟨T97, X97, e97, st97⟩ := getF X93 hx hZ hown (host := "") (Or.inl (own_h hw 89 rfl)) Via.refl e93 fq96 (g := (mkF m 89 #[.val (.ref a1), .val .null, .val (.ref a3), .val (.int (0 : Int32)), .val (.ref t0), .unset] [(.ref a1)])) rfl rfl (hb hby d8_89)
  have go98 : ∀ t, Steps p.tables e below (T97.setTop (mkF m 95 #[.val (.ref a1), .val .null, .val (.ref a3), .val (.int (0 : Int32)), .val (.ref t0), .unset] [(.ref t0), (.int (0 : Int32)), (.ref b16)])) t → Steps p.tables e below (s₁.setTop (entryFrame m #[(.ref a1), .null, (.ref a3)] 6)) t := fun t kt => go94 t (by
      refine st97 _ ?_
      show Steps p.tables e below (T97.setTop (mkF m 92 #[.val (.ref a1), .val .null, .val (.ref a3), .val (.int (0 : Int32)), .val (.ref t0), .unset] [(.ref b16)])) _
      refine XS.iloadN X97.here hx rfl (hb hby d8_92) rfl ?_
      show Steps p.tables e below (T97.setTop (mkF m 93 #[.val (.ref a1), .val .null, .val (.ref a3), .val (.int (0 : Int32)), .val (.ref t0), .unset] [(.int (0 : Int32)), (.ref b16)])) _
      refine XS.aload X97.here hx rfl (hb hby d8_93) rfl rfl ?_
      show Steps p.tables e below (T97.setTop (mkF m 95 #[.val (.ref a1), .val .null, .val (.ref a3), .val (.int (0 : Int32)), .val (.ref t0), .unset] [(.ref t0), (.int (0 : Int32)), (.ref b16)])) _
      exact kt)
  have fr100 := ((FL0.ext E6).other W10 (Or.inl nt0))
  have fr101 := (((fr100.ext E16).other W31 (Or.inl nt0)).ext E37)
  have fq102 := ((fr101.other W53 (Or.inl nt0)).other W93 (Or.inl ne_t0_b6))
  have fq103 := (fq80.wr W93)
  obtain ⟨cq99, kq99, q99a, q99b, q99c⟩ := isOf hZ e97 fq103
  obtain ⟨_, _, ⟨T99, L99, k99, n99⟩, -, X99, ⟨Lc99, hQ99, l99, y99, z99⟩, st99⟩ := X97.interfaceBack hx (xi := own_m16) (y := own_m17) hown (mvT hZ (own_h hw 162 rfl)) (mvT hZ (own_h hw 163 rfl)) (mvT hZ (own_h hw 164 rfl)) (mvT hZ (own_h hw 165 rfl)) (mvT hZ (own_h hw 166 rfl)) (mvT hZ (own_h hw 167 rfl)) (mvT hZ (own_h hw 168 rfl)) (mvT hZ (own_h hw 156 rfl)) (by decide) (backOf (W := 2) (rm22 l Z a0 hw [] t0 f0 h93 n0 fq102) hZ (own_h hw 169 rfl) (own_h hw 3 rfl) (by decide) (by decide)) q99a q99b q99c (g := (mkF m 95 #[.val (.ref a1), .val .null, .val (.ref a3), .val (.int (0 : Int32)), .val (.ref t0), .unset] [(.ref t0), (.int (0 : Int32)), (.ref b16)])) rfl (by rw [hml]; rfl) (Steps.refl _) (argsL := []) (rest := [(.int (0 : Int32)), (.ref b16)]) (lenOf pd_15 rfl) rfl (by show 2 * 0 + _ ≤ _; exact Nat.le_of_eq rfl) (hb hby d8_95) (fun _ _ => ⟨rfl, e97, (by decide : 3 + 0 ≤ _), (by decide : 9 + 0 ≤ _)⟩)
  dsimp only [Pt.U, Pt.locs, Pt.cells, Pt.slots] at X99 l99 y99 z99 st99 hQ99
  subst y99 z99
  obtain ⟨rfl, N99q, e99⟩ := hQ99
  have N99 := Fr.app N93 N99q
  rw [← l99] at N99
  have go104 : ∀ t, Steps p.tables e below (T99.setTop (mkF m 100 #[.val (.ref a1), .val .null, .val (.ref a3), .val (.int (0 : Int32)), .val (.ref t0), .unset] [(.long f0), (.int (0 : Int32)), (.ref b16)])) t → Steps p.tables e below (s₁.setTop (entryFrame m #[(.ref a1), .null, (.ref a3)] 6)) t := fun t kt => go98 t (by
      refine st99.trans ?_
      show Steps p.tables e below (T99.setTop (mkF m 100 #[.val (.ref a1), .val .null, .val (.ref a3), .val (.int (0 : Int32)), .val (.ref t0), .unset] [(.long f0), (.int (0 : Int32)), (.ref b16)])) _
      exact kt)
  have fr105 := ((fq40.ext E37).other W53 (Ne.symm ne_a1_b16))
  have fq106 := (fr105.other W93 (Ne.symm ne_b6_b16))
  obtain ⟨c107, Ar107, q107⟩ := id fq106
  obtain ⟨T107, h107, X107, e107, W107, st107⟩ := stJ X99 hx hZ e99 Ar107 (j := (0 : Int32)) (own_inb q107 (n := 3) rfl (by decide) (by decide)) (g := (mkF m 100 #[.val (.ref a1), .val .null, .val (.ref a3), .val (.int (0 : Int32)), .val (.ref t0), .unset] [(.long f0), (.int (0 : Int32)), (.ref b16)])) rfl rfl (hb hby d8_100)
  have V107 : own_AV Z h107 b16 .long [(.long f0), (.long (0 : Int64)), (.long (0 : Int64))] := own_AV.set Ar107 q107 W107 (i := 0) (by decide) rfl
  obtain ⟨Ls107, X107, N107⟩ := own_loc X107 (Fr.snoc X107 N99 gb16)
  have go108 : ∀ t, Steps p.tables e below (T107.setTop (mkF m 102 #[.val (.ref a1), .val .null, .val (.ref a3), .val (.int (0 : Int32)), .val (.ref t0), .unset] [(.ref a1)])) t → Steps p.tables e below (s₁.setTop (entryFrame m #[(.ref a1), .null, (.ref a3)] 6)) t := fun t kt => go104 t (by
      refine st107 _ ?_
      show Steps p.tables e below (T107.setTop (mkF m 101 #[.val (.ref a1), .val .null, .val (.ref a3), .val (.int (0 : Int32)), .val (.ref t0), .unset] [])) _
      refine XS.aloadN X107.here hx rfl (hb hby d8_101) rfl rfl ?_
      show Steps p.tables e below (T107.setTop (mkF m 102 #[.val (.ref a1), .val .null, .val (.ref a3), .val (.int (0 : Int32)), .val (.ref t0), .unset] [(.ref a1)])) _
      exact kt)
  have fq109 := ((Fw53.other W93 (Or.inl ne_a1_b6)).other W107 (Or.inl ne_a1_b16))
  obtain ⟨T110, X110, e110, st110⟩ := getF X107 hx hZ hown (host := "") (Or.inl (own_h hw 91 rfl)) Via.refl e107 fq109 (g := (mkF m 102 #[.val (.ref a1), .val .null, .val (.ref a3), .val (.int (0 : Int32)), .val (.ref t0), .unset] [(.ref a1)])) rfl rfl (hb hby d8_102)
  have go111 : ∀ t, Steps p.tables e below (T110.setTop (mkF m 108 #[.val (.ref a1), .val .null, .val (.ref a3), .val (.int (0 : Int32)), .val (.ref t0), .unset] [(.ref t0), (.int (0 : Int32)), (.ref b37)])) t → Steps p.tables e below (s₁.setTop (entryFrame m #[(.ref a1), .null, (.ref a3)] 6)) t := fun t kt => go108 t (by
      refine st110 _ ?_
      show Steps p.tables e below (T110.setTop (mkF m 105 #[.val (.ref a1), .val .null, .val (.ref a3), .val (.int (0 : Int32)), .val (.ref t0), .unset] [(.ref b37)])) _
      refine XS.iloadN X110.here hx rfl (hb hby d8_105) rfl ?_
      show Steps p.tables e below (T110.setTop (mkF m 106 #[.val (.ref a1), .val .null, .val (.ref a3), .val (.int (0 : Int32)), .val (.ref t0), .unset] [(.int (0 : Int32)), (.ref b37)])) _
      refine XS.aload X110.here hx rfl (hb hby d8_106) rfl rfl ?_
      show Steps p.tables e below (T110.setTop (mkF m 108 #[.val (.ref a1), .val .null, .val (.ref a3), .val (.int (0 : Int32)), .val (.ref t0), .unset] [(.ref t0), (.int (0 : Int32)), (.ref b37)])) _
      exact kt)
  have fq113 := (fq103.wr W107)
  obtain ⟨T112, X112, e112, st112⟩ := instY X110 hx hZ hown (own_h hw 170 rfl) e110 (Ins.of_exa fq113 (own_h hw 171 rfl)) (g := (mkF m 108 #[.val (.ref a1), .val .null, .val (.ref a3), .val (.int (0 : Int32)), .val (.ref t0), .unset] [(.ref t0), (.int (0 : Int32)), (.ref b37)])) rfl rfl (hb hby d8_108)
  have hc111_114 : ¬ ((1 : Int32) = (0 : Int32)) := (by decide)
  have go115 : ∀ t, Steps p.tables e below (T112.setTop (mkF m 116 #[.val (.ref a1), .val .null, .val (.ref a3), .val (.int (0 : Int32)), .val (.ref t0), .unset] [(.ref t0), (.int (0 : Int32)), (.ref b37)])) t → Steps p.tables e below (s₁.setTop (entryFrame m #[(.ref a1), .null, (.ref a3)] 6)) t := fun t kt => go111 t (by
      refine st112 _ ?_
      show Steps p.tables e below (T112.setTop (mkF m 111 #[.val (.ref a1), .val .null, .val (.ref a3), .val (.int (0 : Int32)), .val (.ref t0), .unset] [(.int (1 : Int32)), (.int (0 : Int32)), (.ref b37)])) _
      refine XS.ifNo X112.here hx rfl (hb hby d8_111) rfl ((if0 _ _).trans (feq hc111_114).1) ?_
      show Steps p.tables e below (T112.setTop (mkF m 114 #[.val (.ref a1), .val .null, .val (.ref a3), .val (.int (0 : Int32)), .val (.ref t0), .unset] [(.int (0 : Int32)), (.ref b37)])) _
      refine XS.aload X112.here hx rfl (hb hby d8_114) rfl rfl ?_
      show Steps p.tables e below (T112.setTop (mkF m 116 #[.val (.ref a1), .val .null, .val (.ref a3), .val (.int (0 : Int32)), .val (.ref t0), .unset] [(.ref t0), (.int (0 : Int32)), (.ref b37)])) _
      exact kt)
  obtain ⟨T116, X116, e116, st116⟩ := castY X112 hx hZ hown (own_h hw 170 rfl) e112 (Ins.of_exa fq113 (own_h hw 171 rfl)) (g := (mkF m 116 #[.val (.ref a1), .val .null, .val (.ref a3), .val (.int (0 : Int32)), .val (.ref t0), .unset] [(.ref t0), (.int (0 : Int32)), (.ref b37)])) rfl rfl (hb hby d8_116)
  have go117 : ∀ t, Steps p.tables e below (T116.setTop (mkF m 123 #[.val (.ref a1), .val .null, .val (.ref a3), .val (.int (0 : Int32)), .val (.ref t0), .val (.ref t0)] [(.ref t0), (.int (0 : Int32)), (.ref b37)])) t → Steps p.tables e below (s₁.setTop (entryFrame m #[(.ref a1), .null, (.ref a3)] 6)) t := fun t kt => go115 t (by
      refine st116 _ ?_
      show Steps p.tables e below (T116.setTop (mkF m 119 #[.val (.ref a1), .val .null, .val (.ref a3), .val (.int (0 : Int32)), .val (.ref t0), .unset] [(.ref t0), (.int (0 : Int32)), (.ref b37)])) _
      refine XS.astore X116.here hx rfl (hb hby d8_119) rfl rfl (l' := #[.val (.ref a1), .val .null, .val (.ref a3), .val (.int (0 : Int32)), .val (.ref t0), .val (.ref t0)]) rfl ?_
      show Steps p.tables e below (T116.setTop (mkF m 121 #[.val (.ref a1), .val .null, .val (.ref a3), .val (.int (0 : Int32)), .val (.ref t0), .val (.ref t0)] [(.int (0 : Int32)), (.ref b37)])) _
      refine XS.aload X116.here hx rfl (hb hby d8_121) rfl rfl ?_
      show Steps p.tables e below (T116.setTop (mkF m 123 #[.val (.ref a1), .val .null, .val (.ref a3), .val (.int (0 : Int32)), .val (.ref t0), .val (.ref t0)] [(.ref t0), (.int (0 : Int32)), (.ref b37)])) _
      exact kt)
  have fr119 := ((FH0.ext E6).other W10 (Or.inl nt0))
  have fr120 := (((fr119.ext E16).other W31 (Or.inl nt0)).ext E37)
  have fq121 := (((fr120.other W53 (Or.inl nt0)).other W93 (Or.inl ne_t0_b6)).other W107 (Or.inl ne_t0_b16))
  obtain ⟨cq118, kq118, q118a, q118b, q118c⟩ := isOf hZ e116 fq113
  obtain ⟨_, _, ⟨T118, L118, k118, n118⟩, -, X118, ⟨Lc118, hQ118, l118, y118, z118⟩, st118⟩ := X116.interfaceBack hx (xi := own_m18) (y := own_m19) hown (mvT hZ (own_h hw 172 rfl)) (mvT hZ (own_h hw 173 rfl)) (mvT hZ (own_h hw 174 rfl)) (mvT hZ (own_h hw 175 rfl)) (mvT hZ (own_h hw 176 rfl)) (mvT hZ (own_h hw 177 rfl)) (mvT hZ (own_h hw 178 rfl)) (mvT hZ (own_h hw 171 rfl)) (by decide) (backOf (W := 2) (rm23 l Z a0 hw [] t0 u0 h107 n0 fq121) hZ (own_h hw 179 rfl) (own_h hw 3 rfl) (by decide) (by decide)) q118a q118b q118c (g := (mkF m 123 #[.val (.ref a1), .val .null, .val (.ref a3), .val (.int (0 : Int32)), .val (.ref t0), .val (.ref t0)] [(.ref t0), (.int (0 : Int32)), (.ref b37)])) rfl (by rw [hml]; rfl) (Steps.refl _) (argsL := []) (rest := [(.int (0 : Int32)), (.ref b37)]) (lenOf pd_15 rfl) rfl (by show 2 * 0 + _ ≤ _; exact Nat.le_of_eq rfl) (hb hby d8_123) (fun _ _ => ⟨rfl, e116, (by decide : 3 + 0 ≤ _), (by decide : 9 + 0 ≤ _)⟩)
  dsimp only [Pt.U, Pt.locs, Pt.cells, Pt.slots] at X118 l118 y118 z118 st118 hQ118
  subst y118 z118
  obtain ⟨rfl, N118q, e118⟩ := hQ118
  have N118 := Fr.app N107 N118q
  rw [← l118] at N118
  have go122 : ∀ t, Steps p.tables e below (T118.setTop (mkF m 137 #[.val (.ref a1), .val .null, .val (.ref a3), .val (.int (0 : Int32)), .val (.ref t0), .val (.ref t0)] [(.long u0), (.int (0 : Int32)), (.ref b37)])) t → Steps p.tables e below (s₁.setTop (entryFrame m #[(.ref a1), .null, (.ref a3)] 6)) t := fun t kt => go117 t (by
      refine st118.trans ?_
      show Steps p.tables e below (T118.setTop (mkF m 128 #[.val (.ref a1), .val .null, .val (.ref a3), .val (.int (0 : Int32)), .val (.ref t0), .val (.ref t0)] [(.long u0), (.int (0 : Int32)), (.ref b37)])) _
      refine XS.goto X118.here hx rfl (pc0 := 128) (pc' := 137) rfl (hb hby d8_128) (by decide) (by decide) ?_
      show Steps p.tables e below (T118.setTop (mkF m 137 #[.val (.ref a1), .val .null, .val (.ref a3), .val (.int (0 : Int32)), .val (.ref t0), .val (.ref t0)] [(.long u0), (.int (0 : Int32)), (.ref b37)])) _
      exact kt)
  have fr123 := ((V37.other W53 (Ne.symm ne_a1_b37)).other W93 (Ne.symm ne_b6_b37))
  have fq124 := (fr123.other W107 (Ne.symm ne_b16_b37))
  obtain ⟨c125, Ar125, q125⟩ := id fq124
  obtain ⟨T125, h125, X125, e125, W125, st125⟩ := stJ X118 hx hZ e118 Ar125 (j := (0 : Int32)) (own_inb q125 (n := 3) rfl (by decide) (by decide)) (g := (mkF m 137 #[.val (.ref a1), .val .null, .val (.ref a3), .val (.int (0 : Int32)), .val (.ref t0), .val (.ref t0)] [(.long u0), (.int (0 : Int32)), (.ref b37)])) rfl rfl (hb hby d8_137)
  have V125 : own_AV Z h125 b37 .long [(.long u0), (.long (0 : Int64)), (.long (0 : Int64))] := own_AV.set Ar125 q125 W125 (i := 0) (by decide) rfl
  obtain ⟨Ls125, X125, N125⟩ := own_loc X125 (Fr.snoc X125 N118 gb37)
  have go126 : ∀ t, Steps p.tables e below (T125.setTop (mkF m 141 #[.val (.ref a1), .val .null, .val (.ref a3), .val (.int ((0 : Int32) + (1 : Int32))), .val (.ref t0), .val (.ref t0)] [])) t → Steps p.tables e below (s₁.setTop (entryFrame m #[(.ref a1), .null, (.ref a3)] 6)) t := fun t kt => go122 t (by
      refine st125 _ ?_
      show Steps p.tables e below (T125.setTop (mkF m 138 #[.val (.ref a1), .val .null, .val (.ref a3), .val (.int (0 : Int32)), .val (.ref t0), .val (.ref t0)] [])) _
      refine XS.iinc X125.here hx rfl (hb hby d8_138) rfl (l' := #[.val (.ref a1), .val .null, .val (.ref a3), .val (.int ((0 : Int32) + (1 : Int32))), .val (.ref t0), .val (.ref t0)]) rfl ?_
      show Steps p.tables e below (T125.setTop (mkF m 141 #[.val (.ref a1), .val .null, .val (.ref a3), .val (.int ((0 : Int32) + (1 : Int32))), .val (.ref t0), .val (.ref t0)] [])) _
      exact kt)
  rw [show ((0 : Int32) + (1 : Int32)) = (1 : Int32) from by decide] at go126
  have go127 : ∀ t, Steps p.tables e below (T125.setTop (mkF m 44 #[.val (.ref a1), .val .null, .val (.ref a3), .val (.int (1 : Int32)), .val (.ref t0), .val (.ref t0)] [(.ref a1), (.int (1 : Int32))])) t → Steps p.tables e below (s₁.setTop (entryFrame m #[(.ref a1), .null, (.ref a3)] 6)) t := fun t kt => go126 t (by
      refine XS.goto X125.here hx rfl (pc0 := 141) (pc' := 42) rfl (hb hby d8_141) (by decide) (by decide) ?_
      show Steps p.tables e below (T125.setTop (mkF m 42 #[.val (.ref a1), .val .null, .val (.ref a3), .val (.int (1 : Int32)), .val (.ref t0), .val (.ref t0)] [])) _
      refine XS.iloadN X125.here hx rfl (hb hby d8_42) rfl ?_
      show Steps p.tables e below (T125.setTop (mkF m 43 #[.val (.ref a1), .val .null, .val (.ref a3), .val (.int (1 : Int32)), .val (.ref t0), .val (.ref t0)] [(.int (1 : Int32))])) _
      refine XS.aloadN X125.here hx rfl (hb hby d8_43) rfl rfl ?_
      show Steps p.tables e below (T125.setTop (mkF m 44 #[.val (.ref a1), .val .null, .val (.ref a3), .val (.int (1 : Int32)), .val (.ref t0), .val (.ref t0)] [(.ref a1), (.int (1 : Int32))])) _
      exact kt)
  have fr128 := ((fq56.other W93 (Or.inl ne_a1_b6)).other W107 (Or.inl ne_a1_b16))
  have fq129 := (fr128.other W125 (Or.inl ne_a1_b37))
  obtain ⟨T130, X130, e130, st130⟩ := getF X125 hx hZ hown (host := "") (Or.inl (own_h hw 87 rfl)) Via.refl e125 fq129 (g := (mkF m 44 #[.val (.ref a1), .val .null, .val (.ref a3), .val (.int (1 : Int32)), .val (.ref t0), .val (.ref t0)] [(.ref a1), (.int (1 : Int32))])) rfl rfl (hb hby d8_44)
  have go131 : ∀ t, Steps p.tables e below (T130.setTop (mkF m 47 #[.val (.ref a1), .val .null, .val (.ref a3), .val (.int (1 : Int32)), .val (.ref t0), .val (.ref t0)] [(.ref b6), (.int (1 : Int32))])) t → Steps p.tables e below (s₁.setTop (entryFrame m #[(.ref a1), .null, (.ref a3)] 6)) t := fun t kt => go127 t (by
      refine st130 _ ?_
      show Steps p.tables e below (T130.setTop (mkF m 47 #[.val (.ref a1), .val .null, .val (.ref a3), .val (.int (1 : Int32)), .val (.ref t0), .val (.ref t0)] [(.ref b6), (.int (1 : Int32))])) _
      exact kt)
  have fq132 := ((V93.other W107 ne_b6_b16).other W125 ne_b6_b37)
  obtain ⟨c133, Ar133, q133⟩ := id fq132
  have hc48_134 : (1 : Int32) < (3 : Int32) := (by decide)
  have go135 : ∀ t, Steps p.tables e below (T130.setTop (mkF m 53 #[.val (.ref a1), .val .null, .val (.ref a3), .val (.int (1 : Int32)), .val (.ref t0), .val (.ref t0)] [(.int (1 : Int32)), (.ref a3)])) t → Steps p.tables e below (s₁.setTop (entryFrame m #[(.ref a1), .null, (.ref a3)] 6)) t := fun t kt => go131 t (by
      refine X130.arraylength hx (by rw [e130]; exact Ar133.1) (State.isArrayOf_alike hZ.alike Ar133.2.1) (g := (mkF m 47 #[.val (.ref a1), .val .null, .val (.ref a3), .val (.int (1 : Int32)), .val (.ref t0), .val (.ref t0)] [(.ref b6), (.int (1 : Int32))])) rfl rfl (hb hby d8_47) _ ?_
      rw [own_len q133 (n := (3 : Int32)) rfl]
      show Steps p.tables e below (T130.setTop (mkF m 48 #[.val (.ref a1), .val .null, .val (.ref a3), .val (.int (1 : Int32)), .val (.ref t0), .val (.ref t0)] [(.int (3 : Int32)), (.int (1 : Int32))])) _
      refine XS.icmpNo X130.here hx rfl (hb hby d8_48) rfl (tlt hc48_134).2.1 ?_
      show Steps p.tables e below (T130.setTop (mkF m 51 #[.val (.ref a1), .val .null, .val (.ref a3), .val (.int (1 : Int32)), .val (.ref t0), .val (.ref t0)] [])) _
      refine XS.aloadN X130.here hx rfl (hb hby d8_51) rfl rfl ?_
      show Steps p.tables e below (T130.setTop (mkF m 52 #[.val (.ref a1), .val .null, .val (.ref a3), .val (.int (1 : Int32)), .val (.ref t0), .val (.ref t0)] [(.ref a3)])) _
      refine XS.iloadN X130.here hx rfl (hb hby d8_52) rfl ?_
      show Steps p.tables e below (T130.setTop (mkF m 53 #[.val (.ref a1), .val .null, .val (.ref a3), .val (.int (1 : Int32)), .val (.ref t0), .val (.ref t0)] [(.int (1 : Int32)), (.ref a3)])) _
      exact kt)
  have fr137 := ((fq66.other W93 (Or.inl ne_a3_b6)).other W107 (Or.inl ne_a3_b16))
  have fq138 := (fr137.other W125 (Or.inl ne_a3_b37))
  have fr139 := ((fq67.other W93 ne_ea_b6).other W107 ne_ea_b16)
  have fq140 := (fr139.other W125 ne_ea_b37)
  have fr141 := ((fq68.wr W93).wr W107)
  have fq142 := (fr141.wr W125)
  have fr143 := ((fq69.other W93 (Or.inl ne_a3_b6)).other W107 (Or.inl ne_a3_b16))
  have fq144 := (fr143.other W125 (Or.inl ne_a3_b37))
  obtain ⟨cq136, kq136, q136a, q136b, q136c⟩ := isOf hZ e130 fq142
  obtain ⟨_, _, ⟨T136, L136, k136, n136⟩, -, X136, ⟨Lc136, hQ136, l136, y136, z136⟩, st136⟩ := X130.interfaceBack hx (xi := own_m12) (y := own_m13) hown (mvT hZ (own_h hw 127 rfl)) (mvT hZ (own_h hw 128 rfl)) (mvT hZ (own_h hw 129 rfl)) (mvT hZ (own_h hw 130 rfl)) (mvT hZ (own_h hw 131 rfl)) (mvT hZ (own_h hw 132 rfl)) (mvT hZ (own_h hw 133 rfl)) (mvT hZ (own_h hw 82 rfl)) (by decide) (backOf (W := 0) (rm16 l Z a0 hw [] a3 (1 : Int32) ea l1 [(.ref l0), (.ref l1), (.ref l2), .null, .null, .null, .null, .null, .null, .null] 1 (3 : Int32) h125 n0 fq138 (fq140).av (by decide) (by decide) rfl fq142 fq144 (by decide)) hZ (own_h hw 134 rfl) (own_h hw 43 rfl) (by decide) (by decide)) q136a q136b q136c (g := (mkF m 53 #[.val (.ref a1), .val .null, .val (.ref a3), .val (.int (1 : Int32)), .val (.ref t0), .val (.ref t0)] [(.int (1 : Int32)), (.ref a3)])) rfl (by rw [hml]; rfl) (Steps.refl _) (argsL := [(.int (1 : Int32))]) (rest := []) (lenOf pd_12 rfl) rfl (by show 2 * 0 + _ ≤ _; exact Nat.le_of_eq rfl) (hb hby d8_53) (fun _ _ => ⟨rfl, e130, (by decide : 3 + 0 ≤ _), (by decide : 9 + 0 ≤ _)⟩)
  dsimp only [Pt.U, Pt.locs, Pt.cells, Pt.slots] at X136 l136 y136 z136 st136 hQ136
  subst y136 z136
  obtain ⟨rfl, N136q, e136⟩ := hQ136
  have N136 := Fr.app N125 N136q
  rw [← l136] at N136
  have go145 : ∀ t, Steps p.tables e below (T136.setTop (mkF m 58 #[.val (.ref a1), .val .null, .val (.ref a3), .val (.int (1 : Int32)), .val (.ref t0), .val (.ref t0)] [(.ref l1)])) t → Steps p.tables e below (s₁.setTop (entryFrame m #[(.ref a1), .null, (.ref a3)] 6)) t := fun t kt => go135 t (by
      refine st136.trans ?_
      show Steps p.tables e below (T136.setTop (mkF m 58 #[.val (.ref a1), .val .null, .val (.ref a3), .val (.int (1 : Int32)), .val (.ref t0), .val (.ref t0)] [(.ref l1)])) _
      exact kt)
  have fr147 := ((fq44.ext E37).wr W53)
  have fq148 := (((fr147.wr W93).wr W107).wr W125)
  obtain ⟨T146, X146, e146, st146⟩ := castY X136 hx hZ hown (own_h hw 148 rfl) e136 (Ins.self fq148) (g := (mkF m 58 #[.val (.ref a1), .val .null, .val (.ref a3), .val (.int (1 : Int32)), .val (.ref t0), .val (.ref t0)] [(.ref l1)])) rfl rfl (hb hby d8_58)
  have go149 : ∀ t, Steps p.tables e below (T146.setTop (mkF m 61 #[.val (.ref a1), .val .null, .val (.ref a3), .val (.int (1 : Int32)), .val (.ref t0), .val (.ref t0)] [(.ref l1)])) t → Steps p.tables e below (s₁.setTop (entryFrame m #[(.ref a1), .null, (.ref a3)] 6)) t := fun t kt => go145 t (by
      refine st146 _ ?_
      show Steps p.tables e below (T146.setTop (mkF m 61 #[.val (.ref a1), .val .null, .val (.ref a3), .val (.int (1 : Int32)), .val (.ref t0), .val (.ref t0)] [(.ref l1)])) _
      exact kt)
  have fr151 := ((FT1.ext E6).other W10 (Or.inl nl1))
  have fr152 := (((fr151.ext E16).other W31 (Or.inl nl1)).ext E37)
  have fr153 := (((fr152.other W53 (Or.inl nl1)).other W93 (Or.inl ne_l1_b6)).other W107 (Or.inl ne_l1_b16))
  have fq154 := (fr153.other W125 (Or.inl ne_l1_b37))
  obtain ⟨cq150, kq150, q150a, q150b, q150c⟩ := isOf hZ e146 fq148
  obtain ⟨_, _, ⟨T150, L150, k150, n150⟩, -, X150, ⟨Lc150, hQ150, l150, y150, z150⟩, st150⟩ := X146.virtualBack hx (y := own_m14) (z := own_m14) hown (mvT hZ (own_h hw 150 rfl)) (mvT hZ (own_h hw 151 rfl)) (notFace_of_selects (args := #[]) (mvT hZ (own_h hw 153 rfl))) (mvT hZ (own_h hw 153 rfl)) (mvT hZ (own_h hw 152 rfl)) (by decide) (backOf (W := 0) (rm20 l Z a0 hw [] l1 t1 h125 n0 fq154) hZ (own_h hw 154 rfl) (own_h hw 16 rfl) (by decide) (by decide)) q150a q150c (g := (mkF m 61 #[.val (.ref a1), .val .null, .val (.ref a3), .val (.int (1 : Int32)), .val (.ref t0), .val (.ref t0)] [(.ref l1)])) rfl (by rw [hml]; rfl) (Steps.refl _) (argsL := []) (rest := []) (lenOf pd_14 rfl) rfl (by show 2 * 0 + _ ≤ _; exact Nat.le_of_eq rfl) (hb hby d8_61) (fun _ _ => ⟨rfl, e146, (by decide : 3 + 0 ≤ _), (by decide : 9 + 0 ≤ _)⟩)
  dsimp only [Pt.U, Pt.locs, Pt.cells, Pt.slots] at X150 l150 y150 z150 st150 hQ150
  subst y150 z150
  obtain ⟨rfl, N150q, e150⟩ := hQ150
  have N150 := Fr.app N136 N150q
  rw [← l150] at N150
  have go155 : ∀ t, Steps p.tables e below (T150.setTop (mkF m 64 #[.val (.ref a1), .val .null, .val (.ref a3), .val (.int (1 : Int32)), .val (.ref t0), .val (.ref t0)] [(.ref t1)])) t → Steps p.tables e below (s₁.setTop (entryFrame m #[(.ref a1), .null, (.ref a3)] 6)) t := fun t kt => go149 t (by
      refine st150.trans ?_
      show Steps p.tables e below (T150.setTop (mkF m 64 #[.val (.ref a1), .val .null, .val (.ref a3), .val (.int (1 : Int32)), .val (.ref t0), .val (.ref t0)] [(.ref t1)])) _
      exact kt)
  have fr157 := ((fq47.ext E37).wr W53)
  have fq158 := (((fr157.wr W93).wr W107).wr W125)
  obtain ⟨T156, X156, e156, st156⟩ := castY X150 hx hZ hown (own_h hw 155 rfl) e150 (Ins.of_exa fq158 (own_h hw 156 rfl)) (g := (mkF m 64 #[.val (.ref a1), .val .null, .val (.ref a3), .val (.int (1 : Int32)), .val (.ref t0), .val (.ref t0)] [(.ref t1)])) rfl rfl (hb hby d8_64)
  have go159 : ∀ t, Steps p.tables e below (T156.setTop (mkF m 70 #[.val (.ref a1), .val .null, .val (.ref a3), .val (.int (1 : Int32)), .val (.ref t1), .val (.ref t0)] [(.ref a1)])) t → Steps p.tables e below (s₁.setTop (entryFrame m #[(.ref a1), .null, (.ref a3)] 6)) t := fun t kt => go155 t (by
      refine st156 _ ?_
      show Steps p.tables e below (T156.setTop (mkF m 67 #[.val (.ref a1), .val .null, .val (.ref a3), .val (.int (1 : Int32)), .val (.ref t0), .val (.ref t0)] [(.ref t1)])) _
      refine XS.astore X156.here hx rfl (hb hby d8_67) rfl rfl (l' := #[.val (.ref a1), .val .null, .val (.ref a3), .val (.int (1 : Int32)), .val (.ref t1), .val (.ref t0)]) rfl ?_
      show Steps p.tables e below (T156.setTop (mkF m 69 #[.val (.ref a1), .val .null, .val (.ref a3), .val (.int (1 : Int32)), .val (.ref t1), .val (.ref t0)] [])) _
      refine XS.aloadN X156.here hx rfl (hb hby d8_69) rfl rfl ?_
      show Steps p.tables e below (T156.setTop (mkF m 70 #[.val (.ref a1), .val .null, .val (.ref a3), .val (.int (1 : Int32)), .val (.ref t1), .val (.ref t0)] [(.ref a1)])) _
      exact kt)
  obtain ⟨T160, X160, e160, st160⟩ := getF X156 hx hZ hown (host := "") (Or.inl (own_h hw 87 rfl)) Via.refl e156 fq129 (g := (mkF m 70 #[.val (.ref a1), .val .null, .val (.ref a3), .val (.int (1 : Int32)), .val (.ref t1), .val (.ref t0)] [(.ref a1)])) rfl rfl (hb hby d8_70)
  have go161 : ∀ t, Steps p.tables e below (T160.setTop (mkF m 76 #[.val (.ref a1), .val .null, .val (.ref a3), .val (.int (1 : Int32)), .val (.ref t1), .val (.ref t0)] [(.int (1 : Int32)), (.ref a3), (.int (1 : Int32)), (.ref b6)])) t → Steps p.tables e below (s₁.setTop (entryFrame m #[(.ref a1), .null, (.ref a3)] 6)) t := fun t kt => go159 t (by
      refine st160 _ ?_
      show Steps p.tables e below (T160.setTop (mkF m 73 #[.val (.ref a1), .val .null, .val (.ref a3), .val (.int (1 : Int32)), .val (.ref t1), .val (.ref t0)] [(.ref b6)])) _
      refine XS.iloadN X160.here hx rfl (hb hby d8_73) rfl ?_
      show Steps p.tables e below (T160.setTop (mkF m 74 #[.val (.ref a1), .val .null, .val (.ref a3), .val (.int (1 : Int32)), .val (.ref t1), .val (.ref t0)] [(.int (1 : Int32)), (.ref b6)])) _
      refine XS.aloadN X160.here hx rfl (hb hby d8_74) rfl rfl ?_
      show Steps p.tables e below (T160.setTop (mkF m 75 #[.val (.ref a1), .val .null, .val (.ref a3), .val (.int (1 : Int32)), .val (.ref t1), .val (.ref t0)] [(.ref a3), (.int (1 : Int32)), (.ref b6)])) _
      refine XS.iloadN X160.here hx rfl (hb hby d8_75) rfl ?_
      show Steps p.tables e below (T160.setTop (mkF m 76 #[.val (.ref a1), .val .null, .val (.ref a3), .val (.int (1 : Int32)), .val (.ref t1), .val (.ref t0)] [(.int (1 : Int32)), (.ref a3), (.int (1 : Int32)), (.ref b6)])) _
      exact kt)
  obtain ⟨cq162, kq162, q162a, q162b, q162c⟩ := isOf hZ e160 fq142
  obtain ⟨_, _, ⟨T162, L162, k162, n162⟩, -, X162, ⟨Lc162, hQ162, l162, y162, z162⟩, st162⟩ := X160.interfaceBack hx (xi := own_m12) (y := own_m13) hown (mvT hZ (own_h hw 127 rfl)) (mvT hZ (own_h hw 128 rfl)) (mvT hZ (own_h hw 129 rfl)) (mvT hZ (own_h hw 130 rfl)) (mvT hZ (own_h hw 131 rfl)) (mvT hZ (own_h hw 132 rfl)) (mvT hZ (own_h hw 133 rfl)) (mvT hZ (own_h hw 82 rfl)) (by decide) (backOf (W := 2) (rm16 l Z a0 hw [] a3 (1 : Int32) ea l1 [(.ref l0), (.ref l1), (.ref l2), .null, .null, .null, .null, .null, .null, .null] 1 (3 : Int32) h125 n0 fq138 (fq140).av (by decide) (by decide) rfl fq142 fq144 (by decide)) hZ (own_h hw 134 rfl) (own_h hw 43 rfl) (by decide) (by decide)) q162a q162b q162c (g := (mkF m 76 #[.val (.ref a1), .val .null, .val (.ref a3), .val (.int (1 : Int32)), .val (.ref t1), .val (.ref t0)] [(.int (1 : Int32)), (.ref a3), (.int (1 : Int32)), (.ref b6)])) rfl (by rw [hml]; rfl) (Steps.refl _) (argsL := [(.int (1 : Int32))]) (rest := [(.int (1 : Int32)), (.ref b6)]) (lenOf pd_12 rfl) rfl (by show 2 * 0 + _ ≤ _; exact Nat.le_of_eq rfl) (hb hby d8_76) (fun _ _ => ⟨rfl, e160, (by decide : 3 + 0 ≤ _), (by decide : 9 + 0 ≤ _)⟩)
  dsimp only [Pt.U, Pt.locs, Pt.cells, Pt.slots] at X162 l162 y162 z162 st162 hQ162
  subst y162 z162
  obtain ⟨rfl, N162q, e162⟩ := hQ162
  have N162 := Fr.app N150 N162q
  rw [← l162] at N162
  have go163 : ∀ t, Steps p.tables e below (T162.setTop (mkF m 81 #[.val (.ref a1), .val .null, .val (.ref a3), .val (.int (1 : Int32)), .val (.ref t1), .val (.ref t0)] [(.ref l1), (.int (1 : Int32)), (.ref b6)])) t → Steps p.tables e below (s₁.setTop (entryFrame m #[(.ref a1), .null, (.ref a3)] 6)) t := fun t kt => go161 t (by
      refine st162.trans ?_
      show Steps p.tables e below (T162.setTop (mkF m 81 #[.val (.ref a1), .val .null, .val (.ref a3), .val (.int (1 : Int32)), .val (.ref t1), .val (.ref t0)] [(.ref l1), (.int (1 : Int32)), (.ref b6)])) _
      exact kt)
  obtain ⟨T164, X164, e164, st164⟩ := castY X162 hx hZ hown (own_h hw 148 rfl) e162 (Ins.self fq148) (g := (mkF m 81 #[.val (.ref a1), .val .null, .val (.ref a3), .val (.int (1 : Int32)), .val (.ref t1), .val (.ref t0)] [(.ref l1), (.int (1 : Int32)), (.ref b6)])) rfl rfl (hb hby d8_81)
  have go165 : ∀ t, Steps p.tables e below (T164.setTop (mkF m 84 #[.val (.ref a1), .val .null, .val (.ref a3), .val (.int (1 : Int32)), .val (.ref t1), .val (.ref t0)] [(.ref l1), (.int (1 : Int32)), (.ref b6)])) t → Steps p.tables e below (s₁.setTop (entryFrame m #[(.ref a1), .null, (.ref a3)] 6)) t := fun t kt => go163 t (by
      refine st164 _ ?_
      show Steps p.tables e below (T164.setTop (mkF m 84 #[.val (.ref a1), .val .null, .val (.ref a3), .val (.int (1 : Int32)), .val (.ref t1), .val (.ref t0)] [(.ref l1), (.int (1 : Int32)), (.ref b6)])) _
      exact kt)
  have fr167 := ((FS1.ext E6).other W10 (Or.inl nl1))
  have fr168 := (((fr167.ext E16).other W31 (Or.inl nl1)).ext E37)
  have fr169 := (((fr168.other W53 (Or.inl nl1)).other W93 (Or.inl ne_l1_b6)).other W107 (Or.inl ne_l1_b16))
  have fq170 := (fr169.other W125 (Or.inl ne_l1_b37))
  obtain ⟨cq166, kq166, q166a, q166b, q166c⟩ := isOf hZ e164 fq148
  obtain ⟨_, _, ⟨T166, L166, k166, n166⟩, -, X166, ⟨Lc166, hQ166, l166, y166, z166⟩, st166⟩ := X164.virtualBack hx (y := own_m15) (z := own_m15) hown (mvT hZ (own_h hw 157 rfl)) (mvT hZ (own_h hw 158 rfl)) (notFace_of_selects (args := #[]) (mvT hZ (own_h hw 160 rfl))) (mvT hZ (own_h hw 160 rfl)) (mvT hZ (own_h hw 159 rfl)) (by decide) (backOf (W := 2) (rm21 l Z a0 hw [] l1 s1 h125 n0 fq170) hZ (own_h hw 161 rfl) (own_h hw 16 rfl) (by decide) (by decide)) q166a q166c (g := (mkF m 84 #[.val (.ref a1), .val .null, .val (.ref a3), .val (.int (1 : Int32)), .val (.ref t1), .val (.ref t0)] [(.ref l1), (.int (1 : Int32)), (.ref b6)])) rfl (by rw [hml]; rfl) (Steps.refl _) (argsL := []) (rest := [(.int (1 : Int32)), (.ref b6)]) (lenOf pd_5 rfl) rfl (by show 2 * 0 + _ ≤ _; exact Nat.le_of_eq rfl) (hb hby d8_84) (fun _ _ => ⟨rfl, e164, (by decide : 3 + 0 ≤ _), (by decide : 9 + 0 ≤ _)⟩)
  dsimp only [Pt.U, Pt.locs, Pt.cells, Pt.slots] at X166 l166 y166 z166 st166 hQ166
  subst y166 z166
  obtain ⟨rfl, N166q, e166⟩ := hQ166
  have N166 := Fr.app N162 N166q
  rw [← l166] at N166
  have go171 : ∀ t, Steps p.tables e below (T166.setTop (mkF m 87 #[.val (.ref a1), .val .null, .val (.ref a3), .val (.int (1 : Int32)), .val (.ref t1), .val (.ref t0)] [(.int s1), (.int (1 : Int32)), (.ref b6)])) t → Steps p.tables e below (s₁.setTop (entryFrame m #[(.ref a1), .null, (.ref a3)] 6)) t := fun t kt => go165 t (by
      refine st166.trans ?_
      show Steps p.tables e below (T166.setTop (mkF m 87 #[.val (.ref a1), .val .null, .val (.ref a3), .val (.int (1 : Int32)), .val (.ref t1), .val (.ref t0)] [(.int s1), (.int (1 : Int32)), (.ref b6)])) _
      exact kt)
  obtain ⟨c172, Ar172, q172⟩ := id fq132
  obtain ⟨T172, h172, X172, e172, W172, st172⟩ := stI X166 hx hZ e166 Ar172 (j := (1 : Int32)) (own_inb q172 (n := 3) rfl (by decide) (by decide)) (g := (mkF m 87 #[.val (.ref a1), .val .null, .val (.ref a3), .val (.int (1 : Int32)), .val (.ref t1), .val (.ref t0)] [(.int s1), (.int (1 : Int32)), (.ref b6)])) rfl rfl (hb hby d8_87)
  have V172 : own_AV Z h172 b6 .int [(.int s0), (.int s1), (.int (0 : Int32))] := own_AV.set Ar172 q172 W172 (i := 1) (by decide) rfl
  obtain ⟨Ls172, X172, N172⟩ := own_loc X172 (Fr.snoc X172 N166 gb6)
  have go173 : ∀ t, Steps p.tables e below (T172.setTop (mkF m 89 #[.val (.ref a1), .val .null, .val (.ref a3), .val (.int (1 : Int32)), .val (.ref t1), .val (.ref t0)] [(.ref a1)])) t → Steps p.tables e below (s₁.setTop (entryFrame m #[(.ref a1), .null, (.ref a3)] 6)) t := fun t kt => go171 t (by
      refine st172 _ ?_
      show Steps p.tables e below (T172.setTop (mkF m 88 #[.val (.ref a1), .val .null, .val (.ref a3), .val (.int (1 : Int32)), .val (.ref t1), .val (.ref t0)] [])) _
      refine XS.aloadN X172.here hx rfl (hb hby d8_88) rfl rfl ?_
      show Steps p.tables e below (T172.setTop (mkF m 89 #[.val (.ref a1), .val .null, .val (.ref a3), .val (.int (1 : Int32)), .val (.ref t1), .val (.ref t0)] [(.ref a1)])) _
      exact kt)
  have fr174 := ((fq96.other W107 (Or.inl ne_a1_b16)).other W125 (Or.inl ne_a1_b37))
  have fq175 := (fr174.other W172 (Or.inl ne_a1_b6))
  obtain ⟨T176, X176, e176, st176⟩ := getF X172 hx hZ hown (host := "") (Or.inl (own_h hw 89 rfl)) Via.refl e172 fq175 (g := (mkF m 89 #[.val (.ref a1), .val .null, .val (.ref a3), .val (.int (1 : Int32)), .val (.ref t1), .val (.ref t0)] [(.ref a1)])) rfl rfl (hb hby d8_89)
  have go177 : ∀ t, Steps p.tables e below (T176.setTop (mkF m 95 #[.val (.ref a1), .val .null, .val (.ref a3), .val (.int (1 : Int32)), .val (.ref t1), .val (.ref t0)] [(.ref t1), (.int (1 : Int32)), (.ref b16)])) t → Steps p.tables e below (s₁.setTop (entryFrame m #[(.ref a1), .null, (.ref a3)] 6)) t := fun t kt => go173 t (by
      refine st176 _ ?_
      show Steps p.tables e below (T176.setTop (mkF m 92 #[.val (.ref a1), .val .null, .val (.ref a3), .val (.int (1 : Int32)), .val (.ref t1), .val (.ref t0)] [(.ref b16)])) _
      refine XS.iloadN X176.here hx rfl (hb hby d8_92) rfl ?_
      show Steps p.tables e below (T176.setTop (mkF m 93 #[.val (.ref a1), .val .null, .val (.ref a3), .val (.int (1 : Int32)), .val (.ref t1), .val (.ref t0)] [(.int (1 : Int32)), (.ref b16)])) _
      refine XS.aload X176.here hx rfl (hb hby d8_93) rfl rfl ?_
      show Steps p.tables e below (T176.setTop (mkF m 95 #[.val (.ref a1), .val .null, .val (.ref a3), .val (.int (1 : Int32)), .val (.ref t1), .val (.ref t0)] [(.ref t1), (.int (1 : Int32)), (.ref b16)])) _
      exact kt)
  have fr179 := ((FL1.ext E6).other W10 (Or.inl nt1))
  have fr180 := (((fr179.ext E16).other W31 (Or.inl nt1)).ext E37)
  have fr181 := (((fr180.other W53 (Or.inl nt1)).other W93 (Or.inl ne_t1_b6)).other W107 (Or.inl ne_t1_b16))
  have fq182 := ((fr181.other W125 (Or.inl ne_t1_b37)).other W172 (Or.inl ne_t1_b6))
  have fq183 := (fq158.wr W172)
  obtain ⟨cq178, kq178, q178a, q178b, q178c⟩ := isOf hZ e176 fq183
  obtain ⟨_, _, ⟨T178, L178, k178, n178⟩, -, X178, ⟨Lc178, hQ178, l178, y178, z178⟩, st178⟩ := X176.interfaceBack hx (xi := own_m16) (y := own_m17) hown (mvT hZ (own_h hw 162 rfl)) (mvT hZ (own_h hw 163 rfl)) (mvT hZ (own_h hw 164 rfl)) (mvT hZ (own_h hw 165 rfl)) (mvT hZ (own_h hw 166 rfl)) (mvT hZ (own_h hw 167 rfl)) (mvT hZ (own_h hw 168 rfl)) (mvT hZ (own_h hw 156 rfl)) (by decide) (backOf (W := 2) (rm22 l Z a0 hw [] t1 f1 h172 n0 fq182) hZ (own_h hw 169 rfl) (own_h hw 3 rfl) (by decide) (by decide)) q178a q178b q178c (g := (mkF m 95 #[.val (.ref a1), .val .null, .val (.ref a3), .val (.int (1 : Int32)), .val (.ref t1), .val (.ref t0)] [(.ref t1), (.int (1 : Int32)), (.ref b16)])) rfl (by rw [hml]; rfl) (Steps.refl _) (argsL := []) (rest := [(.int (1 : Int32)), (.ref b16)]) (lenOf pd_15 rfl) rfl (by show 2 * 0 + _ ≤ _; exact Nat.le_of_eq rfl) (hb hby d8_95) (fun _ _ => ⟨rfl, e176, (by decide : 3 + 0 ≤ _), (by decide : 9 + 0 ≤ _)⟩)
  dsimp only [Pt.U, Pt.locs, Pt.cells, Pt.slots] at X178 l178 y178 z178 st178 hQ178
  subst y178 z178
  obtain ⟨rfl, N178q, e178⟩ := hQ178
  have N178 := Fr.app N172 N178q
  rw [← l178] at N178
  have go184 : ∀ t, Steps p.tables e below (T178.setTop (mkF m 100 #[.val (.ref a1), .val .null, .val (.ref a3), .val (.int (1 : Int32)), .val (.ref t1), .val (.ref t0)] [(.long f1), (.int (1 : Int32)), (.ref b16)])) t → Steps p.tables e below (s₁.setTop (entryFrame m #[(.ref a1), .null, (.ref a3)] 6)) t := fun t kt => go177 t (by
      refine st178.trans ?_
      show Steps p.tables e below (T178.setTop (mkF m 100 #[.val (.ref a1), .val .null, .val (.ref a3), .val (.int (1 : Int32)), .val (.ref t1), .val (.ref t0)] [(.long f1), (.int (1 : Int32)), (.ref b16)])) _
      exact kt)
  have fq185 := ((V107.other W125 ne_b16_b37).other W172 (Ne.symm ne_b6_b16))
  obtain ⟨c186, Ar186, q186⟩ := id fq185
  obtain ⟨T186, h186, X186, e186, W186, st186⟩ := stJ X178 hx hZ e178 Ar186 (j := (1 : Int32)) (own_inb q186 (n := 3) rfl (by decide) (by decide)) (g := (mkF m 100 #[.val (.ref a1), .val .null, .val (.ref a3), .val (.int (1 : Int32)), .val (.ref t1), .val (.ref t0)] [(.long f1), (.int (1 : Int32)), (.ref b16)])) rfl rfl (hb hby d8_100)
  have V186 : own_AV Z h186 b16 .long [(.long f0), (.long f1), (.long (0 : Int64))] := own_AV.set Ar186 q186 W186 (i := 1) (by decide) rfl
  obtain ⟨Ls186, X186, N186⟩ := own_loc X186 (Fr.snoc X186 N178 gb16)
  have go187 : ∀ t, Steps p.tables e below (T186.setTop (mkF m 102 #[.val (.ref a1), .val .null, .val (.ref a3), .val (.int (1 : Int32)), .val (.ref t1), .val (.ref t0)] [(.ref a1)])) t → Steps p.tables e below (s₁.setTop (entryFrame m #[(.ref a1), .null, (.ref a3)] 6)) t := fun t kt => go184 t (by
      refine st186 _ ?_
      show Steps p.tables e below (T186.setTop (mkF m 101 #[.val (.ref a1), .val .null, .val (.ref a3), .val (.int (1 : Int32)), .val (.ref t1), .val (.ref t0)] [])) _
      refine XS.aloadN X186.here hx rfl (hb hby d8_101) rfl rfl ?_
      show Steps p.tables e below (T186.setTop (mkF m 102 #[.val (.ref a1), .val .null, .val (.ref a3), .val (.int (1 : Int32)), .val (.ref t1), .val (.ref t0)] [(.ref a1)])) _
      exact kt)
  have fr188 := ((fq109.other W125 (Or.inl ne_a1_b37)).other W172 (Or.inl ne_a1_b6))
  have fq189 := (fr188.other W186 (Or.inl ne_a1_b16))
  obtain ⟨T190, X190, e190, st190⟩ := getF X186 hx hZ hown (host := "") (Or.inl (own_h hw 91 rfl)) Via.refl e186 fq189 (g := (mkF m 102 #[.val (.ref a1), .val .null, .val (.ref a3), .val (.int (1 : Int32)), .val (.ref t1), .val (.ref t0)] [(.ref a1)])) rfl rfl (hb hby d8_102)
  have go191 : ∀ t, Steps p.tables e below (T190.setTop (mkF m 108 #[.val (.ref a1), .val .null, .val (.ref a3), .val (.int (1 : Int32)), .val (.ref t1), .val (.ref t0)] [(.ref t1), (.int (1 : Int32)), (.ref b37)])) t → Steps p.tables e below (s₁.setTop (entryFrame m #[(.ref a1), .null, (.ref a3)] 6)) t := fun t kt => go187 t (by
      refine st190 _ ?_
      show Steps p.tables e below (T190.setTop (mkF m 105 #[.val (.ref a1), .val .null, .val (.ref a3), .val (.int (1 : Int32)), .val (.ref t1), .val (.ref t0)] [(.ref b37)])) _
      refine XS.iloadN X190.here hx rfl (hb hby d8_105) rfl ?_
      show Steps p.tables e below (T190.setTop (mkF m 106 #[.val (.ref a1), .val .null, .val (.ref a3), .val (.int (1 : Int32)), .val (.ref t1), .val (.ref t0)] [(.int (1 : Int32)), (.ref b37)])) _
      refine XS.aload X190.here hx rfl (hb hby d8_106) rfl rfl ?_
      show Steps p.tables e below (T190.setTop (mkF m 108 #[.val (.ref a1), .val .null, .val (.ref a3), .val (.int (1 : Int32)), .val (.ref t1), .val (.ref t0)] [(.ref t1), (.int (1 : Int32)), (.ref b37)])) _
      exact kt)
  have fq193 := (fq183.wr W186)
  obtain ⟨T192, X192, e192, st192⟩ := instY X190 hx hZ hown (own_h hw 170 rfl) e190 (Ins.of_exa fq193 (own_h hw 171 rfl)) (g := (mkF m 108 #[.val (.ref a1), .val .null, .val (.ref a3), .val (.int (1 : Int32)), .val (.ref t1), .val (.ref t0)] [(.ref t1), (.int (1 : Int32)), (.ref b37)])) rfl rfl (hb hby d8_108)
  have hc111_194 : ¬ ((1 : Int32) = (0 : Int32)) := (by decide)
  have go195 : ∀ t, Steps p.tables e below (T192.setTop (mkF m 116 #[.val (.ref a1), .val .null, .val (.ref a3), .val (.int (1 : Int32)), .val (.ref t1), .val (.ref t0)] [(.ref t1), (.int (1 : Int32)), (.ref b37)])) t → Steps p.tables e below (s₁.setTop (entryFrame m #[(.ref a1), .null, (.ref a3)] 6)) t := fun t kt => go191 t (by
      refine st192 _ ?_
      show Steps p.tables e below (T192.setTop (mkF m 111 #[.val (.ref a1), .val .null, .val (.ref a3), .val (.int (1 : Int32)), .val (.ref t1), .val (.ref t0)] [(.int (1 : Int32)), (.int (1 : Int32)), (.ref b37)])) _
      refine XS.ifNo X192.here hx rfl (hb hby d8_111) rfl ((if0 _ _).trans (feq hc111_194).1) ?_
      show Steps p.tables e below (T192.setTop (mkF m 114 #[.val (.ref a1), .val .null, .val (.ref a3), .val (.int (1 : Int32)), .val (.ref t1), .val (.ref t0)] [(.int (1 : Int32)), (.ref b37)])) _
      refine XS.aload X192.here hx rfl (hb hby d8_114) rfl rfl ?_
      show Steps p.tables e below (T192.setTop (mkF m 116 #[.val (.ref a1), .val .null, .val (.ref a3), .val (.int (1 : Int32)), .val (.ref t1), .val (.ref t0)] [(.ref t1), (.int (1 : Int32)), (.ref b37)])) _
      exact kt)
  obtain ⟨T196, X196, e196, st196⟩ := castY X192 hx hZ hown (own_h hw 170 rfl) e192 (Ins.of_exa fq193 (own_h hw 171 rfl)) (g := (mkF m 116 #[.val (.ref a1), .val .null, .val (.ref a3), .val (.int (1 : Int32)), .val (.ref t1), .val (.ref t0)] [(.ref t1), (.int (1 : Int32)), (.ref b37)])) rfl rfl (hb hby d8_116)
  have go197 : ∀ t, Steps p.tables e below (T196.setTop (mkF m 123 #[.val (.ref a1), .val .null, .val (.ref a3), .val (.int (1 : Int32)), .val (.ref t1), .val (.ref t1)] [(.ref t1), (.int (1 : Int32)), (.ref b37)])) t → Steps p.tables e below (s₁.setTop (entryFrame m #[(.ref a1), .null, (.ref a3)] 6)) t := fun t kt => go195 t (by
      refine st196 _ ?_
      show Steps p.tables e below (T196.setTop (mkF m 119 #[.val (.ref a1), .val .null, .val (.ref a3), .val (.int (1 : Int32)), .val (.ref t1), .val (.ref t0)] [(.ref t1), (.int (1 : Int32)), (.ref b37)])) _
      refine XS.astore X196.here hx rfl (hb hby d8_119) rfl rfl (l' := #[.val (.ref a1), .val .null, .val (.ref a3), .val (.int (1 : Int32)), .val (.ref t1), .val (.ref t1)]) rfl ?_
      show Steps p.tables e below (T196.setTop (mkF m 121 #[.val (.ref a1), .val .null, .val (.ref a3), .val (.int (1 : Int32)), .val (.ref t1), .val (.ref t1)] [(.int (1 : Int32)), (.ref b37)])) _
      refine XS.aload X196.here hx rfl (hb hby d8_121) rfl rfl ?_
      show Steps p.tables e below (T196.setTop (mkF m 123 #[.val (.ref a1), .val .null, .val (.ref a3), .val (.int (1 : Int32)), .val (.ref t1), .val (.ref t1)] [(.ref t1), (.int (1 : Int32)), (.ref b37)])) _
      exact kt)
  have fr199 := ((FH1.ext E6).other W10 (Or.inl nt1))
  have fr200 := (((fr199.ext E16).other W31 (Or.inl nt1)).ext E37)
  have fr201 := (((fr200.other W53 (Or.inl nt1)).other W93 (Or.inl ne_t1_b6)).other W107 (Or.inl ne_t1_b16))
  have fq202 := (((fr201.other W125 (Or.inl ne_t1_b37)).other W172 (Or.inl ne_t1_b6)).other W186 (Or.inl ne_t1_b16))
  obtain ⟨cq198, kq198, q198a, q198b, q198c⟩ := isOf hZ e196 fq193
  obtain ⟨_, _, ⟨T198, L198, k198, n198⟩, -, X198, ⟨Lc198, hQ198, l198, y198, z198⟩, st198⟩ := X196.interfaceBack hx (xi := own_m18) (y := own_m19) hown (mvT hZ (own_h hw 172 rfl)) (mvT hZ (own_h hw 173 rfl)) (mvT hZ (own_h hw 174 rfl)) (mvT hZ (own_h hw 175 rfl)) (mvT hZ (own_h hw 176 rfl)) (mvT hZ (own_h hw 177 rfl)) (mvT hZ (own_h hw 178 rfl)) (mvT hZ (own_h hw 171 rfl)) (by decide) (backOf (W := 2) (rm23 l Z a0 hw [] t1 u1 h186 n0 fq202) hZ (own_h hw 179 rfl) (own_h hw 3 rfl) (by decide) (by decide)) q198a q198b q198c (g := (mkF m 123 #[.val (.ref a1), .val .null, .val (.ref a3), .val (.int (1 : Int32)), .val (.ref t1), .val (.ref t1)] [(.ref t1), (.int (1 : Int32)), (.ref b37)])) rfl (by rw [hml]; rfl) (Steps.refl _) (argsL := []) (rest := [(.int (1 : Int32)), (.ref b37)]) (lenOf pd_15 rfl) rfl (by show 2 * 0 + _ ≤ _; exact Nat.le_of_eq rfl) (hb hby d8_123) (fun _ _ => ⟨rfl, e196, (by decide : 3 + 0 ≤ _), (by decide : 9 + 0 ≤ _)⟩)
  dsimp only [Pt.U, Pt.locs, Pt.cells, Pt.slots] at X198 l198 y198 z198 st198 hQ198
  subst y198 z198
  obtain ⟨rfl, N198q, e198⟩ := hQ198
  have N198 := Fr.app N186 N198q
  rw [← l198] at N198
  have go203 : ∀ t, Steps p.tables e below (T198.setTop (mkF m 137 #[.val (.ref a1), .val .null, .val (.ref a3), .val (.int (1 : Int32)), .val (.ref t1), .val (.ref t1)] [(.long u1), (.int (1 : Int32)), (.ref b37)])) t → Steps p.tables e below (s₁.setTop (entryFrame m #[(.ref a1), .null, (.ref a3)] 6)) t := fun t kt => go197 t (by
      refine st198.trans ?_
      show Steps p.tables e below (T198.setTop (mkF m 128 #[.val (.ref a1), .val .null, .val (.ref a3), .val (.int (1 : Int32)), .val (.ref t1), .val (.ref t1)] [(.long u1), (.int (1 : Int32)), (.ref b37)])) _
      refine XS.goto X198.here hx rfl (pc0 := 128) (pc' := 137) rfl (hb hby d8_128) (by decide) (by decide) ?_
      show Steps p.tables e below (T198.setTop (mkF m 137 #[.val (.ref a1), .val .null, .val (.ref a3), .val (.int (1 : Int32)), .val (.ref t1), .val (.ref t1)] [(.long u1), (.int (1 : Int32)), (.ref b37)])) _
      exact kt)
  have fq204 := ((V125.other W172 (Ne.symm ne_b6_b37)).other W186 (Ne.symm ne_b16_b37))
  obtain ⟨c205, Ar205, q205⟩ := id fq204
  obtain ⟨T205, h205, X205, e205, W205, st205⟩ := stJ X198 hx hZ e198 Ar205 (j := (1 : Int32)) (own_inb q205 (n := 3) rfl (by decide) (by decide)) (g := (mkF m 137 #[.val (.ref a1), .val .null, .val (.ref a3), .val (.int (1 : Int32)), .val (.ref t1), .val (.ref t1)] [(.long u1), (.int (1 : Int32)), (.ref b37)])) rfl rfl (hb hby d8_137)
  have V205 : own_AV Z h205 b37 .long [(.long u0), (.long u1), (.long (0 : Int64))] := own_AV.set Ar205 q205 W205 (i := 1) (by decide) rfl
  obtain ⟨Ls205, X205, N205⟩ := own_loc X205 (Fr.snoc X205 N198 gb37)
  have go206 : ∀ t, Steps p.tables e below (T205.setTop (mkF m 141 #[.val (.ref a1), .val .null, .val (.ref a3), .val (.int ((1 : Int32) + (1 : Int32))), .val (.ref t1), .val (.ref t1)] [])) t → Steps p.tables e below (s₁.setTop (entryFrame m #[(.ref a1), .null, (.ref a3)] 6)) t := fun t kt => go203 t (by
      refine st205 _ ?_
      show Steps p.tables e below (T205.setTop (mkF m 138 #[.val (.ref a1), .val .null, .val (.ref a3), .val (.int (1 : Int32)), .val (.ref t1), .val (.ref t1)] [])) _
      refine XS.iinc X205.here hx rfl (hb hby d8_138) rfl (l' := #[.val (.ref a1), .val .null, .val (.ref a3), .val (.int ((1 : Int32) + (1 : Int32))), .val (.ref t1), .val (.ref t1)]) rfl ?_
      show Steps p.tables e below (T205.setTop (mkF m 141 #[.val (.ref a1), .val .null, .val (.ref a3), .val (.int ((1 : Int32) + (1 : Int32))), .val (.ref t1), .val (.ref t1)] [])) _
      exact kt)
  rw [show ((1 : Int32) + (1 : Int32)) = (2 : Int32) from by decide] at go206
  have go207 : ∀ t, Steps p.tables e below (T205.setTop (mkF m 44 #[.val (.ref a1), .val .null, .val (.ref a3), .val (.int (2 : Int32)), .val (.ref t1), .val (.ref t1)] [(.ref a1), (.int (2 : Int32))])) t → Steps p.tables e below (s₁.setTop (entryFrame m #[(.ref a1), .null, (.ref a3)] 6)) t := fun t kt => go206 t (by
      refine XS.goto X205.here hx rfl (pc0 := 141) (pc' := 42) rfl (hb hby d8_141) (by decide) (by decide) ?_
      show Steps p.tables e below (T205.setTop (mkF m 42 #[.val (.ref a1), .val .null, .val (.ref a3), .val (.int (2 : Int32)), .val (.ref t1), .val (.ref t1)] [])) _
      refine XS.iloadN X205.here hx rfl (hb hby d8_42) rfl ?_
      show Steps p.tables e below (T205.setTop (mkF m 43 #[.val (.ref a1), .val .null, .val (.ref a3), .val (.int (2 : Int32)), .val (.ref t1), .val (.ref t1)] [(.int (2 : Int32))])) _
      refine XS.aloadN X205.here hx rfl (hb hby d8_43) rfl rfl ?_
      show Steps p.tables e below (T205.setTop (mkF m 44 #[.val (.ref a1), .val .null, .val (.ref a3), .val (.int (2 : Int32)), .val (.ref t1), .val (.ref t1)] [(.ref a1), (.int (2 : Int32))])) _
      exact kt)
  have fr208 := ((fq129.other W172 (Or.inl ne_a1_b6)).other W186 (Or.inl ne_a1_b16))
  have fq209 := (fr208.other W205 (Or.inl ne_a1_b37))
  obtain ⟨T210, X210, e210, st210⟩ := getF X205 hx hZ hown (host := "") (Or.inl (own_h hw 87 rfl)) Via.refl e205 fq209 (g := (mkF m 44 #[.val (.ref a1), .val .null, .val (.ref a3), .val (.int (2 : Int32)), .val (.ref t1), .val (.ref t1)] [(.ref a1), (.int (2 : Int32))])) rfl rfl (hb hby d8_44)
  have go211 : ∀ t, Steps p.tables e below (T210.setTop (mkF m 47 #[.val (.ref a1), .val .null, .val (.ref a3), .val (.int (2 : Int32)), .val (.ref t1), .val (.ref t1)] [(.ref b6), (.int (2 : Int32))])) t → Steps p.tables e below (s₁.setTop (entryFrame m #[(.ref a1), .null, (.ref a3)] 6)) t := fun t kt => go207 t (by
      refine st210 _ ?_
      show Steps p.tables e below (T210.setTop (mkF m 47 #[.val (.ref a1), .val .null, .val (.ref a3), .val (.int (2 : Int32)), .val (.ref t1), .val (.ref t1)] [(.ref b6), (.int (2 : Int32))])) _
      exact kt)
  have fq212 := ((V172.other W186 ne_b6_b16).other W205 ne_b6_b37)
  obtain ⟨c213, Ar213, q213⟩ := id fq212
  have hc48_214 : (2 : Int32) < (3 : Int32) := (by decide)
  have go215 : ∀ t, Steps p.tables e below (T210.setTop (mkF m 53 #[.val (.ref a1), .val .null, .val (.ref a3), .val (.int (2 : Int32)), .val (.ref t1), .val (.ref t1)] [(.int (2 : Int32)), (.ref a3)])) t → Steps p.tables e below (s₁.setTop (entryFrame m #[(.ref a1), .null, (.ref a3)] 6)) t := fun t kt => go211 t (by
      refine X210.arraylength hx (by rw [e210]; exact Ar213.1) (State.isArrayOf_alike hZ.alike Ar213.2.1) (g := (mkF m 47 #[.val (.ref a1), .val .null, .val (.ref a3), .val (.int (2 : Int32)), .val (.ref t1), .val (.ref t1)] [(.ref b6), (.int (2 : Int32))])) rfl rfl (hb hby d8_47) _ ?_
      rw [own_len q213 (n := (3 : Int32)) rfl]
      show Steps p.tables e below (T210.setTop (mkF m 48 #[.val (.ref a1), .val .null, .val (.ref a3), .val (.int (2 : Int32)), .val (.ref t1), .val (.ref t1)] [(.int (3 : Int32)), (.int (2 : Int32))])) _
      refine XS.icmpNo X210.here hx rfl (hb hby d8_48) rfl (tlt hc48_214).2.1 ?_
      show Steps p.tables e below (T210.setTop (mkF m 51 #[.val (.ref a1), .val .null, .val (.ref a3), .val (.int (2 : Int32)), .val (.ref t1), .val (.ref t1)] [])) _
      refine XS.aloadN X210.here hx rfl (hb hby d8_51) rfl rfl ?_
      show Steps p.tables e below (T210.setTop (mkF m 52 #[.val (.ref a1), .val .null, .val (.ref a3), .val (.int (2 : Int32)), .val (.ref t1), .val (.ref t1)] [(.ref a3)])) _
      refine XS.iloadN X210.here hx rfl (hb hby d8_52) rfl ?_
      show Steps p.tables e below (T210.setTop (mkF m 53 #[.val (.ref a1), .val .null, .val (.ref a3), .val (.int (2 : Int32)), .val (.ref t1), .val (.ref t1)] [(.int (2 : Int32)), (.ref a3)])) _
      exact kt)
  have fr217 := ((fq138.other W172 (Or.inl ne_a3_b6)).other W186 (Or.inl ne_a3_b16))
  have fq218 := (fr217.other W205 (Or.inl ne_a3_b37))
  have fr219 := ((fq140.other W172 ne_ea_b6).other W186 ne_ea_b16)
  have fq220 := (fr219.other W205 ne_ea_b37)
  have fr221 := ((fq142.wr W172).wr W186)
  have fq222 := (fr221.wr W205)
  have fr223 := ((fq144.other W172 (Or.inl ne_a3_b6)).other W186 (Or.inl ne_a3_b16))
  have fq224 := (fr223.other W205 (Or.inl ne_a3_b37))
  obtain ⟨cq216, kq216, q216a, q216b, q216c⟩ := isOf hZ e210 fq222
  obtain ⟨_, _, ⟨T216, L216, k216, n216⟩, -, X216, ⟨Lc216, hQ216, l216, y216, z216⟩, st216⟩ := X210.interfaceBack hx (xi := own_m12) (y := own_m13) hown (mvT hZ (own_h hw 127 rfl)) (mvT hZ (own_h hw 128 rfl)) (mvT hZ (own_h hw 129 rfl)) (mvT hZ (own_h hw 130 rfl)) (mvT hZ (own_h hw 131 rfl)) (mvT hZ (own_h hw 132 rfl)) (mvT hZ (own_h hw 133 rfl)) (mvT hZ (own_h hw 82 rfl)) (by decide) (backOf (W := 0) (rm16 l Z a0 hw [] a3 (2 : Int32) ea l2 [(.ref l0), (.ref l1), (.ref l2), .null, .null, .null, .null, .null, .null, .null] 2 (3 : Int32) h205 n0 fq218 (fq220).av (by decide) (by decide) rfl fq222 fq224 (by decide)) hZ (own_h hw 134 rfl) (own_h hw 43 rfl) (by decide) (by decide)) q216a q216b q216c (g := (mkF m 53 #[.val (.ref a1), .val .null, .val (.ref a3), .val (.int (2 : Int32)), .val (.ref t1), .val (.ref t1)] [(.int (2 : Int32)), (.ref a3)])) rfl (by rw [hml]; rfl) (Steps.refl _) (argsL := [(.int (2 : Int32))]) (rest := []) (lenOf pd_12 rfl) rfl (by show 2 * 0 + _ ≤ _; exact Nat.le_of_eq rfl) (hb hby d8_53) (fun _ _ => ⟨rfl, e210, (by decide : 3 + 0 ≤ _), (by decide : 9 + 0 ≤ _)⟩)
  dsimp only [Pt.U, Pt.locs, Pt.cells, Pt.slots] at X216 l216 y216 z216 st216 hQ216
  subst y216 z216
  obtain ⟨rfl, N216q, e216⟩ := hQ216
  have N216 := Fr.app N205 N216q
  rw [← l216] at N216
  have go225 : ∀ t, Steps p.tables e below (T216.setTop (mkF m 58 #[.val (.ref a1), .val .null, .val (.ref a3), .val (.int (2 : Int32)), .val (.ref t1), .val (.ref t1)] [(.ref l2)])) t → Steps p.tables e below (s₁.setTop (entryFrame m #[(.ref a1), .null, (.ref a3)] 6)) t := fun t kt => go215 t (by
      refine st216.trans ?_
      show Steps p.tables e below (T216.setTop (mkF m 58 #[.val (.ref a1), .val .null, .val (.ref a3), .val (.int (2 : Int32)), .val (.ref t1), .val (.ref t1)] [(.ref l2)])) _
      exact kt)
  have fr227 := ((fq45.ext E37).wr W53)
  have fr228 := (((fr227.wr W93).wr W107).wr W125)
  have fq229 := (((fr228.wr W172).wr W186).wr W205)
  obtain ⟨T226, X226, e226, st226⟩ := castY X216 hx hZ hown (own_h hw 148 rfl) e216 (Ins.self fq229) (g := (mkF m 58 #[.val (.ref a1), .val .null, .val (.ref a3), .val (.int (2 : Int32)), .val (.ref t1), .val (.ref t1)] [(.ref l2)])) rfl rfl (hb hby d8_58)
  have go230 : ∀ t, Steps p.tables e below (T226.setTop (mkF m 61 #[.val (.ref a1), .val .null, .val (.ref a3), .val (.int (2 : Int32)), .val (.ref t1), .val (.ref t1)] [(.ref l2)])) t → Steps p.tables e below (s₁.setTop (entryFrame m #[(.ref a1), .null, (.ref a3)] 6)) t := fun t kt => go225 t (by
      refine st226 _ ?_
      show Steps p.tables e below (T226.setTop (mkF m 61 #[.val (.ref a1), .val .null, .val (.ref a3), .val (.int (2 : Int32)), .val (.ref t1), .val (.ref t1)] [(.ref l2)])) _
      exact kt)
  have fr232 := ((FT2.ext E6).other W10 (Or.inl nl2))
  have fr233 := (((fr232.ext E16).other W31 (Or.inl nl2)).ext E37)
  have fr234 := (((fr233.other W53 (Or.inl nl2)).other W93 (Or.inl ne_l2_b6)).other W107 (Or.inl ne_l2_b16))
  have fr235 := (((fr234.other W125 (Or.inl ne_l2_b37)).other W172 (Or.inl ne_l2_b6)).other W186 (Or.inl ne_l2_b16))
  have fq236 := (fr235.other W205 (Or.inl ne_l2_b37))
  obtain ⟨cq231, kq231, q231a, q231b, q231c⟩ := isOf hZ e226 fq229
  obtain ⟨_, _, ⟨T231, L231, k231, n231⟩, -, X231, ⟨Lc231, hQ231, l231, y231, z231⟩, st231⟩ := X226.virtualBack hx (y := own_m14) (z := own_m14) hown (mvT hZ (own_h hw 150 rfl)) (mvT hZ (own_h hw 151 rfl)) (notFace_of_selects (args := #[]) (mvT hZ (own_h hw 153 rfl))) (mvT hZ (own_h hw 153 rfl)) (mvT hZ (own_h hw 152 rfl)) (by decide) (backOf (W := 0) (rm20 l Z a0 hw [] l2 t2 h205 n0 fq236) hZ (own_h hw 154 rfl) (own_h hw 16 rfl) (by decide) (by decide)) q231a q231c (g := (mkF m 61 #[.val (.ref a1), .val .null, .val (.ref a3), .val (.int (2 : Int32)), .val (.ref t1), .val (.ref t1)] [(.ref l2)])) rfl (by rw [hml]; rfl) (Steps.refl _) (argsL := []) (rest := []) (lenOf pd_14 rfl) rfl (by show 2 * 0 + _ ≤ _; exact Nat.le_of_eq rfl) (hb hby d8_61) (fun _ _ => ⟨rfl, e226, (by decide : 3 + 0 ≤ _), (by decide : 9 + 0 ≤ _)⟩)
  dsimp only [Pt.U, Pt.locs, Pt.cells, Pt.slots] at X231 l231 y231 z231 st231 hQ231
  subst y231 z231
  obtain ⟨rfl, N231q, e231⟩ := hQ231
  have N231 := Fr.app N216 N231q
  rw [← l231] at N231
  have go237 : ∀ t, Steps p.tables e below (T231.setTop (mkF m 64 #[.val (.ref a1), .val .null, .val (.ref a3), .val (.int (2 : Int32)), .val (.ref t1), .val (.ref t1)] [(.ref t2)])) t → Steps p.tables e below (s₁.setTop (entryFrame m #[(.ref a1), .null, (.ref a3)] 6)) t := fun t kt => go230 t (by
      refine st231.trans ?_
      show Steps p.tables e below (T231.setTop (mkF m 64 #[.val (.ref a1), .val .null, .val (.ref a3), .val (.int (2 : Int32)), .val (.ref t1), .val (.ref t1)] [(.ref t2)])) _
      exact kt)
  have fr239 := ((fq48.ext E37).wr W53)
  have fr240 := (((fr239.wr W93).wr W107).wr W125)
  have fq241 := (((fr240.wr W172).wr W186).wr W205)
  obtain ⟨T238, X238, e238, st238⟩ := castY X231 hx hZ hown (own_h hw 155 rfl) e231 (Ins.of_exa fq241 (own_h hw 156 rfl)) (g := (mkF m 64 #[.val (.ref a1), .val .null, .val (.ref a3), .val (.int (2 : Int32)), .val (.ref t1), .val (.ref t1)] [(.ref t2)])) rfl rfl (hb hby d8_64)
  have go242 : ∀ t, Steps p.tables e below (T238.setTop (mkF m 70 #[.val (.ref a1), .val .null, .val (.ref a3), .val (.int (2 : Int32)), .val (.ref t2), .val (.ref t1)] [(.ref a1)])) t → Steps p.tables e below (s₁.setTop (entryFrame m #[(.ref a1), .null, (.ref a3)] 6)) t := fun t kt => go237 t (by
      refine st238 _ ?_
      show Steps p.tables e below (T238.setTop (mkF m 67 #[.val (.ref a1), .val .null, .val (.ref a3), .val (.int (2 : Int32)), .val (.ref t1), .val (.ref t1)] [(.ref t2)])) _
      refine XS.astore X238.here hx rfl (hb hby d8_67) rfl rfl (l' := #[.val (.ref a1), .val .null, .val (.ref a3), .val (.int (2 : Int32)), .val (.ref t2), .val (.ref t1)]) rfl ?_
      show Steps p.tables e below (T238.setTop (mkF m 69 #[.val (.ref a1), .val .null, .val (.ref a3), .val (.int (2 : Int32)), .val (.ref t2), .val (.ref t1)] [])) _
      refine XS.aloadN X238.here hx rfl (hb hby d8_69) rfl rfl ?_
      show Steps p.tables e below (T238.setTop (mkF m 70 #[.val (.ref a1), .val .null, .val (.ref a3), .val (.int (2 : Int32)), .val (.ref t2), .val (.ref t1)] [(.ref a1)])) _
      exact kt)
  obtain ⟨T243, X243, e243, st243⟩ := getF X238 hx hZ hown (host := "") (Or.inl (own_h hw 87 rfl)) Via.refl e238 fq209 (g := (mkF m 70 #[.val (.ref a1), .val .null, .val (.ref a3), .val (.int (2 : Int32)), .val (.ref t2), .val (.ref t1)] [(.ref a1)])) rfl rfl (hb hby d8_70)
  have go244 : ∀ t, Steps p.tables e below (T243.setTop (mkF m 76 #[.val (.ref a1), .val .null, .val (.ref a3), .val (.int (2 : Int32)), .val (.ref t2), .val (.ref t1)] [(.int (2 : Int32)), (.ref a3), (.int (2 : Int32)), (.ref b6)])) t → Steps p.tables e below (s₁.setTop (entryFrame m #[(.ref a1), .null, (.ref a3)] 6)) t := fun t kt => go242 t (by
      refine st243 _ ?_
      show Steps p.tables e below (T243.setTop (mkF m 73 #[.val (.ref a1), .val .null, .val (.ref a3), .val (.int (2 : Int32)), .val (.ref t2), .val (.ref t1)] [(.ref b6)])) _
      refine XS.iloadN X243.here hx rfl (hb hby d8_73) rfl ?_
      show Steps p.tables e below (T243.setTop (mkF m 74 #[.val (.ref a1), .val .null, .val (.ref a3), .val (.int (2 : Int32)), .val (.ref t2), .val (.ref t1)] [(.int (2 : Int32)), (.ref b6)])) _
      refine XS.aloadN X243.here hx rfl (hb hby d8_74) rfl rfl ?_
      show Steps p.tables e below (T243.setTop (mkF m 75 #[.val (.ref a1), .val .null, .val (.ref a3), .val (.int (2 : Int32)), .val (.ref t2), .val (.ref t1)] [(.ref a3), (.int (2 : Int32)), (.ref b6)])) _
      refine XS.iloadN X243.here hx rfl (hb hby d8_75) rfl ?_
      show Steps p.tables e below (T243.setTop (mkF m 76 #[.val (.ref a1), .val .null, .val (.ref a3), .val (.int (2 : Int32)), .val (.ref t2), .val (.ref t1)] [(.int (2 : Int32)), (.ref a3), (.int (2 : Int32)), (.ref b6)])) _
      exact kt)
  obtain ⟨cq245, kq245, q245a, q245b, q245c⟩ := isOf hZ e243 fq222
  obtain ⟨_, _, ⟨T245, L245, k245, n245⟩, -, X245, ⟨Lc245, hQ245, l245, y245, z245⟩, st245⟩ := X243.interfaceBack hx (xi := own_m12) (y := own_m13) hown (mvT hZ (own_h hw 127 rfl)) (mvT hZ (own_h hw 128 rfl)) (mvT hZ (own_h hw 129 rfl)) (mvT hZ (own_h hw 130 rfl)) (mvT hZ (own_h hw 131 rfl)) (mvT hZ (own_h hw 132 rfl)) (mvT hZ (own_h hw 133 rfl)) (mvT hZ (own_h hw 82 rfl)) (by decide) (backOf (W := 2) (rm16 l Z a0 hw [] a3 (2 : Int32) ea l2 [(.ref l0), (.ref l1), (.ref l2), .null, .null, .null, .null, .null, .null, .null] 2 (3 : Int32) h205 n0 fq218 (fq220).av (by decide) (by decide) rfl fq222 fq224 (by decide)) hZ (own_h hw 134 rfl) (own_h hw 43 rfl) (by decide) (by decide)) q245a q245b q245c (g := (mkF m 76 #[.val (.ref a1), .val .null, .val (.ref a3), .val (.int (2 : Int32)), .val (.ref t2), .val (.ref t1)] [(.int (2 : Int32)), (.ref a3), (.int (2 : Int32)), (.ref b6)])) rfl (by rw [hml]; rfl) (Steps.refl _) (argsL := [(.int (2 : Int32))]) (rest := [(.int (2 : Int32)), (.ref b6)]) (lenOf pd_12 rfl) rfl (by show 2 * 0 + _ ≤ _; exact Nat.le_of_eq rfl) (hb hby d8_76) (fun _ _ => ⟨rfl, e243, (by decide : 3 + 0 ≤ _), (by decide : 9 + 0 ≤ _)⟩)
  dsimp only [Pt.U, Pt.locs, Pt.cells, Pt.slots] at X245 l245 y245 z245 st245 hQ245
  subst y245 z245
  obtain ⟨rfl, N245q, e245⟩ := hQ245
  have N245 := Fr.app N231 N245q
  rw [← l245] at N245
  have go246 : ∀ t, Steps p.tables e below (T245.setTop (mkF m 81 #[.val (.ref a1), .val .null, .val (.ref a3), .val (.int (2 : Int32)), .val (.ref t2), .val (.ref t1)] [(.ref l2), (.int (2 : Int32)), (.ref b6)])) t → Steps p.tables e below (s₁.setTop (entryFrame m #[(.ref a1), .null, (.ref a3)] 6)) t := fun t kt => go244 t (by
      refine st245.trans ?_
      show Steps p.tables e below (T245.setTop (mkF m 81 #[.val (.ref a1), .val .null, .val (.ref a3), .val (.int (2 : Int32)), .val (.ref t2), .val (.ref t1)] [(.ref l2), (.int (2 : Int32)), (.ref b6)])) _
      exact kt)
  obtain ⟨T247, X247, e247, st247⟩ := castY X245 hx hZ hown (own_h hw 148 rfl) e245 (Ins.self fq229) (g := (mkF m 81 #[.val (.ref a1), .val .null, .val (.ref a3), .val (.int (2 : Int32)), .val (.ref t2), .val (.ref t1)] [(.ref l2), (.int (2 : Int32)), (.ref b6)])) rfl rfl (hb hby d8_81)
  have go248 : ∀ t, Steps p.tables e below (T247.setTop (mkF m 84 #[.val (.ref a1), .val .null, .val (.ref a3), .val (.int (2 : Int32)), .val (.ref t2), .val (.ref t1)] [(.ref l2), (.int (2 : Int32)), (.ref b6)])) t → Steps p.tables e below (s₁.setTop (entryFrame m #[(.ref a1), .null, (.ref a3)] 6)) t := fun t kt => go246 t (by
      refine st247 _ ?_
      show Steps p.tables e below (T247.setTop (mkF m 84 #[.val (.ref a1), .val .null, .val (.ref a3), .val (.int (2 : Int32)), .val (.ref t2), .val (.ref t1)] [(.ref l2), (.int (2 : Int32)), (.ref b6)])) _
      exact kt)
  have fr250 := ((FS2.ext E6).other W10 (Or.inl nl2))
  have fr251 := (((fr250.ext E16).other W31 (Or.inl nl2)).ext E37)
  have fr252 := (((fr251.other W53 (Or.inl nl2)).other W93 (Or.inl ne_l2_b6)).other W107 (Or.inl ne_l2_b16))
  have fr253 := (((fr252.other W125 (Or.inl ne_l2_b37)).other W172 (Or.inl ne_l2_b6)).other W186 (Or.inl ne_l2_b16))
  have fq254 := (fr253.other W205 (Or.inl ne_l2_b37))
  obtain ⟨cq249, kq249, q249a, q249b, q249c⟩ := isOf hZ e247 fq229
  obtain ⟨_, _, ⟨T249, L249, k249, n249⟩, -, X249, ⟨Lc249, hQ249, l249, y249, z249⟩, st249⟩ := X247.virtualBack hx (y := own_m15) (z := own_m15) hown (mvT hZ (own_h hw 157 rfl)) (mvT hZ (own_h hw 158 rfl)) (notFace_of_selects (args := #[]) (mvT hZ (own_h hw 160 rfl))) (mvT hZ (own_h hw 160 rfl)) (mvT hZ (own_h hw 159 rfl)) (by decide) (backOf (W := 2) (rm21 l Z a0 hw [] l2 s2 h205 n0 fq254) hZ (own_h hw 161 rfl) (own_h hw 16 rfl) (by decide) (by decide)) q249a q249c (g := (mkF m 84 #[.val (.ref a1), .val .null, .val (.ref a3), .val (.int (2 : Int32)), .val (.ref t2), .val (.ref t1)] [(.ref l2), (.int (2 : Int32)), (.ref b6)])) rfl (by rw [hml]; rfl) (Steps.refl _) (argsL := []) (rest := [(.int (2 : Int32)), (.ref b6)]) (lenOf pd_5 rfl) rfl (by show 2 * 0 + _ ≤ _; exact Nat.le_of_eq rfl) (hb hby d8_84) (fun _ _ => ⟨rfl, e247, (by decide : 3 + 0 ≤ _), (by decide : 9 + 0 ≤ _)⟩)
  dsimp only [Pt.U, Pt.locs, Pt.cells, Pt.slots] at X249 l249 y249 z249 st249 hQ249
  subst y249 z249
  obtain ⟨rfl, N249q, e249⟩ := hQ249
  have N249 := Fr.app N245 N249q
  rw [← l249] at N249
  have go255 : ∀ t, Steps p.tables e below (T249.setTop (mkF m 87 #[.val (.ref a1), .val .null, .val (.ref a3), .val (.int (2 : Int32)), .val (.ref t2), .val (.ref t1)] [(.int s2), (.int (2 : Int32)), (.ref b6)])) t → Steps p.tables e below (s₁.setTop (entryFrame m #[(.ref a1), .null, (.ref a3)] 6)) t := fun t kt => go248 t (by
      refine st249.trans ?_
      show Steps p.tables e below (T249.setTop (mkF m 87 #[.val (.ref a1), .val .null, .val (.ref a3), .val (.int (2 : Int32)), .val (.ref t2), .val (.ref t1)] [(.int s2), (.int (2 : Int32)), (.ref b6)])) _
      exact kt)
  obtain ⟨c256, Ar256, q256⟩ := id fq212
  obtain ⟨T256, h256, X256, e256, W256, st256⟩ := stI X249 hx hZ e249 Ar256 (j := (2 : Int32)) (own_inb q256 (n := 3) rfl (by decide) (by decide)) (g := (mkF m 87 #[.val (.ref a1), .val .null, .val (.ref a3), .val (.int (2 : Int32)), .val (.ref t2), .val (.ref t1)] [(.int s2), (.int (2 : Int32)), (.ref b6)])) rfl rfl (hb hby d8_87)
  have V256 : own_AV Z h256 b6 .int [(.int s0), (.int s1), (.int s2)] := own_AV.set Ar256 q256 W256 (i := 2) (by decide) rfl
  obtain ⟨Ls256, X256, N256⟩ := own_loc X256 (Fr.snoc X256 N249 gb6)
  have go257 : ∀ t, Steps p.tables e below (T256.setTop (mkF m 89 #[.val (.ref a1), .val .null, .val (.ref a3), .val (.int (2 : Int32)), .val (.ref t2), .val (.ref t1)] [(.ref a1)])) t → Steps p.tables e below (s₁.setTop (entryFrame m #[(.ref a1), .null, (.ref a3)] 6)) t := fun t kt => go255 t (by
      refine st256 _ ?_
      show Steps p.tables e below (T256.setTop (mkF m 88 #[.val (.ref a1), .val .null, .val (.ref a3), .val (.int (2 : Int32)), .val (.ref t2), .val (.ref t1)] [])) _
      refine XS.aloadN X256.here hx rfl (hb hby d8_88) rfl rfl ?_
      show Steps p.tables e below (T256.setTop (mkF m 89 #[.val (.ref a1), .val .null, .val (.ref a3), .val (.int (2 : Int32)), .val (.ref t2), .val (.ref t1)] [(.ref a1)])) _
      exact kt)
  have fr258 := ((fq175.other W186 (Or.inl ne_a1_b16)).other W205 (Or.inl ne_a1_b37))
  have fq259 := (fr258.other W256 (Or.inl ne_a1_b6))
  obtain ⟨T260, X260, e260, st260⟩ := getF X256 hx hZ hown (host := "") (Or.inl (own_h hw 89 rfl)) Via.refl e256 fq259 (g := (mkF m 89 #[.val (.ref a1), .val .null, .val (.ref a3), .val (.int (2 : Int32)), .val (.ref t2), .val (.ref t1)] [(.ref a1)])) rfl rfl (hb hby d8_89)
  have go261 : ∀ t, Steps p.tables e below (T260.setTop (mkF m 95 #[.val (.ref a1), .val .null, .val (.ref a3), .val (.int (2 : Int32)), .val (.ref t2), .val (.ref t1)] [(.ref t2), (.int (2 : Int32)), (.ref b16)])) t → Steps p.tables e below (s₁.setTop (entryFrame m #[(.ref a1), .null, (.ref a3)] 6)) t := fun t kt => go257 t (by
      refine st260 _ ?_
      show Steps p.tables e below (T260.setTop (mkF m 92 #[.val (.ref a1), .val .null, .val (.ref a3), .val (.int (2 : Int32)), .val (.ref t2), .val (.ref t1)] [(.ref b16)])) _
      refine XS.iloadN X260.here hx rfl (hb hby d8_92) rfl ?_
      show Steps p.tables e below (T260.setTop (mkF m 93 #[.val (.ref a1), .val .null, .val (.ref a3), .val (.int (2 : Int32)), .val (.ref t2), .val (.ref t1)] [(.int (2 : Int32)), (.ref b16)])) _
      refine XS.aload X260.here hx rfl (hb hby d8_93) rfl rfl ?_
      show Steps p.tables e below (T260.setTop (mkF m 95 #[.val (.ref a1), .val .null, .val (.ref a3), .val (.int (2 : Int32)), .val (.ref t2), .val (.ref t1)] [(.ref t2), (.int (2 : Int32)), (.ref b16)])) _
      exact kt)
  have fr263 := ((FL2.ext E6).other W10 (Or.inl nt2))
  have fr264 := (((fr263.ext E16).other W31 (Or.inl nt2)).ext E37)
  have fr265 := (((fr264.other W53 (Or.inl nt2)).other W93 (Or.inl ne_t2_b6)).other W107 (Or.inl ne_t2_b16))
  have fr266 := (((fr265.other W125 (Or.inl ne_t2_b37)).other W172 (Or.inl ne_t2_b6)).other W186 (Or.inl ne_t2_b16))
  have fq267 := ((fr266.other W205 (Or.inl ne_t2_b37)).other W256 (Or.inl ne_t2_b6))
  have fq268 := (fq241.wr W256)
  obtain ⟨cq262, kq262, q262a, q262b, q262c⟩ := isOf hZ e260 fq268
  obtain ⟨_, _, ⟨T262, L262, k262, n262⟩, -, X262, ⟨Lc262, hQ262, l262, y262, z262⟩, st262⟩ := X260.interfaceBack hx (xi := own_m16) (y := own_m17) hown (mvT hZ (own_h hw 162 rfl)) (mvT hZ (own_h hw 163 rfl)) (mvT hZ (own_h hw 164 rfl)) (mvT hZ (own_h hw 165 rfl)) (mvT hZ (own_h hw 166 rfl)) (mvT hZ (own_h hw 167 rfl)) (mvT hZ (own_h hw 168 rfl)) (mvT hZ (own_h hw 156 rfl)) (by decide) (backOf (W := 2) (rm22 l Z a0 hw [] t2 f2 h256 n0 fq267) hZ (own_h hw 169 rfl) (own_h hw 3 rfl) (by decide) (by decide)) q262a q262b q262c (g := (mkF m 95 #[.val (.ref a1), .val .null, .val (.ref a3), .val (.int (2 : Int32)), .val (.ref t2), .val (.ref t1)] [(.ref t2), (.int (2 : Int32)), (.ref b16)])) rfl (by rw [hml]; rfl) (Steps.refl _) (argsL := []) (rest := [(.int (2 : Int32)), (.ref b16)]) (lenOf pd_15 rfl) rfl (by show 2 * 0 + _ ≤ _; exact Nat.le_of_eq rfl) (hb hby d8_95) (fun _ _ => ⟨rfl, e260, (by decide : 3 + 0 ≤ _), (by decide : 9 + 0 ≤ _)⟩)
  dsimp only [Pt.U, Pt.locs, Pt.cells, Pt.slots] at X262 l262 y262 z262 st262 hQ262
  subst y262 z262
  obtain ⟨rfl, N262q, e262⟩ := hQ262
  have N262 := Fr.app N256 N262q
  rw [← l262] at N262
  have go269 : ∀ t, Steps p.tables e below (T262.setTop (mkF m 100 #[.val (.ref a1), .val .null, .val (.ref a3), .val (.int (2 : Int32)), .val (.ref t2), .val (.ref t1)] [(.long f2), (.int (2 : Int32)), (.ref b16)])) t → Steps p.tables e below (s₁.setTop (entryFrame m #[(.ref a1), .null, (.ref a3)] 6)) t := fun t kt => go261 t (by
      refine st262.trans ?_
      show Steps p.tables e below (T262.setTop (mkF m 100 #[.val (.ref a1), .val .null, .val (.ref a3), .val (.int (2 : Int32)), .val (.ref t2), .val (.ref t1)] [(.long f2), (.int (2 : Int32)), (.ref b16)])) _
      exact kt)
  have fq270 := ((V186.other W205 ne_b16_b37).other W256 (Ne.symm ne_b6_b16))
  obtain ⟨c271, Ar271, q271⟩ := id fq270
  obtain ⟨T271, h271, X271, e271, W271, st271⟩ := stJ X262 hx hZ e262 Ar271 (j := (2 : Int32)) (own_inb q271 (n := 3) rfl (by decide) (by decide)) (g := (mkF m 100 #[.val (.ref a1), .val .null, .val (.ref a3), .val (.int (2 : Int32)), .val (.ref t2), .val (.ref t1)] [(.long f2), (.int (2 : Int32)), (.ref b16)])) rfl rfl (hb hby d8_100)
  have V271 : own_AV Z h271 b16 .long [(.long f0), (.long f1), (.long f2)] := own_AV.set Ar271 q271 W271 (i := 2) (by decide) rfl
  obtain ⟨Ls271, X271, N271⟩ := own_loc X271 (Fr.snoc X271 N262 gb16)
  have go272 : ∀ t, Steps p.tables e below (T271.setTop (mkF m 102 #[.val (.ref a1), .val .null, .val (.ref a3), .val (.int (2 : Int32)), .val (.ref t2), .val (.ref t1)] [(.ref a1)])) t → Steps p.tables e below (s₁.setTop (entryFrame m #[(.ref a1), .null, (.ref a3)] 6)) t := fun t kt => go269 t (by
      refine st271 _ ?_
      show Steps p.tables e below (T271.setTop (mkF m 101 #[.val (.ref a1), .val .null, .val (.ref a3), .val (.int (2 : Int32)), .val (.ref t2), .val (.ref t1)] [])) _
      refine XS.aloadN X271.here hx rfl (hb hby d8_101) rfl rfl ?_
      show Steps p.tables e below (T271.setTop (mkF m 102 #[.val (.ref a1), .val .null, .val (.ref a3), .val (.int (2 : Int32)), .val (.ref t2), .val (.ref t1)] [(.ref a1)])) _
      exact kt)
  have fr273 := ((fq189.other W205 (Or.inl ne_a1_b37)).other W256 (Or.inl ne_a1_b6))
  have fq274 := (fr273.other W271 (Or.inl ne_a1_b16))
  obtain ⟨T275, X275, e275, st275⟩ := getF X271 hx hZ hown (host := "") (Or.inl (own_h hw 91 rfl)) Via.refl e271 fq274 (g := (mkF m 102 #[.val (.ref a1), .val .null, .val (.ref a3), .val (.int (2 : Int32)), .val (.ref t2), .val (.ref t1)] [(.ref a1)])) rfl rfl (hb hby d8_102)
  have go276 : ∀ t, Steps p.tables e below (T275.setTop (mkF m 108 #[.val (.ref a1), .val .null, .val (.ref a3), .val (.int (2 : Int32)), .val (.ref t2), .val (.ref t1)] [(.ref t2), (.int (2 : Int32)), (.ref b37)])) t → Steps p.tables e below (s₁.setTop (entryFrame m #[(.ref a1), .null, (.ref a3)] 6)) t := fun t kt => go272 t (by
      refine st275 _ ?_
      show Steps p.tables e below (T275.setTop (mkF m 105 #[.val (.ref a1), .val .null, .val (.ref a3), .val (.int (2 : Int32)), .val (.ref t2), .val (.ref t1)] [(.ref b37)])) _
      refine XS.iloadN X275.here hx rfl (hb hby d8_105) rfl ?_
      show Steps p.tables e below (T275.setTop (mkF m 106 #[.val (.ref a1), .val .null, .val (.ref a3), .val (.int (2 : Int32)), .val (.ref t2), .val (.ref t1)] [(.int (2 : Int32)), (.ref b37)])) _
      refine XS.aload X275.here hx rfl (hb hby d8_106) rfl rfl ?_
      show Steps p.tables e below (T275.setTop (mkF m 108 #[.val (.ref a1), .val .null, .val (.ref a3), .val (.int (2 : Int32)), .val (.ref t2), .val (.ref t1)] [(.ref t2), (.int (2 : Int32)), (.ref b37)])) _
      exact kt)
  have fq278 := (fq268.wr W271)
  obtain ⟨T277, X277, e277, st277⟩ := instY X275 hx hZ hown (own_h hw 170 rfl) e275 (Ins.of_exa fq278 (own_h hw 171 rfl)) (g := (mkF m 108 #[.val (.ref a1), .val .null, .val (.ref a3), .val (.int (2 : Int32)), .val (.ref t2), .val (.ref t1)] [(.ref t2), (.int (2 : Int32)), (.ref b37)])) rfl rfl (hb hby d8_108)
  have hc111_279 : ¬ ((1 : Int32) = (0 : Int32)) := (by decide)
  have go280 : ∀ t, Steps p.tables e below (T277.setTop (mkF m 116 #[.val (.ref a1), .val .null, .val (.ref a3), .val (.int (2 : Int32)), .val (.ref t2), .val (.ref t1)] [(.ref t2), (.int (2 : Int32)), (.ref b37)])) t → Steps p.tables e below (s₁.setTop (entryFrame m #[(.ref a1), .null, (.ref a3)] 6)) t := fun t kt => go276 t (by
      refine st277 _ ?_
      show Steps p.tables e below (T277.setTop (mkF m 111 #[.val (.ref a1), .val .null, .val (.ref a3), .val (.int (2 : Int32)), .val (.ref t2), .val (.ref t1)] [(.int (1 : Int32)), (.int (2 : Int32)), (.ref b37)])) _
      refine XS.ifNo X277.here hx rfl (hb hby d8_111) rfl ((if0 _ _).trans (feq hc111_279).1) ?_
      show Steps p.tables e below (T277.setTop (mkF m 114 #[.val (.ref a1), .val .null, .val (.ref a3), .val (.int (2 : Int32)), .val (.ref t2), .val (.ref t1)] [(.int (2 : Int32)), (.ref b37)])) _
      refine XS.aload X277.here hx rfl (hb hby d8_114) rfl rfl ?_
      show Steps p.tables e below (T277.setTop (mkF m 116 #[.val (.ref a1), .val .null, .val (.ref a3), .val (.int (2 : Int32)), .val (.ref t2), .val (.ref t1)] [(.ref t2), (.int (2 : Int32)), (.ref b37)])) _
      exact kt)
  obtain ⟨T281, X281, e281, st281⟩ := castY X277 hx hZ hown (own_h hw 170 rfl) e277 (Ins.of_exa fq278 (own_h hw 171 rfl)) (g := (mkF m 116 #[.val (.ref a1), .val .null, .val (.ref a3), .val (.int (2 : Int32)), .val (.ref t2), .val (.ref t1)] [(.ref t2), (.int (2 : Int32)), (.ref b37)])) rfl rfl (hb hby d8_116)
  have go282 : ∀ t, Steps p.tables e below (T281.setTop (mkF m 123 #[.val (.ref a1), .val .null, .val (.ref a3), .val (.int (2 : Int32)), .val (.ref t2), .val (.ref t2)] [(.ref t2), (.int (2 : Int32)), (.ref b37)])) t → Steps p.tables e below (s₁.setTop (entryFrame m #[(.ref a1), .null, (.ref a3)] 6)) t := fun t kt => go280 t (by
      refine st281 _ ?_
      show Steps p.tables e below (T281.setTop (mkF m 119 #[.val (.ref a1), .val .null, .val (.ref a3), .val (.int (2 : Int32)), .val (.ref t2), .val (.ref t1)] [(.ref t2), (.int (2 : Int32)), (.ref b37)])) _
      refine XS.astore X281.here hx rfl (hb hby d8_119) rfl rfl (l' := #[.val (.ref a1), .val .null, .val (.ref a3), .val (.int (2 : Int32)), .val (.ref t2), .val (.ref t2)]) rfl ?_
      show Steps p.tables e below (T281.setTop (mkF m 121 #[.val (.ref a1), .val .null, .val (.ref a3), .val (.int (2 : Int32)), .val (.ref t2), .val (.ref t2)] [(.int (2 : Int32)), (.ref b37)])) _
      refine XS.aload X281.here hx rfl (hb hby d8_121) rfl rfl ?_
      show Steps p.tables e below (T281.setTop (mkF m 123 #[.val (.ref a1), .val .null, .val (.ref a3), .val (.int (2 : Int32)), .val (.ref t2), .val (.ref t2)] [(.ref t2), (.int (2 : Int32)), (.ref b37)])) _
      exact kt)
  have fr284 := ((FH2.ext E6).other W10 (Or.inl nt2))
  have fr285 := (((fr284.ext E16).other W31 (Or.inl nt2)).ext E37)
  have fr286 := (((fr285.other W53 (Or.inl nt2)).other W93 (Or.inl ne_t2_b6)).other W107 (Or.inl ne_t2_b16))
  have fr287 := (((fr286.other W125 (Or.inl ne_t2_b37)).other W172 (Or.inl ne_t2_b6)).other W186 (Or.inl ne_t2_b16))
  have fq288 := (((fr287.other W205 (Or.inl ne_t2_b37)).other W256 (Or.inl ne_t2_b6)).other W271 (Or.inl ne_t2_b16))
  obtain ⟨cq283, kq283, q283a, q283b, q283c⟩ := isOf hZ e281 fq278
  obtain ⟨_, _, ⟨T283, L283, k283, n283⟩, -, X283, ⟨Lc283, hQ283, l283, y283, z283⟩, st283⟩ := X281.interfaceBack hx (xi := own_m18) (y := own_m19) hown (mvT hZ (own_h hw 172 rfl)) (mvT hZ (own_h hw 173 rfl)) (mvT hZ (own_h hw 174 rfl)) (mvT hZ (own_h hw 175 rfl)) (mvT hZ (own_h hw 176 rfl)) (mvT hZ (own_h hw 177 rfl)) (mvT hZ (own_h hw 178 rfl)) (mvT hZ (own_h hw 171 rfl)) (by decide) (backOf (W := 2) (rm23 l Z a0 hw [] t2 u2 h271 n0 fq288) hZ (own_h hw 179 rfl) (own_h hw 3 rfl) (by decide) (by decide)) q283a q283b q283c (g := (mkF m 123 #[.val (.ref a1), .val .null, .val (.ref a3), .val (.int (2 : Int32)), .val (.ref t2), .val (.ref t2)] [(.ref t2), (.int (2 : Int32)), (.ref b37)])) rfl (by rw [hml]; rfl) (Steps.refl _) (argsL := []) (rest := [(.int (2 : Int32)), (.ref b37)]) (lenOf pd_15 rfl) rfl (by show 2 * 0 + _ ≤ _; exact Nat.le_of_eq rfl) (hb hby d8_123) (fun _ _ => ⟨rfl, e281, (by decide : 3 + 0 ≤ _), (by decide : 9 + 0 ≤ _)⟩)
  dsimp only [Pt.U, Pt.locs, Pt.cells, Pt.slots] at X283 l283 y283 z283 st283 hQ283
  subst y283 z283
  obtain ⟨rfl, N283q, e283⟩ := hQ283
  have N283 := Fr.app N271 N283q
  rw [← l283] at N283
  have go289 : ∀ t, Steps p.tables e below (T283.setTop (mkF m 137 #[.val (.ref a1), .val .null, .val (.ref a3), .val (.int (2 : Int32)), .val (.ref t2), .val (.ref t2)] [(.long u2), (.int (2 : Int32)), (.ref b37)])) t → Steps p.tables e below (s₁.setTop (entryFrame m #[(.ref a1), .null, (.ref a3)] 6)) t := fun t kt => go282 t (by
      refine st283.trans ?_
      show Steps p.tables e below (T283.setTop (mkF m 128 #[.val (.ref a1), .val .null, .val (.ref a3), .val (.int (2 : Int32)), .val (.ref t2), .val (.ref t2)] [(.long u2), (.int (2 : Int32)), (.ref b37)])) _
      refine XS.goto X283.here hx rfl (pc0 := 128) (pc' := 137) rfl (hb hby d8_128) (by decide) (by decide) ?_
      show Steps p.tables e below (T283.setTop (mkF m 137 #[.val (.ref a1), .val .null, .val (.ref a3), .val (.int (2 : Int32)), .val (.ref t2), .val (.ref t2)] [(.long u2), (.int (2 : Int32)), (.ref b37)])) _
      exact kt)
  have fq290 := ((V205.other W256 (Ne.symm ne_b6_b37)).other W271 (Ne.symm ne_b16_b37))
  obtain ⟨c291, Ar291, q291⟩ := id fq290
  obtain ⟨T291, h291, X291, e291, W291, st291⟩ := stJ X283 hx hZ e283 Ar291 (j := (2 : Int32)) (own_inb q291 (n := 3) rfl (by decide) (by decide)) (g := (mkF m 137 #[.val (.ref a1), .val .null, .val (.ref a3), .val (.int (2 : Int32)), .val (.ref t2), .val (.ref t2)] [(.long u2), (.int (2 : Int32)), (.ref b37)])) rfl rfl (hb hby d8_137)
  have V291 : own_AV Z h291 b37 .long [(.long u0), (.long u1), (.long u2)] := own_AV.set Ar291 q291 W291 (i := 2) (by decide) rfl
  obtain ⟨Ls291, X291, N291⟩ := own_loc X291 (Fr.snoc X291 N283 gb37)
  have go292 : ∀ t, Steps p.tables e below (T291.setTop (mkF m 141 #[.val (.ref a1), .val .null, .val (.ref a3), .val (.int ((2 : Int32) + (1 : Int32))), .val (.ref t2), .val (.ref t2)] [])) t → Steps p.tables e below (s₁.setTop (entryFrame m #[(.ref a1), .null, (.ref a3)] 6)) t := fun t kt => go289 t (by
      refine st291 _ ?_
      show Steps p.tables e below (T291.setTop (mkF m 138 #[.val (.ref a1), .val .null, .val (.ref a3), .val (.int (2 : Int32)), .val (.ref t2), .val (.ref t2)] [])) _
      refine XS.iinc X291.here hx rfl (hb hby d8_138) rfl (l' := #[.val (.ref a1), .val .null, .val (.ref a3), .val (.int ((2 : Int32) + (1 : Int32))), .val (.ref t2), .val (.ref t2)]) rfl ?_
      show Steps p.tables e below (T291.setTop (mkF m 141 #[.val (.ref a1), .val .null, .val (.ref a3), .val (.int ((2 : Int32) + (1 : Int32))), .val (.ref t2), .val (.ref t2)] [])) _
      exact kt)
  rw [show ((2 : Int32) + (1 : Int32)) = (3 : Int32) from by decide] at go292
  have go293 : ∀ t, Steps p.tables e below (T291.setTop (mkF m 44 #[.val (.ref a1), .val .null, .val (.ref a3), .val (.int (3 : Int32)), .val (.ref t2), .val (.ref t2)] [(.ref a1), (.int (3 : Int32))])) t → Steps p.tables e below (s₁.setTop (entryFrame m #[(.ref a1), .null, (.ref a3)] 6)) t := fun t kt => go292 t (by
      refine XS.goto X291.here hx rfl (pc0 := 141) (pc' := 42) rfl (hb hby d8_141) (by decide) (by decide) ?_
      show Steps p.tables e below (T291.setTop (mkF m 42 #[.val (.ref a1), .val .null, .val (.ref a3), .val (.int (3 : Int32)), .val (.ref t2), .val (.ref t2)] [])) _
      refine XS.iloadN X291.here hx rfl (hb hby d8_42) rfl ?_
      show Steps p.tables e below (T291.setTop (mkF m 43 #[.val (.ref a1), .val .null, .val (.ref a3), .val (.int (3 : Int32)), .val (.ref t2), .val (.ref t2)] [(.int (3 : Int32))])) _
      refine XS.aloadN X291.here hx rfl (hb hby d8_43) rfl rfl ?_
      show Steps p.tables e below (T291.setTop (mkF m 44 #[.val (.ref a1), .val .null, .val (.ref a3), .val (.int (3 : Int32)), .val (.ref t2), .val (.ref t2)] [(.ref a1), (.int (3 : Int32))])) _
      exact kt)
  have fr294 := ((fq209.other W256 (Or.inl ne_a1_b6)).other W271 (Or.inl ne_a1_b16))
  have fq295 := (fr294.other W291 (Or.inl ne_a1_b37))
  obtain ⟨T296, X296, e296, st296⟩ := getF X291 hx hZ hown (host := "") (Or.inl (own_h hw 87 rfl)) Via.refl e291 fq295 (g := (mkF m 44 #[.val (.ref a1), .val .null, .val (.ref a3), .val (.int (3 : Int32)), .val (.ref t2), .val (.ref t2)] [(.ref a1), (.int (3 : Int32))])) rfl rfl (hb hby d8_44)
  have go297 : ∀ t, Steps p.tables e below (T296.setTop (mkF m 47 #[.val (.ref a1), .val .null, .val (.ref a3), .val (.int (3 : Int32)), .val (.ref t2), .val (.ref t2)] [(.ref b6), (.int (3 : Int32))])) t → Steps p.tables e below (s₁.setTop (entryFrame m #[(.ref a1), .null, (.ref a3)] 6)) t := fun t kt => go293 t (by
      refine st296 _ ?_
      show Steps p.tables e below (T296.setTop (mkF m 47 #[.val (.ref a1), .val .null, .val (.ref a3), .val (.int (3 : Int32)), .val (.ref t2), .val (.ref t2)] [(.ref b6), (.int (3 : Int32))])) _
      exact kt)
  have fq298 := ((V256.other W271 ne_b6_b16).other W291 ne_b6_b37)
  obtain ⟨c299, Ar299, q299⟩ := id fq298
  have hc48_300 : ¬ ((3 : Int32) < (3 : Int32)) := (by decide)
  have go301 : ∀ t, Steps p.tables e below (T296.setTop (mkF m 144 #[.val (.ref a1), .val .null, .val (.ref a3), .val (.int (3 : Int32)), .val (.ref t2), .val (.ref t2)] [])) t → Steps p.tables e below (s₁.setTop (entryFrame m #[(.ref a1), .null, (.ref a3)] 6)) t := fun t kt => go297 t (by
      refine X296.arraylength hx (by rw [e296]; exact Ar299.1) (State.isArrayOf_alike hZ.alike Ar299.2.1) (g := (mkF m 47 #[.val (.ref a1), .val .null, .val (.ref a3), .val (.int (3 : Int32)), .val (.ref t2), .val (.ref t2)] [(.ref b6), (.int (3 : Int32))])) rfl rfl (hb hby d8_47) _ ?_
      rw [own_len q299 (n := (3 : Int32)) rfl]
      show Steps p.tables e below (T296.setTop (mkF m 48 #[.val (.ref a1), .val .null, .val (.ref a3), .val (.int (3 : Int32)), .val (.ref t2), .val (.ref t2)] [(.int (3 : Int32)), (.int (3 : Int32))])) _
      refine XS.icmpYes X296.here hx rfl (pc0 := 48) (pc' := 144) rfl (hb hby d8_48) rfl (flt hc48_300).2.1 (by decide) (by decide) ?_
      show Steps p.tables e below (T296.setTop (mkF m 144 #[.val (.ref a1), .val .null, .val (.ref a3), .val (.int (3 : Int32)), .val (.ref t2), .val (.ref t2)] [])) _
      exact kt)
  obtain ⟨fs, hr, hrun, hended, hW, hsame⟩ := X296.leave (v := none) (fun _ => rfl)
  refine ⟨_, _, go301 _ (X296.returnOut hx Bd.returns (hb hby d8_144) hr), hrun, hended, _, _, rfl, ?_, ⟨_, rfl⟩, hW, hsame.mono (by decide) (by decide)⟩
  show own_QC _ _ _ _ _ _ _ _ T296.heap _
  rw [e296]
  have kp302 := ((Keep.refl h0 [a1]).ext E6)
  have kp303 := (kp302.wr W10 (Or.inl (List.mem_of_getElem? (i := 0) rfl)))
  have kp304 := (kp303.ext E16)
  have kp305 := (kp304.wr W31 (Or.inl (List.mem_of_getElem? (i := 0) rfl)))
  have kp306 := (kp305.ext E37)
  have kp307 := (kp306.wr W53 (Or.inl (List.mem_of_getElem? (i := 0) rfl)))
  have kp308 := (kp307.wr W93 (Or.inr sz6))
  have kp309 := (kp308.wr W107 (Or.inr sz16))
  have kp310 := (kp309.wr W125 (Or.inr sz37))
  have kp311 := (kp310.wr W172 (Or.inr sz6))
  have kp312 := (kp311.wr W186 (Or.inr sz16))
  have kp313 := (kp312.wr W205 (Or.inr sz37))
  have kp314 := (kp313.wr W256 (Or.inr sz6))
  have kp315 := (kp314.wr W271 (Or.inr sz16))
  have fr316 := ((fq52.wr W53).wr W93)
  have fr317 := (((fr316.wr W107).wr W125).wr W172)
  have fr318 := (((fr317.wr W186).wr W205).wr W256)
  have fq319 := ((fr318.wr W271).wr W291)
  have fq320 := ((fq259.other W271 (Or.inl ne_a1_b16)).other W291 (Or.inl ne_a1_b37))
  have fq321 := (fq274.other W291 (Or.inl ne_a1_b37))
  have fq322 := (V271.other W291 ne_b16_b37)
  exact ⟨b6, b16, b37, rfl, N291, (kp315.wr W291 (Or.inr sz37)), fq319, fq295, fq320, fq321, fq298, fq322, V291, sz6, sz16, sz37⟩
theorem ef_rmC1_3 (m : MethodId) (a1 : Addr) (a3 : Addr) : entryFrame m #[(.ref a1), (.ref a3)] 2 = mkF m 0 #[.val (.ref a1), .val (.ref a3)] [] := by first | (simp [entryFrame, mkF, argsToLocals, Value.category]; done) | rfl
set_option maxRecDepth 65536 in
set_option maxHeartbeats 40000000 in
theorem rmC1_3 (l : Launch) (Z : State) (a0 : Array Value) (hw : ∀ d ∈ tables_1, d.before a0 Z = true) (ws : List Jvm.Cond) (a1 a3 ea : Addr) (mc : Int32) (l0 l1 l2 t0 t1 t2 : Addr) (s0 s1 s2 : Int32) (f0 f1 f2 u0 u1 u2 : Int64) (h0 : Heap) (n0 : Nat) (Z0 : n0 ≤ h0.size) (E0 : Exa Z h0 a1 "com/example/invariant_ink/invariantink/engine/Combinations") (F_slots : Fld Z h0 a1 "com/example/invariant_ink/invariantink/engine/Combinations" "slots" "[I" .null) (F_firsts : Fld Z h0 a1 "com/example/invariant_ink/invariantink/engine/Combinations" "firsts" "[J" .null) (F_lasts : Fld Z h0 a1 "com/example/invariant_ink/invariantink/engine/Combinations" "lasts" "[J" .null) (ga : n0 ≤ a1) (LO : own_LO Z h0 a3 (.ref ea) 3 mc) (EV0 : own_AVO Z h0 ea [(.ref l0), (.ref l1), (.ref l2), .null, .null, .null, .null, .null, .null, .null]) (EL0 : Exa Z h0 l0 "com/example/invariant_ink/invariantink/lang/Local") (FS0 : Fld Z h0 l0 "com/example/invariant_ink/invariantink/lang/Local" "slot" "I" (.int s0)) (FT0 : Fld Z h0 l0 "com/example/invariant_ink/invariantink/lang/Local" "type" "Lcom/example/invariant_ink/invariantink/lang/Type;" (.ref t0)) (ET0 : Exa Z h0 t0 "com/example/invariant_ink/invariantink/lang/RangeType") (FL0 : Fld Z h0 t0 "com/example/invariant_ink/invariantink/lang/RangeType" "low" "J" (.long f0)) (FH0 : Fld Z h0 t0 "com/example/invariant_ink/invariantink/lang/RangeType" "high" "J" (.long u0)) (EL1 : Exa Z h0 l1 "com/example/invariant_ink/invariantink/lang/Local") (FS1 : Fld Z h0 l1 "com/example/invariant_ink/invariantink/lang/Local" "slot" "I" (.int s1)) (FT1 : Fld Z h0 l1 "com/example/invariant_ink/invariantink/lang/Local" "type" "Lcom/example/invariant_ink/invariantink/lang/Type;" (.ref t1)) (ET1 : Exa Z h0 t1 "com/example/invariant_ink/invariantink/lang/RangeType") (FL1 : Fld Z h0 t1 "com/example/invariant_ink/invariantink/lang/RangeType" "low" "J" (.long f1)) (FH1 : Fld Z h0 t1 "com/example/invariant_ink/invariantink/lang/RangeType" "high" "J" (.long u1)) (EL2 : Exa Z h0 l2 "com/example/invariant_ink/invariantink/lang/Local") (FS2 : Fld Z h0 l2 "com/example/invariant_ink/invariantink/lang/Local" "slot" "I" (.int s2)) (FT2 : Fld Z h0 l2 "com/example/invariant_ink/invariantink/lang/Local" "type" "Lcom/example/invariant_ink/invariantink/lang/Type;" (.ref t2)) (ET2 : Exa Z h0 t2 "com/example/invariant_ink/invariantink/lang/RangeType") (FL2 : Fld Z h0 t2 "com/example/invariant_ink/invariantink/lang/RangeType" "low" "J" (.long f2)) (FH2 : Fld Z h0 t2 "com/example/invariant_ink/invariantink/lang/RangeType" "high" "J" (.long u2)) :
    MetFree l (⟨"com/example/invariant_ink/invariantink/engine/Combinations", "<init>", "(Ljava/util/List;)V"⟩ : MethodName) (head1 (Jvm.Cond.code (⟨"com/example/invariant_ink/invariantink/engine/Combinations", "<init>", "(Ljava/util/List;)V"⟩ : MethodName) prog_19_method_2_code 2 none :: ws) ({ frames := 4, cells := 3, slots := 9, locals := 59 } : Room)) (fun a U => a = #[(.ref a1), (.ref a3)] ∧ Z.Warmed39 U.vm ∧ U.heap = h0) (fun _ _ _ _ _ => True) (fun _ U o U' => ∃ v L, o = .returned v ∧ own_QC Z a1 [(.int s0), (.int s1), (.int s2)] [(.long f0), (.long f1), (.long f2)] [(.long u0), (.long u1), (.long u2)] h0 n0 v U'.heap L ∧ FrameEnd U o U' L ({ frames := 4, cells := 3, slots := 9, locals := 59 } : Room).cells ({ frames := 4, cells := 3, slots := 9, locals := 59 } : Room).slots) := by
  refine MetFree.of_bodySF (plainFor_of_name pn_7) hisR ?_
  intro p e s m args below meth c s₁ Bd hml0 hP hK
  obtain ⟨rfl, hZ, hh⟩ := hP
  have hx := Bd.exec
  have hby := Bd.bytes
  have hml : c.maxLocals = 2 := hml0
  have hown : s.vm.findClass "com/example/invariant_ink/invariantink/engine/Combinations" = some m.cls := findClass_of_methodNamed Bd.named
  have hnm := (name_of_methodNamed Bd.named Bd.method).1
  have X0 : Stand p l e ({ frames := 4, cells := 3, slots := 9, locals := 59 } : Room) s m #[(.ref a1), (.ref a3)] below meth c s₁ [] 0 0 := Stand.of_body Bd
  have e0 : s₁.heap = h0 := by rw [← hh, Bd.state]; rfl
  have N0 := Fr.nil n0
  have go0 : ∀ t, Steps p.tables e below (s₁.setTop (mkF m 0 #[.val (.ref a1), .val (.ref a3)] [])) t → Steps p.tables e below (s₁.setTop (entryFrame m #[(.ref a1), (.ref a3)] 2)) t := fun t k => castTop (ef_rmC1_3 m a1 a3) k
  have go1 : ∀ t, Steps p.tables e below (s₁.setTop (mkF m 3 #[.val (.ref a1), .val (.ref a3)] [(.ref a3), .null, (.ref a1)])) t → Steps p.tables e below (s₁.setTop (entryFrame m #[(.ref a1), (.ref a3)] 2)) t := fun t kt => go0 t (by
      refine XS.aloadN X0.here hx rfl (hb hby d7_0) rfl rfl ?_
      show Steps p.tables e below (s₁.setTop (mkF m 1 #[.val (.ref a1), .val (.ref a3)] [(.ref a1)])) _
      refine XS.aconstNull X0.here hx rfl (hb hby d7_1) ?_
      show Steps p.tables e below (s₁.setTop (mkF m 2 #[.val (.ref a1), .val (.ref a3)] [.null, (.ref a1)])) _
      refine XS.aloadN X0.here hx rfl (hb hby d7_2) rfl rfl ?_
      show Steps p.tables e below (s₁.setTop (mkF m 3 #[.val (.ref a1), .val (.ref a3)] [(.ref a3), .null, (.ref a1)])) _
      exact kt)
  obtain ⟨_, _, ⟨T2, L2, k2, n2⟩, -, X2, ⟨Lc2, hQ2, l2, y2, z2⟩, st2⟩ := X0.specialBack hx (y := own_m11) rfl hown (mvT hZ (own_h hw 71 rfl)) (mvT hZ (own_h hw 72 rfl)) (mvT hZ (own_h hw 73 rfl)) (by decide) (backOf (W := 0) (rmC2_3 l Z a0 hw [] a1 a3 ea mc l0 l1 l2 t0 t1 t2 s0 s1 s2 f0 f1 f2 u0 u1 u2 h0 n0 Z0 E0 F_slots F_firsts F_lasts ga LO EV0 EL0 FS0 FT0 ET0 FL0 FH0 EL1 FS1 FT1 ET1 FL1 FH1 EL2 FS2 FT2 ET2 FL2 FH2) hZ (own_h hw 73 rfl) (own_h hw 67 rfl) (by decide) (by decide)) (g := (mkF m 3 #[.val (.ref a1), .val (.ref a3)] [(.ref a3), .null, (.ref a1)])) rfl (by rw [hml]; rfl) (Steps.refl _) (a := a1) (argsL := [.null, (.ref a3)]) (rest := []) (lenOf pd_4 rfl) rfl (by show 2 * 0 + _ ≤ _; exact Nat.le_of_eq rfl) (hb hby d7_3) (fun _ _ => ⟨rfl, e0, (by decide : 0 + 3 ≤ _), (by decide : 0 + 9 ≤ _)⟩)
  dsimp only [Pt.U, Pt.locs, Pt.cells, Pt.slots] at X2 l2 y2 z2 st2 hQ2
  subst y2 z2
  obtain ⟨x2, y2, z2, rfl, N2q, r2⟩ := hQ2
  have N2 := Fr.app N0 N2q
  rw [← l2] at N2
  have go3 : ∀ t, Steps p.tables e below (T2.setTop (mkF m 6 #[.val (.ref a1), .val (.ref a3)] [])) t → Steps p.tables e below (s₁.setTop (entryFrame m #[(.ref a1), (.ref a3)] 2)) t := fun t kt => go1 t (by
      refine st2.trans ?_
      show Steps p.tables e below (T2.setTop (mkF m 6 #[.val (.ref a1), .val (.ref a3)] [])) _
      exact kt)
  obtain ⟨fs, hr, hrun, hended, hW, hsame⟩ := X2.leave (v := none) (fun _ => rfl)
  refine ⟨_, _, go3 _ (X2.returnOut hx Bd.returns (hb hby d7_6) hr), hrun, hended, _, _, rfl, ?_, ⟨_, rfl⟩, hW, hsame.mono (by decide) (by decide)⟩
  exact ⟨x2, y2, z2, rfl, N2, r2⟩
theorem d10_0 : decode prog_19_method_6_code 0 = .ok (.aload_n 0, 1) := by decide +kernel
theorem d10_1 : decode prog_19_method_6_code 1 = .ok (.getfield 13, 3) := by decide +kernel
theorem d10_4 : decode prog_19_method_6_code 4 = .ok (.arraylength, 1) := by decide +kernel
theorem d10_5 : decode prog_19_method_6_code 5 = .ok (.newarray .long, 2) := by decide +kernel
theorem d10_7 : decode prog_19_method_6_code 7 = .ok (.astore_n 2, 1) := by decide +kernel
theorem d10_8 : decode prog_19_method_6_code 8 = .ok (.iconst 0, 1) := by decide +kernel
theorem d10_9 : decode prog_19_method_6_code 9 = .ok (.istore_n 3, 1) := by decide +kernel
theorem d10_10 : decode prog_19_method_6_code 10 = .ok (.iload_n 3, 1) := by decide +kernel
theorem d10_11 : decode prog_19_method_6_code 11 = .ok (.aload_n 0, 1) := by decide +kernel
theorem d10_12 : decode prog_19_method_6_code 12 = .ok (.getfield 13, 3) := by decide +kernel
theorem d10_15 : decode prog_19_method_6_code 15 = .ok (.arraylength, 1) := by decide +kernel
theorem d10_16 : decode prog_19_method_6_code 16 = .ok (.if_icmp .ge 20, 3) := by decide +kernel
theorem d10_36 : decode prog_19_method_6_code 36 = .ok (.aload_n 2, 1) := by decide +kernel
theorem d10_37 : decode prog_19_method_6_code 37 = .ok (.areturn, 1) := by decide +kernel
theorem pn_10 : plainName "com/example/invariant_ink/invariantink/engine/Combinations" = true := by first | (simp [plainName, overriddenIn]; done) | decide +kernel
theorem ef_rmV0 (m : MethodId) (a1 : Addr) (a2 : Addr) : entryFrame m #[(.ref a1), (.ref a2)] 4 = mkF m 0 #[.val (.ref a1), .val (.ref a2), .unset, .unset] [] := by first | (simp [entryFrame, mkF, argsToLocals, Value.category]; done) | rfl
set_option maxRecDepth 65536 in
set_option maxHeartbeats 40000000 in
theorem rmV0 (l : Launch) (Z : State) (a0 : Array Value) (hw : ∀ d ∈ tables_1, d.before a0 Z = true) (ws : List Jvm.Cond) (a1 a2 x0 : Addr) (q0 q1 q2 q3 : Int64) (h0 : Heap) (n0 : Nat) (Z0 : n0 ≤ h0.size) (FS : Fld Z h0 a1 "com/example/invariant_ink/invariantink/engine/Combinations" "slots" "[I" (.ref x0)) (VX : own_AV Z h0 x0 .int []) (VL : own_AV Z h0 a2 .long [(.long q0), (.long q1), (.long q2), (.long q3)]) :
    MetFree l (⟨"com/example/invariant_ink/invariantink/engine/Combinations", "values", "([J)[J"⟩ : MethodName) (head1 (Jvm.Cond.code (⟨"com/example/invariant_ink/invariantink/engine/Combinations", "values", "([J)[J"⟩ : MethodName) prog_19_method_6_code 4 (some (.array .long)) :: ws) ({ frames := 0, cells := 1, slots := 0, locals := 0 } : Room)) (fun a U => a = #[(.ref a1), (.ref a2)] ∧ Z.Warmed39 U.vm ∧ U.heap = h0) (fun _ _ _ _ _ => True) (fun _ U o U' => ∃ v L, o = .returned v ∧ own_QV Z [] h0 n0 v U'.heap L ∧ FrameEnd U o U' L ({ frames := 0, cells := 1, slots := 0, locals := 0 } : Room).cells ({ frames := 0, cells := 1, slots := 0, locals := 0 } : Room).slots) := by
  refine MetFree.of_bodySF (plainFor_of_name pn_10) hisR ?_
  intro p e s m args below meth c s₁ Bd hml0 hP hK
  obtain ⟨rfl, hZ, hh⟩ := hP
  have hx := Bd.exec
  have hby := Bd.bytes
  have hml : c.maxLocals = 4 := hml0
  have hown : s.vm.findClass "com/example/invariant_ink/invariantink/engine/Combinations" = some m.cls := findClass_of_methodNamed Bd.named
  have hnm := (name_of_methodNamed Bd.named Bd.method).1
  have X0 : Stand p l e ({ frames := 0, cells := 1, slots := 0, locals := 0 } : Room) s m #[(.ref a1), (.ref a2)] below meth c s₁ [] 0 0 := Stand.of_body Bd
  have e0 : s₁.heap = h0 := by rw [← hh, Bd.state]; rfl
  have N0 := Fr.nil n0
  have go0 : ∀ t, Steps p.tables e below (s₁.setTop (mkF m 0 #[.val (.ref a1), .val (.ref a2), .unset, .unset] [])) t → Steps p.tables e below (s₁.setTop (entryFrame m #[(.ref a1), (.ref a2)] 4)) t := fun t k => castTop (ef_rmV0 m a1 a2) k
  have go1 : ∀ t, Steps p.tables e below (s₁.setTop (mkF m 1 #[.val (.ref a1), .val (.ref a2), .unset, .unset] [(.ref a1)])) t → Steps p.tables e below (s₁.setTop (entryFrame m #[(.ref a1), (.ref a2)] 4)) t := fun t kt => go0 t (by
      refine XS.aloadN X0.here hx rfl (hb hby d10_0) rfl rfl ?_
      show Steps p.tables e below (s₁.setTop (mkF m 1 #[.val (.ref a1), .val (.ref a2), .unset, .unset] [(.ref a1)])) _
      exact kt)
  obtain ⟨T2, X2, e2, st2⟩ := getF X0 hx hZ hown (host := "") (Or.inl (own_h hw 87 rfl)) Via.refl e0 FS (g := (mkF m 1 #[.val (.ref a1), .val (.ref a2), .unset, .unset] [(.ref a1)])) rfl rfl (hb hby d10_1)
  have go3 : ∀ t, Steps p.tables e below (T2.setTop (mkF m 4 #[.val (.ref a1), .val (.ref a2), .unset, .unset] [(.ref x0)])) t → Steps p.tables e below (s₁.setTop (entryFrame m #[(.ref a1), (.ref a2)] 4)) t := fun t kt => go1 t (by
      refine st2 _ ?_
      show Steps p.tables e below (T2.setTop (mkF m 4 #[.val (.ref a1), .val (.ref a2), .unset, .unset] [(.ref x0)])) _
      exact kt)
  obtain ⟨c4, Ar4, q4⟩ := id VX
  have go5 : ∀ t, Steps p.tables e below (T2.setTop (mkF m 5 #[.val (.ref a1), .val (.ref a2), .unset, .unset] [(.int (0 : Int32))])) t → Steps p.tables e below (s₁.setTop (entryFrame m #[(.ref a1), (.ref a2)] 4)) t := fun t kt => go3 t (by
      refine X2.arraylength hx (by rw [e2]; exact Ar4.1) (State.isArrayOf_alike hZ.alike Ar4.2.1) (g := (mkF m 4 #[.val (.ref a1), .val (.ref a2), .unset, .unset] [(.ref x0)])) rfl rfl (hb hby d10_4) _ ?_
      rw [own_len q4 (n := (0 : Int32)) rfl]
      show Steps p.tables e below (T2.setTop (mkF m 5 #[.val (.ref a1), .val (.ref a2), .unset, .unset] [(.int (0 : Int32))])) _
      exact kt)
  obtain ⟨T6, h6, k6, X6, e6, E6, A6, st6⟩ := newP X2 hx hZ (own_h hw 0 rfl) e2 (g := (mkF m 5 #[.val (.ref a1), .val (.ref a2), .unset, .unset] [(.int (0 : Int32))])) rfl (hb hby d10_5) rfl (by decide) (cap := 0) (by decide) (by decide) (by decide) (by decide)
  obtain ⟨b6, g6⟩ : ∃ z, z = h0.size := ⟨_, rfl⟩
  rw [← g6] at A6 st6
  have ks6 : h0.size ≤ h0.size := Nat.le_refl _
  have sz6 : h0.size ≤ b6 := Nat.le_trans ks6 (Nat.le_of_eq g6.symm)
  have ne_a1_b6 : a1 ≠ b6 := Nat.ne_of_lt (Nat.lt_of_lt_of_le FS.lt (Nat.le_of_eq g6.symm))
  have ne_a2_b6 : a2 ≠ b6 := Nat.ne_of_lt (Nat.lt_of_lt_of_le VL.lt (Nat.le_of_eq g6.symm))
  have ne_x0_b6 : x0 ≠ b6 := Nat.ne_of_lt (Nat.lt_of_lt_of_le VX.lt (Nat.le_of_eq g6.symm))
  have V6 : own_AV Z h6 b6 .long [] := own_AV.new A6 (i := 0) (by decide)
  have gb6 : n0 ≤ b6 := Nat.le_trans Z0 (Nat.le_of_eq g6.symm)
  have go7 : ∀ t, Steps p.tables e below (T6.setTop (mkF m 12 #[.val (.ref a1), .val (.ref a2), .val (.ref b6), .val (.int (0 : Int32))] [(.ref a1), (.int (0 : Int32))])) t → Steps p.tables e below (s₁.setTop (entryFrame m #[(.ref a1), (.ref a2)] 4)) t := fun t kt => go5 t (by
      refine st6 _ ?_
      show Steps p.tables e below (T6.setTop (mkF m 7 #[.val (.ref a1), .val (.ref a2), .unset, .unset] [(.ref b6)])) _
      refine XS.astoreN X6.here hx rfl (hb hby d10_7) rfl rfl (l' := #[.val (.ref a1), .val (.ref a2), .val (.ref b6), .unset]) rfl ?_
      show Steps p.tables e below (T6.setTop (mkF m 8 #[.val (.ref a1), .val (.ref a2), .val (.ref b6), .unset] [])) _
      refine XS.iconst X6.here hx rfl (hb hby d10_8) ?_
      show Steps p.tables e below (T6.setTop (mkF m 9 #[.val (.ref a1), .val (.ref a2), .val (.ref b6), .unset] [(.int (0 : Int32))])) _
      refine XS.istoreN X6.here hx rfl (hb hby d10_9) rfl (l' := #[.val (.ref a1), .val (.ref a2), .val (.ref b6), .val (.int (0 : Int32))]) rfl ?_
      show Steps p.tables e below (T6.setTop (mkF m 10 #[.val (.ref a1), .val (.ref a2), .val (.ref b6), .val (.int (0 : Int32))] [])) _
      refine XS.iloadN X6.here hx rfl (hb hby d10_10) rfl ?_
      show Steps p.tables e below (T6.setTop (mkF m 11 #[.val (.ref a1), .val (.ref a2), .val (.ref b6), .val (.int (0 : Int32))] [(.int (0 : Int32))])) _
      refine XS.aloadN X6.here hx rfl (hb hby d10_11) rfl rfl ?_
      show Steps p.tables e below (T6.setTop (mkF m 12 #[.val (.ref a1), .val (.ref a2), .val (.ref b6), .val (.int (0 : Int32))] [(.ref a1), (.int (0 : Int32))])) _
      exact kt)
  have fq8 := (FS.ext E6)
  obtain ⟨T9, X9, e9, st9⟩ := getF X6 hx hZ hown (host := "") (Or.inl (own_h hw 87 rfl)) Via.refl e6 fq8 (g := (mkF m 12 #[.val (.ref a1), .val (.ref a2), .val (.ref b6), .val (.int (0 : Int32))] [(.ref a1), (.int (0 : Int32))])) rfl rfl (hb hby d10_12)
  have go10 : ∀ t, Steps p.tables e below (T9.setTop (mkF m 15 #[.val (.ref a1), .val (.ref a2), .val (.ref b6), .val (.int (0 : Int32))] [(.ref x0), (.int (0 : Int32))])) t → Steps p.tables e below (s₁.setTop (entryFrame m #[(.ref a1), (.ref a2)] 4)) t := fun t kt => go7 t (by
      refine st9 _ ?_
      show Steps p.tables e below (T9.setTop (mkF m 15 #[.val (.ref a1), .val (.ref a2), .val (.ref b6), .val (.int (0 : Int32))] [(.ref x0), (.int (0 : Int32))])) _
      exact kt)
  have fq11 := (VX.ext E6)
  obtain ⟨c12, Ar12, q12⟩ := id fq11
  have hc16_13 : ¬ ((0 : Int32) < (0 : Int32)) := (by decide)
  have go14 : ∀ t, Steps p.tables e below (T9.setTop (mkF m 37 #[.val (.ref a1), .val (.ref a2), .val (.ref b6), .val (.int (0 : Int32))] [(.ref b6)])) t → Steps p.tables e below (s₁.setTop (entryFrame m #[(.ref a1), (.ref a2)] 4)) t := fun t kt => go10 t (by
      refine X9.arraylength hx (by rw [e9]; exact Ar12.1) (State.isArrayOf_alike hZ.alike Ar12.2.1) (g := (mkF m 15 #[.val (.ref a1), .val (.ref a2), .val (.ref b6), .val (.int (0 : Int32))] [(.ref x0), (.int (0 : Int32))])) rfl rfl (hb hby d10_15) _ ?_
      rw [own_len q12 (n := (0 : Int32)) rfl]
      show Steps p.tables e below (T9.setTop (mkF m 16 #[.val (.ref a1), .val (.ref a2), .val (.ref b6), .val (.int (0 : Int32))] [(.int (0 : Int32)), (.int (0 : Int32))])) _
      refine XS.icmpYes X9.here hx rfl (pc0 := 16) (pc' := 36) rfl (hb hby d10_16) rfl (flt hc16_13).2.1 (by decide) (by decide) ?_
      show Steps p.tables e below (T9.setTop (mkF m 36 #[.val (.ref a1), .val (.ref a2), .val (.ref b6), .val (.int (0 : Int32))] [])) _
      refine XS.aloadN X9.here hx rfl (hb hby d10_36) rfl rfl ?_
      show Steps p.tables e below (T9.setTop (mkF m 37 #[.val (.ref a1), .val (.ref a2), .val (.ref b6), .val (.int (0 : Int32))] [(.ref b6)])) _
      exact kt)
  obtain ⟨fs, hr, hrun, hended, hW, hsame⟩ := X9.leave (v := some (.ref b6)) (fun h => by rw [Bd.returns] at h; cases h)
  refine ⟨_, _, go14 _ (X9.areturnOut hx rfl Bd.returns rfl (hb hby d10_37) hr), hrun, hended, _, _, rfl, ?_, ⟨_, rfl⟩, hW, hsame.mono (by decide) (by decide)⟩
  show own_QV _ _ _ _ _ T9.heap _
  rw [e9]
  exact ⟨b6, rfl, N0, ((Keep.refl h0 []).ext E6), V6, sz6⟩
theorem d10_19 : decode prog_19_method_6_code 19 = .ok (.aload_n 2, 1) := by decide +kernel
theorem d10_20 : decode prog_19_method_6_code 20 = .ok (.iload_n 3, 1) := by decide +kernel
theorem d10_21 : decode prog_19_method_6_code 21 = .ok (.aload_n 1, 1) := by decide +kernel
theorem d10_22 : decode prog_19_method_6_code 22 = .ok (.aload_n 0, 1) := by decide +kernel
theorem d10_23 : decode prog_19_method_6_code 23 = .ok (.getfield 13, 3) := by decide +kernel
theorem d10_26 : decode prog_19_method_6_code 26 = .ok (.iload_n 3, 1) := by decide +kernel
theorem d10_27 : decode prog_19_method_6_code 27 = .ok (.iaload, 1) := by decide +kernel
theorem d10_28 : decode prog_19_method_6_code 28 = .ok (.laload, 1) := by decide +kernel
theorem d10_29 : decode prog_19_method_6_code 29 = .ok (.lastore, 1) := by decide +kernel
theorem d10_30 : decode prog_19_method_6_code 30 = .ok (.iinc 3 1, 3) := by decide +kernel
theorem d10_33 : decode prog_19_method_6_code 33 = .ok (.goto (-23), 3) := by decide +kernel
theorem ef_rmV1 (m : MethodId) (a1 : Addr) (a2 : Addr) : entryFrame m #[(.ref a1), (.ref a2)] 4 = mkF m 0 #[.val (.ref a1), .val (.ref a2), .unset, .unset] [] := by first | (simp [entryFrame, mkF, argsToLocals, Value.category]; done) | rfl
set_option maxRecDepth 65536 in
set_option maxHeartbeats 40000000 in
theorem rmV1 (l : Launch) (Z : State) (a0 : Array Value) (hw : ∀ d ∈ tables_1, d.before a0 Z = true) (ws : List Jvm.Cond) (a1 a2 x0 : Addr) (s0 : Int32) (q0 q1 q2 q3 : Int64) (h0 : Heap) (n0 : Nat) (Z0 : n0 ≤ h0.size) (FS : Fld Z h0 a1 "com/example/invariant_ink/invariantink/engine/Combinations" "slots" "[I" (.ref x0)) (VX : own_AV Z h0 x0 .int [(.int s0)]) (VL : own_AV Z h0 a2 .long [(.long q0), (.long q1), (.long q2), (.long q3)]) (hs0 : ¬ s0 < 0) (k0 : s0.toNatClampNeg < 4) (r0 : ([(.long q0), (.long q1), (.long q2), (.long q3)] : List Value)[s0.toNatClampNeg]? = some (.long (own_at s0 q0 q1 q2 q3))) :
    MetFree l (⟨"com/example/invariant_ink/invariantink/engine/Combinations", "values", "([J)[J"⟩ : MethodName) (head1 (Jvm.Cond.code (⟨"com/example/invariant_ink/invariantink/engine/Combinations", "values", "([J)[J"⟩ : MethodName) prog_19_method_6_code 4 (some (.array .long)) :: ws) ({ frames := 0, cells := 1, slots := 1, locals := 0 } : Room)) (fun a U => a = #[(.ref a1), (.ref a2)] ∧ Z.Warmed39 U.vm ∧ U.heap = h0) (fun _ _ _ _ _ => True) (fun _ U o U' => ∃ v L, o = .returned v ∧ own_QV Z [(.long (own_at s0 q0 q1 q2 q3))] h0 n0 v U'.heap L ∧ FrameEnd U o U' L ({ frames := 0, cells := 1, slots := 1, locals := 0 } : Room).cells ({ frames := 0, cells := 1, slots := 1, locals := 0 } : Room).slots) := by
  refine MetFree.of_bodySF (plainFor_of_name pn_10) hisR ?_
  intro p e s m args below meth c s₁ Bd hml0 hP hK
  obtain ⟨rfl, hZ, hh⟩ := hP
  have hx := Bd.exec
  have hby := Bd.bytes
  have hml : c.maxLocals = 4 := hml0
  have hown : s.vm.findClass "com/example/invariant_ink/invariantink/engine/Combinations" = some m.cls := findClass_of_methodNamed Bd.named
  have hnm := (name_of_methodNamed Bd.named Bd.method).1
  have X0 : Stand p l e ({ frames := 0, cells := 1, slots := 1, locals := 0 } : Room) s m #[(.ref a1), (.ref a2)] below meth c s₁ [] 0 0 := Stand.of_body Bd
  have e0 : s₁.heap = h0 := by rw [← hh, Bd.state]; rfl
  have N0 := Fr.nil n0
  have go0 : ∀ t, Steps p.tables e below (s₁.setTop (mkF m 0 #[.val (.ref a1), .val (.ref a2), .unset, .unset] [])) t → Steps p.tables e below (s₁.setTop (entryFrame m #[(.ref a1), (.ref a2)] 4)) t := fun t k => castTop (ef_rmV1 m a1 a2) k
  have go1 : ∀ t, Steps p.tables e below (s₁.setTop (mkF m 1 #[.val (.ref a1), .val (.ref a2), .unset, .unset] [(.ref a1)])) t → Steps p.tables e below (s₁.setTop (entryFrame m #[(.ref a1), (.ref a2)] 4)) t := fun t kt => go0 t (by
      refine XS.aloadN X0.here hx rfl (hb hby d10_0) rfl rfl ?_
      show Steps p.tables e below (s₁.setTop (mkF m 1 #[.val (.ref a1), .val (.ref a2), .unset, .unset] [(.ref a1)])) _
      exact kt)
  obtain ⟨T2, X2, e2, st2⟩ := getF X0 hx hZ hown (host := "") (Or.inl (own_h hw 87 rfl)) Via.refl e0 FS (g := (mkF m 1 #[.val (.ref a1), .val (.ref a2), .unset, .unset] [(.ref a1)])) rfl rfl (hb hby d10_1)
  have go3 : ∀ t, Steps p.tables e below (T2.setTop (mkF m 4 #[.val (.ref a1), .val (.ref a2), .unset, .unset] [(.ref x0)])) t → Steps p.tables e below (s₁.setTop (entryFrame m #[(.ref a1), (.ref a2)] 4)) t := fun t kt => go1 t (by
      refine st2 _ ?_
      show Steps p.tables e below (T2.setTop (mkF m 4 #[.val (.ref a1), .val (.ref a2), .unset, .unset] [(.ref x0)])) _
      exact kt)
  obtain ⟨c4, Ar4, q4⟩ := id VX
  have go5 : ∀ t, Steps p.tables e below (T2.setTop (mkF m 5 #[.val (.ref a1), .val (.ref a2), .unset, .unset] [(.int (1 : Int32))])) t → Steps p.tables e below (s₁.setTop (entryFrame m #[(.ref a1), (.ref a2)] 4)) t := fun t kt => go3 t (by
      refine X2.arraylength hx (by rw [e2]; exact Ar4.1) (State.isArrayOf_alike hZ.alike Ar4.2.1) (g := (mkF m 4 #[.val (.ref a1), .val (.ref a2), .unset, .unset] [(.ref x0)])) rfl rfl (hb hby d10_4) _ ?_
      rw [own_len q4 (n := (1 : Int32)) rfl]
      show Steps p.tables e below (T2.setTop (mkF m 5 #[.val (.ref a1), .val (.ref a2), .unset, .unset] [(.int (1 : Int32))])) _
      exact kt)
  obtain ⟨T6, h6, k6, X6, e6, E6, A6, st6⟩ := newP X2 hx hZ (own_h hw 0 rfl) e2 (g := (mkF m 5 #[.val (.ref a1), .val (.ref a2), .unset, .unset] [(.int (1 : Int32))])) rfl (hb hby d10_5) rfl (by decide) (cap := 1) (by decide) (by decide) (by decide) (by decide)
  obtain ⟨b6, g6⟩ : ∃ z, z = h0.size := ⟨_, rfl⟩
  rw [← g6] at A6 st6
  have ks6 : h0.size ≤ h0.size := Nat.le_refl _
  have sz6 : h0.size ≤ b6 := Nat.le_trans ks6 (Nat.le_of_eq g6.symm)
  have ne_a1_b6 : a1 ≠ b6 := Nat.ne_of_lt (Nat.lt_of_lt_of_le FS.lt (Nat.le_of_eq g6.symm))
  have ne_a2_b6 : a2 ≠ b6 := Nat.ne_of_lt (Nat.lt_of_lt_of_le VL.lt (Nat.le_of_eq g6.symm))
  have ne_x0_b6 : x0 ≠ b6 := Nat.ne_of_lt (Nat.lt_of_lt_of_le VX.lt (Nat.le_of_eq g6.symm))
  have V6 : own_AV Z h6 b6 .long [(.long (0 : Int64))] := own_AV.new A6 (i := 1) (by decide)
  have gb6 : n0 ≤ b6 := Nat.le_trans Z0 (Nat.le_of_eq g6.symm)
  have go7 : ∀ t, Steps p.tables e below (T6.setTop (mkF m 12 #[.val (.ref a1), .val (.ref a2), .val (.ref b6), .val (.int (0 : Int32))] [(.ref a1), (.int (0 : Int32))])) t → Steps p.tables e below (s₁.setTop (entryFrame m #[(.ref a1), (.ref a2)] 4)) t := fun t kt => go5 t (by
      refine st6 _ ?_
      show Steps p.tables e below (T6.setTop (mkF m 7 #[.val (.ref a1), .val (.ref a2), .unset, .unset] [(.ref b6)])) _
      refine XS.astoreN X6.here hx rfl (hb hby d10_7) rfl rfl (l' := #[.val (.ref a1), .val (.ref a2), .val (.ref b6), .unset]) rfl ?_
      show Steps p.tables e below (T6.setTop (mkF m 8 #[.val (.ref a1), .val (.ref a2), .val (.ref b6), .unset] [])) _
      refine XS.iconst X6.here hx rfl (hb hby d10_8) ?_
      show Steps p.tables e below (T6.setTop (mkF m 9 #[.val (.ref a1), .val (.ref a2), .val (.ref b6), .unset] [(.int (0 : Int32))])) _
      refine XS.istoreN X6.here hx rfl (hb hby d10_9) rfl (l' := #[.val (.ref a1), .val (.ref a2), .val (.ref b6), .val (.int (0 : Int32))]) rfl ?_
      show Steps p.tables e below (T6.setTop (mkF m 10 #[.val (.ref a1), .val (.ref a2), .val (.ref b6), .val (.int (0 : Int32))] [])) _
      refine XS.iloadN X6.here hx rfl (hb hby d10_10) rfl ?_
      show Steps p.tables e below (T6.setTop (mkF m 11 #[.val (.ref a1), .val (.ref a2), .val (.ref b6), .val (.int (0 : Int32))] [(.int (0 : Int32))])) _
      refine XS.aloadN X6.here hx rfl (hb hby d10_11) rfl rfl ?_
      show Steps p.tables e below (T6.setTop (mkF m 12 #[.val (.ref a1), .val (.ref a2), .val (.ref b6), .val (.int (0 : Int32))] [(.ref a1), (.int (0 : Int32))])) _
      exact kt)
  have fq8 := (FS.ext E6)
  obtain ⟨T9, X9, e9, st9⟩ := getF X6 hx hZ hown (host := "") (Or.inl (own_h hw 87 rfl)) Via.refl e6 fq8 (g := (mkF m 12 #[.val (.ref a1), .val (.ref a2), .val (.ref b6), .val (.int (0 : Int32))] [(.ref a1), (.int (0 : Int32))])) rfl rfl (hb hby d10_12)
  have go10 : ∀ t, Steps p.tables e below (T9.setTop (mkF m 15 #[.val (.ref a1), .val (.ref a2), .val (.ref b6), .val (.int (0 : Int32))] [(.ref x0), (.int (0 : Int32))])) t → Steps p.tables e below (s₁.setTop (entryFrame m #[(.ref a1), (.ref a2)] 4)) t := fun t kt => go7 t (by
      refine st9 _ ?_
      show Steps p.tables e below (T9.setTop (mkF m 15 #[.val (.ref a1), .val (.ref a2), .val (.ref b6), .val (.int (0 : Int32))] [(.ref x0), (.int (0 : Int32))])) _
      exact kt)
  have fq11 := (VX.ext E6)
  obtain ⟨c12, Ar12, q12⟩ := id fq11
  have hc16_13 : (0 : Int32) < (1 : Int32) := (by decide)
  have go14 : ∀ t, Steps p.tables e below (T9.setTop (mkF m 23 #[.val (.ref a1), .val (.ref a2), .val (.ref b6), .val (.int (0 : Int32))] [(.ref a1), (.ref a2), (.int (0 : Int32)), (.ref b6)])) t → Steps p.tables e below (s₁.setTop (entryFrame m #[(.ref a1), (.ref a2)] 4)) t := fun t kt => go10 t (by
      refine X9.arraylength hx (by rw [e9]; exact Ar12.1) (State.isArrayOf_alike hZ.alike Ar12.2.1) (g := (mkF m 15 #[.val (.ref a1), .val (.ref a2), .val (.ref b6), .val (.int (0 : Int32))] [(.ref x0), (.int (0 : Int32))])) rfl rfl (hb hby d10_15) _ ?_
      rw [own_len q12 (n := (1 : Int32)) rfl]
      show Steps p.tables e below (T9.setTop (mkF m 16 #[.val (.ref a1), .val (.ref a2), .val (.ref b6), .val (.int (0 : Int32))] [(.int (1 : Int32)), (.int (0 : Int32))])) _
      refine XS.icmpNo X9.here hx rfl (hb hby d10_16) rfl (tlt hc16_13).2.1 ?_
      show Steps p.tables e below (T9.setTop (mkF m 19 #[.val (.ref a1), .val (.ref a2), .val (.ref b6), .val (.int (0 : Int32))] [])) _
      refine XS.aloadN X9.here hx rfl (hb hby d10_19) rfl rfl ?_
      show Steps p.tables e below (T9.setTop (mkF m 20 #[.val (.ref a1), .val (.ref a2), .val (.ref b6), .val (.int (0 : Int32))] [(.ref b6)])) _
      refine XS.iloadN X9.here hx rfl (hb hby d10_20) rfl ?_
      show Steps p.tables e below (T9.setTop (mkF m 21 #[.val (.ref a1), .val (.ref a2), .val (.ref b6), .val (.int (0 : Int32))] [(.int (0 : Int32)), (.ref b6)])) _
      refine XS.aloadN X9.here hx rfl (hb hby d10_21) rfl rfl ?_
      show Steps p.tables e below (T9.setTop (mkF m 22 #[.val (.ref a1), .val (.ref a2), .val (.ref b6), .val (.int (0 : Int32))] [(.ref a2), (.int (0 : Int32)), (.ref b6)])) _
      refine XS.aloadN X9.here hx rfl (hb hby d10_22) rfl rfl ?_
      show Steps p.tables e below (T9.setTop (mkF m 23 #[.val (.ref a1), .val (.ref a2), .val (.ref b6), .val (.int (0 : Int32))] [(.ref a1), (.ref a2), (.int (0 : Int32)), (.ref b6)])) _
      exact kt)
  obtain ⟨T15, X15, e15, st15⟩ := getF X9 hx hZ hown (host := "") (Or.inl (own_h hw 87 rfl)) Via.refl e9 fq8 (g := (mkF m 23 #[.val (.ref a1), .val (.ref a2), .val (.ref b6), .val (.int (0 : Int32))] [(.ref a1), (.ref a2), (.int (0 : Int32)), (.ref b6)])) rfl rfl (hb hby d10_23)
  have go16 : ∀ t, Steps p.tables e below (T15.setTop (mkF m 27 #[.val (.ref a1), .val (.ref a2), .val (.ref b6), .val (.int (0 : Int32))] [(.int (0 : Int32)), (.ref x0), (.ref a2), (.int (0 : Int32)), (.ref b6)])) t → Steps p.tables e below (s₁.setTop (entryFrame m #[(.ref a1), (.ref a2)] 4)) t := fun t kt => go14 t (by
      refine st15 _ ?_
      show Steps p.tables e below (T15.setTop (mkF m 26 #[.val (.ref a1), .val (.ref a2), .val (.ref b6), .val (.int (0 : Int32))] [(.ref x0), (.ref a2), (.int (0 : Int32)), (.ref b6)])) _
      refine XS.iloadN X15.here hx rfl (hb hby d10_26) rfl ?_
      show Steps p.tables e below (T15.setTop (mkF m 27 #[.val (.ref a1), .val (.ref a2), .val (.ref b6), .val (.int (0 : Int32))] [(.int (0 : Int32)), (.ref x0), (.ref a2), (.int (0 : Int32)), (.ref b6)])) _
      exact kt)
  obtain ⟨c17, Ar17, q17⟩ := id fq11
  have go18 : ∀ t, Steps p.tables e below (T15.setTop (mkF m 28 #[.val (.ref a1), .val (.ref a2), .val (.ref b6), .val (.int (0 : Int32))] [(.int s0), (.ref a2), (.int (0 : Int32)), (.ref b6)])) t → Steps p.tables e below (s₁.setTop (entryFrame m #[(.ref a1), (.ref a2)] 4)) t := fun t kt => go16 t (by
      refine X15.iaload hx (j := (0 : Int32)) (v := (.int s0)) (by rw [e15]; exact Ar17.1) (State.isArrayOf_alike hZ.alike Ar17.2.1) Ar17.2.2 (own_inb q17 (n := 1) rfl (by decide) (by decide)) (own_get q17 (i := 0) (by decide) rfl) (g := (mkF m 27 #[.val (.ref a1), .val (.ref a2), .val (.ref b6), .val (.int (0 : Int32))] [(.int (0 : Int32)), (.ref x0), (.ref a2), (.int (0 : Int32)), (.ref b6)])) rfl rfl (hb hby d10_27) _ ?_
      show Steps p.tables e below (T15.setTop (mkF m 28 #[.val (.ref a1), .val (.ref a2), .val (.ref b6), .val (.int (0 : Int32))] [(.int s0), (.ref a2), (.int (0 : Int32)), (.ref b6)])) _
      exact kt)
  have fq19 := (VL.ext E6)
  obtain ⟨c20, Ar20, q20⟩ := id fq19
  have go21 : ∀ t, Steps p.tables e below (T15.setTop (mkF m 29 #[.val (.ref a1), .val (.ref a2), .val (.ref b6), .val (.int (0 : Int32))] [(.long (own_at s0 q0 q1 q2 q3)), (.int (0 : Int32)), (.ref b6)])) t → Steps p.tables e below (s₁.setTop (entryFrame m #[(.ref a1), (.ref a2)] 4)) t := fun t kt => go18 t (by
      refine X15.laload hx (j := s0) (v := (.long (own_at s0 q0 q1 q2 q3))) (by rw [e15]; exact Ar20.1) (State.isArrayOf_alike hZ.alike Ar20.2.1) Ar20.2.2 (own_inb q20 (n := 4) rfl hs0 k0) (own_get q20 rfl r0) (g := (mkF m 28 #[.val (.ref a1), .val (.ref a2), .val (.ref b6), .val (.int (0 : Int32))] [(.int s0), (.ref a2), (.int (0 : Int32)), (.ref b6)])) rfl rfl (hb hby d10_28) _ ?_
      show Steps p.tables e below (T15.setTop (mkF m 29 #[.val (.ref a1), .val (.ref a2), .val (.ref b6), .val (.int (0 : Int32))] [(.long (own_at s0 q0 q1 q2 q3)), (.int (0 : Int32)), (.ref b6)])) _
      exact kt)
  obtain ⟨c22, Ar22, q22⟩ := id V6
  obtain ⟨T22, h22, X22, e22, W22, st22⟩ := stJ X15 hx hZ e15 Ar22 (j := (0 : Int32)) (own_inb q22 (n := 1) rfl (by decide) (by decide)) (g := (mkF m 29 #[.val (.ref a1), .val (.ref a2), .val (.ref b6), .val (.int (0 : Int32))] [(.long (own_at s0 q0 q1 q2 q3)), (.int (0 : Int32)), (.ref b6)])) rfl rfl (hb hby d10_29)
  have V22 : own_AV Z h22 b6 .long [(.long (own_at s0 q0 q1 q2 q3))] := own_AV.set Ar22 q22 W22 (i := 0) (by decide) rfl
  obtain ⟨Ls22, X22, N22⟩ := own_loc X22 (Fr.snoc X22 N0 gb6)
  have go23 : ∀ t, Steps p.tables e below (T22.setTop (mkF m 33 #[.val (.ref a1), .val (.ref a2), .val (.ref b6), .val (.int ((0 : Int32) + (1 : Int32)))] [])) t → Steps p.tables e below (s₁.setTop (entryFrame m #[(.ref a1), (.ref a2)] 4)) t := fun t kt => go21 t (by
      refine st22 _ ?_
      show Steps p.tables e below (T22.setTop (mkF m 30 #[.val (.ref a1), .val (.ref a2), .val (.ref b6), .val (.int (0 : Int32))] [])) _
      refine XS.iinc X22.here hx rfl (hb hby d10_30) rfl (l' := #[.val (.ref a1), .val (.ref a2), .val (.ref b6), .val (.int ((0 : Int32) + (1 : Int32)))]) rfl ?_
      show Steps p.tables e below (T22.setTop (mkF m 33 #[.val (.ref a1), .val (.ref a2), .val (.ref b6), .val (.int ((0 : Int32) + (1 : Int32)))] [])) _
      exact kt)
  rw [show ((0 : Int32) + (1 : Int32)) = (1 : Int32) from by decide] at go23
  have go24 : ∀ t, Steps p.tables e below (T22.setTop (mkF m 12 #[.val (.ref a1), .val (.ref a2), .val (.ref b6), .val (.int (1 : Int32))] [(.ref a1), (.int (1 : Int32))])) t → Steps p.tables e below (s₁.setTop (entryFrame m #[(.ref a1), (.ref a2)] 4)) t := fun t kt => go23 t (by
      refine XS.goto X22.here hx rfl (pc0 := 33) (pc' := 10) rfl (hb hby d10_33) (by decide) (by decide) ?_
      show Steps p.tables e below (T22.setTop (mkF m 10 #[.val (.ref a1), .val (.ref a2), .val (.ref b6), .val (.int (1 : Int32))] [])) _
      refine XS.iloadN X22.here hx rfl (hb hby d10_10) rfl ?_
      show Steps p.tables e below (T22.setTop (mkF m 11 #[.val (.ref a1), .val (.ref a2), .val (.ref b6), .val (.int (1 : Int32))] [(.int (1 : Int32))])) _
      refine XS.aloadN X22.here hx rfl (hb hby d10_11) rfl rfl ?_
      show Steps p.tables e below (T22.setTop (mkF m 12 #[.val (.ref a1), .val (.ref a2), .val (.ref b6), .val (.int (1 : Int32))] [(.ref a1), (.int (1 : Int32))])) _
      exact kt)
  have fq25 := (fq8.other W22 (Or.inl ne_a1_b6))
  obtain ⟨T26, X26, e26, st26⟩ := getF X22 hx hZ hown (host := "") (Or.inl (own_h hw 87 rfl)) Via.refl e22 fq25 (g := (mkF m 12 #[.val (.ref a1), .val (.ref a2), .val (.ref b6), .val (.int (1 : Int32))] [(.ref a1), (.int (1 : Int32))])) rfl rfl (hb hby d10_12)
  have go27 : ∀ t, Steps p.tables e below (T26.setTop (mkF m 15 #[.val (.ref a1), .val (.ref a2), .val (.ref b6), .val (.int (1 : Int32))] [(.ref x0), (.int (1 : Int32))])) t → Steps p.tables e below (s₁.setTop (entryFrame m #[(.ref a1), (.ref a2)] 4)) t := fun t kt => go24 t (by
      refine st26 _ ?_
      show Steps p.tables e below (T26.setTop (mkF m 15 #[.val (.ref a1), .val (.ref a2), .val (.ref b6), .val (.int (1 : Int32))] [(.ref x0), (.int (1 : Int32))])) _
      exact kt)
  have fq28 := (fq11.other W22 ne_x0_b6)
  obtain ⟨c29, Ar29, q29⟩ := id fq28
  have hc16_30 : ¬ ((1 : Int32) < (1 : Int32)) := (by decide)
  have go31 : ∀ t, Steps p.tables e below (T26.setTop (mkF m 37 #[.val (.ref a1), .val (.ref a2), .val (.ref b6), .val (.int (1 : Int32))] [(.ref b6)])) t → Steps p.tables e below (s₁.setTop (entryFrame m #[(.ref a1), (.ref a2)] 4)) t := fun t kt => go27 t (by
      refine X26.arraylength hx (by rw [e26]; exact Ar29.1) (State.isArrayOf_alike hZ.alike Ar29.2.1) (g := (mkF m 15 #[.val (.ref a1), .val (.ref a2), .val (.ref b6), .val (.int (1 : Int32))] [(.ref x0), (.int (1 : Int32))])) rfl rfl (hb hby d10_15) _ ?_
      rw [own_len q29 (n := (1 : Int32)) rfl]
      show Steps p.tables e below (T26.setTop (mkF m 16 #[.val (.ref a1), .val (.ref a2), .val (.ref b6), .val (.int (1 : Int32))] [(.int (1 : Int32)), (.int (1 : Int32))])) _
      refine XS.icmpYes X26.here hx rfl (pc0 := 16) (pc' := 36) rfl (hb hby d10_16) rfl (flt hc16_30).2.1 (by decide) (by decide) ?_
      show Steps p.tables e below (T26.setTop (mkF m 36 #[.val (.ref a1), .val (.ref a2), .val (.ref b6), .val (.int (1 : Int32))] [])) _
      refine XS.aloadN X26.here hx rfl (hb hby d10_36) rfl rfl ?_
      show Steps p.tables e below (T26.setTop (mkF m 37 #[.val (.ref a1), .val (.ref a2), .val (.ref b6), .val (.int (1 : Int32))] [(.ref b6)])) _
      exact kt)
  obtain ⟨fs, hr, hrun, hended, hW, hsame⟩ := X26.leave (v := some (.ref b6)) (fun h => by rw [Bd.returns] at h; cases h)
  refine ⟨_, _, go31 _ (X26.areturnOut hx rfl Bd.returns rfl (hb hby d10_37) hr), hrun, hended, _, _, rfl, ?_, ⟨_, rfl⟩, hW, hsame.mono (by decide) (by decide)⟩
  show own_QV _ _ _ _ _ T26.heap _
  rw [e26]
  have kp32 := ((Keep.refl h0 []).ext E6)
  exact ⟨b6, rfl, N22, (kp32.wr W22 (Or.inr sz6)), V22, sz6⟩
theorem ef_rmV2 (m : MethodId) (a1 : Addr) (a2 : Addr) : entryFrame m #[(.ref a1), (.ref a2)] 4 = mkF m 0 #[.val (.ref a1), .val (.ref a2), .unset, .unset] [] := by first | (simp [entryFrame, mkF, argsToLocals, Value.category]; done) | rfl
set_option maxRecDepth 65536 in
set_option maxHeartbeats 40000000 in
theorem rmV2 (l : Launch) (Z : State) (a0 : Array Value) (hw : ∀ d ∈ tables_1, d.before a0 Z = true) (ws : List Jvm.Cond) (a1 a2 x0 : Addr) (s0 s1 : Int32) (q0 q1 q2 q3 : Int64) (h0 : Heap) (n0 : Nat) (Z0 : n0 ≤ h0.size) (FS : Fld Z h0 a1 "com/example/invariant_ink/invariantink/engine/Combinations" "slots" "[I" (.ref x0)) (VX : own_AV Z h0 x0 .int [(.int s0), (.int s1)]) (VL : own_AV Z h0 a2 .long [(.long q0), (.long q1), (.long q2), (.long q3)]) (hs0 : ¬ s0 < 0) (k0 : s0.toNatClampNeg < 4) (r0 : ([(.long q0), (.long q1), (.long q2), (.long q3)] : List Value)[s0.toNatClampNeg]? = some (.long (own_at s0 q0 q1 q2 q3))) (hs1 : ¬ s1 < 0) (k1 : s1.toNatClampNeg < 4) (r1 : ([(.long q0), (.long q1), (.long q2), (.long q3)] : List Value)[s1.toNatClampNeg]? = some (.long (own_at s1 q0 q1 q2 q3))) :
    MetFree l (⟨"com/example/invariant_ink/invariantink/engine/Combinations", "values", "([J)[J"⟩ : MethodName) (head1 (Jvm.Cond.code (⟨"com/example/invariant_ink/invariantink/engine/Combinations", "values", "([J)[J"⟩ : MethodName) prog_19_method_6_code 4 (some (.array .long)) :: ws) ({ frames := 0, cells := 1, slots := 2, locals := 0 } : Room)) (fun a U => a = #[(.ref a1), (.ref a2)] ∧ Z.Warmed39 U.vm ∧ U.heap = h0) (fun _ _ _ _ _ => True) (fun _ U o U' => ∃ v L, o = .returned v ∧ own_QV Z [(.long (own_at s0 q0 q1 q2 q3)), (.long (own_at s1 q0 q1 q2 q3))] h0 n0 v U'.heap L ∧ FrameEnd U o U' L ({ frames := 0, cells := 1, slots := 2, locals := 0 } : Room).cells ({ frames := 0, cells := 1, slots := 2, locals := 0 } : Room).slots) := by
  refine MetFree.of_bodySF (plainFor_of_name pn_10) hisR ?_
  intro p e s m args below meth c s₁ Bd hml0 hP hK
  obtain ⟨rfl, hZ, hh⟩ := hP
  have hx := Bd.exec
  have hby := Bd.bytes
  have hml : c.maxLocals = 4 := hml0
  have hown : s.vm.findClass "com/example/invariant_ink/invariantink/engine/Combinations" = some m.cls := findClass_of_methodNamed Bd.named
  have hnm := (name_of_methodNamed Bd.named Bd.method).1
  have X0 : Stand p l e ({ frames := 0, cells := 1, slots := 2, locals := 0 } : Room) s m #[(.ref a1), (.ref a2)] below meth c s₁ [] 0 0 := Stand.of_body Bd
  have e0 : s₁.heap = h0 := by rw [← hh, Bd.state]; rfl
  have N0 := Fr.nil n0
  have go0 : ∀ t, Steps p.tables e below (s₁.setTop (mkF m 0 #[.val (.ref a1), .val (.ref a2), .unset, .unset] [])) t → Steps p.tables e below (s₁.setTop (entryFrame m #[(.ref a1), (.ref a2)] 4)) t := fun t k => castTop (ef_rmV2 m a1 a2) k
  have go1 : ∀ t, Steps p.tables e below (s₁.setTop (mkF m 1 #[.val (.ref a1), .val (.ref a2), .unset, .unset] [(.ref a1)])) t → Steps p.tables e below (s₁.setTop (entryFrame m #[(.ref a1), (.ref a2)] 4)) t := fun t kt => go0 t (by
      refine XS.aloadN X0.here hx rfl (hb hby d10_0) rfl rfl ?_
      show Steps p.tables e below (s₁.setTop (mkF m 1 #[.val (.ref a1), .val (.ref a2), .unset, .unset] [(.ref a1)])) _
      exact kt)
  obtain ⟨T2, X2, e2, st2⟩ := getF X0 hx hZ hown (host := "") (Or.inl (own_h hw 87 rfl)) Via.refl e0 FS (g := (mkF m 1 #[.val (.ref a1), .val (.ref a2), .unset, .unset] [(.ref a1)])) rfl rfl (hb hby d10_1)
  have go3 : ∀ t, Steps p.tables e below (T2.setTop (mkF m 4 #[.val (.ref a1), .val (.ref a2), .unset, .unset] [(.ref x0)])) t → Steps p.tables e below (s₁.setTop (entryFrame m #[(.ref a1), (.ref a2)] 4)) t := fun t kt => go1 t (by
      refine st2 _ ?_
      show Steps p.tables e below (T2.setTop (mkF m 4 #[.val (.ref a1), .val (.ref a2), .unset, .unset] [(.ref x0)])) _
      exact kt)
  obtain ⟨c4, Ar4, q4⟩ := id VX
  have go5 : ∀ t, Steps p.tables e below (T2.setTop (mkF m 5 #[.val (.ref a1), .val (.ref a2), .unset, .unset] [(.int (2 : Int32))])) t → Steps p.tables e below (s₁.setTop (entryFrame m #[(.ref a1), (.ref a2)] 4)) t := fun t kt => go3 t (by
      refine X2.arraylength hx (by rw [e2]; exact Ar4.1) (State.isArrayOf_alike hZ.alike Ar4.2.1) (g := (mkF m 4 #[.val (.ref a1), .val (.ref a2), .unset, .unset] [(.ref x0)])) rfl rfl (hb hby d10_4) _ ?_
      rw [own_len q4 (n := (2 : Int32)) rfl]
      show Steps p.tables e below (T2.setTop (mkF m 5 #[.val (.ref a1), .val (.ref a2), .unset, .unset] [(.int (2 : Int32))])) _
      exact kt)
  obtain ⟨T6, h6, k6, X6, e6, E6, A6, st6⟩ := newP X2 hx hZ (own_h hw 0 rfl) e2 (g := (mkF m 5 #[.val (.ref a1), .val (.ref a2), .unset, .unset] [(.int (2 : Int32))])) rfl (hb hby d10_5) rfl (by decide) (cap := 2) (by decide) (by decide) (by decide) (by decide)
  obtain ⟨b6, g6⟩ : ∃ z, z = h0.size := ⟨_, rfl⟩
  rw [← g6] at A6 st6
  have ks6 : h0.size ≤ h0.size := Nat.le_refl _
  have sz6 : h0.size ≤ b6 := Nat.le_trans ks6 (Nat.le_of_eq g6.symm)
  have ne_a1_b6 : a1 ≠ b6 := Nat.ne_of_lt (Nat.lt_of_lt_of_le FS.lt (Nat.le_of_eq g6.symm))
  have ne_a2_b6 : a2 ≠ b6 := Nat.ne_of_lt (Nat.lt_of_lt_of_le VL.lt (Nat.le_of_eq g6.symm))
  have ne_x0_b6 : x0 ≠ b6 := Nat.ne_of_lt (Nat.lt_of_lt_of_le VX.lt (Nat.le_of_eq g6.symm))
  have V6 : own_AV Z h6 b6 .long [(.long (0 : Int64)), (.long (0 : Int64))] := own_AV.new A6 (i := 2) (by decide)
  have gb6 : n0 ≤ b6 := Nat.le_trans Z0 (Nat.le_of_eq g6.symm)
  have go7 : ∀ t, Steps p.tables e below (T6.setTop (mkF m 12 #[.val (.ref a1), .val (.ref a2), .val (.ref b6), .val (.int (0 : Int32))] [(.ref a1), (.int (0 : Int32))])) t → Steps p.tables e below (s₁.setTop (entryFrame m #[(.ref a1), (.ref a2)] 4)) t := fun t kt => go5 t (by
      refine st6 _ ?_
      show Steps p.tables e below (T6.setTop (mkF m 7 #[.val (.ref a1), .val (.ref a2), .unset, .unset] [(.ref b6)])) _
      refine XS.astoreN X6.here hx rfl (hb hby d10_7) rfl rfl (l' := #[.val (.ref a1), .val (.ref a2), .val (.ref b6), .unset]) rfl ?_
      show Steps p.tables e below (T6.setTop (mkF m 8 #[.val (.ref a1), .val (.ref a2), .val (.ref b6), .unset] [])) _
      refine XS.iconst X6.here hx rfl (hb hby d10_8) ?_
      show Steps p.tables e below (T6.setTop (mkF m 9 #[.val (.ref a1), .val (.ref a2), .val (.ref b6), .unset] [(.int (0 : Int32))])) _
      refine XS.istoreN X6.here hx rfl (hb hby d10_9) rfl (l' := #[.val (.ref a1), .val (.ref a2), .val (.ref b6), .val (.int (0 : Int32))]) rfl ?_
      show Steps p.tables e below (T6.setTop (mkF m 10 #[.val (.ref a1), .val (.ref a2), .val (.ref b6), .val (.int (0 : Int32))] [])) _
      refine XS.iloadN X6.here hx rfl (hb hby d10_10) rfl ?_
      show Steps p.tables e below (T6.setTop (mkF m 11 #[.val (.ref a1), .val (.ref a2), .val (.ref b6), .val (.int (0 : Int32))] [(.int (0 : Int32))])) _
      refine XS.aloadN X6.here hx rfl (hb hby d10_11) rfl rfl ?_
      show Steps p.tables e below (T6.setTop (mkF m 12 #[.val (.ref a1), .val (.ref a2), .val (.ref b6), .val (.int (0 : Int32))] [(.ref a1), (.int (0 : Int32))])) _
      exact kt)
  have fq8 := (FS.ext E6)
  obtain ⟨T9, X9, e9, st9⟩ := getF X6 hx hZ hown (host := "") (Or.inl (own_h hw 87 rfl)) Via.refl e6 fq8 (g := (mkF m 12 #[.val (.ref a1), .val (.ref a2), .val (.ref b6), .val (.int (0 : Int32))] [(.ref a1), (.int (0 : Int32))])) rfl rfl (hb hby d10_12)
  have go10 : ∀ t, Steps p.tables e below (T9.setTop (mkF m 15 #[.val (.ref a1), .val (.ref a2), .val (.ref b6), .val (.int (0 : Int32))] [(.ref x0), (.int (0 : Int32))])) t → Steps p.tables e below (s₁.setTop (entryFrame m #[(.ref a1), (.ref a2)] 4)) t := fun t kt => go7 t (by
      refine st9 _ ?_
      show Steps p.tables e below (T9.setTop (mkF m 15 #[.val (.ref a1), .val (.ref a2), .val (.ref b6), .val (.int (0 : Int32))] [(.ref x0), (.int (0 : Int32))])) _
      exact kt)
  have fq11 := (VX.ext E6)
  obtain ⟨c12, Ar12, q12⟩ := id fq11
  have hc16_13 : (0 : Int32) < (2 : Int32) := (by decide)
  have go14 : ∀ t, Steps p.tables e below (T9.setTop (mkF m 23 #[.val (.ref a1), .val (.ref a2), .val (.ref b6), .val (.int (0 : Int32))] [(.ref a1), (.ref a2), (.int (0 : Int32)), (.ref b6)])) t → Steps p.tables e below (s₁.setTop (entryFrame m #[(.ref a1), (.ref a2)] 4)) t := fun t kt => go10 t (by
      refine X9.arraylength hx (by rw [e9]; exact Ar12.1) (State.isArrayOf_alike hZ.alike Ar12.2.1) (g := (mkF m 15 #[.val (.ref a1), .val (.ref a2), .val (.ref b6), .val (.int (0 : Int32))] [(.ref x0), (.int (0 : Int32))])) rfl rfl (hb hby d10_15) _ ?_
      rw [own_len q12 (n := (2 : Int32)) rfl]
      show Steps p.tables e below (T9.setTop (mkF m 16 #[.val (.ref a1), .val (.ref a2), .val (.ref b6), .val (.int (0 : Int32))] [(.int (2 : Int32)), (.int (0 : Int32))])) _
      refine XS.icmpNo X9.here hx rfl (hb hby d10_16) rfl (tlt hc16_13).2.1 ?_
      show Steps p.tables e below (T9.setTop (mkF m 19 #[.val (.ref a1), .val (.ref a2), .val (.ref b6), .val (.int (0 : Int32))] [])) _
      refine XS.aloadN X9.here hx rfl (hb hby d10_19) rfl rfl ?_
      show Steps p.tables e below (T9.setTop (mkF m 20 #[.val (.ref a1), .val (.ref a2), .val (.ref b6), .val (.int (0 : Int32))] [(.ref b6)])) _
      refine XS.iloadN X9.here hx rfl (hb hby d10_20) rfl ?_
      show Steps p.tables e below (T9.setTop (mkF m 21 #[.val (.ref a1), .val (.ref a2), .val (.ref b6), .val (.int (0 : Int32))] [(.int (0 : Int32)), (.ref b6)])) _
      refine XS.aloadN X9.here hx rfl (hb hby d10_21) rfl rfl ?_
      show Steps p.tables e below (T9.setTop (mkF m 22 #[.val (.ref a1), .val (.ref a2), .val (.ref b6), .val (.int (0 : Int32))] [(.ref a2), (.int (0 : Int32)), (.ref b6)])) _
      refine XS.aloadN X9.here hx rfl (hb hby d10_22) rfl rfl ?_
      show Steps p.tables e below (T9.setTop (mkF m 23 #[.val (.ref a1), .val (.ref a2), .val (.ref b6), .val (.int (0 : Int32))] [(.ref a1), (.ref a2), (.int (0 : Int32)), (.ref b6)])) _
      exact kt)
  obtain ⟨T15, X15, e15, st15⟩ := getF X9 hx hZ hown (host := "") (Or.inl (own_h hw 87 rfl)) Via.refl e9 fq8 (g := (mkF m 23 #[.val (.ref a1), .val (.ref a2), .val (.ref b6), .val (.int (0 : Int32))] [(.ref a1), (.ref a2), (.int (0 : Int32)), (.ref b6)])) rfl rfl (hb hby d10_23)
  have go16 : ∀ t, Steps p.tables e below (T15.setTop (mkF m 27 #[.val (.ref a1), .val (.ref a2), .val (.ref b6), .val (.int (0 : Int32))] [(.int (0 : Int32)), (.ref x0), (.ref a2), (.int (0 : Int32)), (.ref b6)])) t → Steps p.tables e below (s₁.setTop (entryFrame m #[(.ref a1), (.ref a2)] 4)) t := fun t kt => go14 t (by
      refine st15 _ ?_
      show Steps p.tables e below (T15.setTop (mkF m 26 #[.val (.ref a1), .val (.ref a2), .val (.ref b6), .val (.int (0 : Int32))] [(.ref x0), (.ref a2), (.int (0 : Int32)), (.ref b6)])) _
      refine XS.iloadN X15.here hx rfl (hb hby d10_26) rfl ?_
      show Steps p.tables e below (T15.setTop (mkF m 27 #[.val (.ref a1), .val (.ref a2), .val (.ref b6), .val (.int (0 : Int32))] [(.int (0 : Int32)), (.ref x0), (.ref a2), (.int (0 : Int32)), (.ref b6)])) _
      exact kt)
  obtain ⟨c17, Ar17, q17⟩ := id fq11
  have go18 : ∀ t, Steps p.tables e below (T15.setTop (mkF m 28 #[.val (.ref a1), .val (.ref a2), .val (.ref b6), .val (.int (0 : Int32))] [(.int s0), (.ref a2), (.int (0 : Int32)), (.ref b6)])) t → Steps p.tables e below (s₁.setTop (entryFrame m #[(.ref a1), (.ref a2)] 4)) t := fun t kt => go16 t (by
      refine X15.iaload hx (j := (0 : Int32)) (v := (.int s0)) (by rw [e15]; exact Ar17.1) (State.isArrayOf_alike hZ.alike Ar17.2.1) Ar17.2.2 (own_inb q17 (n := 2) rfl (by decide) (by decide)) (own_get q17 (i := 0) (by decide) rfl) (g := (mkF m 27 #[.val (.ref a1), .val (.ref a2), .val (.ref b6), .val (.int (0 : Int32))] [(.int (0 : Int32)), (.ref x0), (.ref a2), (.int (0 : Int32)), (.ref b6)])) rfl rfl (hb hby d10_27) _ ?_
      show Steps p.tables e below (T15.setTop (mkF m 28 #[.val (.ref a1), .val (.ref a2), .val (.ref b6), .val (.int (0 : Int32))] [(.int s0), (.ref a2), (.int (0 : Int32)), (.ref b6)])) _
      exact kt)
  have fq19 := (VL.ext E6)
  obtain ⟨c20, Ar20, q20⟩ := id fq19
  have go21 : ∀ t, Steps p.tables e below (T15.setTop (mkF m 29 #[.val (.ref a1), .val (.ref a2), .val (.ref b6), .val (.int (0 : Int32))] [(.long (own_at s0 q0 q1 q2 q3)), (.int (0 : Int32)), (.ref b6)])) t → Steps p.tables e below (s₁.setTop (entryFrame m #[(.ref a1), (.ref a2)] 4)) t := fun t kt => go18 t (by
      refine X15.laload hx (j := s0) (v := (.long (own_at s0 q0 q1 q2 q3))) (by rw [e15]; exact Ar20.1) (State.isArrayOf_alike hZ.alike Ar20.2.1) Ar20.2.2 (own_inb q20 (n := 4) rfl hs0 k0) (own_get q20 rfl r0) (g := (mkF m 28 #[.val (.ref a1), .val (.ref a2), .val (.ref b6), .val (.int (0 : Int32))] [(.int s0), (.ref a2), (.int (0 : Int32)), (.ref b6)])) rfl rfl (hb hby d10_28) _ ?_
      show Steps p.tables e below (T15.setTop (mkF m 29 #[.val (.ref a1), .val (.ref a2), .val (.ref b6), .val (.int (0 : Int32))] [(.long (own_at s0 q0 q1 q2 q3)), (.int (0 : Int32)), (.ref b6)])) _
      exact kt)
  obtain ⟨c22, Ar22, q22⟩ := id V6
  obtain ⟨T22, h22, X22, e22, W22, st22⟩ := stJ X15 hx hZ e15 Ar22 (j := (0 : Int32)) (own_inb q22 (n := 2) rfl (by decide) (by decide)) (g := (mkF m 29 #[.val (.ref a1), .val (.ref a2), .val (.ref b6), .val (.int (0 : Int32))] [(.long (own_at s0 q0 q1 q2 q3)), (.int (0 : Int32)), (.ref b6)])) rfl rfl (hb hby d10_29)
  have V22 : own_AV Z h22 b6 .long [(.long (own_at s0 q0 q1 q2 q3)), (.long (0 : Int64))] := own_AV.set Ar22 q22 W22 (i := 0) (by decide) rfl
  obtain ⟨Ls22, X22, N22⟩ := own_loc X22 (Fr.snoc X22 N0 gb6)
  have go23 : ∀ t, Steps p.tables e below (T22.setTop (mkF m 33 #[.val (.ref a1), .val (.ref a2), .val (.ref b6), .val (.int ((0 : Int32) + (1 : Int32)))] [])) t → Steps p.tables e below (s₁.setTop (entryFrame m #[(.ref a1), (.ref a2)] 4)) t := fun t kt => go21 t (by
      refine st22 _ ?_
      show Steps p.tables e below (T22.setTop (mkF m 30 #[.val (.ref a1), .val (.ref a2), .val (.ref b6), .val (.int (0 : Int32))] [])) _
      refine XS.iinc X22.here hx rfl (hb hby d10_30) rfl (l' := #[.val (.ref a1), .val (.ref a2), .val (.ref b6), .val (.int ((0 : Int32) + (1 : Int32)))]) rfl ?_
      show Steps p.tables e below (T22.setTop (mkF m 33 #[.val (.ref a1), .val (.ref a2), .val (.ref b6), .val (.int ((0 : Int32) + (1 : Int32)))] [])) _
      exact kt)
  rw [show ((0 : Int32) + (1 : Int32)) = (1 : Int32) from by decide] at go23
  have go24 : ∀ t, Steps p.tables e below (T22.setTop (mkF m 12 #[.val (.ref a1), .val (.ref a2), .val (.ref b6), .val (.int (1 : Int32))] [(.ref a1), (.int (1 : Int32))])) t → Steps p.tables e below (s₁.setTop (entryFrame m #[(.ref a1), (.ref a2)] 4)) t := fun t kt => go23 t (by
      refine XS.goto X22.here hx rfl (pc0 := 33) (pc' := 10) rfl (hb hby d10_33) (by decide) (by decide) ?_
      show Steps p.tables e below (T22.setTop (mkF m 10 #[.val (.ref a1), .val (.ref a2), .val (.ref b6), .val (.int (1 : Int32))] [])) _
      refine XS.iloadN X22.here hx rfl (hb hby d10_10) rfl ?_
      show Steps p.tables e below (T22.setTop (mkF m 11 #[.val (.ref a1), .val (.ref a2), .val (.ref b6), .val (.int (1 : Int32))] [(.int (1 : Int32))])) _
      refine XS.aloadN X22.here hx rfl (hb hby d10_11) rfl rfl ?_
      show Steps p.tables e below (T22.setTop (mkF m 12 #[.val (.ref a1), .val (.ref a2), .val (.ref b6), .val (.int (1 : Int32))] [(.ref a1), (.int (1 : Int32))])) _
      exact kt)
  have fq25 := (fq8.other W22 (Or.inl ne_a1_b6))
  obtain ⟨T26, X26, e26, st26⟩ := getF X22 hx hZ hown (host := "") (Or.inl (own_h hw 87 rfl)) Via.refl e22 fq25 (g := (mkF m 12 #[.val (.ref a1), .val (.ref a2), .val (.ref b6), .val (.int (1 : Int32))] [(.ref a1), (.int (1 : Int32))])) rfl rfl (hb hby d10_12)
  have go27 : ∀ t, Steps p.tables e below (T26.setTop (mkF m 15 #[.val (.ref a1), .val (.ref a2), .val (.ref b6), .val (.int (1 : Int32))] [(.ref x0), (.int (1 : Int32))])) t → Steps p.tables e below (s₁.setTop (entryFrame m #[(.ref a1), (.ref a2)] 4)) t := fun t kt => go24 t (by
      refine st26 _ ?_
      show Steps p.tables e below (T26.setTop (mkF m 15 #[.val (.ref a1), .val (.ref a2), .val (.ref b6), .val (.int (1 : Int32))] [(.ref x0), (.int (1 : Int32))])) _
      exact kt)
  have fq28 := (fq11.other W22 ne_x0_b6)
  obtain ⟨c29, Ar29, q29⟩ := id fq28
  have hc16_30 : (1 : Int32) < (2 : Int32) := (by decide)
  have go31 : ∀ t, Steps p.tables e below (T26.setTop (mkF m 23 #[.val (.ref a1), .val (.ref a2), .val (.ref b6), .val (.int (1 : Int32))] [(.ref a1), (.ref a2), (.int (1 : Int32)), (.ref b6)])) t → Steps p.tables e below (s₁.setTop (entryFrame m #[(.ref a1), (.ref a2)] 4)) t := fun t kt => go27 t (by
      refine X26.arraylength hx (by rw [e26]; exact Ar29.1) (State.isArrayOf_alike hZ.alike Ar29.2.1) (g := (mkF m 15 #[.val (.ref a1), .val (.ref a2), .val (.ref b6), .val (.int (1 : Int32))] [(.ref x0), (.int (1 : Int32))])) rfl rfl (hb hby d10_15) _ ?_
      rw [own_len q29 (n := (2 : Int32)) rfl]
      show Steps p.tables e below (T26.setTop (mkF m 16 #[.val (.ref a1), .val (.ref a2), .val (.ref b6), .val (.int (1 : Int32))] [(.int (2 : Int32)), (.int (1 : Int32))])) _
      refine XS.icmpNo X26.here hx rfl (hb hby d10_16) rfl (tlt hc16_30).2.1 ?_
      show Steps p.tables e below (T26.setTop (mkF m 19 #[.val (.ref a1), .val (.ref a2), .val (.ref b6), .val (.int (1 : Int32))] [])) _
      refine XS.aloadN X26.here hx rfl (hb hby d10_19) rfl rfl ?_
      show Steps p.tables e below (T26.setTop (mkF m 20 #[.val (.ref a1), .val (.ref a2), .val (.ref b6), .val (.int (1 : Int32))] [(.ref b6)])) _
      refine XS.iloadN X26.here hx rfl (hb hby d10_20) rfl ?_
      show Steps p.tables e below (T26.setTop (mkF m 21 #[.val (.ref a1), .val (.ref a2), .val (.ref b6), .val (.int (1 : Int32))] [(.int (1 : Int32)), (.ref b6)])) _
      refine XS.aloadN X26.here hx rfl (hb hby d10_21) rfl rfl ?_
      show Steps p.tables e below (T26.setTop (mkF m 22 #[.val (.ref a1), .val (.ref a2), .val (.ref b6), .val (.int (1 : Int32))] [(.ref a2), (.int (1 : Int32)), (.ref b6)])) _
      refine XS.aloadN X26.here hx rfl (hb hby d10_22) rfl rfl ?_
      show Steps p.tables e below (T26.setTop (mkF m 23 #[.val (.ref a1), .val (.ref a2), .val (.ref b6), .val (.int (1 : Int32))] [(.ref a1), (.ref a2), (.int (1 : Int32)), (.ref b6)])) _
      exact kt)
  obtain ⟨T32, X32, e32, st32⟩ := getF X26 hx hZ hown (host := "") (Or.inl (own_h hw 87 rfl)) Via.refl e26 fq25 (g := (mkF m 23 #[.val (.ref a1), .val (.ref a2), .val (.ref b6), .val (.int (1 : Int32))] [(.ref a1), (.ref a2), (.int (1 : Int32)), (.ref b6)])) rfl rfl (hb hby d10_23)
  have go33 : ∀ t, Steps p.tables e below (T32.setTop (mkF m 27 #[.val (.ref a1), .val (.ref a2), .val (.ref b6), .val (.int (1 : Int32))] [(.int (1 : Int32)), (.ref x0), (.ref a2), (.int (1 : Int32)), (.ref b6)])) t → Steps p.tables e below (s₁.setTop (entryFrame m #[(.ref a1), (.ref a2)] 4)) t := fun t kt => go31 t (by
      refine st32 _ ?_
      show Steps p.tables e below (T32.setTop (mkF m 26 #[.val (.ref a1), .val (.ref a2), .val (.ref b6), .val (.int (1 : Int32))] [(.ref x0), (.ref a2), (.int (1 : Int32)), (.ref b6)])) _
      refine XS.iloadN X32.here hx rfl (hb hby d10_26) rfl ?_
      show Steps p.tables e below (T32.setTop (mkF m 27 #[.val (.ref a1), .val (.ref a2), .val (.ref b6), .val (.int (1 : Int32))] [(.int (1 : Int32)), (.ref x0), (.ref a2), (.int (1 : Int32)), (.ref b6)])) _
      exact kt)
  obtain ⟨c34, Ar34, q34⟩ := id fq28
  have go35 : ∀ t, Steps p.tables e below (T32.setTop (mkF m 28 #[.val (.ref a1), .val (.ref a2), .val (.ref b6), .val (.int (1 : Int32))] [(.int s1), (.ref a2), (.int (1 : Int32)), (.ref b6)])) t → Steps p.tables e below (s₁.setTop (entryFrame m #[(.ref a1), (.ref a2)] 4)) t := fun t kt => go33 t (by
      refine X32.iaload hx (j := (1 : Int32)) (v := (.int s1)) (by rw [e32]; exact Ar34.1) (State.isArrayOf_alike hZ.alike Ar34.2.1) Ar34.2.2 (own_inb q34 (n := 2) rfl (by decide) (by decide)) (own_get q34 (i := 1) (by decide) rfl) (g := (mkF m 27 #[.val (.ref a1), .val (.ref a2), .val (.ref b6), .val (.int (1 : Int32))] [(.int (1 : Int32)), (.ref x0), (.ref a2), (.int (1 : Int32)), (.ref b6)])) rfl rfl (hb hby d10_27) _ ?_
      show Steps p.tables e below (T32.setTop (mkF m 28 #[.val (.ref a1), .val (.ref a2), .val (.ref b6), .val (.int (1 : Int32))] [(.int s1), (.ref a2), (.int (1 : Int32)), (.ref b6)])) _
      exact kt)
  have fq36 := (fq19.other W22 ne_a2_b6)
  obtain ⟨c37, Ar37, q37⟩ := id fq36
  have go38 : ∀ t, Steps p.tables e below (T32.setTop (mkF m 29 #[.val (.ref a1), .val (.ref a2), .val (.ref b6), .val (.int (1 : Int32))] [(.long (own_at s1 q0 q1 q2 q3)), (.int (1 : Int32)), (.ref b6)])) t → Steps p.tables e below (s₁.setTop (entryFrame m #[(.ref a1), (.ref a2)] 4)) t := fun t kt => go35 t (by
      refine X32.laload hx (j := s1) (v := (.long (own_at s1 q0 q1 q2 q3))) (by rw [e32]; exact Ar37.1) (State.isArrayOf_alike hZ.alike Ar37.2.1) Ar37.2.2 (own_inb q37 (n := 4) rfl hs1 k1) (own_get q37 rfl r1) (g := (mkF m 28 #[.val (.ref a1), .val (.ref a2), .val (.ref b6), .val (.int (1 : Int32))] [(.int s1), (.ref a2), (.int (1 : Int32)), (.ref b6)])) rfl rfl (hb hby d10_28) _ ?_
      show Steps p.tables e below (T32.setTop (mkF m 29 #[.val (.ref a1), .val (.ref a2), .val (.ref b6), .val (.int (1 : Int32))] [(.long (own_at s1 q0 q1 q2 q3)), (.int (1 : Int32)), (.ref b6)])) _
      exact kt)
  obtain ⟨c39, Ar39, q39⟩ := id V22
  obtain ⟨T39, h39, X39, e39, W39, st39⟩ := stJ X32 hx hZ e32 Ar39 (j := (1 : Int32)) (own_inb q39 (n := 2) rfl (by decide) (by decide)) (g := (mkF m 29 #[.val (.ref a1), .val (.ref a2), .val (.ref b6), .val (.int (1 : Int32))] [(.long (own_at s1 q0 q1 q2 q3)), (.int (1 : Int32)), (.ref b6)])) rfl rfl (hb hby d10_29)
  have V39 : own_AV Z h39 b6 .long [(.long (own_at s0 q0 q1 q2 q3)), (.long (own_at s1 q0 q1 q2 q3))] := own_AV.set Ar39 q39 W39 (i := 1) (by decide) rfl
  obtain ⟨Ls39, X39, N39⟩ := own_loc X39 (Fr.snoc X39 N22 gb6)
  have go40 : ∀ t, Steps p.tables e below (T39.setTop (mkF m 33 #[.val (.ref a1), .val (.ref a2), .val (.ref b6), .val (.int ((1 : Int32) + (1 : Int32)))] [])) t → Steps p.tables e below (s₁.setTop (entryFrame m #[(.ref a1), (.ref a2)] 4)) t := fun t kt => go38 t (by
      refine st39 _ ?_
      show Steps p.tables e below (T39.setTop (mkF m 30 #[.val (.ref a1), .val (.ref a2), .val (.ref b6), .val (.int (1 : Int32))] [])) _
      refine XS.iinc X39.here hx rfl (hb hby d10_30) rfl (l' := #[.val (.ref a1), .val (.ref a2), .val (.ref b6), .val (.int ((1 : Int32) + (1 : Int32)))]) rfl ?_
      show Steps p.tables e below (T39.setTop (mkF m 33 #[.val (.ref a1), .val (.ref a2), .val (.ref b6), .val (.int ((1 : Int32) + (1 : Int32)))] [])) _
      exact kt)
  rw [show ((1 : Int32) + (1 : Int32)) = (2 : Int32) from by decide] at go40
  have go41 : ∀ t, Steps p.tables e below (T39.setTop (mkF m 12 #[.val (.ref a1), .val (.ref a2), .val (.ref b6), .val (.int (2 : Int32))] [(.ref a1), (.int (2 : Int32))])) t → Steps p.tables e below (s₁.setTop (entryFrame m #[(.ref a1), (.ref a2)] 4)) t := fun t kt => go40 t (by
      refine XS.goto X39.here hx rfl (pc0 := 33) (pc' := 10) rfl (hb hby d10_33) (by decide) (by decide) ?_
      show Steps p.tables e below (T39.setTop (mkF m 10 #[.val (.ref a1), .val (.ref a2), .val (.ref b6), .val (.int (2 : Int32))] [])) _
      refine XS.iloadN X39.here hx rfl (hb hby d10_10) rfl ?_
      show Steps p.tables e below (T39.setTop (mkF m 11 #[.val (.ref a1), .val (.ref a2), .val (.ref b6), .val (.int (2 : Int32))] [(.int (2 : Int32))])) _
      refine XS.aloadN X39.here hx rfl (hb hby d10_11) rfl rfl ?_
      show Steps p.tables e below (T39.setTop (mkF m 12 #[.val (.ref a1), .val (.ref a2), .val (.ref b6), .val (.int (2 : Int32))] [(.ref a1), (.int (2 : Int32))])) _
      exact kt)
  have fq42 := (fq25.other W39 (Or.inl ne_a1_b6))
  obtain ⟨T43, X43, e43, st43⟩ := getF X39 hx hZ hown (host := "") (Or.inl (own_h hw 87 rfl)) Via.refl e39 fq42 (g := (mkF m 12 #[.val (.ref a1), .val (.ref a2), .val (.ref b6), .val (.int (2 : Int32))] [(.ref a1), (.int (2 : Int32))])) rfl rfl (hb hby d10_12)
  have go44 : ∀ t, Steps p.tables e below (T43.setTop (mkF m 15 #[.val (.ref a1), .val (.ref a2), .val (.ref b6), .val (.int (2 : Int32))] [(.ref x0), (.int (2 : Int32))])) t → Steps p.tables e below (s₁.setTop (entryFrame m #[(.ref a1), (.ref a2)] 4)) t := fun t kt => go41 t (by
      refine st43 _ ?_
      show Steps p.tables e below (T43.setTop (mkF m 15 #[.val (.ref a1), .val (.ref a2), .val (.ref b6), .val (.int (2 : Int32))] [(.ref x0), (.int (2 : Int32))])) _
      exact kt)
  have fq45 := (fq28.other W39 ne_x0_b6)
  obtain ⟨c46, Ar46, q46⟩ := id fq45
  have hc16_47 : ¬ ((2 : Int32) < (2 : Int32)) := (by decide)
  have go48 : ∀ t, Steps p.tables e below (T43.setTop (mkF m 37 #[.val (.ref a1), .val (.ref a2), .val (.ref b6), .val (.int (2 : Int32))] [(.ref b6)])) t → Steps p.tables e below (s₁.setTop (entryFrame m #[(.ref a1), (.ref a2)] 4)) t := fun t kt => go44 t (by
      refine X43.arraylength hx (by rw [e43]; exact Ar46.1) (State.isArrayOf_alike hZ.alike Ar46.2.1) (g := (mkF m 15 #[.val (.ref a1), .val (.ref a2), .val (.ref b6), .val (.int (2 : Int32))] [(.ref x0), (.int (2 : Int32))])) rfl rfl (hb hby d10_15) _ ?_
      rw [own_len q46 (n := (2 : Int32)) rfl]
      show Steps p.tables e below (T43.setTop (mkF m 16 #[.val (.ref a1), .val (.ref a2), .val (.ref b6), .val (.int (2 : Int32))] [(.int (2 : Int32)), (.int (2 : Int32))])) _
      refine XS.icmpYes X43.here hx rfl (pc0 := 16) (pc' := 36) rfl (hb hby d10_16) rfl (flt hc16_47).2.1 (by decide) (by decide) ?_
      show Steps p.tables e below (T43.setTop (mkF m 36 #[.val (.ref a1), .val (.ref a2), .val (.ref b6), .val (.int (2 : Int32))] [])) _
      refine XS.aloadN X43.here hx rfl (hb hby d10_36) rfl rfl ?_
      show Steps p.tables e below (T43.setTop (mkF m 37 #[.val (.ref a1), .val (.ref a2), .val (.ref b6), .val (.int (2 : Int32))] [(.ref b6)])) _
      exact kt)
  obtain ⟨fs, hr, hrun, hended, hW, hsame⟩ := X43.leave (v := some (.ref b6)) (fun h => by rw [Bd.returns] at h; cases h)
  refine ⟨_, _, go48 _ (X43.areturnOut hx rfl Bd.returns rfl (hb hby d10_37) hr), hrun, hended, _, _, rfl, ?_, ⟨_, rfl⟩, hW, hsame.mono (by decide) (by decide)⟩
  show own_QV _ _ _ _ _ T43.heap _
  rw [e43]
  have kp49 := ((Keep.refl h0 []).ext E6)
  have kp50 := (kp49.wr W22 (Or.inr sz6))
  exact ⟨b6, rfl, N39, (kp50.wr W39 (Or.inr sz6)), V39, sz6⟩
theorem ef_rmV3 (m : MethodId) (a1 : Addr) (a2 : Addr) : entryFrame m #[(.ref a1), (.ref a2)] 4 = mkF m 0 #[.val (.ref a1), .val (.ref a2), .unset, .unset] [] := by first | (simp [entryFrame, mkF, argsToLocals, Value.category]; done) | rfl
set_option maxRecDepth 65536 in
set_option maxHeartbeats 40000000 in
theorem rmV3 (l : Launch) (Z : State) (a0 : Array Value) (hw : ∀ d ∈ tables_1, d.before a0 Z = true) (ws : List Jvm.Cond) (a1 a2 x0 : Addr) (s0 s1 s2 : Int32) (q0 q1 q2 q3 : Int64) (h0 : Heap) (n0 : Nat) (Z0 : n0 ≤ h0.size) (FS : Fld Z h0 a1 "com/example/invariant_ink/invariantink/engine/Combinations" "slots" "[I" (.ref x0)) (VX : own_AV Z h0 x0 .int [(.int s0), (.int s1), (.int s2)]) (VL : own_AV Z h0 a2 .long [(.long q0), (.long q1), (.long q2), (.long q3)]) (hs0 : ¬ s0 < 0) (k0 : s0.toNatClampNeg < 4) (r0 : ([(.long q0), (.long q1), (.long q2), (.long q3)] : List Value)[s0.toNatClampNeg]? = some (.long (own_at s0 q0 q1 q2 q3))) (hs1 : ¬ s1 < 0) (k1 : s1.toNatClampNeg < 4) (r1 : ([(.long q0), (.long q1), (.long q2), (.long q3)] : List Value)[s1.toNatClampNeg]? = some (.long (own_at s1 q0 q1 q2 q3))) (hs2 : ¬ s2 < 0) (k2 : s2.toNatClampNeg < 4) (r2 : ([(.long q0), (.long q1), (.long q2), (.long q3)] : List Value)[s2.toNatClampNeg]? = some (.long (own_at s2 q0 q1 q2 q3))) :
    MetFree l (⟨"com/example/invariant_ink/invariantink/engine/Combinations", "values", "([J)[J"⟩ : MethodName) (head1 (Jvm.Cond.code (⟨"com/example/invariant_ink/invariantink/engine/Combinations", "values", "([J)[J"⟩ : MethodName) prog_19_method_6_code 4 (some (.array .long)) :: ws) ({ frames := 0, cells := 1, slots := 3, locals := 0 } : Room)) (fun a U => a = #[(.ref a1), (.ref a2)] ∧ Z.Warmed39 U.vm ∧ U.heap = h0) (fun _ _ _ _ _ => True) (fun _ U o U' => ∃ v L, o = .returned v ∧ own_QV Z [(.long (own_at s0 q0 q1 q2 q3)), (.long (own_at s1 q0 q1 q2 q3)), (.long (own_at s2 q0 q1 q2 q3))] h0 n0 v U'.heap L ∧ FrameEnd U o U' L ({ frames := 0, cells := 1, slots := 3, locals := 0 } : Room).cells ({ frames := 0, cells := 1, slots := 3, locals := 0 } : Room).slots) := by
  refine MetFree.of_bodySF (plainFor_of_name pn_10) hisR ?_
  intro p e s m args below meth c s₁ Bd hml0 hP hK
  obtain ⟨rfl, hZ, hh⟩ := hP
  have hx := Bd.exec
  have hby := Bd.bytes
  have hml : c.maxLocals = 4 := hml0
  have hown : s.vm.findClass "com/example/invariant_ink/invariantink/engine/Combinations" = some m.cls := findClass_of_methodNamed Bd.named
  have hnm := (name_of_methodNamed Bd.named Bd.method).1
  have X0 : Stand p l e ({ frames := 0, cells := 1, slots := 3, locals := 0 } : Room) s m #[(.ref a1), (.ref a2)] below meth c s₁ [] 0 0 := Stand.of_body Bd
  have e0 : s₁.heap = h0 := by rw [← hh, Bd.state]; rfl
  have N0 := Fr.nil n0
  have go0 : ∀ t, Steps p.tables e below (s₁.setTop (mkF m 0 #[.val (.ref a1), .val (.ref a2), .unset, .unset] [])) t → Steps p.tables e below (s₁.setTop (entryFrame m #[(.ref a1), (.ref a2)] 4)) t := fun t k => castTop (ef_rmV3 m a1 a2) k
  have go1 : ∀ t, Steps p.tables e below (s₁.setTop (mkF m 1 #[.val (.ref a1), .val (.ref a2), .unset, .unset] [(.ref a1)])) t → Steps p.tables e below (s₁.setTop (entryFrame m #[(.ref a1), (.ref a2)] 4)) t := fun t kt => go0 t (by
      refine XS.aloadN X0.here hx rfl (hb hby d10_0) rfl rfl ?_
      show Steps p.tables e below (s₁.setTop (mkF m 1 #[.val (.ref a1), .val (.ref a2), .unset, .unset] [(.ref a1)])) _
      exact kt)
  obtain ⟨T2, X2, e2, st2⟩ := getF X0 hx hZ hown (host := "") (Or.inl (own_h hw 87 rfl)) Via.refl e0 FS (g := (mkF m 1 #[.val (.ref a1), .val (.ref a2), .unset, .unset] [(.ref a1)])) rfl rfl (hb hby d10_1)
  have go3 : ∀ t, Steps p.tables e below (T2.setTop (mkF m 4 #[.val (.ref a1), .val (.ref a2), .unset, .unset] [(.ref x0)])) t → Steps p.tables e below (s₁.setTop (entryFrame m #[(.ref a1), (.ref a2)] 4)) t := fun t kt => go1 t (by
      refine st2 _ ?_
      show Steps p.tables e below (T2.setTop (mkF m 4 #[.val (.ref a1), .val (.ref a2), .unset, .unset] [(.ref x0)])) _
      exact kt)
  obtain ⟨c4, Ar4, q4⟩ := id VX
  have go5 : ∀ t, Steps p.tables e below (T2.setTop (mkF m 5 #[.val (.ref a1), .val (.ref a2), .unset, .unset] [(.int (3 : Int32))])) t → Steps p.tables e below (s₁.setTop (entryFrame m #[(.ref a1), (.ref a2)] 4)) t := fun t kt => go3 t (by
      refine X2.arraylength hx (by rw [e2]; exact Ar4.1) (State.isArrayOf_alike hZ.alike Ar4.2.1) (g := (mkF m 4 #[.val (.ref a1), .val (.ref a2), .unset, .unset] [(.ref x0)])) rfl rfl (hb hby d10_4) _ ?_
      rw [own_len q4 (n := (3 : Int32)) rfl]
      show Steps p.tables e below (T2.setTop (mkF m 5 #[.val (.ref a1), .val (.ref a2), .unset, .unset] [(.int (3 : Int32))])) _
      exact kt)
  obtain ⟨T6, h6, k6, X6, e6, E6, A6, st6⟩ := newP X2 hx hZ (own_h hw 0 rfl) e2 (g := (mkF m 5 #[.val (.ref a1), .val (.ref a2), .unset, .unset] [(.int (3 : Int32))])) rfl (hb hby d10_5) rfl (by decide) (cap := 3) (by decide) (by decide) (by decide) (by decide)
  obtain ⟨b6, g6⟩ : ∃ z, z = h0.size := ⟨_, rfl⟩
  rw [← g6] at A6 st6
  have ks6 : h0.size ≤ h0.size := Nat.le_refl _
  have sz6 : h0.size ≤ b6 := Nat.le_trans ks6 (Nat.le_of_eq g6.symm)
  have ne_a1_b6 : a1 ≠ b6 := Nat.ne_of_lt (Nat.lt_of_lt_of_le FS.lt (Nat.le_of_eq g6.symm))
  have ne_a2_b6 : a2 ≠ b6 := Nat.ne_of_lt (Nat.lt_of_lt_of_le VL.lt (Nat.le_of_eq g6.symm))
  have ne_x0_b6 : x0 ≠ b6 := Nat.ne_of_lt (Nat.lt_of_lt_of_le VX.lt (Nat.le_of_eq g6.symm))
  have V6 : own_AV Z h6 b6 .long [(.long (0 : Int64)), (.long (0 : Int64)), (.long (0 : Int64))] := own_AV.new A6 (i := 3) (by decide)
  have gb6 : n0 ≤ b6 := Nat.le_trans Z0 (Nat.le_of_eq g6.symm)
  have go7 : ∀ t, Steps p.tables e below (T6.setTop (mkF m 12 #[.val (.ref a1), .val (.ref a2), .val (.ref b6), .val (.int (0 : Int32))] [(.ref a1), (.int (0 : Int32))])) t → Steps p.tables e below (s₁.setTop (entryFrame m #[(.ref a1), (.ref a2)] 4)) t := fun t kt => go5 t (by
      refine st6 _ ?_
      show Steps p.tables e below (T6.setTop (mkF m 7 #[.val (.ref a1), .val (.ref a2), .unset, .unset] [(.ref b6)])) _
      refine XS.astoreN X6.here hx rfl (hb hby d10_7) rfl rfl (l' := #[.val (.ref a1), .val (.ref a2), .val (.ref b6), .unset]) rfl ?_
      show Steps p.tables e below (T6.setTop (mkF m 8 #[.val (.ref a1), .val (.ref a2), .val (.ref b6), .unset] [])) _
      refine XS.iconst X6.here hx rfl (hb hby d10_8) ?_
      show Steps p.tables e below (T6.setTop (mkF m 9 #[.val (.ref a1), .val (.ref a2), .val (.ref b6), .unset] [(.int (0 : Int32))])) _
      refine XS.istoreN X6.here hx rfl (hb hby d10_9) rfl (l' := #[.val (.ref a1), .val (.ref a2), .val (.ref b6), .val (.int (0 : Int32))]) rfl ?_
      show Steps p.tables e below (T6.setTop (mkF m 10 #[.val (.ref a1), .val (.ref a2), .val (.ref b6), .val (.int (0 : Int32))] [])) _
      refine XS.iloadN X6.here hx rfl (hb hby d10_10) rfl ?_
      show Steps p.tables e below (T6.setTop (mkF m 11 #[.val (.ref a1), .val (.ref a2), .val (.ref b6), .val (.int (0 : Int32))] [(.int (0 : Int32))])) _
      refine XS.aloadN X6.here hx rfl (hb hby d10_11) rfl rfl ?_
      show Steps p.tables e below (T6.setTop (mkF m 12 #[.val (.ref a1), .val (.ref a2), .val (.ref b6), .val (.int (0 : Int32))] [(.ref a1), (.int (0 : Int32))])) _
      exact kt)
  have fq8 := (FS.ext E6)
  obtain ⟨T9, X9, e9, st9⟩ := getF X6 hx hZ hown (host := "") (Or.inl (own_h hw 87 rfl)) Via.refl e6 fq8 (g := (mkF m 12 #[.val (.ref a1), .val (.ref a2), .val (.ref b6), .val (.int (0 : Int32))] [(.ref a1), (.int (0 : Int32))])) rfl rfl (hb hby d10_12)
  have go10 : ∀ t, Steps p.tables e below (T9.setTop (mkF m 15 #[.val (.ref a1), .val (.ref a2), .val (.ref b6), .val (.int (0 : Int32))] [(.ref x0), (.int (0 : Int32))])) t → Steps p.tables e below (s₁.setTop (entryFrame m #[(.ref a1), (.ref a2)] 4)) t := fun t kt => go7 t (by
      refine st9 _ ?_
      show Steps p.tables e below (T9.setTop (mkF m 15 #[.val (.ref a1), .val (.ref a2), .val (.ref b6), .val (.int (0 : Int32))] [(.ref x0), (.int (0 : Int32))])) _
      exact kt)
  have fq11 := (VX.ext E6)
  obtain ⟨c12, Ar12, q12⟩ := id fq11
  have hc16_13 : (0 : Int32) < (3 : Int32) := (by decide)
  have go14 : ∀ t, Steps p.tables e below (T9.setTop (mkF m 23 #[.val (.ref a1), .val (.ref a2), .val (.ref b6), .val (.int (0 : Int32))] [(.ref a1), (.ref a2), (.int (0 : Int32)), (.ref b6)])) t → Steps p.tables e below (s₁.setTop (entryFrame m #[(.ref a1), (.ref a2)] 4)) t := fun t kt => go10 t (by
      refine X9.arraylength hx (by rw [e9]; exact Ar12.1) (State.isArrayOf_alike hZ.alike Ar12.2.1) (g := (mkF m 15 #[.val (.ref a1), .val (.ref a2), .val (.ref b6), .val (.int (0 : Int32))] [(.ref x0), (.int (0 : Int32))])) rfl rfl (hb hby d10_15) _ ?_
      rw [own_len q12 (n := (3 : Int32)) rfl]
      show Steps p.tables e below (T9.setTop (mkF m 16 #[.val (.ref a1), .val (.ref a2), .val (.ref b6), .val (.int (0 : Int32))] [(.int (3 : Int32)), (.int (0 : Int32))])) _
      refine XS.icmpNo X9.here hx rfl (hb hby d10_16) rfl (tlt hc16_13).2.1 ?_
      show Steps p.tables e below (T9.setTop (mkF m 19 #[.val (.ref a1), .val (.ref a2), .val (.ref b6), .val (.int (0 : Int32))] [])) _
      refine XS.aloadN X9.here hx rfl (hb hby d10_19) rfl rfl ?_
      show Steps p.tables e below (T9.setTop (mkF m 20 #[.val (.ref a1), .val (.ref a2), .val (.ref b6), .val (.int (0 : Int32))] [(.ref b6)])) _
      refine XS.iloadN X9.here hx rfl (hb hby d10_20) rfl ?_
      show Steps p.tables e below (T9.setTop (mkF m 21 #[.val (.ref a1), .val (.ref a2), .val (.ref b6), .val (.int (0 : Int32))] [(.int (0 : Int32)), (.ref b6)])) _
      refine XS.aloadN X9.here hx rfl (hb hby d10_21) rfl rfl ?_
      show Steps p.tables e below (T9.setTop (mkF m 22 #[.val (.ref a1), .val (.ref a2), .val (.ref b6), .val (.int (0 : Int32))] [(.ref a2), (.int (0 : Int32)), (.ref b6)])) _
      refine XS.aloadN X9.here hx rfl (hb hby d10_22) rfl rfl ?_
      show Steps p.tables e below (T9.setTop (mkF m 23 #[.val (.ref a1), .val (.ref a2), .val (.ref b6), .val (.int (0 : Int32))] [(.ref a1), (.ref a2), (.int (0 : Int32)), (.ref b6)])) _
      exact kt)
  obtain ⟨T15, X15, e15, st15⟩ := getF X9 hx hZ hown (host := "") (Or.inl (own_h hw 87 rfl)) Via.refl e9 fq8 (g := (mkF m 23 #[.val (.ref a1), .val (.ref a2), .val (.ref b6), .val (.int (0 : Int32))] [(.ref a1), (.ref a2), (.int (0 : Int32)), (.ref b6)])) rfl rfl (hb hby d10_23)
  have go16 : ∀ t, Steps p.tables e below (T15.setTop (mkF m 27 #[.val (.ref a1), .val (.ref a2), .val (.ref b6), .val (.int (0 : Int32))] [(.int (0 : Int32)), (.ref x0), (.ref a2), (.int (0 : Int32)), (.ref b6)])) t → Steps p.tables e below (s₁.setTop (entryFrame m #[(.ref a1), (.ref a2)] 4)) t := fun t kt => go14 t (by
      refine st15 _ ?_
      show Steps p.tables e below (T15.setTop (mkF m 26 #[.val (.ref a1), .val (.ref a2), .val (.ref b6), .val (.int (0 : Int32))] [(.ref x0), (.ref a2), (.int (0 : Int32)), (.ref b6)])) _
      refine XS.iloadN X15.here hx rfl (hb hby d10_26) rfl ?_
      show Steps p.tables e below (T15.setTop (mkF m 27 #[.val (.ref a1), .val (.ref a2), .val (.ref b6), .val (.int (0 : Int32))] [(.int (0 : Int32)), (.ref x0), (.ref a2), (.int (0 : Int32)), (.ref b6)])) _
      exact kt)
  obtain ⟨c17, Ar17, q17⟩ := id fq11
  have go18 : ∀ t, Steps p.tables e below (T15.setTop (mkF m 28 #[.val (.ref a1), .val (.ref a2), .val (.ref b6), .val (.int (0 : Int32))] [(.int s0), (.ref a2), (.int (0 : Int32)), (.ref b6)])) t → Steps p.tables e below (s₁.setTop (entryFrame m #[(.ref a1), (.ref a2)] 4)) t := fun t kt => go16 t (by
      refine X15.iaload hx (j := (0 : Int32)) (v := (.int s0)) (by rw [e15]; exact Ar17.1) (State.isArrayOf_alike hZ.alike Ar17.2.1) Ar17.2.2 (own_inb q17 (n := 3) rfl (by decide) (by decide)) (own_get q17 (i := 0) (by decide) rfl) (g := (mkF m 27 #[.val (.ref a1), .val (.ref a2), .val (.ref b6), .val (.int (0 : Int32))] [(.int (0 : Int32)), (.ref x0), (.ref a2), (.int (0 : Int32)), (.ref b6)])) rfl rfl (hb hby d10_27) _ ?_
      show Steps p.tables e below (T15.setTop (mkF m 28 #[.val (.ref a1), .val (.ref a2), .val (.ref b6), .val (.int (0 : Int32))] [(.int s0), (.ref a2), (.int (0 : Int32)), (.ref b6)])) _
      exact kt)
  have fq19 := (VL.ext E6)
  obtain ⟨c20, Ar20, q20⟩ := id fq19
  have go21 : ∀ t, Steps p.tables e below (T15.setTop (mkF m 29 #[.val (.ref a1), .val (.ref a2), .val (.ref b6), .val (.int (0 : Int32))] [(.long (own_at s0 q0 q1 q2 q3)), (.int (0 : Int32)), (.ref b6)])) t → Steps p.tables e below (s₁.setTop (entryFrame m #[(.ref a1), (.ref a2)] 4)) t := fun t kt => go18 t (by
      refine X15.laload hx (j := s0) (v := (.long (own_at s0 q0 q1 q2 q3))) (by rw [e15]; exact Ar20.1) (State.isArrayOf_alike hZ.alike Ar20.2.1) Ar20.2.2 (own_inb q20 (n := 4) rfl hs0 k0) (own_get q20 rfl r0) (g := (mkF m 28 #[.val (.ref a1), .val (.ref a2), .val (.ref b6), .val (.int (0 : Int32))] [(.int s0), (.ref a2), (.int (0 : Int32)), (.ref b6)])) rfl rfl (hb hby d10_28) _ ?_
      show Steps p.tables e below (T15.setTop (mkF m 29 #[.val (.ref a1), .val (.ref a2), .val (.ref b6), .val (.int (0 : Int32))] [(.long (own_at s0 q0 q1 q2 q3)), (.int (0 : Int32)), (.ref b6)])) _
      exact kt)
  obtain ⟨c22, Ar22, q22⟩ := id V6
  obtain ⟨T22, h22, X22, e22, W22, st22⟩ := stJ X15 hx hZ e15 Ar22 (j := (0 : Int32)) (own_inb q22 (n := 3) rfl (by decide) (by decide)) (g := (mkF m 29 #[.val (.ref a1), .val (.ref a2), .val (.ref b6), .val (.int (0 : Int32))] [(.long (own_at s0 q0 q1 q2 q3)), (.int (0 : Int32)), (.ref b6)])) rfl rfl (hb hby d10_29)
  have V22 : own_AV Z h22 b6 .long [(.long (own_at s0 q0 q1 q2 q3)), (.long (0 : Int64)), (.long (0 : Int64))] := own_AV.set Ar22 q22 W22 (i := 0) (by decide) rfl
  obtain ⟨Ls22, X22, N22⟩ := own_loc X22 (Fr.snoc X22 N0 gb6)
  have go23 : ∀ t, Steps p.tables e below (T22.setTop (mkF m 33 #[.val (.ref a1), .val (.ref a2), .val (.ref b6), .val (.int ((0 : Int32) + (1 : Int32)))] [])) t → Steps p.tables e below (s₁.setTop (entryFrame m #[(.ref a1), (.ref a2)] 4)) t := fun t kt => go21 t (by
      refine st22 _ ?_
      show Steps p.tables e below (T22.setTop (mkF m 30 #[.val (.ref a1), .val (.ref a2), .val (.ref b6), .val (.int (0 : Int32))] [])) _
      refine XS.iinc X22.here hx rfl (hb hby d10_30) rfl (l' := #[.val (.ref a1), .val (.ref a2), .val (.ref b6), .val (.int ((0 : Int32) + (1 : Int32)))]) rfl ?_
      show Steps p.tables e below (T22.setTop (mkF m 33 #[.val (.ref a1), .val (.ref a2), .val (.ref b6), .val (.int ((0 : Int32) + (1 : Int32)))] [])) _
      exact kt)
  rw [show ((0 : Int32) + (1 : Int32)) = (1 : Int32) from by decide] at go23
  have go24 : ∀ t, Steps p.tables e below (T22.setTop (mkF m 12 #[.val (.ref a1), .val (.ref a2), .val (.ref b6), .val (.int (1 : Int32))] [(.ref a1), (.int (1 : Int32))])) t → Steps p.tables e below (s₁.setTop (entryFrame m #[(.ref a1), (.ref a2)] 4)) t := fun t kt => go23 t (by
      refine XS.goto X22.here hx rfl (pc0 := 33) (pc' := 10) rfl (hb hby d10_33) (by decide) (by decide) ?_
      show Steps p.tables e below (T22.setTop (mkF m 10 #[.val (.ref a1), .val (.ref a2), .val (.ref b6), .val (.int (1 : Int32))] [])) _
      refine XS.iloadN X22.here hx rfl (hb hby d10_10) rfl ?_
      show Steps p.tables e below (T22.setTop (mkF m 11 #[.val (.ref a1), .val (.ref a2), .val (.ref b6), .val (.int (1 : Int32))] [(.int (1 : Int32))])) _
      refine XS.aloadN X22.here hx rfl (hb hby d10_11) rfl rfl ?_
      show Steps p.tables e below (T22.setTop (mkF m 12 #[.val (.ref a1), .val (.ref a2), .val (.ref b6), .val (.int (1 : Int32))] [(.ref a1), (.int (1 : Int32))])) _
      exact kt)
  have fq25 := (fq8.other W22 (Or.inl ne_a1_b6))
  obtain ⟨T26, X26, e26, st26⟩ := getF X22 hx hZ hown (host := "") (Or.inl (own_h hw 87 rfl)) Via.refl e22 fq25 (g := (mkF m 12 #[.val (.ref a1), .val (.ref a2), .val (.ref b6), .val (.int (1 : Int32))] [(.ref a1), (.int (1 : Int32))])) rfl rfl (hb hby d10_12)
  have go27 : ∀ t, Steps p.tables e below (T26.setTop (mkF m 15 #[.val (.ref a1), .val (.ref a2), .val (.ref b6), .val (.int (1 : Int32))] [(.ref x0), (.int (1 : Int32))])) t → Steps p.tables e below (s₁.setTop (entryFrame m #[(.ref a1), (.ref a2)] 4)) t := fun t kt => go24 t (by
      refine st26 _ ?_
      show Steps p.tables e below (T26.setTop (mkF m 15 #[.val (.ref a1), .val (.ref a2), .val (.ref b6), .val (.int (1 : Int32))] [(.ref x0), (.int (1 : Int32))])) _
      exact kt)
  have fq28 := (fq11.other W22 ne_x0_b6)
  obtain ⟨c29, Ar29, q29⟩ := id fq28
  have hc16_30 : (1 : Int32) < (3 : Int32) := (by decide)
  have go31 : ∀ t, Steps p.tables e below (T26.setTop (mkF m 23 #[.val (.ref a1), .val (.ref a2), .val (.ref b6), .val (.int (1 : Int32))] [(.ref a1), (.ref a2), (.int (1 : Int32)), (.ref b6)])) t → Steps p.tables e below (s₁.setTop (entryFrame m #[(.ref a1), (.ref a2)] 4)) t := fun t kt => go27 t (by
      refine X26.arraylength hx (by rw [e26]; exact Ar29.1) (State.isArrayOf_alike hZ.alike Ar29.2.1) (g := (mkF m 15 #[.val (.ref a1), .val (.ref a2), .val (.ref b6), .val (.int (1 : Int32))] [(.ref x0), (.int (1 : Int32))])) rfl rfl (hb hby d10_15) _ ?_
      rw [own_len q29 (n := (3 : Int32)) rfl]
      show Steps p.tables e below (T26.setTop (mkF m 16 #[.val (.ref a1), .val (.ref a2), .val (.ref b6), .val (.int (1 : Int32))] [(.int (3 : Int32)), (.int (1 : Int32))])) _
      refine XS.icmpNo X26.here hx rfl (hb hby d10_16) rfl (tlt hc16_30).2.1 ?_
      show Steps p.tables e below (T26.setTop (mkF m 19 #[.val (.ref a1), .val (.ref a2), .val (.ref b6), .val (.int (1 : Int32))] [])) _
      refine XS.aloadN X26.here hx rfl (hb hby d10_19) rfl rfl ?_
      show Steps p.tables e below (T26.setTop (mkF m 20 #[.val (.ref a1), .val (.ref a2), .val (.ref b6), .val (.int (1 : Int32))] [(.ref b6)])) _
      refine XS.iloadN X26.here hx rfl (hb hby d10_20) rfl ?_
      show Steps p.tables e below (T26.setTop (mkF m 21 #[.val (.ref a1), .val (.ref a2), .val (.ref b6), .val (.int (1 : Int32))] [(.int (1 : Int32)), (.ref b6)])) _
      refine XS.aloadN X26.here hx rfl (hb hby d10_21) rfl rfl ?_
      show Steps p.tables e below (T26.setTop (mkF m 22 #[.val (.ref a1), .val (.ref a2), .val (.ref b6), .val (.int (1 : Int32))] [(.ref a2), (.int (1 : Int32)), (.ref b6)])) _
      refine XS.aloadN X26.here hx rfl (hb hby d10_22) rfl rfl ?_
      show Steps p.tables e below (T26.setTop (mkF m 23 #[.val (.ref a1), .val (.ref a2), .val (.ref b6), .val (.int (1 : Int32))] [(.ref a1), (.ref a2), (.int (1 : Int32)), (.ref b6)])) _
      exact kt)
  obtain ⟨T32, X32, e32, st32⟩ := getF X26 hx hZ hown (host := "") (Or.inl (own_h hw 87 rfl)) Via.refl e26 fq25 (g := (mkF m 23 #[.val (.ref a1), .val (.ref a2), .val (.ref b6), .val (.int (1 : Int32))] [(.ref a1), (.ref a2), (.int (1 : Int32)), (.ref b6)])) rfl rfl (hb hby d10_23)
  have go33 : ∀ t, Steps p.tables e below (T32.setTop (mkF m 27 #[.val (.ref a1), .val (.ref a2), .val (.ref b6), .val (.int (1 : Int32))] [(.int (1 : Int32)), (.ref x0), (.ref a2), (.int (1 : Int32)), (.ref b6)])) t → Steps p.tables e below (s₁.setTop (entryFrame m #[(.ref a1), (.ref a2)] 4)) t := fun t kt => go31 t (by
      refine st32 _ ?_
      show Steps p.tables e below (T32.setTop (mkF m 26 #[.val (.ref a1), .val (.ref a2), .val (.ref b6), .val (.int (1 : Int32))] [(.ref x0), (.ref a2), (.int (1 : Int32)), (.ref b6)])) _
      refine XS.iloadN X32.here hx rfl (hb hby d10_26) rfl ?_
      show Steps p.tables e below (T32.setTop (mkF m 27 #[.val (.ref a1), .val (.ref a2), .val (.ref b6), .val (.int (1 : Int32))] [(.int (1 : Int32)), (.ref x0), (.ref a2), (.int (1 : Int32)), (.ref b6)])) _
      exact kt)
  obtain ⟨c34, Ar34, q34⟩ := id fq28
  have go35 : ∀ t, Steps p.tables e below (T32.setTop (mkF m 28 #[.val (.ref a1), .val (.ref a2), .val (.ref b6), .val (.int (1 : Int32))] [(.int s1), (.ref a2), (.int (1 : Int32)), (.ref b6)])) t → Steps p.tables e below (s₁.setTop (entryFrame m #[(.ref a1), (.ref a2)] 4)) t := fun t kt => go33 t (by
      refine X32.iaload hx (j := (1 : Int32)) (v := (.int s1)) (by rw [e32]; exact Ar34.1) (State.isArrayOf_alike hZ.alike Ar34.2.1) Ar34.2.2 (own_inb q34 (n := 3) rfl (by decide) (by decide)) (own_get q34 (i := 1) (by decide) rfl) (g := (mkF m 27 #[.val (.ref a1), .val (.ref a2), .val (.ref b6), .val (.int (1 : Int32))] [(.int (1 : Int32)), (.ref x0), (.ref a2), (.int (1 : Int32)), (.ref b6)])) rfl rfl (hb hby d10_27) _ ?_
      show Steps p.tables e below (T32.setTop (mkF m 28 #[.val (.ref a1), .val (.ref a2), .val (.ref b6), .val (.int (1 : Int32))] [(.int s1), (.ref a2), (.int (1 : Int32)), (.ref b6)])) _
      exact kt)
  have fq36 := (fq19.other W22 ne_a2_b6)
  obtain ⟨c37, Ar37, q37⟩ := id fq36
  have go38 : ∀ t, Steps p.tables e below (T32.setTop (mkF m 29 #[.val (.ref a1), .val (.ref a2), .val (.ref b6), .val (.int (1 : Int32))] [(.long (own_at s1 q0 q1 q2 q3)), (.int (1 : Int32)), (.ref b6)])) t → Steps p.tables e below (s₁.setTop (entryFrame m #[(.ref a1), (.ref a2)] 4)) t := fun t kt => go35 t (by
      refine X32.laload hx (j := s1) (v := (.long (own_at s1 q0 q1 q2 q3))) (by rw [e32]; exact Ar37.1) (State.isArrayOf_alike hZ.alike Ar37.2.1) Ar37.2.2 (own_inb q37 (n := 4) rfl hs1 k1) (own_get q37 rfl r1) (g := (mkF m 28 #[.val (.ref a1), .val (.ref a2), .val (.ref b6), .val (.int (1 : Int32))] [(.int s1), (.ref a2), (.int (1 : Int32)), (.ref b6)])) rfl rfl (hb hby d10_28) _ ?_
      show Steps p.tables e below (T32.setTop (mkF m 29 #[.val (.ref a1), .val (.ref a2), .val (.ref b6), .val (.int (1 : Int32))] [(.long (own_at s1 q0 q1 q2 q3)), (.int (1 : Int32)), (.ref b6)])) _
      exact kt)
  obtain ⟨c39, Ar39, q39⟩ := id V22
  obtain ⟨T39, h39, X39, e39, W39, st39⟩ := stJ X32 hx hZ e32 Ar39 (j := (1 : Int32)) (own_inb q39 (n := 3) rfl (by decide) (by decide)) (g := (mkF m 29 #[.val (.ref a1), .val (.ref a2), .val (.ref b6), .val (.int (1 : Int32))] [(.long (own_at s1 q0 q1 q2 q3)), (.int (1 : Int32)), (.ref b6)])) rfl rfl (hb hby d10_29)
  have V39 : own_AV Z h39 b6 .long [(.long (own_at s0 q0 q1 q2 q3)), (.long (own_at s1 q0 q1 q2 q3)), (.long (0 : Int64))] := own_AV.set Ar39 q39 W39 (i := 1) (by decide) rfl
  obtain ⟨Ls39, X39, N39⟩ := own_loc X39 (Fr.snoc X39 N22 gb6)
  have go40 : ∀ t, Steps p.tables e below (T39.setTop (mkF m 33 #[.val (.ref a1), .val (.ref a2), .val (.ref b6), .val (.int ((1 : Int32) + (1 : Int32)))] [])) t → Steps p.tables e below (s₁.setTop (entryFrame m #[(.ref a1), (.ref a2)] 4)) t := fun t kt => go38 t (by
      refine st39 _ ?_
      show Steps p.tables e below (T39.setTop (mkF m 30 #[.val (.ref a1), .val (.ref a2), .val (.ref b6), .val (.int (1 : Int32))] [])) _
      refine XS.iinc X39.here hx rfl (hb hby d10_30) rfl (l' := #[.val (.ref a1), .val (.ref a2), .val (.ref b6), .val (.int ((1 : Int32) + (1 : Int32)))]) rfl ?_
      show Steps p.tables e below (T39.setTop (mkF m 33 #[.val (.ref a1), .val (.ref a2), .val (.ref b6), .val (.int ((1 : Int32) + (1 : Int32)))] [])) _
      exact kt)
  rw [show ((1 : Int32) + (1 : Int32)) = (2 : Int32) from by decide] at go40
  have go41 : ∀ t, Steps p.tables e below (T39.setTop (mkF m 12 #[.val (.ref a1), .val (.ref a2), .val (.ref b6), .val (.int (2 : Int32))] [(.ref a1), (.int (2 : Int32))])) t → Steps p.tables e below (s₁.setTop (entryFrame m #[(.ref a1), (.ref a2)] 4)) t := fun t kt => go40 t (by
      refine XS.goto X39.here hx rfl (pc0 := 33) (pc' := 10) rfl (hb hby d10_33) (by decide) (by decide) ?_
      show Steps p.tables e below (T39.setTop (mkF m 10 #[.val (.ref a1), .val (.ref a2), .val (.ref b6), .val (.int (2 : Int32))] [])) _
      refine XS.iloadN X39.here hx rfl (hb hby d10_10) rfl ?_
      show Steps p.tables e below (T39.setTop (mkF m 11 #[.val (.ref a1), .val (.ref a2), .val (.ref b6), .val (.int (2 : Int32))] [(.int (2 : Int32))])) _
      refine XS.aloadN X39.here hx rfl (hb hby d10_11) rfl rfl ?_
      show Steps p.tables e below (T39.setTop (mkF m 12 #[.val (.ref a1), .val (.ref a2), .val (.ref b6), .val (.int (2 : Int32))] [(.ref a1), (.int (2 : Int32))])) _
      exact kt)
  have fq42 := (fq25.other W39 (Or.inl ne_a1_b6))
  obtain ⟨T43, X43, e43, st43⟩ := getF X39 hx hZ hown (host := "") (Or.inl (own_h hw 87 rfl)) Via.refl e39 fq42 (g := (mkF m 12 #[.val (.ref a1), .val (.ref a2), .val (.ref b6), .val (.int (2 : Int32))] [(.ref a1), (.int (2 : Int32))])) rfl rfl (hb hby d10_12)
  have go44 : ∀ t, Steps p.tables e below (T43.setTop (mkF m 15 #[.val (.ref a1), .val (.ref a2), .val (.ref b6), .val (.int (2 : Int32))] [(.ref x0), (.int (2 : Int32))])) t → Steps p.tables e below (s₁.setTop (entryFrame m #[(.ref a1), (.ref a2)] 4)) t := fun t kt => go41 t (by
      refine st43 _ ?_
      show Steps p.tables e below (T43.setTop (mkF m 15 #[.val (.ref a1), .val (.ref a2), .val (.ref b6), .val (.int (2 : Int32))] [(.ref x0), (.int (2 : Int32))])) _
      exact kt)
  have fq45 := (fq28.other W39 ne_x0_b6)
  obtain ⟨c46, Ar46, q46⟩ := id fq45
  have hc16_47 : (2 : Int32) < (3 : Int32) := (by decide)
  have go48 : ∀ t, Steps p.tables e below (T43.setTop (mkF m 23 #[.val (.ref a1), .val (.ref a2), .val (.ref b6), .val (.int (2 : Int32))] [(.ref a1), (.ref a2), (.int (2 : Int32)), (.ref b6)])) t → Steps p.tables e below (s₁.setTop (entryFrame m #[(.ref a1), (.ref a2)] 4)) t := fun t kt => go44 t (by
      refine X43.arraylength hx (by rw [e43]; exact Ar46.1) (State.isArrayOf_alike hZ.alike Ar46.2.1) (g := (mkF m 15 #[.val (.ref a1), .val (.ref a2), .val (.ref b6), .val (.int (2 : Int32))] [(.ref x0), (.int (2 : Int32))])) rfl rfl (hb hby d10_15) _ ?_
      rw [own_len q46 (n := (3 : Int32)) rfl]
      show Steps p.tables e below (T43.setTop (mkF m 16 #[.val (.ref a1), .val (.ref a2), .val (.ref b6), .val (.int (2 : Int32))] [(.int (3 : Int32)), (.int (2 : Int32))])) _
      refine XS.icmpNo X43.here hx rfl (hb hby d10_16) rfl (tlt hc16_47).2.1 ?_
      show Steps p.tables e below (T43.setTop (mkF m 19 #[.val (.ref a1), .val (.ref a2), .val (.ref b6), .val (.int (2 : Int32))] [])) _
      refine XS.aloadN X43.here hx rfl (hb hby d10_19) rfl rfl ?_
      show Steps p.tables e below (T43.setTop (mkF m 20 #[.val (.ref a1), .val (.ref a2), .val (.ref b6), .val (.int (2 : Int32))] [(.ref b6)])) _
      refine XS.iloadN X43.here hx rfl (hb hby d10_20) rfl ?_
      show Steps p.tables e below (T43.setTop (mkF m 21 #[.val (.ref a1), .val (.ref a2), .val (.ref b6), .val (.int (2 : Int32))] [(.int (2 : Int32)), (.ref b6)])) _
      refine XS.aloadN X43.here hx rfl (hb hby d10_21) rfl rfl ?_
      show Steps p.tables e below (T43.setTop (mkF m 22 #[.val (.ref a1), .val (.ref a2), .val (.ref b6), .val (.int (2 : Int32))] [(.ref a2), (.int (2 : Int32)), (.ref b6)])) _
      refine XS.aloadN X43.here hx rfl (hb hby d10_22) rfl rfl ?_
      show Steps p.tables e below (T43.setTop (mkF m 23 #[.val (.ref a1), .val (.ref a2), .val (.ref b6), .val (.int (2 : Int32))] [(.ref a1), (.ref a2), (.int (2 : Int32)), (.ref b6)])) _
      exact kt)
  obtain ⟨T49, X49, e49, st49⟩ := getF X43 hx hZ hown (host := "") (Or.inl (own_h hw 87 rfl)) Via.refl e43 fq42 (g := (mkF m 23 #[.val (.ref a1), .val (.ref a2), .val (.ref b6), .val (.int (2 : Int32))] [(.ref a1), (.ref a2), (.int (2 : Int32)), (.ref b6)])) rfl rfl (hb hby d10_23)
  have go50 : ∀ t, Steps p.tables e below (T49.setTop (mkF m 27 #[.val (.ref a1), .val (.ref a2), .val (.ref b6), .val (.int (2 : Int32))] [(.int (2 : Int32)), (.ref x0), (.ref a2), (.int (2 : Int32)), (.ref b6)])) t → Steps p.tables e below (s₁.setTop (entryFrame m #[(.ref a1), (.ref a2)] 4)) t := fun t kt => go48 t (by
      refine st49 _ ?_
      show Steps p.tables e below (T49.setTop (mkF m 26 #[.val (.ref a1), .val (.ref a2), .val (.ref b6), .val (.int (2 : Int32))] [(.ref x0), (.ref a2), (.int (2 : Int32)), (.ref b6)])) _
      refine XS.iloadN X49.here hx rfl (hb hby d10_26) rfl ?_
      show Steps p.tables e below (T49.setTop (mkF m 27 #[.val (.ref a1), .val (.ref a2), .val (.ref b6), .val (.int (2 : Int32))] [(.int (2 : Int32)), (.ref x0), (.ref a2), (.int (2 : Int32)), (.ref b6)])) _
      exact kt)
  obtain ⟨c51, Ar51, q51⟩ := id fq45
  have go52 : ∀ t, Steps p.tables e below (T49.setTop (mkF m 28 #[.val (.ref a1), .val (.ref a2), .val (.ref b6), .val (.int (2 : Int32))] [(.int s2), (.ref a2), (.int (2 : Int32)), (.ref b6)])) t → Steps p.tables e below (s₁.setTop (entryFrame m #[(.ref a1), (.ref a2)] 4)) t := fun t kt => go50 t (by
      refine X49.iaload hx (j := (2 : Int32)) (v := (.int s2)) (by rw [e49]; exact Ar51.1) (State.isArrayOf_alike hZ.alike Ar51.2.1) Ar51.2.2 (own_inb q51 (n := 3) rfl (by decide) (by decide)) (own_get q51 (i := 2) (by decide) rfl) (g := (mkF m 27 #[.val (.ref a1), .val (.ref a2), .val (.ref b6), .val (.int (2 : Int32))] [(.int (2 : Int32)), (.ref x0), (.ref a2), (.int (2 : Int32)), (.ref b6)])) rfl rfl (hb hby d10_27) _ ?_
      show Steps p.tables e below (T49.setTop (mkF m 28 #[.val (.ref a1), .val (.ref a2), .val (.ref b6), .val (.int (2 : Int32))] [(.int s2), (.ref a2), (.int (2 : Int32)), (.ref b6)])) _
      exact kt)
  have fq53 := (fq36.other W39 ne_a2_b6)
  obtain ⟨c54, Ar54, q54⟩ := id fq53
  have go55 : ∀ t, Steps p.tables e below (T49.setTop (mkF m 29 #[.val (.ref a1), .val (.ref a2), .val (.ref b6), .val (.int (2 : Int32))] [(.long (own_at s2 q0 q1 q2 q3)), (.int (2 : Int32)), (.ref b6)])) t → Steps p.tables e below (s₁.setTop (entryFrame m #[(.ref a1), (.ref a2)] 4)) t := fun t kt => go52 t (by
      refine X49.laload hx (j := s2) (v := (.long (own_at s2 q0 q1 q2 q3))) (by rw [e49]; exact Ar54.1) (State.isArrayOf_alike hZ.alike Ar54.2.1) Ar54.2.2 (own_inb q54 (n := 4) rfl hs2 k2) (own_get q54 rfl r2) (g := (mkF m 28 #[.val (.ref a1), .val (.ref a2), .val (.ref b6), .val (.int (2 : Int32))] [(.int s2), (.ref a2), (.int (2 : Int32)), (.ref b6)])) rfl rfl (hb hby d10_28) _ ?_
      show Steps p.tables e below (T49.setTop (mkF m 29 #[.val (.ref a1), .val (.ref a2), .val (.ref b6), .val (.int (2 : Int32))] [(.long (own_at s2 q0 q1 q2 q3)), (.int (2 : Int32)), (.ref b6)])) _
      exact kt)
  obtain ⟨c56, Ar56, q56⟩ := id V39
  obtain ⟨T56, h56, X56, e56, W56, st56⟩ := stJ X49 hx hZ e49 Ar56 (j := (2 : Int32)) (own_inb q56 (n := 3) rfl (by decide) (by decide)) (g := (mkF m 29 #[.val (.ref a1), .val (.ref a2), .val (.ref b6), .val (.int (2 : Int32))] [(.long (own_at s2 q0 q1 q2 q3)), (.int (2 : Int32)), (.ref b6)])) rfl rfl (hb hby d10_29)
  have V56 : own_AV Z h56 b6 .long [(.long (own_at s0 q0 q1 q2 q3)), (.long (own_at s1 q0 q1 q2 q3)), (.long (own_at s2 q0 q1 q2 q3))] := own_AV.set Ar56 q56 W56 (i := 2) (by decide) rfl
  obtain ⟨Ls56, X56, N56⟩ := own_loc X56 (Fr.snoc X56 N39 gb6)
  have go57 : ∀ t, Steps p.tables e below (T56.setTop (mkF m 33 #[.val (.ref a1), .val (.ref a2), .val (.ref b6), .val (.int ((2 : Int32) + (1 : Int32)))] [])) t → Steps p.tables e below (s₁.setTop (entryFrame m #[(.ref a1), (.ref a2)] 4)) t := fun t kt => go55 t (by
      refine st56 _ ?_
      show Steps p.tables e below (T56.setTop (mkF m 30 #[.val (.ref a1), .val (.ref a2), .val (.ref b6), .val (.int (2 : Int32))] [])) _
      refine XS.iinc X56.here hx rfl (hb hby d10_30) rfl (l' := #[.val (.ref a1), .val (.ref a2), .val (.ref b6), .val (.int ((2 : Int32) + (1 : Int32)))]) rfl ?_
      show Steps p.tables e below (T56.setTop (mkF m 33 #[.val (.ref a1), .val (.ref a2), .val (.ref b6), .val (.int ((2 : Int32) + (1 : Int32)))] [])) _
      exact kt)
  rw [show ((2 : Int32) + (1 : Int32)) = (3 : Int32) from by decide] at go57
  have go58 : ∀ t, Steps p.tables e below (T56.setTop (mkF m 12 #[.val (.ref a1), .val (.ref a2), .val (.ref b6), .val (.int (3 : Int32))] [(.ref a1), (.int (3 : Int32))])) t → Steps p.tables e below (s₁.setTop (entryFrame m #[(.ref a1), (.ref a2)] 4)) t := fun t kt => go57 t (by
      refine XS.goto X56.here hx rfl (pc0 := 33) (pc' := 10) rfl (hb hby d10_33) (by decide) (by decide) ?_
      show Steps p.tables e below (T56.setTop (mkF m 10 #[.val (.ref a1), .val (.ref a2), .val (.ref b6), .val (.int (3 : Int32))] [])) _
      refine XS.iloadN X56.here hx rfl (hb hby d10_10) rfl ?_
      show Steps p.tables e below (T56.setTop (mkF m 11 #[.val (.ref a1), .val (.ref a2), .val (.ref b6), .val (.int (3 : Int32))] [(.int (3 : Int32))])) _
      refine XS.aloadN X56.here hx rfl (hb hby d10_11) rfl rfl ?_
      show Steps p.tables e below (T56.setTop (mkF m 12 #[.val (.ref a1), .val (.ref a2), .val (.ref b6), .val (.int (3 : Int32))] [(.ref a1), (.int (3 : Int32))])) _
      exact kt)
  have fq59 := (fq42.other W56 (Or.inl ne_a1_b6))
  obtain ⟨T60, X60, e60, st60⟩ := getF X56 hx hZ hown (host := "") (Or.inl (own_h hw 87 rfl)) Via.refl e56 fq59 (g := (mkF m 12 #[.val (.ref a1), .val (.ref a2), .val (.ref b6), .val (.int (3 : Int32))] [(.ref a1), (.int (3 : Int32))])) rfl rfl (hb hby d10_12)
  have go61 : ∀ t, Steps p.tables e below (T60.setTop (mkF m 15 #[.val (.ref a1), .val (.ref a2), .val (.ref b6), .val (.int (3 : Int32))] [(.ref x0), (.int (3 : Int32))])) t → Steps p.tables e below (s₁.setTop (entryFrame m #[(.ref a1), (.ref a2)] 4)) t := fun t kt => go58 t (by
      refine st60 _ ?_
      show Steps p.tables e below (T60.setTop (mkF m 15 #[.val (.ref a1), .val (.ref a2), .val (.ref b6), .val (.int (3 : Int32))] [(.ref x0), (.int (3 : Int32))])) _
      exact kt)
  have fq62 := (fq45.other W56 ne_x0_b6)
  obtain ⟨c63, Ar63, q63⟩ := id fq62
  have hc16_64 : ¬ ((3 : Int32) < (3 : Int32)) := (by decide)
  have go65 : ∀ t, Steps p.tables e below (T60.setTop (mkF m 37 #[.val (.ref a1), .val (.ref a2), .val (.ref b6), .val (.int (3 : Int32))] [(.ref b6)])) t → Steps p.tables e below (s₁.setTop (entryFrame m #[(.ref a1), (.ref a2)] 4)) t := fun t kt => go61 t (by
      refine X60.arraylength hx (by rw [e60]; exact Ar63.1) (State.isArrayOf_alike hZ.alike Ar63.2.1) (g := (mkF m 15 #[.val (.ref a1), .val (.ref a2), .val (.ref b6), .val (.int (3 : Int32))] [(.ref x0), (.int (3 : Int32))])) rfl rfl (hb hby d10_15) _ ?_
      rw [own_len q63 (n := (3 : Int32)) rfl]
      show Steps p.tables e below (T60.setTop (mkF m 16 #[.val (.ref a1), .val (.ref a2), .val (.ref b6), .val (.int (3 : Int32))] [(.int (3 : Int32)), (.int (3 : Int32))])) _
      refine XS.icmpYes X60.here hx rfl (pc0 := 16) (pc' := 36) rfl (hb hby d10_16) rfl (flt hc16_64).2.1 (by decide) (by decide) ?_
      show Steps p.tables e below (T60.setTop (mkF m 36 #[.val (.ref a1), .val (.ref a2), .val (.ref b6), .val (.int (3 : Int32))] [])) _
      refine XS.aloadN X60.here hx rfl (hb hby d10_36) rfl rfl ?_
      show Steps p.tables e below (T60.setTop (mkF m 37 #[.val (.ref a1), .val (.ref a2), .val (.ref b6), .val (.int (3 : Int32))] [(.ref b6)])) _
      exact kt)
  obtain ⟨fs, hr, hrun, hended, hW, hsame⟩ := X60.leave (v := some (.ref b6)) (fun h => by rw [Bd.returns] at h; cases h)
  refine ⟨_, _, go65 _ (X60.areturnOut hx rfl Bd.returns rfl (hb hby d10_37) hr), hrun, hended, _, _, rfl, ?_, ⟨_, rfl⟩, hW, hsame.mono (by decide) (by decide)⟩
  show own_QV _ _ _ _ _ T60.heap _
  rw [e60]
  have kp66 := ((Keep.refl h0 []).ext E6)
  have kp67 := (kp66.wr W22 (Or.inr sz6))
  have kp68 := (kp67.wr W39 (Or.inr sz6))
  exact ⟨b6, rfl, N56, (kp68.wr W56 (Or.inr sz6)), V56, sz6⟩
theorem own_n4 (x : Int32) : (x &&& (3 : Int32)) = (0 : Int32) ∨ (x &&& (3 : Int32)) = (1 : Int32) ∨ (x &&& (3 : Int32)) = (2 : Int32) ∨ (x &&& (3 : Int32)) = (3 : Int32) := by
  have e := c_mask x 3 2 (by decide) (by decide)
  rw [← Int32.toInt_inj, ← Int32.toInt_inj, ← Int32.toInt_inj, ← Int32.toInt_inj, e]
  show _ = 0 ∨ _ = 1 ∨ _ = 2 ∨ _ = 3
  omega
theorem own_slot (x : Int32) (q0 q1 q2 q3 : Int64) : ¬ (x &&& (3 : Int32)) < 0 ∧ (x &&& (3 : Int32)).toNatClampNeg < 4 ∧ ([(.long q0), (.long q1), (.long q2), (.long q3)] : List Value)[(x &&& (3 : Int32)).toNatClampNeg]? = some (.long (own_at (x &&& (3 : Int32)) q0 q1 q2 q3)) := by
  rcases own_n4 x with h | h | h | h <;> rw [h] <;> exact ⟨by decide, by decide, rfl⟩
theorem own_start (s : State) (args : Array Value) (hw : ∀ d ∈ tables_1, d.before args s = true) (hs : ∀ w ∈ jdkStatics_1, w.before args s = true) : ∃ dd, Sta s s.heap "java/util/ArrayList" "DEFAULTCAPACITY_EMPTY_ELEMENTDATA" "[Ljava/lang/Object;" (.ref dd) ∧ own_AV s s.heap dd (.object "java/lang/Object") [] := by
  have w2 := hs _ (List.mem_of_getElem? (i := 2) rfl)
  have w6 := hs _ (List.mem_of_getElem? (i := 6) rfl)
  have w8 := hs _ (List.mem_of_getElem? (i := 8) rfl)
  have hlen := Cond.eq_int w8 rfl
  obtain ⟨dd, cl, hev, hat, hz⟩ := Term.length_spec hlen
  have h31 := SBG.length_lt hev hat hlen
  obtain ⟨c, A⟩ := Arr.start hev (Cond.before_iff.mp w6)
  have hc : cl = c := Option.some.inj (hat.symm.trans (A.fin (Vm.Alike.refl _)))
  subst hc
  refine ⟨dd, Sta.start hev (Or.inr ⟨(own_h hw 43 rfl), w2⟩), cl, A, ?_⟩
  have e : (0 : Int32) = cl.slots.size.toInt32 := Value.int.inj hz
  have e2 := congrArg Int32.toInt e
  rw [show cl.slots.size.toInt32 = Int32.ofNat cl.slots.size from rfl, Int32.toInt_ofNat_small h31] at e2
  have e3 : cl.slots.size = 0 := by
    have : (0 : Int32).toInt = 0 := by decide
    omega
  exact List.length_eq_zero_iff.mp (by simpa using e3)
abbrev own_m20 : MethodName := ⟨"com/example/invariant_ink/invariantink/lang/RangeType", "<init>", "(JJ)V"⟩
abbrev own_m21 : MethodName := ⟨"com/example/invariant_ink/invariantink/lang/Local", "<init>", "(Ljava/lang/String;Lcom/example/invariant_ink/invariantink/lang/Local$Kind;ILcom/example/invariant_ink/invariantink/lang/Type;Lcom/example/invariant_ink/invariantink/lang/Position;)V"⟩
abbrev own_m22 : MethodName := ⟨"java/util/ArrayList", "<init>", "()V"⟩
abbrev own_m23 : MethodName := ⟨"com/example/invariant_ink/invariantink/engine/Combinations", "<init>", "(Ljava/util/List;)V"⟩
abbrev own_m24 : MethodName := ⟨"com/example/invariant_ink/invariantink/engine/Combinations", "values", "([J)[J"⟩
abbrev own_m25 : MethodName := ⟨"java/util/ArrayList", "add", "(Ljava/lang/Object;)Z"⟩
abbrev own_m26 : MethodName := ⟨"com/example/invariant_ink/invariantink/engine/CombinationsValuesPinLaw", "at", "(IJJJJ)J"⟩
theorem pn_0 : plainName "com/example/invariant_ink/invariantink/engine/CombinationsValuesPinLaw" = true := by first | (simp [plainName, overriddenIn]; done) | decide +kernel
theorem ef_0 (m : MethodId) (q0 : Int64) (q1 : Int64) (q2 : Int64) (q3 : Int64) (p4 : Int32) (p5 : Int32) : entryFrame m #[(.long q0), (.long q1), (.long q2), (.long q3), (.int p4), (.int p5)] maxLocals = mkF m 0 #[.val (.long q0), .second, .val (.long q1), .second, .val (.long q2), .second, .val (.long q3), .second, .val (.int p4), .val (.int p5), .unset, .unset, .unset, .unset, .unset, .unset, .unset, .unset, .unset, .unset, .unset, .unset, .unset] [] := by first | (simp [entryFrame, mkF, argsToLocals, Value.category, maxLocals]; done) | rfl
set_option maxRecDepth 65536 in
set_option maxHeartbeats 40000000 in
theorem rm0 (l : Launch) (Z : State) (a0 : Array Value) (hw : ∀ d ∈ tables_1, d.before a0 Z = true) (ws : List Jvm.Cond) (q0 q1 q2 q3 : Int64) (p4 p5 : Int32) (dd : Addr) (h0 : Heap) (n0 : Nat) (Z0 : n0 ≤ h0.size) (Old1 : Old Z n0 h0) (SS : Sta Z Z.heap "java/util/ArrayList" "DEFAULTCAPACITY_EMPTY_ELEMENTDATA" "[Ljava/lang/Object;" (.ref dd)) (DV0 : own_AV Z h0 dd (.object "java/lang/Object") []) :
    MetFree l x (head1 (Jvm.Cond.code x code maxLocals ret :: ws) room_1) (fun a U => a = #[(.long q0), (.long q1), (.long q2), (.long q3), (.int p4), (.int p5)] ∧ Z.Warmed39 U.vm ∧ U.heap = h0) (fun _ _ _ _ _ => True) (fun _ U o U' => ∃ v L, o = .returned v ∧ own_Q0 n0 v U'.heap L ∧ ReturnedEndW U o U' L room_1.cells room_1.slots) := by
  refine MetFree.of_bodySF (plainFor_of_name pn_0) hisR ?_
  intro p e s m args below meth c s₁ Bd hml0 hP hK
  obtain ⟨rfl, hZ, hh⟩ := hP
  have hx := Bd.exec
  have hby := Bd.bytes
  have hml : c.maxLocals = 23 := hml0
  have hown : s.vm.findClass "com/example/invariant_ink/invariantink/engine/CombinationsValuesPinLaw" = some m.cls := findClass_of_methodNamed Bd.named
  have hnm := (name_of_methodNamed Bd.named Bd.method).1
  have X0 : Stand p l e room_1 s m #[(.long q0), (.long q1), (.long q2), (.long q3), (.int p4), (.int p5)] below meth c s₁ [] 0 0 := Stand.of_body Bd
  have e0 : s₁.heap = h0 := by rw [← hh, Bd.state]; rfl
  have N0 := Fr.nil n0
  have go0 : ∀ t, Steps p.tables e below (s₁.setTop (mkF m 0 #[.val (.long q0), .second, .val (.long q1), .second, .val (.long q2), .second, .val (.long q3), .second, .val (.int p4), .val (.int p5), .unset, .unset, .unset, .unset, .unset, .unset, .unset, .unset, .unset, .unset, .unset, .unset, .unset] [])) t → Steps p.tables e below (s₁.setTop (entryFrame m #[(.long q0), (.long q1), (.long q2), (.long q3), (.int p4), (.int p5)] maxLocals)) t := fun t k => castTop (ef_0 m q0 q1 q2 q3 p4 p5) k
  have XW : Stand p l e room_1 (s.setVm s.vm) m #[(.long q0), (.long q1), (.long q2), (.long q3), (.int p4), (.int p5)] below meth c s₁ [] 0 0 := X0
  have HS : s.Since s.vm 0 := (State.WarmedH.refl s).since 0
  have HK : 0 ≤ h0.size := Nat.zero_le _
  have hZW : Z.Warmed39 (s.setVm s.vm).vm := hZ
  have hownW : (s.setVm s.vm).vm.findClass "com/example/invariant_ink/invariantink/engine/CombinationsValuesPinLaw" = some m.cls := hown
  have go1 : ∀ t, Steps p.tables e below (s₁.setTop (mkF m 29 #[.val (.long q0), .second, .val (.long q1), .second, .val (.long q2), .second, .val (.long q3), .second, .val (.int p4), .val (.int p5), .val (.int (p5 &&& (3 : Int32))), .val (.int (p4 &&& (3 : Int32))), .val (.int (((p4.toUInt32 >>> ((2 : Int32) &&& 31).toUInt32).toInt32) &&& (3 : Int32))), .val (.int (((p4.toUInt32 >>> ((4 : Int32) &&& 31).toUInt32).toInt32) &&& (3 : Int32))), .unset, .unset, .unset, .unset, .unset, .unset, .unset, .unset, .unset] [(.int (4 : Int32))])) t → Steps p.tables e below (s₁.setTop (entryFrame m #[(.long q0), (.long q1), (.long q2), (.long q3), (.int p4), (.int p5)] maxLocals)) t := fun t kt => go0 t (by
      refine XS.iload XW.here hx rfl (hb hby at_0) rfl ?_
      refine XS.iconst XW.here hx rfl (hb hby at_2) ?_
      refine XS.iand XW.here hx rfl (hb hby at_3) rfl ?_
      refine XS.istore XW.here hx rfl (hb hby at_4) rfl (l' := #[.val (.long q0), .second, .val (.long q1), .second, .val (.long q2), .second, .val (.long q3), .second, .val (.int p4), .val (.int p5), .val (.int (p5 &&& (3 : Int32))), .unset, .unset, .unset, .unset, .unset, .unset, .unset, .unset, .unset, .unset, .unset, .unset]) rfl ?_
      refine XS.iload XW.here hx rfl (hb hby at_6) rfl ?_
      refine XS.iconst XW.here hx rfl (hb hby at_8) ?_
      refine XS.iand XW.here hx rfl (hb hby at_9) rfl ?_
      refine XS.istore XW.here hx rfl (hb hby at_10) rfl (l' := #[.val (.long q0), .second, .val (.long q1), .second, .val (.long q2), .second, .val (.long q3), .second, .val (.int p4), .val (.int p5), .val (.int (p5 &&& (3 : Int32))), .val (.int (p4 &&& (3 : Int32))), .unset, .unset, .unset, .unset, .unset, .unset, .unset, .unset, .unset, .unset, .unset]) rfl ?_
      show Steps p.tables e below (s₁.setTop (mkF m 12 #[.val (.long q0), .second, .val (.long q1), .second, .val (.long q2), .second, .val (.long q3), .second, .val (.int p4), .val (.int p5), .val (.int (p5 &&& (3 : Int32))), .val (.int (p4 &&& (3 : Int32))), .unset, .unset, .unset, .unset, .unset, .unset, .unset, .unset, .unset, .unset, .unset] [])) _
      refine XS.iload XW.here hx rfl (hb hby at_12) rfl ?_
      refine XS.iconst XW.here hx rfl (hb hby at_14) ?_
      refine XS.iushr XW.here hx rfl (hb hby at_15) rfl ?_
      refine XS.iconst XW.here hx rfl (hb hby at_16) ?_
      refine XS.iand XW.here hx rfl (hb hby at_17) rfl ?_
      refine XS.istore XW.here hx rfl (hb hby at_18) rfl (l' := #[.val (.long q0), .second, .val (.long q1), .second, .val (.long q2), .second, .val (.long q3), .second, .val (.int p4), .val (.int p5), .val (.int (p5 &&& (3 : Int32))), .val (.int (p4 &&& (3 : Int32))), .val (.int (((p4.toUInt32 >>> ((2 : Int32) &&& 31).toUInt32).toInt32) &&& (3 : Int32))), .unset, .unset, .unset, .unset, .unset, .unset, .unset, .unset, .unset, .unset]) rfl ?_
      refine XS.iload XW.here hx rfl (hb hby at_20) rfl ?_
      refine XS.iconst XW.here hx rfl (hb hby at_22) ?_
      show Steps p.tables e below (s₁.setTop (mkF m 23 #[.val (.long q0), .second, .val (.long q1), .second, .val (.long q2), .second, .val (.long q3), .second, .val (.int p4), .val (.int p5), .val (.int (p5 &&& (3 : Int32))), .val (.int (p4 &&& (3 : Int32))), .val (.int (((p4.toUInt32 >>> ((2 : Int32) &&& 31).toUInt32).toInt32) &&& (3 : Int32))), .unset, .unset, .unset, .unset, .unset, .unset, .unset, .unset, .unset, .unset] [(.int (4 : Int32)), (.int p4)])) _
      refine XS.iushr XW.here hx rfl (hb hby at_23) rfl ?_
      refine XS.iconst XW.here hx rfl (hb hby at_24) ?_
      refine XS.iand XW.here hx rfl (hb hby at_25) rfl ?_
      refine XS.istore XW.here hx rfl (hb hby at_26) rfl (l' := #[.val (.long q0), .second, .val (.long q1), .second, .val (.long q2), .second, .val (.long q3), .second, .val (.int p4), .val (.int p5), .val (.int (p5 &&& (3 : Int32))), .val (.int (p4 &&& (3 : Int32))), .val (.int (((p4.toUInt32 >>> ((2 : Int32) &&& 31).toUInt32).toInt32) &&& (3 : Int32))), .val (.int (((p4.toUInt32 >>> ((4 : Int32) &&& 31).toUInt32).toInt32) &&& (3 : Int32))), .unset, .unset, .unset, .unset, .unset, .unset, .unset, .unset, .unset]) rfl ?_
      refine XS.iconst XW.here hx rfl (hb hby at_28) ?_
      exact kt)
  obtain ⟨T2, h2, k2, X2, e2, E2, A2, st2⟩ := newP XW hx hZW (own_h hw 0 rfl) e0 (g := (mkF m 29 #[.val (.long q0), .second, .val (.long q1), .second, .val (.long q2), .second, .val (.long q3), .second, .val (.int p4), .val (.int p5), .val (.int (p5 &&& (3 : Int32))), .val (.int (p4 &&& (3 : Int32))), .val (.int (((p4.toUInt32 >>> ((2 : Int32) &&& 31).toUInt32).toInt32) &&& (3 : Int32))), .val (.int (((p4.toUInt32 >>> ((4 : Int32) &&& 31).toUInt32).toInt32) &&& (3 : Int32))), .unset, .unset, .unset, .unset, .unset, .unset, .unset, .unset, .unset] [(.int (4 : Int32))])) rfl (hb hby at_29) rfl (by decide) (cap := 4) (by decide) (by decide) (by decide) (by decide)
  obtain ⟨b2, g2⟩ : ∃ z, z = h0.size := ⟨_, rfl⟩
  rw [← g2] at A2 st2
  have ks2 : h0.size ≤ h0.size := Nat.le_refl _
  have sz2 : h0.size ≤ b2 := Nat.le_trans ks2 (Nat.le_of_eq g2.symm)
  have ne_dd_b2 : dd ≠ b2 := Nat.ne_of_lt (Nat.lt_of_lt_of_le DV0.lt (Nat.le_of_eq g2.symm))
  have V2 : own_AV Z h2 b2 .long [(.long (0 : Int64)), (.long (0 : Int64)), (.long (0 : Int64)), (.long (0 : Int64))] := own_AV.new A2 (i := 4) (by decide)
  have gb2 : n0 ≤ b2 := Nat.le_trans Z0 (Nat.le_of_eq g2.symm)
  have go3 : ∀ t, Steps p.tables e below (T2.setTop (mkF m 37 #[.val (.long q0), .second, .val (.long q1), .second, .val (.long q2), .second, .val (.long q3), .second, .val (.int p4), .val (.int p5), .val (.int (p5 &&& (3 : Int32))), .val (.int (p4 &&& (3 : Int32))), .val (.int (((p4.toUInt32 >>> ((2 : Int32) &&& 31).toUInt32).toInt32) &&& (3 : Int32))), .val (.int (((p4.toUInt32 >>> ((4 : Int32) &&& 31).toUInt32).toInt32) &&& (3 : Int32))), .val (.ref b2), .unset, .unset, .unset, .unset, .unset, .unset, .unset, .unset] [(.long q0), (.int (0 : Int32)), (.ref b2)])) t → Steps p.tables e below (s₁.setTop (entryFrame m #[(.long q0), (.long q1), (.long q2), (.long q3), (.int p4), (.int p5)] maxLocals)) t := fun t kt => go1 t (by
      refine st2 _ ?_
      refine XS.astore X2.here hx rfl (hb hby at_31) rfl rfl (l' := #[.val (.long q0), .second, .val (.long q1), .second, .val (.long q2), .second, .val (.long q3), .second, .val (.int p4), .val (.int p5), .val (.int (p5 &&& (3 : Int32))), .val (.int (p4 &&& (3 : Int32))), .val (.int (((p4.toUInt32 >>> ((2 : Int32) &&& 31).toUInt32).toInt32) &&& (3 : Int32))), .val (.int (((p4.toUInt32 >>> ((4 : Int32) &&& 31).toUInt32).toInt32) &&& (3 : Int32))), .val (.ref b2), .unset, .unset, .unset, .unset, .unset, .unset, .unset, .unset]) rfl ?_
      refine XS.aload X2.here hx rfl (hb hby at_33) rfl rfl ?_
      show Steps p.tables e below (T2.setTop (mkF m 35 #[.val (.long q0), .second, .val (.long q1), .second, .val (.long q2), .second, .val (.long q3), .second, .val (.int p4), .val (.int p5), .val (.int (p5 &&& (3 : Int32))), .val (.int (p4 &&& (3 : Int32))), .val (.int (((p4.toUInt32 >>> ((2 : Int32) &&& 31).toUInt32).toInt32) &&& (3 : Int32))), .val (.int (((p4.toUInt32 >>> ((4 : Int32) &&& 31).toUInt32).toInt32) &&& (3 : Int32))), .val (.ref b2), .unset, .unset, .unset, .unset, .unset, .unset, .unset, .unset] [(.ref b2)])) _
      refine XS.iconst X2.here hx rfl (hb hby at_35) ?_
      refine XS.lloadN X2.here hx rfl (hb hby at_36) rfl ?_
      exact kt)
  obtain ⟨c4, Ar4, q4⟩ := id V2
  obtain ⟨T4, h4, X4, e4, W4, st4⟩ := stJ X2 hx hZW e2 Ar4 (j := (0 : Int32)) (own_inb q4 (n := 4) rfl (by decide) (by decide)) (g := (mkF m 37 #[.val (.long q0), .second, .val (.long q1), .second, .val (.long q2), .second, .val (.long q3), .second, .val (.int p4), .val (.int p5), .val (.int (p5 &&& (3 : Int32))), .val (.int (p4 &&& (3 : Int32))), .val (.int (((p4.toUInt32 >>> ((2 : Int32) &&& 31).toUInt32).toInt32) &&& (3 : Int32))), .val (.int (((p4.toUInt32 >>> ((4 : Int32) &&& 31).toUInt32).toInt32) &&& (3 : Int32))), .val (.ref b2), .unset, .unset, .unset, .unset, .unset, .unset, .unset, .unset] [(.long q0), (.int (0 : Int32)), (.ref b2)])) rfl rfl (hb hby at_37)
  have V4 : own_AV Z h4 b2 .long [(.long q0), (.long (0 : Int64)), (.long (0 : Int64)), (.long (0 : Int64))] := own_AV.set Ar4 q4 W4 (i := 0) (by decide) rfl
  obtain ⟨Ls4, X4, N4⟩ := own_loc X4 (Fr.snoc X4 N0 gb2)
  have go5 : ∀ t, Steps p.tables e below (T4.setTop (mkF m 42 #[.val (.long q0), .second, .val (.long q1), .second, .val (.long q2), .second, .val (.long q3), .second, .val (.int p4), .val (.int p5), .val (.int (p5 &&& (3 : Int32))), .val (.int (p4 &&& (3 : Int32))), .val (.int (((p4.toUInt32 >>> ((2 : Int32) &&& 31).toUInt32).toInt32) &&& (3 : Int32))), .val (.int (((p4.toUInt32 >>> ((4 : Int32) &&& 31).toUInt32).toInt32) &&& (3 : Int32))), .val (.ref b2), .unset, .unset, .unset, .unset, .unset, .unset, .unset, .unset] [(.long q1), (.int (1 : Int32)), (.ref b2)])) t → Steps p.tables e below (s₁.setTop (entryFrame m #[(.long q0), (.long q1), (.long q2), (.long q3), (.int p4), (.int p5)] maxLocals)) t := fun t kt => go3 t (by
      refine st4 _ ?_
      refine XS.aload X4.here hx rfl (hb hby at_38) rfl rfl ?_
      refine XS.iconst X4.here hx rfl (hb hby at_40) ?_
      refine XS.lloadN X4.here hx rfl (hb hby at_41) rfl ?_
      exact kt)
  obtain ⟨c6, Ar6, q6⟩ := id V4
  obtain ⟨T6, h6, X6, e6, W6, st6⟩ := stJ X4 hx hZW e4 Ar6 (j := (1 : Int32)) (own_inb q6 (n := 4) rfl (by decide) (by decide)) (g := (mkF m 42 #[.val (.long q0), .second, .val (.long q1), .second, .val (.long q2), .second, .val (.long q3), .second, .val (.int p4), .val (.int p5), .val (.int (p5 &&& (3 : Int32))), .val (.int (p4 &&& (3 : Int32))), .val (.int (((p4.toUInt32 >>> ((2 : Int32) &&& 31).toUInt32).toInt32) &&& (3 : Int32))), .val (.int (((p4.toUInt32 >>> ((4 : Int32) &&& 31).toUInt32).toInt32) &&& (3 : Int32))), .val (.ref b2), .unset, .unset, .unset, .unset, .unset, .unset, .unset, .unset] [(.long q1), (.int (1 : Int32)), (.ref b2)])) rfl rfl (hb hby at_42)
  have V6 : own_AV Z h6 b2 .long [(.long q0), (.long q1), (.long (0 : Int64)), (.long (0 : Int64))] := own_AV.set Ar6 q6 W6 (i := 1) (by decide) rfl
  obtain ⟨Ls6, X6, N6⟩ := own_loc X6 (Fr.snoc X6 N4 gb2)
  have go7 : ∀ t, Steps p.tables e below (T6.setTop (mkF m 48 #[.val (.long q0), .second, .val (.long q1), .second, .val (.long q2), .second, .val (.long q3), .second, .val (.int p4), .val (.int p5), .val (.int (p5 &&& (3 : Int32))), .val (.int (p4 &&& (3 : Int32))), .val (.int (((p4.toUInt32 >>> ((2 : Int32) &&& 31).toUInt32).toInt32) &&& (3 : Int32))), .val (.int (((p4.toUInt32 >>> ((4 : Int32) &&& 31).toUInt32).toInt32) &&& (3 : Int32))), .val (.ref b2), .unset, .unset, .unset, .unset, .unset, .unset, .unset, .unset] [(.long q2), (.int (2 : Int32)), (.ref b2)])) t → Steps p.tables e below (s₁.setTop (entryFrame m #[(.long q0), (.long q1), (.long q2), (.long q3), (.int p4), (.int p5)] maxLocals)) t := fun t kt => go5 t (by
      refine st6 _ ?_
      refine XS.aload X6.here hx rfl (hb hby at_43) rfl rfl ?_
      show Steps p.tables e below (T6.setTop (mkF m 45 #[.val (.long q0), .second, .val (.long q1), .second, .val (.long q2), .second, .val (.long q3), .second, .val (.int p4), .val (.int p5), .val (.int (p5 &&& (3 : Int32))), .val (.int (p4 &&& (3 : Int32))), .val (.int (((p4.toUInt32 >>> ((2 : Int32) &&& 31).toUInt32).toInt32) &&& (3 : Int32))), .val (.int (((p4.toUInt32 >>> ((4 : Int32) &&& 31).toUInt32).toInt32) &&& (3 : Int32))), .val (.ref b2), .unset, .unset, .unset, .unset, .unset, .unset, .unset, .unset] [(.ref b2)])) _
      refine XS.iconst X6.here hx rfl (hb hby at_45) ?_
      refine XS.lload X6.here hx rfl (hb hby at_46) rfl ?_
      exact kt)
  obtain ⟨c8, Ar8, q8⟩ := id V6
  obtain ⟨T8, h8, X8, e8, W8, st8⟩ := stJ X6 hx hZW e6 Ar8 (j := (2 : Int32)) (own_inb q8 (n := 4) rfl (by decide) (by decide)) (g := (mkF m 48 #[.val (.long q0), .second, .val (.long q1), .second, .val (.long q2), .second, .val (.long q3), .second, .val (.int p4), .val (.int p5), .val (.int (p5 &&& (3 : Int32))), .val (.int (p4 &&& (3 : Int32))), .val (.int (((p4.toUInt32 >>> ((2 : Int32) &&& 31).toUInt32).toInt32) &&& (3 : Int32))), .val (.int (((p4.toUInt32 >>> ((4 : Int32) &&& 31).toUInt32).toInt32) &&& (3 : Int32))), .val (.ref b2), .unset, .unset, .unset, .unset, .unset, .unset, .unset, .unset] [(.long q2), (.int (2 : Int32)), (.ref b2)])) rfl rfl (hb hby at_48)
  have V8 : own_AV Z h8 b2 .long [(.long q0), (.long q1), (.long q2), (.long (0 : Int64))] := own_AV.set Ar8 q8 W8 (i := 2) (by decide) rfl
  obtain ⟨Ls8, X8, N8⟩ := own_loc X8 (Fr.snoc X8 N6 gb2)
  have go9 : ∀ t, Steps p.tables e below (T8.setTop (mkF m 54 #[.val (.long q0), .second, .val (.long q1), .second, .val (.long q2), .second, .val (.long q3), .second, .val (.int p4), .val (.int p5), .val (.int (p5 &&& (3 : Int32))), .val (.int (p4 &&& (3 : Int32))), .val (.int (((p4.toUInt32 >>> ((2 : Int32) &&& 31).toUInt32).toInt32) &&& (3 : Int32))), .val (.int (((p4.toUInt32 >>> ((4 : Int32) &&& 31).toUInt32).toInt32) &&& (3 : Int32))), .val (.ref b2), .unset, .unset, .unset, .unset, .unset, .unset, .unset, .unset] [(.long q3), (.int (3 : Int32)), (.ref b2)])) t → Steps p.tables e below (s₁.setTop (entryFrame m #[(.long q0), (.long q1), (.long q2), (.long q3), (.int p4), (.int p5)] maxLocals)) t := fun t kt => go7 t (by
      refine st8 _ ?_
      refine XS.aload X8.here hx rfl (hb hby at_49) rfl rfl ?_
      refine XS.iconst X8.here hx rfl (hb hby at_51) ?_
      refine XS.lload X8.here hx rfl (hb hby at_52) rfl ?_
      exact kt)
  obtain ⟨c10, Ar10, q10⟩ := id V8
  obtain ⟨T10, h10, X10, e10, W10, st10⟩ := stJ X8 hx hZW e8 Ar10 (j := (3 : Int32)) (own_inb q10 (n := 4) rfl (by decide) (by decide)) (g := (mkF m 54 #[.val (.long q0), .second, .val (.long q1), .second, .val (.long q2), .second, .val (.long q3), .second, .val (.int p4), .val (.int p5), .val (.int (p5 &&& (3 : Int32))), .val (.int (p4 &&& (3 : Int32))), .val (.int (((p4.toUInt32 >>> ((2 : Int32) &&& 31).toUInt32).toInt32) &&& (3 : Int32))), .val (.int (((p4.toUInt32 >>> ((4 : Int32) &&& 31).toUInt32).toInt32) &&& (3 : Int32))), .val (.ref b2), .unset, .unset, .unset, .unset, .unset, .unset, .unset, .unset] [(.long q3), (.int (3 : Int32)), (.ref b2)])) rfl rfl (hb hby at_54)
  have V10 : own_AV Z h10 b2 .long [(.long q0), (.long q1), (.long q2), (.long q3)] := own_AV.set Ar10 q10 W10 (i := 3) (by decide) rfl
  obtain ⟨Ls10, X10, N10⟩ := own_loc X10 (Fr.snoc X10 N8 gb2)
  have go11 : ∀ t, Steps p.tables e below (T10.setTop (mkF m 55 #[.val (.long q0), .second, .val (.long q1), .second, .val (.long q2), .second, .val (.long q3), .second, .val (.int p4), .val (.int p5), .val (.int (p5 &&& (3 : Int32))), .val (.int (p4 &&& (3 : Int32))), .val (.int (((p4.toUInt32 >>> ((2 : Int32) &&& 31).toUInt32).toInt32) &&& (3 : Int32))), .val (.int (((p4.toUInt32 >>> ((4 : Int32) &&& 31).toUInt32).toInt32) &&& (3 : Int32))), .val (.ref b2), .unset, .unset, .unset, .unset, .unset, .unset, .unset, .unset] [])) t → Steps p.tables e below (s₁.setTop (entryFrame m #[(.long q0), (.long q1), (.long q2), (.long q3), (.int p4), (.int p5)] maxLocals)) t := fun t kt => go9 t (by
      refine st10 _ ?_
      exact kt)
  have zs13 := (Nat.le_trans (Nat.le_trans (Nat.le_trans (Nat.le_trans (Nat.le_trans Z0 E2.1) (Keep.of_wr W4).1) (Keep.of_wr W6).1) (Keep.of_wr W8).1) (Keep.of_wr W10).1)
  obtain ⟨T12, h12, X12, e12, E12, A12, D12, -, st12⟩ := newO X10 hx hZW hownW (own_h hw 1 rfl) (own_h hw 2 rfl) (own_h hw 3 rfl) e10 (g := (mkF m 55 #[.val (.long q0), .second, .val (.long q1), .second, .val (.long q2), .second, .val (.long q3), .second, .val (.int p4), .val (.int p5), .val (.int (p5 &&& (3 : Int32))), .val (.int (p4 &&& (3 : Int32))), .val (.int (((p4.toUInt32 >>> ((2 : Int32) &&& 31).toUInt32).toInt32) &&& (3 : Int32))), .val (.int (((p4.toUInt32 >>> ((4 : Int32) &&& 31).toUInt32).toInt32) &&& (3 : Int32))), .val (.ref b2), .unset, .unset, .unset, .unset, .unset, .unset, .unset, .unset] [])) rfl (hb hby at_55) (by decide) (by decide)
  obtain ⟨b12, g12⟩ : ∃ z, z = h10.size := ⟨_, rfl⟩
  rw [← g12] at A12 D12 st12
  have ks12 : h0.size ≤ h10.size := Nat.le_trans (Nat.le_trans (Nat.le_trans (Nat.le_trans (Nat.le_trans (ks2) E2.1) (Keep.of_wr W4).1) (Keep.of_wr W6).1) (Keep.of_wr W8).1) (Keep.of_wr W10).1
  have sz12 : h0.size ≤ b12 := Nat.le_trans ks12 (Nat.le_of_eq g12.symm)
  have ne_b2_b12 : b2 ≠ b12 := Nat.ne_of_lt (Nat.lt_of_lt_of_le V10.lt (Nat.le_of_eq g12.symm))
  have fr14 := ((DV0.ext E2).other W4 ne_dd_b2)
  have fq15 := (((fr14.other W6 ne_dd_b2).other W8 ne_dd_b2).other W10 ne_dd_b2)
  have ne_dd_b12 : dd ≠ b12 := Nat.ne_of_lt (Nat.lt_of_lt_of_le fq15.lt (Nat.le_of_eq g12.symm))
  have gb12 : n0 ≤ b12 := Nat.le_trans zs13 (Nat.le_of_eq g12.symm)
  have F12_low : Fld Z h12 b12 "com/example/invariant_ink/invariantink/lang/RangeType" "low" "J" (.long (0 : Int64)) := D12 (Or.inr (own_h hw 11 rfl)) (ty := .long) (by decide)
  have F12_high : Fld Z h12 b12 "com/example/invariant_ink/invariantink/lang/RangeType" "high" "J" (.long (0 : Int64)) := D12 (Or.inr (own_h hw 13 rfl)) (ty := .long) (by decide)
  have go16 : ∀ t, Steps p.tables e below (T12.setTop (mkF m 61 #[.val (.long q0), .second, .val (.long q1), .second, .val (.long q2), .second, .val (.long q3), .second, .val (.int p4), .val (.int p5), .val (.int (p5 &&& (3 : Int32))), .val (.int (p4 &&& (3 : Int32))), .val (.int (((p4.toUInt32 >>> ((2 : Int32) &&& 31).toUInt32).toInt32) &&& (3 : Int32))), .val (.int (((p4.toUInt32 >>> ((4 : Int32) &&& 31).toUInt32).toInt32) &&& (3 : Int32))), .val (.ref b2), .unset, .unset, .unset, .unset, .unset, .unset, .unset, .unset] [(.long (1 : Int64)), (.long (0 : Int64)), (.ref b12), (.ref b12)])) t → Steps p.tables e below (s₁.setTop (entryFrame m #[(.long q0), (.long q1), (.long q2), (.long q3), (.int p4), (.int p5)] maxLocals)) t := fun t kt => go11 t (by
      refine st12 _ ?_
      show Steps p.tables e below (T12.setTop (mkF m 58 #[.val (.long q0), .second, .val (.long q1), .second, .val (.long q2), .second, .val (.long q3), .second, .val (.int p4), .val (.int p5), .val (.int (p5 &&& (3 : Int32))), .val (.int (p4 &&& (3 : Int32))), .val (.int (((p4.toUInt32 >>> ((2 : Int32) &&& 31).toUInt32).toInt32) &&& (3 : Int32))), .val (.int (((p4.toUInt32 >>> ((4 : Int32) &&& 31).toUInt32).toInt32) &&& (3 : Int32))), .val (.ref b2), .unset, .unset, .unset, .unset, .unset, .unset, .unset, .unset] [(.ref b12)])) _
      refine XS.dup X12.here hx rfl (hb hby at_58) rfl rfl ?_
      refine XS.lconst X12.here hx rfl (hb hby at_59) ?_
      refine XS.lconst X12.here hx rfl (hb hby at_60) ?_
      exact kt)
  obtain ⟨_, _, ⟨T17, L17, k17, n17⟩, -, X17, ⟨Lc17, hQ17, l17, y17, z17⟩, st17⟩ := X12.specialBack hx (y := own_m20) rfl hownW (mvT hZW (own_h hw 4 rfl)) (mvT hZW (own_h hw 5 rfl)) (mvT hZW (own_h hw 6 rfl)) (by decide) (backOf (W := 1) (rm1 l Z a0 hw [] b12 (0 : Int64) (1 : Int64) h12 n0 A12 F12_low F12_high gb12 (by decide)) hZW (own_h hw 6 rfl) (own_h hw 3 rfl) (by decide) (by decide)) (g := (mkF m 61 #[.val (.long q0), .second, .val (.long q1), .second, .val (.long q2), .second, .val (.long q3), .second, .val (.int p4), .val (.int p5), .val (.int (p5 &&& (3 : Int32))), .val (.int (p4 &&& (3 : Int32))), .val (.int (((p4.toUInt32 >>> ((2 : Int32) &&& 31).toUInt32).toInt32) &&& (3 : Int32))), .val (.int (((p4.toUInt32 >>> ((4 : Int32) &&& 31).toUInt32).toInt32) &&& (3 : Int32))), .val (.ref b2), .unset, .unset, .unset, .unset, .unset, .unset, .unset, .unset] [(.long (1 : Int64)), (.long (0 : Int64)), (.ref b12), (.ref b12)])) rfl (by rw [hml]; rfl) (Steps.refl _) (a := b12) (argsL := [(.long (0 : Int64)), (.long (1 : Int64))]) (rest := [(.ref b12)]) (lenOf pd_0 rfl) rfl (by show 2 * 0 + _ ≤ _; exact Nat.le_of_eq rfl) (hb hby at_61) (fun _ _ => ⟨rfl, e12, (by decide : 2 + 0 ≤ _), (by decide : 6 + 0 ≤ _)⟩)
  dsimp only [Pt.U, Pt.locs, Pt.cells, Pt.slots] at X17 l17 y17 z17 st17 hQ17
  subst y17 z17
  obtain ⟨rfl, N17q, K17, E17x, F17l, F17h⟩ := hQ17
  have N17 := Fr.app N10 N17q
  rw [← l17] at N17
  have go18 : ∀ t, Steps p.tables e below (T17.setTop (mkF m 66 #[.val (.long q0), .second, .val (.long q1), .second, .val (.long q2), .second, .val (.long q3), .second, .val (.int p4), .val (.int p5), .val (.int (p5 &&& (3 : Int32))), .val (.int (p4 &&& (3 : Int32))), .val (.int (((p4.toUInt32 >>> ((2 : Int32) &&& 31).toUInt32).toInt32) &&& (3 : Int32))), .val (.int (((p4.toUInt32 >>> ((4 : Int32) &&& 31).toUInt32).toInt32) &&& (3 : Int32))), .val (.ref b2), .val (.ref b12), .unset, .unset, .unset, .unset, .unset, .unset, .unset] [])) t → Steps p.tables e below (s₁.setTop (entryFrame m #[(.long q0), (.long q1), (.long q2), (.long q3), (.int p4), (.int p5)] maxLocals)) t := fun t kt => go16 t (by
      refine st17.trans ?_
      refine XS.astore X17.here hx rfl (hb hby at_64) rfl rfl (l' := #[.val (.long q0), .second, .val (.long q1), .second, .val (.long q2), .second, .val (.long q3), .second, .val (.int p4), .val (.int p5), .val (.int (p5 &&& (3 : Int32))), .val (.int (p4 &&& (3 : Int32))), .val (.int (((p4.toUInt32 >>> ((2 : Int32) &&& 31).toUInt32).toInt32) &&& (3 : Int32))), .val (.int (((p4.toUInt32 >>> ((4 : Int32) &&& 31).toUInt32).toInt32) &&& (3 : Int32))), .val (.ref b2), .val (.ref b12), .unset, .unset, .unset, .unset, .unset, .unset, .unset]) rfl ?_
      exact kt)
  have zs20 := (Nat.le_trans (Nat.le_trans zs13 E12.1) K17.1)
  obtain ⟨T19, h19, X19, e19, E19, A19, D19, -, st19⟩ := newO X17 hx hZW hownW (own_h hw 14 rfl) (own_h hw 15 rfl) (own_h hw 16 rfl) rfl (g := (mkF m 66 #[.val (.long q0), .second, .val (.long q1), .second, .val (.long q2), .second, .val (.long q3), .second, .val (.int p4), .val (.int p5), .val (.int (p5 &&& (3 : Int32))), .val (.int (p4 &&& (3 : Int32))), .val (.int (((p4.toUInt32 >>> ((2 : Int32) &&& 31).toUInt32).toInt32) &&& (3 : Int32))), .val (.int (((p4.toUInt32 >>> ((4 : Int32) &&& 31).toUInt32).toInt32) &&& (3 : Int32))), .val (.ref b2), .val (.ref b12), .unset, .unset, .unset, .unset, .unset, .unset, .unset] [])) rfl (hb hby at_66) (by decide) (by decide)
  obtain ⟨b19, g19⟩ : ∃ z, z = T17.heap.size := ⟨_, rfl⟩
  rw [← g19] at A19 D19 st19
  have ks19 : h0.size ≤ T17.heap.size := Nat.le_trans (Nat.le_trans (ks12) E12.1) K17.1
  have sz19 : h0.size ≤ b19 := Nat.le_trans ks19 (Nat.le_of_eq g19.symm)
  have ne_b12_b19 : b12 ≠ b19 := Nat.ne_of_lt (Nat.lt_of_lt_of_le E17x.lt (Nat.le_of_eq g19.symm))
  have fq21 := ((V10.ext E12).keep K17 (ninS ne_b2_b12 nin0))
  have ne_b2_b19 : b2 ≠ b19 := Nat.ne_of_lt (Nat.lt_of_lt_of_le fq21.lt (Nat.le_of_eq g19.symm))
  have fq22 := ((fq15.ext E12).keep K17 (ninS ne_dd_b12 nin0))
  have ne_dd_b19 : dd ≠ b19 := Nat.ne_of_lt (Nat.lt_of_lt_of_le fq22.lt (Nat.le_of_eq g19.symm))
  have gb19 : n0 ≤ b19 := Nat.le_trans zs20 (Nat.le_of_eq g19.symm)
  have F19_name : Fld Z h19 b19 "com/example/invariant_ink/invariantink/lang/Local" "name" "Ljava/lang/String;" .null := D19 (Or.inr (own_h hw 30 rfl)) (ty := (.object "java/lang/String")) (by decide)
  have F19_kind : Fld Z h19 b19 "com/example/invariant_ink/invariantink/lang/Local" "kind" "Lcom/example/invariant_ink/invariantink/lang/Local$Kind;" .null := D19 (Or.inr (own_h hw 32 rfl)) (ty := (.object "com/example/invariant_ink/invariantink/lang/Local$Kind")) (by decide)
  have F19_slot : Fld Z h19 b19 "com/example/invariant_ink/invariantink/lang/Local" "slot" "I" (.int (0 : Int32)) := D19 (Or.inr (own_h hw 34 rfl)) (ty := .int) (by decide)
  have F19_type : Fld Z h19 b19 "com/example/invariant_ink/invariantink/lang/Local" "type" "Lcom/example/invariant_ink/invariantink/lang/Type;" .null := D19 (Or.inr (own_h hw 36 rfl)) (ty := (.object "com/example/invariant_ink/invariantink/lang/Type")) (by decide)
  have F19_position : Fld Z h19 b19 "com/example/invariant_ink/invariantink/lang/Local" "position" "Lcom/example/invariant_ink/invariantink/lang/Position;" .null := D19 (Or.inr (own_h hw 38 rfl)) (ty := (.object "com/example/invariant_ink/invariantink/lang/Position")) (by decide)
  have go23 : ∀ t, Steps p.tables e below (T19.setTop (mkF m 70 #[.val (.long q0), .second, .val (.long q1), .second, .val (.long q2), .second, .val (.long q3), .second, .val (.int p4), .val (.int p5), .val (.int (p5 &&& (3 : Int32))), .val (.int (p4 &&& (3 : Int32))), .val (.int (((p4.toUInt32 >>> ((2 : Int32) &&& 31).toUInt32).toInt32) &&& (3 : Int32))), .val (.int (((p4.toUInt32 >>> ((4 : Int32) &&& 31).toUInt32).toInt32) &&& (3 : Int32))), .val (.ref b2), .val (.ref b12), .unset, .unset, .unset, .unset, .unset, .unset, .unset] [(.ref b19), (.ref b19)])) t → Steps p.tables e below (s₁.setTop (entryFrame m #[(.long q0), (.long q1), (.long q2), (.long q3), (.int p4), (.int p5)] maxLocals)) t := fun t kt => go18 t (by
      refine st19 _ ?_
      refine XS.dup X19.here hx rfl (hb hby at_69) rfl rfl ?_
      exact kt)
  have hk25 := (Nat.le_trans (Nat.le_trans (Nat.le_trans (Nat.le_trans (Nat.le_trans (Nat.le_trans (Nat.le_trans (Nat.le_trans HK E2.1) (Keep.of_wr W4).1) (Keep.of_wr W6).1) (Keep.of_wr W8).1) (Keep.of_wr W10).1) E12.1) K17.1) E19.1)
  obtain ⟨b24, T24, h24, k24, X24, e24, E24, HS24, HK24, hZ24, hown24, st24⟩ := ldcS X19 hx hZW hownW (own_h hw 17 rfl) (own_wS a0 Z hw) e19 HS hk25 (g := (mkF m 70 #[.val (.long q0), .second, .val (.long q1), .second, .val (.long q2), .second, .val (.long q3), .second, .val (.int p4), .val (.int p5), .val (.int (p5 &&& (3 : Int32))), .val (.int (p4 &&& (3 : Int32))), .val (.int (((p4.toUInt32 >>> ((2 : Int32) &&& 31).toUInt32).toInt32) &&& (3 : Int32))), .val (.int (((p4.toUInt32 >>> ((4 : Int32) &&& 31).toUInt32).toInt32) &&& (3 : Int32))), .val (.ref b2), .val (.ref b12), .unset, .unset, .unset, .unset, .unset, .unset, .unset] [(.ref b19), (.ref b19)])) rfl (hb hby at_70) (n := 4) (by decide) (by decide) (by decide) (by decide)
  have go26 : ∀ t, Steps p.tables e below (T24.setTop (mkF m 78 #[.val (.long q0), .second, .val (.long q1), .second, .val (.long q2), .second, .val (.long q3), .second, .val (.int p4), .val (.int p5), .val (.int (p5 &&& (3 : Int32))), .val (.int (p4 &&& (3 : Int32))), .val (.int (((p4.toUInt32 >>> ((2 : Int32) &&& 31).toUInt32).toInt32) &&& (3 : Int32))), .val (.int (((p4.toUInt32 >>> ((4 : Int32) &&& 31).toUInt32).toInt32) &&& (3 : Int32))), .val (.ref b2), .val (.ref b12), .unset, .unset, .unset, .unset, .unset, .unset, .unset] [.null, (.ref b12), (.int (p4 &&& (3 : Int32))), .null, (.ref b24), (.ref b19), (.ref b19)])) t → Steps p.tables e below (s₁.setTop (entryFrame m #[(.long q0), (.long q1), (.long q2), (.long q3), (.int p4), (.int p5)] maxLocals)) t := fun t kt => go23 t (by
      refine st24 _ ?_
      show Steps p.tables e below (T24.setTop (mkF m 72 #[.val (.long q0), .second, .val (.long q1), .second, .val (.long q2), .second, .val (.long q3), .second, .val (.int p4), .val (.int p5), .val (.int (p5 &&& (3 : Int32))), .val (.int (p4 &&& (3 : Int32))), .val (.int (((p4.toUInt32 >>> ((2 : Int32) &&& 31).toUInt32).toInt32) &&& (3 : Int32))), .val (.int (((p4.toUInt32 >>> ((4 : Int32) &&& 31).toUInt32).toInt32) &&& (3 : Int32))), .val (.ref b2), .val (.ref b12), .unset, .unset, .unset, .unset, .unset, .unset, .unset] [(.ref b24), (.ref b19), (.ref b19)])) _
      refine XS.aconstNull X24.here hx rfl (hb hby at_72) ?_
      refine XS.iload X24.here hx rfl (hb hby at_73) rfl ?_
      refine XS.aload X24.here hx rfl (hb hby at_75) rfl rfl ?_
      refine XS.aconstNull X24.here hx rfl (hb hby at_77) ?_
      exact kt)
  have fq28 := (A19.ext E24)
  have fq29 := (F19_name.ext E24)
  have fq30 := (F19_kind.ext E24)
  have fq31 := (F19_slot.ext E24)
  have fq32 := (F19_type.ext E24)
  have fq33 := (F19_position.ext E24)
  obtain ⟨_, _, ⟨T27, L27, k27, n27⟩, -, X27, ⟨Lc27, hQ27, l27, y27, z27⟩, st27⟩ := X24.specialBack hx (y := own_m21) rfl hown24 (mvT hZ24 (own_h hw 25 rfl)) (mvT hZ24 (own_h hw 26 rfl)) (mvT hZ24 (own_h hw 27 rfl)) (by decide) (backOf (W := 1) (rm3 l Z a0 hw [] b19 b24 (p4 &&& (3 : Int32)) b12 h24 n0 fq28 fq29 fq30 fq31 fq32 fq33 gb19) hZ24 (own_h hw 27 rfl) (own_h hw 16 rfl) (by decide) (by decide)) (g := (mkF m 78 #[.val (.long q0), .second, .val (.long q1), .second, .val (.long q2), .second, .val (.long q3), .second, .val (.int p4), .val (.int p5), .val (.int (p5 &&& (3 : Int32))), .val (.int (p4 &&& (3 : Int32))), .val (.int (((p4.toUInt32 >>> ((2 : Int32) &&& 31).toUInt32).toInt32) &&& (3 : Int32))), .val (.int (((p4.toUInt32 >>> ((4 : Int32) &&& 31).toUInt32).toInt32) &&& (3 : Int32))), .val (.ref b2), .val (.ref b12), .unset, .unset, .unset, .unset, .unset, .unset, .unset] [.null, (.ref b12), (.int (p4 &&& (3 : Int32))), .null, (.ref b24), (.ref b19), (.ref b19)])) rfl (by rw [hml]; rfl) (Steps.refl _) (a := b19) (argsL := [(.ref b24), .null, (.int (p4 &&& (3 : Int32))), (.ref b12), .null]) (rest := [(.ref b19)]) (lenOf pd_2 rfl) rfl (by show 2 * 0 + _ ≤ _; exact Nat.le_of_eq rfl) (hb hby at_78) (fun _ _ => ⟨rfl, e24, (by decide : 5 + 0 ≤ _), (by decide : 19 + 0 ≤ _)⟩)
  dsimp only [Pt.U, Pt.locs, Pt.cells, Pt.slots] at X27 l27 y27 z27 st27 hQ27
  subst y27 z27
  obtain ⟨rfl, N27q, K27, E27x, F27l, F27h⟩ := hQ27
  have N27 := Fr.app N17 N27q
  rw [← l27] at N27
  have go34 : ∀ t, Steps p.tables e below (T27.setTop (mkF m 83 #[.val (.long q0), .second, .val (.long q1), .second, .val (.long q2), .second, .val (.long q3), .second, .val (.int p4), .val (.int p5), .val (.int (p5 &&& (3 : Int32))), .val (.int (p4 &&& (3 : Int32))), .val (.int (((p4.toUInt32 >>> ((2 : Int32) &&& 31).toUInt32).toInt32) &&& (3 : Int32))), .val (.int (((p4.toUInt32 >>> ((4 : Int32) &&& 31).toUInt32).toInt32) &&& (3 : Int32))), .val (.ref b2), .val (.ref b12), .val (.ref b19), .unset, .unset, .unset, .unset, .unset, .unset] [])) t → Steps p.tables e below (s₁.setTop (entryFrame m #[(.long q0), (.long q1), (.long q2), (.long q3), (.int p4), (.int p5)] maxLocals)) t := fun t kt => go26 t (by
      refine st27.trans ?_
      refine XS.astore X27.here hx rfl (hb hby at_81) rfl rfl (l' := #[.val (.long q0), .second, .val (.long q1), .second, .val (.long q2), .second, .val (.long q3), .second, .val (.int p4), .val (.int p5), .val (.int (p5 &&& (3 : Int32))), .val (.int (p4 &&& (3 : Int32))), .val (.int (((p4.toUInt32 >>> ((2 : Int32) &&& 31).toUInt32).toInt32) &&& (3 : Int32))), .val (.int (((p4.toUInt32 >>> ((4 : Int32) &&& 31).toUInt32).toInt32) &&& (3 : Int32))), .val (.ref b2), .val (.ref b12), .val (.ref b19), .unset, .unset, .unset, .unset, .unset, .unset]) rfl ?_
      exact kt)
  have zs36 := (Nat.le_trans (Nat.le_trans (Nat.le_trans zs20 E19.1) E24.1) K27.1)
  obtain ⟨T35, h35, X35, e35, E35, A35, D35, -, st35⟩ := newO X27 hx hZ24 hown24 (own_h hw 14 rfl) (own_h hw 15 rfl) (own_h hw 16 rfl) rfl (g := (mkF m 83 #[.val (.long q0), .second, .val (.long q1), .second, .val (.long q2), .second, .val (.long q3), .second, .val (.int p4), .val (.int p5), .val (.int (p5 &&& (3 : Int32))), .val (.int (p4 &&& (3 : Int32))), .val (.int (((p4.toUInt32 >>> ((2 : Int32) &&& 31).toUInt32).toInt32) &&& (3 : Int32))), .val (.int (((p4.toUInt32 >>> ((4 : Int32) &&& 31).toUInt32).toInt32) &&& (3 : Int32))), .val (.ref b2), .val (.ref b12), .val (.ref b19), .unset, .unset, .unset, .unset, .unset, .unset] [])) rfl (hb hby at_83) (by decide) (by decide)
  obtain ⟨b35, g35⟩ : ∃ z, z = T27.heap.size := ⟨_, rfl⟩
  rw [← g35] at A35 D35 st35
  have ks35 : h0.size ≤ T27.heap.size := Nat.le_trans (Nat.le_trans (Nat.le_trans (ks19) E19.1) E24.1) K27.1
  have sz35 : h0.size ≤ b35 := Nat.le_trans ks35 (Nat.le_of_eq g35.symm)
  have fr37 := ((E17x.ext E19).ext E24)
  have fq38 := (fr37.keep K27)
  have ne_b12_b35 : b12 ≠ b35 := Nat.ne_of_lt (Nat.lt_of_lt_of_le fq38.lt (Nat.le_of_eq g35.symm))
  have ne_b19_b35 : b19 ≠ b35 := Nat.ne_of_lt (Nat.lt_of_lt_of_le E27x.lt (Nat.le_of_eq g35.symm))
  have fr39 := ((fq21.ext E19).ext E24)
  have fq40 := (fr39.keep K27 (ninS ne_b2_b19 nin0))
  have ne_b2_b35 : b2 ≠ b35 := Nat.ne_of_lt (Nat.lt_of_lt_of_le fq40.lt (Nat.le_of_eq g35.symm))
  have fr41 := ((fq22.ext E19).ext E24)
  have fq42 := (fr41.keep K27 (ninS ne_dd_b19 nin0))
  have ne_dd_b35 : dd ≠ b35 := Nat.ne_of_lt (Nat.lt_of_lt_of_le fq42.lt (Nat.le_of_eq g35.symm))
  have gb35 : n0 ≤ b35 := Nat.le_trans zs36 (Nat.le_of_eq g35.symm)
  have F35_name : Fld Z h35 b35 "com/example/invariant_ink/invariantink/lang/Local" "name" "Ljava/lang/String;" .null := D35 (Or.inr (own_h hw 30 rfl)) (ty := (.object "java/lang/String")) (by decide)
  have F35_kind : Fld Z h35 b35 "com/example/invariant_ink/invariantink/lang/Local" "kind" "Lcom/example/invariant_ink/invariantink/lang/Local$Kind;" .null := D35 (Or.inr (own_h hw 32 rfl)) (ty := (.object "com/example/invariant_ink/invariantink/lang/Local$Kind")) (by decide)
  have F35_slot : Fld Z h35 b35 "com/example/invariant_ink/invariantink/lang/Local" "slot" "I" (.int (0 : Int32)) := D35 (Or.inr (own_h hw 34 rfl)) (ty := .int) (by decide)
  have F35_type : Fld Z h35 b35 "com/example/invariant_ink/invariantink/lang/Local" "type" "Lcom/example/invariant_ink/invariantink/lang/Type;" .null := D35 (Or.inr (own_h hw 36 rfl)) (ty := (.object "com/example/invariant_ink/invariantink/lang/Type")) (by decide)
  have F35_position : Fld Z h35 b35 "com/example/invariant_ink/invariantink/lang/Local" "position" "Lcom/example/invariant_ink/invariantink/lang/Position;" .null := D35 (Or.inr (own_h hw 38 rfl)) (ty := (.object "com/example/invariant_ink/invariantink/lang/Position")) (by decide)
  have go43 : ∀ t, Steps p.tables e below (T35.setTop (mkF m 87 #[.val (.long q0), .second, .val (.long q1), .second, .val (.long q2), .second, .val (.long q3), .second, .val (.int p4), .val (.int p5), .val (.int (p5 &&& (3 : Int32))), .val (.int (p4 &&& (3 : Int32))), .val (.int (((p4.toUInt32 >>> ((2 : Int32) &&& 31).toUInt32).toInt32) &&& (3 : Int32))), .val (.int (((p4.toUInt32 >>> ((4 : Int32) &&& 31).toUInt32).toInt32) &&& (3 : Int32))), .val (.ref b2), .val (.ref b12), .val (.ref b19), .unset, .unset, .unset, .unset, .unset, .unset] [(.ref b35), (.ref b35)])) t → Steps p.tables e below (s₁.setTop (entryFrame m #[(.long q0), (.long q1), (.long q2), (.long q3), (.int p4), (.int p5)] maxLocals)) t := fun t kt => go34 t (by
      refine st35 _ ?_
      refine XS.dup X35.here hx rfl (hb hby at_86) rfl rfl ?_
      show Steps p.tables e below (T35.setTop (mkF m 87 #[.val (.long q0), .second, .val (.long q1), .second, .val (.long q2), .second, .val (.long q3), .second, .val (.int p4), .val (.int p5), .val (.int (p5 &&& (3 : Int32))), .val (.int (p4 &&& (3 : Int32))), .val (.int (((p4.toUInt32 >>> ((2 : Int32) &&& 31).toUInt32).toInt32) &&& (3 : Int32))), .val (.int (((p4.toUInt32 >>> ((4 : Int32) &&& 31).toUInt32).toInt32) &&& (3 : Int32))), .val (.ref b2), .val (.ref b12), .val (.ref b19), .unset, .unset, .unset, .unset, .unset, .unset] [(.ref b35), (.ref b35)])) _
      exact kt)
  have hk45 := (Nat.le_trans (Nat.le_trans HK24 K27.1) E35.1)
  obtain ⟨b44, T44, h44, k44, X44, e44, E44, HS44, HK44, hZ44, hown44, st44⟩ := ldcS X35 hx hZ24 hown24 (own_h hw 39 rfl) (own_wS a0 Z hw) e35 HS24 hk45 (g := (mkF m 87 #[.val (.long q0), .second, .val (.long q1), .second, .val (.long q2), .second, .val (.long q3), .second, .val (.int p4), .val (.int p5), .val (.int (p5 &&& (3 : Int32))), .val (.int (p4 &&& (3 : Int32))), .val (.int (((p4.toUInt32 >>> ((2 : Int32) &&& 31).toUInt32).toInt32) &&& (3 : Int32))), .val (.int (((p4.toUInt32 >>> ((4 : Int32) &&& 31).toUInt32).toInt32) &&& (3 : Int32))), .val (.ref b2), .val (.ref b12), .val (.ref b19), .unset, .unset, .unset, .unset, .unset, .unset] [(.ref b35), (.ref b35)])) rfl (hb hby at_87) (n := 4) (by decide) (by decide) (by decide) (by decide)
  have go46 : ∀ t, Steps p.tables e below (T44.setTop (mkF m 95 #[.val (.long q0), .second, .val (.long q1), .second, .val (.long q2), .second, .val (.long q3), .second, .val (.int p4), .val (.int p5), .val (.int (p5 &&& (3 : Int32))), .val (.int (p4 &&& (3 : Int32))), .val (.int (((p4.toUInt32 >>> ((2 : Int32) &&& 31).toUInt32).toInt32) &&& (3 : Int32))), .val (.int (((p4.toUInt32 >>> ((4 : Int32) &&& 31).toUInt32).toInt32) &&& (3 : Int32))), .val (.ref b2), .val (.ref b12), .val (.ref b19), .unset, .unset, .unset, .unset, .unset, .unset] [.null, (.ref b12), (.int (((p4.toUInt32 >>> ((2 : Int32) &&& 31).toUInt32).toInt32) &&& (3 : Int32))), .null, (.ref b44), (.ref b35), (.ref b35)])) t → Steps p.tables e below (s₁.setTop (entryFrame m #[(.long q0), (.long q1), (.long q2), (.long q3), (.int p4), (.int p5)] maxLocals)) t := fun t kt => go43 t (by
      refine st44 _ ?_
      refine XS.aconstNull X44.here hx rfl (hb hby at_89) ?_
      refine XS.iload X44.here hx rfl (hb hby at_90) rfl ?_
      refine XS.aload X44.here hx rfl (hb hby at_92) rfl rfl ?_
      refine XS.aconstNull X44.here hx rfl (hb hby at_94) ?_
      exact kt)
  have fq48 := (A35.ext E44)
  have fq49 := (F35_name.ext E44)
  have fq50 := (F35_kind.ext E44)
  have fq51 := (F35_slot.ext E44)
  have fq52 := (F35_type.ext E44)
  have fq53 := (F35_position.ext E44)
  obtain ⟨_, _, ⟨T47, L47, k47, n47⟩, -, X47, ⟨Lc47, hQ47, l47, y47, z47⟩, st47⟩ := X44.specialBack hx (y := own_m21) rfl hown44 (mvT hZ44 (own_h hw 25 rfl)) (mvT hZ44 (own_h hw 26 rfl)) (mvT hZ44 (own_h hw 27 rfl)) (by decide) (backOf (W := 1) (rm3 l Z a0 hw [] b35 b44 (((p4.toUInt32 >>> ((2 : Int32) &&& 31).toUInt32).toInt32) &&& (3 : Int32)) b12 h44 n0 fq48 fq49 fq50 fq51 fq52 fq53 gb35) hZ44 (own_h hw 27 rfl) (own_h hw 16 rfl) (by decide) (by decide)) (g := (mkF m 95 #[.val (.long q0), .second, .val (.long q1), .second, .val (.long q2), .second, .val (.long q3), .second, .val (.int p4), .val (.int p5), .val (.int (p5 &&& (3 : Int32))), .val (.int (p4 &&& (3 : Int32))), .val (.int (((p4.toUInt32 >>> ((2 : Int32) &&& 31).toUInt32).toInt32) &&& (3 : Int32))), .val (.int (((p4.toUInt32 >>> ((4 : Int32) &&& 31).toUInt32).toInt32) &&& (3 : Int32))), .val (.ref b2), .val (.ref b12), .val (.ref b19), .unset, .unset, .unset, .unset, .unset, .unset] [.null, (.ref b12), (.int (((p4.toUInt32 >>> ((2 : Int32) &&& 31).toUInt32).toInt32) &&& (3 : Int32))), .null, (.ref b44), (.ref b35), (.ref b35)])) rfl (by rw [hml]; rfl) (Steps.refl _) (a := b35) (argsL := [(.ref b44), .null, (.int (((p4.toUInt32 >>> ((2 : Int32) &&& 31).toUInt32).toInt32) &&& (3 : Int32))), (.ref b12), .null]) (rest := [(.ref b35)]) (lenOf pd_2 rfl) rfl (by show 2 * 0 + _ ≤ _; exact Nat.le_of_eq rfl) (hb hby at_95) (fun _ _ => ⟨rfl, e44, (by decide : 8 + 0 ≤ _), (by decide : 32 + 0 ≤ _)⟩)
  dsimp only [Pt.U, Pt.locs, Pt.cells, Pt.slots] at X47 l47 y47 z47 st47 hQ47
  subst y47 z47
  obtain ⟨rfl, N47q, K47, E47x, F47l, F47h⟩ := hQ47
  have N47 := Fr.app N27 N47q
  rw [← l47] at N47
  have go54 : ∀ t, Steps p.tables e below (T47.setTop (mkF m 100 #[.val (.long q0), .second, .val (.long q1), .second, .val (.long q2), .second, .val (.long q3), .second, .val (.int p4), .val (.int p5), .val (.int (p5 &&& (3 : Int32))), .val (.int (p4 &&& (3 : Int32))), .val (.int (((p4.toUInt32 >>> ((2 : Int32) &&& 31).toUInt32).toInt32) &&& (3 : Int32))), .val (.int (((p4.toUInt32 >>> ((4 : Int32) &&& 31).toUInt32).toInt32) &&& (3 : Int32))), .val (.ref b2), .val (.ref b12), .val (.ref b19), .val (.ref b35), .unset, .unset, .unset, .unset, .unset] [])) t → Steps p.tables e below (s₁.setTop (entryFrame m #[(.long q0), (.long q1), (.long q2), (.long q3), (.int p4), (.int p5)] maxLocals)) t := fun t kt => go46 t (by
      refine st47.trans ?_
      refine XS.astore X47.here hx rfl (hb hby at_98) rfl rfl (l' := #[.val (.long q0), .second, .val (.long q1), .second, .val (.long q2), .second, .val (.long q3), .second, .val (.int p4), .val (.int p5), .val (.int (p5 &&& (3 : Int32))), .val (.int (p4 &&& (3 : Int32))), .val (.int (((p4.toUInt32 >>> ((2 : Int32) &&& 31).toUInt32).toInt32) &&& (3 : Int32))), .val (.int (((p4.toUInt32 >>> ((4 : Int32) &&& 31).toUInt32).toInt32) &&& (3 : Int32))), .val (.ref b2), .val (.ref b12), .val (.ref b19), .val (.ref b35), .unset, .unset, .unset, .unset, .unset]) rfl ?_
      exact kt)
  have zs56 := (Nat.le_trans (Nat.le_trans (Nat.le_trans zs36 E35.1) E44.1) K47.1)
  obtain ⟨T55, h55, X55, e55, E55, A55, D55, -, st55⟩ := newO X47 hx hZ44 hown44 (own_h hw 14 rfl) (own_h hw 15 rfl) (own_h hw 16 rfl) rfl (g := (mkF m 100 #[.val (.long q0), .second, .val (.long q1), .second, .val (.long q2), .second, .val (.long q3), .second, .val (.int p4), .val (.int p5), .val (.int (p5 &&& (3 : Int32))), .val (.int (p4 &&& (3 : Int32))), .val (.int (((p4.toUInt32 >>> ((2 : Int32) &&& 31).toUInt32).toInt32) &&& (3 : Int32))), .val (.int (((p4.toUInt32 >>> ((4 : Int32) &&& 31).toUInt32).toInt32) &&& (3 : Int32))), .val (.ref b2), .val (.ref b12), .val (.ref b19), .val (.ref b35), .unset, .unset, .unset, .unset, .unset] [])) rfl (hb hby at_100) (by decide) (by decide)
  obtain ⟨b55, g55⟩ : ∃ z, z = T47.heap.size := ⟨_, rfl⟩
  rw [← g55] at A55 D55 st55
  have ks55 : h0.size ≤ T47.heap.size := Nat.le_trans (Nat.le_trans (Nat.le_trans (ks35) E35.1) E44.1) K47.1
  have sz55 : h0.size ≤ b55 := Nat.le_trans ks55 (Nat.le_of_eq g55.symm)
  have fr57 := ((fq38.ext E35).ext E44)
  have fq58 := (fr57.keep K47)
  have ne_b12_b55 : b12 ≠ b55 := Nat.ne_of_lt (Nat.lt_of_lt_of_le fq58.lt (Nat.le_of_eq g55.symm))
  have fr59 := ((E27x.ext E35).ext E44)
  have fq60 := (fr59.keep K47)
  have ne_b19_b55 : b19 ≠ b55 := Nat.ne_of_lt (Nat.lt_of_lt_of_le fq60.lt (Nat.le_of_eq g55.symm))
  have fr61 := ((fq40.ext E35).ext E44)
  have fq62 := (fr61.keep K47 (ninS ne_b2_b35 nin0))
  have ne_b2_b55 : b2 ≠ b55 := Nat.ne_of_lt (Nat.lt_of_lt_of_le fq62.lt (Nat.le_of_eq g55.symm))
  have ne_b35_b55 : b35 ≠ b55 := Nat.ne_of_lt (Nat.lt_of_lt_of_le E47x.lt (Nat.le_of_eq g55.symm))
  have fr63 := ((fq42.ext E35).ext E44)
  have fq64 := (fr63.keep K47 (ninS ne_dd_b35 nin0))
  have ne_dd_b55 : dd ≠ b55 := Nat.ne_of_lt (Nat.lt_of_lt_of_le fq64.lt (Nat.le_of_eq g55.symm))
  have gb55 : n0 ≤ b55 := Nat.le_trans zs56 (Nat.le_of_eq g55.symm)
  have F55_name : Fld Z h55 b55 "com/example/invariant_ink/invariantink/lang/Local" "name" "Ljava/lang/String;" .null := D55 (Or.inr (own_h hw 30 rfl)) (ty := (.object "java/lang/String")) (by decide)
  have F55_kind : Fld Z h55 b55 "com/example/invariant_ink/invariantink/lang/Local" "kind" "Lcom/example/invariant_ink/invariantink/lang/Local$Kind;" .null := D55 (Or.inr (own_h hw 32 rfl)) (ty := (.object "com/example/invariant_ink/invariantink/lang/Local$Kind")) (by decide)
  have F55_slot : Fld Z h55 b55 "com/example/invariant_ink/invariantink/lang/Local" "slot" "I" (.int (0 : Int32)) := D55 (Or.inr (own_h hw 34 rfl)) (ty := .int) (by decide)
  have F55_type : Fld Z h55 b55 "com/example/invariant_ink/invariantink/lang/Local" "type" "Lcom/example/invariant_ink/invariantink/lang/Type;" .null := D55 (Or.inr (own_h hw 36 rfl)) (ty := (.object "com/example/invariant_ink/invariantink/lang/Type")) (by decide)
  have F55_position : Fld Z h55 b55 "com/example/invariant_ink/invariantink/lang/Local" "position" "Lcom/example/invariant_ink/invariantink/lang/Position;" .null := D55 (Or.inr (own_h hw 38 rfl)) (ty := (.object "com/example/invariant_ink/invariantink/lang/Position")) (by decide)
  have go65 : ∀ t, Steps p.tables e below (T55.setTop (mkF m 104 #[.val (.long q0), .second, .val (.long q1), .second, .val (.long q2), .second, .val (.long q3), .second, .val (.int p4), .val (.int p5), .val (.int (p5 &&& (3 : Int32))), .val (.int (p4 &&& (3 : Int32))), .val (.int (((p4.toUInt32 >>> ((2 : Int32) &&& 31).toUInt32).toInt32) &&& (3 : Int32))), .val (.int (((p4.toUInt32 >>> ((4 : Int32) &&& 31).toUInt32).toInt32) &&& (3 : Int32))), .val (.ref b2), .val (.ref b12), .val (.ref b19), .val (.ref b35), .unset, .unset, .unset, .unset, .unset] [(.ref b55), (.ref b55)])) t → Steps p.tables e below (s₁.setTop (entryFrame m #[(.long q0), (.long q1), (.long q2), (.long q3), (.int p4), (.int p5)] maxLocals)) t := fun t kt => go54 t (by
      refine st55 _ ?_
      show Steps p.tables e below (T55.setTop (mkF m 103 #[.val (.long q0), .second, .val (.long q1), .second, .val (.long q2), .second, .val (.long q3), .second, .val (.int p4), .val (.int p5), .val (.int (p5 &&& (3 : Int32))), .val (.int (p4 &&& (3 : Int32))), .val (.int (((p4.toUInt32 >>> ((2 : Int32) &&& 31).toUInt32).toInt32) &&& (3 : Int32))), .val (.int (((p4.toUInt32 >>> ((4 : Int32) &&& 31).toUInt32).toInt32) &&& (3 : Int32))), .val (.ref b2), .val (.ref b12), .val (.ref b19), .val (.ref b35), .unset, .unset, .unset, .unset, .unset] [(.ref b55)])) _
      refine XS.dup X55.here hx rfl (hb hby at_103) rfl rfl ?_
      exact kt)
  have hk67 := (Nat.le_trans (Nat.le_trans HK44 K47.1) E55.1)
  obtain ⟨b66, T66, h66, k66, X66, e66, E66, HS66, HK66, hZ66, hown66, st66⟩ := ldcS X55 hx hZ44 hown44 (own_h hw 40 rfl) (own_wS a0 Z hw) e55 HS44 hk67 (g := (mkF m 104 #[.val (.long q0), .second, .val (.long q1), .second, .val (.long q2), .second, .val (.long q3), .second, .val (.int p4), .val (.int p5), .val (.int (p5 &&& (3 : Int32))), .val (.int (p4 &&& (3 : Int32))), .val (.int (((p4.toUInt32 >>> ((2 : Int32) &&& 31).toUInt32).toInt32) &&& (3 : Int32))), .val (.int (((p4.toUInt32 >>> ((4 : Int32) &&& 31).toUInt32).toInt32) &&& (3 : Int32))), .val (.ref b2), .val (.ref b12), .val (.ref b19), .val (.ref b35), .unset, .unset, .unset, .unset, .unset] [(.ref b55), (.ref b55)])) rfl (hb hby at_104) (n := 4) (by decide) (by decide) (by decide) (by decide)
  have go68 : ∀ t, Steps p.tables e below (T66.setTop (mkF m 112 #[.val (.long q0), .second, .val (.long q1), .second, .val (.long q2), .second, .val (.long q3), .second, .val (.int p4), .val (.int p5), .val (.int (p5 &&& (3 : Int32))), .val (.int (p4 &&& (3 : Int32))), .val (.int (((p4.toUInt32 >>> ((2 : Int32) &&& 31).toUInt32).toInt32) &&& (3 : Int32))), .val (.int (((p4.toUInt32 >>> ((4 : Int32) &&& 31).toUInt32).toInt32) &&& (3 : Int32))), .val (.ref b2), .val (.ref b12), .val (.ref b19), .val (.ref b35), .unset, .unset, .unset, .unset, .unset] [.null, (.ref b12), (.int (((p4.toUInt32 >>> ((4 : Int32) &&& 31).toUInt32).toInt32) &&& (3 : Int32))), .null, (.ref b66), (.ref b55), (.ref b55)])) t → Steps p.tables e below (s₁.setTop (entryFrame m #[(.long q0), (.long q1), (.long q2), (.long q3), (.int p4), (.int p5)] maxLocals)) t := fun t kt => go65 t (by
      refine st66 _ ?_
      refine XS.aconstNull X66.here hx rfl (hb hby at_106) ?_
      refine XS.iload X66.here hx rfl (hb hby at_107) rfl ?_
      refine XS.aload X66.here hx rfl (hb hby at_109) rfl rfl ?_
      refine XS.aconstNull X66.here hx rfl (hb hby at_111) ?_
      exact kt)
  have fq70 := (A55.ext E66)
  have fq71 := (F55_name.ext E66)
  have fq72 := (F55_kind.ext E66)
  have fq73 := (F55_slot.ext E66)
  have fq74 := (F55_type.ext E66)
  have fq75 := (F55_position.ext E66)
  obtain ⟨_, _, ⟨T69, L69, k69, n69⟩, -, X69, ⟨Lc69, hQ69, l69, y69, z69⟩, st69⟩ := X66.specialBack hx (y := own_m21) rfl hown66 (mvT hZ66 (own_h hw 25 rfl)) (mvT hZ66 (own_h hw 26 rfl)) (mvT hZ66 (own_h hw 27 rfl)) (by decide) (backOf (W := 1) (rm3 l Z a0 hw [] b55 b66 (((p4.toUInt32 >>> ((4 : Int32) &&& 31).toUInt32).toInt32) &&& (3 : Int32)) b12 h66 n0 fq70 fq71 fq72 fq73 fq74 fq75 gb55) hZ66 (own_h hw 27 rfl) (own_h hw 16 rfl) (by decide) (by decide)) (g := (mkF m 112 #[.val (.long q0), .second, .val (.long q1), .second, .val (.long q2), .second, .val (.long q3), .second, .val (.int p4), .val (.int p5), .val (.int (p5 &&& (3 : Int32))), .val (.int (p4 &&& (3 : Int32))), .val (.int (((p4.toUInt32 >>> ((2 : Int32) &&& 31).toUInt32).toInt32) &&& (3 : Int32))), .val (.int (((p4.toUInt32 >>> ((4 : Int32) &&& 31).toUInt32).toInt32) &&& (3 : Int32))), .val (.ref b2), .val (.ref b12), .val (.ref b19), .val (.ref b35), .unset, .unset, .unset, .unset, .unset] [.null, (.ref b12), (.int (((p4.toUInt32 >>> ((4 : Int32) &&& 31).toUInt32).toInt32) &&& (3 : Int32))), .null, (.ref b66), (.ref b55), (.ref b55)])) rfl (by rw [hml]; rfl) (Steps.refl _) (a := b55) (argsL := [(.ref b66), .null, (.int (((p4.toUInt32 >>> ((4 : Int32) &&& 31).toUInt32).toInt32) &&& (3 : Int32))), (.ref b12), .null]) (rest := [(.ref b55)]) (lenOf pd_2 rfl) rfl (by show 2 * 0 + _ ≤ _; exact Nat.le_of_eq rfl) (hb hby at_112) (fun _ _ => ⟨rfl, e66, (by decide : 11 + 0 ≤ _), (by decide : 45 + 0 ≤ _)⟩)
  dsimp only [Pt.U, Pt.locs, Pt.cells, Pt.slots] at X69 l69 y69 z69 st69 hQ69
  subst y69 z69
  obtain ⟨rfl, N69q, K69, E69x, F69l, F69h⟩ := hQ69
  have N69 := Fr.app N47 N69q
  rw [← l69] at N69
  have go76 : ∀ t, Steps p.tables e below (T69.setTop (mkF m 117 #[.val (.long q0), .second, .val (.long q1), .second, .val (.long q2), .second, .val (.long q3), .second, .val (.int p4), .val (.int p5), .val (.int (p5 &&& (3 : Int32))), .val (.int (p4 &&& (3 : Int32))), .val (.int (((p4.toUInt32 >>> ((2 : Int32) &&& 31).toUInt32).toInt32) &&& (3 : Int32))), .val (.int (((p4.toUInt32 >>> ((4 : Int32) &&& 31).toUInt32).toInt32) &&& (3 : Int32))), .val (.ref b2), .val (.ref b12), .val (.ref b19), .val (.ref b35), .val (.ref b55), .unset, .unset, .unset, .unset] [])) t → Steps p.tables e below (s₁.setTop (entryFrame m #[(.long q0), (.long q1), (.long q2), (.long q3), (.int p4), (.int p5)] maxLocals)) t := fun t kt => go68 t (by
      refine st69.trans ?_
      refine XS.astore X69.here hx rfl (hb hby at_115) rfl rfl (l' := #[.val (.long q0), .second, .val (.long q1), .second, .val (.long q2), .second, .val (.long q3), .second, .val (.int p4), .val (.int p5), .val (.int (p5 &&& (3 : Int32))), .val (.int (p4 &&& (3 : Int32))), .val (.int (((p4.toUInt32 >>> ((2 : Int32) &&& 31).toUInt32).toInt32) &&& (3 : Int32))), .val (.int (((p4.toUInt32 >>> ((4 : Int32) &&& 31).toUInt32).toInt32) &&& (3 : Int32))), .val (.ref b2), .val (.ref b12), .val (.ref b19), .val (.ref b35), .val (.ref b55), .unset, .unset, .unset, .unset]) rfl ?_
      show Steps p.tables e below (T69.setTop (mkF m 117 #[.val (.long q0), .second, .val (.long q1), .second, .val (.long q2), .second, .val (.long q3), .second, .val (.int p4), .val (.int p5), .val (.int (p5 &&& (3 : Int32))), .val (.int (p4 &&& (3 : Int32))), .val (.int (((p4.toUInt32 >>> ((2 : Int32) &&& 31).toUInt32).toInt32) &&& (3 : Int32))), .val (.int (((p4.toUInt32 >>> ((4 : Int32) &&& 31).toUInt32).toInt32) &&& (3 : Int32))), .val (.ref b2), .val (.ref b12), .val (.ref b19), .val (.ref b35), .val (.ref b55), .unset, .unset, .unset, .unset] [])) _
      exact kt)
  have zs78 := (Nat.le_trans (Nat.le_trans (Nat.le_trans zs56 E55.1) E66.1) K69.1)
  obtain ⟨T77, h77, X77, e77, E77, A77, D77, -, st77⟩ := newO X69 hx hZ66 hown66 (own_h hw 41 rfl) (own_h hw 42 rfl) (own_h hw 43 rfl) rfl (g := (mkF m 117 #[.val (.long q0), .second, .val (.long q1), .second, .val (.long q2), .second, .val (.long q3), .second, .val (.int p4), .val (.int p5), .val (.int (p5 &&& (3 : Int32))), .val (.int (p4 &&& (3 : Int32))), .val (.int (((p4.toUInt32 >>> ((2 : Int32) &&& 31).toUInt32).toInt32) &&& (3 : Int32))), .val (.int (((p4.toUInt32 >>> ((4 : Int32) &&& 31).toUInt32).toInt32) &&& (3 : Int32))), .val (.ref b2), .val (.ref b12), .val (.ref b19), .val (.ref b35), .val (.ref b55), .unset, .unset, .unset, .unset] [])) rfl (hb hby at_117) (by decide) (by decide)
  obtain ⟨b77, g77⟩ : ∃ z, z = T69.heap.size := ⟨_, rfl⟩
  rw [← g77] at A77 D77 st77
  have ks77 : h0.size ≤ T69.heap.size := Nat.le_trans (Nat.le_trans (Nat.le_trans (ks55) E55.1) E66.1) K69.1
  have sz77 : h0.size ≤ b77 := Nat.le_trans ks77 (Nat.le_of_eq g77.symm)
  have fr79 := ((fq58.ext E55).ext E66)
  have fq80 := (fr79.keep K69)
  have ne_b12_b77 : b12 ≠ b77 := Nat.ne_of_lt (Nat.lt_of_lt_of_le fq80.lt (Nat.le_of_eq g77.symm))
  have fr81 := ((fq60.ext E55).ext E66)
  have fq82 := (fr81.keep K69)
  have ne_b19_b77 : b19 ≠ b77 := Nat.ne_of_lt (Nat.lt_of_lt_of_le fq82.lt (Nat.le_of_eq g77.symm))
  have fr83 := ((fq62.ext E55).ext E66)
  have fq84 := (fr83.keep K69 (ninS ne_b2_b55 nin0))
  have ne_b2_b77 : b2 ≠ b77 := Nat.ne_of_lt (Nat.lt_of_lt_of_le fq84.lt (Nat.le_of_eq g77.symm))
  have fr85 := ((E47x.ext E55).ext E66)
  have fq86 := (fr85.keep K69)
  have ne_b35_b77 : b35 ≠ b77 := Nat.ne_of_lt (Nat.lt_of_lt_of_le fq86.lt (Nat.le_of_eq g77.symm))
  have ne_b55_b77 : b55 ≠ b77 := Nat.ne_of_lt (Nat.lt_of_lt_of_le E69x.lt (Nat.le_of_eq g77.symm))
  have fr87 := ((fq64.ext E55).ext E66)
  have fq88 := (fr87.keep K69 (ninS ne_dd_b55 nin0))
  have ne_dd_b77 : dd ≠ b77 := Nat.ne_of_lt (Nat.lt_of_lt_of_le fq88.lt (Nat.le_of_eq g77.symm))
  have gb77 : n0 ≤ b77 := Nat.le_trans zs78 (Nat.le_of_eq g77.symm)
  have F77_modCount : Fld Z h77 b77 "java/util/AbstractList" "modCount" "I" (.int (0 : Int32)) := D77 (Or.inl (own_h hw 61 rfl)) (ty := .int) (by decide)
  have F77_elementData : Fld Z h77 b77 "java/util/ArrayList" "elementData" "[Ljava/lang/Object;" .null := D77 (Or.inl (own_h hw 64 rfl)) (ty := (.array (.object "java/lang/Object"))) (by decide)
  have F77_size : Fld Z h77 b77 "java/util/ArrayList" "size" "I" (.int (0 : Int32)) := D77 (Or.inl (own_h hw 85 rfl)) (ty := .int) (by decide)
  have go89 : ∀ t, Steps p.tables e below (T77.setTop (mkF m 121 #[.val (.long q0), .second, .val (.long q1), .second, .val (.long q2), .second, .val (.long q3), .second, .val (.int p4), .val (.int p5), .val (.int (p5 &&& (3 : Int32))), .val (.int (p4 &&& (3 : Int32))), .val (.int (((p4.toUInt32 >>> ((2 : Int32) &&& 31).toUInt32).toInt32) &&& (3 : Int32))), .val (.int (((p4.toUInt32 >>> ((4 : Int32) &&& 31).toUInt32).toInt32) &&& (3 : Int32))), .val (.ref b2), .val (.ref b12), .val (.ref b19), .val (.ref b35), .val (.ref b55), .unset, .unset, .unset, .unset] [(.ref b77), (.ref b77)])) t → Steps p.tables e below (s₁.setTop (entryFrame m #[(.long q0), (.long q1), (.long q2), (.long q3), (.int p4), (.int p5)] maxLocals)) t := fun t kt => go76 t (by
      refine st77 _ ?_
      refine XS.dup X77.here hx rfl (hb hby at_120) rfl rfl ?_
      exact kt)
  have LOi : own_LO Z h77 b77 .null 0 0 := ⟨A77, F77_elementData, F77_size, F77_modCount⟩
  have fr91 := ((Old1.ext E2).wr W4 gb2)
  have fr92 := (((fr91.wr W6 gb2).wr W8 gb2).wr W10 gb2)
  have fr93 := (((fr92.ext E12).keep K17 (allS gb12 all0)).ext E19)
  have fr94 := (((fr93.ext E24).keep K27 (allS gb19 all0)).ext E35)
  have fr95 := (((fr94.ext E44).keep K47 (allS gb35 all0)).ext E55)
  have fq96 := (((fr95.ext E66).keep K69 (allS gb55 all0)).ext E77)
  obtain ⟨_, _, ⟨T90, L90, k90, n90⟩, -, X90, ⟨Lc90, hQ90, l90, y90, z90⟩, st90⟩ := X77.specialBack hx (y := own_m22) rfl hown66 (mvT hZ66 (own_h hw 44 rfl)) (mvT hZ66 (own_h hw 45 rfl)) (mvT hZ66 (own_h hw 46 rfl)) (by decide) (backOf (W := 1) (rm4 l Z a0 hw [] b77 dd h77 n0 LOi gb77 fq96 SS) hZ66 (own_h hw 46 rfl) (own_h hw 43 rfl) (by decide) (by decide)) (g := (mkF m 121 #[.val (.long q0), .second, .val (.long q1), .second, .val (.long q2), .second, .val (.long q3), .second, .val (.int p4), .val (.int p5), .val (.int (p5 &&& (3 : Int32))), .val (.int (p4 &&& (3 : Int32))), .val (.int (((p4.toUInt32 >>> ((2 : Int32) &&& 31).toUInt32).toInt32) &&& (3 : Int32))), .val (.int (((p4.toUInt32 >>> ((4 : Int32) &&& 31).toUInt32).toInt32) &&& (3 : Int32))), .val (.ref b2), .val (.ref b12), .val (.ref b19), .val (.ref b35), .val (.ref b55), .unset, .unset, .unset, .unset] [(.ref b77), (.ref b77)])) rfl (by rw [hml]; rfl) (Steps.refl _) (a := b77) (argsL := []) (rest := [(.ref b77)]) (lenOf pd_1 rfl) rfl (by show 2 * 0 + _ ≤ _; exact Nat.le_of_eq rfl) (hb hby at_121) (fun _ _ => ⟨rfl, e77, (by decide : 12 + 0 ≤ _), (by decide : 48 + 0 ≤ _)⟩)
  dsimp only [Pt.U, Pt.locs, Pt.cells, Pt.slots] at X90 l90 y90 z90 st90 hQ90
  subst y90 z90
  obtain ⟨rfl, N90q, K90, LO90⟩ := hQ90
  obtain ⟨iE, iF1, iF2, iF3⟩ := id LO90
  have N90 := Fr.app N69 N90q
  rw [← l90] at N90
  have go97 : ∀ t, Steps p.tables e below (T90.setTop (mkF m 126 #[.val (.long q0), .second, .val (.long q1), .second, .val (.long q2), .second, .val (.long q3), .second, .val (.int p4), .val (.int p5), .val (.int (p5 &&& (3 : Int32))), .val (.int (p4 &&& (3 : Int32))), .val (.int (((p4.toUInt32 >>> ((2 : Int32) &&& 31).toUInt32).toInt32) &&& (3 : Int32))), .val (.int (((p4.toUInt32 >>> ((4 : Int32) &&& 31).toUInt32).toInt32) &&& (3 : Int32))), .val (.ref b2), .val (.ref b12), .val (.ref b19), .val (.ref b35), .val (.ref b55), .val (.ref b77), .unset, .unset, .unset] [])) t → Steps p.tables e below (s₁.setTop (entryFrame m #[(.long q0), (.long q1), (.long q2), (.long q3), (.int p4), (.int p5)] maxLocals)) t := fun t kt => go89 t (by
      refine st90.trans ?_
      refine XS.astore X90.here hx rfl (hb hby at_124) rfl rfl (l' := #[.val (.long q0), .second, .val (.long q1), .second, .val (.long q2), .second, .val (.long q3), .second, .val (.int p4), .val (.int p5), .val (.int (p5 &&& (3 : Int32))), .val (.int (p4 &&& (3 : Int32))), .val (.int (((p4.toUInt32 >>> ((2 : Int32) &&& 31).toUInt32).toInt32) &&& (3 : Int32))), .val (.int (((p4.toUInt32 >>> ((4 : Int32) &&& 31).toUInt32).toInt32) &&& (3 : Int32))), .val (.ref b2), .val (.ref b12), .val (.ref b19), .val (.ref b35), .val (.ref b55), .val (.ref b77), .unset, .unset, .unset]) rfl ?_
      exact kt)
  rcases own_n4 p5 with h4 | h4 | h4 | h4
  · rw [h4] at go97
    have hc129_98 : (0 : Int32) < (1 : Int32) := (by decide)
    have hc143_99 : (0 : Int32) < (2 : Int32) := (by decide)
    have hc157_100 : (0 : Int32) < (3 : Int32) := (by decide)
    have go101 : ∀ t, Steps p.tables e below (T90.setTop (mkF m 168 #[.val (.long q0), .second, .val (.long q1), .second, .val (.long q2), .second, .val (.long q3), .second, .val (.int p4), .val (.int p5), .val (.int (0 : Int32)), .val (.int (p4 &&& (3 : Int32))), .val (.int (((p4.toUInt32 >>> ((2 : Int32) &&& 31).toUInt32).toInt32) &&& (3 : Int32))), .val (.int (((p4.toUInt32 >>> ((4 : Int32) &&& 31).toUInt32).toInt32) &&& (3 : Int32))), .val (.ref b2), .val (.ref b12), .val (.ref b19), .val (.ref b35), .val (.ref b55), .val (.ref b77), .unset, .unset, .unset] [])) t → Steps p.tables e below (s₁.setTop (entryFrame m #[(.long q0), (.long q1), (.long q2), (.long q3), (.int p4), (.int p5)] maxLocals)) t := fun t kt => go97 t (by
        refine XS.iload X90.here hx rfl (hb hby at_126) rfl ?_
        refine XS.iconst X90.here hx rfl (hb hby at_128) ?_
        refine XS.icmpYes X90.here hx rfl (pc0 := 129) (pc' := 140) rfl (hb hby at_129) rfl (tlt hc129_98).1 (by decide) (by decide) ?_
        refine XS.iload X90.here hx rfl (hb hby at_140) rfl ?_
        show Steps p.tables e below (T90.setTop (mkF m 142 #[.val (.long q0), .second, .val (.long q1), .second, .val (.long q2), .second, .val (.long q3), .second, .val (.int p4), .val (.int p5), .val (.int (0 : Int32)), .val (.int (p4 &&& (3 : Int32))), .val (.int (((p4.toUInt32 >>> ((2 : Int32) &&& 31).toUInt32).toInt32) &&& (3 : Int32))), .val (.int (((p4.toUInt32 >>> ((4 : Int32) &&& 31).toUInt32).toInt32) &&& (3 : Int32))), .val (.ref b2), .val (.ref b12), .val (.ref b19), .val (.ref b35), .val (.ref b55), .val (.ref b77), .unset, .unset, .unset] [(.int (0 : Int32))])) _
        refine XS.iconst X90.here hx rfl (hb hby at_142) ?_
        refine XS.icmpYes X90.here hx rfl (pc0 := 143) (pc' := 154) rfl (hb hby at_143) rfl (tlt hc143_99).1 (by decide) (by decide) ?_
        refine XS.iload X90.here hx rfl (hb hby at_154) rfl ?_
        refine XS.iconst X90.here hx rfl (hb hby at_156) ?_
        refine XS.icmpYes X90.here hx rfl (pc0 := 157) (pc' := 168) rfl (hb hby at_157) rfl (tlt hc157_100).1 (by decide) (by decide) ?_
        exact kt)
    have zs103 := (Nat.le_trans (Nat.le_trans zs78 E77.1) K90.1)
    obtain ⟨T102, h102, X102, e102, E102, A102, D102, -, st102⟩ := newO X90 hx hZ66 hown66 (own_h hw 65 rfl) (own_h hw 66 rfl) (own_h hw 67 rfl) rfl (g := (mkF m 168 #[.val (.long q0), .second, .val (.long q1), .second, .val (.long q2), .second, .val (.long q3), .second, .val (.int p4), .val (.int p5), .val (.int (0 : Int32)), .val (.int (p4 &&& (3 : Int32))), .val (.int (((p4.toUInt32 >>> ((2 : Int32) &&& 31).toUInt32).toInt32) &&& (3 : Int32))), .val (.int (((p4.toUInt32 >>> ((4 : Int32) &&& 31).toUInt32).toInt32) &&& (3 : Int32))), .val (.ref b2), .val (.ref b12), .val (.ref b19), .val (.ref b35), .val (.ref b55), .val (.ref b77), .unset, .unset, .unset] [])) rfl (hb hby at_168) (by decide) (by decide)
    obtain ⟨b102, g102⟩ : ∃ z, z = T90.heap.size := ⟨_, rfl⟩
    rw [← g102] at A102 D102 st102
    have ks102 : h0.size ≤ T90.heap.size := Nat.le_trans (Nat.le_trans (ks77) E77.1) K90.1
    have sz102 : h0.size ≤ b102 := Nat.le_trans ks102 (Nat.le_of_eq g102.symm)
    have fq104 := ((fq80.ext E77).keep K90)
    have ne_b12_b102 : b12 ≠ b102 := Nat.ne_of_lt (Nat.lt_of_lt_of_le fq104.lt (Nat.le_of_eq g102.symm))
    have fq105 := ((fq82.ext E77).keep K90)
    have ne_b19_b102 : b19 ≠ b102 := Nat.ne_of_lt (Nat.lt_of_lt_of_le fq105.lt (Nat.le_of_eq g102.symm))
    have fq106 := ((fq84.ext E77).keep K90 (ninS ne_b2_b77 nin0))
    have ne_b2_b102 : b2 ≠ b102 := Nat.ne_of_lt (Nat.lt_of_lt_of_le fq106.lt (Nat.le_of_eq g102.symm))
    have fq107 := ((fq86.ext E77).keep K90)
    have ne_b35_b102 : b35 ≠ b102 := Nat.ne_of_lt (Nat.lt_of_lt_of_le fq107.lt (Nat.le_of_eq g102.symm))
    have fq108 := ((E69x.ext E77).keep K90)
    have ne_b55_b102 : b55 ≠ b102 := Nat.ne_of_lt (Nat.lt_of_lt_of_le fq108.lt (Nat.le_of_eq g102.symm))
    have ne_b77_b102 : b77 ≠ b102 := Nat.ne_of_lt (Nat.lt_of_lt_of_le iE.lt (Nat.le_of_eq g102.symm))
    have fq109 := ((fq88.ext E77).keep K90 (ninS ne_dd_b77 nin0))
    have ne_dd_b102 : dd ≠ b102 := Nat.ne_of_lt (Nat.lt_of_lt_of_le fq109.lt (Nat.le_of_eq g102.symm))
    have gb102 : n0 ≤ b102 := Nat.le_trans zs103 (Nat.le_of_eq g102.symm)
    have F102_slots : Fld Z h102 b102 "com/example/invariant_ink/invariantink/engine/Combinations" "slots" "[I" .null := D102 (Or.inr (own_h hw 88 rfl)) (ty := (.array .int)) (by decide)
    have F102_firsts : Fld Z h102 b102 "com/example/invariant_ink/invariantink/engine/Combinations" "firsts" "[J" .null := D102 (Or.inr (own_h hw 90 rfl)) (ty := (.array .long)) (by decide)
    have F102_lasts : Fld Z h102 b102 "com/example/invariant_ink/invariantink/engine/Combinations" "lasts" "[J" .null := D102 (Or.inr (own_h hw 92 rfl)) (ty := (.array .long)) (by decide)
    have go110 : ∀ t, Steps p.tables e below (T102.setTop (mkF m 174 #[.val (.long q0), .second, .val (.long q1), .second, .val (.long q2), .second, .val (.long q3), .second, .val (.int p4), .val (.int p5), .val (.int (0 : Int32)), .val (.int (p4 &&& (3 : Int32))), .val (.int (((p4.toUInt32 >>> ((2 : Int32) &&& 31).toUInt32).toInt32) &&& (3 : Int32))), .val (.int (((p4.toUInt32 >>> ((4 : Int32) &&& 31).toUInt32).toInt32) &&& (3 : Int32))), .val (.ref b2), .val (.ref b12), .val (.ref b19), .val (.ref b35), .val (.ref b55), .val (.ref b77), .unset, .unset, .unset] [(.ref b77), (.ref b102), (.ref b102)])) t → Steps p.tables e below (s₁.setTop (entryFrame m #[(.long q0), (.long q1), (.long q2), (.long q3), (.int p4), (.int p5)] maxLocals)) t := fun t kt => go101 t (by
        refine st102 _ ?_
        refine XS.dup X102.here hx rfl (hb hby at_171) rfl rfl ?_
        refine XS.aload X102.here hx rfl (hb hby at_172) rfl rfl ?_
        show Steps p.tables e below (T102.setTop (mkF m 174 #[.val (.long q0), .second, .val (.long q1), .second, .val (.long q2), .second, .val (.long q3), .second, .val (.int p4), .val (.int p5), .val (.int (0 : Int32)), .val (.int (p4 &&& (3 : Int32))), .val (.int (((p4.toUInt32 >>> ((2 : Int32) &&& 31).toUInt32).toInt32) &&& (3 : Int32))), .val (.int (((p4.toUInt32 >>> ((4 : Int32) &&& 31).toUInt32).toInt32) &&& (3 : Int32))), .val (.ref b2), .val (.ref b12), .val (.ref b19), .val (.ref b35), .val (.ref b55), .val (.ref b77), .unset, .unset, .unset] [(.ref b77), (.ref b102), (.ref b102)])) _
        exact kt)
    have zs112 := (Nat.le_trans zs103 E102.1)
    have fq113 := (iE.ext E102)
    have fq114 := (iF1.ext E102)
    have fq115 := (iF2.ext E102)
    have fq116 := (iF3.ext E102)
    obtain ⟨_, _, ⟨T111, L111, k111, n111⟩, -, X111, ⟨Lc111, hQ111, l111, y111, z111⟩, st111⟩ := X102.specialBack hx (y := own_m23) rfl hown66 (mvT hZ66 (own_h hw 68 rfl)) (mvT hZ66 (own_h hw 69 rfl)) (mvT hZ66 (own_h hw 70 rfl)) (by decide) (backOf (W := 1) (rmC1_0 l Z a0 hw [] b102 b77 dd (0 : Int32) h102 n0 zs112 A102 F102_slots F102_firsts F102_lasts gb102 ⟨fq113, fq114, fq115, fq116⟩) hZ66 (own_h hw 70 rfl) (own_h hw 67 rfl) (by decide) (by decide)) (g := (mkF m 174 #[.val (.long q0), .second, .val (.long q1), .second, .val (.long q2), .second, .val (.long q3), .second, .val (.int p4), .val (.int p5), .val (.int (0 : Int32)), .val (.int (p4 &&& (3 : Int32))), .val (.int (((p4.toUInt32 >>> ((2 : Int32) &&& 31).toUInt32).toInt32) &&& (3 : Int32))), .val (.int (((p4.toUInt32 >>> ((4 : Int32) &&& 31).toUInt32).toInt32) &&& (3 : Int32))), .val (.ref b2), .val (.ref b12), .val (.ref b19), .val (.ref b35), .val (.ref b55), .val (.ref b77), .unset, .unset, .unset] [(.ref b77), (.ref b102), (.ref b102)])) rfl (by rw [hml]; rfl) (Steps.refl _) (a := b102) (argsL := [(.ref b77)]) (rest := [(.ref b102)]) (lenOf pd_3 rfl) rfl (by show 2 * 0 + _ ≤ _; exact Nat.le_of_eq rfl) (hb hby at_174) (fun _ _ => ⟨rfl, e102, (by decide : 13 + 3 ≤ _), (by decide : 51 + 0 ≤ _)⟩)
    dsimp only [Pt.U, Pt.locs, Pt.cells, Pt.slots] at X111 l111 y111 z111 st111 hQ111
    subst y111 z111
    obtain ⟨x111, y111, z111, rfl, N111q, K111, E111x, F111a, F111b, F111c, V111a, V111b, V111c, z111a, z111b, z111c⟩ := hQ111
    have ne_b102_x111 : b102 ≠ x111 := Nat.ne_of_lt (Nat.lt_of_lt_of_le A102.lt z111a)
    have fq117 := (fq104.ext E102)
    have ne_b12_x111 : b12 ≠ x111 := Nat.ne_of_lt (Nat.lt_of_lt_of_le fq117.lt z111a)
    have fq118 := (fq105.ext E102)
    have ne_b19_x111 : b19 ≠ x111 := Nat.ne_of_lt (Nat.lt_of_lt_of_le fq118.lt z111a)
    have fq119 := (fq106.ext E102)
    have ne_b2_x111 : b2 ≠ x111 := Nat.ne_of_lt (Nat.lt_of_lt_of_le fq119.lt z111a)
    have fq120 := (fq107.ext E102)
    have ne_b35_x111 : b35 ≠ x111 := Nat.ne_of_lt (Nat.lt_of_lt_of_le fq120.lt z111a)
    have fq121 := (fq108.ext E102)
    have ne_b55_x111 : b55 ≠ x111 := Nat.ne_of_lt (Nat.lt_of_lt_of_le fq121.lt z111a)
    have ne_b77_x111 : b77 ≠ x111 := Nat.ne_of_lt (Nat.lt_of_lt_of_le fq113.lt z111a)
    have fq122 := (fq109.ext E102)
    have ne_dd_x111 : dd ≠ x111 := Nat.ne_of_lt (Nat.lt_of_lt_of_le fq122.lt z111a)
    have ne_b102_y111 : b102 ≠ y111 := Nat.ne_of_lt (Nat.lt_of_lt_of_le A102.lt z111b)
    have ne_b12_y111 : b12 ≠ y111 := Nat.ne_of_lt (Nat.lt_of_lt_of_le fq117.lt z111b)
    have ne_b19_y111 : b19 ≠ y111 := Nat.ne_of_lt (Nat.lt_of_lt_of_le fq118.lt z111b)
    have ne_b2_y111 : b2 ≠ y111 := Nat.ne_of_lt (Nat.lt_of_lt_of_le fq119.lt z111b)
    have ne_b35_y111 : b35 ≠ y111 := Nat.ne_of_lt (Nat.lt_of_lt_of_le fq120.lt z111b)
    have ne_b55_y111 : b55 ≠ y111 := Nat.ne_of_lt (Nat.lt_of_lt_of_le fq121.lt z111b)
    have ne_b77_y111 : b77 ≠ y111 := Nat.ne_of_lt (Nat.lt_of_lt_of_le fq113.lt z111b)
    have ne_dd_y111 : dd ≠ y111 := Nat.ne_of_lt (Nat.lt_of_lt_of_le fq122.lt z111b)
    have ne_b102_z111 : b102 ≠ z111 := Nat.ne_of_lt (Nat.lt_of_lt_of_le A102.lt z111c)
    have ne_b12_z111 : b12 ≠ z111 := Nat.ne_of_lt (Nat.lt_of_lt_of_le fq117.lt z111c)
    have ne_b19_z111 : b19 ≠ z111 := Nat.ne_of_lt (Nat.lt_of_lt_of_le fq118.lt z111c)
    have ne_b2_z111 : b2 ≠ z111 := Nat.ne_of_lt (Nat.lt_of_lt_of_le fq119.lt z111c)
    have ne_b35_z111 : b35 ≠ z111 := Nat.ne_of_lt (Nat.lt_of_lt_of_le fq120.lt z111c)
    have ne_b55_z111 : b55 ≠ z111 := Nat.ne_of_lt (Nat.lt_of_lt_of_le fq121.lt z111c)
    have ne_b77_z111 : b77 ≠ z111 := Nat.ne_of_lt (Nat.lt_of_lt_of_le fq113.lt z111c)
    have ne_dd_z111 : dd ≠ z111 := Nat.ne_of_lt (Nat.lt_of_lt_of_le fq122.lt z111c)
    have N111 := Fr.app N90 N111q
    rw [← l111] at N111
    have go123 : ∀ t, Steps p.tables e below (T111.setTop (mkF m 183 #[.val (.long q0), .second, .val (.long q1), .second, .val (.long q2), .second, .val (.long q3), .second, .val (.int p4), .val (.int p5), .val (.int (0 : Int32)), .val (.int (p4 &&& (3 : Int32))), .val (.int (((p4.toUInt32 >>> ((2 : Int32) &&& 31).toUInt32).toInt32) &&& (3 : Int32))), .val (.int (((p4.toUInt32 >>> ((4 : Int32) &&& 31).toUInt32).toInt32) &&& (3 : Int32))), .val (.ref b2), .val (.ref b12), .val (.ref b19), .val (.ref b35), .val (.ref b55), .val (.ref b77), .val (.ref b102), .unset, .unset] [(.ref b2), (.ref b102)])) t → Steps p.tables e below (s₁.setTop (entryFrame m #[(.long q0), (.long q1), (.long q2), (.long q3), (.int p4), (.int p5)] maxLocals)) t := fun t kt => go110 t (by
        refine st111.trans ?_
        refine XS.astore X111.here hx rfl (hb hby at_177) rfl rfl (l' := #[.val (.long q0), .second, .val (.long q1), .second, .val (.long q2), .second, .val (.long q3), .second, .val (.int p4), .val (.int p5), .val (.int (0 : Int32)), .val (.int (p4 &&& (3 : Int32))), .val (.int (((p4.toUInt32 >>> ((2 : Int32) &&& 31).toUInt32).toInt32) &&& (3 : Int32))), .val (.int (((p4.toUInt32 >>> ((4 : Int32) &&& 31).toUInt32).toInt32) &&& (3 : Int32))), .val (.ref b2), .val (.ref b12), .val (.ref b19), .val (.ref b35), .val (.ref b55), .val (.ref b77), .val (.ref b102), .unset, .unset]) rfl ?_
        refine XS.aload X111.here hx rfl (hb hby at_179) rfl rfl ?_
        refine XS.aload X111.here hx rfl (hb hby at_181) rfl rfl ?_
        exact kt)
    have zs125 := (Nat.le_trans zs112 K111.1)
    have fq126 := (fq119.keep K111 (ninS ne_b2_b102 nin0))
    obtain ⟨cq124, kq124, q124a, q124b, q124c⟩ := isOf hZ66 rfl E111x
    obtain ⟨_, _, ⟨T124, L124, k124, n124⟩, -, X124, ⟨Lc124, hQ124, l124, y124, z124⟩, st124⟩ := X111.virtualBack hx (y := own_m24) (z := own_m24) hown66 (mvT hZ66 (own_h hw 93 rfl)) (mvT hZ66 (own_h hw 94 rfl)) (notFace_of_selects (args := #[]) (mvT hZ66 (own_h hw 96 rfl))) (mvT hZ66 (own_h hw 96 rfl)) (mvT hZ66 (own_h hw 95 rfl)) (by decide) (backOf (W := 0) (rmV0 l Z a0 hw [] b102 b2 x111  q0 q1 q2 q3 T111.heap n0 zs125 F111a V111a fq126) hZ66 (own_h hw 97 rfl) (own_h hw 67 rfl) (by decide) (by decide)) q124a q124c (g := (mkF m 183 #[.val (.long q0), .second, .val (.long q1), .second, .val (.long q2), .second, .val (.long q3), .second, .val (.int p4), .val (.int p5), .val (.int (0 : Int32)), .val (.int (p4 &&& (3 : Int32))), .val (.int (((p4.toUInt32 >>> ((2 : Int32) &&& 31).toUInt32).toInt32) &&& (3 : Int32))), .val (.int (((p4.toUInt32 >>> ((4 : Int32) &&& 31).toUInt32).toInt32) &&& (3 : Int32))), .val (.ref b2), .val (.ref b12), .val (.ref b19), .val (.ref b35), .val (.ref b55), .val (.ref b77), .val (.ref b102), .unset, .unset] [(.ref b2), (.ref b102)])) rfl (by rw [hml]; rfl) (Steps.refl _) (argsL := [(.ref b2)]) (rest := []) (lenOf pd_6 rfl) rfl (by show 2 * 0 + _ ≤ _; exact Nat.le_of_eq rfl) (hb hby at_183) (fun _ _ => ⟨rfl, rfl, (by decide : 16 + 1 ≤ _), (by decide : 51 + 0 ≤ _)⟩)
    dsimp only [Pt.U, Pt.locs, Pt.cells, Pt.slots] at X124 l124 y124 z124 st124 hQ124
    subst y124 z124
    obtain ⟨r124, rfl, N124q, K124, V124, z124⟩ := hQ124
    have ne_b102_r124 : b102 ≠ r124 := Nat.ne_of_lt (Nat.lt_of_lt_of_le E111x.lt z124)
    have fq127 := (fq117.keep K111)
    have ne_b12_r124 : b12 ≠ r124 := Nat.ne_of_lt (Nat.lt_of_lt_of_le fq127.lt z124)
    have fq128 := (fq118.keep K111)
    have ne_b19_r124 : b19 ≠ r124 := Nat.ne_of_lt (Nat.lt_of_lt_of_le fq128.lt z124)
    have ne_b2_r124 : b2 ≠ r124 := Nat.ne_of_lt (Nat.lt_of_lt_of_le fq126.lt z124)
    have fq129 := (fq120.keep K111)
    have ne_b35_r124 : b35 ≠ r124 := Nat.ne_of_lt (Nat.lt_of_lt_of_le fq129.lt z124)
    have fq130 := (fq121.keep K111)
    have ne_b55_r124 : b55 ≠ r124 := Nat.ne_of_lt (Nat.lt_of_lt_of_le fq130.lt z124)
    have fq131 := (fq113.keep K111)
    have ne_b77_r124 : b77 ≠ r124 := Nat.ne_of_lt (Nat.lt_of_lt_of_le fq131.lt z124)
    have fq132 := (fq122.keep K111 (ninS ne_dd_b102 nin0))
    have ne_dd_r124 : dd ≠ r124 := Nat.ne_of_lt (Nat.lt_of_lt_of_le fq132.lt z124)
    have ne_x111_r124 : x111 ≠ r124 := Nat.ne_of_lt (Nat.lt_of_lt_of_le V111a.lt z124)
    have ne_y111_r124 : y111 ≠ r124 := Nat.ne_of_lt (Nat.lt_of_lt_of_le V111b.lt z124)
    have ne_z111_r124 : z111 ≠ r124 := Nat.ne_of_lt (Nat.lt_of_lt_of_le V111c.lt z124)
    have N124 := Fr.app N111 N124q
    rw [← l124] at N124
    have go133 : ∀ t, Steps p.tables e below (T124.setTop (mkF m 195 #[.val (.long q0), .second, .val (.long q1), .second, .val (.long q2), .second, .val (.long q3), .second, .val (.int p4), .val (.int p5), .val (.int (0 : Int32)), .val (.int (p4 &&& (3 : Int32))), .val (.int (((p4.toUInt32 >>> ((2 : Int32) &&& 31).toUInt32).toInt32) &&& (3 : Int32))), .val (.int (((p4.toUInt32 >>> ((4 : Int32) &&& 31).toUInt32).toInt32) &&& (3 : Int32))), .val (.ref b2), .val (.ref b12), .val (.ref b19), .val (.ref b35), .val (.ref b55), .val (.ref b77), .val (.ref b102), .val (.ref r124), .unset] [(.ref r124)])) t → Steps p.tables e below (s₁.setTop (entryFrame m #[(.long q0), (.long q1), (.long q2), (.long q3), (.int p4), (.int p5)] maxLocals)) t := fun t kt => go123 t (by
        refine st124.trans ?_
        refine XS.astore X124.here hx rfl (hb hby at_186) rfl rfl (l' := #[.val (.long q0), .second, .val (.long q1), .second, .val (.long q2), .second, .val (.long q3), .second, .val (.int p4), .val (.int p5), .val (.int (0 : Int32)), .val (.int (p4 &&& (3 : Int32))), .val (.int (((p4.toUInt32 >>> ((2 : Int32) &&& 31).toUInt32).toInt32) &&& (3 : Int32))), .val (.int (((p4.toUInt32 >>> ((4 : Int32) &&& 31).toUInt32).toInt32) &&& (3 : Int32))), .val (.ref b2), .val (.ref b12), .val (.ref b19), .val (.ref b35), .val (.ref b55), .val (.ref b77), .val (.ref b102), .val (.ref r124), .unset]) rfl ?_
        refine XS.aload X124.here hx rfl (hb hby at_188) rfl rfl ?_
        refine XS.ifnullNo X124.here hx rfl (hb hby at_190) rfl ?_
        show Steps p.tables e below (T124.setTop (mkF m 193 #[.val (.long q0), .second, .val (.long q1), .second, .val (.long q2), .second, .val (.long q3), .second, .val (.int p4), .val (.int p5), .val (.int (0 : Int32)), .val (.int (p4 &&& (3 : Int32))), .val (.int (((p4.toUInt32 >>> ((2 : Int32) &&& 31).toUInt32).toInt32) &&& (3 : Int32))), .val (.int (((p4.toUInt32 >>> ((4 : Int32) &&& 31).toUInt32).toInt32) &&& (3 : Int32))), .val (.ref b2), .val (.ref b12), .val (.ref b19), .val (.ref b35), .val (.ref b55), .val (.ref b77), .val (.ref b102), .val (.ref r124), .unset] [])) _
        refine XS.aload X124.here hx rfl (hb hby at_193) rfl rfl ?_
        exact kt)
    obtain ⟨c134, Ar134, q134⟩ := id V124
    have hc198_135 : (0 : Int32) = (0 : Int32) := (by decide)
    have go136 : ∀ t, Steps p.tables e below (T124.setTop (mkF m 206 #[.val (.long q0), .second, .val (.long q1), .second, .val (.long q2), .second, .val (.long q3), .second, .val (.int p4), .val (.int p5), .val (.int (0 : Int32)), .val (.int (p4 &&& (3 : Int32))), .val (.int (((p4.toUInt32 >>> ((2 : Int32) &&& 31).toUInt32).toInt32) &&& (3 : Int32))), .val (.int (((p4.toUInt32 >>> ((4 : Int32) &&& 31).toUInt32).toInt32) &&& (3 : Int32))), .val (.ref b2), .val (.ref b12), .val (.ref b19), .val (.ref b35), .val (.ref b55), .val (.ref b77), .val (.ref b102), .val (.ref r124), .unset] [(.int (0 : Int32)), (.ref b2)])) t → Steps p.tables e below (s₁.setTop (entryFrame m #[(.long q0), (.long q1), (.long q2), (.long q3), (.int p4), (.int p5)] maxLocals)) t := fun t kt => go133 t (by
        refine X124.arraylength hx Ar134.1 (State.isArrayOf_alike hZ66.alike Ar134.2.1) (g := (mkF m 195 #[.val (.long q0), .second, .val (.long q1), .second, .val (.long q2), .second, .val (.long q3), .second, .val (.int p4), .val (.int p5), .val (.int (0 : Int32)), .val (.int (p4 &&& (3 : Int32))), .val (.int (((p4.toUInt32 >>> ((2 : Int32) &&& 31).toUInt32).toInt32) &&& (3 : Int32))), .val (.int (((p4.toUInt32 >>> ((4 : Int32) &&& 31).toUInt32).toInt32) &&& (3 : Int32))), .val (.ref b2), .val (.ref b12), .val (.ref b19), .val (.ref b35), .val (.ref b55), .val (.ref b77), .val (.ref b102), .val (.ref r124), .unset] [(.ref r124)])) rfl rfl (hb hby at_195) _ ?_
        rw [own_len q134 (n := (0 : Int32)) rfl]
        refine XS.iload X124.here hx rfl (hb hby at_196) rfl ?_
        refine XS.icmpYes X124.here hx rfl (pc0 := 198) (pc' := 203) rfl (hb hby at_198) rfl (teq hc198_135).1 (by decide) (by decide) ?_
        refine XS.aload X124.here hx rfl (hb hby at_203) rfl rfl ?_
        refine XS.iconst X124.here hx rfl (hb hby at_205) ?_
        exact kt)
    have fq137 := (fq126.keep K124 nin0)
    obtain ⟨c138, Ar138, q138⟩ := id fq137
    have hc209_139 : (lcmpW q0 q0) = (0 : Int32) := (lw_eq _ _).mpr rfl
    have go140 : ∀ t, Steps p.tables e below (T124.setTop (mkF m 215 #[.val (.long q0), .second, .val (.long q1), .second, .val (.long q2), .second, .val (.long q3), .second, .val (.int p4), .val (.int p5), .val (.int (0 : Int32)), .val (.int (p4 &&& (3 : Int32))), .val (.int (((p4.toUInt32 >>> ((2 : Int32) &&& 31).toUInt32).toInt32) &&& (3 : Int32))), .val (.int (((p4.toUInt32 >>> ((4 : Int32) &&& 31).toUInt32).toInt32) &&& (3 : Int32))), .val (.ref b2), .val (.ref b12), .val (.ref b19), .val (.ref b35), .val (.ref b55), .val (.ref b77), .val (.ref b102), .val (.ref r124), .unset] [(.int (1 : Int32)), (.ref b2)])) t → Steps p.tables e below (s₁.setTop (entryFrame m #[(.long q0), (.long q1), (.long q2), (.long q3), (.int p4), (.int p5)] maxLocals)) t := fun t kt => go136 t (by
        refine X124.laload hx (j := (0 : Int32)) (v := (.long q0)) Ar138.1 (State.isArrayOf_alike hZ66.alike Ar138.2.1) Ar138.2.2 (own_inb q138 (n := 4) rfl (by decide) (by decide)) (own_get q138 (i := 0) (by decide) rfl) (g := (mkF m 206 #[.val (.long q0), .second, .val (.long q1), .second, .val (.long q2), .second, .val (.long q3), .second, .val (.int p4), .val (.int p5), .val (.int (0 : Int32)), .val (.int (p4 &&& (3 : Int32))), .val (.int (((p4.toUInt32 >>> ((2 : Int32) &&& 31).toUInt32).toInt32) &&& (3 : Int32))), .val (.int (((p4.toUInt32 >>> ((4 : Int32) &&& 31).toUInt32).toInt32) &&& (3 : Int32))), .val (.ref b2), .val (.ref b12), .val (.ref b19), .val (.ref b35), .val (.ref b55), .val (.ref b77), .val (.ref b102), .val (.ref r124), .unset] [(.int (0 : Int32)), (.ref b2)])) rfl rfl (hb hby at_206) _ ?_
        refine XS.lloadN X124.here hx rfl (hb hby at_207) rfl ?_
        show Steps p.tables e below (T124.setTop (mkF m 208 #[.val (.long q0), .second, .val (.long q1), .second, .val (.long q2), .second, .val (.long q3), .second, .val (.int p4), .val (.int p5), .val (.int (0 : Int32)), .val (.int (p4 &&& (3 : Int32))), .val (.int (((p4.toUInt32 >>> ((2 : Int32) &&& 31).toUInt32).toInt32) &&& (3 : Int32))), .val (.int (((p4.toUInt32 >>> ((4 : Int32) &&& 31).toUInt32).toInt32) &&& (3 : Int32))), .val (.ref b2), .val (.ref b12), .val (.ref b19), .val (.ref b35), .val (.ref b55), .val (.ref b77), .val (.ref b102), .val (.ref r124), .unset] [(.long q0), (.long q0)])) _
        refine XS.lcmp X124.here hx rfl (hb hby at_208) rfl ?_
        refine XS.ifNo X124.here hx rfl (hb hby at_209) rfl ((if0 _ _).trans (teq hc209_139).2) ?_
        refine XS.aload X124.here hx rfl (hb hby at_212) rfl rfl ?_
        refine XS.iconst X124.here hx rfl (hb hby at_214) ?_
        exact kt)
    obtain ⟨c141, Ar141, q141⟩ := id fq137
    have hc218_142 : (lcmpW q1 q1) = (0 : Int32) := (lw_eq _ _).mpr rfl
    have go143 : ∀ t, Steps p.tables e below (T124.setTop (mkF m 224 #[.val (.long q0), .second, .val (.long q1), .second, .val (.long q2), .second, .val (.long q3), .second, .val (.int p4), .val (.int p5), .val (.int (0 : Int32)), .val (.int (p4 &&& (3 : Int32))), .val (.int (((p4.toUInt32 >>> ((2 : Int32) &&& 31).toUInt32).toInt32) &&& (3 : Int32))), .val (.int (((p4.toUInt32 >>> ((4 : Int32) &&& 31).toUInt32).toInt32) &&& (3 : Int32))), .val (.ref b2), .val (.ref b12), .val (.ref b19), .val (.ref b35), .val (.ref b55), .val (.ref b77), .val (.ref b102), .val (.ref r124), .unset] [(.int (2 : Int32)), (.ref b2)])) t → Steps p.tables e below (s₁.setTop (entryFrame m #[(.long q0), (.long q1), (.long q2), (.long q3), (.int p4), (.int p5)] maxLocals)) t := fun t kt => go140 t (by
        refine X124.laload hx (j := (1 : Int32)) (v := (.long q1)) Ar141.1 (State.isArrayOf_alike hZ66.alike Ar141.2.1) Ar141.2.2 (own_inb q141 (n := 4) rfl (by decide) (by decide)) (own_get q141 (i := 1) (by decide) rfl) (g := (mkF m 215 #[.val (.long q0), .second, .val (.long q1), .second, .val (.long q2), .second, .val (.long q3), .second, .val (.int p4), .val (.int p5), .val (.int (0 : Int32)), .val (.int (p4 &&& (3 : Int32))), .val (.int (((p4.toUInt32 >>> ((2 : Int32) &&& 31).toUInt32).toInt32) &&& (3 : Int32))), .val (.int (((p4.toUInt32 >>> ((4 : Int32) &&& 31).toUInt32).toInt32) &&& (3 : Int32))), .val (.ref b2), .val (.ref b12), .val (.ref b19), .val (.ref b35), .val (.ref b55), .val (.ref b77), .val (.ref b102), .val (.ref r124), .unset] [(.int (1 : Int32)), (.ref b2)])) rfl rfl (hb hby at_215) _ ?_
        refine XS.lloadN X124.here hx rfl (hb hby at_216) rfl ?_
        refine XS.lcmp X124.here hx rfl (hb hby at_217) rfl ?_
        refine XS.ifNo X124.here hx rfl (hb hby at_218) rfl ((if0 _ _).trans (teq hc218_142).2) ?_
        show Steps p.tables e below (T124.setTop (mkF m 221 #[.val (.long q0), .second, .val (.long q1), .second, .val (.long q2), .second, .val (.long q3), .second, .val (.int p4), .val (.int p5), .val (.int (0 : Int32)), .val (.int (p4 &&& (3 : Int32))), .val (.int (((p4.toUInt32 >>> ((2 : Int32) &&& 31).toUInt32).toInt32) &&& (3 : Int32))), .val (.int (((p4.toUInt32 >>> ((4 : Int32) &&& 31).toUInt32).toInt32) &&& (3 : Int32))), .val (.ref b2), .val (.ref b12), .val (.ref b19), .val (.ref b35), .val (.ref b55), .val (.ref b77), .val (.ref b102), .val (.ref r124), .unset] [])) _
        refine XS.aload X124.here hx rfl (hb hby at_221) rfl rfl ?_
        refine XS.iconst X124.here hx rfl (hb hby at_223) ?_
        exact kt)
    obtain ⟨c144, Ar144, q144⟩ := id fq137
    have hc228_145 : (lcmpW q2 q2) = (0 : Int32) := (lw_eq _ _).mpr rfl
    have go146 : ∀ t, Steps p.tables e below (T124.setTop (mkF m 234 #[.val (.long q0), .second, .val (.long q1), .second, .val (.long q2), .second, .val (.long q3), .second, .val (.int p4), .val (.int p5), .val (.int (0 : Int32)), .val (.int (p4 &&& (3 : Int32))), .val (.int (((p4.toUInt32 >>> ((2 : Int32) &&& 31).toUInt32).toInt32) &&& (3 : Int32))), .val (.int (((p4.toUInt32 >>> ((4 : Int32) &&& 31).toUInt32).toInt32) &&& (3 : Int32))), .val (.ref b2), .val (.ref b12), .val (.ref b19), .val (.ref b35), .val (.ref b55), .val (.ref b77), .val (.ref b102), .val (.ref r124), .unset] [(.int (3 : Int32)), (.ref b2)])) t → Steps p.tables e below (s₁.setTop (entryFrame m #[(.long q0), (.long q1), (.long q2), (.long q3), (.int p4), (.int p5)] maxLocals)) t := fun t kt => go143 t (by
        refine X124.laload hx (j := (2 : Int32)) (v := (.long q2)) Ar144.1 (State.isArrayOf_alike hZ66.alike Ar144.2.1) Ar144.2.2 (own_inb q144 (n := 4) rfl (by decide) (by decide)) (own_get q144 (i := 2) (by decide) rfl) (g := (mkF m 224 #[.val (.long q0), .second, .val (.long q1), .second, .val (.long q2), .second, .val (.long q3), .second, .val (.int p4), .val (.int p5), .val (.int (0 : Int32)), .val (.int (p4 &&& (3 : Int32))), .val (.int (((p4.toUInt32 >>> ((2 : Int32) &&& 31).toUInt32).toInt32) &&& (3 : Int32))), .val (.int (((p4.toUInt32 >>> ((4 : Int32) &&& 31).toUInt32).toInt32) &&& (3 : Int32))), .val (.ref b2), .val (.ref b12), .val (.ref b19), .val (.ref b35), .val (.ref b55), .val (.ref b77), .val (.ref b102), .val (.ref r124), .unset] [(.int (2 : Int32)), (.ref b2)])) rfl rfl (hb hby at_224) _ ?_
        refine XS.lload X124.here hx rfl (hb hby at_225) rfl ?_
        refine XS.lcmp X124.here hx rfl (hb hby at_227) rfl ?_
        refine XS.ifNo X124.here hx rfl (hb hby at_228) rfl ((if0 _ _).trans (teq hc228_145).2) ?_
        refine XS.aload X124.here hx rfl (hb hby at_231) rfl rfl ?_
        refine XS.iconst X124.here hx rfl (hb hby at_233) ?_
        show Steps p.tables e below (T124.setTop (mkF m 234 #[.val (.long q0), .second, .val (.long q1), .second, .val (.long q2), .second, .val (.long q3), .second, .val (.int p4), .val (.int p5), .val (.int (0 : Int32)), .val (.int (p4 &&& (3 : Int32))), .val (.int (((p4.toUInt32 >>> ((2 : Int32) &&& 31).toUInt32).toInt32) &&& (3 : Int32))), .val (.int (((p4.toUInt32 >>> ((4 : Int32) &&& 31).toUInt32).toInt32) &&& (3 : Int32))), .val (.ref b2), .val (.ref b12), .val (.ref b19), .val (.ref b35), .val (.ref b55), .val (.ref b77), .val (.ref b102), .val (.ref r124), .unset] [(.int (3 : Int32)), (.ref b2)])) _
        exact kt)
    obtain ⟨c147, Ar147, q147⟩ := id fq137
    have hc238_148 : (lcmpW q3 q3) = (0 : Int32) := (lw_eq _ _).mpr rfl
    have hc251_149 : (0 : Int32) < (1 : Int32) := (by decide)
    have hc288_150 : (0 : Int32) < (2 : Int32) := (by decide)
    have hc325_151 : (0 : Int32) < (3 : Int32) := (by decide)
    have go152 : ∀ t, Steps p.tables e below (T124.setTop (mkF m 361 #[.val (.long q0), .second, .val (.long q1), .second, .val (.long q2), .second, .val (.long q3), .second, .val (.int p4), .val (.int p5), .val (.int (0 : Int32)), .val (.int (p4 &&& (3 : Int32))), .val (.int (((p4.toUInt32 >>> ((2 : Int32) &&& 31).toUInt32).toInt32) &&& (3 : Int32))), .val (.int (((p4.toUInt32 >>> ((4 : Int32) &&& 31).toUInt32).toInt32) &&& (3 : Int32))), .val (.ref b2), .val (.ref b12), .val (.ref b19), .val (.ref b35), .val (.ref b55), .val (.ref b77), .val (.ref b102), .val (.ref r124), .val (.int (1 : Int32))] [(.int (1 : Int32))])) t → Steps p.tables e below (s₁.setTop (entryFrame m #[(.long q0), (.long q1), (.long q2), (.long q3), (.int p4), (.int p5)] maxLocals)) t := fun t kt => go146 t (by
        refine X124.laload hx (j := (3 : Int32)) (v := (.long q3)) Ar147.1 (State.isArrayOf_alike hZ66.alike Ar147.2.1) Ar147.2.2 (own_inb q147 (n := 4) rfl (by decide) (by decide)) (own_get q147 (i := 3) (by decide) rfl) (g := (mkF m 234 #[.val (.long q0), .second, .val (.long q1), .second, .val (.long q2), .second, .val (.long q3), .second, .val (.int p4), .val (.int p5), .val (.int (0 : Int32)), .val (.int (p4 &&& (3 : Int32))), .val (.int (((p4.toUInt32 >>> ((2 : Int32) &&& 31).toUInt32).toInt32) &&& (3 : Int32))), .val (.int (((p4.toUInt32 >>> ((4 : Int32) &&& 31).toUInt32).toInt32) &&& (3 : Int32))), .val (.ref b2), .val (.ref b12), .val (.ref b19), .val (.ref b35), .val (.ref b55), .val (.ref b77), .val (.ref b102), .val (.ref r124), .unset] [(.int (3 : Int32)), (.ref b2)])) rfl rfl (hb hby at_234) _ ?_
        refine XS.lload X124.here hx rfl (hb hby at_235) rfl ?_
        refine XS.lcmp X124.here hx rfl (hb hby at_237) rfl ?_
        refine XS.ifNo X124.here hx rfl (hb hby at_238) rfl ((if0 _ _).trans (teq hc238_148).2) ?_
        refine XS.iconst X124.here hx rfl (hb hby at_241) ?_
        refine XS.goto X124.here hx rfl (pc0 := 242) (pc' := 246) rfl (hb hby at_242) (by decide) (by decide) ?_
        refine XS.istore X124.here hx rfl (hb hby at_246) rfl (l' := #[.val (.long q0), .second, .val (.long q1), .second, .val (.long q2), .second, .val (.long q3), .second, .val (.int p4), .val (.int p5), .val (.int (0 : Int32)), .val (.int (p4 &&& (3 : Int32))), .val (.int (((p4.toUInt32 >>> ((2 : Int32) &&& 31).toUInt32).toInt32) &&& (3 : Int32))), .val (.int (((p4.toUInt32 >>> ((4 : Int32) &&& 31).toUInt32).toInt32) &&& (3 : Int32))), .val (.ref b2), .val (.ref b12), .val (.ref b19), .val (.ref b35), .val (.ref b55), .val (.ref b77), .val (.ref b102), .val (.ref r124), .val (.int (1 : Int32))]) rfl ?_
        refine XS.iload X124.here hx rfl (hb hby at_248) rfl ?_
        show Steps p.tables e below (T124.setTop (mkF m 250 #[.val (.long q0), .second, .val (.long q1), .second, .val (.long q2), .second, .val (.long q3), .second, .val (.int p4), .val (.int p5), .val (.int (0 : Int32)), .val (.int (p4 &&& (3 : Int32))), .val (.int (((p4.toUInt32 >>> ((2 : Int32) &&& 31).toUInt32).toInt32) &&& (3 : Int32))), .val (.int (((p4.toUInt32 >>> ((4 : Int32) &&& 31).toUInt32).toInt32) &&& (3 : Int32))), .val (.ref b2), .val (.ref b12), .val (.ref b19), .val (.ref b35), .val (.ref b55), .val (.ref b77), .val (.ref b102), .val (.ref r124), .val (.int (1 : Int32))] [(.int (0 : Int32))])) _
        refine XS.iconst X124.here hx rfl (hb hby at_250) ?_
        refine XS.icmpYes X124.here hx rfl (pc0 := 251) (pc' := 285) rfl (hb hby at_251) rfl (tlt hc251_149).1 (by decide) (by decide) ?_
        refine XS.iload X124.here hx rfl (hb hby at_285) rfl ?_
        refine XS.iconst X124.here hx rfl (hb hby at_287) ?_
        refine XS.icmpYes X124.here hx rfl (pc0 := 288) (pc' := 322) rfl (hb hby at_288) rfl (tlt hc288_150).1 (by decide) (by decide) ?_
        refine XS.iload X124.here hx rfl (hb hby at_322) rfl ?_
        refine XS.iconst X124.here hx rfl (hb hby at_324) ?_
        refine XS.icmpYes X124.here hx rfl (pc0 := 325) (pc' := 359) rfl (hb hby at_325) rfl (tlt hc325_151).1 (by decide) (by decide) ?_
        show Steps p.tables e below (T124.setTop (mkF m 359 #[.val (.long q0), .second, .val (.long q1), .second, .val (.long q2), .second, .val (.long q3), .second, .val (.int p4), .val (.int p5), .val (.int (0 : Int32)), .val (.int (p4 &&& (3 : Int32))), .val (.int (((p4.toUInt32 >>> ((2 : Int32) &&& 31).toUInt32).toInt32) &&& (3 : Int32))), .val (.int (((p4.toUInt32 >>> ((4 : Int32) &&& 31).toUInt32).toInt32) &&& (3 : Int32))), .val (.ref b2), .val (.ref b12), .val (.ref b19), .val (.ref b35), .val (.ref b55), .val (.ref b77), .val (.ref b102), .val (.ref r124), .val (.int (1 : Int32))] [])) _
        refine XS.iload X124.here hx rfl (hb hby at_359) rfl ?_
        exact kt)
    have hk153 := (Nat.le_trans (Nat.le_trans (Nat.le_trans (Nat.le_trans (Nat.le_trans (Nat.le_trans HK66 K69.1) E77.1) K90.1) E102.1) K111.1) K124.1)
    obtain ⟨fs, hr, hrun, hended, hEW⟩ := X124.leaveW HS66 hk153 (v := some (.int (1 : Int32))) (fun h => by rw [Bd.returns] at h; cases h)
    refine ⟨_, _, go152 _ (retN X124 hx (t := .boolean) Bd.returns (by simp) (hb hby at_361) hr), hrun, hended, _, _, rfl, ?_, hEW.1, hEW.2.1, hEW.2.2.1, hEW.2.2.2.mono (by decide) (by decide)⟩
    exact ⟨rfl, N124⟩
  · rw [h4] at go97
    have hc129_154 : ¬ ((1 : Int32) < (1 : Int32)) := (by decide)
    have go155 : ∀ t, Steps p.tables e below (T90.setTop (mkF m 136 #[.val (.long q0), .second, .val (.long q1), .second, .val (.long q2), .second, .val (.long q3), .second, .val (.int p4), .val (.int p5), .val (.int (1 : Int32)), .val (.int (p4 &&& (3 : Int32))), .val (.int (((p4.toUInt32 >>> ((2 : Int32) &&& 31).toUInt32).toInt32) &&& (3 : Int32))), .val (.int (((p4.toUInt32 >>> ((4 : Int32) &&& 31).toUInt32).toInt32) &&& (3 : Int32))), .val (.ref b2), .val (.ref b12), .val (.ref b19), .val (.ref b35), .val (.ref b55), .val (.ref b77), .unset, .unset, .unset] [(.ref b19), (.ref b77)])) t → Steps p.tables e below (s₁.setTop (entryFrame m #[(.long q0), (.long q1), (.long q2), (.long q3), (.int p4), (.int p5)] maxLocals)) t := fun t kt => go97 t (by
        refine XS.iload X90.here hx rfl (hb hby at_126) rfl ?_
        refine XS.iconst X90.here hx rfl (hb hby at_128) ?_
        refine XS.icmpNo X90.here hx rfl (hb hby at_129) rfl (flt hc129_154).1 ?_
        refine XS.aload X90.here hx rfl (hb hby at_132) rfl rfl ?_
        refine XS.aload X90.here hx rfl (hb hby at_134) rfl rfl ?_
        exact kt)
    have fq157 := (fq96.keep K90 (allS gb77 all0))
    have STa := SS.ext fq157.2
    have fq158 := ((fq88.ext E77).keep K90 (ninS ne_dd_b77 nin0))
    have zs159 := (Nat.le_trans (Nat.le_trans zs78 E77.1) K90.1)
    have fq160 := ((fq82.ext E77).keep K90)
    obtain ⟨cq156, kq156, q156a, q156b, q156c⟩ := isOf hZ66 rfl iE
    obtain ⟨_, _, ⟨T156, L156, k156, n156⟩, -, X156, ⟨Lc156, hQ156, l156, y156, z156⟩, st156⟩ := X90.virtualBack hx (y := own_m25) (z := own_m25) hown66 (mvT hZ66 (own_h hw 98 rfl)) (mvT hZ66 (own_h hw 99 rfl)) (notFace_of_selects (args := #[]) (mvT hZ66 (own_h hw 101 rfl))) (mvT hZ66 (own_h hw 101 rfl)) (mvT hZ66 (own_h hw 100 rfl)) (by decide) (backOf (W := 0) (rmA0 l Z a0 hw [] b77 b19 dd (0 : Int32) T90.heap n0 STa fq158 ne_dd_b77 zs159 ⟨iE, iF1, iF2, iF3⟩ gb77 fq160) hZ66 (own_h hw 102 rfl) (own_h hw 43 rfl) (by decide) (by decide)) q156a q156c (g := (mkF m 136 #[.val (.long q0), .second, .val (.long q1), .second, .val (.long q2), .second, .val (.long q3), .second, .val (.int p4), .val (.int p5), .val (.int (1 : Int32)), .val (.int (p4 &&& (3 : Int32))), .val (.int (((p4.toUInt32 >>> ((2 : Int32) &&& 31).toUInt32).toInt32) &&& (3 : Int32))), .val (.int (((p4.toUInt32 >>> ((4 : Int32) &&& 31).toUInt32).toInt32) &&& (3 : Int32))), .val (.ref b2), .val (.ref b12), .val (.ref b19), .val (.ref b35), .val (.ref b55), .val (.ref b77), .unset, .unset, .unset] [(.ref b19), (.ref b77)])) rfl (by rw [hml]; rfl) (Steps.refl _) (argsL := [(.ref b19)]) (rest := []) (lenOf pd_7 rfl) rfl (by show 2 * 0 + _ ≤ _; exact Nat.le_of_eq rfl) (hb hby at_136) (fun _ _ => ⟨rfl, rfl, (by decide : 12 + 1 ≤ _), (by decide : 48 + 10 ≤ _)⟩)
    dsimp only [Pt.U, Pt.locs, Pt.cells, Pt.slots] at X156 l156 y156 z156 st156 hQ156
    subst y156 z156
    obtain ⟨b156, rfl, N156q, K156, LO156, sz156, V156⟩ := hQ156
    have fq161 := ((fq80.ext E77).keep K90)
    have ne_b12_b156 : b12 ≠ b156 := Nat.ne_of_lt (Nat.lt_of_lt_of_le fq161.lt sz156)
    have ne_b19_b156 : b19 ≠ b156 := Nat.ne_of_lt (Nat.lt_of_lt_of_le fq160.lt sz156)
    have fq162 := ((fq84.ext E77).keep K90 (ninS ne_b2_b77 nin0))
    have ne_b2_b156 : b2 ≠ b156 := Nat.ne_of_lt (Nat.lt_of_lt_of_le fq162.lt sz156)
    have fq163 := ((fq86.ext E77).keep K90)
    have ne_b35_b156 : b35 ≠ b156 := Nat.ne_of_lt (Nat.lt_of_lt_of_le fq163.lt sz156)
    have fq164 := ((E69x.ext E77).keep K90)
    have ne_b55_b156 : b55 ≠ b156 := Nat.ne_of_lt (Nat.lt_of_lt_of_le fq164.lt sz156)
    have ne_b77_b156 : b77 ≠ b156 := Nat.ne_of_lt (Nat.lt_of_lt_of_le iE.lt sz156)
    have ne_dd_b156 : dd ≠ b156 := Nat.ne_of_lt (Nat.lt_of_lt_of_le fq158.lt sz156)
    have gb156 : n0 ≤ b156 := Nat.le_trans zs159 sz156
    obtain ⟨jE, jF1, jF2, jF3⟩ := id LO156
    have N156 := Fr.app N90 N156q
    rw [← l156] at N156
    have hc143_165 : (1 : Int32) < (2 : Int32) := (by decide)
    have hc157_166 : (1 : Int32) < (3 : Int32) := (by decide)
    have go167 : ∀ t, Steps p.tables e below (T156.setTop (mkF m 168 #[.val (.long q0), .second, .val (.long q1), .second, .val (.long q2), .second, .val (.long q3), .second, .val (.int p4), .val (.int p5), .val (.int (1 : Int32)), .val (.int (p4 &&& (3 : Int32))), .val (.int (((p4.toUInt32 >>> ((2 : Int32) &&& 31).toUInt32).toInt32) &&& (3 : Int32))), .val (.int (((p4.toUInt32 >>> ((4 : Int32) &&& 31).toUInt32).toInt32) &&& (3 : Int32))), .val (.ref b2), .val (.ref b12), .val (.ref b19), .val (.ref b35), .val (.ref b55), .val (.ref b77), .unset, .unset, .unset] [])) t → Steps p.tables e below (s₁.setTop (entryFrame m #[(.long q0), (.long q1), (.long q2), (.long q3), (.int p4), (.int p5)] maxLocals)) t := fun t kt => go155 t (by
        refine st156.trans ?_
        refine XS.pop X156.here hx rfl (hb hby at_139) rfl rfl ?_
        show Steps p.tables e below (T156.setTop (mkF m 140 #[.val (.long q0), .second, .val (.long q1), .second, .val (.long q2), .second, .val (.long q3), .second, .val (.int p4), .val (.int p5), .val (.int (1 : Int32)), .val (.int (p4 &&& (3 : Int32))), .val (.int (((p4.toUInt32 >>> ((2 : Int32) &&& 31).toUInt32).toInt32) &&& (3 : Int32))), .val (.int (((p4.toUInt32 >>> ((4 : Int32) &&& 31).toUInt32).toInt32) &&& (3 : Int32))), .val (.ref b2), .val (.ref b12), .val (.ref b19), .val (.ref b35), .val (.ref b55), .val (.ref b77), .unset, .unset, .unset] [])) _
        refine XS.iload X156.here hx rfl (hb hby at_140) rfl ?_
        refine XS.iconst X156.here hx rfl (hb hby at_142) ?_
        refine XS.icmpYes X156.here hx rfl (pc0 := 143) (pc' := 154) rfl (hb hby at_143) rfl (tlt hc143_165).1 (by decide) (by decide) ?_
        refine XS.iload X156.here hx rfl (hb hby at_154) rfl ?_
        refine XS.iconst X156.here hx rfl (hb hby at_156) ?_
        refine XS.icmpYes X156.here hx rfl (pc0 := 157) (pc' := 168) rfl (hb hby at_157) rfl (tlt hc157_166).1 (by decide) (by decide) ?_
        exact kt)
    have zs169 := (Nat.le_trans zs159 K156.1)
    obtain ⟨T168, h168, X168, e168, E168, A168, D168, -, st168⟩ := newO X156 hx hZ66 hown66 (own_h hw 65 rfl) (own_h hw 66 rfl) (own_h hw 67 rfl) rfl (g := (mkF m 168 #[.val (.long q0), .second, .val (.long q1), .second, .val (.long q2), .second, .val (.long q3), .second, .val (.int p4), .val (.int p5), .val (.int (1 : Int32)), .val (.int (p4 &&& (3 : Int32))), .val (.int (((p4.toUInt32 >>> ((2 : Int32) &&& 31).toUInt32).toInt32) &&& (3 : Int32))), .val (.int (((p4.toUInt32 >>> ((4 : Int32) &&& 31).toUInt32).toInt32) &&& (3 : Int32))), .val (.ref b2), .val (.ref b12), .val (.ref b19), .val (.ref b35), .val (.ref b55), .val (.ref b77), .unset, .unset, .unset] [])) rfl (hb hby at_168) (by decide) (by decide)
    obtain ⟨b168, g168⟩ : ∃ z, z = T156.heap.size := ⟨_, rfl⟩
    rw [← g168] at A168 D168 st168
    have ks168 : h0.size ≤ T156.heap.size := Nat.le_trans (Nat.le_trans (Nat.le_trans (ks77) E77.1) K90.1) K156.1
    have sz168 : h0.size ≤ b168 := Nat.le_trans ks168 (Nat.le_of_eq g168.symm)
    have fq170 := (fq161.keep K156)
    have ne_b12_b168 : b12 ≠ b168 := Nat.ne_of_lt (Nat.lt_of_lt_of_le fq170.lt (Nat.le_of_eq g168.symm))
    have ne_b156_b168 : b156 ≠ b168 := Nat.ne_of_lt (Nat.lt_of_lt_of_le V156.lt (Nat.le_of_eq g168.symm))
    have fq171 := (fq160.keep K156)
    have ne_b19_b168 : b19 ≠ b168 := Nat.ne_of_lt (Nat.lt_of_lt_of_le fq171.lt (Nat.le_of_eq g168.symm))
    have fq172 := (fq162.keep K156 (ninS ne_b2_b77 nin0))
    have ne_b2_b168 : b2 ≠ b168 := Nat.ne_of_lt (Nat.lt_of_lt_of_le fq172.lt (Nat.le_of_eq g168.symm))
    have fq173 := (fq163.keep K156)
    have ne_b35_b168 : b35 ≠ b168 := Nat.ne_of_lt (Nat.lt_of_lt_of_le fq173.lt (Nat.le_of_eq g168.symm))
    have fq174 := (fq164.keep K156)
    have ne_b55_b168 : b55 ≠ b168 := Nat.ne_of_lt (Nat.lt_of_lt_of_le fq174.lt (Nat.le_of_eq g168.symm))
    have ne_b77_b168 : b77 ≠ b168 := Nat.ne_of_lt (Nat.lt_of_lt_of_le jE.lt (Nat.le_of_eq g168.symm))
    have fq175 := (fq158.keep K156 (ninS ne_dd_b77 nin0))
    have ne_dd_b168 : dd ≠ b168 := Nat.ne_of_lt (Nat.lt_of_lt_of_le fq175.lt (Nat.le_of_eq g168.symm))
    have gb168 : n0 ≤ b168 := Nat.le_trans zs169 (Nat.le_of_eq g168.symm)
    have F168_slots : Fld Z h168 b168 "com/example/invariant_ink/invariantink/engine/Combinations" "slots" "[I" .null := D168 (Or.inr (own_h hw 88 rfl)) (ty := (.array .int)) (by decide)
    have F168_firsts : Fld Z h168 b168 "com/example/invariant_ink/invariantink/engine/Combinations" "firsts" "[J" .null := D168 (Or.inr (own_h hw 90 rfl)) (ty := (.array .long)) (by decide)
    have F168_lasts : Fld Z h168 b168 "com/example/invariant_ink/invariantink/engine/Combinations" "lasts" "[J" .null := D168 (Or.inr (own_h hw 92 rfl)) (ty := (.array .long)) (by decide)
    have go176 : ∀ t, Steps p.tables e below (T168.setTop (mkF m 174 #[.val (.long q0), .second, .val (.long q1), .second, .val (.long q2), .second, .val (.long q3), .second, .val (.int p4), .val (.int p5), .val (.int (1 : Int32)), .val (.int (p4 &&& (3 : Int32))), .val (.int (((p4.toUInt32 >>> ((2 : Int32) &&& 31).toUInt32).toInt32) &&& (3 : Int32))), .val (.int (((p4.toUInt32 >>> ((4 : Int32) &&& 31).toUInt32).toInt32) &&& (3 : Int32))), .val (.ref b2), .val (.ref b12), .val (.ref b19), .val (.ref b35), .val (.ref b55), .val (.ref b77), .unset, .unset, .unset] [(.ref b77), (.ref b168), (.ref b168)])) t → Steps p.tables e below (s₁.setTop (entryFrame m #[(.long q0), (.long q1), (.long q2), (.long q3), (.int p4), (.int p5)] maxLocals)) t := fun t kt => go167 t (by
        refine st168 _ ?_
        refine XS.dup X168.here hx rfl (hb hby at_171) rfl rfl ?_
        show Steps p.tables e below (T168.setTop (mkF m 172 #[.val (.long q0), .second, .val (.long q1), .second, .val (.long q2), .second, .val (.long q3), .second, .val (.int p4), .val (.int p5), .val (.int (1 : Int32)), .val (.int (p4 &&& (3 : Int32))), .val (.int (((p4.toUInt32 >>> ((2 : Int32) &&& 31).toUInt32).toInt32) &&& (3 : Int32))), .val (.int (((p4.toUInt32 >>> ((4 : Int32) &&& 31).toUInt32).toInt32) &&& (3 : Int32))), .val (.ref b2), .val (.ref b12), .val (.ref b19), .val (.ref b35), .val (.ref b55), .val (.ref b77), .unset, .unset, .unset] [(.ref b168), (.ref b168)])) _
        refine XS.aload X168.here hx rfl (hb hby at_172) rfl rfl ?_
        exact kt)
    have zs178 := (Nat.le_trans zs169 E168.1)
    have fq179 := (jE.ext E168)
    have fq180 := (jF1.ext E168)
    have fq181 := (jF2.ext E168)
    have fq182 := (jF3.ext E168)
    have fq183 := (V156.ext E168)
    have fq184 := (fq171.ext E168)
    have fr185 := ((F27l.ext E35).ext E44)
    have fr186 := (((fr185.keep K47 (ninS ne_b19_b35 nin0)).ext E55).ext E66)
    have fr187 := (((fr186.keep K69 (ninS ne_b19_b55 nin0)).ext E77).keep K90 (ninS ne_b19_b77 nin0))
    have fq188 := ((fr187.keep K156 (ninS ne_b19_b77 nin0)).ext E168)
    have fr189 := ((F27h.ext E35).ext E44)
    have fr190 := (((fr189.keep K47 (ninS ne_b19_b35 nin0)).ext E55).ext E66)
    have fr191 := (((fr190.keep K69 (ninS ne_b19_b55 nin0)).ext E77).keep K90 (ninS ne_b19_b77 nin0))
    have fq192 := ((fr191.keep K156 (ninS ne_b19_b77 nin0)).ext E168)
    have fq193 := (fq170.ext E168)
    have fr194 := ((F17l.ext E19).ext E24)
    have fr195 := (((fr194.keep K27 (ninS ne_b12_b19 nin0)).ext E35).ext E44)
    have fr196 := (((fr195.keep K47 (ninS ne_b12_b35 nin0)).ext E55).ext E66)
    have fr197 := (((fr196.keep K69 (ninS ne_b12_b55 nin0)).ext E77).keep K90 (ninS ne_b12_b77 nin0))
    have fq198 := ((fr197.keep K156 (ninS ne_b12_b77 nin0)).ext E168)
    have fr199 := ((F17h.ext E19).ext E24)
    have fr200 := (((fr199.keep K27 (ninS ne_b12_b19 nin0)).ext E35).ext E44)
    have fr201 := (((fr200.keep K47 (ninS ne_b12_b35 nin0)).ext E55).ext E66)
    have fr202 := (((fr201.keep K69 (ninS ne_b12_b55 nin0)).ext E77).keep K90 (ninS ne_b12_b77 nin0))
    have fq203 := ((fr202.keep K156 (ninS ne_b12_b77 nin0)).ext E168)
    obtain ⟨_, _, ⟨T177, L177, k177, n177⟩, -, X177, ⟨Lc177, hQ177, l177, y177, z177⟩, st177⟩ := X168.specialBack hx (y := own_m23) rfl hown66 (mvT hZ66 (own_h hw 68 rfl)) (mvT hZ66 (own_h hw 69 rfl)) (mvT hZ66 (own_h hw 70 rfl)) (by decide) (backOf (W := 1) (rmC1_1 l Z a0 hw [] b168 b77 b156 ((0 : Int32) + 1) b19 b12 (p4 &&& (3 : Int32)) (0 : Int64) (1 : Int64) h168 n0 zs178 A168 F168_slots F168_firsts F168_lasts gb168 ⟨fq179, fq180, fq181, fq182⟩ fq183 fq184 fq188 fq192 fq193 fq198 fq203) hZ66 (own_h hw 70 rfl) (own_h hw 67 rfl) (by decide) (by decide)) (g := (mkF m 174 #[.val (.long q0), .second, .val (.long q1), .second, .val (.long q2), .second, .val (.long q3), .second, .val (.int p4), .val (.int p5), .val (.int (1 : Int32)), .val (.int (p4 &&& (3 : Int32))), .val (.int (((p4.toUInt32 >>> ((2 : Int32) &&& 31).toUInt32).toInt32) &&& (3 : Int32))), .val (.int (((p4.toUInt32 >>> ((4 : Int32) &&& 31).toUInt32).toInt32) &&& (3 : Int32))), .val (.ref b2), .val (.ref b12), .val (.ref b19), .val (.ref b35), .val (.ref b55), .val (.ref b77), .unset, .unset, .unset] [(.ref b77), (.ref b168), (.ref b168)])) rfl (by rw [hml]; rfl) (Steps.refl _) (a := b168) (argsL := [(.ref b77)]) (rest := [(.ref b168)]) (lenOf pd_3 rfl) rfl (by show 2 * 0 + _ ≤ _; exact Nat.le_of_eq rfl) (hb hby at_174) (fun _ _ => ⟨rfl, e168, (by decide : 14 + 3 ≤ _), (by decide : 61 + 3 ≤ _)⟩)
    dsimp only [Pt.U, Pt.locs, Pt.cells, Pt.slots] at X177 l177 y177 z177 st177 hQ177
    subst y177 z177
    obtain ⟨x177, y177, z177, rfl, N177q, K177, E177x, F177a, F177b, F177c, V177a, V177b, V177c, z177a, z177b, z177c⟩ := hQ177
    have ne_b12_x177 : b12 ≠ x177 := Nat.ne_of_lt (Nat.lt_of_lt_of_le fq193.lt z177a)
    have ne_b156_x177 : b156 ≠ x177 := Nat.ne_of_lt (Nat.lt_of_lt_of_le fq183.lt z177a)
    have ne_b168_x177 : b168 ≠ x177 := Nat.ne_of_lt (Nat.lt_of_lt_of_le A168.lt z177a)
    have ne_b19_x177 : b19 ≠ x177 := Nat.ne_of_lt (Nat.lt_of_lt_of_le fq184.lt z177a)
    have fq204 := (fq172.ext E168)
    have ne_b2_x177 : b2 ≠ x177 := Nat.ne_of_lt (Nat.lt_of_lt_of_le fq204.lt z177a)
    have fq205 := (fq173.ext E168)
    have ne_b35_x177 : b35 ≠ x177 := Nat.ne_of_lt (Nat.lt_of_lt_of_le fq205.lt z177a)
    have fq206 := (fq174.ext E168)
    have ne_b55_x177 : b55 ≠ x177 := Nat.ne_of_lt (Nat.lt_of_lt_of_le fq206.lt z177a)
    have ne_b77_x177 : b77 ≠ x177 := Nat.ne_of_lt (Nat.lt_of_lt_of_le fq179.lt z177a)
    have fq207 := (fq175.ext E168)
    have ne_dd_x177 : dd ≠ x177 := Nat.ne_of_lt (Nat.lt_of_lt_of_le fq207.lt z177a)
    have ne_b12_y177 : b12 ≠ y177 := Nat.ne_of_lt (Nat.lt_of_lt_of_le fq193.lt z177b)
    have ne_b156_y177 : b156 ≠ y177 := Nat.ne_of_lt (Nat.lt_of_lt_of_le fq183.lt z177b)
    have ne_b168_y177 : b168 ≠ y177 := Nat.ne_of_lt (Nat.lt_of_lt_of_le A168.lt z177b)
    have ne_b19_y177 : b19 ≠ y177 := Nat.ne_of_lt (Nat.lt_of_lt_of_le fq184.lt z177b)
    have ne_b2_y177 : b2 ≠ y177 := Nat.ne_of_lt (Nat.lt_of_lt_of_le fq204.lt z177b)
    have ne_b35_y177 : b35 ≠ y177 := Nat.ne_of_lt (Nat.lt_of_lt_of_le fq205.lt z177b)
    have ne_b55_y177 : b55 ≠ y177 := Nat.ne_of_lt (Nat.lt_of_lt_of_le fq206.lt z177b)
    have ne_b77_y177 : b77 ≠ y177 := Nat.ne_of_lt (Nat.lt_of_lt_of_le fq179.lt z177b)
    have ne_dd_y177 : dd ≠ y177 := Nat.ne_of_lt (Nat.lt_of_lt_of_le fq207.lt z177b)
    have ne_b12_z177 : b12 ≠ z177 := Nat.ne_of_lt (Nat.lt_of_lt_of_le fq193.lt z177c)
    have ne_b156_z177 : b156 ≠ z177 := Nat.ne_of_lt (Nat.lt_of_lt_of_le fq183.lt z177c)
    have ne_b168_z177 : b168 ≠ z177 := Nat.ne_of_lt (Nat.lt_of_lt_of_le A168.lt z177c)
    have ne_b19_z177 : b19 ≠ z177 := Nat.ne_of_lt (Nat.lt_of_lt_of_le fq184.lt z177c)
    have ne_b2_z177 : b2 ≠ z177 := Nat.ne_of_lt (Nat.lt_of_lt_of_le fq204.lt z177c)
    have ne_b35_z177 : b35 ≠ z177 := Nat.ne_of_lt (Nat.lt_of_lt_of_le fq205.lt z177c)
    have ne_b55_z177 : b55 ≠ z177 := Nat.ne_of_lt (Nat.lt_of_lt_of_le fq206.lt z177c)
    have ne_b77_z177 : b77 ≠ z177 := Nat.ne_of_lt (Nat.lt_of_lt_of_le fq179.lt z177c)
    have ne_dd_z177 : dd ≠ z177 := Nat.ne_of_lt (Nat.lt_of_lt_of_le fq207.lt z177c)
    have N177 := Fr.app N156 N177q
    rw [← l177] at N177
    have go208 : ∀ t, Steps p.tables e below (T177.setTop (mkF m 183 #[.val (.long q0), .second, .val (.long q1), .second, .val (.long q2), .second, .val (.long q3), .second, .val (.int p4), .val (.int p5), .val (.int (1 : Int32)), .val (.int (p4 &&& (3 : Int32))), .val (.int (((p4.toUInt32 >>> ((2 : Int32) &&& 31).toUInt32).toInt32) &&& (3 : Int32))), .val (.int (((p4.toUInt32 >>> ((4 : Int32) &&& 31).toUInt32).toInt32) &&& (3 : Int32))), .val (.ref b2), .val (.ref b12), .val (.ref b19), .val (.ref b35), .val (.ref b55), .val (.ref b77), .val (.ref b168), .unset, .unset] [(.ref b2), (.ref b168)])) t → Steps p.tables e below (s₁.setTop (entryFrame m #[(.long q0), (.long q1), (.long q2), (.long q3), (.int p4), (.int p5)] maxLocals)) t := fun t kt => go176 t (by
        refine st177.trans ?_
        refine XS.astore X177.here hx rfl (hb hby at_177) rfl rfl (l' := #[.val (.long q0), .second, .val (.long q1), .second, .val (.long q2), .second, .val (.long q3), .second, .val (.int p4), .val (.int p5), .val (.int (1 : Int32)), .val (.int (p4 &&& (3 : Int32))), .val (.int (((p4.toUInt32 >>> ((2 : Int32) &&& 31).toUInt32).toInt32) &&& (3 : Int32))), .val (.int (((p4.toUInt32 >>> ((4 : Int32) &&& 31).toUInt32).toInt32) &&& (3 : Int32))), .val (.ref b2), .val (.ref b12), .val (.ref b19), .val (.ref b35), .val (.ref b55), .val (.ref b77), .val (.ref b168), .unset, .unset]) rfl ?_
        refine XS.aload X177.here hx rfl (hb hby at_179) rfl rfl ?_
        refine XS.aload X177.here hx rfl (hb hby at_181) rfl rfl ?_
        exact kt)
    have zs210 := (Nat.le_trans zs178 K177.1)
    have fq211 := (fq204.keep K177 (ninS ne_b2_b168 nin0))
    obtain ⟨cq209, kq209, q209a, q209b, q209c⟩ := isOf hZ66 rfl E177x
    obtain ⟨_, _, ⟨T209, L209, k209, n209⟩, -, X209, ⟨Lc209, hQ209, l209, y209, z209⟩, st209⟩ := X177.virtualBack hx (y := own_m24) (z := own_m24) hown66 (mvT hZ66 (own_h hw 93 rfl)) (mvT hZ66 (own_h hw 94 rfl)) (notFace_of_selects (args := #[]) (mvT hZ66 (own_h hw 96 rfl))) (mvT hZ66 (own_h hw 96 rfl)) (mvT hZ66 (own_h hw 95 rfl)) (by decide) (backOf (W := 0) (rmV1 l Z a0 hw [] b168 b2 x177 (p4 &&& (3 : Int32)) q0 q1 q2 q3 T177.heap n0 zs210 F177a V177a fq211 (own_slot p4 q0 q1 q2 q3).1 (own_slot p4 q0 q1 q2 q3).2.1 (own_slot p4 q0 q1 q2 q3).2.2) hZ66 (own_h hw 97 rfl) (own_h hw 67 rfl) (by decide) (by decide)) q209a q209c (g := (mkF m 183 #[.val (.long q0), .second, .val (.long q1), .second, .val (.long q2), .second, .val (.long q3), .second, .val (.int p4), .val (.int p5), .val (.int (1 : Int32)), .val (.int (p4 &&& (3 : Int32))), .val (.int (((p4.toUInt32 >>> ((2 : Int32) &&& 31).toUInt32).toInt32) &&& (3 : Int32))), .val (.int (((p4.toUInt32 >>> ((4 : Int32) &&& 31).toUInt32).toInt32) &&& (3 : Int32))), .val (.ref b2), .val (.ref b12), .val (.ref b19), .val (.ref b35), .val (.ref b55), .val (.ref b77), .val (.ref b168), .unset, .unset] [(.ref b2), (.ref b168)])) rfl (by rw [hml]; rfl) (Steps.refl _) (argsL := [(.ref b2)]) (rest := []) (lenOf pd_6 rfl) rfl (by show 2 * 0 + _ ≤ _; exact Nat.le_of_eq rfl) (hb hby at_183) (fun _ _ => ⟨rfl, rfl, (by decide : 17 + 1 ≤ _), (by decide : 64 + 1 ≤ _)⟩)
    dsimp only [Pt.U, Pt.locs, Pt.cells, Pt.slots] at X209 l209 y209 z209 st209 hQ209
    subst y209 z209
    obtain ⟨r209, rfl, N209q, K209, V209, z209⟩ := hQ209
    have fq212 := (fq193.keep K177)
    have ne_b12_r209 : b12 ≠ r209 := Nat.ne_of_lt (Nat.lt_of_lt_of_le fq212.lt z209)
    have fq213 := (fq183.keep K177 (ninS ne_b156_b168 nin0))
    have ne_b156_r209 : b156 ≠ r209 := Nat.ne_of_lt (Nat.lt_of_lt_of_le fq213.lt z209)
    have ne_b168_r209 : b168 ≠ r209 := Nat.ne_of_lt (Nat.lt_of_lt_of_le E177x.lt z209)
    have fq214 := (fq184.keep K177)
    have ne_b19_r209 : b19 ≠ r209 := Nat.ne_of_lt (Nat.lt_of_lt_of_le fq214.lt z209)
    have ne_b2_r209 : b2 ≠ r209 := Nat.ne_of_lt (Nat.lt_of_lt_of_le fq211.lt z209)
    have fq215 := (fq205.keep K177)
    have ne_b35_r209 : b35 ≠ r209 := Nat.ne_of_lt (Nat.lt_of_lt_of_le fq215.lt z209)
    have fq216 := (fq206.keep K177)
    have ne_b55_r209 : b55 ≠ r209 := Nat.ne_of_lt (Nat.lt_of_lt_of_le fq216.lt z209)
    have fq217 := (fq179.keep K177)
    have ne_b77_r209 : b77 ≠ r209 := Nat.ne_of_lt (Nat.lt_of_lt_of_le fq217.lt z209)
    have fq218 := (fq207.keep K177 (ninS ne_dd_b168 nin0))
    have ne_dd_r209 : dd ≠ r209 := Nat.ne_of_lt (Nat.lt_of_lt_of_le fq218.lt z209)
    have ne_x177_r209 : x177 ≠ r209 := Nat.ne_of_lt (Nat.lt_of_lt_of_le V177a.lt z209)
    have ne_y177_r209 : y177 ≠ r209 := Nat.ne_of_lt (Nat.lt_of_lt_of_le V177b.lt z209)
    have ne_z177_r209 : z177 ≠ r209 := Nat.ne_of_lt (Nat.lt_of_lt_of_le V177c.lt z209)
    have N209 := Fr.app N177 N209q
    rw [← l209] at N209
    have go219 : ∀ t, Steps p.tables e below (T209.setTop (mkF m 195 #[.val (.long q0), .second, .val (.long q1), .second, .val (.long q2), .second, .val (.long q3), .second, .val (.int p4), .val (.int p5), .val (.int (1 : Int32)), .val (.int (p4 &&& (3 : Int32))), .val (.int (((p4.toUInt32 >>> ((2 : Int32) &&& 31).toUInt32).toInt32) &&& (3 : Int32))), .val (.int (((p4.toUInt32 >>> ((4 : Int32) &&& 31).toUInt32).toInt32) &&& (3 : Int32))), .val (.ref b2), .val (.ref b12), .val (.ref b19), .val (.ref b35), .val (.ref b55), .val (.ref b77), .val (.ref b168), .val (.ref r209), .unset] [(.ref r209)])) t → Steps p.tables e below (s₁.setTop (entryFrame m #[(.long q0), (.long q1), (.long q2), (.long q3), (.int p4), (.int p5)] maxLocals)) t := fun t kt => go208 t (by
        refine st209.trans ?_
        refine XS.astore X209.here hx rfl (hb hby at_186) rfl rfl (l' := #[.val (.long q0), .second, .val (.long q1), .second, .val (.long q2), .second, .val (.long q3), .second, .val (.int p4), .val (.int p5), .val (.int (1 : Int32)), .val (.int (p4 &&& (3 : Int32))), .val (.int (((p4.toUInt32 >>> ((2 : Int32) &&& 31).toUInt32).toInt32) &&& (3 : Int32))), .val (.int (((p4.toUInt32 >>> ((4 : Int32) &&& 31).toUInt32).toInt32) &&& (3 : Int32))), .val (.ref b2), .val (.ref b12), .val (.ref b19), .val (.ref b35), .val (.ref b55), .val (.ref b77), .val (.ref b168), .val (.ref r209), .unset]) rfl ?_
        refine XS.aload X209.here hx rfl (hb hby at_188) rfl rfl ?_
        show Steps p.tables e below (T209.setTop (mkF m 190 #[.val (.long q0), .second, .val (.long q1), .second, .val (.long q2), .second, .val (.long q3), .second, .val (.int p4), .val (.int p5), .val (.int (1 : Int32)), .val (.int (p4 &&& (3 : Int32))), .val (.int (((p4.toUInt32 >>> ((2 : Int32) &&& 31).toUInt32).toInt32) &&& (3 : Int32))), .val (.int (((p4.toUInt32 >>> ((4 : Int32) &&& 31).toUInt32).toInt32) &&& (3 : Int32))), .val (.ref b2), .val (.ref b12), .val (.ref b19), .val (.ref b35), .val (.ref b55), .val (.ref b77), .val (.ref b168), .val (.ref r209), .unset] [(.ref r209)])) _
        refine XS.ifnullNo X209.here hx rfl (hb hby at_190) rfl ?_
        refine XS.aload X209.here hx rfl (hb hby at_193) rfl rfl ?_
        exact kt)
    obtain ⟨c220, Ar220, q220⟩ := id V209
    have hc198_221 : (1 : Int32) = (1 : Int32) := (by decide)
    have go222 : ∀ t, Steps p.tables e below (T209.setTop (mkF m 206 #[.val (.long q0), .second, .val (.long q1), .second, .val (.long q2), .second, .val (.long q3), .second, .val (.int p4), .val (.int p5), .val (.int (1 : Int32)), .val (.int (p4 &&& (3 : Int32))), .val (.int (((p4.toUInt32 >>> ((2 : Int32) &&& 31).toUInt32).toInt32) &&& (3 : Int32))), .val (.int (((p4.toUInt32 >>> ((4 : Int32) &&& 31).toUInt32).toInt32) &&& (3 : Int32))), .val (.ref b2), .val (.ref b12), .val (.ref b19), .val (.ref b35), .val (.ref b55), .val (.ref b77), .val (.ref b168), .val (.ref r209), .unset] [(.int (0 : Int32)), (.ref b2)])) t → Steps p.tables e below (s₁.setTop (entryFrame m #[(.long q0), (.long q1), (.long q2), (.long q3), (.int p4), (.int p5)] maxLocals)) t := fun t kt => go219 t (by
        refine X209.arraylength hx Ar220.1 (State.isArrayOf_alike hZ66.alike Ar220.2.1) (g := (mkF m 195 #[.val (.long q0), .second, .val (.long q1), .second, .val (.long q2), .second, .val (.long q3), .second, .val (.int p4), .val (.int p5), .val (.int (1 : Int32)), .val (.int (p4 &&& (3 : Int32))), .val (.int (((p4.toUInt32 >>> ((2 : Int32) &&& 31).toUInt32).toInt32) &&& (3 : Int32))), .val (.int (((p4.toUInt32 >>> ((4 : Int32) &&& 31).toUInt32).toInt32) &&& (3 : Int32))), .val (.ref b2), .val (.ref b12), .val (.ref b19), .val (.ref b35), .val (.ref b55), .val (.ref b77), .val (.ref b168), .val (.ref r209), .unset] [(.ref r209)])) rfl rfl (hb hby at_195) _ ?_
        rw [own_len q220 (n := (1 : Int32)) rfl]
        refine XS.iload X209.here hx rfl (hb hby at_196) rfl ?_
        refine XS.icmpYes X209.here hx rfl (pc0 := 198) (pc' := 203) rfl (hb hby at_198) rfl (teq hc198_221).1 (by decide) (by decide) ?_
        refine XS.aload X209.here hx rfl (hb hby at_203) rfl rfl ?_
        refine XS.iconst X209.here hx rfl (hb hby at_205) ?_
        exact kt)
    have fq223 := (fq211.keep K209 nin0)
    obtain ⟨c224, Ar224, q224⟩ := id fq223
    have hc209_225 : (lcmpW q0 q0) = (0 : Int32) := (lw_eq _ _).mpr rfl
    have go226 : ∀ t, Steps p.tables e below (T209.setTop (mkF m 215 #[.val (.long q0), .second, .val (.long q1), .second, .val (.long q2), .second, .val (.long q3), .second, .val (.int p4), .val (.int p5), .val (.int (1 : Int32)), .val (.int (p4 &&& (3 : Int32))), .val (.int (((p4.toUInt32 >>> ((2 : Int32) &&& 31).toUInt32).toInt32) &&& (3 : Int32))), .val (.int (((p4.toUInt32 >>> ((4 : Int32) &&& 31).toUInt32).toInt32) &&& (3 : Int32))), .val (.ref b2), .val (.ref b12), .val (.ref b19), .val (.ref b35), .val (.ref b55), .val (.ref b77), .val (.ref b168), .val (.ref r209), .unset] [(.int (1 : Int32)), (.ref b2)])) t → Steps p.tables e below (s₁.setTop (entryFrame m #[(.long q0), (.long q1), (.long q2), (.long q3), (.int p4), (.int p5)] maxLocals)) t := fun t kt => go222 t (by
        refine X209.laload hx (j := (0 : Int32)) (v := (.long q0)) Ar224.1 (State.isArrayOf_alike hZ66.alike Ar224.2.1) Ar224.2.2 (own_inb q224 (n := 4) rfl (by decide) (by decide)) (own_get q224 (i := 0) (by decide) rfl) (g := (mkF m 206 #[.val (.long q0), .second, .val (.long q1), .second, .val (.long q2), .second, .val (.long q3), .second, .val (.int p4), .val (.int p5), .val (.int (1 : Int32)), .val (.int (p4 &&& (3 : Int32))), .val (.int (((p4.toUInt32 >>> ((2 : Int32) &&& 31).toUInt32).toInt32) &&& (3 : Int32))), .val (.int (((p4.toUInt32 >>> ((4 : Int32) &&& 31).toUInt32).toInt32) &&& (3 : Int32))), .val (.ref b2), .val (.ref b12), .val (.ref b19), .val (.ref b35), .val (.ref b55), .val (.ref b77), .val (.ref b168), .val (.ref r209), .unset] [(.int (0 : Int32)), (.ref b2)])) rfl rfl (hb hby at_206) _ ?_
        show Steps p.tables e below (T209.setTop (mkF m 207 #[.val (.long q0), .second, .val (.long q1), .second, .val (.long q2), .second, .val (.long q3), .second, .val (.int p4), .val (.int p5), .val (.int (1 : Int32)), .val (.int (p4 &&& (3 : Int32))), .val (.int (((p4.toUInt32 >>> ((2 : Int32) &&& 31).toUInt32).toInt32) &&& (3 : Int32))), .val (.int (((p4.toUInt32 >>> ((4 : Int32) &&& 31).toUInt32).toInt32) &&& (3 : Int32))), .val (.ref b2), .val (.ref b12), .val (.ref b19), .val (.ref b35), .val (.ref b55), .val (.ref b77), .val (.ref b168), .val (.ref r209), .unset] [(.long q0)])) _
        refine XS.lloadN X209.here hx rfl (hb hby at_207) rfl ?_
        refine XS.lcmp X209.here hx rfl (hb hby at_208) rfl ?_
        refine XS.ifNo X209.here hx rfl (hb hby at_209) rfl ((if0 _ _).trans (teq hc209_225).2) ?_
        refine XS.aload X209.here hx rfl (hb hby at_212) rfl rfl ?_
        refine XS.iconst X209.here hx rfl (hb hby at_214) ?_
        exact kt)
    obtain ⟨c227, Ar227, q227⟩ := id fq223
    have hc218_228 : (lcmpW q1 q1) = (0 : Int32) := (lw_eq _ _).mpr rfl
    have go229 : ∀ t, Steps p.tables e below (T209.setTop (mkF m 224 #[.val (.long q0), .second, .val (.long q1), .second, .val (.long q2), .second, .val (.long q3), .second, .val (.int p4), .val (.int p5), .val (.int (1 : Int32)), .val (.int (p4 &&& (3 : Int32))), .val (.int (((p4.toUInt32 >>> ((2 : Int32) &&& 31).toUInt32).toInt32) &&& (3 : Int32))), .val (.int (((p4.toUInt32 >>> ((4 : Int32) &&& 31).toUInt32).toInt32) &&& (3 : Int32))), .val (.ref b2), .val (.ref b12), .val (.ref b19), .val (.ref b35), .val (.ref b55), .val (.ref b77), .val (.ref b168), .val (.ref r209), .unset] [(.int (2 : Int32)), (.ref b2)])) t → Steps p.tables e below (s₁.setTop (entryFrame m #[(.long q0), (.long q1), (.long q2), (.long q3), (.int p4), (.int p5)] maxLocals)) t := fun t kt => go226 t (by
        refine X209.laload hx (j := (1 : Int32)) (v := (.long q1)) Ar227.1 (State.isArrayOf_alike hZ66.alike Ar227.2.1) Ar227.2.2 (own_inb q227 (n := 4) rfl (by decide) (by decide)) (own_get q227 (i := 1) (by decide) rfl) (g := (mkF m 215 #[.val (.long q0), .second, .val (.long q1), .second, .val (.long q2), .second, .val (.long q3), .second, .val (.int p4), .val (.int p5), .val (.int (1 : Int32)), .val (.int (p4 &&& (3 : Int32))), .val (.int (((p4.toUInt32 >>> ((2 : Int32) &&& 31).toUInt32).toInt32) &&& (3 : Int32))), .val (.int (((p4.toUInt32 >>> ((4 : Int32) &&& 31).toUInt32).toInt32) &&& (3 : Int32))), .val (.ref b2), .val (.ref b12), .val (.ref b19), .val (.ref b35), .val (.ref b55), .val (.ref b77), .val (.ref b168), .val (.ref r209), .unset] [(.int (1 : Int32)), (.ref b2)])) rfl rfl (hb hby at_215) _ ?_
        refine XS.lloadN X209.here hx rfl (hb hby at_216) rfl ?_
        refine XS.lcmp X209.here hx rfl (hb hby at_217) rfl ?_
        show Steps p.tables e below (T209.setTop (mkF m 218 #[.val (.long q0), .second, .val (.long q1), .second, .val (.long q2), .second, .val (.long q3), .second, .val (.int p4), .val (.int p5), .val (.int (1 : Int32)), .val (.int (p4 &&& (3 : Int32))), .val (.int (((p4.toUInt32 >>> ((2 : Int32) &&& 31).toUInt32).toInt32) &&& (3 : Int32))), .val (.int (((p4.toUInt32 >>> ((4 : Int32) &&& 31).toUInt32).toInt32) &&& (3 : Int32))), .val (.ref b2), .val (.ref b12), .val (.ref b19), .val (.ref b35), .val (.ref b55), .val (.ref b77), .val (.ref b168), .val (.ref r209), .unset] [(.int (lcmpW q1 q1))])) _
        refine XS.ifNo X209.here hx rfl (hb hby at_218) rfl ((if0 _ _).trans (teq hc218_228).2) ?_
        refine XS.aload X209.here hx rfl (hb hby at_221) rfl rfl ?_
        refine XS.iconst X209.here hx rfl (hb hby at_223) ?_
        exact kt)
    obtain ⟨c230, Ar230, q230⟩ := id fq223
    have hc228_231 : (lcmpW q2 q2) = (0 : Int32) := (lw_eq _ _).mpr rfl
    have go232 : ∀ t, Steps p.tables e below (T209.setTop (mkF m 234 #[.val (.long q0), .second, .val (.long q1), .second, .val (.long q2), .second, .val (.long q3), .second, .val (.int p4), .val (.int p5), .val (.int (1 : Int32)), .val (.int (p4 &&& (3 : Int32))), .val (.int (((p4.toUInt32 >>> ((2 : Int32) &&& 31).toUInt32).toInt32) &&& (3 : Int32))), .val (.int (((p4.toUInt32 >>> ((4 : Int32) &&& 31).toUInt32).toInt32) &&& (3 : Int32))), .val (.ref b2), .val (.ref b12), .val (.ref b19), .val (.ref b35), .val (.ref b55), .val (.ref b77), .val (.ref b168), .val (.ref r209), .unset] [(.int (3 : Int32)), (.ref b2)])) t → Steps p.tables e below (s₁.setTop (entryFrame m #[(.long q0), (.long q1), (.long q2), (.long q3), (.int p4), (.int p5)] maxLocals)) t := fun t kt => go229 t (by
        refine X209.laload hx (j := (2 : Int32)) (v := (.long q2)) Ar230.1 (State.isArrayOf_alike hZ66.alike Ar230.2.1) Ar230.2.2 (own_inb q230 (n := 4) rfl (by decide) (by decide)) (own_get q230 (i := 2) (by decide) rfl) (g := (mkF m 224 #[.val (.long q0), .second, .val (.long q1), .second, .val (.long q2), .second, .val (.long q3), .second, .val (.int p4), .val (.int p5), .val (.int (1 : Int32)), .val (.int (p4 &&& (3 : Int32))), .val (.int (((p4.toUInt32 >>> ((2 : Int32) &&& 31).toUInt32).toInt32) &&& (3 : Int32))), .val (.int (((p4.toUInt32 >>> ((4 : Int32) &&& 31).toUInt32).toInt32) &&& (3 : Int32))), .val (.ref b2), .val (.ref b12), .val (.ref b19), .val (.ref b35), .val (.ref b55), .val (.ref b77), .val (.ref b168), .val (.ref r209), .unset] [(.int (2 : Int32)), (.ref b2)])) rfl rfl (hb hby at_224) _ ?_
        refine XS.lload X209.here hx rfl (hb hby at_225) rfl ?_
        refine XS.lcmp X209.here hx rfl (hb hby at_227) rfl ?_
        refine XS.ifNo X209.here hx rfl (hb hby at_228) rfl ((if0 _ _).trans (teq hc228_231).2) ?_
        refine XS.aload X209.here hx rfl (hb hby at_231) rfl rfl ?_
        show Steps p.tables e below (T209.setTop (mkF m 233 #[.val (.long q0), .second, .val (.long q1), .second, .val (.long q2), .second, .val (.long q3), .second, .val (.int p4), .val (.int p5), .val (.int (1 : Int32)), .val (.int (p4 &&& (3 : Int32))), .val (.int (((p4.toUInt32 >>> ((2 : Int32) &&& 31).toUInt32).toInt32) &&& (3 : Int32))), .val (.int (((p4.toUInt32 >>> ((4 : Int32) &&& 31).toUInt32).toInt32) &&& (3 : Int32))), .val (.ref b2), .val (.ref b12), .val (.ref b19), .val (.ref b35), .val (.ref b55), .val (.ref b77), .val (.ref b168), .val (.ref r209), .unset] [(.ref b2)])) _
        refine XS.iconst X209.here hx rfl (hb hby at_233) ?_
        exact kt)
    obtain ⟨c233, Ar233, q233⟩ := id fq223
    have hc238_234 : (lcmpW q3 q3) = (0 : Int32) := (lw_eq _ _).mpr rfl
    have hc251_235 : ¬ ((1 : Int32) < (1 : Int32)) := (by decide)
    have hc256_236 : ¬ ((1 : Int32) = (0 : Int32)) := (by decide)
    have go237 : ∀ t, Steps p.tables e below (T209.setTop (mkF m 262 #[.val (.long q0), .second, .val (.long q1), .second, .val (.long q2), .second, .val (.long q3), .second, .val (.int p4), .val (.int p5), .val (.int (1 : Int32)), .val (.int (p4 &&& (3 : Int32))), .val (.int (((p4.toUInt32 >>> ((2 : Int32) &&& 31).toUInt32).toInt32) &&& (3 : Int32))), .val (.int (((p4.toUInt32 >>> ((4 : Int32) &&& 31).toUInt32).toInt32) &&& (3 : Int32))), .val (.ref b2), .val (.ref b12), .val (.ref b19), .val (.ref b35), .val (.ref b55), .val (.ref b77), .val (.ref b168), .val (.ref r209), .val (.int (1 : Int32))] [(.int (0 : Int32)), (.ref r209)])) t → Steps p.tables e below (s₁.setTop (entryFrame m #[(.long q0), (.long q1), (.long q2), (.long q3), (.int p4), (.int p5)] maxLocals)) t := fun t kt => go232 t (by
        refine X209.laload hx (j := (3 : Int32)) (v := (.long q3)) Ar233.1 (State.isArrayOf_alike hZ66.alike Ar233.2.1) Ar233.2.2 (own_inb q233 (n := 4) rfl (by decide) (by decide)) (own_get q233 (i := 3) (by decide) rfl) (g := (mkF m 234 #[.val (.long q0), .second, .val (.long q1), .second, .val (.long q2), .second, .val (.long q3), .second, .val (.int p4), .val (.int p5), .val (.int (1 : Int32)), .val (.int (p4 &&& (3 : Int32))), .val (.int (((p4.toUInt32 >>> ((2 : Int32) &&& 31).toUInt32).toInt32) &&& (3 : Int32))), .val (.int (((p4.toUInt32 >>> ((4 : Int32) &&& 31).toUInt32).toInt32) &&& (3 : Int32))), .val (.ref b2), .val (.ref b12), .val (.ref b19), .val (.ref b35), .val (.ref b55), .val (.ref b77), .val (.ref b168), .val (.ref r209), .unset] [(.int (3 : Int32)), (.ref b2)])) rfl rfl (hb hby at_234) _ ?_
        refine XS.lload X209.here hx rfl (hb hby at_235) rfl ?_
        refine XS.lcmp X209.here hx rfl (hb hby at_237) rfl ?_
        refine XS.ifNo X209.here hx rfl (hb hby at_238) rfl ((if0 _ _).trans (teq hc238_234).2) ?_
        refine XS.iconst X209.here hx rfl (hb hby at_241) ?_
        refine XS.goto X209.here hx rfl (pc0 := 242) (pc' := 246) rfl (hb hby at_242) (by decide) (by decide) ?_
        refine XS.istore X209.here hx rfl (hb hby at_246) rfl (l' := #[.val (.long q0), .second, .val (.long q1), .second, .val (.long q2), .second, .val (.long q3), .second, .val (.int p4), .val (.int p5), .val (.int (1 : Int32)), .val (.int (p4 &&& (3 : Int32))), .val (.int (((p4.toUInt32 >>> ((2 : Int32) &&& 31).toUInt32).toInt32) &&& (3 : Int32))), .val (.int (((p4.toUInt32 >>> ((4 : Int32) &&& 31).toUInt32).toInt32) &&& (3 : Int32))), .val (.ref b2), .val (.ref b12), .val (.ref b19), .val (.ref b35), .val (.ref b55), .val (.ref b77), .val (.ref b168), .val (.ref r209), .val (.int (1 : Int32))]) rfl ?_
        show Steps p.tables e below (T209.setTop (mkF m 248 #[.val (.long q0), .second, .val (.long q1), .second, .val (.long q2), .second, .val (.long q3), .second, .val (.int p4), .val (.int p5), .val (.int (1 : Int32)), .val (.int (p4 &&& (3 : Int32))), .val (.int (((p4.toUInt32 >>> ((2 : Int32) &&& 31).toUInt32).toInt32) &&& (3 : Int32))), .val (.int (((p4.toUInt32 >>> ((4 : Int32) &&& 31).toUInt32).toInt32) &&& (3 : Int32))), .val (.ref b2), .val (.ref b12), .val (.ref b19), .val (.ref b35), .val (.ref b55), .val (.ref b77), .val (.ref b168), .val (.ref r209), .val (.int (1 : Int32))] [])) _
        refine XS.iload X209.here hx rfl (hb hby at_248) rfl ?_
        refine XS.iconst X209.here hx rfl (hb hby at_250) ?_
        refine XS.icmpNo X209.here hx rfl (hb hby at_251) rfl (flt hc251_235).1 ?_
        refine XS.iload X209.here hx rfl (hb hby at_254) rfl ?_
        refine XS.ifNo X209.here hx rfl (hb hby at_256) rfl ((if0 _ _).trans (feq hc256_236).1) ?_
        refine XS.aload X209.here hx rfl (hb hby at_259) rfl rfl ?_
        refine XS.iconst X209.here hx rfl (hb hby at_261) ?_
        exact kt)
    obtain ⟨c238, Ar238, q238⟩ := id V209
    have go239 : ∀ t, Steps p.tables e below (T209.setTop (mkF m 271 #[.val (.long q0), .second, .val (.long q1), .second, .val (.long q2), .second, .val (.long q3), .second, .val (.int p4), .val (.int p5), .val (.int (1 : Int32)), .val (.int (p4 &&& (3 : Int32))), .val (.int (((p4.toUInt32 >>> ((2 : Int32) &&& 31).toUInt32).toInt32) &&& (3 : Int32))), .val (.int (((p4.toUInt32 >>> ((4 : Int32) &&& 31).toUInt32).toInt32) &&& (3 : Int32))), .val (.ref b2), .val (.ref b12), .val (.ref b19), .val (.ref b35), .val (.ref b55), .val (.ref b77), .val (.ref b168), .val (.ref r209), .val (.int (1 : Int32))] [(.long q3), (.long q2), (.long q1), (.long q0), (.int (p4 &&& (3 : Int32))), (.long (own_at (p4 &&& (3 : Int32)) q0 q1 q2 q3))])) t → Steps p.tables e below (s₁.setTop (entryFrame m #[(.long q0), (.long q1), (.long q2), (.long q3), (.int p4), (.int p5)] maxLocals)) t := fun t kt => go237 t (by
        refine X209.laload hx (j := (0 : Int32)) (v := (.long (own_at (p4 &&& (3 : Int32)) q0 q1 q2 q3))) Ar238.1 (State.isArrayOf_alike hZ66.alike Ar238.2.1) Ar238.2.2 (own_inb q238 (n := 1) rfl (by decide) (by decide)) (own_get q238 (i := 0) (by decide) rfl) (g := (mkF m 262 #[.val (.long q0), .second, .val (.long q1), .second, .val (.long q2), .second, .val (.long q3), .second, .val (.int p4), .val (.int p5), .val (.int (1 : Int32)), .val (.int (p4 &&& (3 : Int32))), .val (.int (((p4.toUInt32 >>> ((2 : Int32) &&& 31).toUInt32).toInt32) &&& (3 : Int32))), .val (.int (((p4.toUInt32 >>> ((4 : Int32) &&& 31).toUInt32).toInt32) &&& (3 : Int32))), .val (.ref b2), .val (.ref b12), .val (.ref b19), .val (.ref b35), .val (.ref b55), .val (.ref b77), .val (.ref b168), .val (.ref r209), .val (.int (1 : Int32))] [(.int (0 : Int32)), (.ref r209)])) rfl rfl (hb hby at_262) _ ?_
        show Steps p.tables e below (T209.setTop (mkF m 263 #[.val (.long q0), .second, .val (.long q1), .second, .val (.long q2), .second, .val (.long q3), .second, .val (.int p4), .val (.int p5), .val (.int (1 : Int32)), .val (.int (p4 &&& (3 : Int32))), .val (.int (((p4.toUInt32 >>> ((2 : Int32) &&& 31).toUInt32).toInt32) &&& (3 : Int32))), .val (.int (((p4.toUInt32 >>> ((4 : Int32) &&& 31).toUInt32).toInt32) &&& (3 : Int32))), .val (.ref b2), .val (.ref b12), .val (.ref b19), .val (.ref b35), .val (.ref b55), .val (.ref b77), .val (.ref b168), .val (.ref r209), .val (.int (1 : Int32))] [(.long (own_at (p4 &&& (3 : Int32)) q0 q1 q2 q3))])) _
        refine XS.iload X209.here hx rfl (hb hby at_263) rfl ?_
        refine XS.lloadN X209.here hx rfl (hb hby at_265) rfl ?_
        refine XS.lloadN X209.here hx rfl (hb hby at_266) rfl ?_
        refine XS.lload X209.here hx rfl (hb hby at_267) rfl ?_
        refine XS.lload X209.here hx rfl (hb hby at_269) rfl ?_
        exact kt)
    obtain ⟨_, _, ⟨T240, L240, k240, n240⟩, -, X240, ⟨Lc240, hQ240, l240, y240, z240⟩, st240⟩ := Jvm.LawKit.callS X209 hx (y := own_m26) hown66 (mvT hZ66 (own_h hw 180 rfl)) (mvT hZ66 (own_h hw 181 rfl)) (mvT hZ66 (own_h hw 182 rfl)) (mvT hZ66 (own_h hw 183 rfl)) (by decide) (backOf (W := 2) (rm24 l Z a0 hw [] (p4 &&& (3 : Int32)) q0 q1 q2 q3 T209.heap n0) hZ66 (own_h hw 183 rfl) (own_h hw 182 rfl) (by decide) (by decide)) (g := (mkF m 271 #[.val (.long q0), .second, .val (.long q1), .second, .val (.long q2), .second, .val (.long q3), .second, .val (.int p4), .val (.int p5), .val (.int (1 : Int32)), .val (.int (p4 &&& (3 : Int32))), .val (.int (((p4.toUInt32 >>> ((2 : Int32) &&& 31).toUInt32).toInt32) &&& (3 : Int32))), .val (.int (((p4.toUInt32 >>> ((4 : Int32) &&& 31).toUInt32).toInt32) &&& (3 : Int32))), .val (.ref b2), .val (.ref b12), .val (.ref b19), .val (.ref b35), .val (.ref b55), .val (.ref b77), .val (.ref b168), .val (.ref r209), .val (.int (1 : Int32))] [(.long q3), (.long q2), (.long q1), (.long q0), (.int (p4 &&& (3 : Int32))), (.long (own_at (p4 &&& (3 : Int32)) q0 q1 q2 q3))])) rfl (by rw [hml]; rfl) (argsL := [(.int (p4 &&& (3 : Int32))), (.long q0), (.long q1), (.long q2), (.long q3)]) (rest := [(.long (own_at (p4 &&& (3 : Int32)) q0 q1 q2 q3))]) (lenOf pd_16 rfl) rfl (by show 2 * 0 + _ ≤ _; exact Nat.le_of_eq rfl) (hb hby at_271) (fun _ _ => ⟨rfl, rfl, (by decide : 18 + 0 ≤ _), (by decide : 65 + 0 ≤ _)⟩)
    dsimp only [Pt.U, Pt.locs, Pt.cells, Pt.slots] at X240 l240 y240 z240 st240 hQ240
    subst y240 z240
    obtain ⟨rfl, N240q, e240⟩ := hQ240
    have N240 := Fr.app N209 N240q
    rw [← l240] at N240
    have hc275_241 : (lcmpW (own_at (p4 &&& (3 : Int32)) q0 q1 q2 q3) (own_at (p4 &&& (3 : Int32)) q0 q1 q2 q3)) = (0 : Int32) := (lw_eq _ _).mpr rfl
    have hc288_242 : (1 : Int32) < (2 : Int32) := (by decide)
    have hc325_243 : (1 : Int32) < (3 : Int32) := (by decide)
    have go244 : ∀ t, Steps p.tables e below (T240.setTop (mkF m 361 #[.val (.long q0), .second, .val (.long q1), .second, .val (.long q2), .second, .val (.long q3), .second, .val (.int p4), .val (.int p5), .val (.int (1 : Int32)), .val (.int (p4 &&& (3 : Int32))), .val (.int (((p4.toUInt32 >>> ((2 : Int32) &&& 31).toUInt32).toInt32) &&& (3 : Int32))), .val (.int (((p4.toUInt32 >>> ((4 : Int32) &&& 31).toUInt32).toInt32) &&& (3 : Int32))), .val (.ref b2), .val (.ref b12), .val (.ref b19), .val (.ref b35), .val (.ref b55), .val (.ref b77), .val (.ref b168), .val (.ref r209), .val (.int (1 : Int32))] [(.int (1 : Int32))])) t → Steps p.tables e below (s₁.setTop (entryFrame m #[(.long q0), (.long q1), (.long q2), (.long q3), (.int p4), (.int p5)] maxLocals)) t := fun t kt => go239 t (by
        refine st240 _ ?_
        refine XS.lcmp X240.here hx rfl (hb hby at_274) rfl ?_
        refine XS.ifNo X240.here hx rfl (hb hby at_275) rfl ((if0 _ _).trans (teq hc275_241).2) ?_
        show Steps p.tables e below (T240.setTop (mkF m 278 #[.val (.long q0), .second, .val (.long q1), .second, .val (.long q2), .second, .val (.long q3), .second, .val (.int p4), .val (.int p5), .val (.int (1 : Int32)), .val (.int (p4 &&& (3 : Int32))), .val (.int (((p4.toUInt32 >>> ((2 : Int32) &&& 31).toUInt32).toInt32) &&& (3 : Int32))), .val (.int (((p4.toUInt32 >>> ((4 : Int32) &&& 31).toUInt32).toInt32) &&& (3 : Int32))), .val (.ref b2), .val (.ref b12), .val (.ref b19), .val (.ref b35), .val (.ref b55), .val (.ref b77), .val (.ref b168), .val (.ref r209), .val (.int (1 : Int32))] [])) _
        refine XS.iconst X240.here hx rfl (hb hby at_278) ?_
        refine XS.goto X240.here hx rfl (pc0 := 279) (pc' := 283) rfl (hb hby at_279) (by decide) (by decide) ?_
        refine XS.istore X240.here hx rfl (hb hby at_283) rfl (l' := #[.val (.long q0), .second, .val (.long q1), .second, .val (.long q2), .second, .val (.long q3), .second, .val (.int p4), .val (.int p5), .val (.int (1 : Int32)), .val (.int (p4 &&& (3 : Int32))), .val (.int (((p4.toUInt32 >>> ((2 : Int32) &&& 31).toUInt32).toInt32) &&& (3 : Int32))), .val (.int (((p4.toUInt32 >>> ((4 : Int32) &&& 31).toUInt32).toInt32) &&& (3 : Int32))), .val (.ref b2), .val (.ref b12), .val (.ref b19), .val (.ref b35), .val (.ref b55), .val (.ref b77), .val (.ref b168), .val (.ref r209), .val (.int (1 : Int32))]) rfl ?_
        refine XS.iload X240.here hx rfl (hb hby at_285) rfl ?_
        refine XS.iconst X240.here hx rfl (hb hby at_287) ?_
        refine XS.icmpYes X240.here hx rfl (pc0 := 288) (pc' := 322) rfl (hb hby at_288) rfl (tlt hc288_242).1 (by decide) (by decide) ?_
        refine XS.iload X240.here hx rfl (hb hby at_322) rfl ?_
        refine XS.iconst X240.here hx rfl (hb hby at_324) ?_
        show Steps p.tables e below (T240.setTop (mkF m 325 #[.val (.long q0), .second, .val (.long q1), .second, .val (.long q2), .second, .val (.long q3), .second, .val (.int p4), .val (.int p5), .val (.int (1 : Int32)), .val (.int (p4 &&& (3 : Int32))), .val (.int (((p4.toUInt32 >>> ((2 : Int32) &&& 31).toUInt32).toInt32) &&& (3 : Int32))), .val (.int (((p4.toUInt32 >>> ((4 : Int32) &&& 31).toUInt32).toInt32) &&& (3 : Int32))), .val (.ref b2), .val (.ref b12), .val (.ref b19), .val (.ref b35), .val (.ref b55), .val (.ref b77), .val (.ref b168), .val (.ref r209), .val (.int (1 : Int32))] [(.int (3 : Int32)), (.int (1 : Int32))])) _
        refine XS.icmpYes X240.here hx rfl (pc0 := 325) (pc' := 359) rfl (hb hby at_325) rfl (tlt hc325_243).1 (by decide) (by decide) ?_
        refine XS.iload X240.here hx rfl (hb hby at_359) rfl ?_
        exact kt)
    have hk245 := (Nat.le_trans (Nat.le_trans (Nat.le_trans (Nat.le_trans (Nat.le_trans (Nat.le_trans (Nat.le_trans HK66 K69.1) E77.1) K90.1) K156.1) E168.1) K177.1) K209.1)
    obtain ⟨fs, hr, hrun, hended, hEW⟩ := X240.leaveW HS66 (by rw [e240]; exact hk245) (v := some (.int (1 : Int32))) (fun h => by rw [Bd.returns] at h; cases h)
    refine ⟨_, _, go244 _ (retN X240 hx (t := .boolean) Bd.returns (by simp) (hb hby at_361) hr), hrun, hended, _, _, rfl, ?_, hEW.1, hEW.2.1, hEW.2.2.1, hEW.2.2.2.mono (by decide) (by decide)⟩
    exact ⟨rfl, N240⟩
  · rw [h4] at go97
    have hc129_246 : ¬ ((2 : Int32) < (1 : Int32)) := (by decide)
    have go247 : ∀ t, Steps p.tables e below (T90.setTop (mkF m 136 #[.val (.long q0), .second, .val (.long q1), .second, .val (.long q2), .second, .val (.long q3), .second, .val (.int p4), .val (.int p5), .val (.int (2 : Int32)), .val (.int (p4 &&& (3 : Int32))), .val (.int (((p4.toUInt32 >>> ((2 : Int32) &&& 31).toUInt32).toInt32) &&& (3 : Int32))), .val (.int (((p4.toUInt32 >>> ((4 : Int32) &&& 31).toUInt32).toInt32) &&& (3 : Int32))), .val (.ref b2), .val (.ref b12), .val (.ref b19), .val (.ref b35), .val (.ref b55), .val (.ref b77), .unset, .unset, .unset] [(.ref b19), (.ref b77)])) t → Steps p.tables e below (s₁.setTop (entryFrame m #[(.long q0), (.long q1), (.long q2), (.long q3), (.int p4), (.int p5)] maxLocals)) t := fun t kt => go97 t (by
        refine XS.iload X90.here hx rfl (hb hby at_126) rfl ?_
        refine XS.iconst X90.here hx rfl (hb hby at_128) ?_
        refine XS.icmpNo X90.here hx rfl (hb hby at_129) rfl (flt hc129_246).1 ?_
        refine XS.aload X90.here hx rfl (hb hby at_132) rfl rfl ?_
        refine XS.aload X90.here hx rfl (hb hby at_134) rfl rfl ?_
        exact kt)
    have fq249 := (fq96.keep K90 (allS gb77 all0))
    have STa := SS.ext fq249.2
    have fq250 := ((fq88.ext E77).keep K90 (ninS ne_dd_b77 nin0))
    have zs251 := (Nat.le_trans (Nat.le_trans zs78 E77.1) K90.1)
    have fq252 := ((fq82.ext E77).keep K90)
    obtain ⟨cq248, kq248, q248a, q248b, q248c⟩ := isOf hZ66 rfl iE
    obtain ⟨_, _, ⟨T248, L248, k248, n248⟩, -, X248, ⟨Lc248, hQ248, l248, y248, z248⟩, st248⟩ := X90.virtualBack hx (y := own_m25) (z := own_m25) hown66 (mvT hZ66 (own_h hw 98 rfl)) (mvT hZ66 (own_h hw 99 rfl)) (notFace_of_selects (args := #[]) (mvT hZ66 (own_h hw 101 rfl))) (mvT hZ66 (own_h hw 101 rfl)) (mvT hZ66 (own_h hw 100 rfl)) (by decide) (backOf (W := 0) (rmA0 l Z a0 hw [] b77 b19 dd (0 : Int32) T90.heap n0 STa fq250 ne_dd_b77 zs251 ⟨iE, iF1, iF2, iF3⟩ gb77 fq252) hZ66 (own_h hw 102 rfl) (own_h hw 43 rfl) (by decide) (by decide)) q248a q248c (g := (mkF m 136 #[.val (.long q0), .second, .val (.long q1), .second, .val (.long q2), .second, .val (.long q3), .second, .val (.int p4), .val (.int p5), .val (.int (2 : Int32)), .val (.int (p4 &&& (3 : Int32))), .val (.int (((p4.toUInt32 >>> ((2 : Int32) &&& 31).toUInt32).toInt32) &&& (3 : Int32))), .val (.int (((p4.toUInt32 >>> ((4 : Int32) &&& 31).toUInt32).toInt32) &&& (3 : Int32))), .val (.ref b2), .val (.ref b12), .val (.ref b19), .val (.ref b35), .val (.ref b55), .val (.ref b77), .unset, .unset, .unset] [(.ref b19), (.ref b77)])) rfl (by rw [hml]; rfl) (Steps.refl _) (argsL := [(.ref b19)]) (rest := []) (lenOf pd_7 rfl) rfl (by show 2 * 0 + _ ≤ _; exact Nat.le_of_eq rfl) (hb hby at_136) (fun _ _ => ⟨rfl, rfl, (by decide : 12 + 1 ≤ _), (by decide : 48 + 10 ≤ _)⟩)
    dsimp only [Pt.U, Pt.locs, Pt.cells, Pt.slots] at X248 l248 y248 z248 st248 hQ248
    subst y248 z248
    obtain ⟨b248, rfl, N248q, K248, LO248, sz248, V248⟩ := hQ248
    have fq253 := ((fq80.ext E77).keep K90)
    have ne_b12_b248 : b12 ≠ b248 := Nat.ne_of_lt (Nat.lt_of_lt_of_le fq253.lt sz248)
    have ne_b19_b248 : b19 ≠ b248 := Nat.ne_of_lt (Nat.lt_of_lt_of_le fq252.lt sz248)
    have fq254 := ((fq84.ext E77).keep K90 (ninS ne_b2_b77 nin0))
    have ne_b2_b248 : b2 ≠ b248 := Nat.ne_of_lt (Nat.lt_of_lt_of_le fq254.lt sz248)
    have fq255 := ((fq86.ext E77).keep K90)
    have ne_b35_b248 : b35 ≠ b248 := Nat.ne_of_lt (Nat.lt_of_lt_of_le fq255.lt sz248)
    have fq256 := ((E69x.ext E77).keep K90)
    have ne_b55_b248 : b55 ≠ b248 := Nat.ne_of_lt (Nat.lt_of_lt_of_le fq256.lt sz248)
    have ne_b77_b248 : b77 ≠ b248 := Nat.ne_of_lt (Nat.lt_of_lt_of_le iE.lt sz248)
    have ne_dd_b248 : dd ≠ b248 := Nat.ne_of_lt (Nat.lt_of_lt_of_le fq250.lt sz248)
    have gb248 : n0 ≤ b248 := Nat.le_trans zs251 sz248
    obtain ⟨jE, jF1, jF2, jF3⟩ := id LO248
    have N248 := Fr.app N90 N248q
    rw [← l248] at N248
    have hc143_257 : ¬ ((2 : Int32) < (2 : Int32)) := (by decide)
    have go258 : ∀ t, Steps p.tables e below (T248.setTop (mkF m 150 #[.val (.long q0), .second, .val (.long q1), .second, .val (.long q2), .second, .val (.long q3), .second, .val (.int p4), .val (.int p5), .val (.int (2 : Int32)), .val (.int (p4 &&& (3 : Int32))), .val (.int (((p4.toUInt32 >>> ((2 : Int32) &&& 31).toUInt32).toInt32) &&& (3 : Int32))), .val (.int (((p4.toUInt32 >>> ((4 : Int32) &&& 31).toUInt32).toInt32) &&& (3 : Int32))), .val (.ref b2), .val (.ref b12), .val (.ref b19), .val (.ref b35), .val (.ref b55), .val (.ref b77), .unset, .unset, .unset] [(.ref b35), (.ref b77)])) t → Steps p.tables e below (s₁.setTop (entryFrame m #[(.long q0), (.long q1), (.long q2), (.long q3), (.int p4), (.int p5)] maxLocals)) t := fun t kt => go247 t (by
        refine st248.trans ?_
        show Steps p.tables e below (T248.setTop (mkF m 139 #[.val (.long q0), .second, .val (.long q1), .second, .val (.long q2), .second, .val (.long q3), .second, .val (.int p4), .val (.int p5), .val (.int (2 : Int32)), .val (.int (p4 &&& (3 : Int32))), .val (.int (((p4.toUInt32 >>> ((2 : Int32) &&& 31).toUInt32).toInt32) &&& (3 : Int32))), .val (.int (((p4.toUInt32 >>> ((4 : Int32) &&& 31).toUInt32).toInt32) &&& (3 : Int32))), .val (.ref b2), .val (.ref b12), .val (.ref b19), .val (.ref b35), .val (.ref b55), .val (.ref b77), .unset, .unset, .unset] [(.int (1 : Int32))])) _
        refine XS.pop X248.here hx rfl (hb hby at_139) rfl rfl ?_
        refine XS.iload X248.here hx rfl (hb hby at_140) rfl ?_
        refine XS.iconst X248.here hx rfl (hb hby at_142) ?_
        refine XS.icmpNo X248.here hx rfl (hb hby at_143) rfl (flt hc143_257).1 ?_
        refine XS.aload X248.here hx rfl (hb hby at_146) rfl rfl ?_
        refine XS.aload X248.here hx rfl (hb hby at_148) rfl rfl ?_
        exact kt)
    have zs260 := (Nat.le_trans zs251 K248.1)
    have fq261 := (fq255.keep K248)
    obtain ⟨cq259, kq259, q259a, q259b, q259c⟩ := isOf hZ66 rfl jE
    obtain ⟨_, _, ⟨T259, L259, k259, n259⟩, -, X259, ⟨Lc259, hQ259, l259, y259, z259⟩, st259⟩ := X248.virtualBack hx (y := own_m25) (z := own_m25) hown66 (mvT hZ66 (own_h hw 98 rfl)) (mvT hZ66 (own_h hw 99 rfl)) (notFace_of_selects (args := #[]) (mvT hZ66 (own_h hw 101 rfl))) (mvT hZ66 (own_h hw 101 rfl)) (mvT hZ66 (own_h hw 100 rfl)) (by decide) (backOf (W := 0) (rmA1 l Z a0 hw [] b77 b35 b248 ((0 : Int32) + 1) b19 T248.heap n0 zs260 ⟨jE, jF1, jF2, jF3⟩ V248 gb77 gb248 fq261) hZ66 (own_h hw 102 rfl) (own_h hw 43 rfl) (by decide) (by decide)) q259a q259c (g := (mkF m 150 #[.val (.long q0), .second, .val (.long q1), .second, .val (.long q2), .second, .val (.long q3), .second, .val (.int p4), .val (.int p5), .val (.int (2 : Int32)), .val (.int (p4 &&& (3 : Int32))), .val (.int (((p4.toUInt32 >>> ((2 : Int32) &&& 31).toUInt32).toInt32) &&& (3 : Int32))), .val (.int (((p4.toUInt32 >>> ((4 : Int32) &&& 31).toUInt32).toInt32) &&& (3 : Int32))), .val (.ref b2), .val (.ref b12), .val (.ref b19), .val (.ref b35), .val (.ref b55), .val (.ref b77), .unset, .unset, .unset] [(.ref b35), (.ref b77)])) rfl (by rw [hml]; rfl) (Steps.refl _) (argsL := [(.ref b35)]) (rest := []) (lenOf pd_7 rfl) rfl (by show 2 * 0 + _ ≤ _; exact Nat.le_of_eq rfl) (hb hby at_150) (fun _ _ => ⟨rfl, rfl, (by decide : 13 + 0 ≤ _), (by decide : 58 + 0 ≤ _)⟩)
    dsimp only [Pt.U, Pt.locs, Pt.cells, Pt.slots] at X259 l259 y259 z259 st259 hQ259
    subst y259 z259
    obtain ⟨rfl, N259q, K259, LO259, V259⟩ := hQ259
    obtain ⟨jjE, jjF1, jjF2, jjF3⟩ := id LO259
    have N259 := Fr.app N248 N259q
    rw [← l259] at N259
    have hc157_262 : (2 : Int32) < (3 : Int32) := (by decide)
    have go263 : ∀ t, Steps p.tables e below (T259.setTop (mkF m 168 #[.val (.long q0), .second, .val (.long q1), .second, .val (.long q2), .second, .val (.long q3), .second, .val (.int p4), .val (.int p5), .val (.int (2 : Int32)), .val (.int (p4 &&& (3 : Int32))), .val (.int (((p4.toUInt32 >>> ((2 : Int32) &&& 31).toUInt32).toInt32) &&& (3 : Int32))), .val (.int (((p4.toUInt32 >>> ((4 : Int32) &&& 31).toUInt32).toInt32) &&& (3 : Int32))), .val (.ref b2), .val (.ref b12), .val (.ref b19), .val (.ref b35), .val (.ref b55), .val (.ref b77), .unset, .unset, .unset] [])) t → Steps p.tables e below (s₁.setTop (entryFrame m #[(.long q0), (.long q1), (.long q2), (.long q3), (.int p4), (.int p5)] maxLocals)) t := fun t kt => go258 t (by
        refine st259.trans ?_
        refine XS.pop X259.here hx rfl (hb hby at_153) rfl rfl ?_
        show Steps p.tables e below (T259.setTop (mkF m 154 #[.val (.long q0), .second, .val (.long q1), .second, .val (.long q2), .second, .val (.long q3), .second, .val (.int p4), .val (.int p5), .val (.int (2 : Int32)), .val (.int (p4 &&& (3 : Int32))), .val (.int (((p4.toUInt32 >>> ((2 : Int32) &&& 31).toUInt32).toInt32) &&& (3 : Int32))), .val (.int (((p4.toUInt32 >>> ((4 : Int32) &&& 31).toUInt32).toInt32) &&& (3 : Int32))), .val (.ref b2), .val (.ref b12), .val (.ref b19), .val (.ref b35), .val (.ref b55), .val (.ref b77), .unset, .unset, .unset] [])) _
        refine XS.iload X259.here hx rfl (hb hby at_154) rfl ?_
        refine XS.iconst X259.here hx rfl (hb hby at_156) ?_
        refine XS.icmpYes X259.here hx rfl (pc0 := 157) (pc' := 168) rfl (hb hby at_157) rfl (tlt hc157_262).1 (by decide) (by decide) ?_
        exact kt)
    have zs265 := (Nat.le_trans zs260 K259.1)
    obtain ⟨T264, h264, X264, e264, E264, A264, D264, -, st264⟩ := newO X259 hx hZ66 hown66 (own_h hw 65 rfl) (own_h hw 66 rfl) (own_h hw 67 rfl) rfl (g := (mkF m 168 #[.val (.long q0), .second, .val (.long q1), .second, .val (.long q2), .second, .val (.long q3), .second, .val (.int p4), .val (.int p5), .val (.int (2 : Int32)), .val (.int (p4 &&& (3 : Int32))), .val (.int (((p4.toUInt32 >>> ((2 : Int32) &&& 31).toUInt32).toInt32) &&& (3 : Int32))), .val (.int (((p4.toUInt32 >>> ((4 : Int32) &&& 31).toUInt32).toInt32) &&& (3 : Int32))), .val (.ref b2), .val (.ref b12), .val (.ref b19), .val (.ref b35), .val (.ref b55), .val (.ref b77), .unset, .unset, .unset] [])) rfl (hb hby at_168) (by decide) (by decide)
    obtain ⟨b264, g264⟩ : ∃ z, z = T259.heap.size := ⟨_, rfl⟩
    rw [← g264] at A264 D264 st264
    have ks264 : h0.size ≤ T259.heap.size := Nat.le_trans (Nat.le_trans (Nat.le_trans (Nat.le_trans (ks77) E77.1) K90.1) K248.1) K259.1
    have sz264 : h0.size ≤ b264 := Nat.le_trans ks264 (Nat.le_of_eq g264.symm)
    have fq266 := ((fq253.keep K248).keep K259)
    have ne_b12_b264 : b12 ≠ b264 := Nat.ne_of_lt (Nat.lt_of_lt_of_le fq266.lt (Nat.le_of_eq g264.symm))
    have fq267 := ((fq252.keep K248).keep K259)
    have ne_b19_b264 : b19 ≠ b264 := Nat.ne_of_lt (Nat.lt_of_lt_of_le fq267.lt (Nat.le_of_eq g264.symm))
    have fq268 := ((fq254.keep K248 (ninS ne_b2_b77 nin0)).keep K259 (ninS ne_b2_b77 (ninS ne_b2_b248 nin0)))
    have ne_b2_b264 : b2 ≠ b264 := Nat.ne_of_lt (Nat.lt_of_lt_of_le fq268.lt (Nat.le_of_eq g264.symm))
    have ne_b248_b264 : b248 ≠ b264 := Nat.ne_of_lt (Nat.lt_of_lt_of_le V259.lt (Nat.le_of_eq g264.symm))
    have fq269 := (fq261.keep K259)
    have ne_b35_b264 : b35 ≠ b264 := Nat.ne_of_lt (Nat.lt_of_lt_of_le fq269.lt (Nat.le_of_eq g264.symm))
    have fq270 := ((fq256.keep K248).keep K259)
    have ne_b55_b264 : b55 ≠ b264 := Nat.ne_of_lt (Nat.lt_of_lt_of_le fq270.lt (Nat.le_of_eq g264.symm))
    have ne_b77_b264 : b77 ≠ b264 := Nat.ne_of_lt (Nat.lt_of_lt_of_le jjE.lt (Nat.le_of_eq g264.symm))
    have fq271 := ((fq250.keep K248 (ninS ne_dd_b77 nin0)).keep K259 (ninS ne_dd_b77 (ninS ne_dd_b248 nin0)))
    have ne_dd_b264 : dd ≠ b264 := Nat.ne_of_lt (Nat.lt_of_lt_of_le fq271.lt (Nat.le_of_eq g264.symm))
    have gb264 : n0 ≤ b264 := Nat.le_trans zs265 (Nat.le_of_eq g264.symm)
    have F264_slots : Fld Z h264 b264 "com/example/invariant_ink/invariantink/engine/Combinations" "slots" "[I" .null := D264 (Or.inr (own_h hw 88 rfl)) (ty := (.array .int)) (by decide)
    have F264_firsts : Fld Z h264 b264 "com/example/invariant_ink/invariantink/engine/Combinations" "firsts" "[J" .null := D264 (Or.inr (own_h hw 90 rfl)) (ty := (.array .long)) (by decide)
    have F264_lasts : Fld Z h264 b264 "com/example/invariant_ink/invariantink/engine/Combinations" "lasts" "[J" .null := D264 (Or.inr (own_h hw 92 rfl)) (ty := (.array .long)) (by decide)
    have go272 : ∀ t, Steps p.tables e below (T264.setTop (mkF m 174 #[.val (.long q0), .second, .val (.long q1), .second, .val (.long q2), .second, .val (.long q3), .second, .val (.int p4), .val (.int p5), .val (.int (2 : Int32)), .val (.int (p4 &&& (3 : Int32))), .val (.int (((p4.toUInt32 >>> ((2 : Int32) &&& 31).toUInt32).toInt32) &&& (3 : Int32))), .val (.int (((p4.toUInt32 >>> ((4 : Int32) &&& 31).toUInt32).toInt32) &&& (3 : Int32))), .val (.ref b2), .val (.ref b12), .val (.ref b19), .val (.ref b35), .val (.ref b55), .val (.ref b77), .unset, .unset, .unset] [(.ref b77), (.ref b264), (.ref b264)])) t → Steps p.tables e below (s₁.setTop (entryFrame m #[(.long q0), (.long q1), (.long q2), (.long q3), (.int p4), (.int p5)] maxLocals)) t := fun t kt => go263 t (by
        refine st264 _ ?_
        refine XS.dup X264.here hx rfl (hb hby at_171) rfl rfl ?_
        refine XS.aload X264.here hx rfl (hb hby at_172) rfl rfl ?_
        exact kt)
    have zs274 := (Nat.le_trans zs265 E264.1)
    have fq275 := (jjE.ext E264)
    have fq276 := (jjF1.ext E264)
    have fq277 := (jjF2.ext E264)
    have fq278 := (jjF3.ext E264)
    have fq279 := (V259.ext E264)
    have fq280 := (fq267.ext E264)
    have fr281 := ((F27l.ext E35).ext E44)
    have fr282 := (((fr281.keep K47 (ninS ne_b19_b35 nin0)).ext E55).ext E66)
    have fr283 := (((fr282.keep K69 (ninS ne_b19_b55 nin0)).ext E77).keep K90 (ninS ne_b19_b77 nin0))
    have fq284 := (((fr283.keep K248 (ninS ne_b19_b77 nin0)).keep K259 (ninS ne_b19_b77 (ninS ne_b19_b248 nin0))).ext E264)
    have fr285 := ((F27h.ext E35).ext E44)
    have fr286 := (((fr285.keep K47 (ninS ne_b19_b35 nin0)).ext E55).ext E66)
    have fr287 := (((fr286.keep K69 (ninS ne_b19_b55 nin0)).ext E77).keep K90 (ninS ne_b19_b77 nin0))
    have fq288 := (((fr287.keep K248 (ninS ne_b19_b77 nin0)).keep K259 (ninS ne_b19_b77 (ninS ne_b19_b248 nin0))).ext E264)
    have fq289 := (fq266.ext E264)
    have fr290 := ((F17l.ext E19).ext E24)
    have fr291 := (((fr290.keep K27 (ninS ne_b12_b19 nin0)).ext E35).ext E44)
    have fr292 := (((fr291.keep K47 (ninS ne_b12_b35 nin0)).ext E55).ext E66)
    have fr293 := (((fr292.keep K69 (ninS ne_b12_b55 nin0)).ext E77).keep K90 (ninS ne_b12_b77 nin0))
    have fq294 := (((fr293.keep K248 (ninS ne_b12_b77 nin0)).keep K259 (ninS ne_b12_b77 (ninS ne_b12_b248 nin0))).ext E264)
    have fr295 := ((F17h.ext E19).ext E24)
    have fr296 := (((fr295.keep K27 (ninS ne_b12_b19 nin0)).ext E35).ext E44)
    have fr297 := (((fr296.keep K47 (ninS ne_b12_b35 nin0)).ext E55).ext E66)
    have fr298 := (((fr297.keep K69 (ninS ne_b12_b55 nin0)).ext E77).keep K90 (ninS ne_b12_b77 nin0))
    have fq299 := (((fr298.keep K248 (ninS ne_b12_b77 nin0)).keep K259 (ninS ne_b12_b77 (ninS ne_b12_b248 nin0))).ext E264)
    have fq300 := (fq269.ext E264)
    have fr301 := ((F47l.ext E55).ext E66)
    have fr302 := (((fr301.keep K69 (ninS ne_b35_b55 nin0)).ext E77).keep K90 (ninS ne_b35_b77 nin0))
    have fq303 := (((fr302.keep K248 (ninS ne_b35_b77 nin0)).keep K259 (ninS ne_b35_b77 (ninS ne_b35_b248 nin0))).ext E264)
    have fr304 := ((F47h.ext E55).ext E66)
    have fr305 := (((fr304.keep K69 (ninS ne_b35_b55 nin0)).ext E77).keep K90 (ninS ne_b35_b77 nin0))
    have fq306 := (((fr305.keep K248 (ninS ne_b35_b77 nin0)).keep K259 (ninS ne_b35_b77 (ninS ne_b35_b248 nin0))).ext E264)
    obtain ⟨_, _, ⟨T273, L273, k273, n273⟩, -, X273, ⟨Lc273, hQ273, l273, y273, z273⟩, st273⟩ := X264.specialBack hx (y := own_m23) rfl hown66 (mvT hZ66 (own_h hw 68 rfl)) (mvT hZ66 (own_h hw 69 rfl)) (mvT hZ66 (own_h hw 70 rfl)) (by decide) (backOf (W := 1) (rmC1_2 l Z a0 hw [] b264 b77 b248 (((0 : Int32) + 1) + 1) b19 b35 b12 b12 (p4 &&& (3 : Int32)) (((p4.toUInt32 >>> ((2 : Int32) &&& 31).toUInt32).toInt32) &&& (3 : Int32)) (0 : Int64) (0 : Int64) (1 : Int64) (1 : Int64) h264 n0 zs274 A264 F264_slots F264_firsts F264_lasts gb264 ⟨fq275, fq276, fq277, fq278⟩ fq279 fq280 fq284 fq288 fq289 fq294 fq299 fq300 fq303 fq306 fq289 fq294 fq299) hZ66 (own_h hw 70 rfl) (own_h hw 67 rfl) (by decide) (by decide)) (g := (mkF m 174 #[.val (.long q0), .second, .val (.long q1), .second, .val (.long q2), .second, .val (.long q3), .second, .val (.int p4), .val (.int p5), .val (.int (2 : Int32)), .val (.int (p4 &&& (3 : Int32))), .val (.int (((p4.toUInt32 >>> ((2 : Int32) &&& 31).toUInt32).toInt32) &&& (3 : Int32))), .val (.int (((p4.toUInt32 >>> ((4 : Int32) &&& 31).toUInt32).toInt32) &&& (3 : Int32))), .val (.ref b2), .val (.ref b12), .val (.ref b19), .val (.ref b35), .val (.ref b55), .val (.ref b77), .unset, .unset, .unset] [(.ref b77), (.ref b264), (.ref b264)])) rfl (by rw [hml]; rfl) (Steps.refl _) (a := b264) (argsL := [(.ref b77)]) (rest := [(.ref b264)]) (lenOf pd_3 rfl) rfl (by show 2 * 0 + _ ≤ _; exact Nat.le_of_eq rfl) (hb hby at_174) (fun _ _ => ⟨rfl, e264, (by decide : 14 + 3 ≤ _), (by decide : 61 + 6 ≤ _)⟩)
    dsimp only [Pt.U, Pt.locs, Pt.cells, Pt.slots] at X273 l273 y273 z273 st273 hQ273
    subst y273 z273
    obtain ⟨x273, y273, z273, rfl, N273q, K273, E273x, F273a, F273b, F273c, V273a, V273b, V273c, z273a, z273b, z273c⟩ := hQ273
    have ne_b12_x273 : b12 ≠ x273 := Nat.ne_of_lt (Nat.lt_of_lt_of_le fq289.lt z273a)
    have ne_b19_x273 : b19 ≠ x273 := Nat.ne_of_lt (Nat.lt_of_lt_of_le fq280.lt z273a)
    have fq307 := (fq268.ext E264)
    have ne_b2_x273 : b2 ≠ x273 := Nat.ne_of_lt (Nat.lt_of_lt_of_le fq307.lt z273a)
    have ne_b248_x273 : b248 ≠ x273 := Nat.ne_of_lt (Nat.lt_of_lt_of_le fq279.lt z273a)
    have ne_b264_x273 : b264 ≠ x273 := Nat.ne_of_lt (Nat.lt_of_lt_of_le A264.lt z273a)
    have ne_b35_x273 : b35 ≠ x273 := Nat.ne_of_lt (Nat.lt_of_lt_of_le fq300.lt z273a)
    have fq308 := (fq270.ext E264)
    have ne_b55_x273 : b55 ≠ x273 := Nat.ne_of_lt (Nat.lt_of_lt_of_le fq308.lt z273a)
    have ne_b77_x273 : b77 ≠ x273 := Nat.ne_of_lt (Nat.lt_of_lt_of_le fq275.lt z273a)
    have fq309 := (fq271.ext E264)
    have ne_dd_x273 : dd ≠ x273 := Nat.ne_of_lt (Nat.lt_of_lt_of_le fq309.lt z273a)
    have ne_b12_y273 : b12 ≠ y273 := Nat.ne_of_lt (Nat.lt_of_lt_of_le fq289.lt z273b)
    have ne_b19_y273 : b19 ≠ y273 := Nat.ne_of_lt (Nat.lt_of_lt_of_le fq280.lt z273b)
    have ne_b2_y273 : b2 ≠ y273 := Nat.ne_of_lt (Nat.lt_of_lt_of_le fq307.lt z273b)
    have ne_b248_y273 : b248 ≠ y273 := Nat.ne_of_lt (Nat.lt_of_lt_of_le fq279.lt z273b)
    have ne_b264_y273 : b264 ≠ y273 := Nat.ne_of_lt (Nat.lt_of_lt_of_le A264.lt z273b)
    have ne_b35_y273 : b35 ≠ y273 := Nat.ne_of_lt (Nat.lt_of_lt_of_le fq300.lt z273b)
    have ne_b55_y273 : b55 ≠ y273 := Nat.ne_of_lt (Nat.lt_of_lt_of_le fq308.lt z273b)
    have ne_b77_y273 : b77 ≠ y273 := Nat.ne_of_lt (Nat.lt_of_lt_of_le fq275.lt z273b)
    have ne_dd_y273 : dd ≠ y273 := Nat.ne_of_lt (Nat.lt_of_lt_of_le fq309.lt z273b)
    have ne_b12_z273 : b12 ≠ z273 := Nat.ne_of_lt (Nat.lt_of_lt_of_le fq289.lt z273c)
    have ne_b19_z273 : b19 ≠ z273 := Nat.ne_of_lt (Nat.lt_of_lt_of_le fq280.lt z273c)
    have ne_b2_z273 : b2 ≠ z273 := Nat.ne_of_lt (Nat.lt_of_lt_of_le fq307.lt z273c)
    have ne_b248_z273 : b248 ≠ z273 := Nat.ne_of_lt (Nat.lt_of_lt_of_le fq279.lt z273c)
    have ne_b264_z273 : b264 ≠ z273 := Nat.ne_of_lt (Nat.lt_of_lt_of_le A264.lt z273c)
    have ne_b35_z273 : b35 ≠ z273 := Nat.ne_of_lt (Nat.lt_of_lt_of_le fq300.lt z273c)
    have ne_b55_z273 : b55 ≠ z273 := Nat.ne_of_lt (Nat.lt_of_lt_of_le fq308.lt z273c)
    have ne_b77_z273 : b77 ≠ z273 := Nat.ne_of_lt (Nat.lt_of_lt_of_le fq275.lt z273c)
    have ne_dd_z273 : dd ≠ z273 := Nat.ne_of_lt (Nat.lt_of_lt_of_le fq309.lt z273c)
    have N273 := Fr.app N259 N273q
    rw [← l273] at N273
    have go310 : ∀ t, Steps p.tables e below (T273.setTop (mkF m 183 #[.val (.long q0), .second, .val (.long q1), .second, .val (.long q2), .second, .val (.long q3), .second, .val (.int p4), .val (.int p5), .val (.int (2 : Int32)), .val (.int (p4 &&& (3 : Int32))), .val (.int (((p4.toUInt32 >>> ((2 : Int32) &&& 31).toUInt32).toInt32) &&& (3 : Int32))), .val (.int (((p4.toUInt32 >>> ((4 : Int32) &&& 31).toUInt32).toInt32) &&& (3 : Int32))), .val (.ref b2), .val (.ref b12), .val (.ref b19), .val (.ref b35), .val (.ref b55), .val (.ref b77), .val (.ref b264), .unset, .unset] [(.ref b2), (.ref b264)])) t → Steps p.tables e below (s₁.setTop (entryFrame m #[(.long q0), (.long q1), (.long q2), (.long q3), (.int p4), (.int p5)] maxLocals)) t := fun t kt => go272 t (by
        refine st273.trans ?_
        refine XS.astore X273.here hx rfl (hb hby at_177) rfl rfl (l' := #[.val (.long q0), .second, .val (.long q1), .second, .val (.long q2), .second, .val (.long q3), .second, .val (.int p4), .val (.int p5), .val (.int (2 : Int32)), .val (.int (p4 &&& (3 : Int32))), .val (.int (((p4.toUInt32 >>> ((2 : Int32) &&& 31).toUInt32).toInt32) &&& (3 : Int32))), .val (.int (((p4.toUInt32 >>> ((4 : Int32) &&& 31).toUInt32).toInt32) &&& (3 : Int32))), .val (.ref b2), .val (.ref b12), .val (.ref b19), .val (.ref b35), .val (.ref b55), .val (.ref b77), .val (.ref b264), .unset, .unset]) rfl ?_
        show Steps p.tables e below (T273.setTop (mkF m 179 #[.val (.long q0), .second, .val (.long q1), .second, .val (.long q2), .second, .val (.long q3), .second, .val (.int p4), .val (.int p5), .val (.int (2 : Int32)), .val (.int (p4 &&& (3 : Int32))), .val (.int (((p4.toUInt32 >>> ((2 : Int32) &&& 31).toUInt32).toInt32) &&& (3 : Int32))), .val (.int (((p4.toUInt32 >>> ((4 : Int32) &&& 31).toUInt32).toInt32) &&& (3 : Int32))), .val (.ref b2), .val (.ref b12), .val (.ref b19), .val (.ref b35), .val (.ref b55), .val (.ref b77), .val (.ref b264), .unset, .unset] [])) _
        refine XS.aload X273.here hx rfl (hb hby at_179) rfl rfl ?_
        refine XS.aload X273.here hx rfl (hb hby at_181) rfl rfl ?_
        exact kt)
    have zs312 := (Nat.le_trans zs274 K273.1)
    have fq313 := (fq307.keep K273 (ninS ne_b2_b264 nin0))
    obtain ⟨cq311, kq311, q311a, q311b, q311c⟩ := isOf hZ66 rfl E273x
    obtain ⟨_, _, ⟨T311, L311, k311, n311⟩, -, X311, ⟨Lc311, hQ311, l311, y311, z311⟩, st311⟩ := X273.virtualBack hx (y := own_m24) (z := own_m24) hown66 (mvT hZ66 (own_h hw 93 rfl)) (mvT hZ66 (own_h hw 94 rfl)) (notFace_of_selects (args := #[]) (mvT hZ66 (own_h hw 96 rfl))) (mvT hZ66 (own_h hw 96 rfl)) (mvT hZ66 (own_h hw 95 rfl)) (by decide) (backOf (W := 0) (rmV2 l Z a0 hw [] b264 b2 x273 (p4 &&& (3 : Int32)) (((p4.toUInt32 >>> ((2 : Int32) &&& 31).toUInt32).toInt32) &&& (3 : Int32)) q0 q1 q2 q3 T273.heap n0 zs312 F273a V273a fq313 (own_slot p4 q0 q1 q2 q3).1 (own_slot p4 q0 q1 q2 q3).2.1 (own_slot p4 q0 q1 q2 q3).2.2 (own_slot ((p4.toUInt32 >>> ((2 : Int32) &&& 31).toUInt32).toInt32) q0 q1 q2 q3).1 (own_slot ((p4.toUInt32 >>> ((2 : Int32) &&& 31).toUInt32).toInt32) q0 q1 q2 q3).2.1 (own_slot ((p4.toUInt32 >>> ((2 : Int32) &&& 31).toUInt32).toInt32) q0 q1 q2 q3).2.2) hZ66 (own_h hw 97 rfl) (own_h hw 67 rfl) (by decide) (by decide)) q311a q311c (g := (mkF m 183 #[.val (.long q0), .second, .val (.long q1), .second, .val (.long q2), .second, .val (.long q3), .second, .val (.int p4), .val (.int p5), .val (.int (2 : Int32)), .val (.int (p4 &&& (3 : Int32))), .val (.int (((p4.toUInt32 >>> ((2 : Int32) &&& 31).toUInt32).toInt32) &&& (3 : Int32))), .val (.int (((p4.toUInt32 >>> ((4 : Int32) &&& 31).toUInt32).toInt32) &&& (3 : Int32))), .val (.ref b2), .val (.ref b12), .val (.ref b19), .val (.ref b35), .val (.ref b55), .val (.ref b77), .val (.ref b264), .unset, .unset] [(.ref b2), (.ref b264)])) rfl (by rw [hml]; rfl) (Steps.refl _) (argsL := [(.ref b2)]) (rest := []) (lenOf pd_6 rfl) rfl (by show 2 * 0 + _ ≤ _; exact Nat.le_of_eq rfl) (hb hby at_183) (fun _ _ => ⟨rfl, rfl, (by decide : 17 + 1 ≤ _), (by decide : 67 + 2 ≤ _)⟩)
    dsimp only [Pt.U, Pt.locs, Pt.cells, Pt.slots] at X311 l311 y311 z311 st311 hQ311
    subst y311 z311
    obtain ⟨r311, rfl, N311q, K311, V311, z311⟩ := hQ311
    have fq314 := (fq289.keep K273)
    have ne_b12_r311 : b12 ≠ r311 := Nat.ne_of_lt (Nat.lt_of_lt_of_le fq314.lt z311)
    have fq315 := (fq280.keep K273)
    have ne_b19_r311 : b19 ≠ r311 := Nat.ne_of_lt (Nat.lt_of_lt_of_le fq315.lt z311)
    have ne_b2_r311 : b2 ≠ r311 := Nat.ne_of_lt (Nat.lt_of_lt_of_le fq313.lt z311)
    have fq316 := (fq279.keep K273 (ninS ne_b248_b264 nin0))
    have ne_b248_r311 : b248 ≠ r311 := Nat.ne_of_lt (Nat.lt_of_lt_of_le fq316.lt z311)
    have ne_b264_r311 : b264 ≠ r311 := Nat.ne_of_lt (Nat.lt_of_lt_of_le E273x.lt z311)
    have fq317 := (fq300.keep K273)
    have ne_b35_r311 : b35 ≠ r311 := Nat.ne_of_lt (Nat.lt_of_lt_of_le fq317.lt z311)
    have fq318 := (fq308.keep K273)
    have ne_b55_r311 : b55 ≠ r311 := Nat.ne_of_lt (Nat.lt_of_lt_of_le fq318.lt z311)
    have fq319 := (fq275.keep K273)
    have ne_b77_r311 : b77 ≠ r311 := Nat.ne_of_lt (Nat.lt_of_lt_of_le fq319.lt z311)
    have fq320 := (fq309.keep K273 (ninS ne_dd_b264 nin0))
    have ne_dd_r311 : dd ≠ r311 := Nat.ne_of_lt (Nat.lt_of_lt_of_le fq320.lt z311)
    have ne_x273_r311 : x273 ≠ r311 := Nat.ne_of_lt (Nat.lt_of_lt_of_le V273a.lt z311)
    have ne_y273_r311 : y273 ≠ r311 := Nat.ne_of_lt (Nat.lt_of_lt_of_le V273b.lt z311)
    have ne_z273_r311 : z273 ≠ r311 := Nat.ne_of_lt (Nat.lt_of_lt_of_le V273c.lt z311)
    have N311 := Fr.app N273 N311q
    rw [← l311] at N311
    have go321 : ∀ t, Steps p.tables e below (T311.setTop (mkF m 195 #[.val (.long q0), .second, .val (.long q1), .second, .val (.long q2), .second, .val (.long q3), .second, .val (.int p4), .val (.int p5), .val (.int (2 : Int32)), .val (.int (p4 &&& (3 : Int32))), .val (.int (((p4.toUInt32 >>> ((2 : Int32) &&& 31).toUInt32).toInt32) &&& (3 : Int32))), .val (.int (((p4.toUInt32 >>> ((4 : Int32) &&& 31).toUInt32).toInt32) &&& (3 : Int32))), .val (.ref b2), .val (.ref b12), .val (.ref b19), .val (.ref b35), .val (.ref b55), .val (.ref b77), .val (.ref b264), .val (.ref r311), .unset] [(.ref r311)])) t → Steps p.tables e below (s₁.setTop (entryFrame m #[(.long q0), (.long q1), (.long q2), (.long q3), (.int p4), (.int p5)] maxLocals)) t := fun t kt => go310 t (by
        refine st311.trans ?_
        refine XS.astore X311.here hx rfl (hb hby at_186) rfl rfl (l' := #[.val (.long q0), .second, .val (.long q1), .second, .val (.long q2), .second, .val (.long q3), .second, .val (.int p4), .val (.int p5), .val (.int (2 : Int32)), .val (.int (p4 &&& (3 : Int32))), .val (.int (((p4.toUInt32 >>> ((2 : Int32) &&& 31).toUInt32).toInt32) &&& (3 : Int32))), .val (.int (((p4.toUInt32 >>> ((4 : Int32) &&& 31).toUInt32).toInt32) &&& (3 : Int32))), .val (.ref b2), .val (.ref b12), .val (.ref b19), .val (.ref b35), .val (.ref b55), .val (.ref b77), .val (.ref b264), .val (.ref r311), .unset]) rfl ?_
        refine XS.aload X311.here hx rfl (hb hby at_188) rfl rfl ?_
        refine XS.ifnullNo X311.here hx rfl (hb hby at_190) rfl ?_
        refine XS.aload X311.here hx rfl (hb hby at_193) rfl rfl ?_
        exact kt)
    obtain ⟨c322, Ar322, q322⟩ := id V311
    have hc198_323 : (2 : Int32) = (2 : Int32) := (by decide)
    have go324 : ∀ t, Steps p.tables e below (T311.setTop (mkF m 206 #[.val (.long q0), .second, .val (.long q1), .second, .val (.long q2), .second, .val (.long q3), .second, .val (.int p4), .val (.int p5), .val (.int (2 : Int32)), .val (.int (p4 &&& (3 : Int32))), .val (.int (((p4.toUInt32 >>> ((2 : Int32) &&& 31).toUInt32).toInt32) &&& (3 : Int32))), .val (.int (((p4.toUInt32 >>> ((4 : Int32) &&& 31).toUInt32).toInt32) &&& (3 : Int32))), .val (.ref b2), .val (.ref b12), .val (.ref b19), .val (.ref b35), .val (.ref b55), .val (.ref b77), .val (.ref b264), .val (.ref r311), .unset] [(.int (0 : Int32)), (.ref b2)])) t → Steps p.tables e below (s₁.setTop (entryFrame m #[(.long q0), (.long q1), (.long q2), (.long q3), (.int p4), (.int p5)] maxLocals)) t := fun t kt => go321 t (by
        refine X311.arraylength hx Ar322.1 (State.isArrayOf_alike hZ66.alike Ar322.2.1) (g := (mkF m 195 #[.val (.long q0), .second, .val (.long q1), .second, .val (.long q2), .second, .val (.long q3), .second, .val (.int p4), .val (.int p5), .val (.int (2 : Int32)), .val (.int (p4 &&& (3 : Int32))), .val (.int (((p4.toUInt32 >>> ((2 : Int32) &&& 31).toUInt32).toInt32) &&& (3 : Int32))), .val (.int (((p4.toUInt32 >>> ((4 : Int32) &&& 31).toUInt32).toInt32) &&& (3 : Int32))), .val (.ref b2), .val (.ref b12), .val (.ref b19), .val (.ref b35), .val (.ref b55), .val (.ref b77), .val (.ref b264), .val (.ref r311), .unset] [(.ref r311)])) rfl rfl (hb hby at_195) _ ?_
        rw [own_len q322 (n := (2 : Int32)) rfl]
        show Steps p.tables e below (T311.setTop (mkF m 196 #[.val (.long q0), .second, .val (.long q1), .second, .val (.long q2), .second, .val (.long q3), .second, .val (.int p4), .val (.int p5), .val (.int (2 : Int32)), .val (.int (p4 &&& (3 : Int32))), .val (.int (((p4.toUInt32 >>> ((2 : Int32) &&& 31).toUInt32).toInt32) &&& (3 : Int32))), .val (.int (((p4.toUInt32 >>> ((4 : Int32) &&& 31).toUInt32).toInt32) &&& (3 : Int32))), .val (.ref b2), .val (.ref b12), .val (.ref b19), .val (.ref b35), .val (.ref b55), .val (.ref b77), .val (.ref b264), .val (.ref r311), .unset] [(.int (2 : Int32))])) _
        refine XS.iload X311.here hx rfl (hb hby at_196) rfl ?_
        refine XS.icmpYes X311.here hx rfl (pc0 := 198) (pc' := 203) rfl (hb hby at_198) rfl (teq hc198_323).1 (by decide) (by decide) ?_
        refine XS.aload X311.here hx rfl (hb hby at_203) rfl rfl ?_
        refine XS.iconst X311.here hx rfl (hb hby at_205) ?_
        exact kt)
    have fq325 := (fq313.keep K311 nin0)
    obtain ⟨c326, Ar326, q326⟩ := id fq325
    have hc209_327 : (lcmpW q0 q0) = (0 : Int32) := (lw_eq _ _).mpr rfl
    have go328 : ∀ t, Steps p.tables e below (T311.setTop (mkF m 215 #[.val (.long q0), .second, .val (.long q1), .second, .val (.long q2), .second, .val (.long q3), .second, .val (.int p4), .val (.int p5), .val (.int (2 : Int32)), .val (.int (p4 &&& (3 : Int32))), .val (.int (((p4.toUInt32 >>> ((2 : Int32) &&& 31).toUInt32).toInt32) &&& (3 : Int32))), .val (.int (((p4.toUInt32 >>> ((4 : Int32) &&& 31).toUInt32).toInt32) &&& (3 : Int32))), .val (.ref b2), .val (.ref b12), .val (.ref b19), .val (.ref b35), .val (.ref b55), .val (.ref b77), .val (.ref b264), .val (.ref r311), .unset] [(.int (1 : Int32)), (.ref b2)])) t → Steps p.tables e below (s₁.setTop (entryFrame m #[(.long q0), (.long q1), (.long q2), (.long q3), (.int p4), (.int p5)] maxLocals)) t := fun t kt => go324 t (by
        refine X311.laload hx (j := (0 : Int32)) (v := (.long q0)) Ar326.1 (State.isArrayOf_alike hZ66.alike Ar326.2.1) Ar326.2.2 (own_inb q326 (n := 4) rfl (by decide) (by decide)) (own_get q326 (i := 0) (by decide) rfl) (g := (mkF m 206 #[.val (.long q0), .second, .val (.long q1), .second, .val (.long q2), .second, .val (.long q3), .second, .val (.int p4), .val (.int p5), .val (.int (2 : Int32)), .val (.int (p4 &&& (3 : Int32))), .val (.int (((p4.toUInt32 >>> ((2 : Int32) &&& 31).toUInt32).toInt32) &&& (3 : Int32))), .val (.int (((p4.toUInt32 >>> ((4 : Int32) &&& 31).toUInt32).toInt32) &&& (3 : Int32))), .val (.ref b2), .val (.ref b12), .val (.ref b19), .val (.ref b35), .val (.ref b55), .val (.ref b77), .val (.ref b264), .val (.ref r311), .unset] [(.int (0 : Int32)), (.ref b2)])) rfl rfl (hb hby at_206) _ ?_
        refine XS.lloadN X311.here hx rfl (hb hby at_207) rfl ?_
        refine XS.lcmp X311.here hx rfl (hb hby at_208) rfl ?_
        refine XS.ifNo X311.here hx rfl (hb hby at_209) rfl ((if0 _ _).trans (teq hc209_327).2) ?_
        show Steps p.tables e below (T311.setTop (mkF m 212 #[.val (.long q0), .second, .val (.long q1), .second, .val (.long q2), .second, .val (.long q3), .second, .val (.int p4), .val (.int p5), .val (.int (2 : Int32)), .val (.int (p4 &&& (3 : Int32))), .val (.int (((p4.toUInt32 >>> ((2 : Int32) &&& 31).toUInt32).toInt32) &&& (3 : Int32))), .val (.int (((p4.toUInt32 >>> ((4 : Int32) &&& 31).toUInt32).toInt32) &&& (3 : Int32))), .val (.ref b2), .val (.ref b12), .val (.ref b19), .val (.ref b35), .val (.ref b55), .val (.ref b77), .val (.ref b264), .val (.ref r311), .unset] [])) _
        refine XS.aload X311.here hx rfl (hb hby at_212) rfl rfl ?_
        refine XS.iconst X311.here hx rfl (hb hby at_214) ?_
        exact kt)
    obtain ⟨c329, Ar329, q329⟩ := id fq325
    have hc218_330 : (lcmpW q1 q1) = (0 : Int32) := (lw_eq _ _).mpr rfl
    have go331 : ∀ t, Steps p.tables e below (T311.setTop (mkF m 224 #[.val (.long q0), .second, .val (.long q1), .second, .val (.long q2), .second, .val (.long q3), .second, .val (.int p4), .val (.int p5), .val (.int (2 : Int32)), .val (.int (p4 &&& (3 : Int32))), .val (.int (((p4.toUInt32 >>> ((2 : Int32) &&& 31).toUInt32).toInt32) &&& (3 : Int32))), .val (.int (((p4.toUInt32 >>> ((4 : Int32) &&& 31).toUInt32).toInt32) &&& (3 : Int32))), .val (.ref b2), .val (.ref b12), .val (.ref b19), .val (.ref b35), .val (.ref b55), .val (.ref b77), .val (.ref b264), .val (.ref r311), .unset] [(.int (2 : Int32)), (.ref b2)])) t → Steps p.tables e below (s₁.setTop (entryFrame m #[(.long q0), (.long q1), (.long q2), (.long q3), (.int p4), (.int p5)] maxLocals)) t := fun t kt => go328 t (by
        refine X311.laload hx (j := (1 : Int32)) (v := (.long q1)) Ar329.1 (State.isArrayOf_alike hZ66.alike Ar329.2.1) Ar329.2.2 (own_inb q329 (n := 4) rfl (by decide) (by decide)) (own_get q329 (i := 1) (by decide) rfl) (g := (mkF m 215 #[.val (.long q0), .second, .val (.long q1), .second, .val (.long q2), .second, .val (.long q3), .second, .val (.int p4), .val (.int p5), .val (.int (2 : Int32)), .val (.int (p4 &&& (3 : Int32))), .val (.int (((p4.toUInt32 >>> ((2 : Int32) &&& 31).toUInt32).toInt32) &&& (3 : Int32))), .val (.int (((p4.toUInt32 >>> ((4 : Int32) &&& 31).toUInt32).toInt32) &&& (3 : Int32))), .val (.ref b2), .val (.ref b12), .val (.ref b19), .val (.ref b35), .val (.ref b55), .val (.ref b77), .val (.ref b264), .val (.ref r311), .unset] [(.int (1 : Int32)), (.ref b2)])) rfl rfl (hb hby at_215) _ ?_
        refine XS.lloadN X311.here hx rfl (hb hby at_216) rfl ?_
        refine XS.lcmp X311.here hx rfl (hb hby at_217) rfl ?_
        refine XS.ifNo X311.here hx rfl (hb hby at_218) rfl ((if0 _ _).trans (teq hc218_330).2) ?_
        refine XS.aload X311.here hx rfl (hb hby at_221) rfl rfl ?_
        refine XS.iconst X311.here hx rfl (hb hby at_223) ?_
        show Steps p.tables e below (T311.setTop (mkF m 224 #[.val (.long q0), .second, .val (.long q1), .second, .val (.long q2), .second, .val (.long q3), .second, .val (.int p4), .val (.int p5), .val (.int (2 : Int32)), .val (.int (p4 &&& (3 : Int32))), .val (.int (((p4.toUInt32 >>> ((2 : Int32) &&& 31).toUInt32).toInt32) &&& (3 : Int32))), .val (.int (((p4.toUInt32 >>> ((4 : Int32) &&& 31).toUInt32).toInt32) &&& (3 : Int32))), .val (.ref b2), .val (.ref b12), .val (.ref b19), .val (.ref b35), .val (.ref b55), .val (.ref b77), .val (.ref b264), .val (.ref r311), .unset] [(.int (2 : Int32)), (.ref b2)])) _
        exact kt)
    obtain ⟨c332, Ar332, q332⟩ := id fq325
    have hc228_333 : (lcmpW q2 q2) = (0 : Int32) := (lw_eq _ _).mpr rfl
    have go334 : ∀ t, Steps p.tables e below (T311.setTop (mkF m 234 #[.val (.long q0), .second, .val (.long q1), .second, .val (.long q2), .second, .val (.long q3), .second, .val (.int p4), .val (.int p5), .val (.int (2 : Int32)), .val (.int (p4 &&& (3 : Int32))), .val (.int (((p4.toUInt32 >>> ((2 : Int32) &&& 31).toUInt32).toInt32) &&& (3 : Int32))), .val (.int (((p4.toUInt32 >>> ((4 : Int32) &&& 31).toUInt32).toInt32) &&& (3 : Int32))), .val (.ref b2), .val (.ref b12), .val (.ref b19), .val (.ref b35), .val (.ref b55), .val (.ref b77), .val (.ref b264), .val (.ref r311), .unset] [(.int (3 : Int32)), (.ref b2)])) t → Steps p.tables e below (s₁.setTop (entryFrame m #[(.long q0), (.long q1), (.long q2), (.long q3), (.int p4), (.int p5)] maxLocals)) t := fun t kt => go331 t (by
        refine X311.laload hx (j := (2 : Int32)) (v := (.long q2)) Ar332.1 (State.isArrayOf_alike hZ66.alike Ar332.2.1) Ar332.2.2 (own_inb q332 (n := 4) rfl (by decide) (by decide)) (own_get q332 (i := 2) (by decide) rfl) (g := (mkF m 224 #[.val (.long q0), .second, .val (.long q1), .second, .val (.long q2), .second, .val (.long q3), .second, .val (.int p4), .val (.int p5), .val (.int (2 : Int32)), .val (.int (p4 &&& (3 : Int32))), .val (.int (((p4.toUInt32 >>> ((2 : Int32) &&& 31).toUInt32).toInt32) &&& (3 : Int32))), .val (.int (((p4.toUInt32 >>> ((4 : Int32) &&& 31).toUInt32).toInt32) &&& (3 : Int32))), .val (.ref b2), .val (.ref b12), .val (.ref b19), .val (.ref b35), .val (.ref b55), .val (.ref b77), .val (.ref b264), .val (.ref r311), .unset] [(.int (2 : Int32)), (.ref b2)])) rfl rfl (hb hby at_224) _ ?_
        refine XS.lload X311.here hx rfl (hb hby at_225) rfl ?_
        refine XS.lcmp X311.here hx rfl (hb hby at_227) rfl ?_
        refine XS.ifNo X311.here hx rfl (hb hby at_228) rfl ((if0 _ _).trans (teq hc228_333).2) ?_
        refine XS.aload X311.here hx rfl (hb hby at_231) rfl rfl ?_
        refine XS.iconst X311.here hx rfl (hb hby at_233) ?_
        exact kt)
    obtain ⟨c335, Ar335, q335⟩ := id fq325
    have hc238_336 : (lcmpW q3 q3) = (0 : Int32) := (lw_eq _ _).mpr rfl
    have hc251_337 : ¬ ((2 : Int32) < (1 : Int32)) := (by decide)
    have hc256_338 : ¬ ((1 : Int32) = (0 : Int32)) := (by decide)
    have go339 : ∀ t, Steps p.tables e below (T311.setTop (mkF m 262 #[.val (.long q0), .second, .val (.long q1), .second, .val (.long q2), .second, .val (.long q3), .second, .val (.int p4), .val (.int p5), .val (.int (2 : Int32)), .val (.int (p4 &&& (3 : Int32))), .val (.int (((p4.toUInt32 >>> ((2 : Int32) &&& 31).toUInt32).toInt32) &&& (3 : Int32))), .val (.int (((p4.toUInt32 >>> ((4 : Int32) &&& 31).toUInt32).toInt32) &&& (3 : Int32))), .val (.ref b2), .val (.ref b12), .val (.ref b19), .val (.ref b35), .val (.ref b55), .val (.ref b77), .val (.ref b264), .val (.ref r311), .val (.int (1 : Int32))] [(.int (0 : Int32)), (.ref r311)])) t → Steps p.tables e below (s₁.setTop (entryFrame m #[(.long q0), (.long q1), (.long q2), (.long q3), (.int p4), (.int p5)] maxLocals)) t := fun t kt => go334 t (by
        refine X311.laload hx (j := (3 : Int32)) (v := (.long q3)) Ar335.1 (State.isArrayOf_alike hZ66.alike Ar335.2.1) Ar335.2.2 (own_inb q335 (n := 4) rfl (by decide) (by decide)) (own_get q335 (i := 3) (by decide) rfl) (g := (mkF m 234 #[.val (.long q0), .second, .val (.long q1), .second, .val (.long q2), .second, .val (.long q3), .second, .val (.int p4), .val (.int p5), .val (.int (2 : Int32)), .val (.int (p4 &&& (3 : Int32))), .val (.int (((p4.toUInt32 >>> ((2 : Int32) &&& 31).toUInt32).toInt32) &&& (3 : Int32))), .val (.int (((p4.toUInt32 >>> ((4 : Int32) &&& 31).toUInt32).toInt32) &&& (3 : Int32))), .val (.ref b2), .val (.ref b12), .val (.ref b19), .val (.ref b35), .val (.ref b55), .val (.ref b77), .val (.ref b264), .val (.ref r311), .unset] [(.int (3 : Int32)), (.ref b2)])) rfl rfl (hb hby at_234) _ ?_
        refine XS.lload X311.here hx rfl (hb hby at_235) rfl ?_
        show Steps p.tables e below (T311.setTop (mkF m 237 #[.val (.long q0), .second, .val (.long q1), .second, .val (.long q2), .second, .val (.long q3), .second, .val (.int p4), .val (.int p5), .val (.int (2 : Int32)), .val (.int (p4 &&& (3 : Int32))), .val (.int (((p4.toUInt32 >>> ((2 : Int32) &&& 31).toUInt32).toInt32) &&& (3 : Int32))), .val (.int (((p4.toUInt32 >>> ((4 : Int32) &&& 31).toUInt32).toInt32) &&& (3 : Int32))), .val (.ref b2), .val (.ref b12), .val (.ref b19), .val (.ref b35), .val (.ref b55), .val (.ref b77), .val (.ref b264), .val (.ref r311), .unset] [(.long q3), (.long q3)])) _
        refine XS.lcmp X311.here hx rfl (hb hby at_237) rfl ?_
        refine XS.ifNo X311.here hx rfl (hb hby at_238) rfl ((if0 _ _).trans (teq hc238_336).2) ?_
        refine XS.iconst X311.here hx rfl (hb hby at_241) ?_
        refine XS.goto X311.here hx rfl (pc0 := 242) (pc' := 246) rfl (hb hby at_242) (by decide) (by decide) ?_
        refine XS.istore X311.here hx rfl (hb hby at_246) rfl (l' := #[.val (.long q0), .second, .val (.long q1), .second, .val (.long q2), .second, .val (.long q3), .second, .val (.int p4), .val (.int p5), .val (.int (2 : Int32)), .val (.int (p4 &&& (3 : Int32))), .val (.int (((p4.toUInt32 >>> ((2 : Int32) &&& 31).toUInt32).toInt32) &&& (3 : Int32))), .val (.int (((p4.toUInt32 >>> ((4 : Int32) &&& 31).toUInt32).toInt32) &&& (3 : Int32))), .val (.ref b2), .val (.ref b12), .val (.ref b19), .val (.ref b35), .val (.ref b55), .val (.ref b77), .val (.ref b264), .val (.ref r311), .val (.int (1 : Int32))]) rfl ?_
        refine XS.iload X311.here hx rfl (hb hby at_248) rfl ?_
        refine XS.iconst X311.here hx rfl (hb hby at_250) ?_
        refine XS.icmpNo X311.here hx rfl (hb hby at_251) rfl (flt hc251_337).1 ?_
        show Steps p.tables e below (T311.setTop (mkF m 254 #[.val (.long q0), .second, .val (.long q1), .second, .val (.long q2), .second, .val (.long q3), .second, .val (.int p4), .val (.int p5), .val (.int (2 : Int32)), .val (.int (p4 &&& (3 : Int32))), .val (.int (((p4.toUInt32 >>> ((2 : Int32) &&& 31).toUInt32).toInt32) &&& (3 : Int32))), .val (.int (((p4.toUInt32 >>> ((4 : Int32) &&& 31).toUInt32).toInt32) &&& (3 : Int32))), .val (.ref b2), .val (.ref b12), .val (.ref b19), .val (.ref b35), .val (.ref b55), .val (.ref b77), .val (.ref b264), .val (.ref r311), .val (.int (1 : Int32))] [])) _
        refine XS.iload X311.here hx rfl (hb hby at_254) rfl ?_
        refine XS.ifNo X311.here hx rfl (hb hby at_256) rfl ((if0 _ _).trans (feq hc256_338).1) ?_
        refine XS.aload X311.here hx rfl (hb hby at_259) rfl rfl ?_
        refine XS.iconst X311.here hx rfl (hb hby at_261) ?_
        exact kt)
    obtain ⟨c340, Ar340, q340⟩ := id V311
    have go341 : ∀ t, Steps p.tables e below (T311.setTop (mkF m 271 #[.val (.long q0), .second, .val (.long q1), .second, .val (.long q2), .second, .val (.long q3), .second, .val (.int p4), .val (.int p5), .val (.int (2 : Int32)), .val (.int (p4 &&& (3 : Int32))), .val (.int (((p4.toUInt32 >>> ((2 : Int32) &&& 31).toUInt32).toInt32) &&& (3 : Int32))), .val (.int (((p4.toUInt32 >>> ((4 : Int32) &&& 31).toUInt32).toInt32) &&& (3 : Int32))), .val (.ref b2), .val (.ref b12), .val (.ref b19), .val (.ref b35), .val (.ref b55), .val (.ref b77), .val (.ref b264), .val (.ref r311), .val (.int (1 : Int32))] [(.long q3), (.long q2), (.long q1), (.long q0), (.int (p4 &&& (3 : Int32))), (.long (own_at (p4 &&& (3 : Int32)) q0 q1 q2 q3))])) t → Steps p.tables e below (s₁.setTop (entryFrame m #[(.long q0), (.long q1), (.long q2), (.long q3), (.int p4), (.int p5)] maxLocals)) t := fun t kt => go339 t (by
        refine X311.laload hx (j := (0 : Int32)) (v := (.long (own_at (p4 &&& (3 : Int32)) q0 q1 q2 q3))) Ar340.1 (State.isArrayOf_alike hZ66.alike Ar340.2.1) Ar340.2.2 (own_inb q340 (n := 2) rfl (by decide) (by decide)) (own_get q340 (i := 0) (by decide) rfl) (g := (mkF m 262 #[.val (.long q0), .second, .val (.long q1), .second, .val (.long q2), .second, .val (.long q3), .second, .val (.int p4), .val (.int p5), .val (.int (2 : Int32)), .val (.int (p4 &&& (3 : Int32))), .val (.int (((p4.toUInt32 >>> ((2 : Int32) &&& 31).toUInt32).toInt32) &&& (3 : Int32))), .val (.int (((p4.toUInt32 >>> ((4 : Int32) &&& 31).toUInt32).toInt32) &&& (3 : Int32))), .val (.ref b2), .val (.ref b12), .val (.ref b19), .val (.ref b35), .val (.ref b55), .val (.ref b77), .val (.ref b264), .val (.ref r311), .val (.int (1 : Int32))] [(.int (0 : Int32)), (.ref r311)])) rfl rfl (hb hby at_262) _ ?_
        refine XS.iload X311.here hx rfl (hb hby at_263) rfl ?_
        refine XS.lloadN X311.here hx rfl (hb hby at_265) rfl ?_
        refine XS.lloadN X311.here hx rfl (hb hby at_266) rfl ?_
        show Steps p.tables e below (T311.setTop (mkF m 267 #[.val (.long q0), .second, .val (.long q1), .second, .val (.long q2), .second, .val (.long q3), .second, .val (.int p4), .val (.int p5), .val (.int (2 : Int32)), .val (.int (p4 &&& (3 : Int32))), .val (.int (((p4.toUInt32 >>> ((2 : Int32) &&& 31).toUInt32).toInt32) &&& (3 : Int32))), .val (.int (((p4.toUInt32 >>> ((4 : Int32) &&& 31).toUInt32).toInt32) &&& (3 : Int32))), .val (.ref b2), .val (.ref b12), .val (.ref b19), .val (.ref b35), .val (.ref b55), .val (.ref b77), .val (.ref b264), .val (.ref r311), .val (.int (1 : Int32))] [(.long q1), (.long q0), (.int (p4 &&& (3 : Int32))), (.long (own_at (p4 &&& (3 : Int32)) q0 q1 q2 q3))])) _
        refine XS.lload X311.here hx rfl (hb hby at_267) rfl ?_
        refine XS.lload X311.here hx rfl (hb hby at_269) rfl ?_
        exact kt)
    obtain ⟨_, _, ⟨T342, L342, k342, n342⟩, -, X342, ⟨Lc342, hQ342, l342, y342, z342⟩, st342⟩ := Jvm.LawKit.callS X311 hx (y := own_m26) hown66 (mvT hZ66 (own_h hw 180 rfl)) (mvT hZ66 (own_h hw 181 rfl)) (mvT hZ66 (own_h hw 182 rfl)) (mvT hZ66 (own_h hw 183 rfl)) (by decide) (backOf (W := 2) (rm24 l Z a0 hw [] (p4 &&& (3 : Int32)) q0 q1 q2 q3 T311.heap n0) hZ66 (own_h hw 183 rfl) (own_h hw 182 rfl) (by decide) (by decide)) (g := (mkF m 271 #[.val (.long q0), .second, .val (.long q1), .second, .val (.long q2), .second, .val (.long q3), .second, .val (.int p4), .val (.int p5), .val (.int (2 : Int32)), .val (.int (p4 &&& (3 : Int32))), .val (.int (((p4.toUInt32 >>> ((2 : Int32) &&& 31).toUInt32).toInt32) &&& (3 : Int32))), .val (.int (((p4.toUInt32 >>> ((4 : Int32) &&& 31).toUInt32).toInt32) &&& (3 : Int32))), .val (.ref b2), .val (.ref b12), .val (.ref b19), .val (.ref b35), .val (.ref b55), .val (.ref b77), .val (.ref b264), .val (.ref r311), .val (.int (1 : Int32))] [(.long q3), (.long q2), (.long q1), (.long q0), (.int (p4 &&& (3 : Int32))), (.long (own_at (p4 &&& (3 : Int32)) q0 q1 q2 q3))])) rfl (by rw [hml]; rfl) (argsL := [(.int (p4 &&& (3 : Int32))), (.long q0), (.long q1), (.long q2), (.long q3)]) (rest := [(.long (own_at (p4 &&& (3 : Int32)) q0 q1 q2 q3))]) (lenOf pd_16 rfl) rfl (by show 2 * 0 + _ ≤ _; exact Nat.le_of_eq rfl) (hb hby at_271) (fun _ _ => ⟨rfl, rfl, (by decide : 18 + 0 ≤ _), (by decide : 69 + 0 ≤ _)⟩)
    dsimp only [Pt.U, Pt.locs, Pt.cells, Pt.slots] at X342 l342 y342 z342 st342 hQ342
    subst y342 z342
    obtain ⟨rfl, N342q, e342⟩ := hQ342
    have N342 := Fr.app N311 N342q
    rw [← l342] at N342
    have hc275_343 : (lcmpW (own_at (p4 &&& (3 : Int32)) q0 q1 q2 q3) (own_at (p4 &&& (3 : Int32)) q0 q1 q2 q3)) = (0 : Int32) := (lw_eq _ _).mpr rfl
    have hc288_344 : ¬ ((2 : Int32) < (2 : Int32)) := (by decide)
    have hc293_345 : ¬ ((1 : Int32) = (0 : Int32)) := (by decide)
    have go346 : ∀ t, Steps p.tables e below (T342.setTop (mkF m 299 #[.val (.long q0), .second, .val (.long q1), .second, .val (.long q2), .second, .val (.long q3), .second, .val (.int p4), .val (.int p5), .val (.int (2 : Int32)), .val (.int (p4 &&& (3 : Int32))), .val (.int (((p4.toUInt32 >>> ((2 : Int32) &&& 31).toUInt32).toInt32) &&& (3 : Int32))), .val (.int (((p4.toUInt32 >>> ((4 : Int32) &&& 31).toUInt32).toInt32) &&& (3 : Int32))), .val (.ref b2), .val (.ref b12), .val (.ref b19), .val (.ref b35), .val (.ref b55), .val (.ref b77), .val (.ref b264), .val (.ref r311), .val (.int (1 : Int32))] [(.int (1 : Int32)), (.ref r311)])) t → Steps p.tables e below (s₁.setTop (entryFrame m #[(.long q0), (.long q1), (.long q2), (.long q3), (.int p4), (.int p5)] maxLocals)) t := fun t kt => go341 t (by
        refine st342 _ ?_
        refine XS.lcmp X342.here hx rfl (hb hby at_274) rfl ?_
        refine XS.ifNo X342.here hx rfl (hb hby at_275) rfl ((if0 _ _).trans (teq hc275_343).2) ?_
        refine XS.iconst X342.here hx rfl (hb hby at_278) ?_
        refine XS.goto X342.here hx rfl (pc0 := 279) (pc' := 283) rfl (hb hby at_279) (by decide) (by decide) ?_
        refine XS.istore X342.here hx rfl (hb hby at_283) rfl (l' := #[.val (.long q0), .second, .val (.long q1), .second, .val (.long q2), .second, .val (.long q3), .second, .val (.int p4), .val (.int p5), .val (.int (2 : Int32)), .val (.int (p4 &&& (3 : Int32))), .val (.int (((p4.toUInt32 >>> ((2 : Int32) &&& 31).toUInt32).toInt32) &&& (3 : Int32))), .val (.int (((p4.toUInt32 >>> ((4 : Int32) &&& 31).toUInt32).toInt32) &&& (3 : Int32))), .val (.ref b2), .val (.ref b12), .val (.ref b19), .val (.ref b35), .val (.ref b55), .val (.ref b77), .val (.ref b264), .val (.ref r311), .val (.int (1 : Int32))]) rfl ?_
        show Steps p.tables e below (T342.setTop (mkF m 285 #[.val (.long q0), .second, .val (.long q1), .second, .val (.long q2), .second, .val (.long q3), .second, .val (.int p4), .val (.int p5), .val (.int (2 : Int32)), .val (.int (p4 &&& (3 : Int32))), .val (.int (((p4.toUInt32 >>> ((2 : Int32) &&& 31).toUInt32).toInt32) &&& (3 : Int32))), .val (.int (((p4.toUInt32 >>> ((4 : Int32) &&& 31).toUInt32).toInt32) &&& (3 : Int32))), .val (.ref b2), .val (.ref b12), .val (.ref b19), .val (.ref b35), .val (.ref b55), .val (.ref b77), .val (.ref b264), .val (.ref r311), .val (.int (1 : Int32))] [])) _
        refine XS.iload X342.here hx rfl (hb hby at_285) rfl ?_
        refine XS.iconst X342.here hx rfl (hb hby at_287) ?_
        refine XS.icmpNo X342.here hx rfl (hb hby at_288) rfl (flt hc288_344).1 ?_
        refine XS.iload X342.here hx rfl (hb hby at_291) rfl ?_
        refine XS.ifNo X342.here hx rfl (hb hby at_293) rfl ((if0 _ _).trans (feq hc293_345).1) ?_
        refine XS.aload X342.here hx rfl (hb hby at_296) rfl rfl ?_
        refine XS.iconst X342.here hx rfl (hb hby at_298) ?_
        exact kt)
    obtain ⟨c347, Ar347, q347⟩ := id V311
    have go348 : ∀ t, Steps p.tables e below (T342.setTop (mkF m 308 #[.val (.long q0), .second, .val (.long q1), .second, .val (.long q2), .second, .val (.long q3), .second, .val (.int p4), .val (.int p5), .val (.int (2 : Int32)), .val (.int (p4 &&& (3 : Int32))), .val (.int (((p4.toUInt32 >>> ((2 : Int32) &&& 31).toUInt32).toInt32) &&& (3 : Int32))), .val (.int (((p4.toUInt32 >>> ((4 : Int32) &&& 31).toUInt32).toInt32) &&& (3 : Int32))), .val (.ref b2), .val (.ref b12), .val (.ref b19), .val (.ref b35), .val (.ref b55), .val (.ref b77), .val (.ref b264), .val (.ref r311), .val (.int (1 : Int32))] [(.long q3), (.long q2), (.long q1), (.long q0), (.int (((p4.toUInt32 >>> ((2 : Int32) &&& 31).toUInt32).toInt32) &&& (3 : Int32))), (.long (own_at (((p4.toUInt32 >>> ((2 : Int32) &&& 31).toUInt32).toInt32) &&& (3 : Int32)) q0 q1 q2 q3))])) t → Steps p.tables e below (s₁.setTop (entryFrame m #[(.long q0), (.long q1), (.long q2), (.long q3), (.int p4), (.int p5)] maxLocals)) t := fun t kt => go346 t (by
        refine X342.laload hx (j := (1 : Int32)) (v := (.long (own_at (((p4.toUInt32 >>> ((2 : Int32) &&& 31).toUInt32).toInt32) &&& (3 : Int32)) q0 q1 q2 q3))) (by rw [e342]; exact Ar347.1) (State.isArrayOf_alike hZ66.alike Ar347.2.1) Ar347.2.2 (own_inb q347 (n := 2) rfl (by decide) (by decide)) (own_get q347 (i := 1) (by decide) rfl) (g := (mkF m 299 #[.val (.long q0), .second, .val (.long q1), .second, .val (.long q2), .second, .val (.long q3), .second, .val (.int p4), .val (.int p5), .val (.int (2 : Int32)), .val (.int (p4 &&& (3 : Int32))), .val (.int (((p4.toUInt32 >>> ((2 : Int32) &&& 31).toUInt32).toInt32) &&& (3 : Int32))), .val (.int (((p4.toUInt32 >>> ((4 : Int32) &&& 31).toUInt32).toInt32) &&& (3 : Int32))), .val (.ref b2), .val (.ref b12), .val (.ref b19), .val (.ref b35), .val (.ref b55), .val (.ref b77), .val (.ref b264), .val (.ref r311), .val (.int (1 : Int32))] [(.int (1 : Int32)), (.ref r311)])) rfl rfl (hb hby at_299) _ ?_
        show Steps p.tables e below (T342.setTop (mkF m 300 #[.val (.long q0), .second, .val (.long q1), .second, .val (.long q2), .second, .val (.long q3), .second, .val (.int p4), .val (.int p5), .val (.int (2 : Int32)), .val (.int (p4 &&& (3 : Int32))), .val (.int (((p4.toUInt32 >>> ((2 : Int32) &&& 31).toUInt32).toInt32) &&& (3 : Int32))), .val (.int (((p4.toUInt32 >>> ((4 : Int32) &&& 31).toUInt32).toInt32) &&& (3 : Int32))), .val (.ref b2), .val (.ref b12), .val (.ref b19), .val (.ref b35), .val (.ref b55), .val (.ref b77), .val (.ref b264), .val (.ref r311), .val (.int (1 : Int32))] [(.long (own_at (((p4.toUInt32 >>> ((2 : Int32) &&& 31).toUInt32).toInt32) &&& (3 : Int32)) q0 q1 q2 q3))])) _
        refine XS.iload X342.here hx rfl (hb hby at_300) rfl ?_
        refine XS.lloadN X342.here hx rfl (hb hby at_302) rfl ?_
        refine XS.lloadN X342.here hx rfl (hb hby at_303) rfl ?_
        refine XS.lload X342.here hx rfl (hb hby at_304) rfl ?_
        refine XS.lload X342.here hx rfl (hb hby at_306) rfl ?_
        exact kt)
    obtain ⟨_, _, ⟨T349, L349, k349, n349⟩, -, X349, ⟨Lc349, hQ349, l349, y349, z349⟩, st349⟩ := Jvm.LawKit.callS X342 hx (y := own_m26) hown66 (mvT hZ66 (own_h hw 180 rfl)) (mvT hZ66 (own_h hw 181 rfl)) (mvT hZ66 (own_h hw 182 rfl)) (mvT hZ66 (own_h hw 183 rfl)) (by decide) (backOf (W := 2) (rm24 l Z a0 hw [] (((p4.toUInt32 >>> ((2 : Int32) &&& 31).toUInt32).toInt32) &&& (3 : Int32)) q0 q1 q2 q3 T311.heap n0) hZ66 (own_h hw 183 rfl) (own_h hw 182 rfl) (by decide) (by decide)) (g := (mkF m 308 #[.val (.long q0), .second, .val (.long q1), .second, .val (.long q2), .second, .val (.long q3), .second, .val (.int p4), .val (.int p5), .val (.int (2 : Int32)), .val (.int (p4 &&& (3 : Int32))), .val (.int (((p4.toUInt32 >>> ((2 : Int32) &&& 31).toUInt32).toInt32) &&& (3 : Int32))), .val (.int (((p4.toUInt32 >>> ((4 : Int32) &&& 31).toUInt32).toInt32) &&& (3 : Int32))), .val (.ref b2), .val (.ref b12), .val (.ref b19), .val (.ref b35), .val (.ref b55), .val (.ref b77), .val (.ref b264), .val (.ref r311), .val (.int (1 : Int32))] [(.long q3), (.long q2), (.long q1), (.long q0), (.int (((p4.toUInt32 >>> ((2 : Int32) &&& 31).toUInt32).toInt32) &&& (3 : Int32))), (.long (own_at (((p4.toUInt32 >>> ((2 : Int32) &&& 31).toUInt32).toInt32) &&& (3 : Int32)) q0 q1 q2 q3))])) rfl (by rw [hml]; rfl) (argsL := [(.int (((p4.toUInt32 >>> ((2 : Int32) &&& 31).toUInt32).toInt32) &&& (3 : Int32))), (.long q0), (.long q1), (.long q2), (.long q3)]) (rest := [(.long (own_at (((p4.toUInt32 >>> ((2 : Int32) &&& 31).toUInt32).toInt32) &&& (3 : Int32)) q0 q1 q2 q3))]) (lenOf pd_16 rfl) rfl (by show 2 * 0 + _ ≤ _; exact Nat.le_of_eq rfl) (hb hby at_308) (fun _ _ => ⟨rfl, e342, (by decide : 18 + 0 ≤ _), (by decide : 69 + 0 ≤ _)⟩)
    dsimp only [Pt.U, Pt.locs, Pt.cells, Pt.slots] at X349 l349 y349 z349 st349 hQ349
    subst y349 z349
    obtain ⟨rfl, N349q, e349⟩ := hQ349
    have N349 := Fr.app N342 N349q
    rw [← l349] at N349
    have hc312_350 : (lcmpW (own_at (((p4.toUInt32 >>> ((2 : Int32) &&& 31).toUInt32).toInt32) &&& (3 : Int32)) q0 q1 q2 q3) (own_at (((p4.toUInt32 >>> ((2 : Int32) &&& 31).toUInt32).toInt32) &&& (3 : Int32)) q0 q1 q2 q3)) = (0 : Int32) := (lw_eq _ _).mpr rfl
    have hc325_351 : (2 : Int32) < (3 : Int32) := (by decide)
    have go352 : ∀ t, Steps p.tables e below (T349.setTop (mkF m 361 #[.val (.long q0), .second, .val (.long q1), .second, .val (.long q2), .second, .val (.long q3), .second, .val (.int p4), .val (.int p5), .val (.int (2 : Int32)), .val (.int (p4 &&& (3 : Int32))), .val (.int (((p4.toUInt32 >>> ((2 : Int32) &&& 31).toUInt32).toInt32) &&& (3 : Int32))), .val (.int (((p4.toUInt32 >>> ((4 : Int32) &&& 31).toUInt32).toInt32) &&& (3 : Int32))), .val (.ref b2), .val (.ref b12), .val (.ref b19), .val (.ref b35), .val (.ref b55), .val (.ref b77), .val (.ref b264), .val (.ref r311), .val (.int (1 : Int32))] [(.int (1 : Int32))])) t → Steps p.tables e below (s₁.setTop (entryFrame m #[(.long q0), (.long q1), (.long q2), (.long q3), (.int p4), (.int p5)] maxLocals)) t := fun t kt => go348 t (by
        refine st349 _ ?_
        refine XS.lcmp X349.here hx rfl (hb hby at_311) rfl ?_
        refine XS.ifNo X349.here hx rfl (hb hby at_312) rfl ((if0 _ _).trans (teq hc312_350).2) ?_
        show Steps p.tables e below (T349.setTop (mkF m 315 #[.val (.long q0), .second, .val (.long q1), .second, .val (.long q2), .second, .val (.long q3), .second, .val (.int p4), .val (.int p5), .val (.int (2 : Int32)), .val (.int (p4 &&& (3 : Int32))), .val (.int (((p4.toUInt32 >>> ((2 : Int32) &&& 31).toUInt32).toInt32) &&& (3 : Int32))), .val (.int (((p4.toUInt32 >>> ((4 : Int32) &&& 31).toUInt32).toInt32) &&& (3 : Int32))), .val (.ref b2), .val (.ref b12), .val (.ref b19), .val (.ref b35), .val (.ref b55), .val (.ref b77), .val (.ref b264), .val (.ref r311), .val (.int (1 : Int32))] [])) _
        refine XS.iconst X349.here hx rfl (hb hby at_315) ?_
        refine XS.goto X349.here hx rfl (pc0 := 316) (pc' := 320) rfl (hb hby at_316) (by decide) (by decide) ?_
        refine XS.istore X349.here hx rfl (hb hby at_320) rfl (l' := #[.val (.long q0), .second, .val (.long q1), .second, .val (.long q2), .second, .val (.long q3), .second, .val (.int p4), .val (.int p5), .val (.int (2 : Int32)), .val (.int (p4 &&& (3 : Int32))), .val (.int (((p4.toUInt32 >>> ((2 : Int32) &&& 31).toUInt32).toInt32) &&& (3 : Int32))), .val (.int (((p4.toUInt32 >>> ((4 : Int32) &&& 31).toUInt32).toInt32) &&& (3 : Int32))), .val (.ref b2), .val (.ref b12), .val (.ref b19), .val (.ref b35), .val (.ref b55), .val (.ref b77), .val (.ref b264), .val (.ref r311), .val (.int (1 : Int32))]) rfl ?_
        refine XS.iload X349.here hx rfl (hb hby at_322) rfl ?_
        refine XS.iconst X349.here hx rfl (hb hby at_324) ?_
        refine XS.icmpYes X349.here hx rfl (pc0 := 325) (pc' := 359) rfl (hb hby at_325) rfl (tlt hc325_351).1 (by decide) (by decide) ?_
        refine XS.iload X349.here hx rfl (hb hby at_359) rfl ?_
        exact kt)
    have hk353 := (Nat.le_trans (Nat.le_trans (Nat.le_trans (Nat.le_trans (Nat.le_trans (Nat.le_trans (Nat.le_trans (Nat.le_trans HK66 K69.1) E77.1) K90.1) K248.1) K259.1) E264.1) K273.1) K311.1)
    obtain ⟨fs, hr, hrun, hended, hEW⟩ := X349.leaveW HS66 (by rw [e349]; exact hk353) (v := some (.int (1 : Int32))) (fun h => by rw [Bd.returns] at h; cases h)
    refine ⟨_, _, go352 _ (retN X349 hx (t := .boolean) Bd.returns (by simp) (hb hby at_361) hr), hrun, hended, _, _, rfl, ?_, hEW.1, hEW.2.1, hEW.2.2.1, hEW.2.2.2.mono (by decide) (by decide)⟩
    exact ⟨rfl, N349⟩
  · rw [h4] at go97
    have hc129_354 : ¬ ((3 : Int32) < (1 : Int32)) := (by decide)
    have go355 : ∀ t, Steps p.tables e below (T90.setTop (mkF m 136 #[.val (.long q0), .second, .val (.long q1), .second, .val (.long q2), .second, .val (.long q3), .second, .val (.int p4), .val (.int p5), .val (.int (3 : Int32)), .val (.int (p4 &&& (3 : Int32))), .val (.int (((p4.toUInt32 >>> ((2 : Int32) &&& 31).toUInt32).toInt32) &&& (3 : Int32))), .val (.int (((p4.toUInt32 >>> ((4 : Int32) &&& 31).toUInt32).toInt32) &&& (3 : Int32))), .val (.ref b2), .val (.ref b12), .val (.ref b19), .val (.ref b35), .val (.ref b55), .val (.ref b77), .unset, .unset, .unset] [(.ref b19), (.ref b77)])) t → Steps p.tables e below (s₁.setTop (entryFrame m #[(.long q0), (.long q1), (.long q2), (.long q3), (.int p4), (.int p5)] maxLocals)) t := fun t kt => go97 t (by
        refine XS.iload X90.here hx rfl (hb hby at_126) rfl ?_
        show Steps p.tables e below (T90.setTop (mkF m 128 #[.val (.long q0), .second, .val (.long q1), .second, .val (.long q2), .second, .val (.long q3), .second, .val (.int p4), .val (.int p5), .val (.int (3 : Int32)), .val (.int (p4 &&& (3 : Int32))), .val (.int (((p4.toUInt32 >>> ((2 : Int32) &&& 31).toUInt32).toInt32) &&& (3 : Int32))), .val (.int (((p4.toUInt32 >>> ((4 : Int32) &&& 31).toUInt32).toInt32) &&& (3 : Int32))), .val (.ref b2), .val (.ref b12), .val (.ref b19), .val (.ref b35), .val (.ref b55), .val (.ref b77), .unset, .unset, .unset] [(.int (3 : Int32))])) _
        refine XS.iconst X90.here hx rfl (hb hby at_128) ?_
        refine XS.icmpNo X90.here hx rfl (hb hby at_129) rfl (flt hc129_354).1 ?_
        refine XS.aload X90.here hx rfl (hb hby at_132) rfl rfl ?_
        refine XS.aload X90.here hx rfl (hb hby at_134) rfl rfl ?_
        exact kt)
    have fq357 := (fq96.keep K90 (allS gb77 all0))
    have STa := SS.ext fq357.2
    have fq358 := ((fq88.ext E77).keep K90 (ninS ne_dd_b77 nin0))
    have zs359 := (Nat.le_trans (Nat.le_trans zs78 E77.1) K90.1)
    have fq360 := ((fq82.ext E77).keep K90)
    obtain ⟨cq356, kq356, q356a, q356b, q356c⟩ := isOf hZ66 rfl iE
    obtain ⟨_, _, ⟨T356, L356, k356, n356⟩, -, X356, ⟨Lc356, hQ356, l356, y356, z356⟩, st356⟩ := X90.virtualBack hx (y := own_m25) (z := own_m25) hown66 (mvT hZ66 (own_h hw 98 rfl)) (mvT hZ66 (own_h hw 99 rfl)) (notFace_of_selects (args := #[]) (mvT hZ66 (own_h hw 101 rfl))) (mvT hZ66 (own_h hw 101 rfl)) (mvT hZ66 (own_h hw 100 rfl)) (by decide) (backOf (W := 0) (rmA0 l Z a0 hw [] b77 b19 dd (0 : Int32) T90.heap n0 STa fq358 ne_dd_b77 zs359 ⟨iE, iF1, iF2, iF3⟩ gb77 fq360) hZ66 (own_h hw 102 rfl) (own_h hw 43 rfl) (by decide) (by decide)) q356a q356c (g := (mkF m 136 #[.val (.long q0), .second, .val (.long q1), .second, .val (.long q2), .second, .val (.long q3), .second, .val (.int p4), .val (.int p5), .val (.int (3 : Int32)), .val (.int (p4 &&& (3 : Int32))), .val (.int (((p4.toUInt32 >>> ((2 : Int32) &&& 31).toUInt32).toInt32) &&& (3 : Int32))), .val (.int (((p4.toUInt32 >>> ((4 : Int32) &&& 31).toUInt32).toInt32) &&& (3 : Int32))), .val (.ref b2), .val (.ref b12), .val (.ref b19), .val (.ref b35), .val (.ref b55), .val (.ref b77), .unset, .unset, .unset] [(.ref b19), (.ref b77)])) rfl (by rw [hml]; rfl) (Steps.refl _) (argsL := [(.ref b19)]) (rest := []) (lenOf pd_7 rfl) rfl (by show 2 * 0 + _ ≤ _; exact Nat.le_of_eq rfl) (hb hby at_136) (fun _ _ => ⟨rfl, rfl, (by decide : 12 + 1 ≤ _), (by decide : 48 + 10 ≤ _)⟩)
    dsimp only [Pt.U, Pt.locs, Pt.cells, Pt.slots] at X356 l356 y356 z356 st356 hQ356
    subst y356 z356
    obtain ⟨b356, rfl, N356q, K356, LO356, sz356, V356⟩ := hQ356
    have fq361 := ((fq80.ext E77).keep K90)
    have ne_b12_b356 : b12 ≠ b356 := Nat.ne_of_lt (Nat.lt_of_lt_of_le fq361.lt sz356)
    have ne_b19_b356 : b19 ≠ b356 := Nat.ne_of_lt (Nat.lt_of_lt_of_le fq360.lt sz356)
    have fq362 := ((fq84.ext E77).keep K90 (ninS ne_b2_b77 nin0))
    have ne_b2_b356 : b2 ≠ b356 := Nat.ne_of_lt (Nat.lt_of_lt_of_le fq362.lt sz356)
    have fq363 := ((fq86.ext E77).keep K90)
    have ne_b35_b356 : b35 ≠ b356 := Nat.ne_of_lt (Nat.lt_of_lt_of_le fq363.lt sz356)
    have fq364 := ((E69x.ext E77).keep K90)
    have ne_b55_b356 : b55 ≠ b356 := Nat.ne_of_lt (Nat.lt_of_lt_of_le fq364.lt sz356)
    have ne_b77_b356 : b77 ≠ b356 := Nat.ne_of_lt (Nat.lt_of_lt_of_le iE.lt sz356)
    have ne_dd_b356 : dd ≠ b356 := Nat.ne_of_lt (Nat.lt_of_lt_of_le fq358.lt sz356)
    have gb356 : n0 ≤ b356 := Nat.le_trans zs359 sz356
    obtain ⟨jE, jF1, jF2, jF3⟩ := id LO356
    have N356 := Fr.app N90 N356q
    rw [← l356] at N356
    have hc143_365 : ¬ ((3 : Int32) < (2 : Int32)) := (by decide)
    have go366 : ∀ t, Steps p.tables e below (T356.setTop (mkF m 150 #[.val (.long q0), .second, .val (.long q1), .second, .val (.long q2), .second, .val (.long q3), .second, .val (.int p4), .val (.int p5), .val (.int (3 : Int32)), .val (.int (p4 &&& (3 : Int32))), .val (.int (((p4.toUInt32 >>> ((2 : Int32) &&& 31).toUInt32).toInt32) &&& (3 : Int32))), .val (.int (((p4.toUInt32 >>> ((4 : Int32) &&& 31).toUInt32).toInt32) &&& (3 : Int32))), .val (.ref b2), .val (.ref b12), .val (.ref b19), .val (.ref b35), .val (.ref b55), .val (.ref b77), .unset, .unset, .unset] [(.ref b35), (.ref b77)])) t → Steps p.tables e below (s₁.setTop (entryFrame m #[(.long q0), (.long q1), (.long q2), (.long q3), (.int p4), (.int p5)] maxLocals)) t := fun t kt => go355 t (by
        refine st356.trans ?_
        refine XS.pop X356.here hx rfl (hb hby at_139) rfl rfl ?_
        refine XS.iload X356.here hx rfl (hb hby at_140) rfl ?_
        refine XS.iconst X356.here hx rfl (hb hby at_142) ?_
        show Steps p.tables e below (T356.setTop (mkF m 143 #[.val (.long q0), .second, .val (.long q1), .second, .val (.long q2), .second, .val (.long q3), .second, .val (.int p4), .val (.int p5), .val (.int (3 : Int32)), .val (.int (p4 &&& (3 : Int32))), .val (.int (((p4.toUInt32 >>> ((2 : Int32) &&& 31).toUInt32).toInt32) &&& (3 : Int32))), .val (.int (((p4.toUInt32 >>> ((4 : Int32) &&& 31).toUInt32).toInt32) &&& (3 : Int32))), .val (.ref b2), .val (.ref b12), .val (.ref b19), .val (.ref b35), .val (.ref b55), .val (.ref b77), .unset, .unset, .unset] [(.int (2 : Int32)), (.int (3 : Int32))])) _
        refine XS.icmpNo X356.here hx rfl (hb hby at_143) rfl (flt hc143_365).1 ?_
        refine XS.aload X356.here hx rfl (hb hby at_146) rfl rfl ?_
        refine XS.aload X356.here hx rfl (hb hby at_148) rfl rfl ?_
        exact kt)
    have zs368 := (Nat.le_trans zs359 K356.1)
    have fq369 := (fq363.keep K356)
    obtain ⟨cq367, kq367, q367a, q367b, q367c⟩ := isOf hZ66 rfl jE
    obtain ⟨_, _, ⟨T367, L367, k367, n367⟩, -, X367, ⟨Lc367, hQ367, l367, y367, z367⟩, st367⟩ := X356.virtualBack hx (y := own_m25) (z := own_m25) hown66 (mvT hZ66 (own_h hw 98 rfl)) (mvT hZ66 (own_h hw 99 rfl)) (notFace_of_selects (args := #[]) (mvT hZ66 (own_h hw 101 rfl))) (mvT hZ66 (own_h hw 101 rfl)) (mvT hZ66 (own_h hw 100 rfl)) (by decide) (backOf (W := 0) (rmA1 l Z a0 hw [] b77 b35 b356 ((0 : Int32) + 1) b19 T356.heap n0 zs368 ⟨jE, jF1, jF2, jF3⟩ V356 gb77 gb356 fq369) hZ66 (own_h hw 102 rfl) (own_h hw 43 rfl) (by decide) (by decide)) q367a q367c (g := (mkF m 150 #[.val (.long q0), .second, .val (.long q1), .second, .val (.long q2), .second, .val (.long q3), .second, .val (.int p4), .val (.int p5), .val (.int (3 : Int32)), .val (.int (p4 &&& (3 : Int32))), .val (.int (((p4.toUInt32 >>> ((2 : Int32) &&& 31).toUInt32).toInt32) &&& (3 : Int32))), .val (.int (((p4.toUInt32 >>> ((4 : Int32) &&& 31).toUInt32).toInt32) &&& (3 : Int32))), .val (.ref b2), .val (.ref b12), .val (.ref b19), .val (.ref b35), .val (.ref b55), .val (.ref b77), .unset, .unset, .unset] [(.ref b35), (.ref b77)])) rfl (by rw [hml]; rfl) (Steps.refl _) (argsL := [(.ref b35)]) (rest := []) (lenOf pd_7 rfl) rfl (by show 2 * 0 + _ ≤ _; exact Nat.le_of_eq rfl) (hb hby at_150) (fun _ _ => ⟨rfl, rfl, (by decide : 13 + 0 ≤ _), (by decide : 58 + 0 ≤ _)⟩)
    dsimp only [Pt.U, Pt.locs, Pt.cells, Pt.slots] at X367 l367 y367 z367 st367 hQ367
    subst y367 z367
    obtain ⟨rfl, N367q, K367, LO367, V367⟩ := hQ367
    obtain ⟨jjE, jjF1, jjF2, jjF3⟩ := id LO367
    have N367 := Fr.app N356 N367q
    rw [← l367] at N367
    have hc157_370 : ¬ ((3 : Int32) < (3 : Int32)) := (by decide)
    have go371 : ∀ t, Steps p.tables e below (T367.setTop (mkF m 164 #[.val (.long q0), .second, .val (.long q1), .second, .val (.long q2), .second, .val (.long q3), .second, .val (.int p4), .val (.int p5), .val (.int (3 : Int32)), .val (.int (p4 &&& (3 : Int32))), .val (.int (((p4.toUInt32 >>> ((2 : Int32) &&& 31).toUInt32).toInt32) &&& (3 : Int32))), .val (.int (((p4.toUInt32 >>> ((4 : Int32) &&& 31).toUInt32).toInt32) &&& (3 : Int32))), .val (.ref b2), .val (.ref b12), .val (.ref b19), .val (.ref b35), .val (.ref b55), .val (.ref b77), .unset, .unset, .unset] [(.ref b55), (.ref b77)])) t → Steps p.tables e below (s₁.setTop (entryFrame m #[(.long q0), (.long q1), (.long q2), (.long q3), (.int p4), (.int p5)] maxLocals)) t := fun t kt => go366 t (by
        refine st367.trans ?_
        refine XS.pop X367.here hx rfl (hb hby at_153) rfl rfl ?_
        refine XS.iload X367.here hx rfl (hb hby at_154) rfl ?_
        refine XS.iconst X367.here hx rfl (hb hby at_156) ?_
        refine XS.icmpNo X367.here hx rfl (hb hby at_157) rfl (flt hc157_370).1 ?_
        show Steps p.tables e below (T367.setTop (mkF m 160 #[.val (.long q0), .second, .val (.long q1), .second, .val (.long q2), .second, .val (.long q3), .second, .val (.int p4), .val (.int p5), .val (.int (3 : Int32)), .val (.int (p4 &&& (3 : Int32))), .val (.int (((p4.toUInt32 >>> ((2 : Int32) &&& 31).toUInt32).toInt32) &&& (3 : Int32))), .val (.int (((p4.toUInt32 >>> ((4 : Int32) &&& 31).toUInt32).toInt32) &&& (3 : Int32))), .val (.ref b2), .val (.ref b12), .val (.ref b19), .val (.ref b35), .val (.ref b55), .val (.ref b77), .unset, .unset, .unset] [])) _
        refine XS.aload X367.here hx rfl (hb hby at_160) rfl rfl ?_
        refine XS.aload X367.here hx rfl (hb hby at_162) rfl rfl ?_
        exact kt)
    have zs373 := (Nat.le_trans zs368 K367.1)
    have fq374 := ((fq364.keep K356).keep K367)
    obtain ⟨cq372, kq372, q372a, q372b, q372c⟩ := isOf hZ66 rfl jjE
    obtain ⟨_, _, ⟨T372, L372, k372, n372⟩, -, X372, ⟨Lc372, hQ372, l372, y372, z372⟩, st372⟩ := X367.virtualBack hx (y := own_m25) (z := own_m25) hown66 (mvT hZ66 (own_h hw 98 rfl)) (mvT hZ66 (own_h hw 99 rfl)) (notFace_of_selects (args := #[]) (mvT hZ66 (own_h hw 101 rfl))) (mvT hZ66 (own_h hw 101 rfl)) (mvT hZ66 (own_h hw 100 rfl)) (by decide) (backOf (W := 0) (rmA2 l Z a0 hw [] b77 b55 b356 (((0 : Int32) + 1) + 1) b19 b35 T367.heap n0 zs373 ⟨jjE, jjF1, jjF2, jjF3⟩ V367 gb77 gb356 fq374) hZ66 (own_h hw 102 rfl) (own_h hw 43 rfl) (by decide) (by decide)) q372a q372c (g := (mkF m 164 #[.val (.long q0), .second, .val (.long q1), .second, .val (.long q2), .second, .val (.long q3), .second, .val (.int p4), .val (.int p5), .val (.int (3 : Int32)), .val (.int (p4 &&& (3 : Int32))), .val (.int (((p4.toUInt32 >>> ((2 : Int32) &&& 31).toUInt32).toInt32) &&& (3 : Int32))), .val (.int (((p4.toUInt32 >>> ((4 : Int32) &&& 31).toUInt32).toInt32) &&& (3 : Int32))), .val (.ref b2), .val (.ref b12), .val (.ref b19), .val (.ref b35), .val (.ref b55), .val (.ref b77), .unset, .unset, .unset] [(.ref b55), (.ref b77)])) rfl (by rw [hml]; rfl) (Steps.refl _) (argsL := [(.ref b55)]) (rest := []) (lenOf pd_7 rfl) rfl (by show 2 * 0 + _ ≤ _; exact Nat.le_of_eq rfl) (hb hby at_164) (fun _ _ => ⟨rfl, rfl, (by decide : 13 + 0 ≤ _), (by decide : 58 + 0 ≤ _)⟩)
    dsimp only [Pt.U, Pt.locs, Pt.cells, Pt.slots] at X372 l372 y372 z372 st372 hQ372
    subst y372 z372
    obtain ⟨rfl, N372q, K372, LO372, V372⟩ := hQ372
    obtain ⟨kjE, kjF1, kjF2, kjF3⟩ := id LO372
    have N372 := Fr.app N367 N372q
    rw [← l372] at N372
    have go375 : ∀ t, Steps p.tables e below (T372.setTop (mkF m 168 #[.val (.long q0), .second, .val (.long q1), .second, .val (.long q2), .second, .val (.long q3), .second, .val (.int p4), .val (.int p5), .val (.int (3 : Int32)), .val (.int (p4 &&& (3 : Int32))), .val (.int (((p4.toUInt32 >>> ((2 : Int32) &&& 31).toUInt32).toInt32) &&& (3 : Int32))), .val (.int (((p4.toUInt32 >>> ((4 : Int32) &&& 31).toUInt32).toInt32) &&& (3 : Int32))), .val (.ref b2), .val (.ref b12), .val (.ref b19), .val (.ref b35), .val (.ref b55), .val (.ref b77), .unset, .unset, .unset] [])) t → Steps p.tables e below (s₁.setTop (entryFrame m #[(.long q0), (.long q1), (.long q2), (.long q3), (.int p4), (.int p5)] maxLocals)) t := fun t kt => go371 t (by
        refine st372.trans ?_
        refine XS.pop X372.here hx rfl (hb hby at_167) rfl rfl ?_
        exact kt)
    have zs377 := (Nat.le_trans zs373 K372.1)
    obtain ⟨T376, h376, X376, e376, E376, A376, D376, -, st376⟩ := newO X372 hx hZ66 hown66 (own_h hw 65 rfl) (own_h hw 66 rfl) (own_h hw 67 rfl) rfl (g := (mkF m 168 #[.val (.long q0), .second, .val (.long q1), .second, .val (.long q2), .second, .val (.long q3), .second, .val (.int p4), .val (.int p5), .val (.int (3 : Int32)), .val (.int (p4 &&& (3 : Int32))), .val (.int (((p4.toUInt32 >>> ((2 : Int32) &&& 31).toUInt32).toInt32) &&& (3 : Int32))), .val (.int (((p4.toUInt32 >>> ((4 : Int32) &&& 31).toUInt32).toInt32) &&& (3 : Int32))), .val (.ref b2), .val (.ref b12), .val (.ref b19), .val (.ref b35), .val (.ref b55), .val (.ref b77), .unset, .unset, .unset] [])) rfl (hb hby at_168) (by decide) (by decide)
    obtain ⟨b376, g376⟩ : ∃ z, z = T372.heap.size := ⟨_, rfl⟩
    rw [← g376] at A376 D376 st376
    have ks376 : h0.size ≤ T372.heap.size := Nat.le_trans (Nat.le_trans (Nat.le_trans (Nat.le_trans (Nat.le_trans (ks77) E77.1) K90.1) K356.1) K367.1) K372.1
    have sz376 : h0.size ≤ b376 := Nat.le_trans ks376 (Nat.le_of_eq g376.symm)
    have fr378 := ((fq361.keep K356).keep K367)
    have fq379 := (fr378.keep K372)
    have ne_b12_b376 : b12 ≠ b376 := Nat.ne_of_lt (Nat.lt_of_lt_of_le fq379.lt (Nat.le_of_eq g376.symm))
    have fr380 := ((fq360.keep K356).keep K367)
    have fq381 := (fr380.keep K372)
    have ne_b19_b376 : b19 ≠ b376 := Nat.ne_of_lt (Nat.lt_of_lt_of_le fq381.lt (Nat.le_of_eq g376.symm))
    have fr382 := ((fq362.keep K356 (ninS ne_b2_b77 nin0)).keep K367 (ninS ne_b2_b77 (ninS ne_b2_b356 nin0)))
    have fq383 := (fr382.keep K372 (ninS ne_b2_b77 (ninS ne_b2_b356 nin0)))
    have ne_b2_b376 : b2 ≠ b376 := Nat.ne_of_lt (Nat.lt_of_lt_of_le fq383.lt (Nat.le_of_eq g376.symm))
    have fq384 := ((fq369.keep K367).keep K372)
    have ne_b35_b376 : b35 ≠ b376 := Nat.ne_of_lt (Nat.lt_of_lt_of_le fq384.lt (Nat.le_of_eq g376.symm))
    have ne_b356_b376 : b356 ≠ b376 := Nat.ne_of_lt (Nat.lt_of_lt_of_le V372.lt (Nat.le_of_eq g376.symm))
    have fq385 := (fq374.keep K372)
    have ne_b55_b376 : b55 ≠ b376 := Nat.ne_of_lt (Nat.lt_of_lt_of_le fq385.lt (Nat.le_of_eq g376.symm))
    have ne_b77_b376 : b77 ≠ b376 := Nat.ne_of_lt (Nat.lt_of_lt_of_le kjE.lt (Nat.le_of_eq g376.symm))
    have fr386 := ((fq358.keep K356 (ninS ne_dd_b77 nin0)).keep K367 (ninS ne_dd_b77 (ninS ne_dd_b356 nin0)))
    have fq387 := (fr386.keep K372 (ninS ne_dd_b77 (ninS ne_dd_b356 nin0)))
    have ne_dd_b376 : dd ≠ b376 := Nat.ne_of_lt (Nat.lt_of_lt_of_le fq387.lt (Nat.le_of_eq g376.symm))
    have gb376 : n0 ≤ b376 := Nat.le_trans zs377 (Nat.le_of_eq g376.symm)
    have F376_slots : Fld Z h376 b376 "com/example/invariant_ink/invariantink/engine/Combinations" "slots" "[I" .null := D376 (Or.inr (own_h hw 88 rfl)) (ty := (.array .int)) (by decide)
    have F376_firsts : Fld Z h376 b376 "com/example/invariant_ink/invariantink/engine/Combinations" "firsts" "[J" .null := D376 (Or.inr (own_h hw 90 rfl)) (ty := (.array .long)) (by decide)
    have F376_lasts : Fld Z h376 b376 "com/example/invariant_ink/invariantink/engine/Combinations" "lasts" "[J" .null := D376 (Or.inr (own_h hw 92 rfl)) (ty := (.array .long)) (by decide)
    have go388 : ∀ t, Steps p.tables e below (T376.setTop (mkF m 174 #[.val (.long q0), .second, .val (.long q1), .second, .val (.long q2), .second, .val (.long q3), .second, .val (.int p4), .val (.int p5), .val (.int (3 : Int32)), .val (.int (p4 &&& (3 : Int32))), .val (.int (((p4.toUInt32 >>> ((2 : Int32) &&& 31).toUInt32).toInt32) &&& (3 : Int32))), .val (.int (((p4.toUInt32 >>> ((4 : Int32) &&& 31).toUInt32).toInt32) &&& (3 : Int32))), .val (.ref b2), .val (.ref b12), .val (.ref b19), .val (.ref b35), .val (.ref b55), .val (.ref b77), .unset, .unset, .unset] [(.ref b77), (.ref b376), (.ref b376)])) t → Steps p.tables e below (s₁.setTop (entryFrame m #[(.long q0), (.long q1), (.long q2), (.long q3), (.int p4), (.int p5)] maxLocals)) t := fun t kt => go375 t (by
        refine st376 _ ?_
        refine XS.dup X376.here hx rfl (hb hby at_171) rfl rfl ?_
        refine XS.aload X376.here hx rfl (hb hby at_172) rfl rfl ?_
        exact kt)
    have zs390 := (Nat.le_trans zs377 E376.1)
    have fq391 := (kjE.ext E376)
    have fq392 := (kjF1.ext E376)
    have fq393 := (kjF2.ext E376)
    have fq394 := (kjF3.ext E376)
    have fq395 := (V372.ext E376)
    have fq396 := (fq381.ext E376)
    have fr397 := ((F27l.ext E35).ext E44)
    have fr398 := (((fr397.keep K47 (ninS ne_b19_b35 nin0)).ext E55).ext E66)
    have fr399 := (((fr398.keep K69 (ninS ne_b19_b55 nin0)).ext E77).keep K90 (ninS ne_b19_b77 nin0))
    have fr400 := (((fr399.keep K356 (ninS ne_b19_b77 nin0)).keep K367 (ninS ne_b19_b77 (ninS ne_b19_b356 nin0))).keep K372 (ninS ne_b19_b77 (ninS ne_b19_b356 nin0)))
    have fq401 := (fr400.ext E376)
    have fr402 := ((F27h.ext E35).ext E44)
    have fr403 := (((fr402.keep K47 (ninS ne_b19_b35 nin0)).ext E55).ext E66)
    have fr404 := (((fr403.keep K69 (ninS ne_b19_b55 nin0)).ext E77).keep K90 (ninS ne_b19_b77 nin0))
    have fr405 := (((fr404.keep K356 (ninS ne_b19_b77 nin0)).keep K367 (ninS ne_b19_b77 (ninS ne_b19_b356 nin0))).keep K372 (ninS ne_b19_b77 (ninS ne_b19_b356 nin0)))
    have fq406 := (fr405.ext E376)
    have fq407 := (fq379.ext E376)
    have fr408 := ((F17l.ext E19).ext E24)
    have fr409 := (((fr408.keep K27 (ninS ne_b12_b19 nin0)).ext E35).ext E44)
    have fr410 := (((fr409.keep K47 (ninS ne_b12_b35 nin0)).ext E55).ext E66)
    have fr411 := (((fr410.keep K69 (ninS ne_b12_b55 nin0)).ext E77).keep K90 (ninS ne_b12_b77 nin0))
    have fr412 := (((fr411.keep K356 (ninS ne_b12_b77 nin0)).keep K367 (ninS ne_b12_b77 (ninS ne_b12_b356 nin0))).keep K372 (ninS ne_b12_b77 (ninS ne_b12_b356 nin0)))
    have fq413 := (fr412.ext E376)
    have fr414 := ((F17h.ext E19).ext E24)
    have fr415 := (((fr414.keep K27 (ninS ne_b12_b19 nin0)).ext E35).ext E44)
    have fr416 := (((fr415.keep K47 (ninS ne_b12_b35 nin0)).ext E55).ext E66)
    have fr417 := (((fr416.keep K69 (ninS ne_b12_b55 nin0)).ext E77).keep K90 (ninS ne_b12_b77 nin0))
    have fr418 := (((fr417.keep K356 (ninS ne_b12_b77 nin0)).keep K367 (ninS ne_b12_b77 (ninS ne_b12_b356 nin0))).keep K372 (ninS ne_b12_b77 (ninS ne_b12_b356 nin0)))
    have fq419 := (fr418.ext E376)
    have fq420 := (fq384.ext E376)
    have fr421 := ((F47l.ext E55).ext E66)
    have fr422 := (((fr421.keep K69 (ninS ne_b35_b55 nin0)).ext E77).keep K90 (ninS ne_b35_b77 nin0))
    have fr423 := (((fr422.keep K356 (ninS ne_b35_b77 nin0)).keep K367 (ninS ne_b35_b77 (ninS ne_b35_b356 nin0))).keep K372 (ninS ne_b35_b77 (ninS ne_b35_b356 nin0)))
    have fq424 := (fr423.ext E376)
    have fr425 := ((F47h.ext E55).ext E66)
    have fr426 := (((fr425.keep K69 (ninS ne_b35_b55 nin0)).ext E77).keep K90 (ninS ne_b35_b77 nin0))
    have fr427 := (((fr426.keep K356 (ninS ne_b35_b77 nin0)).keep K367 (ninS ne_b35_b77 (ninS ne_b35_b356 nin0))).keep K372 (ninS ne_b35_b77 (ninS ne_b35_b356 nin0)))
    have fq428 := (fr427.ext E376)
    have fq429 := (fq385.ext E376)
    have fr430 := ((F69l.ext E77).keep K90 (ninS ne_b55_b77 nin0))
    have fr431 := (((fr430.keep K356 (ninS ne_b55_b77 nin0)).keep K367 (ninS ne_b55_b77 (ninS ne_b55_b356 nin0))).keep K372 (ninS ne_b55_b77 (ninS ne_b55_b356 nin0)))
    have fq432 := (fr431.ext E376)
    have fr433 := ((F69h.ext E77).keep K90 (ninS ne_b55_b77 nin0))
    have fr434 := (((fr433.keep K356 (ninS ne_b55_b77 nin0)).keep K367 (ninS ne_b55_b77 (ninS ne_b55_b356 nin0))).keep K372 (ninS ne_b55_b77 (ninS ne_b55_b356 nin0)))
    have fq435 := (fr434.ext E376)
    obtain ⟨_, _, ⟨T389, L389, k389, n389⟩, -, X389, ⟨Lc389, hQ389, l389, y389, z389⟩, st389⟩ := X376.specialBack hx (y := own_m23) rfl hown66 (mvT hZ66 (own_h hw 68 rfl)) (mvT hZ66 (own_h hw 69 rfl)) (mvT hZ66 (own_h hw 70 rfl)) (by decide) (backOf (W := 1) (rmC1_3 l Z a0 hw [] b376 b77 b356 ((((0 : Int32) + 1) + 1) + 1) b19 b35 b55 b12 b12 b12 (p4 &&& (3 : Int32)) (((p4.toUInt32 >>> ((2 : Int32) &&& 31).toUInt32).toInt32) &&& (3 : Int32)) (((p4.toUInt32 >>> ((4 : Int32) &&& 31).toUInt32).toInt32) &&& (3 : Int32)) (0 : Int64) (0 : Int64) (0 : Int64) (1 : Int64) (1 : Int64) (1 : Int64) h376 n0 zs390 A376 F376_slots F376_firsts F376_lasts gb376 ⟨fq391, fq392, fq393, fq394⟩ fq395 fq396 fq401 fq406 fq407 fq413 fq419 fq420 fq424 fq428 fq407 fq413 fq419 fq429 fq432 fq435 fq407 fq413 fq419) hZ66 (own_h hw 70 rfl) (own_h hw 67 rfl) (by decide) (by decide)) (g := (mkF m 174 #[.val (.long q0), .second, .val (.long q1), .second, .val (.long q2), .second, .val (.long q3), .second, .val (.int p4), .val (.int p5), .val (.int (3 : Int32)), .val (.int (p4 &&& (3 : Int32))), .val (.int (((p4.toUInt32 >>> ((2 : Int32) &&& 31).toUInt32).toInt32) &&& (3 : Int32))), .val (.int (((p4.toUInt32 >>> ((4 : Int32) &&& 31).toUInt32).toInt32) &&& (3 : Int32))), .val (.ref b2), .val (.ref b12), .val (.ref b19), .val (.ref b35), .val (.ref b55), .val (.ref b77), .unset, .unset, .unset] [(.ref b77), (.ref b376), (.ref b376)])) rfl (by rw [hml]; rfl) (Steps.refl _) (a := b376) (argsL := [(.ref b77)]) (rest := [(.ref b376)]) (lenOf pd_3 rfl) rfl (by show 2 * 0 + _ ≤ _; exact Nat.le_of_eq rfl) (hb hby at_174) (fun _ _ => ⟨rfl, e376, (by decide : 14 + 3 ≤ _), (by decide : 61 + 9 ≤ _)⟩)
    dsimp only [Pt.U, Pt.locs, Pt.cells, Pt.slots] at X389 l389 y389 z389 st389 hQ389
    subst y389 z389
    obtain ⟨x389, y389, z389, rfl, N389q, K389, E389x, F389a, F389b, F389c, V389a, V389b, V389c, z389a, z389b, z389c⟩ := hQ389
    have ne_b12_x389 : b12 ≠ x389 := Nat.ne_of_lt (Nat.lt_of_lt_of_le fq407.lt z389a)
    have ne_b19_x389 : b19 ≠ x389 := Nat.ne_of_lt (Nat.lt_of_lt_of_le fq396.lt z389a)
    have fq436 := (fq383.ext E376)
    have ne_b2_x389 : b2 ≠ x389 := Nat.ne_of_lt (Nat.lt_of_lt_of_le fq436.lt z389a)
    have ne_b35_x389 : b35 ≠ x389 := Nat.ne_of_lt (Nat.lt_of_lt_of_le fq420.lt z389a)
    have ne_b356_x389 : b356 ≠ x389 := Nat.ne_of_lt (Nat.lt_of_lt_of_le fq395.lt z389a)
    have ne_b376_x389 : b376 ≠ x389 := Nat.ne_of_lt (Nat.lt_of_lt_of_le A376.lt z389a)
    have ne_b55_x389 : b55 ≠ x389 := Nat.ne_of_lt (Nat.lt_of_lt_of_le fq429.lt z389a)
    have ne_b77_x389 : b77 ≠ x389 := Nat.ne_of_lt (Nat.lt_of_lt_of_le fq391.lt z389a)
    have fq437 := (fq387.ext E376)
    have ne_dd_x389 : dd ≠ x389 := Nat.ne_of_lt (Nat.lt_of_lt_of_le fq437.lt z389a)
    have ne_b12_y389 : b12 ≠ y389 := Nat.ne_of_lt (Nat.lt_of_lt_of_le fq407.lt z389b)
    have ne_b19_y389 : b19 ≠ y389 := Nat.ne_of_lt (Nat.lt_of_lt_of_le fq396.lt z389b)
    have ne_b2_y389 : b2 ≠ y389 := Nat.ne_of_lt (Nat.lt_of_lt_of_le fq436.lt z389b)
    have ne_b35_y389 : b35 ≠ y389 := Nat.ne_of_lt (Nat.lt_of_lt_of_le fq420.lt z389b)
    have ne_b356_y389 : b356 ≠ y389 := Nat.ne_of_lt (Nat.lt_of_lt_of_le fq395.lt z389b)
    have ne_b376_y389 : b376 ≠ y389 := Nat.ne_of_lt (Nat.lt_of_lt_of_le A376.lt z389b)
    have ne_b55_y389 : b55 ≠ y389 := Nat.ne_of_lt (Nat.lt_of_lt_of_le fq429.lt z389b)
    have ne_b77_y389 : b77 ≠ y389 := Nat.ne_of_lt (Nat.lt_of_lt_of_le fq391.lt z389b)
    have ne_dd_y389 : dd ≠ y389 := Nat.ne_of_lt (Nat.lt_of_lt_of_le fq437.lt z389b)
    have ne_b12_z389 : b12 ≠ z389 := Nat.ne_of_lt (Nat.lt_of_lt_of_le fq407.lt z389c)
    have ne_b19_z389 : b19 ≠ z389 := Nat.ne_of_lt (Nat.lt_of_lt_of_le fq396.lt z389c)
    have ne_b2_z389 : b2 ≠ z389 := Nat.ne_of_lt (Nat.lt_of_lt_of_le fq436.lt z389c)
    have ne_b35_z389 : b35 ≠ z389 := Nat.ne_of_lt (Nat.lt_of_lt_of_le fq420.lt z389c)
    have ne_b356_z389 : b356 ≠ z389 := Nat.ne_of_lt (Nat.lt_of_lt_of_le fq395.lt z389c)
    have ne_b376_z389 : b376 ≠ z389 := Nat.ne_of_lt (Nat.lt_of_lt_of_le A376.lt z389c)
    have ne_b55_z389 : b55 ≠ z389 := Nat.ne_of_lt (Nat.lt_of_lt_of_le fq429.lt z389c)
    have ne_b77_z389 : b77 ≠ z389 := Nat.ne_of_lt (Nat.lt_of_lt_of_le fq391.lt z389c)
    have ne_dd_z389 : dd ≠ z389 := Nat.ne_of_lt (Nat.lt_of_lt_of_le fq437.lt z389c)
    have N389 := Fr.app N372 N389q
    rw [← l389] at N389
    have go438 : ∀ t, Steps p.tables e below (T389.setTop (mkF m 183 #[.val (.long q0), .second, .val (.long q1), .second, .val (.long q2), .second, .val (.long q3), .second, .val (.int p4), .val (.int p5), .val (.int (3 : Int32)), .val (.int (p4 &&& (3 : Int32))), .val (.int (((p4.toUInt32 >>> ((2 : Int32) &&& 31).toUInt32).toInt32) &&& (3 : Int32))), .val (.int (((p4.toUInt32 >>> ((4 : Int32) &&& 31).toUInt32).toInt32) &&& (3 : Int32))), .val (.ref b2), .val (.ref b12), .val (.ref b19), .val (.ref b35), .val (.ref b55), .val (.ref b77), .val (.ref b376), .unset, .unset] [(.ref b2), (.ref b376)])) t → Steps p.tables e below (s₁.setTop (entryFrame m #[(.long q0), (.long q1), (.long q2), (.long q3), (.int p4), (.int p5)] maxLocals)) t := fun t kt => go388 t (by
        refine st389.trans ?_
        show Steps p.tables e below (T389.setTop (mkF m 177 #[.val (.long q0), .second, .val (.long q1), .second, .val (.long q2), .second, .val (.long q3), .second, .val (.int p4), .val (.int p5), .val (.int (3 : Int32)), .val (.int (p4 &&& (3 : Int32))), .val (.int (((p4.toUInt32 >>> ((2 : Int32) &&& 31).toUInt32).toInt32) &&& (3 : Int32))), .val (.int (((p4.toUInt32 >>> ((4 : Int32) &&& 31).toUInt32).toInt32) &&& (3 : Int32))), .val (.ref b2), .val (.ref b12), .val (.ref b19), .val (.ref b35), .val (.ref b55), .val (.ref b77), .unset, .unset, .unset] [(.ref b376)])) _
        refine XS.astore X389.here hx rfl (hb hby at_177) rfl rfl (l' := #[.val (.long q0), .second, .val (.long q1), .second, .val (.long q2), .second, .val (.long q3), .second, .val (.int p4), .val (.int p5), .val (.int (3 : Int32)), .val (.int (p4 &&& (3 : Int32))), .val (.int (((p4.toUInt32 >>> ((2 : Int32) &&& 31).toUInt32).toInt32) &&& (3 : Int32))), .val (.int (((p4.toUInt32 >>> ((4 : Int32) &&& 31).toUInt32).toInt32) &&& (3 : Int32))), .val (.ref b2), .val (.ref b12), .val (.ref b19), .val (.ref b35), .val (.ref b55), .val (.ref b77), .val (.ref b376), .unset, .unset]) rfl ?_
        refine XS.aload X389.here hx rfl (hb hby at_179) rfl rfl ?_
        refine XS.aload X389.here hx rfl (hb hby at_181) rfl rfl ?_
        exact kt)
    have zs440 := (Nat.le_trans zs390 K389.1)
    have fq441 := (fq436.keep K389 (ninS ne_b2_b376 nin0))
    obtain ⟨cq439, kq439, q439a, q439b, q439c⟩ := isOf hZ66 rfl E389x
    obtain ⟨_, _, ⟨T439, L439, k439, n439⟩, -, X439, ⟨Lc439, hQ439, l439, y439, z439⟩, st439⟩ := X389.virtualBack hx (y := own_m24) (z := own_m24) hown66 (mvT hZ66 (own_h hw 93 rfl)) (mvT hZ66 (own_h hw 94 rfl)) (notFace_of_selects (args := #[]) (mvT hZ66 (own_h hw 96 rfl))) (mvT hZ66 (own_h hw 96 rfl)) (mvT hZ66 (own_h hw 95 rfl)) (by decide) (backOf (W := 0) (rmV3 l Z a0 hw [] b376 b2 x389 (p4 &&& (3 : Int32)) (((p4.toUInt32 >>> ((2 : Int32) &&& 31).toUInt32).toInt32) &&& (3 : Int32)) (((p4.toUInt32 >>> ((4 : Int32) &&& 31).toUInt32).toInt32) &&& (3 : Int32)) q0 q1 q2 q3 T389.heap n0 zs440 F389a V389a fq441 (own_slot p4 q0 q1 q2 q3).1 (own_slot p4 q0 q1 q2 q3).2.1 (own_slot p4 q0 q1 q2 q3).2.2 (own_slot ((p4.toUInt32 >>> ((2 : Int32) &&& 31).toUInt32).toInt32) q0 q1 q2 q3).1 (own_slot ((p4.toUInt32 >>> ((2 : Int32) &&& 31).toUInt32).toInt32) q0 q1 q2 q3).2.1 (own_slot ((p4.toUInt32 >>> ((2 : Int32) &&& 31).toUInt32).toInt32) q0 q1 q2 q3).2.2 (own_slot ((p4.toUInt32 >>> ((4 : Int32) &&& 31).toUInt32).toInt32) q0 q1 q2 q3).1 (own_slot ((p4.toUInt32 >>> ((4 : Int32) &&& 31).toUInt32).toInt32) q0 q1 q2 q3).2.1 (own_slot ((p4.toUInt32 >>> ((4 : Int32) &&& 31).toUInt32).toInt32) q0 q1 q2 q3).2.2) hZ66 (own_h hw 97 rfl) (own_h hw 67 rfl) (by decide) (by decide)) q439a q439c (g := (mkF m 183 #[.val (.long q0), .second, .val (.long q1), .second, .val (.long q2), .second, .val (.long q3), .second, .val (.int p4), .val (.int p5), .val (.int (3 : Int32)), .val (.int (p4 &&& (3 : Int32))), .val (.int (((p4.toUInt32 >>> ((2 : Int32) &&& 31).toUInt32).toInt32) &&& (3 : Int32))), .val (.int (((p4.toUInt32 >>> ((4 : Int32) &&& 31).toUInt32).toInt32) &&& (3 : Int32))), .val (.ref b2), .val (.ref b12), .val (.ref b19), .val (.ref b35), .val (.ref b55), .val (.ref b77), .val (.ref b376), .unset, .unset] [(.ref b2), (.ref b376)])) rfl (by rw [hml]; rfl) (Steps.refl _) (argsL := [(.ref b2)]) (rest := []) (lenOf pd_6 rfl) rfl (by show 2 * 0 + _ ≤ _; exact Nat.le_of_eq rfl) (hb hby at_183) (fun _ _ => ⟨rfl, rfl, (by decide : 17 + 1 ≤ _), (by decide : 70 + 3 ≤ _)⟩)
    dsimp only [Pt.U, Pt.locs, Pt.cells, Pt.slots] at X439 l439 y439 z439 st439 hQ439
    subst y439 z439
    obtain ⟨r439, rfl, N439q, K439, V439, z439⟩ := hQ439
    have fq442 := (fq407.keep K389)
    have ne_b12_r439 : b12 ≠ r439 := Nat.ne_of_lt (Nat.lt_of_lt_of_le fq442.lt z439)
    have fq443 := (fq396.keep K389)
    have ne_b19_r439 : b19 ≠ r439 := Nat.ne_of_lt (Nat.lt_of_lt_of_le fq443.lt z439)
    have ne_b2_r439 : b2 ≠ r439 := Nat.ne_of_lt (Nat.lt_of_lt_of_le fq441.lt z439)
    have fq444 := (fq420.keep K389)
    have ne_b35_r439 : b35 ≠ r439 := Nat.ne_of_lt (Nat.lt_of_lt_of_le fq444.lt z439)
    have fq445 := (fq395.keep K389 (ninS ne_b356_b376 nin0))
    have ne_b356_r439 : b356 ≠ r439 := Nat.ne_of_lt (Nat.lt_of_lt_of_le fq445.lt z439)
    have ne_b376_r439 : b376 ≠ r439 := Nat.ne_of_lt (Nat.lt_of_lt_of_le E389x.lt z439)
    have fq446 := (fq429.keep K389)
    have ne_b55_r439 : b55 ≠ r439 := Nat.ne_of_lt (Nat.lt_of_lt_of_le fq446.lt z439)
    have fq447 := (fq391.keep K389)
    have ne_b77_r439 : b77 ≠ r439 := Nat.ne_of_lt (Nat.lt_of_lt_of_le fq447.lt z439)
    have fq448 := (fq437.keep K389 (ninS ne_dd_b376 nin0))
    have ne_dd_r439 : dd ≠ r439 := Nat.ne_of_lt (Nat.lt_of_lt_of_le fq448.lt z439)
    have ne_x389_r439 : x389 ≠ r439 := Nat.ne_of_lt (Nat.lt_of_lt_of_le V389a.lt z439)
    have ne_y389_r439 : y389 ≠ r439 := Nat.ne_of_lt (Nat.lt_of_lt_of_le V389b.lt z439)
    have ne_z389_r439 : z389 ≠ r439 := Nat.ne_of_lt (Nat.lt_of_lt_of_le V389c.lt z439)
    have N439 := Fr.app N389 N439q
    rw [← l439] at N439
    have go449 : ∀ t, Steps p.tables e below (T439.setTop (mkF m 195 #[.val (.long q0), .second, .val (.long q1), .second, .val (.long q2), .second, .val (.long q3), .second, .val (.int p4), .val (.int p5), .val (.int (3 : Int32)), .val (.int (p4 &&& (3 : Int32))), .val (.int (((p4.toUInt32 >>> ((2 : Int32) &&& 31).toUInt32).toInt32) &&& (3 : Int32))), .val (.int (((p4.toUInt32 >>> ((4 : Int32) &&& 31).toUInt32).toInt32) &&& (3 : Int32))), .val (.ref b2), .val (.ref b12), .val (.ref b19), .val (.ref b35), .val (.ref b55), .val (.ref b77), .val (.ref b376), .val (.ref r439), .unset] [(.ref r439)])) t → Steps p.tables e below (s₁.setTop (entryFrame m #[(.long q0), (.long q1), (.long q2), (.long q3), (.int p4), (.int p5)] maxLocals)) t := fun t kt => go438 t (by
        refine st439.trans ?_
        refine XS.astore X439.here hx rfl (hb hby at_186) rfl rfl (l' := #[.val (.long q0), .second, .val (.long q1), .second, .val (.long q2), .second, .val (.long q3), .second, .val (.int p4), .val (.int p5), .val (.int (3 : Int32)), .val (.int (p4 &&& (3 : Int32))), .val (.int (((p4.toUInt32 >>> ((2 : Int32) &&& 31).toUInt32).toInt32) &&& (3 : Int32))), .val (.int (((p4.toUInt32 >>> ((4 : Int32) &&& 31).toUInt32).toInt32) &&& (3 : Int32))), .val (.ref b2), .val (.ref b12), .val (.ref b19), .val (.ref b35), .val (.ref b55), .val (.ref b77), .val (.ref b376), .val (.ref r439), .unset]) rfl ?_
        refine XS.aload X439.here hx rfl (hb hby at_188) rfl rfl ?_
        refine XS.ifnullNo X439.here hx rfl (hb hby at_190) rfl ?_
        refine XS.aload X439.here hx rfl (hb hby at_193) rfl rfl ?_
        show Steps p.tables e below (T439.setTop (mkF m 195 #[.val (.long q0), .second, .val (.long q1), .second, .val (.long q2), .second, .val (.long q3), .second, .val (.int p4), .val (.int p5), .val (.int (3 : Int32)), .val (.int (p4 &&& (3 : Int32))), .val (.int (((p4.toUInt32 >>> ((2 : Int32) &&& 31).toUInt32).toInt32) &&& (3 : Int32))), .val (.int (((p4.toUInt32 >>> ((4 : Int32) &&& 31).toUInt32).toInt32) &&& (3 : Int32))), .val (.ref b2), .val (.ref b12), .val (.ref b19), .val (.ref b35), .val (.ref b55), .val (.ref b77), .val (.ref b376), .val (.ref r439), .unset] [(.ref r439)])) _
        exact kt)
    obtain ⟨c450, Ar450, q450⟩ := id V439
    have hc198_451 : (3 : Int32) = (3 : Int32) := (by decide)
    have go452 : ∀ t, Steps p.tables e below (T439.setTop (mkF m 206 #[.val (.long q0), .second, .val (.long q1), .second, .val (.long q2), .second, .val (.long q3), .second, .val (.int p4), .val (.int p5), .val (.int (3 : Int32)), .val (.int (p4 &&& (3 : Int32))), .val (.int (((p4.toUInt32 >>> ((2 : Int32) &&& 31).toUInt32).toInt32) &&& (3 : Int32))), .val (.int (((p4.toUInt32 >>> ((4 : Int32) &&& 31).toUInt32).toInt32) &&& (3 : Int32))), .val (.ref b2), .val (.ref b12), .val (.ref b19), .val (.ref b35), .val (.ref b55), .val (.ref b77), .val (.ref b376), .val (.ref r439), .unset] [(.int (0 : Int32)), (.ref b2)])) t → Steps p.tables e below (s₁.setTop (entryFrame m #[(.long q0), (.long q1), (.long q2), (.long q3), (.int p4), (.int p5)] maxLocals)) t := fun t kt => go449 t (by
        refine X439.arraylength hx Ar450.1 (State.isArrayOf_alike hZ66.alike Ar450.2.1) (g := (mkF m 195 #[.val (.long q0), .second, .val (.long q1), .second, .val (.long q2), .second, .val (.long q3), .second, .val (.int p4), .val (.int p5), .val (.int (3 : Int32)), .val (.int (p4 &&& (3 : Int32))), .val (.int (((p4.toUInt32 >>> ((2 : Int32) &&& 31).toUInt32).toInt32) &&& (3 : Int32))), .val (.int (((p4.toUInt32 >>> ((4 : Int32) &&& 31).toUInt32).toInt32) &&& (3 : Int32))), .val (.ref b2), .val (.ref b12), .val (.ref b19), .val (.ref b35), .val (.ref b55), .val (.ref b77), .val (.ref b376), .val (.ref r439), .unset] [(.ref r439)])) rfl rfl (hb hby at_195) _ ?_
        rw [own_len q450 (n := (3 : Int32)) rfl]
        refine XS.iload X439.here hx rfl (hb hby at_196) rfl ?_
        refine XS.icmpYes X439.here hx rfl (pc0 := 198) (pc' := 203) rfl (hb hby at_198) rfl (teq hc198_451).1 (by decide) (by decide) ?_
        refine XS.aload X439.here hx rfl (hb hby at_203) rfl rfl ?_
        refine XS.iconst X439.here hx rfl (hb hby at_205) ?_
        exact kt)
    have fq453 := (fq441.keep K439 nin0)
    obtain ⟨c454, Ar454, q454⟩ := id fq453
    have hc209_455 : (lcmpW q0 q0) = (0 : Int32) := (lw_eq _ _).mpr rfl
    have go456 : ∀ t, Steps p.tables e below (T439.setTop (mkF m 215 #[.val (.long q0), .second, .val (.long q1), .second, .val (.long q2), .second, .val (.long q3), .second, .val (.int p4), .val (.int p5), .val (.int (3 : Int32)), .val (.int (p4 &&& (3 : Int32))), .val (.int (((p4.toUInt32 >>> ((2 : Int32) &&& 31).toUInt32).toInt32) &&& (3 : Int32))), .val (.int (((p4.toUInt32 >>> ((4 : Int32) &&& 31).toUInt32).toInt32) &&& (3 : Int32))), .val (.ref b2), .val (.ref b12), .val (.ref b19), .val (.ref b35), .val (.ref b55), .val (.ref b77), .val (.ref b376), .val (.ref r439), .unset] [(.int (1 : Int32)), (.ref b2)])) t → Steps p.tables e below (s₁.setTop (entryFrame m #[(.long q0), (.long q1), (.long q2), (.long q3), (.int p4), (.int p5)] maxLocals)) t := fun t kt => go452 t (by
        refine X439.laload hx (j := (0 : Int32)) (v := (.long q0)) Ar454.1 (State.isArrayOf_alike hZ66.alike Ar454.2.1) Ar454.2.2 (own_inb q454 (n := 4) rfl (by decide) (by decide)) (own_get q454 (i := 0) (by decide) rfl) (g := (mkF m 206 #[.val (.long q0), .second, .val (.long q1), .second, .val (.long q2), .second, .val (.long q3), .second, .val (.int p4), .val (.int p5), .val (.int (3 : Int32)), .val (.int (p4 &&& (3 : Int32))), .val (.int (((p4.toUInt32 >>> ((2 : Int32) &&& 31).toUInt32).toInt32) &&& (3 : Int32))), .val (.int (((p4.toUInt32 >>> ((4 : Int32) &&& 31).toUInt32).toInt32) &&& (3 : Int32))), .val (.ref b2), .val (.ref b12), .val (.ref b19), .val (.ref b35), .val (.ref b55), .val (.ref b77), .val (.ref b376), .val (.ref r439), .unset] [(.int (0 : Int32)), (.ref b2)])) rfl rfl (hb hby at_206) _ ?_
        refine XS.lloadN X439.here hx rfl (hb hby at_207) rfl ?_
        refine XS.lcmp X439.here hx rfl (hb hby at_208) rfl ?_
        show Steps p.tables e below (T439.setTop (mkF m 209 #[.val (.long q0), .second, .val (.long q1), .second, .val (.long q2), .second, .val (.long q3), .second, .val (.int p4), .val (.int p5), .val (.int (3 : Int32)), .val (.int (p4 &&& (3 : Int32))), .val (.int (((p4.toUInt32 >>> ((2 : Int32) &&& 31).toUInt32).toInt32) &&& (3 : Int32))), .val (.int (((p4.toUInt32 >>> ((4 : Int32) &&& 31).toUInt32).toInt32) &&& (3 : Int32))), .val (.ref b2), .val (.ref b12), .val (.ref b19), .val (.ref b35), .val (.ref b55), .val (.ref b77), .val (.ref b376), .val (.ref r439), .unset] [(.int (lcmpW q0 q0))])) _
        refine XS.ifNo X439.here hx rfl (hb hby at_209) rfl ((if0 _ _).trans (teq hc209_455).2) ?_
        refine XS.aload X439.here hx rfl (hb hby at_212) rfl rfl ?_
        refine XS.iconst X439.here hx rfl (hb hby at_214) ?_
        exact kt)
    obtain ⟨c457, Ar457, q457⟩ := id fq453
    have hc218_458 : (lcmpW q1 q1) = (0 : Int32) := (lw_eq _ _).mpr rfl
    have go459 : ∀ t, Steps p.tables e below (T439.setTop (mkF m 224 #[.val (.long q0), .second, .val (.long q1), .second, .val (.long q2), .second, .val (.long q3), .second, .val (.int p4), .val (.int p5), .val (.int (3 : Int32)), .val (.int (p4 &&& (3 : Int32))), .val (.int (((p4.toUInt32 >>> ((2 : Int32) &&& 31).toUInt32).toInt32) &&& (3 : Int32))), .val (.int (((p4.toUInt32 >>> ((4 : Int32) &&& 31).toUInt32).toInt32) &&& (3 : Int32))), .val (.ref b2), .val (.ref b12), .val (.ref b19), .val (.ref b35), .val (.ref b55), .val (.ref b77), .val (.ref b376), .val (.ref r439), .unset] [(.int (2 : Int32)), (.ref b2)])) t → Steps p.tables e below (s₁.setTop (entryFrame m #[(.long q0), (.long q1), (.long q2), (.long q3), (.int p4), (.int p5)] maxLocals)) t := fun t kt => go456 t (by
        refine X439.laload hx (j := (1 : Int32)) (v := (.long q1)) Ar457.1 (State.isArrayOf_alike hZ66.alike Ar457.2.1) Ar457.2.2 (own_inb q457 (n := 4) rfl (by decide) (by decide)) (own_get q457 (i := 1) (by decide) rfl) (g := (mkF m 215 #[.val (.long q0), .second, .val (.long q1), .second, .val (.long q2), .second, .val (.long q3), .second, .val (.int p4), .val (.int p5), .val (.int (3 : Int32)), .val (.int (p4 &&& (3 : Int32))), .val (.int (((p4.toUInt32 >>> ((2 : Int32) &&& 31).toUInt32).toInt32) &&& (3 : Int32))), .val (.int (((p4.toUInt32 >>> ((4 : Int32) &&& 31).toUInt32).toInt32) &&& (3 : Int32))), .val (.ref b2), .val (.ref b12), .val (.ref b19), .val (.ref b35), .val (.ref b55), .val (.ref b77), .val (.ref b376), .val (.ref r439), .unset] [(.int (1 : Int32)), (.ref b2)])) rfl rfl (hb hby at_215) _ ?_
        refine XS.lloadN X439.here hx rfl (hb hby at_216) rfl ?_
        refine XS.lcmp X439.here hx rfl (hb hby at_217) rfl ?_
        refine XS.ifNo X439.here hx rfl (hb hby at_218) rfl ((if0 _ _).trans (teq hc218_458).2) ?_
        refine XS.aload X439.here hx rfl (hb hby at_221) rfl rfl ?_
        show Steps p.tables e below (T439.setTop (mkF m 223 #[.val (.long q0), .second, .val (.long q1), .second, .val (.long q2), .second, .val (.long q3), .second, .val (.int p4), .val (.int p5), .val (.int (3 : Int32)), .val (.int (p4 &&& (3 : Int32))), .val (.int (((p4.toUInt32 >>> ((2 : Int32) &&& 31).toUInt32).toInt32) &&& (3 : Int32))), .val (.int (((p4.toUInt32 >>> ((4 : Int32) &&& 31).toUInt32).toInt32) &&& (3 : Int32))), .val (.ref b2), .val (.ref b12), .val (.ref b19), .val (.ref b35), .val (.ref b55), .val (.ref b77), .val (.ref b376), .val (.ref r439), .unset] [(.ref b2)])) _
        refine XS.iconst X439.here hx rfl (hb hby at_223) ?_
        exact kt)
    obtain ⟨c460, Ar460, q460⟩ := id fq453
    have hc228_461 : (lcmpW q2 q2) = (0 : Int32) := (lw_eq _ _).mpr rfl
    have go462 : ∀ t, Steps p.tables e below (T439.setTop (mkF m 234 #[.val (.long q0), .second, .val (.long q1), .second, .val (.long q2), .second, .val (.long q3), .second, .val (.int p4), .val (.int p5), .val (.int (3 : Int32)), .val (.int (p4 &&& (3 : Int32))), .val (.int (((p4.toUInt32 >>> ((2 : Int32) &&& 31).toUInt32).toInt32) &&& (3 : Int32))), .val (.int (((p4.toUInt32 >>> ((4 : Int32) &&& 31).toUInt32).toInt32) &&& (3 : Int32))), .val (.ref b2), .val (.ref b12), .val (.ref b19), .val (.ref b35), .val (.ref b55), .val (.ref b77), .val (.ref b376), .val (.ref r439), .unset] [(.int (3 : Int32)), (.ref b2)])) t → Steps p.tables e below (s₁.setTop (entryFrame m #[(.long q0), (.long q1), (.long q2), (.long q3), (.int p4), (.int p5)] maxLocals)) t := fun t kt => go459 t (by
        refine X439.laload hx (j := (2 : Int32)) (v := (.long q2)) Ar460.1 (State.isArrayOf_alike hZ66.alike Ar460.2.1) Ar460.2.2 (own_inb q460 (n := 4) rfl (by decide) (by decide)) (own_get q460 (i := 2) (by decide) rfl) (g := (mkF m 224 #[.val (.long q0), .second, .val (.long q1), .second, .val (.long q2), .second, .val (.long q3), .second, .val (.int p4), .val (.int p5), .val (.int (3 : Int32)), .val (.int (p4 &&& (3 : Int32))), .val (.int (((p4.toUInt32 >>> ((2 : Int32) &&& 31).toUInt32).toInt32) &&& (3 : Int32))), .val (.int (((p4.toUInt32 >>> ((4 : Int32) &&& 31).toUInt32).toInt32) &&& (3 : Int32))), .val (.ref b2), .val (.ref b12), .val (.ref b19), .val (.ref b35), .val (.ref b55), .val (.ref b77), .val (.ref b376), .val (.ref r439), .unset] [(.int (2 : Int32)), (.ref b2)])) rfl rfl (hb hby at_224) _ ?_
        refine XS.lload X439.here hx rfl (hb hby at_225) rfl ?_
        refine XS.lcmp X439.here hx rfl (hb hby at_227) rfl ?_
        refine XS.ifNo X439.here hx rfl (hb hby at_228) rfl ((if0 _ _).trans (teq hc228_461).2) ?_
        refine XS.aload X439.here hx rfl (hb hby at_231) rfl rfl ?_
        refine XS.iconst X439.here hx rfl (hb hby at_233) ?_
        exact kt)
    obtain ⟨c463, Ar463, q463⟩ := id fq453
    have hc238_464 : (lcmpW q3 q3) = (0 : Int32) := (lw_eq _ _).mpr rfl
    have hc251_465 : ¬ ((3 : Int32) < (1 : Int32)) := (by decide)
    have hc256_466 : ¬ ((1 : Int32) = (0 : Int32)) := (by decide)
    have go467 : ∀ t, Steps p.tables e below (T439.setTop (mkF m 262 #[.val (.long q0), .second, .val (.long q1), .second, .val (.long q2), .second, .val (.long q3), .second, .val (.int p4), .val (.int p5), .val (.int (3 : Int32)), .val (.int (p4 &&& (3 : Int32))), .val (.int (((p4.toUInt32 >>> ((2 : Int32) &&& 31).toUInt32).toInt32) &&& (3 : Int32))), .val (.int (((p4.toUInt32 >>> ((4 : Int32) &&& 31).toUInt32).toInt32) &&& (3 : Int32))), .val (.ref b2), .val (.ref b12), .val (.ref b19), .val (.ref b35), .val (.ref b55), .val (.ref b77), .val (.ref b376), .val (.ref r439), .val (.int (1 : Int32))] [(.int (0 : Int32)), (.ref r439)])) t → Steps p.tables e below (s₁.setTop (entryFrame m #[(.long q0), (.long q1), (.long q2), (.long q3), (.int p4), (.int p5)] maxLocals)) t := fun t kt => go462 t (by
        refine X439.laload hx (j := (3 : Int32)) (v := (.long q3)) Ar463.1 (State.isArrayOf_alike hZ66.alike Ar463.2.1) Ar463.2.2 (own_inb q463 (n := 4) rfl (by decide) (by decide)) (own_get q463 (i := 3) (by decide) rfl) (g := (mkF m 234 #[.val (.long q0), .second, .val (.long q1), .second, .val (.long q2), .second, .val (.long q3), .second, .val (.int p4), .val (.int p5), .val (.int (3 : Int32)), .val (.int (p4 &&& (3 : Int32))), .val (.int (((p4.toUInt32 >>> ((2 : Int32) &&& 31).toUInt32).toInt32) &&& (3 : Int32))), .val (.int (((p4.toUInt32 >>> ((4 : Int32) &&& 31).toUInt32).toInt32) &&& (3 : Int32))), .val (.ref b2), .val (.ref b12), .val (.ref b19), .val (.ref b35), .val (.ref b55), .val (.ref b77), .val (.ref b376), .val (.ref r439), .unset] [(.int (3 : Int32)), (.ref b2)])) rfl rfl (hb hby at_234) _ ?_
        show Steps p.tables e below (T439.setTop (mkF m 235 #[.val (.long q0), .second, .val (.long q1), .second, .val (.long q2), .second, .val (.long q3), .second, .val (.int p4), .val (.int p5), .val (.int (3 : Int32)), .val (.int (p4 &&& (3 : Int32))), .val (.int (((p4.toUInt32 >>> ((2 : Int32) &&& 31).toUInt32).toInt32) &&& (3 : Int32))), .val (.int (((p4.toUInt32 >>> ((4 : Int32) &&& 31).toUInt32).toInt32) &&& (3 : Int32))), .val (.ref b2), .val (.ref b12), .val (.ref b19), .val (.ref b35), .val (.ref b55), .val (.ref b77), .val (.ref b376), .val (.ref r439), .unset] [(.long q3)])) _
        refine XS.lload X439.here hx rfl (hb hby at_235) rfl ?_
        refine XS.lcmp X439.here hx rfl (hb hby at_237) rfl ?_
        refine XS.ifNo X439.here hx rfl (hb hby at_238) rfl ((if0 _ _).trans (teq hc238_464).2) ?_
        refine XS.iconst X439.here hx rfl (hb hby at_241) ?_
        refine XS.goto X439.here hx rfl (pc0 := 242) (pc' := 246) rfl (hb hby at_242) (by decide) (by decide) ?_
        refine XS.istore X439.here hx rfl (hb hby at_246) rfl (l' := #[.val (.long q0), .second, .val (.long q1), .second, .val (.long q2), .second, .val (.long q3), .second, .val (.int p4), .val (.int p5), .val (.int (3 : Int32)), .val (.int (p4 &&& (3 : Int32))), .val (.int (((p4.toUInt32 >>> ((2 : Int32) &&& 31).toUInt32).toInt32) &&& (3 : Int32))), .val (.int (((p4.toUInt32 >>> ((4 : Int32) &&& 31).toUInt32).toInt32) &&& (3 : Int32))), .val (.ref b2), .val (.ref b12), .val (.ref b19), .val (.ref b35), .val (.ref b55), .val (.ref b77), .val (.ref b376), .val (.ref r439), .val (.int (1 : Int32))]) rfl ?_
        refine XS.iload X439.here hx rfl (hb hby at_248) rfl ?_
        refine XS.iconst X439.here hx rfl (hb hby at_250) ?_
        show Steps p.tables e below (T439.setTop (mkF m 251 #[.val (.long q0), .second, .val (.long q1), .second, .val (.long q2), .second, .val (.long q3), .second, .val (.int p4), .val (.int p5), .val (.int (3 : Int32)), .val (.int (p4 &&& (3 : Int32))), .val (.int (((p4.toUInt32 >>> ((2 : Int32) &&& 31).toUInt32).toInt32) &&& (3 : Int32))), .val (.int (((p4.toUInt32 >>> ((4 : Int32) &&& 31).toUInt32).toInt32) &&& (3 : Int32))), .val (.ref b2), .val (.ref b12), .val (.ref b19), .val (.ref b35), .val (.ref b55), .val (.ref b77), .val (.ref b376), .val (.ref r439), .val (.int (1 : Int32))] [(.int (1 : Int32)), (.int (3 : Int32))])) _
        refine XS.icmpNo X439.here hx rfl (hb hby at_251) rfl (flt hc251_465).1 ?_
        refine XS.iload X439.here hx rfl (hb hby at_254) rfl ?_
        refine XS.ifNo X439.here hx rfl (hb hby at_256) rfl ((if0 _ _).trans (feq hc256_466).1) ?_
        refine XS.aload X439.here hx rfl (hb hby at_259) rfl rfl ?_
        refine XS.iconst X439.here hx rfl (hb hby at_261) ?_
        exact kt)
    obtain ⟨c468, Ar468, q468⟩ := id V439
    have go469 : ∀ t, Steps p.tables e below (T439.setTop (mkF m 271 #[.val (.long q0), .second, .val (.long q1), .second, .val (.long q2), .second, .val (.long q3), .second, .val (.int p4), .val (.int p5), .val (.int (3 : Int32)), .val (.int (p4 &&& (3 : Int32))), .val (.int (((p4.toUInt32 >>> ((2 : Int32) &&& 31).toUInt32).toInt32) &&& (3 : Int32))), .val (.int (((p4.toUInt32 >>> ((4 : Int32) &&& 31).toUInt32).toInt32) &&& (3 : Int32))), .val (.ref b2), .val (.ref b12), .val (.ref b19), .val (.ref b35), .val (.ref b55), .val (.ref b77), .val (.ref b376), .val (.ref r439), .val (.int (1 : Int32))] [(.long q3), (.long q2), (.long q1), (.long q0), (.int (p4 &&& (3 : Int32))), (.long (own_at (p4 &&& (3 : Int32)) q0 q1 q2 q3))])) t → Steps p.tables e below (s₁.setTop (entryFrame m #[(.long q0), (.long q1), (.long q2), (.long q3), (.int p4), (.int p5)] maxLocals)) t := fun t kt => go467 t (by
        refine X439.laload hx (j := (0 : Int32)) (v := (.long (own_at (p4 &&& (3 : Int32)) q0 q1 q2 q3))) Ar468.1 (State.isArrayOf_alike hZ66.alike Ar468.2.1) Ar468.2.2 (own_inb q468 (n := 3) rfl (by decide) (by decide)) (own_get q468 (i := 0) (by decide) rfl) (g := (mkF m 262 #[.val (.long q0), .second, .val (.long q1), .second, .val (.long q2), .second, .val (.long q3), .second, .val (.int p4), .val (.int p5), .val (.int (3 : Int32)), .val (.int (p4 &&& (3 : Int32))), .val (.int (((p4.toUInt32 >>> ((2 : Int32) &&& 31).toUInt32).toInt32) &&& (3 : Int32))), .val (.int (((p4.toUInt32 >>> ((4 : Int32) &&& 31).toUInt32).toInt32) &&& (3 : Int32))), .val (.ref b2), .val (.ref b12), .val (.ref b19), .val (.ref b35), .val (.ref b55), .val (.ref b77), .val (.ref b376), .val (.ref r439), .val (.int (1 : Int32))] [(.int (0 : Int32)), (.ref r439)])) rfl rfl (hb hby at_262) _ ?_
        refine XS.iload X439.here hx rfl (hb hby at_263) rfl ?_
        refine XS.lloadN X439.here hx rfl (hb hby at_265) rfl ?_
        show Steps p.tables e below (T439.setTop (mkF m 266 #[.val (.long q0), .second, .val (.long q1), .second, .val (.long q2), .second, .val (.long q3), .second, .val (.int p4), .val (.int p5), .val (.int (3 : Int32)), .val (.int (p4 &&& (3 : Int32))), .val (.int (((p4.toUInt32 >>> ((2 : Int32) &&& 31).toUInt32).toInt32) &&& (3 : Int32))), .val (.int (((p4.toUInt32 >>> ((4 : Int32) &&& 31).toUInt32).toInt32) &&& (3 : Int32))), .val (.ref b2), .val (.ref b12), .val (.ref b19), .val (.ref b35), .val (.ref b55), .val (.ref b77), .val (.ref b376), .val (.ref r439), .val (.int (1 : Int32))] [(.long q0), (.int (p4 &&& (3 : Int32))), (.long (own_at (p4 &&& (3 : Int32)) q0 q1 q2 q3))])) _
        refine XS.lloadN X439.here hx rfl (hb hby at_266) rfl ?_
        refine XS.lload X439.here hx rfl (hb hby at_267) rfl ?_
        refine XS.lload X439.here hx rfl (hb hby at_269) rfl ?_
        exact kt)
    obtain ⟨_, _, ⟨T470, L470, k470, n470⟩, -, X470, ⟨Lc470, hQ470, l470, y470, z470⟩, st470⟩ := Jvm.LawKit.callS X439 hx (y := own_m26) hown66 (mvT hZ66 (own_h hw 180 rfl)) (mvT hZ66 (own_h hw 181 rfl)) (mvT hZ66 (own_h hw 182 rfl)) (mvT hZ66 (own_h hw 183 rfl)) (by decide) (backOf (W := 2) (rm24 l Z a0 hw [] (p4 &&& (3 : Int32)) q0 q1 q2 q3 T439.heap n0) hZ66 (own_h hw 183 rfl) (own_h hw 182 rfl) (by decide) (by decide)) (g := (mkF m 271 #[.val (.long q0), .second, .val (.long q1), .second, .val (.long q2), .second, .val (.long q3), .second, .val (.int p4), .val (.int p5), .val (.int (3 : Int32)), .val (.int (p4 &&& (3 : Int32))), .val (.int (((p4.toUInt32 >>> ((2 : Int32) &&& 31).toUInt32).toInt32) &&& (3 : Int32))), .val (.int (((p4.toUInt32 >>> ((4 : Int32) &&& 31).toUInt32).toInt32) &&& (3 : Int32))), .val (.ref b2), .val (.ref b12), .val (.ref b19), .val (.ref b35), .val (.ref b55), .val (.ref b77), .val (.ref b376), .val (.ref r439), .val (.int (1 : Int32))] [(.long q3), (.long q2), (.long q1), (.long q0), (.int (p4 &&& (3 : Int32))), (.long (own_at (p4 &&& (3 : Int32)) q0 q1 q2 q3))])) rfl (by rw [hml]; rfl) (argsL := [(.int (p4 &&& (3 : Int32))), (.long q0), (.long q1), (.long q2), (.long q3)]) (rest := [(.long (own_at (p4 &&& (3 : Int32)) q0 q1 q2 q3))]) (lenOf pd_16 rfl) rfl (by show 2 * 0 + _ ≤ _; exact Nat.le_of_eq rfl) (hb hby at_271) (fun _ _ => ⟨rfl, rfl, (by decide : 18 + 0 ≤ _), (by decide : 73 + 0 ≤ _)⟩)
    dsimp only [Pt.U, Pt.locs, Pt.cells, Pt.slots] at X470 l470 y470 z470 st470 hQ470
    subst y470 z470
    obtain ⟨rfl, N470q, e470⟩ := hQ470
    have N470 := Fr.app N439 N470q
    rw [← l470] at N470
    have hc275_471 : (lcmpW (own_at (p4 &&& (3 : Int32)) q0 q1 q2 q3) (own_at (p4 &&& (3 : Int32)) q0 q1 q2 q3)) = (0 : Int32) := (lw_eq _ _).mpr rfl
    have hc288_472 : ¬ ((3 : Int32) < (2 : Int32)) := (by decide)
    have hc293_473 : ¬ ((1 : Int32) = (0 : Int32)) := (by decide)
    have go474 : ∀ t, Steps p.tables e below (T470.setTop (mkF m 299 #[.val (.long q0), .second, .val (.long q1), .second, .val (.long q2), .second, .val (.long q3), .second, .val (.int p4), .val (.int p5), .val (.int (3 : Int32)), .val (.int (p4 &&& (3 : Int32))), .val (.int (((p4.toUInt32 >>> ((2 : Int32) &&& 31).toUInt32).toInt32) &&& (3 : Int32))), .val (.int (((p4.toUInt32 >>> ((4 : Int32) &&& 31).toUInt32).toInt32) &&& (3 : Int32))), .val (.ref b2), .val (.ref b12), .val (.ref b19), .val (.ref b35), .val (.ref b55), .val (.ref b77), .val (.ref b376), .val (.ref r439), .val (.int (1 : Int32))] [(.int (1 : Int32)), (.ref r439)])) t → Steps p.tables e below (s₁.setTop (entryFrame m #[(.long q0), (.long q1), (.long q2), (.long q3), (.int p4), (.int p5)] maxLocals)) t := fun t kt => go469 t (by
        refine st470 _ ?_
        refine XS.lcmp X470.here hx rfl (hb hby at_274) rfl ?_
        refine XS.ifNo X470.here hx rfl (hb hby at_275) rfl ((if0 _ _).trans (teq hc275_471).2) ?_
        refine XS.iconst X470.here hx rfl (hb hby at_278) ?_
        refine XS.goto X470.here hx rfl (pc0 := 279) (pc' := 283) rfl (hb hby at_279) (by decide) (by decide) ?_
        show Steps p.tables e below (T470.setTop (mkF m 283 #[.val (.long q0), .second, .val (.long q1), .second, .val (.long q2), .second, .val (.long q3), .second, .val (.int p4), .val (.int p5), .val (.int (3 : Int32)), .val (.int (p4 &&& (3 : Int32))), .val (.int (((p4.toUInt32 >>> ((2 : Int32) &&& 31).toUInt32).toInt32) &&& (3 : Int32))), .val (.int (((p4.toUInt32 >>> ((4 : Int32) &&& 31).toUInt32).toInt32) &&& (3 : Int32))), .val (.ref b2), .val (.ref b12), .val (.ref b19), .val (.ref b35), .val (.ref b55), .val (.ref b77), .val (.ref b376), .val (.ref r439), .val (.int (1 : Int32))] [(.int (1 : Int32))])) _
        refine XS.istore X470.here hx rfl (hb hby at_283) rfl (l' := #[.val (.long q0), .second, .val (.long q1), .second, .val (.long q2), .second, .val (.long q3), .second, .val (.int p4), .val (.int p5), .val (.int (3 : Int32)), .val (.int (p4 &&& (3 : Int32))), .val (.int (((p4.toUInt32 >>> ((2 : Int32) &&& 31).toUInt32).toInt32) &&& (3 : Int32))), .val (.int (((p4.toUInt32 >>> ((4 : Int32) &&& 31).toUInt32).toInt32) &&& (3 : Int32))), .val (.ref b2), .val (.ref b12), .val (.ref b19), .val (.ref b35), .val (.ref b55), .val (.ref b77), .val (.ref b376), .val (.ref r439), .val (.int (1 : Int32))]) rfl ?_
        refine XS.iload X470.here hx rfl (hb hby at_285) rfl ?_
        refine XS.iconst X470.here hx rfl (hb hby at_287) ?_
        refine XS.icmpNo X470.here hx rfl (hb hby at_288) rfl (flt hc288_472).1 ?_
        refine XS.iload X470.here hx rfl (hb hby at_291) rfl ?_
        refine XS.ifNo X470.here hx rfl (hb hby at_293) rfl ((if0 _ _).trans (feq hc293_473).1) ?_
        refine XS.aload X470.here hx rfl (hb hby at_296) rfl rfl ?_
        refine XS.iconst X470.here hx rfl (hb hby at_298) ?_
        show Steps p.tables e below (T470.setTop (mkF m 299 #[.val (.long q0), .second, .val (.long q1), .second, .val (.long q2), .second, .val (.long q3), .second, .val (.int p4), .val (.int p5), .val (.int (3 : Int32)), .val (.int (p4 &&& (3 : Int32))), .val (.int (((p4.toUInt32 >>> ((2 : Int32) &&& 31).toUInt32).toInt32) &&& (3 : Int32))), .val (.int (((p4.toUInt32 >>> ((4 : Int32) &&& 31).toUInt32).toInt32) &&& (3 : Int32))), .val (.ref b2), .val (.ref b12), .val (.ref b19), .val (.ref b35), .val (.ref b55), .val (.ref b77), .val (.ref b376), .val (.ref r439), .val (.int (1 : Int32))] [(.int (1 : Int32)), (.ref r439)])) _
        exact kt)
    obtain ⟨c475, Ar475, q475⟩ := id V439
    have go476 : ∀ t, Steps p.tables e below (T470.setTop (mkF m 308 #[.val (.long q0), .second, .val (.long q1), .second, .val (.long q2), .second, .val (.long q3), .second, .val (.int p4), .val (.int p5), .val (.int (3 : Int32)), .val (.int (p4 &&& (3 : Int32))), .val (.int (((p4.toUInt32 >>> ((2 : Int32) &&& 31).toUInt32).toInt32) &&& (3 : Int32))), .val (.int (((p4.toUInt32 >>> ((4 : Int32) &&& 31).toUInt32).toInt32) &&& (3 : Int32))), .val (.ref b2), .val (.ref b12), .val (.ref b19), .val (.ref b35), .val (.ref b55), .val (.ref b77), .val (.ref b376), .val (.ref r439), .val (.int (1 : Int32))] [(.long q3), (.long q2), (.long q1), (.long q0), (.int (((p4.toUInt32 >>> ((2 : Int32) &&& 31).toUInt32).toInt32) &&& (3 : Int32))), (.long (own_at (((p4.toUInt32 >>> ((2 : Int32) &&& 31).toUInt32).toInt32) &&& (3 : Int32)) q0 q1 q2 q3))])) t → Steps p.tables e below (s₁.setTop (entryFrame m #[(.long q0), (.long q1), (.long q2), (.long q3), (.int p4), (.int p5)] maxLocals)) t := fun t kt => go474 t (by
        refine X470.laload hx (j := (1 : Int32)) (v := (.long (own_at (((p4.toUInt32 >>> ((2 : Int32) &&& 31).toUInt32).toInt32) &&& (3 : Int32)) q0 q1 q2 q3))) (by rw [e470]; exact Ar475.1) (State.isArrayOf_alike hZ66.alike Ar475.2.1) Ar475.2.2 (own_inb q475 (n := 3) rfl (by decide) (by decide)) (own_get q475 (i := 1) (by decide) rfl) (g := (mkF m 299 #[.val (.long q0), .second, .val (.long q1), .second, .val (.long q2), .second, .val (.long q3), .second, .val (.int p4), .val (.int p5), .val (.int (3 : Int32)), .val (.int (p4 &&& (3 : Int32))), .val (.int (((p4.toUInt32 >>> ((2 : Int32) &&& 31).toUInt32).toInt32) &&& (3 : Int32))), .val (.int (((p4.toUInt32 >>> ((4 : Int32) &&& 31).toUInt32).toInt32) &&& (3 : Int32))), .val (.ref b2), .val (.ref b12), .val (.ref b19), .val (.ref b35), .val (.ref b55), .val (.ref b77), .val (.ref b376), .val (.ref r439), .val (.int (1 : Int32))] [(.int (1 : Int32)), (.ref r439)])) rfl rfl (hb hby at_299) _ ?_
        refine XS.iload X470.here hx rfl (hb hby at_300) rfl ?_
        refine XS.lloadN X470.here hx rfl (hb hby at_302) rfl ?_
        refine XS.lloadN X470.here hx rfl (hb hby at_303) rfl ?_
        refine XS.lload X470.here hx rfl (hb hby at_304) rfl ?_
        refine XS.lload X470.here hx rfl (hb hby at_306) rfl ?_
        exact kt)
    obtain ⟨_, _, ⟨T477, L477, k477, n477⟩, -, X477, ⟨Lc477, hQ477, l477, y477, z477⟩, st477⟩ := Jvm.LawKit.callS X470 hx (y := own_m26) hown66 (mvT hZ66 (own_h hw 180 rfl)) (mvT hZ66 (own_h hw 181 rfl)) (mvT hZ66 (own_h hw 182 rfl)) (mvT hZ66 (own_h hw 183 rfl)) (by decide) (backOf (W := 2) (rm24 l Z a0 hw [] (((p4.toUInt32 >>> ((2 : Int32) &&& 31).toUInt32).toInt32) &&& (3 : Int32)) q0 q1 q2 q3 T439.heap n0) hZ66 (own_h hw 183 rfl) (own_h hw 182 rfl) (by decide) (by decide)) (g := (mkF m 308 #[.val (.long q0), .second, .val (.long q1), .second, .val (.long q2), .second, .val (.long q3), .second, .val (.int p4), .val (.int p5), .val (.int (3 : Int32)), .val (.int (p4 &&& (3 : Int32))), .val (.int (((p4.toUInt32 >>> ((2 : Int32) &&& 31).toUInt32).toInt32) &&& (3 : Int32))), .val (.int (((p4.toUInt32 >>> ((4 : Int32) &&& 31).toUInt32).toInt32) &&& (3 : Int32))), .val (.ref b2), .val (.ref b12), .val (.ref b19), .val (.ref b35), .val (.ref b55), .val (.ref b77), .val (.ref b376), .val (.ref r439), .val (.int (1 : Int32))] [(.long q3), (.long q2), (.long q1), (.long q0), (.int (((p4.toUInt32 >>> ((2 : Int32) &&& 31).toUInt32).toInt32) &&& (3 : Int32))), (.long (own_at (((p4.toUInt32 >>> ((2 : Int32) &&& 31).toUInt32).toInt32) &&& (3 : Int32)) q0 q1 q2 q3))])) rfl (by rw [hml]; rfl) (argsL := [(.int (((p4.toUInt32 >>> ((2 : Int32) &&& 31).toUInt32).toInt32) &&& (3 : Int32))), (.long q0), (.long q1), (.long q2), (.long q3)]) (rest := [(.long (own_at (((p4.toUInt32 >>> ((2 : Int32) &&& 31).toUInt32).toInt32) &&& (3 : Int32)) q0 q1 q2 q3))]) (lenOf pd_16 rfl) rfl (by show 2 * 0 + _ ≤ _; exact Nat.le_of_eq rfl) (hb hby at_308) (fun _ _ => ⟨rfl, e470, (by decide : 18 + 0 ≤ _), (by decide : 73 + 0 ≤ _)⟩)
    dsimp only [Pt.U, Pt.locs, Pt.cells, Pt.slots] at X477 l477 y477 z477 st477 hQ477
    subst y477 z477
    obtain ⟨rfl, N477q, e477⟩ := hQ477
    have N477 := Fr.app N470 N477q
    rw [← l477] at N477
    have hc312_478 : (lcmpW (own_at (((p4.toUInt32 >>> ((2 : Int32) &&& 31).toUInt32).toInt32) &&& (3 : Int32)) q0 q1 q2 q3) (own_at (((p4.toUInt32 >>> ((2 : Int32) &&& 31).toUInt32).toInt32) &&& (3 : Int32)) q0 q1 q2 q3)) = (0 : Int32) := (lw_eq _ _).mpr rfl
    have hc325_479 : ¬ ((3 : Int32) < (3 : Int32)) := (by decide)
    have hc330_480 : ¬ ((1 : Int32) = (0 : Int32)) := (by decide)
    have go481 : ∀ t, Steps p.tables e below (T477.setTop (mkF m 336 #[.val (.long q0), .second, .val (.long q1), .second, .val (.long q2), .second, .val (.long q3), .second, .val (.int p4), .val (.int p5), .val (.int (3 : Int32)), .val (.int (p4 &&& (3 : Int32))), .val (.int (((p4.toUInt32 >>> ((2 : Int32) &&& 31).toUInt32).toInt32) &&& (3 : Int32))), .val (.int (((p4.toUInt32 >>> ((4 : Int32) &&& 31).toUInt32).toInt32) &&& (3 : Int32))), .val (.ref b2), .val (.ref b12), .val (.ref b19), .val (.ref b35), .val (.ref b55), .val (.ref b77), .val (.ref b376), .val (.ref r439), .val (.int (1 : Int32))] [(.int (2 : Int32)), (.ref r439)])) t → Steps p.tables e below (s₁.setTop (entryFrame m #[(.long q0), (.long q1), (.long q2), (.long q3), (.int p4), (.int p5)] maxLocals)) t := fun t kt => go476 t (by
        refine st477 _ ?_
        refine XS.lcmp X477.here hx rfl (hb hby at_311) rfl ?_
        show Steps p.tables e below (T477.setTop (mkF m 312 #[.val (.long q0), .second, .val (.long q1), .second, .val (.long q2), .second, .val (.long q3), .second, .val (.int p4), .val (.int p5), .val (.int (3 : Int32)), .val (.int (p4 &&& (3 : Int32))), .val (.int (((p4.toUInt32 >>> ((2 : Int32) &&& 31).toUInt32).toInt32) &&& (3 : Int32))), .val (.int (((p4.toUInt32 >>> ((4 : Int32) &&& 31).toUInt32).toInt32) &&& (3 : Int32))), .val (.ref b2), .val (.ref b12), .val (.ref b19), .val (.ref b35), .val (.ref b55), .val (.ref b77), .val (.ref b376), .val (.ref r439), .val (.int (1 : Int32))] [(.int (lcmpW (own_at (((p4.toUInt32 >>> ((2 : Int32) &&& 31).toUInt32).toInt32) &&& (3 : Int32)) q0 q1 q2 q3) (own_at (((p4.toUInt32 >>> ((2 : Int32) &&& 31).toUInt32).toInt32) &&& (3 : Int32)) q0 q1 q2 q3)))])) _
        refine XS.ifNo X477.here hx rfl (hb hby at_312) rfl ((if0 _ _).trans (teq hc312_478).2) ?_
        refine XS.iconst X477.here hx rfl (hb hby at_315) ?_
        refine XS.goto X477.here hx rfl (pc0 := 316) (pc' := 320) rfl (hb hby at_316) (by decide) (by decide) ?_
        refine XS.istore X477.here hx rfl (hb hby at_320) rfl (l' := #[.val (.long q0), .second, .val (.long q1), .second, .val (.long q2), .second, .val (.long q3), .second, .val (.int p4), .val (.int p5), .val (.int (3 : Int32)), .val (.int (p4 &&& (3 : Int32))), .val (.int (((p4.toUInt32 >>> ((2 : Int32) &&& 31).toUInt32).toInt32) &&& (3 : Int32))), .val (.int (((p4.toUInt32 >>> ((4 : Int32) &&& 31).toUInt32).toInt32) &&& (3 : Int32))), .val (.ref b2), .val (.ref b12), .val (.ref b19), .val (.ref b35), .val (.ref b55), .val (.ref b77), .val (.ref b376), .val (.ref r439), .val (.int (1 : Int32))]) rfl ?_
        refine XS.iload X477.here hx rfl (hb hby at_322) rfl ?_
        refine XS.iconst X477.here hx rfl (hb hby at_324) ?_
        refine XS.icmpNo X477.here hx rfl (hb hby at_325) rfl (flt hc325_479).1 ?_
        refine XS.iload X477.here hx rfl (hb hby at_328) rfl ?_
        show Steps p.tables e below (T477.setTop (mkF m 330 #[.val (.long q0), .second, .val (.long q1), .second, .val (.long q2), .second, .val (.long q3), .second, .val (.int p4), .val (.int p5), .val (.int (3 : Int32)), .val (.int (p4 &&& (3 : Int32))), .val (.int (((p4.toUInt32 >>> ((2 : Int32) &&& 31).toUInt32).toInt32) &&& (3 : Int32))), .val (.int (((p4.toUInt32 >>> ((4 : Int32) &&& 31).toUInt32).toInt32) &&& (3 : Int32))), .val (.ref b2), .val (.ref b12), .val (.ref b19), .val (.ref b35), .val (.ref b55), .val (.ref b77), .val (.ref b376), .val (.ref r439), .val (.int (1 : Int32))] [(.int (1 : Int32))])) _
        refine XS.ifNo X477.here hx rfl (hb hby at_330) rfl ((if0 _ _).trans (feq hc330_480).1) ?_
        refine XS.aload X477.here hx rfl (hb hby at_333) rfl rfl ?_
        refine XS.iconst X477.here hx rfl (hb hby at_335) ?_
        exact kt)
    obtain ⟨c482, Ar482, q482⟩ := id V439
    have go483 : ∀ t, Steps p.tables e below (T477.setTop (mkF m 345 #[.val (.long q0), .second, .val (.long q1), .second, .val (.long q2), .second, .val (.long q3), .second, .val (.int p4), .val (.int p5), .val (.int (3 : Int32)), .val (.int (p4 &&& (3 : Int32))), .val (.int (((p4.toUInt32 >>> ((2 : Int32) &&& 31).toUInt32).toInt32) &&& (3 : Int32))), .val (.int (((p4.toUInt32 >>> ((4 : Int32) &&& 31).toUInt32).toInt32) &&& (3 : Int32))), .val (.ref b2), .val (.ref b12), .val (.ref b19), .val (.ref b35), .val (.ref b55), .val (.ref b77), .val (.ref b376), .val (.ref r439), .val (.int (1 : Int32))] [(.long q3), (.long q2), (.long q1), (.long q0), (.int (((p4.toUInt32 >>> ((4 : Int32) &&& 31).toUInt32).toInt32) &&& (3 : Int32))), (.long (own_at (((p4.toUInt32 >>> ((4 : Int32) &&& 31).toUInt32).toInt32) &&& (3 : Int32)) q0 q1 q2 q3))])) t → Steps p.tables e below (s₁.setTop (entryFrame m #[(.long q0), (.long q1), (.long q2), (.long q3), (.int p4), (.int p5)] maxLocals)) t := fun t kt => go481 t (by
        refine X477.laload hx (j := (2 : Int32)) (v := (.long (own_at (((p4.toUInt32 >>> ((4 : Int32) &&& 31).toUInt32).toInt32) &&& (3 : Int32)) q0 q1 q2 q3))) (by rw [e477]; exact Ar482.1) (State.isArrayOf_alike hZ66.alike Ar482.2.1) Ar482.2.2 (own_inb q482 (n := 3) rfl (by decide) (by decide)) (own_get q482 (i := 2) (by decide) rfl) (g := (mkF m 336 #[.val (.long q0), .second, .val (.long q1), .second, .val (.long q2), .second, .val (.long q3), .second, .val (.int p4), .val (.int p5), .val (.int (3 : Int32)), .val (.int (p4 &&& (3 : Int32))), .val (.int (((p4.toUInt32 >>> ((2 : Int32) &&& 31).toUInt32).toInt32) &&& (3 : Int32))), .val (.int (((p4.toUInt32 >>> ((4 : Int32) &&& 31).toUInt32).toInt32) &&& (3 : Int32))), .val (.ref b2), .val (.ref b12), .val (.ref b19), .val (.ref b35), .val (.ref b55), .val (.ref b77), .val (.ref b376), .val (.ref r439), .val (.int (1 : Int32))] [(.int (2 : Int32)), (.ref r439)])) rfl rfl (hb hby at_336) _ ?_
        refine XS.iload X477.here hx rfl (hb hby at_337) rfl ?_
        refine XS.lloadN X477.here hx rfl (hb hby at_339) rfl ?_
        refine XS.lloadN X477.here hx rfl (hb hby at_340) rfl ?_
        refine XS.lload X477.here hx rfl (hb hby at_341) rfl ?_
        show Steps p.tables e below (T477.setTop (mkF m 343 #[.val (.long q0), .second, .val (.long q1), .second, .val (.long q2), .second, .val (.long q3), .second, .val (.int p4), .val (.int p5), .val (.int (3 : Int32)), .val (.int (p4 &&& (3 : Int32))), .val (.int (((p4.toUInt32 >>> ((2 : Int32) &&& 31).toUInt32).toInt32) &&& (3 : Int32))), .val (.int (((p4.toUInt32 >>> ((4 : Int32) &&& 31).toUInt32).toInt32) &&& (3 : Int32))), .val (.ref b2), .val (.ref b12), .val (.ref b19), .val (.ref b35), .val (.ref b55), .val (.ref b77), .val (.ref b376), .val (.ref r439), .val (.int (1 : Int32))] [(.long q2), (.long q1), (.long q0), (.int (((p4.toUInt32 >>> ((4 : Int32) &&& 31).toUInt32).toInt32) &&& (3 : Int32))), (.long (own_at (((p4.toUInt32 >>> ((4 : Int32) &&& 31).toUInt32).toInt32) &&& (3 : Int32)) q0 q1 q2 q3))])) _
        refine XS.lload X477.here hx rfl (hb hby at_343) rfl ?_
        exact kt)
    obtain ⟨_, _, ⟨T484, L484, k484, n484⟩, -, X484, ⟨Lc484, hQ484, l484, y484, z484⟩, st484⟩ := Jvm.LawKit.callS X477 hx (y := own_m26) hown66 (mvT hZ66 (own_h hw 180 rfl)) (mvT hZ66 (own_h hw 181 rfl)) (mvT hZ66 (own_h hw 182 rfl)) (mvT hZ66 (own_h hw 183 rfl)) (by decide) (backOf (W := 2) (rm24 l Z a0 hw [] (((p4.toUInt32 >>> ((4 : Int32) &&& 31).toUInt32).toInt32) &&& (3 : Int32)) q0 q1 q2 q3 T439.heap n0) hZ66 (own_h hw 183 rfl) (own_h hw 182 rfl) (by decide) (by decide)) (g := (mkF m 345 #[.val (.long q0), .second, .val (.long q1), .second, .val (.long q2), .second, .val (.long q3), .second, .val (.int p4), .val (.int p5), .val (.int (3 : Int32)), .val (.int (p4 &&& (3 : Int32))), .val (.int (((p4.toUInt32 >>> ((2 : Int32) &&& 31).toUInt32).toInt32) &&& (3 : Int32))), .val (.int (((p4.toUInt32 >>> ((4 : Int32) &&& 31).toUInt32).toInt32) &&& (3 : Int32))), .val (.ref b2), .val (.ref b12), .val (.ref b19), .val (.ref b35), .val (.ref b55), .val (.ref b77), .val (.ref b376), .val (.ref r439), .val (.int (1 : Int32))] [(.long q3), (.long q2), (.long q1), (.long q0), (.int (((p4.toUInt32 >>> ((4 : Int32) &&& 31).toUInt32).toInt32) &&& (3 : Int32))), (.long (own_at (((p4.toUInt32 >>> ((4 : Int32) &&& 31).toUInt32).toInt32) &&& (3 : Int32)) q0 q1 q2 q3))])) rfl (by rw [hml]; rfl) (argsL := [(.int (((p4.toUInt32 >>> ((4 : Int32) &&& 31).toUInt32).toInt32) &&& (3 : Int32))), (.long q0), (.long q1), (.long q2), (.long q3)]) (rest := [(.long (own_at (((p4.toUInt32 >>> ((4 : Int32) &&& 31).toUInt32).toInt32) &&& (3 : Int32)) q0 q1 q2 q3))]) (lenOf pd_16 rfl) rfl (by show 2 * 0 + _ ≤ _; exact Nat.le_of_eq rfl) (hb hby at_345) (fun _ _ => ⟨rfl, e477, (by decide : 18 + 0 ≤ _), (by decide : 73 + 0 ≤ _)⟩)
    dsimp only [Pt.U, Pt.locs, Pt.cells, Pt.slots] at X484 l484 y484 z484 st484 hQ484
    subst y484 z484
    obtain ⟨rfl, N484q, e484⟩ := hQ484
    have N484 := Fr.app N477 N484q
    rw [← l484] at N484
    have hc349_485 : (lcmpW (own_at (((p4.toUInt32 >>> ((4 : Int32) &&& 31).toUInt32).toInt32) &&& (3 : Int32)) q0 q1 q2 q3) (own_at (((p4.toUInt32 >>> ((4 : Int32) &&& 31).toUInt32).toInt32) &&& (3 : Int32)) q0 q1 q2 q3)) = (0 : Int32) := (lw_eq _ _).mpr rfl
    have go486 : ∀ t, Steps p.tables e below (T484.setTop (mkF m 361 #[.val (.long q0), .second, .val (.long q1), .second, .val (.long q2), .second, .val (.long q3), .second, .val (.int p4), .val (.int p5), .val (.int (3 : Int32)), .val (.int (p4 &&& (3 : Int32))), .val (.int (((p4.toUInt32 >>> ((2 : Int32) &&& 31).toUInt32).toInt32) &&& (3 : Int32))), .val (.int (((p4.toUInt32 >>> ((4 : Int32) &&& 31).toUInt32).toInt32) &&& (3 : Int32))), .val (.ref b2), .val (.ref b12), .val (.ref b19), .val (.ref b35), .val (.ref b55), .val (.ref b77), .val (.ref b376), .val (.ref r439), .val (.int (1 : Int32))] [(.int (1 : Int32))])) t → Steps p.tables e below (s₁.setTop (entryFrame m #[(.long q0), (.long q1), (.long q2), (.long q3), (.int p4), (.int p5)] maxLocals)) t := fun t kt => go483 t (by
        refine st484 _ ?_
        refine XS.lcmp X484.here hx rfl (hb hby at_348) rfl ?_
        refine XS.ifNo X484.here hx rfl (hb hby at_349) rfl ((if0 _ _).trans (teq hc349_485).2) ?_
        refine XS.iconst X484.here hx rfl (hb hby at_352) ?_
        refine XS.goto X484.here hx rfl (pc0 := 353) (pc' := 357) rfl (hb hby at_353) (by decide) (by decide) ?_
        refine XS.istore X484.here hx rfl (hb hby at_357) rfl (l' := #[.val (.long q0), .second, .val (.long q1), .second, .val (.long q2), .second, .val (.long q3), .second, .val (.int p4), .val (.int p5), .val (.int (3 : Int32)), .val (.int (p4 &&& (3 : Int32))), .val (.int (((p4.toUInt32 >>> ((2 : Int32) &&& 31).toUInt32).toInt32) &&& (3 : Int32))), .val (.int (((p4.toUInt32 >>> ((4 : Int32) &&& 31).toUInt32).toInt32) &&& (3 : Int32))), .val (.ref b2), .val (.ref b12), .val (.ref b19), .val (.ref b35), .val (.ref b55), .val (.ref b77), .val (.ref b376), .val (.ref r439), .val (.int (1 : Int32))]) rfl ?_
        refine XS.iload X484.here hx rfl (hb hby at_359) rfl ?_
        show Steps p.tables e below (T484.setTop (mkF m 361 #[.val (.long q0), .second, .val (.long q1), .second, .val (.long q2), .second, .val (.long q3), .second, .val (.int p4), .val (.int p5), .val (.int (3 : Int32)), .val (.int (p4 &&& (3 : Int32))), .val (.int (((p4.toUInt32 >>> ((2 : Int32) &&& 31).toUInt32).toInt32) &&& (3 : Int32))), .val (.int (((p4.toUInt32 >>> ((4 : Int32) &&& 31).toUInt32).toInt32) &&& (3 : Int32))), .val (.ref b2), .val (.ref b12), .val (.ref b19), .val (.ref b35), .val (.ref b55), .val (.ref b77), .val (.ref b376), .val (.ref r439), .val (.int (1 : Int32))] [(.int (1 : Int32))])) _
        exact kt)
    have hk487 := (Nat.le_trans (Nat.le_trans (Nat.le_trans (Nat.le_trans (Nat.le_trans (Nat.le_trans (Nat.le_trans (Nat.le_trans (Nat.le_trans HK66 K69.1) E77.1) K90.1) K356.1) K367.1) K372.1) E376.1) K389.1) K439.1)
    obtain ⟨fs, hr, hrun, hended, hEW⟩ := X484.leaveW HS66 (by rw [e484]; exact hk487) (v := some (.int (1 : Int32))) (fun h => by rw [Bd.returns] at h; cases h)
    refine ⟨_, _, go486 _ (retN X484 hx (t := .boolean) Bd.returns (by simp) (hb hby at_361) hr), hrun, hended, _, _, rfl, ?_, hEW.1, hEW.2.1, hEW.2.2.1, hEW.2.2.2.mono (by decide) (by decide)⟩
    exact ⟨rfl, N484⟩
set_option maxRecDepth 65536 in
set_option maxHeartbeats 40000000 in
theorem comes_1 {Post : Tables → Env → Array Value → State → Outcome → State → Prop} (hpost : ∀ tb e args s v u, (limb_1_1.after args s (.returned v) u = true ∧ limb_1_2.after args s (.returned v) u = true ∧ True) → ReturnedEndW s (.returned v) u (Jvm.fieldLocs frame_1_writes args s ++ Jvm.arrayLocs frame_1_arrays args s ++ Jvm.staticLocs frame_1_statics s) 40 3264 → Post tb e args s (.returned v) u) :
    ArmFor flags0 classFile x code maxLocals ret World_1 tables_1 room_1 Calls_1 rest_1 Pre_1 Post := by
  intro l hfl _ _ p e ha hc hk s m args below hf hA hF happ hP
  obtain ⟨hcalls, hrest, hpre⟩ := hP
  obtain ⟨-, -, -, hnamed, -, -, -, hat⟩ := (Spec.applies_iff hf).mp happ
  obtain ⟨hg, hn⟩ := and_e (Cond.before_iff.mp (show (Jvm.Cond.and given_1 narrow_1).before args s = true from hpre))
  obtain ⟨g1, g2⟩ := and_e hg
  obtain ⟨g3, g4⟩ := and_e g2
  obtain ⟨g5, g6⟩ := and_e g4
  obtain ⟨g7, g8⟩ := and_e g6
  obtain ⟨g9, g10⟩ := and_e g8
  obtain ⟨g11, g12⟩ := and_e g10
  obtain ⟨w0, w1, w2, w3, w4, w5, rfl⟩ : ∃ w0 w1 w2 w3 w4 w5 : Value, args = #[w0, w1, w2, w3, w4, w5] := by
    have hs : args.size = 6 := by simpa [Cond.value, given_1] using g1
    obtain ⟨L⟩ := args
    match L, hs with
    | [w0, w1, w2, w3, w4, w5], _ => exact ⟨w0, w1, w2, w3, w4, w5, rfl⟩
  have hw := fun d (hd : d ∈ tables_1) => atoms_spec (ws := Jvm.Cond.code x code maxLocals ret :: tables_1) hat d (List.mem_cons_of_mem _ hd)
  have hfit : Fit s := fun {y c} hc i hi => by
    obtain ⟨ha, rfl⟩ := Array.getElem?_eq_some_iff.mp hc
    have q := List.all_eq_true.mp ((Array.all_eq_true_iff_forall_mem.mp hF) _ (Array.getElem_mem ha)) i (List.mem_range.mpr hi)
    simpa [Array.getElem?_eq_getElem hi] using q
  obtain ⟨hsets, hown0⟩ := atoms_of _ (rest_1_c_eq ▸ (show rest_1_c.before _ s = true from hrest))
  have hr0 := Cond.before_iff.mp hown0
  obtain ⟨i0, ei0⟩ := isL_v g3
  obtain rfl : w0 = (.long i0) := Option.some.inj ei0
  obtain ⟨i1, ei1⟩ := isL_v g5
  obtain rfl : w1 = (.long i1) := Option.some.inj ei1
  obtain ⟨i2, ei2⟩ := isL_v g7
  obtain rfl : w2 = (.long i2) := Option.some.inj ei2
  obtain ⟨i3, ei3⟩ := isL_v g9
  obtain rfl : w3 = (.long i3) := Option.some.inj ei3
  obtain ⟨i4, ei4⟩ := is_v g11
  obtain rfl : w4 = (.int i4) := Option.some.inj ei4
  obtain ⟨i5, ei5⟩ := is_v g12
  obtain rfl : w5 = (.int i5) := Option.some.inj ei5
  obtain ⟨dd, SS, DV⟩ := own_start s _ hw hsets
  obtain ⟨n, o, h1, h2, h3, v, L, rfl, ⟨hv, N⟩, hq⟩ := rm0 l s _ hw tables_1 i0 i1 i2 i3 i4 i5 dd s.heap s.heap.size (Nat.le_refl _) (Old.start s) SS DV p e ha hc hk s m _ below hf ((Spec.applies_iff_loose hf).mp happ).1 ⟨rfl, State.Warmed39.refl s, rfl⟩ trivial
  obtain rfl : v = some (.int 1) := hv
  refine ⟨n, _, h1, h2, h3, hpost _ _ _ _ _ _ ⟨Cond.after_iff.mpr rfl, Cond.after_iff.mpr (eq_i res_at (Term.int_eval (1)) rfl), trivial⟩ ⟨hq.1, hq.2.1, hq.2.2.1, (hq.2.2.2.sift fun y hy => Or.inr (N y hy)).mono (by decide) (by decide)⟩⟩
theorem main_1_1 : Claimed_1_1 := comes_1 fun _ _ _ _ _ _ h hF => ⟨h.1, hF⟩
theorem main_1_2 : Claimed_1_2 := comes_1 fun _ _ _ _ _ _ h hF => ⟨h.2.1, hF⟩
end Jvm.Pilot.@@N@@
namespace Jvm.Pilot.@@N@@
open Jvm Jvm.ClassFile Sem Op Lib Jvm.Free Jvm.Stand Jvm.Pilot.@@N@@.Jvm.D
/-! MADE BY PROGRAM (witnessworld.py) out of the Statement's table words and the real class files: 33 classes; the members and pool entries that the words name. The judged class is class 1, her method 1. -/
namespace start1
open Jvm.ClassFile
def u (s : String) : CpInfo := .utf8 (stringToUtf16 s)
/-- a pool by its gaps: so many unusable entries, then the entry; so many at the end -/
def gap : Nat → List CpInfo → List CpInfo
  | 0, r => r
  | n + 1, r => .unusable :: gap n r
def poolList (es : List (Nat × CpInfo)) (last : Nat) : List CpInfo := es.foldr (fun e r => gap e.1 (e.2 :: r)) (gap last [])
def pool (es : List (Nat × CpInfo)) (last : Nat) : Array CpInfo := ⟨poolList es last⟩
def fileOf (pool : Array CpInfo) (this : Nat) (attrs : Array Attribute := #[]) (ms : Array MethodInfo := #[]) (fl : Nat := 33) (sup : Nat := 0) (ifs : Array Nat := #[]) (fds : Array FieldInfo := #[]) : ClassFile where
  minorVersion := 0
  majorVersion := 65
  constantPool := pool
  accessFlags := fl
  thisClass := this
  superClass := sup
  interfaces := ifs
  fields := fds
  methods := ms
  attributes := attrs
def plain (name : String) (sup : Option ClassId) : Class where
  name := name
  kind := .ordinary
  loader := none
  accessFlags := 33
  super := sup
  interfaces := #[]
  cf := none
  fields := #[]
  methods := #[]
  instanceTypes := #[]
  staticTypes := #[]
  resolved := #[]
  callSites := []
  init := .initialized
  statics := none
  mirror := none

def pool0 : Array CpInfo := pool [(5, u "<init>"), (0, u "()V"), (1, .class_ 10), (1, u "java/lang/Object")] 113

def k0c0 : Code := { maxStack := 0, maxLocals := 1, code := object_method_1_code, exceptionTable := #[], attributes := #[] }
def k0m0 : Method := { name := "<init>", desc := "()V", sig := { parameters := [], returnType := none }, accessFlags := 1, code := some k0c0 }
/-- java/lang/Object -/
def k0 : Class := { plain "java/lang/Object" none with
  accessFlags := 33
  interfaces := #[]
  cf := some (fileOf pool0 8 #[] #[{ accessFlags := 1, nameIndex := 5, descriptorIndex := 6, attributes := #[] }] 33 0 #[] #[])
  fields := #[]
  methods := #[k0m0]
  instanceTypes := #[]
  staticTypes := #[]
  resolved := Array.replicate 124 none
  statics := none }

def pool1 : Array CpInfo := pool [(2, .class_ 4), (0, .nameAndType 5 6), (0, u "java/lang/Object"), (0, u "<init>"), (0, u "()V"), (0, .class_ 8), (0, u "com/example/invariant_ink/invariantink/lang/RangeType"), (0, .methodref 7 10), (0, .nameAndType 5 11), (0, u "(JJ)V"), (0, .class_ 13), (0, u "com/example/invariant_ink/invariantink/lang/Local"), (0, .string 15), (0, u "p"), (0, .methodref 12 17), (0, .nameAndType 5 18), (0, u "(Ljava/lang/String;Lcom/example/invariant_ink/invariantink/lang/Local$Kind;ILcom/example/invariant_ink/invariantink/lang/Type;Lcom/example/invariant_ink/invariantink/lang/Position;)V"), (0, .string 20), (0, u "q"), (0, .string 22), (0, u "r"), (0, .class_ 24), (0, u "java/util/ArrayList"), (0, .methodref 23 3), (0, .methodref 23 27), (0, .nameAndType 28 29), (0, u "add"), (0, u "(Ljava/lang/Object;)Z"), (0, .class_ 31), (0, u "com/example/invariant_ink/invariantink/engine/Combinations"), (0, .methodref 30 33), (0, .nameAndType 5 34), (0, u "(Ljava/util/List;)V"), (0, .methodref 30 36), (0, .nameAndType 37 38), (0, u "values"), (0, u "([J)[J"), (0, .methodref 40 41), (0, .class_ 42), (0, .nameAndType 43 44), (0, u "com/example/invariant_ink/invariantink/engine/CombinationsValuesPinLaw"), (0, u "at"), (0, u "(IJJJJ)J"), (2, u "law"), (0, u "(JJJJII)Z")] 9

def k1m0 : Method := { name := "<init>", desc := "()V", sig := { parameters := [], returnType := none }, accessFlags := 1, code := none }
def k1c1 : Code := { maxStack := 11, maxLocals := 23, code := code, exceptionTable := #[], attributes := #[] }
def k1m1 : Method := { name := "law", desc := "(JJJJII)Z", sig := { parameters := [.long, .long, .long, .long, .int, .int], returnType := some .boolean }, accessFlags := 9, code := some k1c1 }
def k1c2 : Code := { maxStack := 2, maxLocals := 9, code := method_3_code, exceptionTable := #[], attributes := #[] }
def k1m2 : Method := { name := "at", desc := "(IJJJJ)J", sig := { parameters := [.int, .long, .long, .long, .long], returnType := some .long }, accessFlags := 10, code := some k1c2 }
/-- com/example/invariant_ink/invariantink/engine/CombinationsValuesPinLaw -/
def k1 : Class := { plain "com/example/invariant_ink/invariantink/engine/CombinationsValuesPinLaw" (some 0) with
  accessFlags := 49
  interfaces := #[]
  cf := some (fileOf pool1 40 #[] #[{ accessFlags := 1, nameIndex := 5, descriptorIndex := 6, attributes := #[] }, { accessFlags := 9, nameIndex := 47, descriptorIndex := 48, attributes := #[] }, { accessFlags := 10, nameIndex := 43, descriptorIndex := 44, attributes := #[] }] 49 2 #[] #[])
  fields := #[]
  methods := #[k1m0, k1m1, k1m2]
  instanceTypes := #[]
  staticTypes := #[]
  resolved := Array.replicate 58 none
  statics := none }

def pool2 : Array CpInfo := pool [(8, .class_ 10), (1, u "com/example/invariant_ink/invariantink/lang/Type"), (0, u "BOOL"), (0, u "Lcom/example/invariant_ink/invariantink/lang/FiniteType;"), (5, u "INTEGER"), (0, u "Lcom/example/invariant_ink/invariantink/lang/Type;"), (0, .class_ 21), (0, u "java/lang/Object")] 12

/-- com/example/invariant_ink/invariantink/lang/Type -/
def k2 : Class := { plain "com/example/invariant_ink/invariantink/lang/Type" (some 0) with
  accessFlags := 1537
  interfaces := #[]
  cf := some (fileOf pool2 8 #[] #[] 1537 20 #[] #[{ accessFlags := 25, nameIndex := 11, descriptorIndex := 12, attributes := #[] }, { accessFlags := 25, nameIndex := 18, descriptorIndex := 19, attributes := #[] }])
  fields := #[{ name := "BOOL", type := (.object "com/example/invariant_ink/invariantink/lang/FiniteType"), accessFlags := 25, slot := 0, constantValue := 0 }, { name := "INTEGER", type := (.object "com/example/invariant_ink/invariantink/lang/Type"), accessFlags := 25, slot := 1, constantValue := 0 }]
  methods := #[]
  instanceTypes := #[]
  staticTypes := #[(.object "com/example/invariant_ink/invariantink/lang/FiniteType"), (.object "com/example/invariant_ink/invariantink/lang/Type")]
  resolved := Array.replicate 34 none
  statics := none }

def pool3 : Array CpInfo := pool [(1, .class_ 2), (0, u "com/example/invariant_ink/invariantink/lang/SimpleType"), (0, .class_ 4), (0, u "java/lang/Object"), (0, .class_ 6), (0, u "com/example/invariant_ink/invariantink/lang/Type"), (0, u "first"), (0, u "()J")] 9

def k3m0 : Method := { name := "first", desc := "()J", sig := { parameters := [], returnType := some .long }, accessFlags := 1025, code := none }
/-- com/example/invariant_ink/invariantink/lang/SimpleType -/
def k3 : Class := { plain "com/example/invariant_ink/invariantink/lang/SimpleType" (some 0) with
  accessFlags := 1537
  interfaces := #[2]
  cf := some (fileOf pool3 1 #[] #[{ accessFlags := 1025, nameIndex := 7, descriptorIndex := 8, attributes := #[] }] 1537 3 #[5] #[])
  fields := #[]
  methods := #[k3m0]
  instanceTypes := #[]
  staticTypes := #[]
  resolved := Array.replicate 18 none
  statics := none }

def pool4 : Array CpInfo := pool [(2, .class_ 4), (1, u "com/example/invariant_ink/invariantink/lang/FiniteType"), (0, u "last"), (0, u "()J"), (18, .class_ 26), (0, u "java/lang/Object"), (0, .class_ 28), (0, u "com/example/invariant_ink/invariantink/lang/SimpleType")] 13

def k4m0 : Method := { name := "last", desc := "()J", sig := { parameters := [], returnType := some .long }, accessFlags := 1025, code := none }
/-- com/example/invariant_ink/invariantink/lang/FiniteType -/
def k4 : Class := { plain "com/example/invariant_ink/invariantink/lang/FiniteType" (some 0) with
  accessFlags := 1537
  interfaces := #[3]
  cf := some (fileOf pool4 2 #[] #[{ accessFlags := 1025, nameIndex := 5, descriptorIndex := 6, attributes := #[] }] 1537 25 #[27] #[])
  fields := #[]
  methods := #[k4m0]
  instanceTypes := #[]
  staticTypes := #[]
  resolved := Array.replicate 42 none
  statics := none }

def pool5 : Array CpInfo := pool [(1, .methodref 2 3), (0, .class_ 4), (0, .nameAndType 5 6), (0, u "java/lang/Object"), (0, u "<init>"), (0, u "()V"), (9, .fieldref 17 18), (0, .class_ 19), (0, .nameAndType 20 21), (0, u "com/example/invariant_ink/invariantink/lang/RangeType"), (0, u "low"), (0, u "J"), (0, .fieldref 17 23), (0, .nameAndType 24 21), (0, u "high"), (7, .class_ 33), (0, u "com/example/invariant_ink/invariantink/lang/FiniteType"), (0, u "(JJ)V"), (7, u "first"), (0, u "()J"), (0, u "last")] 21

def k5c0 : Code := { maxStack := 6, maxLocals := 5, code := prog_172_method_1_code, exceptionTable := #[], attributes := #[] }
def k5m0 : Method := { name := "<init>", desc := "(JJ)V", sig := { parameters := [.long, .long], returnType := none }, accessFlags := 1, code := some k5c0 }
def k5c1 : Code := { maxStack := 2, maxLocals := 1, code := prog_172_method_4_code, exceptionTable := #[], attributes := #[] }
def k5m1 : Method := { name := "first", desc := "()J", sig := { parameters := [], returnType := some .long }, accessFlags := 1, code := some k5c1 }
def k5c2 : Code := { maxStack := 2, maxLocals := 1, code := prog_172_method_5_code, exceptionTable := #[], attributes := #[] }
def k5m2 : Method := { name := "last", desc := "()J", sig := { parameters := [], returnType := some .long }, accessFlags := 1, code := some k5c2 }
/-- com/example/invariant_ink/invariantink/lang/RangeType -/
def k5 : Class := { plain "com/example/invariant_ink/invariantink/lang/RangeType" (some 0) with
  accessFlags := 49
  interfaces := #[4]
  cf := some (fileOf pool5 17 #[] #[{ accessFlags := 1, nameIndex := 5, descriptorIndex := 34, attributes := #[] }, { accessFlags := 1, nameIndex := 42, descriptorIndex := 43, attributes := #[] }, { accessFlags := 1, nameIndex := 44, descriptorIndex := 43, attributes := #[] }] 49 2 #[32] #[{ accessFlags := 18, nameIndex := 20, descriptorIndex := 21, attributes := #[] }, { accessFlags := 18, nameIndex := 24, descriptorIndex := 21, attributes := #[] }])
  fields := #[{ name := "low", type := .long, accessFlags := 18, slot := 0, constantValue := 0 }, { name := "high", type := .long, accessFlags := 18, slot := 1, constantValue := 0 }]
  methods := #[k5m0, k5m1, k5m2]
  instanceTypes := #[.long, .long]
  staticTypes := #[]
  resolved := Array.replicate 66 none
  statics := none }

def pool6 : Array CpInfo := pool [(1, .methodref 2 3), (0, .class_ 4), (0, .nameAndType 5 6), (0, u "java/lang/Object"), (0, u "<init>"), (0, u "()V"), (0, .fieldref 8 9), (0, .class_ 10), (0, .nameAndType 11 12), (0, u "com/example/invariant_ink/invariantink/lang/Local"), (0, u "name"), (0, u "Ljava/lang/String;"), (0, .fieldref 8 14), (0, .nameAndType 15 16), (0, u "kind"), (0, u "Lcom/example/invariant_ink/invariantink/lang/Local$Kind;"), (0, .fieldref 8 18), (0, .nameAndType 19 20), (0, u "slot"), (0, u "I"), (0, .fieldref 8 22), (0, .nameAndType 23 24), (0, u "type"), (0, u "Lcom/example/invariant_ink/invariantink/lang/Type;"), (0, .fieldref 8 26), (0, .nameAndType 27 28), (0, u "position"), (0, u "Lcom/example/invariant_ink/invariantink/lang/Position;"), (0, u "(Ljava/lang/String;Lcom/example/invariant_ink/invariantink/lang/Local$Kind;ILcom/example/invariant_ink/invariantink/lang/Type;Lcom/example/invariant_ink/invariantink/lang/Position;)V"), (6, u "getSlot"), (0, u "()I"), (0, u "getType"), (0, u "()Lcom/example/invariant_ink/invariantink/lang/Type;"), (6, .class_ 47), (0, u "com/example/invariant_ink/invariantink/lang/Local$Kind")] 2

def k6c0 : Code := { maxStack := 2, maxLocals := 6, code := prog_159_method_1_code, exceptionTable := #[], attributes := #[] }
def k6m0 : Method := { name := "<init>", desc := "(Ljava/lang/String;Lcom/example/invariant_ink/invariantink/lang/Local$Kind;ILcom/example/invariant_ink/invariantink/lang/Type;Lcom/example/invariant_ink/invariantink/lang/Position;)V", sig := { parameters := [(.object "java/lang/String"), (.object "com/example/invariant_ink/invariantink/lang/Local$Kind"), .int, (.object "com/example/invariant_ink/invariantink/lang/Type"), (.object "com/example/invariant_ink/invariantink/lang/Position")], returnType := none }, accessFlags := 1, code := some k6c0 }
def k6c1 : Code := { maxStack := 1, maxLocals := 1, code := prog_159_method_4_code, exceptionTable := #[], attributes := #[] }
def k6m1 : Method := { name := "getSlot", desc := "()I", sig := { parameters := [], returnType := some .int }, accessFlags := 1, code := some k6c1 }
def k6c2 : Code := { maxStack := 1, maxLocals := 1, code := prog_159_method_5_code, exceptionTable := #[], attributes := #[] }
def k6m2 : Method := { name := "getType", desc := "()Lcom/example/invariant_ink/invariantink/lang/Type;", sig := { parameters := [], returnType := some (.object "com/example/invariant_ink/invariantink/lang/Type") }, accessFlags := 1, code := some k6c2 }
/-- com/example/invariant_ink/invariantink/lang/Local -/
def k6 : Class := { plain "com/example/invariant_ink/invariantink/lang/Local" (some 0) with
  accessFlags := 33
  interfaces := #[]
  cf := some (fileOf pool6 8 #[.nestMembers #[46]] #[{ accessFlags := 1, nameIndex := 5, descriptorIndex := 29, attributes := #[] }, { accessFlags := 1, nameIndex := 36, descriptorIndex := 37, attributes := #[] }, { accessFlags := 1, nameIndex := 38, descriptorIndex := 39, attributes := #[] }] 33 2 #[] #[{ accessFlags := 18, nameIndex := 11, descriptorIndex := 12, attributes := #[] }, { accessFlags := 18, nameIndex := 15, descriptorIndex := 16, attributes := #[] }, { accessFlags := 18, nameIndex := 19, descriptorIndex := 20, attributes := #[] }, { accessFlags := 18, nameIndex := 23, descriptorIndex := 24, attributes := #[] }, { accessFlags := 18, nameIndex := 27, descriptorIndex := 28, attributes := #[] }])
  fields := #[{ name := "name", type := (.object "java/lang/String"), accessFlags := 18, slot := 0, constantValue := 0 }, { name := "kind", type := (.object "com/example/invariant_ink/invariantink/lang/Local$Kind"), accessFlags := 18, slot := 1, constantValue := 0 }, { name := "slot", type := .int, accessFlags := 18, slot := 2, constantValue := 0 }, { name := "type", type := (.object "com/example/invariant_ink/invariantink/lang/Type"), accessFlags := 18, slot := 3, constantValue := 0 }, { name := "position", type := (.object "com/example/invariant_ink/invariantink/lang/Position"), accessFlags := 18, slot := 4, constantValue := 0 }]
  methods := #[k6m0, k6m1, k6m2]
  instanceTypes := #[(.object "java/lang/String"), (.object "com/example/invariant_ink/invariantink/lang/Local$Kind"), .int, (.object "com/example/invariant_ink/invariantink/lang/Type"), (.object "com/example/invariant_ink/invariantink/lang/Position")]
  staticTypes := #[]
  resolved := Array.replicate 50 none
  statics := none }

def pool7 : Array CpInfo := pool [(1, .class_ 2), (0, u "java/io/Serializable"), (0, .class_ 4), (0, u "java/lang/Object")] 2

/-- java/io/Serializable -/
def k7 : Class := { plain "java/io/Serializable" (some 0) with
  accessFlags := 1537
  interfaces := #[]
  cf := some (fileOf pool7 1 #[] #[] 1537 3 #[] #[])
  fields := #[]
  methods := #[]
  instanceTypes := #[]
  staticTypes := #[]
  resolved := Array.replicate 7 none
  statics := none }

def pool8 : Array CpInfo := pool [(1, .class_ 2), (0, u "java/lang/Comparable"), (0, .class_ 4), (0, u "java/lang/Object")] 7

/-- java/lang/Comparable -/
def k8 : Class := { plain "java/lang/Comparable" (some 0) with
  accessFlags := 1537
  interfaces := #[]
  cf := some (fileOf pool8 1 #[] #[] 1537 3 #[] #[])
  fields := #[]
  methods := #[]
  instanceTypes := #[]
  staticTypes := #[]
  resolved := Array.replicate 12 none
  statics := none }

def pool9 : Array CpInfo := pool [(2, .class_ 4), (1, u "java/lang/CharSequence"), (42, .class_ 48), (0, u "java/lang/CharSequence$1CodePointIterator"), (10, .class_ 60), (0, u "java/lang/CharSequence$1CharIterator"), (5, .class_ 67), (0, u "java/lang/Object")] 63

/-- java/lang/CharSequence -/
def k9 : Class := { plain "java/lang/CharSequence" (some 0) with
  accessFlags := 1537
  interfaces := #[]
  cf := some (fileOf pool9 2 #[.nestMembers #[47, 59]] #[] 1537 66 #[] #[])
  fields := #[]
  methods := #[]
  instanceTypes := #[]
  staticTypes := #[]
  resolved := Array.replicate 131 none
  statics := none }

def pool10 : Array CpInfo := pool [(1, .class_ 2), (0, u "java/lang/constant/Constable"), (0, .class_ 4), (0, u "java/lang/Object")] 6

/-- java/lang/constant/Constable -/
def k10 : Class := { plain "java/lang/constant/Constable" (some 0) with
  accessFlags := 1537
  interfaces := #[]
  cf := some (fileOf pool10 1 #[] #[] 1537 3 #[] #[])
  fields := #[]
  methods := #[]
  instanceTypes := #[]
  staticTypes := #[]
  resolved := Array.replicate 11 none
  statics := none }

def pool11 : Array CpInfo := pool [(1, .class_ 2), (0, u "java/lang/constant/ConstantDesc"), (0, .class_ 4), (0, u "java/lang/Object")] 32

/-- java/lang/constant/ConstantDesc -/
def k11 : Class := { plain "java/lang/constant/ConstantDesc" (some 0) with
  accessFlags := 1537
  interfaces := #[]
  cf := some (fileOf pool11 1 #[] #[] 1537 3 #[] #[])
  fields := #[]
  methods := #[]
  instanceTypes := #[]
  staticTypes := #[]
  resolved := Array.replicate 37 none
  statics := none }

def pool12 : Array CpInfo := pool [(2, .class_ 4), (1, u "java/lang/Object"), (0, u "<init>"), (0, u "()V"), (3, .class_ 12), (1, u "java/lang/String"), (0, u "value"), (0, u "[B"), (2, u "coder"), (0, u "B"), (2, u "hash"), (0, u "I"), (2, u "hashIsZero"), (0, u "Z"), (13, u "COMPACT_STRINGS"), (534, .class_ 576), (0, u "java/lang/CharSequence"), (22, u "CASE_INSENSITIVE_ORDER"), (0, u "Ljava/util/Comparator;"), (500, u "serialPersistentFields"), (0, u "[Ljava/io/ObjectStreamField;"), (0, .class_ 1104), (0, u "java/lang/String$CaseInsensitiveComparator"), (1, .class_ 1107), (0, u "java/io/Serializable"), (0, .class_ 1109), (0, u "java/lang/Comparable"), (0, .class_ 1111), (0, u "java/lang/constant/Constable"), (0, .class_ 1113), (0, u "java/lang/constant/ConstantDesc"), (2, u "serialVersionUID"), (0, u "J"), (3, u "REPL"), (0, u "C"), (2, u "LATIN1"), (1, u "UTF16")] 323

def k12m0 : Method := { name := "<init>", desc := "()V", sig := { parameters := [], returnType := none }, accessFlags := 1, code := none }
/-- java/lang/String -/
def k12 : Class := { plain "java/lang/String" (some 0) with
  accessFlags := 49
  interfaces := #[7, 8, 9, 10, 11]
  cf := some (fileOf pool12 10 #[.nestMembers #[1103]] #[{ accessFlags := 1, nameIndex := 5, descriptorIndex := 6, attributes := #[] }] 49 2 #[1106, 1108, 575, 1110, 1112] #[{ accessFlags := 18, nameIndex := 13, descriptorIndex := 14, attributes := #[] }, { accessFlags := 18, nameIndex := 17, descriptorIndex := 18, attributes := #[] }, { accessFlags := 2, nameIndex := 21, descriptorIndex := 22, attributes := #[] }, { accessFlags := 2, nameIndex := 25, descriptorIndex := 26, attributes := #[] }, { accessFlags := 26, nameIndex := 1116, descriptorIndex := 1117, attributes := #[] }, { accessFlags := 24, nameIndex := 40, descriptorIndex := 26, attributes := #[] }, { accessFlags := 26, nameIndex := 1101, descriptorIndex := 1102, attributes := #[] }, { accessFlags := 26, nameIndex := 1121, descriptorIndex := 1122, attributes := #[] }, { accessFlags := 25, nameIndex := 599, descriptorIndex := 600, attributes := #[] }, { accessFlags := 24, nameIndex := 1125, descriptorIndex := 18, attributes := #[] }, { accessFlags := 24, nameIndex := 1127, descriptorIndex := 18, attributes := #[] }])
  fields := #[{ name := "value", type := (.array .byte), accessFlags := 18, slot := 0, constantValue := 0 }, { name := "coder", type := .byte, accessFlags := 18, slot := 1, constantValue := 0 }, { name := "hash", type := .int, accessFlags := 2, slot := 2, constantValue := 0 }, { name := "hashIsZero", type := .boolean, accessFlags := 2, slot := 3, constantValue := 0 }, { name := "serialVersionUID", type := .long, accessFlags := 26, slot := 0, constantValue := 0 }, { name := "COMPACT_STRINGS", type := .boolean, accessFlags := 24, slot := 1, constantValue := 0 }, { name := "serialPersistentFields", type := (.array (.object "java/io/ObjectStreamField")), accessFlags := 26, slot := 2, constantValue := 0 }, { name := "REPL", type := .char, accessFlags := 26, slot := 3, constantValue := 0 }, { name := "CASE_INSENSITIVE_ORDER", type := (.object "java/util/Comparator"), accessFlags := 25, slot := 4, constantValue := 0 }, { name := "LATIN1", type := .byte, accessFlags := 24, slot := 5, constantValue := 0 }, { name := "UTF16", type := .byte, accessFlags := 24, slot := 6, constantValue := 0 }]
  methods := #[k12m0]
  instanceTypes := #[(.array .byte), .byte, .int, .boolean]
  staticTypes := #[.long, .boolean, (.array (.object "java/io/ObjectStreamField")), .char, (.object "java/util/Comparator"), .byte, .byte]
  resolved := Array.replicate 1451 none
  statics := none }

def pool13 : Array CpInfo := pool [(8, .class_ 10), (1, u "java/lang/Iterable"), (24, .class_ 36), (0, u "java/lang/Object")] 25

/-- java/lang/Iterable -/
def k13 : Class := { plain "java/lang/Iterable" (some 0) with
  accessFlags := 1537
  interfaces := #[]
  cf := some (fileOf pool13 8 #[] #[] 1537 35 #[] #[])
  fields := #[]
  methods := #[]
  instanceTypes := #[]
  staticTypes := #[]
  resolved := Array.replicate 62 none
  statics := none }

def pool14 : Array CpInfo := pool [(10, .class_ 12), (1, u "java/util/Collection"), (47, .class_ 61), (0, u "java/lang/Object"), (0, .class_ 63), (0, u "java/lang/Iterable")] 51

/-- java/util/Collection -/
def k14 : Class := { plain "java/util/Collection" (some 0) with
  accessFlags := 1537
  interfaces := #[13]
  cf := some (fileOf pool14 10 #[] #[] 1537 60 #[62] #[])
  fields := #[]
  methods := #[]
  instanceTypes := #[]
  staticTypes := #[]
  resolved := Array.replicate 115 none
  statics := none }

def pool15 : Array CpInfo := pool [(1, .methodref 2 3), (0, .class_ 4), (0, .nameAndType 5 6), (0, u "java/lang/Object"), (0, u "<init>"), (0, u "()V"), (1, .class_ 10), (1, u "java/util/AbstractCollection"), (66, .class_ 78), (0, u "java/util/Collection")] 81

def k15c0 : Code := { maxStack := 1, maxLocals := 1, code := jdk_22_method_1_code, exceptionTable := #[], attributes := #[] }
def k15m0 : Method := { name := "<init>", desc := "()V", sig := { parameters := [], returnType := none }, accessFlags := 4, code := some k15c0 }
/-- java/util/AbstractCollection -/
def k15 : Class := { plain "java/util/AbstractCollection" (some 0) with
  accessFlags := 1057
  interfaces := #[14]
  cf := some (fileOf pool15 8 #[] #[{ accessFlags := 4, nameIndex := 5, descriptorIndex := 6, attributes := #[] }] 1057 2 #[77] #[])
  fields := #[]
  methods := #[k15m0]
  instanceTypes := #[]
  staticTypes := #[]
  resolved := Array.replicate 160 none
  statics := none }

def pool16 : Array CpInfo := pool [(8, .class_ 10), (1, u "java/util/SequencedCollection"), (15, .class_ 27), (0, u "java/lang/Object"), (0, .class_ 29), (0, u "java/util/Collection")] 27

/-- java/util/SequencedCollection -/
def k16 : Class := { plain "java/util/SequencedCollection" (some 0) with
  accessFlags := 1537
  interfaces := #[14]
  cf := some (fileOf pool16 8 #[] #[] 1537 26 #[28] #[])
  fields := #[]
  methods := #[]
  instanceTypes := #[]
  staticTypes := #[]
  resolved := Array.replicate 57 none
  statics := none }

def pool17 : Array CpInfo := pool [(8, .class_ 10), (1, u "java/util/List"), (64, u "get"), (0, u "(I)Ljava/lang/Object;"), (2, u "size"), (0, u "()I"), (22, .class_ 104), (0, u "java/lang/Object"), (15, .class_ 121), (0, u "java/util/SequencedCollection")] 129

def k17m0 : Method := { name := "size", desc := "()I", sig := { parameters := [], returnType := some .int }, accessFlags := 1025, code := none }
def k17m1 : Method := { name := "get", desc := "(I)Ljava/lang/Object;", sig := { parameters := [.int], returnType := some (.object "java/lang/Object") }, accessFlags := 1025, code := none }
/-- java/util/List -/
def k17 : Class := { plain "java/util/List" (some 0) with
  accessFlags := 1537
  interfaces := #[16]
  cf := some (fileOf pool17 8 #[] #[{ accessFlags := 1025, nameIndex := 79, descriptorIndex := 80, attributes := #[] }, { accessFlags := 1025, nameIndex := 75, descriptorIndex := 76, attributes := #[] }] 1537 103 #[120] #[])
  fields := #[]
  methods := #[k17m0, k17m1]
  instanceTypes := #[]
  staticTypes := #[]
  resolved := Array.replicate 251 none
  statics := none }

def pool18 : Array CpInfo := pool [(1, .methodref 2 3), (0, .class_ 4), (0, .nameAndType 5 6), (0, u "java/util/AbstractCollection"), (0, u "<init>"), (0, u "()V"), (0, .fieldref 8 9), (0, .class_ 10), (0, .nameAndType 11 12), (0, u "java/util/AbstractList"), (0, u "modCount"), (0, u "I"), (64, .class_ 78), (0, u "java/util/AbstractList$Itr"), (3, .class_ 83), (0, u "java/util/AbstractList$ListItr"), (9, .class_ 94), (0, u "java/util/AbstractList$RandomAccessSubList"), (3, .class_ 99), (0, u "java/util/AbstractList$SubList"), (33, .class_ 134), (0, u "java/util/List"), (73, .class_ 209), (0, u "java/util/AbstractList$SubList$1"), (0, .class_ 211), (0, u "java/util/AbstractList$RandomAccessSpliterator")] 6

def k18c0 : Code := { maxStack := 2, maxLocals := 1, code := jdk_39_method_1_code, exceptionTable := #[], attributes := #[] }
def k18m0 : Method := { name := "<init>", desc := "()V", sig := { parameters := [], returnType := none }, accessFlags := 4, code := some k18c0 }
/-- java/util/AbstractList -/
def k18 : Class := { plain "java/util/AbstractList" (some 15) with
  accessFlags := 1057
  interfaces := #[17]
  cf := some (fileOf pool18 8 #[.nestMembers #[93, 98, 208, 210, 82, 77]] #[{ accessFlags := 4, nameIndex := 5, descriptorIndex := 6, attributes := #[] }] 1057 2 #[133] #[{ accessFlags := 132, nameIndex := 11, descriptorIndex := 12, attributes := #[] }])
  fields := #[{ name := "modCount", type := .int, accessFlags := 132, slot := 0, constantValue := 0 }]
  methods := #[k18m0]
  instanceTypes := #[.int]
  staticTypes := #[]
  resolved := Array.replicate 218 none
  statics := none }

def pool19 : Array CpInfo := pool [(1, .class_ 2), (0, u "java/util/RandomAccess"), (0, .class_ 4), (0, u "java/lang/Object")] 2

/-- java/util/RandomAccess -/
def k19 : Class := { plain "java/util/RandomAccess" (some 0) with
  accessFlags := 1537
  interfaces := #[]
  cf := some (fileOf pool19 1 #[] #[] 1537 3 #[] #[])
  fields := #[]
  methods := #[]
  instanceTypes := #[]
  staticTypes := #[]
  resolved := Array.replicate 7 none
  statics := none }

def pool20 : Array CpInfo := pool [(1, .class_ 2), (0, u "java/lang/Cloneable"), (0, .class_ 4), (0, u "java/lang/Object")] 2

/-- java/lang/Cloneable -/
def k20 : Class := { plain "java/lang/Cloneable" (some 0) with
  accessFlags := 1537
  interfaces := #[]
  cf := some (fileOf pool20 1 #[] #[] 1537 3 #[] #[])
  fields := #[]
  methods := #[]
  instanceTypes := #[]
  staticTypes := #[]
  resolved := Array.replicate 7 none
  statics := none }

def pool21 : Array CpInfo := pool [(1, .methodref 2 3), (0, .class_ 4), (0, .nameAndType 5 6), (0, u "java/util/AbstractList"), (0, u "<init>"), (0, u "()V"), (0, .class_ 8), (0, u "java/lang/Object"), (0, .fieldref 10 11), (0, .class_ 12), (0, .nameAndType 13 14), (0, u "java/util/ArrayList"), (0, u "elementData"), (0, u "[Ljava/lang/Object;"), (2, u "EMPTY_ELEMENTDATA"), (21, .fieldref 10 40), (0, .nameAndType 41 14), (0, u "DEFAULTCAPACITY_EMPTY_ELEMENTDATA"), (5, u "()[Ljava/lang/Object;"), (0, .fieldref 10 49), (0, .nameAndType 50 51), (0, u "size"), (0, u "I"), (11, .fieldref 10 64), (0, .nameAndType 65 51), (0, u "modCount"), (3, .methodref 10 70), (0, .nameAndType 71 72), (0, u "grow"), (0, u "(I)[Ljava/lang/Object;"), (6, .methodref 80 81), (0, .class_ 82), (0, .nameAndType 83 84), (0, u "java/lang/Math"), (0, u "max"), (0, u "(II)I"), (11, u "(Ljava/lang/Object;)Z"), (21, .methodref 119 120), (0, .class_ 121), (0, .nameAndType 122 84), (0, u "java/util/Objects"), (0, u "checkIndex"), (0, .methodref 10 124), (0, .nameAndType 13 125), (0, u "(I)Ljava/lang/Object;"), (3, .methodref 10 130), (0, .nameAndType 71 47), (0, .methodref 10 132), (0, .nameAndType 133 134), (0, u "add"), (0, u "(Ljava/lang/Object;[Ljava/lang/Object;I)V"), (13, .class_ 149), (0, u "java/util/List"), (36, u "()I"), (75, .class_ 263), (0, u "java/util/ArrayList$ListItr"), (3, .class_ 268), (0, u "java/util/ArrayList$Itr"), (7, .class_ 277), (0, u "java/util/ArrayList$SubList"), (12, .class_ 291), (0, u "java/util/ArrayList$ArrayListSpliterator"), (37, .class_ 330), (0, u "java/util/RandomAccess"), (0, .class_ 332), (0, u "java/lang/Cloneable"), (0, .class_ 334), (0, u "java/io/Serializable"), (0, u "serialVersionUID"), (0, u "J"), (3, u "DEFAULT_CAPACITY"), (40, u "get"), (118, .class_ 501), (0, u "java/util/ArrayList$SubList$2"), (0, .class_ 503), (0, u "java/util/ArrayList$SubList$1")] 5

def k21c0 : Code := { maxStack := 2, maxLocals := 1, code := jdk_38_method_2_code, exceptionTable := #[], attributes := #[] }
def k21m0 : Method := { name := "<init>", desc := "()V", sig := { parameters := [], returnType := none }, accessFlags := 1, code := some k21c0 }
def k21c1 : Code := { maxStack := 4, maxLocals := 4, code := jdk_38_method_6_code, exceptionTable := #[], attributes := #[] }
def k21m1 : Method := { name := "grow", desc := "(I)[Ljava/lang/Object;", sig := { parameters := [.int], returnType := some (.array (.object "java/lang/Object")) }, accessFlags := 2, code := some k21c1 }
def k21c2 : Code := { maxStack := 3, maxLocals := 1, code := jdk_38_method_7_code, exceptionTable := #[], attributes := #[] }
def k21m2 : Method := { name := "grow", desc := "()[Ljava/lang/Object;", sig := { parameters := [], returnType := some (.array (.object "java/lang/Object")) }, accessFlags := 2, code := some k21c2 }
def k21c3 : Code := { maxStack := 1, maxLocals := 1, code := jdk_38_method_8_code, exceptionTable := #[], attributes := #[] }
def k21m3 : Method := { name := "size", desc := "()I", sig := { parameters := [], returnType := some .int }, accessFlags := 1, code := some k21c3 }
def k21c4 : Code := { maxStack := 2, maxLocals := 2, code := jdk_38_method_18_code, exceptionTable := #[], attributes := #[] }
def k21m4 : Method := { name := "elementData", desc := "(I)Ljava/lang/Object;", sig := { parameters := [.int], returnType := some (.object "java/lang/Object") }, accessFlags := 0, code := some k21c4 }
def k21c5 : Code := { maxStack := 2, maxLocals := 2, code := jdk_38_method_20_code, exceptionTable := #[], attributes := #[] }
def k21m5 : Method := { name := "get", desc := "(I)Ljava/lang/Object;", sig := { parameters := [.int], returnType := some (.object "java/lang/Object") }, accessFlags := 1, code := some k21c5 }
def k21c6 : Code := { maxStack := 3, maxLocals := 4, code := jdk_38_method_24_code, exceptionTable := #[], attributes := #[] }
def k21m6 : Method := { name := "add", desc := "(Ljava/lang/Object;[Ljava/lang/Object;I)V", sig := { parameters := [(.object "java/lang/Object"), (.array (.object "java/lang/Object")), .int], returnType := none }, accessFlags := 2, code := some k21c6 }
def k21c7 : Code := { maxStack := 4, maxLocals := 2, code := jdk_38_method_25_code, exceptionTable := #[], attributes := #[] }
def k21m7 : Method := { name := "add", desc := "(Ljava/lang/Object;)Z", sig := { parameters := [(.object "java/lang/Object")], returnType := some .boolean }, accessFlags := 1, code := some k21c7 }
/-- java/util/ArrayList -/
def k21 : Class := { plain "java/util/ArrayList" (some 18) with
  accessFlags := 33
  interfaces := #[17, 19, 20, 7]
  cf := some (fileOf pool21 10 #[.nestMembers #[290, 276, 500, 502, 262, 267]] #[{ accessFlags := 1, nameIndex := 5, descriptorIndex := 6, attributes := #[] }, { accessFlags := 2, nameIndex := 71, descriptorIndex := 72, attributes := #[] }, { accessFlags := 2, nameIndex := 71, descriptorIndex := 47, attributes := #[] }, { accessFlags := 1, nameIndex := 50, descriptorIndex := 186, attributes := #[] }, { accessFlags := 0, nameIndex := 13, descriptorIndex := 125, attributes := #[] }, { accessFlags := 1, nameIndex := 381, descriptorIndex := 125, attributes := #[] }, { accessFlags := 2, nameIndex := 133, descriptorIndex := 134, attributes := #[] }, { accessFlags := 1, nameIndex := 133, descriptorIndex := 96, attributes := #[] }] 33 2 #[148, 329, 331, 333] #[{ accessFlags := 26, nameIndex := 335, descriptorIndex := 336, attributes := #[] }, { accessFlags := 26, nameIndex := 340, descriptorIndex := 51, attributes := #[] }, { accessFlags := 26, nameIndex := 17, descriptorIndex := 14, attributes := #[] }, { accessFlags := 26, nameIndex := 41, descriptorIndex := 14, attributes := #[] }, { accessFlags := 128, nameIndex := 13, descriptorIndex := 14, attributes := #[] }, { accessFlags := 2, nameIndex := 50, descriptorIndex := 51, attributes := #[] }])
  fields := #[{ name := "serialVersionUID", type := .long, accessFlags := 26, slot := 0, constantValue := 0 }, { name := "DEFAULT_CAPACITY", type := .int, accessFlags := 26, slot := 1, constantValue := 0 }, { name := "EMPTY_ELEMENTDATA", type := (.array (.object "java/lang/Object")), accessFlags := 26, slot := 2, constantValue := 0 }, { name := "DEFAULTCAPACITY_EMPTY_ELEMENTDATA", type := (.array (.object "java/lang/Object")), accessFlags := 26, slot := 3, constantValue := 0 }, { name := "elementData", type := (.array (.object "java/lang/Object")), accessFlags := 128, slot := 1, constantValue := 0 }, { name := "size", type := .int, accessFlags := 2, slot := 2, constantValue := 0 }]
  methods := #[k21m0, k21m1, k21m2, k21m3, k21m4, k21m5, k21m6, k21m7]
  instanceTypes := #[.int, (.array (.object "java/lang/Object")), .int]
  staticTypes := #[.long, .int, (.array (.object "java/lang/Object")), (.array (.object "java/lang/Object"))]
  resolved := Array.replicate 509 none
  statics := some 0 }

def pool22 : Array CpInfo := pool [(1, .methodref 2 3), (0, .class_ 4), (0, .nameAndType 5 6), (0, u "java/lang/Object"), (0, u "<init>"), (0, u "()V"), (0, .interfaceMethodref 8 9), (0, .class_ 10), (0, .nameAndType 11 12), (0, u "java/util/List"), (0, u "size"), (0, u "()I"), (0, .fieldref 14 15), (0, .class_ 16), (0, .nameAndType 17 18), (0, u "com/example/invariant_ink/invariantink/engine/Combinations"), (0, u "slots"), (0, u "[I"), (0, .fieldref 14 20), (0, .nameAndType 21 22), (0, u "firsts"), (0, u "[J"), (0, .fieldref 14 24), (0, .nameAndType 25 22), (0, u "lasts"), (0, .interfaceMethodref 8 27), (0, .nameAndType 28 29), (0, u "get"), (0, u "(I)Ljava/lang/Object;"), (0, .class_ 31), (0, u "com/example/invariant_ink/invariantink/lang/Local"), (0, .methodref 30 33), (0, .nameAndType 34 35), (0, u "getType"), (0, u "()Lcom/example/invariant_ink/invariantink/lang/Type;"), (0, .class_ 37), (0, u "com/example/invariant_ink/invariantink/lang/SimpleType"), (0, .methodref 30 39), (0, .nameAndType 40 12), (0, u "getSlot"), (0, .interfaceMethodref 36 42), (0, .nameAndType 43 44), (0, u "first"), (0, u "()J"), (0, .class_ 46), (0, u "com/example/invariant_ink/invariantink/lang/FiniteType"), (0, .interfaceMethodref 45 48), (0, .nameAndType 49 44), (0, u "last"), (5, .methodref 14 56), (0, .nameAndType 5 57), (0, u "(Lcom/example/invariant_ink/invariantink/lang/Instance;Ljava/util/List;)V"), (12, u "(Ljava/util/List;)V"), (6, u "values"), (0, u "([J)[J")] 2

def k22c0 : Code := { maxStack := 4, maxLocals := 6, code := prog_19_method_1_code, exceptionTable := #[], attributes := #[] }
def k22m0 : Method := { name := "<init>", desc := "(Lcom/example/invariant_ink/invariantink/lang/Instance;Ljava/util/List;)V", sig := { parameters := [(.object "com/example/invariant_ink/invariantink/lang/Instance"), (.object "java/util/List")], returnType := none }, accessFlags := 0, code := some k22c0 }
def k22c1 : Code := { maxStack := 3, maxLocals := 2, code := prog_19_method_2_code, exceptionTable := #[], attributes := #[] }
def k22m1 : Method := { name := "<init>", desc := "(Ljava/util/List;)V", sig := { parameters := [(.object "java/util/List")], returnType := none }, accessFlags := 0, code := some k22c1 }
def k22c2 : Code := { maxStack := 5, maxLocals := 4, code := prog_19_method_6_code, exceptionTable := #[], attributes := #[] }
def k22m2 : Method := { name := "values", desc := "([J)[J", sig := { parameters := [(.array .long)], returnType := some (.array .long) }, accessFlags := 0, code := some k22c2 }
/-- com/example/invariant_ink/invariantink/engine/Combinations -/
def k22 : Class := { plain "com/example/invariant_ink/invariantink/engine/Combinations" (some 0) with
  accessFlags := 32
  interfaces := #[]
  cf := some (fileOf pool22 14 #[] #[{ accessFlags := 0, nameIndex := 5, descriptorIndex := 57, attributes := #[] }, { accessFlags := 0, nameIndex := 5, descriptorIndex := 70, attributes := #[] }, { accessFlags := 0, nameIndex := 77, descriptorIndex := 78, attributes := #[] }] 32 2 #[] #[{ accessFlags := 18, nameIndex := 17, descriptorIndex := 18, attributes := #[] }, { accessFlags := 18, nameIndex := 21, descriptorIndex := 22, attributes := #[] }, { accessFlags := 18, nameIndex := 25, descriptorIndex := 22, attributes := #[] }])
  fields := #[{ name := "slots", type := (.array .int), accessFlags := 18, slot := 0, constantValue := 0 }, { name := "firsts", type := (.array .long), accessFlags := 18, slot := 1, constantValue := 0 }, { name := "lasts", type := (.array .long), accessFlags := 18, slot := 2, constantValue := 0 }]
  methods := #[k22m0, k22m1, k22m2]
  instanceTypes := #[(.array .int), (.array .long), (.array .long)]
  staticTypes := #[]
  resolved := Array.replicate 81 none
  statics := none }

def pool23 : Array CpInfo := pool [(1, .class_ 2), (0, u "java/lang/Math"), (1, .class_ 6), (1, u "java/lang/Object"), (0, u "<init>"), (0, u "()V"), (89, .class_ 100), (1, u "java/lang/Math$RandomNumberGeneratorHolder"), (71, u "negativeZeroFloatBits"), (0, u "J"), (2, u "negativeZeroDoubleBits"), (21, u "max"), (46, u "$assertionsDisabled"), (0, u "Z"), (88, u "(II)I"), (2, u "twoToTheDoubleScaleDown"), (0, u "D"), (4, u "twoToTheDoubleScaleUp"), (9, u "E"), (3, u "PI"), (2, u "TAU"), (2, u "DEGREES_TO_RADIANS"), (0, u "RADIANS_TO_DEGREES")] 94

def k23m0 : Method := { name := "<init>", desc := "()V", sig := { parameters := [], returnType := none }, accessFlags := 2, code := none }
def k23c1 : Code := { maxStack := 2, maxLocals := 2, code := jdk_29_method_65_code, exceptionTable := #[], attributes := #[] }
def k23m1 : Method := { name := "max", desc := "(II)I", sig := { parameters := [.int, .int], returnType := some .int }, accessFlags := 9, code := some k23c1 }
/-- java/lang/Math -/
def k23 : Class := { plain "java/lang/Math" (some 0) with
  accessFlags := 49
  interfaces := #[]
  cf := some (fileOf pool23 1 #[.nestMembers #[98]] #[{ accessFlags := 2, nameIndex := 7, descriptorIndex := 8, attributes := #[] }, { accessFlags := 9, nameIndex := 198, descriptorIndex := 335, attributes := #[] }] 49 4 #[] #[{ accessFlags := 25, nameIndex := 354, descriptorIndex := 339, attributes := #[] }, { accessFlags := 25, nameIndex := 358, descriptorIndex := 339, attributes := #[] }, { accessFlags := 25, nameIndex := 361, descriptorIndex := 339, attributes := #[] }, { accessFlags := 26, nameIndex := 364, descriptorIndex := 339, attributes := #[] }, { accessFlags := 26, nameIndex := 365, descriptorIndex := 339, attributes := #[] }, { accessFlags := 26, nameIndex := 172, descriptorIndex := 173, attributes := #[] }, { accessFlags := 26, nameIndex := 176, descriptorIndex := 173, attributes := #[] }, { accessFlags := 8, nameIndex := 344, descriptorIndex := 339, attributes := #[] }, { accessFlags := 8, nameIndex := 338, descriptorIndex := 339, attributes := #[] }, { accessFlags := 4120, nameIndex := 245, descriptorIndex := 246, attributes := #[] }])
  fields := #[{ name := "E", type := .double, accessFlags := 25, slot := 0, constantValue := 0 }, { name := "PI", type := .double, accessFlags := 25, slot := 1, constantValue := 0 }, { name := "TAU", type := .double, accessFlags := 25, slot := 2, constantValue := 0 }, { name := "DEGREES_TO_RADIANS", type := .double, accessFlags := 26, slot := 3, constantValue := 0 }, { name := "RADIANS_TO_DEGREES", type := .double, accessFlags := 26, slot := 4, constantValue := 0 }, { name := "negativeZeroFloatBits", type := .long, accessFlags := 26, slot := 5, constantValue := 0 }, { name := "negativeZeroDoubleBits", type := .long, accessFlags := 26, slot := 6, constantValue := 0 }, { name := "twoToTheDoubleScaleUp", type := .double, accessFlags := 8, slot := 7, constantValue := 0 }, { name := "twoToTheDoubleScaleDown", type := .double, accessFlags := 8, slot := 8, constantValue := 0 }, { name := "$assertionsDisabled", type := .boolean, accessFlags := 4120, slot := 9, constantValue := 0 }]
  methods := #[k23m0, k23m1]
  instanceTypes := #[]
  staticTypes := #[.double, .double, .double, .double, .double, .long, .long, .double, .double, .boolean]
  resolved := Array.replicate 460 none
  statics := none }

def pool24 : Array CpInfo := pool [(2, .class_ 4), (1, u "java/lang/Object"), (0, u "<init>"), (0, u "()V"), (35, .class_ 44), (1, u "java/util/Objects"), (60, .methodref 106 107), (0, .class_ 108), (0, .nameAndType 109 110), (0, u "jdk/internal/util/Preconditions"), (0, u "checkIndex"), (0, u "(IILjava/util/function/BiFunction;)I"), (60, u "(II)I")] 12

def k24m0 : Method := { name := "<init>", desc := "()V", sig := { parameters := [], returnType := none }, accessFlags := 2, code := none }
def k24c1 : Code := { maxStack := 3, maxLocals := 2, code := jdk_31_method_17_code, exceptionTable := #[], attributes := #[] }
def k24m1 : Method := { name := "checkIndex", desc := "(II)I", sig := { parameters := [.int, .int], returnType := some .int }, accessFlags := 9, code := some k24c1 }
/-- java/util/Objects -/
def k24 : Class := { plain "java/util/Objects" (some 0) with
  accessFlags := 49
  interfaces := #[]
  cf := some (fileOf pool24 42 #[] #[{ accessFlags := 2, nameIndex := 5, descriptorIndex := 6, attributes := #[] }, { accessFlags := 9, nameIndex := 109, descriptorIndex := 171, attributes := #[] }] 49 2 #[] #[])
  fields := #[]
  methods := #[k24m0, k24m1]
  instanceTypes := #[]
  staticTypes := #[]
  resolved := Array.replicate 184 none
  statics := none }

def pool25 : Array CpInfo := pool [(2, .class_ 4), (1, u "java/lang/Object"), (0, u "<init>"), (0, u "()V"), (17, .class_ 26), (1, u "jdk/internal/util/Preconditions"), (6, u "checkIndex"), (21, .class_ 56), (0, u "jdk/internal/util/Preconditions$4"), (57, .class_ 115), (0, u "jdk/internal/util/Preconditions$1"), (7, u "SIOOBE_FORMATTER"), (0, u "Ljava/util/function/BiFunction;"), (0, .class_ 126), (0, u "jdk/internal/util/Preconditions$2"), (3, u "AIOOBE_FORMATTER"), (0, .class_ 132), (0, u "jdk/internal/util/Preconditions$3"), (3, u "IOOBE_FORMATTER"), (41, u "(IILjava/util/function/BiFunction;)I")] 15

def k25m0 : Method := { name := "<init>", desc := "()V", sig := { parameters := [], returnType := none }, accessFlags := 1, code := none }
def k25c1 : Code := { maxStack := 3, maxLocals := 3, code := jdk_41_method_11_code, exceptionTable := #[], attributes := #[] }
def k25m1 : Method := { name := "checkIndex", desc := "(IILjava/util/function/BiFunction;)I", sig := { parameters := [.int, .int, (.object "java/util/function/BiFunction")], returnType := some .int }, accessFlags := 9, code := some k25c1 }
/-- jdk/internal/util/Preconditions -/
def k25 : Class := { plain "jdk/internal/util/Preconditions" (some 0) with
  accessFlags := 33
  interfaces := #[]
  cf := some (fileOf pool25 24 #[.nestMembers #[55, 131, 125, 114]] #[{ accessFlags := 1, nameIndex := 5, descriptorIndex := 6, attributes := #[] }, { accessFlags := 9, nameIndex := 33, descriptorIndex := 178, attributes := #[] }] 33 2 #[] #[{ accessFlags := 25, nameIndex := 123, descriptorIndex := 124, attributes := #[] }, { accessFlags := 25, nameIndex := 130, descriptorIndex := 124, attributes := #[] }, { accessFlags := 25, nameIndex := 136, descriptorIndex := 124, attributes := #[] }])
  fields := #[{ name := "SIOOBE_FORMATTER", type := (.object "java/util/function/BiFunction"), accessFlags := 25, slot := 0, constantValue := 0 }, { name := "AIOOBE_FORMATTER", type := (.object "java/util/function/BiFunction"), accessFlags := 25, slot := 1, constantValue := 0 }, { name := "IOOBE_FORMATTER", type := (.object "java/util/function/BiFunction"), accessFlags := 25, slot := 2, constantValue := 0 }]
  methods := #[k25m0, k25m1]
  instanceTypes := #[]
  staticTypes := #[(.object "java/util/function/BiFunction"), (.object "java/util/function/BiFunction"), (.object "java/util/function/BiFunction")]
  resolved := Array.replicate 194 none
  statics := none }

/-- the primitive byte -/
def k26 : Class := { plain "byte" none with kind := .primitive 'B', accessFlags := 0x411 }
/-- [B -/
def k27 : Class := { plain "[B" (some 0) with kind := .array 26 .byte, interfaces := #[20, 7], accessFlags := 1041 }

/-- the primitive int -/
def k28 : Class := { plain "int" none with kind := .primitive 'I', accessFlags := 0x411 }
/-- [I -/
def k29 : Class := { plain "[I" (some 0) with kind := .array 28 .int, interfaces := #[20, 7], accessFlags := 1041 }

/-- the primitive long -/
def k30 : Class := { plain "long" none with kind := .primitive 'J', accessFlags := 0x411 }
/-- [J -/
def k31 : Class := { plain "[J" (some 0) with kind := .array 30 .long, interfaces := #[20, 7], accessFlags := 1041 }

/-- [Ljava/lang/Object; -/
def k32 : Class := { plain "[Ljava/lang/Object;" (some 0) with kind := .array 0 (.object "java/lang/Object"), interfaces := #[20, 7], accessFlags := 1041 }

def heap : Heap := #[{ cls := 21, slots := #[.long 0, .int 0, .ref 1, .ref 2], vm := .statics 21 },
  { cls := 32, slots := #[], vm := .none },
  { cls := 32, slots := #[], vm := .none }]
def classes : Array Class := #[k0, k1, k2, k3, k4, k5, k6, k7, k8, k9, k10, k11, k12, k13, k14, k15, k16, k17, k18, k19, k20, k21, k22, k23, k24, k25, k26, k27, k28, k29, k30, k31, k32]
def interned : List (Array UInt16 × Addr) := []
def slotsUsed : Nat := 4
def theMethod : MethodId := ⟨1, 1⟩
def args0 : Array Value := #[.long 9, .long 5, .long 7, .long 3, .int 6, .int 2]
def aboutOver (below : List Frame) : State where
  vm := { classes := classes, interned := interned.toArray }
  heap := heap
  slotsUsed := slotsUsed
  threads := #[{ frames := .invoking theMethod args0 :: below }]
def below0 : List Frame := [.native { method := ⟨0, 0⟩, args := #[] }]
def about1 : State := aboutOver below0
def p0 : Program := .bare "" "" ""
def e0 : Env := launch0.env 0 0 0
theorem w_frames : about1.frames = Frame.invoking theMethod args0 :: below0 := rfl
set_option maxRecDepth 65536 in
theorem w_args : argsFit about1.vm theMethod args0 = true := by decide +kernel
set_option maxRecDepth 65536 in
theorem w_heap : heapFits about1 = true := by decide +kernel
set_option maxRecDepth 65536 in
theorem w_runnable : about1.curStatus? = some .runnable := by decide +kernel
set_option maxRecDepth 65536 in
theorem w_alone : about1.alone = true := by decide +kernel
set_option maxRecDepth 65536 in
theorem w_named : about1.methodNamed? x = some theMethod := by decide +kernel
set_option maxRecDepth 65536 in
theorem w_hears : about1.hears theMethod below0 = true := by decide +kernel
set_option maxRecDepth 65536 in
theorem w_ripe : about1.ripe theMethod args0 below0 = true := by decide +kernel
theorem w_running : about1.status = .running := rfl
set_option maxRecDepth 65536 in
theorem w_room : about1.hasRoom e0.platform room_1 = true :=
  launch0.hasRoom_least _ room_1 (by decide +kernel) (by decide +kernel) (by decide +kernel) (by decide +kernel) (by decide +kernel) (by decide +kernel)
theorem allAtoms_all (ts : List Jvm.Cond) (a : Array Jvm.Value) (st : Jvm.State) : (allAtoms ts).before a st = ts.all (fun c => c.before a st) := by
  induction ts with
  | nil => rfl
  | cons c t ih =>
    show (Jvm.Cond.and c (allAtoms t)).before a st = _
    rw [Jvm.Cond.before_and, ih, List.all_cons]
def words1 : List Jvm.Cond := Jvm.Cond.code x code maxLocals ret :: tables_1
/-- a 'code' word, met by the world's own term for the bytes: nothing is compared byte by byte -/
theorem code_word {y : MethodName} {bytes : ByteArray} {mx : Nat} {rt : Option FieldType} {a : Array Value} {s : State} {m : MethodId} {meth : Method} {c : Code} (h1 : s.methodNamed? y = some m) (h2 : s.vm.method? m = some meth) (h3 : meth.code = some c) (h4 : c.code = bytes)
    (h5 : (c.maxLocals == mx && c.exceptionTable.isEmpty && decide (c.maxStack ≤ mostOperands) && decide (meth.sig.returnType = rt) && !meth.locks && decide (parseMethodDescriptor y.desc = some meth.sig)) = true) : (Jvm.Cond.code y bytes mx rt).before a s = true := by
  simp only [Bool.and_eq_true, beq_iff_eq, Bool.not_eq_true', decide_eq_true_eq] at h5
  obtain ⟨⟨⟨⟨⟨g1, g2⟩, g3⟩, g4⟩, g5⟩, g6⟩ := h5
  simp [Cond.before, Cond.holds, Cond.value, h1, h2, h3, h4, g1, g2, g3, g4, g5, g6]
def isCode : Jvm.Cond → Bool
  | .code _ _ _ _ => true
  | _ => false
theorem all_split {L : List Jvm.Cond} {P : Jvm.Cond → Bool} (h1 : L.all (fun c => isCode c || P c) = true) (h2 : ∀ c ∈ L.filter isCode, P c = true) : L.all P = true := by
  refine List.all_eq_true.mpr fun c hc => ?_
  have h := List.all_eq_true.mp h1 c hc
  rcases Bool.eq_false_or_eq_true (isCode c) with hi | hi
  · exact h2 c (List.mem_filter.mpr ⟨hc, hi⟩)
  · simpa [hi] using h
set_option maxRecDepth 65536 in
theorem w_c0 : (Jvm.Cond.code x code maxLocals ret).before args0 about1 = true := code_word (m := ⟨1, 1⟩) (meth := k1m1) (c := k1c1) (by decide +kernel) rfl rfl rfl (by decide +kernel)
set_option maxRecDepth 65536 in
theorem w_c1 : (Jvm.Cond.code ({ cls := "com/example/invariant_ink/invariantink/lang/RangeType", name := "<init>", desc := "(JJ)V" } : Jvm.MethodName) prog_172_method_1_code (5 : Nat) (Option.none : Option Jvm.ClassFile.FieldType)).before args0 about1 = true := code_word (m := ⟨5, 0⟩) (meth := k5m0) (c := k5c0) (by decide +kernel) rfl rfl rfl (by decide +kernel)
set_option maxRecDepth 65536 in
theorem w_c2 : (Jvm.Cond.code ({ cls := "java/lang/Object", name := "<init>", desc := "()V" } : Jvm.MethodName) object_method_1_code (1 : Nat) (Option.none : Option Jvm.ClassFile.FieldType)).before args0 about1 = true := code_word (m := ⟨0, 0⟩) (meth := k0m0) (c := k0c0) (by decide +kernel) rfl rfl rfl (by decide +kernel)
set_option maxRecDepth 65536 in
theorem w_c3 : (Jvm.Cond.code ({ cls := "com/example/invariant_ink/invariantink/lang/Local", name := "<init>", desc := "(Ljava/lang/String;Lcom/example/invariant_ink/invariantink/lang/Local$Kind;ILcom/example/invariant_ink/invariantink/lang/Type;Lcom/example/invariant_ink/invariantink/lang/Position;)V" } : Jvm.MethodName) prog_159_method_1_code (6 : Nat) (Option.none : Option Jvm.ClassFile.FieldType)).before args0 about1 = true := code_word (m := ⟨6, 0⟩) (meth := k6m0) (c := k6c0) (by decide +kernel) rfl rfl rfl (by decide +kernel)
set_option maxRecDepth 65536 in
theorem w_c4 : (Jvm.Cond.code ({ cls := "java/util/ArrayList", name := "<init>", desc := "()V" } : Jvm.MethodName) jdk_38_method_2_code (1 : Nat) (Option.none : Option Jvm.ClassFile.FieldType)).before args0 about1 = true := code_word (m := ⟨21, 0⟩) (meth := k21m0) (c := k21c0) (by decide +kernel) rfl rfl rfl (by decide +kernel)
set_option maxRecDepth 65536 in
theorem w_c5 : (Jvm.Cond.code ({ cls := "java/util/AbstractList", name := "<init>", desc := "()V" } : Jvm.MethodName) jdk_39_method_1_code (1 : Nat) (Option.none : Option Jvm.ClassFile.FieldType)).before args0 about1 = true := code_word (m := ⟨18, 0⟩) (meth := k18m0) (c := k18c0) (by decide +kernel) rfl rfl rfl (by decide +kernel)
set_option maxRecDepth 65536 in
theorem w_c6 : (Jvm.Cond.code ({ cls := "java/util/AbstractCollection", name := "<init>", desc := "()V" } : Jvm.MethodName) jdk_22_method_1_code (1 : Nat) (Option.none : Option Jvm.ClassFile.FieldType)).before args0 about1 = true := code_word (m := ⟨15, 0⟩) (meth := k15m0) (c := k15c0) (by decide +kernel) rfl rfl rfl (by decide +kernel)
set_option maxRecDepth 65536 in
theorem w_c7 : (Jvm.Cond.code ({ cls := "com/example/invariant_ink/invariantink/engine/Combinations", name := "<init>", desc := "(Ljava/util/List;)V" } : Jvm.MethodName) prog_19_method_2_code (2 : Nat) (Option.none : Option Jvm.ClassFile.FieldType)).before args0 about1 = true := code_word (m := ⟨22, 1⟩) (meth := k22m1) (c := k22c1) (by decide +kernel) rfl rfl rfl (by decide +kernel)
set_option maxRecDepth 65536 in
theorem w_c8 : (Jvm.Cond.code ({ cls := "com/example/invariant_ink/invariantink/engine/Combinations", name := "<init>", desc := "(Lcom/example/invariant_ink/invariantink/lang/Instance;Ljava/util/List;)V" } : Jvm.MethodName) prog_19_method_1_code (6 : Nat) (Option.none : Option Jvm.ClassFile.FieldType)).before args0 about1 = true := code_word (m := ⟨22, 0⟩) (meth := k22m0) (c := k22c0) (by decide +kernel) rfl rfl rfl (by decide +kernel)
set_option maxRecDepth 65536 in
theorem w_c9 : (Jvm.Cond.code ({ cls := "java/util/ArrayList", name := "size", desc := "()I" } : Jvm.MethodName) jdk_38_method_8_code (1 : Nat) (Option.some Jvm.ClassFile.FieldType.int)).before args0 about1 = true := code_word (m := ⟨21, 3⟩) (meth := k21m3) (c := k21c3) (by decide +kernel) rfl rfl rfl (by decide +kernel)
set_option maxRecDepth 65536 in
theorem w_c10 : (Jvm.Cond.code ({ cls := "com/example/invariant_ink/invariantink/engine/Combinations", name := "values", desc := "([J)[J" } : Jvm.MethodName) prog_19_method_6_code (4 : Nat) (Option.some (Jvm.ClassFile.FieldType.array Jvm.ClassFile.FieldType.long))).before args0 about1 = true := code_word (m := ⟨22, 2⟩) (meth := k22m2) (c := k22c2) (by decide +kernel) rfl rfl rfl (by decide +kernel)
set_option maxRecDepth 65536 in
theorem w_c11 : (Jvm.Cond.code ({ cls := "java/util/ArrayList", name := "add", desc := "(Ljava/lang/Object;)Z" } : Jvm.MethodName) jdk_38_method_25_code (2 : Nat) (Option.some Jvm.ClassFile.FieldType.boolean)).before args0 about1 = true := code_word (m := ⟨21, 7⟩) (meth := k21m7) (c := k21c7) (by decide +kernel) rfl rfl rfl (by decide +kernel)
set_option maxRecDepth 65536 in
theorem w_c12 : (Jvm.Cond.code ({ cls := "java/util/ArrayList", name := "add", desc := "(Ljava/lang/Object;[Ljava/lang/Object;I)V" } : Jvm.MethodName) jdk_38_method_24_code (4 : Nat) (Option.none : Option Jvm.ClassFile.FieldType)).before args0 about1 = true := code_word (m := ⟨21, 6⟩) (meth := k21m6) (c := k21c6) (by decide +kernel) rfl rfl rfl (by decide +kernel)
set_option maxRecDepth 65536 in
theorem w_c13 : (Jvm.Cond.code ({ cls := "java/util/ArrayList", name := "grow", desc := "()[Ljava/lang/Object;" } : Jvm.MethodName) jdk_38_method_7_code (1 : Nat) (Option.some (Jvm.ClassFile.FieldType.array (Jvm.ClassFile.FieldType.object "java/lang/Object")))).before args0 about1 = true := code_word (m := ⟨21, 2⟩) (meth := k21m2) (c := k21c2) (by decide +kernel) rfl rfl rfl (by decide +kernel)
set_option maxRecDepth 65536 in
theorem w_c14 : (Jvm.Cond.code ({ cls := "java/util/ArrayList", name := "grow", desc := "(I)[Ljava/lang/Object;" } : Jvm.MethodName) jdk_38_method_6_code (4 : Nat) (Option.some (Jvm.ClassFile.FieldType.array (Jvm.ClassFile.FieldType.object "java/lang/Object")))).before args0 about1 = true := code_word (m := ⟨21, 1⟩) (meth := k21m1) (c := k21c1) (by decide +kernel) rfl rfl rfl (by decide +kernel)
set_option maxRecDepth 65536 in
theorem w_c15 : (Jvm.Cond.code ({ cls := "java/lang/Math", name := "max", desc := "(II)I" } : Jvm.MethodName) jdk_29_method_65_code (2 : Nat) (Option.some Jvm.ClassFile.FieldType.int)).before args0 about1 = true := code_word (m := ⟨23, 1⟩) (meth := k23m1) (c := k23c1) (by decide +kernel) rfl rfl rfl (by decide +kernel)
set_option maxRecDepth 65536 in
theorem w_c16 : (Jvm.Cond.code ({ cls := "java/util/ArrayList", name := "get", desc := "(I)Ljava/lang/Object;" } : Jvm.MethodName) jdk_38_method_20_code (2 : Nat) (Option.some (Jvm.ClassFile.FieldType.object "java/lang/Object"))).before args0 about1 = true := code_word (m := ⟨21, 5⟩) (meth := k21m5) (c := k21c5) (by decide +kernel) rfl rfl rfl (by decide +kernel)
set_option maxRecDepth 65536 in
theorem w_c17 : (Jvm.Cond.code ({ cls := "java/util/Objects", name := "checkIndex", desc := "(II)I" } : Jvm.MethodName) jdk_31_method_17_code (2 : Nat) (Option.some Jvm.ClassFile.FieldType.int)).before args0 about1 = true := code_word (m := ⟨24, 1⟩) (meth := k24m1) (c := k24c1) (by decide +kernel) rfl rfl rfl (by decide +kernel)
set_option maxRecDepth 65536 in
theorem w_c18 : (Jvm.Cond.code ({ cls := "jdk/internal/util/Preconditions", name := "checkIndex", desc := "(IILjava/util/function/BiFunction;)I" } : Jvm.MethodName) jdk_41_method_11_code (3 : Nat) (Option.some Jvm.ClassFile.FieldType.int)).before args0 about1 = true := code_word (m := ⟨25, 1⟩) (meth := k25m1) (c := k25c1) (by decide +kernel) rfl rfl rfl (by decide +kernel)
set_option maxRecDepth 65536 in
theorem w_c19 : (Jvm.Cond.code ({ cls := "java/util/ArrayList", name := "elementData", desc := "(I)Ljava/lang/Object;" } : Jvm.MethodName) jdk_38_method_18_code (2 : Nat) (Option.some (Jvm.ClassFile.FieldType.object "java/lang/Object"))).before args0 about1 = true := code_word (m := ⟨21, 4⟩) (meth := k21m4) (c := k21c4) (by decide +kernel) rfl rfl rfl (by decide +kernel)
set_option maxRecDepth 65536 in
theorem w_c20 : (Jvm.Cond.code ({ cls := "com/example/invariant_ink/invariantink/lang/Local", name := "getType", desc := "()Lcom/example/invariant_ink/invariantink/lang/Type;" } : Jvm.MethodName) prog_159_method_5_code (1 : Nat) (Option.some (Jvm.ClassFile.FieldType.object "com/example/invariant_ink/invariantink/lang/Type"))).before args0 about1 = true := code_word (m := ⟨6, 2⟩) (meth := k6m2) (c := k6c2) (by decide +kernel) rfl rfl rfl (by decide +kernel)
set_option maxRecDepth 65536 in
theorem w_c21 : (Jvm.Cond.code ({ cls := "com/example/invariant_ink/invariantink/lang/Local", name := "getSlot", desc := "()I" } : Jvm.MethodName) prog_159_method_4_code (1 : Nat) (Option.some Jvm.ClassFile.FieldType.int)).before args0 about1 = true := code_word (m := ⟨6, 1⟩) (meth := k6m1) (c := k6c1) (by decide +kernel) rfl rfl rfl (by decide +kernel)
set_option maxRecDepth 65536 in
theorem w_c22 : (Jvm.Cond.code ({ cls := "com/example/invariant_ink/invariantink/lang/RangeType", name := "first", desc := "()J" } : Jvm.MethodName) prog_172_method_4_code (1 : Nat) (Option.some Jvm.ClassFile.FieldType.long)).before args0 about1 = true := code_word (m := ⟨5, 1⟩) (meth := k5m1) (c := k5c1) (by decide +kernel) rfl rfl rfl (by decide +kernel)
set_option maxRecDepth 65536 in
theorem w_c23 : (Jvm.Cond.code ({ cls := "com/example/invariant_ink/invariantink/lang/RangeType", name := "last", desc := "()J" } : Jvm.MethodName) prog_172_method_5_code (1 : Nat) (Option.some Jvm.ClassFile.FieldType.long)).before args0 about1 = true := code_word (m := ⟨5, 2⟩) (meth := k5m2) (c := k5c2) (by decide +kernel) rfl rfl rfl (by decide +kernel)
set_option maxRecDepth 65536 in
theorem w_c24 : (Jvm.Cond.code ({ cls := "com/example/invariant_ink/invariantink/engine/CombinationsValuesPinLaw", name := "at", desc := "(IJJJJ)J" } : Jvm.MethodName) method_3_code (9 : Nat) (Option.some Jvm.ClassFile.FieldType.long)).before args0 about1 = true := code_word (m := ⟨1, 2⟩) (meth := k1m2) (c := k1c2) (by decide +kernel) rfl rfl rfl (by decide +kernel)
def codes1 : List Jvm.Cond := [Jvm.Cond.code x code maxLocals ret, Jvm.Cond.code ({ cls := "com/example/invariant_ink/invariantink/lang/RangeType", name := "<init>", desc := "(JJ)V" } : Jvm.MethodName) prog_172_method_1_code (5 : Nat) (Option.none : Option Jvm.ClassFile.FieldType), Jvm.Cond.code ({ cls := "java/lang/Object", name := "<init>", desc := "()V" } : Jvm.MethodName) object_method_1_code (1 : Nat) (Option.none : Option Jvm.ClassFile.FieldType), Jvm.Cond.code ({ cls := "com/example/invariant_ink/invariantink/lang/Local", name := "<init>", desc := "(Ljava/lang/String;Lcom/example/invariant_ink/invariantink/lang/Local$Kind;ILcom/example/invariant_ink/invariantink/lang/Type;Lcom/example/invariant_ink/invariantink/lang/Position;)V" } : Jvm.MethodName) prog_159_method_1_code (6 : Nat) (Option.none : Option Jvm.ClassFile.FieldType), Jvm.Cond.code ({ cls := "java/util/ArrayList", name := "<init>", desc := "()V" } : Jvm.MethodName) jdk_38_method_2_code (1 : Nat) (Option.none : Option Jvm.ClassFile.FieldType), Jvm.Cond.code ({ cls := "java/util/AbstractList", name := "<init>", desc := "()V" } : Jvm.MethodName) jdk_39_method_1_code (1 : Nat) (Option.none : Option Jvm.ClassFile.FieldType), Jvm.Cond.code ({ cls := "java/util/AbstractCollection", name := "<init>", desc := "()V" } : Jvm.MethodName) jdk_22_method_1_code (1 : Nat) (Option.none : Option Jvm.ClassFile.FieldType), Jvm.Cond.code ({ cls := "com/example/invariant_ink/invariantink/engine/Combinations", name := "<init>", desc := "(Ljava/util/List;)V" } : Jvm.MethodName) prog_19_method_2_code (2 : Nat) (Option.none : Option Jvm.ClassFile.FieldType), Jvm.Cond.code ({ cls := "com/example/invariant_ink/invariantink/engine/Combinations", name := "<init>", desc := "(Lcom/example/invariant_ink/invariantink/lang/Instance;Ljava/util/List;)V" } : Jvm.MethodName) prog_19_method_1_code (6 : Nat) (Option.none : Option Jvm.ClassFile.FieldType), Jvm.Cond.code ({ cls := "java/util/ArrayList", name := "size", desc := "()I" } : Jvm.MethodName) jdk_38_method_8_code (1 : Nat) (Option.some Jvm.ClassFile.FieldType.int), Jvm.Cond.code ({ cls := "com/example/invariant_ink/invariantink/engine/Combinations", name := "values", desc := "([J)[J" } : Jvm.MethodName) prog_19_method_6_code (4 : Nat) (Option.some (Jvm.ClassFile.FieldType.array Jvm.ClassFile.FieldType.long)), Jvm.Cond.code ({ cls := "java/util/ArrayList", name := "add", desc := "(Ljava/lang/Object;)Z" } : Jvm.MethodName) jdk_38_method_25_code (2 : Nat) (Option.some Jvm.ClassFile.FieldType.boolean), Jvm.Cond.code ({ cls := "java/util/ArrayList", name := "add", desc := "(Ljava/lang/Object;[Ljava/lang/Object;I)V" } : Jvm.MethodName) jdk_38_method_24_code (4 : Nat) (Option.none : Option Jvm.ClassFile.FieldType), Jvm.Cond.code ({ cls := "java/util/ArrayList", name := "grow", desc := "()[Ljava/lang/Object;" } : Jvm.MethodName) jdk_38_method_7_code (1 : Nat) (Option.some (Jvm.ClassFile.FieldType.array (Jvm.ClassFile.FieldType.object "java/lang/Object"))), Jvm.Cond.code ({ cls := "java/util/ArrayList", name := "grow", desc := "(I)[Ljava/lang/Object;" } : Jvm.MethodName) jdk_38_method_6_code (4 : Nat) (Option.some (Jvm.ClassFile.FieldType.array (Jvm.ClassFile.FieldType.object "java/lang/Object"))), Jvm.Cond.code ({ cls := "java/lang/Math", name := "max", desc := "(II)I" } : Jvm.MethodName) jdk_29_method_65_code (2 : Nat) (Option.some Jvm.ClassFile.FieldType.int), Jvm.Cond.code ({ cls := "java/util/ArrayList", name := "get", desc := "(I)Ljava/lang/Object;" } : Jvm.MethodName) jdk_38_method_20_code (2 : Nat) (Option.some (Jvm.ClassFile.FieldType.object "java/lang/Object")), Jvm.Cond.code ({ cls := "java/util/Objects", name := "checkIndex", desc := "(II)I" } : Jvm.MethodName) jdk_31_method_17_code (2 : Nat) (Option.some Jvm.ClassFile.FieldType.int), Jvm.Cond.code ({ cls := "jdk/internal/util/Preconditions", name := "checkIndex", desc := "(IILjava/util/function/BiFunction;)I" } : Jvm.MethodName) jdk_41_method_11_code (3 : Nat) (Option.some Jvm.ClassFile.FieldType.int), Jvm.Cond.code ({ cls := "java/util/ArrayList", name := "elementData", desc := "(I)Ljava/lang/Object;" } : Jvm.MethodName) jdk_38_method_18_code (2 : Nat) (Option.some (Jvm.ClassFile.FieldType.object "java/lang/Object")), Jvm.Cond.code ({ cls := "com/example/invariant_ink/invariantink/lang/Local", name := "getType", desc := "()Lcom/example/invariant_ink/invariantink/lang/Type;" } : Jvm.MethodName) prog_159_method_5_code (1 : Nat) (Option.some (Jvm.ClassFile.FieldType.object "com/example/invariant_ink/invariantink/lang/Type")), Jvm.Cond.code ({ cls := "com/example/invariant_ink/invariantink/lang/Local", name := "getSlot", desc := "()I" } : Jvm.MethodName) prog_159_method_4_code (1 : Nat) (Option.some Jvm.ClassFile.FieldType.int), Jvm.Cond.code ({ cls := "com/example/invariant_ink/invariantink/lang/RangeType", name := "first", desc := "()J" } : Jvm.MethodName) prog_172_method_4_code (1 : Nat) (Option.some Jvm.ClassFile.FieldType.long), Jvm.Cond.code ({ cls := "com/example/invariant_ink/invariantink/lang/RangeType", name := "last", desc := "()J" } : Jvm.MethodName) prog_172_method_5_code (1 : Nat) (Option.some Jvm.ClassFile.FieldType.long), Jvm.Cond.code ({ cls := "com/example/invariant_ink/invariantink/engine/CombinationsValuesPinLaw", name := "at", desc := "(IJJJJ)J" } : Jvm.MethodName) method_3_code (9 : Nat) (Option.some Jvm.ClassFile.FieldType.long)]
set_option maxRecDepth 65536 in
theorem codes_eq : words1.filter isCode = codes1 := rfl
theorem w_codes : ∀ c ∈ words1.filter isCode, c.before args0 about1 = true := by
  rw [codes_eq]
  intro c hc
  simp only [codes1, List.mem_cons, List.not_mem_nil, or_false] at hc
  rcases hc with rfl | rfl | rfl | rfl | rfl | rfl | rfl | rfl | rfl | rfl | rfl | rfl | rfl | rfl | rfl | rfl | rfl | rfl | rfl | rfl | rfl | rfl | rfl | rfl | rfl
  · exact w_c0
  · exact w_c1
  · exact w_c2
  · exact w_c3
  · exact w_c4
  · exact w_c5
  · exact w_c6
  · exact w_c7
  · exact w_c8
  · exact w_c9
  · exact w_c10
  · exact w_c11
  · exact w_c12
  · exact w_c13
  · exact w_c14
  · exact w_c15
  · exact w_c16
  · exact w_c17
  · exact w_c18
  · exact w_c19
  · exact w_c20
  · exact w_c21
  · exact w_c22
  · exact w_c23
  · exact w_c24
set_option maxRecDepth 65536 in
theorem w_t1 : (words1.take 24).all (fun c => isCode c || c.before args0 about1) = true := by decide +kernel
set_option maxRecDepth 65536 in
theorem w_t2 : ((words1.drop 24).take 24).all (fun c => isCode c || c.before args0 about1) = true := by decide +kernel
set_option maxRecDepth 65536 in
theorem w_t3 : (((words1.drop 24).drop 24).take 24).all (fun c => isCode c || c.before args0 about1) = true := by decide +kernel
set_option maxRecDepth 65536 in
theorem w_t4 : ((((words1.drop 24).drop 24).drop 24).take 24).all (fun c => isCode c || c.before args0 about1) = true := by decide +kernel
set_option maxRecDepth 65536 in
theorem w_t5 : (((((words1.drop 24).drop 24).drop 24).drop 24).take 24).all (fun c => isCode c || c.before args0 about1) = true := by decide +kernel
set_option maxRecDepth 65536 in
theorem w_t6 : ((((((words1.drop 24).drop 24).drop 24).drop 24).drop 24).take 24).all (fun c => isCode c || c.before args0 about1) = true := by decide +kernel
set_option maxRecDepth 65536 in
theorem w_t7 : (((((((words1.drop 24).drop 24).drop 24).drop 24).drop 24).drop 24).take 24).all (fun c => isCode c || c.before args0 about1) = true := by decide +kernel
set_option maxRecDepth 65536 in
theorem w_t8 : (((((((words1.drop 24).drop 24).drop 24).drop 24).drop 24).drop 24).drop 24).all (fun c => isCode c || c.before args0 about1) = true := by decide +kernel
theorem w_tables : (allAtoms (Jvm.Cond.code x code maxLocals ret :: tables_1)).before args0 about1 = true := by
  rw [allAtoms_all]
  show words1.all (fun c => c.before args0 about1) = true
  refine all_split ?_ w_codes
  rw [← List.take_append_drop 24 words1, List.all_append, w_t1, ← List.take_append_drop 24 (words1.drop 24), List.all_append, w_t2, ← List.take_append_drop 24 ((words1.drop 24).drop 24), List.all_append, w_t3, ← List.take_append_drop 24 (((words1.drop 24).drop 24).drop 24), List.all_append, w_t4, ← List.take_append_drop 24 ((((words1.drop 24).drop 24).drop 24).drop 24), List.all_append, w_t5, ← List.take_append_drop 24 (((((words1.drop 24).drop 24).drop 24).drop 24).drop 24), List.all_append, w_t6, ← List.take_append_drop 24 ((((((words1.drop 24).drop 24).drop 24).drop 24).drop 24).drop 24), List.all_append, w_t7, w_t8]
  rfl
set_option maxRecDepth 65536 in
theorem w_rest : rest_1_c.before args0 about1 = true := by decide +kernel
set_option maxRecDepth 65536 in
theorem w_case : (Jvm.Cond.and given_1 narrow_1).before args0 about1 = true := by decide +kernel
theorem w_applies : (headSpec (Jvm.Cond.code x code maxLocals ret :: tables_1) room_1).applies x e0.platform about1 = true :=
  (Spec.applies_iff w_frames).mpr ⟨w_running, w_runnable, w_alone, w_named, w_hears, w_ripe, w_room, w_tables⟩
theorem atStart : AtStart classFile x code maxLocals ret World_1 tables_1 room_1 Calls_1 rest_1 Pre_1 launch0 p0 e0 about1 theMethod args0 below0 :=
  ⟨lists_1, trivial, launch0.admits_env _ _ _, launch0.least_env, fairChoices_fair.cas, fairChoices_fair.clock, w_frames, w_args, w_heap, w_applies, trivial, w_rest, w_case⟩
end start1
theorem witness_1 : WitnessClaimed_1 := ⟨start1.p0, start1.e0, start1.about1, start1.theMethod, start1.args0, start1.below0, start1.atStart⟩
end Jvm.Pilot.@@N@@
