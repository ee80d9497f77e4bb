import JvmDerived
import JvmDerived.Pilot.@@N@@Statement
import JvmDerived.Pilot.@@N@@Code
set_option linter.unusedVariables false
set_option linter.unusedSimpArgs false
namespace Jvm.RoadKit
open Sem ClassFile Op Lib Jvm.Stand Jvm.Free Jvm.LawKit
section New
variable {p : Program} {l : Launch} {e : Env} {R : Room} {s : State} {m : MethodId} {args : Array Value} {below : List Frame} {meth : Method} {c : Code} {T : State} {locs : List Loc} {cells slots : Nat}
theorem retI (X : Stand p l e R s m args below meth c T locs cells slots) (hx : p.tables.exec = Jvm.exec) {pc : Nat} {Ls : Array Slot} {z : Int32} {rest : List Value} (hret : meth.sig.returnType = some .int) (hd : decode c.code pc = .ok (.ireturn, 1)) {fs : List Frame}
    (hl : ∀ (f : JFrame) (acts : List Action), f.method = m → f.locked = none → f.entered = [] → (doReturn e (T.setTop f) acts (some (.int z))).1 = T.setFrames fs) : Steps p.tables e below (T.setTop (mkF m pc Ls (.int z :: rest))) (T.setFrames fs) := by
  have hm' : T.vm.method? m = some meth := X.method'
  have hn : narrow .int (.int z) = .int z := rfl
  show Steps p.tables e below (T.setTop { method := m, pc := pc, locals := Ls, stack := _ :: rest, locked := none }) _
  jvm_step X.here [X.here.top, hx, hd, hm', hret, hn]
  first | (intro acts; rw [hl _ acts rfl rfl rfl]) | rw [hl _ _ rfl rfl rfl]
  exact Steps.refl _
end New
end Jvm.RoadKit
namespace Jvm.Pilot.@@N@@
open Jvm Jvm.ClassFile Sem Op Lib Jvm.Free Jvm.Stand Jvm.LawKit Jvm.RoadKit Bundle Jvm.Pilot.@@N@@.Jvm.D
/-- a body that leaves the heap as it was and returns w -/
def QP (w : Option Value) (h0 : Heap) (n0 : Nat) (v : Option Value) (h : Heap) (L : List Loc) : Prop := v = w ∧ Fr n0 L ∧ h = h0
theorem pd_0 : parseMethodDescriptor "()V" = some ⟨[], none⟩ := by decide +kernel
theorem pd_1 : parseMethodDescriptor "(Lcom/example/reckon/reckon/xpath/StackSegments;I)Z" = some ⟨[(.object "com/example/reckon/reckon/xpath/StackSegments"), .int], some .boolean⟩ := by decide +kernel
theorem pd_2 : parseMethodDescriptor "()Z" = some ⟨[], some .boolean⟩ := by decide +kernel
theorem pd_3 : parseMethodDescriptor "(II)I" = some ⟨[.int, .int], some .int⟩ := by decide +kernel
theorem pd_4 : parseMethodDescriptor "(I)Z" = some ⟨[.int], some .boolean⟩ := by decide +kernel
def own_min (p0 : Int32) (p1 : Int32) : Int32 := (if p1 < p0 then p1 else p0)
theorem d5_0 : decode jdk_29_method_69_code 0 = .ok (.iload_n 0, 1) := by decide +kernel
theorem d5_1 : decode jdk_29_method_69_code 1 = .ok (.iload_n 1, 1) := by decide +kernel
theorem d5_2 : decode jdk_29_method_69_code 2 = .ok (.if_icmp .gt 7, 3) := by decide +kernel
theorem d5_5 : decode jdk_29_method_69_code 5 = .ok (.iload_n 0, 1) := by decide +kernel
theorem d5_6 : decode jdk_29_method_69_code 6 = .ok (.goto 4, 3) := by decide +kernel
theorem d5_9 : decode jdk_29_method_69_code 9 = .ok (.iload_n 1, 1) := by decide +kernel
theorem d5_10 : decode jdk_29_method_69_code 10 = .ok (.ireturn, 1) := by decide +kernel
theorem ef_5 (m : MethodId) (p0 : Int32) (p1 : Int32) : entryFrame m #[(.int p0), (.int p1)] 2 = mkF m 0 #[.val (.int p0), .val (.int p1)] [] := by first | (simp [entryFrame, mkF, argsToLocals, Value.category]; done) | rfl
set_option maxRecDepth 65536 in
set_option maxHeartbeats 40000000 in
theorem rm5 (l : Launch) (Z : State) (a0 : Array Value) (hw : ∀ d ∈ tables_1, d.before a0 Z = true) (ws : List Jvm.Cond) (p0 : Int32) (p1 : Int32) (h0 : Heap) (n0 : Nat) :
    MetFree l (⟨"java/lang/Math", "min", "(II)I"⟩ : MethodName) (head1 (Jvm.Cond.code (⟨"java/lang/Math", "min", "(II)I"⟩ : MethodName) jdk_29_method_69_code 2 (some .int) :: ws) ({ frames := 0, cells := 0, slots := 0, locals := 0 } : Room)) (fun a U => a = #[(.int p0), (.int p1)] ∧ Z.Warmed39 U.vm ∧ U.heap = h0) (fun _ _ _ _ _ => True) (fun _ U o U' => ∃ v L, o = .returned v ∧ QP (some (.int (own_min p0 p1))) h0 n0 v U'.heap L ∧ FrameEnd U o U' L ({ frames := 0, cells := 0, slots := 0, locals := 0 } : Room).cells ({ frames := 0, cells := 0, slots := 0, locals := 0 } : Room).slots) := by
  refine MetFree.of_bodySF (Jvm.Free.JP.mathPlain rfl (by decide +kernel)) hisR ?_
  intro p e s m args below meth c s₁ Bd hml0 hP hK
  obtain ⟨rfl, hZ, hh⟩ := hP
  have hx := Bd.exec
  have hby := Bd.bytes
  have hml : c.maxLocals = 2 := hml0
  have hown : s.vm.findClass "java/lang/Math" = some m.cls := findClass_of_methodNamed Bd.named
  have hnm := (name_of_methodNamed Bd.named Bd.method).1
  have X0 : Stand p l e ({ frames := 0, cells := 0, slots := 0, locals := 0 } : Room) s m #[(.int p0), (.int p1)] below meth c s₁ [] 0 0 := Stand.of_body Bd
  have e0 : s₁.heap = h0 := by rw [← hh, Bd.state]; rfl
  have N0 := Fr.nil n0
  have go0 : ∀ t, Steps p.tables e below (s₁.setTop (mkF m 0 #[.val (.int p0), .val (.int p1)] [])) t → Steps p.tables e below (s₁.setTop (entryFrame m #[(.int p0), (.int p1)] 2)) t := fun t k => castTop (ef_5 m p0 p1) k
  have go1 : ∀ t, Steps p.tables e below (s₁.setTop (mkF m 2 #[.val (.int p0), .val (.int p1)] [(.int p1), (.int p0)])) t → Steps p.tables e below (s₁.setTop (entryFrame m #[(.int p0), (.int p1)] 2)) t := fun t kt => go0 t (by
      refine XS.iloadN X0.here hx rfl (hb hby d5_0) rfl ?_
      show Steps p.tables e below (s₁.setTop (mkF m 1 #[.val (.int p0), .val (.int p1)] [(.int p0)])) _
      refine XS.iloadN X0.here hx rfl (hb hby d5_1) rfl ?_
      show Steps p.tables e below (s₁.setTop (mkF m 2 #[.val (.int p0), .val (.int p1)] [(.int p1), (.int p0)])) _
      exact kt)
  by_cases hc2_2 : p1 < p0
  · have go3 : ∀ t, Steps p.tables e below (s₁.setTop (mkF m 10 #[.val (.int p0), .val (.int p1)] [(.int p1)])) t → Steps p.tables e below (s₁.setTop (entryFrame m #[(.int p0), (.int p1)] 2)) t := fun t kt => go1 t (by
        refine XS.icmpYes X0.here hx rfl (pc0 := 2) (pc' := 9) rfl (hb hby d5_2) rfl (tlt hc2_2).2.2.1 (by decide) (by decide) ?_
        show Steps p.tables e below (s₁.setTop (mkF m 9 #[.val (.int p0), .val (.int p1)] [])) _
        refine XS.iloadN X0.here hx rfl (hb hby d5_9) rfl ?_
        show Steps p.tables e below (s₁.setTop (mkF m 10 #[.val (.int p0), .val (.int p1)] [(.int p1)])) _
        exact kt)
    obtain ⟨fs, hr, hrun, hended, hW, hsame⟩ := X0.leave (v := some (.int p1)) (fun h => by rw [Bd.returns] at h; cases h)
    refine ⟨_, _, go3 _ (retI X0 hx Bd.returns (hb hby d5_10) hr), hrun, hended, _, _, rfl, ?_, ⟨_, rfl⟩, hW, hsame.mono (by decide) (by decide)⟩
    refine ⟨?_, N0, e0⟩
    show some (Value.int p1) = some (.int (own_min p0 p1))
    unfold own_min
    rw [if_pos hc2_2]
  · have go4 : ∀ t, Steps p.tables e below (s₁.setTop (mkF m 10 #[.val (.int p0), .val (.int p1)] [(.int p0)])) t → Steps p.tables e below (s₁.setTop (entryFrame m #[(.int p0), (.int p1)] 2)) t := fun t kt => go1 t (by
        refine XS.icmpNo X0.here hx rfl (hb hby d5_2) rfl (flt hc2_2).2.2.1 ?_
        show Steps p.tables e below (s₁.setTop (mkF m 5 #[.val (.int p0), .val (.int p1)] [])) _
        refine XS.iloadN X0.here hx rfl (hb hby d5_5) rfl ?_
        show Steps p.tables e below (s₁.setTop (mkF m 6 #[.val (.int p0), .val (.int p1)] [(.int p0)])) _
        refine XS.goto X0.here hx rfl (pc0 := 6) (pc' := 10) rfl (hb hby d5_6) (by decide) (by decide) ?_
        show Steps p.tables e below (s₁.setTop (mkF m 10 #[.val (.int p0), .val (.int p1)] [(.int p0)])) _
        exact kt)
    obtain ⟨fs, hr, hrun, hended, hW, hsame⟩ := X0.leave (v := some (.int p0)) (fun h => by rw [Bd.returns] at h; cases h)
    refine ⟨_, _, go4 _ (retI X0 hx Bd.returns (hb hby d5_10) hr), hrun, hended, _, _, rfl, ?_, ⟨_, rfl⟩, hW, hsame.mono (by decide) (by decide)⟩
    refine ⟨?_, N0, e0⟩
    show some (Value.int p0) = some (.int (own_min p0 p1))
    unfold own_min
    rw [if_neg hc2_2]
/-- the object at a: its class, its levels, its limit of 32 -/
def own_S (Z : State) (h : Heap) (a : Addr) (lv : Int32) : Prop := Exa Z h a "com/example/reckon/reckon/xpath/StackSegments" ∧ Fld Z h a "com/example/reckon/reckon/xpath/StackSegments" "levels" "I" (.int lv) ∧ Fld Z h a "com/example/reckon/reckon/xpath/StackSegments" "limit" "I" (.int (32 : Int32))
def own_QS (Z : State) (a : Addr) (r : Option Value) (lv : Int32) (n0 : Nat) (v : Option Value) (h : Heap) (L : List Loc) : Prop := v = r ∧ Fr n0 L ∧ own_S Z h a lv
def own_Q0 (n0 : Nat) (v : Option Value) (h : Heap) (L : List Loc) : Prop := v = some (.int 1) ∧ Fr n0 L
def own_en (lv : Int32) : Int32 := if lv < (32 : Int32) then 1 else 0
def own_nx (lv : Int32) : Int32 := if lv < (32 : Int32) then lv + 1 else lv
def own_room (lv m : Int32) : Int32 := if (32 : Int32) < (lv + m) then 0 else 1
def own_B (n : Int32) (K : Int) : Prop := 0 ≤ n.toInt ∧ n.toInt ≤ K
theorem own_addk {n k : Int32} (h0 : 0 ≤ n.toInt) (h1 : n.toInt ≤ 1000) (k0 : 0 ≤ k.toInt) (k1 : k.toInt ≤ 1000) : (n + k).toInt = n.toInt + k.toInt := by
  have a := c_iadd n k
  have b := rng32 (n + k)
  omega
theorem own_Badd {n k : Int32} {A B : Int} (h : own_B n A) (k0 : 0 ≤ k.toInt) (q : A + k.toInt ≤ B) (r : B ≤ 1000) : own_B (n + k) B := by
  obtain ⟨a, b⟩ := h
  have c := own_addk (n := n) (k := k) a (by omega) k0 (by omega)
  exact ⟨by omega, by omega⟩
theorem own_Bw {n : Int32} {A B : Int} (h : own_B n A) (q : A ≤ B) : own_B n B := ⟨h.1, Int.le_trans h.2 q⟩
theorem own_store {l l' : Array Slot} {i : Nat} {v : Value} {o : Slot} (hold : l[i]? = some o) (ho : One o) (hv : v.category = 1) (hl : l.setIfInBounds i (.val v) = l') : storeLocals l i v = some l' := hl ▸ XS.store1 hold ho hv
theorem own_min_lt {n : Int32} (h : n < 32) : own_min n 32 = n := by
  unfold own_min
  rw [if_neg]
  rw [Int32.lt_iff_toInt_lt] at h ⊢
  omega
theorem own_min_ge {n : Int32} (h : ¬ n < 32) : own_min n 32 = 32 := by
  unfold own_min
  by_cases q : (32 : Int32) < n
  · rw [if_pos q]
  · rw [if_neg q]
    apply Int32.toInt_inj.mp
    rw [Int32.lt_iff_toInt_lt] at h q
    omega
theorem own_lt1 {n i : Int32} (h : own_B n 100) (hi : i = n + 1) : (32 : Int32) < i ↔ ¬ n < 32 := by
  subst hi
  have q := own_addk (n := n) (k := 1) h.1 (by have := h.2; omega) (by decide) (by decide)
  have q1 : (1 : Int32).toInt = 1 := by decide
  have q2 : (32 : Int32).toInt = 32 := by decide
  rw [Int32.lt_iff_toInt_lt, Int32.lt_iff_toInt_lt, q, q1, q2]
  omega
theorem own_en1 {n i : Int32} (h : own_B n 100) (hi : i = n + 1) (q : ¬ (32 : Int32) < i) : own_en (own_min n 32) = 1 := by
  have r : n < 32 := Decidable.not_not.mp fun z => q ((own_lt1 h hi).mpr z)
  rw [own_min_lt r]
  unfold own_en
  rw [if_pos r]
theorem own_en0 {n i : Int32} (h : own_B n 100) (hi : i = n + 1) (q : (32 : Int32) < i) : own_en (own_min n 32) = 0 := by
  rw [own_min_ge ((own_lt1 h hi).mp q)]
  decide
theorem own_nxm {n i : Int32} (h : own_B n 100) (hi : i = n + 1) : own_nx (own_min n 32) = own_min i 32 := by
  by_cases r : n < 32
  · rw [own_min_lt r]
    unfold own_nx
    rw [if_pos r, ← hi]
    by_cases t : i < 32
    · rw [own_min_lt t]
    · rw [own_min_ge t]
      have q : ¬ (32 : Int32) < i := fun z => (own_lt1 h hi).mp z r
      apply Int32.toInt_inj.mp
      rw [Int32.lt_iff_toInt_lt] at q t
      omega
  · rw [own_min_ge r, own_min_ge (n := i) ?_]
    · decide
    · have q := (own_lt1 h hi).mpr r
      rw [Int32.lt_iff_toInt_lt] at q ⊢
      omega
theorem d1_0 : decode prog_178_method_1_code 0 = .ok (.aload_n 0, 1) := by decide +kernel
theorem d1_1 : decode prog_178_method_1_code 1 = .ok (.invokespecial 1, 3) := by decide +kernel
theorem d1_4 : decode prog_178_method_1_code 4 = .ok (.aload_n 0, 1) := by decide +kernel
theorem d1_5 : decode prog_178_method_1_code 5 = .ok (.bipush 32, 2) := by decide +kernel
theorem d1_7 : decode prog_178_method_1_code 7 = .ok (.putfield 9, 3) := by decide +kernel
theorem d1_10 : decode prog_178_method_1_code 10 = .ok (.return_, 1) := by decide +kernel
theorem pn_1 : plainName "com/example/reckon/reckon/xpath/StackSegments" = true := by first | (simp [plainName, overriddenIn]; done) | decide +kernel
theorem ef_1 (m : MethodId) (a1 : Addr) : entryFrame m #[(.ref a1)] 1 = mkF m 0 #[.val (.ref a1)] [] := by first | (simp [entryFrame, mkF, argsToLocals, Value.category]; done) | rfl
set_option maxRecDepth 65536 in
set_option maxHeartbeats 40000000 in
theorem rm1 (l : Launch) (Z : State) (a0 : Array Value) (hw : ∀ d ∈ tables_1, d.before a0 Z = true) (ws : List Jvm.Cond) (a1 : Addr) (h0 : Heap) (n0 : Nat) (SE : Exa Z h0 a1 "com/example/reckon/reckon/xpath/StackSegments") (SF1 : Fld Z h0 a1 "com/example/reckon/reckon/xpath/StackSegments" "levels" "I" (.int (0 : Int32))) (SF2 : Fld Z h0 a1 "com/example/reckon/reckon/xpath/StackSegments" "limit" "I" (.int (0 : Int32))) (ga : n0 ≤ a1) :
    MetFree l (⟨"com/example/reckon/reckon/xpath/StackSegments", "<init>", "()V"⟩ : MethodName) (head1 (Jvm.Cond.code (⟨"com/example/reckon/reckon/xpath/StackSegments", "<init>", "()V"⟩ : MethodName) prog_178_method_1_code 1 none :: ws) ({ frames := 1, cells := 0, slots := 0, locals := 12 } : Room)) (fun a U => a = #[(.ref a1)] ∧ Z.Warmed39 U.vm ∧ U.heap = h0) (fun _ _ _ _ _ => True) (fun _ U o U' => ∃ v L, o = .returned v ∧ own_QS Z a1 none 0 n0 v U'.heap L ∧ FrameEnd U o U' L ({ frames := 1, cells := 0, slots := 0, locals := 12 } : Room).cells ({ frames := 1, cells := 0, slots := 0, locals := 12 } : Room).slots) := by
  refine MetFree.of_bodySF (plainFor_of_name pn_1) hisR ?_
  intro p e s m args below meth c s₁ Bd hml0 hP hK
  obtain ⟨rfl, hZ, hh⟩ := hP
  have hx := Bd.exec
  have hby := Bd.bytes
  have hml : c.maxLocals = 1 := hml0
  have hown : s.vm.findClass "com/example/reckon/reckon/xpath/StackSegments" = some m.cls := findClass_of_methodNamed Bd.named
  have hnm := (name_of_methodNamed Bd.named Bd.method).1
  have X0 : Stand p l e ({ frames := 1, cells := 0, slots := 0, locals := 12 } : Room) s m #[(.ref a1)] below meth c s₁ [] 0 0 := Stand.of_body Bd
  have e0 : s₁.heap = h0 := by rw [← hh, Bd.state]; rfl
  have N0 := Fr.nil n0
  have go0 : ∀ t, Steps p.tables e below (s₁.setTop (mkF m 0 #[.val (.ref a1)] [])) t → Steps p.tables e below (s₁.setTop (entryFrame m #[(.ref a1)] 1)) t := fun t k => castTop (ef_1 m a1) k
  have go1 : ∀ t, Steps p.tables e below (s₁.setTop (mkF m 1 #[.val (.ref a1)] [(.ref a1)])) t → Steps p.tables e below (s₁.setTop (entryFrame m #[(.ref a1)] 1)) t := fun t kt => go0 t (by
      refine XS.aloadN X0.here hx rfl (hb hby d1_0) rfl rfl ?_
      show Steps p.tables e below (s₁.setTop (mkF m 1 #[.val (.ref a1)] [(.ref a1)])) _
      exact kt)
  obtain ⟨T2, X2, e2, st2⟩ := initO X0 hx hZ hown (hw _ (List.mem_of_getElem? (i := 6) rfl)) (hw _ (List.mem_of_getElem? (i := 7) rfl)) (hw _ (List.mem_of_getElem? (i := 8) rfl)) e0 (g := (mkF m 1 #[.val (.ref a1)] [(.ref a1)])) rfl (by rw [hml]; rfl) rfl (hb hby d1_1) (by decide) (W := 0) (by show 2 * 0 + _ ≤ _; exact Nat.le_of_eq rfl) (by decide)
  have go3 : ∀ t, Steps p.tables e below (T2.setTop (mkF m 7 #[.val (.ref a1)] [(.int (32 : Int32)), (.ref a1)])) t → Steps p.tables e below (s₁.setTop (entryFrame m #[(.ref a1)] 1)) t := fun t kt => go1 t (by
      refine st2 _ ?_
      show Steps p.tables e below (T2.setTop (mkF m 4 #[.val (.ref a1)] [])) _
      refine XS.aloadN X2.here hx rfl (hb hby d1_4) rfl rfl ?_
      show Steps p.tables e below (T2.setTop (mkF m 5 #[.val (.ref a1)] [(.ref a1)])) _
      refine XS.bipush X2.here hx rfl (hb hby d1_5) ?_
      show Steps p.tables e below (T2.setTop (mkF m 7 #[.val (.ref a1)] [(.int (32 : Int32)), (.ref a1)])) _
      exact kt)
  obtain ⟨T4, h4, X4, e4, W4, st4⟩ := putF X2 hx hZ hown (host := "") (Or.inl (hw _ (List.mem_of_getElem? (i := 9) rfl))) Via.refl e2 SF2 SE (Or.inl (hw _ (List.mem_of_getElem? (i := 10) rfl))) (hw _ (List.mem_of_getElem? (i := 1) rfl)) (ty := .int) (by decide) rfl rfl (g := (mkF m 7 #[.val (.ref a1)] [(.int (32 : Int32)), (.ref a1)])) rfl rfl (hb hby d1_7)
  have Fw4 := SF2.same W4
  have N4 := Fr.snoc X4 N0 ga
  have go5 : ∀ t, Steps p.tables e below (T4.setTop (mkF m 10 #[.val (.ref a1)] [])) t → Steps p.tables e below (s₁.setTop (entryFrame m #[(.ref a1)] 1)) t := fun t kt => go3 t (by
      refine st4 _ ?_
      show Steps p.tables e below (T4.setTop (mkF m 10 #[.val (.ref a1)] [])) _
      exact kt)
  obtain ⟨fs, hr, hrun, hended, hW, hsame⟩ := X4.leave (v := none) (fun _ => rfl)
  refine ⟨_, _, go5 _ (X4.returnOut hx Bd.returns (hb hby d1_10) hr), hrun, hended, _, _, rfl, ?_, ⟨_, rfl⟩, hW, hsame.mono (by decide) (by decide)⟩
  show own_QS _ _ _ _ _ _ T4.heap _
  rw [e4]
  have q6 := (SE.wr W4)
  have q7 := (SF1.other W4 (Or.inr (slot_ne (Or.inl (hw _ (List.mem_of_getElem? (i := 22) rfl))) (Or.inl (hw _ (List.mem_of_getElem? (i := 10) rfl))) (by decide) (t := .int) (t' := .int) (by decide) (by decide))))
  exact ⟨rfl, N4, q6, q7, Fw4⟩
theorem d4_0 : decode prog_178_method_2_code 0 = .ok (.aload_n 0, 1) := by decide +kernel
theorem d4_1 : decode prog_178_method_2_code 1 = .ok (.getfield 13, 3) := by decide +kernel
theorem d4_4 : decode prog_178_method_2_code 4 = .ok (.aload_n 0, 1) := by decide +kernel
theorem d4_5 : decode prog_178_method_2_code 5 = .ok (.getfield 9, 3) := by decide +kernel
theorem d4_8 : decode prog_178_method_2_code 8 = .ok (.if_icmp .ge 7, 3) := by decide +kernel
theorem d4_11 : decode prog_178_method_2_code 11 = .ok (.iconst 1, 1) := by decide +kernel
theorem d4_12 : decode prog_178_method_2_code 12 = .ok (.goto 4, 3) := by decide +kernel
theorem d4_15 : decode prog_178_method_2_code 15 = .ok (.iconst 0, 1) := by decide +kernel
theorem d4_16 : decode prog_178_method_2_code 16 = .ok (.istore_n 1, 1) := by decide +kernel
theorem d4_17 : decode prog_178_method_2_code 17 = .ok (.iload_n 1, 1) := by decide +kernel
theorem d4_18 : decode prog_178_method_2_code 18 = .ok (.ifCond .eq 13, 3) := by decide +kernel
theorem d4_21 : decode prog_178_method_2_code 21 = .ok (.aload_n 0, 1) := by decide +kernel
theorem d4_22 : decode prog_178_method_2_code 22 = .ok (.dup, 1) := by decide +kernel
theorem d4_23 : decode prog_178_method_2_code 23 = .ok (.getfield 13, 3) := by decide +kernel
theorem d4_26 : decode prog_178_method_2_code 26 = .ok (.iconst 1, 1) := by decide +kernel
theorem d4_27 : decode prog_178_method_2_code 27 = .ok (.iadd, 1) := by decide +kernel
theorem d4_28 : decode prog_178_method_2_code 28 = .ok (.putfield 13, 3) := by decide +kernel
theorem d4_31 : decode prog_178_method_2_code 31 = .ok (.iload_n 1, 1) := by decide +kernel
theorem d4_32 : decode prog_178_method_2_code 32 = .ok (.ireturn, 1) := by decide +kernel
theorem pn_4 : plainName "com/example/reckon/reckon/xpath/StackSegments" = true := by first | (simp [plainName, overriddenIn]; done) | decide +kernel
theorem ef_4 (m : MethodId) (a1 : Addr) : entryFrame m #[(.ref a1)] 2 = mkF m 0 #[.val (.ref a1), .unset] [] := by first | (simp [entryFrame, mkF, argsToLocals, Value.category]; done) | rfl
set_option maxRecDepth 65536 in
set_option maxHeartbeats 40000000 in
theorem rm4 (l : Launch) (Z : State) (a0 : Array Value) (hw : ∀ d ∈ tables_1, d.before a0 Z = true) (ws : List Jvm.Cond) (a1 : Addr) (lv : Int32) (h0 : Heap) (n0 : Nat) (S0 : own_S Z h0 a1 lv) (ga : n0 ≤ a1) :
    MetFree l (⟨"com/example/reckon/reckon/xpath/StackSegments", "enter", "()Z"⟩ : MethodName) (head1 (Jvm.Cond.code (⟨"com/example/reckon/reckon/xpath/StackSegments", "enter", "()Z"⟩ : MethodName) prog_178_method_2_code 2 (some .boolean) :: ws) ({ frames := 0, cells := 0, slots := 0, locals := 0 } : Room)) (fun a U => a = #[(.ref a1)] ∧ Z.Warmed39 U.vm ∧ U.heap = h0) (fun _ _ _ _ _ => True) (fun _ U o U' => ∃ v L, o = .returned v ∧ own_QS Z a1 (some (.int (own_en lv))) (own_nx lv) n0 v U'.heap L ∧ FrameEnd U o U' L ({ frames := 0, cells := 0, slots := 0, locals := 0 } : Room).cells ({ frames := 0, cells := 0, slots := 0, locals := 0 } : Room).slots) := by
  refine MetFree.of_bodySF (plainFor_of_name pn_4) hisR ?_
  intro p e s m args below meth c s₁ Bd hml0 hP hK
  obtain ⟨rfl, hZ, hh⟩ := hP
  have hx := Bd.exec
  have hby := Bd.bytes
  have hml : c.maxLocals = 2 := hml0
  have hown : s.vm.findClass "com/example/reckon/reckon/xpath/StackSegments" = some m.cls := findClass_of_methodNamed Bd.named
  have hnm := (name_of_methodNamed Bd.named Bd.method).1
  have X0 : Stand p l e ({ frames := 0, cells := 0, slots := 0, locals := 0 } : Room) s m #[(.ref a1)] below meth c s₁ [] 0 0 := Stand.of_body Bd
  have e0 : s₁.heap = h0 := by rw [← hh, Bd.state]; rfl
  have N0 := Fr.nil n0
  have go0 : ∀ t, Steps p.tables e below (s₁.setTop (mkF m 0 #[.val (.ref a1), .unset] [])) t → Steps p.tables e below (s₁.setTop (entryFrame m #[(.ref a1)] 2)) t := fun t k => castTop (ef_4 m a1) k
  obtain ⟨SE, SF1, SF2⟩ := id S0
  have go1 : ∀ t, Steps p.tables e below (s₁.setTop (mkF m 1 #[.val (.ref a1), .unset] [(.ref a1)])) t → Steps p.tables e below (s₁.setTop (entryFrame m #[(.ref a1)] 2)) t := fun t kt => go0 t (by
      refine XS.aloadN X0.here hx rfl (hb hby d4_0) rfl rfl ?_
      show Steps p.tables e below (s₁.setTop (mkF m 1 #[.val (.ref a1), .unset] [(.ref a1)])) _
      exact kt)
  obtain ⟨T2, X2, e2, st2⟩ := getF X0 hx hZ hown (host := "") (Or.inl (hw _ (List.mem_of_getElem? (i := 21) rfl))) Via.refl e0 SF1 (g := (mkF m 1 #[.val (.ref a1), .unset] [(.ref a1)])) rfl rfl (hb hby d4_1)
  have go3 : ∀ t, Steps p.tables e below (T2.setTop (mkF m 5 #[.val (.ref a1), .unset] [(.ref a1), (.int lv)])) t → Steps p.tables e below (s₁.setTop (entryFrame m #[(.ref a1)] 2)) t := fun t kt => go1 t (by
      refine st2 _ ?_
      show Steps p.tables e below (T2.setTop (mkF m 4 #[.val (.ref a1), .unset] [(.int lv)])) _
      refine XS.aloadN X2.here hx rfl (hb hby d4_4) rfl rfl ?_
      show Steps p.tables e below (T2.setTop (mkF m 5 #[.val (.ref a1), .unset] [(.ref a1), (.int lv)])) _
      exact kt)
  obtain ⟨T4, X4, e4, st4⟩ := getF X2 hx hZ hown (host := "") (Or.inl (hw _ (List.mem_of_getElem? (i := 9) rfl))) Via.refl e2 SF2 (g := (mkF m 5 #[.val (.ref a1), .unset] [(.ref a1), (.int lv)])) rfl rfl (hb hby d4_5)
  have go5 : ∀ t, Steps p.tables e below (T4.setTop (mkF m 8 #[.val (.ref a1), .unset] [(.int (32 : Int32)), (.int lv)])) t → Steps p.tables e below (s₁.setTop (entryFrame m #[(.ref a1)] 2)) t := fun t kt => go3 t (by
      refine st4 _ ?_
      show Steps p.tables e below (T4.setTop (mkF m 8 #[.val (.ref a1), .unset] [(.int (32 : Int32)), (.int lv)])) _
      exact kt)
  by_cases hc8_6 : lv < (32 : Int32)
  · have hc18_7 : ¬ ((1 : Int32) = (0 : Int32)) := (by decide)
    have go8 : ∀ t, Steps p.tables e below (T4.setTop (mkF m 23 #[.val (.ref a1), .val (.int (1 : Int32))] [(.ref a1), (.ref a1)])) t → Steps p.tables e below (s₁.setTop (entryFrame m #[(.ref a1)] 2)) t := fun t kt => go5 t (by
        refine XS.icmpNo X4.here hx rfl (hb hby d4_8) rfl (tlt hc8_6).2.1 ?_
        show Steps p.tables e below (T4.setTop (mkF m 11 #[.val (.ref a1), .unset] [])) _
        refine XS.iconst X4.here hx rfl (hb hby d4_11) ?_
        show Steps p.tables e below (T4.setTop (mkF m 12 #[.val (.ref a1), .unset] [(.int (1 : Int32))])) _
        refine XS.goto X4.here hx rfl (pc0 := 12) (pc' := 16) rfl (hb hby d4_12) (by decide) (by decide) ?_
        show Steps p.tables e below (T4.setTop (mkF m 16 #[.val (.ref a1), .unset] [(.int (1 : Int32))])) _
        refine XS.istoreN X4.here hx rfl (hb hby d4_16) rfl (l' := #[.val (.ref a1), .val (.int (1 : Int32))]) rfl ?_
        show Steps p.tables e below (T4.setTop (mkF m 17 #[.val (.ref a1), .val (.int (1 : Int32))] [])) _
        refine XS.iloadN X4.here hx rfl (hb hby d4_17) rfl ?_
        show Steps p.tables e below (T4.setTop (mkF m 18 #[.val (.ref a1), .val (.int (1 : Int32))] [(.int (1 : Int32))])) _
        refine XS.ifNo X4.here hx rfl (hb hby d4_18) rfl ((if0 _ _).trans (feq hc18_7).1) ?_
        show Steps p.tables e below (T4.setTop (mkF m 21 #[.val (.ref a1), .val (.int (1 : Int32))] [])) _
        refine XS.aloadN X4.here hx rfl (hb hby d4_21) rfl rfl ?_
        show Steps p.tables e below (T4.setTop (mkF m 22 #[.val (.ref a1), .val (.int (1 : Int32))] [(.ref a1)])) _
        refine XS.dup X4.here hx rfl (hb hby d4_22) rfl rfl ?_
        show Steps p.tables e below (T4.setTop (mkF m 23 #[.val (.ref a1), .val (.int (1 : Int32))] [(.ref a1), (.ref a1)])) _
        exact kt)
    obtain ⟨T9, X9, e9, st9⟩ := getF X4 hx hZ hown (host := "") (Or.inl (hw _ (List.mem_of_getElem? (i := 21) rfl))) Via.refl e4 SF1 (g := (mkF m 23 #[.val (.ref a1), .val (.int (1 : Int32))] [(.ref a1), (.ref a1)])) rfl rfl (hb hby d4_23)
    have go10 : ∀ t, Steps p.tables e below (T9.setTop (mkF m 28 #[.val (.ref a1), .val (.int (1 : Int32))] [(.int (lv + (1 : Int32))), (.ref a1)])) t → Steps p.tables e below (s₁.setTop (entryFrame m #[(.ref a1)] 2)) t := fun t kt => go8 t (by
        refine st9 _ ?_
        show Steps p.tables e below (T9.setTop (mkF m 26 #[.val (.ref a1), .val (.int (1 : Int32))] [(.int lv), (.ref a1)])) _
        refine XS.iconst X9.here hx rfl (hb hby d4_26) ?_
        show Steps p.tables e below (T9.setTop (mkF m 27 #[.val (.ref a1), .val (.int (1 : Int32))] [(.int (1 : Int32)), (.int lv), (.ref a1)])) _
        refine XS.iadd X9.here hx rfl (hb hby d4_27) rfl ?_
        show Steps p.tables e below (T9.setTop (mkF m 28 #[.val (.ref a1), .val (.int (1 : Int32))] [(.int (lv + (1 : Int32))), (.ref a1)])) _
        exact kt)
    obtain ⟨T11, h11, X11, e11, W11, st11⟩ := putF X9 hx hZ hown (host := "") (Or.inl (hw _ (List.mem_of_getElem? (i := 21) rfl))) Via.refl e9 SF1 SE (Or.inl (hw _ (List.mem_of_getElem? (i := 22) rfl))) (hw _ (List.mem_of_getElem? (i := 1) rfl)) (ty := .int) (by decide) rfl rfl (g := (mkF m 28 #[.val (.ref a1), .val (.int (1 : Int32))] [(.int (lv + (1 : Int32))), (.ref a1)])) rfl rfl (hb hby d4_28)
    have Fw11 := SF1.same W11
    have N11 := Fr.snoc X11 N0 ga
    have go12 : ∀ t, Steps p.tables e below (T11.setTop (mkF m 32 #[.val (.ref a1), .val (.int (1 : Int32))] [(.int (1 : Int32))])) t → Steps p.tables e below (s₁.setTop (entryFrame m #[(.ref a1)] 2)) t := fun t kt => go10 t (by
        refine st11 _ ?_
        show Steps p.tables e below (T11.setTop (mkF m 31 #[.val (.ref a1), .val (.int (1 : Int32))] [])) _
        refine XS.iloadN X11.here hx rfl (hb hby d4_31) rfl ?_
        show Steps p.tables e below (T11.setTop (mkF m 32 #[.val (.ref a1), .val (.int (1 : Int32))] [(.int (1 : Int32))])) _
        exact kt)
    obtain ⟨fs, hr, hrun, hended, hW, hsame⟩ := X11.leave (v := some (.int (1 : Int32))) (fun h => by rw [Bd.returns] at h; cases h)
    refine ⟨_, _, go12 _ (retN X11 hx (t := .boolean) Bd.returns (by simp) (hb hby d4_32) hr), hrun, hended, _, _, rfl, ?_, ⟨_, rfl⟩, hW, hsame.mono (by decide) (by decide)⟩
    show own_QS _ _ _ _ _ _ T11.heap _
    rw [e11, show own_en lv = 1 from if_pos hc8_6, show own_nx lv = lv + 1 from if_pos hc8_6]
    have q13 := (SE.wr W11)
    have q14 := (SF2.other W11 (Or.inr (slot_ne (Or.inl (hw _ (List.mem_of_getElem? (i := 10) rfl))) (Or.inl (hw _ (List.mem_of_getElem? (i := 22) rfl))) (by decide) (t := .int) (t' := .int) (by decide) (by decide))))
    exact ⟨rfl, N11, q13, Fw11, q14⟩
  · have hc18_15 : (0 : Int32) = (0 : Int32) := (by decide)
    have go16 : ∀ t, Steps p.tables e below (T4.setTop (mkF m 32 #[.val (.ref a1), .val (.int (0 : Int32))] [(.int (0 : Int32))])) t → Steps p.tables e below (s₁.setTop (entryFrame m #[(.ref a1)] 2)) t := fun t kt => go5 t (by
        refine XS.icmpYes X4.here hx rfl (pc0 := 8) (pc' := 15) rfl (hb hby d4_8) rfl (flt hc8_6).2.1 (by decide) (by decide) ?_
        show Steps p.tables e below (T4.setTop (mkF m 15 #[.val (.ref a1), .unset] [])) _
        refine XS.iconst X4.here hx rfl (hb hby d4_15) ?_
        show Steps p.tables e below (T4.setTop (mkF m 16 #[.val (.ref a1), .unset] [(.int (0 : Int32))])) _
        refine XS.istoreN X4.here hx rfl (hb hby d4_16) rfl (l' := #[.val (.ref a1), .val (.int (0 : Int32))]) rfl ?_
        show Steps p.tables e below (T4.setTop (mkF m 17 #[.val (.ref a1), .val (.int (0 : Int32))] [])) _
        refine XS.iloadN X4.here hx rfl (hb hby d4_17) rfl ?_
        show Steps p.tables e below (T4.setTop (mkF m 18 #[.val (.ref a1), .val (.int (0 : Int32))] [(.int (0 : Int32))])) _
        refine XS.ifYes X4.here hx rfl (pc0 := 18) (pc' := 31) rfl (hb hby d4_18) rfl ((if0 _ _).trans (teq hc18_15).1) (by decide) (by decide) ?_
        show Steps p.tables e below (T4.setTop (mkF m 31 #[.val (.ref a1), .val (.int (0 : Int32))] [])) _
        refine XS.iloadN X4.here hx rfl (hb hby d4_31) rfl ?_
        show Steps p.tables e below (T4.setTop (mkF m 32 #[.val (.ref a1), .val (.int (0 : Int32))] [(.int (0 : Int32))])) _
        exact kt)
    obtain ⟨fs, hr, hrun, hended, hW, hsame⟩ := X4.leave (v := some (.int (0 : Int32))) (fun h => by rw [Bd.returns] at h; cases h)
    refine ⟨_, _, go16 _ (retN X4 hx (t := .boolean) Bd.returns (by simp) (hb hby d4_32) hr), hrun, hended, _, _, rfl, ?_, ⟨_, rfl⟩, hW, hsame.mono (by decide) (by decide)⟩
    show own_QS _ _ _ _ _ _ T4.heap _
    rw [e4, show own_en lv = 0 from if_neg hc8_6, show own_nx lv = lv from if_neg hc8_6]
    exact ⟨rfl, N0, SE, SF1, SF2⟩
theorem d6_0 : decode prog_178_method_4_code 0 = .ok (.aload_n 0, 1) := by decide +kernel
theorem d6_1 : decode prog_178_method_4_code 1 = .ok (.getfield 13, 3) := by decide +kernel
theorem d6_4 : decode prog_178_method_4_code 4 = .ok (.iload_n 1, 1) := by decide +kernel
theorem d6_5 : decode prog_178_method_4_code 5 = .ok (.iadd, 1) := by decide +kernel
theorem d6_6 : decode prog_178_method_4_code 6 = .ok (.aload_n 0, 1) := by decide +kernel
theorem d6_7 : decode prog_178_method_4_code 7 = .ok (.getfield 9, 3) := by decide +kernel
theorem d6_10 : decode prog_178_method_4_code 10 = .ok (.if_icmp .gt 7, 3) := by decide +kernel
theorem d6_13 : decode prog_178_method_4_code 13 = .ok (.iconst 1, 1) := by decide +kernel
theorem d6_14 : decode prog_178_method_4_code 14 = .ok (.goto 4, 3) := by decide +kernel
theorem d6_17 : decode prog_178_method_4_code 17 = .ok (.iconst 0, 1) := by decide +kernel
theorem d6_18 : decode prog_178_method_4_code 18 = .ok (.ireturn, 1) := by decide +kernel
theorem pn_6 : plainName "com/example/reckon/reckon/xpath/StackSegments" = true := by first | (simp [plainName, overriddenIn]; done) | decide +kernel
theorem ef_6 (m : MethodId) (a1 : Addr) (p2 : Int32) : entryFrame m #[(.ref a1), (.int p2)] 2 = mkF m 0 #[.val (.ref a1), .val (.int p2)] [] := by first | (simp [entryFrame, mkF, argsToLocals, Value.category]; done) | rfl
set_option maxRecDepth 65536 in
set_option maxHeartbeats 40000000 in
theorem rm6 (l : Launch) (Z : State) (a0 : Array Value) (hw : ∀ d ∈ tables_1, d.before a0 Z = true) (ws : List Jvm.Cond) (a1 : Addr) (p2 : Int32) (lv : Int32) (h0 : Heap) (n0 : Nat) (S0 : own_S Z h0 a1 lv) (ga : n0 ≤ a1) :
    MetFree l (⟨"com/example/reckon/reckon/xpath/StackSegments", "hasRoomFor", "(I)Z"⟩ : MethodName) (head1 (Jvm.Cond.code (⟨"com/example/reckon/reckon/xpath/StackSegments", "hasRoomFor", "(I)Z"⟩ : MethodName) prog_178_method_4_code 2 (some .boolean) :: ws) ({ frames := 0, cells := 0, slots := 0, locals := 0 } : Room)) (fun a U => a = #[(.ref a1), (.int p2)] ∧ Z.Warmed39 U.vm ∧ U.heap = h0) (fun _ _ _ _ _ => True) (fun _ U o U' => ∃ v L, o = .returned v ∧ QP (some (.int (own_room lv p2))) h0 n0 v U'.heap L ∧ FrameEnd U o U' L ({ frames := 0, cells := 0, slots := 0, locals := 0 } : Room).cells ({ frames := 0, cells := 0, slots := 0, locals := 0 } : Room).slots) := by
  refine MetFree.of_bodySF (plainFor_of_name pn_6) hisR ?_
  intro p e s m args below meth c s₁ Bd hml0 hP hK
  obtain ⟨rfl, hZ, hh⟩ := hP
  have hx := Bd.exec
  have hby := Bd.bytes
  have hml : c.maxLocals = 2 := hml0
  have hown : s.vm.findClass "com/example/reckon/reckon/xpath/StackSegments" = some m.cls := findClass_of_methodNamed Bd.named
  have hnm := (name_of_methodNamed Bd.named Bd.method).1
  have X0 : Stand p l e ({ frames := 0, cells := 0, slots := 0, locals := 0 } : Room) s m #[(.ref a1), (.int p2)] below meth c s₁ [] 0 0 := Stand.of_body Bd
  have e0 : s₁.heap = h0 := by rw [← hh, Bd.state]; rfl
  have N0 := Fr.nil n0
  have go0 : ∀ t, Steps p.tables e below (s₁.setTop (mkF m 0 #[.val (.ref a1), .val (.int p2)] [])) t → Steps p.tables e below (s₁.setTop (entryFrame m #[(.ref a1), (.int p2)] 2)) t := fun t k => castTop (ef_6 m a1 p2) k
  obtain ⟨SE, SF1, SF2⟩ := id S0
  have go1 : ∀ t, Steps p.tables e below (s₁.setTop (mkF m 1 #[.val (.ref a1), .val (.int p2)] [(.ref a1)])) t → Steps p.tables e below (s₁.setTop (entryFrame m #[(.ref a1), (.int p2)] 2)) t := fun t kt => go0 t (by
      refine XS.aloadN X0.here hx rfl (hb hby d6_0) rfl rfl ?_
      show Steps p.tables e below (s₁.setTop (mkF m 1 #[.val (.ref a1), .val (.int p2)] [(.ref a1)])) _
      exact kt)
  obtain ⟨T2, X2, e2, st2⟩ := getF X0 hx hZ hown (host := "") (Or.inl (hw _ (List.mem_of_getElem? (i := 21) rfl))) Via.refl e0 SF1 (g := (mkF m 1 #[.val (.ref a1), .val (.int p2)] [(.ref a1)])) rfl rfl (hb hby d6_1)
  have go3 : ∀ t, Steps p.tables e below (T2.setTop (mkF m 7 #[.val (.ref a1), .val (.int p2)] [(.ref a1), (.int (lv + p2))])) t → Steps p.tables e below (s₁.setTop (entryFrame m #[(.ref a1), (.int p2)] 2)) t := fun t kt => go1 t (by
      refine st2 _ ?_
      show Steps p.tables e below (T2.setTop (mkF m 4 #[.val (.ref a1), .val (.int p2)] [(.int lv)])) _
      refine XS.iloadN X2.here hx rfl (hb hby d6_4) rfl ?_
      show Steps p.tables e below (T2.setTop (mkF m 5 #[.val (.ref a1), .val (.int p2)] [(.int p2), (.int lv)])) _
      refine XS.iadd X2.here hx rfl (hb hby d6_5) rfl ?_
      show Steps p.tables e below (T2.setTop (mkF m 6 #[.val (.ref a1), .val (.int p2)] [(.int (lv + p2))])) _
      refine XS.aloadN X2.here hx rfl (hb hby d6_6) rfl rfl ?_
      show Steps p.tables e below (T2.setTop (mkF m 7 #[.val (.ref a1), .val (.int p2)] [(.ref a1), (.int (lv + p2))])) _
      exact kt)
  obtain ⟨T4, X4, e4, st4⟩ := getF X2 hx hZ hown (host := "") (Or.inl (hw _ (List.mem_of_getElem? (i := 9) rfl))) Via.refl e2 SF2 (g := (mkF m 7 #[.val (.ref a1), .val (.int p2)] [(.ref a1), (.int (lv + p2))])) rfl rfl (hb hby d6_7)
  have go5 : ∀ t, Steps p.tables e below (T4.setTop (mkF m 10 #[.val (.ref a1), .val (.int p2)] [(.int (32 : Int32)), (.int (lv + p2))])) t → Steps p.tables e below (s₁.setTop (entryFrame m #[(.ref a1), (.int p2)] 2)) t := fun t kt => go3 t (by
      refine st4 _ ?_
      show Steps p.tables e below (T4.setTop (mkF m 10 #[.val (.ref a1), .val (.int p2)] [(.int (32 : Int32)), (.int (lv + p2))])) _
      exact kt)
  by_cases hc10_6 : (32 : Int32) < (lv + p2)
  · have go7 : ∀ t, Steps p.tables e below (T4.setTop (mkF m 18 #[.val (.ref a1), .val (.int p2)] [(.int (0 : Int32))])) t → Steps p.tables e below (s₁.setTop (entryFrame m #[(.ref a1), (.int p2)] 2)) t := fun t kt => go5 t (by
        refine XS.icmpYes X4.here hx rfl (pc0 := 10) (pc' := 17) rfl (hb hby d6_10) rfl (tlt hc10_6).2.2.1 (by decide) (by decide) ?_
        show Steps p.tables e below (T4.setTop (mkF m 17 #[.val (.ref a1), .val (.int p2)] [])) _
        refine XS.iconst X4.here hx rfl (hb hby d6_17) ?_
        show Steps p.tables e below (T4.setTop (mkF m 18 #[.val (.ref a1), .val (.int p2)] [(.int (0 : Int32))])) _
        exact kt)
    obtain ⟨fs, hr, hrun, hended, hW, hsame⟩ := X4.leave (v := some (.int (0 : Int32))) (fun h => by rw [Bd.returns] at h; cases h)
    refine ⟨_, _, go7 _ (retN X4 hx (t := .boolean) Bd.returns (by simp) (hb hby d6_18) hr), hrun, hended, _, _, rfl, ?_, ⟨_, rfl⟩, hW, hsame.mono (by decide) (by decide)⟩
    refine ⟨?_, N0, e4⟩
    rw [show own_room lv p2 = (0 : Int32) from if_pos hc10_6]
  · have go8 : ∀ t, Steps p.tables e below (T4.setTop (mkF m 18 #[.val (.ref a1), .val (.int p2)] [(.int (1 : Int32))])) t → Steps p.tables e below (s₁.setTop (entryFrame m #[(.ref a1), (.int p2)] 2)) t := fun t kt => go5 t (by
        refine XS.icmpNo X4.here hx rfl (hb hby d6_10) rfl (flt hc10_6).2.2.1 ?_
        show Steps p.tables e below (T4.setTop (mkF m 13 #[.val (.ref a1), .val (.int p2)] [])) _
        refine XS.iconst X4.here hx rfl (hb hby d6_13) ?_
        show Steps p.tables e below (T4.setTop (mkF m 14 #[.val (.ref a1), .val (.int p2)] [(.int (1 : Int32))])) _
        refine XS.goto X4.here hx rfl (pc0 := 14) (pc' := 18) rfl (hb hby d6_14) (by decide) (by decide) ?_
        show Steps p.tables e below (T4.setTop (mkF m 18 #[.val (.ref a1), .val (.int p2)] [(.int (1 : Int32))])) _
        exact kt)
    obtain ⟨fs, hr, hrun, hended, hW, hsame⟩ := X4.leave (v := some (.int (1 : Int32))) (fun h => by rw [Bd.returns] at h; cases h)
    refine ⟨_, _, go8 _ (retN X4 hx (t := .boolean) Bd.returns (by simp) (hb hby d6_18) hr), hrun, hended, _, _, rfl, ?_, ⟨_, rfl⟩, hW, hsame.mono (by decide) (by decide)⟩
    refine ⟨?_, N0, e4⟩
    rw [show own_room lv p2 = (1 : Int32) from if_neg hc10_6]
theorem d3_0 : decode method_2_code 0 = .ok (.aload_n 0, 1) := by decide +kernel
theorem d3_1 : decode method_2_code 1 = .ok (.invokevirtual 7, 3) := by decide +kernel
theorem d3_4 : decode method_2_code 4 = .ok (.istore_n 2, 1) := by decide +kernel
theorem d3_5 : decode method_2_code 5 = .ok (.iload_n 2, 1) := by decide +kernel
theorem d3_6 : decode method_2_code 6 = .ok (.iload_n 1, 1) := by decide +kernel
theorem d3_7 : decode method_2_code 7 = .ok (.bipush 32, 2) := by decide +kernel
theorem d3_9 : decode method_2_code 9 = .ok (.if_icmp .gt 7, 3) := by decide +kernel
theorem d3_12 : decode method_2_code 12 = .ok (.iconst 1, 1) := by decide +kernel
theorem d3_13 : decode method_2_code 13 = .ok (.goto 4, 3) := by decide +kernel
theorem d3_16 : decode method_2_code 16 = .ok (.iconst 0, 1) := by decide +kernel
theorem d3_17 : decode method_2_code 17 = .ok (.if_icmp .ne 7, 3) := by decide +kernel
theorem d3_20 : decode method_2_code 20 = .ok (.iconst 1, 1) := by decide +kernel
theorem d3_21 : decode method_2_code 21 = .ok (.goto 4, 3) := by decide +kernel
theorem d3_25 : decode method_2_code 25 = .ok (.ireturn, 1) := by decide +kernel
theorem pn_3 : plainName "com/example/reckon/reckon/xpath/StackSegmentsEnterPinLaw" = true := by first | (simp [plainName, overriddenIn]; done) | decide +kernel
theorem ef_3 (m : MethodId) (a1 : Addr) (p2 : Int32) : entryFrame m #[(.ref a1), (.int p2)] 3 = mkF m 0 #[.val (.ref a1), .val (.int p2), .unset] [] := by first | (simp [entryFrame, mkF, argsToLocals, Value.category]; done) | rfl
set_option maxRecDepth 65536 in
set_option maxHeartbeats 40000000 in
theorem rm3 (l : Launch) (Z : State) (a0 : Array Value) (hw : ∀ d ∈ tables_1, d.before a0 Z = true) (ws : List Jvm.Cond) (a1 : Addr) (p2 : Int32) (n : Int32) (h0 : Heap) (n0 : Nat) (S0 : own_S Z h0 a1 (own_min n 32)) (hB : own_B n 100) (hi : p2 = n + 1) (ga : n0 ≤ a1) :
    MetFree l (⟨"com/example/reckon/reckon/xpath/StackSegmentsEnterPinLaw", "one", "(Lcom/example/reckon/reckon/xpath/StackSegments;I)Z"⟩ : MethodName) (head1 (Jvm.Cond.code (⟨"com/example/reckon/reckon/xpath/StackSegmentsEnterPinLaw", "one", "(Lcom/example/reckon/reckon/xpath/StackSegments;I)Z"⟩ : MethodName) method_2_code 3 (some .boolean) :: ws) ({ frames := 1, cells := 0, slots := 0, locals := 13 } : Room)) (fun a U => a = #[(.ref a1), (.int p2)] ∧ Z.Warmed39 U.vm ∧ U.heap = h0) (fun _ _ _ _ _ => True) (fun _ U o U' => ∃ v L, o = .returned v ∧ own_QS Z a1 (some (.int 1)) (own_min p2 32) n0 v U'.heap L ∧ FrameEnd U o U' L ({ frames := 1, cells := 0, slots := 0, locals := 13 } : Room).cells ({ frames := 1, cells := 0, slots := 0, locals := 13 } : Room).slots) := by
  refine MetFree.of_bodySF (plainFor_of_name pn_3) hisR ?_
  intro p e s m args below meth c s₁ Bd hml0 hP hK
  obtain ⟨rfl, hZ, hh⟩ := hP
  have hx := Bd.exec
  have hby := Bd.bytes
  have hml : c.maxLocals = 3 := hml0
  have hown : s.vm.findClass "com/example/reckon/reckon/xpath/StackSegmentsEnterPinLaw" = some m.cls := findClass_of_methodNamed Bd.named
  have hnm := (name_of_methodNamed Bd.named Bd.method).1
  have X0 : Stand p l e ({ frames := 1, cells := 0, slots := 0, locals := 13 } : Room) s m #[(.ref a1), (.int p2)] below meth c s₁ [] 0 0 := Stand.of_body Bd
  have e0 : s₁.heap = h0 := by rw [← hh, Bd.state]; rfl
  have N0 := Fr.nil n0
  have go0 : ∀ t, Steps p.tables e below (s₁.setTop (mkF m 0 #[.val (.ref a1), .val (.int p2), .unset] [])) t → Steps p.tables e below (s₁.setTop (entryFrame m #[(.ref a1), (.int p2)] 3)) t := fun t k => castTop (ef_3 m a1 p2) k
  have go1 : ∀ t, Steps p.tables e below (s₁.setTop (mkF m 1 #[.val (.ref a1), .val (.int p2), .unset] [(.ref a1)])) t → Steps p.tables e below (s₁.setTop (entryFrame m #[(.ref a1), (.int p2)] 3)) t := fun t kt => go0 t (by
      refine XS.aloadN X0.here hx rfl (hb hby d3_0) rfl rfl ?_
      show Steps p.tables e below (s₁.setTop (mkF m 1 #[.val (.ref a1), .val (.int p2), .unset] [(.ref a1)])) _
      exact kt)
  obtain ⟨cq2, kq2, q2a, q2b, q2c⟩ := isOf hZ e0 S0.1
  obtain ⟨_, _, ⟨T2, L2, k2, n2⟩, -, X2, ⟨Lc2, hQ2, l2, y2, z2⟩, st2⟩ := X0.virtualBack hx (y := (⟨"com/example/reckon/reckon/xpath/StackSegments", "enter", "()Z"⟩ : MethodName)) (z := (⟨"com/example/reckon/reckon/xpath/StackSegments", "enter", "()Z"⟩ : MethodName)) hown (mvT hZ (hw _ (List.mem_of_getElem? (i := 16) rfl))) (mvT hZ (hw _ (List.mem_of_getElem? (i := 17) rfl))) (notFace_of_selects (args := #[]) (mvT hZ (hw _ (List.mem_of_getElem? (i := 19) rfl)))) (mvT hZ (hw _ (List.mem_of_getElem? (i := 19) rfl))) (mvT hZ (hw _ (List.mem_of_getElem? (i := 18) rfl))) (by decide) (backOf (W := 0) (rm4 l Z a0 hw [] a1 (own_min n 32) h0 n0 S0 ga) hZ (hw _ (List.mem_of_getElem? (i := 20) rfl)) (hw _ (List.mem_of_getElem? (i := 2) rfl)) (by decide) (by decide)) q2a q2c (g := (mkF m 1 #[.val (.ref a1), .val (.int p2), .unset] [(.ref a1)])) rfl (by rw [hml]; rfl) (Steps.refl _) (argsL := []) (rest := []) (lenOf pd_2 rfl) rfl (by show 2 * 0 + _ ≤ _; exact Nat.le_of_eq rfl) (hb hby d3_1) (fun _ _ => ⟨rfl, e0, (by decide : 0 + 0 ≤ _), (by decide : 0 + 0 ≤ _)⟩)
  dsimp only [Pt.U, Pt.locs, Pt.cells, Pt.slots] at X2 l2 y2 z2 st2 hQ2
  subst l2 y2 z2
  obtain ⟨rfl, N2q, S2⟩ := hQ2
  have N2 := Fr.app N0 N2q
  have go3 : ∀ t, Steps p.tables e below (T2.setTop (mkF m 9 #[.val (.ref a1), .val (.int p2), .val (.int (own_en (own_min n 32)))] [(.int (32 : Int32)), (.int p2), (.int (own_en (own_min n 32)))])) t → Steps p.tables e below (s₁.setTop (entryFrame m #[(.ref a1), (.int p2)] 3)) t := fun t kt => go1 t (by
      refine st2.trans ?_
      show Steps p.tables e below (T2.setTop (mkF m 4 #[.val (.ref a1), .val (.int p2), .unset] [(.int (own_en (own_min n 32)))])) _
      refine XS.istoreN X2.here hx rfl (hb hby d3_4) rfl (l' := #[.val (.ref a1), .val (.int p2), .val (.int (own_en (own_min n 32)))]) rfl ?_
      show Steps p.tables e below (T2.setTop (mkF m 5 #[.val (.ref a1), .val (.int p2), .val (.int (own_en (own_min n 32)))] [])) _
      refine XS.iloadN X2.here hx rfl (hb hby d3_5) rfl ?_
      show Steps p.tables e below (T2.setTop (mkF m 6 #[.val (.ref a1), .val (.int p2), .val (.int (own_en (own_min n 32)))] [(.int (own_en (own_min n 32)))])) _
      refine XS.iloadN X2.here hx rfl (hb hby d3_6) rfl ?_
      show Steps p.tables e below (T2.setTop (mkF m 7 #[.val (.ref a1), .val (.int p2), .val (.int (own_en (own_min n 32)))] [(.int p2), (.int (own_en (own_min n 32)))])) _
      refine XS.bipush X2.here hx rfl (hb hby d3_7) ?_
      show Steps p.tables e below (T2.setTop (mkF m 9 #[.val (.ref a1), .val (.int p2), .val (.int (own_en (own_min n 32)))] [(.int (32 : Int32)), (.int p2), (.int (own_en (own_min n 32)))])) _
      exact kt)
  by_cases hc9_4 : (32 : Int32) < p2
  · have hc17_5 : (own_en (own_min n 32)) = (0 : Int32) := own_en0 hB hi hc9_4
    have go6 : ∀ t, Steps p.tables e below (T2.setTop (mkF m 25 #[.val (.ref a1), .val (.int p2), .val (.int (own_en (own_min n 32)))] [(.int (1 : Int32))])) t → Steps p.tables e below (s₁.setTop (entryFrame m #[(.ref a1), (.int p2)] 3)) t := fun t kt => go3 t (by
        refine XS.icmpYes X2.here hx rfl (pc0 := 9) (pc' := 16) rfl (hb hby d3_9) rfl (tlt hc9_4).2.2.1 (by decide) (by decide) ?_
        show Steps p.tables e below (T2.setTop (mkF m 16 #[.val (.ref a1), .val (.int p2), .val (.int (own_en (own_min n 32)))] [(.int (own_en (own_min n 32)))])) _
        refine XS.iconst X2.here hx rfl (hb hby d3_16) ?_
        show Steps p.tables e below (T2.setTop (mkF m 17 #[.val (.ref a1), .val (.int p2), .val (.int (own_en (own_min n 32)))] [(.int (0 : Int32)), (.int (own_en (own_min n 32)))])) _
        refine XS.icmpNo X2.here hx rfl (hb hby d3_17) rfl (teq hc17_5).2 ?_
        show Steps p.tables e below (T2.setTop (mkF m 20 #[.val (.ref a1), .val (.int p2), .val (.int (own_en (own_min n 32)))] [])) _
        refine XS.iconst X2.here hx rfl (hb hby d3_20) ?_
        show Steps p.tables e below (T2.setTop (mkF m 21 #[.val (.ref a1), .val (.int p2), .val (.int (own_en (own_min n 32)))] [(.int (1 : Int32))])) _
        refine XS.goto X2.here hx rfl (pc0 := 21) (pc' := 25) rfl (hb hby d3_21) (by decide) (by decide) ?_
        show Steps p.tables e below (T2.setTop (mkF m 25 #[.val (.ref a1), .val (.int p2), .val (.int (own_en (own_min n 32)))] [(.int (1 : Int32))])) _
        exact kt)
    obtain ⟨fs, hr, hrun, hended, hW, hsame⟩ := X2.leave (v := some (.int (1 : Int32))) (fun h => by rw [Bd.returns] at h; cases h)
    refine ⟨_, _, go6 _ (retN X2 hx (t := .boolean) Bd.returns (by simp) (hb hby d3_25) hr), hrun, hended, _, _, rfl, ?_, ⟨_, rfl⟩, hW, hsame.mono (by decide) (by decide)⟩
    show own_QS _ _ _ _ _ _ T2.heap _
    rw [← own_nxm hB hi]
    exact ⟨rfl, N2, S2⟩
  · have hc17_7 : (own_en (own_min n 32)) = (1 : Int32) := own_en1 hB hi hc9_4
    have go8 : ∀ t, Steps p.tables e below (T2.setTop (mkF m 25 #[.val (.ref a1), .val (.int p2), .val (.int (own_en (own_min n 32)))] [(.int (1 : Int32))])) t → Steps p.tables e below (s₁.setTop (entryFrame m #[(.ref a1), (.int p2)] 3)) t := fun t kt => go3 t (by
        refine XS.icmpNo X2.here hx rfl (hb hby d3_9) rfl (flt hc9_4).2.2.1 ?_
        show Steps p.tables e below (T2.setTop (mkF m 12 #[.val (.ref a1), .val (.int p2), .val (.int (own_en (own_min n 32)))] [(.int (own_en (own_min n 32)))])) _
        refine XS.iconst X2.here hx rfl (hb hby d3_12) ?_
        show Steps p.tables e below (T2.setTop (mkF m 13 #[.val (.ref a1), .val (.int p2), .val (.int (own_en (own_min n 32)))] [(.int (1 : Int32)), (.int (own_en (own_min n 32)))])) _
        refine XS.goto X2.here hx rfl (pc0 := 13) (pc' := 17) rfl (hb hby d3_13) (by decide) (by decide) ?_
        show Steps p.tables e below (T2.setTop (mkF m 17 #[.val (.ref a1), .val (.int p2), .val (.int (own_en (own_min n 32)))] [(.int (1 : Int32)), (.int (own_en (own_min n 32)))])) _
        refine XS.icmpNo X2.here hx rfl (hb hby d3_17) rfl (teq hc17_7).2 ?_
        show Steps p.tables e below (T2.setTop (mkF m 20 #[.val (.ref a1), .val (.int p2), .val (.int (own_en (own_min n 32)))] [])) _
        refine XS.iconst X2.here hx rfl (hb hby d3_20) ?_
        show Steps p.tables e below (T2.setTop (mkF m 21 #[.val (.ref a1), .val (.int p2), .val (.int (own_en (own_min n 32)))] [(.int (1 : Int32))])) _
        refine XS.goto X2.here hx rfl (pc0 := 21) (pc' := 25) rfl (hb hby d3_21) (by decide) (by decide) ?_
        show Steps p.tables e below (T2.setTop (mkF m 25 #[.val (.ref a1), .val (.int p2), .val (.int (own_en (own_min n 32)))] [(.int (1 : Int32))])) _
        exact kt)
    obtain ⟨fs, hr, hrun, hended, hW, hsame⟩ := X2.leave (v := some (.int (1 : Int32))) (fun h => by rw [Bd.returns] at h; cases h)
    refine ⟨_, _, go8 _ (retN X2 hx (t := .boolean) Bd.returns (by simp) (hb hby d3_25) hr), hrun, hended, _, _, rfl, ?_, ⟨_, rfl⟩, hW, hsame.mono (by decide) (by decide)⟩
    show own_QS _ _ _ _ _ _ T2.heap _
    rw [← own_nxm hB hi]
    exact ⟨rfl, N2, S2⟩
theorem d8_0 : decode method_3_code 0 = .ok (.aload_n 0, 1) := by decide +kernel
theorem d8_1 : decode method_3_code 1 = .ok (.iload_n 1, 1) := by decide +kernel
theorem d8_2 : decode method_3_code 2 = .ok (.iconst 1, 1) := by decide +kernel
theorem d8_3 : decode method_3_code 3 = .ok (.iadd, 1) := by decide +kernel
theorem d8_4 : decode method_3_code 4 = .ok (.invokestatic 13, 3) := by decide +kernel
theorem d8_7 : decode method_3_code 7 = .ok (.istore_n 2, 1) := by decide +kernel
theorem d8_8 : decode method_3_code 8 = .ok (.aload_n 0, 1) := by decide +kernel
theorem d8_9 : decode method_3_code 9 = .ok (.iload_n 1, 1) := by decide +kernel
theorem d8_10 : decode method_3_code 10 = .ok (.iconst 2, 1) := by decide +kernel
theorem d8_11 : decode method_3_code 11 = .ok (.iadd, 1) := by decide +kernel
theorem d8_12 : decode method_3_code 12 = .ok (.invokestatic 13, 3) := by decide +kernel
theorem d8_15 : decode method_3_code 15 = .ok (.istore_n 3, 1) := by decide +kernel
theorem d8_16 : decode method_3_code 16 = .ok (.aload_n 0, 1) := by decide +kernel
theorem d8_17 : decode method_3_code 17 = .ok (.iload_n 1, 1) := by decide +kernel
theorem d8_18 : decode method_3_code 18 = .ok (.iconst 3, 1) := by decide +kernel
theorem d8_19 : decode method_3_code 19 = .ok (.iadd, 1) := by decide +kernel
theorem d8_20 : decode method_3_code 20 = .ok (.invokestatic 13, 3) := by decide +kernel
theorem d8_23 : decode method_3_code 23 = .ok (.istore 4, 2) := by decide +kernel
theorem d8_25 : decode method_3_code 25 = .ok (.aload_n 0, 1) := by decide +kernel
theorem d8_26 : decode method_3_code 26 = .ok (.iload_n 1, 1) := by decide +kernel
theorem d8_27 : decode method_3_code 27 = .ok (.iconst 4, 1) := by decide +kernel
theorem d8_28 : decode method_3_code 28 = .ok (.iadd, 1) := by decide +kernel
theorem d8_29 : decode method_3_code 29 = .ok (.invokestatic 13, 3) := by decide +kernel
theorem d8_32 : decode method_3_code 32 = .ok (.istore 5, 2) := by decide +kernel
theorem d8_34 : decode method_3_code 34 = .ok (.iload_n 2, 1) := by decide +kernel
theorem d8_35 : decode method_3_code 35 = .ok (.iload_n 3, 1) := by decide +kernel
theorem d8_36 : decode method_3_code 36 = .ok (.iand, 1) := by decide +kernel
theorem d8_37 : decode method_3_code 37 = .ok (.iload 4, 2) := by decide +kernel
theorem d8_39 : decode method_3_code 39 = .ok (.iand, 1) := by decide +kernel
theorem d8_40 : decode method_3_code 40 = .ok (.iload 5, 2) := by decide +kernel
theorem d8_42 : decode method_3_code 42 = .ok (.iand, 1) := by decide +kernel
theorem d8_43 : decode method_3_code 43 = .ok (.ireturn, 1) := by decide +kernel
theorem pn_8 : plainName "com/example/reckon/reckon/xpath/StackSegmentsEnterPinLaw" = true := by first | (simp [plainName, overriddenIn]; done) | decide +kernel
theorem ef_8 (m : MethodId) (a1 : Addr) (p2 : Int32) : entryFrame m #[(.ref a1), (.int p2)] 6 = mkF m 0 #[.val (.ref a1), .val (.int p2), .unset, .unset, .unset, .unset] [] := by first | (simp [entryFrame, mkF, argsToLocals, Value.category]; done) | rfl
set_option maxRecDepth 65536 in
set_option maxHeartbeats 40000000 in
theorem rm8 (l : Launch) (Z : State) (a0 : Array Value) (hw : ∀ d ∈ tables_1, d.before a0 Z = true) (ws : List Jvm.Cond) (a1 : Addr) (p2 : Int32) (h0 : Heap) (n0 : Nat) (S0 : own_S Z h0 a1 (own_min p2 32)) (hB : own_B p2 90) (ga : n0 ≤ a1) :
    MetFree l (⟨"com/example/reckon/reckon/xpath/StackSegmentsEnterPinLaw", "four", "(Lcom/example/reckon/reckon/xpath/StackSegments;I)Z"⟩ : MethodName) (head1 (Jvm.Cond.code (⟨"com/example/reckon/reckon/xpath/StackSegmentsEnterPinLaw", "four", "(Lcom/example/reckon/reckon/xpath/StackSegments;I)Z"⟩ : MethodName) method_3_code 6 (some .boolean) :: ws) ({ frames := 2, cells := 0, slots := 0, locals := 27 } : Room)) (fun a U => a = #[(.ref a1), (.int p2)] ∧ Z.Warmed39 U.vm ∧ U.heap = h0) (fun _ _ _ _ _ => True) (fun _ U o U' => ∃ v L, o = .returned v ∧ own_QS Z a1 (some (.int 1)) (own_min (p2 + 4) 32) n0 v U'.heap L ∧ FrameEnd U o U' L ({ frames := 2, cells := 0, slots := 0, locals := 27 } : Room).cells ({ frames := 2, cells := 0, slots := 0, locals := 27 } : Room).slots) := by
  refine MetFree.of_bodySF (plainFor_of_name pn_8) hisR ?_
  intro p e s m args below meth c s₁ Bd hml0 hP hK
  obtain ⟨rfl, hZ, hh⟩ := hP
  have hx := Bd.exec
  have hby := Bd.bytes
  have hml : c.maxLocals = 6 := hml0
  have hown : s.vm.findClass "com/example/reckon/reckon/xpath/StackSegmentsEnterPinLaw" = some m.cls := findClass_of_methodNamed Bd.named
  have hnm := (name_of_methodNamed Bd.named Bd.method).1
  have X0 : Stand p l e ({ frames := 2, cells := 0, slots := 0, locals := 27 } : Room) s m #[(.ref a1), (.int p2)] below meth c s₁ [] 0 0 := Stand.of_body Bd
  have e0 : s₁.heap = h0 := by rw [← hh, Bd.state]; rfl
  have N0 := Fr.nil n0
  have go0 : ∀ t, Steps p.tables e below (s₁.setTop (mkF m 0 #[.val (.ref a1), .val (.int p2), .unset, .unset, .unset, .unset] [])) t → Steps p.tables e below (s₁.setTop (entryFrame m #[(.ref a1), (.int p2)] 6)) t := fun t k => castTop (ef_8 m a1 p2) k
  have go1 : ∀ t, Steps p.tables e below (s₁.setTop (mkF m 4 #[.val (.ref a1), .val (.int p2), .unset, .unset, .unset, .unset] [(.int (p2 + (1 : Int32))), (.ref a1)])) t → Steps p.tables e below (s₁.setTop (entryFrame m #[(.ref a1), (.int p2)] 6)) t := fun t kt => go0 t (by
      refine XS.aloadN X0.here hx rfl (hb hby d8_0) rfl rfl ?_
      show Steps p.tables e below (s₁.setTop (mkF m 1 #[.val (.ref a1), .val (.int p2), .unset, .unset, .unset, .unset] [(.ref a1)])) _
      refine XS.iloadN X0.here hx rfl (hb hby d8_1) rfl ?_
      show Steps p.tables e below (s₁.setTop (mkF m 2 #[.val (.ref a1), .val (.int p2), .unset, .unset, .unset, .unset] [(.int p2), (.ref a1)])) _
      refine XS.iconst X0.here hx rfl (hb hby d8_2) ?_
      show Steps p.tables e below (s₁.setTop (mkF m 3 #[.val (.ref a1), .val (.int p2), .unset, .unset, .unset, .unset] [(.int (1 : Int32)), (.int p2), (.ref a1)])) _
      refine XS.iadd X0.here hx rfl (hb hby d8_3) rfl ?_
      show Steps p.tables e below (s₁.setTop (mkF m 4 #[.val (.ref a1), .val (.int p2), .unset, .unset, .unset, .unset] [(.int (p2 + (1 : Int32))), (.ref a1)])) _
      exact kt)
  obtain ⟨_, _, ⟨T2, L2, k2, n2⟩, -, X2, ⟨Lc2, hQ2, l2, y2, z2⟩, st2⟩ := Jvm.LawKit.callS X0 hx (y := (⟨"com/example/reckon/reckon/xpath/StackSegmentsEnterPinLaw", "one", "(Lcom/example/reckon/reckon/xpath/StackSegments;I)Z"⟩ : MethodName)) hown (mvT hZ (hw _ (List.mem_of_getElem? (i := 12) rfl))) (mvT hZ (hw _ (List.mem_of_getElem? (i := 13) rfl))) (mvT hZ (hw _ (List.mem_of_getElem? (i := 14) rfl))) (mvT hZ (hw _ (List.mem_of_getElem? (i := 15) rfl))) (by decide) (backOf (W := 0) (rm3 l Z a0 hw [] a1 (p2 + (1 : Int32)) p2 h0 n0 S0 (own_Bw hB (by decide)) rfl ga) hZ (hw _ (List.mem_of_getElem? (i := 15) rfl)) (hw _ (List.mem_of_getElem? (i := 14) rfl)) (by decide) (by decide)) (g := (mkF m 4 #[.val (.ref a1), .val (.int p2), .unset, .unset, .unset, .unset] [(.int (p2 + (1 : Int32))), (.ref a1)])) rfl (by rw [hml]; rfl) (argsL := [(.ref a1), (.int (p2 + (1 : Int32)))]) (rest := []) (lenOf pd_1 rfl) rfl (by show 2 * 0 + _ ≤ _; exact Nat.le_of_eq rfl) (hb hby d8_4) (fun _ _ => ⟨rfl, e0, (by decide : 0 + 0 ≤ _), (by decide : 0 + 0 ≤ _)⟩)
  dsimp only [Pt.U, Pt.locs, Pt.cells, Pt.slots] at X2 l2 y2 z2 st2 hQ2
  subst l2 y2 z2
  obtain ⟨rfl, N2q, S2⟩ := hQ2
  have N2 := Fr.app N0 N2q
  have go3 : ∀ t, Steps p.tables e below (T2.setTop (mkF m 12 #[.val (.ref a1), .val (.int p2), .val (.int (1 : Int32)), .unset, .unset, .unset] [(.int (p2 + (2 : Int32))), (.ref a1)])) t → Steps p.tables e below (s₁.setTop (entryFrame m #[(.ref a1), (.int p2)] 6)) t := fun t kt => go1 t (by
      refine st2 _ ?_
      show Steps p.tables e below (T2.setTop (mkF m 7 #[.val (.ref a1), .val (.int p2), .unset, .unset, .unset, .unset] [(.int (1 : Int32))])) _
      refine XS.istoreN X2.here hx rfl (hb hby d8_7) rfl (l' := #[.val (.ref a1), .val (.int p2), .val (.int (1 : Int32)), .unset, .unset, .unset]) rfl ?_
      show Steps p.tables e below (T2.setTop (mkF m 8 #[.val (.ref a1), .val (.int p2), .val (.int (1 : Int32)), .unset, .unset, .unset] [])) _
      refine XS.aloadN X2.here hx rfl (hb hby d8_8) rfl rfl ?_
      show Steps p.tables e below (T2.setTop (mkF m 9 #[.val (.ref a1), .val (.int p2), .val (.int (1 : Int32)), .unset, .unset, .unset] [(.ref a1)])) _
      refine XS.iloadN X2.here hx rfl (hb hby d8_9) rfl ?_
      show Steps p.tables e below (T2.setTop (mkF m 10 #[.val (.ref a1), .val (.int p2), .val (.int (1 : Int32)), .unset, .unset, .unset] [(.int p2), (.ref a1)])) _
      refine XS.iconst X2.here hx rfl (hb hby d8_10) ?_
      show Steps p.tables e below (T2.setTop (mkF m 11 #[.val (.ref a1), .val (.int p2), .val (.int (1 : Int32)), .unset, .unset, .unset] [(.int (2 : Int32)), (.int p2), (.ref a1)])) _
      refine XS.iadd X2.here hx rfl (hb hby d8_11) rfl ?_
      show Steps p.tables e below (T2.setTop (mkF m 12 #[.val (.ref a1), .val (.int p2), .val (.int (1 : Int32)), .unset, .unset, .unset] [(.int (p2 + (2 : Int32))), (.ref a1)])) _
      exact kt)
  obtain ⟨_, _, ⟨T4, L4, k4, n4⟩, -, X4, ⟨Lc4, hQ4, l4, y4, z4⟩, st4⟩ := Jvm.LawKit.callS X2 hx (y := (⟨"com/example/reckon/reckon/xpath/StackSegmentsEnterPinLaw", "one", "(Lcom/example/reckon/reckon/xpath/StackSegments;I)Z"⟩ : MethodName)) hown (mvT hZ (hw _ (List.mem_of_getElem? (i := 12) rfl))) (mvT hZ (hw _ (List.mem_of_getElem? (i := 13) rfl))) (mvT hZ (hw _ (List.mem_of_getElem? (i := 14) rfl))) (mvT hZ (hw _ (List.mem_of_getElem? (i := 15) rfl))) (by decide) (backOf (W := 0) (rm3 l Z a0 hw [] a1 (p2 + (2 : Int32)) (p2 + (1 : Int32)) T2.heap n0 S2 (own_Badd hB (by decide) (by decide) (by decide)) (by rw [Int32.add_assoc]; rfl) ga) hZ (hw _ (List.mem_of_getElem? (i := 15) rfl)) (hw _ (List.mem_of_getElem? (i := 14) rfl)) (by decide) (by decide)) (g := (mkF m 12 #[.val (.ref a1), .val (.int p2), .val (.int (1 : Int32)), .unset, .unset, .unset] [(.int (p2 + (2 : Int32))), (.ref a1)])) rfl (by rw [hml]; rfl) (argsL := [(.ref a1), (.int (p2 + (2 : Int32)))]) (rest := []) (lenOf pd_1 rfl) rfl (by show 2 * 0 + _ ≤ _; exact Nat.le_of_eq rfl) (hb hby d8_12) (fun _ _ => ⟨rfl, rfl, (by decide : 0 + 0 ≤ _), (by decide : 0 + 0 ≤ _)⟩)
  dsimp only [Pt.U, Pt.locs, Pt.cells, Pt.slots] at X4 l4 y4 z4 st4 hQ4
  subst l4 y4 z4
  obtain ⟨rfl, N4q, S4⟩ := hQ4
  have N4 := Fr.app N2 N4q
  have go5 : ∀ t, Steps p.tables e below (T4.setTop (mkF m 20 #[.val (.ref a1), .val (.int p2), .val (.int (1 : Int32)), .val (.int (1 : Int32)), .unset, .unset] [(.int (p2 + (3 : Int32))), (.ref a1)])) t → Steps p.tables e below (s₁.setTop (entryFrame m #[(.ref a1), (.int p2)] 6)) t := fun t kt => go3 t (by
      refine st4 _ ?_
      show Steps p.tables e below (T4.setTop (mkF m 15 #[.val (.ref a1), .val (.int p2), .val (.int (1 : Int32)), .unset, .unset, .unset] [(.int (1 : Int32))])) _
      refine XS.istoreN X4.here hx rfl (hb hby d8_15) rfl (l' := #[.val (.ref a1), .val (.int p2), .val (.int (1 : Int32)), .val (.int (1 : Int32)), .unset, .unset]) rfl ?_
      show Steps p.tables e below (T4.setTop (mkF m 16 #[.val (.ref a1), .val (.int p2), .val (.int (1 : Int32)), .val (.int (1 : Int32)), .unset, .unset] [])) _
      refine XS.aloadN X4.here hx rfl (hb hby d8_16) rfl rfl ?_
      show Steps p.tables e below (T4.setTop (mkF m 17 #[.val (.ref a1), .val (.int p2), .val (.int (1 : Int32)), .val (.int (1 : Int32)), .unset, .unset] [(.ref a1)])) _
      refine XS.iloadN X4.here hx rfl (hb hby d8_17) rfl ?_
      show Steps p.tables e below (T4.setTop (mkF m 18 #[.val (.ref a1), .val (.int p2), .val (.int (1 : Int32)), .val (.int (1 : Int32)), .unset, .unset] [(.int p2), (.ref a1)])) _
      refine XS.iconst X4.here hx rfl (hb hby d8_18) ?_
      show Steps p.tables e below (T4.setTop (mkF m 19 #[.val (.ref a1), .val (.int p2), .val (.int (1 : Int32)), .val (.int (1 : Int32)), .unset, .unset] [(.int (3 : Int32)), (.int p2), (.ref a1)])) _
      refine XS.iadd X4.here hx rfl (hb hby d8_19) rfl ?_
      show Steps p.tables e below (T4.setTop (mkF m 20 #[.val (.ref a1), .val (.int p2), .val (.int (1 : Int32)), .val (.int (1 : Int32)), .unset, .unset] [(.int (p2 + (3 : Int32))), (.ref a1)])) _
      exact kt)
  obtain ⟨_, _, ⟨T6, L6, k6, n6⟩, -, X6, ⟨Lc6, hQ6, l6, y6, z6⟩, st6⟩ := Jvm.LawKit.callS X4 hx (y := (⟨"com/example/reckon/reckon/xpath/StackSegmentsEnterPinLaw", "one", "(Lcom/example/reckon/reckon/xpath/StackSegments;I)Z"⟩ : MethodName)) hown (mvT hZ (hw _ (List.mem_of_getElem? (i := 12) rfl))) (mvT hZ (hw _ (List.mem_of_getElem? (i := 13) rfl))) (mvT hZ (hw _ (List.mem_of_getElem? (i := 14) rfl))) (mvT hZ (hw _ (List.mem_of_getElem? (i := 15) rfl))) (by decide) (backOf (W := 0) (rm3 l Z a0 hw [] a1 (p2 + (3 : Int32)) (p2 + (2 : Int32)) T4.heap n0 S4 (own_Badd hB (by decide) (by decide) (by decide)) (by rw [Int32.add_assoc]; rfl) ga) hZ (hw _ (List.mem_of_getElem? (i := 15) rfl)) (hw _ (List.mem_of_getElem? (i := 14) rfl)) (by decide) (by decide)) (g := (mkF m 20 #[.val (.ref a1), .val (.int p2), .val (.int (1 : Int32)), .val (.int (1 : Int32)), .unset, .unset] [(.int (p2 + (3 : Int32))), (.ref a1)])) rfl (by rw [hml]; rfl) (argsL := [(.ref a1), (.int (p2 + (3 : Int32)))]) (rest := []) (lenOf pd_1 rfl) rfl (by show 2 * 0 + _ ≤ _; exact Nat.le_of_eq rfl) (hb hby d8_20) (fun _ _ => ⟨rfl, rfl, (by decide : 0 + 0 ≤ _), (by decide : 0 + 0 ≤ _)⟩)
  dsimp only [Pt.U, Pt.locs, Pt.cells, Pt.slots] at X6 l6 y6 z6 st6 hQ6
  subst l6 y6 z6
  obtain ⟨rfl, N6q, S6⟩ := hQ6
  have N6 := Fr.app N4 N6q
  have go7 : ∀ t, Steps p.tables e below (T6.setTop (mkF m 29 #[.val (.ref a1), .val (.int p2), .val (.int (1 : Int32)), .val (.int (1 : Int32)), .val (.int (1 : Int32)), .unset] [(.int (p2 + (4 : Int32))), (.ref a1)])) t → Steps p.tables e below (s₁.setTop (entryFrame m #[(.ref a1), (.int p2)] 6)) t := fun t kt => go5 t (by
      refine st6 _ ?_
      show Steps p.tables e below (T6.setTop (mkF m 23 #[.val (.ref a1), .val (.int p2), .val (.int (1 : Int32)), .val (.int (1 : Int32)), .unset, .unset] [(.int (1 : Int32))])) _
      refine XS.istore X6.here hx rfl (hb hby d8_23) rfl (l' := #[.val (.ref a1), .val (.int p2), .val (.int (1 : Int32)), .val (.int (1 : Int32)), .val (.int (1 : Int32)), .unset]) rfl ?_
      show Steps p.tables e below (T6.setTop (mkF m 25 #[.val (.ref a1), .val (.int p2), .val (.int (1 : Int32)), .val (.int (1 : Int32)), .val (.int (1 : Int32)), .unset] [])) _
      refine XS.aloadN X6.here hx rfl (hb hby d8_25) rfl rfl ?_
      show Steps p.tables e below (T6.setTop (mkF m 26 #[.val (.ref a1), .val (.int p2), .val (.int (1 : Int32)), .val (.int (1 : Int32)), .val (.int (1 : Int32)), .unset] [(.ref a1)])) _
      refine XS.iloadN X6.here hx rfl (hb hby d8_26) rfl ?_
      show Steps p.tables e below (T6.setTop (mkF m 27 #[.val (.ref a1), .val (.int p2), .val (.int (1 : Int32)), .val (.int (1 : Int32)), .val (.int (1 : Int32)), .unset] [(.int p2), (.ref a1)])) _
      refine XS.iconst X6.here hx rfl (hb hby d8_27) ?_
      show Steps p.tables e below (T6.setTop (mkF m 28 #[.val (.ref a1), .val (.int p2), .val (.int (1 : Int32)), .val (.int (1 : Int32)), .val (.int (1 : Int32)), .unset] [(.int (4 : Int32)), (.int p2), (.ref a1)])) _
      refine XS.iadd X6.here hx rfl (hb hby d8_28) rfl ?_
      show Steps p.tables e below (T6.setTop (mkF m 29 #[.val (.ref a1), .val (.int p2), .val (.int (1 : Int32)), .val (.int (1 : Int32)), .val (.int (1 : Int32)), .unset] [(.int (p2 + (4 : Int32))), (.ref a1)])) _
      exact kt)
  obtain ⟨_, _, ⟨T8, L8, k8, n8⟩, -, X8, ⟨Lc8, hQ8, l8, y8, z8⟩, st8⟩ := Jvm.LawKit.callS X6 hx (y := (⟨"com/example/reckon/reckon/xpath/StackSegmentsEnterPinLaw", "one", "(Lcom/example/reckon/reckon/xpath/StackSegments;I)Z"⟩ : MethodName)) hown (mvT hZ (hw _ (List.mem_of_getElem? (i := 12) rfl))) (mvT hZ (hw _ (List.mem_of_getElem? (i := 13) rfl))) (mvT hZ (hw _ (List.mem_of_getElem? (i := 14) rfl))) (mvT hZ (hw _ (List.mem_of_getElem? (i := 15) rfl))) (by decide) (backOf (W := 0) (rm3 l Z a0 hw [] a1 (p2 + (4 : Int32)) (p2 + (3 : Int32)) T6.heap n0 S6 (own_Badd hB (by decide) (by decide) (by decide)) (by rw [Int32.add_assoc]; rfl) ga) hZ (hw _ (List.mem_of_getElem? (i := 15) rfl)) (hw _ (List.mem_of_getElem? (i := 14) rfl)) (by decide) (by decide)) (g := (mkF m 29 #[.val (.ref a1), .val (.int p2), .val (.int (1 : Int32)), .val (.int (1 : Int32)), .val (.int (1 : Int32)), .unset] [(.int (p2 + (4 : Int32))), (.ref a1)])) rfl (by rw [hml]; rfl) (argsL := [(.ref a1), (.int (p2 + (4 : Int32)))]) (rest := []) (lenOf pd_1 rfl) rfl (by show 2 * 0 + _ ≤ _; exact Nat.le_of_eq rfl) (hb hby d8_29) (fun _ _ => ⟨rfl, rfl, (by decide : 0 + 0 ≤ _), (by decide : 0 + 0 ≤ _)⟩)
  dsimp only [Pt.U, Pt.locs, Pt.cells, Pt.slots] at X8 l8 y8 z8 st8 hQ8
  subst l8 y8 z8
  obtain ⟨rfl, N8q, S8⟩ := hQ8
  have N8 := Fr.app N6 N8q
  have go9 : ∀ t, Steps p.tables e below (T8.setTop (mkF m 43 #[.val (.ref a1), .val (.int p2), .val (.int (1 : Int32)), .val (.int (1 : Int32)), .val (.int (1 : Int32)), .val (.int (1 : Int32))] [(.int ((((1 : Int32) &&& (1 : Int32)) &&& (1 : Int32)) &&& (1 : Int32)))])) t → Steps p.tables e below (s₁.setTop (entryFrame m #[(.ref a1), (.int p2)] 6)) t := fun t kt => go7 t (by
      refine st8 _ ?_
      show Steps p.tables e below (T8.setTop (mkF m 32 #[.val (.ref a1), .val (.int p2), .val (.int (1 : Int32)), .val (.int (1 : Int32)), .val (.int (1 : Int32)), .unset] [(.int (1 : Int32))])) _
      refine XS.istore X8.here hx rfl (hb hby d8_32) rfl (l' := #[.val (.ref a1), .val (.int p2), .val (.int (1 : Int32)), .val (.int (1 : Int32)), .val (.int (1 : Int32)), .val (.int (1 : Int32))]) rfl ?_
      show Steps p.tables e below (T8.setTop (mkF m 34 #[.val (.ref a1), .val (.int p2), .val (.int (1 : Int32)), .val (.int (1 : Int32)), .val (.int (1 : Int32)), .val (.int (1 : Int32))] [])) _
      refine XS.iloadN X8.here hx rfl (hb hby d8_34) rfl ?_
      show Steps p.tables e below (T8.setTop (mkF m 35 #[.val (.ref a1), .val (.int p2), .val (.int (1 : Int32)), .val (.int (1 : Int32)), .val (.int (1 : Int32)), .val (.int (1 : Int32))] [(.int (1 : Int32))])) _
      refine XS.iloadN X8.here hx rfl (hb hby d8_35) rfl ?_
      show Steps p.tables e below (T8.setTop (mkF m 36 #[.val (.ref a1), .val (.int p2), .val (.int (1 : Int32)), .val (.int (1 : Int32)), .val (.int (1 : Int32)), .val (.int (1 : Int32))] [(.int (1 : Int32)), (.int (1 : Int32))])) _
      refine XS.iand X8.here hx rfl (hb hby d8_36) rfl ?_
      show Steps p.tables e below (T8.setTop (mkF m 37 #[.val (.ref a1), .val (.int p2), .val (.int (1 : Int32)), .val (.int (1 : Int32)), .val (.int (1 : Int32)), .val (.int (1 : Int32))] [(.int ((1 : Int32) &&& (1 : Int32)))])) _
      refine XS.iload X8.here hx rfl (hb hby d8_37) rfl ?_
      show Steps p.tables e below (T8.setTop (mkF m 39 #[.val (.ref a1), .val (.int p2), .val (.int (1 : Int32)), .val (.int (1 : Int32)), .val (.int (1 : Int32)), .val (.int (1 : Int32))] [(.int (1 : Int32)), (.int ((1 : Int32) &&& (1 : Int32)))])) _
      refine XS.iand X8.here hx rfl (hb hby d8_39) rfl ?_
      show Steps p.tables e below (T8.setTop (mkF m 40 #[.val (.ref a1), .val (.int p2), .val (.int (1 : Int32)), .val (.int (1 : Int32)), .val (.int (1 : Int32)), .val (.int (1 : Int32))] [(.int (((1 : Int32) &&& (1 : Int32)) &&& (1 : Int32)))])) _
      refine XS.iload X8.here hx rfl (hb hby d8_40) rfl ?_
      show Steps p.tables e below (T8.setTop (mkF m 42 #[.val (.ref a1), .val (.int p2), .val (.int (1 : Int32)), .val (.int (1 : Int32)), .val (.int (1 : Int32)), .val (.int (1 : Int32))] [(.int (1 : Int32)), (.int (((1 : Int32) &&& (1 : Int32)) &&& (1 : Int32)))])) _
      refine XS.iand X8.here hx rfl (hb hby d8_42) rfl ?_
      show Steps p.tables e below (T8.setTop (mkF m 43 #[.val (.ref a1), .val (.int p2), .val (.int (1 : Int32)), .val (.int (1 : Int32)), .val (.int (1 : Int32)), .val (.int (1 : Int32))] [(.int ((((1 : Int32) &&& (1 : Int32)) &&& (1 : Int32)) &&& (1 : Int32)))])) _
      exact kt)
  obtain ⟨fs, hr, hrun, hended, hW, hsame⟩ := X8.leave (v := some (.int (((((1 : Int32) &&& (1 : Int32)) &&& (1 : Int32)) &&& (1 : Int32)) &&& (1 : Int32)))) (fun h => by rw [Bd.returns] at h; cases h)
  refine ⟨_, _, go9 _ (retN X8 hx (t := .boolean) Bd.returns (by simp) (hb hby d8_43) hr), hrun, hended, _, _, rfl, ?_, ⟨_, rfl⟩, hW, hsame.mono (by decide) (by decide)⟩
  exact ⟨congrArg (fun z => some (Value.int z)) (by decide), N8, S8⟩
theorem d7_0 : decode method_4_code 0 = .ok (.aload_n 0, 1) := by decide +kernel
theorem d7_1 : decode method_4_code 1 = .ok (.iload_n 1, 1) := by decide +kernel
theorem d7_2 : decode method_4_code 2 = .ok (.invokestatic 19, 3) := by decide +kernel
theorem d7_5 : decode method_4_code 5 = .ok (.istore_n 2, 1) := by decide +kernel
theorem d7_6 : decode method_4_code 6 = .ok (.aload_n 0, 1) := by decide +kernel
theorem d7_7 : decode method_4_code 7 = .ok (.iload_n 1, 1) := by decide +kernel
theorem d7_8 : decode method_4_code 8 = .ok (.iconst 4, 1) := by decide +kernel
theorem d7_9 : decode method_4_code 9 = .ok (.iadd, 1) := by decide +kernel
theorem d7_10 : decode method_4_code 10 = .ok (.invokestatic 19, 3) := by decide +kernel
theorem d7_13 : decode method_4_code 13 = .ok (.istore_n 3, 1) := by decide +kernel
theorem d7_14 : decode method_4_code 14 = .ok (.iload_n 2, 1) := by decide +kernel
theorem d7_15 : decode method_4_code 15 = .ok (.iload_n 3, 1) := by decide +kernel
theorem d7_16 : decode method_4_code 16 = .ok (.iand, 1) := by decide +kernel
theorem d7_17 : decode method_4_code 17 = .ok (.ireturn, 1) := by decide +kernel
theorem pn_7 : plainName "com/example/reckon/reckon/xpath/StackSegmentsEnterPinLaw" = true := by first | (simp [plainName, overriddenIn]; done) | decide +kernel
theorem ef_7 (m : MethodId) (a1 : Addr) (p2 : Int32) : entryFrame m #[(.ref a1), (.int p2)] 4 = mkF m 0 #[.val (.ref a1), .val (.int p2), .unset, .unset] [] := by first | (simp [entryFrame, mkF, argsToLocals, Value.category]; done) | rfl
set_option maxRecDepth 65536 in
set_option maxHeartbeats 40000000 in
theorem rm7 (l : Launch) (Z : State) (a0 : Array Value) (hw : ∀ d ∈ tables_1, d.before a0 Z = true) (ws : List Jvm.Cond) (a1 : Addr) (p2 : Int32) (h0 : Heap) (n0 : Nat) (S0 : own_S Z h0 a1 (own_min p2 32)) (hB : own_B p2 80) (ga : n0 ≤ a1) :
    MetFree l (⟨"com/example/reckon/reckon/xpath/StackSegmentsEnterPinLaw", "eight", "(Lcom/example/reckon/reckon/xpath/StackSegments;I)Z"⟩ : MethodName) (head1 (Jvm.Cond.code (⟨"com/example/reckon/reckon/xpath/StackSegmentsEnterPinLaw", "eight", "(Lcom/example/reckon/reckon/xpath/StackSegments;I)Z"⟩ : MethodName) method_4_code 4 (some .boolean) :: ws) ({ frames := 3, cells := 0, slots := 0, locals := 44 } : Room)) (fun a U => a = #[(.ref a1), (.int p2)] ∧ Z.Warmed39 U.vm ∧ U.heap = h0) (fun _ _ _ _ _ => True) (fun _ U o U' => ∃ v L, o = .returned v ∧ own_QS Z a1 (some (.int 1)) (own_min (p2 + 8) 32) n0 v U'.heap L ∧ FrameEnd U o U' L ({ frames := 3, cells := 0, slots := 0, locals := 44 } : Room).cells ({ frames := 3, cells := 0, slots := 0, locals := 44 } : Room).slots) := by
  refine MetFree.of_bodySF (plainFor_of_name pn_7) hisR ?_
  intro p e s m args below meth c s₁ Bd hml0 hP hK
  obtain ⟨rfl, hZ, hh⟩ := hP
  have hx := Bd.exec
  have hby := Bd.bytes
  have hml : c.maxLocals = 4 := hml0
  have hown : s.vm.findClass "com/example/reckon/reckon/xpath/StackSegmentsEnterPinLaw" = some m.cls := findClass_of_methodNamed Bd.named
  have hnm := (name_of_methodNamed Bd.named Bd.method).1
  have X0 : Stand p l e ({ frames := 3, cells := 0, slots := 0, locals := 44 } : Room) s m #[(.ref a1), (.int p2)] below meth c s₁ [] 0 0 := Stand.of_body Bd
  have e0 : s₁.heap = h0 := by rw [← hh, Bd.state]; rfl
  have N0 := Fr.nil n0
  have go0 : ∀ t, Steps p.tables e below (s₁.setTop (mkF m 0 #[.val (.ref a1), .val (.int p2), .unset, .unset] [])) t → Steps p.tables e below (s₁.setTop (entryFrame m #[(.ref a1), (.int p2)] 4)) t := fun t k => castTop (ef_7 m a1 p2) k
  have go1 : ∀ t, Steps p.tables e below (s₁.setTop (mkF m 2 #[.val (.ref a1), .val (.int p2), .unset, .unset] [(.int p2), (.ref a1)])) t → Steps p.tables e below (s₁.setTop (entryFrame m #[(.ref a1), (.int p2)] 4)) t := fun t kt => go0 t (by
      refine XS.aloadN X0.here hx rfl (hb hby d7_0) rfl rfl ?_
      show Steps p.tables e below (s₁.setTop (mkF m 1 #[.val (.ref a1), .val (.int p2), .unset, .unset] [(.ref a1)])) _
      refine XS.iloadN X0.here hx rfl (hb hby d7_1) rfl ?_
      show Steps p.tables e below (s₁.setTop (mkF m 2 #[.val (.ref a1), .val (.int p2), .unset, .unset] [(.int p2), (.ref a1)])) _
      exact kt)
  obtain ⟨_, _, ⟨T2, L2, k2, n2⟩, -, X2, ⟨Lc2, hQ2, l2, y2, z2⟩, st2⟩ := Jvm.LawKit.callS X0 hx (y := (⟨"com/example/reckon/reckon/xpath/StackSegmentsEnterPinLaw", "four", "(Lcom/example/reckon/reckon/xpath/StackSegments;I)Z"⟩ : MethodName)) hown (mvT hZ (hw _ (List.mem_of_getElem? (i := 35) rfl))) (mvT hZ (hw _ (List.mem_of_getElem? (i := 36) rfl))) (mvT hZ (hw _ (List.mem_of_getElem? (i := 14) rfl))) (mvT hZ (hw _ (List.mem_of_getElem? (i := 37) rfl))) (by decide) (backOf (W := 0) (rm8 l Z a0 hw [] a1 p2 h0 n0 S0 (own_Bw hB (by decide)) ga) hZ (hw _ (List.mem_of_getElem? (i := 37) rfl)) (hw _ (List.mem_of_getElem? (i := 14) rfl)) (by decide) (by decide)) (g := (mkF m 2 #[.val (.ref a1), .val (.int p2), .unset, .unset] [(.int p2), (.ref a1)])) rfl (by rw [hml]; rfl) (argsL := [(.ref a1), (.int p2)]) (rest := []) (lenOf pd_1 rfl) rfl (by show 2 * 0 + _ ≤ _; exact Nat.le_of_eq rfl) (hb hby d7_2) (fun _ _ => ⟨rfl, e0, (by decide : 0 + 0 ≤ _), (by decide : 0 + 0 ≤ _)⟩)
  dsimp only [Pt.U, Pt.locs, Pt.cells, Pt.slots] at X2 l2 y2 z2 st2 hQ2
  subst l2 y2 z2
  obtain ⟨rfl, N2q, S2⟩ := hQ2
  have N2 := Fr.app N0 N2q
  have go3 : ∀ t, Steps p.tables e below (T2.setTop (mkF m 10 #[.val (.ref a1), .val (.int p2), .val (.int (1 : Int32)), .unset] [(.int (p2 + (4 : Int32))), (.ref a1)])) t → Steps p.tables e below (s₁.setTop (entryFrame m #[(.ref a1), (.int p2)] 4)) t := fun t kt => go1 t (by
      refine st2 _ ?_
      show Steps p.tables e below (T2.setTop (mkF m 5 #[.val (.ref a1), .val (.int p2), .unset, .unset] [(.int (1 : Int32))])) _
      refine XS.istoreN X2.here hx rfl (hb hby d7_5) rfl (l' := #[.val (.ref a1), .val (.int p2), .val (.int (1 : Int32)), .unset]) rfl ?_
      show Steps p.tables e below (T2.setTop (mkF m 6 #[.val (.ref a1), .val (.int p2), .val (.int (1 : Int32)), .unset] [])) _
      refine XS.aloadN X2.here hx rfl (hb hby d7_6) rfl rfl ?_
      show Steps p.tables e below (T2.setTop (mkF m 7 #[.val (.ref a1), .val (.int p2), .val (.int (1 : Int32)), .unset] [(.ref a1)])) _
      refine XS.iloadN X2.here hx rfl (hb hby d7_7) rfl ?_
      show Steps p.tables e below (T2.setTop (mkF m 8 #[.val (.ref a1), .val (.int p2), .val (.int (1 : Int32)), .unset] [(.int p2), (.ref a1)])) _
      refine XS.iconst X2.here hx rfl (hb hby d7_8) ?_
      show Steps p.tables e below (T2.setTop (mkF m 9 #[.val (.ref a1), .val (.int p2), .val (.int (1 : Int32)), .unset] [(.int (4 : Int32)), (.int p2), (.ref a1)])) _
      refine XS.iadd X2.here hx rfl (hb hby d7_9) rfl ?_
      show Steps p.tables e below (T2.setTop (mkF m 10 #[.val (.ref a1), .val (.int p2), .val (.int (1 : Int32)), .unset] [(.int (p2 + (4 : Int32))), (.ref a1)])) _
      exact kt)
  obtain ⟨_, _, ⟨T4, L4, k4, n4⟩, -, X4, ⟨Lc4, hQ4, l4, y4, z4⟩, st4⟩ := Jvm.LawKit.callS X2 hx (y := (⟨"com/example/reckon/reckon/xpath/StackSegmentsEnterPinLaw", "four", "(Lcom/example/reckon/reckon/xpath/StackSegments;I)Z"⟩ : MethodName)) hown (mvT hZ (hw _ (List.mem_of_getElem? (i := 35) rfl))) (mvT hZ (hw _ (List.mem_of_getElem? (i := 36) rfl))) (mvT hZ (hw _ (List.mem_of_getElem? (i := 14) rfl))) (mvT hZ (hw _ (List.mem_of_getElem? (i := 37) rfl))) (by decide) (backOf (W := 0) (rm8 l Z a0 hw [] a1 (p2 + (4 : Int32)) T2.heap n0 S2 (own_Badd hB (by decide) (by decide) (by decide)) ga) hZ (hw _ (List.mem_of_getElem? (i := 37) rfl)) (hw _ (List.mem_of_getElem? (i := 14) rfl)) (by decide) (by decide)) (g := (mkF m 10 #[.val (.ref a1), .val (.int p2), .val (.int (1 : Int32)), .unset] [(.int (p2 + (4 : Int32))), (.ref a1)])) rfl (by rw [hml]; rfl) (argsL := [(.ref a1), (.int (p2 + (4 : Int32)))]) (rest := []) (lenOf pd_1 rfl) rfl (by show 2 * 0 + _ ≤ _; exact Nat.le_of_eq rfl) (hb hby d7_10) (fun _ _ => ⟨rfl, rfl, (by decide : 0 + 0 ≤ _), (by decide : 0 + 0 ≤ _)⟩)
  dsimp only [Pt.U, Pt.locs, Pt.cells, Pt.slots] at X4 l4 y4 z4 st4 hQ4
  subst l4 y4 z4
  obtain ⟨rfl, N4q, S4⟩ := hQ4
  have N4 := Fr.app N2 N4q
  have go5 : ∀ t, Steps p.tables e below (T4.setTop (mkF m 17 #[.val (.ref a1), .val (.int p2), .val (.int (1 : Int32)), .val (.int (1 : Int32))] [(.int ((1 : Int32) &&& (1 : Int32)))])) t → Steps p.tables e below (s₁.setTop (entryFrame m #[(.ref a1), (.int p2)] 4)) t := fun t kt => go3 t (by
      refine st4 _ ?_
      show Steps p.tables e below (T4.setTop (mkF m 13 #[.val (.ref a1), .val (.int p2), .val (.int (1 : Int32)), .unset] [(.int (1 : Int32))])) _
      refine XS.istoreN X4.here hx rfl (hb hby d7_13) rfl (l' := #[.val (.ref a1), .val (.int p2), .val (.int (1 : Int32)), .val (.int (1 : Int32))]) rfl ?_
      show Steps p.tables e below (T4.setTop (mkF m 14 #[.val (.ref a1), .val (.int p2), .val (.int (1 : Int32)), .val (.int (1 : Int32))] [])) _
      refine XS.iloadN X4.here hx rfl (hb hby d7_14) rfl ?_
      show Steps p.tables e below (T4.setTop (mkF m 15 #[.val (.ref a1), .val (.int p2), .val (.int (1 : Int32)), .val (.int (1 : Int32))] [(.int (1 : Int32))])) _
      refine XS.iloadN X4.here hx rfl (hb hby d7_15) rfl ?_
      show Steps p.tables e below (T4.setTop (mkF m 16 #[.val (.ref a1), .val (.int p2), .val (.int (1 : Int32)), .val (.int (1 : Int32))] [(.int (1 : Int32)), (.int (1 : Int32))])) _
      refine XS.iand X4.here hx rfl (hb hby d7_16) rfl ?_
      show Steps p.tables e below (T4.setTop (mkF m 17 #[.val (.ref a1), .val (.int p2), .val (.int (1 : Int32)), .val (.int (1 : Int32))] [(.int ((1 : Int32) &&& (1 : Int32)))])) _
      exact kt)
  obtain ⟨fs, hr, hrun, hended, hW, hsame⟩ := X4.leave (v := some (.int (((1 : Int32) &&& (1 : Int32)) &&& (1 : Int32)))) (fun h => by rw [Bd.returns] at h; cases h)
  refine ⟨_, _, go5 _ (retN X4 hx (t := .boolean) Bd.returns (by simp) (hb hby d7_17) hr), hrun, hended, _, _, rfl, ?_, ⟨_, rfl⟩, hW, hsame.mono (by decide) (by decide)⟩
  refine ⟨congrArg (fun z => some (Value.int z)) (by decide), N4, ?_⟩
  rw [show p2 + 8 = (p2 + 4) + 4 from by rw [Int32.add_assoc]; rfl]
  exact S4
theorem pn_0 : plainName "com/example/reckon/reckon/xpath/StackSegmentsEnterPinLaw" = true := by first | (simp [plainName, overriddenIn]; done) | decide +kernel
theorem ef_0 (m : MethodId) (p0 : Int32) (p1 : Int32) (p2 : Int32) : entryFrame m #[(.int p0), (.int p1), (.int p2)] maxLocals = mkF m 0 #[.val (.int p0), .val (.int p1), .val (.int p2), .unset, .unset, .unset, .unset, .unset, .unset, .unset, .unset] [] := by first | (simp [entryFrame, mkF, argsToLocals, Value.category, maxLocals]; done) | rfl
set_option maxRecDepth 65536 in
set_option maxHeartbeats 40000000 in
theorem rm0 (l : Launch) (Z : State) (a0 : Array Value) (hw : ∀ d ∈ tables_1, d.before a0 Z = true) (ws : List Jvm.Cond) (p0 : Int32) (p1 : Int32) (p2 : Int32) (h0 : Heap) (n0 : Nat) (Z0 : n0 ≤ h0.size) :
    MetFree l x (head1 (Jvm.Cond.code x code maxLocals ret :: ws) room_1) (fun a U => a = #[(.int p0), (.int p1), (.int p2)] ∧ Z.Warmed39 U.vm ∧ U.heap = h0) (fun _ _ _ _ _ => True) (fun _ U o U' => ∃ v L, o = .returned v ∧ own_Q0 n0 v U'.heap L ∧ FrameEnd U o U' L room_1.cells room_1.slots) := by
  refine MetFree.of_bodySF (plainFor_of_name pn_0) hisR ?_
  intro p e s m args below meth c s₁ Bd hml0 hP hK
  obtain ⟨rfl, hZ, hh⟩ := hP
  have hx := Bd.exec
  have hby := Bd.bytes
  have hml : c.maxLocals = 11 := hml0
  have hown : s.vm.findClass "com/example/reckon/reckon/xpath/StackSegmentsEnterPinLaw" = some m.cls := findClass_of_methodNamed Bd.named
  have hnm := (name_of_methodNamed Bd.named Bd.method).1
  have X0 : Stand p l e room_1 s m #[(.int p0), (.int p1), (.int p2)] below meth c s₁ [] 0 0 := Stand.of_body Bd
  have e0 : s₁.heap = h0 := by rw [← hh, Bd.state]; rfl
  have N0 := Fr.nil n0
  have go0 : ∀ t, Steps p.tables e below (s₁.setTop (mkF m 0 #[.val (.int p0), .val (.int p1), .val (.int p2), .unset, .unset, .unset, .unset, .unset, .unset, .unset, .unset] [])) t → Steps p.tables e below (s₁.setTop (entryFrame m #[(.int p0), (.int p1), (.int p2)] maxLocals)) t := fun t k => castTop (ef_0 m p0 p1 p2) k
  obtain ⟨T1, h1, X1, e1, E1, A1, D1, -, st1⟩ := newO X0 hx hZ hown (hw _ (List.mem_of_getElem? (i := 0) rfl)) (hw _ (List.mem_of_getElem? (i := 1) rfl)) (hw _ (List.mem_of_getElem? (i := 2) rfl)) e0 (g := (mkF m 0 #[.val (.int p0), .val (.int p1), .val (.int p2), .unset, .unset, .unset, .unset, .unset, .unset, .unset, .unset] [])) rfl (hb hby at_0) (by decide) (by decide)
  obtain ⟨b1, g1⟩ : ∃ z, z = h0.size := ⟨_, rfl⟩
  rw [← g1] at A1 D1 st1
  have ks1 : h0.size ≤ h0.size := Nat.le_refl _
  have sz1 : h0.size ≤ b1 := Nat.le_trans ks1 (Nat.le_of_eq g1.symm)
  have gb1 : n0 ≤ b1 := Nat.le_trans Z0 (Nat.le_of_eq g1.symm)
  have F1_limit : Fld Z h1 b1 "com/example/reckon/reckon/xpath/StackSegments" "limit" "I" (.int (0 : Int32)) := D1 (Or.inl (hw _ (List.mem_of_getElem? (i := 10) rfl))) (ty := .int) (by decide)
  have F1_levels : Fld Z h1 b1 "com/example/reckon/reckon/xpath/StackSegments" "levels" "I" (.int (0 : Int32)) := D1 (Or.inl (hw _ (List.mem_of_getElem? (i := 22) rfl))) (ty := .int) (by decide)
  have go2 : ∀ t, Steps p.tables e below (T1.setTop (mkF m 4 #[.val (.int p0), .val (.int p1), .val (.int p2), .unset, .unset, .unset, .unset, .unset, .unset, .unset, .unset] [(.ref b1), (.ref b1)])) t → Steps p.tables e below (s₁.setTop (entryFrame m #[(.int p0), (.int p1), (.int p2)] maxLocals)) t := fun t kt => go0 t (by
      refine st1 _ ?_
      show Steps p.tables e below (T1.setTop (mkF m 3 #[.val (.int p0), .val (.int p1), .val (.int p2), .unset, .unset, .unset, .unset, .unset, .unset, .unset, .unset] [(.ref b1)])) _
      refine XS.dup X1.here hx rfl (hb hby at_3) rfl rfl ?_
      show Steps p.tables e below (T1.setTop (mkF m 4 #[.val (.int p0), .val (.int p1), .val (.int p2), .unset, .unset, .unset, .unset, .unset, .unset, .unset, .unset] [(.ref b1), (.ref b1)])) _
      exact kt)
  obtain ⟨_, _, ⟨T3, L3, k3, n3⟩, -, X3, ⟨Lc3, hQ3, l3, y3, z3⟩, st3⟩ := X1.specialBack hx (y := (⟨"com/example/reckon/reckon/xpath/StackSegments", "<init>", "()V"⟩ : MethodName)) rfl hown (mvT hZ (hw _ (List.mem_of_getElem? (i := 3) rfl))) (mvT hZ (hw _ (List.mem_of_getElem? (i := 4) rfl))) (mvT hZ (hw _ (List.mem_of_getElem? (i := 5) rfl))) (by decide) (backOf (W := 1) (rm1 l Z a0 hw [] b1 h1 n0 A1 F1_levels F1_limit gb1) hZ (hw _ (List.mem_of_getElem? (i := 5) rfl)) (hw _ (List.mem_of_getElem? (i := 2) rfl)) (by decide) (by decide)) (g := (mkF m 4 #[.val (.int p0), .val (.int p1), .val (.int p2), .unset, .unset, .unset, .unset, .unset, .unset, .unset, .unset] [(.ref b1), (.ref b1)])) rfl (by rw [hml]; rfl) (Steps.refl _) (a := b1) (argsL := []) (rest := [(.ref b1)]) (lenOf pd_0 rfl) rfl (by show 2 * 0 + _ ≤ _; exact Nat.le_of_eq rfl) (hb hby at_4) (fun _ _ => ⟨rfl, e1, (by decide : 1 + 0 ≤ _), (by decide : 2 + 0 ≤ _)⟩)
  dsimp only [Pt.U, Pt.locs, Pt.cells, Pt.slots] at X3 l3 y3 z3 st3 hQ3
  subst l3 y3 z3
  obtain ⟨rfl, N3q, S3⟩ := hQ3
  have N3 := Fr.app N0 N3q
  have go4 : ∀ t, Steps p.tables e below (T3.setTop (mkF m 22 #[.val (.int p0), .val (.int p1), .val (.int p2), .val (.ref b1), .val (.int ((p0 &&& (2147483647 : Int32)) % (5 : Int32))), .val (.int (0 : Int32)), .val (.int (1 : Int32)), .unset, .unset, .unset, .unset] [])) t → Steps p.tables e below (s₁.setTop (entryFrame m #[(.int p0), (.int p1), (.int p2)] maxLocals)) t := fun t kt => go2 t (by
      refine st3.trans ?_
      show Steps p.tables e below (T3.setTop (mkF m 7 #[.val (.int p0), .val (.int p1), .val (.int p2), .unset, .unset, .unset, .unset, .unset, .unset, .unset, .unset] [(.ref b1)])) _
      refine XS.astoreN X3.here hx rfl (hb hby at_7) rfl rfl (l' := #[.val (.int p0), .val (.int p1), .val (.int p2), .val (.ref b1), .unset, .unset, .unset, .unset, .unset, .unset, .unset]) rfl ?_
      show Steps p.tables e below (T3.setTop (mkF m 8 #[.val (.int p0), .val (.int p1), .val (.int p2), .val (.ref b1), .unset, .unset, .unset, .unset, .unset, .unset, .unset] [])) _
      refine XS.iloadN X3.here hx rfl (hb hby at_8) rfl ?_
      show Steps p.tables e below (T3.setTop (mkF m 9 #[.val (.int p0), .val (.int p1), .val (.int p2), .val (.ref b1), .unset, .unset, .unset, .unset, .unset, .unset, .unset] [(.int p0)])) _
      refine X3.ldcInt hx hown (mvT hZ (hw _ (List.mem_of_getElem? (i := 11) rfl))) (g := (mkF m 9 #[.val (.int p0), .val (.int p1), .val (.int p2), .val (.ref b1), .unset, .unset, .unset, .unset, .unset, .unset, .unset] [(.int p0)])) rfl (hb hby at_9) _ ?_
      show Steps p.tables e below (T3.setTop (mkF m 11 #[.val (.int p0), .val (.int p1), .val (.int p2), .val (.ref b1), .unset, .unset, .unset, .unset, .unset, .unset, .unset] [(.int (2147483647 : Int32)), (.int p0)])) _
      refine XS.iand X3.here hx rfl (hb hby at_11) rfl ?_
      show Steps p.tables e below (T3.setTop (mkF m 12 #[.val (.int p0), .val (.int p1), .val (.int p2), .val (.ref b1), .unset, .unset, .unset, .unset, .unset, .unset, .unset] [(.int (p0 &&& (2147483647 : Int32)))])) _
      refine XS.iconst X3.here hx rfl (hb hby at_12) ?_
      show Steps p.tables e below (T3.setTop (mkF m 13 #[.val (.int p0), .val (.int p1), .val (.int p2), .val (.ref b1), .unset, .unset, .unset, .unset, .unset, .unset, .unset] [(.int (5 : Int32)), (.int (p0 &&& (2147483647 : Int32)))])) _
      refine iremM X3 hx rfl (hb hby at_13) rfl (by decide) ?_
      show Steps p.tables e below (T3.setTop (mkF m 14 #[.val (.int p0), .val (.int p1), .val (.int p2), .val (.ref b1), .unset, .unset, .unset, .unset, .unset, .unset, .unset] [(.int ((p0 &&& (2147483647 : Int32)) % (5 : Int32)))])) _
      refine XS.istore X3.here hx rfl (hb hby at_14) rfl (l' := #[.val (.int p0), .val (.int p1), .val (.int p2), .val (.ref b1), .val (.int ((p0 &&& (2147483647 : Int32)) % (5 : Int32))), .unset, .unset, .unset, .unset, .unset, .unset]) rfl ?_
      show Steps p.tables e below (T3.setTop (mkF m 16 #[.val (.int p0), .val (.int p1), .val (.int p2), .val (.ref b1), .val (.int ((p0 &&& (2147483647 : Int32)) % (5 : Int32))), .unset, .unset, .unset, .unset, .unset, .unset] [])) _
      refine XS.iconst X3.here hx rfl (hb hby at_16) ?_
      show Steps p.tables e below (T3.setTop (mkF m 17 #[.val (.int p0), .val (.int p1), .val (.int p2), .val (.ref b1), .val (.int ((p0 &&& (2147483647 : Int32)) % (5 : Int32))), .unset, .unset, .unset, .unset, .unset, .unset] [(.int (0 : Int32))])) _
      refine XS.istore X3.here hx rfl (hb hby at_17) rfl (l' := #[.val (.int p0), .val (.int p1), .val (.int p2), .val (.ref b1), .val (.int ((p0 &&& (2147483647 : Int32)) % (5 : Int32))), .val (.int (0 : Int32)), .unset, .unset, .unset, .unset, .unset]) rfl ?_
      show Steps p.tables e below (T3.setTop (mkF m 19 #[.val (.int p0), .val (.int p1), .val (.int p2), .val (.ref b1), .val (.int ((p0 &&& (2147483647 : Int32)) % (5 : Int32))), .val (.int (0 : Int32)), .unset, .unset, .unset, .unset, .unset] [])) _
      refine XS.iconst X3.here hx rfl (hb hby at_19) ?_
      show Steps p.tables e below (T3.setTop (mkF m 20 #[.val (.int p0), .val (.int p1), .val (.int p2), .val (.ref b1), .val (.int ((p0 &&& (2147483647 : Int32)) % (5 : Int32))), .val (.int (0 : Int32)), .unset, .unset, .unset, .unset, .unset] [(.int (1 : Int32))])) _
      refine XS.istore X3.here hx rfl (hb hby at_20) rfl (l' := #[.val (.int p0), .val (.int p1), .val (.int p2), .val (.ref b1), .val (.int ((p0 &&& (2147483647 : Int32)) % (5 : Int32))), .val (.int (0 : Int32)), .val (.int (1 : Int32)), .unset, .unset, .unset, .unset]) rfl ?_
      show Steps p.tables e below (T3.setTop (mkF m 22 #[.val (.int p0), .val (.int p1), .val (.int p2), .val (.ref b1), .val (.int ((p0 &&& (2147483647 : Int32)) % (5 : Int32))), .val (.int (0 : Int32)), .val (.int (1 : Int32)), .unset, .unset, .unset, .unset] [])) _
      exact kt)
  have B0 : own_B (0 : Int32) 0 := by unfold own_B; decide
  rw [show (0 : Int32) = own_min 0 32 from by decide] at S3
  obtain ⟨T5, h5, Ls5, nn5, oo5, op5, X5, e5, N5, S5, B5, O5, P5, go5⟩ : ∃ (T' : State) (h' : Heap) (locs' : List Loc) (n' : Int32) (o7' o8' : Slot), Stand p l e room_1 s m #[(.int p0), (.int p1), (.int p2)] below meth c T' locs' 1 2 ∧ T'.heap = h' ∧ Fr n0 locs' ∧ own_S Z h' b1 (own_min n' 32) ∧ own_B n' 8 ∧ One o7' ∧ One o8' ∧ ∀ t, Steps p.tables e below (T'.setTop (mkF m 50 #[.val (.int p0), .val (.int p1), .val (.int p2), .val (.ref b1), .val (.int ((p0 &&& (2147483647 : Int32)) % (5 : Int32))), .val (.int n'), .val (.int (1 : Int32)), o7', o8', .unset, .unset] [])) t → Steps p.tables e below (s₁.setTop (entryFrame m #[(.int p0), (.int p1), (.int p2)] maxLocals)) t := by
    have go6 : ∀ t, Steps p.tables e below (T3.setTop (mkF m 25 #[.val (.int p0), .val (.int p1), .val (.int p2), .val (.ref b1), .val (.int ((p0 &&& (2147483647 : Int32)) % (5 : Int32))), .val (.int (0 : Int32)), .val (.int (1 : Int32)), .unset, .unset, .unset, .unset] [(.int (1 : Int32)), (.int ((p0 &&& (2147483647 : Int32)) % (5 : Int32)))])) t → Steps p.tables e below (s₁.setTop (entryFrame m #[(.int p0), (.int p1), (.int p2)] maxLocals)) t := fun t kt => go4 t (by
        refine XS.iload X3.here hx rfl (hb hby at_22) rfl ?_
        show Steps p.tables e below (T3.setTop (mkF m 24 #[.val (.int p0), .val (.int p1), .val (.int p2), .val (.ref b1), .val (.int ((p0 &&& (2147483647 : Int32)) % (5 : Int32))), .val (.int (0 : Int32)), .val (.int (1 : Int32)), .unset, .unset, .unset, .unset] [(.int ((p0 &&& (2147483647 : Int32)) % (5 : Int32)))])) _
        refine XS.iconst X3.here hx rfl (hb hby at_24) ?_
        show Steps p.tables e below (T3.setTop (mkF m 25 #[.val (.int p0), .val (.int p1), .val (.int p2), .val (.ref b1), .val (.int ((p0 &&& (2147483647 : Int32)) % (5 : Int32))), .val (.int (0 : Int32)), .val (.int (1 : Int32)), .unset, .unset, .unset, .unset] [(.int (1 : Int32)), (.int ((p0 &&& (2147483647 : Int32)) % (5 : Int32)))])) _
        exact kt)
    by_cases hc25_7 : ((p0 &&& (2147483647 : Int32)) % (5 : Int32)) < (1 : Int32)
    · have go8 : ∀ t, Steps p.tables e below (T3.setTop (mkF m 50 #[.val (.int p0), .val (.int p1), .val (.int p2), .val (.ref b1), .val (.int ((p0 &&& (2147483647 : Int32)) % (5 : Int32))), .val (.int (0 : Int32)), .val (.int (1 : Int32)), .unset, .unset, .unset, .unset] [])) t → Steps p.tables e below (s₁.setTop (entryFrame m #[(.int p0), (.int p1), (.int p2)] maxLocals)) t := fun t kt => go6 t (by
          refine XS.icmpYes X3.here hx rfl (pc0 := 25) (pc' := 50) rfl (hb hby at_25) rfl (tlt hc25_7).1 (by decide) (by decide) ?_
          show Steps p.tables e below (T3.setTop (mkF m 50 #[.val (.int p0), .val (.int p1), .val (.int p2), .val (.ref b1), .val (.int ((p0 &&& (2147483647 : Int32)) % (5 : Int32))), .val (.int (0 : Int32)), .val (.int (1 : Int32)), .unset, .unset, .unset, .unset] [])) _
          exact kt)
      exact ⟨_, _, _, (0 : Int32), _, _, X3, rfl, N3, S3, own_Bw B0 (by decide), One.u, One.u, go8⟩
    · have go9 : ∀ t, Steps p.tables e below (T3.setTop (mkF m 31 #[.val (.int p0), .val (.int p1), .val (.int p2), .val (.ref b1), .val (.int ((p0 &&& (2147483647 : Int32)) % (5 : Int32))), .val (.int (0 : Int32)), .val (.int (1 : Int32)), .unset, .unset, .unset, .unset] [(.int (0 : Int32)), (.ref b1)])) t → Steps p.tables e below (s₁.setTop (entryFrame m #[(.int p0), (.int p1), (.int p2)] maxLocals)) t := fun t kt => go6 t (by
          refine XS.icmpNo X3.here hx rfl (hb hby at_25) rfl (flt hc25_7).1 ?_
          show Steps p.tables e below (T3.setTop (mkF m 28 #[.val (.int p0), .val (.int p1), .val (.int p2), .val (.ref b1), .val (.int ((p0 &&& (2147483647 : Int32)) % (5 : Int32))), .val (.int (0 : Int32)), .val (.int (1 : Int32)), .unset, .unset, .unset, .unset] [])) _
          refine XS.aloadN X3.here hx rfl (hb hby at_28) rfl rfl ?_
          show Steps p.tables e below (T3.setTop (mkF m 29 #[.val (.int p0), .val (.int p1), .val (.int p2), .val (.ref b1), .val (.int ((p0 &&& (2147483647 : Int32)) % (5 : Int32))), .val (.int (0 : Int32)), .val (.int (1 : Int32)), .unset, .unset, .unset, .unset] [(.ref b1)])) _
          refine XS.iload X3.here hx rfl (hb hby at_29) rfl ?_
          show Steps p.tables e below (T3.setTop (mkF m 31 #[.val (.int p0), .val (.int p1), .val (.int p2), .val (.ref b1), .val (.int ((p0 &&& (2147483647 : Int32)) % (5 : Int32))), .val (.int (0 : Int32)), .val (.int (1 : Int32)), .unset, .unset, .unset, .unset] [(.int (0 : Int32)), (.ref b1)])) _
          exact kt)
      obtain ⟨_, _, ⟨T10, L10, k10, n10⟩, -, X10, ⟨Lc10, hQ10, l10, y10, z10⟩, st10⟩ := Jvm.LawKit.callS X3 hx (y := (⟨"com/example/reckon/reckon/xpath/StackSegmentsEnterPinLaw", "eight", "(Lcom/example/reckon/reckon/xpath/StackSegments;I)Z"⟩ : MethodName)) hown (mvT hZ (hw _ (List.mem_of_getElem? (i := 32) rfl))) (mvT hZ (hw _ (List.mem_of_getElem? (i := 33) rfl))) (mvT hZ (hw _ (List.mem_of_getElem? (i := 14) rfl))) (mvT hZ (hw _ (List.mem_of_getElem? (i := 34) rfl))) (by decide) (backOf (W := 0) (rm7 l Z a0 hw [] b1 (0 : Int32) T3.heap n0 S3 (own_Bw B0 (by decide)) gb1) hZ (hw _ (List.mem_of_getElem? (i := 34) rfl)) (hw _ (List.mem_of_getElem? (i := 14) rfl)) (by decide) (by decide)) (g := (mkF m 31 #[.val (.int p0), .val (.int p1), .val (.int p2), .val (.ref b1), .val (.int ((p0 &&& (2147483647 : Int32)) % (5 : Int32))), .val (.int (0 : Int32)), .val (.int (1 : Int32)), .unset, .unset, .unset, .unset] [(.int (0 : Int32)), (.ref b1)])) rfl (by rw [hml]; rfl) (argsL := [(.ref b1), (.int (0 : Int32))]) (rest := []) (lenOf pd_1 rfl) rfl (by show 2 * 0 + _ ≤ _; exact Nat.le_of_eq rfl) (hb hby at_31) (fun _ _ => ⟨rfl, rfl, (by decide : 1 + 0 ≤ _), (by decide : 2 + 0 ≤ _)⟩)
      dsimp only [Pt.U, Pt.locs, Pt.cells, Pt.slots] at X10 l10 y10 z10 st10 hQ10
      subst l10 y10 z10
      obtain ⟨rfl, N10q, S10⟩ := hQ10
      have N10 := Fr.app N3 N10q
      have go11 : ∀ t, Steps p.tables e below (T10.setTop (mkF m 50 #[.val (.int p0), .val (.int p1), .val (.int p2), .val (.ref b1), .val (.int ((p0 &&& (2147483647 : Int32)) % (5 : Int32))), .val (.int ((0 : Int32) + (8 : Int32))), .val (.int ((1 : Int32) &&& (1 : Int32))), .val (.int (1 : Int32)), .unset, .unset, .unset] [])) t → Steps p.tables e below (s₁.setTop (entryFrame m #[(.int p0), (.int p1), (.int p2)] maxLocals)) t := fun t kt => go9 t (by
          refine st10 _ ?_
          show Steps p.tables e below (T10.setTop (mkF m 34 #[.val (.int p0), .val (.int p1), .val (.int p2), .val (.ref b1), .val (.int ((p0 &&& (2147483647 : Int32)) % (5 : Int32))), .val (.int (0 : Int32)), .val (.int (1 : Int32)), .unset, .unset, .unset, .unset] [(.int (1 : Int32))])) _
          refine XS.istore X10.here hx rfl (hb hby at_34) rfl (l' := #[.val (.int p0), .val (.int p1), .val (.int p2), .val (.ref b1), .val (.int ((p0 &&& (2147483647 : Int32)) % (5 : Int32))), .val (.int (0 : Int32)), .val (.int (1 : Int32)), .val (.int (1 : Int32)), .unset, .unset, .unset]) rfl ?_
          show Steps p.tables e below (T10.setTop (mkF m 36 #[.val (.int p0), .val (.int p1), .val (.int p2), .val (.ref b1), .val (.int ((p0 &&& (2147483647 : Int32)) % (5 : Int32))), .val (.int (0 : Int32)), .val (.int (1 : Int32)), .val (.int (1 : Int32)), .unset, .unset, .unset] [])) _
          refine XS.iload X10.here hx rfl (hb hby at_36) rfl ?_
          show Steps p.tables e below (T10.setTop (mkF m 38 #[.val (.int p0), .val (.int p1), .val (.int p2), .val (.ref b1), .val (.int ((p0 &&& (2147483647 : Int32)) % (5 : Int32))), .val (.int (0 : Int32)), .val (.int (1 : Int32)), .val (.int (1 : Int32)), .unset, .unset, .unset] [(.int (1 : Int32))])) _
          refine XS.iload X10.here hx rfl (hb hby at_38) rfl ?_
          show Steps p.tables e below (T10.setTop (mkF m 40 #[.val (.int p0), .val (.int p1), .val (.int p2), .val (.ref b1), .val (.int ((p0 &&& (2147483647 : Int32)) % (5 : Int32))), .val (.int (0 : Int32)), .val (.int (1 : Int32)), .val (.int (1 : Int32)), .unset, .unset, .unset] [(.int (1 : Int32)), (.int (1 : Int32))])) _
          refine XS.iand X10.here hx rfl (hb hby at_40) rfl ?_
          show Steps p.tables e below (T10.setTop (mkF m 41 #[.val (.int p0), .val (.int p1), .val (.int p2), .val (.ref b1), .val (.int ((p0 &&& (2147483647 : Int32)) % (5 : Int32))), .val (.int (0 : Int32)), .val (.int (1 : Int32)), .val (.int (1 : Int32)), .unset, .unset, .unset] [(.int ((1 : Int32) &&& (1 : Int32)))])) _
          refine XS.istore X10.here hx rfl (hb hby at_41) rfl (l' := #[.val (.int p0), .val (.int p1), .val (.int p2), .val (.ref b1), .val (.int ((p0 &&& (2147483647 : Int32)) % (5 : Int32))), .val (.int (0 : Int32)), .val (.int ((1 : Int32) &&& (1 : Int32))), .val (.int (1 : Int32)), .unset, .unset, .unset]) rfl ?_
          show Steps p.tables e below (T10.setTop (mkF m 43 #[.val (.int p0), .val (.int p1), .val (.int p2), .val (.ref b1), .val (.int ((p0 &&& (2147483647 : Int32)) % (5 : Int32))), .val (.int (0 : Int32)), .val (.int ((1 : Int32) &&& (1 : Int32))), .val (.int (1 : Int32)), .unset, .unset, .unset] [])) _
          refine XS.iload X10.here hx rfl (hb hby at_43) rfl ?_
          show Steps p.tables e below (T10.setTop (mkF m 45 #[.val (.int p0), .val (.int p1), .val (.int p2), .val (.ref b1), .val (.int ((p0 &&& (2147483647 : Int32)) % (5 : Int32))), .val (.int (0 : Int32)), .val (.int ((1 : Int32) &&& (1 : Int32))), .val (.int (1 : Int32)), .unset, .unset, .unset] [(.int (0 : Int32))])) _
          refine XS.bipush X10.here hx rfl (hb hby at_45) ?_
          show Steps p.tables e below (T10.setTop (mkF m 47 #[.val (.int p0), .val (.int p1), .val (.int p2), .val (.ref b1), .val (.int ((p0 &&& (2147483647 : Int32)) % (5 : Int32))), .val (.int (0 : Int32)), .val (.int ((1 : Int32) &&& (1 : Int32))), .val (.int (1 : Int32)), .unset, .unset, .unset] [(.int (8 : Int32)), (.int (0 : Int32))])) _
          refine XS.iadd X10.here hx rfl (hb hby at_47) rfl ?_
          show Steps p.tables e below (T10.setTop (mkF m 48 #[.val (.int p0), .val (.int p1), .val (.int p2), .val (.ref b1), .val (.int ((p0 &&& (2147483647 : Int32)) % (5 : Int32))), .val (.int (0 : Int32)), .val (.int ((1 : Int32) &&& (1 : Int32))), .val (.int (1 : Int32)), .unset, .unset, .unset] [(.int ((0 : Int32) + (8 : Int32)))])) _
          refine XS.istore X10.here hx rfl (hb hby at_48) rfl (l' := #[.val (.int p0), .val (.int p1), .val (.int p2), .val (.ref b1), .val (.int ((p0 &&& (2147483647 : Int32)) % (5 : Int32))), .val (.int ((0 : Int32) + (8 : Int32))), .val (.int ((1 : Int32) &&& (1 : Int32))), .val (.int (1 : Int32)), .unset, .unset, .unset]) rfl ?_
          show Steps p.tables e below (T10.setTop (mkF m 50 #[.val (.int p0), .val (.int p1), .val (.int p2), .val (.ref b1), .val (.int ((p0 &&& (2147483647 : Int32)) % (5 : Int32))), .val (.int ((0 : Int32) + (8 : Int32))), .val (.int ((1 : Int32) &&& (1 : Int32))), .val (.int (1 : Int32)), .unset, .unset, .unset] [])) _
          exact kt)
      rw [show ((1 : Int32) &&& (1 : Int32)) = (1 : Int32) from (by decide)] at go11
      exact ⟨_, _, _, ((0 : Int32) + (8 : Int32)), _, _, X10, rfl, N10, S10, own_Badd B0 (by decide) (by decide) (by decide), (One.val rfl), One.u, go11⟩
  obtain ⟨T12, h12, Ls12, nn12, oo12, op12, X12, e12, N12, S12, B12, O12, P12, go12⟩ : ∃ (T' : State) (h' : Heap) (locs' : List Loc) (n' : Int32) (o7' o8' : Slot), Stand p l e room_1 s m #[(.int p0), (.int p1), (.int p2)] below meth c T' locs' 1 2 ∧ T'.heap = h' ∧ Fr n0 locs' ∧ own_S Z h' b1 (own_min n' 32) ∧ own_B n' 16 ∧ One o7' ∧ One o8' ∧ ∀ t, Steps p.tables e below (T'.setTop (mkF m 78 #[.val (.int p0), .val (.int p1), .val (.int p2), .val (.ref b1), .val (.int ((p0 &&& (2147483647 : Int32)) % (5 : Int32))), .val (.int n'), .val (.int (1 : Int32)), o7', o8', .unset, .unset] [])) t → Steps p.tables e below (s₁.setTop (entryFrame m #[(.int p0), (.int p1), (.int p2)] maxLocals)) t := by
    have go13 : ∀ t, Steps p.tables e below (T5.setTop (mkF m 53 #[.val (.int p0), .val (.int p1), .val (.int p2), .val (.ref b1), .val (.int ((p0 &&& (2147483647 : Int32)) % (5 : Int32))), .val (.int nn5), .val (.int (1 : Int32)), oo5, op5, .unset, .unset] [(.int (2 : Int32)), (.int ((p0 &&& (2147483647 : Int32)) % (5 : Int32)))])) t → Steps p.tables e below (s₁.setTop (entryFrame m #[(.int p0), (.int p1), (.int p2)] maxLocals)) t := fun t kt => go5 t (by
        refine XS.iload X5.here hx rfl (hb hby at_50) rfl ?_
        show Steps p.tables e below (T5.setTop (mkF m 52 #[.val (.int p0), .val (.int p1), .val (.int p2), .val (.ref b1), .val (.int ((p0 &&& (2147483647 : Int32)) % (5 : Int32))), .val (.int nn5), .val (.int (1 : Int32)), oo5, op5, .unset, .unset] [(.int ((p0 &&& (2147483647 : Int32)) % (5 : Int32)))])) _
        refine XS.iconst X5.here hx rfl (hb hby at_52) ?_
        show Steps p.tables e below (T5.setTop (mkF m 53 #[.val (.int p0), .val (.int p1), .val (.int p2), .val (.ref b1), .val (.int ((p0 &&& (2147483647 : Int32)) % (5 : Int32))), .val (.int nn5), .val (.int (1 : Int32)), oo5, op5, .unset, .unset] [(.int (2 : Int32)), (.int ((p0 &&& (2147483647 : Int32)) % (5 : Int32)))])) _
        exact kt)
    by_cases hc53_14 : ((p0 &&& (2147483647 : Int32)) % (5 : Int32)) < (2 : Int32)
    · have go15 : ∀ t, Steps p.tables e below (T5.setTop (mkF m 78 #[.val (.int p0), .val (.int p1), .val (.int p2), .val (.ref b1), .val (.int ((p0 &&& (2147483647 : Int32)) % (5 : Int32))), .val (.int nn5), .val (.int (1 : Int32)), oo5, op5, .unset, .unset] [])) t → Steps p.tables e below (s₁.setTop (entryFrame m #[(.int p0), (.int p1), (.int p2)] maxLocals)) t := fun t kt => go13 t (by
          refine XS.icmpYes X5.here hx rfl (pc0 := 53) (pc' := 78) rfl (hb hby at_53) rfl (tlt hc53_14).1 (by decide) (by decide) ?_
          show Steps p.tables e below (T5.setTop (mkF m 78 #[.val (.int p0), .val (.int p1), .val (.int p2), .val (.ref b1), .val (.int ((p0 &&& (2147483647 : Int32)) % (5 : Int32))), .val (.int nn5), .val (.int (1 : Int32)), oo5, op5, .unset, .unset] [])) _
          exact kt)
      exact ⟨_, _, _, nn5, _, _, X5, e5, N5, S5, own_Bw B5 (by decide), O5, P5, go15⟩
    · have go16 : ∀ t, Steps p.tables e below (T5.setTop (mkF m 59 #[.val (.int p0), .val (.int p1), .val (.int p2), .val (.ref b1), .val (.int ((p0 &&& (2147483647 : Int32)) % (5 : Int32))), .val (.int nn5), .val (.int (1 : Int32)), oo5, op5, .unset, .unset] [(.int nn5), (.ref b1)])) t → Steps p.tables e below (s₁.setTop (entryFrame m #[(.int p0), (.int p1), (.int p2)] maxLocals)) t := fun t kt => go13 t (by
          refine XS.icmpNo X5.here hx rfl (hb hby at_53) rfl (flt hc53_14).1 ?_
          show Steps p.tables e below (T5.setTop (mkF m 56 #[.val (.int p0), .val (.int p1), .val (.int p2), .val (.ref b1), .val (.int ((p0 &&& (2147483647 : Int32)) % (5 : Int32))), .val (.int nn5), .val (.int (1 : Int32)), oo5, op5, .unset, .unset] [])) _
          refine XS.aloadN X5.here hx rfl (hb hby at_56) rfl rfl ?_
          show Steps p.tables e below (T5.setTop (mkF m 57 #[.val (.int p0), .val (.int p1), .val (.int p2), .val (.ref b1), .val (.int ((p0 &&& (2147483647 : Int32)) % (5 : Int32))), .val (.int nn5), .val (.int (1 : Int32)), oo5, op5, .unset, .unset] [(.ref b1)])) _
          refine XS.iload X5.here hx rfl (hb hby at_57) rfl ?_
          show Steps p.tables e below (T5.setTop (mkF m 59 #[.val (.int p0), .val (.int p1), .val (.int p2), .val (.ref b1), .val (.int ((p0 &&& (2147483647 : Int32)) % (5 : Int32))), .val (.int nn5), .val (.int (1 : Int32)), oo5, op5, .unset, .unset] [(.int nn5), (.ref b1)])) _
          exact kt)
      obtain ⟨_, _, ⟨T17, L17, k17, n17⟩, -, X17, ⟨Lc17, hQ17, l17, y17, z17⟩, st17⟩ := Jvm.LawKit.callS X5 hx (y := (⟨"com/example/reckon/reckon/xpath/StackSegmentsEnterPinLaw", "eight", "(Lcom/example/reckon/reckon/xpath/StackSegments;I)Z"⟩ : MethodName)) hown (mvT hZ (hw _ (List.mem_of_getElem? (i := 32) rfl))) (mvT hZ (hw _ (List.mem_of_getElem? (i := 33) rfl))) (mvT hZ (hw _ (List.mem_of_getElem? (i := 14) rfl))) (mvT hZ (hw _ (List.mem_of_getElem? (i := 34) rfl))) (by decide) (backOf (W := 0) (rm7 l Z a0 hw [] b1 nn5 h5 n0 S5 (own_Bw B5 (by decide)) gb1) hZ (hw _ (List.mem_of_getElem? (i := 34) rfl)) (hw _ (List.mem_of_getElem? (i := 14) rfl)) (by decide) (by decide)) (g := (mkF m 59 #[.val (.int p0), .val (.int p1), .val (.int p2), .val (.ref b1), .val (.int ((p0 &&& (2147483647 : Int32)) % (5 : Int32))), .val (.int nn5), .val (.int (1 : Int32)), oo5, op5, .unset, .unset] [(.int nn5), (.ref b1)])) rfl (by rw [hml]; rfl) (argsL := [(.ref b1), (.int nn5)]) (rest := []) (lenOf pd_1 rfl) rfl (by show 2 * 0 + _ ≤ _; exact Nat.le_of_eq rfl) (hb hby at_59) (fun _ _ => ⟨rfl, e5, (by decide : 1 + 0 ≤ _), (by decide : 2 + 0 ≤ _)⟩)
      dsimp only [Pt.U, Pt.locs, Pt.cells, Pt.slots] at X17 l17 y17 z17 st17 hQ17
      subst l17 y17 z17
      obtain ⟨rfl, N17q, S17⟩ := hQ17
      have N17 := Fr.app N5 N17q
      have go18 : ∀ t, Steps p.tables e below (T17.setTop (mkF m 78 #[.val (.int p0), .val (.int p1), .val (.int p2), .val (.ref b1), .val (.int ((p0 &&& (2147483647 : Int32)) % (5 : Int32))), .val (.int (nn5 + (8 : Int32))), .val (.int ((1 : Int32) &&& (1 : Int32))), .val (.int (1 : Int32)), op5, .unset, .unset] [])) t → Steps p.tables e below (s₁.setTop (entryFrame m #[(.int p0), (.int p1), (.int p2)] maxLocals)) t := fun t kt => go16 t (by
          refine st17 _ ?_
          show Steps p.tables e below (T17.setTop (mkF m 62 #[.val (.int p0), .val (.int p1), .val (.int p2), .val (.ref b1), .val (.int ((p0 &&& (2147483647 : Int32)) % (5 : Int32))), .val (.int nn5), .val (.int (1 : Int32)), oo5, op5, .unset, .unset] [(.int (1 : Int32))])) _
          refine XS.istore X17.here hx rfl (hb hby at_62) rfl (l' := #[.val (.int p0), .val (.int p1), .val (.int p2), .val (.ref b1), .val (.int ((p0 &&& (2147483647 : Int32)) % (5 : Int32))), .val (.int nn5), .val (.int (1 : Int32)), .val (.int (1 : Int32)), op5, .unset, .unset]) (own_store rfl O5 rfl rfl) ?_
          show Steps p.tables e below (T17.setTop (mkF m 64 #[.val (.int p0), .val (.int p1), .val (.int p2), .val (.ref b1), .val (.int ((p0 &&& (2147483647 : Int32)) % (5 : Int32))), .val (.int nn5), .val (.int (1 : Int32)), .val (.int (1 : Int32)), op5, .unset, .unset] [])) _
          refine XS.iload X17.here hx rfl (hb hby at_64) rfl ?_
          show Steps p.tables e below (T17.setTop (mkF m 66 #[.val (.int p0), .val (.int p1), .val (.int p2), .val (.ref b1), .val (.int ((p0 &&& (2147483647 : Int32)) % (5 : Int32))), .val (.int nn5), .val (.int (1 : Int32)), .val (.int (1 : Int32)), op5, .unset, .unset] [(.int (1 : Int32))])) _
          refine XS.iload X17.here hx rfl (hb hby at_66) rfl ?_
          show Steps p.tables e below (T17.setTop (mkF m 68 #[.val (.int p0), .val (.int p1), .val (.int p2), .val (.ref b1), .val (.int ((p0 &&& (2147483647 : Int32)) % (5 : Int32))), .val (.int nn5), .val (.int (1 : Int32)), .val (.int (1 : Int32)), op5, .unset, .unset] [(.int (1 : Int32)), (.int (1 : Int32))])) _
          refine XS.iand X17.here hx rfl (hb hby at_68) rfl ?_
          show Steps p.tables e below (T17.setTop (mkF m 69 #[.val (.int p0), .val (.int p1), .val (.int p2), .val (.ref b1), .val (.int ((p0 &&& (2147483647 : Int32)) % (5 : Int32))), .val (.int nn5), .val (.int (1 : Int32)), .val (.int (1 : Int32)), op5, .unset, .unset] [(.int ((1 : Int32) &&& (1 : Int32)))])) _
          refine XS.istore X17.here hx rfl (hb hby at_69) rfl (l' := #[.val (.int p0), .val (.int p1), .val (.int p2), .val (.ref b1), .val (.int ((p0 &&& (2147483647 : Int32)) % (5 : Int32))), .val (.int nn5), .val (.int ((1 : Int32) &&& (1 : Int32))), .val (.int (1 : Int32)), op5, .unset, .unset]) rfl ?_
          show Steps p.tables e below (T17.setTop (mkF m 71 #[.val (.int p0), .val (.int p1), .val (.int p2), .val (.ref b1), .val (.int ((p0 &&& (2147483647 : Int32)) % (5 : Int32))), .val (.int nn5), .val (.int ((1 : Int32) &&& (1 : Int32))), .val (.int (1 : Int32)), op5, .unset, .unset] [])) _
          refine XS.iload X17.here hx rfl (hb hby at_71) rfl ?_
          show Steps p.tables e below (T17.setTop (mkF m 73 #[.val (.int p0), .val (.int p1), .val (.int p2), .val (.ref b1), .val (.int ((p0 &&& (2147483647 : Int32)) % (5 : Int32))), .val (.int nn5), .val (.int ((1 : Int32) &&& (1 : Int32))), .val (.int (1 : Int32)), op5, .unset, .unset] [(.int nn5)])) _
          refine XS.bipush X17.here hx rfl (hb hby at_73) ?_
          show Steps p.tables e below (T17.setTop (mkF m 75 #[.val (.int p0), .val (.int p1), .val (.int p2), .val (.ref b1), .val (.int ((p0 &&& (2147483647 : Int32)) % (5 : Int32))), .val (.int nn5), .val (.int ((1 : Int32) &&& (1 : Int32))), .val (.int (1 : Int32)), op5, .unset, .unset] [(.int (8 : Int32)), (.int nn5)])) _
          refine XS.iadd X17.here hx rfl (hb hby at_75) rfl ?_
          show Steps p.tables e below (T17.setTop (mkF m 76 #[.val (.int p0), .val (.int p1), .val (.int p2), .val (.ref b1), .val (.int ((p0 &&& (2147483647 : Int32)) % (5 : Int32))), .val (.int nn5), .val (.int ((1 : Int32) &&& (1 : Int32))), .val (.int (1 : Int32)), op5, .unset, .unset] [(.int (nn5 + (8 : Int32)))])) _
          refine XS.istore X17.here hx rfl (hb hby at_76) rfl (l' := #[.val (.int p0), .val (.int p1), .val (.int p2), .val (.ref b1), .val (.int ((p0 &&& (2147483647 : Int32)) % (5 : Int32))), .val (.int (nn5 + (8 : Int32))), .val (.int ((1 : Int32) &&& (1 : Int32))), .val (.int (1 : Int32)), op5, .unset, .unset]) rfl ?_
          show Steps p.tables e below (T17.setTop (mkF m 78 #[.val (.int p0), .val (.int p1), .val (.int p2), .val (.ref b1), .val (.int ((p0 &&& (2147483647 : Int32)) % (5 : Int32))), .val (.int (nn5 + (8 : Int32))), .val (.int ((1 : Int32) &&& (1 : Int32))), .val (.int (1 : Int32)), op5, .unset, .unset] [])) _
          exact kt)
      rw [show ((1 : Int32) &&& (1 : Int32)) = (1 : Int32) from (by decide)] at go18
      exact ⟨_, _, _, (nn5 + (8 : Int32)), _, _, X17, rfl, N17, S17, own_Badd B5 (by decide) (by decide) (by decide), (One.val rfl), P5, go18⟩
  obtain ⟨T19, h19, Ls19, nn19, oo19, op19, X19, e19, N19, S19, B19, O19, P19, go19⟩ : ∃ (T' : State) (h' : Heap) (locs' : List Loc) (n' : Int32) (o7' o8' : Slot), Stand p l e room_1 s m #[(.int p0), (.int p1), (.int p2)] below meth c T' locs' 1 2 ∧ T'.heap = h' ∧ Fr n0 locs' ∧ own_S Z h' b1 (own_min n' 32) ∧ own_B n' 24 ∧ One o7' ∧ One o8' ∧ ∀ t, Steps p.tables e below (T'.setTop (mkF m 106 #[.val (.int p0), .val (.int p1), .val (.int p2), .val (.ref b1), .val (.int ((p0 &&& (2147483647 : Int32)) % (5 : Int32))), .val (.int n'), .val (.int (1 : Int32)), o7', o8', .unset, .unset] [])) t → Steps p.tables e below (s₁.setTop (entryFrame m #[(.int p0), (.int p1), (.int p2)] maxLocals)) t := by
    have go20 : ∀ t, Steps p.tables e below (T12.setTop (mkF m 81 #[.val (.int p0), .val (.int p1), .val (.int p2), .val (.ref b1), .val (.int ((p0 &&& (2147483647 : Int32)) % (5 : Int32))), .val (.int nn12), .val (.int (1 : Int32)), oo12, op12, .unset, .unset] [(.int (3 : Int32)), (.int ((p0 &&& (2147483647 : Int32)) % (5 : Int32)))])) t → Steps p.tables e below (s₁.setTop (entryFrame m #[(.int p0), (.int p1), (.int p2)] maxLocals)) t := fun t kt => go12 t (by
        refine XS.iload X12.here hx rfl (hb hby at_78) rfl ?_
        show Steps p.tables e below (T12.setTop (mkF m 80 #[.val (.int p0), .val (.int p1), .val (.int p2), .val (.ref b1), .val (.int ((p0 &&& (2147483647 : Int32)) % (5 : Int32))), .val (.int nn12), .val (.int (1 : Int32)), oo12, op12, .unset, .unset] [(.int ((p0 &&& (2147483647 : Int32)) % (5 : Int32)))])) _
        refine XS.iconst X12.here hx rfl (hb hby at_80) ?_
        show Steps p.tables e below (T12.setTop (mkF m 81 #[.val (.int p0), .val (.int p1), .val (.int p2), .val (.ref b1), .val (.int ((p0 &&& (2147483647 : Int32)) % (5 : Int32))), .val (.int nn12), .val (.int (1 : Int32)), oo12, op12, .unset, .unset] [(.int (3 : Int32)), (.int ((p0 &&& (2147483647 : Int32)) % (5 : Int32)))])) _
        exact kt)
    by_cases hc81_21 : ((p0 &&& (2147483647 : Int32)) % (5 : Int32)) < (3 : Int32)
    · have go22 : ∀ t, Steps p.tables e below (T12.setTop (mkF m 106 #[.val (.int p0), .val (.int p1), .val (.int p2), .val (.ref b1), .val (.int ((p0 &&& (2147483647 : Int32)) % (5 : Int32))), .val (.int nn12), .val (.int (1 : Int32)), oo12, op12, .unset, .unset] [])) t → Steps p.tables e below (s₁.setTop (entryFrame m #[(.int p0), (.int p1), (.int p2)] maxLocals)) t := fun t kt => go20 t (by
          refine XS.icmpYes X12.here hx rfl (pc0 := 81) (pc' := 106) rfl (hb hby at_81) rfl (tlt hc81_21).1 (by decide) (by decide) ?_
          show Steps p.tables e below (T12.setTop (mkF m 106 #[.val (.int p0), .val (.int p1), .val (.int p2), .val (.ref b1), .val (.int ((p0 &&& (2147483647 : Int32)) % (5 : Int32))), .val (.int nn12), .val (.int (1 : Int32)), oo12, op12, .unset, .unset] [])) _
          exact kt)
      exact ⟨_, _, _, nn12, _, _, X12, e12, N12, S12, own_Bw B12 (by decide), O12, P12, go22⟩
    · have go23 : ∀ t, Steps p.tables e below (T12.setTop (mkF m 87 #[.val (.int p0), .val (.int p1), .val (.int p2), .val (.ref b1), .val (.int ((p0 &&& (2147483647 : Int32)) % (5 : Int32))), .val (.int nn12), .val (.int (1 : Int32)), oo12, op12, .unset, .unset] [(.int nn12), (.ref b1)])) t → Steps p.tables e below (s₁.setTop (entryFrame m #[(.int p0), (.int p1), (.int p2)] maxLocals)) t := fun t kt => go20 t (by
          refine XS.icmpNo X12.here hx rfl (hb hby at_81) rfl (flt hc81_21).1 ?_
          show Steps p.tables e below (T12.setTop (mkF m 84 #[.val (.int p0), .val (.int p1), .val (.int p2), .val (.ref b1), .val (.int ((p0 &&& (2147483647 : Int32)) % (5 : Int32))), .val (.int nn12), .val (.int (1 : Int32)), oo12, op12, .unset, .unset] [])) _
          refine XS.aloadN X12.here hx rfl (hb hby at_84) rfl rfl ?_
          show Steps p.tables e below (T12.setTop (mkF m 85 #[.val (.int p0), .val (.int p1), .val (.int p2), .val (.ref b1), .val (.int ((p0 &&& (2147483647 : Int32)) % (5 : Int32))), .val (.int nn12), .val (.int (1 : Int32)), oo12, op12, .unset, .unset] [(.ref b1)])) _
          refine XS.iload X12.here hx rfl (hb hby at_85) rfl ?_
          show Steps p.tables e below (T12.setTop (mkF m 87 #[.val (.int p0), .val (.int p1), .val (.int p2), .val (.ref b1), .val (.int ((p0 &&& (2147483647 : Int32)) % (5 : Int32))), .val (.int nn12), .val (.int (1 : Int32)), oo12, op12, .unset, .unset] [(.int nn12), (.ref b1)])) _
          exact kt)
      obtain ⟨_, _, ⟨T24, L24, k24, n24⟩, -, X24, ⟨Lc24, hQ24, l24, y24, z24⟩, st24⟩ := Jvm.LawKit.callS X12 hx (y := (⟨"com/example/reckon/reckon/xpath/StackSegmentsEnterPinLaw", "eight", "(Lcom/example/reckon/reckon/xpath/StackSegments;I)Z"⟩ : MethodName)) hown (mvT hZ (hw _ (List.mem_of_getElem? (i := 32) rfl))) (mvT hZ (hw _ (List.mem_of_getElem? (i := 33) rfl))) (mvT hZ (hw _ (List.mem_of_getElem? (i := 14) rfl))) (mvT hZ (hw _ (List.mem_of_getElem? (i := 34) rfl))) (by decide) (backOf (W := 0) (rm7 l Z a0 hw [] b1 nn12 h12 n0 S12 (own_Bw B12 (by decide)) gb1) hZ (hw _ (List.mem_of_getElem? (i := 34) rfl)) (hw _ (List.mem_of_getElem? (i := 14) rfl)) (by decide) (by decide)) (g := (mkF m 87 #[.val (.int p0), .val (.int p1), .val (.int p2), .val (.ref b1), .val (.int ((p0 &&& (2147483647 : Int32)) % (5 : Int32))), .val (.int nn12), .val (.int (1 : Int32)), oo12, op12, .unset, .unset] [(.int nn12), (.ref b1)])) rfl (by rw [hml]; rfl) (argsL := [(.ref b1), (.int nn12)]) (rest := []) (lenOf pd_1 rfl) rfl (by show 2 * 0 + _ ≤ _; exact Nat.le_of_eq rfl) (hb hby at_87) (fun _ _ => ⟨rfl, e12, (by decide : 1 + 0 ≤ _), (by decide : 2 + 0 ≤ _)⟩)
      dsimp only [Pt.U, Pt.locs, Pt.cells, Pt.slots] at X24 l24 y24 z24 st24 hQ24
      subst l24 y24 z24
      obtain ⟨rfl, N24q, S24⟩ := hQ24
      have N24 := Fr.app N12 N24q
      have go25 : ∀ t, Steps p.tables e below (T24.setTop (mkF m 106 #[.val (.int p0), .val (.int p1), .val (.int p2), .val (.ref b1), .val (.int ((p0 &&& (2147483647 : Int32)) % (5 : Int32))), .val (.int (nn12 + (8 : Int32))), .val (.int ((1 : Int32) &&& (1 : Int32))), .val (.int (1 : Int32)), op12, .unset, .unset] [])) t → Steps p.tables e below (s₁.setTop (entryFrame m #[(.int p0), (.int p1), (.int p2)] maxLocals)) t := fun t kt => go23 t (by
          refine st24 _ ?_
          show Steps p.tables e below (T24.setTop (mkF m 90 #[.val (.int p0), .val (.int p1), .val (.int p2), .val (.ref b1), .val (.int ((p0 &&& (2147483647 : Int32)) % (5 : Int32))), .val (.int nn12), .val (.int (1 : Int32)), oo12, op12, .unset, .unset] [(.int (1 : Int32))])) _
          refine XS.istore X24.here hx rfl (hb hby at_90) rfl (l' := #[.val (.int p0), .val (.int p1), .val (.int p2), .val (.ref b1), .val (.int ((p0 &&& (2147483647 : Int32)) % (5 : Int32))), .val (.int nn12), .val (.int (1 : Int32)), .val (.int (1 : Int32)), op12, .unset, .unset]) (own_store rfl O12 rfl rfl) ?_
          show Steps p.tables e below (T24.setTop (mkF m 92 #[.val (.int p0), .val (.int p1), .val (.int p2), .val (.ref b1), .val (.int ((p0 &&& (2147483647 : Int32)) % (5 : Int32))), .val (.int nn12), .val (.int (1 : Int32)), .val (.int (1 : Int32)), op12, .unset, .unset] [])) _
          refine XS.iload X24.here hx rfl (hb hby at_92) rfl ?_
          show Steps p.tables e below (T24.setTop (mkF m 94 #[.val (.int p0), .val (.int p1), .val (.int p2), .val (.ref b1), .val (.int ((p0 &&& (2147483647 : Int32)) % (5 : Int32))), .val (.int nn12), .val (.int (1 : Int32)), .val (.int (1 : Int32)), op12, .unset, .unset] [(.int (1 : Int32))])) _
          refine XS.iload X24.here hx rfl (hb hby at_94) rfl ?_
          show Steps p.tables e below (T24.setTop (mkF m 96 #[.val (.int p0), .val (.int p1), .val (.int p2), .val (.ref b1), .val (.int ((p0 &&& (2147483647 : Int32)) % (5 : Int32))), .val (.int nn12), .val (.int (1 : Int32)), .val (.int (1 : Int32)), op12, .unset, .unset] [(.int (1 : Int32)), (.int (1 : Int32))])) _
          refine XS.iand X24.here hx rfl (hb hby at_96) rfl ?_
          show Steps p.tables e below (T24.setTop (mkF m 97 #[.val (.int p0), .val (.int p1), .val (.int p2), .val (.ref b1), .val (.int ((p0 &&& (2147483647 : Int32)) % (5 : Int32))), .val (.int nn12), .val (.int (1 : Int32)), .val (.int (1 : Int32)), op12, .unset, .unset] [(.int ((1 : Int32) &&& (1 : Int32)))])) _
          refine XS.istore X24.here hx rfl (hb hby at_97) rfl (l' := #[.val (.int p0), .val (.int p1), .val (.int p2), .val (.ref b1), .val (.int ((p0 &&& (2147483647 : Int32)) % (5 : Int32))), .val (.int nn12), .val (.int ((1 : Int32) &&& (1 : Int32))), .val (.int (1 : Int32)), op12, .unset, .unset]) rfl ?_
          show Steps p.tables e below (T24.setTop (mkF m 99 #[.val (.int p0), .val (.int p1), .val (.int p2), .val (.ref b1), .val (.int ((p0 &&& (2147483647 : Int32)) % (5 : Int32))), .val (.int nn12), .val (.int ((1 : Int32) &&& (1 : Int32))), .val (.int (1 : Int32)), op12, .unset, .unset] [])) _
          refine XS.iload X24.here hx rfl (hb hby at_99) rfl ?_
          show Steps p.tables e below (T24.setTop (mkF m 101 #[.val (.int p0), .val (.int p1), .val (.int p2), .val (.ref b1), .val (.int ((p0 &&& (2147483647 : Int32)) % (5 : Int32))), .val (.int nn12), .val (.int ((1 : Int32) &&& (1 : Int32))), .val (.int (1 : Int32)), op12, .unset, .unset] [(.int nn12)])) _
          refine XS.bipush X24.here hx rfl (hb hby at_101) ?_
          show Steps p.tables e below (T24.setTop (mkF m 103 #[.val (.int p0), .val (.int p1), .val (.int p2), .val (.ref b1), .val (.int ((p0 &&& (2147483647 : Int32)) % (5 : Int32))), .val (.int nn12), .val (.int ((1 : Int32) &&& (1 : Int32))), .val (.int (1 : Int32)), op12, .unset, .unset] [(.int (8 : Int32)), (.int nn12)])) _
          refine XS.iadd X24.here hx rfl (hb hby at_103) rfl ?_
          show Steps p.tables e below (T24.setTop (mkF m 104 #[.val (.int p0), .val (.int p1), .val (.int p2), .val (.ref b1), .val (.int ((p0 &&& (2147483647 : Int32)) % (5 : Int32))), .val (.int nn12), .val (.int ((1 : Int32) &&& (1 : Int32))), .val (.int (1 : Int32)), op12, .unset, .unset] [(.int (nn12 + (8 : Int32)))])) _
          refine XS.istore X24.here hx rfl (hb hby at_104) rfl (l' := #[.val (.int p0), .val (.int p1), .val (.int p2), .val (.ref b1), .val (.int ((p0 &&& (2147483647 : Int32)) % (5 : Int32))), .val (.int (nn12 + (8 : Int32))), .val (.int ((1 : Int32) &&& (1 : Int32))), .val (.int (1 : Int32)), op12, .unset, .unset]) rfl ?_
          show Steps p.tables e below (T24.setTop (mkF m 106 #[.val (.int p0), .val (.int p1), .val (.int p2), .val (.ref b1), .val (.int ((p0 &&& (2147483647 : Int32)) % (5 : Int32))), .val (.int (nn12 + (8 : Int32))), .val (.int ((1 : Int32) &&& (1 : Int32))), .val (.int (1 : Int32)), op12, .unset, .unset] [])) _
          exact kt)
      rw [show ((1 : Int32) &&& (1 : Int32)) = (1 : Int32) from (by decide)] at go25
      exact ⟨_, _, _, (nn12 + (8 : Int32)), _, _, X24, rfl, N24, S24, own_Badd B12 (by decide) (by decide) (by decide), (One.val rfl), P12, go25⟩
  obtain ⟨T26, h26, Ls26, nn26, oo26, op26, X26, e26, N26, S26, B26, O26, P26, go26⟩ : ∃ (T' : State) (h' : Heap) (locs' : List Loc) (n' : Int32) (o7' o8' : Slot), Stand p l e room_1 s m #[(.int p0), (.int p1), (.int p2)] below meth c T' locs' 1 2 ∧ T'.heap = h' ∧ Fr n0 locs' ∧ own_S Z h' b1 (own_min n' 32) ∧ own_B n' 32 ∧ One o7' ∧ One o8' ∧ ∀ t, Steps p.tables e below (T'.setTop (mkF m 134 #[.val (.int p0), .val (.int p1), .val (.int p2), .val (.ref b1), .val (.int ((p0 &&& (2147483647 : Int32)) % (5 : Int32))), .val (.int n'), .val (.int (1 : Int32)), o7', o8', .unset, .unset] [])) t → Steps p.tables e below (s₁.setTop (entryFrame m #[(.int p0), (.int p1), (.int p2)] maxLocals)) t := by
    have go27 : ∀ t, Steps p.tables e below (T19.setTop (mkF m 109 #[.val (.int p0), .val (.int p1), .val (.int p2), .val (.ref b1), .val (.int ((p0 &&& (2147483647 : Int32)) % (5 : Int32))), .val (.int nn19), .val (.int (1 : Int32)), oo19, op19, .unset, .unset] [(.int (4 : Int32)), (.int ((p0 &&& (2147483647 : Int32)) % (5 : Int32)))])) t → Steps p.tables e below (s₁.setTop (entryFrame m #[(.int p0), (.int p1), (.int p2)] maxLocals)) t := fun t kt => go19 t (by
        refine XS.iload X19.here hx rfl (hb hby at_106) rfl ?_
        show Steps p.tables e below (T19.setTop (mkF m 108 #[.val (.int p0), .val (.int p1), .val (.int p2), .val (.ref b1), .val (.int ((p0 &&& (2147483647 : Int32)) % (5 : Int32))), .val (.int nn19), .val (.int (1 : Int32)), oo19, op19, .unset, .unset] [(.int ((p0 &&& (2147483647 : Int32)) % (5 : Int32)))])) _
        refine XS.iconst X19.here hx rfl (hb hby at_108) ?_
        show Steps p.tables e below (T19.setTop (mkF m 109 #[.val (.int p0), .val (.int p1), .val (.int p2), .val (.ref b1), .val (.int ((p0 &&& (2147483647 : Int32)) % (5 : Int32))), .val (.int nn19), .val (.int (1 : Int32)), oo19, op19, .unset, .unset] [(.int (4 : Int32)), (.int ((p0 &&& (2147483647 : Int32)) % (5 : Int32)))])) _
        exact kt)
    by_cases hc109_28 : ((p0 &&& (2147483647 : Int32)) % (5 : Int32)) < (4 : Int32)
    · have go29 : ∀ t, Steps p.tables e below (T19.setTop (mkF m 134 #[.val (.int p0), .val (.int p1), .val (.int p2), .val (.ref b1), .val (.int ((p0 &&& (2147483647 : Int32)) % (5 : Int32))), .val (.int nn19), .val (.int (1 : Int32)), oo19, op19, .unset, .unset] [])) t → Steps p.tables e below (s₁.setTop (entryFrame m #[(.int p0), (.int p1), (.int p2)] maxLocals)) t := fun t kt => go27 t (by
          refine XS.icmpYes X19.here hx rfl (pc0 := 109) (pc' := 134) rfl (hb hby at_109) rfl (tlt hc109_28).1 (by decide) (by decide) ?_
          show Steps p.tables e below (T19.setTop (mkF m 134 #[.val (.int p0), .val (.int p1), .val (.int p2), .val (.ref b1), .val (.int ((p0 &&& (2147483647 : Int32)) % (5 : Int32))), .val (.int nn19), .val (.int (1 : Int32)), oo19, op19, .unset, .unset] [])) _
          exact kt)
      exact ⟨_, _, _, nn19, _, _, X19, e19, N19, S19, own_Bw B19 (by decide), O19, P19, go29⟩
    · have go30 : ∀ t, Steps p.tables e below (T19.setTop (mkF m 115 #[.val (.int p0), .val (.int p1), .val (.int p2), .val (.ref b1), .val (.int ((p0 &&& (2147483647 : Int32)) % (5 : Int32))), .val (.int nn19), .val (.int (1 : Int32)), oo19, op19, .unset, .unset] [(.int nn19), (.ref b1)])) t → Steps p.tables e below (s₁.setTop (entryFrame m #[(.int p0), (.int p1), (.int p2)] maxLocals)) t := fun t kt => go27 t (by
          refine XS.icmpNo X19.here hx rfl (hb hby at_109) rfl (flt hc109_28).1 ?_
          show Steps p.tables e below (T19.setTop (mkF m 112 #[.val (.int p0), .val (.int p1), .val (.int p2), .val (.ref b1), .val (.int ((p0 &&& (2147483647 : Int32)) % (5 : Int32))), .val (.int nn19), .val (.int (1 : Int32)), oo19, op19, .unset, .unset] [])) _
          refine XS.aloadN X19.here hx rfl (hb hby at_112) rfl rfl ?_
          show Steps p.tables e below (T19.setTop (mkF m 113 #[.val (.int p0), .val (.int p1), .val (.int p2), .val (.ref b1), .val (.int ((p0 &&& (2147483647 : Int32)) % (5 : Int32))), .val (.int nn19), .val (.int (1 : Int32)), oo19, op19, .unset, .unset] [(.ref b1)])) _
          refine XS.iload X19.here hx rfl (hb hby at_113) rfl ?_
          show Steps p.tables e below (T19.setTop (mkF m 115 #[.val (.int p0), .val (.int p1), .val (.int p2), .val (.ref b1), .val (.int ((p0 &&& (2147483647 : Int32)) % (5 : Int32))), .val (.int nn19), .val (.int (1 : Int32)), oo19, op19, .unset, .unset] [(.int nn19), (.ref b1)])) _
          exact kt)
      obtain ⟨_, _, ⟨T31, L31, k31, n31⟩, -, X31, ⟨Lc31, hQ31, l31, y31, z31⟩, st31⟩ := Jvm.LawKit.callS X19 hx (y := (⟨"com/example/reckon/reckon/xpath/StackSegmentsEnterPinLaw", "eight", "(Lcom/example/reckon/reckon/xpath/StackSegments;I)Z"⟩ : MethodName)) hown (mvT hZ (hw _ (List.mem_of_getElem? (i := 32) rfl))) (mvT hZ (hw _ (List.mem_of_getElem? (i := 33) rfl))) (mvT hZ (hw _ (List.mem_of_getElem? (i := 14) rfl))) (mvT hZ (hw _ (List.mem_of_getElem? (i := 34) rfl))) (by decide) (backOf (W := 0) (rm7 l Z a0 hw [] b1 nn19 h19 n0 S19 (own_Bw B19 (by decide)) gb1) hZ (hw _ (List.mem_of_getElem? (i := 34) rfl)) (hw _ (List.mem_of_getElem? (i := 14) rfl)) (by decide) (by decide)) (g := (mkF m 115 #[.val (.int p0), .val (.int p1), .val (.int p2), .val (.ref b1), .val (.int ((p0 &&& (2147483647 : Int32)) % (5 : Int32))), .val (.int nn19), .val (.int (1 : Int32)), oo19, op19, .unset, .unset] [(.int nn19), (.ref b1)])) rfl (by rw [hml]; rfl) (argsL := [(.ref b1), (.int nn19)]) (rest := []) (lenOf pd_1 rfl) rfl (by show 2 * 0 + _ ≤ _; exact Nat.le_of_eq rfl) (hb hby at_115) (fun _ _ => ⟨rfl, e19, (by decide : 1 + 0 ≤ _), (by decide : 2 + 0 ≤ _)⟩)
      dsimp only [Pt.U, Pt.locs, Pt.cells, Pt.slots] at X31 l31 y31 z31 st31 hQ31
      subst l31 y31 z31
      obtain ⟨rfl, N31q, S31⟩ := hQ31
      have N31 := Fr.app N19 N31q
      have go32 : ∀ t, Steps p.tables e below (T31.setTop (mkF m 134 #[.val (.int p0), .val (.int p1), .val (.int p2), .val (.ref b1), .val (.int ((p0 &&& (2147483647 : Int32)) % (5 : Int32))), .val (.int (nn19 + (8 : Int32))), .val (.int ((1 : Int32) &&& (1 : Int32))), .val (.int (1 : Int32)), op19, .unset, .unset] [])) t → Steps p.tables e below (s₁.setTop (entryFrame m #[(.int p0), (.int p1), (.int p2)] maxLocals)) t := fun t kt => go30 t (by
          refine st31 _ ?_
          show Steps p.tables e below (T31.setTop (mkF m 118 #[.val (.int p0), .val (.int p1), .val (.int p2), .val (.ref b1), .val (.int ((p0 &&& (2147483647 : Int32)) % (5 : Int32))), .val (.int nn19), .val (.int (1 : Int32)), oo19, op19, .unset, .unset] [(.int (1 : Int32))])) _
          refine XS.istore X31.here hx rfl (hb hby at_118) rfl (l' := #[.val (.int p0), .val (.int p1), .val (.int p2), .val (.ref b1), .val (.int ((p0 &&& (2147483647 : Int32)) % (5 : Int32))), .val (.int nn19), .val (.int (1 : Int32)), .val (.int (1 : Int32)), op19, .unset, .unset]) (own_store rfl O19 rfl rfl) ?_
          show Steps p.tables e below (T31.setTop (mkF m 120 #[.val (.int p0), .val (.int p1), .val (.int p2), .val (.ref b1), .val (.int ((p0 &&& (2147483647 : Int32)) % (5 : Int32))), .val (.int nn19), .val (.int (1 : Int32)), .val (.int (1 : Int32)), op19, .unset, .unset] [])) _
          refine XS.iload X31.here hx rfl (hb hby at_120) rfl ?_
          show Steps p.tables e below (T31.setTop (mkF m 122 #[.val (.int p0), .val (.int p1), .val (.int p2), .val (.ref b1), .val (.int ((p0 &&& (2147483647 : Int32)) % (5 : Int32))), .val (.int nn19), .val (.int (1 : Int32)), .val (.int (1 : Int32)), op19, .unset, .unset] [(.int (1 : Int32))])) _
          refine XS.iload X31.here hx rfl (hb hby at_122) rfl ?_
          show Steps p.tables e below (T31.setTop (mkF m 124 #[.val (.int p0), .val (.int p1), .val (.int p2), .val (.ref b1), .val (.int ((p0 &&& (2147483647 : Int32)) % (5 : Int32))), .val (.int nn19), .val (.int (1 : Int32)), .val (.int (1 : Int32)), op19, .unset, .unset] [(.int (1 : Int32)), (.int (1 : Int32))])) _
          refine XS.iand X31.here hx rfl (hb hby at_124) rfl ?_
          show Steps p.tables e below (T31.setTop (mkF m 125 #[.val (.int p0), .val (.int p1), .val (.int p2), .val (.ref b1), .val (.int ((p0 &&& (2147483647 : Int32)) % (5 : Int32))), .val (.int nn19), .val (.int (1 : Int32)), .val (.int (1 : Int32)), op19, .unset, .unset] [(.int ((1 : Int32) &&& (1 : Int32)))])) _
          refine XS.istore X31.here hx rfl (hb hby at_125) rfl (l' := #[.val (.int p0), .val (.int p1), .val (.int p2), .val (.ref b1), .val (.int ((p0 &&& (2147483647 : Int32)) % (5 : Int32))), .val (.int nn19), .val (.int ((1 : Int32) &&& (1 : Int32))), .val (.int (1 : Int32)), op19, .unset, .unset]) rfl ?_
          show Steps p.tables e below (T31.setTop (mkF m 127 #[.val (.int p0), .val (.int p1), .val (.int p2), .val (.ref b1), .val (.int ((p0 &&& (2147483647 : Int32)) % (5 : Int32))), .val (.int nn19), .val (.int ((1 : Int32) &&& (1 : Int32))), .val (.int (1 : Int32)), op19, .unset, .unset] [])) _
          refine XS.iload X31.here hx rfl (hb hby at_127) rfl ?_
          show Steps p.tables e below (T31.setTop (mkF m 129 #[.val (.int p0), .val (.int p1), .val (.int p2), .val (.ref b1), .val (.int ((p0 &&& (2147483647 : Int32)) % (5 : Int32))), .val (.int nn19), .val (.int ((1 : Int32) &&& (1 : Int32))), .val (.int (1 : Int32)), op19, .unset, .unset] [(.int nn19)])) _
          refine XS.bipush X31.here hx rfl (hb hby at_129) ?_
          show Steps p.tables e below (T31.setTop (mkF m 131 #[.val (.int p0), .val (.int p1), .val (.int p2), .val (.ref b1), .val (.int ((p0 &&& (2147483647 : Int32)) % (5 : Int32))), .val (.int nn19), .val (.int ((1 : Int32) &&& (1 : Int32))), .val (.int (1 : Int32)), op19, .unset, .unset] [(.int (8 : Int32)), (.int nn19)])) _
          refine XS.iadd X31.here hx rfl (hb hby at_131) rfl ?_
          show Steps p.tables e below (T31.setTop (mkF m 132 #[.val (.int p0), .val (.int p1), .val (.int p2), .val (.ref b1), .val (.int ((p0 &&& (2147483647 : Int32)) % (5 : Int32))), .val (.int nn19), .val (.int ((1 : Int32) &&& (1 : Int32))), .val (.int (1 : Int32)), op19, .unset, .unset] [(.int (nn19 + (8 : Int32)))])) _
          refine XS.istore X31.here hx rfl (hb hby at_132) rfl (l' := #[.val (.int p0), .val (.int p1), .val (.int p2), .val (.ref b1), .val (.int ((p0 &&& (2147483647 : Int32)) % (5 : Int32))), .val (.int (nn19 + (8 : Int32))), .val (.int ((1 : Int32) &&& (1 : Int32))), .val (.int (1 : Int32)), op19, .unset, .unset]) rfl ?_
          show Steps p.tables e below (T31.setTop (mkF m 134 #[.val (.int p0), .val (.int p1), .val (.int p2), .val (.ref b1), .val (.int ((p0 &&& (2147483647 : Int32)) % (5 : Int32))), .val (.int (nn19 + (8 : Int32))), .val (.int ((1 : Int32) &&& (1 : Int32))), .val (.int (1 : Int32)), op19, .unset, .unset] [])) _
          exact kt)
      rw [show ((1 : Int32) &&& (1 : Int32)) = (1 : Int32) from (by decide)] at go32
      exact ⟨_, _, _, (nn19 + (8 : Int32)), _, _, X31, rfl, N31, S31, own_Badd B19 (by decide) (by decide) (by decide), (One.val rfl), P19, go32⟩
  obtain ⟨T33, h33, Ls33, nn33, oo33, op33, X33, e33, N33, S33, B33, O33, P33, go33⟩ : ∃ (T' : State) (h' : Heap) (locs' : List Loc) (n' : Int32) (o7' o8' : Slot), Stand p l e room_1 s m #[(.int p0), (.int p1), (.int p2)] below meth c T' locs' 1 2 ∧ T'.heap = h' ∧ Fr n0 locs' ∧ own_S Z h' b1 (own_min n' 32) ∧ own_B n' 36 ∧ One o7' ∧ One o8' ∧ ∀ t, Steps p.tables e below (T'.setTop (mkF m 161 #[.val (.int p0), .val (.int p1), .val (.int p2), .val (.ref b1), .val (.int ((p0 &&& (2147483647 : Int32)) % (5 : Int32))), .val (.int n'), .val (.int (1 : Int32)), o7', o8', .unset, .unset] [])) t → Steps p.tables e below (s₁.setTop (entryFrame m #[(.int p0), (.int p1), (.int p2)] maxLocals)) t := by
    have go34 : ∀ t, Steps p.tables e below (T26.setTop (mkF m 137 #[.val (.int p0), .val (.int p1), .val (.int p2), .val (.ref b1), .val (.int ((p0 &&& (2147483647 : Int32)) % (5 : Int32))), .val (.int nn26), .val (.int (1 : Int32)), oo26, op26, .unset, .unset] [(.int (p1 &&& (4 : Int32)))])) t → Steps p.tables e below (s₁.setTop (entryFrame m #[(.int p0), (.int p1), (.int p2)] maxLocals)) t := fun t kt => go26 t (by
        refine XS.iloadN X26.here hx rfl (hb hby at_134) rfl ?_
        show Steps p.tables e below (T26.setTop (mkF m 135 #[.val (.int p0), .val (.int p1), .val (.int p2), .val (.ref b1), .val (.int ((p0 &&& (2147483647 : Int32)) % (5 : Int32))), .val (.int nn26), .val (.int (1 : Int32)), oo26, op26, .unset, .unset] [(.int p1)])) _
        refine XS.iconst X26.here hx rfl (hb hby at_135) ?_
        show Steps p.tables e below (T26.setTop (mkF m 136 #[.val (.int p0), .val (.int p1), .val (.int p2), .val (.ref b1), .val (.int ((p0 &&& (2147483647 : Int32)) % (5 : Int32))), .val (.int nn26), .val (.int (1 : Int32)), oo26, op26, .unset, .unset] [(.int (4 : Int32)), (.int p1)])) _
        refine XS.iand X26.here hx rfl (hb hby at_136) rfl ?_
        show Steps p.tables e below (T26.setTop (mkF m 137 #[.val (.int p0), .val (.int p1), .val (.int p2), .val (.ref b1), .val (.int ((p0 &&& (2147483647 : Int32)) % (5 : Int32))), .val (.int nn26), .val (.int (1 : Int32)), oo26, op26, .unset, .unset] [(.int (p1 &&& (4 : Int32)))])) _
        exact kt)
    by_cases hc137_35 : (p1 &&& (4 : Int32)) = (0 : Int32)
    · have go36 : ∀ t, Steps p.tables e below (T26.setTop (mkF m 161 #[.val (.int p0), .val (.int p1), .val (.int p2), .val (.ref b1), .val (.int ((p0 &&& (2147483647 : Int32)) % (5 : Int32))), .val (.int nn26), .val (.int (1 : Int32)), oo26, op26, .unset, .unset] [])) t → Steps p.tables e below (s₁.setTop (entryFrame m #[(.int p0), (.int p1), (.int p2)] maxLocals)) t := fun t kt => go34 t (by
          refine XS.ifYes X26.here hx rfl (pc0 := 137) (pc' := 161) rfl (hb hby at_137) rfl ((if0 _ _).trans (teq hc137_35).1) (by decide) (by decide) ?_
          show Steps p.tables e below (T26.setTop (mkF m 161 #[.val (.int p0), .val (.int p1), .val (.int p2), .val (.ref b1), .val (.int ((p0 &&& (2147483647 : Int32)) % (5 : Int32))), .val (.int nn26), .val (.int (1 : Int32)), oo26, op26, .unset, .unset] [])) _
          exact kt)
      exact ⟨_, _, _, nn26, _, _, X26, e26, N26, S26, own_Bw B26 (by decide), O26, P26, go36⟩
    · have go37 : ∀ t, Steps p.tables e below (T26.setTop (mkF m 143 #[.val (.int p0), .val (.int p1), .val (.int p2), .val (.ref b1), .val (.int ((p0 &&& (2147483647 : Int32)) % (5 : Int32))), .val (.int nn26), .val (.int (1 : Int32)), oo26, op26, .unset, .unset] [(.int nn26), (.ref b1)])) t → Steps p.tables e below (s₁.setTop (entryFrame m #[(.int p0), (.int p1), (.int p2)] maxLocals)) t := fun t kt => go34 t (by
          refine XS.ifNo X26.here hx rfl (hb hby at_137) rfl ((if0 _ _).trans (feq hc137_35).1) ?_
          show Steps p.tables e below (T26.setTop (mkF m 140 #[.val (.int p0), .val (.int p1), .val (.int p2), .val (.ref b1), .val (.int ((p0 &&& (2147483647 : Int32)) % (5 : Int32))), .val (.int nn26), .val (.int (1 : Int32)), oo26, op26, .unset, .unset] [])) _
          refine XS.aloadN X26.here hx rfl (hb hby at_140) rfl rfl ?_
          show Steps p.tables e below (T26.setTop (mkF m 141 #[.val (.int p0), .val (.int p1), .val (.int p2), .val (.ref b1), .val (.int ((p0 &&& (2147483647 : Int32)) % (5 : Int32))), .val (.int nn26), .val (.int (1 : Int32)), oo26, op26, .unset, .unset] [(.ref b1)])) _
          refine XS.iload X26.here hx rfl (hb hby at_141) rfl ?_
          show Steps p.tables e below (T26.setTop (mkF m 143 #[.val (.int p0), .val (.int p1), .val (.int p2), .val (.ref b1), .val (.int ((p0 &&& (2147483647 : Int32)) % (5 : Int32))), .val (.int nn26), .val (.int (1 : Int32)), oo26, op26, .unset, .unset] [(.int nn26), (.ref b1)])) _
          exact kt)
      obtain ⟨_, _, ⟨T38, L38, k38, n38⟩, -, X38, ⟨Lc38, hQ38, l38, y38, z38⟩, st38⟩ := Jvm.LawKit.callS X26 hx (y := (⟨"com/example/reckon/reckon/xpath/StackSegmentsEnterPinLaw", "four", "(Lcom/example/reckon/reckon/xpath/StackSegments;I)Z"⟩ : MethodName)) hown (mvT hZ (hw _ (List.mem_of_getElem? (i := 35) rfl))) (mvT hZ (hw _ (List.mem_of_getElem? (i := 36) rfl))) (mvT hZ (hw _ (List.mem_of_getElem? (i := 14) rfl))) (mvT hZ (hw _ (List.mem_of_getElem? (i := 37) rfl))) (by decide) (backOf (W := 0) (rm8 l Z a0 hw [] b1 nn26 h26 n0 S26 (own_Bw B26 (by decide)) gb1) hZ (hw _ (List.mem_of_getElem? (i := 37) rfl)) (hw _ (List.mem_of_getElem? (i := 14) rfl)) (by decide) (by decide)) (g := (mkF m 143 #[.val (.int p0), .val (.int p1), .val (.int p2), .val (.ref b1), .val (.int ((p0 &&& (2147483647 : Int32)) % (5 : Int32))), .val (.int nn26), .val (.int (1 : Int32)), oo26, op26, .unset, .unset] [(.int nn26), (.ref b1)])) rfl (by rw [hml]; rfl) (argsL := [(.ref b1), (.int nn26)]) (rest := []) (lenOf pd_1 rfl) rfl (by show 2 * 0 + _ ≤ _; exact Nat.le_of_eq rfl) (hb hby at_143) (fun _ _ => ⟨rfl, e26, (by decide : 1 + 0 ≤ _), (by decide : 2 + 0 ≤ _)⟩)
      dsimp only [Pt.U, Pt.locs, Pt.cells, Pt.slots] at X38 l38 y38 z38 st38 hQ38
      subst l38 y38 z38
      obtain ⟨rfl, N38q, S38⟩ := hQ38
      have N38 := Fr.app N26 N38q
      have go39 : ∀ t, Steps p.tables e below (T38.setTop (mkF m 161 #[.val (.int p0), .val (.int p1), .val (.int p2), .val (.ref b1), .val (.int ((p0 &&& (2147483647 : Int32)) % (5 : Int32))), .val (.int (nn26 + (4 : Int32))), .val (.int ((1 : Int32) &&& (1 : Int32))), .val (.int (1 : Int32)), op26, .unset, .unset] [])) t → Steps p.tables e below (s₁.setTop (entryFrame m #[(.int p0), (.int p1), (.int p2)] maxLocals)) t := fun t kt => go37 t (by
          refine st38 _ ?_
          show Steps p.tables e below (T38.setTop (mkF m 146 #[.val (.int p0), .val (.int p1), .val (.int p2), .val (.ref b1), .val (.int ((p0 &&& (2147483647 : Int32)) % (5 : Int32))), .val (.int nn26), .val (.int (1 : Int32)), oo26, op26, .unset, .unset] [(.int (1 : Int32))])) _
          refine XS.istore X38.here hx rfl (hb hby at_146) rfl (l' := #[.val (.int p0), .val (.int p1), .val (.int p2), .val (.ref b1), .val (.int ((p0 &&& (2147483647 : Int32)) % (5 : Int32))), .val (.int nn26), .val (.int (1 : Int32)), .val (.int (1 : Int32)), op26, .unset, .unset]) (own_store rfl O26 rfl rfl) ?_
          show Steps p.tables e below (T38.setTop (mkF m 148 #[.val (.int p0), .val (.int p1), .val (.int p2), .val (.ref b1), .val (.int ((p0 &&& (2147483647 : Int32)) % (5 : Int32))), .val (.int nn26), .val (.int (1 : Int32)), .val (.int (1 : Int32)), op26, .unset, .unset] [])) _
          refine XS.iload X38.here hx rfl (hb hby at_148) rfl ?_
          show Steps p.tables e below (T38.setTop (mkF m 150 #[.val (.int p0), .val (.int p1), .val (.int p2), .val (.ref b1), .val (.int ((p0 &&& (2147483647 : Int32)) % (5 : Int32))), .val (.int nn26), .val (.int (1 : Int32)), .val (.int (1 : Int32)), op26, .unset, .unset] [(.int (1 : Int32))])) _
          refine XS.iload X38.here hx rfl (hb hby at_150) rfl ?_
          show Steps p.tables e below (T38.setTop (mkF m 152 #[.val (.int p0), .val (.int p1), .val (.int p2), .val (.ref b1), .val (.int ((p0 &&& (2147483647 : Int32)) % (5 : Int32))), .val (.int nn26), .val (.int (1 : Int32)), .val (.int (1 : Int32)), op26, .unset, .unset] [(.int (1 : Int32)), (.int (1 : Int32))])) _
          refine XS.iand X38.here hx rfl (hb hby at_152) rfl ?_
          show Steps p.tables e below (T38.setTop (mkF m 153 #[.val (.int p0), .val (.int p1), .val (.int p2), .val (.ref b1), .val (.int ((p0 &&& (2147483647 : Int32)) % (5 : Int32))), .val (.int nn26), .val (.int (1 : Int32)), .val (.int (1 : Int32)), op26, .unset, .unset] [(.int ((1 : Int32) &&& (1 : Int32)))])) _
          refine XS.istore X38.here hx rfl (hb hby at_153) rfl (l' := #[.val (.int p0), .val (.int p1), .val (.int p2), .val (.ref b1), .val (.int ((p0 &&& (2147483647 : Int32)) % (5 : Int32))), .val (.int nn26), .val (.int ((1 : Int32) &&& (1 : Int32))), .val (.int (1 : Int32)), op26, .unset, .unset]) rfl ?_
          show Steps p.tables e below (T38.setTop (mkF m 155 #[.val (.int p0), .val (.int p1), .val (.int p2), .val (.ref b1), .val (.int ((p0 &&& (2147483647 : Int32)) % (5 : Int32))), .val (.int nn26), .val (.int ((1 : Int32) &&& (1 : Int32))), .val (.int (1 : Int32)), op26, .unset, .unset] [])) _
          refine XS.iload X38.here hx rfl (hb hby at_155) rfl ?_
          show Steps p.tables e below (T38.setTop (mkF m 157 #[.val (.int p0), .val (.int p1), .val (.int p2), .val (.ref b1), .val (.int ((p0 &&& (2147483647 : Int32)) % (5 : Int32))), .val (.int nn26), .val (.int ((1 : Int32) &&& (1 : Int32))), .val (.int (1 : Int32)), op26, .unset, .unset] [(.int nn26)])) _
          refine XS.iconst X38.here hx rfl (hb hby at_157) ?_
          show Steps p.tables e below (T38.setTop (mkF m 158 #[.val (.int p0), .val (.int p1), .val (.int p2), .val (.ref b1), .val (.int ((p0 &&& (2147483647 : Int32)) % (5 : Int32))), .val (.int nn26), .val (.int ((1 : Int32) &&& (1 : Int32))), .val (.int (1 : Int32)), op26, .unset, .unset] [(.int (4 : Int32)), (.int nn26)])) _
          refine XS.iadd X38.here hx rfl (hb hby at_158) rfl ?_
          show Steps p.tables e below (T38.setTop (mkF m 159 #[.val (.int p0), .val (.int p1), .val (.int p2), .val (.ref b1), .val (.int ((p0 &&& (2147483647 : Int32)) % (5 : Int32))), .val (.int nn26), .val (.int ((1 : Int32) &&& (1 : Int32))), .val (.int (1 : Int32)), op26, .unset, .unset] [(.int (nn26 + (4 : Int32)))])) _
          refine XS.istore X38.here hx rfl (hb hby at_159) rfl (l' := #[.val (.int p0), .val (.int p1), .val (.int p2), .val (.ref b1), .val (.int ((p0 &&& (2147483647 : Int32)) % (5 : Int32))), .val (.int (nn26 + (4 : Int32))), .val (.int ((1 : Int32) &&& (1 : Int32))), .val (.int (1 : Int32)), op26, .unset, .unset]) rfl ?_
          show Steps p.tables e below (T38.setTop (mkF m 161 #[.val (.int p0), .val (.int p1), .val (.int p2), .val (.ref b1), .val (.int ((p0 &&& (2147483647 : Int32)) % (5 : Int32))), .val (.int (nn26 + (4 : Int32))), .val (.int ((1 : Int32) &&& (1 : Int32))), .val (.int (1 : Int32)), op26, .unset, .unset] [])) _
          exact kt)
      rw [show ((1 : Int32) &&& (1 : Int32)) = (1 : Int32) from (by decide)] at go39
      exact ⟨_, _, _, (nn26 + (4 : Int32)), _, _, X38, rfl, N38, S38, own_Badd B26 (by decide) (by decide) (by decide), (One.val rfl), P26, go39⟩
  obtain ⟨T40, h40, Ls40, nn40, oo40, op40, X40, e40, N40, S40, B40, O40, P40, go40⟩ : ∃ (T' : State) (h' : Heap) (locs' : List Loc) (n' : Int32) (o7' o8' : Slot), Stand p l e room_1 s m #[(.int p0), (.int p1), (.int p2)] below meth c T' locs' 1 2 ∧ T'.heap = h' ∧ Fr n0 locs' ∧ own_S Z h' b1 (own_min n' 32) ∧ own_B n' 38 ∧ One o7' ∧ One o8' ∧ ∀ t, Steps p.tables e below (T'.setTop (mkF m 203 #[.val (.int p0), .val (.int p1), .val (.int p2), .val (.ref b1), .val (.int ((p0 &&& (2147483647 : Int32)) % (5 : Int32))), .val (.int n'), .val (.int (1 : Int32)), o7', o8', .unset, .unset] [])) t → Steps p.tables e below (s₁.setTop (entryFrame m #[(.int p0), (.int p1), (.int p2)] maxLocals)) t := by
    have go41 : ∀ t, Steps p.tables e below (T33.setTop (mkF m 164 #[.val (.int p0), .val (.int p1), .val (.int p2), .val (.ref b1), .val (.int ((p0 &&& (2147483647 : Int32)) % (5 : Int32))), .val (.int nn33), .val (.int (1 : Int32)), oo33, op33, .unset, .unset] [(.int (p1 &&& (2 : Int32)))])) t → Steps p.tables e below (s₁.setTop (entryFrame m #[(.int p0), (.int p1), (.int p2)] maxLocals)) t := fun t kt => go33 t (by
        refine XS.iloadN X33.here hx rfl (hb hby at_161) rfl ?_
        show Steps p.tables e below (T33.setTop (mkF m 162 #[.val (.int p0), .val (.int p1), .val (.int p2), .val (.ref b1), .val (.int ((p0 &&& (2147483647 : Int32)) % (5 : Int32))), .val (.int nn33), .val (.int (1 : Int32)), oo33, op33, .unset, .unset] [(.int p1)])) _
        refine XS.iconst X33.here hx rfl (hb hby at_162) ?_
        show Steps p.tables e below (T33.setTop (mkF m 163 #[.val (.int p0), .val (.int p1), .val (.int p2), .val (.ref b1), .val (.int ((p0 &&& (2147483647 : Int32)) % (5 : Int32))), .val (.int nn33), .val (.int (1 : Int32)), oo33, op33, .unset, .unset] [(.int (2 : Int32)), (.int p1)])) _
        refine XS.iand X33.here hx rfl (hb hby at_163) rfl ?_
        show Steps p.tables e below (T33.setTop (mkF m 164 #[.val (.int p0), .val (.int p1), .val (.int p2), .val (.ref b1), .val (.int ((p0 &&& (2147483647 : Int32)) % (5 : Int32))), .val (.int nn33), .val (.int (1 : Int32)), oo33, op33, .unset, .unset] [(.int (p1 &&& (2 : Int32)))])) _
        exact kt)
    by_cases hc164_42 : (p1 &&& (2 : Int32)) = (0 : Int32)
    · have go43 : ∀ t, Steps p.tables e below (T33.setTop (mkF m 203 #[.val (.int p0), .val (.int p1), .val (.int p2), .val (.ref b1), .val (.int ((p0 &&& (2147483647 : Int32)) % (5 : Int32))), .val (.int nn33), .val (.int (1 : Int32)), oo33, op33, .unset, .unset] [])) t → Steps p.tables e below (s₁.setTop (entryFrame m #[(.int p0), (.int p1), (.int p2)] maxLocals)) t := fun t kt => go41 t (by
          refine XS.ifYes X33.here hx rfl (pc0 := 164) (pc' := 203) rfl (hb hby at_164) rfl ((if0 _ _).trans (teq hc164_42).1) (by decide) (by decide) ?_
          show Steps p.tables e below (T33.setTop (mkF m 203 #[.val (.int p0), .val (.int p1), .val (.int p2), .val (.ref b1), .val (.int ((p0 &&& (2147483647 : Int32)) % (5 : Int32))), .val (.int nn33), .val (.int (1 : Int32)), oo33, op33, .unset, .unset] [])) _
          exact kt)
      exact ⟨_, _, _, nn33, _, _, X33, e33, N33, S33, own_Bw B33 (by decide), O33, P33, go43⟩
    · have go44 : ∀ t, Steps p.tables e below (T33.setTop (mkF m 172 #[.val (.int p0), .val (.int p1), .val (.int p2), .val (.ref b1), .val (.int ((p0 &&& (2147483647 : Int32)) % (5 : Int32))), .val (.int nn33), .val (.int (1 : Int32)), oo33, op33, .unset, .unset] [(.int (nn33 + (1 : Int32))), (.ref b1)])) t → Steps p.tables e below (s₁.setTop (entryFrame m #[(.int p0), (.int p1), (.int p2)] maxLocals)) t := fun t kt => go41 t (by
          refine XS.ifNo X33.here hx rfl (hb hby at_164) rfl ((if0 _ _).trans (feq hc164_42).1) ?_
          show Steps p.tables e below (T33.setTop (mkF m 167 #[.val (.int p0), .val (.int p1), .val (.int p2), .val (.ref b1), .val (.int ((p0 &&& (2147483647 : Int32)) % (5 : Int32))), .val (.int nn33), .val (.int (1 : Int32)), oo33, op33, .unset, .unset] [])) _
          refine XS.aloadN X33.here hx rfl (hb hby at_167) rfl rfl ?_
          show Steps p.tables e below (T33.setTop (mkF m 168 #[.val (.int p0), .val (.int p1), .val (.int p2), .val (.ref b1), .val (.int ((p0 &&& (2147483647 : Int32)) % (5 : Int32))), .val (.int nn33), .val (.int (1 : Int32)), oo33, op33, .unset, .unset] [(.ref b1)])) _
          refine XS.iload X33.here hx rfl (hb hby at_168) rfl ?_
          show Steps p.tables e below (T33.setTop (mkF m 170 #[.val (.int p0), .val (.int p1), .val (.int p2), .val (.ref b1), .val (.int ((p0 &&& (2147483647 : Int32)) % (5 : Int32))), .val (.int nn33), .val (.int (1 : Int32)), oo33, op33, .unset, .unset] [(.int nn33), (.ref b1)])) _
          refine XS.iconst X33.here hx rfl (hb hby at_170) ?_
          show Steps p.tables e below (T33.setTop (mkF m 171 #[.val (.int p0), .val (.int p1), .val (.int p2), .val (.ref b1), .val (.int ((p0 &&& (2147483647 : Int32)) % (5 : Int32))), .val (.int nn33), .val (.int (1 : Int32)), oo33, op33, .unset, .unset] [(.int (1 : Int32)), (.int nn33), (.ref b1)])) _
          refine XS.iadd X33.here hx rfl (hb hby at_171) rfl ?_
          show Steps p.tables e below (T33.setTop (mkF m 172 #[.val (.int p0), .val (.int p1), .val (.int p2), .val (.ref b1), .val (.int ((p0 &&& (2147483647 : Int32)) % (5 : Int32))), .val (.int nn33), .val (.int (1 : Int32)), oo33, op33, .unset, .unset] [(.int (nn33 + (1 : Int32))), (.ref b1)])) _
          exact kt)
      obtain ⟨_, _, ⟨T45, L45, k45, n45⟩, -, X45, ⟨Lc45, hQ45, l45, y45, z45⟩, st45⟩ := Jvm.LawKit.callS X33 hx (y := (⟨"com/example/reckon/reckon/xpath/StackSegmentsEnterPinLaw", "one", "(Lcom/example/reckon/reckon/xpath/StackSegments;I)Z"⟩ : MethodName)) hown (mvT hZ (hw _ (List.mem_of_getElem? (i := 12) rfl))) (mvT hZ (hw _ (List.mem_of_getElem? (i := 13) rfl))) (mvT hZ (hw _ (List.mem_of_getElem? (i := 14) rfl))) (mvT hZ (hw _ (List.mem_of_getElem? (i := 15) rfl))) (by decide) (backOf (W := 0) (rm3 l Z a0 hw [] b1 (nn33 + (1 : Int32)) nn33 h33 n0 S33 (own_Bw B33 (by decide)) rfl gb1) hZ (hw _ (List.mem_of_getElem? (i := 15) rfl)) (hw _ (List.mem_of_getElem? (i := 14) rfl)) (by decide) (by decide)) (g := (mkF m 172 #[.val (.int p0), .val (.int p1), .val (.int p2), .val (.ref b1), .val (.int ((p0 &&& (2147483647 : Int32)) % (5 : Int32))), .val (.int nn33), .val (.int (1 : Int32)), oo33, op33, .unset, .unset] [(.int (nn33 + (1 : Int32))), (.ref b1)])) rfl (by rw [hml]; rfl) (argsL := [(.ref b1), (.int (nn33 + (1 : Int32)))]) (rest := []) (lenOf pd_1 rfl) rfl (by show 2 * 0 + _ ≤ _; exact Nat.le_of_eq rfl) (hb hby at_172) (fun _ _ => ⟨rfl, e33, (by decide : 1 + 0 ≤ _), (by decide : 2 + 0 ≤ _)⟩)
      dsimp only [Pt.U, Pt.locs, Pt.cells, Pt.slots] at X45 l45 y45 z45 st45 hQ45
      subst l45 y45 z45
      obtain ⟨rfl, N45q, S45⟩ := hQ45
      have N45 := Fr.app N33 N45q
      have go46 : ∀ t, Steps p.tables e below (T45.setTop (mkF m 182 #[.val (.int p0), .val (.int p1), .val (.int p2), .val (.ref b1), .val (.int ((p0 &&& (2147483647 : Int32)) % (5 : Int32))), .val (.int nn33), .val (.int (1 : Int32)), .val (.int (1 : Int32)), op33, .unset, .unset] [(.int (nn33 + (2 : Int32))), (.ref b1)])) t → Steps p.tables e below (s₁.setTop (entryFrame m #[(.int p0), (.int p1), (.int p2)] maxLocals)) t := fun t kt => go44 t (by
          refine st45 _ ?_
          show Steps p.tables e below (T45.setTop (mkF m 175 #[.val (.int p0), .val (.int p1), .val (.int p2), .val (.ref b1), .val (.int ((p0 &&& (2147483647 : Int32)) % (5 : Int32))), .val (.int nn33), .val (.int (1 : Int32)), oo33, op33, .unset, .unset] [(.int (1 : Int32))])) _
          refine XS.istore X45.here hx rfl (hb hby at_175) rfl (l' := #[.val (.int p0), .val (.int p1), .val (.int p2), .val (.ref b1), .val (.int ((p0 &&& (2147483647 : Int32)) % (5 : Int32))), .val (.int nn33), .val (.int (1 : Int32)), .val (.int (1 : Int32)), op33, .unset, .unset]) (own_store rfl O33 rfl rfl) ?_
          show Steps p.tables e below (T45.setTop (mkF m 177 #[.val (.int p0), .val (.int p1), .val (.int p2), .val (.ref b1), .val (.int ((p0 &&& (2147483647 : Int32)) % (5 : Int32))), .val (.int nn33), .val (.int (1 : Int32)), .val (.int (1 : Int32)), op33, .unset, .unset] [])) _
          refine XS.aloadN X45.here hx rfl (hb hby at_177) rfl rfl ?_
          show Steps p.tables e below (T45.setTop (mkF m 178 #[.val (.int p0), .val (.int p1), .val (.int p2), .val (.ref b1), .val (.int ((p0 &&& (2147483647 : Int32)) % (5 : Int32))), .val (.int nn33), .val (.int (1 : Int32)), .val (.int (1 : Int32)), op33, .unset, .unset] [(.ref b1)])) _
          refine XS.iload X45.here hx rfl (hb hby at_178) rfl ?_
          show Steps p.tables e below (T45.setTop (mkF m 180 #[.val (.int p0), .val (.int p1), .val (.int p2), .val (.ref b1), .val (.int ((p0 &&& (2147483647 : Int32)) % (5 : Int32))), .val (.int nn33), .val (.int (1 : Int32)), .val (.int (1 : Int32)), op33, .unset, .unset] [(.int nn33), (.ref b1)])) _
          refine XS.iconst X45.here hx rfl (hb hby at_180) ?_
          show Steps p.tables e below (T45.setTop (mkF m 181 #[.val (.int p0), .val (.int p1), .val (.int p2), .val (.ref b1), .val (.int ((p0 &&& (2147483647 : Int32)) % (5 : Int32))), .val (.int nn33), .val (.int (1 : Int32)), .val (.int (1 : Int32)), op33, .unset, .unset] [(.int (2 : Int32)), (.int nn33), (.ref b1)])) _
          refine XS.iadd X45.here hx rfl (hb hby at_181) rfl ?_
          show Steps p.tables e below (T45.setTop (mkF m 182 #[.val (.int p0), .val (.int p1), .val (.int p2), .val (.ref b1), .val (.int ((p0 &&& (2147483647 : Int32)) % (5 : Int32))), .val (.int nn33), .val (.int (1 : Int32)), .val (.int (1 : Int32)), op33, .unset, .unset] [(.int (nn33 + (2 : Int32))), (.ref b1)])) _
          exact kt)
      obtain ⟨_, _, ⟨T47, L47, k47, n47⟩, -, X47, ⟨Lc47, hQ47, l47, y47, z47⟩, st47⟩ := Jvm.LawKit.callS X45 hx (y := (⟨"com/example/reckon/reckon/xpath/StackSegmentsEnterPinLaw", "one", "(Lcom/example/reckon/reckon/xpath/StackSegments;I)Z"⟩ : MethodName)) hown (mvT hZ (hw _ (List.mem_of_getElem? (i := 12) rfl))) (mvT hZ (hw _ (List.mem_of_getElem? (i := 13) rfl))) (mvT hZ (hw _ (List.mem_of_getElem? (i := 14) rfl))) (mvT hZ (hw _ (List.mem_of_getElem? (i := 15) rfl))) (by decide) (backOf (W := 0) (rm3 l Z a0 hw [] b1 (nn33 + (2 : Int32)) (nn33 + (1 : Int32)) T45.heap n0 S45 (own_Badd B33 (by decide) (by decide) (by decide)) (by rw [Int32.add_assoc]; rfl) gb1) hZ (hw _ (List.mem_of_getElem? (i := 15) rfl)) (hw _ (List.mem_of_getElem? (i := 14) rfl)) (by decide) (by decide)) (g := (mkF m 182 #[.val (.int p0), .val (.int p1), .val (.int p2), .val (.ref b1), .val (.int ((p0 &&& (2147483647 : Int32)) % (5 : Int32))), .val (.int nn33), .val (.int (1 : Int32)), .val (.int (1 : Int32)), op33, .unset, .unset] [(.int (nn33 + (2 : Int32))), (.ref b1)])) rfl (by rw [hml]; rfl) (argsL := [(.ref b1), (.int (nn33 + (2 : Int32)))]) (rest := []) (lenOf pd_1 rfl) rfl (by show 2 * 0 + _ ≤ _; exact Nat.le_of_eq rfl) (hb hby at_182) (fun _ _ => ⟨rfl, rfl, (by decide : 1 + 0 ≤ _), (by decide : 2 + 0 ≤ _)⟩)
      dsimp only [Pt.U, Pt.locs, Pt.cells, Pt.slots] at X47 l47 y47 z47 st47 hQ47
      subst l47 y47 z47
      obtain ⟨rfl, N47q, S47⟩ := hQ47
      have N47 := Fr.app N45 N47q
      have go48 : ∀ t, Steps p.tables e below (T47.setTop (mkF m 203 #[.val (.int p0), .val (.int p1), .val (.int p2), .val (.ref b1), .val (.int ((p0 &&& (2147483647 : Int32)) % (5 : Int32))), .val (.int (nn33 + (2 : Int32))), .val (.int (((1 : Int32) &&& (1 : Int32)) &&& (1 : Int32))), .val (.int (1 : Int32)), .val (.int (1 : Int32)), .unset, .unset] [])) t → Steps p.tables e below (s₁.setTop (entryFrame m #[(.int p0), (.int p1), (.int p2)] maxLocals)) t := fun t kt => go46 t (by
          refine st47 _ ?_
          show Steps p.tables e below (T47.setTop (mkF m 185 #[.val (.int p0), .val (.int p1), .val (.int p2), .val (.ref b1), .val (.int ((p0 &&& (2147483647 : Int32)) % (5 : Int32))), .val (.int nn33), .val (.int (1 : Int32)), .val (.int (1 : Int32)), op33, .unset, .unset] [(.int (1 : Int32))])) _
          refine XS.istore X47.here hx rfl (hb hby at_185) rfl (l' := #[.val (.int p0), .val (.int p1), .val (.int p2), .val (.ref b1), .val (.int ((p0 &&& (2147483647 : Int32)) % (5 : Int32))), .val (.int nn33), .val (.int (1 : Int32)), .val (.int (1 : Int32)), .val (.int (1 : Int32)), .unset, .unset]) (own_store rfl P33 rfl rfl) ?_
          show Steps p.tables e below (T47.setTop (mkF m 187 #[.val (.int p0), .val (.int p1), .val (.int p2), .val (.ref b1), .val (.int ((p0 &&& (2147483647 : Int32)) % (5 : Int32))), .val (.int nn33), .val (.int (1 : Int32)), .val (.int (1 : Int32)), .val (.int (1 : Int32)), .unset, .unset] [])) _
          refine XS.iload X47.here hx rfl (hb hby at_187) rfl ?_
          show Steps p.tables e below (T47.setTop (mkF m 189 #[.val (.int p0), .val (.int p1), .val (.int p2), .val (.ref b1), .val (.int ((p0 &&& (2147483647 : Int32)) % (5 : Int32))), .val (.int nn33), .val (.int (1 : Int32)), .val (.int (1 : Int32)), .val (.int (1 : Int32)), .unset, .unset] [(.int (1 : Int32))])) _
          refine XS.iload X47.here hx rfl (hb hby at_189) rfl ?_
          show Steps p.tables e below (T47.setTop (mkF m 191 #[.val (.int p0), .val (.int p1), .val (.int p2), .val (.ref b1), .val (.int ((p0 &&& (2147483647 : Int32)) % (5 : Int32))), .val (.int nn33), .val (.int (1 : Int32)), .val (.int (1 : Int32)), .val (.int (1 : Int32)), .unset, .unset] [(.int (1 : Int32)), (.int (1 : Int32))])) _
          refine XS.iand X47.here hx rfl (hb hby at_191) rfl ?_
          show Steps p.tables e below (T47.setTop (mkF m 192 #[.val (.int p0), .val (.int p1), .val (.int p2), .val (.ref b1), .val (.int ((p0 &&& (2147483647 : Int32)) % (5 : Int32))), .val (.int nn33), .val (.int (1 : Int32)), .val (.int (1 : Int32)), .val (.int (1 : Int32)), .unset, .unset] [(.int ((1 : Int32) &&& (1 : Int32)))])) _
          refine XS.iload X47.here hx rfl (hb hby at_192) rfl ?_
          show Steps p.tables e below (T47.setTop (mkF m 194 #[.val (.int p0), .val (.int p1), .val (.int p2), .val (.ref b1), .val (.int ((p0 &&& (2147483647 : Int32)) % (5 : Int32))), .val (.int nn33), .val (.int (1 : Int32)), .val (.int (1 : Int32)), .val (.int (1 : Int32)), .unset, .unset] [(.int (1 : Int32)), (.int ((1 : Int32) &&& (1 : Int32)))])) _
          refine XS.iand X47.here hx rfl (hb hby at_194) rfl ?_
          show Steps p.tables e below (T47.setTop (mkF m 195 #[.val (.int p0), .val (.int p1), .val (.int p2), .val (.ref b1), .val (.int ((p0 &&& (2147483647 : Int32)) % (5 : Int32))), .val (.int nn33), .val (.int (1 : Int32)), .val (.int (1 : Int32)), .val (.int (1 : Int32)), .unset, .unset] [(.int (((1 : Int32) &&& (1 : Int32)) &&& (1 : Int32)))])) _
          refine XS.istore X47.here hx rfl (hb hby at_195) rfl (l' := #[.val (.int p0), .val (.int p1), .val (.int p2), .val (.ref b1), .val (.int ((p0 &&& (2147483647 : Int32)) % (5 : Int32))), .val (.int nn33), .val (.int (((1 : Int32) &&& (1 : Int32)) &&& (1 : Int32))), .val (.int (1 : Int32)), .val (.int (1 : Int32)), .unset, .unset]) rfl ?_
          show Steps p.tables e below (T47.setTop (mkF m 197 #[.val (.int p0), .val (.int p1), .val (.int p2), .val (.ref b1), .val (.int ((p0 &&& (2147483647 : Int32)) % (5 : Int32))), .val (.int nn33), .val (.int (((1 : Int32) &&& (1 : Int32)) &&& (1 : Int32))), .val (.int (1 : Int32)), .val (.int (1 : Int32)), .unset, .unset] [])) _
          refine XS.iload X47.here hx rfl (hb hby at_197) rfl ?_
          show Steps p.tables e below (T47.setTop (mkF m 199 #[.val (.int p0), .val (.int p1), .val (.int p2), .val (.ref b1), .val (.int ((p0 &&& (2147483647 : Int32)) % (5 : Int32))), .val (.int nn33), .val (.int (((1 : Int32) &&& (1 : Int32)) &&& (1 : Int32))), .val (.int (1 : Int32)), .val (.int (1 : Int32)), .unset, .unset] [(.int nn33)])) _
          refine XS.iconst X47.here hx rfl (hb hby at_199) ?_
          show Steps p.tables e below (T47.setTop (mkF m 200 #[.val (.int p0), .val (.int p1), .val (.int p2), .val (.ref b1), .val (.int ((p0 &&& (2147483647 : Int32)) % (5 : Int32))), .val (.int nn33), .val (.int (((1 : Int32) &&& (1 : Int32)) &&& (1 : Int32))), .val (.int (1 : Int32)), .val (.int (1 : Int32)), .unset, .unset] [(.int (2 : Int32)), (.int nn33)])) _
          refine XS.iadd X47.here hx rfl (hb hby at_200) rfl ?_
          show Steps p.tables e below (T47.setTop (mkF m 201 #[.val (.int p0), .val (.int p1), .val (.int p2), .val (.ref b1), .val (.int ((p0 &&& (2147483647 : Int32)) % (5 : Int32))), .val (.int nn33), .val (.int (((1 : Int32) &&& (1 : Int32)) &&& (1 : Int32))), .val (.int (1 : Int32)), .val (.int (1 : Int32)), .unset, .unset] [(.int (nn33 + (2 : Int32)))])) _
          refine XS.istore X47.here hx rfl (hb hby at_201) rfl (l' := #[.val (.int p0), .val (.int p1), .val (.int p2), .val (.ref b1), .val (.int ((p0 &&& (2147483647 : Int32)) % (5 : Int32))), .val (.int (nn33 + (2 : Int32))), .val (.int (((1 : Int32) &&& (1 : Int32)) &&& (1 : Int32))), .val (.int (1 : Int32)), .val (.int (1 : Int32)), .unset, .unset]) rfl ?_
          show Steps p.tables e below (T47.setTop (mkF m 203 #[.val (.int p0), .val (.int p1), .val (.int p2), .val (.ref b1), .val (.int ((p0 &&& (2147483647 : Int32)) % (5 : Int32))), .val (.int (nn33 + (2 : Int32))), .val (.int (((1 : Int32) &&& (1 : Int32)) &&& (1 : Int32))), .val (.int (1 : Int32)), .val (.int (1 : Int32)), .unset, .unset] [])) _
          exact kt)
      rw [show (((1 : Int32) &&& (1 : Int32)) &&& (1 : Int32)) = (1 : Int32) from (by decide)] at go48
      exact ⟨_, _, _, (nn33 + (2 : Int32)), _, _, X47, rfl, N47, S47, own_Badd B33 (by decide) (by decide) (by decide), (One.val rfl), (One.val rfl), go48⟩
  obtain ⟨T49, h49, Ls49, nn49, oo49, op49, X49, e49, N49, S49, B49, O49, P49, go49⟩ : ∃ (T' : State) (h' : Heap) (locs' : List Loc) (n' : Int32) (o7' o8' : Slot), Stand p l e room_1 s m #[(.int p0), (.int p1), (.int p2)] below meth c T' locs' 1 2 ∧ T'.heap = h' ∧ Fr n0 locs' ∧ own_S Z h' b1 (own_min n' 32) ∧ own_B n' 39 ∧ One o7' ∧ One o8' ∧ ∀ t, Steps p.tables e below (T'.setTop (mkF m 232 #[.val (.int p0), .val (.int p1), .val (.int p2), .val (.ref b1), .val (.int ((p0 &&& (2147483647 : Int32)) % (5 : Int32))), .val (.int n'), .val (.int (1 : Int32)), o7', o8', .unset, .unset] [])) t → Steps p.tables e below (s₁.setTop (entryFrame m #[(.int p0), (.int p1), (.int p2)] maxLocals)) t := by
    have go50 : ∀ t, Steps p.tables e below (T40.setTop (mkF m 206 #[.val (.int p0), .val (.int p1), .val (.int p2), .val (.ref b1), .val (.int ((p0 &&& (2147483647 : Int32)) % (5 : Int32))), .val (.int nn40), .val (.int (1 : Int32)), oo40, op40, .unset, .unset] [(.int (p1 &&& (1 : Int32)))])) t → Steps p.tables e below (s₁.setTop (entryFrame m #[(.int p0), (.int p1), (.int p2)] maxLocals)) t := fun t kt => go40 t (by
        refine XS.iloadN X40.here hx rfl (hb hby at_203) rfl ?_
        show Steps p.tables e below (T40.setTop (mkF m 204 #[.val (.int p0), .val (.int p1), .val (.int p2), .val (.ref b1), .val (.int ((p0 &&& (2147483647 : Int32)) % (5 : Int32))), .val (.int nn40), .val (.int (1 : Int32)), oo40, op40, .unset, .unset] [(.int p1)])) _
        refine XS.iconst X40.here hx rfl (hb hby at_204) ?_
        show Steps p.tables e below (T40.setTop (mkF m 205 #[.val (.int p0), .val (.int p1), .val (.int p2), .val (.ref b1), .val (.int ((p0 &&& (2147483647 : Int32)) % (5 : Int32))), .val (.int nn40), .val (.int (1 : Int32)), oo40, op40, .unset, .unset] [(.int (1 : Int32)), (.int p1)])) _
        refine XS.iand X40.here hx rfl (hb hby at_205) rfl ?_
        show Steps p.tables e below (T40.setTop (mkF m 206 #[.val (.int p0), .val (.int p1), .val (.int p2), .val (.ref b1), .val (.int ((p0 &&& (2147483647 : Int32)) % (5 : Int32))), .val (.int nn40), .val (.int (1 : Int32)), oo40, op40, .unset, .unset] [(.int (p1 &&& (1 : Int32)))])) _
        exact kt)
    by_cases hc206_51 : (p1 &&& (1 : Int32)) = (0 : Int32)
    · have go52 : ∀ t, Steps p.tables e below (T40.setTop (mkF m 232 #[.val (.int p0), .val (.int p1), .val (.int p2), .val (.ref b1), .val (.int ((p0 &&& (2147483647 : Int32)) % (5 : Int32))), .val (.int nn40), .val (.int (1 : Int32)), oo40, op40, .unset, .unset] [])) t → Steps p.tables e below (s₁.setTop (entryFrame m #[(.int p0), (.int p1), (.int p2)] maxLocals)) t := fun t kt => go50 t (by
          refine XS.ifYes X40.here hx rfl (pc0 := 206) (pc' := 232) rfl (hb hby at_206) rfl ((if0 _ _).trans (teq hc206_51).1) (by decide) (by decide) ?_
          show Steps p.tables e below (T40.setTop (mkF m 232 #[.val (.int p0), .val (.int p1), .val (.int p2), .val (.ref b1), .val (.int ((p0 &&& (2147483647 : Int32)) % (5 : Int32))), .val (.int nn40), .val (.int (1 : Int32)), oo40, op40, .unset, .unset] [])) _
          exact kt)
      exact ⟨_, _, _, nn40, _, _, X40, e40, N40, S40, own_Bw B40 (by decide), O40, P40, go52⟩
    · have go53 : ∀ t, Steps p.tables e below (T40.setTop (mkF m 214 #[.val (.int p0), .val (.int p1), .val (.int p2), .val (.ref b1), .val (.int ((p0 &&& (2147483647 : Int32)) % (5 : Int32))), .val (.int nn40), .val (.int (1 : Int32)), oo40, op40, .unset, .unset] [(.int (nn40 + (1 : Int32))), (.ref b1)])) t → Steps p.tables e below (s₁.setTop (entryFrame m #[(.int p0), (.int p1), (.int p2)] maxLocals)) t := fun t kt => go50 t (by
          refine XS.ifNo X40.here hx rfl (hb hby at_206) rfl ((if0 _ _).trans (feq hc206_51).1) ?_
          show Steps p.tables e below (T40.setTop (mkF m 209 #[.val (.int p0), .val (.int p1), .val (.int p2), .val (.ref b1), .val (.int ((p0 &&& (2147483647 : Int32)) % (5 : Int32))), .val (.int nn40), .val (.int (1 : Int32)), oo40, op40, .unset, .unset] [])) _
          refine XS.aloadN X40.here hx rfl (hb hby at_209) rfl rfl ?_
          show Steps p.tables e below (T40.setTop (mkF m 210 #[.val (.int p0), .val (.int p1), .val (.int p2), .val (.ref b1), .val (.int ((p0 &&& (2147483647 : Int32)) % (5 : Int32))), .val (.int nn40), .val (.int (1 : Int32)), oo40, op40, .unset, .unset] [(.ref b1)])) _
          refine XS.iload X40.here hx rfl (hb hby at_210) rfl ?_
          show Steps p.tables e below (T40.setTop (mkF m 212 #[.val (.int p0), .val (.int p1), .val (.int p2), .val (.ref b1), .val (.int ((p0 &&& (2147483647 : Int32)) % (5 : Int32))), .val (.int nn40), .val (.int (1 : Int32)), oo40, op40, .unset, .unset] [(.int nn40), (.ref b1)])) _
          refine XS.iconst X40.here hx rfl (hb hby at_212) ?_
          show Steps p.tables e below (T40.setTop (mkF m 213 #[.val (.int p0), .val (.int p1), .val (.int p2), .val (.ref b1), .val (.int ((p0 &&& (2147483647 : Int32)) % (5 : Int32))), .val (.int nn40), .val (.int (1 : Int32)), oo40, op40, .unset, .unset] [(.int (1 : Int32)), (.int nn40), (.ref b1)])) _
          refine XS.iadd X40.here hx rfl (hb hby at_213) rfl ?_
          show Steps p.tables e below (T40.setTop (mkF m 214 #[.val (.int p0), .val (.int p1), .val (.int p2), .val (.ref b1), .val (.int ((p0 &&& (2147483647 : Int32)) % (5 : Int32))), .val (.int nn40), .val (.int (1 : Int32)), oo40, op40, .unset, .unset] [(.int (nn40 + (1 : Int32))), (.ref b1)])) _
          exact kt)
      obtain ⟨_, _, ⟨T54, L54, k54, n54⟩, -, X54, ⟨Lc54, hQ54, l54, y54, z54⟩, st54⟩ := Jvm.LawKit.callS X40 hx (y := (⟨"com/example/reckon/reckon/xpath/StackSegmentsEnterPinLaw", "one", "(Lcom/example/reckon/reckon/xpath/StackSegments;I)Z"⟩ : MethodName)) hown (mvT hZ (hw _ (List.mem_of_getElem? (i := 12) rfl))) (mvT hZ (hw _ (List.mem_of_getElem? (i := 13) rfl))) (mvT hZ (hw _ (List.mem_of_getElem? (i := 14) rfl))) (mvT hZ (hw _ (List.mem_of_getElem? (i := 15) rfl))) (by decide) (backOf (W := 0) (rm3 l Z a0 hw [] b1 (nn40 + (1 : Int32)) nn40 h40 n0 S40 (own_Bw B40 (by decide)) rfl gb1) hZ (hw _ (List.mem_of_getElem? (i := 15) rfl)) (hw _ (List.mem_of_getElem? (i := 14) rfl)) (by decide) (by decide)) (g := (mkF m 214 #[.val (.int p0), .val (.int p1), .val (.int p2), .val (.ref b1), .val (.int ((p0 &&& (2147483647 : Int32)) % (5 : Int32))), .val (.int nn40), .val (.int (1 : Int32)), oo40, op40, .unset, .unset] [(.int (nn40 + (1 : Int32))), (.ref b1)])) rfl (by rw [hml]; rfl) (argsL := [(.ref b1), (.int (nn40 + (1 : Int32)))]) (rest := []) (lenOf pd_1 rfl) rfl (by show 2 * 0 + _ ≤ _; exact Nat.le_of_eq rfl) (hb hby at_214) (fun _ _ => ⟨rfl, e40, (by decide : 1 + 0 ≤ _), (by decide : 2 + 0 ≤ _)⟩)
      dsimp only [Pt.U, Pt.locs, Pt.cells, Pt.slots] at X54 l54 y54 z54 st54 hQ54
      subst l54 y54 z54
      obtain ⟨rfl, N54q, S54⟩ := hQ54
      have N54 := Fr.app N40 N54q
      have go55 : ∀ t, Steps p.tables e below (T54.setTop (mkF m 232 #[.val (.int p0), .val (.int p1), .val (.int p2), .val (.ref b1), .val (.int ((p0 &&& (2147483647 : Int32)) % (5 : Int32))), .val (.int (nn40 + (1 : Int32))), .val (.int ((1 : Int32) &&& (1 : Int32))), .val (.int (1 : Int32)), op40, .unset, .unset] [])) t → Steps p.tables e below (s₁.setTop (entryFrame m #[(.int p0), (.int p1), (.int p2)] maxLocals)) t := fun t kt => go53 t (by
          refine st54 _ ?_
          show Steps p.tables e below (T54.setTop (mkF m 217 #[.val (.int p0), .val (.int p1), .val (.int p2), .val (.ref b1), .val (.int ((p0 &&& (2147483647 : Int32)) % (5 : Int32))), .val (.int nn40), .val (.int (1 : Int32)), oo40, op40, .unset, .unset] [(.int (1 : Int32))])) _
          refine XS.istore X54.here hx rfl (hb hby at_217) rfl (l' := #[.val (.int p0), .val (.int p1), .val (.int p2), .val (.ref b1), .val (.int ((p0 &&& (2147483647 : Int32)) % (5 : Int32))), .val (.int nn40), .val (.int (1 : Int32)), .val (.int (1 : Int32)), op40, .unset, .unset]) (own_store rfl O40 rfl rfl) ?_
          show Steps p.tables e below (T54.setTop (mkF m 219 #[.val (.int p0), .val (.int p1), .val (.int p2), .val (.ref b1), .val (.int ((p0 &&& (2147483647 : Int32)) % (5 : Int32))), .val (.int nn40), .val (.int (1 : Int32)), .val (.int (1 : Int32)), op40, .unset, .unset] [])) _
          refine XS.iload X54.here hx rfl (hb hby at_219) rfl ?_
          show Steps p.tables e below (T54.setTop (mkF m 221 #[.val (.int p0), .val (.int p1), .val (.int p2), .val (.ref b1), .val (.int ((p0 &&& (2147483647 : Int32)) % (5 : Int32))), .val (.int nn40), .val (.int (1 : Int32)), .val (.int (1 : Int32)), op40, .unset, .unset] [(.int (1 : Int32))])) _
          refine XS.iload X54.here hx rfl (hb hby at_221) rfl ?_
          show Steps p.tables e below (T54.setTop (mkF m 223 #[.val (.int p0), .val (.int p1), .val (.int p2), .val (.ref b1), .val (.int ((p0 &&& (2147483647 : Int32)) % (5 : Int32))), .val (.int nn40), .val (.int (1 : Int32)), .val (.int (1 : Int32)), op40, .unset, .unset] [(.int (1 : Int32)), (.int (1 : Int32))])) _
          refine XS.iand X54.here hx rfl (hb hby at_223) rfl ?_
          show Steps p.tables e below (T54.setTop (mkF m 224 #[.val (.int p0), .val (.int p1), .val (.int p2), .val (.ref b1), .val (.int ((p0 &&& (2147483647 : Int32)) % (5 : Int32))), .val (.int nn40), .val (.int (1 : Int32)), .val (.int (1 : Int32)), op40, .unset, .unset] [(.int ((1 : Int32) &&& (1 : Int32)))])) _
          refine XS.istore X54.here hx rfl (hb hby at_224) rfl (l' := #[.val (.int p0), .val (.int p1), .val (.int p2), .val (.ref b1), .val (.int ((p0 &&& (2147483647 : Int32)) % (5 : Int32))), .val (.int nn40), .val (.int ((1 : Int32) &&& (1 : Int32))), .val (.int (1 : Int32)), op40, .unset, .unset]) rfl ?_
          show Steps p.tables e below (T54.setTop (mkF m 226 #[.val (.int p0), .val (.int p1), .val (.int p2), .val (.ref b1), .val (.int ((p0 &&& (2147483647 : Int32)) % (5 : Int32))), .val (.int nn40), .val (.int ((1 : Int32) &&& (1 : Int32))), .val (.int (1 : Int32)), op40, .unset, .unset] [])) _
          refine XS.iload X54.here hx rfl (hb hby at_226) rfl ?_
          show Steps p.tables e below (T54.setTop (mkF m 228 #[.val (.int p0), .val (.int p1), .val (.int p2), .val (.ref b1), .val (.int ((p0 &&& (2147483647 : Int32)) % (5 : Int32))), .val (.int nn40), .val (.int ((1 : Int32) &&& (1 : Int32))), .val (.int (1 : Int32)), op40, .unset, .unset] [(.int nn40)])) _
          refine XS.iconst X54.here hx rfl (hb hby at_228) ?_
          show Steps p.tables e below (T54.setTop (mkF m 229 #[.val (.int p0), .val (.int p1), .val (.int p2), .val (.ref b1), .val (.int ((p0 &&& (2147483647 : Int32)) % (5 : Int32))), .val (.int nn40), .val (.int ((1 : Int32) &&& (1 : Int32))), .val (.int (1 : Int32)), op40, .unset, .unset] [(.int (1 : Int32)), (.int nn40)])) _
          refine XS.iadd X54.here hx rfl (hb hby at_229) rfl ?_
          show Steps p.tables e below (T54.setTop (mkF m 230 #[.val (.int p0), .val (.int p1), .val (.int p2), .val (.ref b1), .val (.int ((p0 &&& (2147483647 : Int32)) % (5 : Int32))), .val (.int nn40), .val (.int ((1 : Int32) &&& (1 : Int32))), .val (.int (1 : Int32)), op40, .unset, .unset] [(.int (nn40 + (1 : Int32)))])) _
          refine XS.istore X54.here hx rfl (hb hby at_230) rfl (l' := #[.val (.int p0), .val (.int p1), .val (.int p2), .val (.ref b1), .val (.int ((p0 &&& (2147483647 : Int32)) % (5 : Int32))), .val (.int (nn40 + (1 : Int32))), .val (.int ((1 : Int32) &&& (1 : Int32))), .val (.int (1 : Int32)), op40, .unset, .unset]) rfl ?_
          show Steps p.tables e below (T54.setTop (mkF m 232 #[.val (.int p0), .val (.int p1), .val (.int p2), .val (.ref b1), .val (.int ((p0 &&& (2147483647 : Int32)) % (5 : Int32))), .val (.int (nn40 + (1 : Int32))), .val (.int ((1 : Int32) &&& (1 : Int32))), .val (.int (1 : Int32)), op40, .unset, .unset] [])) _
          exact kt)
      rw [show ((1 : Int32) &&& (1 : Int32)) = (1 : Int32) from (by decide)] at go55
      exact ⟨_, _, _, (nn40 + (1 : Int32)), _, _, X54, rfl, N54, S54, own_Badd B40 (by decide) (by decide) (by decide), (One.val rfl), P40, go55⟩
  have go56 : ∀ t, Steps p.tables e below (T49.setTop (mkF m 237 #[.val (.int p0), .val (.int p1), .val (.int p2), .val (.ref b1), .val (.int ((p0 &&& (2147483647 : Int32)) % (5 : Int32))), .val (.int nn49), .val (.int (1 : Int32)), oo49, op49, .unset, .unset] [(.int (nn49 + (1 : Int32))), (.ref b1)])) t → Steps p.tables e below (s₁.setTop (entryFrame m #[(.int p0), (.int p1), (.int p2)] maxLocals)) t := fun t kt => go49 t (by
      refine XS.aloadN X49.here hx rfl (hb hby at_232) rfl rfl ?_
      show Steps p.tables e below (T49.setTop (mkF m 233 #[.val (.int p0), .val (.int p1), .val (.int p2), .val (.ref b1), .val (.int ((p0 &&& (2147483647 : Int32)) % (5 : Int32))), .val (.int nn49), .val (.int (1 : Int32)), oo49, op49, .unset, .unset] [(.ref b1)])) _
      refine XS.iload X49.here hx rfl (hb hby at_233) rfl ?_
      show Steps p.tables e below (T49.setTop (mkF m 235 #[.val (.int p0), .val (.int p1), .val (.int p2), .val (.ref b1), .val (.int ((p0 &&& (2147483647 : Int32)) % (5 : Int32))), .val (.int nn49), .val (.int (1 : Int32)), oo49, op49, .unset, .unset] [(.int nn49), (.ref b1)])) _
      refine XS.iconst X49.here hx rfl (hb hby at_235) ?_
      show Steps p.tables e below (T49.setTop (mkF m 236 #[.val (.int p0), .val (.int p1), .val (.int p2), .val (.ref b1), .val (.int ((p0 &&& (2147483647 : Int32)) % (5 : Int32))), .val (.int nn49), .val (.int (1 : Int32)), oo49, op49, .unset, .unset] [(.int (1 : Int32)), (.int nn49), (.ref b1)])) _
      refine XS.iadd X49.here hx rfl (hb hby at_236) rfl ?_
      show Steps p.tables e below (T49.setTop (mkF m 237 #[.val (.int p0), .val (.int p1), .val (.int p2), .val (.ref b1), .val (.int ((p0 &&& (2147483647 : Int32)) % (5 : Int32))), .val (.int nn49), .val (.int (1 : Int32)), oo49, op49, .unset, .unset] [(.int (nn49 + (1 : Int32))), (.ref b1)])) _
      exact kt)
  obtain ⟨_, _, ⟨T57, L57, k57, n57⟩, -, X57, ⟨Lc57, hQ57, l57, y57, z57⟩, st57⟩ := Jvm.LawKit.callS X49 hx (y := (⟨"com/example/reckon/reckon/xpath/StackSegmentsEnterPinLaw", "one", "(Lcom/example/reckon/reckon/xpath/StackSegments;I)Z"⟩ : MethodName)) hown (mvT hZ (hw _ (List.mem_of_getElem? (i := 12) rfl))) (mvT hZ (hw _ (List.mem_of_getElem? (i := 13) rfl))) (mvT hZ (hw _ (List.mem_of_getElem? (i := 14) rfl))) (mvT hZ (hw _ (List.mem_of_getElem? (i := 15) rfl))) (by decide) (backOf (W := 0) (rm3 l Z a0 hw [] b1 (nn49 + (1 : Int32)) nn49 h49 n0 S49 (own_Bw B49 (by decide)) rfl gb1) hZ (hw _ (List.mem_of_getElem? (i := 15) rfl)) (hw _ (List.mem_of_getElem? (i := 14) rfl)) (by decide) (by decide)) (g := (mkF m 237 #[.val (.int p0), .val (.int p1), .val (.int p2), .val (.ref b1), .val (.int ((p0 &&& (2147483647 : Int32)) % (5 : Int32))), .val (.int nn49), .val (.int (1 : Int32)), oo49, op49, .unset, .unset] [(.int (nn49 + (1 : Int32))), (.ref b1)])) rfl (by rw [hml]; rfl) (argsL := [(.ref b1), (.int (nn49 + (1 : Int32)))]) (rest := []) (lenOf pd_1 rfl) rfl (by show 2 * 0 + _ ≤ _; exact Nat.le_of_eq rfl) (hb hby at_237) (fun _ _ => ⟨rfl, e49, (by decide : 1 + 0 ≤ _), (by decide : 2 + 0 ≤ _)⟩)
  dsimp only [Pt.U, Pt.locs, Pt.cells, Pt.slots] at X57 l57 y57 z57 st57 hQ57
  subst l57 y57 z57
  obtain ⟨rfl, N57q, S57⟩ := hQ57
  have N57 := Fr.app N49 N57q
  have go58 : ∀ t, Steps p.tables e below (T57.setTop (mkF m 268 #[.val (.int p0), .val (.int p1), .val (.int p2), .val (.ref b1), .val (.int ((p0 &&& (2147483647 : Int32)) % (5 : Int32))), .val (.int (nn49 + (1 : Int32))), .val (.int ((1 : Int32) &&& (1 : Int32))), .val (.int (1 : Int32)), .val (.int ((p2 &&& (127 : Int32)) - (64 : Int32))), .unset, .unset] [(.int (32 : Int32)), (.int (nn49 + (1 : Int32)))])) t → Steps p.tables e below (s₁.setTop (entryFrame m #[(.int p0), (.int p1), (.int p2)] maxLocals)) t := fun t kt => go56 t (by
      refine st57 _ ?_
      show Steps p.tables e below (T57.setTop (mkF m 240 #[.val (.int p0), .val (.int p1), .val (.int p2), .val (.ref b1), .val (.int ((p0 &&& (2147483647 : Int32)) % (5 : Int32))), .val (.int nn49), .val (.int (1 : Int32)), oo49, op49, .unset, .unset] [(.int (1 : Int32))])) _
      refine XS.istore X57.here hx rfl (hb hby at_240) rfl (l' := #[.val (.int p0), .val (.int p1), .val (.int p2), .val (.ref b1), .val (.int ((p0 &&& (2147483647 : Int32)) % (5 : Int32))), .val (.int nn49), .val (.int (1 : Int32)), .val (.int (1 : Int32)), op49, .unset, .unset]) (own_store rfl O49 rfl rfl) ?_
      show Steps p.tables e below (T57.setTop (mkF m 242 #[.val (.int p0), .val (.int p1), .val (.int p2), .val (.ref b1), .val (.int ((p0 &&& (2147483647 : Int32)) % (5 : Int32))), .val (.int nn49), .val (.int (1 : Int32)), .val (.int (1 : Int32)), op49, .unset, .unset] [])) _
      refine XS.iload X57.here hx rfl (hb hby at_242) rfl ?_
      show Steps p.tables e below (T57.setTop (mkF m 244 #[.val (.int p0), .val (.int p1), .val (.int p2), .val (.ref b1), .val (.int ((p0 &&& (2147483647 : Int32)) % (5 : Int32))), .val (.int nn49), .val (.int (1 : Int32)), .val (.int (1 : Int32)), op49, .unset, .unset] [(.int (1 : Int32))])) _
      refine XS.iload X57.here hx rfl (hb hby at_244) rfl ?_
      show Steps p.tables e below (T57.setTop (mkF m 246 #[.val (.int p0), .val (.int p1), .val (.int p2), .val (.ref b1), .val (.int ((p0 &&& (2147483647 : Int32)) % (5 : Int32))), .val (.int nn49), .val (.int (1 : Int32)), .val (.int (1 : Int32)), op49, .unset, .unset] [(.int (1 : Int32)), (.int (1 : Int32))])) _
      refine XS.iand X57.here hx rfl (hb hby at_246) rfl ?_
      show Steps p.tables e below (T57.setTop (mkF m 247 #[.val (.int p0), .val (.int p1), .val (.int p2), .val (.ref b1), .val (.int ((p0 &&& (2147483647 : Int32)) % (5 : Int32))), .val (.int nn49), .val (.int (1 : Int32)), .val (.int (1 : Int32)), op49, .unset, .unset] [(.int ((1 : Int32) &&& (1 : Int32)))])) _
      refine XS.istore X57.here hx rfl (hb hby at_247) rfl (l' := #[.val (.int p0), .val (.int p1), .val (.int p2), .val (.ref b1), .val (.int ((p0 &&& (2147483647 : Int32)) % (5 : Int32))), .val (.int nn49), .val (.int ((1 : Int32) &&& (1 : Int32))), .val (.int (1 : Int32)), op49, .unset, .unset]) rfl ?_
      show Steps p.tables e below (T57.setTop (mkF m 249 #[.val (.int p0), .val (.int p1), .val (.int p2), .val (.ref b1), .val (.int ((p0 &&& (2147483647 : Int32)) % (5 : Int32))), .val (.int nn49), .val (.int ((1 : Int32) &&& (1 : Int32))), .val (.int (1 : Int32)), op49, .unset, .unset] [])) _
      refine XS.iload X57.here hx rfl (hb hby at_249) rfl ?_
      show Steps p.tables e below (T57.setTop (mkF m 251 #[.val (.int p0), .val (.int p1), .val (.int p2), .val (.ref b1), .val (.int ((p0 &&& (2147483647 : Int32)) % (5 : Int32))), .val (.int nn49), .val (.int ((1 : Int32) &&& (1 : Int32))), .val (.int (1 : Int32)), op49, .unset, .unset] [(.int nn49)])) _
      refine XS.iconst X57.here hx rfl (hb hby at_251) ?_
      show Steps p.tables e below (T57.setTop (mkF m 252 #[.val (.int p0), .val (.int p1), .val (.int p2), .val (.ref b1), .val (.int ((p0 &&& (2147483647 : Int32)) % (5 : Int32))), .val (.int nn49), .val (.int ((1 : Int32) &&& (1 : Int32))), .val (.int (1 : Int32)), op49, .unset, .unset] [(.int (1 : Int32)), (.int nn49)])) _
      refine XS.iadd X57.here hx rfl (hb hby at_252) rfl ?_
      show Steps p.tables e below (T57.setTop (mkF m 253 #[.val (.int p0), .val (.int p1), .val (.int p2), .val (.ref b1), .val (.int ((p0 &&& (2147483647 : Int32)) % (5 : Int32))), .val (.int nn49), .val (.int ((1 : Int32) &&& (1 : Int32))), .val (.int (1 : Int32)), op49, .unset, .unset] [(.int (nn49 + (1 : Int32)))])) _
      refine XS.istore X57.here hx rfl (hb hby at_253) rfl (l' := #[.val (.int p0), .val (.int p1), .val (.int p2), .val (.ref b1), .val (.int ((p0 &&& (2147483647 : Int32)) % (5 : Int32))), .val (.int (nn49 + (1 : Int32))), .val (.int ((1 : Int32) &&& (1 : Int32))), .val (.int (1 : Int32)), op49, .unset, .unset]) rfl ?_
      show Steps p.tables e below (T57.setTop (mkF m 255 #[.val (.int p0), .val (.int p1), .val (.int p2), .val (.ref b1), .val (.int ((p0 &&& (2147483647 : Int32)) % (5 : Int32))), .val (.int (nn49 + (1 : Int32))), .val (.int ((1 : Int32) &&& (1 : Int32))), .val (.int (1 : Int32)), op49, .unset, .unset] [])) _
      refine XS.iloadN X57.here hx rfl (hb hby at_255) rfl ?_
      show Steps p.tables e below (T57.setTop (mkF m 256 #[.val (.int p0), .val (.int p1), .val (.int p2), .val (.ref b1), .val (.int ((p0 &&& (2147483647 : Int32)) % (5 : Int32))), .val (.int (nn49 + (1 : Int32))), .val (.int ((1 : Int32) &&& (1 : Int32))), .val (.int (1 : Int32)), op49, .unset, .unset] [(.int p2)])) _
      refine XS.bipush X57.here hx rfl (hb hby at_256) ?_
      show Steps p.tables e below (T57.setTop (mkF m 258 #[.val (.int p0), .val (.int p1), .val (.int p2), .val (.ref b1), .val (.int ((p0 &&& (2147483647 : Int32)) % (5 : Int32))), .val (.int (nn49 + (1 : Int32))), .val (.int ((1 : Int32) &&& (1 : Int32))), .val (.int (1 : Int32)), op49, .unset, .unset] [(.int (127 : Int32)), (.int p2)])) _
      refine XS.iand X57.here hx rfl (hb hby at_258) rfl ?_
      show Steps p.tables e below (T57.setTop (mkF m 259 #[.val (.int p0), .val (.int p1), .val (.int p2), .val (.ref b1), .val (.int ((p0 &&& (2147483647 : Int32)) % (5 : Int32))), .val (.int (nn49 + (1 : Int32))), .val (.int ((1 : Int32) &&& (1 : Int32))), .val (.int (1 : Int32)), op49, .unset, .unset] [(.int (p2 &&& (127 : Int32)))])) _
      refine XS.bipush X57.here hx rfl (hb hby at_259) ?_
      show Steps p.tables e below (T57.setTop (mkF m 261 #[.val (.int p0), .val (.int p1), .val (.int p2), .val (.ref b1), .val (.int ((p0 &&& (2147483647 : Int32)) % (5 : Int32))), .val (.int (nn49 + (1 : Int32))), .val (.int ((1 : Int32) &&& (1 : Int32))), .val (.int (1 : Int32)), op49, .unset, .unset] [(.int (64 : Int32)), (.int (p2 &&& (127 : Int32)))])) _
      refine XS.isub X57.here hx rfl (hb hby at_261) rfl ?_
      show Steps p.tables e below (T57.setTop (mkF m 262 #[.val (.int p0), .val (.int p1), .val (.int p2), .val (.ref b1), .val (.int ((p0 &&& (2147483647 : Int32)) % (5 : Int32))), .val (.int (nn49 + (1 : Int32))), .val (.int ((1 : Int32) &&& (1 : Int32))), .val (.int (1 : Int32)), op49, .unset, .unset] [(.int ((p2 &&& (127 : Int32)) - (64 : Int32)))])) _
      refine XS.istore X57.here hx rfl (hb hby at_262) rfl (l' := #[.val (.int p0), .val (.int p1), .val (.int p2), .val (.ref b1), .val (.int ((p0 &&& (2147483647 : Int32)) % (5 : Int32))), .val (.int (nn49 + (1 : Int32))), .val (.int ((1 : Int32) &&& (1 : Int32))), .val (.int (1 : Int32)), .val (.int ((p2 &&& (127 : Int32)) - (64 : Int32))), .unset, .unset]) (own_store rfl P49 rfl rfl) ?_
      show Steps p.tables e below (T57.setTop (mkF m 264 #[.val (.int p0), .val (.int p1), .val (.int p2), .val (.ref b1), .val (.int ((p0 &&& (2147483647 : Int32)) % (5 : Int32))), .val (.int (nn49 + (1 : Int32))), .val (.int ((1 : Int32) &&& (1 : Int32))), .val (.int (1 : Int32)), .val (.int ((p2 &&& (127 : Int32)) - (64 : Int32))), .unset, .unset] [])) _
      refine XS.iload X57.here hx rfl (hb hby at_264) rfl ?_
      show Steps p.tables e below (T57.setTop (mkF m 266 #[.val (.int p0), .val (.int p1), .val (.int p2), .val (.ref b1), .val (.int ((p0 &&& (2147483647 : Int32)) % (5 : Int32))), .val (.int (nn49 + (1 : Int32))), .val (.int ((1 : Int32) &&& (1 : Int32))), .val (.int (1 : Int32)), .val (.int ((p2 &&& (127 : Int32)) - (64 : Int32))), .unset, .unset] [(.int (nn49 + (1 : Int32)))])) _
      refine XS.bipush X57.here hx rfl (hb hby at_266) ?_
      show Steps p.tables e below (T57.setTop (mkF m 268 #[.val (.int p0), .val (.int p1), .val (.int p2), .val (.ref b1), .val (.int ((p0 &&& (2147483647 : Int32)) % (5 : Int32))), .val (.int (nn49 + (1 : Int32))), .val (.int ((1 : Int32) &&& (1 : Int32))), .val (.int (1 : Int32)), .val (.int ((p2 &&& (127 : Int32)) - (64 : Int32))), .unset, .unset] [(.int (32 : Int32)), (.int (nn49 + (1 : Int32)))])) _
      exact kt)
  obtain ⟨_, _, ⟨T59, L59, k59, n59⟩, -, X59, ⟨Lc59, hQ59, l59, y59, z59⟩, st59⟩ := Jvm.LawKit.callS X57 hx (y := (⟨"java/lang/Math", "min", "(II)I"⟩ : MethodName)) hown (mvT hZ (hw _ (List.mem_of_getElem? (i := 23) rfl))) (mvT hZ (hw _ (List.mem_of_getElem? (i := 24) rfl))) (mvT hZ (hw _ (List.mem_of_getElem? (i := 25) rfl))) (mvT hZ (hw _ (List.mem_of_getElem? (i := 26) rfl))) (by decide) (backOf (W := 0) (rm5 l Z a0 hw [] (nn49 + (1 : Int32)) (32 : Int32) T57.heap n0) hZ (hw _ (List.mem_of_getElem? (i := 26) rfl)) (hw _ (List.mem_of_getElem? (i := 25) rfl)) (by decide) (by decide)) (g := (mkF m 268 #[.val (.int p0), .val (.int p1), .val (.int p2), .val (.ref b1), .val (.int ((p0 &&& (2147483647 : Int32)) % (5 : Int32))), .val (.int (nn49 + (1 : Int32))), .val (.int ((1 : Int32) &&& (1 : Int32))), .val (.int (1 : Int32)), .val (.int ((p2 &&& (127 : Int32)) - (64 : Int32))), .unset, .unset] [(.int (32 : Int32)), (.int (nn49 + (1 : Int32)))])) rfl (by rw [hml]; rfl) (argsL := [(.int (nn49 + (1 : Int32))), (.int (32 : Int32))]) (rest := []) (lenOf pd_3 rfl) rfl (by show 2 * 0 + _ ≤ _; exact Nat.le_of_eq rfl) (hb hby at_268) (fun _ _ => ⟨rfl, rfl, (by decide : 1 + 0 ≤ _), (by decide : 2 + 0 ≤ _)⟩)
  dsimp only [Pt.U, Pt.locs, Pt.cells, Pt.slots] at X59 l59 y59 z59 st59 hQ59
  subst l59 y59 z59
  obtain ⟨rfl, N59q, e59⟩ := hQ59
  have N59 := Fr.app N57 N59q
  have go60 : ∀ t, Steps p.tables e below (T59.setTop (mkF m 276 #[.val (.int p0), .val (.int p1), .val (.int p2), .val (.ref b1), .val (.int ((p0 &&& (2147483647 : Int32)) % (5 : Int32))), .val (.int (nn49 + (1 : Int32))), .val (.int ((1 : Int32) &&& (1 : Int32))), .val (.int (1 : Int32)), .val (.int ((p2 &&& (127 : Int32)) - (64 : Int32))), .val (.int (own_min (nn49 + (1 : Int32)) (32 : Int32))), .unset] [(.int ((p2 &&& (127 : Int32)) - (64 : Int32))), (.ref b1)])) t → Steps p.tables e below (s₁.setTop (entryFrame m #[(.int p0), (.int p1), (.int p2)] maxLocals)) t := fun t kt => go58 t (by
      refine st59 _ ?_
      show Steps p.tables e below (T59.setTop (mkF m 271 #[.val (.int p0), .val (.int p1), .val (.int p2), .val (.ref b1), .val (.int ((p0 &&& (2147483647 : Int32)) % (5 : Int32))), .val (.int (nn49 + (1 : Int32))), .val (.int ((1 : Int32) &&& (1 : Int32))), .val (.int (1 : Int32)), .val (.int ((p2 &&& (127 : Int32)) - (64 : Int32))), .unset, .unset] [(.int (own_min (nn49 + (1 : Int32)) (32 : Int32)))])) _
      refine XS.istore X59.here hx rfl (hb hby at_271) rfl (l' := #[.val (.int p0), .val (.int p1), .val (.int p2), .val (.ref b1), .val (.int ((p0 &&& (2147483647 : Int32)) % (5 : Int32))), .val (.int (nn49 + (1 : Int32))), .val (.int ((1 : Int32) &&& (1 : Int32))), .val (.int (1 : Int32)), .val (.int ((p2 &&& (127 : Int32)) - (64 : Int32))), .val (.int (own_min (nn49 + (1 : Int32)) (32 : Int32))), .unset]) rfl ?_
      show Steps p.tables e below (T59.setTop (mkF m 273 #[.val (.int p0), .val (.int p1), .val (.int p2), .val (.ref b1), .val (.int ((p0 &&& (2147483647 : Int32)) % (5 : Int32))), .val (.int (nn49 + (1 : Int32))), .val (.int ((1 : Int32) &&& (1 : Int32))), .val (.int (1 : Int32)), .val (.int ((p2 &&& (127 : Int32)) - (64 : Int32))), .val (.int (own_min (nn49 + (1 : Int32)) (32 : Int32))), .unset] [])) _
      refine XS.aloadN X59.here hx rfl (hb hby at_273) rfl rfl ?_
      show Steps p.tables e below (T59.setTop (mkF m 274 #[.val (.int p0), .val (.int p1), .val (.int p2), .val (.ref b1), .val (.int ((p0 &&& (2147483647 : Int32)) % (5 : Int32))), .val (.int (nn49 + (1 : Int32))), .val (.int ((1 : Int32) &&& (1 : Int32))), .val (.int (1 : Int32)), .val (.int ((p2 &&& (127 : Int32)) - (64 : Int32))), .val (.int (own_min (nn49 + (1 : Int32)) (32 : Int32))), .unset] [(.ref b1)])) _
      refine XS.iload X59.here hx rfl (hb hby at_274) rfl ?_
      show Steps p.tables e below (T59.setTop (mkF m 276 #[.val (.int p0), .val (.int p1), .val (.int p2), .val (.ref b1), .val (.int ((p0 &&& (2147483647 : Int32)) % (5 : Int32))), .val (.int (nn49 + (1 : Int32))), .val (.int ((1 : Int32) &&& (1 : Int32))), .val (.int (1 : Int32)), .val (.int ((p2 &&& (127 : Int32)) - (64 : Int32))), .val (.int (own_min (nn49 + (1 : Int32)) (32 : Int32))), .unset] [(.int ((p2 &&& (127 : Int32)) - (64 : Int32))), (.ref b1)])) _
      exact kt)
  obtain ⟨cq61, kq61, q61a, q61b, q61c⟩ := isOf hZ e59 S57.1
  obtain ⟨_, _, ⟨T61, L61, k61, n61⟩, -, X61, ⟨Lc61, hQ61, l61, y61, z61⟩, st61⟩ := X59.virtualBack hx (y := (⟨"com/example/reckon/reckon/xpath/StackSegments", "hasRoomFor", "(I)Z"⟩ : MethodName)) (z := (⟨"com/example/reckon/reckon/xpath/StackSegments", "hasRoomFor", "(I)Z"⟩ : MethodName)) hown (mvT hZ (hw _ (List.mem_of_getElem? (i := 27) rfl))) (mvT hZ (hw _ (List.mem_of_getElem? (i := 28) rfl))) (notFace_of_selects (args := #[]) (mvT hZ (hw _ (List.mem_of_getElem? (i := 30) rfl)))) (mvT hZ (hw _ (List.mem_of_getElem? (i := 30) rfl))) (mvT hZ (hw _ (List.mem_of_getElem? (i := 29) rfl))) (by decide) (backOf (W := 0) (rm6 l Z a0 hw [] b1 ((p2 &&& (127 : Int32)) - (64 : Int32)) (own_min (nn49 + (1 : Int32)) 32) T57.heap n0 S57 gb1) hZ (hw _ (List.mem_of_getElem? (i := 31) rfl)) (hw _ (List.mem_of_getElem? (i := 2) rfl)) (by decide) (by decide)) q61a q61c (g := (mkF m 276 #[.val (.int p0), .val (.int p1), .val (.int p2), .val (.ref b1), .val (.int ((p0 &&& (2147483647 : Int32)) % (5 : Int32))), .val (.int (nn49 + (1 : Int32))), .val (.int ((1 : Int32) &&& (1 : Int32))), .val (.int (1 : Int32)), .val (.int ((p2 &&& (127 : Int32)) - (64 : Int32))), .val (.int (own_min (nn49 + (1 : Int32)) (32 : Int32))), .unset] [(.int ((p2 &&& (127 : Int32)) - (64 : Int32))), (.ref b1)])) rfl (by rw [hml]; rfl) (Steps.refl _) (argsL := [(.int ((p2 &&& (127 : Int32)) - (64 : Int32)))]) (rest := []) (lenOf pd_4 rfl) rfl (by show 2 * 0 + _ ≤ _; exact Nat.le_of_eq rfl) (hb hby at_276) (fun _ _ => ⟨rfl, e59, (by decide : 1 + 0 ≤ _), (by decide : 2 + 0 ≤ _)⟩)
  dsimp only [Pt.U, Pt.locs, Pt.cells, Pt.slots] at X61 l61 y61 z61 st61 hQ61
  subst l61 y61 z61
  obtain ⟨rfl, N61q, e61⟩ := hQ61
  have N61 := Fr.app N59 N61q
  have go62 : ∀ t, Steps p.tables e below (T61.setTop (mkF m 292 #[.val (.int p0), .val (.int p1), .val (.int p2), .val (.ref b1), .val (.int ((p0 &&& (2147483647 : Int32)) % (5 : Int32))), .val (.int (nn49 + (1 : Int32))), .val (.int ((1 : Int32) &&& (1 : Int32))), .val (.int (1 : Int32)), .val (.int ((p2 &&& (127 : Int32)) - (64 : Int32))), .val (.int (own_min (nn49 + (1 : Int32)) (32 : Int32))), .val (.int (own_room (own_min (nn49 + (1 : Int32)) 32) ((p2 &&& (127 : Int32)) - (64 : Int32))))] [(.int (32 : Int32)), (.int ((own_min (nn49 + (1 : Int32)) (32 : Int32)) + ((p2 &&& (127 : Int32)) - (64 : Int32)))), (.int (own_room (own_min (nn49 + (1 : Int32)) 32) ((p2 &&& (127 : Int32)) - (64 : Int32)))), (.int ((1 : Int32) &&& (1 : Int32)))])) t → Steps p.tables e below (s₁.setTop (entryFrame m #[(.int p0), (.int p1), (.int p2)] maxLocals)) t := fun t kt => go60 t (by
      refine st61.trans ?_
      show Steps p.tables e below (T61.setTop (mkF m 279 #[.val (.int p0), .val (.int p1), .val (.int p2), .val (.ref b1), .val (.int ((p0 &&& (2147483647 : Int32)) % (5 : Int32))), .val (.int (nn49 + (1 : Int32))), .val (.int ((1 : Int32) &&& (1 : Int32))), .val (.int (1 : Int32)), .val (.int ((p2 &&& (127 : Int32)) - (64 : Int32))), .val (.int (own_min (nn49 + (1 : Int32)) (32 : Int32))), .unset] [(.int (own_room (own_min (nn49 + (1 : Int32)) 32) ((p2 &&& (127 : Int32)) - (64 : Int32))))])) _
      refine XS.istore X61.here hx rfl (hb hby at_279) rfl (l' := #[.val (.int p0), .val (.int p1), .val (.int p2), .val (.ref b1), .val (.int ((p0 &&& (2147483647 : Int32)) % (5 : Int32))), .val (.int (nn49 + (1 : Int32))), .val (.int ((1 : Int32) &&& (1 : Int32))), .val (.int (1 : Int32)), .val (.int ((p2 &&& (127 : Int32)) - (64 : Int32))), .val (.int (own_min (nn49 + (1 : Int32)) (32 : Int32))), .val (.int (own_room (own_min (nn49 + (1 : Int32)) 32) ((p2 &&& (127 : Int32)) - (64 : Int32))))]) rfl ?_
      show Steps p.tables e below (T61.setTop (mkF m 281 #[.val (.int p0), .val (.int p1), .val (.int p2), .val (.ref b1), .val (.int ((p0 &&& (2147483647 : Int32)) % (5 : Int32))), .val (.int (nn49 + (1 : Int32))), .val (.int ((1 : Int32) &&& (1 : Int32))), .val (.int (1 : Int32)), .val (.int ((p2 &&& (127 : Int32)) - (64 : Int32))), .val (.int (own_min (nn49 + (1 : Int32)) (32 : Int32))), .val (.int (own_room (own_min (nn49 + (1 : Int32)) 32) ((p2 &&& (127 : Int32)) - (64 : Int32))))] [])) _
      refine XS.iload X61.here hx rfl (hb hby at_281) rfl ?_
      show Steps p.tables e below (T61.setTop (mkF m 283 #[.val (.int p0), .val (.int p1), .val (.int p2), .val (.ref b1), .val (.int ((p0 &&& (2147483647 : Int32)) % (5 : Int32))), .val (.int (nn49 + (1 : Int32))), .val (.int ((1 : Int32) &&& (1 : Int32))), .val (.int (1 : Int32)), .val (.int ((p2 &&& (127 : Int32)) - (64 : Int32))), .val (.int (own_min (nn49 + (1 : Int32)) (32 : Int32))), .val (.int (own_room (own_min (nn49 + (1 : Int32)) 32) ((p2 &&& (127 : Int32)) - (64 : Int32))))] [(.int ((1 : Int32) &&& (1 : Int32)))])) _
      refine XS.iload X61.here hx rfl (hb hby at_283) rfl ?_
      show Steps p.tables e below (T61.setTop (mkF m 285 #[.val (.int p0), .val (.int p1), .val (.int p2), .val (.ref b1), .val (.int ((p0 &&& (2147483647 : Int32)) % (5 : Int32))), .val (.int (nn49 + (1 : Int32))), .val (.int ((1 : Int32) &&& (1 : Int32))), .val (.int (1 : Int32)), .val (.int ((p2 &&& (127 : Int32)) - (64 : Int32))), .val (.int (own_min (nn49 + (1 : Int32)) (32 : Int32))), .val (.int (own_room (own_min (nn49 + (1 : Int32)) 32) ((p2 &&& (127 : Int32)) - (64 : Int32))))] [(.int (own_room (own_min (nn49 + (1 : Int32)) 32) ((p2 &&& (127 : Int32)) - (64 : Int32)))), (.int ((1 : Int32) &&& (1 : Int32)))])) _
      refine XS.iload X61.here hx rfl (hb hby at_285) rfl ?_
      show Steps p.tables e below (T61.setTop (mkF m 287 #[.val (.int p0), .val (.int p1), .val (.int p2), .val (.ref b1), .val (.int ((p0 &&& (2147483647 : Int32)) % (5 : Int32))), .val (.int (nn49 + (1 : Int32))), .val (.int ((1 : Int32) &&& (1 : Int32))), .val (.int (1 : Int32)), .val (.int ((p2 &&& (127 : Int32)) - (64 : Int32))), .val (.int (own_min (nn49 + (1 : Int32)) (32 : Int32))), .val (.int (own_room (own_min (nn49 + (1 : Int32)) 32) ((p2 &&& (127 : Int32)) - (64 : Int32))))] [(.int (own_min (nn49 + (1 : Int32)) (32 : Int32))), (.int (own_room (own_min (nn49 + (1 : Int32)) 32) ((p2 &&& (127 : Int32)) - (64 : Int32)))), (.int ((1 : Int32) &&& (1 : Int32)))])) _
      refine XS.iload X61.here hx rfl (hb hby at_287) rfl ?_
      show Steps p.tables e below (T61.setTop (mkF m 289 #[.val (.int p0), .val (.int p1), .val (.int p2), .val (.ref b1), .val (.int ((p0 &&& (2147483647 : Int32)) % (5 : Int32))), .val (.int (nn49 + (1 : Int32))), .val (.int ((1 : Int32) &&& (1 : Int32))), .val (.int (1 : Int32)), .val (.int ((p2 &&& (127 : Int32)) - (64 : Int32))), .val (.int (own_min (nn49 + (1 : Int32)) (32 : Int32))), .val (.int (own_room (own_min (nn49 + (1 : Int32)) 32) ((p2 &&& (127 : Int32)) - (64 : Int32))))] [(.int ((p2 &&& (127 : Int32)) - (64 : Int32))), (.int (own_min (nn49 + (1 : Int32)) (32 : Int32))), (.int (own_room (own_min (nn49 + (1 : Int32)) 32) ((p2 &&& (127 : Int32)) - (64 : Int32)))), (.int ((1 : Int32) &&& (1 : Int32)))])) _
      refine XS.iadd X61.here hx rfl (hb hby at_289) rfl ?_
      show Steps p.tables e below (T61.setTop (mkF m 290 #[.val (.int p0), .val (.int p1), .val (.int p2), .val (.ref b1), .val (.int ((p0 &&& (2147483647 : Int32)) % (5 : Int32))), .val (.int (nn49 + (1 : Int32))), .val (.int ((1 : Int32) &&& (1 : Int32))), .val (.int (1 : Int32)), .val (.int ((p2 &&& (127 : Int32)) - (64 : Int32))), .val (.int (own_min (nn49 + (1 : Int32)) (32 : Int32))), .val (.int (own_room (own_min (nn49 + (1 : Int32)) 32) ((p2 &&& (127 : Int32)) - (64 : Int32))))] [(.int ((own_min (nn49 + (1 : Int32)) (32 : Int32)) + ((p2 &&& (127 : Int32)) - (64 : Int32)))), (.int (own_room (own_min (nn49 + (1 : Int32)) 32) ((p2 &&& (127 : Int32)) - (64 : Int32)))), (.int ((1 : Int32) &&& (1 : Int32)))])) _
      refine XS.bipush X61.here hx rfl (hb hby at_290) ?_
      show Steps p.tables e below (T61.setTop (mkF m 292 #[.val (.int p0), .val (.int p1), .val (.int p2), .val (.ref b1), .val (.int ((p0 &&& (2147483647 : Int32)) % (5 : Int32))), .val (.int (nn49 + (1 : Int32))), .val (.int ((1 : Int32) &&& (1 : Int32))), .val (.int (1 : Int32)), .val (.int ((p2 &&& (127 : Int32)) - (64 : Int32))), .val (.int (own_min (nn49 + (1 : Int32)) (32 : Int32))), .val (.int (own_room (own_min (nn49 + (1 : Int32)) 32) ((p2 &&& (127 : Int32)) - (64 : Int32))))] [(.int (32 : Int32)), (.int ((own_min (nn49 + (1 : Int32)) (32 : Int32)) + ((p2 &&& (127 : Int32)) - (64 : Int32)))), (.int (own_room (own_min (nn49 + (1 : Int32)) 32) ((p2 &&& (127 : Int32)) - (64 : Int32)))), (.int ((1 : Int32) &&& (1 : Int32)))])) _
      exact kt)
  by_cases hc292_63 : (32 : Int32) < ((own_min (nn49 + (1 : Int32)) (32 : Int32)) + ((p2 &&& (127 : Int32)) - (64 : Int32)))
  · have hc300_64 : (own_room (own_min (nn49 + (1 : Int32)) 32) ((p2 &&& (127 : Int32)) - (64 : Int32))) = (0 : Int32) := (by unfold own_room; exact if_pos hc292_63)
    have go65 : ∀ t, Steps p.tables e below (T61.setTop (mkF m 313 #[.val (.int p0), .val (.int p1), .val (.int p2), .val (.ref b1), .val (.int ((p0 &&& (2147483647 : Int32)) % (5 : Int32))), .val (.int (nn49 + (1 : Int32))), .val (.int (((1 : Int32) &&& (1 : Int32)) &&& (1 : Int32))), .val (.int (1 : Int32)), .val (.int ((p2 &&& (127 : Int32)) - (64 : Int32))), .val (.int (own_min (nn49 + (1 : Int32)) (32 : Int32))), .val (.int (own_room (own_min (nn49 + (1 : Int32)) 32) ((p2 &&& (127 : Int32)) - (64 : Int32))))] [(.int (((1 : Int32) &&& (1 : Int32)) &&& (1 : Int32)))])) t → Steps p.tables e below (s₁.setTop (entryFrame m #[(.int p0), (.int p1), (.int p2)] maxLocals)) t := fun t kt => go62 t (by
        refine XS.icmpYes X61.here hx rfl (pc0 := 292) (pc' := 299) rfl (hb hby at_292) rfl (tlt hc292_63).2.2.1 (by decide) (by decide) ?_
        show Steps p.tables e below (T61.setTop (mkF m 299 #[.val (.int p0), .val (.int p1), .val (.int p2), .val (.ref b1), .val (.int ((p0 &&& (2147483647 : Int32)) % (5 : Int32))), .val (.int (nn49 + (1 : Int32))), .val (.int ((1 : Int32) &&& (1 : Int32))), .val (.int (1 : Int32)), .val (.int ((p2 &&& (127 : Int32)) - (64 : Int32))), .val (.int (own_min (nn49 + (1 : Int32)) (32 : Int32))), .val (.int (own_room (own_min (nn49 + (1 : Int32)) 32) ((p2 &&& (127 : Int32)) - (64 : Int32))))] [(.int (own_room (own_min (nn49 + (1 : Int32)) 32) ((p2 &&& (127 : Int32)) - (64 : Int32)))), (.int ((1 : Int32) &&& (1 : Int32)))])) _
        refine XS.iconst X61.here hx rfl (hb hby at_299) ?_
        show Steps p.tables e below (T61.setTop (mkF m 300 #[.val (.int p0), .val (.int p1), .val (.int p2), .val (.ref b1), .val (.int ((p0 &&& (2147483647 : Int32)) % (5 : Int32))), .val (.int (nn49 + (1 : Int32))), .val (.int ((1 : Int32) &&& (1 : Int32))), .val (.int (1 : Int32)), .val (.int ((p2 &&& (127 : Int32)) - (64 : Int32))), .val (.int (own_min (nn49 + (1 : Int32)) (32 : Int32))), .val (.int (own_room (own_min (nn49 + (1 : Int32)) 32) ((p2 &&& (127 : Int32)) - (64 : Int32))))] [(.int (0 : Int32)), (.int (own_room (own_min (nn49 + (1 : Int32)) 32) ((p2 &&& (127 : Int32)) - (64 : Int32)))), (.int ((1 : Int32) &&& (1 : Int32)))])) _
        refine XS.icmpNo X61.here hx rfl (hb hby at_300) rfl (teq hc300_64).2 ?_
        show Steps p.tables e below (T61.setTop (mkF m 303 #[.val (.int p0), .val (.int p1), .val (.int p2), .val (.ref b1), .val (.int ((p0 &&& (2147483647 : Int32)) % (5 : Int32))), .val (.int (nn49 + (1 : Int32))), .val (.int ((1 : Int32) &&& (1 : Int32))), .val (.int (1 : Int32)), .val (.int ((p2 &&& (127 : Int32)) - (64 : Int32))), .val (.int (own_min (nn49 + (1 : Int32)) (32 : Int32))), .val (.int (own_room (own_min (nn49 + (1 : Int32)) 32) ((p2 &&& (127 : Int32)) - (64 : Int32))))] [(.int ((1 : Int32) &&& (1 : Int32)))])) _
        refine XS.iconst X61.here hx rfl (hb hby at_303) ?_
        show Steps p.tables e below (T61.setTop (mkF m 304 #[.val (.int p0), .val (.int p1), .val (.int p2), .val (.ref b1), .val (.int ((p0 &&& (2147483647 : Int32)) % (5 : Int32))), .val (.int (nn49 + (1 : Int32))), .val (.int ((1 : Int32) &&& (1 : Int32))), .val (.int (1 : Int32)), .val (.int ((p2 &&& (127 : Int32)) - (64 : Int32))), .val (.int (own_min (nn49 + (1 : Int32)) (32 : Int32))), .val (.int (own_room (own_min (nn49 + (1 : Int32)) 32) ((p2 &&& (127 : Int32)) - (64 : Int32))))] [(.int (1 : Int32)), (.int ((1 : Int32) &&& (1 : Int32)))])) _
        refine XS.goto X61.here hx rfl (pc0 := 304) (pc' := 308) rfl (hb hby at_304) (by decide) (by decide) ?_
        show Steps p.tables e below (T61.setTop (mkF m 308 #[.val (.int p0), .val (.int p1), .val (.int p2), .val (.ref b1), .val (.int ((p0 &&& (2147483647 : Int32)) % (5 : Int32))), .val (.int (nn49 + (1 : Int32))), .val (.int ((1 : Int32) &&& (1 : Int32))), .val (.int (1 : Int32)), .val (.int ((p2 &&& (127 : Int32)) - (64 : Int32))), .val (.int (own_min (nn49 + (1 : Int32)) (32 : Int32))), .val (.int (own_room (own_min (nn49 + (1 : Int32)) 32) ((p2 &&& (127 : Int32)) - (64 : Int32))))] [(.int (1 : Int32)), (.int ((1 : Int32) &&& (1 : Int32)))])) _
        refine XS.iand X61.here hx rfl (hb hby at_308) rfl ?_
        show Steps p.tables e below (T61.setTop (mkF m 309 #[.val (.int p0), .val (.int p1), .val (.int p2), .val (.ref b1), .val (.int ((p0 &&& (2147483647 : Int32)) % (5 : Int32))), .val (.int (nn49 + (1 : Int32))), .val (.int ((1 : Int32) &&& (1 : Int32))), .val (.int (1 : Int32)), .val (.int ((p2 &&& (127 : Int32)) - (64 : Int32))), .val (.int (own_min (nn49 + (1 : Int32)) (32 : Int32))), .val (.int (own_room (own_min (nn49 + (1 : Int32)) 32) ((p2 &&& (127 : Int32)) - (64 : Int32))))] [(.int (((1 : Int32) &&& (1 : Int32)) &&& (1 : Int32)))])) _
        refine XS.istore X61.here hx rfl (hb hby at_309) rfl (l' := #[.val (.int p0), .val (.int p1), .val (.int p2), .val (.ref b1), .val (.int ((p0 &&& (2147483647 : Int32)) % (5 : Int32))), .val (.int (nn49 + (1 : Int32))), .val (.int (((1 : Int32) &&& (1 : Int32)) &&& (1 : Int32))), .val (.int (1 : Int32)), .val (.int ((p2 &&& (127 : Int32)) - (64 : Int32))), .val (.int (own_min (nn49 + (1 : Int32)) (32 : Int32))), .val (.int (own_room (own_min (nn49 + (1 : Int32)) 32) ((p2 &&& (127 : Int32)) - (64 : Int32))))]) rfl ?_
        show Steps p.tables e below (T61.setTop (mkF m 311 #[.val (.int p0), .val (.int p1), .val (.int p2), .val (.ref b1), .val (.int ((p0 &&& (2147483647 : Int32)) % (5 : Int32))), .val (.int (nn49 + (1 : Int32))), .val (.int (((1 : Int32) &&& (1 : Int32)) &&& (1 : Int32))), .val (.int (1 : Int32)), .val (.int ((p2 &&& (127 : Int32)) - (64 : Int32))), .val (.int (own_min (nn49 + (1 : Int32)) (32 : Int32))), .val (.int (own_room (own_min (nn49 + (1 : Int32)) 32) ((p2 &&& (127 : Int32)) - (64 : Int32))))] [])) _
        refine XS.iload X61.here hx rfl (hb hby at_311) rfl ?_
        show Steps p.tables e below (T61.setTop (mkF m 313 #[.val (.int p0), .val (.int p1), .val (.int p2), .val (.ref b1), .val (.int ((p0 &&& (2147483647 : Int32)) % (5 : Int32))), .val (.int (nn49 + (1 : Int32))), .val (.int (((1 : Int32) &&& (1 : Int32)) &&& (1 : Int32))), .val (.int (1 : Int32)), .val (.int ((p2 &&& (127 : Int32)) - (64 : Int32))), .val (.int (own_min (nn49 + (1 : Int32)) (32 : Int32))), .val (.int (own_room (own_min (nn49 + (1 : Int32)) 32) ((p2 &&& (127 : Int32)) - (64 : Int32))))] [(.int (((1 : Int32) &&& (1 : Int32)) &&& (1 : Int32)))])) _
        exact kt)
    obtain ⟨fs, hr, hrun, hended, hW, hsame⟩ := X61.leave (v := some (.int ((((1 : Int32) &&& (1 : Int32)) &&& (1 : Int32)) &&& (1 : Int32)))) (fun h => by rw [Bd.returns] at h; cases h)
    refine ⟨_, _, go65 _ (retN X61 hx (t := .boolean) Bd.returns (by simp) (hb hby at_313) hr), hrun, hended, _, _, rfl, ?_, ⟨_, rfl⟩, hW, hsame.mono (by decide) (by decide)⟩
    exact ⟨congrArg (fun z => some (Value.int z)) (by decide), N61⟩
  · have hc300_66 : (own_room (own_min (nn49 + (1 : Int32)) 32) ((p2 &&& (127 : Int32)) - (64 : Int32))) = (1 : Int32) := (by unfold own_room; exact if_neg hc292_63)
    have go67 : ∀ t, Steps p.tables e below (T61.setTop (mkF m 313 #[.val (.int p0), .val (.int p1), .val (.int p2), .val (.ref b1), .val (.int ((p0 &&& (2147483647 : Int32)) % (5 : Int32))), .val (.int (nn49 + (1 : Int32))), .val (.int (((1 : Int32) &&& (1 : Int32)) &&& (1 : Int32))), .val (.int (1 : Int32)), .val (.int ((p2 &&& (127 : Int32)) - (64 : Int32))), .val (.int (own_min (nn49 + (1 : Int32)) (32 : Int32))), .val (.int (own_room (own_min (nn49 + (1 : Int32)) 32) ((p2 &&& (127 : Int32)) - (64 : Int32))))] [(.int (((1 : Int32) &&& (1 : Int32)) &&& (1 : Int32)))])) t → Steps p.tables e below (s₁.setTop (entryFrame m #[(.int p0), (.int p1), (.int p2)] maxLocals)) t := fun t kt => go62 t (by
        refine XS.icmpNo X61.here hx rfl (hb hby at_292) rfl (flt hc292_63).2.2.1 ?_
        show Steps p.tables e below (T61.setTop (mkF m 295 #[.val (.int p0), .val (.int p1), .val (.int p2), .val (.ref b1), .val (.int ((p0 &&& (2147483647 : Int32)) % (5 : Int32))), .val (.int (nn49 + (1 : Int32))), .val (.int ((1 : Int32) &&& (1 : Int32))), .val (.int (1 : Int32)), .val (.int ((p2 &&& (127 : Int32)) - (64 : Int32))), .val (.int (own_min (nn49 + (1 : Int32)) (32 : Int32))), .val (.int (own_room (own_min (nn49 + (1 : Int32)) 32) ((p2 &&& (127 : Int32)) - (64 : Int32))))] [(.int (own_room (own_min (nn49 + (1 : Int32)) 32) ((p2 &&& (127 : Int32)) - (64 : Int32)))), (.int ((1 : Int32) &&& (1 : Int32)))])) _
        refine XS.iconst X61.here hx rfl (hb hby at_295) ?_
        show Steps p.tables e below (T61.setTop (mkF m 296 #[.val (.int p0), .val (.int p1), .val (.int p2), .val (.ref b1), .val (.int ((p0 &&& (2147483647 : Int32)) % (5 : Int32))), .val (.int (nn49 + (1 : Int32))), .val (.int ((1 : Int32) &&& (1 : Int32))), .val (.int (1 : Int32)), .val (.int ((p2 &&& (127 : Int32)) - (64 : Int32))), .val (.int (own_min (nn49 + (1 : Int32)) (32 : Int32))), .val (.int (own_room (own_min (nn49 + (1 : Int32)) 32) ((p2 &&& (127 : Int32)) - (64 : Int32))))] [(.int (1 : Int32)), (.int (own_room (own_min (nn49 + (1 : Int32)) 32) ((p2 &&& (127 : Int32)) - (64 : Int32)))), (.int ((1 : Int32) &&& (1 : Int32)))])) _
        refine XS.goto X61.here hx rfl (pc0 := 296) (pc' := 300) rfl (hb hby at_296) (by decide) (by decide) ?_
        show Steps p.tables e below (T61.setTop (mkF m 300 #[.val (.int p0), .val (.int p1), .val (.int p2), .val (.ref b1), .val (.int ((p0 &&& (2147483647 : Int32)) % (5 : Int32))), .val (.int (nn49 + (1 : Int32))), .val (.int ((1 : Int32) &&& (1 : Int32))), .val (.int (1 : Int32)), .val (.int ((p2 &&& (127 : Int32)) - (64 : Int32))), .val (.int (own_min (nn49 + (1 : Int32)) (32 : Int32))), .val (.int (own_room (own_min (nn49 + (1 : Int32)) 32) ((p2 &&& (127 : Int32)) - (64 : Int32))))] [(.int (1 : Int32)), (.int (own_room (own_min (nn49 + (1 : Int32)) 32) ((p2 &&& (127 : Int32)) - (64 : Int32)))), (.int ((1 : Int32) &&& (1 : Int32)))])) _
        refine XS.icmpNo X61.here hx rfl (hb hby at_300) rfl (teq hc300_66).2 ?_
        show Steps p.tables e below (T61.setTop (mkF m 303 #[.val (.int p0), .val (.int p1), .val (.int p2), .val (.ref b1), .val (.int ((p0 &&& (2147483647 : Int32)) % (5 : Int32))), .val (.int (nn49 + (1 : Int32))), .val (.int ((1 : Int32) &&& (1 : Int32))), .val (.int (1 : Int32)), .val (.int ((p2 &&& (127 : Int32)) - (64 : Int32))), .val (.int (own_min (nn49 + (1 : Int32)) (32 : Int32))), .val (.int (own_room (own_min (nn49 + (1 : Int32)) 32) ((p2 &&& (127 : Int32)) - (64 : Int32))))] [(.int ((1 : Int32) &&& (1 : Int32)))])) _
        refine XS.iconst X61.here hx rfl (hb hby at_303) ?_
        show Steps p.tables e below (T61.setTop (mkF m 304 #[.val (.int p0), .val (.int p1), .val (.int p2), .val (.ref b1), .val (.int ((p0 &&& (2147483647 : Int32)) % (5 : Int32))), .val (.int (nn49 + (1 : Int32))), .val (.int ((1 : Int32) &&& (1 : Int32))), .val (.int (1 : Int32)), .val (.int ((p2 &&& (127 : Int32)) - (64 : Int32))), .val (.int (own_min (nn49 + (1 : Int32)) (32 : Int32))), .val (.int (own_room (own_min (nn49 + (1 : Int32)) 32) ((p2 &&& (127 : Int32)) - (64 : Int32))))] [(.int (1 : Int32)), (.int ((1 : Int32) &&& (1 : Int32)))])) _
        refine XS.goto X61.here hx rfl (pc0 := 304) (pc' := 308) rfl (hb hby at_304) (by decide) (by decide) ?_
        show Steps p.tables e below (T61.setTop (mkF m 308 #[.val (.int p0), .val (.int p1), .val (.int p2), .val (.ref b1), .val (.int ((p0 &&& (2147483647 : Int32)) % (5 : Int32))), .val (.int (nn49 + (1 : Int32))), .val (.int ((1 : Int32) &&& (1 : Int32))), .val (.int (1 : Int32)), .val (.int ((p2 &&& (127 : Int32)) - (64 : Int32))), .val (.int (own_min (nn49 + (1 : Int32)) (32 : Int32))), .val (.int (own_room (own_min (nn49 + (1 : Int32)) 32) ((p2 &&& (127 : Int32)) - (64 : Int32))))] [(.int (1 : Int32)), (.int ((1 : Int32) &&& (1 : Int32)))])) _
        refine XS.iand X61.here hx rfl (hb hby at_308) rfl ?_
        show Steps p.tables e below (T61.setTop (mkF m 309 #[.val (.int p0), .val (.int p1), .val (.int p2), .val (.ref b1), .val (.int ((p0 &&& (2147483647 : Int32)) % (5 : Int32))), .val (.int (nn49 + (1 : Int32))), .val (.int ((1 : Int32) &&& (1 : Int32))), .val (.int (1 : Int32)), .val (.int ((p2 &&& (127 : Int32)) - (64 : Int32))), .val (.int (own_min (nn49 + (1 : Int32)) (32 : Int32))), .val (.int (own_room (own_min (nn49 + (1 : Int32)) 32) ((p2 &&& (127 : Int32)) - (64 : Int32))))] [(.int (((1 : Int32) &&& (1 : Int32)) &&& (1 : Int32)))])) _
        refine XS.istore X61.here hx rfl (hb hby at_309) rfl (l' := #[.val (.int p0), .val (.int p1), .val (.int p2), .val (.ref b1), .val (.int ((p0 &&& (2147483647 : Int32)) % (5 : Int32))), .val (.int (nn49 + (1 : Int32))), .val (.int (((1 : Int32) &&& (1 : Int32)) &&& (1 : Int32))), .val (.int (1 : Int32)), .val (.int ((p2 &&& (127 : Int32)) - (64 : Int32))), .val (.int (own_min (nn49 + (1 : Int32)) (32 : Int32))), .val (.int (own_room (own_min (nn49 + (1 : Int32)) 32) ((p2 &&& (127 : Int32)) - (64 : Int32))))]) rfl ?_
        show Steps p.tables e below (T61.setTop (mkF m 311 #[.val (.int p0), .val (.int p1), .val (.int p2), .val (.ref b1), .val (.int ((p0 &&& (2147483647 : Int32)) % (5 : Int32))), .val (.int (nn49 + (1 : Int32))), .val (.int (((1 : Int32) &&& (1 : Int32)) &&& (1 : Int32))), .val (.int (1 : Int32)), .val (.int ((p2 &&& (127 : Int32)) - (64 : Int32))), .val (.int (own_min (nn49 + (1 : Int32)) (32 : Int32))), .val (.int (own_room (own_min (nn49 + (1 : Int32)) 32) ((p2 &&& (127 : Int32)) - (64 : Int32))))] [])) _
        refine XS.iload X61.here hx rfl (hb hby at_311) rfl ?_
        show Steps p.tables e below (T61.setTop (mkF m 313 #[.val (.int p0), .val (.int p1), .val (.int p2), .val (.ref b1), .val (.int ((p0 &&& (2147483647 : Int32)) % (5 : Int32))), .val (.int (nn49 + (1 : Int32))), .val (.int (((1 : Int32) &&& (1 : Int32)) &&& (1 : Int32))), .val (.int (1 : Int32)), .val (.int ((p2 &&& (127 : Int32)) - (64 : Int32))), .val (.int (own_min (nn49 + (1 : Int32)) (32 : Int32))), .val (.int (own_room (own_min (nn49 + (1 : Int32)) 32) ((p2 &&& (127 : Int32)) - (64 : Int32))))] [(.int (((1 : Int32) &&& (1 : Int32)) &&& (1 : Int32)))])) _
        exact kt)
    obtain ⟨fs, hr, hrun, hended, hW, hsame⟩ := X61.leave (v := some (.int ((((1 : Int32) &&& (1 : Int32)) &&& (1 : Int32)) &&& (1 : Int32)))) (fun h => by rw [Bd.returns] at h; cases h)
    refine ⟨_, _, go67 _ (retN X61 hx (t := .boolean) Bd.returns (by simp) (hb hby at_313) hr), hrun, hended, _, _, rfl, ?_, ⟨_, rfl⟩, hW, hsame.mono (by decide) (by decide)⟩
    exact ⟨congrArg (fun z => some (Value.int z)) (by decide), N61⟩
set_option maxRecDepth 65536 in
set_option maxHeartbeats 40000000 in
theorem comes_1 {Post : Tables → Env → Array Value → State → Outcome → State → Prop} (hpost : ∀ tb e args s v u, (limb_1_1.after args s (.returned v) u = true ∧ limb_1_2.after args s (.returned v) u = true ∧ True) → FrameEnd s (.returned v) u (Jvm.fieldLocs frame_1_writes args s ++ Jvm.arrayLocs frame_1_arrays args s ++ Jvm.staticLocs frame_1_statics s) 16 128 → Post tb e args s (.returned v) u) :
    ArmFor flags0 classFile x code maxLocals ret World_1 tables_1 room_1 Calls_1 rest_1 Pre_1 Post := by
  intro l hfl _ _ p e ha hc hk s m args below hf hA hF happ hP
  obtain ⟨hcalls, hrest, hpre⟩ := hP
  obtain ⟨-, -, -, hnamed, -, -, -, hat⟩ := (Spec.applies_iff hf).mp happ
  obtain ⟨hg, hn⟩ := and_e (Cond.before_iff.mp (show (Jvm.Cond.and given_1 narrow_1).before args s = true from hpre))
  obtain ⟨g1, g2⟩ := and_e hg
  obtain ⟨g3, g4⟩ := and_e g2
  obtain ⟨g5, g6⟩ := and_e g4
  obtain ⟨w0, w1, w2, rfl⟩ : ∃ w0 w1 w2 : Value, args = #[w0, w1, w2] := by
    have hs : args.size = 3 := by simpa [Cond.value, given_1] using g1
    obtain ⟨L⟩ := args
    match L, hs with
    | [w0, w1, w2], _ => exact ⟨w0, w1, w2, rfl⟩
  have hw := fun d (hd : d ∈ tables_1) => atoms_spec (ws := Jvm.Cond.code x code maxLocals ret :: tables_1) hat d (List.mem_cons_of_mem _ hd)
  have hfit : Fit s := fun {y c} hc i hi => by
    obtain ⟨ha, rfl⟩ := Array.getElem?_eq_some_iff.mp hc
    have q := List.all_eq_true.mp ((Array.all_eq_true_iff_forall_mem.mp hF) _ (Array.getElem_mem ha)) i (List.mem_range.mpr hi)
    simpa [Array.getElem?_eq_getElem hi] using q
  obtain ⟨i0, ei0⟩ := is_v g3
  obtain rfl : w0 = (.int i0) := Option.some.inj ei0
  obtain ⟨i1, ei1⟩ := is_v g5
  obtain rfl : w1 = (.int i1) := Option.some.inj ei1
  obtain ⟨i2, ei2⟩ := is_v g6
  obtain rfl : w2 = (.int i2) := Option.some.inj ei2
  obtain ⟨n, o, h1, h2, h3, v, L, rfl, ⟨hv, N⟩, hq⟩ := rm0 l s _ hw tables_1 i0 i1 i2  s.heap s.heap.size (Nat.le_refl _) p e ha hc hk s m _ below hf ((Spec.applies_iff_loose hf).mp happ).1 ⟨rfl, State.Warmed39.refl s, rfl⟩ trivial
  obtain rfl : v = some (.int 1) := hv
  refine ⟨n, _, h1, h2, h3, hpost _ _ _ _ _ _ ⟨Cond.after_iff.mpr rfl, Cond.after_iff.mpr (eq_i res_at (Term.int_eval (1)) rfl), trivial⟩ ⟨hq.1, hq.2.1, (hq.2.2.sift fun y hy => Or.inr (N y hy)).mono (by decide) (by decide)⟩⟩
theorem main_1_1 : Claimed_1_1 := comes_1 fun _ _ _ _ _ _ h hF => ⟨h.1, hF⟩
theorem main_1_2 : Claimed_1_2 := comes_1 fun _ _ _ _ _ _ h hF => ⟨h.2.1, hF⟩
end Jvm.Pilot.@@N@@
namespace Jvm.Pilot.@@N@@
open Jvm Jvm.ClassFile Sem Op Lib Jvm.Free Jvm.Stand Jvm.Pilot.@@N@@.Jvm.D
/-! MADE BY PROGRAM (witnessworld.py) out of the Statement's table words and the real class files: 10 classes; the members and pool entries that the words name. The judged class is class 1, her method 4. -/
namespace start1
open Jvm.ClassFile
def u (s : String) : CpInfo := .utf8 (stringToUtf16 s)
/-- a pool by its gaps: so many unusable entries, then the entry; so many at the end -/
def gap : Nat → List CpInfo → List CpInfo
  | 0, r => r
  | n + 1, r => .unusable :: gap n r
def poolList (es : List (Nat × CpInfo)) (last : Nat) : List CpInfo := es.foldr (fun e r => gap e.1 (e.2 :: r)) (gap last [])
def pool (es : List (Nat × CpInfo)) (last : Nat) : Array CpInfo := ⟨poolList es last⟩
def fileOf (pool : Array CpInfo) (this : Nat) (attrs : Array Attribute := #[]) (ms : Array MethodInfo := #[]) (fl : Nat := 33) (sup : Nat := 0) (ifs : Array Nat := #[]) (fds : Array FieldInfo := #[]) : ClassFile where
  minorVersion := 0
  majorVersion := 65
  constantPool := pool
  accessFlags := fl
  thisClass := this
  superClass := sup
  interfaces := ifs
  fields := fds
  methods := ms
  attributes := attrs
def plain (name : String) (sup : Option ClassId) : Class where
  name := name
  kind := .ordinary
  loader := none
  accessFlags := 33
  super := sup
  interfaces := #[]
  cf := none
  fields := #[]
  methods := #[]
  instanceTypes := #[]
  staticTypes := #[]
  resolved := #[]
  callSites := []
  init := .initialized
  statics := none
  mirror := none

def pool0 : Array CpInfo := pool [(5, u "<init>"), (0, u "()V"), (1, .class_ 10), (1, u "java/lang/Object")] 113

def k0c0 : Code := { maxStack := 0, maxLocals := 1, code := object_method_1_code, exceptionTable := #[], attributes := #[] }
def k0m0 : Method := { name := "<init>", desc := "()V", sig := { parameters := [], returnType := none }, accessFlags := 1, code := some k0c0 }
/-- java/lang/Object -/
def k0 : Class := { plain "java/lang/Object" none with
  accessFlags := 33
  interfaces := #[]
  cf := some (fileOf pool0 8 #[] #[{ accessFlags := 1, nameIndex := 5, descriptorIndex := 6, attributes := #[] }] 33 0 #[] #[])
  fields := #[]
  methods := #[k0m0]
  instanceTypes := #[]
  staticTypes := #[]
  resolved := Array.replicate 124 none
  statics := none }

def pool1 : Array CpInfo := pool [(2, .class_ 4), (0, .nameAndType 5 6), (0, u "java/lang/Object"), (0, u "<init>"), (0, u "()V"), (0, .methodref 8 9), (0, .class_ 10), (0, .nameAndType 11 12), (0, u "com/example/reckon/reckon/xpath/StackSegments"), (0, u "enter"), (0, u "()Z"), (0, .methodref 14 15), (0, .class_ 16), (0, .nameAndType 17 18), (0, u "com/example/reckon/reckon/xpath/StackSegmentsEnterPinLaw"), (0, u "one"), (0, u "(Lcom/example/reckon/reckon/xpath/StackSegments;I)Z"), (0, .methodref 14 20), (0, .nameAndType 21 18), (0, u "four"), (0, .methodref 8 3), (0, .integer 2147483647), (0, .methodref 14 25), (0, .nameAndType 26 18), (0, u "eight"), (0, .methodref 28 29), (0, .class_ 30), (0, .nameAndType 31 32), (0, u "java/lang/Math"), (0, u "min"), (0, u "(II)I"), (0, .methodref 8 34), (0, .nameAndType 35 36), (0, u "hasRoomFor"), (0, u "(I)Z"), (3, u "law"), (0, u "(III)Z")] 2

def k1m0 : Method := { name := "<init>", desc := "()V", sig := { parameters := [], returnType := none }, accessFlags := 2, code := none }
def k1c1 : Code := { maxStack := 3, maxLocals := 3, code := method_2_code, exceptionTable := #[], attributes := #[] }
def k1m1 : Method := { name := "one", desc := "(Lcom/example/reckon/reckon/xpath/StackSegments;I)Z", sig := { parameters := [(.object "com/example/reckon/reckon/xpath/StackSegments"), .int], returnType := some .boolean }, accessFlags := 10, code := some k1c1 }
def k1c2 : Code := { maxStack := 3, maxLocals := 6, code := method_3_code, exceptionTable := #[], attributes := #[] }
def k1m2 : Method := { name := "four", desc := "(Lcom/example/reckon/reckon/xpath/StackSegments;I)Z", sig := { parameters := [(.object "com/example/reckon/reckon/xpath/StackSegments"), .int], returnType := some .boolean }, accessFlags := 10, code := some k1c2 }
def k1c3 : Code := { maxStack := 3, maxLocals := 4, code := method_4_code, exceptionTable := #[], attributes := #[] }
def k1m3 : Method := { name := "eight", desc := "(Lcom/example/reckon/reckon/xpath/StackSegments;I)Z", sig := { parameters := [(.object "com/example/reckon/reckon/xpath/StackSegments"), .int], returnType := some .boolean }, accessFlags := 10, code := some k1c3 }
def k1c4 : Code := { maxStack := 4, maxLocals := 11, code := code, exceptionTable := #[], attributes := #[] }
def k1m4 : Method := { name := "law", desc := "(III)Z", sig := { parameters := [.int, .int, .int], returnType := some .boolean }, accessFlags := 9, code := some k1c4 }
/-- com/example/reckon/reckon/xpath/StackSegmentsEnterPinLaw -/
def k1 : Class := { plain "com/example/reckon/reckon/xpath/StackSegmentsEnterPinLaw" (some 0) with
  accessFlags := 49
  interfaces := #[]
  cf := some (fileOf pool1 14 #[] #[{ accessFlags := 2, nameIndex := 5, descriptorIndex := 6, attributes := #[] }, { accessFlags := 10, nameIndex := 17, descriptorIndex := 18, attributes := #[] }, { accessFlags := 10, nameIndex := 21, descriptorIndex := 18, attributes := #[] }, { accessFlags := 10, nameIndex := 26, descriptorIndex := 18, attributes := #[] }, { accessFlags := 9, nameIndex := 40, descriptorIndex := 41, attributes := #[] }] 49 2 #[] #[])
  fields := #[]
  methods := #[k1m0, k1m1, k1m2, k1m3, k1m4]
  instanceTypes := #[]
  staticTypes := #[]
  resolved := Array.replicate 44 none
  statics := none }

def pool2 : Array CpInfo := pool [(1, .methodref 2 3), (0, .class_ 4), (0, .nameAndType 5 6), (0, u "java/lang/Object"), (0, u "<init>"), (0, u "()V"), (0, .class_ 8), (0, u "com/example/reckon/reckon/xpath/StackSegments"), (0, .fieldref 7 10), (0, .nameAndType 11 12), (0, u "limit"), (0, u "I"), (0, .fieldref 7 14), (0, .nameAndType 15 12), (0, u "levels"), (44, u "()Z"), (19, u "CALLER_LEVELS"), (2, u "SEGMENT_LEVELS"), (1, u "SEGMENT_STACK_BYTES"), (0, u "J"), (2, u "enter"), (2, u "hasRoomFor"), (0, u "(I)Z")] 27

def k2c0 : Code := { maxStack := 2, maxLocals := 1, code := prog_178_method_1_code, exceptionTable := #[], attributes := #[] }
def k2m0 : Method := { name := "<init>", desc := "()V", sig := { parameters := [], returnType := none }, accessFlags := 0, code := some k2c0 }
def k2c1 : Code := { maxStack := 3, maxLocals := 2, code := prog_178_method_2_code, exceptionTable := #[], attributes := #[] }
def k2m1 : Method := { name := "enter", desc := "()Z", sig := { parameters := [], returnType := some .boolean }, accessFlags := 0, code := some k2c1 }
def k2c2 : Code := { maxStack := 2, maxLocals := 2, code := prog_178_method_4_code, exceptionTable := #[], attributes := #[] }
def k2m2 : Method := { name := "hasRoomFor", desc := "(I)Z", sig := { parameters := [.int], returnType := some .boolean }, accessFlags := 0, code := some k2c2 }
/-- com/example/reckon/reckon/xpath/StackSegments -/
def k2 : Class := { plain "com/example/reckon/reckon/xpath/StackSegments" (some 0) with
  accessFlags := 32
  interfaces := #[]
  cf := some (fileOf pool2 7 #[] #[{ accessFlags := 0, nameIndex := 5, descriptorIndex := 6, attributes := #[] }, { accessFlags := 0, nameIndex := 89, descriptorIndex := 60, attributes := #[] }, { accessFlags := 0, nameIndex := 92, descriptorIndex := 93, attributes := #[] }] 32 2 #[] #[{ accessFlags := 26, nameIndex := 80, descriptorIndex := 12, attributes := #[] }, { accessFlags := 26, nameIndex := 83, descriptorIndex := 12, attributes := #[] }, { accessFlags := 26, nameIndex := 85, descriptorIndex := 86, attributes := #[] }, { accessFlags := 2, nameIndex := 15, descriptorIndex := 12, attributes := #[] }, { accessFlags := 2, nameIndex := 11, descriptorIndex := 12, attributes := #[] }])
  fields := #[{ name := "CALLER_LEVELS", type := .int, accessFlags := 26, slot := 0, constantValue := 0 }, { name := "SEGMENT_LEVELS", type := .int, accessFlags := 26, slot := 1, constantValue := 0 }, { name := "SEGMENT_STACK_BYTES", type := .long, accessFlags := 26, slot := 2, constantValue := 0 }, { name := "levels", type := .int, accessFlags := 2, slot := 0, constantValue := 0 }, { name := "limit", type := .int, accessFlags := 2, slot := 1, constantValue := 0 }]
  methods := #[k2m0, k2m1, k2m2]
  instanceTypes := #[.int, .int]
  staticTypes := #[.int, .int, .long]
  resolved := Array.replicate 121 none
  statics := none }

def pool3 : Array CpInfo := pool [(1, .class_ 2), (0, u "java/lang/Math"), (1, .class_ 6), (1, u "java/lang/Object"), (0, u "<init>"), (0, u "()V"), (89, .class_ 100), (1, u "java/lang/Math$RandomNumberGeneratorHolder"), (71, u "negativeZeroFloatBits"), (0, u "J"), (2, u "negativeZeroDoubleBits"), (24, u "min"), (43, u "$assertionsDisabled"), (0, u "Z"), (88, u "(II)I"), (2, u "twoToTheDoubleScaleDown"), (0, u "D"), (4, u "twoToTheDoubleScaleUp"), (9, u "E"), (3, u "PI"), (2, u "TAU"), (2, u "DEGREES_TO_RADIANS"), (0, u "RADIANS_TO_DEGREES")] 94

def k3m0 : Method := { name := "<init>", desc := "()V", sig := { parameters := [], returnType := none }, accessFlags := 2, code := none }
def k3c1 : Code := { maxStack := 2, maxLocals := 2, code := jdk_29_method_69_code, exceptionTable := #[], attributes := #[] }
def k3m1 : Method := { name := "min", desc := "(II)I", sig := { parameters := [.int, .int], returnType := some .int }, accessFlags := 9, code := some k3c1 }
/-- java/lang/Math -/
def k3 : Class := { plain "java/lang/Math" (some 0) with
  accessFlags := 49
  interfaces := #[]
  cf := some (fileOf pool3 1 #[.nestMembers #[98]] #[{ accessFlags := 2, nameIndex := 7, descriptorIndex := 8, attributes := #[] }, { accessFlags := 9, nameIndex := 201, descriptorIndex := 335, attributes := #[] }] 49 4 #[] #[{ accessFlags := 25, nameIndex := 354, descriptorIndex := 339, attributes := #[] }, { accessFlags := 25, nameIndex := 358, descriptorIndex := 339, attributes := #[] }, { accessFlags := 25, nameIndex := 361, descriptorIndex := 339, attributes := #[] }, { accessFlags := 26, nameIndex := 364, descriptorIndex := 339, attributes := #[] }, { accessFlags := 26, nameIndex := 365, descriptorIndex := 339, attributes := #[] }, { accessFlags := 26, nameIndex := 172, descriptorIndex := 173, attributes := #[] }, { accessFlags := 26, nameIndex := 176, descriptorIndex := 173, attributes := #[] }, { accessFlags := 8, nameIndex := 344, descriptorIndex := 339, attributes := #[] }, { accessFlags := 8, nameIndex := 338, descriptorIndex := 339, attributes := #[] }, { accessFlags := 4120, nameIndex := 245, descriptorIndex := 246, attributes := #[] }])
  fields := #[{ name := "E", type := .double, accessFlags := 25, slot := 0, constantValue := 0 }, { name := "PI", type := .double, accessFlags := 25, slot := 1, constantValue := 0 }, { name := "TAU", type := .double, accessFlags := 25, slot := 2, constantValue := 0 }, { name := "DEGREES_TO_RADIANS", type := .double, accessFlags := 26, slot := 3, constantValue := 0 }, { name := "RADIANS_TO_DEGREES", type := .double, accessFlags := 26, slot := 4, constantValue := 0 }, { name := "negativeZeroFloatBits", type := .long, accessFlags := 26, slot := 5, constantValue := 0 }, { name := "negativeZeroDoubleBits", type := .long, accessFlags := 26, slot := 6, constantValue := 0 }, { name := "twoToTheDoubleScaleUp", type := .double, accessFlags := 8, slot := 7, constantValue := 0 }, { name := "twoToTheDoubleScaleDown", type := .double, accessFlags := 8, slot := 8, constantValue := 0 }, { name := "$assertionsDisabled", type := .boolean, accessFlags := 4120, slot := 9, constantValue := 0 }]
  methods := #[k3m0, k3m1]
  instanceTypes := #[]
  staticTypes := #[.double, .double, .double, .double, .double, .long, .long, .double, .double, .boolean]
  resolved := Array.replicate 460 none
  statics := none }

def pool4 : Array CpInfo := pool [(1, u "java/lang/Cloneable"), (0, .class_ 1), (0, u "java/lang/Object"), (0, .class_ 3)] 3

/-- java/lang/Cloneable -/
def k4 : Class := { plain "java/lang/Cloneable" (some 0) with
  accessFlags := 1537
  interfaces := #[]
  cf := some (fileOf pool4 2 #[] #[] 1537 4 #[] #[])
  fields := #[]
  methods := #[]
  instanceTypes := #[]
  staticTypes := #[]
  resolved := Array.replicate 8 none
  statics := none }

def pool5 : Array CpInfo := pool [(1, u "java/io/Serializable"), (0, .class_ 1), (0, u "java/lang/Object"), (0, .class_ 3)] 3

/-- java/io/Serializable -/
def k5 : Class := { plain "java/io/Serializable" (some 0) with
  accessFlags := 1537
  interfaces := #[]
  cf := some (fileOf pool5 2 #[] #[] 1537 4 #[] #[])
  fields := #[]
  methods := #[]
  instanceTypes := #[]
  staticTypes := #[]
  resolved := Array.replicate 8 none
  statics := none }

/-- the primitive byte -/
def k6 : Class := { plain "byte" none with kind := .primitive 'B', accessFlags := 0x411 }
/-- [B -/
def k7 : Class := { plain "[B" (some 0) with kind := .array 6 .byte, interfaces := #[4, 5], accessFlags := 1041 }

/-- the primitive int -/
def k8 : Class := { plain "int" none with kind := .primitive 'I', accessFlags := 0x411 }
/-- [I -/
def k9 : Class := { plain "[I" (some 0) with kind := .array 8 .int, interfaces := #[4, 5], accessFlags := 1041 }

def heap : Heap := #[]
def classes : Array Class := #[k0, k1, k2, k3, k4, k5, k6, k7, k8, k9]
def interned : List (Array UInt16 × Addr) := []
def slotsUsed : Nat := 0
def theMethod : MethodId := ⟨1, 4⟩
def args0 : Array Value := #[.int 9, .int 5, .int 7]
def aboutOver (below : List Frame) : State where
  vm := { classes := classes, interned := interned.toArray }
  heap := heap
  slotsUsed := slotsUsed
  threads := #[{ frames := .invoking theMethod args0 :: below }]
def below0 : List Frame := [.native { method := ⟨0, 0⟩, args := #[] }]
def about1 : State := aboutOver below0
def p0 : Program := .bare "" "" ""
def e0 : Env := launch0.env 0 0 0
theorem w_frames : about1.frames = Frame.invoking theMethod args0 :: below0 := rfl
set_option maxRecDepth 65536 in
theorem w_args : argsFit about1.vm theMethod args0 = true := by decide +kernel
set_option maxRecDepth 65536 in
theorem w_heap : heapFits about1 = true := by decide +kernel
set_option maxRecDepth 65536 in
theorem w_runnable : about1.curStatus? = some .runnable := by decide +kernel
set_option maxRecDepth 65536 in
theorem w_alone : about1.alone = true := by decide +kernel
set_option maxRecDepth 65536 in
theorem w_named : about1.methodNamed? x = some theMethod := by decide +kernel
set_option maxRecDepth 65536 in
theorem w_hears : about1.hears theMethod below0 = true := by decide +kernel
set_option maxRecDepth 65536 in
theorem w_ripe : about1.ripe theMethod args0 below0 = true := by decide +kernel
theorem w_running : about1.status = .running := rfl
set_option maxRecDepth 65536 in
theorem w_room : about1.hasRoom e0.platform room_1 = true :=
  launch0.hasRoom_least _ room_1 (by decide +kernel) (by decide +kernel) (by decide +kernel) (by decide +kernel) (by decide +kernel) (by decide +kernel)
theorem allAtoms_all (ts : List Jvm.Cond) (a : Array Jvm.Value) (st : Jvm.State) : (allAtoms ts).before a st = ts.all (fun c => c.before a st) := by
  induction ts with
  | nil => rfl
  | cons c t ih =>
    show (Jvm.Cond.and c (allAtoms t)).before a st = _
    rw [Jvm.Cond.before_and, ih, List.all_cons]
def words1 : List Jvm.Cond := Jvm.Cond.code x code maxLocals ret :: tables_1
/-- a 'code' word, met by the world's own term for the bytes: nothing is compared byte by byte -/
theorem code_word {y : MethodName} {bytes : ByteArray} {mx : Nat} {rt : Option FieldType} {a : Array Value} {s : State} {m : MethodId} {meth : Method} {c : Code} (h1 : s.methodNamed? y = some m) (h2 : s.vm.method? m = some meth) (h3 : meth.code = some c) (h4 : c.code = bytes)
    (h5 : (c.maxLocals == mx && c.exceptionTable.isEmpty && decide (c.maxStack ≤ mostOperands) && decide (meth.sig.returnType = rt) && !meth.locks && decide (parseMethodDescriptor y.desc = some meth.sig)) = true) : (Jvm.Cond.code y bytes mx rt).before a s = true := by
  simp only [Bool.and_eq_true, beq_iff_eq, Bool.not_eq_true', decide_eq_true_eq] at h5
  obtain ⟨⟨⟨⟨⟨g1, g2⟩, g3⟩, g4⟩, g5⟩, g6⟩ := h5
  simp [Cond.before, Cond.holds, Cond.value, h1, h2, h3, h4, g1, g2, g3, g4, g5, g6]
def isCode : Jvm.Cond → Bool
  | .code _ _ _ _ => true
  | _ => false
theorem all_split {L : List Jvm.Cond} {P : Jvm.Cond → Bool} (h1 : L.all (fun c => isCode c || P c) = true) (h2 : ∀ c ∈ L.filter isCode, P c = true) : L.all P = true := by
  refine List.all_eq_true.mpr fun c hc => ?_
  have h := List.all_eq_true.mp h1 c hc
  rcases Bool.eq_false_or_eq_true (isCode c) with hi | hi
  · exact h2 c (List.mem_filter.mpr ⟨hc, hi⟩)
  · simpa [hi] using h
set_option maxRecDepth 65536 in
theorem w_c0 : (Jvm.Cond.code x code maxLocals ret).before args0 about1 = true := code_word (m := ⟨1, 4⟩) (meth := k1m4) (c := k1c4) (by decide +kernel) rfl rfl rfl (by decide +kernel)
set_option maxRecDepth 65536 in
theorem w_c1 : (Jvm.Cond.code ({ cls := "com/example/reckon/reckon/xpath/StackSegments", name := "<init>", desc := "()V" } : Jvm.MethodName) prog_178_method_1_code (1 : Nat) (Option.none : Option Jvm.ClassFile.FieldType)).before args0 about1 = true := code_word (m := ⟨2, 0⟩) (meth := k2m0) (c := k2c0) (by decide +kernel) rfl rfl rfl (by decide +kernel)
set_option maxRecDepth 65536 in
theorem w_c2 : (Jvm.Cond.code ({ cls := "java/lang/Object", name := "<init>", desc := "()V" } : Jvm.MethodName) object_method_1_code (1 : Nat) (Option.none : Option Jvm.ClassFile.FieldType)).before args0 about1 = true := code_word (m := ⟨0, 0⟩) (meth := k0m0) (c := k0c0) (by decide +kernel) rfl rfl rfl (by decide +kernel)
set_option maxRecDepth 65536 in
theorem w_c3 : (Jvm.Cond.code ({ cls := "com/example/reckon/reckon/xpath/StackSegmentsEnterPinLaw", name := "one", desc := "(Lcom/example/reckon/reckon/xpath/StackSegments;I)Z" } : Jvm.MethodName) method_2_code (3 : Nat) (Option.some Jvm.ClassFile.FieldType.boolean)).before args0 about1 = true := code_word (m := ⟨1, 1⟩) (meth := k1m1) (c := k1c1) (by decide +kernel) rfl rfl rfl (by decide +kernel)
set_option maxRecDepth 65536 in
theorem w_c4 : (Jvm.Cond.code ({ cls := "com/example/reckon/reckon/xpath/StackSegments", name := "enter", desc := "()Z" } : Jvm.MethodName) prog_178_method_2_code (2 : Nat) (Option.some Jvm.ClassFile.FieldType.boolean)).before args0 about1 = true := code_word (m := ⟨2, 1⟩) (meth := k2m1) (c := k2c1) (by decide +kernel) rfl rfl rfl (by decide +kernel)
set_option maxRecDepth 65536 in
theorem w_c5 : (Jvm.Cond.code ({ cls := "java/lang/Math", name := "min", desc := "(II)I" } : Jvm.MethodName) jdk_29_method_69_code (2 : Nat) (Option.some Jvm.ClassFile.FieldType.int)).before args0 about1 = true := code_word (m := ⟨3, 1⟩) (meth := k3m1) (c := k3c1) (by decide +kernel) rfl rfl rfl (by decide +kernel)
set_option maxRecDepth 65536 in
theorem w_c6 : (Jvm.Cond.code ({ cls := "com/example/reckon/reckon/xpath/StackSegments", name := "hasRoomFor", desc := "(I)Z" } : Jvm.MethodName) prog_178_method_4_code (2 : Nat) (Option.some Jvm.ClassFile.FieldType.boolean)).before args0 about1 = true := code_word (m := ⟨2, 2⟩) (meth := k2m2) (c := k2c2) (by decide +kernel) rfl rfl rfl (by decide +kernel)
set_option maxRecDepth 65536 in
theorem w_c7 : (Jvm.Cond.code ({ cls := "com/example/reckon/reckon/xpath/StackSegmentsEnterPinLaw", name := "eight", desc := "(Lcom/example/reckon/reckon/xpath/StackSegments;I)Z" } : Jvm.MethodName) method_4_code (4 : Nat) (Option.some Jvm.ClassFile.FieldType.boolean)).before args0 about1 = true := code_word (m := ⟨1, 3⟩) (meth := k1m3) (c := k1c3) (by decide +kernel) rfl rfl rfl (by decide +kernel)
set_option maxRecDepth 65536 in
theorem w_c8 : (Jvm.Cond.code ({ cls := "com/example/reckon/reckon/xpath/StackSegmentsEnterPinLaw", name := "four", desc := "(Lcom/example/reckon/reckon/xpath/StackSegments;I)Z" } : Jvm.MethodName) method_3_code (6 : Nat) (Option.some Jvm.ClassFile.FieldType.boolean)).before args0 about1 = true := code_word (m := ⟨1, 2⟩) (meth := k1m2) (c := k1c2) (by decide +kernel) rfl rfl rfl (by decide +kernel)
def codes1 : List Jvm.Cond := [Jvm.Cond.code x code maxLocals ret, Jvm.Cond.code ({ cls := "com/example/reckon/reckon/xpath/StackSegments", name := "<init>", desc := "()V" } : Jvm.MethodName) prog_178_method_1_code (1 : Nat) (Option.none : Option Jvm.ClassFile.FieldType), Jvm.Cond.code ({ cls := "java/lang/Object", name := "<init>", desc := "()V" } : Jvm.MethodName) object_method_1_code (1 : Nat) (Option.none : Option Jvm.ClassFile.FieldType), Jvm.Cond.code ({ cls := "com/example/reckon/reckon/xpath/StackSegmentsEnterPinLaw", name := "one", desc := "(Lcom/example/reckon/reckon/xpath/StackSegments;I)Z" } : Jvm.MethodName) method_2_code (3 : Nat) (Option.some Jvm.ClassFile.FieldType.boolean), Jvm.Cond.code ({ cls := "com/example/reckon/reckon/xpath/StackSegments", name := "enter", desc := "()Z" } : Jvm.MethodName) prog_178_method_2_code (2 : Nat) (Option.some Jvm.ClassFile.FieldType.boolean), Jvm.Cond.code ({ cls := "java/lang/Math", name := "min", desc := "(II)I" } : Jvm.MethodName) jdk_29_method_69_code (2 : Nat) (Option.some Jvm.ClassFile.FieldType.int), Jvm.Cond.code ({ cls := "com/example/reckon/reckon/xpath/StackSegments", name := "hasRoomFor", desc := "(I)Z" } : Jvm.MethodName) prog_178_method_4_code (2 : Nat) (Option.some Jvm.ClassFile.FieldType.boolean), Jvm.Cond.code ({ cls := "com/example/reckon/reckon/xpath/StackSegmentsEnterPinLaw", name := "eight", desc := "(Lcom/example/reckon/reckon/xpath/StackSegments;I)Z" } : Jvm.MethodName) method_4_code (4 : Nat) (Option.some Jvm.ClassFile.FieldType.boolean), Jvm.Cond.code ({ cls := "com/example/reckon/reckon/xpath/StackSegmentsEnterPinLaw", name := "four", desc := "(Lcom/example/reckon/reckon/xpath/StackSegments;I)Z" } : Jvm.MethodName) method_3_code (6 : Nat) (Option.some Jvm.ClassFile.FieldType.boolean)]
set_option maxRecDepth 65536 in
theorem codes_eq : words1.filter isCode = codes1 := rfl
theorem w_codes : ∀ c ∈ words1.filter isCode, c.before args0 about1 = true := by
  rw [codes_eq]
  intro c hc
  simp only [codes1, List.mem_cons, List.not_mem_nil, or_false] at hc
  rcases hc with rfl | rfl | rfl | rfl | rfl | rfl | rfl | rfl | rfl
  · exact w_c0
  · exact w_c1
  · exact w_c2
  · exact w_c3
  · exact w_c4
  · exact w_c5
  · exact w_c6
  · exact w_c7
  · exact w_c8
set_option maxRecDepth 65536 in
theorem w_t1 : (words1.take 24).all (fun c => isCode c || c.before args0 about1) = true := by decide +kernel
set_option maxRecDepth 65536 in
theorem w_t2 : (words1.drop 24).all (fun c => isCode c || c.before args0 about1) = true := by decide +kernel
theorem w_tables : (allAtoms (Jvm.Cond.code x code maxLocals ret :: tables_1)).before args0 about1 = true := by
  rw [allAtoms_all]
  show words1.all (fun c => c.before args0 about1) = true
  refine all_split ?_ w_codes
  rw [← List.take_append_drop 24 words1, List.all_append, w_t1, w_t2]
  rfl
set_option maxRecDepth 65536 in
theorem w_case : (Jvm.Cond.and given_1 narrow_1).before args0 about1 = true := by decide +kernel
theorem w_applies : (headSpec (Jvm.Cond.code x code maxLocals ret :: tables_1) room_1).applies x e0.platform about1 = true :=
  (Spec.applies_iff w_frames).mpr ⟨w_running, w_runnable, w_alone, w_named, w_hears, w_ripe, w_room, w_tables⟩
theorem atStart : AtStart classFile x code maxLocals ret World_1 tables_1 room_1 Calls_1 rest_1 Pre_1 launch0 p0 e0 about1 theMethod args0 below0 :=
  ⟨lists_1, trivial, launch0.admits_env _ _ _, launch0.least_env, fairChoices_fair.cas, fairChoices_fair.clock, w_frames, w_args, w_heap, w_applies, trivial, trivial, w_case⟩
end start1
theorem witness_1 : WitnessClaimed_1 := ⟨start1.p0, start1.e0, start1.about1, start1.theMethod, start1.args0, start1.below0, start1.atStart⟩
end Jvm.Pilot.@@N@@
