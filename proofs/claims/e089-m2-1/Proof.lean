import JvmDerived
import JvmDerived.Pilot.@@N@@Statement
import JvmDerived.Pilot.@@N@@Code
set_option linter.unusedVariables false
set_option linter.unusedSimpArgs false
namespace Jvm.RoadKit
open Sem ClassFile Op Lib Jvm.Stand Jvm.Free Jvm.LawKit
section New
variable {p : Program} {l : Launch} {e : Env} {R : Room} {s : State} {m : MethodId} {args : Array Value} {below : List Frame} {meth : Method} {c : Code} {T : State} {locs : List Loc} {cells slots : Nat}
theorem retI (X : Stand p l e R s m args below meth c T locs cells slots) (hx : p.tables.exec = Jvm.exec) {pc : Nat} {Ls : Array Slot} {z : Int32} {rest : List Value} (hret : meth.sig.returnType = some .int) (hd : decode c.code pc = .ok (.ireturn, 1)) {fs : List Frame}
    (hl : ∀ (f : JFrame) (acts : List Action), f.method = m → f.locked = none → f.entered = [] → (doReturn e (T.setTop f) acts (some (.int z))).1 = T.setFrames fs) : Steps p.tables e below (T.setTop (mkF m pc Ls (.int z :: rest))) (T.setFrames fs) := by
  have hm' : T.vm.method? m = some meth := X.method'
  have hn : narrow .int (.int z) = .int z := rfl
  show Steps p.tables e below (T.setTop { method := m, pc := pc, locals := Ls, stack := _ :: rest, locked := none }) _
  jvm_step X.here [X.here.top, hx, hd, hm', hret, hn]
  first | (intro acts; rw [hl _ acts rfl rfl rfl]) | rw [hl _ _ rfl rfl rfl]
  exact Steps.refl _
end New
end Jvm.RoadKit
namespace Jvm.Pilot.@@N@@
open Jvm Jvm.ClassFile Sem Op Lib Jvm.Free Jvm.Stand Jvm.LawKit Jvm.RoadKit Bundle Jvm.Pilot.@@N@@.Jvm.D
/-- a body that leaves the heap as it was and returns w -/
def QP (w : Option Value) (h0 : Heap) (n0 : Nat) (v : Option Value) (h : Heap) (L : List Loc) : Prop := v = w ∧ Fr n0 L ∧ h = h0
theorem pd_0 : parseMethodDescriptor "(I)I" = some ⟨[.int], some .int⟩ := by decide +kernel
theorem pd_1 : parseMethodDescriptor "(II)I" = some ⟨[.int, .int], some .int⟩ := by decide +kernel
def own_truth (p0 : Int32) : Int32 := (if ((p0 &&& (2147483647 : Int32)) % (3 : Int32)) = (0 : Int32) then (1 : Int32) else (if ((p0 &&& (2147483647 : Int32)) % (3 : Int32)) = (1 : Int32) then (2 : Int32) else (3 : Int32)))
theorem d1_0 : decode method_3_code 0 = .ok (.iload_n 0, 1) := by decide +kernel
theorem d1_1 : decode method_3_code 1 = .ok (.ldc 9, 2) := by decide +kernel
theorem d1_3 : decode method_3_code 3 = .ok (.iand, 1) := by decide +kernel
theorem d1_4 : decode method_3_code 4 = .ok (.iconst 3, 1) := by decide +kernel
theorem d1_5 : decode method_3_code 5 = .ok (.irem, 1) := by decide +kernel
theorem d1_6 : decode method_3_code 6 = .ok (.istore_n 1, 1) := by decide +kernel
theorem d1_7 : decode method_3_code 7 = .ok (.iload_n 1, 1) := by decide +kernel
theorem d1_8 : decode method_3_code 8 = .ok (.ifCond .ne 5, 3) := by decide +kernel
theorem d1_11 : decode method_3_code 11 = .ok (.iconst 1, 1) := by decide +kernel
theorem d1_12 : decode method_3_code 12 = .ok (.ireturn, 1) := by decide +kernel
theorem d1_13 : decode method_3_code 13 = .ok (.iload_n 1, 1) := by decide +kernel
theorem d1_14 : decode method_3_code 14 = .ok (.iconst 1, 1) := by decide +kernel
theorem d1_15 : decode method_3_code 15 = .ok (.if_icmp .ne 5, 3) := by decide +kernel
theorem d1_18 : decode method_3_code 18 = .ok (.iconst 2, 1) := by decide +kernel
theorem d1_19 : decode method_3_code 19 = .ok (.ireturn, 1) := by decide +kernel
theorem d1_20 : decode method_3_code 20 = .ok (.iconst 3, 1) := by decide +kernel
theorem d1_21 : decode method_3_code 21 = .ok (.ireturn, 1) := by decide +kernel
theorem pn_1 : plainName "com/example/austere_token/austeretoken/semantics/HoldsBothPinLaw" = true := by first | (simp [plainName, overriddenIn]; done) | decide +kernel
theorem ef_1 (m : MethodId) (p0 : Int32) : entryFrame m #[(.int p0)] 2 = mkF m 0 #[.val (.int p0), .unset] [] := by first | (simp [entryFrame, mkF, argsToLocals, Value.category]; done) | rfl
set_option maxRecDepth 65536 in
set_option maxHeartbeats 40000000 in
theorem rm1 (l : Launch) (Z : State) (a0 : Array Value) (hw : ∀ d ∈ tables_1, d.before a0 Z = true) (ws : List Jvm.Cond) (p0 : Int32) (h0 : Heap) (n0 : Nat) :
    MetFree l (⟨"com/example/austere_token/austeretoken/semantics/HoldsBothPinLaw", "truthOf", "(I)I"⟩ : MethodName) (head1 (Jvm.Cond.code (⟨"com/example/austere_token/austeretoken/semantics/HoldsBothPinLaw", "truthOf", "(I)I"⟩ : MethodName) method_3_code 2 (some .int) :: ws) ({ frames := 0, cells := 0, slots := 0, locals := 0 } : Room)) (fun a U => a = #[(.int p0)] ∧ Z.Warmed39 U.vm ∧ U.heap = h0) (fun _ _ _ _ _ => True) (fun _ U o U' => ∃ v L, o = .returned v ∧ QP (some (.int (own_truth p0))) h0 n0 v U'.heap L ∧ FrameEnd U o U' L ({ frames := 0, cells := 0, slots := 0, locals := 0 } : Room).cells ({ frames := 0, cells := 0, slots := 0, locals := 0 } : Room).slots) := by
  refine MetFree.of_bodySF (plainFor_of_name pn_1) hisR ?_
  intro p e s m args below meth c s₁ Bd hml0 hP hK
  obtain ⟨rfl, hZ, hh⟩ := hP
  have hx := Bd.exec
  have hby := Bd.bytes
  have hml : c.maxLocals = 2 := hml0
  have hown : s.vm.findClass "com/example/austere_token/austeretoken/semantics/HoldsBothPinLaw" = some m.cls := findClass_of_methodNamed Bd.named
  have hnm := (name_of_methodNamed Bd.named Bd.method).1
  have X0 : Stand p l e ({ frames := 0, cells := 0, slots := 0, locals := 0 } : Room) s m #[(.int p0)] below meth c s₁ [] 0 0 := Stand.of_body Bd
  have e0 : s₁.heap = h0 := by rw [← hh, Bd.state]; rfl
  have N0 := Fr.nil n0
  have go0 : ∀ t, Steps p.tables e below (s₁.setTop (mkF m 0 #[.val (.int p0), .unset] [])) t → Steps p.tables e below (s₁.setTop (entryFrame m #[(.int p0)] 2)) t := fun t k => castTop (ef_1 m p0) k
  have go1 : ∀ t, Steps p.tables e below (s₁.setTop (mkF m 8 #[.val (.int p0), .val (.int ((p0 &&& (2147483647 : Int32)) % (3 : Int32)))] [(.int ((p0 &&& (2147483647 : Int32)) % (3 : Int32)))])) t → Steps p.tables e below (s₁.setTop (entryFrame m #[(.int p0)] 2)) t := fun t kt => go0 t (by
      refine XS.iloadN X0.here hx rfl (hb hby d1_0) rfl ?_
      show Steps p.tables e below (s₁.setTop (mkF m 1 #[.val (.int p0), .unset] [(.int p0)])) _
      refine X0.ldcInt hx hown (mvT hZ (hw _ (List.mem_of_getElem? (i := 4) rfl))) (g := (mkF m 1 #[.val (.int p0), .unset] [(.int p0)])) rfl (hb hby d1_1) _ ?_
      show Steps p.tables e below (s₁.setTop (mkF m 3 #[.val (.int p0), .unset] [(.int (2147483647 : Int32)), (.int p0)])) _
      refine XS.iand X0.here hx rfl (hb hby d1_3) rfl ?_
      show Steps p.tables e below (s₁.setTop (mkF m 4 #[.val (.int p0), .unset] [(.int (p0 &&& (2147483647 : Int32)))])) _
      refine XS.iconst X0.here hx rfl (hb hby d1_4) ?_
      show Steps p.tables e below (s₁.setTop (mkF m 5 #[.val (.int p0), .unset] [(.int (3 : Int32)), (.int (p0 &&& (2147483647 : Int32)))])) _
      refine iremM X0 hx rfl (hb hby d1_5) rfl (by decide) ?_
      show Steps p.tables e below (s₁.setTop (mkF m 6 #[.val (.int p0), .unset] [(.int ((p0 &&& (2147483647 : Int32)) % (3 : Int32)))])) _
      refine XS.istoreN X0.here hx rfl (hb hby d1_6) rfl (l' := #[.val (.int p0), .val (.int ((p0 &&& (2147483647 : Int32)) % (3 : Int32)))]) rfl ?_
      show Steps p.tables e below (s₁.setTop (mkF m 7 #[.val (.int p0), .val (.int ((p0 &&& (2147483647 : Int32)) % (3 : Int32)))] [])) _
      refine XS.iloadN X0.here hx rfl (hb hby d1_7) rfl ?_
      show Steps p.tables e below (s₁.setTop (mkF m 8 #[.val (.int p0), .val (.int ((p0 &&& (2147483647 : Int32)) % (3 : Int32)))] [(.int ((p0 &&& (2147483647 : Int32)) % (3 : Int32)))])) _
      exact kt)
  by_cases hc8_2 : ((p0 &&& (2147483647 : Int32)) % (3 : Int32)) = (0 : Int32)
  · have go3 : ∀ t, Steps p.tables e below (s₁.setTop (mkF m 12 #[.val (.int p0), .val (.int ((p0 &&& (2147483647 : Int32)) % (3 : Int32)))] [(.int (1 : Int32))])) t → Steps p.tables e below (s₁.setTop (entryFrame m #[(.int p0)] 2)) t := fun t kt => go1 t (by
        refine XS.ifNo X0.here hx rfl (hb hby d1_8) rfl ((if0 _ _).trans (teq hc8_2).2) ?_
        show Steps p.tables e below (s₁.setTop (mkF m 11 #[.val (.int p0), .val (.int ((p0 &&& (2147483647 : Int32)) % (3 : Int32)))] [])) _
        refine XS.iconst X0.here hx rfl (hb hby d1_11) ?_
        show Steps p.tables e below (s₁.setTop (mkF m 12 #[.val (.int p0), .val (.int ((p0 &&& (2147483647 : Int32)) % (3 : Int32)))] [(.int (1 : Int32))])) _
        exact kt)
    obtain ⟨fs, hr, hrun, hended, hW, hsame⟩ := X0.leave (v := some (.int (1 : Int32))) (fun h => by rw [Bd.returns] at h; cases h)
    refine ⟨_, _, go3 _ (retI X0 hx Bd.returns (hb hby d1_12) hr), hrun, hended, _, _, rfl, ?_, ⟨_, rfl⟩, hW, hsame.mono (by decide) (by decide)⟩
    refine ⟨?_, N0, e0⟩
    show some (Value.int (1 : Int32)) = some (.int (own_truth p0))
    unfold own_truth
    rw [if_pos hc8_2]
  · have go4 : ∀ t, Steps p.tables e below (s₁.setTop (mkF m 15 #[.val (.int p0), .val (.int ((p0 &&& (2147483647 : Int32)) % (3 : Int32)))] [(.int (1 : Int32)), (.int ((p0 &&& (2147483647 : Int32)) % (3 : Int32)))])) t → Steps p.tables e below (s₁.setTop (entryFrame m #[(.int p0)] 2)) t := fun t kt => go1 t (by
        refine XS.ifYes X0.here hx rfl (pc0 := 8) (pc' := 13) rfl (hb hby d1_8) rfl ((if0 _ _).trans (feq hc8_2).2) (by decide) (by decide) ?_
        show Steps p.tables e below (s₁.setTop (mkF m 13 #[.val (.int p0), .val (.int ((p0 &&& (2147483647 : Int32)) % (3 : Int32)))] [])) _
        refine XS.iloadN X0.here hx rfl (hb hby d1_13) rfl ?_
        show Steps p.tables e below (s₁.setTop (mkF m 14 #[.val (.int p0), .val (.int ((p0 &&& (2147483647 : Int32)) % (3 : Int32)))] [(.int ((p0 &&& (2147483647 : Int32)) % (3 : Int32)))])) _
        refine XS.iconst X0.here hx rfl (hb hby d1_14) ?_
        show Steps p.tables e below (s₁.setTop (mkF m 15 #[.val (.int p0), .val (.int ((p0 &&& (2147483647 : Int32)) % (3 : Int32)))] [(.int (1 : Int32)), (.int ((p0 &&& (2147483647 : Int32)) % (3 : Int32)))])) _
        exact kt)
    by_cases hc15_5 : ((p0 &&& (2147483647 : Int32)) % (3 : Int32)) = (1 : Int32)
    · have go6 : ∀ t, Steps p.tables e below (s₁.setTop (mkF m 19 #[.val (.int p0), .val (.int ((p0 &&& (2147483647 : Int32)) % (3 : Int32)))] [(.int (2 : Int32))])) t → Steps p.tables e below (s₁.setTop (entryFrame m #[(.int p0)] 2)) t := fun t kt => go4 t (by
          refine XS.icmpNo X0.here hx rfl (hb hby d1_15) rfl (teq hc15_5).2 ?_
          show Steps p.tables e below (s₁.setTop (mkF m 18 #[.val (.int p0), .val (.int ((p0 &&& (2147483647 : Int32)) % (3 : Int32)))] [])) _
          refine XS.iconst X0.here hx rfl (hb hby d1_18) ?_
          show Steps p.tables e below (s₁.setTop (mkF m 19 #[.val (.int p0), .val (.int ((p0 &&& (2147483647 : Int32)) % (3 : Int32)))] [(.int (2 : Int32))])) _
          exact kt)
      obtain ⟨fs, hr, hrun, hended, hW, hsame⟩ := X0.leave (v := some (.int (2 : Int32))) (fun h => by rw [Bd.returns] at h; cases h)
      refine ⟨_, _, go6 _ (retI X0 hx Bd.returns (hb hby d1_19) hr), hrun, hended, _, _, rfl, ?_, ⟨_, rfl⟩, hW, hsame.mono (by decide) (by decide)⟩
      refine ⟨?_, N0, e0⟩
      show some (Value.int (2 : Int32)) = some (.int (own_truth p0))
      unfold own_truth
      rw [if_neg hc8_2, if_pos hc15_5]
    · have go7 : ∀ t, Steps p.tables e below (s₁.setTop (mkF m 21 #[.val (.int p0), .val (.int ((p0 &&& (2147483647 : Int32)) % (3 : Int32)))] [(.int (3 : Int32))])) t → Steps p.tables e below (s₁.setTop (entryFrame m #[(.int p0)] 2)) t := fun t kt => go4 t (by
          refine XS.icmpYes X0.here hx rfl (pc0 := 15) (pc' := 20) rfl (hb hby d1_15) rfl (feq hc15_5).2 (by decide) (by decide) ?_
          show Steps p.tables e below (s₁.setTop (mkF m 20 #[.val (.int p0), .val (.int ((p0 &&& (2147483647 : Int32)) % (3 : Int32)))] [])) _
          refine XS.iconst X0.here hx rfl (hb hby d1_20) ?_
          show Steps p.tables e below (s₁.setTop (mkF m 21 #[.val (.int p0), .val (.int ((p0 &&& (2147483647 : Int32)) % (3 : Int32)))] [(.int (3 : Int32))])) _
          exact kt)
      obtain ⟨fs, hr, hrun, hended, hW, hsame⟩ := X0.leave (v := some (.int (3 : Int32))) (fun h => by rw [Bd.returns] at h; cases h)
      refine ⟨_, _, go7 _ (retI X0 hx Bd.returns (hb hby d1_21) hr), hrun, hended, _, _, rfl, ?_, ⟨_, rfl⟩, hW, hsame.mono (by decide) (by decide)⟩
      refine ⟨?_, N0, e0⟩
      show some (Value.int (3 : Int32)) = some (.int (own_truth p0))
      unfold own_truth
      rw [if_neg hc8_2, if_neg hc15_5]
def own_rank (p0 : Int32) : Int32 := (if p0 = (1 : Int32) then (0 : Int32) else (if p0 = (3 : Int32) then (1 : Int32) else (2 : Int32)))
theorem d2_0 : decode method_2_code 0 = .ok (.iload_n 0, 1) := by decide +kernel
theorem d2_1 : decode method_2_code 1 = .ok (.iconst 1, 1) := by decide +kernel
theorem d2_2 : decode method_2_code 2 = .ok (.if_icmp .ne 5, 3) := by decide +kernel
theorem d2_5 : decode method_2_code 5 = .ok (.iconst 0, 1) := by decide +kernel
theorem d2_6 : decode method_2_code 6 = .ok (.ireturn, 1) := by decide +kernel
theorem d2_7 : decode method_2_code 7 = .ok (.iload_n 0, 1) := by decide +kernel
theorem d2_8 : decode method_2_code 8 = .ok (.iconst 3, 1) := by decide +kernel
theorem d2_9 : decode method_2_code 9 = .ok (.if_icmp .ne 5, 3) := by decide +kernel
theorem d2_12 : decode method_2_code 12 = .ok (.iconst 1, 1) := by decide +kernel
theorem d2_13 : decode method_2_code 13 = .ok (.ireturn, 1) := by decide +kernel
theorem d2_14 : decode method_2_code 14 = .ok (.iconst 2, 1) := by decide +kernel
theorem d2_15 : decode method_2_code 15 = .ok (.ireturn, 1) := by decide +kernel
theorem pn_2 : plainName "com/example/austere_token/austeretoken/semantics/HoldsBothPinLaw" = true := by first | (simp [plainName, overriddenIn]; done) | decide +kernel
theorem ef_2 (m : MethodId) (p0 : Int32) : entryFrame m #[(.int p0)] 1 = mkF m 0 #[.val (.int p0)] [] := by first | (simp [entryFrame, mkF, argsToLocals, Value.category]; done) | rfl
set_option maxRecDepth 65536 in
set_option maxHeartbeats 40000000 in
theorem rm2 (l : Launch) (Z : State) (a0 : Array Value) (hw : ∀ d ∈ tables_1, d.before a0 Z = true) (ws : List Jvm.Cond) (p0 : Int32) (h0 : Heap) (n0 : Nat) :
    MetFree l (⟨"com/example/austere_token/austeretoken/semantics/HoldsBothPinLaw", "rank", "(I)I"⟩ : MethodName) (head1 (Jvm.Cond.code (⟨"com/example/austere_token/austeretoken/semantics/HoldsBothPinLaw", "rank", "(I)I"⟩ : MethodName) method_2_code 1 (some .int) :: ws) ({ frames := 0, cells := 0, slots := 0, locals := 0 } : Room)) (fun a U => a = #[(.int p0)] ∧ Z.Warmed39 U.vm ∧ U.heap = h0) (fun _ _ _ _ _ => True) (fun _ U o U' => ∃ v L, o = .returned v ∧ QP (some (.int (own_rank p0))) h0 n0 v U'.heap L ∧ FrameEnd U o U' L ({ frames := 0, cells := 0, slots := 0, locals := 0 } : Room).cells ({ frames := 0, cells := 0, slots := 0, locals := 0 } : Room).slots) := by
  refine MetFree.of_bodySF (plainFor_of_name pn_2) hisR ?_
  intro p e s m args below meth c s₁ Bd hml0 hP hK
  obtain ⟨rfl, hZ, hh⟩ := hP
  have hx := Bd.exec
  have hby := Bd.bytes
  have hml : c.maxLocals = 1 := hml0
  have hown : s.vm.findClass "com/example/austere_token/austeretoken/semantics/HoldsBothPinLaw" = some m.cls := findClass_of_methodNamed Bd.named
  have hnm := (name_of_methodNamed Bd.named Bd.method).1
  have X0 : Stand p l e ({ frames := 0, cells := 0, slots := 0, locals := 0 } : Room) s m #[(.int p0)] below meth c s₁ [] 0 0 := Stand.of_body Bd
  have e0 : s₁.heap = h0 := by rw [← hh, Bd.state]; rfl
  have N0 := Fr.nil n0
  have go0 : ∀ t, Steps p.tables e below (s₁.setTop (mkF m 0 #[.val (.int p0)] [])) t → Steps p.tables e below (s₁.setTop (entryFrame m #[(.int p0)] 1)) t := fun t k => castTop (ef_2 m p0) k
  have go1 : ∀ t, Steps p.tables e below (s₁.setTop (mkF m 2 #[.val (.int p0)] [(.int (1 : Int32)), (.int p0)])) t → Steps p.tables e below (s₁.setTop (entryFrame m #[(.int p0)] 1)) t := fun t kt => go0 t (by
      refine XS.iloadN X0.here hx rfl (hb hby d2_0) rfl ?_
      show Steps p.tables e below (s₁.setTop (mkF m 1 #[.val (.int p0)] [(.int p0)])) _
      refine XS.iconst X0.here hx rfl (hb hby d2_1) ?_
      show Steps p.tables e below (s₁.setTop (mkF m 2 #[.val (.int p0)] [(.int (1 : Int32)), (.int p0)])) _
      exact kt)
  by_cases hc2_2 : p0 = (1 : Int32)
  · have go3 : ∀ t, Steps p.tables e below (s₁.setTop (mkF m 6 #[.val (.int p0)] [(.int (0 : Int32))])) t → Steps p.tables e below (s₁.setTop (entryFrame m #[(.int p0)] 1)) t := fun t kt => go1 t (by
        refine XS.icmpNo X0.here hx rfl (hb hby d2_2) rfl (teq hc2_2).2 ?_
        show Steps p.tables e below (s₁.setTop (mkF m 5 #[.val (.int p0)] [])) _
        refine XS.iconst X0.here hx rfl (hb hby d2_5) ?_
        show Steps p.tables e below (s₁.setTop (mkF m 6 #[.val (.int p0)] [(.int (0 : Int32))])) _
        exact kt)
    obtain ⟨fs, hr, hrun, hended, hW, hsame⟩ := X0.leave (v := some (.int (0 : Int32))) (fun h => by rw [Bd.returns] at h; cases h)
    refine ⟨_, _, go3 _ (retI X0 hx Bd.returns (hb hby d2_6) hr), hrun, hended, _, _, rfl, ?_, ⟨_, rfl⟩, hW, hsame.mono (by decide) (by decide)⟩
    refine ⟨?_, N0, e0⟩
    show some (Value.int (0 : Int32)) = some (.int (own_rank p0))
    unfold own_rank
    rw [if_pos hc2_2]
  · have go4 : ∀ t, Steps p.tables e below (s₁.setTop (mkF m 9 #[.val (.int p0)] [(.int (3 : Int32)), (.int p0)])) t → Steps p.tables e below (s₁.setTop (entryFrame m #[(.int p0)] 1)) t := fun t kt => go1 t (by
        refine XS.icmpYes X0.here hx rfl (pc0 := 2) (pc' := 7) rfl (hb hby d2_2) rfl (feq hc2_2).2 (by decide) (by decide) ?_
        show Steps p.tables e below (s₁.setTop (mkF m 7 #[.val (.int p0)] [])) _
        refine XS.iloadN X0.here hx rfl (hb hby d2_7) rfl ?_
        show Steps p.tables e below (s₁.setTop (mkF m 8 #[.val (.int p0)] [(.int p0)])) _
        refine XS.iconst X0.here hx rfl (hb hby d2_8) ?_
        show Steps p.tables e below (s₁.setTop (mkF m 9 #[.val (.int p0)] [(.int (3 : Int32)), (.int p0)])) _
        exact kt)
    by_cases hc9_5 : p0 = (3 : Int32)
    · have go6 : ∀ t, Steps p.tables e below (s₁.setTop (mkF m 13 #[.val (.int p0)] [(.int (1 : Int32))])) t → Steps p.tables e below (s₁.setTop (entryFrame m #[(.int p0)] 1)) t := fun t kt => go4 t (by
          refine XS.icmpNo X0.here hx rfl (hb hby d2_9) rfl (teq hc9_5).2 ?_
          show Steps p.tables e below (s₁.setTop (mkF m 12 #[.val (.int p0)] [])) _
          refine XS.iconst X0.here hx rfl (hb hby d2_12) ?_
          show Steps p.tables e below (s₁.setTop (mkF m 13 #[.val (.int p0)] [(.int (1 : Int32))])) _
          exact kt)
      obtain ⟨fs, hr, hrun, hended, hW, hsame⟩ := X0.leave (v := some (.int (1 : Int32))) (fun h => by rw [Bd.returns] at h; cases h)
      refine ⟨_, _, go6 _ (retI X0 hx Bd.returns (hb hby d2_13) hr), hrun, hended, _, _, rfl, ?_, ⟨_, rfl⟩, hW, hsame.mono (by decide) (by decide)⟩
      refine ⟨?_, N0, e0⟩
      show some (Value.int (1 : Int32)) = some (.int (own_rank p0))
      unfold own_rank
      rw [if_neg hc2_2, if_pos hc9_5]
    · have go7 : ∀ t, Steps p.tables e below (s₁.setTop (mkF m 15 #[.val (.int p0)] [(.int (2 : Int32))])) t → Steps p.tables e below (s₁.setTop (entryFrame m #[(.int p0)] 1)) t := fun t kt => go4 t (by
          refine XS.icmpYes X0.here hx rfl (pc0 := 9) (pc' := 14) rfl (hb hby d2_9) rfl (feq hc9_5).2 (by decide) (by decide) ?_
          show Steps p.tables e below (s₁.setTop (mkF m 14 #[.val (.int p0)] [])) _
          refine XS.iconst X0.here hx rfl (hb hby d2_14) ?_
          show Steps p.tables e below (s₁.setTop (mkF m 15 #[.val (.int p0)] [(.int (2 : Int32))])) _
          exact kt)
      obtain ⟨fs, hr, hrun, hended, hW, hsame⟩ := X0.leave (v := some (.int (2 : Int32))) (fun h => by rw [Bd.returns] at h; cases h)
      refine ⟨_, _, go7 _ (retI X0 hx Bd.returns (hb hby d2_15) hr), hrun, hended, _, _, rfl, ?_, ⟨_, rfl⟩, hW, hsame.mono (by decide) (by decide)⟩
      refine ⟨?_, N0, e0⟩
      show some (Value.int (2 : Int32)) = some (.int (own_rank p0))
      unfold own_rank
      rw [if_neg hc2_2, if_neg hc9_5]
def own_both (p0 : Int32) (p1 : Int32) : Int32 := (if p0 = (2 : Int32) then (2 : Int32) else (if p1 = (2 : Int32) then (2 : Int32) else (if p0 = (1 : Int32) then (if p1 = (1 : Int32) then (1 : Int32) else (3 : Int32)) else (3 : Int32))))
theorem d3_0 : decode prog_94_method_21_code 0 = .ok (.iload_n 0, 1) := by decide +kernel
theorem d3_1 : decode prog_94_method_21_code 1 = .ok (.iconst 2, 1) := by decide +kernel
theorem d3_2 : decode prog_94_method_21_code 2 = .ok (.if_icmp .eq 8, 3) := by decide +kernel
theorem d3_5 : decode prog_94_method_21_code 5 = .ok (.iload_n 1, 1) := by decide +kernel
theorem d3_6 : decode prog_94_method_21_code 6 = .ok (.iconst 2, 1) := by decide +kernel
theorem d3_7 : decode prog_94_method_21_code 7 = .ok (.if_icmp .ne 5, 3) := by decide +kernel
theorem d3_10 : decode prog_94_method_21_code 10 = .ok (.iconst 2, 1) := by decide +kernel
theorem d3_11 : decode prog_94_method_21_code 11 = .ok (.ireturn, 1) := by decide +kernel
theorem d3_12 : decode prog_94_method_21_code 12 = .ok (.iload_n 0, 1) := by decide +kernel
theorem d3_13 : decode prog_94_method_21_code 13 = .ok (.iconst 1, 1) := by decide +kernel
theorem d3_14 : decode prog_94_method_21_code 14 = .ok (.if_icmp .ne 12, 3) := by decide +kernel
theorem d3_17 : decode prog_94_method_21_code 17 = .ok (.iload_n 1, 1) := by decide +kernel
theorem d3_18 : decode prog_94_method_21_code 18 = .ok (.iconst 1, 1) := by decide +kernel
theorem d3_19 : decode prog_94_method_21_code 19 = .ok (.if_icmp .ne 7, 3) := by decide +kernel
theorem d3_22 : decode prog_94_method_21_code 22 = .ok (.iconst 1, 1) := by decide +kernel
theorem d3_23 : decode prog_94_method_21_code 23 = .ok (.goto 4, 3) := by decide +kernel
theorem d3_26 : decode prog_94_method_21_code 26 = .ok (.iconst 3, 1) := by decide +kernel
theorem d3_27 : decode prog_94_method_21_code 27 = .ok (.ireturn, 1) := by decide +kernel
theorem pn_3 : plainName "com/example/austere_token/austeretoken/semantics/Holds" = true := by first | (simp [plainName, overriddenIn]; done) | decide +kernel
theorem ef_3 (m : MethodId) (p0 : Int32) (p1 : Int32) : entryFrame m #[(.int p0), (.int p1)] 2 = mkF m 0 #[.val (.int p0), .val (.int p1)] [] := by first | (simp [entryFrame, mkF, argsToLocals, Value.category]; done) | rfl
set_option maxRecDepth 65536 in
set_option maxHeartbeats 40000000 in
theorem rm3 (l : Launch) (Z : State) (a0 : Array Value) (hw : ∀ d ∈ tables_1, d.before a0 Z = true) (ws : List Jvm.Cond) (p0 : Int32) (p1 : Int32) (h0 : Heap) (n0 : Nat) :
    MetFree l (⟨"com/example/austere_token/austeretoken/semantics/Holds", "both", "(II)I"⟩ : MethodName) (head1 (Jvm.Cond.code (⟨"com/example/austere_token/austeretoken/semantics/Holds", "both", "(II)I"⟩ : MethodName) prog_94_method_21_code 2 (some .int) :: ws) ({ frames := 0, cells := 0, slots := 0, locals := 0 } : Room)) (fun a U => a = #[(.int p0), (.int p1)] ∧ Z.Warmed39 U.vm ∧ U.heap = h0) (fun _ _ _ _ _ => True) (fun _ U o U' => ∃ v L, o = .returned v ∧ QP (some (.int (own_both p0 p1))) h0 n0 v U'.heap L ∧ FrameEnd U o U' L ({ frames := 0, cells := 0, slots := 0, locals := 0 } : Room).cells ({ frames := 0, cells := 0, slots := 0, locals := 0 } : Room).slots) := by
  refine MetFree.of_bodySF (plainFor_of_name pn_3) hisR ?_
  intro p e s m args below meth c s₁ Bd hml0 hP hK
  obtain ⟨rfl, hZ, hh⟩ := hP
  have hx := Bd.exec
  have hby := Bd.bytes
  have hml : c.maxLocals = 2 := hml0
  have hown : s.vm.findClass "com/example/austere_token/austeretoken/semantics/Holds" = some m.cls := findClass_of_methodNamed Bd.named
  have hnm := (name_of_methodNamed Bd.named Bd.method).1
  have X0 : Stand p l e ({ frames := 0, cells := 0, slots := 0, locals := 0 } : Room) s m #[(.int p0), (.int p1)] below meth c s₁ [] 0 0 := Stand.of_body Bd
  have e0 : s₁.heap = h0 := by rw [← hh, Bd.state]; rfl
  have N0 := Fr.nil n0
  have go0 : ∀ t, Steps p.tables e below (s₁.setTop (mkF m 0 #[.val (.int p0), .val (.int p1)] [])) t → Steps p.tables e below (s₁.setTop (entryFrame m #[(.int p0), (.int p1)] 2)) t := fun t k => castTop (ef_3 m p0 p1) k
  have go1 : ∀ t, Steps p.tables e below (s₁.setTop (mkF m 2 #[.val (.int p0), .val (.int p1)] [(.int (2 : Int32)), (.int p0)])) t → Steps p.tables e below (s₁.setTop (entryFrame m #[(.int p0), (.int p1)] 2)) t := fun t kt => go0 t (by
      refine XS.iloadN X0.here hx rfl (hb hby d3_0) rfl ?_
      show Steps p.tables e below (s₁.setTop (mkF m 1 #[.val (.int p0), .val (.int p1)] [(.int p0)])) _
      refine XS.iconst X0.here hx rfl (hb hby d3_1) ?_
      show Steps p.tables e below (s₁.setTop (mkF m 2 #[.val (.int p0), .val (.int p1)] [(.int (2 : Int32)), (.int p0)])) _
      exact kt)
  by_cases hc2_2 : p0 = (2 : Int32)
  · have go3 : ∀ t, Steps p.tables e below (s₁.setTop (mkF m 11 #[.val (.int p0), .val (.int p1)] [(.int (2 : Int32))])) t → Steps p.tables e below (s₁.setTop (entryFrame m #[(.int p0), (.int p1)] 2)) t := fun t kt => go1 t (by
        refine XS.icmpYes X0.here hx rfl (pc0 := 2) (pc' := 10) rfl (hb hby d3_2) rfl (teq hc2_2).1 (by decide) (by decide) ?_
        show Steps p.tables e below (s₁.setTop (mkF m 10 #[.val (.int p0), .val (.int p1)] [])) _
        refine XS.iconst X0.here hx rfl (hb hby d3_10) ?_
        show Steps p.tables e below (s₁.setTop (mkF m 11 #[.val (.int p0), .val (.int p1)] [(.int (2 : Int32))])) _
        exact kt)
    obtain ⟨fs, hr, hrun, hended, hW, hsame⟩ := X0.leave (v := some (.int (2 : Int32))) (fun h => by rw [Bd.returns] at h; cases h)
    refine ⟨_, _, go3 _ (retI X0 hx Bd.returns (hb hby d3_11) hr), hrun, hended, _, _, rfl, ?_, ⟨_, rfl⟩, hW, hsame.mono (by decide) (by decide)⟩
    refine ⟨?_, N0, e0⟩
    show some (Value.int (2 : Int32)) = some (.int (own_both p0 p1))
    unfold own_both
    rw [if_pos hc2_2]
  · have go4 : ∀ t, Steps p.tables e below (s₁.setTop (mkF m 7 #[.val (.int p0), .val (.int p1)] [(.int (2 : Int32)), (.int p1)])) t → Steps p.tables e below (s₁.setTop (entryFrame m #[(.int p0), (.int p1)] 2)) t := fun t kt => go1 t (by
        refine XS.icmpNo X0.here hx rfl (hb hby d3_2) rfl (feq hc2_2).1 ?_
        show Steps p.tables e below (s₁.setTop (mkF m 5 #[.val (.int p0), .val (.int p1)] [])) _
        refine XS.iloadN X0.here hx rfl (hb hby d3_5) rfl ?_
        show Steps p.tables e below (s₁.setTop (mkF m 6 #[.val (.int p0), .val (.int p1)] [(.int p1)])) _
        refine XS.iconst X0.here hx rfl (hb hby d3_6) ?_
        show Steps p.tables e below (s₁.setTop (mkF m 7 #[.val (.int p0), .val (.int p1)] [(.int (2 : Int32)), (.int p1)])) _
        exact kt)
    by_cases hc7_5 : p1 = (2 : Int32)
    · have go6 : ∀ t, Steps p.tables e below (s₁.setTop (mkF m 11 #[.val (.int p0), .val (.int p1)] [(.int (2 : Int32))])) t → Steps p.tables e below (s₁.setTop (entryFrame m #[(.int p0), (.int p1)] 2)) t := fun t kt => go4 t (by
          refine XS.icmpNo X0.here hx rfl (hb hby d3_7) rfl (teq hc7_5).2 ?_
          show Steps p.tables e below (s₁.setTop (mkF m 10 #[.val (.int p0), .val (.int p1)] [])) _
          refine XS.iconst X0.here hx rfl (hb hby d3_10) ?_
          show Steps p.tables e below (s₁.setTop (mkF m 11 #[.val (.int p0), .val (.int p1)] [(.int (2 : Int32))])) _
          exact kt)
      obtain ⟨fs, hr, hrun, hended, hW, hsame⟩ := X0.leave (v := some (.int (2 : Int32))) (fun h => by rw [Bd.returns] at h; cases h)
      refine ⟨_, _, go6 _ (retI X0 hx Bd.returns (hb hby d3_11) hr), hrun, hended, _, _, rfl, ?_, ⟨_, rfl⟩, hW, hsame.mono (by decide) (by decide)⟩
      refine ⟨?_, N0, e0⟩
      show some (Value.int (2 : Int32)) = some (.int (own_both p0 p1))
      unfold own_both
      rw [if_neg hc2_2, if_pos hc7_5]
    · have go7 : ∀ t, Steps p.tables e below (s₁.setTop (mkF m 14 #[.val (.int p0), .val (.int p1)] [(.int (1 : Int32)), (.int p0)])) t → Steps p.tables e below (s₁.setTop (entryFrame m #[(.int p0), (.int p1)] 2)) t := fun t kt => go4 t (by
          refine XS.icmpYes X0.here hx rfl (pc0 := 7) (pc' := 12) rfl (hb hby d3_7) rfl (feq hc7_5).2 (by decide) (by decide) ?_
          show Steps p.tables e below (s₁.setTop (mkF m 12 #[.val (.int p0), .val (.int p1)] [])) _
          refine XS.iloadN X0.here hx rfl (hb hby d3_12) rfl ?_
          show Steps p.tables e below (s₁.setTop (mkF m 13 #[.val (.int p0), .val (.int p1)] [(.int p0)])) _
          refine XS.iconst X0.here hx rfl (hb hby d3_13) ?_
          show Steps p.tables e below (s₁.setTop (mkF m 14 #[.val (.int p0), .val (.int p1)] [(.int (1 : Int32)), (.int p0)])) _
          exact kt)
      by_cases hc14_8 : p0 = (1 : Int32)
      · have go9 : ∀ t, Steps p.tables e below (s₁.setTop (mkF m 19 #[.val (.int p0), .val (.int p1)] [(.int (1 : Int32)), (.int p1)])) t → Steps p.tables e below (s₁.setTop (entryFrame m #[(.int p0), (.int p1)] 2)) t := fun t kt => go7 t (by
            refine XS.icmpNo X0.here hx rfl (hb hby d3_14) rfl (teq hc14_8).2 ?_
            show Steps p.tables e below (s₁.setTop (mkF m 17 #[.val (.int p0), .val (.int p1)] [])) _
            refine XS.iloadN X0.here hx rfl (hb hby d3_17) rfl ?_
            show Steps p.tables e below (s₁.setTop (mkF m 18 #[.val (.int p0), .val (.int p1)] [(.int p1)])) _
            refine XS.iconst X0.here hx rfl (hb hby d3_18) ?_
            show Steps p.tables e below (s₁.setTop (mkF m 19 #[.val (.int p0), .val (.int p1)] [(.int (1 : Int32)), (.int p1)])) _
            exact kt)
        by_cases hc19_10 : p1 = (1 : Int32)
        · have go11 : ∀ t, Steps p.tables e below (s₁.setTop (mkF m 27 #[.val (.int p0), .val (.int p1)] [(.int (1 : Int32))])) t → Steps p.tables e below (s₁.setTop (entryFrame m #[(.int p0), (.int p1)] 2)) t := fun t kt => go9 t (by
              refine XS.icmpNo X0.here hx rfl (hb hby d3_19) rfl (teq hc19_10).2 ?_
              show Steps p.tables e below (s₁.setTop (mkF m 22 #[.val (.int p0), .val (.int p1)] [])) _
              refine XS.iconst X0.here hx rfl (hb hby d3_22) ?_
              show Steps p.tables e below (s₁.setTop (mkF m 23 #[.val (.int p0), .val (.int p1)] [(.int (1 : Int32))])) _
              refine XS.goto X0.here hx rfl (pc0 := 23) (pc' := 27) rfl (hb hby d3_23) (by decide) (by decide) ?_
              show Steps p.tables e below (s₁.setTop (mkF m 27 #[.val (.int p0), .val (.int p1)] [(.int (1 : Int32))])) _
              exact kt)
          obtain ⟨fs, hr, hrun, hended, hW, hsame⟩ := X0.leave (v := some (.int (1 : Int32))) (fun h => by rw [Bd.returns] at h; cases h)
          refine ⟨_, _, go11 _ (retI X0 hx Bd.returns (hb hby d3_27) hr), hrun, hended, _, _, rfl, ?_, ⟨_, rfl⟩, hW, hsame.mono (by decide) (by decide)⟩
          refine ⟨?_, N0, e0⟩
          show some (Value.int (1 : Int32)) = some (.int (own_both p0 p1))
          unfold own_both
          rw [if_neg hc2_2, if_neg hc7_5, if_pos hc14_8, if_pos hc19_10]
        · have go12 : ∀ t, Steps p.tables e below (s₁.setTop (mkF m 27 #[.val (.int p0), .val (.int p1)] [(.int (3 : Int32))])) t → Steps p.tables e below (s₁.setTop (entryFrame m #[(.int p0), (.int p1)] 2)) t := fun t kt => go9 t (by
              refine XS.icmpYes X0.here hx rfl (pc0 := 19) (pc' := 26) rfl (hb hby d3_19) rfl (feq hc19_10).2 (by decide) (by decide) ?_
              show Steps p.tables e below (s₁.setTop (mkF m 26 #[.val (.int p0), .val (.int p1)] [])) _
              refine XS.iconst X0.here hx rfl (hb hby d3_26) ?_
              show Steps p.tables e below (s₁.setTop (mkF m 27 #[.val (.int p0), .val (.int p1)] [(.int (3 : Int32))])) _
              exact kt)
          obtain ⟨fs, hr, hrun, hended, hW, hsame⟩ := X0.leave (v := some (.int (3 : Int32))) (fun h => by rw [Bd.returns] at h; cases h)
          refine ⟨_, _, go12 _ (retI X0 hx Bd.returns (hb hby d3_27) hr), hrun, hended, _, _, rfl, ?_, ⟨_, rfl⟩, hW, hsame.mono (by decide) (by decide)⟩
          refine ⟨?_, N0, e0⟩
          show some (Value.int (3 : Int32)) = some (.int (own_both p0 p1))
          unfold own_both
          rw [if_neg hc2_2, if_neg hc7_5, if_pos hc14_8, if_neg hc19_10]
      · have go13 : ∀ t, Steps p.tables e below (s₁.setTop (mkF m 27 #[.val (.int p0), .val (.int p1)] [(.int (3 : Int32))])) t → Steps p.tables e below (s₁.setTop (entryFrame m #[(.int p0), (.int p1)] 2)) t := fun t kt => go7 t (by
            refine XS.icmpYes X0.here hx rfl (pc0 := 14) (pc' := 26) rfl (hb hby d3_14) rfl (feq hc14_8).2 (by decide) (by decide) ?_
            show Steps p.tables e below (s₁.setTop (mkF m 26 #[.val (.int p0), .val (.int p1)] [])) _
            refine XS.iconst X0.here hx rfl (hb hby d3_26) ?_
            show Steps p.tables e below (s₁.setTop (mkF m 27 #[.val (.int p0), .val (.int p1)] [(.int (3 : Int32))])) _
            exact kt)
        obtain ⟨fs, hr, hrun, hended, hW, hsame⟩ := X0.leave (v := some (.int (3 : Int32))) (fun h => by rw [Bd.returns] at h; cases h)
        refine ⟨_, _, go13 _ (retI X0 hx Bd.returns (hb hby d3_27) hr), hrun, hended, _, _, rfl, ?_, ⟨_, rfl⟩, hW, hsame.mono (by decide) (by decide)⟩
        refine ⟨?_, N0, e0⟩
        show some (Value.int (3 : Int32)) = some (.int (own_both p0 p1))
        unfold own_both
        rw [if_neg hc2_2, if_neg hc7_5, if_neg hc14_8]
def own_law (p0 : Int32) (p1 : Int32) : Int32 := (if (own_rank (own_truth p0)) < (own_rank (own_truth p1)) then (if (own_both (own_truth p0) (own_truth p1)) = (own_truth p1) then (1 : Int32) else (0 : Int32)) else (if (own_both (own_truth p0) (own_truth p1)) = (own_truth p0) then (1 : Int32) else (0 : Int32)))
theorem pn_0 : plainName "com/example/austere_token/austeretoken/semantics/HoldsBothPinLaw" = true := by first | (simp [plainName, overriddenIn]; done) | decide +kernel
theorem ef_0 (m : MethodId) (p0 : Int32) (p1 : Int32) : entryFrame m #[(.int p0), (.int p1)] maxLocals = mkF m 0 #[.val (.int p0), .val (.int p1), .unset, .unset, .unset] [] := by first | (simp [entryFrame, mkF, argsToLocals, Value.category, maxLocals]; done) | rfl
set_option maxRecDepth 65536 in
set_option maxHeartbeats 40000000 in
theorem rm0 (l : Launch) (Z : State) (a0 : Array Value) (hw : ∀ d ∈ tables_1, d.before a0 Z = true) (ws : List Jvm.Cond) (p0 : Int32) (p1 : Int32) (h0 : Heap) (n0 : Nat) :
    MetFree l x (head1 (Jvm.Cond.code x code maxLocals ret :: ws) room_1) (fun a U => a = #[(.int p0), (.int p1)] ∧ Z.Warmed39 U.vm ∧ U.heap = h0) (fun _ _ _ _ _ => True) (fun _ U o U' => ∃ v L, o = .returned v ∧ QP (some (.int (own_law p0 p1))) h0 n0 v U'.heap L ∧ FrameEnd U o U' L room_1.cells room_1.slots) := by
  refine MetFree.of_bodySF (plainFor_of_name pn_0) hisR ?_
  intro p e s m args below meth c s₁ Bd hml0 hP hK
  obtain ⟨rfl, hZ, hh⟩ := hP
  have hx := Bd.exec
  have hby := Bd.bytes
  have hml : c.maxLocals = 5 := hml0
  have hown : s.vm.findClass "com/example/austere_token/austeretoken/semantics/HoldsBothPinLaw" = some m.cls := findClass_of_methodNamed Bd.named
  have hnm := (name_of_methodNamed Bd.named Bd.method).1
  have X0 : Stand p l e room_1 s m #[(.int p0), (.int p1)] below meth c s₁ [] 0 0 := Stand.of_body Bd
  have e0 : s₁.heap = h0 := by rw [← hh, Bd.state]; rfl
  have N0 := Fr.nil n0
  have go0 : ∀ t, Steps p.tables e below (s₁.setTop (mkF m 0 #[.val (.int p0), .val (.int p1), .unset, .unset, .unset] [])) t → Steps p.tables e below (s₁.setTop (entryFrame m #[(.int p0), (.int p1)] maxLocals)) t := fun t k => castTop (ef_0 m p0 p1) k
  have go1 : ∀ t, Steps p.tables e below (s₁.setTop (mkF m 1 #[.val (.int p0), .val (.int p1), .unset, .unset, .unset] [(.int p0)])) t → Steps p.tables e below (s₁.setTop (entryFrame m #[(.int p0), (.int p1)] maxLocals)) t := fun t kt => go0 t (by
      refine XS.iloadN X0.here hx rfl (hb hby at_0) rfl ?_
      show Steps p.tables e below (s₁.setTop (mkF m 1 #[.val (.int p0), .val (.int p1), .unset, .unset, .unset] [(.int p0)])) _
      exact kt)
  obtain ⟨_, _, ⟨T2, L2, k2, n2⟩, -, X2, ⟨Lc2, hQ2, l2, y2, z2⟩, st2⟩ := Jvm.LawKit.callS X0 hx (y := (⟨"com/example/austere_token/austeretoken/semantics/HoldsBothPinLaw", "truthOf", "(I)I"⟩ : MethodName)) hown (mvT hZ (hw _ (List.mem_of_getElem? (i := 0) rfl))) (mvT hZ (hw _ (List.mem_of_getElem? (i := 1) rfl))) (mvT hZ (hw _ (List.mem_of_getElem? (i := 2) rfl))) (mvT hZ (hw _ (List.mem_of_getElem? (i := 3) rfl))) (by decide) (backOf (W := 0) (rm1 l Z a0 hw [] p0 h0 n0) hZ (hw _ (List.mem_of_getElem? (i := 3) rfl)) (hw _ (List.mem_of_getElem? (i := 2) rfl)) (by decide) (by decide)) (g := (mkF m 1 #[.val (.int p0), .val (.int p1), .unset, .unset, .unset] [(.int p0)])) rfl (by rw [hml]; rfl) (argsL := [(.int p0)]) (rest := []) (lenOf pd_0 rfl) rfl (by show 2 * 0 + _ ≤ _; exact Nat.le_of_eq rfl) (hb hby at_1) (fun _ _ => ⟨rfl, e0, (by decide : 0 + 0 ≤ _), (by decide : 0 + 0 ≤ _)⟩)
  dsimp only [Pt.U, Pt.locs, Pt.cells, Pt.slots] at X2 l2 y2 z2 st2 hQ2
  subst l2 y2 z2
  obtain ⟨rfl, N2q, e2⟩ := hQ2
  have N2 := Fr.app N0 N2q
  have go3 : ∀ t, Steps p.tables e below (T2.setTop (mkF m 6 #[.val (.int p0), .val (.int p1), .val (.int (own_truth p0)), .unset, .unset] [(.int p1)])) t → Steps p.tables e below (s₁.setTop (entryFrame m #[(.int p0), (.int p1)] maxLocals)) t := fun t kt => go1 t (by
      refine st2 _ ?_
      show Steps p.tables e below (T2.setTop (mkF m 4 #[.val (.int p0), .val (.int p1), .unset, .unset, .unset] [(.int (own_truth p0))])) _
      refine XS.istoreN X2.here hx rfl (hb hby at_4) rfl (l' := #[.val (.int p0), .val (.int p1), .val (.int (own_truth p0)), .unset, .unset]) rfl ?_
      show Steps p.tables e below (T2.setTop (mkF m 5 #[.val (.int p0), .val (.int p1), .val (.int (own_truth p0)), .unset, .unset] [])) _
      refine XS.iloadN X2.here hx rfl (hb hby at_5) rfl ?_
      show Steps p.tables e below (T2.setTop (mkF m 6 #[.val (.int p0), .val (.int p1), .val (.int (own_truth p0)), .unset, .unset] [(.int p1)])) _
      exact kt)
  obtain ⟨_, _, ⟨T4, L4, k4, n4⟩, -, X4, ⟨Lc4, hQ4, l4, y4, z4⟩, st4⟩ := Jvm.LawKit.callS X2 hx (y := (⟨"com/example/austere_token/austeretoken/semantics/HoldsBothPinLaw", "truthOf", "(I)I"⟩ : MethodName)) hown (mvT hZ (hw _ (List.mem_of_getElem? (i := 0) rfl))) (mvT hZ (hw _ (List.mem_of_getElem? (i := 1) rfl))) (mvT hZ (hw _ (List.mem_of_getElem? (i := 2) rfl))) (mvT hZ (hw _ (List.mem_of_getElem? (i := 3) rfl))) (by decide) (backOf (W := 0) (rm1 l Z a0 hw [] p1 h0 n0) hZ (hw _ (List.mem_of_getElem? (i := 3) rfl)) (hw _ (List.mem_of_getElem? (i := 2) rfl)) (by decide) (by decide)) (g := (mkF m 6 #[.val (.int p0), .val (.int p1), .val (.int (own_truth p0)), .unset, .unset] [(.int p1)])) rfl (by rw [hml]; rfl) (argsL := [(.int p1)]) (rest := []) (lenOf pd_0 rfl) rfl (by show 2 * 0 + _ ≤ _; exact Nat.le_of_eq rfl) (hb hby at_6) (fun _ _ => ⟨rfl, e2, (by decide : 0 + 0 ≤ _), (by decide : 0 + 0 ≤ _)⟩)
  dsimp only [Pt.U, Pt.locs, Pt.cells, Pt.slots] at X4 l4 y4 z4 st4 hQ4
  subst l4 y4 z4
  obtain ⟨rfl, N4q, e4⟩ := hQ4
  have N4 := Fr.app N2 N4q
  have go5 : ∀ t, Steps p.tables e below (T4.setTop (mkF m 11 #[.val (.int p0), .val (.int p1), .val (.int (own_truth p0)), .val (.int (own_truth p1)), .unset] [(.int (own_truth p0))])) t → Steps p.tables e below (s₁.setTop (entryFrame m #[(.int p0), (.int p1)] maxLocals)) t := fun t kt => go3 t (by
      refine st4 _ ?_
      show Steps p.tables e below (T4.setTop (mkF m 9 #[.val (.int p0), .val (.int p1), .val (.int (own_truth p0)), .unset, .unset] [(.int (own_truth p1))])) _
      refine XS.istoreN X4.here hx rfl (hb hby at_9) rfl (l' := #[.val (.int p0), .val (.int p1), .val (.int (own_truth p0)), .val (.int (own_truth p1)), .unset]) rfl ?_
      show Steps p.tables e below (T4.setTop (mkF m 10 #[.val (.int p0), .val (.int p1), .val (.int (own_truth p0)), .val (.int (own_truth p1)), .unset] [])) _
      refine XS.iloadN X4.here hx rfl (hb hby at_10) rfl ?_
      show Steps p.tables e below (T4.setTop (mkF m 11 #[.val (.int p0), .val (.int p1), .val (.int (own_truth p0)), .val (.int (own_truth p1)), .unset] [(.int (own_truth p0))])) _
      exact kt)
  obtain ⟨_, _, ⟨T6, L6, k6, n6⟩, -, X6, ⟨Lc6, hQ6, l6, y6, z6⟩, st6⟩ := Jvm.LawKit.callS X4 hx (y := (⟨"com/example/austere_token/austeretoken/semantics/HoldsBothPinLaw", "rank", "(I)I"⟩ : MethodName)) hown (mvT hZ (hw _ (List.mem_of_getElem? (i := 5) rfl))) (mvT hZ (hw _ (List.mem_of_getElem? (i := 6) rfl))) (mvT hZ (hw _ (List.mem_of_getElem? (i := 2) rfl))) (mvT hZ (hw _ (List.mem_of_getElem? (i := 7) rfl))) (by decide) (backOf (W := 0) (rm2 l Z a0 hw [] (own_truth p0) h0 n0) hZ (hw _ (List.mem_of_getElem? (i := 7) rfl)) (hw _ (List.mem_of_getElem? (i := 2) rfl)) (by decide) (by decide)) (g := (mkF m 11 #[.val (.int p0), .val (.int p1), .val (.int (own_truth p0)), .val (.int (own_truth p1)), .unset] [(.int (own_truth p0))])) rfl (by rw [hml]; rfl) (argsL := [(.int (own_truth p0))]) (rest := []) (lenOf pd_0 rfl) rfl (by show 2 * 0 + _ ≤ _; exact Nat.le_of_eq rfl) (hb hby at_11) (fun _ _ => ⟨rfl, e4, (by decide : 0 + 0 ≤ _), (by decide : 0 + 0 ≤ _)⟩)
  dsimp only [Pt.U, Pt.locs, Pt.cells, Pt.slots] at X6 l6 y6 z6 st6 hQ6
  subst l6 y6 z6
  obtain ⟨rfl, N6q, e6⟩ := hQ6
  have N6 := Fr.app N4 N6q
  have go7 : ∀ t, Steps p.tables e below (T6.setTop (mkF m 15 #[.val (.int p0), .val (.int p1), .val (.int (own_truth p0)), .val (.int (own_truth p1)), .unset] [(.int (own_truth p1)), (.int (own_rank (own_truth p0)))])) t → Steps p.tables e below (s₁.setTop (entryFrame m #[(.int p0), (.int p1)] maxLocals)) t := fun t kt => go5 t (by
      refine st6 _ ?_
      show Steps p.tables e below (T6.setTop (mkF m 14 #[.val (.int p0), .val (.int p1), .val (.int (own_truth p0)), .val (.int (own_truth p1)), .unset] [(.int (own_rank (own_truth p0)))])) _
      refine XS.iloadN X6.here hx rfl (hb hby at_14) rfl ?_
      show Steps p.tables e below (T6.setTop (mkF m 15 #[.val (.int p0), .val (.int p1), .val (.int (own_truth p0)), .val (.int (own_truth p1)), .unset] [(.int (own_truth p1)), (.int (own_rank (own_truth p0)))])) _
      exact kt)
  obtain ⟨_, _, ⟨T8, L8, k8, n8⟩, -, X8, ⟨Lc8, hQ8, l8, y8, z8⟩, st8⟩ := Jvm.LawKit.callS X6 hx (y := (⟨"com/example/austere_token/austeretoken/semantics/HoldsBothPinLaw", "rank", "(I)I"⟩ : MethodName)) hown (mvT hZ (hw _ (List.mem_of_getElem? (i := 5) rfl))) (mvT hZ (hw _ (List.mem_of_getElem? (i := 6) rfl))) (mvT hZ (hw _ (List.mem_of_getElem? (i := 2) rfl))) (mvT hZ (hw _ (List.mem_of_getElem? (i := 7) rfl))) (by decide) (backOf (W := 1) (rm2 l Z a0 hw [] (own_truth p1) h0 n0) hZ (hw _ (List.mem_of_getElem? (i := 7) rfl)) (hw _ (List.mem_of_getElem? (i := 2) rfl)) (by decide) (by decide)) (g := (mkF m 15 #[.val (.int p0), .val (.int p1), .val (.int (own_truth p0)), .val (.int (own_truth p1)), .unset] [(.int (own_truth p1)), (.int (own_rank (own_truth p0)))])) rfl (by rw [hml]; rfl) (argsL := [(.int (own_truth p1))]) (rest := [(.int (own_rank (own_truth p0)))]) (lenOf pd_0 rfl) rfl (by show 2 * 0 + _ ≤ _; exact Nat.le_of_eq rfl) (hb hby at_15) (fun _ _ => ⟨rfl, e6, (by decide : 0 + 0 ≤ _), (by decide : 0 + 0 ≤ _)⟩)
  dsimp only [Pt.U, Pt.locs, Pt.cells, Pt.slots] at X8 l8 y8 z8 st8 hQ8
  subst l8 y8 z8
  obtain ⟨rfl, N8q, e8⟩ := hQ8
  have N8 := Fr.app N6 N8q
  have go9 : ∀ t, Steps p.tables e below (T8.setTop (mkF m 18 #[.val (.int p0), .val (.int p1), .val (.int (own_truth p0)), .val (.int (own_truth p1)), .unset] [(.int (own_rank (own_truth p1))), (.int (own_rank (own_truth p0)))])) t → Steps p.tables e below (s₁.setTop (entryFrame m #[(.int p0), (.int p1)] maxLocals)) t := fun t kt => go7 t (by
      refine st8 _ ?_
      show Steps p.tables e below (T8.setTop (mkF m 18 #[.val (.int p0), .val (.int p1), .val (.int (own_truth p0)), .val (.int (own_truth p1)), .unset] [(.int (own_rank (own_truth p1))), (.int (own_rank (own_truth p0)))])) _
      exact kt)
  by_cases hc18_10 : (own_rank (own_truth p0)) < (own_rank (own_truth p1))
  · have go11 : ∀ t, Steps p.tables e below (T8.setTop (mkF m 30 #[.val (.int p0), .val (.int p1), .val (.int (own_truth p0)), .val (.int (own_truth p1)), .val (.int (own_truth p1))] [(.int (own_truth p1)), (.int (own_truth p0))])) t → Steps p.tables e below (s₁.setTop (entryFrame m #[(.int p0), (.int p1)] maxLocals)) t := fun t kt => go9 t (by
        refine XS.icmpYes X8.here hx rfl (pc0 := 18) (pc' := 25) rfl (hb hby at_18) rfl (tlt hc18_10).1 (by decide) (by decide) ?_
        show Steps p.tables e below (T8.setTop (mkF m 25 #[.val (.int p0), .val (.int p1), .val (.int (own_truth p0)), .val (.int (own_truth p1)), .unset] [])) _
        refine XS.iloadN X8.here hx rfl (hb hby at_25) rfl ?_
        show Steps p.tables e below (T8.setTop (mkF m 26 #[.val (.int p0), .val (.int p1), .val (.int (own_truth p0)), .val (.int (own_truth p1)), .unset] [(.int (own_truth p1))])) _
        refine XS.istore X8.here hx rfl (hb hby at_26) rfl (l' := #[.val (.int p0), .val (.int p1), .val (.int (own_truth p0)), .val (.int (own_truth p1)), .val (.int (own_truth p1))]) rfl ?_
        show Steps p.tables e below (T8.setTop (mkF m 28 #[.val (.int p0), .val (.int p1), .val (.int (own_truth p0)), .val (.int (own_truth p1)), .val (.int (own_truth p1))] [])) _
        refine XS.iloadN X8.here hx rfl (hb hby at_28) rfl ?_
        show Steps p.tables e below (T8.setTop (mkF m 29 #[.val (.int p0), .val (.int p1), .val (.int (own_truth p0)), .val (.int (own_truth p1)), .val (.int (own_truth p1))] [(.int (own_truth p0))])) _
        refine XS.iloadN X8.here hx rfl (hb hby at_29) rfl ?_
        show Steps p.tables e below (T8.setTop (mkF m 30 #[.val (.int p0), .val (.int p1), .val (.int (own_truth p0)), .val (.int (own_truth p1)), .val (.int (own_truth p1))] [(.int (own_truth p1)), (.int (own_truth p0))])) _
        exact kt)
    obtain ⟨_, _, ⟨T12, L12, k12, n12⟩, -, X12, ⟨Lc12, hQ12, l12, y12, z12⟩, st12⟩ := Jvm.LawKit.callS X8 hx (y := (⟨"com/example/austere_token/austeretoken/semantics/Holds", "both", "(II)I"⟩ : MethodName)) hown (mvT hZ (hw _ (List.mem_of_getElem? (i := 8) rfl))) (mvT hZ (hw _ (List.mem_of_getElem? (i := 9) rfl))) (mvT hZ (hw _ (List.mem_of_getElem? (i := 10) rfl))) (mvT hZ (hw _ (List.mem_of_getElem? (i := 11) rfl))) (by decide) (backOf (W := 0) (rm3 l Z a0 hw [] (own_truth p0) (own_truth p1) h0 n0) hZ (hw _ (List.mem_of_getElem? (i := 11) rfl)) (hw _ (List.mem_of_getElem? (i := 10) rfl)) (by decide) (by decide)) (g := (mkF m 30 #[.val (.int p0), .val (.int p1), .val (.int (own_truth p0)), .val (.int (own_truth p1)), .val (.int (own_truth p1))] [(.int (own_truth p1)), (.int (own_truth p0))])) rfl (by rw [hml]; rfl) (argsL := [(.int (own_truth p0)), (.int (own_truth p1))]) (rest := []) (lenOf pd_1 rfl) rfl (by show 2 * 0 + _ ≤ _; exact Nat.le_of_eq rfl) (hb hby at_30) (fun _ _ => ⟨rfl, e8, (by decide : 0 + 0 ≤ _), (by decide : 0 + 0 ≤ _)⟩)
    dsimp only [Pt.U, Pt.locs, Pt.cells, Pt.slots] at X12 l12 y12 z12 st12 hQ12
    subst l12 y12 z12
    obtain ⟨rfl, N12q, e12⟩ := hQ12
    have N12 := Fr.app N8 N12q
    have go13 : ∀ t, Steps p.tables e below (T12.setTop (mkF m 35 #[.val (.int p0), .val (.int p1), .val (.int (own_truth p0)), .val (.int (own_truth p1)), .val (.int (own_truth p1))] [(.int (own_truth p1)), (.int (own_both (own_truth p0) (own_truth p1)))])) t → Steps p.tables e below (s₁.setTop (entryFrame m #[(.int p0), (.int p1)] maxLocals)) t := fun t kt => go11 t (by
        refine st12 _ ?_
        show Steps p.tables e below (T12.setTop (mkF m 33 #[.val (.int p0), .val (.int p1), .val (.int (own_truth p0)), .val (.int (own_truth p1)), .val (.int (own_truth p1))] [(.int (own_both (own_truth p0) (own_truth p1)))])) _
        refine XS.iload X12.here hx rfl (hb hby at_33) rfl ?_
        show Steps p.tables e below (T12.setTop (mkF m 35 #[.val (.int p0), .val (.int p1), .val (.int (own_truth p0)), .val (.int (own_truth p1)), .val (.int (own_truth p1))] [(.int (own_truth p1)), (.int (own_both (own_truth p0) (own_truth p1)))])) _
        exact kt)
    by_cases hc35_14 : (own_both (own_truth p0) (own_truth p1)) = (own_truth p1)
    · have go15 : ∀ t, Steps p.tables e below (T12.setTop (mkF m 43 #[.val (.int p0), .val (.int p1), .val (.int (own_truth p0)), .val (.int (own_truth p1)), .val (.int (own_truth p1))] [(.int (1 : Int32))])) t → Steps p.tables e below (s₁.setTop (entryFrame m #[(.int p0), (.int p1)] maxLocals)) t := fun t kt => go13 t (by
          refine XS.icmpNo X12.here hx rfl (hb hby at_35) rfl (teq hc35_14).2 ?_
          show Steps p.tables e below (T12.setTop (mkF m 38 #[.val (.int p0), .val (.int p1), .val (.int (own_truth p0)), .val (.int (own_truth p1)), .val (.int (own_truth p1))] [])) _
          refine XS.iconst X12.here hx rfl (hb hby at_38) ?_
          show Steps p.tables e below (T12.setTop (mkF m 39 #[.val (.int p0), .val (.int p1), .val (.int (own_truth p0)), .val (.int (own_truth p1)), .val (.int (own_truth p1))] [(.int (1 : Int32))])) _
          refine XS.goto X12.here hx rfl (pc0 := 39) (pc' := 43) rfl (hb hby at_39) (by decide) (by decide) ?_
          show Steps p.tables e below (T12.setTop (mkF m 43 #[.val (.int p0), .val (.int p1), .val (.int (own_truth p0)), .val (.int (own_truth p1)), .val (.int (own_truth p1))] [(.int (1 : Int32))])) _
          exact kt)
      obtain ⟨fs, hr, hrun, hended, hW, hsame⟩ := X12.leave (v := some (.int (1 : Int32))) (fun h => by rw [Bd.returns] at h; cases h)
      refine ⟨_, _, go15 _ (retN X12 hx (t := .boolean) Bd.returns (by simp) (hb hby at_43) hr), hrun, hended, _, _, rfl, ?_, ⟨_, rfl⟩, hW, hsame.mono (by decide) (by decide)⟩
      refine ⟨?_, N12, e12⟩
      show some (Value.int (1 : Int32)) = some (.int (own_law p0 p1))
      unfold own_law
      rw [if_pos hc18_10, if_pos hc35_14]
    · have go16 : ∀ t, Steps p.tables e below (T12.setTop (mkF m 43 #[.val (.int p0), .val (.int p1), .val (.int (own_truth p0)), .val (.int (own_truth p1)), .val (.int (own_truth p1))] [(.int (0 : Int32))])) t → Steps p.tables e below (s₁.setTop (entryFrame m #[(.int p0), (.int p1)] maxLocals)) t := fun t kt => go13 t (by
          refine XS.icmpYes X12.here hx rfl (pc0 := 35) (pc' := 42) rfl (hb hby at_35) rfl (feq hc35_14).2 (by decide) (by decide) ?_
          show Steps p.tables e below (T12.setTop (mkF m 42 #[.val (.int p0), .val (.int p1), .val (.int (own_truth p0)), .val (.int (own_truth p1)), .val (.int (own_truth p1))] [])) _
          refine XS.iconst X12.here hx rfl (hb hby at_42) ?_
          show Steps p.tables e below (T12.setTop (mkF m 43 #[.val (.int p0), .val (.int p1), .val (.int (own_truth p0)), .val (.int (own_truth p1)), .val (.int (own_truth p1))] [(.int (0 : Int32))])) _
          exact kt)
      obtain ⟨fs, hr, hrun, hended, hW, hsame⟩ := X12.leave (v := some (.int (0 : Int32))) (fun h => by rw [Bd.returns] at h; cases h)
      refine ⟨_, _, go16 _ (retN X12 hx (t := .boolean) Bd.returns (by simp) (hb hby at_43) hr), hrun, hended, _, _, rfl, ?_, ⟨_, rfl⟩, hW, hsame.mono (by decide) (by decide)⟩
      refine ⟨?_, N12, e12⟩
      show some (Value.int (0 : Int32)) = some (.int (own_law p0 p1))
      unfold own_law
      rw [if_pos hc18_10, if_neg hc35_14]
  · have go17 : ∀ t, Steps p.tables e below (T8.setTop (mkF m 30 #[.val (.int p0), .val (.int p1), .val (.int (own_truth p0)), .val (.int (own_truth p1)), .val (.int (own_truth p0))] [(.int (own_truth p1)), (.int (own_truth p0))])) t → Steps p.tables e below (s₁.setTop (entryFrame m #[(.int p0), (.int p1)] maxLocals)) t := fun t kt => go9 t (by
        refine XS.icmpNo X8.here hx rfl (hb hby at_18) rfl (flt hc18_10).1 ?_
        show Steps p.tables e below (T8.setTop (mkF m 21 #[.val (.int p0), .val (.int p1), .val (.int (own_truth p0)), .val (.int (own_truth p1)), .unset] [])) _
        refine XS.iloadN X8.here hx rfl (hb hby at_21) rfl ?_
        show Steps p.tables e below (T8.setTop (mkF m 22 #[.val (.int p0), .val (.int p1), .val (.int (own_truth p0)), .val (.int (own_truth p1)), .unset] [(.int (own_truth p0))])) _
        refine XS.goto X8.here hx rfl (pc0 := 22) (pc' := 26) rfl (hb hby at_22) (by decide) (by decide) ?_
        show Steps p.tables e below (T8.setTop (mkF m 26 #[.val (.int p0), .val (.int p1), .val (.int (own_truth p0)), .val (.int (own_truth p1)), .unset] [(.int (own_truth p0))])) _
        refine XS.istore X8.here hx rfl (hb hby at_26) rfl (l' := #[.val (.int p0), .val (.int p1), .val (.int (own_truth p0)), .val (.int (own_truth p1)), .val (.int (own_truth p0))]) rfl ?_
        show Steps p.tables e below (T8.setTop (mkF m 28 #[.val (.int p0), .val (.int p1), .val (.int (own_truth p0)), .val (.int (own_truth p1)), .val (.int (own_truth p0))] [])) _
        refine XS.iloadN X8.here hx rfl (hb hby at_28) rfl ?_
        show Steps p.tables e below (T8.setTop (mkF m 29 #[.val (.int p0), .val (.int p1), .val (.int (own_truth p0)), .val (.int (own_truth p1)), .val (.int (own_truth p0))] [(.int (own_truth p0))])) _
        refine XS.iloadN X8.here hx rfl (hb hby at_29) rfl ?_
        show Steps p.tables e below (T8.setTop (mkF m 30 #[.val (.int p0), .val (.int p1), .val (.int (own_truth p0)), .val (.int (own_truth p1)), .val (.int (own_truth p0))] [(.int (own_truth p1)), (.int (own_truth p0))])) _
        exact kt)
    obtain ⟨_, _, ⟨T18, L18, k18, n18⟩, -, X18, ⟨Lc18, hQ18, l18, y18, z18⟩, st18⟩ := Jvm.LawKit.callS X8 hx (y := (⟨"com/example/austere_token/austeretoken/semantics/Holds", "both", "(II)I"⟩ : MethodName)) hown (mvT hZ (hw _ (List.mem_of_getElem? (i := 8) rfl))) (mvT hZ (hw _ (List.mem_of_getElem? (i := 9) rfl))) (mvT hZ (hw _ (List.mem_of_getElem? (i := 10) rfl))) (mvT hZ (hw _ (List.mem_of_getElem? (i := 11) rfl))) (by decide) (backOf (W := 0) (rm3 l Z a0 hw [] (own_truth p0) (own_truth p1) h0 n0) hZ (hw _ (List.mem_of_getElem? (i := 11) rfl)) (hw _ (List.mem_of_getElem? (i := 10) rfl)) (by decide) (by decide)) (g := (mkF m 30 #[.val (.int p0), .val (.int p1), .val (.int (own_truth p0)), .val (.int (own_truth p1)), .val (.int (own_truth p0))] [(.int (own_truth p1)), (.int (own_truth p0))])) rfl (by rw [hml]; rfl) (argsL := [(.int (own_truth p0)), (.int (own_truth p1))]) (rest := []) (lenOf pd_1 rfl) rfl (by show 2 * 0 + _ ≤ _; exact Nat.le_of_eq rfl) (hb hby at_30) (fun _ _ => ⟨rfl, e8, (by decide : 0 + 0 ≤ _), (by decide : 0 + 0 ≤ _)⟩)
    dsimp only [Pt.U, Pt.locs, Pt.cells, Pt.slots] at X18 l18 y18 z18 st18 hQ18
    subst l18 y18 z18
    obtain ⟨rfl, N18q, e18⟩ := hQ18
    have N18 := Fr.app N8 N18q
    have go19 : ∀ t, Steps p.tables e below (T18.setTop (mkF m 35 #[.val (.int p0), .val (.int p1), .val (.int (own_truth p0)), .val (.int (own_truth p1)), .val (.int (own_truth p0))] [(.int (own_truth p0)), (.int (own_both (own_truth p0) (own_truth p1)))])) t → Steps p.tables e below (s₁.setTop (entryFrame m #[(.int p0), (.int p1)] maxLocals)) t := fun t kt => go17 t (by
        refine st18 _ ?_
        show Steps p.tables e below (T18.setTop (mkF m 33 #[.val (.int p0), .val (.int p1), .val (.int (own_truth p0)), .val (.int (own_truth p1)), .val (.int (own_truth p0))] [(.int (own_both (own_truth p0) (own_truth p1)))])) _
        refine XS.iload X18.here hx rfl (hb hby at_33) rfl ?_
        show Steps p.tables e below (T18.setTop (mkF m 35 #[.val (.int p0), .val (.int p1), .val (.int (own_truth p0)), .val (.int (own_truth p1)), .val (.int (own_truth p0))] [(.int (own_truth p0)), (.int (own_both (own_truth p0) (own_truth p1)))])) _
        exact kt)
    by_cases hc35_20 : (own_both (own_truth p0) (own_truth p1)) = (own_truth p0)
    · have go21 : ∀ t, Steps p.tables e below (T18.setTop (mkF m 43 #[.val (.int p0), .val (.int p1), .val (.int (own_truth p0)), .val (.int (own_truth p1)), .val (.int (own_truth p0))] [(.int (1 : Int32))])) t → Steps p.tables e below (s₁.setTop (entryFrame m #[(.int p0), (.int p1)] maxLocals)) t := fun t kt => go19 t (by
          refine XS.icmpNo X18.here hx rfl (hb hby at_35) rfl (teq hc35_20).2 ?_
          show Steps p.tables e below (T18.setTop (mkF m 38 #[.val (.int p0), .val (.int p1), .val (.int (own_truth p0)), .val (.int (own_truth p1)), .val (.int (own_truth p0))] [])) _
          refine XS.iconst X18.here hx rfl (hb hby at_38) ?_
          show Steps p.tables e below (T18.setTop (mkF m 39 #[.val (.int p0), .val (.int p1), .val (.int (own_truth p0)), .val (.int (own_truth p1)), .val (.int (own_truth p0))] [(.int (1 : Int32))])) _
          refine XS.goto X18.here hx rfl (pc0 := 39) (pc' := 43) rfl (hb hby at_39) (by decide) (by decide) ?_
          show Steps p.tables e below (T18.setTop (mkF m 43 #[.val (.int p0), .val (.int p1), .val (.int (own_truth p0)), .val (.int (own_truth p1)), .val (.int (own_truth p0))] [(.int (1 : Int32))])) _
          exact kt)
      obtain ⟨fs, hr, hrun, hended, hW, hsame⟩ := X18.leave (v := some (.int (1 : Int32))) (fun h => by rw [Bd.returns] at h; cases h)
      refine ⟨_, _, go21 _ (retN X18 hx (t := .boolean) Bd.returns (by simp) (hb hby at_43) hr), hrun, hended, _, _, rfl, ?_, ⟨_, rfl⟩, hW, hsame.mono (by decide) (by decide)⟩
      refine ⟨?_, N18, e18⟩
      show some (Value.int (1 : Int32)) = some (.int (own_law p0 p1))
      unfold own_law
      rw [if_neg hc18_10, if_pos hc35_20]
    · have go22 : ∀ t, Steps p.tables e below (T18.setTop (mkF m 43 #[.val (.int p0), .val (.int p1), .val (.int (own_truth p0)), .val (.int (own_truth p1)), .val (.int (own_truth p0))] [(.int (0 : Int32))])) t → Steps p.tables e below (s₁.setTop (entryFrame m #[(.int p0), (.int p1)] maxLocals)) t := fun t kt => go19 t (by
          refine XS.icmpYes X18.here hx rfl (pc0 := 35) (pc' := 42) rfl (hb hby at_35) rfl (feq hc35_20).2 (by decide) (by decide) ?_
          show Steps p.tables e below (T18.setTop (mkF m 42 #[.val (.int p0), .val (.int p1), .val (.int (own_truth p0)), .val (.int (own_truth p1)), .val (.int (own_truth p0))] [])) _
          refine XS.iconst X18.here hx rfl (hb hby at_42) ?_
          show Steps p.tables e below (T18.setTop (mkF m 43 #[.val (.int p0), .val (.int p1), .val (.int (own_truth p0)), .val (.int (own_truth p1)), .val (.int (own_truth p0))] [(.int (0 : Int32))])) _
          exact kt)
      obtain ⟨fs, hr, hrun, hended, hW, hsame⟩ := X18.leave (v := some (.int (0 : Int32))) (fun h => by rw [Bd.returns] at h; cases h)
      refine ⟨_, _, go22 _ (retN X18 hx (t := .boolean) Bd.returns (by simp) (hb hby at_43) hr), hrun, hended, _, _, rfl, ?_, ⟨_, rfl⟩, hW, hsame.mono (by decide) (by decide)⟩
      refine ⟨?_, N18, e18⟩
      show some (Value.int (0 : Int32)) = some (.int (own_law p0 p1))
      unfold own_law
      rw [if_neg hc18_10, if_neg hc35_20]
theorem own_t3 (x : Int32) : own_truth x = 1 ∨ own_truth x = 2 ∨ own_truth x = 3 := by
  unfold own_truth
  split
  · exact Or.inl rfl
  · split
    · exact Or.inr (Or.inl rfl)
    · exact Or.inr (Or.inr rfl)
theorem own_one (p0 p1 : Int32) : own_law p0 p1 = 1 := by
  unfold own_law
  have h1 := own_t3 p0
  have h2 := own_t3 p1
  generalize own_truth p0 = a at *
  generalize own_truth p1 = b at *
  rcases h1 with rfl | rfl | rfl <;> rcases h2 with rfl | rfl | rfl <;> decide
set_option maxRecDepth 65536 in
set_option maxHeartbeats 40000000 in
theorem comes_1 {Post : Tables → Env → Array Value → State → Outcome → State → Prop} (hpost : ∀ tb e args s v u, (limb_1_1.after args s (.returned v) u = true ∧ limb_1_2.after args s (.returned v) u = true ∧ True) → FrameEnd s (.returned v) u (Jvm.fieldLocs frame_1_writes args s ++ Jvm.arrayLocs frame_1_arrays args s ++ Jvm.staticLocs frame_1_statics s) 0 0 → Post tb e args s (.returned v) u) :
    ArmFor flags0 classFile x code maxLocals ret World_1 tables_1 room_1 Calls_1 rest_1 Pre_1 Post := by
  intro l hfl _ _ p e ha hc hk s m args below hf hA hF happ hP
  obtain ⟨hcalls, hrest, hpre⟩ := hP
  obtain ⟨-, -, -, hnamed, -, -, -, hat⟩ := (Spec.applies_iff hf).mp happ
  obtain ⟨hg, hn⟩ := and_e (Cond.before_iff.mp (show (Jvm.Cond.and given_1 narrow_1).before args s = true from hpre))
  obtain ⟨g1, g2⟩ := and_e hg
  obtain ⟨g3, g4⟩ := and_e g2
  obtain ⟨w0, w1, rfl⟩ : ∃ w0 w1 : Value, args = #[w0, w1] := by
    have hs : args.size = 2 := by simpa [Cond.value, given_1] using g1
    obtain ⟨L⟩ := args
    match L, hs with
    | [w0, w1], _ => exact ⟨w0, w1, rfl⟩
  have hw := fun d (hd : d ∈ tables_1) => atoms_spec (ws := Jvm.Cond.code x code maxLocals ret :: tables_1) hat d (List.mem_cons_of_mem _ hd)
  have hfit : Fit s := fun {y c} hc i hi => by
    obtain ⟨ha, rfl⟩ := Array.getElem?_eq_some_iff.mp hc
    have q := List.all_eq_true.mp ((Array.all_eq_true_iff_forall_mem.mp hF) _ (Array.getElem_mem ha)) i (List.mem_range.mpr hi)
    simpa [Array.getElem?_eq_getElem hi] using q
  obtain ⟨i0, ei0⟩ := is_v g3
  obtain rfl : w0 = (.int i0) := Option.some.inj ei0
  obtain ⟨i1, ei1⟩ := is_v g4
  obtain rfl : w1 = (.int i1) := Option.some.inj ei1
  obtain ⟨n, o, h1, h2, h3, v, L, rfl, ⟨hv, N, _⟩, hq⟩ := rm0 l s _ hw tables_1 i0 i1  s.heap s.heap.size  p e ha hc hk s m _ below hf ((Spec.applies_iff_loose hf).mp happ).1 ⟨rfl, State.Warmed39.refl s, rfl⟩ trivial
  obtain rfl : v = some (.int 1) := by rw [hv, own_one]
  refine ⟨n, _, h1, h2, h3, hpost _ _ _ _ _ _ ⟨Cond.after_iff.mpr rfl, Cond.after_iff.mpr (eq_i res_at (Term.int_eval (1)) rfl), trivial⟩ ⟨hq.1, hq.2.1, (hq.2.2.sift fun y hy => Or.inr (N y hy)).mono (by decide) (by decide)⟩⟩
theorem main_1_1 : Claimed_1_1 := comes_1 fun _ _ _ _ _ _ h hF => ⟨h.1, hF⟩
theorem main_1_2 : Claimed_1_2 := comes_1 fun _ _ _ _ _ _ h hF => ⟨h.2.1, hF⟩
end Jvm.Pilot.@@N@@
namespace Jvm.Pilot.@@N@@
open Jvm Jvm.ClassFile Sem Op Lib Jvm.Free Jvm.Stand Jvm.Pilot.@@N@@.Jvm.D
/-! MADE BY PROGRAM (witnessworld.py) out of the Statement's table words and the real class files: 9 classes; the members and pool entries that the words name. The judged class is class 1, her method 3. -/
namespace start1
open Jvm.ClassFile
def u (s : String) : CpInfo := .utf8 (stringToUtf16 s)
/-- a pool by its gaps: so many unusable entries, then the entry; so many at the end -/
def gap : Nat → List CpInfo → List CpInfo
  | 0, r => r
  | n + 1, r => .unusable :: gap n r
def poolList (es : List (Nat × CpInfo)) (last : Nat) : List CpInfo := es.foldr (fun e r => gap e.1 (e.2 :: r)) (gap last [])
def pool (es : List (Nat × CpInfo)) (last : Nat) : Array CpInfo := ⟨poolList es last⟩
def fileOf (pool : Array CpInfo) (this : Nat) (attrs : Array Attribute := #[]) (ms : Array MethodInfo := #[]) (fl : Nat := 33) (sup : Nat := 0) (ifs : Array Nat := #[]) (fds : Array FieldInfo := #[]) : ClassFile where
  minorVersion := 0
  majorVersion := 65
  constantPool := pool
  accessFlags := fl
  thisClass := this
  superClass := sup
  interfaces := ifs
  fields := fds
  methods := ms
  attributes := attrs
def plain (name : String) (sup : Option ClassId) : Class where
  name := name
  kind := .ordinary
  loader := none
  accessFlags := 33
  super := sup
  interfaces := #[]
  cf := none
  fields := #[]
  methods := #[]
  instanceTypes := #[]
  staticTypes := #[]
  resolved := #[]
  callSites := []
  init := .initialized
  statics := none
  mirror := none

def pool0 : Array CpInfo := pool [(5, u "<init>"), (0, u "()V"), (1, .class_ 10), (1, u "java/lang/Object")] 113

def k0m0 : Method := { name := "<init>", desc := "()V", sig := { parameters := [], returnType := none }, accessFlags := 1, code := none }
/-- java/lang/Object -/
def k0 : Class := { plain "java/lang/Object" none with
  accessFlags := 33
  interfaces := #[]
  cf := some (fileOf pool0 8 #[] #[{ accessFlags := 1, nameIndex := 5, descriptorIndex := 6, attributes := #[] }] 33 0 #[] #[])
  fields := #[]
  methods := #[k0m0]
  instanceTypes := #[]
  staticTypes := #[]
  resolved := Array.replicate 124 none
  statics := none }

def pool1 : Array CpInfo := pool [(2, .class_ 4), (1, u "java/lang/Object"), (0, u "<init>"), (0, u "()V"), (0, .class_ 8), (0, u "com/example/austere_token/austeretoken/semantics/Holds"), (0, .integer 2147483647), (0, .methodref 11 12), (0, .class_ 13), (0, .nameAndType 14 15), (0, u "com/example/austere_token/austeretoken/semantics/HoldsBothPinLaw"), (0, u "truthOf"), (0, u "(I)I"), (0, .methodref 11 17), (0, .nameAndType 18 15), (0, u "rank"), (0, .methodref 7 20), (0, .nameAndType 21 22), (0, u "both"), (0, u "(II)I"), (3, u "law"), (0, u "(II)Z")] 2

def k1m0 : Method := { name := "<init>", desc := "()V", sig := { parameters := [], returnType := none }, accessFlags := 1, code := none }
def k1c1 : Code := { maxStack := 2, maxLocals := 1, code := method_2_code, exceptionTable := #[], attributes := #[] }
def k1m1 : Method := { name := "rank", desc := "(I)I", sig := { parameters := [.int], returnType := some .int }, accessFlags := 10, code := some k1c1 }
def k1c2 : Code := { maxStack := 2, maxLocals := 2, code := method_3_code, exceptionTable := #[], attributes := #[] }
def k1m2 : Method := { name := "truthOf", desc := "(I)I", sig := { parameters := [.int], returnType := some .int }, accessFlags := 10, code := some k1c2 }
def k1c3 : Code := { maxStack := 2, maxLocals := 5, code := code, exceptionTable := #[], attributes := #[] }
def k1m3 : Method := { name := "law", desc := "(II)Z", sig := { parameters := [.int, .int], returnType := some .boolean }, accessFlags := 9, code := some k1c3 }
/-- com/example/austere_token/austeretoken/semantics/HoldsBothPinLaw -/
def k1 : Class := { plain "com/example/austere_token/austeretoken/semantics/HoldsBothPinLaw" (some 0) with
  accessFlags := 49
  interfaces := #[]
  cf := some (fileOf pool1 11 #[] #[{ accessFlags := 1, nameIndex := 5, descriptorIndex := 6, attributes := #[] }, { accessFlags := 10, nameIndex := 18, descriptorIndex := 15, attributes := #[] }, { accessFlags := 10, nameIndex := 14, descriptorIndex := 15, attributes := #[] }, { accessFlags := 9, nameIndex := 26, descriptorIndex := 27, attributes := #[] }] 49 2 #[] #[])
  fields := #[]
  methods := #[k1m0, k1m1, k1m2, k1m3]
  instanceTypes := #[]
  staticTypes := #[]
  resolved := Array.replicate 30 none
  statics := none }

def pool2 : Array CpInfo := pool [(2, .class_ 4), (1, u "java/lang/Object"), (6, .class_ 13), (1, u "com/example/austere_token/austeretoken/semantics/Holds"), (0, u "derivable"), (0, u "Ljava/util/Map;"), (5, u "deriving"), (0, u "Ljava/util/Set;"), (2, u "index"), (0, u "Lcom/example/austere_token/austeretoken/semantics/ItemIndex;"), (8, u "knowledge"), (0, u "Lcom/example/austere_token/austeretoken/model/FactSymbol;"), (2, u "constants"), (0, u "Ljava/util/List;"), (2, u "matcher"), (0, u "Lcom/example/austere_token/austeretoken/semantics/Matcher;"), (2, u "state"), (0, u "Lcom/example/austere_token/austeretoken/semantics/State;"), (7, u "known"), (0, u "Lcom/example/austere_token/austeretoken/semantics/Knowledge;"), (133, u "both"), (0, u "(II)I"), (120, u "occurring"), (30, u "HOLDS"), (0, u "I"), (2, u "FAILS"), (1, u "MAY"), (1, u "FREE"), (1, u "MOST_DEPTH")] 23

def k2c0 : Code := { maxStack := 2, maxLocals := 2, code := prog_94_method_21_code, exceptionTable := #[], attributes := #[] }
def k2m0 : Method := { name := "both", desc := "(II)I", sig := { parameters := [.int, .int], returnType := some .int }, accessFlags := 8, code := some k2c0 }
/-- com/example/austere_token/austeretoken/semantics/Holds -/
def k2 : Class := { plain "com/example/austere_token/austeretoken/semantics/Holds" (some 0) with
  accessFlags := 48
  interfaces := #[]
  cf := some (fileOf pool2 11 #[] #[{ accessFlags := 8, nameIndex := 191, descriptorIndex := 192, attributes := #[] }] 48 2 #[] #[{ accessFlags := 24, nameIndex := 344, descriptorIndex := 345, attributes := #[] }, { accessFlags := 24, nameIndex := 348, descriptorIndex := 345, attributes := #[] }, { accessFlags := 24, nameIndex := 350, descriptorIndex := 345, attributes := #[] }, { accessFlags := 24, nameIndex := 352, descriptorIndex := 345, attributes := #[] }, { accessFlags := 26, nameIndex := 354, descriptorIndex := 345, attributes := #[] }, { accessFlags := 18, nameIndex := 25, descriptorIndex := 26, attributes := #[] }, { accessFlags := 18, nameIndex := 35, descriptorIndex := 36, attributes := #[] }, { accessFlags := 18, nameIndex := 39, descriptorIndex := 40, attributes := #[] }, { accessFlags := 18, nameIndex := 43, descriptorIndex := 44, attributes := #[] }, { accessFlags := 18, nameIndex := 47, descriptorIndex := 48, attributes := #[] }, { accessFlags := 18, nameIndex := 56, descriptorIndex := 57, attributes := #[] }, { accessFlags := 18, nameIndex := 14, descriptorIndex := 15, attributes := #[] }, { accessFlags := 18, nameIndex := 21, descriptorIndex := 22, attributes := #[] }, { accessFlags := 2, nameIndex := 313, descriptorIndex := 22, attributes := #[] }])
  fields := #[{ name := "HOLDS", type := .int, accessFlags := 24, slot := 0, constantValue := 0 }, { name := "FAILS", type := .int, accessFlags := 24, slot := 1, constantValue := 0 }, { name := "MAY", type := .int, accessFlags := 24, slot := 2, constantValue := 0 }, { name := "FREE", type := .int, accessFlags := 24, slot := 3, constantValue := 0 }, { name := "MOST_DEPTH", type := .int, accessFlags := 26, slot := 4, constantValue := 0 }, { name := "index", type := (.object "com/example/austere_token/austeretoken/semantics/ItemIndex"), accessFlags := 18, slot := 0, constantValue := 0 }, { name := "knowledge", type := (.object "com/example/austere_token/austeretoken/model/FactSymbol"), accessFlags := 18, slot := 1, constantValue := 0 }, { name := "constants", type := (.object "java/util/List"), accessFlags := 18, slot := 2, constantValue := 0 }, { name := "matcher", type := (.object "com/example/austere_token/austeretoken/semantics/Matcher"), accessFlags := 18, slot := 3, constantValue := 0 }, { name := "state", type := (.object "com/example/austere_token/austeretoken/semantics/State"), accessFlags := 18, slot := 4, constantValue := 0 }, { name := "known", type := (.object "com/example/austere_token/austeretoken/semantics/Knowledge"), accessFlags := 18, slot := 5, constantValue := 0 }, { name := "derivable", type := (.object "java/util/Map"), accessFlags := 18, slot := 6, constantValue := 0 }, { name := "deriving", type := (.object "java/util/Set"), accessFlags := 18, slot := 7, constantValue := 0 }, { name := "occurring", type := (.object "java/util/Set"), accessFlags := 2, slot := 8, constantValue := 0 }]
  methods := #[k2m0]
  instanceTypes := #[(.object "com/example/austere_token/austeretoken/semantics/ItemIndex"), (.object "com/example/austere_token/austeretoken/model/FactSymbol"), (.object "java/util/List"), (.object "com/example/austere_token/austeretoken/semantics/Matcher"), (.object "com/example/austere_token/austeretoken/semantics/State"), (.object "com/example/austere_token/austeretoken/semantics/Knowledge"), (.object "java/util/Map"), (.object "java/util/Set"), (.object "java/util/Set")]
  staticTypes := #[.int, .int, .int, .int, .int]
  resolved := Array.replicate 378 none
  statics := none }

def pool3 : Array CpInfo := pool [(1, u "java/lang/Cloneable"), (0, .class_ 1), (0, u "java/lang/Object"), (0, .class_ 3)] 3

/-- java/lang/Cloneable -/
def k3 : Class := { plain "java/lang/Cloneable" (some 0) with
  accessFlags := 1537
  interfaces := #[]
  cf := some (fileOf pool3 2 #[] #[] 1537 4 #[] #[])
  fields := #[]
  methods := #[]
  instanceTypes := #[]
  staticTypes := #[]
  resolved := Array.replicate 8 none
  statics := none }

def pool4 : Array CpInfo := pool [(1, u "java/io/Serializable"), (0, .class_ 1), (0, u "java/lang/Object"), (0, .class_ 3)] 3

/-- java/io/Serializable -/
def k4 : Class := { plain "java/io/Serializable" (some 0) with
  accessFlags := 1537
  interfaces := #[]
  cf := some (fileOf pool4 2 #[] #[] 1537 4 #[] #[])
  fields := #[]
  methods := #[]
  instanceTypes := #[]
  staticTypes := #[]
  resolved := Array.replicate 8 none
  statics := none }

/-- the primitive byte -/
def k5 : Class := { plain "byte" none with kind := .primitive 'B', accessFlags := 0x411 }
/-- [B -/
def k6 : Class := { plain "[B" (some 0) with kind := .array 5 .byte, interfaces := #[3, 4], accessFlags := 1041 }

/-- the primitive int -/
def k7 : Class := { plain "int" none with kind := .primitive 'I', accessFlags := 0x411 }
/-- [I -/
def k8 : Class := { plain "[I" (some 0) with kind := .array 7 .int, interfaces := #[3, 4], accessFlags := 1041 }

def heap : Heap := #[]
def classes : Array Class := #[k0, k1, k2, k3, k4, k5, k6, k7, k8]
def interned : List (Array UInt16 × Addr) := []
def slotsUsed : Nat := 0
def theMethod : MethodId := ⟨1, 3⟩
def args0 : Array Value := #[.int 9, .int 32]
def aboutOver (below : List Frame) : State where
  vm := { classes := classes, interned := interned.toArray }
  heap := heap
  slotsUsed := slotsUsed
  threads := #[{ frames := .invoking theMethod args0 :: below }]
def below0 : List Frame := [.native { method := ⟨0, 0⟩, args := #[] }]
def about1 : State := aboutOver below0
def p0 : Program := .bare "" "" ""
def e0 : Env := launch0.env 0 0 0
theorem w_frames : about1.frames = Frame.invoking theMethod args0 :: below0 := rfl
set_option maxRecDepth 65536 in
theorem w_args : argsFit about1.vm theMethod args0 = true := by decide +kernel
set_option maxRecDepth 65536 in
theorem w_heap : heapFits about1 = true := by decide +kernel
set_option maxRecDepth 65536 in
theorem w_runnable : about1.curStatus? = some .runnable := by decide +kernel
set_option maxRecDepth 65536 in
theorem w_alone : about1.alone = true := by decide +kernel
set_option maxRecDepth 65536 in
theorem w_named : about1.methodNamed? x = some theMethod := by decide +kernel
set_option maxRecDepth 65536 in
theorem w_hears : about1.hears theMethod below0 = true := by decide +kernel
set_option maxRecDepth 65536 in
theorem w_ripe : about1.ripe theMethod args0 below0 = true := by decide +kernel
theorem w_running : about1.status = .running := rfl
set_option maxRecDepth 65536 in
theorem w_room : about1.hasRoom e0.platform room_1 = true :=
  launch0.hasRoom_least _ room_1 (by decide +kernel) (by decide +kernel) (by decide +kernel) (by decide +kernel) (by decide +kernel) (by decide +kernel)
theorem allAtoms_all (ts : List Jvm.Cond) (a : Array Jvm.Value) (st : Jvm.State) : (allAtoms ts).before a st = ts.all (fun c => c.before a st) := by
  induction ts with
  | nil => rfl
  | cons c t ih =>
    show (Jvm.Cond.and c (allAtoms t)).before a st = _
    rw [Jvm.Cond.before_and, ih, List.all_cons]
def words1 : List Jvm.Cond := Jvm.Cond.code x code maxLocals ret :: tables_1
/-- a 'code' word, met by the world's own term for the bytes: nothing is compared byte by byte -/
theorem code_word {y : MethodName} {bytes : ByteArray} {mx : Nat} {rt : Option FieldType} {a : Array Value} {s : State} {m : MethodId} {meth : Method} {c : Code} (h1 : s.methodNamed? y = some m) (h2 : s.vm.method? m = some meth) (h3 : meth.code = some c) (h4 : c.code = bytes)
    (h5 : (c.maxLocals == mx && c.exceptionTable.isEmpty && decide (c.maxStack ≤ mostOperands) && decide (meth.sig.returnType = rt) && !meth.locks && decide (parseMethodDescriptor y.desc = some meth.sig)) = true) : (Jvm.Cond.code y bytes mx rt).before a s = true := by
  simp only [Bool.and_eq_true, beq_iff_eq, Bool.not_eq_true', decide_eq_true_eq] at h5
  obtain ⟨⟨⟨⟨⟨g1, g2⟩, g3⟩, g4⟩, g5⟩, g6⟩ := h5
  simp [Cond.before, Cond.holds, Cond.value, h1, h2, h3, h4, g1, g2, g3, g4, g5, g6]
def isCode : Jvm.Cond → Bool
  | .code _ _ _ _ => true
  | _ => false
theorem all_split {L : List Jvm.Cond} {P : Jvm.Cond → Bool} (h1 : L.all (fun c => isCode c || P c) = true) (h2 : ∀ c ∈ L.filter isCode, P c = true) : L.all P = true := by
  refine List.all_eq_true.mpr fun c hc => ?_
  have h := List.all_eq_true.mp h1 c hc
  rcases Bool.eq_false_or_eq_true (isCode c) with hi | hi
  · exact h2 c (List.mem_filter.mpr ⟨hc, hi⟩)
  · simpa [hi] using h
set_option maxRecDepth 65536 in
theorem w_c0 : (Jvm.Cond.code x code maxLocals ret).before args0 about1 = true := code_word (m := ⟨1, 3⟩) (meth := k1m3) (c := k1c3) (by decide +kernel) rfl rfl rfl (by decide +kernel)
set_option maxRecDepth 65536 in
theorem w_c1 : (Jvm.Cond.code ({ cls := "com/example/austere_token/austeretoken/semantics/HoldsBothPinLaw", name := "truthOf", desc := "(I)I" } : Jvm.MethodName) method_3_code (2 : Nat) (Option.some Jvm.ClassFile.FieldType.int)).before args0 about1 = true := code_word (m := ⟨1, 2⟩) (meth := k1m2) (c := k1c2) (by decide +kernel) rfl rfl rfl (by decide +kernel)
set_option maxRecDepth 65536 in
theorem w_c2 : (Jvm.Cond.code ({ cls := "com/example/austere_token/austeretoken/semantics/HoldsBothPinLaw", name := "rank", desc := "(I)I" } : Jvm.MethodName) method_2_code (1 : Nat) (Option.some Jvm.ClassFile.FieldType.int)).before args0 about1 = true := code_word (m := ⟨1, 1⟩) (meth := k1m1) (c := k1c1) (by decide +kernel) rfl rfl rfl (by decide +kernel)
set_option maxRecDepth 65536 in
theorem w_c3 : (Jvm.Cond.code ({ cls := "com/example/austere_token/austeretoken/semantics/Holds", name := "both", desc := "(II)I" } : Jvm.MethodName) prog_94_method_21_code (2 : Nat) (Option.some Jvm.ClassFile.FieldType.int)).before args0 about1 = true := code_word (m := ⟨2, 0⟩) (meth := k2m0) (c := k2c0) (by decide +kernel) rfl rfl rfl (by decide +kernel)
def codes1 : List Jvm.Cond := [Jvm.Cond.code x code maxLocals ret, Jvm.Cond.code ({ cls := "com/example/austere_token/austeretoken/semantics/HoldsBothPinLaw", name := "truthOf", desc := "(I)I" } : Jvm.MethodName) method_3_code (2 : Nat) (Option.some Jvm.ClassFile.FieldType.int), Jvm.Cond.code ({ cls := "com/example/austere_token/austeretoken/semantics/HoldsBothPinLaw", name := "rank", desc := "(I)I" } : Jvm.MethodName) method_2_code (1 : Nat) (Option.some Jvm.ClassFile.FieldType.int), Jvm.Cond.code ({ cls := "com/example/austere_token/austeretoken/semantics/Holds", name := "both", desc := "(II)I" } : Jvm.MethodName) prog_94_method_21_code (2 : Nat) (Option.some Jvm.ClassFile.FieldType.int)]
set_option maxRecDepth 65536 in
theorem codes_eq : words1.filter isCode = codes1 := rfl
theorem w_codes : ∀ c ∈ words1.filter isCode, c.before args0 about1 = true := by
  rw [codes_eq]
  intro c hc
  simp only [codes1, List.mem_cons, List.not_mem_nil, or_false] at hc
  rcases hc with rfl | rfl | rfl | rfl
  · exact w_c0
  · exact w_c1
  · exact w_c2
  · exact w_c3
set_option maxRecDepth 65536 in
theorem w_t1 : words1.all (fun c => isCode c || c.before args0 about1) = true := by decide +kernel
theorem w_tables : (allAtoms (Jvm.Cond.code x code maxLocals ret :: tables_1)).before args0 about1 = true := by
  rw [allAtoms_all]
  show words1.all (fun c => c.before args0 about1) = true
  refine all_split ?_ w_codes
  rw [w_t1]
set_option maxRecDepth 65536 in
theorem w_case : (Jvm.Cond.and given_1 narrow_1).before args0 about1 = true := by decide +kernel
theorem w_applies : (headSpec (Jvm.Cond.code x code maxLocals ret :: tables_1) room_1).applies x e0.platform about1 = true :=
  (Spec.applies_iff w_frames).mpr ⟨w_running, w_runnable, w_alone, w_named, w_hears, w_ripe, w_room, w_tables⟩
theorem atStart : AtStart classFile x code maxLocals ret World_1 tables_1 room_1 Calls_1 rest_1 Pre_1 launch0 p0 e0 about1 theMethod args0 below0 :=
  ⟨lists_1, trivial, launch0.admits_env _ _ _, launch0.least_env, fairChoices_fair.cas, fairChoices_fair.clock, w_frames, w_args, w_heap, w_applies, trivial, trivial, w_case⟩
end start1
theorem witness_1 : WitnessClaimed_1 := ⟨start1.p0, start1.e0, start1.about1, start1.theMethod, start1.args0, start1.below0, start1.atStart⟩
end Jvm.Pilot.@@N@@
