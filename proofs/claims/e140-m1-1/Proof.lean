import JvmDerived
import JvmDerived.Pilot.@@N@@Statement
import JvmDerived.Pilot.@@N@@Code
set_option linter.unusedVariables false
set_option linter.unusedSimpArgs false
namespace Jvm.RoadKit
open Sem ClassFile Op Lib Jvm.Stand Jvm.Free Jvm.LawKit
section New
variable {p : Program} {l : Launch} {e : Env} {R : Room} {s : State} {m : MethodId} {args : Array Value} {below : List Frame} {meth : Method} {c : Code} {T : State} {locs : List Loc} {cells slots : Nat}
theorem retI (X : Stand p l e R s m args below meth c T locs cells slots) (hx : p.tables.exec = Jvm.exec) {pc : Nat} {Ls : Array Slot} {z : Int32} {rest : List Value} (hret : meth.sig.returnType = some .int) (hd : decode c.code pc = .ok (.ireturn, 1)) {fs : List Frame}
    (hl : ∀ (f : JFrame) (acts : List Action), f.method = m → f.locked = none → f.entered = [] → (doReturn e (T.setTop f) acts (some (.int z))).1 = T.setFrames fs) : Steps p.tables e below (T.setTop (mkF m pc Ls (.int z :: rest))) (T.setFrames fs) := by
  have hm' : T.vm.method? m = some meth := X.method'
  have hn : narrow .int (.int z) = .int z := rfl
  show Steps p.tables e below (T.setTop { method := m, pc := pc, locals := Ls, stack := _ :: rest, locked := none }) _
  jvm_step X.here [X.here.top, hx, hd, hm', hret, hn]
  first | (intro acts; rw [hl _ acts rfl rfl rfl]) | rw [hl _ _ rfl rfl rfl]
  exact Steps.refl _
end New
end Jvm.RoadKit
namespace Jvm.Pilot.@@N@@
open Jvm Jvm.ClassFile Sem Op Lib Jvm.Free Jvm.Stand Jvm.LawKit Jvm.RoadKit Bundle Jvm.Pilot.@@N@@.Jvm.D
/-- a body that leaves the heap as it was and returns w -/
def QP (w : Option Value) (h0 : Heap) (n0 : Nat) (v : Option Value) (h : Heap) (L : List Loc) : Prop := v = w ∧ Fr n0 L ∧ h = h0
/-- the places written so far, under a name -/
theorem own_loc {p : Program} {l : Launch} {e : Env} {R : Room} {s : State} {m : MethodId} {args : Array Value} {below : List Frame} {meth : Method} {c : Code} {T : State} {locs : List Loc} {cells slots : Nat} {k : Nat} (X : Stand p l e R s m args below meth c T locs cells slots) (N : Fr k locs) : ∃ Ls, Stand p l e R s m args below meth c T Ls cells slots ∧ Fr k Ls := ⟨_, X, N⟩
theorem pd_0 : parseMethodDescriptor "(I)Z" = some ⟨[.int], some .boolean⟩ := by decide +kernel
def own_isc (p0 : Int32) : Int32 := (if p0 < (32 : Int32) then (if p0 = (9 : Int32) then (1 : Int32) else (if p0 = (10 : Int32) then (1 : Int32) else (if p0 = (13 : Int32) then (1 : Int32) else (if p0 < (57344 : Int32) then (if p0 < (65536 : Int32) then (0 : Int32) else (if (1114111 : Int32) < p0 then (0 : Int32) else (1 : Int32))) else (if (65533 : Int32) < p0 then (if p0 < (65536 : Int32) then (0 : Int32) else (if (1114111 : Int32) < p0 then (0 : Int32) else (1 : Int32))) else (1 : Int32)))))) else (if (55295 : Int32) < p0 then (if p0 = (9 : Int32) then (1 : Int32) else (if p0 = (10 : Int32) then (1 : Int32) else (if p0 = (13 : Int32) then (1 : Int32) else (if p0 < (57344 : Int32) then (if p0 < (65536 : Int32) then (0 : Int32) else (if (1114111 : Int32) < p0 then (0 : Int32) else (1 : Int32))) else (if (65533 : Int32) < p0 then (if p0 < (65536 : Int32) then (0 : Int32) else (if (1114111 : Int32) < p0 then (0 : Int32) else (1 : Int32))) else (1 : Int32)))))) else (1 : Int32)))
theorem d1_0 : decode prog_68_method_13_code 0 = .ok (.iload_n 0, 1) := by decide +kernel
theorem d1_1 : decode prog_68_method_13_code 1 = .ok (.bipush 32, 2) := by decide +kernel
theorem d1_3 : decode prog_68_method_13_code 3 = .ok (.if_icmp .lt 9, 3) := by decide +kernel
theorem d1_6 : decode prog_68_method_13_code 6 = .ok (.iload_n 0, 1) := by decide +kernel
theorem d1_7 : decode prog_68_method_13_code 7 = .ok (.ldc 71, 2) := by decide +kernel
theorem d1_9 : decode prog_68_method_13_code 9 = .ok (.if_icmp .le 45, 3) := by decide +kernel
theorem d1_12 : decode prog_68_method_13_code 12 = .ok (.iload_n 0, 1) := by decide +kernel
theorem d1_13 : decode prog_68_method_13_code 13 = .ok (.bipush 9, 2) := by decide +kernel
theorem d1_15 : decode prog_68_method_13_code 15 = .ok (.if_icmp .eq 39, 3) := by decide +kernel
theorem d1_18 : decode prog_68_method_13_code 18 = .ok (.iload_n 0, 1) := by decide +kernel
theorem d1_19 : decode prog_68_method_13_code 19 = .ok (.bipush 10, 2) := by decide +kernel
theorem d1_21 : decode prog_68_method_13_code 21 = .ok (.if_icmp .eq 33, 3) := by decide +kernel
theorem d1_24 : decode prog_68_method_13_code 24 = .ok (.iload_n 0, 1) := by decide +kernel
theorem d1_25 : decode prog_68_method_13_code 25 = .ok (.bipush 13, 2) := by decide +kernel
theorem d1_27 : decode prog_68_method_13_code 27 = .ok (.if_icmp .eq 27, 3) := by decide +kernel
theorem d1_30 : decode prog_68_method_13_code 30 = .ok (.iload_n 0, 1) := by decide +kernel
theorem d1_31 : decode prog_68_method_13_code 31 = .ok (.ldc 72, 2) := by decide +kernel
theorem d1_33 : decode prog_68_method_13_code 33 = .ok (.if_icmp .lt 9, 3) := by decide +kernel
theorem d1_36 : decode prog_68_method_13_code 36 = .ok (.iload_n 0, 1) := by decide +kernel
theorem d1_37 : decode prog_68_method_13_code 37 = .ok (.ldc 73, 2) := by decide +kernel
theorem d1_39 : decode prog_68_method_13_code 39 = .ok (.if_icmp .le 15, 3) := by decide +kernel
theorem d1_42 : decode prog_68_method_13_code 42 = .ok (.iload_n 0, 1) := by decide +kernel
theorem d1_43 : decode prog_68_method_13_code 43 = .ok (.ldc 74, 2) := by decide +kernel
theorem d1_45 : decode prog_68_method_13_code 45 = .ok (.if_icmp .lt 13, 3) := by decide +kernel
theorem d1_48 : decode prog_68_method_13_code 48 = .ok (.iload_n 0, 1) := by decide +kernel
theorem d1_49 : decode prog_68_method_13_code 49 = .ok (.ldc 75, 2) := by decide +kernel
theorem d1_51 : decode prog_68_method_13_code 51 = .ok (.if_icmp .gt 7, 3) := by decide +kernel
theorem d1_54 : decode prog_68_method_13_code 54 = .ok (.iconst 1, 1) := by decide +kernel
theorem d1_55 : decode prog_68_method_13_code 55 = .ok (.goto 4, 3) := by decide +kernel
theorem d1_58 : decode prog_68_method_13_code 58 = .ok (.iconst 0, 1) := by decide +kernel
theorem d1_59 : decode prog_68_method_13_code 59 = .ok (.ireturn, 1) := by decide +kernel
theorem pn_1 : plainName "com/example/winding_path/windingpath/XmlChars" = true := by first | (simp [plainName, overriddenIn]; done) | decide +kernel
theorem ef_1 (m : MethodId) (p0 : Int32) : entryFrame m #[(.int p0)] 1 = mkF m 0 #[.val (.int p0)] [] := by first | (simp [entryFrame, mkF, argsToLocals, Value.category]; done) | rfl
set_option maxRecDepth 65536 in
set_option maxHeartbeats 40000000 in
theorem rm1 (l : Launch) (Z : State) (a0 : Array Value) (hw : ∀ d ∈ tables_1, d.before a0 Z = true) (ws : List Jvm.Cond) (p0 : Int32) (h0 : Heap) (n0 : Nat) :
    MetFree l (⟨"com/example/winding_path/windingpath/XmlChars", "isChar", "(I)Z"⟩ : MethodName) (head1 (Jvm.Cond.code (⟨"com/example/winding_path/windingpath/XmlChars", "isChar", "(I)Z"⟩ : MethodName) prog_68_method_13_code 1 (some .boolean) :: ws) ({ frames := 0, cells := 0, slots := 0, locals := 0 } : Room)) (fun a U => a = #[(.int p0)] ∧ Z.Warmed39 U.vm ∧ U.heap = h0) (fun _ _ _ _ _ => True) (fun _ U o U' => ∃ v L, o = .returned v ∧ QP (some (.int (own_isc p0))) h0 n0 v U'.heap L ∧ FrameEnd U o U' L ({ frames := 0, cells := 0, slots := 0, locals := 0 } : Room).cells ({ frames := 0, cells := 0, slots := 0, locals := 0 } : Room).slots) := by
  refine MetFree.of_bodySF (plainFor_of_name pn_1) hisR ?_
  intro p e s m args below meth c s₁ Bd hml0 hP hK
  obtain ⟨rfl, hZ, hh⟩ := hP
  have hx := Bd.exec
  have hby := Bd.bytes
  have hml : c.maxLocals = 1 := hml0
  have hown : s.vm.findClass "com/example/winding_path/windingpath/XmlChars" = some m.cls := findClass_of_methodNamed Bd.named
  have hnm := (name_of_methodNamed Bd.named Bd.method).1
  have X0 : Stand p l e ({ frames := 0, cells := 0, slots := 0, locals := 0 } : Room) s m #[(.int p0)] below meth c s₁ [] 0 0 := Stand.of_body Bd
  have e0 : s₁.heap = h0 := by rw [← hh, Bd.state]; rfl
  have N0 := Fr.nil n0
  have go0 : ∀ t, Steps p.tables e below (s₁.setTop (mkF m 0 #[.val (.int p0)] [])) t → Steps p.tables e below (s₁.setTop (entryFrame m #[(.int p0)] 1)) t := fun t k => castTop (ef_1 m p0) k
  have go1 : ∀ t, Steps p.tables e below (s₁.setTop (mkF m 3 #[.val (.int p0)] [(.int (32 : Int32)), (.int p0)])) t → Steps p.tables e below (s₁.setTop (entryFrame m #[(.int p0)] 1)) t := fun t kt => go0 t (by
      refine XS.iloadN X0.here hx rfl (hb hby d1_0) rfl ?_
      show Steps p.tables e below (s₁.setTop (mkF m 1 #[.val (.int p0)] [(.int p0)])) _
      refine XS.bipush X0.here hx rfl (hb hby d1_1) ?_
      show Steps p.tables e below (s₁.setTop (mkF m 3 #[.val (.int p0)] [(.int (32 : Int32)), (.int p0)])) _
      exact kt)
  by_cases hc3_2 : p0 < (32 : Int32)
  · have go3 : ∀ t, Steps p.tables e below (s₁.setTop (mkF m 15 #[.val (.int p0)] [(.int (9 : Int32)), (.int p0)])) t → Steps p.tables e below (s₁.setTop (entryFrame m #[(.int p0)] 1)) t := fun t kt => go1 t (by
        refine XS.icmpYes X0.here hx rfl (pc0 := 3) (pc' := 12) rfl (hb hby d1_3) rfl (tlt hc3_2).1 (by decide) (by decide) ?_
        show Steps p.tables e below (s₁.setTop (mkF m 12 #[.val (.int p0)] [])) _
        refine XS.iloadN X0.here hx rfl (hb hby d1_12) rfl ?_
        show Steps p.tables e below (s₁.setTop (mkF m 13 #[.val (.int p0)] [(.int p0)])) _
        refine XS.bipush X0.here hx rfl (hb hby d1_13) ?_
        show Steps p.tables e below (s₁.setTop (mkF m 15 #[.val (.int p0)] [(.int (9 : Int32)), (.int p0)])) _
        exact kt)
    by_cases hc15_4 : p0 = (9 : Int32)
    · have go5 : ∀ t, Steps p.tables e below (s₁.setTop (mkF m 59 #[.val (.int p0)] [(.int (1 : Int32))])) t → Steps p.tables e below (s₁.setTop (entryFrame m #[(.int p0)] 1)) t := fun t kt => go3 t (by
          refine XS.icmpYes X0.here hx rfl (pc0 := 15) (pc' := 54) rfl (hb hby d1_15) rfl (teq hc15_4).1 (by decide) (by decide) ?_
          show Steps p.tables e below (s₁.setTop (mkF m 54 #[.val (.int p0)] [])) _
          refine XS.iconst X0.here hx rfl (hb hby d1_54) ?_
          show Steps p.tables e below (s₁.setTop (mkF m 55 #[.val (.int p0)] [(.int (1 : Int32))])) _
          refine XS.goto X0.here hx rfl (pc0 := 55) (pc' := 59) rfl (hb hby d1_55) (by decide) (by decide) ?_
          show Steps p.tables e below (s₁.setTop (mkF m 59 #[.val (.int p0)] [(.int (1 : Int32))])) _
          exact kt)
      obtain ⟨fs, hr, hrun, hended, hW, hsame⟩ := X0.leave (v := some (.int (1 : Int32))) (fun h => by rw [Bd.returns] at h; cases h)
      refine ⟨_, _, go5 _ (retN X0 hx (t := .boolean) Bd.returns (by simp) (hb hby d1_59) hr), hrun, hended, _, _, rfl, ?_, ⟨_, rfl⟩, hW, hsame.mono (by decide) (by decide)⟩
      refine ⟨?_, N0, e0⟩
      show some (Value.int (1 : Int32)) = some (.int (own_isc p0))
      unfold own_isc
      rw [if_pos hc3_2, if_pos hc15_4]
    · have go6 : ∀ t, Steps p.tables e below (s₁.setTop (mkF m 21 #[.val (.int p0)] [(.int (10 : Int32)), (.int p0)])) t → Steps p.tables e below (s₁.setTop (entryFrame m #[(.int p0)] 1)) t := fun t kt => go3 t (by
          refine XS.icmpNo X0.here hx rfl (hb hby d1_15) rfl (feq hc15_4).1 ?_
          show Steps p.tables e below (s₁.setTop (mkF m 18 #[.val (.int p0)] [])) _
          refine XS.iloadN X0.here hx rfl (hb hby d1_18) rfl ?_
          show Steps p.tables e below (s₁.setTop (mkF m 19 #[.val (.int p0)] [(.int p0)])) _
          refine XS.bipush X0.here hx rfl (hb hby d1_19) ?_
          show Steps p.tables e below (s₁.setTop (mkF m 21 #[.val (.int p0)] [(.int (10 : Int32)), (.int p0)])) _
          exact kt)
      by_cases hc21_7 : p0 = (10 : Int32)
      · have go8 : ∀ t, Steps p.tables e below (s₁.setTop (mkF m 59 #[.val (.int p0)] [(.int (1 : Int32))])) t → Steps p.tables e below (s₁.setTop (entryFrame m #[(.int p0)] 1)) t := fun t kt => go6 t (by
            refine XS.icmpYes X0.here hx rfl (pc0 := 21) (pc' := 54) rfl (hb hby d1_21) rfl (teq hc21_7).1 (by decide) (by decide) ?_
            show Steps p.tables e below (s₁.setTop (mkF m 54 #[.val (.int p0)] [])) _
            refine XS.iconst X0.here hx rfl (hb hby d1_54) ?_
            show Steps p.tables e below (s₁.setTop (mkF m 55 #[.val (.int p0)] [(.int (1 : Int32))])) _
            refine XS.goto X0.here hx rfl (pc0 := 55) (pc' := 59) rfl (hb hby d1_55) (by decide) (by decide) ?_
            show Steps p.tables e below (s₁.setTop (mkF m 59 #[.val (.int p0)] [(.int (1 : Int32))])) _
            exact kt)
        obtain ⟨fs, hr, hrun, hended, hW, hsame⟩ := X0.leave (v := some (.int (1 : Int32))) (fun h => by rw [Bd.returns] at h; cases h)
        refine ⟨_, _, go8 _ (retN X0 hx (t := .boolean) Bd.returns (by simp) (hb hby d1_59) hr), hrun, hended, _, _, rfl, ?_, ⟨_, rfl⟩, hW, hsame.mono (by decide) (by decide)⟩
        refine ⟨?_, N0, e0⟩
        show some (Value.int (1 : Int32)) = some (.int (own_isc p0))
        unfold own_isc
        rw [if_pos hc3_2, if_neg hc15_4, if_pos hc21_7]
      · have go9 : ∀ t, Steps p.tables e below (s₁.setTop (mkF m 27 #[.val (.int p0)] [(.int (13 : Int32)), (.int p0)])) t → Steps p.tables e below (s₁.setTop (entryFrame m #[(.int p0)] 1)) t := fun t kt => go6 t (by
            refine XS.icmpNo X0.here hx rfl (hb hby d1_21) rfl (feq hc21_7).1 ?_
            show Steps p.tables e below (s₁.setTop (mkF m 24 #[.val (.int p0)] [])) _
            refine XS.iloadN X0.here hx rfl (hb hby d1_24) rfl ?_
            show Steps p.tables e below (s₁.setTop (mkF m 25 #[.val (.int p0)] [(.int p0)])) _
            refine XS.bipush X0.here hx rfl (hb hby d1_25) ?_
            show Steps p.tables e below (s₁.setTop (mkF m 27 #[.val (.int p0)] [(.int (13 : Int32)), (.int p0)])) _
            exact kt)
        by_cases hc27_10 : p0 = (13 : Int32)
        · have go11 : ∀ t, Steps p.tables e below (s₁.setTop (mkF m 59 #[.val (.int p0)] [(.int (1 : Int32))])) t → Steps p.tables e below (s₁.setTop (entryFrame m #[(.int p0)] 1)) t := fun t kt => go9 t (by
              refine XS.icmpYes X0.here hx rfl (pc0 := 27) (pc' := 54) rfl (hb hby d1_27) rfl (teq hc27_10).1 (by decide) (by decide) ?_
              show Steps p.tables e below (s₁.setTop (mkF m 54 #[.val (.int p0)] [])) _
              refine XS.iconst X0.here hx rfl (hb hby d1_54) ?_
              show Steps p.tables e below (s₁.setTop (mkF m 55 #[.val (.int p0)] [(.int (1 : Int32))])) _
              refine XS.goto X0.here hx rfl (pc0 := 55) (pc' := 59) rfl (hb hby d1_55) (by decide) (by decide) ?_
              show Steps p.tables e below (s₁.setTop (mkF m 59 #[.val (.int p0)] [(.int (1 : Int32))])) _
              exact kt)
          obtain ⟨fs, hr, hrun, hended, hW, hsame⟩ := X0.leave (v := some (.int (1 : Int32))) (fun h => by rw [Bd.returns] at h; cases h)
          refine ⟨_, _, go11 _ (retN X0 hx (t := .boolean) Bd.returns (by simp) (hb hby d1_59) hr), hrun, hended, _, _, rfl, ?_, ⟨_, rfl⟩, hW, hsame.mono (by decide) (by decide)⟩
          refine ⟨?_, N0, e0⟩
          show some (Value.int (1 : Int32)) = some (.int (own_isc p0))
          unfold own_isc
          rw [if_pos hc3_2, if_neg hc15_4, if_neg hc21_7, if_pos hc27_10]
        · have go12 : ∀ t, Steps p.tables e below (s₁.setTop (mkF m 33 #[.val (.int p0)] [(.int (57344 : Int32)), (.int p0)])) t → Steps p.tables e below (s₁.setTop (entryFrame m #[(.int p0)] 1)) t := fun t kt => go9 t (by
              refine XS.icmpNo X0.here hx rfl (hb hby d1_27) rfl (feq hc27_10).1 ?_
              show Steps p.tables e below (s₁.setTop (mkF m 30 #[.val (.int p0)] [])) _
              refine XS.iloadN X0.here hx rfl (hb hby d1_30) rfl ?_
              show Steps p.tables e below (s₁.setTop (mkF m 31 #[.val (.int p0)] [(.int p0)])) _
              refine X0.ldcInt hx hown (mvT hZ (hw _ (List.mem_of_getElem? (i := 17) rfl))) (g := (mkF m 31 #[.val (.int p0)] [(.int p0)])) rfl (hb hby d1_31) _ ?_
              show Steps p.tables e below (s₁.setTop (mkF m 33 #[.val (.int p0)] [(.int (57344 : Int32)), (.int p0)])) _
              exact kt)
          by_cases hc33_13 : p0 < (57344 : Int32)
          · have go14 : ∀ t, Steps p.tables e below (s₁.setTop (mkF m 45 #[.val (.int p0)] [(.int (65536 : Int32)), (.int p0)])) t → Steps p.tables e below (s₁.setTop (entryFrame m #[(.int p0)] 1)) t := fun t kt => go12 t (by
                refine XS.icmpYes X0.here hx rfl (pc0 := 33) (pc' := 42) rfl (hb hby d1_33) rfl (tlt hc33_13).1 (by decide) (by decide) ?_
                show Steps p.tables e below (s₁.setTop (mkF m 42 #[.val (.int p0)] [])) _
                refine XS.iloadN X0.here hx rfl (hb hby d1_42) rfl ?_
                show Steps p.tables e below (s₁.setTop (mkF m 43 #[.val (.int p0)] [(.int p0)])) _
                refine X0.ldcInt hx hown (mvT hZ (hw _ (List.mem_of_getElem? (i := 18) rfl))) (g := (mkF m 43 #[.val (.int p0)] [(.int p0)])) rfl (hb hby d1_43) _ ?_
                show Steps p.tables e below (s₁.setTop (mkF m 45 #[.val (.int p0)] [(.int (65536 : Int32)), (.int p0)])) _
                exact kt)
            by_cases hc45_15 : p0 < (65536 : Int32)
            · have go16 : ∀ t, Steps p.tables e below (s₁.setTop (mkF m 59 #[.val (.int p0)] [(.int (0 : Int32))])) t → Steps p.tables e below (s₁.setTop (entryFrame m #[(.int p0)] 1)) t := fun t kt => go14 t (by
                  refine XS.icmpYes X0.here hx rfl (pc0 := 45) (pc' := 58) rfl (hb hby d1_45) rfl (tlt hc45_15).1 (by decide) (by decide) ?_
                  show Steps p.tables e below (s₁.setTop (mkF m 58 #[.val (.int p0)] [])) _
                  refine XS.iconst X0.here hx rfl (hb hby d1_58) ?_
                  show Steps p.tables e below (s₁.setTop (mkF m 59 #[.val (.int p0)] [(.int (0 : Int32))])) _
                  exact kt)
              obtain ⟨fs, hr, hrun, hended, hW, hsame⟩ := X0.leave (v := some (.int (0 : Int32))) (fun h => by rw [Bd.returns] at h; cases h)
              refine ⟨_, _, go16 _ (retN X0 hx (t := .boolean) Bd.returns (by simp) (hb hby d1_59) hr), hrun, hended, _, _, rfl, ?_, ⟨_, rfl⟩, hW, hsame.mono (by decide) (by decide)⟩
              refine ⟨?_, N0, e0⟩
              show some (Value.int (0 : Int32)) = some (.int (own_isc p0))
              unfold own_isc
              rw [if_pos hc3_2, if_neg hc15_4, if_neg hc21_7, if_neg hc27_10, if_pos hc33_13, if_pos hc45_15]
            · have go17 : ∀ t, Steps p.tables e below (s₁.setTop (mkF m 51 #[.val (.int p0)] [(.int (1114111 : Int32)), (.int p0)])) t → Steps p.tables e below (s₁.setTop (entryFrame m #[(.int p0)] 1)) t := fun t kt => go14 t (by
                  refine XS.icmpNo X0.here hx rfl (hb hby d1_45) rfl (flt hc45_15).1 ?_
                  show Steps p.tables e below (s₁.setTop (mkF m 48 #[.val (.int p0)] [])) _
                  refine XS.iloadN X0.here hx rfl (hb hby d1_48) rfl ?_
                  show Steps p.tables e below (s₁.setTop (mkF m 49 #[.val (.int p0)] [(.int p0)])) _
                  refine X0.ldcInt hx hown (mvT hZ (hw _ (List.mem_of_getElem? (i := 25) rfl))) (g := (mkF m 49 #[.val (.int p0)] [(.int p0)])) rfl (hb hby d1_49) _ ?_
                  show Steps p.tables e below (s₁.setTop (mkF m 51 #[.val (.int p0)] [(.int (1114111 : Int32)), (.int p0)])) _
                  exact kt)
              by_cases hc51_18 : (1114111 : Int32) < p0
              · have go19 : ∀ t, Steps p.tables e below (s₁.setTop (mkF m 59 #[.val (.int p0)] [(.int (0 : Int32))])) t → Steps p.tables e below (s₁.setTop (entryFrame m #[(.int p0)] 1)) t := fun t kt => go17 t (by
                    refine XS.icmpYes X0.here hx rfl (pc0 := 51) (pc' := 58) rfl (hb hby d1_51) rfl (tlt hc51_18).2.2.1 (by decide) (by decide) ?_
                    show Steps p.tables e below (s₁.setTop (mkF m 58 #[.val (.int p0)] [])) _
                    refine XS.iconst X0.here hx rfl (hb hby d1_58) ?_
                    show Steps p.tables e below (s₁.setTop (mkF m 59 #[.val (.int p0)] [(.int (0 : Int32))])) _
                    exact kt)
                obtain ⟨fs, hr, hrun, hended, hW, hsame⟩ := X0.leave (v := some (.int (0 : Int32))) (fun h => by rw [Bd.returns] at h; cases h)
                refine ⟨_, _, go19 _ (retN X0 hx (t := .boolean) Bd.returns (by simp) (hb hby d1_59) hr), hrun, hended, _, _, rfl, ?_, ⟨_, rfl⟩, hW, hsame.mono (by decide) (by decide)⟩
                refine ⟨?_, N0, e0⟩
                show some (Value.int (0 : Int32)) = some (.int (own_isc p0))
                unfold own_isc
                rw [if_pos hc3_2, if_neg hc15_4, if_neg hc21_7, if_neg hc27_10, if_pos hc33_13, if_neg hc45_15, if_pos hc51_18]
              · have go20 : ∀ t, Steps p.tables e below (s₁.setTop (mkF m 59 #[.val (.int p0)] [(.int (1 : Int32))])) t → Steps p.tables e below (s₁.setTop (entryFrame m #[(.int p0)] 1)) t := fun t kt => go17 t (by
                    refine XS.icmpNo X0.here hx rfl (hb hby d1_51) rfl (flt hc51_18).2.2.1 ?_
                    show Steps p.tables e below (s₁.setTop (mkF m 54 #[.val (.int p0)] [])) _
                    refine XS.iconst X0.here hx rfl (hb hby d1_54) ?_
                    show Steps p.tables e below (s₁.setTop (mkF m 55 #[.val (.int p0)] [(.int (1 : Int32))])) _
                    refine XS.goto X0.here hx rfl (pc0 := 55) (pc' := 59) rfl (hb hby d1_55) (by decide) (by decide) ?_
                    show Steps p.tables e below (s₁.setTop (mkF m 59 #[.val (.int p0)] [(.int (1 : Int32))])) _
                    exact kt)
                obtain ⟨fs, hr, hrun, hended, hW, hsame⟩ := X0.leave (v := some (.int (1 : Int32))) (fun h => by rw [Bd.returns] at h; cases h)
                refine ⟨_, _, go20 _ (retN X0 hx (t := .boolean) Bd.returns (by simp) (hb hby d1_59) hr), hrun, hended, _, _, rfl, ?_, ⟨_, rfl⟩, hW, hsame.mono (by decide) (by decide)⟩
                refine ⟨?_, N0, e0⟩
                show some (Value.int (1 : Int32)) = some (.int (own_isc p0))
                unfold own_isc
                rw [if_pos hc3_2, if_neg hc15_4, if_neg hc21_7, if_neg hc27_10, if_pos hc33_13, if_neg hc45_15, if_neg hc51_18]
          · have go21 : ∀ t, Steps p.tables e below (s₁.setTop (mkF m 39 #[.val (.int p0)] [(.int (65533 : Int32)), (.int p0)])) t → Steps p.tables e below (s₁.setTop (entryFrame m #[(.int p0)] 1)) t := fun t kt => go12 t (by
                refine XS.icmpNo X0.here hx rfl (hb hby d1_33) rfl (flt hc33_13).1 ?_
                show Steps p.tables e below (s₁.setTop (mkF m 36 #[.val (.int p0)] [])) _
                refine XS.iloadN X0.here hx rfl (hb hby d1_36) rfl ?_
                show Steps p.tables e below (s₁.setTop (mkF m 37 #[.val (.int p0)] [(.int p0)])) _
                refine X0.ldcInt hx hown (mvT hZ (hw _ (List.mem_of_getElem? (i := 24) rfl))) (g := (mkF m 37 #[.val (.int p0)] [(.int p0)])) rfl (hb hby d1_37) _ ?_
                show Steps p.tables e below (s₁.setTop (mkF m 39 #[.val (.int p0)] [(.int (65533 : Int32)), (.int p0)])) _
                exact kt)
            by_cases hc39_22 : (65533 : Int32) < p0
            · have go23 : ∀ t, Steps p.tables e below (s₁.setTop (mkF m 45 #[.val (.int p0)] [(.int (65536 : Int32)), (.int p0)])) t → Steps p.tables e below (s₁.setTop (entryFrame m #[(.int p0)] 1)) t := fun t kt => go21 t (by
                  refine XS.icmpNo X0.here hx rfl (hb hby d1_39) rfl (tlt hc39_22).2.2.2 ?_
                  show Steps p.tables e below (s₁.setTop (mkF m 42 #[.val (.int p0)] [])) _
                  refine XS.iloadN X0.here hx rfl (hb hby d1_42) rfl ?_
                  show Steps p.tables e below (s₁.setTop (mkF m 43 #[.val (.int p0)] [(.int p0)])) _
                  refine X0.ldcInt hx hown (mvT hZ (hw _ (List.mem_of_getElem? (i := 18) rfl))) (g := (mkF m 43 #[.val (.int p0)] [(.int p0)])) rfl (hb hby d1_43) _ ?_
                  show Steps p.tables e below (s₁.setTop (mkF m 45 #[.val (.int p0)] [(.int (65536 : Int32)), (.int p0)])) _
                  exact kt)
              by_cases hc45_24 : p0 < (65536 : Int32)
              · have go25 : ∀ t, Steps p.tables e below (s₁.setTop (mkF m 59 #[.val (.int p0)] [(.int (0 : Int32))])) t → Steps p.tables e below (s₁.setTop (entryFrame m #[(.int p0)] 1)) t := fun t kt => go23 t (by
                    refine XS.icmpYes X0.here hx rfl (pc0 := 45) (pc' := 58) rfl (hb hby d1_45) rfl (tlt hc45_24).1 (by decide) (by decide) ?_
                    show Steps p.tables e below (s₁.setTop (mkF m 58 #[.val (.int p0)] [])) _
                    refine XS.iconst X0.here hx rfl (hb hby d1_58) ?_
                    show Steps p.tables e below (s₁.setTop (mkF m 59 #[.val (.int p0)] [(.int (0 : Int32))])) _
                    exact kt)
                obtain ⟨fs, hr, hrun, hended, hW, hsame⟩ := X0.leave (v := some (.int (0 : Int32))) (fun h => by rw [Bd.returns] at h; cases h)
                refine ⟨_, _, go25 _ (retN X0 hx (t := .boolean) Bd.returns (by simp) (hb hby d1_59) hr), hrun, hended, _, _, rfl, ?_, ⟨_, rfl⟩, hW, hsame.mono (by decide) (by decide)⟩
                refine ⟨?_, N0, e0⟩
                show some (Value.int (0 : Int32)) = some (.int (own_isc p0))
                unfold own_isc
                rw [if_pos hc3_2, if_neg hc15_4, if_neg hc21_7, if_neg hc27_10, if_neg hc33_13, if_pos hc39_22, if_pos hc45_24]
              · have go26 : ∀ t, Steps p.tables e below (s₁.setTop (mkF m 51 #[.val (.int p0)] [(.int (1114111 : Int32)), (.int p0)])) t → Steps p.tables e below (s₁.setTop (entryFrame m #[(.int p0)] 1)) t := fun t kt => go23 t (by
                    refine XS.icmpNo X0.here hx rfl (hb hby d1_45) rfl (flt hc45_24).1 ?_
                    show Steps p.tables e below (s₁.setTop (mkF m 48 #[.val (.int p0)] [])) _
                    refine XS.iloadN X0.here hx rfl (hb hby d1_48) rfl ?_
                    show Steps p.tables e below (s₁.setTop (mkF m 49 #[.val (.int p0)] [(.int p0)])) _
                    refine X0.ldcInt hx hown (mvT hZ (hw _ (List.mem_of_getElem? (i := 25) rfl))) (g := (mkF m 49 #[.val (.int p0)] [(.int p0)])) rfl (hb hby d1_49) _ ?_
                    show Steps p.tables e below (s₁.setTop (mkF m 51 #[.val (.int p0)] [(.int (1114111 : Int32)), (.int p0)])) _
                    exact kt)
                by_cases hc51_27 : (1114111 : Int32) < p0
                · have go28 : ∀ t, Steps p.tables e below (s₁.setTop (mkF m 59 #[.val (.int p0)] [(.int (0 : Int32))])) t → Steps p.tables e below (s₁.setTop (entryFrame m #[(.int p0)] 1)) t := fun t kt => go26 t (by
                      refine XS.icmpYes X0.here hx rfl (pc0 := 51) (pc' := 58) rfl (hb hby d1_51) rfl (tlt hc51_27).2.2.1 (by decide) (by decide) ?_
                      show Steps p.tables e below (s₁.setTop (mkF m 58 #[.val (.int p0)] [])) _
                      refine XS.iconst X0.here hx rfl (hb hby d1_58) ?_
                      show Steps p.tables e below (s₁.setTop (mkF m 59 #[.val (.int p0)] [(.int (0 : Int32))])) _
                      exact kt)
                  obtain ⟨fs, hr, hrun, hended, hW, hsame⟩ := X0.leave (v := some (.int (0 : Int32))) (fun h => by rw [Bd.returns] at h; cases h)
                  refine ⟨_, _, go28 _ (retN X0 hx (t := .boolean) Bd.returns (by simp) (hb hby d1_59) hr), hrun, hended, _, _, rfl, ?_, ⟨_, rfl⟩, hW, hsame.mono (by decide) (by decide)⟩
                  refine ⟨?_, N0, e0⟩
                  show some (Value.int (0 : Int32)) = some (.int (own_isc p0))
                  unfold own_isc
                  rw [if_pos hc3_2, if_neg hc15_4, if_neg hc21_7, if_neg hc27_10, if_neg hc33_13, if_pos hc39_22, if_neg hc45_24, if_pos hc51_27]
                · have go29 : ∀ t, Steps p.tables e below (s₁.setTop (mkF m 59 #[.val (.int p0)] [(.int (1 : Int32))])) t → Steps p.tables e below (s₁.setTop (entryFrame m #[(.int p0)] 1)) t := fun t kt => go26 t (by
                      refine XS.icmpNo X0.here hx rfl (hb hby d1_51) rfl (flt hc51_27).2.2.1 ?_
                      show Steps p.tables e below (s₁.setTop (mkF m 54 #[.val (.int p0)] [])) _
                      refine XS.iconst X0.here hx rfl (hb hby d1_54) ?_
                      show Steps p.tables e below (s₁.setTop (mkF m 55 #[.val (.int p0)] [(.int (1 : Int32))])) _
                      refine XS.goto X0.here hx rfl (pc0 := 55) (pc' := 59) rfl (hb hby d1_55) (by decide) (by decide) ?_
                      show Steps p.tables e below (s₁.setTop (mkF m 59 #[.val (.int p0)] [(.int (1 : Int32))])) _
                      exact kt)
                  obtain ⟨fs, hr, hrun, hended, hW, hsame⟩ := X0.leave (v := some (.int (1 : Int32))) (fun h => by rw [Bd.returns] at h; cases h)
                  refine ⟨_, _, go29 _ (retN X0 hx (t := .boolean) Bd.returns (by simp) (hb hby d1_59) hr), hrun, hended, _, _, rfl, ?_, ⟨_, rfl⟩, hW, hsame.mono (by decide) (by decide)⟩
                  refine ⟨?_, N0, e0⟩
                  show some (Value.int (1 : Int32)) = some (.int (own_isc p0))
                  unfold own_isc
                  rw [if_pos hc3_2, if_neg hc15_4, if_neg hc21_7, if_neg hc27_10, if_neg hc33_13, if_pos hc39_22, if_neg hc45_24, if_neg hc51_27]
            · have go30 : ∀ t, Steps p.tables e below (s₁.setTop (mkF m 59 #[.val (.int p0)] [(.int (1 : Int32))])) t → Steps p.tables e below (s₁.setTop (entryFrame m #[(.int p0)] 1)) t := fun t kt => go21 t (by
                  refine XS.icmpYes X0.here hx rfl (pc0 := 39) (pc' := 54) rfl (hb hby d1_39) rfl (flt hc39_22).2.2.2 (by decide) (by decide) ?_
                  show Steps p.tables e below (s₁.setTop (mkF m 54 #[.val (.int p0)] [])) _
                  refine XS.iconst X0.here hx rfl (hb hby d1_54) ?_
                  show Steps p.tables e below (s₁.setTop (mkF m 55 #[.val (.int p0)] [(.int (1 : Int32))])) _
                  refine XS.goto X0.here hx rfl (pc0 := 55) (pc' := 59) rfl (hb hby d1_55) (by decide) (by decide) ?_
                  show Steps p.tables e below (s₁.setTop (mkF m 59 #[.val (.int p0)] [(.int (1 : Int32))])) _
                  exact kt)
              obtain ⟨fs, hr, hrun, hended, hW, hsame⟩ := X0.leave (v := some (.int (1 : Int32))) (fun h => by rw [Bd.returns] at h; cases h)
              refine ⟨_, _, go30 _ (retN X0 hx (t := .boolean) Bd.returns (by simp) (hb hby d1_59) hr), hrun, hended, _, _, rfl, ?_, ⟨_, rfl⟩, hW, hsame.mono (by decide) (by decide)⟩
              refine ⟨?_, N0, e0⟩
              show some (Value.int (1 : Int32)) = some (.int (own_isc p0))
              unfold own_isc
              rw [if_pos hc3_2, if_neg hc15_4, if_neg hc21_7, if_neg hc27_10, if_neg hc33_13, if_neg hc39_22]
  · have go31 : ∀ t, Steps p.tables e below (s₁.setTop (mkF m 9 #[.val (.int p0)] [(.int (55295 : Int32)), (.int p0)])) t → Steps p.tables e below (s₁.setTop (entryFrame m #[(.int p0)] 1)) t := fun t kt => go1 t (by
        refine XS.icmpNo X0.here hx rfl (hb hby d1_3) rfl (flt hc3_2).1 ?_
        show Steps p.tables e below (s₁.setTop (mkF m 6 #[.val (.int p0)] [])) _
        refine XS.iloadN X0.here hx rfl (hb hby d1_6) rfl ?_
        show Steps p.tables e below (s₁.setTop (mkF m 7 #[.val (.int p0)] [(.int p0)])) _
        refine X0.ldcInt hx hown (mvT hZ (hw _ (List.mem_of_getElem? (i := 23) rfl))) (g := (mkF m 7 #[.val (.int p0)] [(.int p0)])) rfl (hb hby d1_7) _ ?_
        show Steps p.tables e below (s₁.setTop (mkF m 9 #[.val (.int p0)] [(.int (55295 : Int32)), (.int p0)])) _
        exact kt)
    by_cases hc9_32 : (55295 : Int32) < p0
    · have go33 : ∀ t, Steps p.tables e below (s₁.setTop (mkF m 15 #[.val (.int p0)] [(.int (9 : Int32)), (.int p0)])) t → Steps p.tables e below (s₁.setTop (entryFrame m #[(.int p0)] 1)) t := fun t kt => go31 t (by
          refine XS.icmpNo X0.here hx rfl (hb hby d1_9) rfl (tlt hc9_32).2.2.2 ?_
          show Steps p.tables e below (s₁.setTop (mkF m 12 #[.val (.int p0)] [])) _
          refine XS.iloadN X0.here hx rfl (hb hby d1_12) rfl ?_
          show Steps p.tables e below (s₁.setTop (mkF m 13 #[.val (.int p0)] [(.int p0)])) _
          refine XS.bipush X0.here hx rfl (hb hby d1_13) ?_
          show Steps p.tables e below (s₁.setTop (mkF m 15 #[.val (.int p0)] [(.int (9 : Int32)), (.int p0)])) _
          exact kt)
      by_cases hc15_34 : p0 = (9 : Int32)
      · have go35 : ∀ t, Steps p.tables e below (s₁.setTop (mkF m 59 #[.val (.int p0)] [(.int (1 : Int32))])) t → Steps p.tables e below (s₁.setTop (entryFrame m #[(.int p0)] 1)) t := fun t kt => go33 t (by
            refine XS.icmpYes X0.here hx rfl (pc0 := 15) (pc' := 54) rfl (hb hby d1_15) rfl (teq hc15_34).1 (by decide) (by decide) ?_
            show Steps p.tables e below (s₁.setTop (mkF m 54 #[.val (.int p0)] [])) _
            refine XS.iconst X0.here hx rfl (hb hby d1_54) ?_
            show Steps p.tables e below (s₁.setTop (mkF m 55 #[.val (.int p0)] [(.int (1 : Int32))])) _
            refine XS.goto X0.here hx rfl (pc0 := 55) (pc' := 59) rfl (hb hby d1_55) (by decide) (by decide) ?_
            show Steps p.tables e below (s₁.setTop (mkF m 59 #[.val (.int p0)] [(.int (1 : Int32))])) _
            exact kt)
        obtain ⟨fs, hr, hrun, hended, hW, hsame⟩ := X0.leave (v := some (.int (1 : Int32))) (fun h => by rw [Bd.returns] at h; cases h)
        refine ⟨_, _, go35 _ (retN X0 hx (t := .boolean) Bd.returns (by simp) (hb hby d1_59) hr), hrun, hended, _, _, rfl, ?_, ⟨_, rfl⟩, hW, hsame.mono (by decide) (by decide)⟩
        refine ⟨?_, N0, e0⟩
        show some (Value.int (1 : Int32)) = some (.int (own_isc p0))
        unfold own_isc
        rw [if_neg hc3_2, if_pos hc9_32, if_pos hc15_34]
      · have go36 : ∀ t, Steps p.tables e below (s₁.setTop (mkF m 21 #[.val (.int p0)] [(.int (10 : Int32)), (.int p0)])) t → Steps p.tables e below (s₁.setTop (entryFrame m #[(.int p0)] 1)) t := fun t kt => go33 t (by
            refine XS.icmpNo X0.here hx rfl (hb hby d1_15) rfl (feq hc15_34).1 ?_
            show Steps p.tables e below (s₁.setTop (mkF m 18 #[.val (.int p0)] [])) _
            refine XS.iloadN X0.here hx rfl (hb hby d1_18) rfl ?_
            show Steps p.tables e below (s₁.setTop (mkF m 19 #[.val (.int p0)] [(.int p0)])) _
            refine XS.bipush X0.here hx rfl (hb hby d1_19) ?_
            show Steps p.tables e below (s₁.setTop (mkF m 21 #[.val (.int p0)] [(.int (10 : Int32)), (.int p0)])) _
            exact kt)
        by_cases hc21_37 : p0 = (10 : Int32)
        · have go38 : ∀ t, Steps p.tables e below (s₁.setTop (mkF m 59 #[.val (.int p0)] [(.int (1 : Int32))])) t → Steps p.tables e below (s₁.setTop (entryFrame m #[(.int p0)] 1)) t := fun t kt => go36 t (by
              refine XS.icmpYes X0.here hx rfl (pc0 := 21) (pc' := 54) rfl (hb hby d1_21) rfl (teq hc21_37).1 (by decide) (by decide) ?_
              show Steps p.tables e below (s₁.setTop (mkF m 54 #[.val (.int p0)] [])) _
              refine XS.iconst X0.here hx rfl (hb hby d1_54) ?_
              show Steps p.tables e below (s₁.setTop (mkF m 55 #[.val (.int p0)] [(.int (1 : Int32))])) _
              refine XS.goto X0.here hx rfl (pc0 := 55) (pc' := 59) rfl (hb hby d1_55) (by decide) (by decide) ?_
              show Steps p.tables e below (s₁.setTop (mkF m 59 #[.val (.int p0)] [(.int (1 : Int32))])) _
              exact kt)
          obtain ⟨fs, hr, hrun, hended, hW, hsame⟩ := X0.leave (v := some (.int (1 : Int32))) (fun h => by rw [Bd.returns] at h; cases h)
          refine ⟨_, _, go38 _ (retN X0 hx (t := .boolean) Bd.returns (by simp) (hb hby d1_59) hr), hrun, hended, _, _, rfl, ?_, ⟨_, rfl⟩, hW, hsame.mono (by decide) (by decide)⟩
          refine ⟨?_, N0, e0⟩
          show some (Value.int (1 : Int32)) = some (.int (own_isc p0))
          unfold own_isc
          rw [if_neg hc3_2, if_pos hc9_32, if_neg hc15_34, if_pos hc21_37]
        · have go39 : ∀ t, Steps p.tables e below (s₁.setTop (mkF m 27 #[.val (.int p0)] [(.int (13 : Int32)), (.int p0)])) t → Steps p.tables e below (s₁.setTop (entryFrame m #[(.int p0)] 1)) t := fun t kt => go36 t (by
              refine XS.icmpNo X0.here hx rfl (hb hby d1_21) rfl (feq hc21_37).1 ?_
              show Steps p.tables e below (s₁.setTop (mkF m 24 #[.val (.int p0)] [])) _
              refine XS.iloadN X0.here hx rfl (hb hby d1_24) rfl ?_
              show Steps p.tables e below (s₁.setTop (mkF m 25 #[.val (.int p0)] [(.int p0)])) _
              refine XS.bipush X0.here hx rfl (hb hby d1_25) ?_
              show Steps p.tables e below (s₁.setTop (mkF m 27 #[.val (.int p0)] [(.int (13 : Int32)), (.int p0)])) _
              exact kt)
          by_cases hc27_40 : p0 = (13 : Int32)
          · have go41 : ∀ t, Steps p.tables e below (s₁.setTop (mkF m 59 #[.val (.int p0)] [(.int (1 : Int32))])) t → Steps p.tables e below (s₁.setTop (entryFrame m #[(.int p0)] 1)) t := fun t kt => go39 t (by
                refine XS.icmpYes X0.here hx rfl (pc0 := 27) (pc' := 54) rfl (hb hby d1_27) rfl (teq hc27_40).1 (by decide) (by decide) ?_
                show Steps p.tables e below (s₁.setTop (mkF m 54 #[.val (.int p0)] [])) _
                refine XS.iconst X0.here hx rfl (hb hby d1_54) ?_
                show Steps p.tables e below (s₁.setTop (mkF m 55 #[.val (.int p0)] [(.int (1 : Int32))])) _
                refine XS.goto X0.here hx rfl (pc0 := 55) (pc' := 59) rfl (hb hby d1_55) (by decide) (by decide) ?_
                show Steps p.tables e below (s₁.setTop (mkF m 59 #[.val (.int p0)] [(.int (1 : Int32))])) _
                exact kt)
            obtain ⟨fs, hr, hrun, hended, hW, hsame⟩ := X0.leave (v := some (.int (1 : Int32))) (fun h => by rw [Bd.returns] at h; cases h)
            refine ⟨_, _, go41 _ (retN X0 hx (t := .boolean) Bd.returns (by simp) (hb hby d1_59) hr), hrun, hended, _, _, rfl, ?_, ⟨_, rfl⟩, hW, hsame.mono (by decide) (by decide)⟩
            refine ⟨?_, N0, e0⟩
            show some (Value.int (1 : Int32)) = some (.int (own_isc p0))
            unfold own_isc
            rw [if_neg hc3_2, if_pos hc9_32, if_neg hc15_34, if_neg hc21_37, if_pos hc27_40]
          · have go42 : ∀ t, Steps p.tables e below (s₁.setTop (mkF m 33 #[.val (.int p0)] [(.int (57344 : Int32)), (.int p0)])) t → Steps p.tables e below (s₁.setTop (entryFrame m #[(.int p0)] 1)) t := fun t kt => go39 t (by
                refine XS.icmpNo X0.here hx rfl (hb hby d1_27) rfl (feq hc27_40).1 ?_
                show Steps p.tables e below (s₁.setTop (mkF m 30 #[.val (.int p0)] [])) _
                refine XS.iloadN X0.here hx rfl (hb hby d1_30) rfl ?_
                show Steps p.tables e below (s₁.setTop (mkF m 31 #[.val (.int p0)] [(.int p0)])) _
                refine X0.ldcInt hx hown (mvT hZ (hw _ (List.mem_of_getElem? (i := 17) rfl))) (g := (mkF m 31 #[.val (.int p0)] [(.int p0)])) rfl (hb hby d1_31) _ ?_
                show Steps p.tables e below (s₁.setTop (mkF m 33 #[.val (.int p0)] [(.int (57344 : Int32)), (.int p0)])) _
                exact kt)
            by_cases hc33_43 : p0 < (57344 : Int32)
            · have go44 : ∀ t, Steps p.tables e below (s₁.setTop (mkF m 45 #[.val (.int p0)] [(.int (65536 : Int32)), (.int p0)])) t → Steps p.tables e below (s₁.setTop (entryFrame m #[(.int p0)] 1)) t := fun t kt => go42 t (by
                  refine XS.icmpYes X0.here hx rfl (pc0 := 33) (pc' := 42) rfl (hb hby d1_33) rfl (tlt hc33_43).1 (by decide) (by decide) ?_
                  show Steps p.tables e below (s₁.setTop (mkF m 42 #[.val (.int p0)] [])) _
                  refine XS.iloadN X0.here hx rfl (hb hby d1_42) rfl ?_
                  show Steps p.tables e below (s₁.setTop (mkF m 43 #[.val (.int p0)] [(.int p0)])) _
                  refine X0.ldcInt hx hown (mvT hZ (hw _ (List.mem_of_getElem? (i := 18) rfl))) (g := (mkF m 43 #[.val (.int p0)] [(.int p0)])) rfl (hb hby d1_43) _ ?_
                  show Steps p.tables e below (s₁.setTop (mkF m 45 #[.val (.int p0)] [(.int (65536 : Int32)), (.int p0)])) _
                  exact kt)
              by_cases hc45_45 : p0 < (65536 : Int32)
              · have go46 : ∀ t, Steps p.tables e below (s₁.setTop (mkF m 59 #[.val (.int p0)] [(.int (0 : Int32))])) t → Steps p.tables e below (s₁.setTop (entryFrame m #[(.int p0)] 1)) t := fun t kt => go44 t (by
                    refine XS.icmpYes X0.here hx rfl (pc0 := 45) (pc' := 58) rfl (hb hby d1_45) rfl (tlt hc45_45).1 (by decide) (by decide) ?_
                    show Steps p.tables e below (s₁.setTop (mkF m 58 #[.val (.int p0)] [])) _
                    refine XS.iconst X0.here hx rfl (hb hby d1_58) ?_
                    show Steps p.tables e below (s₁.setTop (mkF m 59 #[.val (.int p0)] [(.int (0 : Int32))])) _
                    exact kt)
                obtain ⟨fs, hr, hrun, hended, hW, hsame⟩ := X0.leave (v := some (.int (0 : Int32))) (fun h => by rw [Bd.returns] at h; cases h)
                refine ⟨_, _, go46 _ (retN X0 hx (t := .boolean) Bd.returns (by simp) (hb hby d1_59) hr), hrun, hended, _, _, rfl, ?_, ⟨_, rfl⟩, hW, hsame.mono (by decide) (by decide)⟩
                refine ⟨?_, N0, e0⟩
                show some (Value.int (0 : Int32)) = some (.int (own_isc p0))
                unfold own_isc
                rw [if_neg hc3_2, if_pos hc9_32, if_neg hc15_34, if_neg hc21_37, if_neg hc27_40, if_pos hc33_43, if_pos hc45_45]
              · have go47 : ∀ t, Steps p.tables e below (s₁.setTop (mkF m 51 #[.val (.int p0)] [(.int (1114111 : Int32)), (.int p0)])) t → Steps p.tables e below (s₁.setTop (entryFrame m #[(.int p0)] 1)) t := fun t kt => go44 t (by
                    refine XS.icmpNo X0.here hx rfl (hb hby d1_45) rfl (flt hc45_45).1 ?_
                    show Steps p.tables e below (s₁.setTop (mkF m 48 #[.val (.int p0)] [])) _
                    refine XS.iloadN X0.here hx rfl (hb hby d1_48) rfl ?_
                    show Steps p.tables e below (s₁.setTop (mkF m 49 #[.val (.int p0)] [(.int p0)])) _
                    refine X0.ldcInt hx hown (mvT hZ (hw _ (List.mem_of_getElem? (i := 25) rfl))) (g := (mkF m 49 #[.val (.int p0)] [(.int p0)])) rfl (hb hby d1_49) _ ?_
                    show Steps p.tables e below (s₁.setTop (mkF m 51 #[.val (.int p0)] [(.int (1114111 : Int32)), (.int p0)])) _
                    exact kt)
                by_cases hc51_48 : (1114111 : Int32) < p0
                · have go49 : ∀ t, Steps p.tables e below (s₁.setTop (mkF m 59 #[.val (.int p0)] [(.int (0 : Int32))])) t → Steps p.tables e below (s₁.setTop (entryFrame m #[(.int p0)] 1)) t := fun t kt => go47 t (by
                      refine XS.icmpYes X0.here hx rfl (pc0 := 51) (pc' := 58) rfl (hb hby d1_51) rfl (tlt hc51_48).2.2.1 (by decide) (by decide) ?_
                      show Steps p.tables e below (s₁.setTop (mkF m 58 #[.val (.int p0)] [])) _
                      refine XS.iconst X0.here hx rfl (hb hby d1_58) ?_
                      show Steps p.tables e below (s₁.setTop (mkF m 59 #[.val (.int p0)] [(.int (0 : Int32))])) _
                      exact kt)
                  obtain ⟨fs, hr, hrun, hended, hW, hsame⟩ := X0.leave (v := some (.int (0 : Int32))) (fun h => by rw [Bd.returns] at h; cases h)
                  refine ⟨_, _, go49 _ (retN X0 hx (t := .boolean) Bd.returns (by simp) (hb hby d1_59) hr), hrun, hended, _, _, rfl, ?_, ⟨_, rfl⟩, hW, hsame.mono (by decide) (by decide)⟩
                  refine ⟨?_, N0, e0⟩
                  show some (Value.int (0 : Int32)) = some (.int (own_isc p0))
                  unfold own_isc
                  rw [if_neg hc3_2, if_pos hc9_32, if_neg hc15_34, if_neg hc21_37, if_neg hc27_40, if_pos hc33_43, if_neg hc45_45, if_pos hc51_48]
                · have go50 : ∀ t, Steps p.tables e below (s₁.setTop (mkF m 59 #[.val (.int p0)] [(.int (1 : Int32))])) t → Steps p.tables e below (s₁.setTop (entryFrame m #[(.int p0)] 1)) t := fun t kt => go47 t (by
                      refine XS.icmpNo X0.here hx rfl (hb hby d1_51) rfl (flt hc51_48).2.2.1 ?_
                      show Steps p.tables e below (s₁.setTop (mkF m 54 #[.val (.int p0)] [])) _
                      refine XS.iconst X0.here hx rfl (hb hby d1_54) ?_
                      show Steps p.tables e below (s₁.setTop (mkF m 55 #[.val (.int p0)] [(.int (1 : Int32))])) _
                      refine XS.goto X0.here hx rfl (pc0 := 55) (pc' := 59) rfl (hb hby d1_55) (by decide) (by decide) ?_
                      show Steps p.tables e below (s₁.setTop (mkF m 59 #[.val (.int p0)] [(.int (1 : Int32))])) _
                      exact kt)
                  obtain ⟨fs, hr, hrun, hended, hW, hsame⟩ := X0.leave (v := some (.int (1 : Int32))) (fun h => by rw [Bd.returns] at h; cases h)
                  refine ⟨_, _, go50 _ (retN X0 hx (t := .boolean) Bd.returns (by simp) (hb hby d1_59) hr), hrun, hended, _, _, rfl, ?_, ⟨_, rfl⟩, hW, hsame.mono (by decide) (by decide)⟩
                  refine ⟨?_, N0, e0⟩
                  show some (Value.int (1 : Int32)) = some (.int (own_isc p0))
                  unfold own_isc
                  rw [if_neg hc3_2, if_pos hc9_32, if_neg hc15_34, if_neg hc21_37, if_neg hc27_40, if_pos hc33_43, if_neg hc45_45, if_neg hc51_48]
            · have go51 : ∀ t, Steps p.tables e below (s₁.setTop (mkF m 39 #[.val (.int p0)] [(.int (65533 : Int32)), (.int p0)])) t → Steps p.tables e below (s₁.setTop (entryFrame m #[(.int p0)] 1)) t := fun t kt => go42 t (by
                  refine XS.icmpNo X0.here hx rfl (hb hby d1_33) rfl (flt hc33_43).1 ?_
                  show Steps p.tables e below (s₁.setTop (mkF m 36 #[.val (.int p0)] [])) _
                  refine XS.iloadN X0.here hx rfl (hb hby d1_36) rfl ?_
                  show Steps p.tables e below (s₁.setTop (mkF m 37 #[.val (.int p0)] [(.int p0)])) _
                  refine X0.ldcInt hx hown (mvT hZ (hw _ (List.mem_of_getElem? (i := 24) rfl))) (g := (mkF m 37 #[.val (.int p0)] [(.int p0)])) rfl (hb hby d1_37) _ ?_
                  show Steps p.tables e below (s₁.setTop (mkF m 39 #[.val (.int p0)] [(.int (65533 : Int32)), (.int p0)])) _
                  exact kt)
              by_cases hc39_52 : (65533 : Int32) < p0
              · have go53 : ∀ t, Steps p.tables e below (s₁.setTop (mkF m 45 #[.val (.int p0)] [(.int (65536 : Int32)), (.int p0)])) t → Steps p.tables e below (s₁.setTop (entryFrame m #[(.int p0)] 1)) t := fun t kt => go51 t (by
                    refine XS.icmpNo X0.here hx rfl (hb hby d1_39) rfl (tlt hc39_52).2.2.2 ?_
                    show Steps p.tables e below (s₁.setTop (mkF m 42 #[.val (.int p0)] [])) _
                    refine XS.iloadN X0.here hx rfl (hb hby d1_42) rfl ?_
                    show Steps p.tables e below (s₁.setTop (mkF m 43 #[.val (.int p0)] [(.int p0)])) _
                    refine X0.ldcInt hx hown (mvT hZ (hw _ (List.mem_of_getElem? (i := 18) rfl))) (g := (mkF m 43 #[.val (.int p0)] [(.int p0)])) rfl (hb hby d1_43) _ ?_
                    show Steps p.tables e below (s₁.setTop (mkF m 45 #[.val (.int p0)] [(.int (65536 : Int32)), (.int p0)])) _
                    exact kt)
                by_cases hc45_54 : p0 < (65536 : Int32)
                · have go55 : ∀ t, Steps p.tables e below (s₁.setTop (mkF m 59 #[.val (.int p0)] [(.int (0 : Int32))])) t → Steps p.tables e below (s₁.setTop (entryFrame m #[(.int p0)] 1)) t := fun t kt => go53 t (by
                      refine XS.icmpYes X0.here hx rfl (pc0 := 45) (pc' := 58) rfl (hb hby d1_45) rfl (tlt hc45_54).1 (by decide) (by decide) ?_
                      show Steps p.tables e below (s₁.setTop (mkF m 58 #[.val (.int p0)] [])) _
                      refine XS.iconst X0.here hx rfl (hb hby d1_58) ?_
                      show Steps p.tables e below (s₁.setTop (mkF m 59 #[.val (.int p0)] [(.int (0 : Int32))])) _
                      exact kt)
                  obtain ⟨fs, hr, hrun, hended, hW, hsame⟩ := X0.leave (v := some (.int (0 : Int32))) (fun h => by rw [Bd.returns] at h; cases h)
                  refine ⟨_, _, go55 _ (retN X0 hx (t := .boolean) Bd.returns (by simp) (hb hby d1_59) hr), hrun, hended, _, _, rfl, ?_, ⟨_, rfl⟩, hW, hsame.mono (by decide) (by decide)⟩
                  refine ⟨?_, N0, e0⟩
                  show some (Value.int (0 : Int32)) = some (.int (own_isc p0))
                  unfold own_isc
                  rw [if_neg hc3_2, if_pos hc9_32, if_neg hc15_34, if_neg hc21_37, if_neg hc27_40, if_neg hc33_43, if_pos hc39_52, if_pos hc45_54]
                · have go56 : ∀ t, Steps p.tables e below (s₁.setTop (mkF m 51 #[.val (.int p0)] [(.int (1114111 : Int32)), (.int p0)])) t → Steps p.tables e below (s₁.setTop (entryFrame m #[(.int p0)] 1)) t := fun t kt => go53 t (by
                      refine XS.icmpNo X0.here hx rfl (hb hby d1_45) rfl (flt hc45_54).1 ?_
                      show Steps p.tables e below (s₁.setTop (mkF m 48 #[.val (.int p0)] [])) _
                      refine XS.iloadN X0.here hx rfl (hb hby d1_48) rfl ?_
                      show Steps p.tables e below (s₁.setTop (mkF m 49 #[.val (.int p0)] [(.int p0)])) _
                      refine X0.ldcInt hx hown (mvT hZ (hw _ (List.mem_of_getElem? (i := 25) rfl))) (g := (mkF m 49 #[.val (.int p0)] [(.int p0)])) rfl (hb hby d1_49) _ ?_
                      show Steps p.tables e below (s₁.setTop (mkF m 51 #[.val (.int p0)] [(.int (1114111 : Int32)), (.int p0)])) _
                      exact kt)
                  by_cases hc51_57 : (1114111 : Int32) < p0
                  · have go58 : ∀ t, Steps p.tables e below (s₁.setTop (mkF m 59 #[.val (.int p0)] [(.int (0 : Int32))])) t → Steps p.tables e below (s₁.setTop (entryFrame m #[(.int p0)] 1)) t := fun t kt => go56 t (by
                        refine XS.icmpYes X0.here hx rfl (pc0 := 51) (pc' := 58) rfl (hb hby d1_51) rfl (tlt hc51_57).2.2.1 (by decide) (by decide) ?_
                        show Steps p.tables e below (s₁.setTop (mkF m 58 #[.val (.int p0)] [])) _
                        refine XS.iconst X0.here hx rfl (hb hby d1_58) ?_
                        show Steps p.tables e below (s₁.setTop (mkF m 59 #[.val (.int p0)] [(.int (0 : Int32))])) _
                        exact kt)
                    obtain ⟨fs, hr, hrun, hended, hW, hsame⟩ := X0.leave (v := some (.int (0 : Int32))) (fun h => by rw [Bd.returns] at h; cases h)
                    refine ⟨_, _, go58 _ (retN X0 hx (t := .boolean) Bd.returns (by simp) (hb hby d1_59) hr), hrun, hended, _, _, rfl, ?_, ⟨_, rfl⟩, hW, hsame.mono (by decide) (by decide)⟩
                    refine ⟨?_, N0, e0⟩
                    show some (Value.int (0 : Int32)) = some (.int (own_isc p0))
                    unfold own_isc
                    rw [if_neg hc3_2, if_pos hc9_32, if_neg hc15_34, if_neg hc21_37, if_neg hc27_40, if_neg hc33_43, if_pos hc39_52, if_neg hc45_54, if_pos hc51_57]
                  · have go59 : ∀ t, Steps p.tables e below (s₁.setTop (mkF m 59 #[.val (.int p0)] [(.int (1 : Int32))])) t → Steps p.tables e below (s₁.setTop (entryFrame m #[(.int p0)] 1)) t := fun t kt => go56 t (by
                        refine XS.icmpNo X0.here hx rfl (hb hby d1_51) rfl (flt hc51_57).2.2.1 ?_
                        show Steps p.tables e below (s₁.setTop (mkF m 54 #[.val (.int p0)] [])) _
                        refine XS.iconst X0.here hx rfl (hb hby d1_54) ?_
                        show Steps p.tables e below (s₁.setTop (mkF m 55 #[.val (.int p0)] [(.int (1 : Int32))])) _
                        refine XS.goto X0.here hx rfl (pc0 := 55) (pc' := 59) rfl (hb hby d1_55) (by decide) (by decide) ?_
                        show Steps p.tables e below (s₁.setTop (mkF m 59 #[.val (.int p0)] [(.int (1 : Int32))])) _
                        exact kt)
                    obtain ⟨fs, hr, hrun, hended, hW, hsame⟩ := X0.leave (v := some (.int (1 : Int32))) (fun h => by rw [Bd.returns] at h; cases h)
                    refine ⟨_, _, go59 _ (retN X0 hx (t := .boolean) Bd.returns (by simp) (hb hby d1_59) hr), hrun, hended, _, _, rfl, ?_, ⟨_, rfl⟩, hW, hsame.mono (by decide) (by decide)⟩
                    refine ⟨?_, N0, e0⟩
                    show some (Value.int (1 : Int32)) = some (.int (own_isc p0))
                    unfold own_isc
                    rw [if_neg hc3_2, if_pos hc9_32, if_neg hc15_34, if_neg hc21_37, if_neg hc27_40, if_neg hc33_43, if_pos hc39_52, if_neg hc45_54, if_neg hc51_57]
              · have go60 : ∀ t, Steps p.tables e below (s₁.setTop (mkF m 59 #[.val (.int p0)] [(.int (1 : Int32))])) t → Steps p.tables e below (s₁.setTop (entryFrame m #[(.int p0)] 1)) t := fun t kt => go51 t (by
                    refine XS.icmpYes X0.here hx rfl (pc0 := 39) (pc' := 54) rfl (hb hby d1_39) rfl (flt hc39_52).2.2.2 (by decide) (by decide) ?_
                    show Steps p.tables e below (s₁.setTop (mkF m 54 #[.val (.int p0)] [])) _
                    refine XS.iconst X0.here hx rfl (hb hby d1_54) ?_
                    show Steps p.tables e below (s₁.setTop (mkF m 55 #[.val (.int p0)] [(.int (1 : Int32))])) _
                    refine XS.goto X0.here hx rfl (pc0 := 55) (pc' := 59) rfl (hb hby d1_55) (by decide) (by decide) ?_
                    show Steps p.tables e below (s₁.setTop (mkF m 59 #[.val (.int p0)] [(.int (1 : Int32))])) _
                    exact kt)
                obtain ⟨fs, hr, hrun, hended, hW, hsame⟩ := X0.leave (v := some (.int (1 : Int32))) (fun h => by rw [Bd.returns] at h; cases h)
                refine ⟨_, _, go60 _ (retN X0 hx (t := .boolean) Bd.returns (by simp) (hb hby d1_59) hr), hrun, hended, _, _, rfl, ?_, ⟨_, rfl⟩, hW, hsame.mono (by decide) (by decide)⟩
                refine ⟨?_, N0, e0⟩
                show some (Value.int (1 : Int32)) = some (.int (own_isc p0))
                unfold own_isc
                rw [if_neg hc3_2, if_pos hc9_32, if_neg hc15_34, if_neg hc21_37, if_neg hc27_40, if_neg hc33_43, if_neg hc39_52]
    · have go61 : ∀ t, Steps p.tables e below (s₁.setTop (mkF m 59 #[.val (.int p0)] [(.int (1 : Int32))])) t → Steps p.tables e below (s₁.setTop (entryFrame m #[(.int p0)] 1)) t := fun t kt => go31 t (by
          refine XS.icmpYes X0.here hx rfl (pc0 := 9) (pc' := 54) rfl (hb hby d1_9) rfl (flt hc9_32).2.2.2 (by decide) (by decide) ?_
          show Steps p.tables e below (s₁.setTop (mkF m 54 #[.val (.int p0)] [])) _
          refine XS.iconst X0.here hx rfl (hb hby d1_54) ?_
          show Steps p.tables e below (s₁.setTop (mkF m 55 #[.val (.int p0)] [(.int (1 : Int32))])) _
          refine XS.goto X0.here hx rfl (pc0 := 55) (pc' := 59) rfl (hb hby d1_55) (by decide) (by decide) ?_
          show Steps p.tables e below (s₁.setTop (mkF m 59 #[.val (.int p0)] [(.int (1 : Int32))])) _
          exact kt)
      obtain ⟨fs, hr, hrun, hended, hW, hsame⟩ := X0.leave (v := some (.int (1 : Int32))) (fun h => by rw [Bd.returns] at h; cases h)
      refine ⟨_, _, go61 _ (retN X0 hx (t := .boolean) Bd.returns (by simp) (hb hby d1_59) hr), hrun, hended, _, _, rfl, ?_, ⟨_, rfl⟩, hW, hsame.mono (by decide) (by decide)⟩
      refine ⟨?_, N0, e0⟩
      show some (Value.int (1 : Int32)) = some (.int (own_isc p0))
      unfold own_isc
      rw [if_neg hc3_2, if_neg hc9_32]
def own_ref (p0 : Int32) : Int32 := (if p0 < (0 : Int32) then (0 : Int32) else (if (1114111 : Int32) < p0 then (0 : Int32) else (if p0 < (32 : Int32) then (if p0 = (9 : Int32) then (1 : Int32) else (if p0 = (10 : Int32) then (1 : Int32) else (if p0 = (13 : Int32) then (1 : Int32) else (0 : Int32)))) else (if p0 < (55296 : Int32) then (if p0 = (65534 : Int32) then (0 : Int32) else (if p0 = (65535 : Int32) then (0 : Int32) else (1 : Int32))) else (if (57343 : Int32) < p0 then (if p0 = (65534 : Int32) then (0 : Int32) else (if p0 = (65535 : Int32) then (0 : Int32) else (1 : Int32))) else (0 : Int32))))))
theorem d2_0 : decode method_2_code 0 = .ok (.iload_n 0, 1) := by decide +kernel
theorem d2_1 : decode method_2_code 1 = .ok (.ifCond .lt 9, 3) := by decide +kernel
theorem d2_4 : decode method_2_code 4 = .ok (.iload_n 0, 1) := by decide +kernel
theorem d2_5 : decode method_2_code 5 = .ok (.ldc 7, 2) := by decide +kernel
theorem d2_7 : decode method_2_code 7 = .ok (.if_icmp .le 5, 3) := by decide +kernel
theorem d2_10 : decode method_2_code 10 = .ok (.iconst 0, 1) := by decide +kernel
theorem d2_11 : decode method_2_code 11 = .ok (.ireturn, 1) := by decide +kernel
theorem d2_12 : decode method_2_code 12 = .ok (.iload_n 0, 1) := by decide +kernel
theorem d2_13 : decode method_2_code 13 = .ok (.bipush 32, 2) := by decide +kernel
theorem d2_15 : decode method_2_code 15 = .ok (.if_icmp .ge 27, 3) := by decide +kernel
theorem d2_18 : decode method_2_code 18 = .ok (.iload_n 0, 1) := by decide +kernel
theorem d2_19 : decode method_2_code 19 = .ok (.bipush 9, 2) := by decide +kernel
theorem d2_21 : decode method_2_code 21 = .ok (.if_icmp .eq 15, 3) := by decide +kernel
theorem d2_24 : decode method_2_code 24 = .ok (.iload_n 0, 1) := by decide +kernel
theorem d2_25 : decode method_2_code 25 = .ok (.bipush 10, 2) := by decide +kernel
theorem d2_27 : decode method_2_code 27 = .ok (.if_icmp .eq 9, 3) := by decide +kernel
theorem d2_30 : decode method_2_code 30 = .ok (.iload_n 0, 1) := by decide +kernel
theorem d2_31 : decode method_2_code 31 = .ok (.bipush 13, 2) := by decide +kernel
theorem d2_33 : decode method_2_code 33 = .ok (.if_icmp .ne 7, 3) := by decide +kernel
theorem d2_36 : decode method_2_code 36 = .ok (.iconst 1, 1) := by decide +kernel
theorem d2_37 : decode method_2_code 37 = .ok (.goto 4, 3) := by decide +kernel
theorem d2_40 : decode method_2_code 40 = .ok (.iconst 0, 1) := by decide +kernel
theorem d2_41 : decode method_2_code 41 = .ok (.ireturn, 1) := by decide +kernel
theorem d2_42 : decode method_2_code 42 = .ok (.iload_n 0, 1) := by decide +kernel
theorem d2_43 : decode method_2_code 43 = .ok (.ldc 8, 2) := by decide +kernel
theorem d2_45 : decode method_2_code 45 = .ok (.if_icmp .lt 11, 3) := by decide +kernel
theorem d2_48 : decode method_2_code 48 = .ok (.iload_n 0, 1) := by decide +kernel
theorem d2_49 : decode method_2_code 49 = .ok (.ldc 9, 2) := by decide +kernel
theorem d2_51 : decode method_2_code 51 = .ok (.if_icmp .gt 5, 3) := by decide +kernel
theorem d2_54 : decode method_2_code 54 = .ok (.iconst 0, 1) := by decide +kernel
theorem d2_55 : decode method_2_code 55 = .ok (.ireturn, 1) := by decide +kernel
theorem d2_56 : decode method_2_code 56 = .ok (.iload_n 0, 1) := by decide +kernel
theorem d2_57 : decode method_2_code 57 = .ok (.ldc 10, 2) := by decide +kernel
theorem d2_59 : decode method_2_code 59 = .ok (.if_icmp .eq 9, 3) := by decide +kernel
theorem d2_62 : decode method_2_code 62 = .ok (.iload_n 0, 1) := by decide +kernel
theorem d2_63 : decode method_2_code 63 = .ok (.ldc 11, 2) := by decide +kernel
theorem d2_65 : decode method_2_code 65 = .ok (.if_icmp .ne 5, 3) := by decide +kernel
theorem d2_68 : decode method_2_code 68 = .ok (.iconst 0, 1) := by decide +kernel
theorem d2_69 : decode method_2_code 69 = .ok (.ireturn, 1) := by decide +kernel
theorem d2_70 : decode method_2_code 70 = .ok (.iconst 1, 1) := by decide +kernel
theorem d2_71 : decode method_2_code 71 = .ok (.ireturn, 1) := by decide +kernel
theorem pn_2 : plainName "com/example/winding_path/windingpath/XmlCharsIsCharPinLaw" = true := by first | (simp [plainName, overriddenIn]; done) | decide +kernel
theorem ef_2 (m : MethodId) (p0 : Int32) : entryFrame m #[(.int p0)] 1 = mkF m 0 #[.val (.int p0)] [] := by first | (simp [entryFrame, mkF, argsToLocals, Value.category]; done) | rfl
set_option maxRecDepth 65536 in
set_option maxHeartbeats 40000000 in
theorem rm2 (l : Launch) (Z : State) (a0 : Array Value) (hw : ∀ d ∈ tables_1, d.before a0 Z = true) (ws : List Jvm.Cond) (p0 : Int32) (h0 : Heap) (n0 : Nat) :
    MetFree l (⟨"com/example/winding_path/windingpath/XmlCharsIsCharPinLaw", "ref", "(I)Z"⟩ : MethodName) (head1 (Jvm.Cond.code (⟨"com/example/winding_path/windingpath/XmlCharsIsCharPinLaw", "ref", "(I)Z"⟩ : MethodName) method_2_code 1 (some .boolean) :: ws) ({ frames := 0, cells := 0, slots := 0, locals := 0 } : Room)) (fun a U => a = #[(.int p0)] ∧ Z.Warmed39 U.vm ∧ U.heap = h0) (fun _ _ _ _ _ => True) (fun _ U o U' => ∃ v L, o = .returned v ∧ QP (some (.int (own_ref p0))) h0 n0 v U'.heap L ∧ FrameEnd U o U' L ({ frames := 0, cells := 0, slots := 0, locals := 0 } : Room).cells ({ frames := 0, cells := 0, slots := 0, locals := 0 } : Room).slots) := by
  refine MetFree.of_bodySF (plainFor_of_name pn_2) hisR ?_
  intro p e s m args below meth c s₁ Bd hml0 hP hK
  obtain ⟨rfl, hZ, hh⟩ := hP
  have hx := Bd.exec
  have hby := Bd.bytes
  have hml : c.maxLocals = 1 := hml0
  have hown : s.vm.findClass "com/example/winding_path/windingpath/XmlCharsIsCharPinLaw" = some m.cls := findClass_of_methodNamed Bd.named
  have hnm := (name_of_methodNamed Bd.named Bd.method).1
  have X0 : Stand p l e ({ frames := 0, cells := 0, slots := 0, locals := 0 } : Room) s m #[(.int p0)] below meth c s₁ [] 0 0 := Stand.of_body Bd
  have e0 : s₁.heap = h0 := by rw [← hh, Bd.state]; rfl
  have N0 := Fr.nil n0
  have go0 : ∀ t, Steps p.tables e below (s₁.setTop (mkF m 0 #[.val (.int p0)] [])) t → Steps p.tables e below (s₁.setTop (entryFrame m #[(.int p0)] 1)) t := fun t k => castTop (ef_2 m p0) k
  have go1 : ∀ t, Steps p.tables e below (s₁.setTop (mkF m 1 #[.val (.int p0)] [(.int p0)])) t → Steps p.tables e below (s₁.setTop (entryFrame m #[(.int p0)] 1)) t := fun t kt => go0 t (by
      refine XS.iloadN X0.here hx rfl (hb hby d2_0) rfl ?_
      show Steps p.tables e below (s₁.setTop (mkF m 1 #[.val (.int p0)] [(.int p0)])) _
      exact kt)
  by_cases hc1_2 : p0 < (0 : Int32)
  · have go3 : ∀ t, Steps p.tables e below (s₁.setTop (mkF m 11 #[.val (.int p0)] [(.int (0 : Int32))])) t → Steps p.tables e below (s₁.setTop (entryFrame m #[(.int p0)] 1)) t := fun t kt => go1 t (by
        refine XS.ifYes X0.here hx rfl (pc0 := 1) (pc' := 10) rfl (hb hby d2_1) rfl ((if0 _ _).trans (tlt hc1_2).1) (by decide) (by decide) ?_
        show Steps p.tables e below (s₁.setTop (mkF m 10 #[.val (.int p0)] [])) _
        refine XS.iconst X0.here hx rfl (hb hby d2_10) ?_
        show Steps p.tables e below (s₁.setTop (mkF m 11 #[.val (.int p0)] [(.int (0 : Int32))])) _
        exact kt)
    obtain ⟨fs, hr, hrun, hended, hW, hsame⟩ := X0.leave (v := some (.int (0 : Int32))) (fun h => by rw [Bd.returns] at h; cases h)
    refine ⟨_, _, go3 _ (retN X0 hx (t := .boolean) Bd.returns (by simp) (hb hby d2_11) hr), hrun, hended, _, _, rfl, ?_, ⟨_, rfl⟩, hW, hsame.mono (by decide) (by decide)⟩
    refine ⟨?_, N0, e0⟩
    show some (Value.int (0 : Int32)) = some (.int (own_ref p0))
    unfold own_ref
    rw [if_pos hc1_2]
  · have go4 : ∀ t, Steps p.tables e below (s₁.setTop (mkF m 7 #[.val (.int p0)] [(.int (1114111 : Int32)), (.int p0)])) t → Steps p.tables e below (s₁.setTop (entryFrame m #[(.int p0)] 1)) t := fun t kt => go1 t (by
        refine XS.ifNo X0.here hx rfl (hb hby d2_1) rfl ((if0 _ _).trans (flt hc1_2).1) ?_
        show Steps p.tables e below (s₁.setTop (mkF m 4 #[.val (.int p0)] [])) _
        refine XS.iloadN X0.here hx rfl (hb hby d2_4) rfl ?_
        show Steps p.tables e below (s₁.setTop (mkF m 5 #[.val (.int p0)] [(.int p0)])) _
        refine X0.ldcInt hx hown (mvT hZ (hw _ (List.mem_of_getElem? (i := 9) rfl))) (g := (mkF m 5 #[.val (.int p0)] [(.int p0)])) rfl (hb hby d2_5) _ ?_
        show Steps p.tables e below (s₁.setTop (mkF m 7 #[.val (.int p0)] [(.int (1114111 : Int32)), (.int p0)])) _
        exact kt)
    by_cases hc7_5 : (1114111 : Int32) < p0
    · have go6 : ∀ t, Steps p.tables e below (s₁.setTop (mkF m 11 #[.val (.int p0)] [(.int (0 : Int32))])) t → Steps p.tables e below (s₁.setTop (entryFrame m #[(.int p0)] 1)) t := fun t kt => go4 t (by
          refine XS.icmpNo X0.here hx rfl (hb hby d2_7) rfl (tlt hc7_5).2.2.2 ?_
          show Steps p.tables e below (s₁.setTop (mkF m 10 #[.val (.int p0)] [])) _
          refine XS.iconst X0.here hx rfl (hb hby d2_10) ?_
          show Steps p.tables e below (s₁.setTop (mkF m 11 #[.val (.int p0)] [(.int (0 : Int32))])) _
          exact kt)
      obtain ⟨fs, hr, hrun, hended, hW, hsame⟩ := X0.leave (v := some (.int (0 : Int32))) (fun h => by rw [Bd.returns] at h; cases h)
      refine ⟨_, _, go6 _ (retN X0 hx (t := .boolean) Bd.returns (by simp) (hb hby d2_11) hr), hrun, hended, _, _, rfl, ?_, ⟨_, rfl⟩, hW, hsame.mono (by decide) (by decide)⟩
      refine ⟨?_, N0, e0⟩
      show some (Value.int (0 : Int32)) = some (.int (own_ref p0))
      unfold own_ref
      rw [if_neg hc1_2, if_pos hc7_5]
    · have go7 : ∀ t, Steps p.tables e below (s₁.setTop (mkF m 15 #[.val (.int p0)] [(.int (32 : Int32)), (.int p0)])) t → Steps p.tables e below (s₁.setTop (entryFrame m #[(.int p0)] 1)) t := fun t kt => go4 t (by
          refine XS.icmpYes X0.here hx rfl (pc0 := 7) (pc' := 12) rfl (hb hby d2_7) rfl (flt hc7_5).2.2.2 (by decide) (by decide) ?_
          show Steps p.tables e below (s₁.setTop (mkF m 12 #[.val (.int p0)] [])) _
          refine XS.iloadN X0.here hx rfl (hb hby d2_12) rfl ?_
          show Steps p.tables e below (s₁.setTop (mkF m 13 #[.val (.int p0)] [(.int p0)])) _
          refine XS.bipush X0.here hx rfl (hb hby d2_13) ?_
          show Steps p.tables e below (s₁.setTop (mkF m 15 #[.val (.int p0)] [(.int (32 : Int32)), (.int p0)])) _
          exact kt)
      by_cases hc15_8 : p0 < (32 : Int32)
      · have go9 : ∀ t, Steps p.tables e below (s₁.setTop (mkF m 21 #[.val (.int p0)] [(.int (9 : Int32)), (.int p0)])) t → Steps p.tables e below (s₁.setTop (entryFrame m #[(.int p0)] 1)) t := fun t kt => go7 t (by
            refine XS.icmpNo X0.here hx rfl (hb hby d2_15) rfl (tlt hc15_8).2.1 ?_
            show Steps p.tables e below (s₁.setTop (mkF m 18 #[.val (.int p0)] [])) _
            refine XS.iloadN X0.here hx rfl (hb hby d2_18) rfl ?_
            show Steps p.tables e below (s₁.setTop (mkF m 19 #[.val (.int p0)] [(.int p0)])) _
            refine XS.bipush X0.here hx rfl (hb hby d2_19) ?_
            show Steps p.tables e below (s₁.setTop (mkF m 21 #[.val (.int p0)] [(.int (9 : Int32)), (.int p0)])) _
            exact kt)
        by_cases hc21_10 : p0 = (9 : Int32)
        · have go11 : ∀ t, Steps p.tables e below (s₁.setTop (mkF m 41 #[.val (.int p0)] [(.int (1 : Int32))])) t → Steps p.tables e below (s₁.setTop (entryFrame m #[(.int p0)] 1)) t := fun t kt => go9 t (by
              refine XS.icmpYes X0.here hx rfl (pc0 := 21) (pc' := 36) rfl (hb hby d2_21) rfl (teq hc21_10).1 (by decide) (by decide) ?_
              show Steps p.tables e below (s₁.setTop (mkF m 36 #[.val (.int p0)] [])) _
              refine XS.iconst X0.here hx rfl (hb hby d2_36) ?_
              show Steps p.tables e below (s₁.setTop (mkF m 37 #[.val (.int p0)] [(.int (1 : Int32))])) _
              refine XS.goto X0.here hx rfl (pc0 := 37) (pc' := 41) rfl (hb hby d2_37) (by decide) (by decide) ?_
              show Steps p.tables e below (s₁.setTop (mkF m 41 #[.val (.int p0)] [(.int (1 : Int32))])) _
              exact kt)
          obtain ⟨fs, hr, hrun, hended, hW, hsame⟩ := X0.leave (v := some (.int (1 : Int32))) (fun h => by rw [Bd.returns] at h; cases h)
          refine ⟨_, _, go11 _ (retN X0 hx (t := .boolean) Bd.returns (by simp) (hb hby d2_41) hr), hrun, hended, _, _, rfl, ?_, ⟨_, rfl⟩, hW, hsame.mono (by decide) (by decide)⟩
          refine ⟨?_, N0, e0⟩
          show some (Value.int (1 : Int32)) = some (.int (own_ref p0))
          unfold own_ref
          rw [if_neg hc1_2, if_neg hc7_5, if_pos hc15_8, if_pos hc21_10]
        · have go12 : ∀ t, Steps p.tables e below (s₁.setTop (mkF m 27 #[.val (.int p0)] [(.int (10 : Int32)), (.int p0)])) t → Steps p.tables e below (s₁.setTop (entryFrame m #[(.int p0)] 1)) t := fun t kt => go9 t (by
              refine XS.icmpNo X0.here hx rfl (hb hby d2_21) rfl (feq hc21_10).1 ?_
              show Steps p.tables e below (s₁.setTop (mkF m 24 #[.val (.int p0)] [])) _
              refine XS.iloadN X0.here hx rfl (hb hby d2_24) rfl ?_
              show Steps p.tables e below (s₁.setTop (mkF m 25 #[.val (.int p0)] [(.int p0)])) _
              refine XS.bipush X0.here hx rfl (hb hby d2_25) ?_
              show Steps p.tables e below (s₁.setTop (mkF m 27 #[.val (.int p0)] [(.int (10 : Int32)), (.int p0)])) _
              exact kt)
          by_cases hc27_13 : p0 = (10 : Int32)
          · have go14 : ∀ t, Steps p.tables e below (s₁.setTop (mkF m 41 #[.val (.int p0)] [(.int (1 : Int32))])) t → Steps p.tables e below (s₁.setTop (entryFrame m #[(.int p0)] 1)) t := fun t kt => go12 t (by
                refine XS.icmpYes X0.here hx rfl (pc0 := 27) (pc' := 36) rfl (hb hby d2_27) rfl (teq hc27_13).1 (by decide) (by decide) ?_
                show Steps p.tables e below (s₁.setTop (mkF m 36 #[.val (.int p0)] [])) _
                refine XS.iconst X0.here hx rfl (hb hby d2_36) ?_
                show Steps p.tables e below (s₁.setTop (mkF m 37 #[.val (.int p0)] [(.int (1 : Int32))])) _
                refine XS.goto X0.here hx rfl (pc0 := 37) (pc' := 41) rfl (hb hby d2_37) (by decide) (by decide) ?_
                show Steps p.tables e below (s₁.setTop (mkF m 41 #[.val (.int p0)] [(.int (1 : Int32))])) _
                exact kt)
            obtain ⟨fs, hr, hrun, hended, hW, hsame⟩ := X0.leave (v := some (.int (1 : Int32))) (fun h => by rw [Bd.returns] at h; cases h)
            refine ⟨_, _, go14 _ (retN X0 hx (t := .boolean) Bd.returns (by simp) (hb hby d2_41) hr), hrun, hended, _, _, rfl, ?_, ⟨_, rfl⟩, hW, hsame.mono (by decide) (by decide)⟩
            refine ⟨?_, N0, e0⟩
            show some (Value.int (1 : Int32)) = some (.int (own_ref p0))
            unfold own_ref
            rw [if_neg hc1_2, if_neg hc7_5, if_pos hc15_8, if_neg hc21_10, if_pos hc27_13]
          · have go15 : ∀ t, Steps p.tables e below (s₁.setTop (mkF m 33 #[.val (.int p0)] [(.int (13 : Int32)), (.int p0)])) t → Steps p.tables e below (s₁.setTop (entryFrame m #[(.int p0)] 1)) t := fun t kt => go12 t (by
                refine XS.icmpNo X0.here hx rfl (hb hby d2_27) rfl (feq hc27_13).1 ?_
                show Steps p.tables e below (s₁.setTop (mkF m 30 #[.val (.int p0)] [])) _
                refine XS.iloadN X0.here hx rfl (hb hby d2_30) rfl ?_
                show Steps p.tables e below (s₁.setTop (mkF m 31 #[.val (.int p0)] [(.int p0)])) _
                refine XS.bipush X0.here hx rfl (hb hby d2_31) ?_
                show Steps p.tables e below (s₁.setTop (mkF m 33 #[.val (.int p0)] [(.int (13 : Int32)), (.int p0)])) _
                exact kt)
            by_cases hc33_16 : p0 = (13 : Int32)
            · have go17 : ∀ t, Steps p.tables e below (s₁.setTop (mkF m 41 #[.val (.int p0)] [(.int (1 : Int32))])) t → Steps p.tables e below (s₁.setTop (entryFrame m #[(.int p0)] 1)) t := fun t kt => go15 t (by
                  refine XS.icmpNo X0.here hx rfl (hb hby d2_33) rfl (teq hc33_16).2 ?_
                  show Steps p.tables e below (s₁.setTop (mkF m 36 #[.val (.int p0)] [])) _
                  refine XS.iconst X0.here hx rfl (hb hby d2_36) ?_
                  show Steps p.tables e below (s₁.setTop (mkF m 37 #[.val (.int p0)] [(.int (1 : Int32))])) _
                  refine XS.goto X0.here hx rfl (pc0 := 37) (pc' := 41) rfl (hb hby d2_37) (by decide) (by decide) ?_
                  show Steps p.tables e below (s₁.setTop (mkF m 41 #[.val (.int p0)] [(.int (1 : Int32))])) _
                  exact kt)
              obtain ⟨fs, hr, hrun, hended, hW, hsame⟩ := X0.leave (v := some (.int (1 : Int32))) (fun h => by rw [Bd.returns] at h; cases h)
              refine ⟨_, _, go17 _ (retN X0 hx (t := .boolean) Bd.returns (by simp) (hb hby d2_41) hr), hrun, hended, _, _, rfl, ?_, ⟨_, rfl⟩, hW, hsame.mono (by decide) (by decide)⟩
              refine ⟨?_, N0, e0⟩
              show some (Value.int (1 : Int32)) = some (.int (own_ref p0))
              unfold own_ref
              rw [if_neg hc1_2, if_neg hc7_5, if_pos hc15_8, if_neg hc21_10, if_neg hc27_13, if_pos hc33_16]
            · have go18 : ∀ t, Steps p.tables e below (s₁.setTop (mkF m 41 #[.val (.int p0)] [(.int (0 : Int32))])) t → Steps p.tables e below (s₁.setTop (entryFrame m #[(.int p0)] 1)) t := fun t kt => go15 t (by
                  refine XS.icmpYes X0.here hx rfl (pc0 := 33) (pc' := 40) rfl (hb hby d2_33) rfl (feq hc33_16).2 (by decide) (by decide) ?_
                  show Steps p.tables e below (s₁.setTop (mkF m 40 #[.val (.int p0)] [])) _
                  refine XS.iconst X0.here hx rfl (hb hby d2_40) ?_
                  show Steps p.tables e below (s₁.setTop (mkF m 41 #[.val (.int p0)] [(.int (0 : Int32))])) _
                  exact kt)
              obtain ⟨fs, hr, hrun, hended, hW, hsame⟩ := X0.leave (v := some (.int (0 : Int32))) (fun h => by rw [Bd.returns] at h; cases h)
              refine ⟨_, _, go18 _ (retN X0 hx (t := .boolean) Bd.returns (by simp) (hb hby d2_41) hr), hrun, hended, _, _, rfl, ?_, ⟨_, rfl⟩, hW, hsame.mono (by decide) (by decide)⟩
              refine ⟨?_, N0, e0⟩
              show some (Value.int (0 : Int32)) = some (.int (own_ref p0))
              unfold own_ref
              rw [if_neg hc1_2, if_neg hc7_5, if_pos hc15_8, if_neg hc21_10, if_neg hc27_13, if_neg hc33_16]
      · have go19 : ∀ t, Steps p.tables e below (s₁.setTop (mkF m 45 #[.val (.int p0)] [(.int (55296 : Int32)), (.int p0)])) t → Steps p.tables e below (s₁.setTop (entryFrame m #[(.int p0)] 1)) t := fun t kt => go7 t (by
            refine XS.icmpYes X0.here hx rfl (pc0 := 15) (pc' := 42) rfl (hb hby d2_15) rfl (flt hc15_8).2.1 (by decide) (by decide) ?_
            show Steps p.tables e below (s₁.setTop (mkF m 42 #[.val (.int p0)] [])) _
            refine XS.iloadN X0.here hx rfl (hb hby d2_42) rfl ?_
            show Steps p.tables e below (s₁.setTop (mkF m 43 #[.val (.int p0)] [(.int p0)])) _
            refine X0.ldcInt hx hown (mvT hZ (hw _ (List.mem_of_getElem? (i := 2) rfl))) (g := (mkF m 43 #[.val (.int p0)] [(.int p0)])) rfl (hb hby d2_43) _ ?_
            show Steps p.tables e below (s₁.setTop (mkF m 45 #[.val (.int p0)] [(.int (55296 : Int32)), (.int p0)])) _
            exact kt)
        by_cases hc45_20 : p0 < (55296 : Int32)
        · have go21 : ∀ t, Steps p.tables e below (s₁.setTop (mkF m 59 #[.val (.int p0)] [(.int (65534 : Int32)), (.int p0)])) t → Steps p.tables e below (s₁.setTop (entryFrame m #[(.int p0)] 1)) t := fun t kt => go19 t (by
              refine XS.icmpYes X0.here hx rfl (pc0 := 45) (pc' := 56) rfl (hb hby d2_45) rfl (tlt hc45_20).1 (by decide) (by decide) ?_
              show Steps p.tables e below (s₁.setTop (mkF m 56 #[.val (.int p0)] [])) _
              refine XS.iloadN X0.here hx rfl (hb hby d2_56) rfl ?_
              show Steps p.tables e below (s₁.setTop (mkF m 57 #[.val (.int p0)] [(.int p0)])) _
              refine X0.ldcInt hx hown (mvT hZ (hw _ (List.mem_of_getElem? (i := 6) rfl))) (g := (mkF m 57 #[.val (.int p0)] [(.int p0)])) rfl (hb hby d2_57) _ ?_
              show Steps p.tables e below (s₁.setTop (mkF m 59 #[.val (.int p0)] [(.int (65534 : Int32)), (.int p0)])) _
              exact kt)
          by_cases hc59_22 : p0 = (65534 : Int32)
          · have go23 : ∀ t, Steps p.tables e below (s₁.setTop (mkF m 69 #[.val (.int p0)] [(.int (0 : Int32))])) t → Steps p.tables e below (s₁.setTop (entryFrame m #[(.int p0)] 1)) t := fun t kt => go21 t (by
                refine XS.icmpYes X0.here hx rfl (pc0 := 59) (pc' := 68) rfl (hb hby d2_59) rfl (teq hc59_22).1 (by decide) (by decide) ?_
                show Steps p.tables e below (s₁.setTop (mkF m 68 #[.val (.int p0)] [])) _
                refine XS.iconst X0.here hx rfl (hb hby d2_68) ?_
                show Steps p.tables e below (s₁.setTop (mkF m 69 #[.val (.int p0)] [(.int (0 : Int32))])) _
                exact kt)
            obtain ⟨fs, hr, hrun, hended, hW, hsame⟩ := X0.leave (v := some (.int (0 : Int32))) (fun h => by rw [Bd.returns] at h; cases h)
            refine ⟨_, _, go23 _ (retN X0 hx (t := .boolean) Bd.returns (by simp) (hb hby d2_69) hr), hrun, hended, _, _, rfl, ?_, ⟨_, rfl⟩, hW, hsame.mono (by decide) (by decide)⟩
            refine ⟨?_, N0, e0⟩
            show some (Value.int (0 : Int32)) = some (.int (own_ref p0))
            unfold own_ref
            rw [if_neg hc1_2, if_neg hc7_5, if_neg hc15_8, if_pos hc45_20, if_pos hc59_22]
          · have go24 : ∀ t, Steps p.tables e below (s₁.setTop (mkF m 65 #[.val (.int p0)] [(.int (65535 : Int32)), (.int p0)])) t → Steps p.tables e below (s₁.setTop (entryFrame m #[(.int p0)] 1)) t := fun t kt => go21 t (by
                refine XS.icmpNo X0.here hx rfl (hb hby d2_59) rfl (feq hc59_22).1 ?_
                show Steps p.tables e below (s₁.setTop (mkF m 62 #[.val (.int p0)] [])) _
                refine XS.iloadN X0.here hx rfl (hb hby d2_62) rfl ?_
                show Steps p.tables e below (s₁.setTop (mkF m 63 #[.val (.int p0)] [(.int p0)])) _
                refine X0.ldcInt hx hown (mvT hZ (hw _ (List.mem_of_getElem? (i := 7) rfl))) (g := (mkF m 63 #[.val (.int p0)] [(.int p0)])) rfl (hb hby d2_63) _ ?_
                show Steps p.tables e below (s₁.setTop (mkF m 65 #[.val (.int p0)] [(.int (65535 : Int32)), (.int p0)])) _
                exact kt)
            by_cases hc65_25 : p0 = (65535 : Int32)
            · have go26 : ∀ t, Steps p.tables e below (s₁.setTop (mkF m 69 #[.val (.int p0)] [(.int (0 : Int32))])) t → Steps p.tables e below (s₁.setTop (entryFrame m #[(.int p0)] 1)) t := fun t kt => go24 t (by
                  refine XS.icmpNo X0.here hx rfl (hb hby d2_65) rfl (teq hc65_25).2 ?_
                  show Steps p.tables e below (s₁.setTop (mkF m 68 #[.val (.int p0)] [])) _
                  refine XS.iconst X0.here hx rfl (hb hby d2_68) ?_
                  show Steps p.tables e below (s₁.setTop (mkF m 69 #[.val (.int p0)] [(.int (0 : Int32))])) _
                  exact kt)
              obtain ⟨fs, hr, hrun, hended, hW, hsame⟩ := X0.leave (v := some (.int (0 : Int32))) (fun h => by rw [Bd.returns] at h; cases h)
              refine ⟨_, _, go26 _ (retN X0 hx (t := .boolean) Bd.returns (by simp) (hb hby d2_69) hr), hrun, hended, _, _, rfl, ?_, ⟨_, rfl⟩, hW, hsame.mono (by decide) (by decide)⟩
              refine ⟨?_, N0, e0⟩
              show some (Value.int (0 : Int32)) = some (.int (own_ref p0))
              unfold own_ref
              rw [if_neg hc1_2, if_neg hc7_5, if_neg hc15_8, if_pos hc45_20, if_neg hc59_22, if_pos hc65_25]
            · have go27 : ∀ t, Steps p.tables e below (s₁.setTop (mkF m 71 #[.val (.int p0)] [(.int (1 : Int32))])) t → Steps p.tables e below (s₁.setTop (entryFrame m #[(.int p0)] 1)) t := fun t kt => go24 t (by
                  refine XS.icmpYes X0.here hx rfl (pc0 := 65) (pc' := 70) rfl (hb hby d2_65) rfl (feq hc65_25).2 (by decide) (by decide) ?_
                  show Steps p.tables e below (s₁.setTop (mkF m 70 #[.val (.int p0)] [])) _
                  refine XS.iconst X0.here hx rfl (hb hby d2_70) ?_
                  show Steps p.tables e below (s₁.setTop (mkF m 71 #[.val (.int p0)] [(.int (1 : Int32))])) _
                  exact kt)
              obtain ⟨fs, hr, hrun, hended, hW, hsame⟩ := X0.leave (v := some (.int (1 : Int32))) (fun h => by rw [Bd.returns] at h; cases h)
              refine ⟨_, _, go27 _ (retN X0 hx (t := .boolean) Bd.returns (by simp) (hb hby d2_71) hr), hrun, hended, _, _, rfl, ?_, ⟨_, rfl⟩, hW, hsame.mono (by decide) (by decide)⟩
              refine ⟨?_, N0, e0⟩
              show some (Value.int (1 : Int32)) = some (.int (own_ref p0))
              unfold own_ref
              rw [if_neg hc1_2, if_neg hc7_5, if_neg hc15_8, if_pos hc45_20, if_neg hc59_22, if_neg hc65_25]
        · have go28 : ∀ t, Steps p.tables e below (s₁.setTop (mkF m 51 #[.val (.int p0)] [(.int (57343 : Int32)), (.int p0)])) t → Steps p.tables e below (s₁.setTop (entryFrame m #[(.int p0)] 1)) t := fun t kt => go19 t (by
              refine XS.icmpNo X0.here hx rfl (hb hby d2_45) rfl (flt hc45_20).1 ?_
              show Steps p.tables e below (s₁.setTop (mkF m 48 #[.val (.int p0)] [])) _
              refine XS.iloadN X0.here hx rfl (hb hby d2_48) rfl ?_
              show Steps p.tables e below (s₁.setTop (mkF m 49 #[.val (.int p0)] [(.int p0)])) _
              refine X0.ldcInt hx hown (mvT hZ (hw _ (List.mem_of_getElem? (i := 3) rfl))) (g := (mkF m 49 #[.val (.int p0)] [(.int p0)])) rfl (hb hby d2_49) _ ?_
              show Steps p.tables e below (s₁.setTop (mkF m 51 #[.val (.int p0)] [(.int (57343 : Int32)), (.int p0)])) _
              exact kt)
          by_cases hc51_29 : (57343 : Int32) < p0
          · have go30 : ∀ t, Steps p.tables e below (s₁.setTop (mkF m 59 #[.val (.int p0)] [(.int (65534 : Int32)), (.int p0)])) t → Steps p.tables e below (s₁.setTop (entryFrame m #[(.int p0)] 1)) t := fun t kt => go28 t (by
                refine XS.icmpYes X0.here hx rfl (pc0 := 51) (pc' := 56) rfl (hb hby d2_51) rfl (tlt hc51_29).2.2.1 (by decide) (by decide) ?_
                show Steps p.tables e below (s₁.setTop (mkF m 56 #[.val (.int p0)] [])) _
                refine XS.iloadN X0.here hx rfl (hb hby d2_56) rfl ?_
                show Steps p.tables e below (s₁.setTop (mkF m 57 #[.val (.int p0)] [(.int p0)])) _
                refine X0.ldcInt hx hown (mvT hZ (hw _ (List.mem_of_getElem? (i := 6) rfl))) (g := (mkF m 57 #[.val (.int p0)] [(.int p0)])) rfl (hb hby d2_57) _ ?_
                show Steps p.tables e below (s₁.setTop (mkF m 59 #[.val (.int p0)] [(.int (65534 : Int32)), (.int p0)])) _
                exact kt)
            by_cases hc59_31 : p0 = (65534 : Int32)
            · have go32 : ∀ t, Steps p.tables e below (s₁.setTop (mkF m 69 #[.val (.int p0)] [(.int (0 : Int32))])) t → Steps p.tables e below (s₁.setTop (entryFrame m #[(.int p0)] 1)) t := fun t kt => go30 t (by
                  refine XS.icmpYes X0.here hx rfl (pc0 := 59) (pc' := 68) rfl (hb hby d2_59) rfl (teq hc59_31).1 (by decide) (by decide) ?_
                  show Steps p.tables e below (s₁.setTop (mkF m 68 #[.val (.int p0)] [])) _
                  refine XS.iconst X0.here hx rfl (hb hby d2_68) ?_
                  show Steps p.tables e below (s₁.setTop (mkF m 69 #[.val (.int p0)] [(.int (0 : Int32))])) _
                  exact kt)
              obtain ⟨fs, hr, hrun, hended, hW, hsame⟩ := X0.leave (v := some (.int (0 : Int32))) (fun h => by rw [Bd.returns] at h; cases h)
              refine ⟨_, _, go32 _ (retN X0 hx (t := .boolean) Bd.returns (by simp) (hb hby d2_69) hr), hrun, hended, _, _, rfl, ?_, ⟨_, rfl⟩, hW, hsame.mono (by decide) (by decide)⟩
              refine ⟨?_, N0, e0⟩
              show some (Value.int (0 : Int32)) = some (.int (own_ref p0))
              unfold own_ref
              rw [if_neg hc1_2, if_neg hc7_5, if_neg hc15_8, if_neg hc45_20, if_pos hc51_29, if_pos hc59_31]
            · have go33 : ∀ t, Steps p.tables e below (s₁.setTop (mkF m 65 #[.val (.int p0)] [(.int (65535 : Int32)), (.int p0)])) t → Steps p.tables e below (s₁.setTop (entryFrame m #[(.int p0)] 1)) t := fun t kt => go30 t (by
                  refine XS.icmpNo X0.here hx rfl (hb hby d2_59) rfl (feq hc59_31).1 ?_
                  show Steps p.tables e below (s₁.setTop (mkF m 62 #[.val (.int p0)] [])) _
                  refine XS.iloadN X0.here hx rfl (hb hby d2_62) rfl ?_
                  show Steps p.tables e below (s₁.setTop (mkF m 63 #[.val (.int p0)] [(.int p0)])) _
                  refine X0.ldcInt hx hown (mvT hZ (hw _ (List.mem_of_getElem? (i := 7) rfl))) (g := (mkF m 63 #[.val (.int p0)] [(.int p0)])) rfl (hb hby d2_63) _ ?_
                  show Steps p.tables e below (s₁.setTop (mkF m 65 #[.val (.int p0)] [(.int (65535 : Int32)), (.int p0)])) _
                  exact kt)
              by_cases hc65_34 : p0 = (65535 : Int32)
              · have go35 : ∀ t, Steps p.tables e below (s₁.setTop (mkF m 69 #[.val (.int p0)] [(.int (0 : Int32))])) t → Steps p.tables e below (s₁.setTop (entryFrame m #[(.int p0)] 1)) t := fun t kt => go33 t (by
                    refine XS.icmpNo X0.here hx rfl (hb hby d2_65) rfl (teq hc65_34).2 ?_
                    show Steps p.tables e below (s₁.setTop (mkF m 68 #[.val (.int p0)] [])) _
                    refine XS.iconst X0.here hx rfl (hb hby d2_68) ?_
                    show Steps p.tables e below (s₁.setTop (mkF m 69 #[.val (.int p0)] [(.int (0 : Int32))])) _
                    exact kt)
                obtain ⟨fs, hr, hrun, hended, hW, hsame⟩ := X0.leave (v := some (.int (0 : Int32))) (fun h => by rw [Bd.returns] at h; cases h)
                refine ⟨_, _, go35 _ (retN X0 hx (t := .boolean) Bd.returns (by simp) (hb hby d2_69) hr), hrun, hended, _, _, rfl, ?_, ⟨_, rfl⟩, hW, hsame.mono (by decide) (by decide)⟩
                refine ⟨?_, N0, e0⟩
                show some (Value.int (0 : Int32)) = some (.int (own_ref p0))
                unfold own_ref
                rw [if_neg hc1_2, if_neg hc7_5, if_neg hc15_8, if_neg hc45_20, if_pos hc51_29, if_neg hc59_31, if_pos hc65_34]
              · have go36 : ∀ t, Steps p.tables e below (s₁.setTop (mkF m 71 #[.val (.int p0)] [(.int (1 : Int32))])) t → Steps p.tables e below (s₁.setTop (entryFrame m #[(.int p0)] 1)) t := fun t kt => go33 t (by
                    refine XS.icmpYes X0.here hx rfl (pc0 := 65) (pc' := 70) rfl (hb hby d2_65) rfl (feq hc65_34).2 (by decide) (by decide) ?_
                    show Steps p.tables e below (s₁.setTop (mkF m 70 #[.val (.int p0)] [])) _
                    refine XS.iconst X0.here hx rfl (hb hby d2_70) ?_
                    show Steps p.tables e below (s₁.setTop (mkF m 71 #[.val (.int p0)] [(.int (1 : Int32))])) _
                    exact kt)
                obtain ⟨fs, hr, hrun, hended, hW, hsame⟩ := X0.leave (v := some (.int (1 : Int32))) (fun h => by rw [Bd.returns] at h; cases h)
                refine ⟨_, _, go36 _ (retN X0 hx (t := .boolean) Bd.returns (by simp) (hb hby d2_71) hr), hrun, hended, _, _, rfl, ?_, ⟨_, rfl⟩, hW, hsame.mono (by decide) (by decide)⟩
                refine ⟨?_, N0, e0⟩
                show some (Value.int (1 : Int32)) = some (.int (own_ref p0))
                unfold own_ref
                rw [if_neg hc1_2, if_neg hc7_5, if_neg hc15_8, if_neg hc45_20, if_pos hc51_29, if_neg hc59_31, if_neg hc65_34]
          · have go37 : ∀ t, Steps p.tables e below (s₁.setTop (mkF m 55 #[.val (.int p0)] [(.int (0 : Int32))])) t → Steps p.tables e below (s₁.setTop (entryFrame m #[(.int p0)] 1)) t := fun t kt => go28 t (by
                refine XS.icmpNo X0.here hx rfl (hb hby d2_51) rfl (flt hc51_29).2.2.1 ?_
                show Steps p.tables e below (s₁.setTop (mkF m 54 #[.val (.int p0)] [])) _
                refine XS.iconst X0.here hx rfl (hb hby d2_54) ?_
                show Steps p.tables e below (s₁.setTop (mkF m 55 #[.val (.int p0)] [(.int (0 : Int32))])) _
                exact kt)
            obtain ⟨fs, hr, hrun, hended, hW, hsame⟩ := X0.leave (v := some (.int (0 : Int32))) (fun h => by rw [Bd.returns] at h; cases h)
            refine ⟨_, _, go37 _ (retN X0 hx (t := .boolean) Bd.returns (by simp) (hb hby d2_55) hr), hrun, hended, _, _, rfl, ?_, ⟨_, rfl⟩, hW, hsame.mono (by decide) (by decide)⟩
            refine ⟨?_, N0, e0⟩
            show some (Value.int (0 : Int32)) = some (.int (own_ref p0))
            unfold own_ref
            rw [if_neg hc1_2, if_neg hc7_5, if_neg hc15_8, if_neg hc45_20, if_neg hc51_29]
/-- an int array of n places, each of which holds an int -/
def own_AI (Z : State) (h : Heap) (a : Addr) (n : Nat) : Prop := ∃ c : Cell, Arr Z h a c .int ∧ c.slots.size = n ∧ ∀ j, j < n → ∃ x : Int32, c.slots[j]? = some (.int x)
theorem own_new {Z : State} {h : Heap} {a : Addr} {k : ClassId} (A : Arr Z h a (newA k .int (18 : Int32)) .int) : own_AI Z h a 18 :=
  ⟨_, A, (sz_new _ _ _).trans (by decide), fun j hj => ⟨0, by
    show (Array.replicate _ _)[j]? = _
    rw [Array.getElem?_replicate, if_pos (show j < (18 : Int32).toNatClampNeg from hj)]
    rfl⟩⟩
theorem own_set {Z : State} {h h' : Heap} {a : Addr} {c : Cell} {n : Nat} {i : Nat} {x : Int32} (A : Arr Z h a c .int) (S : c.slots.size = n) (G : ∀ j, j < n → ∃ x : Int32, c.slots[j]? = some (.int x)) (W : Wr h h' a i (.int x)) : own_AI Z h' a n := by
  refine ⟨_, A.same W, (sz_set _ _ _).trans S, fun j hj => ?_⟩
  by_cases e : i = j
  · subst e
    exact ⟨x, by show (c.slots.setIfInBounds i _)[i]? = _; rw [Array.getElem?_setIfInBounds, if_pos rfl, if_pos (S ▸ hj)]⟩
  · obtain ⟨y, hy⟩ := G j hj
    exact ⟨y, by show (c.slots.setIfInBounds i _)[j]? = _; rw [Array.getElem?_setIfInBounds, if_neg e]; exact hy⟩
theorem own_in {c : Cell} {j : Int32} {n : Nat} (S : c.slots.size = n) (h0 : ¬ j < 0) (h1 : j.toNatClampNeg < n) : ¬ (j < 0 ∨ c.slots.size ≤ j.toNatClampNeg) := fun q => q.elim h0 fun r => by omega
theorem own_idx (x : Int32) : ¬ ((x &&& (2147483647 : Int32)) % (18 : Int32)) < 0 ∧ ((x &&& (2147483647 : Int32)) % (18 : Int32)).toNatClampNeg < 18 := by
  have e : (x &&& (2147483647 : Int32)).toInt = x.toInt % (2 ^ 31 : Nat) := c_mask x _ 31 (by decide) (by decide)
  have f := (c_irem (x &&& (2147483647 : Int32)) 18 18 (by decide)).1 (by rw [e]; omega)
  have h0 : ¬ ((x &&& (2147483647 : Int32)) % (18 : Int32)) < 0 := by
    rw [Int32.lt_iff_toInt_lt, f, e]
    have q : (0 : Int32).toInt = 0 := by decide
    omega
  refine ⟨h0, ?_⟩
  have g := nat_of h0
  rw [f] at g
  omega
theorem own_same (c : Int32) : own_isc c = own_ref c := by
  have e0 : (1114111 : Int32) < c ↔ 1114111 < c.toInt := by rw [Int32.lt_iff_toInt_lt]; exact Iff.rfl
  have e1 : (55295 : Int32) < c ↔ 55295 < c.toInt := by rw [Int32.lt_iff_toInt_lt]; exact Iff.rfl
  have e2 : (57343 : Int32) < c ↔ 57343 < c.toInt := by rw [Int32.lt_iff_toInt_lt]; exact Iff.rfl
  have e3 : (65533 : Int32) < c ↔ 65533 < c.toInt := by rw [Int32.lt_iff_toInt_lt]; exact Iff.rfl
  have e4 : c < (0 : Int32) ↔ c.toInt < 0 := by rw [Int32.lt_iff_toInt_lt]; exact Iff.rfl
  have e5 : c < (32 : Int32) ↔ c.toInt < 32 := by rw [Int32.lt_iff_toInt_lt]; exact Iff.rfl
  have e6 : c < (55296 : Int32) ↔ c.toInt < 55296 := by rw [Int32.lt_iff_toInt_lt]; exact Iff.rfl
  have e7 : c < (57344 : Int32) ↔ c.toInt < 57344 := by rw [Int32.lt_iff_toInt_lt]; exact Iff.rfl
  have e8 : c < (65536 : Int32) ↔ c.toInt < 65536 := by rw [Int32.lt_iff_toInt_lt]; exact Iff.rfl
  have e9 : c = (10 : Int32) ↔ c.toInt = 10 := by rw [← Int32.toInt_inj]; exact Iff.rfl
  have e10 : c = (13 : Int32) ↔ c.toInt = 13 := by rw [← Int32.toInt_inj]; exact Iff.rfl
  have e11 : c = (65534 : Int32) ↔ c.toInt = 65534 := by rw [← Int32.toInt_inj]; exact Iff.rfl
  have e12 : c = (65535 : Int32) ↔ c.toInt = 65535 := by rw [← Int32.toInt_inj]; exact Iff.rfl
  have e13 : c = (9 : Int32) ↔ c.toInt = 9 := by rw [← Int32.toInt_inj]; exact Iff.rfl
  unfold own_isc own_ref
  simp only [e0, e1, e2, e3, e4, e5, e6, e7, e8, e9, e10, e11, e12, e13]
  generalize c.toInt = z
  have r : z < 0 ∨ (0 ≤ z ∧ z < 32 ∧ z ≠ 9 ∧ z ≠ 10 ∧ z ≠ 13) ∨ z = 9 ∨ z = 10 ∨ z = 13 ∨ (32 ≤ z ∧ z ≤ 55295) ∨ (55296 ≤ z ∧ z ≤ 57343) ∨ (57344 ≤ z ∧ z ≤ 65533) ∨ z = 65534 ∨ z = 65535 ∨ (65536 ≤ z ∧ z ≤ 1114111) ∨ 1114111 < z := by omega
  rcases r with r | r | r | r | r | r | r | r | r | r | r | r
  · have t0 : ¬ (1114111 < z) := by omega
    have t1 : ¬ (55295 < z) := by omega
    have t2 : ¬ (57343 < z) := by omega
    have t3 : ¬ (65533 < z) := by omega
    have t4 : z < 0 := by omega
    have t5 : z < 32 := by omega
    have t6 : z < 55296 := by omega
    have t7 : z < 57344 := by omega
    have t8 : z < 65536 := by omega
    have t9 : ¬ (z = 10) := by omega
    have t10 : ¬ (z = 13) := by omega
    have t11 : ¬ (z = 65534) := by omega
    have t12 : ¬ (z = 65535) := by omega
    have t13 : ¬ (z = 9) := by omega
    simp only [t0, t1, t2, t3, t4, t5, t6, t7, t8, t9, t10, t11, t12, t13, if_true, if_false]
  · have t0 : ¬ (1114111 < z) := by omega
    have t1 : ¬ (55295 < z) := by omega
    have t2 : ¬ (57343 < z) := by omega
    have t3 : ¬ (65533 < z) := by omega
    have t4 : ¬ (z < 0) := by omega
    have t5 : z < 32 := by omega
    have t6 : z < 55296 := by omega
    have t7 : z < 57344 := by omega
    have t8 : z < 65536 := by omega
    have t9 : ¬ (z = 10) := by omega
    have t10 : ¬ (z = 13) := by omega
    have t11 : ¬ (z = 65534) := by omega
    have t12 : ¬ (z = 65535) := by omega
    have t13 : ¬ (z = 9) := by omega
    simp only [t0, t1, t2, t3, t4, t5, t6, t7, t8, t9, t10, t11, t12, t13, if_true, if_false]
  · subst r
    rfl
  · subst r
    rfl
  · subst r
    rfl
  · have t0 : ¬ (1114111 < z) := by omega
    have t1 : ¬ (55295 < z) := by omega
    have t2 : ¬ (57343 < z) := by omega
    have t3 : ¬ (65533 < z) := by omega
    have t4 : ¬ (z < 0) := by omega
    have t5 : ¬ (z < 32) := by omega
    have t6 : z < 55296 := by omega
    have t7 : z < 57344 := by omega
    have t8 : z < 65536 := by omega
    have t9 : ¬ (z = 10) := by omega
    have t10 : ¬ (z = 13) := by omega
    have t11 : ¬ (z = 65534) := by omega
    have t12 : ¬ (z = 65535) := by omega
    have t13 : ¬ (z = 9) := by omega
    simp only [t0, t1, t2, t3, t4, t5, t6, t7, t8, t9, t10, t11, t12, t13, if_true, if_false]
  · have t0 : ¬ (1114111 < z) := by omega
    have t1 : 55295 < z := by omega
    have t2 : ¬ (57343 < z) := by omega
    have t3 : ¬ (65533 < z) := by omega
    have t4 : ¬ (z < 0) := by omega
    have t5 : ¬ (z < 32) := by omega
    have t6 : ¬ (z < 55296) := by omega
    have t7 : z < 57344 := by omega
    have t8 : z < 65536 := by omega
    have t9 : ¬ (z = 10) := by omega
    have t10 : ¬ (z = 13) := by omega
    have t11 : ¬ (z = 65534) := by omega
    have t12 : ¬ (z = 65535) := by omega
    have t13 : ¬ (z = 9) := by omega
    simp only [t0, t1, t2, t3, t4, t5, t6, t7, t8, t9, t10, t11, t12, t13, if_true, if_false]
  · have t0 : ¬ (1114111 < z) := by omega
    have t1 : 55295 < z := by omega
    have t2 : 57343 < z := by omega
    have t3 : ¬ (65533 < z) := by omega
    have t4 : ¬ (z < 0) := by omega
    have t5 : ¬ (z < 32) := by omega
    have t6 : ¬ (z < 55296) := by omega
    have t7 : ¬ (z < 57344) := by omega
    have t8 : z < 65536 := by omega
    have t9 : ¬ (z = 10) := by omega
    have t10 : ¬ (z = 13) := by omega
    have t11 : ¬ (z = 65534) := by omega
    have t12 : ¬ (z = 65535) := by omega
    have t13 : ¬ (z = 9) := by omega
    simp only [t0, t1, t2, t3, t4, t5, t6, t7, t8, t9, t10, t11, t12, t13, if_true, if_false]
  · subst r
    rfl
  · subst r
    rfl
  · have t0 : ¬ (1114111 < z) := by omega
    have t1 : 55295 < z := by omega
    have t2 : 57343 < z := by omega
    have t3 : 65533 < z := by omega
    have t4 : ¬ (z < 0) := by omega
    have t5 : ¬ (z < 32) := by omega
    have t6 : ¬ (z < 55296) := by omega
    have t7 : ¬ (z < 57344) := by omega
    have t8 : ¬ (z < 65536) := by omega
    have t9 : ¬ (z = 10) := by omega
    have t10 : ¬ (z = 13) := by omega
    have t11 : ¬ (z = 65534) := by omega
    have t12 : ¬ (z = 65535) := by omega
    have t13 : ¬ (z = 9) := by omega
    simp only [t0, t1, t2, t3, t4, t5, t6, t7, t8, t9, t10, t11, t12, t13, if_true, if_false]
  · have t0 : 1114111 < z := by omega
    have t1 : 55295 < z := by omega
    have t2 : 57343 < z := by omega
    have t3 : 65533 < z := by omega
    have t4 : ¬ (z < 0) := by omega
    have t5 : ¬ (z < 32) := by omega
    have t6 : ¬ (z < 55296) := by omega
    have t7 : ¬ (z < 57344) := by omega
    have t8 : ¬ (z < 65536) := by omega
    have t9 : ¬ (z = 10) := by omega
    have t10 : ¬ (z = 13) := by omega
    have t11 : ¬ (z = 65534) := by omega
    have t12 : ¬ (z = 65535) := by omega
    have t13 : ¬ (z = 9) := by omega
    simp only [t0, t1, t2, t3, t4, t5, t6, t7, t8, t9, t10, t11, t12, t13, if_true, if_false]
def own_Q0 (n0 : Nat) (v : Option Value) (h : Heap) (L : List Loc) : Prop := v = some (.int 1) ∧ Fr n0 L
theorem pn_0 : plainName "com/example/winding_path/windingpath/XmlCharsIsCharPinLaw" = true := by first | (simp [plainName, overriddenIn]; done) | decide +kernel
theorem ef_0 (m : MethodId) (p0 : Int32) (p1 : Int32) (p2 : Int32) : entryFrame m #[(.int p0), (.int p1), (.int p2)] maxLocals = mkF m 0 #[.val (.int p0), .val (.int p1), .val (.int p2), .unset, .unset, .unset, .unset] [] := by first | (simp [entryFrame, mkF, argsToLocals, Value.category, maxLocals]; done) | rfl
set_option maxRecDepth 65536 in
set_option maxHeartbeats 40000000 in
theorem rm0 (l : Launch) (Z : State) (a0 : Array Value) (hw : ∀ d ∈ tables_1, d.before a0 Z = true) (ws : List Jvm.Cond) (p0 : Int32) (p1 : Int32) (p2 : Int32) (h0 : Heap) (n0 : Nat) (Z0 : n0 ≤ h0.size) :
    MetFree l x (head1 (Jvm.Cond.code x code maxLocals ret :: ws) room_1) (fun a U => a = #[(.int p0), (.int p1), (.int p2)] ∧ Z.Warmed39 U.vm ∧ U.heap = h0) (fun _ _ _ _ _ => True) (fun _ U o U' => ∃ v L, o = .returned v ∧ own_Q0 n0 v U'.heap L ∧ FrameEnd U o U' L room_1.cells room_1.slots) := by
  refine MetFree.of_bodySF (plainFor_of_name pn_0) hisR ?_
  intro p e s m args below meth c s₁ Bd hml0 hP hK
  obtain ⟨rfl, hZ, hh⟩ := hP
  have hx := Bd.exec
  have hby := Bd.bytes
  have hml : c.maxLocals = 7 := hml0
  have hown : s.vm.findClass "com/example/winding_path/windingpath/XmlCharsIsCharPinLaw" = some m.cls := findClass_of_methodNamed Bd.named
  have hnm := (name_of_methodNamed Bd.named Bd.method).1
  have X0 : Stand p l e room_1 s m #[(.int p0), (.int p1), (.int p2)] below meth c s₁ [] 0 0 := Stand.of_body Bd
  have e0 : s₁.heap = h0 := by rw [← hh, Bd.state]; rfl
  have N0 := Fr.nil n0
  have go0 : ∀ t, Steps p.tables e below (s₁.setTop (mkF m 0 #[.val (.int p0), .val (.int p1), .val (.int p2), .unset, .unset, .unset, .unset] [])) t → Steps p.tables e below (s₁.setTop (entryFrame m #[(.int p0), (.int p1), (.int p2)] maxLocals)) t := fun t k => castTop (ef_0 m p0 p1 p2) k
  have go1 : ∀ t, Steps p.tables e below (s₁.setTop (mkF m 2 #[.val (.int p0), .val (.int p1), .val (.int p2), .unset, .unset, .unset, .unset] [(.int (18 : Int32))])) t → Steps p.tables e below (s₁.setTop (entryFrame m #[(.int p0), (.int p1), (.int p2)] maxLocals)) t := fun t kt => go0 t (by
      refine XS.bipush X0.here hx rfl (hb hby at_0) ?_
      show Steps p.tables e below (s₁.setTop (mkF m 2 #[.val (.int p0), .val (.int p1), .val (.int p2), .unset, .unset, .unset, .unset] [(.int (18 : Int32))])) _
      exact kt)
  obtain ⟨T2, h2, k2, X2, e2, E2, A2, st2⟩ := newP X0 hx hZ (hw _ (List.mem_of_getElem? (i := 0) rfl)) e0 (g := (mkF m 2 #[.val (.int p0), .val (.int p1), .val (.int p2), .unset, .unset, .unset, .unset] [(.int (18 : Int32))])) rfl (hb hby at_2) rfl (by decide) (cap := 18) (by decide) (by decide) (by decide) (by decide)
  obtain ⟨b2, g2⟩ : ∃ z, z = h0.size := ⟨_, rfl⟩
  rw [← g2] at A2 st2
  have V2 := own_new A2
  have gb2 : n0 ≤ b2 := Nat.le_trans Z0 (Nat.le_of_eq g2.symm)
  have go3 : ∀ t, Steps p.tables e below (T2.setTop (mkF m 7 #[.val (.int p0), .val (.int p1), .val (.int p2), .unset, .unset, .unset, .unset] [(.int (0 : Int32)), (.int (0 : Int32)), (.ref b2), (.ref b2)])) t → Steps p.tables e below (s₁.setTop (entryFrame m #[(.int p0), (.int p1), (.int p2)] maxLocals)) t := fun t kt => go1 t (by
      refine st2 _ ?_
      show Steps p.tables e below (T2.setTop (mkF m 4 #[.val (.int p0), .val (.int p1), .val (.int p2), .unset, .unset, .unset, .unset] [(.ref b2)])) _
      refine XS.dup X2.here hx rfl (hb hby at_4) rfl rfl ?_
      show Steps p.tables e below (T2.setTop (mkF m 5 #[.val (.int p0), .val (.int p1), .val (.int p2), .unset, .unset, .unset, .unset] [(.ref b2), (.ref b2)])) _
      refine XS.iconst X2.here hx rfl (hb hby at_5) ?_
      show Steps p.tables e below (T2.setTop (mkF m 6 #[.val (.int p0), .val (.int p1), .val (.int p2), .unset, .unset, .unset, .unset] [(.int (0 : Int32)), (.ref b2), (.ref b2)])) _
      refine XS.iconst X2.here hx rfl (hb hby at_6) ?_
      show Steps p.tables e below (T2.setTop (mkF m 7 #[.val (.int p0), .val (.int p1), .val (.int p2), .unset, .unset, .unset, .unset] [(.int (0 : Int32)), (.int (0 : Int32)), (.ref b2), (.ref b2)])) _
      exact kt)
  obtain ⟨c4, Ar4, S4, G4⟩ := id V2
  obtain ⟨T4, h4, X4, e4, W4, st4⟩ := stI X2 hx hZ e2 Ar4 (j := (0 : Int32)) (own_in S4 (by decide) (by decide)) (g := (mkF m 7 #[.val (.int p0), .val (.int p1), .val (.int p2), .unset, .unset, .unset, .unset] [(.int (0 : Int32)), (.int (0 : Int32)), (.ref b2), (.ref b2)])) rfl rfl (hb hby at_7)
  have V4 := own_set Ar4 S4 G4 W4
  obtain ⟨Ls4, X4, N4⟩ := own_loc X4 (Fr.snoc X4 N0 gb2)
  have go5 : ∀ t, Steps p.tables e below (T4.setTop (mkF m 12 #[.val (.int p0), .val (.int p1), .val (.int p2), .unset, .unset, .unset, .unset] [(.int (9 : Int32)), (.int (1 : Int32)), (.ref b2), (.ref b2)])) t → Steps p.tables e below (s₁.setTop (entryFrame m #[(.int p0), (.int p1), (.int p2)] maxLocals)) t := fun t kt => go3 t (by
      refine st4 _ ?_
      show Steps p.tables e below (T4.setTop (mkF m 8 #[.val (.int p0), .val (.int p1), .val (.int p2), .unset, .unset, .unset, .unset] [(.ref b2)])) _
      refine XS.dup X4.here hx rfl (hb hby at_8) rfl rfl ?_
      show Steps p.tables e below (T4.setTop (mkF m 9 #[.val (.int p0), .val (.int p1), .val (.int p2), .unset, .unset, .unset, .unset] [(.ref b2), (.ref b2)])) _
      refine XS.iconst X4.here hx rfl (hb hby at_9) ?_
      show Steps p.tables e below (T4.setTop (mkF m 10 #[.val (.int p0), .val (.int p1), .val (.int p2), .unset, .unset, .unset, .unset] [(.int (1 : Int32)), (.ref b2), (.ref b2)])) _
      refine XS.bipush X4.here hx rfl (hb hby at_10) ?_
      show Steps p.tables e below (T4.setTop (mkF m 12 #[.val (.int p0), .val (.int p1), .val (.int p2), .unset, .unset, .unset, .unset] [(.int (9 : Int32)), (.int (1 : Int32)), (.ref b2), (.ref b2)])) _
      exact kt)
  obtain ⟨c6, Ar6, S6, G6⟩ := id V4
  obtain ⟨T6, h6, X6, e6, W6, st6⟩ := stI X4 hx hZ e4 Ar6 (j := (1 : Int32)) (own_in S6 (by decide) (by decide)) (g := (mkF m 12 #[.val (.int p0), .val (.int p1), .val (.int p2), .unset, .unset, .unset, .unset] [(.int (9 : Int32)), (.int (1 : Int32)), (.ref b2), (.ref b2)])) rfl rfl (hb hby at_12)
  have V6 := own_set Ar6 S6 G6 W6
  obtain ⟨Ls6, X6, N6⟩ := own_loc X6 (Fr.snoc X6 N4 gb2)
  have go7 : ∀ t, Steps p.tables e below (T6.setTop (mkF m 17 #[.val (.int p0), .val (.int p1), .val (.int p2), .unset, .unset, .unset, .unset] [(.int (10 : Int32)), (.int (2 : Int32)), (.ref b2), (.ref b2)])) t → Steps p.tables e below (s₁.setTop (entryFrame m #[(.int p0), (.int p1), (.int p2)] maxLocals)) t := fun t kt => go5 t (by
      refine st6 _ ?_
      show Steps p.tables e below (T6.setTop (mkF m 13 #[.val (.int p0), .val (.int p1), .val (.int p2), .unset, .unset, .unset, .unset] [(.ref b2)])) _
      refine XS.dup X6.here hx rfl (hb hby at_13) rfl rfl ?_
      show Steps p.tables e below (T6.setTop (mkF m 14 #[.val (.int p0), .val (.int p1), .val (.int p2), .unset, .unset, .unset, .unset] [(.ref b2), (.ref b2)])) _
      refine XS.iconst X6.here hx rfl (hb hby at_14) ?_
      show Steps p.tables e below (T6.setTop (mkF m 15 #[.val (.int p0), .val (.int p1), .val (.int p2), .unset, .unset, .unset, .unset] [(.int (2 : Int32)), (.ref b2), (.ref b2)])) _
      refine XS.bipush X6.here hx rfl (hb hby at_15) ?_
      show Steps p.tables e below (T6.setTop (mkF m 17 #[.val (.int p0), .val (.int p1), .val (.int p2), .unset, .unset, .unset, .unset] [(.int (10 : Int32)), (.int (2 : Int32)), (.ref b2), (.ref b2)])) _
      exact kt)
  obtain ⟨c8, Ar8, S8, G8⟩ := id V6
  obtain ⟨T8, h8, X8, e8, W8, st8⟩ := stI X6 hx hZ e6 Ar8 (j := (2 : Int32)) (own_in S8 (by decide) (by decide)) (g := (mkF m 17 #[.val (.int p0), .val (.int p1), .val (.int p2), .unset, .unset, .unset, .unset] [(.int (10 : Int32)), (.int (2 : Int32)), (.ref b2), (.ref b2)])) rfl rfl (hb hby at_17)
  have V8 := own_set Ar8 S8 G8 W8
  obtain ⟨Ls8, X8, N8⟩ := own_loc X8 (Fr.snoc X8 N6 gb2)
  have go9 : ∀ t, Steps p.tables e below (T8.setTop (mkF m 22 #[.val (.int p0), .val (.int p1), .val (.int p2), .unset, .unset, .unset, .unset] [(.int (13 : Int32)), (.int (3 : Int32)), (.ref b2), (.ref b2)])) t → Steps p.tables e below (s₁.setTop (entryFrame m #[(.int p0), (.int p1), (.int p2)] maxLocals)) t := fun t kt => go7 t (by
      refine st8 _ ?_
      show Steps p.tables e below (T8.setTop (mkF m 18 #[.val (.int p0), .val (.int p1), .val (.int p2), .unset, .unset, .unset, .unset] [(.ref b2)])) _
      refine XS.dup X8.here hx rfl (hb hby at_18) rfl rfl ?_
      show Steps p.tables e below (T8.setTop (mkF m 19 #[.val (.int p0), .val (.int p1), .val (.int p2), .unset, .unset, .unset, .unset] [(.ref b2), (.ref b2)])) _
      refine XS.iconst X8.here hx rfl (hb hby at_19) ?_
      show Steps p.tables e below (T8.setTop (mkF m 20 #[.val (.int p0), .val (.int p1), .val (.int p2), .unset, .unset, .unset, .unset] [(.int (3 : Int32)), (.ref b2), (.ref b2)])) _
      refine XS.bipush X8.here hx rfl (hb hby at_20) ?_
      show Steps p.tables e below (T8.setTop (mkF m 22 #[.val (.int p0), .val (.int p1), .val (.int p2), .unset, .unset, .unset, .unset] [(.int (13 : Int32)), (.int (3 : Int32)), (.ref b2), (.ref b2)])) _
      exact kt)
  obtain ⟨c10, Ar10, S10, G10⟩ := id V8
  obtain ⟨T10, h10, X10, e10, W10, st10⟩ := stI X8 hx hZ e8 Ar10 (j := (3 : Int32)) (own_in S10 (by decide) (by decide)) (g := (mkF m 22 #[.val (.int p0), .val (.int p1), .val (.int p2), .unset, .unset, .unset, .unset] [(.int (13 : Int32)), (.int (3 : Int32)), (.ref b2), (.ref b2)])) rfl rfl (hb hby at_22)
  have V10 := own_set Ar10 S10 G10 W10
  obtain ⟨Ls10, X10, N10⟩ := own_loc X10 (Fr.snoc X10 N8 gb2)
  have go11 : ∀ t, Steps p.tables e below (T10.setTop (mkF m 27 #[.val (.int p0), .val (.int p1), .val (.int p2), .unset, .unset, .unset, .unset] [(.int (31 : Int32)), (.int (4 : Int32)), (.ref b2), (.ref b2)])) t → Steps p.tables e below (s₁.setTop (entryFrame m #[(.int p0), (.int p1), (.int p2)] maxLocals)) t := fun t kt => go9 t (by
      refine st10 _ ?_
      show Steps p.tables e below (T10.setTop (mkF m 23 #[.val (.int p0), .val (.int p1), .val (.int p2), .unset, .unset, .unset, .unset] [(.ref b2)])) _
      refine XS.dup X10.here hx rfl (hb hby at_23) rfl rfl ?_
      show Steps p.tables e below (T10.setTop (mkF m 24 #[.val (.int p0), .val (.int p1), .val (.int p2), .unset, .unset, .unset, .unset] [(.ref b2), (.ref b2)])) _
      refine XS.iconst X10.here hx rfl (hb hby at_24) ?_
      show Steps p.tables e below (T10.setTop (mkF m 25 #[.val (.int p0), .val (.int p1), .val (.int p2), .unset, .unset, .unset, .unset] [(.int (4 : Int32)), (.ref b2), (.ref b2)])) _
      refine XS.bipush X10.here hx rfl (hb hby at_25) ?_
      show Steps p.tables e below (T10.setTop (mkF m 27 #[.val (.int p0), .val (.int p1), .val (.int p2), .unset, .unset, .unset, .unset] [(.int (31 : Int32)), (.int (4 : Int32)), (.ref b2), (.ref b2)])) _
      exact kt)
  obtain ⟨c12, Ar12, S12, G12⟩ := id V10
  obtain ⟨T12, h12, X12, e12, W12, st12⟩ := stI X10 hx hZ e10 Ar12 (j := (4 : Int32)) (own_in S12 (by decide) (by decide)) (g := (mkF m 27 #[.val (.int p0), .val (.int p1), .val (.int p2), .unset, .unset, .unset, .unset] [(.int (31 : Int32)), (.int (4 : Int32)), (.ref b2), (.ref b2)])) rfl rfl (hb hby at_27)
  have V12 := own_set Ar12 S12 G12 W12
  obtain ⟨Ls12, X12, N12⟩ := own_loc X12 (Fr.snoc X12 N10 gb2)
  have go13 : ∀ t, Steps p.tables e below (T12.setTop (mkF m 32 #[.val (.int p0), .val (.int p1), .val (.int p2), .unset, .unset, .unset, .unset] [(.int (32 : Int32)), (.int (5 : Int32)), (.ref b2), (.ref b2)])) t → Steps p.tables e below (s₁.setTop (entryFrame m #[(.int p0), (.int p1), (.int p2)] maxLocals)) t := fun t kt => go11 t (by
      refine st12 _ ?_
      show Steps p.tables e below (T12.setTop (mkF m 28 #[.val (.int p0), .val (.int p1), .val (.int p2), .unset, .unset, .unset, .unset] [(.ref b2)])) _
      refine XS.dup X12.here hx rfl (hb hby at_28) rfl rfl ?_
      show Steps p.tables e below (T12.setTop (mkF m 29 #[.val (.int p0), .val (.int p1), .val (.int p2), .unset, .unset, .unset, .unset] [(.ref b2), (.ref b2)])) _
      refine XS.iconst X12.here hx rfl (hb hby at_29) ?_
      show Steps p.tables e below (T12.setTop (mkF m 30 #[.val (.int p0), .val (.int p1), .val (.int p2), .unset, .unset, .unset, .unset] [(.int (5 : Int32)), (.ref b2), (.ref b2)])) _
      refine XS.bipush X12.here hx rfl (hb hby at_30) ?_
      show Steps p.tables e below (T12.setTop (mkF m 32 #[.val (.int p0), .val (.int p1), .val (.int p2), .unset, .unset, .unset, .unset] [(.int (32 : Int32)), (.int (5 : Int32)), (.ref b2), (.ref b2)])) _
      exact kt)
  obtain ⟨c14, Ar14, S14, G14⟩ := id V12
  obtain ⟨T14, h14, X14, e14, W14, st14⟩ := stI X12 hx hZ e12 Ar14 (j := (5 : Int32)) (own_in S14 (by decide) (by decide)) (g := (mkF m 32 #[.val (.int p0), .val (.int p1), .val (.int p2), .unset, .unset, .unset, .unset] [(.int (32 : Int32)), (.int (5 : Int32)), (.ref b2), (.ref b2)])) rfl rfl (hb hby at_32)
  have V14 := own_set Ar14 S14 G14 W14
  obtain ⟨Ls14, X14, N14⟩ := own_loc X14 (Fr.snoc X14 N12 gb2)
  have go15 : ∀ t, Steps p.tables e below (T14.setTop (mkF m 38 #[.val (.int p0), .val (.int p1), .val (.int p2), .unset, .unset, .unset, .unset] [(.int (55295 : Int32)), (.int (6 : Int32)), (.ref b2), (.ref b2)])) t → Steps p.tables e below (s₁.setTop (entryFrame m #[(.int p0), (.int p1), (.int p2)] maxLocals)) t := fun t kt => go13 t (by
      refine st14 _ ?_
      show Steps p.tables e below (T14.setTop (mkF m 33 #[.val (.int p0), .val (.int p1), .val (.int p2), .unset, .unset, .unset, .unset] [(.ref b2)])) _
      refine XS.dup X14.here hx rfl (hb hby at_33) rfl rfl ?_
      show Steps p.tables e below (T14.setTop (mkF m 34 #[.val (.int p0), .val (.int p1), .val (.int p2), .unset, .unset, .unset, .unset] [(.ref b2), (.ref b2)])) _
      refine XS.bipush X14.here hx rfl (hb hby at_34) ?_
      show Steps p.tables e below (T14.setTop (mkF m 36 #[.val (.int p0), .val (.int p1), .val (.int p2), .unset, .unset, .unset, .unset] [(.int (6 : Int32)), (.ref b2), (.ref b2)])) _
      refine X14.ldcInt hx hown (mvT hZ (hw _ (List.mem_of_getElem? (i := 1) rfl))) (g := (mkF m 36 #[.val (.int p0), .val (.int p1), .val (.int p2), .unset, .unset, .unset, .unset] [(.int (6 : Int32)), (.ref b2), (.ref b2)])) rfl (hb hby at_36) _ ?_
      show Steps p.tables e below (T14.setTop (mkF m 38 #[.val (.int p0), .val (.int p1), .val (.int p2), .unset, .unset, .unset, .unset] [(.int (55295 : Int32)), (.int (6 : Int32)), (.ref b2), (.ref b2)])) _
      exact kt)
  obtain ⟨c16, Ar16, S16, G16⟩ := id V14
  obtain ⟨T16, h16, X16, e16, W16, st16⟩ := stI X14 hx hZ e14 Ar16 (j := (6 : Int32)) (own_in S16 (by decide) (by decide)) (g := (mkF m 38 #[.val (.int p0), .val (.int p1), .val (.int p2), .unset, .unset, .unset, .unset] [(.int (55295 : Int32)), (.int (6 : Int32)), (.ref b2), (.ref b2)])) rfl rfl (hb hby at_38)
  have V16 := own_set Ar16 S16 G16 W16
  obtain ⟨Ls16, X16, N16⟩ := own_loc X16 (Fr.snoc X16 N14 gb2)
  have go17 : ∀ t, Steps p.tables e below (T16.setTop (mkF m 44 #[.val (.int p0), .val (.int p1), .val (.int p2), .unset, .unset, .unset, .unset] [(.int (55296 : Int32)), (.int (7 : Int32)), (.ref b2), (.ref b2)])) t → Steps p.tables e below (s₁.setTop (entryFrame m #[(.int p0), (.int p1), (.int p2)] maxLocals)) t := fun t kt => go15 t (by
      refine st16 _ ?_
      show Steps p.tables e below (T16.setTop (mkF m 39 #[.val (.int p0), .val (.int p1), .val (.int p2), .unset, .unset, .unset, .unset] [(.ref b2)])) _
      refine XS.dup X16.here hx rfl (hb hby at_39) rfl rfl ?_
      show Steps p.tables e below (T16.setTop (mkF m 40 #[.val (.int p0), .val (.int p1), .val (.int p2), .unset, .unset, .unset, .unset] [(.ref b2), (.ref b2)])) _
      refine XS.bipush X16.here hx rfl (hb hby at_40) ?_
      show Steps p.tables e below (T16.setTop (mkF m 42 #[.val (.int p0), .val (.int p1), .val (.int p2), .unset, .unset, .unset, .unset] [(.int (7 : Int32)), (.ref b2), (.ref b2)])) _
      refine X16.ldcInt hx hown (mvT hZ (hw _ (List.mem_of_getElem? (i := 2) rfl))) (g := (mkF m 42 #[.val (.int p0), .val (.int p1), .val (.int p2), .unset, .unset, .unset, .unset] [(.int (7 : Int32)), (.ref b2), (.ref b2)])) rfl (hb hby at_42) _ ?_
      show Steps p.tables e below (T16.setTop (mkF m 44 #[.val (.int p0), .val (.int p1), .val (.int p2), .unset, .unset, .unset, .unset] [(.int (55296 : Int32)), (.int (7 : Int32)), (.ref b2), (.ref b2)])) _
      exact kt)
  obtain ⟨c18, Ar18, S18, G18⟩ := id V16
  obtain ⟨T18, h18, X18, e18, W18, st18⟩ := stI X16 hx hZ e16 Ar18 (j := (7 : Int32)) (own_in S18 (by decide) (by decide)) (g := (mkF m 44 #[.val (.int p0), .val (.int p1), .val (.int p2), .unset, .unset, .unset, .unset] [(.int (55296 : Int32)), (.int (7 : Int32)), (.ref b2), (.ref b2)])) rfl rfl (hb hby at_44)
  have V18 := own_set Ar18 S18 G18 W18
  obtain ⟨Ls18, X18, N18⟩ := own_loc X18 (Fr.snoc X18 N16 gb2)
  have go19 : ∀ t, Steps p.tables e below (T18.setTop (mkF m 50 #[.val (.int p0), .val (.int p1), .val (.int p2), .unset, .unset, .unset, .unset] [(.int (57343 : Int32)), (.int (8 : Int32)), (.ref b2), (.ref b2)])) t → Steps p.tables e below (s₁.setTop (entryFrame m #[(.int p0), (.int p1), (.int p2)] maxLocals)) t := fun t kt => go17 t (by
      refine st18 _ ?_
      show Steps p.tables e below (T18.setTop (mkF m 45 #[.val (.int p0), .val (.int p1), .val (.int p2), .unset, .unset, .unset, .unset] [(.ref b2)])) _
      refine XS.dup X18.here hx rfl (hb hby at_45) rfl rfl ?_
      show Steps p.tables e below (T18.setTop (mkF m 46 #[.val (.int p0), .val (.int p1), .val (.int p2), .unset, .unset, .unset, .unset] [(.ref b2), (.ref b2)])) _
      refine XS.bipush X18.here hx rfl (hb hby at_46) ?_
      show Steps p.tables e below (T18.setTop (mkF m 48 #[.val (.int p0), .val (.int p1), .val (.int p2), .unset, .unset, .unset, .unset] [(.int (8 : Int32)), (.ref b2), (.ref b2)])) _
      refine X18.ldcInt hx hown (mvT hZ (hw _ (List.mem_of_getElem? (i := 3) rfl))) (g := (mkF m 48 #[.val (.int p0), .val (.int p1), .val (.int p2), .unset, .unset, .unset, .unset] [(.int (8 : Int32)), (.ref b2), (.ref b2)])) rfl (hb hby at_48) _ ?_
      show Steps p.tables e below (T18.setTop (mkF m 50 #[.val (.int p0), .val (.int p1), .val (.int p2), .unset, .unset, .unset, .unset] [(.int (57343 : Int32)), (.int (8 : Int32)), (.ref b2), (.ref b2)])) _
      exact kt)
  obtain ⟨c20, Ar20, S20, G20⟩ := id V18
  obtain ⟨T20, h20, X20, e20, W20, st20⟩ := stI X18 hx hZ e18 Ar20 (j := (8 : Int32)) (own_in S20 (by decide) (by decide)) (g := (mkF m 50 #[.val (.int p0), .val (.int p1), .val (.int p2), .unset, .unset, .unset, .unset] [(.int (57343 : Int32)), (.int (8 : Int32)), (.ref b2), (.ref b2)])) rfl rfl (hb hby at_50)
  have V20 := own_set Ar20 S20 G20 W20
  obtain ⟨Ls20, X20, N20⟩ := own_loc X20 (Fr.snoc X20 N18 gb2)
  have go21 : ∀ t, Steps p.tables e below (T20.setTop (mkF m 56 #[.val (.int p0), .val (.int p1), .val (.int p2), .unset, .unset, .unset, .unset] [(.int (57344 : Int32)), (.int (9 : Int32)), (.ref b2), (.ref b2)])) t → Steps p.tables e below (s₁.setTop (entryFrame m #[(.int p0), (.int p1), (.int p2)] maxLocals)) t := fun t kt => go19 t (by
      refine st20 _ ?_
      show Steps p.tables e below (T20.setTop (mkF m 51 #[.val (.int p0), .val (.int p1), .val (.int p2), .unset, .unset, .unset, .unset] [(.ref b2)])) _
      refine XS.dup X20.here hx rfl (hb hby at_51) rfl rfl ?_
      show Steps p.tables e below (T20.setTop (mkF m 52 #[.val (.int p0), .val (.int p1), .val (.int p2), .unset, .unset, .unset, .unset] [(.ref b2), (.ref b2)])) _
      refine XS.bipush X20.here hx rfl (hb hby at_52) ?_
      show Steps p.tables e below (T20.setTop (mkF m 54 #[.val (.int p0), .val (.int p1), .val (.int p2), .unset, .unset, .unset, .unset] [(.int (9 : Int32)), (.ref b2), (.ref b2)])) _
      refine X20.ldcInt hx hown (mvT hZ (hw _ (List.mem_of_getElem? (i := 4) rfl))) (g := (mkF m 54 #[.val (.int p0), .val (.int p1), .val (.int p2), .unset, .unset, .unset, .unset] [(.int (9 : Int32)), (.ref b2), (.ref b2)])) rfl (hb hby at_54) _ ?_
      show Steps p.tables e below (T20.setTop (mkF m 56 #[.val (.int p0), .val (.int p1), .val (.int p2), .unset, .unset, .unset, .unset] [(.int (57344 : Int32)), (.int (9 : Int32)), (.ref b2), (.ref b2)])) _
      exact kt)
  obtain ⟨c22, Ar22, S22, G22⟩ := id V20
  obtain ⟨T22, h22, X22, e22, W22, st22⟩ := stI X20 hx hZ e20 Ar22 (j := (9 : Int32)) (own_in S22 (by decide) (by decide)) (g := (mkF m 56 #[.val (.int p0), .val (.int p1), .val (.int p2), .unset, .unset, .unset, .unset] [(.int (57344 : Int32)), (.int (9 : Int32)), (.ref b2), (.ref b2)])) rfl rfl (hb hby at_56)
  have V22 := own_set Ar22 S22 G22 W22
  obtain ⟨Ls22, X22, N22⟩ := own_loc X22 (Fr.snoc X22 N20 gb2)
  have go23 : ∀ t, Steps p.tables e below (T22.setTop (mkF m 62 #[.val (.int p0), .val (.int p1), .val (.int p2), .unset, .unset, .unset, .unset] [(.int (65533 : Int32)), (.int (10 : Int32)), (.ref b2), (.ref b2)])) t → Steps p.tables e below (s₁.setTop (entryFrame m #[(.int p0), (.int p1), (.int p2)] maxLocals)) t := fun t kt => go21 t (by
      refine st22 _ ?_
      show Steps p.tables e below (T22.setTop (mkF m 57 #[.val (.int p0), .val (.int p1), .val (.int p2), .unset, .unset, .unset, .unset] [(.ref b2)])) _
      refine XS.dup X22.here hx rfl (hb hby at_57) rfl rfl ?_
      show Steps p.tables e below (T22.setTop (mkF m 58 #[.val (.int p0), .val (.int p1), .val (.int p2), .unset, .unset, .unset, .unset] [(.ref b2), (.ref b2)])) _
      refine XS.bipush X22.here hx rfl (hb hby at_58) ?_
      show Steps p.tables e below (T22.setTop (mkF m 60 #[.val (.int p0), .val (.int p1), .val (.int p2), .unset, .unset, .unset, .unset] [(.int (10 : Int32)), (.ref b2), (.ref b2)])) _
      refine X22.ldcInt hx hown (mvT hZ (hw _ (List.mem_of_getElem? (i := 5) rfl))) (g := (mkF m 60 #[.val (.int p0), .val (.int p1), .val (.int p2), .unset, .unset, .unset, .unset] [(.int (10 : Int32)), (.ref b2), (.ref b2)])) rfl (hb hby at_60) _ ?_
      show Steps p.tables e below (T22.setTop (mkF m 62 #[.val (.int p0), .val (.int p1), .val (.int p2), .unset, .unset, .unset, .unset] [(.int (65533 : Int32)), (.int (10 : Int32)), (.ref b2), (.ref b2)])) _
      exact kt)
  obtain ⟨c24, Ar24, S24, G24⟩ := id V22
  obtain ⟨T24, h24, X24, e24, W24, st24⟩ := stI X22 hx hZ e22 Ar24 (j := (10 : Int32)) (own_in S24 (by decide) (by decide)) (g := (mkF m 62 #[.val (.int p0), .val (.int p1), .val (.int p2), .unset, .unset, .unset, .unset] [(.int (65533 : Int32)), (.int (10 : Int32)), (.ref b2), (.ref b2)])) rfl rfl (hb hby at_62)
  have V24 := own_set Ar24 S24 G24 W24
  obtain ⟨Ls24, X24, N24⟩ := own_loc X24 (Fr.snoc X24 N22 gb2)
  have go25 : ∀ t, Steps p.tables e below (T24.setTop (mkF m 68 #[.val (.int p0), .val (.int p1), .val (.int p2), .unset, .unset, .unset, .unset] [(.int (65534 : Int32)), (.int (11 : Int32)), (.ref b2), (.ref b2)])) t → Steps p.tables e below (s₁.setTop (entryFrame m #[(.int p0), (.int p1), (.int p2)] maxLocals)) t := fun t kt => go23 t (by
      refine st24 _ ?_
      show Steps p.tables e below (T24.setTop (mkF m 63 #[.val (.int p0), .val (.int p1), .val (.int p2), .unset, .unset, .unset, .unset] [(.ref b2)])) _
      refine XS.dup X24.here hx rfl (hb hby at_63) rfl rfl ?_
      show Steps p.tables e below (T24.setTop (mkF m 64 #[.val (.int p0), .val (.int p1), .val (.int p2), .unset, .unset, .unset, .unset] [(.ref b2), (.ref b2)])) _
      refine XS.bipush X24.here hx rfl (hb hby at_64) ?_
      show Steps p.tables e below (T24.setTop (mkF m 66 #[.val (.int p0), .val (.int p1), .val (.int p2), .unset, .unset, .unset, .unset] [(.int (11 : Int32)), (.ref b2), (.ref b2)])) _
      refine X24.ldcInt hx hown (mvT hZ (hw _ (List.mem_of_getElem? (i := 6) rfl))) (g := (mkF m 66 #[.val (.int p0), .val (.int p1), .val (.int p2), .unset, .unset, .unset, .unset] [(.int (11 : Int32)), (.ref b2), (.ref b2)])) rfl (hb hby at_66) _ ?_
      show Steps p.tables e below (T24.setTop (mkF m 68 #[.val (.int p0), .val (.int p1), .val (.int p2), .unset, .unset, .unset, .unset] [(.int (65534 : Int32)), (.int (11 : Int32)), (.ref b2), (.ref b2)])) _
      exact kt)
  obtain ⟨c26, Ar26, S26, G26⟩ := id V24
  obtain ⟨T26, h26, X26, e26, W26, st26⟩ := stI X24 hx hZ e24 Ar26 (j := (11 : Int32)) (own_in S26 (by decide) (by decide)) (g := (mkF m 68 #[.val (.int p0), .val (.int p1), .val (.int p2), .unset, .unset, .unset, .unset] [(.int (65534 : Int32)), (.int (11 : Int32)), (.ref b2), (.ref b2)])) rfl rfl (hb hby at_68)
  have V26 := own_set Ar26 S26 G26 W26
  obtain ⟨Ls26, X26, N26⟩ := own_loc X26 (Fr.snoc X26 N24 gb2)
  have go27 : ∀ t, Steps p.tables e below (T26.setTop (mkF m 74 #[.val (.int p0), .val (.int p1), .val (.int p2), .unset, .unset, .unset, .unset] [(.int (65535 : Int32)), (.int (12 : Int32)), (.ref b2), (.ref b2)])) t → Steps p.tables e below (s₁.setTop (entryFrame m #[(.int p0), (.int p1), (.int p2)] maxLocals)) t := fun t kt => go25 t (by
      refine st26 _ ?_
      show Steps p.tables e below (T26.setTop (mkF m 69 #[.val (.int p0), .val (.int p1), .val (.int p2), .unset, .unset, .unset, .unset] [(.ref b2)])) _
      refine XS.dup X26.here hx rfl (hb hby at_69) rfl rfl ?_
      show Steps p.tables e below (T26.setTop (mkF m 70 #[.val (.int p0), .val (.int p1), .val (.int p2), .unset, .unset, .unset, .unset] [(.ref b2), (.ref b2)])) _
      refine XS.bipush X26.here hx rfl (hb hby at_70) ?_
      show Steps p.tables e below (T26.setTop (mkF m 72 #[.val (.int p0), .val (.int p1), .val (.int p2), .unset, .unset, .unset, .unset] [(.int (12 : Int32)), (.ref b2), (.ref b2)])) _
      refine X26.ldcInt hx hown (mvT hZ (hw _ (List.mem_of_getElem? (i := 7) rfl))) (g := (mkF m 72 #[.val (.int p0), .val (.int p1), .val (.int p2), .unset, .unset, .unset, .unset] [(.int (12 : Int32)), (.ref b2), (.ref b2)])) rfl (hb hby at_72) _ ?_
      show Steps p.tables e below (T26.setTop (mkF m 74 #[.val (.int p0), .val (.int p1), .val (.int p2), .unset, .unset, .unset, .unset] [(.int (65535 : Int32)), (.int (12 : Int32)), (.ref b2), (.ref b2)])) _
      exact kt)
  obtain ⟨c28, Ar28, S28, G28⟩ := id V26
  obtain ⟨T28, h28, X28, e28, W28, st28⟩ := stI X26 hx hZ e26 Ar28 (j := (12 : Int32)) (own_in S28 (by decide) (by decide)) (g := (mkF m 74 #[.val (.int p0), .val (.int p1), .val (.int p2), .unset, .unset, .unset, .unset] [(.int (65535 : Int32)), (.int (12 : Int32)), (.ref b2), (.ref b2)])) rfl rfl (hb hby at_74)
  have V28 := own_set Ar28 S28 G28 W28
  obtain ⟨Ls28, X28, N28⟩ := own_loc X28 (Fr.snoc X28 N26 gb2)
  have go29 : ∀ t, Steps p.tables e below (T28.setTop (mkF m 80 #[.val (.int p0), .val (.int p1), .val (.int p2), .unset, .unset, .unset, .unset] [(.int (65536 : Int32)), (.int (13 : Int32)), (.ref b2), (.ref b2)])) t → Steps p.tables e below (s₁.setTop (entryFrame m #[(.int p0), (.int p1), (.int p2)] maxLocals)) t := fun t kt => go27 t (by
      refine st28 _ ?_
      show Steps p.tables e below (T28.setTop (mkF m 75 #[.val (.int p0), .val (.int p1), .val (.int p2), .unset, .unset, .unset, .unset] [(.ref b2)])) _
      refine XS.dup X28.here hx rfl (hb hby at_75) rfl rfl ?_
      show Steps p.tables e below (T28.setTop (mkF m 76 #[.val (.int p0), .val (.int p1), .val (.int p2), .unset, .unset, .unset, .unset] [(.ref b2), (.ref b2)])) _
      refine XS.bipush X28.here hx rfl (hb hby at_76) ?_
      show Steps p.tables e below (T28.setTop (mkF m 78 #[.val (.int p0), .val (.int p1), .val (.int p2), .unset, .unset, .unset, .unset] [(.int (13 : Int32)), (.ref b2), (.ref b2)])) _
      refine X28.ldcInt hx hown (mvT hZ (hw _ (List.mem_of_getElem? (i := 8) rfl))) (g := (mkF m 78 #[.val (.int p0), .val (.int p1), .val (.int p2), .unset, .unset, .unset, .unset] [(.int (13 : Int32)), (.ref b2), (.ref b2)])) rfl (hb hby at_78) _ ?_
      show Steps p.tables e below (T28.setTop (mkF m 80 #[.val (.int p0), .val (.int p1), .val (.int p2), .unset, .unset, .unset, .unset] [(.int (65536 : Int32)), (.int (13 : Int32)), (.ref b2), (.ref b2)])) _
      exact kt)
  obtain ⟨c30, Ar30, S30, G30⟩ := id V28
  obtain ⟨T30, h30, X30, e30, W30, st30⟩ := stI X28 hx hZ e28 Ar30 (j := (13 : Int32)) (own_in S30 (by decide) (by decide)) (g := (mkF m 80 #[.val (.int p0), .val (.int p1), .val (.int p2), .unset, .unset, .unset, .unset] [(.int (65536 : Int32)), (.int (13 : Int32)), (.ref b2), (.ref b2)])) rfl rfl (hb hby at_80)
  have V30 := own_set Ar30 S30 G30 W30
  obtain ⟨Ls30, X30, N30⟩ := own_loc X30 (Fr.snoc X30 N28 gb2)
  have go31 : ∀ t, Steps p.tables e below (T30.setTop (mkF m 86 #[.val (.int p0), .val (.int p1), .val (.int p2), .unset, .unset, .unset, .unset] [(.int (1114111 : Int32)), (.int (14 : Int32)), (.ref b2), (.ref b2)])) t → Steps p.tables e below (s₁.setTop (entryFrame m #[(.int p0), (.int p1), (.int p2)] maxLocals)) t := fun t kt => go29 t (by
      refine st30 _ ?_
      show Steps p.tables e below (T30.setTop (mkF m 81 #[.val (.int p0), .val (.int p1), .val (.int p2), .unset, .unset, .unset, .unset] [(.ref b2)])) _
      refine XS.dup X30.here hx rfl (hb hby at_81) rfl rfl ?_
      show Steps p.tables e below (T30.setTop (mkF m 82 #[.val (.int p0), .val (.int p1), .val (.int p2), .unset, .unset, .unset, .unset] [(.ref b2), (.ref b2)])) _
      refine XS.bipush X30.here hx rfl (hb hby at_82) ?_
      show Steps p.tables e below (T30.setTop (mkF m 84 #[.val (.int p0), .val (.int p1), .val (.int p2), .unset, .unset, .unset, .unset] [(.int (14 : Int32)), (.ref b2), (.ref b2)])) _
      refine X30.ldcInt hx hown (mvT hZ (hw _ (List.mem_of_getElem? (i := 9) rfl))) (g := (mkF m 84 #[.val (.int p0), .val (.int p1), .val (.int p2), .unset, .unset, .unset, .unset] [(.int (14 : Int32)), (.ref b2), (.ref b2)])) rfl (hb hby at_84) _ ?_
      show Steps p.tables e below (T30.setTop (mkF m 86 #[.val (.int p0), .val (.int p1), .val (.int p2), .unset, .unset, .unset, .unset] [(.int (1114111 : Int32)), (.int (14 : Int32)), (.ref b2), (.ref b2)])) _
      exact kt)
  obtain ⟨c32, Ar32, S32, G32⟩ := id V30
  obtain ⟨T32, h32, X32, e32, W32, st32⟩ := stI X30 hx hZ e30 Ar32 (j := (14 : Int32)) (own_in S32 (by decide) (by decide)) (g := (mkF m 86 #[.val (.int p0), .val (.int p1), .val (.int p2), .unset, .unset, .unset, .unset] [(.int (1114111 : Int32)), (.int (14 : Int32)), (.ref b2), (.ref b2)])) rfl rfl (hb hby at_86)
  have V32 := own_set Ar32 S32 G32 W32
  obtain ⟨Ls32, X32, N32⟩ := own_loc X32 (Fr.snoc X32 N30 gb2)
  have go33 : ∀ t, Steps p.tables e below (T32.setTop (mkF m 92 #[.val (.int p0), .val (.int p1), .val (.int p2), .unset, .unset, .unset, .unset] [(.int (1114112 : Int32)), (.int (15 : Int32)), (.ref b2), (.ref b2)])) t → Steps p.tables e below (s₁.setTop (entryFrame m #[(.int p0), (.int p1), (.int p2)] maxLocals)) t := fun t kt => go31 t (by
      refine st32 _ ?_
      show Steps p.tables e below (T32.setTop (mkF m 87 #[.val (.int p0), .val (.int p1), .val (.int p2), .unset, .unset, .unset, .unset] [(.ref b2)])) _
      refine XS.dup X32.here hx rfl (hb hby at_87) rfl rfl ?_
      show Steps p.tables e below (T32.setTop (mkF m 88 #[.val (.int p0), .val (.int p1), .val (.int p2), .unset, .unset, .unset, .unset] [(.ref b2), (.ref b2)])) _
      refine XS.bipush X32.here hx rfl (hb hby at_88) ?_
      show Steps p.tables e below (T32.setTop (mkF m 90 #[.val (.int p0), .val (.int p1), .val (.int p2), .unset, .unset, .unset, .unset] [(.int (15 : Int32)), (.ref b2), (.ref b2)])) _
      refine X32.ldcInt hx hown (mvT hZ (hw _ (List.mem_of_getElem? (i := 10) rfl))) (g := (mkF m 90 #[.val (.int p0), .val (.int p1), .val (.int p2), .unset, .unset, .unset, .unset] [(.int (15 : Int32)), (.ref b2), (.ref b2)])) rfl (hb hby at_90) _ ?_
      show Steps p.tables e below (T32.setTop (mkF m 92 #[.val (.int p0), .val (.int p1), .val (.int p2), .unset, .unset, .unset, .unset] [(.int (1114112 : Int32)), (.int (15 : Int32)), (.ref b2), (.ref b2)])) _
      exact kt)
  obtain ⟨c34, Ar34, S34, G34⟩ := id V32
  obtain ⟨T34, h34, X34, e34, W34, st34⟩ := stI X32 hx hZ e32 Ar34 (j := (15 : Int32)) (own_in S34 (by decide) (by decide)) (g := (mkF m 92 #[.val (.int p0), .val (.int p1), .val (.int p2), .unset, .unset, .unset, .unset] [(.int (1114112 : Int32)), (.int (15 : Int32)), (.ref b2), (.ref b2)])) rfl rfl (hb hby at_92)
  have V34 := own_set Ar34 S34 G34 W34
  obtain ⟨Ls34, X34, N34⟩ := own_loc X34 (Fr.snoc X34 N32 gb2)
  have go35 : ∀ t, Steps p.tables e below (T34.setTop (mkF m 98 #[.val (.int p0), .val (.int p1), .val (.int p2), .unset, .unset, .unset, .unset] [(.int (-2147483648 : Int32)), (.int (16 : Int32)), (.ref b2), (.ref b2)])) t → Steps p.tables e below (s₁.setTop (entryFrame m #[(.int p0), (.int p1), (.int p2)] maxLocals)) t := fun t kt => go33 t (by
      refine st34 _ ?_
      show Steps p.tables e below (T34.setTop (mkF m 93 #[.val (.int p0), .val (.int p1), .val (.int p2), .unset, .unset, .unset, .unset] [(.ref b2)])) _
      refine XS.dup X34.here hx rfl (hb hby at_93) rfl rfl ?_
      show Steps p.tables e below (T34.setTop (mkF m 94 #[.val (.int p0), .val (.int p1), .val (.int p2), .unset, .unset, .unset, .unset] [(.ref b2), (.ref b2)])) _
      refine XS.bipush X34.here hx rfl (hb hby at_94) ?_
      show Steps p.tables e below (T34.setTop (mkF m 96 #[.val (.int p0), .val (.int p1), .val (.int p2), .unset, .unset, .unset, .unset] [(.int (16 : Int32)), (.ref b2), (.ref b2)])) _
      refine X34.ldcInt hx hown (mvT hZ (hw _ (List.mem_of_getElem? (i := 11) rfl))) (g := (mkF m 96 #[.val (.int p0), .val (.int p1), .val (.int p2), .unset, .unset, .unset, .unset] [(.int (16 : Int32)), (.ref b2), (.ref b2)])) rfl (hb hby at_96) _ ?_
      show Steps p.tables e below (T34.setTop (mkF m 98 #[.val (.int p0), .val (.int p1), .val (.int p2), .unset, .unset, .unset, .unset] [(.int (-2147483648 : Int32)), (.int (16 : Int32)), (.ref b2), (.ref b2)])) _
      exact kt)
  obtain ⟨c36, Ar36, S36, G36⟩ := id V34
  obtain ⟨T36, h36, X36, e36, W36, st36⟩ := stI X34 hx hZ e34 Ar36 (j := (16 : Int32)) (own_in S36 (by decide) (by decide)) (g := (mkF m 98 #[.val (.int p0), .val (.int p1), .val (.int p2), .unset, .unset, .unset, .unset] [(.int (-2147483648 : Int32)), (.int (16 : Int32)), (.ref b2), (.ref b2)])) rfl rfl (hb hby at_98)
  have V36 := own_set Ar36 S36 G36 W36
  obtain ⟨Ls36, X36, N36⟩ := own_loc X36 (Fr.snoc X36 N34 gb2)
  have go37 : ∀ t, Steps p.tables e below (T36.setTop (mkF m 104 #[.val (.int p0), .val (.int p1), .val (.int p2), .unset, .unset, .unset, .unset] [(.int (2147483647 : Int32)), (.int (17 : Int32)), (.ref b2), (.ref b2)])) t → Steps p.tables e below (s₁.setTop (entryFrame m #[(.int p0), (.int p1), (.int p2)] maxLocals)) t := fun t kt => go35 t (by
      refine st36 _ ?_
      show Steps p.tables e below (T36.setTop (mkF m 99 #[.val (.int p0), .val (.int p1), .val (.int p2), .unset, .unset, .unset, .unset] [(.ref b2)])) _
      refine XS.dup X36.here hx rfl (hb hby at_99) rfl rfl ?_
      show Steps p.tables e below (T36.setTop (mkF m 100 #[.val (.int p0), .val (.int p1), .val (.int p2), .unset, .unset, .unset, .unset] [(.ref b2), (.ref b2)])) _
      refine XS.bipush X36.here hx rfl (hb hby at_100) ?_
      show Steps p.tables e below (T36.setTop (mkF m 102 #[.val (.int p0), .val (.int p1), .val (.int p2), .unset, .unset, .unset, .unset] [(.int (17 : Int32)), (.ref b2), (.ref b2)])) _
      refine X36.ldcInt hx hown (mvT hZ (hw _ (List.mem_of_getElem? (i := 12) rfl))) (g := (mkF m 102 #[.val (.int p0), .val (.int p1), .val (.int p2), .unset, .unset, .unset, .unset] [(.int (17 : Int32)), (.ref b2), (.ref b2)])) rfl (hb hby at_102) _ ?_
      show Steps p.tables e below (T36.setTop (mkF m 104 #[.val (.int p0), .val (.int p1), .val (.int p2), .unset, .unset, .unset, .unset] [(.int (2147483647 : Int32)), (.int (17 : Int32)), (.ref b2), (.ref b2)])) _
      exact kt)
  obtain ⟨c38, Ar38, S38, G38⟩ := id V36
  obtain ⟨T38, h38, X38, e38, W38, st38⟩ := stI X36 hx hZ e36 Ar38 (j := (17 : Int32)) (own_in S38 (by decide) (by decide)) (g := (mkF m 104 #[.val (.int p0), .val (.int p1), .val (.int p2), .unset, .unset, .unset, .unset] [(.int (2147483647 : Int32)), (.int (17 : Int32)), (.ref b2), (.ref b2)])) rfl rfl (hb hby at_104)
  have V38 := own_set Ar38 S38 G38 W38
  obtain ⟨Ls38, X38, N38⟩ := own_loc X38 (Fr.snoc X38 N36 gb2)
  have go39 : ∀ t, Steps p.tables e below (T38.setTop (mkF m 126 #[.val (.int p0), .val (.int p1), .val (.int p2), .val (.ref b2), .val (.int ((p1 &&& (2147483647 : Int32)) % (18 : Int32))), .val (.int ((p2 &&& (7 : Int32)) - (3 : Int32))), .unset] [(.int ((p1 &&& (2147483647 : Int32)) % (18 : Int32))), (.ref b2)])) t → Steps p.tables e below (s₁.setTop (entryFrame m #[(.int p0), (.int p1), (.int p2)] maxLocals)) t := fun t kt => go37 t (by
      refine st38 _ ?_
      show Steps p.tables e below (T38.setTop (mkF m 105 #[.val (.int p0), .val (.int p1), .val (.int p2), .unset, .unset, .unset, .unset] [(.ref b2)])) _
      refine XS.astoreN X38.here hx rfl (hb hby at_105) rfl rfl (l' := #[.val (.int p0), .val (.int p1), .val (.int p2), .val (.ref b2), .unset, .unset, .unset]) rfl ?_
      show Steps p.tables e below (T38.setTop (mkF m 106 #[.val (.int p0), .val (.int p1), .val (.int p2), .val (.ref b2), .unset, .unset, .unset] [])) _
      refine XS.iloadN X38.here hx rfl (hb hby at_106) rfl ?_
      show Steps p.tables e below (T38.setTop (mkF m 107 #[.val (.int p0), .val (.int p1), .val (.int p2), .val (.ref b2), .unset, .unset, .unset] [(.int p1)])) _
      refine X38.ldcInt hx hown (mvT hZ (hw _ (List.mem_of_getElem? (i := 12) rfl))) (g := (mkF m 107 #[.val (.int p0), .val (.int p1), .val (.int p2), .val (.ref b2), .unset, .unset, .unset] [(.int p1)])) rfl (hb hby at_107) _ ?_
      show Steps p.tables e below (T38.setTop (mkF m 109 #[.val (.int p0), .val (.int p1), .val (.int p2), .val (.ref b2), .unset, .unset, .unset] [(.int (2147483647 : Int32)), (.int p1)])) _
      refine XS.iand X38.here hx rfl (hb hby at_109) rfl ?_
      show Steps p.tables e below (T38.setTop (mkF m 110 #[.val (.int p0), .val (.int p1), .val (.int p2), .val (.ref b2), .unset, .unset, .unset] [(.int (p1 &&& (2147483647 : Int32)))])) _
      refine XS.bipush X38.here hx rfl (hb hby at_110) ?_
      show Steps p.tables e below (T38.setTop (mkF m 112 #[.val (.int p0), .val (.int p1), .val (.int p2), .val (.ref b2), .unset, .unset, .unset] [(.int (18 : Int32)), (.int (p1 &&& (2147483647 : Int32)))])) _
      refine iremM X38 hx rfl (hb hby at_112) rfl (by decide) ?_
      show Steps p.tables e below (T38.setTop (mkF m 113 #[.val (.int p0), .val (.int p1), .val (.int p2), .val (.ref b2), .unset, .unset, .unset] [(.int ((p1 &&& (2147483647 : Int32)) % (18 : Int32)))])) _
      refine XS.istore X38.here hx rfl (hb hby at_113) rfl (l' := #[.val (.int p0), .val (.int p1), .val (.int p2), .val (.ref b2), .val (.int ((p1 &&& (2147483647 : Int32)) % (18 : Int32))), .unset, .unset]) rfl ?_
      show Steps p.tables e below (T38.setTop (mkF m 115 #[.val (.int p0), .val (.int p1), .val (.int p2), .val (.ref b2), .val (.int ((p1 &&& (2147483647 : Int32)) % (18 : Int32))), .unset, .unset] [])) _
      refine XS.iloadN X38.here hx rfl (hb hby at_115) rfl ?_
      show Steps p.tables e below (T38.setTop (mkF m 116 #[.val (.int p0), .val (.int p1), .val (.int p2), .val (.ref b2), .val (.int ((p1 &&& (2147483647 : Int32)) % (18 : Int32))), .unset, .unset] [(.int p2)])) _
      refine XS.bipush X38.here hx rfl (hb hby at_116) ?_
      show Steps p.tables e below (T38.setTop (mkF m 118 #[.val (.int p0), .val (.int p1), .val (.int p2), .val (.ref b2), .val (.int ((p1 &&& (2147483647 : Int32)) % (18 : Int32))), .unset, .unset] [(.int (7 : Int32)), (.int p2)])) _
      refine XS.iand X38.here hx rfl (hb hby at_118) rfl ?_
      show Steps p.tables e below (T38.setTop (mkF m 119 #[.val (.int p0), .val (.int p1), .val (.int p2), .val (.ref b2), .val (.int ((p1 &&& (2147483647 : Int32)) % (18 : Int32))), .unset, .unset] [(.int (p2 &&& (7 : Int32)))])) _
      refine XS.iconst X38.here hx rfl (hb hby at_119) ?_
      show Steps p.tables e below (T38.setTop (mkF m 120 #[.val (.int p0), .val (.int p1), .val (.int p2), .val (.ref b2), .val (.int ((p1 &&& (2147483647 : Int32)) % (18 : Int32))), .unset, .unset] [(.int (3 : Int32)), (.int (p2 &&& (7 : Int32)))])) _
      refine XS.isub X38.here hx rfl (hb hby at_120) rfl ?_
      show Steps p.tables e below (T38.setTop (mkF m 121 #[.val (.int p0), .val (.int p1), .val (.int p2), .val (.ref b2), .val (.int ((p1 &&& (2147483647 : Int32)) % (18 : Int32))), .unset, .unset] [(.int ((p2 &&& (7 : Int32)) - (3 : Int32)))])) _
      refine XS.istore X38.here hx rfl (hb hby at_121) rfl (l' := #[.val (.int p0), .val (.int p1), .val (.int p2), .val (.ref b2), .val (.int ((p1 &&& (2147483647 : Int32)) % (18 : Int32))), .val (.int ((p2 &&& (7 : Int32)) - (3 : Int32))), .unset]) rfl ?_
      show Steps p.tables e below (T38.setTop (mkF m 123 #[.val (.int p0), .val (.int p1), .val (.int p2), .val (.ref b2), .val (.int ((p1 &&& (2147483647 : Int32)) % (18 : Int32))), .val (.int ((p2 &&& (7 : Int32)) - (3 : Int32))), .unset] [])) _
      refine XS.aloadN X38.here hx rfl (hb hby at_123) rfl rfl ?_
      show Steps p.tables e below (T38.setTop (mkF m 124 #[.val (.int p0), .val (.int p1), .val (.int p2), .val (.ref b2), .val (.int ((p1 &&& (2147483647 : Int32)) % (18 : Int32))), .val (.int ((p2 &&& (7 : Int32)) - (3 : Int32))), .unset] [(.ref b2)])) _
      refine XS.iload X38.here hx rfl (hb hby at_124) rfl ?_
      show Steps p.tables e below (T38.setTop (mkF m 126 #[.val (.int p0), .val (.int p1), .val (.int p2), .val (.ref b2), .val (.int ((p1 &&& (2147483647 : Int32)) % (18 : Int32))), .val (.int ((p2 &&& (7 : Int32)) - (3 : Int32))), .unset] [(.int ((p1 &&& (2147483647 : Int32)) % (18 : Int32))), (.ref b2)])) _
      exact kt)
  obtain ⟨c40, Ar40, S40, G40⟩ := id V38
  obtain ⟨i40, hi40⟩ := G40 _ (own_idx p1).2
  have go41 : ∀ t, Steps p.tables e below (T38.setTop (mkF m 133 #[.val (.int p0), .val (.int p1), .val (.int p2), .val (.ref b2), .val (.int ((p1 &&& (2147483647 : Int32)) % (18 : Int32))), .val (.int ((p2 &&& (7 : Int32)) - (3 : Int32))), .val (.int (i40 + ((p2 &&& (7 : Int32)) - (3 : Int32))))] [(.int p0)])) t → Steps p.tables e below (s₁.setTop (entryFrame m #[(.int p0), (.int p1), (.int p2)] maxLocals)) t := fun t kt => go39 t (by
      refine X38.iaload hx (j := ((p1 &&& (2147483647 : Int32)) % (18 : Int32))) (v := (.int i40)) (by rw [e38]; exact Ar40.1) (State.isArrayOf_alike hZ.alike Ar40.2.1) Ar40.2.2 (own_in S40 (own_idx p1).1 (own_idx p1).2) hi40 (g := (mkF m 126 #[.val (.int p0), .val (.int p1), .val (.int p2), .val (.ref b2), .val (.int ((p1 &&& (2147483647 : Int32)) % (18 : Int32))), .val (.int ((p2 &&& (7 : Int32)) - (3 : Int32))), .unset] [(.int ((p1 &&& (2147483647 : Int32)) % (18 : Int32))), (.ref b2)])) rfl rfl (hb hby at_126) _ ?_
      show Steps p.tables e below (T38.setTop (mkF m 127 #[.val (.int p0), .val (.int p1), .val (.int p2), .val (.ref b2), .val (.int ((p1 &&& (2147483647 : Int32)) % (18 : Int32))), .val (.int ((p2 &&& (7 : Int32)) - (3 : Int32))), .unset] [(.int i40)])) _
      refine XS.iload X38.here hx rfl (hb hby at_127) rfl ?_
      show Steps p.tables e below (T38.setTop (mkF m 129 #[.val (.int p0), .val (.int p1), .val (.int p2), .val (.ref b2), .val (.int ((p1 &&& (2147483647 : Int32)) % (18 : Int32))), .val (.int ((p2 &&& (7 : Int32)) - (3 : Int32))), .unset] [(.int ((p2 &&& (7 : Int32)) - (3 : Int32))), (.int i40)])) _
      refine XS.iadd X38.here hx rfl (hb hby at_129) rfl ?_
      show Steps p.tables e below (T38.setTop (mkF m 130 #[.val (.int p0), .val (.int p1), .val (.int p2), .val (.ref b2), .val (.int ((p1 &&& (2147483647 : Int32)) % (18 : Int32))), .val (.int ((p2 &&& (7 : Int32)) - (3 : Int32))), .unset] [(.int (i40 + ((p2 &&& (7 : Int32)) - (3 : Int32))))])) _
      refine XS.istore X38.here hx rfl (hb hby at_130) rfl (l' := #[.val (.int p0), .val (.int p1), .val (.int p2), .val (.ref b2), .val (.int ((p1 &&& (2147483647 : Int32)) % (18 : Int32))), .val (.int ((p2 &&& (7 : Int32)) - (3 : Int32))), .val (.int (i40 + ((p2 &&& (7 : Int32)) - (3 : Int32))))]) rfl ?_
      show Steps p.tables e below (T38.setTop (mkF m 132 #[.val (.int p0), .val (.int p1), .val (.int p2), .val (.ref b2), .val (.int ((p1 &&& (2147483647 : Int32)) % (18 : Int32))), .val (.int ((p2 &&& (7 : Int32)) - (3 : Int32))), .val (.int (i40 + ((p2 &&& (7 : Int32)) - (3 : Int32))))] [])) _
      refine XS.iloadN X38.here hx rfl (hb hby at_132) rfl ?_
      show Steps p.tables e below (T38.setTop (mkF m 133 #[.val (.int p0), .val (.int p1), .val (.int p2), .val (.ref b2), .val (.int ((p1 &&& (2147483647 : Int32)) % (18 : Int32))), .val (.int ((p2 &&& (7 : Int32)) - (3 : Int32))), .val (.int (i40 + ((p2 &&& (7 : Int32)) - (3 : Int32))))] [(.int p0)])) _
      exact kt)
  obtain ⟨_, _, ⟨T42, L42, k42, n42⟩, -, X42, ⟨Lc42, hQ42, l42, y42, z42⟩, st42⟩ := Jvm.LawKit.callS X38 hx (y := (⟨"com/example/winding_path/windingpath/XmlChars", "isChar", "(I)Z"⟩ : MethodName)) hown (mvT hZ (hw _ (List.mem_of_getElem? (i := 13) rfl))) (mvT hZ (hw _ (List.mem_of_getElem? (i := 14) rfl))) (mvT hZ (hw _ (List.mem_of_getElem? (i := 15) rfl))) (mvT hZ (hw _ (List.mem_of_getElem? (i := 16) rfl))) (by decide) (backOf (W := 0) (rm1 l Z a0 hw [] p0 h38 n0) hZ (hw _ (List.mem_of_getElem? (i := 16) rfl)) (hw _ (List.mem_of_getElem? (i := 15) rfl)) (by decide) (by decide)) (g := (mkF m 133 #[.val (.int p0), .val (.int p1), .val (.int p2), .val (.ref b2), .val (.int ((p1 &&& (2147483647 : Int32)) % (18 : Int32))), .val (.int ((p2 &&& (7 : Int32)) - (3 : Int32))), .val (.int (i40 + ((p2 &&& (7 : Int32)) - (3 : Int32))))] [(.int p0)])) rfl (by rw [hml]; rfl) (argsL := [(.int p0)]) (rest := []) (lenOf pd_0 rfl) rfl (by show 2 * 0 + _ ≤ _; exact Nat.le_of_eq rfl) (hb hby at_133) (fun _ _ => ⟨rfl, e38, (by decide : 1 + 0 ≤ _), (by decide : 18 + 0 ≤ _)⟩)
  dsimp only [Pt.U, Pt.locs, Pt.cells, Pt.slots] at X42 l42 y42 z42 st42 hQ42
  subst y42 z42
  obtain ⟨rfl, N42q, e42⟩ := hQ42
  have N42 := Fr.app N38 N42q
  rw [← l42] at N42
  have go43 : ∀ t, Steps p.tables e below (T42.setTop (mkF m 137 #[.val (.int p0), .val (.int p1), .val (.int p2), .val (.ref b2), .val (.int ((p1 &&& (2147483647 : Int32)) % (18 : Int32))), .val (.int ((p2 &&& (7 : Int32)) - (3 : Int32))), .val (.int (i40 + ((p2 &&& (7 : Int32)) - (3 : Int32))))] [(.int p0), (.int (own_isc p0))])) t → Steps p.tables e below (s₁.setTop (entryFrame m #[(.int p0), (.int p1), (.int p2)] maxLocals)) t := fun t kt => go41 t (by
      refine st42 _ ?_
      show Steps p.tables e below (T42.setTop (mkF m 136 #[.val (.int p0), .val (.int p1), .val (.int p2), .val (.ref b2), .val (.int ((p1 &&& (2147483647 : Int32)) % (18 : Int32))), .val (.int ((p2 &&& (7 : Int32)) - (3 : Int32))), .val (.int (i40 + ((p2 &&& (7 : Int32)) - (3 : Int32))))] [(.int (own_isc p0))])) _
      refine XS.iloadN X42.here hx rfl (hb hby at_136) rfl ?_
      show Steps p.tables e below (T42.setTop (mkF m 137 #[.val (.int p0), .val (.int p1), .val (.int p2), .val (.ref b2), .val (.int ((p1 &&& (2147483647 : Int32)) % (18 : Int32))), .val (.int ((p2 &&& (7 : Int32)) - (3 : Int32))), .val (.int (i40 + ((p2 &&& (7 : Int32)) - (3 : Int32))))] [(.int p0), (.int (own_isc p0))])) _
      exact kt)
  obtain ⟨_, _, ⟨T44, L44, k44, n44⟩, -, X44, ⟨Lc44, hQ44, l44, y44, z44⟩, st44⟩ := Jvm.LawKit.callS X42 hx (y := (⟨"com/example/winding_path/windingpath/XmlCharsIsCharPinLaw", "ref", "(I)Z"⟩ : MethodName)) hown (mvT hZ (hw _ (List.mem_of_getElem? (i := 19) rfl))) (mvT hZ (hw _ (List.mem_of_getElem? (i := 20) rfl))) (mvT hZ (hw _ (List.mem_of_getElem? (i := 21) rfl))) (mvT hZ (hw _ (List.mem_of_getElem? (i := 22) rfl))) (by decide) (backOf (W := 1) (rm2 l Z a0 hw [] p0 h38 n0) hZ (hw _ (List.mem_of_getElem? (i := 22) rfl)) (hw _ (List.mem_of_getElem? (i := 21) rfl)) (by decide) (by decide)) (g := (mkF m 137 #[.val (.int p0), .val (.int p1), .val (.int p2), .val (.ref b2), .val (.int ((p1 &&& (2147483647 : Int32)) % (18 : Int32))), .val (.int ((p2 &&& (7 : Int32)) - (3 : Int32))), .val (.int (i40 + ((p2 &&& (7 : Int32)) - (3 : Int32))))] [(.int p0), (.int (own_isc p0))])) rfl (by rw [hml]; rfl) (argsL := [(.int p0)]) (rest := [(.int (own_isc p0))]) (lenOf pd_0 rfl) rfl (by show 2 * 0 + _ ≤ _; exact Nat.le_of_eq rfl) (hb hby at_137) (fun _ _ => ⟨rfl, e42, (by decide : 1 + 0 ≤ _), (by decide : 18 + 0 ≤ _)⟩)
  dsimp only [Pt.U, Pt.locs, Pt.cells, Pt.slots] at X44 l44 y44 z44 st44 hQ44
  subst y44 z44
  obtain ⟨rfl, N44q, e44⟩ := hQ44
  have N44 := Fr.app N42 N44q
  rw [← l44] at N44
  have hc140_45 : (own_isc p0) = (own_ref p0) := own_same _
  have go46 : ∀ t, Steps p.tables e below (T44.setTop (mkF m 145 #[.val (.int p0), .val (.int p1), .val (.int p2), .val (.ref b2), .val (.int ((p1 &&& (2147483647 : Int32)) % (18 : Int32))), .val (.int ((p2 &&& (7 : Int32)) - (3 : Int32))), .val (.int (i40 + ((p2 &&& (7 : Int32)) - (3 : Int32))))] [(.int (i40 + ((p2 &&& (7 : Int32)) - (3 : Int32))))])) t → Steps p.tables e below (s₁.setTop (entryFrame m #[(.int p0), (.int p1), (.int p2)] maxLocals)) t := fun t kt => go43 t (by
      refine st44 _ ?_
      show Steps p.tables e below (T44.setTop (mkF m 140 #[.val (.int p0), .val (.int p1), .val (.int p2), .val (.ref b2), .val (.int ((p1 &&& (2147483647 : Int32)) % (18 : Int32))), .val (.int ((p2 &&& (7 : Int32)) - (3 : Int32))), .val (.int (i40 + ((p2 &&& (7 : Int32)) - (3 : Int32))))] [(.int (own_ref p0)), (.int (own_isc p0))])) _
      refine XS.icmpNo X44.here hx rfl (hb hby at_140) rfl (teq hc140_45).2 ?_
      show Steps p.tables e below (T44.setTop (mkF m 143 #[.val (.int p0), .val (.int p1), .val (.int p2), .val (.ref b2), .val (.int ((p1 &&& (2147483647 : Int32)) % (18 : Int32))), .val (.int ((p2 &&& (7 : Int32)) - (3 : Int32))), .val (.int (i40 + ((p2 &&& (7 : Int32)) - (3 : Int32))))] [])) _
      refine XS.iload X44.here hx rfl (hb hby at_143) rfl ?_
      show Steps p.tables e below (T44.setTop (mkF m 145 #[.val (.int p0), .val (.int p1), .val (.int p2), .val (.ref b2), .val (.int ((p1 &&& (2147483647 : Int32)) % (18 : Int32))), .val (.int ((p2 &&& (7 : Int32)) - (3 : Int32))), .val (.int (i40 + ((p2 &&& (7 : Int32)) - (3 : Int32))))] [(.int (i40 + ((p2 &&& (7 : Int32)) - (3 : Int32))))])) _
      exact kt)
  obtain ⟨_, _, ⟨T47, L47, k47, n47⟩, -, X47, ⟨Lc47, hQ47, l47, y47, z47⟩, st47⟩ := Jvm.LawKit.callS X44 hx (y := (⟨"com/example/winding_path/windingpath/XmlChars", "isChar", "(I)Z"⟩ : MethodName)) hown (mvT hZ (hw _ (List.mem_of_getElem? (i := 13) rfl))) (mvT hZ (hw _ (List.mem_of_getElem? (i := 14) rfl))) (mvT hZ (hw _ (List.mem_of_getElem? (i := 15) rfl))) (mvT hZ (hw _ (List.mem_of_getElem? (i := 16) rfl))) (by decide) (backOf (W := 0) (rm1 l Z a0 hw [] (i40 + ((p2 &&& (7 : Int32)) - (3 : Int32))) h38 n0) hZ (hw _ (List.mem_of_getElem? (i := 16) rfl)) (hw _ (List.mem_of_getElem? (i := 15) rfl)) (by decide) (by decide)) (g := (mkF m 145 #[.val (.int p0), .val (.int p1), .val (.int p2), .val (.ref b2), .val (.int ((p1 &&& (2147483647 : Int32)) % (18 : Int32))), .val (.int ((p2 &&& (7 : Int32)) - (3 : Int32))), .val (.int (i40 + ((p2 &&& (7 : Int32)) - (3 : Int32))))] [(.int (i40 + ((p2 &&& (7 : Int32)) - (3 : Int32))))])) rfl (by rw [hml]; rfl) (argsL := [(.int (i40 + ((p2 &&& (7 : Int32)) - (3 : Int32))))]) (rest := []) (lenOf pd_0 rfl) rfl (by show 2 * 0 + _ ≤ _; exact Nat.le_of_eq rfl) (hb hby at_145) (fun _ _ => ⟨rfl, e44, (by decide : 1 + 0 ≤ _), (by decide : 18 + 0 ≤ _)⟩)
  dsimp only [Pt.U, Pt.locs, Pt.cells, Pt.slots] at X47 l47 y47 z47 st47 hQ47
  subst y47 z47
  obtain ⟨rfl, N47q, e47⟩ := hQ47
  have N47 := Fr.app N44 N47q
  rw [← l47] at N47
  have go48 : ∀ t, Steps p.tables e below (T47.setTop (mkF m 150 #[.val (.int p0), .val (.int p1), .val (.int p2), .val (.ref b2), .val (.int ((p1 &&& (2147483647 : Int32)) % (18 : Int32))), .val (.int ((p2 &&& (7 : Int32)) - (3 : Int32))), .val (.int (i40 + ((p2 &&& (7 : Int32)) - (3 : Int32))))] [(.int (i40 + ((p2 &&& (7 : Int32)) - (3 : Int32)))), (.int (own_isc (i40 + ((p2 &&& (7 : Int32)) - (3 : Int32)))))])) t → Steps p.tables e below (s₁.setTop (entryFrame m #[(.int p0), (.int p1), (.int p2)] maxLocals)) t := fun t kt => go46 t (by
      refine st47 _ ?_
      show Steps p.tables e below (T47.setTop (mkF m 148 #[.val (.int p0), .val (.int p1), .val (.int p2), .val (.ref b2), .val (.int ((p1 &&& (2147483647 : Int32)) % (18 : Int32))), .val (.int ((p2 &&& (7 : Int32)) - (3 : Int32))), .val (.int (i40 + ((p2 &&& (7 : Int32)) - (3 : Int32))))] [(.int (own_isc (i40 + ((p2 &&& (7 : Int32)) - (3 : Int32)))))])) _
      refine XS.iload X47.here hx rfl (hb hby at_148) rfl ?_
      show Steps p.tables e below (T47.setTop (mkF m 150 #[.val (.int p0), .val (.int p1), .val (.int p2), .val (.ref b2), .val (.int ((p1 &&& (2147483647 : Int32)) % (18 : Int32))), .val (.int ((p2 &&& (7 : Int32)) - (3 : Int32))), .val (.int (i40 + ((p2 &&& (7 : Int32)) - (3 : Int32))))] [(.int (i40 + ((p2 &&& (7 : Int32)) - (3 : Int32)))), (.int (own_isc (i40 + ((p2 &&& (7 : Int32)) - (3 : Int32)))))])) _
      exact kt)
  obtain ⟨_, _, ⟨T49, L49, k49, n49⟩, -, X49, ⟨Lc49, hQ49, l49, y49, z49⟩, st49⟩ := Jvm.LawKit.callS X47 hx (y := (⟨"com/example/winding_path/windingpath/XmlCharsIsCharPinLaw", "ref", "(I)Z"⟩ : MethodName)) hown (mvT hZ (hw _ (List.mem_of_getElem? (i := 19) rfl))) (mvT hZ (hw _ (List.mem_of_getElem? (i := 20) rfl))) (mvT hZ (hw _ (List.mem_of_getElem? (i := 21) rfl))) (mvT hZ (hw _ (List.mem_of_getElem? (i := 22) rfl))) (by decide) (backOf (W := 1) (rm2 l Z a0 hw [] (i40 + ((p2 &&& (7 : Int32)) - (3 : Int32))) h38 n0) hZ (hw _ (List.mem_of_getElem? (i := 22) rfl)) (hw _ (List.mem_of_getElem? (i := 21) rfl)) (by decide) (by decide)) (g := (mkF m 150 #[.val (.int p0), .val (.int p1), .val (.int p2), .val (.ref b2), .val (.int ((p1 &&& (2147483647 : Int32)) % (18 : Int32))), .val (.int ((p2 &&& (7 : Int32)) - (3 : Int32))), .val (.int (i40 + ((p2 &&& (7 : Int32)) - (3 : Int32))))] [(.int (i40 + ((p2 &&& (7 : Int32)) - (3 : Int32)))), (.int (own_isc (i40 + ((p2 &&& (7 : Int32)) - (3 : Int32)))))])) rfl (by rw [hml]; rfl) (argsL := [(.int (i40 + ((p2 &&& (7 : Int32)) - (3 : Int32))))]) (rest := [(.int (own_isc (i40 + ((p2 &&& (7 : Int32)) - (3 : Int32)))))]) (lenOf pd_0 rfl) rfl (by show 2 * 0 + _ ≤ _; exact Nat.le_of_eq rfl) (hb hby at_150) (fun _ _ => ⟨rfl, e47, (by decide : 1 + 0 ≤ _), (by decide : 18 + 0 ≤ _)⟩)
  dsimp only [Pt.U, Pt.locs, Pt.cells, Pt.slots] at X49 l49 y49 z49 st49 hQ49
  subst y49 z49
  obtain ⟨rfl, N49q, e49⟩ := hQ49
  have N49 := Fr.app N47 N49q
  rw [← l49] at N49
  have hc153_50 : (own_isc (i40 + ((p2 &&& (7 : Int32)) - (3 : Int32)))) = (own_ref (i40 + ((p2 &&& (7 : Int32)) - (3 : Int32)))) := own_same _
  have go51 : ∀ t, Steps p.tables e below (T49.setTop (mkF m 161 #[.val (.int p0), .val (.int p1), .val (.int p2), .val (.ref b2), .val (.int ((p1 &&& (2147483647 : Int32)) % (18 : Int32))), .val (.int ((p2 &&& (7 : Int32)) - (3 : Int32))), .val (.int (i40 + ((p2 &&& (7 : Int32)) - (3 : Int32))))] [(.int (1 : Int32))])) t → Steps p.tables e below (s₁.setTop (entryFrame m #[(.int p0), (.int p1), (.int p2)] maxLocals)) t := fun t kt => go48 t (by
      refine st49 _ ?_
      show Steps p.tables e below (T49.setTop (mkF m 153 #[.val (.int p0), .val (.int p1), .val (.int p2), .val (.ref b2), .val (.int ((p1 &&& (2147483647 : Int32)) % (18 : Int32))), .val (.int ((p2 &&& (7 : Int32)) - (3 : Int32))), .val (.int (i40 + ((p2 &&& (7 : Int32)) - (3 : Int32))))] [(.int (own_ref (i40 + ((p2 &&& (7 : Int32)) - (3 : Int32))))), (.int (own_isc (i40 + ((p2 &&& (7 : Int32)) - (3 : Int32)))))])) _
      refine XS.icmpNo X49.here hx rfl (hb hby at_153) rfl (teq hc153_50).2 ?_
      show Steps p.tables e below (T49.setTop (mkF m 156 #[.val (.int p0), .val (.int p1), .val (.int p2), .val (.ref b2), .val (.int ((p1 &&& (2147483647 : Int32)) % (18 : Int32))), .val (.int ((p2 &&& (7 : Int32)) - (3 : Int32))), .val (.int (i40 + ((p2 &&& (7 : Int32)) - (3 : Int32))))] [])) _
      refine XS.iconst X49.here hx rfl (hb hby at_156) ?_
      show Steps p.tables e below (T49.setTop (mkF m 157 #[.val (.int p0), .val (.int p1), .val (.int p2), .val (.ref b2), .val (.int ((p1 &&& (2147483647 : Int32)) % (18 : Int32))), .val (.int ((p2 &&& (7 : Int32)) - (3 : Int32))), .val (.int (i40 + ((p2 &&& (7 : Int32)) - (3 : Int32))))] [(.int (1 : Int32))])) _
      refine XS.goto X49.here hx rfl (pc0 := 157) (pc' := 161) rfl (hb hby at_157) (by decide) (by decide) ?_
      show Steps p.tables e below (T49.setTop (mkF m 161 #[.val (.int p0), .val (.int p1), .val (.int p2), .val (.ref b2), .val (.int ((p1 &&& (2147483647 : Int32)) % (18 : Int32))), .val (.int ((p2 &&& (7 : Int32)) - (3 : Int32))), .val (.int (i40 + ((p2 &&& (7 : Int32)) - (3 : Int32))))] [(.int (1 : Int32))])) _
      exact kt)
  obtain ⟨fs, hr, hrun, hended, hW, hsame⟩ := X49.leave (v := some (.int (1 : Int32))) (fun h => by rw [Bd.returns] at h; cases h)
  refine ⟨_, _, go51 _ (retN X49 hx (t := .boolean) Bd.returns (by simp) (hb hby at_161) hr), hrun, hended, _, _, rfl, ?_, ⟨_, rfl⟩, hW, hsame.mono (by decide) (by decide)⟩
  exact ⟨rfl, N49⟩
set_option maxRecDepth 65536 in
set_option maxHeartbeats 40000000 in
theorem comes_1 {Post : Tables → Env → Array Value → State → Outcome → State → Prop} (hpost : ∀ tb e args s v u, (limb_1_1.after args s (.returned v) u = true ∧ limb_1_2.after args s (.returned v) u = true ∧ True) → FrameEnd s (.returned v) u (Jvm.fieldLocs frame_1_writes args s ++ Jvm.arrayLocs frame_1_arrays args s ++ Jvm.staticLocs frame_1_statics s) 16 128 → Post tb e args s (.returned v) u) :
    ArmFor flags0 classFile x code maxLocals ret World_1 tables_1 room_1 Calls_1 rest_1 Pre_1 Post := by
  intro l hfl _ _ p e ha hc hk s m args below hf hA hF happ hP
  obtain ⟨hcalls, hrest, hpre⟩ := hP
  obtain ⟨-, -, -, hnamed, -, -, -, hat⟩ := (Spec.applies_iff hf).mp happ
  obtain ⟨hg, hn⟩ := and_e (Cond.before_iff.mp (show (Jvm.Cond.and given_1 narrow_1).before args s = true from hpre))
  obtain ⟨g1, g2⟩ := and_e hg
  obtain ⟨g3, g4⟩ := and_e g2
  obtain ⟨g5, g6⟩ := and_e g4
  obtain ⟨w0, w1, w2, rfl⟩ : ∃ w0 w1 w2 : Value, args = #[w0, w1, w2] := by
    have hs : args.size = 3 := by simpa [Cond.value, given_1] using g1
    obtain ⟨L⟩ := args
    match L, hs with
    | [w0, w1, w2], _ => exact ⟨w0, w1, w2, rfl⟩
  have hw := fun d (hd : d ∈ tables_1) => atoms_spec (ws := Jvm.Cond.code x code maxLocals ret :: tables_1) hat d (List.mem_cons_of_mem _ hd)
  have hfit : Fit s := fun {y c} hc i hi => by
    obtain ⟨ha, rfl⟩ := Array.getElem?_eq_some_iff.mp hc
    have q := List.all_eq_true.mp ((Array.all_eq_true_iff_forall_mem.mp hF) _ (Array.getElem_mem ha)) i (List.mem_range.mpr hi)
    simpa [Array.getElem?_eq_getElem hi] using q
  obtain ⟨i0, ei0⟩ := is_v g3
  obtain rfl : w0 = (.int i0) := Option.some.inj ei0
  obtain ⟨i1, ei1⟩ := is_v g5
  obtain rfl : w1 = (.int i1) := Option.some.inj ei1
  obtain ⟨i2, ei2⟩ := is_v g6
  obtain rfl : w2 = (.int i2) := Option.some.inj ei2
  obtain ⟨n, o, h1, h2, h3, v, L, rfl, ⟨hv, N⟩, hq⟩ := rm0 l s _ hw tables_1 i0 i1 i2  s.heap s.heap.size (Nat.le_refl _) p e ha hc hk s m _ below hf ((Spec.applies_iff_loose hf).mp happ).1 ⟨rfl, State.Warmed39.refl s, rfl⟩ trivial
  obtain rfl : v = some (.int 1) := hv
  refine ⟨n, _, h1, h2, h3, hpost _ _ _ _ _ _ ⟨Cond.after_iff.mpr rfl, Cond.after_iff.mpr (eq_i res_at (Term.int_eval (1)) rfl), trivial⟩ ⟨hq.1, hq.2.1, (hq.2.2.sift fun y hy => Or.inr (N y hy)).mono (by decide) (by decide)⟩⟩
theorem main_1_1 : Claimed_1_1 := comes_1 fun _ _ _ _ _ _ h hF => ⟨h.1, hF⟩
theorem main_1_2 : Claimed_1_2 := comes_1 fun _ _ _ _ _ _ h hF => ⟨h.2.1, hF⟩
end Jvm.Pilot.@@N@@
namespace Jvm.Pilot.@@N@@
open Jvm Jvm.ClassFile Sem Op Lib Jvm.Free Jvm.Stand Jvm.Pilot.@@N@@.Jvm.D
/-! MADE BY PROGRAM (witnessworld.py) out of the Statement's table words and the real class files: 9 classes; the members and pool entries that the words name. The judged class is class 1, her method 2. -/
namespace start1
open Jvm.ClassFile
def u (s : String) : CpInfo := .utf8 (stringToUtf16 s)
/-- a pool by its gaps: so many unusable entries, then the entry; so many at the end -/
def gap : Nat → List CpInfo → List CpInfo
  | 0, r => r
  | n + 1, r => .unusable :: gap n r
def poolList (es : List (Nat × CpInfo)) (last : Nat) : List CpInfo := es.foldr (fun e r => gap e.1 (e.2 :: r)) (gap last [])
def pool (es : List (Nat × CpInfo)) (last : Nat) : Array CpInfo := ⟨poolList es last⟩
def fileOf (pool : Array CpInfo) (this : Nat) (attrs : Array Attribute := #[]) (ms : Array MethodInfo := #[]) (fl : Nat := 33) (sup : Nat := 0) (ifs : Array Nat := #[]) (fds : Array FieldInfo := #[]) : ClassFile where
  minorVersion := 0
  majorVersion := 65
  constantPool := pool
  accessFlags := fl
  thisClass := this
  superClass := sup
  interfaces := ifs
  fields := fds
  methods := ms
  attributes := attrs
def plain (name : String) (sup : Option ClassId) : Class where
  name := name
  kind := .ordinary
  loader := none
  accessFlags := 33
  super := sup
  interfaces := #[]
  cf := none
  fields := #[]
  methods := #[]
  instanceTypes := #[]
  staticTypes := #[]
  resolved := #[]
  callSites := []
  init := .initialized
  statics := none
  mirror := none

def pool0 : Array CpInfo := pool [(5, u "<init>"), (0, u "()V"), (1, .class_ 10), (1, u "java/lang/Object")] 113

def k0m0 : Method := { name := "<init>", desc := "()V", sig := { parameters := [], returnType := none }, accessFlags := 1, code := none }
/-- java/lang/Object -/
def k0 : Class := { plain "java/lang/Object" none with
  accessFlags := 33
  interfaces := #[]
  cf := some (fileOf pool0 8 #[] #[{ accessFlags := 1, nameIndex := 5, descriptorIndex := 6, attributes := #[] }] 33 0 #[] #[])
  fields := #[]
  methods := #[k0m0]
  instanceTypes := #[]
  staticTypes := #[]
  resolved := Array.replicate 124 none
  statics := none }

def pool1 : Array CpInfo := pool [(2, .class_ 4), (1, u "java/lang/Object"), (0, u "<init>"), (0, u "()V"), (0, .integer 1114111), (0, .integer 55296), (0, .integer 57343), (0, .integer 65534), (0, .integer 65535), (0, .integer 55295), (0, .integer 57344), (0, .integer 65533), (0, .integer 65536), (0, .integer 1114112), (2, .integer 2147483648), (0, .integer 2147483647), (0, .methodref 22 23), (0, .class_ 24), (0, .nameAndType 25 26), (0, u "com/example/winding_path/windingpath/XmlChars"), (0, u "isChar"), (0, u "(I)Z"), (0, .methodref 28 29), (0, .class_ 30), (0, .nameAndType 31 26), (0, u "com/example/winding_path/windingpath/XmlCharsIsCharPinLaw"), (0, u "ref"), (3, u "law"), (0, u "(III)Z")] 4

def k1m0 : Method := { name := "<init>", desc := "()V", sig := { parameters := [], returnType := none }, accessFlags := 2, code := none }
def k1c1 : Code := { maxStack := 2, maxLocals := 1, code := method_2_code, exceptionTable := #[], attributes := #[] }
def k1m1 : Method := { name := "ref", desc := "(I)Z", sig := { parameters := [.int], returnType := some .boolean }, accessFlags := 10, code := some k1c1 }
def k1c2 : Code := { maxStack := 4, maxLocals := 7, code := code, exceptionTable := #[], attributes := #[] }
def k1m2 : Method := { name := "law", desc := "(III)Z", sig := { parameters := [.int, .int, .int], returnType := some .boolean }, accessFlags := 9, code := some k1c2 }
/-- com/example/winding_path/windingpath/XmlCharsIsCharPinLaw -/
def k1 : Class := { plain "com/example/winding_path/windingpath/XmlCharsIsCharPinLaw" (some 0) with
  accessFlags := 49
  interfaces := #[]
  cf := some (fileOf pool1 28 #[] #[{ accessFlags := 2, nameIndex := 5, descriptorIndex := 6, attributes := #[] }, { accessFlags := 10, nameIndex := 31, descriptorIndex := 26, attributes := #[] }, { accessFlags := 9, nameIndex := 35, descriptorIndex := 36, attributes := #[] }] 49 2 #[] #[])
  fields := #[]
  methods := #[k1m0, k1m1, k1m2]
  instanceTypes := #[]
  staticTypes := #[]
  resolved := Array.replicate 41 none
  statics := none }

def pool2 : Array CpInfo := pool [(2, .class_ 4), (1, u "java/lang/Object"), (0, u "<init>"), (0, u "()V"), (1, .class_ 10), (1, u "com/example/winding_path/windingpath/XmlChars"), (0, u "NAME_START_CHARS"), (0, u "[I"), (7, u "(I)Z"), (7, u "OTHER_NAME_CHARS"), (42, .integer 55295), (0, .integer 57344), (0, .integer 65533), (0, .integer 65536), (0, .integer 1114111), (61, u "isChar")] 8

def k2m0 : Method := { name := "<init>", desc := "()V", sig := { parameters := [], returnType := none }, accessFlags := 2, code := none }
def k2c1 : Code := { maxStack := 2, maxLocals := 1, code := prog_68_method_13_code, exceptionTable := #[], attributes := #[] }
def k2m1 : Method := { name := "isChar", desc := "(I)Z", sig := { parameters := [.int], returnType := some .boolean }, accessFlags := 8, code := some k2c1 }
/-- com/example/winding_path/windingpath/XmlChars -/
def k2 : Class := { plain "com/example/winding_path/windingpath/XmlChars" (some 0) with
  accessFlags := 48
  interfaces := #[]
  cf := some (fileOf pool2 8 #[] #[{ accessFlags := 2, nameIndex := 5, descriptorIndex := 6, attributes := #[] }, { accessFlags := 8, nameIndex := 137, descriptorIndex := 20, attributes := #[] }] 48 2 #[] #[{ accessFlags := 26, nameIndex := 11, descriptorIndex := 12, attributes := #[] }, { accessFlags := 26, nameIndex := 28, descriptorIndex := 12, attributes := #[] }])
  fields := #[{ name := "NAME_START_CHARS", type := (.array .int), accessFlags := 26, slot := 0, constantValue := 0 }, { name := "OTHER_NAME_CHARS", type := (.array .int), accessFlags := 26, slot := 1, constantValue := 0 }]
  methods := #[k2m0, k2m1]
  instanceTypes := #[]
  staticTypes := #[(.array .int), (.array .int)]
  resolved := Array.replicate 146 none
  statics := none }

def pool3 : Array CpInfo := pool [(1, u "java/lang/Cloneable"), (0, .class_ 1), (0, u "java/lang/Object"), (0, .class_ 3)] 3

/-- java/lang/Cloneable -/
def k3 : Class := { plain "java/lang/Cloneable" (some 0) with
  accessFlags := 1537
  interfaces := #[]
  cf := some (fileOf pool3 2 #[] #[] 1537 4 #[] #[])
  fields := #[]
  methods := #[]
  instanceTypes := #[]
  staticTypes := #[]
  resolved := Array.replicate 8 none
  statics := none }

def pool4 : Array CpInfo := pool [(1, u "java/io/Serializable"), (0, .class_ 1), (0, u "java/lang/Object"), (0, .class_ 3)] 3

/-- java/io/Serializable -/
def k4 : Class := { plain "java/io/Serializable" (some 0) with
  accessFlags := 1537
  interfaces := #[]
  cf := some (fileOf pool4 2 #[] #[] 1537 4 #[] #[])
  fields := #[]
  methods := #[]
  instanceTypes := #[]
  staticTypes := #[]
  resolved := Array.replicate 8 none
  statics := none }

/-- the primitive byte -/
def k5 : Class := { plain "byte" none with kind := .primitive 'B', accessFlags := 0x411 }
/-- [B -/
def k6 : Class := { plain "[B" (some 0) with kind := .array 5 .byte, interfaces := #[3, 4], accessFlags := 1041 }

/-- the primitive int -/
def k7 : Class := { plain "int" none with kind := .primitive 'I', accessFlags := 0x411 }
/-- [I -/
def k8 : Class := { plain "[I" (some 0) with kind := .array 7 .int, interfaces := #[3, 4], accessFlags := 1041 }

def heap : Heap := #[]
def classes : Array Class := #[k0, k1, k2, k3, k4, k5, k6, k7, k8]
def interned : List (Array UInt16 × Addr) := []
def slotsUsed : Nat := 0
def theMethod : MethodId := ⟨1, 2⟩
def args0 : Array Value := #[.int 9, .int 5, .int 7]
def aboutOver (below : List Frame) : State where
  vm := { classes := classes, interned := interned.toArray }
  heap := heap
  slotsUsed := slotsUsed
  threads := #[{ frames := .invoking theMethod args0 :: below }]
def below0 : List Frame := [.native { method := ⟨0, 0⟩, args := #[] }]
def about1 : State := aboutOver below0
def p0 : Program := .bare "" "" ""
def e0 : Env := launch0.env 0 0 0
theorem w_frames : about1.frames = Frame.invoking theMethod args0 :: below0 := rfl
set_option maxRecDepth 65536 in
theorem w_args : argsFit about1.vm theMethod args0 = true := by decide +kernel
set_option maxRecDepth 65536 in
theorem w_heap : heapFits about1 = true := by decide +kernel
set_option maxRecDepth 65536 in
theorem w_runnable : about1.curStatus? = some .runnable := by decide +kernel
set_option maxRecDepth 65536 in
theorem w_alone : about1.alone = true := by decide +kernel
set_option maxRecDepth 65536 in
theorem w_named : about1.methodNamed? x = some theMethod := by decide +kernel
set_option maxRecDepth 65536 in
theorem w_hears : about1.hears theMethod below0 = true := by decide +kernel
set_option maxRecDepth 65536 in
theorem w_ripe : about1.ripe theMethod args0 below0 = true := by decide +kernel
theorem w_running : about1.status = .running := rfl
set_option maxRecDepth 65536 in
theorem w_room : about1.hasRoom e0.platform room_1 = true :=
  launch0.hasRoom_least _ room_1 (by decide +kernel) (by decide +kernel) (by decide +kernel) (by decide +kernel) (by decide +kernel) (by decide +kernel)
theorem allAtoms_all (ts : List Jvm.Cond) (a : Array Jvm.Value) (st : Jvm.State) : (allAtoms ts).before a st = ts.all (fun c => c.before a st) := by
  induction ts with
  | nil => rfl
  | cons c t ih =>
    show (Jvm.Cond.and c (allAtoms t)).before a st = _
    rw [Jvm.Cond.before_and, ih, List.all_cons]
def words1 : List Jvm.Cond := Jvm.Cond.code x code maxLocals ret :: tables_1
/-- a 'code' word, met by the world's own term for the bytes: nothing is compared byte by byte -/
theorem code_word {y : MethodName} {bytes : ByteArray} {mx : Nat} {rt : Option FieldType} {a : Array Value} {s : State} {m : MethodId} {meth : Method} {c : Code} (h1 : s.methodNamed? y = some m) (h2 : s.vm.method? m = some meth) (h3 : meth.code = some c) (h4 : c.code = bytes)
    (h5 : (c.maxLocals == mx && c.exceptionTable.isEmpty && decide (c.maxStack ≤ mostOperands) && decide (meth.sig.returnType = rt) && !meth.locks && decide (parseMethodDescriptor y.desc = some meth.sig)) = true) : (Jvm.Cond.code y bytes mx rt).before a s = true := by
  simp only [Bool.and_eq_true, beq_iff_eq, Bool.not_eq_true', decide_eq_true_eq] at h5
  obtain ⟨⟨⟨⟨⟨g1, g2⟩, g3⟩, g4⟩, g5⟩, g6⟩ := h5
  simp [Cond.before, Cond.holds, Cond.value, h1, h2, h3, h4, g1, g2, g3, g4, g5, g6]
def isCode : Jvm.Cond → Bool
  | .code _ _ _ _ => true
  | _ => false
theorem all_split {L : List Jvm.Cond} {P : Jvm.Cond → Bool} (h1 : L.all (fun c => isCode c || P c) = true) (h2 : ∀ c ∈ L.filter isCode, P c = true) : L.all P = true := by
  refine List.all_eq_true.mpr fun c hc => ?_
  have h := List.all_eq_true.mp h1 c hc
  rcases Bool.eq_false_or_eq_true (isCode c) with hi | hi
  · exact h2 c (List.mem_filter.mpr ⟨hc, hi⟩)
  · simpa [hi] using h
set_option maxRecDepth 65536 in
theorem w_c0 : (Jvm.Cond.code x code maxLocals ret).before args0 about1 = true := code_word (m := ⟨1, 2⟩) (meth := k1m2) (c := k1c2) (by decide +kernel) rfl rfl rfl (by decide +kernel)
set_option maxRecDepth 65536 in
theorem w_c1 : (Jvm.Cond.code ({ cls := "com/example/winding_path/windingpath/XmlChars", name := "isChar", desc := "(I)Z" } : Jvm.MethodName) prog_68_method_13_code (1 : Nat) (Option.some Jvm.ClassFile.FieldType.boolean)).before args0 about1 = true := code_word (m := ⟨2, 1⟩) (meth := k2m1) (c := k2c1) (by decide +kernel) rfl rfl rfl (by decide +kernel)
set_option maxRecDepth 65536 in
theorem w_c2 : (Jvm.Cond.code ({ cls := "com/example/winding_path/windingpath/XmlCharsIsCharPinLaw", name := "ref", desc := "(I)Z" } : Jvm.MethodName) method_2_code (1 : Nat) (Option.some Jvm.ClassFile.FieldType.boolean)).before args0 about1 = true := code_word (m := ⟨1, 1⟩) (meth := k1m1) (c := k1c1) (by decide +kernel) rfl rfl rfl (by decide +kernel)
def codes1 : List Jvm.Cond := [Jvm.Cond.code x code maxLocals ret, Jvm.Cond.code ({ cls := "com/example/winding_path/windingpath/XmlChars", name := "isChar", desc := "(I)Z" } : Jvm.MethodName) prog_68_method_13_code (1 : Nat) (Option.some Jvm.ClassFile.FieldType.boolean), Jvm.Cond.code ({ cls := "com/example/winding_path/windingpath/XmlCharsIsCharPinLaw", name := "ref", desc := "(I)Z" } : Jvm.MethodName) method_2_code (1 : Nat) (Option.some Jvm.ClassFile.FieldType.boolean)]
set_option maxRecDepth 65536 in
theorem codes_eq : words1.filter isCode = codes1 := rfl
theorem w_codes : ∀ c ∈ words1.filter isCode, c.before args0 about1 = true := by
  rw [codes_eq]
  intro c hc
  simp only [codes1, List.mem_cons, List.not_mem_nil, or_false] at hc
  rcases hc with rfl | rfl | rfl
  · exact w_c0
  · exact w_c1
  · exact w_c2
set_option maxRecDepth 65536 in
theorem w_t1 : (words1.take 24).all (fun c => isCode c || c.before args0 about1) = true := by decide +kernel
set_option maxRecDepth 65536 in
theorem w_t2 : (words1.drop 24).all (fun c => isCode c || c.before args0 about1) = true := by decide +kernel
theorem w_tables : (allAtoms (Jvm.Cond.code x code maxLocals ret :: tables_1)).before args0 about1 = true := by
  rw [allAtoms_all]
  show words1.all (fun c => c.before args0 about1) = true
  refine all_split ?_ w_codes
  rw [← List.take_append_drop 24 words1, List.all_append, w_t1, w_t2]
  rfl
set_option maxRecDepth 65536 in
theorem w_case : (Jvm.Cond.and given_1 narrow_1).before args0 about1 = true := by decide +kernel
theorem w_applies : (headSpec (Jvm.Cond.code x code maxLocals ret :: tables_1) room_1).applies x e0.platform about1 = true :=
  (Spec.applies_iff w_frames).mpr ⟨w_running, w_runnable, w_alone, w_named, w_hears, w_ripe, w_room, w_tables⟩
theorem atStart : AtStart classFile x code maxLocals ret World_1 tables_1 room_1 Calls_1 rest_1 Pre_1 launch0 p0 e0 about1 theMethod args0 below0 :=
  ⟨lists_1, trivial, launch0.admits_env _ _ _, launch0.least_env, fairChoices_fair.cas, fairChoices_fair.clock, w_frames, w_args, w_heap, w_applies, trivial, trivial, w_case⟩
end start1
theorem witness_1 : WitnessClaimed_1 := ⟨start1.p0, start1.e0, start1.about1, start1.theMethod, start1.args0, start1.below0, start1.atStart⟩
end Jvm.Pilot.@@N@@
