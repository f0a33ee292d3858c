import JvmDerived
import JvmDerived.Pilot.@@N@@Statement
import JvmDerived.Pilot.@@N@@Code
set_option linter.unusedVariables false
set_option linter.unusedSimpArgs false
namespace Jvm.RoadKit
open Sem ClassFile Op Lib Jvm.Stand Jvm.Free Jvm.LawKit
section New
variable {p : Program} {l : Launch} {e : Env} {R : Room} {s : State} {m : MethodId} {args : Array Value} {below : List Frame} {meth : Method} {c : Code} {T : State} {locs : List Loc} {cells slots : Nat}
theorem retI (X : Stand p l e R s m args below meth c T locs cells slots) (hx : p.tables.exec = Jvm.exec) {pc : Nat} {Ls : Array Slot} {z : Int32} {rest : List Value} (hret : meth.sig.returnType = some .int) (hd : decode c.code pc = .ok (.ireturn, 1)) {fs : List Frame}
    (hl : ∀ (f : JFrame) (acts : List Action), f.method = m → f.locked = none → f.entered = [] → (doReturn e (T.setTop f) acts (some (.int z))).1 = T.setFrames fs) : Steps p.tables e below (T.setTop (mkF m pc Ls (.int z :: rest))) (T.setFrames fs) := by
  have hm' : T.vm.method? m = some meth := X.method'
  have hn : narrow .int (.int z) = .int z := rfl
  show Steps p.tables e below (T.setTop { method := m, pc := pc, locals := Ls, stack := _ :: rest, locked := none }) _
  jvm_step X.here [X.here.top, hx, hd, hm', hret, hn]
  first | (intro acts; rw [hl _ acts rfl rfl rfl]) | rw [hl _ _ rfl rfl rfl]
  exact Steps.refl _
theorem own_lremM {g : JFrame} {target : State} (X : Stand p l e R s m args below meth c T locs cells slots) (hx : p.tables.exec = Jvm.exec) (hg : g.method = m) {x y : Int64} {rest : List Value} (hd : decode c.code g.pc = .ok (.lrem, 1)) (hs : g.stack = .long y :: .long x :: rest) (hy : y ≠ 0)
    (hr : Steps p.tables e below (T.setTop { g with pc := g.pc + 1, stack := .long (x % y) :: rest }) target) : Steps p.tables e below (T.setTop g) target := by
  have q : x - x / y * y = x % y := lrem_mod x y
  exact XS.lrem X.here hx hg hd hs hy (by rw [q]; exact hr)
end New
end Jvm.RoadKit
namespace Jvm.Pilot.@@N@@
open Jvm Jvm.ClassFile Sem Op Lib Jvm.Free Jvm.Stand Jvm.LawKit Jvm.RoadKit Bundle Jvm.Pilot.@@N@@.Jvm.D
theorem d1_0 : decode prog_23_method_5_code 0 = .ok (.iload_n 0, 1) := by decide +kernel
theorem d1_1 : decode prog_23_method_5_code 1 = .ok (.ifCond .ne 8, 3) := by decide +kernel
theorem d1_4 : decode prog_23_method_5_code 4 = .ok (.iconst 0, 1) := by decide +kernel
theorem d1_5 : decode prog_23_method_5_code 5 = .ok (.istore_n 1, 1) := by decide +kernel
theorem d1_6 : decode prog_23_method_5_code 6 = .ok (.goto 32, 3) := by decide +kernel
theorem d1_9 : decode prog_23_method_5_code 9 = .ok (.iload_n 0, 1) := by decide +kernel
theorem d1_10 : decode prog_23_method_5_code 10 = .ok (.ldc 44, 2) := by decide +kernel
theorem d1_12 : decode prog_23_method_5_code 12 = .ok (.irem, 1) := by decide +kernel
theorem d1_13 : decode prog_23_method_5_code 13 = .ok (.ifCond .ne 8, 3) := by decide +kernel
theorem d1_16 : decode prog_23_method_5_code 16 = .ok (.iconst 3, 1) := by decide +kernel
theorem d1_17 : decode prog_23_method_5_code 17 = .ok (.istore_n 1, 1) := by decide +kernel
theorem d1_18 : decode prog_23_method_5_code 18 = .ok (.goto 20, 3) := by decide +kernel
theorem d1_21 : decode prog_23_method_5_code 21 = .ok (.iload_n 0, 1) := by decide +kernel
theorem d1_22 : decode prog_23_method_5_code 22 = .ok (.sipush 1000, 3) := by decide +kernel
theorem d1_25 : decode prog_23_method_5_code 25 = .ok (.irem, 1) := by decide +kernel
theorem d1_26 : decode prog_23_method_5_code 26 = .ok (.ifCond .ne 9, 3) := by decide +kernel
theorem d1_29 : decode prog_23_method_5_code 29 = .ok (.bipush 6, 2) := by decide +kernel
theorem d1_31 : decode prog_23_method_5_code 31 = .ok (.istore_n 1, 1) := by decide +kernel
theorem d1_32 : decode prog_23_method_5_code 32 = .ok (.goto 6, 3) := by decide +kernel
theorem d1_35 : decode prog_23_method_5_code 35 = .ok (.bipush 9, 2) := by decide +kernel
theorem d1_37 : decode prog_23_method_5_code 37 = .ok (.istore_n 1, 1) := by decide +kernel
theorem d1_38 : decode prog_23_method_5_code 38 = .ok (.iload_n 1, 1) := by decide +kernel
theorem d1_39 : decode prog_23_method_5_code 39 = .ok (.ireturn, 1) := by decide +kernel
theorem pn_1 : plainName "com/example/dayt/dayt/text/TextForm" = true := by first | (simp [plainName, overriddenIn]; done) | decide +kernel
theorem ef_1 (m : MethodId) (p0 : Int32) : entryFrame m #[(.int p0)] 2 = mkF m 0 #[.val (.int p0), .unset] [] := by first | (simp [entryFrame, mkF, argsToLocals, Value.category]; done) | rfl
def f_1 (p0 : Int32) : Int32 := let m1_38 : Int32 := (if p0 = (0 : Int32) then (0 : Int32) else (if (p0 % (1000000 : Int32)) = (0 : Int32) then (3 : Int32) else (if (p0 % (1000 : Int32)) = (0 : Int32) then (6 : Int32) else (9 : Int32)))); m1_38
def Q_1 (Z : State) (p0 : Int32)  (h0 : Heap) (n0 : Nat) (v : Option Value) (h : Heap) (L : List Loc) : Prop := v = some (.int (f_1 p0)) ∧ Fr n0 L ∧ h = h0
set_option maxRecDepth 65536 in
set_option maxHeartbeats 40000000 in
theorem rm_1 (l : Launch) (Z : State) (a0 : Array Value) (hw : ∀ d ∈ tables_1, d.before a0 Z = true) (ws : List Jvm.Cond) (p0 : Int32)  (h0 : Heap) (n0 : Nat) (Z0 : n0 ≤ h0.size)  :
    MetFree l (⟨"com/example/dayt/dayt/text/TextForm", "fractionDigits", "(I)I"⟩ : MethodName) (head1 (Jvm.Cond.code (⟨"com/example/dayt/dayt/text/TextForm", "fractionDigits", "(I)I"⟩ : MethodName) prog_23_method_5_code 2 (some .int) :: ws) ({ frames := 0, cells := 0, slots := 0, locals := 0 } : Room)) (fun a U => a = #[(.int p0)] ∧ Z.Warmed39 U.vm ∧ U.heap = h0) (fun _ _ _ _ _ => True) (fun _ U o U' => ∃ v L, o = .returned v ∧ Q_1 Z p0 h0 n0 v U'.heap L ∧ FrameEnd U o U' L ({ frames := 0, cells := 0, slots := 0, locals := 0 } : Room).cells ({ frames := 0, cells := 0, slots := 0, locals := 0 } : Room).slots) := by
  refine MetFree.of_bodySF (plainFor_of_name pn_1) hisR ?_
  intro p e s m args below meth c s₁ Bd hml0 hP hK
  obtain ⟨rfl, hZ, hh⟩ := hP
  have hx := Bd.exec
  have hby := Bd.bytes
  have hml : c.maxLocals = 2 := hml0
  have hown : s.vm.findClass "com/example/dayt/dayt/text/TextForm" = some m.cls := findClass_of_methodNamed Bd.named
  have hnm := (name_of_methodNamed Bd.named Bd.method).1
  have X0 : Stand p l e ({ frames := 0, cells := 0, slots := 0, locals := 0 } : Room) s m #[(.int p0)] below meth c s₁ [] 0 0 := Stand.of_body Bd
  have e0 : s₁.heap = h0 := by rw [← hh, Bd.state]; rfl
  have N0 := Fr.nil n0
  have K0 : Keep h0 h0 [] := Keep.refl h0 _
  have pre0 : ∀ t, Steps p.tables e below (s₁.setTop (mkF m 0 #[.val (.int p0), .unset] [])) t → Steps p.tables e below (s₁.setTop (entryFrame m #[(.int p0)] 2)) t := fun t k => castTop (ef_1 m p0) k
  have pre1 : ∀ t, Steps p.tables e below (s₁.setTop (mkF m 1 #[.val (.int p0), .unset] [(.int p0)])) t → Steps p.tables e below (s₁.setTop (entryFrame m #[(.int p0)] 2)) t := by
    intro t k
    refine pre0 t ?_
    show Steps p.tables e below (s₁.setTop (mkF m 0 #[.val (.int p0), .unset] [])) _
    refine XS.iloadN X0.here hx rfl (hb hby d1_0) rfl  ?_
    exact k
  obtain ⟨m1_38, hm1_38⟩ : ∃ z : Int32, z = (if p0 = (0 : Int32) then (0 : Int32) else (if (p0 % (1000000 : Int32)) = (0 : Int32) then (3 : Int32) else (if (p0 % (1000 : Int32)) = (0 : Int32) then (6 : Int32) else (9 : Int32)))) := ⟨_, rfl⟩
  have pre2 : ∀ t, Steps p.tables e below (s₁.setTop (mkF m 38 #[.val (.int p0), .val (.int m1_38)] [])) t → Steps p.tables e below (s₁.setTop (entryFrame m #[(.int p0)] 2)) t := by
    intro t k
    refine pre1 t ?_
    by_cases hc1 : p0 = (0 : Int32)
    · show Steps p.tables e below (s₁.setTop (mkF m 1 #[.val (.int p0), .unset] [(.int p0)])) _
      refine XS.ifNo X0.here hx rfl (hb hby d1_1) rfl ((if0 _ _).trans (teq hc1).2) ?_
      show Steps p.tables e below (s₁.setTop (mkF m 4 #[.val (.int p0), .unset] [])) _
      refine XS.iconst X0.here hx rfl (hb hby d1_4) ?_
      show Steps p.tables e below (s₁.setTop (mkF m 5 #[.val (.int p0), .unset] [(.int (0 : Int32))])) _
      refine XS.istoreN X0.here hx rfl (hb hby d1_5) rfl (l' := #[.val (.int p0), .val (.int (0 : Int32))]) rfl ?_
      show Steps p.tables e below (s₁.setTop (mkF m 6 #[.val (.int p0), .val (.int (0 : Int32))] [])) _
      refine XS.goto X0.here hx rfl (pc0 := 6) (pc' := 38) rfl (hb hby d1_6) (by decide) (by decide) ?_
      have qm1_38 : m1_38 = (0 : Int32) := by rw [hm1_38, if_pos hc1]
      rw [qm1_38] at k
      exact k
    · show Steps p.tables e below (s₁.setTop (mkF m 1 #[.val (.int p0), .unset] [(.int p0)])) _
      refine XS.ifYes X0.here hx rfl (pc0 := 1) (pc' := 9) rfl (hb hby d1_1) rfl ((if0 _ _).trans (feq hc1).2) (by decide) (by decide) ?_
      show Steps p.tables e below (s₁.setTop (mkF m 9 #[.val (.int p0), .unset] [])) _
      refine XS.iloadN X0.here hx rfl (hb hby d1_9) rfl  ?_
      show Steps p.tables e below (s₁.setTop (mkF m 10 #[.val (.int p0), .unset] [(.int p0)])) _
      refine X0.ldcInt hx hown (mvT hZ (hw _ (List.mem_of_getElem? (i := 13) rfl))) (g := (mkF m 10 #[.val (.int p0), .unset] [(.int p0)])) rfl (hb hby d1_10) _ ?_
      show Steps p.tables e below (s₁.setTop (mkF m 12 #[.val (.int p0), .unset] [(.int (1000000 : Int32)), (.int p0)])) _
      refine iremM X0 hx rfl (hb hby d1_12) rfl (by decide) ?_
      by_cases hc13 : (p0 % (1000000 : Int32)) = (0 : Int32)
      · show Steps p.tables e below (s₁.setTop (mkF m 13 #[.val (.int p0), .unset] [(.int (p0 % (1000000 : Int32)))])) _
        refine XS.ifNo X0.here hx rfl (hb hby d1_13) rfl ((if0 _ _).trans (teq hc13).2) ?_
        show Steps p.tables e below (s₁.setTop (mkF m 16 #[.val (.int p0), .unset] [])) _
        refine XS.iconst X0.here hx rfl (hb hby d1_16) ?_
        show Steps p.tables e below (s₁.setTop (mkF m 17 #[.val (.int p0), .unset] [(.int (3 : Int32))])) _
        refine XS.istoreN X0.here hx rfl (hb hby d1_17) rfl (l' := #[.val (.int p0), .val (.int (3 : Int32))]) rfl ?_
        show Steps p.tables e below (s₁.setTop (mkF m 18 #[.val (.int p0), .val (.int (3 : Int32))] [])) _
        refine XS.goto X0.here hx rfl (pc0 := 18) (pc' := 38) rfl (hb hby d1_18) (by decide) (by decide) ?_
        have qm1_38 : m1_38 = (3 : Int32) := by rw [hm1_38, if_neg hc1, if_pos hc13]
        rw [qm1_38] at k
        exact k
      · show Steps p.tables e below (s₁.setTop (mkF m 13 #[.val (.int p0), .unset] [(.int (p0 % (1000000 : Int32)))])) _
        refine XS.ifYes X0.here hx rfl (pc0 := 13) (pc' := 21) rfl (hb hby d1_13) rfl ((if0 _ _).trans (feq hc13).2) (by decide) (by decide) ?_
        show Steps p.tables e below (s₁.setTop (mkF m 21 #[.val (.int p0), .unset] [])) _
        refine XS.iloadN X0.here hx rfl (hb hby d1_21) rfl  ?_
        show Steps p.tables e below (s₁.setTop (mkF m 22 #[.val (.int p0), .unset] [(.int p0)])) _
        refine XS.sipush X0.here hx rfl (hb hby d1_22) ?_
        show Steps p.tables e below (s₁.setTop (mkF m 25 #[.val (.int p0), .unset] [(.int (1000 : Int32)), (.int p0)])) _
        refine iremM X0 hx rfl (hb hby d1_25) rfl (by decide) ?_
        by_cases hc26 : (p0 % (1000 : Int32)) = (0 : Int32)
        · show Steps p.tables e below (s₁.setTop (mkF m 26 #[.val (.int p0), .unset] [(.int (p0 % (1000 : Int32)))])) _
          refine XS.ifNo X0.here hx rfl (hb hby d1_26) rfl ((if0 _ _).trans (teq hc26).2) ?_
          show Steps p.tables e below (s₁.setTop (mkF m 29 #[.val (.int p0), .unset] [])) _
          refine XS.bipush X0.here hx rfl (hb hby d1_29) ?_
          show Steps p.tables e below (s₁.setTop (mkF m 31 #[.val (.int p0), .unset] [(.int (6 : Int32))])) _
          refine XS.istoreN X0.here hx rfl (hb hby d1_31) rfl (l' := #[.val (.int p0), .val (.int (6 : Int32))]) rfl ?_
          show Steps p.tables e below (s₁.setTop (mkF m 32 #[.val (.int p0), .val (.int (6 : Int32))] [])) _
          refine XS.goto X0.here hx rfl (pc0 := 32) (pc' := 38) rfl (hb hby d1_32) (by decide) (by decide) ?_
          have qm1_38 : m1_38 = (6 : Int32) := by rw [hm1_38, if_neg hc1, if_neg hc13, if_pos hc26]
          rw [qm1_38] at k
          exact k
        · show Steps p.tables e below (s₁.setTop (mkF m 26 #[.val (.int p0), .unset] [(.int (p0 % (1000 : Int32)))])) _
          refine XS.ifYes X0.here hx rfl (pc0 := 26) (pc' := 35) rfl (hb hby d1_26) rfl ((if0 _ _).trans (feq hc26).2) (by decide) (by decide) ?_
          show Steps p.tables e below (s₁.setTop (mkF m 35 #[.val (.int p0), .unset] [])) _
          refine XS.bipush X0.here hx rfl (hb hby d1_35) ?_
          show Steps p.tables e below (s₁.setTop (mkF m 37 #[.val (.int p0), .unset] [(.int (9 : Int32))])) _
          refine XS.istoreN X0.here hx rfl (hb hby d1_37) rfl (l' := #[.val (.int p0), .val (.int (9 : Int32))]) rfl ?_
          have qm1_38 : m1_38 = (9 : Int32) := by rw [hm1_38, if_neg hc1, if_neg hc13, if_neg hc26]
          rw [qm1_38] at k
          exact k
  obtain ⟨fs, hr, hrun, hended, hW, hsame⟩ := X0.leave (v := some (.int m1_38)) (fun h => by rw [Bd.returns] at h; cases h) (BodyLoose.notSynchronized Bd)
  refine ⟨_, _, pre2 _ ?_, hrun, hended, _, _, rfl, ?_, ⟨_, rfl⟩, hW, hsame.mono (by decide) (by decide)⟩
  · show Steps p.tables e below (s₁.setTop (mkF m 38 #[.val (.int p0), .val (.int m1_38)] [])) _
    refine XS.iloadN X0.here hx rfl (hb hby d1_38) rfl  ?_
    show Steps p.tables e below (s₁.setTop (mkF m 39 #[.val (.int p0), .val (.int m1_38)] [(.int m1_38)])) _
    exact retI X0 hx Bd.returns (hb hby d1_39) hr
  · show Q_1 Z p0 h0 n0 _ s₁.heap _
    rw [e0]
    exact ⟨congrArg (fun z => some (Value.int z)) (by subst hm1_38; rfl : m1_38 = f_1 p0), N0, rfl⟩
theorem d3_0 : decode method_2_code 0 = .ok (.iload_n 0, 1) := by decide +kernel
theorem d3_1 : decode method_2_code 1 = .ok (.ifCond .ne 6, 3) := by decide +kernel
theorem d3_4 : decode method_2_code 4 = .ok (.ldc 7, 2) := by decide +kernel
theorem d3_6 : decode method_2_code 6 = .ok (.ireturn, 1) := by decide +kernel
theorem d3_7 : decode method_2_code 7 = .ok (.iload_n 0, 1) := by decide +kernel
theorem d3_8 : decode method_2_code 8 = .ok (.iconst 3, 1) := by decide +kernel
theorem d3_9 : decode method_2_code 9 = .ok (.if_icmp .ne 6, 3) := by decide +kernel
theorem d3_12 : decode method_2_code 12 = .ok (.ldc 8, 2) := by decide +kernel
theorem d3_14 : decode method_2_code 14 = .ok (.ireturn, 1) := by decide +kernel
theorem d3_15 : decode method_2_code 15 = .ok (.iload_n 0, 1) := by decide +kernel
theorem d3_16 : decode method_2_code 16 = .ok (.bipush 6, 2) := by decide +kernel
theorem d3_18 : decode method_2_code 18 = .ok (.if_icmp .ne 7, 3) := by decide +kernel
theorem d3_21 : decode method_2_code 21 = .ok (.sipush 1000, 3) := by decide +kernel
theorem d3_24 : decode method_2_code 24 = .ok (.ireturn, 1) := by decide +kernel
theorem d3_25 : decode method_2_code 25 = .ok (.iconst 1, 1) := by decide +kernel
theorem d3_26 : decode method_2_code 26 = .ok (.ireturn, 1) := by decide +kernel
theorem pn_3 : plainName "com/example/dayt/dayt/text/TextFormFractionDigitsPinLaw" = true := by first | (simp [plainName, overriddenIn]; done) | decide +kernel
theorem ef_3 (m : MethodId) (p0 : Int32) : entryFrame m #[(.int p0)] 1 = mkF m 0 #[.val (.int p0)] [] := by first | (simp [entryFrame, mkF, argsToLocals, Value.category]; done) | rfl
def f_3 (p0 : Int32) : Int32 := (if p0 = (0 : Int32) then (1000000000 : Int32) else (if p0 = (3 : Int32) then (1000000 : Int32) else (if p0 = (6 : Int32) then (1000 : Int32) else (1 : Int32))))
def Q_3 (Z : State) (p0 : Int32)  (h0 : Heap) (n0 : Nat) (v : Option Value) (h : Heap) (L : List Loc) : Prop := v = some (.int (f_3 p0)) ∧ Fr n0 L ∧ h = h0
set_option maxRecDepth 65536 in
set_option maxHeartbeats 40000000 in
theorem rm_3 (l : Launch) (Z : State) (a0 : Array Value) (hw : ∀ d ∈ tables_1, d.before a0 Z = true) (ws : List Jvm.Cond) (p0 : Int32)  (h0 : Heap) (n0 : Nat) (Z0 : n0 ≤ h0.size)  :
    MetFree l (⟨"com/example/dayt/dayt/text/TextFormFractionDigitsPinLaw", "unitFor", "(I)I"⟩ : MethodName) (head1 (Jvm.Cond.code (⟨"com/example/dayt/dayt/text/TextFormFractionDigitsPinLaw", "unitFor", "(I)I"⟩ : MethodName) method_2_code 1 (some .int) :: ws) ({ frames := 0, cells := 0, slots := 0, locals := 0 } : Room)) (fun a U => a = #[(.int p0)] ∧ Z.Warmed39 U.vm ∧ U.heap = h0) (fun _ _ _ _ _ => True) (fun _ U o U' => ∃ v L, o = .returned v ∧ Q_3 Z p0 h0 n0 v U'.heap L ∧ FrameEnd U o U' L ({ frames := 0, cells := 0, slots := 0, locals := 0 } : Room).cells ({ frames := 0, cells := 0, slots := 0, locals := 0 } : Room).slots) := by
  refine MetFree.of_bodySF (plainFor_of_name pn_3) hisR ?_
  intro p e s m args below meth c s₁ Bd hml0 hP hK
  obtain ⟨rfl, hZ, hh⟩ := hP
  have hx := Bd.exec
  have hby := Bd.bytes
  have hml : c.maxLocals = 1 := hml0
  have hown : s.vm.findClass "com/example/dayt/dayt/text/TextFormFractionDigitsPinLaw" = some m.cls := findClass_of_methodNamed Bd.named
  have hnm := (name_of_methodNamed Bd.named Bd.method).1
  have X0 : Stand p l e ({ frames := 0, cells := 0, slots := 0, locals := 0 } : Room) s m #[(.int p0)] below meth c s₁ [] 0 0 := Stand.of_body Bd
  have e0 : s₁.heap = h0 := by rw [← hh, Bd.state]; rfl
  have N0 := Fr.nil n0
  have K0 : Keep h0 h0 [] := Keep.refl h0 _
  have pre0 : ∀ t, Steps p.tables e below (s₁.setTop (mkF m 0 #[.val (.int p0)] [])) t → Steps p.tables e below (s₁.setTop (entryFrame m #[(.int p0)] 1)) t := fun t k => castTop (ef_3 m p0) k
  have pre1 : ∀ t, Steps p.tables e below (s₁.setTop (mkF m 1 #[.val (.int p0)] [(.int p0)])) t → Steps p.tables e below (s₁.setTop (entryFrame m #[(.int p0)] 1)) t := by
    intro t k
    refine pre0 t ?_
    show Steps p.tables e below (s₁.setTop (mkF m 0 #[.val (.int p0)] [])) _
    refine XS.iloadN X0.here hx rfl (hb hby d3_0) rfl  ?_
    exact k
  by_cases hc1 : p0 = (0 : Int32)
  · obtain ⟨fs, hr, hrun, hended, hW, hsame⟩ := X0.leave (v := some (.int (1000000000 : Int32))) (fun h => by rw [Bd.returns] at h; cases h) (BodyLoose.notSynchronized Bd)
    refine ⟨_, _, pre1 _ ?_, hrun, hended, _, _, rfl, ?_, ⟨_, rfl⟩, hW, hsame.mono (by decide) (by decide)⟩
    · show Steps p.tables e below (s₁.setTop (mkF m 1 #[.val (.int p0)] [(.int p0)])) _
      refine XS.ifNo X0.here hx rfl (hb hby d3_1) rfl ((if0 _ _).trans (teq hc1).2) ?_
      show Steps p.tables e below (s₁.setTop (mkF m 4 #[.val (.int p0)] [])) _
      refine X0.ldcInt hx hown (mvT hZ (hw _ (List.mem_of_getElem? (i := 1) rfl))) (g := (mkF m 4 #[.val (.int p0)] [])) rfl (hb hby d3_4) _ ?_
      show Steps p.tables e below (s₁.setTop (mkF m 6 #[.val (.int p0)] [(.int (1000000000 : Int32))])) _
      exact retI X0 hx Bd.returns (hb hby d3_6) hr
    · show Q_3 Z p0 h0 n0 _ s₁.heap _
      rw [e0]
      exact ⟨congrArg (fun z => some (Value.int z)) (by exact (if_pos hc1).symm : (1000000000 : Int32) = f_3 p0), N0, rfl⟩
  · have pre2 : ∀ t, Steps p.tables e below (s₁.setTop (mkF m 9 #[.val (.int p0)] [(.int (3 : Int32)), (.int p0)])) t → Steps p.tables e below (s₁.setTop (entryFrame m #[(.int p0)] 1)) t := by
      intro t k
      refine pre1 t ?_
      show Steps p.tables e below (s₁.setTop (mkF m 1 #[.val (.int p0)] [(.int p0)])) _
      refine XS.ifYes X0.here hx rfl (pc0 := 1) (pc' := 7) rfl (hb hby d3_1) rfl ((if0 _ _).trans (feq hc1).2) (by decide) (by decide) ?_
      show Steps p.tables e below (s₁.setTop (mkF m 7 #[.val (.int p0)] [])) _
      refine XS.iloadN X0.here hx rfl (hb hby d3_7) rfl  ?_
      show Steps p.tables e below (s₁.setTop (mkF m 8 #[.val (.int p0)] [(.int p0)])) _
      refine XS.iconst X0.here hx rfl (hb hby d3_8) ?_
      exact k
    by_cases hc9 : p0 = (3 : Int32)
    · obtain ⟨fs, hr, hrun, hended, hW, hsame⟩ := X0.leave (v := some (.int (1000000 : Int32))) (fun h => by rw [Bd.returns] at h; cases h) (BodyLoose.notSynchronized Bd)
      refine ⟨_, _, pre2 _ ?_, hrun, hended, _, _, rfl, ?_, ⟨_, rfl⟩, hW, hsame.mono (by decide) (by decide)⟩
      · show Steps p.tables e below (s₁.setTop (mkF m 9 #[.val (.int p0)] [(.int (3 : Int32)), (.int p0)])) _
        refine XS.icmpNo X0.here hx rfl (hb hby d3_9) rfl (teq hc9).2 ?_
        show Steps p.tables e below (s₁.setTop (mkF m 12 #[.val (.int p0)] [])) _
        refine X0.ldcInt hx hown (mvT hZ (hw _ (List.mem_of_getElem? (i := 14) rfl))) (g := (mkF m 12 #[.val (.int p0)] [])) rfl (hb hby d3_12) _ ?_
        show Steps p.tables e below (s₁.setTop (mkF m 14 #[.val (.int p0)] [(.int (1000000 : Int32))])) _
        exact retI X0 hx Bd.returns (hb hby d3_14) hr
      · show Q_3 Z p0 h0 n0 _ s₁.heap _
        rw [e0]
        exact ⟨congrArg (fun z => some (Value.int z)) (by exact ((if_neg hc1).trans (if_pos hc9)).symm : (1000000 : Int32) = f_3 p0), N0, rfl⟩
    · have pre3 : ∀ t, Steps p.tables e below (s₁.setTop (mkF m 18 #[.val (.int p0)] [(.int (6 : Int32)), (.int p0)])) t → Steps p.tables e below (s₁.setTop (entryFrame m #[(.int p0)] 1)) t := by
        intro t k
        refine pre2 t ?_
        show Steps p.tables e below (s₁.setTop (mkF m 9 #[.val (.int p0)] [(.int (3 : Int32)), (.int p0)])) _
        refine XS.icmpYes X0.here hx rfl (pc0 := 9) (pc' := 15) rfl (hb hby d3_9) rfl (feq hc9).2 (by decide) (by decide) ?_
        show Steps p.tables e below (s₁.setTop (mkF m 15 #[.val (.int p0)] [])) _
        refine XS.iloadN X0.here hx rfl (hb hby d3_15) rfl  ?_
        show Steps p.tables e below (s₁.setTop (mkF m 16 #[.val (.int p0)] [(.int p0)])) _
        refine XS.bipush X0.here hx rfl (hb hby d3_16) ?_
        exact k
      by_cases hc18 : p0 = (6 : Int32)
      · obtain ⟨fs, hr, hrun, hended, hW, hsame⟩ := X0.leave (v := some (.int (1000 : Int32))) (fun h => by rw [Bd.returns] at h; cases h) (BodyLoose.notSynchronized Bd)
        refine ⟨_, _, pre3 _ ?_, hrun, hended, _, _, rfl, ?_, ⟨_, rfl⟩, hW, hsame.mono (by decide) (by decide)⟩
        · show Steps p.tables e below (s₁.setTop (mkF m 18 #[.val (.int p0)] [(.int (6 : Int32)), (.int p0)])) _
          refine XS.icmpNo X0.here hx rfl (hb hby d3_18) rfl (teq hc18).2 ?_
          show Steps p.tables e below (s₁.setTop (mkF m 21 #[.val (.int p0)] [])) _
          refine XS.sipush X0.here hx rfl (hb hby d3_21) ?_
          show Steps p.tables e below (s₁.setTop (mkF m 24 #[.val (.int p0)] [(.int (1000 : Int32))])) _
          exact retI X0 hx Bd.returns (hb hby d3_24) hr
        · show Q_3 Z p0 h0 n0 _ s₁.heap _
          rw [e0]
          exact ⟨congrArg (fun z => some (Value.int z)) (by exact ((if_neg hc1).trans ((if_neg hc9).trans (if_pos hc18))).symm : (1000 : Int32) = f_3 p0), N0, rfl⟩
      · obtain ⟨fs, hr, hrun, hended, hW, hsame⟩ := X0.leave (v := some (.int (1 : Int32))) (fun h => by rw [Bd.returns] at h; cases h) (BodyLoose.notSynchronized Bd)
        refine ⟨_, _, pre3 _ ?_, hrun, hended, _, _, rfl, ?_, ⟨_, rfl⟩, hW, hsame.mono (by decide) (by decide)⟩
        · show Steps p.tables e below (s₁.setTop (mkF m 18 #[.val (.int p0)] [(.int (6 : Int32)), (.int p0)])) _
          refine XS.icmpYes X0.here hx rfl (pc0 := 18) (pc' := 25) rfl (hb hby d3_18) rfl (feq hc18).2 (by decide) (by decide) ?_
          show Steps p.tables e below (s₁.setTop (mkF m 25 #[.val (.int p0)] [])) _
          refine XS.iconst X0.here hx rfl (hb hby d3_25) ?_
          show Steps p.tables e below (s₁.setTop (mkF m 26 #[.val (.int p0)] [(.int (1 : Int32))])) _
          exact retI X0 hx Bd.returns (hb hby d3_26) hr
        · show Q_3 Z p0 h0 n0 _ s₁.heap _
          rw [e0]
          exact ⟨congrArg (fun z => some (Value.int z)) (by exact ((if_neg hc1).trans ((if_neg hc9).trans (if_neg hc18))).symm : (1 : Int32) = f_3 p0), N0, rfl⟩
theorem own_u (d : Int32) : f_3 d ≠ 0 := by
  unfold f_3
  repeat' split
  all_goals decide
theorem pd_0 : parseMethodDescriptor "(I)I" = some ⟨[.int], some .int⟩ := by decide +kernel
theorem d2_0 : decode method_3_code 0 = .ok (.iload_n 1, 1) := by decide +kernel
theorem d2_1 : decode method_3_code 1 = .ok (.invokestatic 9, 3) := by decide +kernel
theorem d2_4 : decode method_3_code 4 = .ok (.istore_n 2, 1) := by decide +kernel
theorem d2_5 : decode method_3_code 5 = .ok (.iload_n 0, 1) := by decide +kernel
theorem d2_6 : decode method_3_code 6 = .ok (.iload_n 2, 1) := by decide +kernel
theorem d2_7 : decode method_3_code 7 = .ok (.idiv, 1) := by decide +kernel
theorem d2_8 : decode method_3_code 8 = .ok (.iload_n 2, 1) := by decide +kernel
theorem d2_9 : decode method_3_code 9 = .ok (.imul, 1) := by decide +kernel
theorem d2_10 : decode method_3_code 10 = .ok (.iload_n 0, 1) := by decide +kernel
theorem d2_11 : decode method_3_code 11 = .ok (.if_icmp .ne 7, 3) := by decide +kernel
theorem d2_14 : decode method_3_code 14 = .ok (.iconst 1, 1) := by decide +kernel
theorem d2_15 : decode method_3_code 15 = .ok (.goto 4, 3) := by decide +kernel
theorem d2_18 : decode method_3_code 18 = .ok (.iconst 0, 1) := by decide +kernel
theorem d2_19 : decode method_3_code 19 = .ok (.ireturn, 1) := by decide +kernel
theorem pn_2 : plainName "com/example/dayt/dayt/text/TextFormFractionDigitsPinLaw" = true := by first | (simp [plainName, overriddenIn]; done) | decide +kernel
theorem ef_2 (m : MethodId) (p0 : Int32) (p1 : Int32) : entryFrame m #[(.int p0), (.int p1)] 3 = mkF m 0 #[.val (.int p0), .val (.int p1), .unset] [] := by first | (simp [entryFrame, mkF, argsToLocals, Value.category]; done) | rfl
def f_2 (p0 : Int32) (p1 : Int32) : Int32 := let v2_4 : Int32 := (f_3 p1); let ms0_19 : Int32 := (if ((p0 / v2_4) * v2_4) = p0 then (1 : Int32) else (0 : Int32)); ms0_19
def Q_2 (Z : State) (p0 : Int32) (p1 : Int32)  (h0 : Heap) (n0 : Nat) (v : Option Value) (h : Heap) (L : List Loc) : Prop := v = some (.int (f_2 p0 p1)) ∧ Fr n0 L ∧ h = h0
set_option maxRecDepth 65536 in
set_option maxHeartbeats 40000000 in
theorem rm_2 (l : Launch) (Z : State) (a0 : Array Value) (hw : ∀ d ∈ tables_1, d.before a0 Z = true) (ws : List Jvm.Cond) (p0 : Int32) (p1 : Int32)  (h0 : Heap) (n0 : Nat) (Z0 : n0 ≤ h0.size)  :
    MetFree l (⟨"com/example/dayt/dayt/text/TextFormFractionDigitsPinLaw", "exact", "(II)Z"⟩ : MethodName) (head1 (Jvm.Cond.code (⟨"com/example/dayt/dayt/text/TextFormFractionDigitsPinLaw", "exact", "(II)Z"⟩ : MethodName) method_3_code 3 (some .boolean) :: ws) ({ frames := 1, cells := 0, slots := 0, locals := 12 } : Room)) (fun a U => a = #[(.int p0), (.int p1)] ∧ Z.Warmed39 U.vm ∧ U.heap = h0) (fun _ _ _ _ _ => True) (fun _ U o U' => ∃ v L, o = .returned v ∧ Q_2 Z p0 p1 h0 n0 v U'.heap L ∧ FrameEnd U o U' L ({ frames := 1, cells := 0, slots := 0, locals := 12 } : Room).cells ({ frames := 1, cells := 0, slots := 0, locals := 12 } : Room).slots) := by
  refine MetFree.of_bodySF (plainFor_of_name pn_2) hisR ?_
  intro p e s m args below meth c s₁ Bd hml0 hP hK
  obtain ⟨rfl, hZ, hh⟩ := hP
  have hx := Bd.exec
  have hby := Bd.bytes
  have hml : c.maxLocals = 3 := hml0
  have hown : s.vm.findClass "com/example/dayt/dayt/text/TextFormFractionDigitsPinLaw" = some m.cls := findClass_of_methodNamed Bd.named
  have hnm := (name_of_methodNamed Bd.named Bd.method).1
  have X0 : Stand p l e ({ frames := 1, cells := 0, slots := 0, locals := 12 } : Room) s m #[(.int p0), (.int p1)] below meth c s₁ [] 0 0 := Stand.of_body Bd
  have e0 : s₁.heap = h0 := by rw [← hh, Bd.state]; rfl
  have N0 := Fr.nil n0
  have K0 : Keep h0 h0 [] := Keep.refl h0 _
  have pre0 : ∀ t, Steps p.tables e below (s₁.setTop (mkF m 0 #[.val (.int p0), .val (.int p1), .unset] [])) t → Steps p.tables e below (s₁.setTop (entryFrame m #[(.int p0), (.int p1)] 3)) t := fun t k => castTop (ef_2 m p0 p1) k
  have pre2 : ∀ t, Steps p.tables e below (s₁.setTop (mkF m 1 #[.val (.int p0), .val (.int p1), .unset] [(.int p1)])) t → Steps p.tables e below (s₁.setTop (entryFrame m #[(.int p0), (.int p1)] 3)) t := by
    intro t k
    refine pre0 t ?_
    show Steps p.tables e below (s₁.setTop (mkF m 0 #[.val (.int p0), .val (.int p1), .unset] [])) _
    refine XS.iloadN X0.here hx rfl (hb hby d2_0) rfl  ?_
    exact k
  obtain ⟨_, _, ⟨T1, L1, k1, n1⟩, -, X1, ⟨Lc1, hQ1, l1, y1, z1⟩, st1⟩ := Jvm.LawKit.callS X0 hx (y := (⟨"com/example/dayt/dayt/text/TextFormFractionDigitsPinLaw", "unitFor", "(I)I"⟩ : MethodName)) hown (mvT hZ (hw _ (List.mem_of_getElem? (i := 10) rfl))) (mvT hZ (hw _ (List.mem_of_getElem? (i := 11) rfl))) (mvT hZ (hw _ (List.mem_of_getElem? (i := 8) rfl))) (mvT hZ (hw _ (List.mem_of_getElem? (i := 12) rfl))) (by decide) (backOf (W := 0) (rm_3 l Z a0 hw [] p1 h0 n0 Z0 ) hZ (hw _ (List.mem_of_getElem? (i := 12) rfl)) (hw _ (List.mem_of_getElem? (i := 8) rfl)) (by decide) (by decide)) (g := (mkF m 1 #[.val (.int p0), .val (.int p1), .unset] [(.int p1)])) rfl (by rw [hml]; rfl) (argsL := [(.int p1)]) (rest := []) (lenOf pd_0 rfl) rfl (by show 2 * 0 + _ ≤ _; exact Nat.le_of_eq rfl) (hb hby d2_1) (fun _ _ => ⟨rfl, e0, (by decide : 0 + 0 ≤ _), (by decide : 0 + 0 ≤ _)⟩)
  dsimp only [Pt.U, Pt.locs, Pt.cells, Pt.slots] at X1 l1 y1 z1 st1 hQ1
  subst l1 y1 z1
  obtain ⟨rfl, N1q, e1⟩ := hQ1
  have N1 := Fr.app N0 N1q
  obtain ⟨v2_4, hv2_4⟩ : ∃ z : Int32, z = (f_3 p1) := ⟨_, rfl⟩
  have pre3 : ∀ t, Steps p.tables e below (T1.setTop (mkF m 11 #[.val (.int p0), .val (.int p1), .val (.int v2_4)] [(.int p0), (.int ((p0 / v2_4) * v2_4))])) t → Steps p.tables e below (s₁.setTop (entryFrame m #[(.int p0), (.int p1)] 3)) t := by
    intro t k
    refine pre2 t ?_
    show Steps p.tables e below (s₁.setTop (mkF m 1 #[.val (.int p0), .val (.int p1), .unset] [(.int p1)])) _
    refine st1 _ ?_
    show Steps p.tables e below (T1.setTop (mkF m 4 #[.val (.int p0), .val (.int p1), .unset] [(.int (f_3 p1))])) _
    refine XS.istoreN X1.here hx rfl (hb hby d2_4) rfl (l' := #[.val (.int p0), .val (.int p1), .val (.int v2_4)]) (by rw [hv2_4]; rfl) ?_
    show Steps p.tables e below (T1.setTop (mkF m 5 #[.val (.int p0), .val (.int p1), .val (.int v2_4)] [])) _
    refine XS.iloadN X1.here hx rfl (hb hby d2_5) rfl  ?_
    show Steps p.tables e below (T1.setTop (mkF m 6 #[.val (.int p0), .val (.int p1), .val (.int v2_4)] [(.int p0)])) _
    refine XS.iloadN X1.here hx rfl (hb hby d2_6) rfl  ?_
    show Steps p.tables e below (T1.setTop (mkF m 7 #[.val (.int p0), .val (.int p1), .val (.int v2_4)] [(.int v2_4), (.int p0)])) _
    refine XS.idiv X1.here hx rfl (hb hby d2_7) rfl (by rw [hv2_4]; exact own_u _) ?_
    show Steps p.tables e below (T1.setTop (mkF m 8 #[.val (.int p0), .val (.int p1), .val (.int v2_4)] [(.int (p0 / v2_4))])) _
    refine XS.iloadN X1.here hx rfl (hb hby d2_8) rfl  ?_
    show Steps p.tables e below (T1.setTop (mkF m 9 #[.val (.int p0), .val (.int p1), .val (.int v2_4)] [(.int v2_4), (.int (p0 / v2_4))])) _
    refine XS.imul X1.here hx rfl (hb hby d2_9) rfl ?_
    show Steps p.tables e below (T1.setTop (mkF m 10 #[.val (.int p0), .val (.int p1), .val (.int v2_4)] [(.int ((p0 / v2_4) * v2_4))])) _
    refine XS.iloadN X1.here hx rfl (hb hby d2_10) rfl  ?_
    exact k
  obtain ⟨ms0_19, hms0_19⟩ : ∃ z : Int32, z = (if ((p0 / v2_4) * v2_4) = p0 then (1 : Int32) else (0 : Int32)) := ⟨_, rfl⟩
  have pre4 : ∀ t, Steps p.tables e below (T1.setTop (mkF m 19 #[.val (.int p0), .val (.int p1), .val (.int v2_4)] [(.int ms0_19)])) t → Steps p.tables e below (s₁.setTop (entryFrame m #[(.int p0), (.int p1)] 3)) t := by
    intro t k
    refine pre3 t ?_
    by_cases hc11 : ((p0 / v2_4) * v2_4) = p0
    · show Steps p.tables e below (T1.setTop (mkF m 11 #[.val (.int p0), .val (.int p1), .val (.int v2_4)] [(.int p0), (.int ((p0 / v2_4) * v2_4))])) _
      refine XS.icmpNo X1.here hx rfl (hb hby d2_11) rfl (teq hc11).2 ?_
      show Steps p.tables e below (T1.setTop (mkF m 14 #[.val (.int p0), .val (.int p1), .val (.int v2_4)] [])) _
      refine XS.iconst X1.here hx rfl (hb hby d2_14) ?_
      show Steps p.tables e below (T1.setTop (mkF m 15 #[.val (.int p0), .val (.int p1), .val (.int v2_4)] [(.int (1 : Int32))])) _
      refine XS.goto X1.here hx rfl (pc0 := 15) (pc' := 19) rfl (hb hby d2_15) (by decide) (by decide) ?_
      have qms0_19 : ms0_19 = (1 : Int32) := by rw [hms0_19, if_pos hc11]
      rw [qms0_19] at k
      exact k
    · show Steps p.tables e below (T1.setTop (mkF m 11 #[.val (.int p0), .val (.int p1), .val (.int v2_4)] [(.int p0), (.int ((p0 / v2_4) * v2_4))])) _
      refine XS.icmpYes X1.here hx rfl (pc0 := 11) (pc' := 18) rfl (hb hby d2_11) rfl (feq hc11).2 (by decide) (by decide) ?_
      show Steps p.tables e below (T1.setTop (mkF m 18 #[.val (.int p0), .val (.int p1), .val (.int v2_4)] [])) _
      refine XS.iconst X1.here hx rfl (hb hby d2_18) ?_
      have qms0_19 : ms0_19 = (0 : Int32) := by rw [hms0_19, if_neg hc11]
      rw [qms0_19] at k
      exact k
  have hnar : nar .boolean ms0_19 = ms0_19 := by rw [hms0_19]; (repeat' split) <;> rfl
  obtain ⟨fs, hr, hrun, hended, hW, hsame⟩ := X1.leave (v := some (.int ms0_19)) (fun h => by rw [Bd.returns] at h; cases h) (BodyLoose.notSynchronized Bd)
  refine ⟨_, _, pre4 _ ?_, hrun, hended, _, _, rfl, ?_, ⟨_, rfl⟩, hW, hsame.mono (by decide) (by decide)⟩
  · show Steps p.tables e below (T1.setTop (mkF m 19 #[.val (.int p0), .val (.int p1), .val (.int v2_4)] [(.int ms0_19)])) _
    exact retN X1 hx (t := .boolean) Bd.returns (by simp) (hb hby d2_19) (by rw [hnar]; exact hr)
  · show Q_2 Z p0 p1 h0 n0 _ T1.heap _
    rw [e1]
    exact ⟨congrArg (fun z => some (Value.int z)) (by subst hv2_4 hms0_19; rfl : ms0_19 = f_2 p0 p1), N1, rfl⟩
theorem pd_1 : parseMethodDescriptor "(II)Z" = some ⟨[.int, .int], some .boolean⟩ := by decide +kernel
theorem pn_0 : plainName "com/example/dayt/dayt/text/TextFormFractionDigitsPinLaw" = true := by first | (simp [plainName, overriddenIn]; done) | decide +kernel
theorem ef_0 (m : MethodId) (p0 : Int32) (p1 : Int32) : entryFrame m #[(.int p0), (.int p1)] maxLocals = mkF m 0 #[.val (.int p0), .val (.int p1), .unset, .unset, .unset, .unset, .unset, .unset] [] := by first | (simp [entryFrame, mkF, argsToLocals, Value.category, maxLocals]; done) | rfl
def f_0 (p0 : Int32) (p1 : Int32) : Int32 := let v2_7 : Int32 := ((p0 &&& (2147483647 : Int32)) % (1000000000 : Int32)); let v3_11 : Int32 := (p1 &&& (3 : Int32)); let m4_61 : Int32 := (if v3_11 = (0 : Int32) then v2_7 else (if v3_11 = (1 : Int32) then ((v2_7 / (1000 : Int32)) * (1000 : Int32)) else (if v3_11 = (2 : Int32) then ((v2_7 / (1000000 : Int32)) * (1000000 : Int32)) else (0 : Int32)))); let v5_66 : Int32 := (f_1 m4_61); (if v5_66 = (0 : Int32) then let v6_102 : Int32 := (f_2 m4_61 v5_66); let ms0_143 : Int32 := (if v6_102 = (0 : Int32) then (0 : Int32) else (1 : Int32)); ms0_143 else (if v5_66 = (3 : Int32) then let v6_102 : Int32 := (f_2 m4_61 v5_66); let ms0_126 : Int32 := (if (f_2 m4_61 (v5_66 - (3 : Int32))) = (0 : Int32) then (1 : Int32) else (0 : Int32)); let ms0_143 : Int32 := (if v6_102 = (0 : Int32) then (0 : Int32) else (if ms0_126 = (0 : Int32) then (0 : Int32) else (1 : Int32))); ms0_143 else (if v5_66 = (6 : Int32) then let v6_102 : Int32 := (f_2 m4_61 v5_66); let ms0_126 : Int32 := (if (f_2 m4_61 (v5_66 - (3 : Int32))) = (0 : Int32) then (1 : Int32) else (0 : Int32)); let ms0_143 : Int32 := (if v6_102 = (0 : Int32) then (0 : Int32) else (if ms0_126 = (0 : Int32) then (0 : Int32) else (1 : Int32))); ms0_143 else (if v5_66 = (9 : Int32) then let v6_102 : Int32 := (f_2 m4_61 v5_66); let ms0_126 : Int32 := (if (f_2 m4_61 (v5_66 - (3 : Int32))) = (0 : Int32) then (1 : Int32) else (0 : Int32)); let ms0_143 : Int32 := (if v6_102 = (0 : Int32) then (0 : Int32) else (if ms0_126 = (0 : Int32) then (0 : Int32) else (1 : Int32))); ms0_143 else (0 : Int32)))))
def Q_0 (Z : State) (p0 : Int32) (p1 : Int32)  (h0 : Heap) (n0 : Nat) (v : Option Value) (h : Heap) (L : List Loc) : Prop := v = some (.int (f_0 p0 p1)) ∧ Fr n0 L ∧ True
set_option maxRecDepth 65536 in
set_option maxHeartbeats 40000000 in
theorem rm_0 (l : Launch) (Z : State) (a0 : Array Value) (hw : ∀ d ∈ tables_1, d.before a0 Z = true) (ws : List Jvm.Cond) (p0 : Int32) (p1 : Int32)  (h0 : Heap) (n0 : Nat) (Z0 : n0 ≤ h0.size)  :
    MetFree l x (head1 (Jvm.Cond.code x code maxLocals ret :: ws) room_1) (fun a U => a = #[(.int p0), (.int p1)] ∧ Z.Warmed39 U.vm ∧ U.heap = h0) (fun _ _ _ _ _ => True) (fun _ U o U' => ∃ v L, o = .returned v ∧ Q_0 Z p0 p1 h0 n0 v U'.heap L ∧ FrameEnd U o U' L 0 0) := by
  refine MetFree.of_bodySF (plainFor_of_name pn_0) hisR ?_
  intro p e s m args below meth c s₁ Bd hml0 hP hK
  obtain ⟨rfl, hZ, hh⟩ := hP
  have hx := Bd.exec
  have hby := Bd.bytes
  have hml : c.maxLocals = 8 := hml0
  have hown : s.vm.findClass "com/example/dayt/dayt/text/TextFormFractionDigitsPinLaw" = some m.cls := findClass_of_methodNamed Bd.named
  have hnm := (name_of_methodNamed Bd.named Bd.method).1
  have X0 : Stand p l e room_1 s m #[(.int p0), (.int p1)] below meth c s₁ [] 0 0 := Stand.of_body Bd
  have e0 : s₁.heap = h0 := by rw [← hh, Bd.state]; rfl
  have N0 := Fr.nil n0
  have K0 : Keep h0 h0 [] := Keep.refl h0 _
  have pre0 : ∀ t, Steps p.tables e below (s₁.setTop (mkF m 0 #[.val (.int p0), .val (.int p1), .unset, .unset, .unset, .unset, .unset, .unset] [])) t → Steps p.tables e below (s₁.setTop (entryFrame m #[(.int p0), (.int p1)] maxLocals)) t := fun t k => castTop (ef_0 m p0 p1) k
  obtain ⟨v2_7, hv2_7⟩ : ∃ z : Int32, z = ((p0 &&& (2147483647 : Int32)) % (1000000000 : Int32)) := ⟨_, rfl⟩
  obtain ⟨v3_11, hv3_11⟩ : ∃ z : Int32, z = (p1 &&& (3 : Int32)) := ⟨_, rfl⟩
  have pre1 : ∀ t, Steps p.tables e below (s₁.setTop (mkF m 13 #[.val (.int p0), .val (.int p1), .val (.int v2_7), .val (.int v3_11), .unset, .unset, .unset, .unset] [(.int v3_11)])) t → Steps p.tables e below (s₁.setTop (entryFrame m #[(.int p0), (.int p1)] maxLocals)) t := by
    intro t k
    refine pre0 t ?_
    show Steps p.tables e below (s₁.setTop (mkF m 0 #[.val (.int p0), .val (.int p1), .unset, .unset, .unset, .unset, .unset, .unset] [])) _
    refine XS.iloadN X0.here hx rfl (hb hby at_0) rfl  ?_
    show Steps p.tables e below (s₁.setTop (mkF m 1 #[.val (.int p0), .val (.int p1), .unset, .unset, .unset, .unset, .unset, .unset] [(.int p0)])) _
    refine X0.ldcInt hx hown (mvT hZ (hw _ (List.mem_of_getElem? (i := 0) rfl))) (g := (mkF m 1 #[.val (.int p0), .val (.int p1), .unset, .unset, .unset, .unset, .unset, .unset] [(.int p0)])) rfl (hb hby at_1) _ ?_
    show Steps p.tables e below (s₁.setTop (mkF m 3 #[.val (.int p0), .val (.int p1), .unset, .unset, .unset, .unset, .unset, .unset] [(.int (2147483647 : Int32)), (.int p0)])) _
    refine XS.iand X0.here hx rfl (hb hby at_3) rfl ?_
    show Steps p.tables e below (s₁.setTop (mkF m 4 #[.val (.int p0), .val (.int p1), .unset, .unset, .unset, .unset, .unset, .unset] [(.int (p0 &&& (2147483647 : Int32)))])) _
    refine X0.ldcInt hx hown (mvT hZ (hw _ (List.mem_of_getElem? (i := 1) rfl))) (g := (mkF m 4 #[.val (.int p0), .val (.int p1), .unset, .unset, .unset, .unset, .unset, .unset] [(.int (p0 &&& (2147483647 : Int32)))])) rfl (hb hby at_4) _ ?_
    show Steps p.tables e below (s₁.setTop (mkF m 6 #[.val (.int p0), .val (.int p1), .unset, .unset, .unset, .unset, .unset, .unset] [(.int (1000000000 : Int32)), (.int (p0 &&& (2147483647 : Int32)))])) _
    refine iremM X0 hx rfl (hb hby at_6) rfl (by decide) ?_
    show Steps p.tables e below (s₁.setTop (mkF m 7 #[.val (.int p0), .val (.int p1), .unset, .unset, .unset, .unset, .unset, .unset] [(.int ((p0 &&& (2147483647 : Int32)) % (1000000000 : Int32)))])) _
    refine XS.istoreN X0.here hx rfl (hb hby at_7) rfl (l' := #[.val (.int p0), .val (.int p1), .val (.int v2_7), .unset, .unset, .unset, .unset, .unset]) (by rw [hv2_7]; rfl) ?_
    show Steps p.tables e below (s₁.setTop (mkF m 8 #[.val (.int p0), .val (.int p1), .val (.int v2_7), .unset, .unset, .unset, .unset, .unset] [])) _
    refine XS.iloadN X0.here hx rfl (hb hby at_8) rfl  ?_
    show Steps p.tables e below (s₁.setTop (mkF m 9 #[.val (.int p0), .val (.int p1), .val (.int v2_7), .unset, .unset, .unset, .unset, .unset] [(.int p1)])) _
    refine XS.iconst X0.here hx rfl (hb hby at_9) ?_
    show Steps p.tables e below (s₁.setTop (mkF m 10 #[.val (.int p0), .val (.int p1), .val (.int v2_7), .unset, .unset, .unset, .unset, .unset] [(.int (3 : Int32)), (.int p1)])) _
    refine XS.iand X0.here hx rfl (hb hby at_10) rfl ?_
    show Steps p.tables e below (s₁.setTop (mkF m 11 #[.val (.int p0), .val (.int p1), .val (.int v2_7), .unset, .unset, .unset, .unset, .unset] [(.int (p1 &&& (3 : Int32)))])) _
    refine XS.istoreN X0.here hx rfl (hb hby at_11) rfl (l' := #[.val (.int p0), .val (.int p1), .val (.int v2_7), .val (.int v3_11), .unset, .unset, .unset, .unset]) (by rw [hv3_11]; rfl) ?_
    show Steps p.tables e below (s₁.setTop (mkF m 12 #[.val (.int p0), .val (.int p1), .val (.int v2_7), .val (.int v3_11), .unset, .unset, .unset, .unset] [])) _
    refine XS.iloadN X0.here hx rfl (hb hby at_12) rfl  ?_
    exact k
  obtain ⟨m4_61, hm4_61⟩ : ∃ z : Int32, z = (if v3_11 = (0 : Int32) then v2_7 else (if v3_11 = (1 : Int32) then ((v2_7 / (1000 : Int32)) * (1000 : Int32)) else (if v3_11 = (2 : Int32) then ((v2_7 / (1000000 : Int32)) * (1000000 : Int32)) else (0 : Int32)))) := ⟨_, rfl⟩
  have pre2 : ∀ t, Steps p.tables e below (s₁.setTop (mkF m 61 #[.val (.int p0), .val (.int p1), .val (.int v2_7), .val (.int v3_11), .val (.int m4_61), .unset, .unset, .unset] [])) t → Steps p.tables e below (s₁.setTop (entryFrame m #[(.int p0), (.int p1)] maxLocals)) t := by
    intro t k
    refine pre1 t ?_
    by_cases hc13 : v3_11 = (0 : Int32)
    · show Steps p.tables e below (s₁.setTop (mkF m 13 #[.val (.int p0), .val (.int p1), .val (.int v2_7), .val (.int v3_11), .unset, .unset, .unset, .unset] [(.int v3_11)])) _
      refine XS.ifNo X0.here hx rfl (hb hby at_13) rfl ((if0 _ _).trans (teq hc13).2) ?_
      show Steps p.tables e below (s₁.setTop (mkF m 16 #[.val (.int p0), .val (.int p1), .val (.int v2_7), .val (.int v3_11), .unset, .unset, .unset, .unset] [])) _
      refine XS.iloadN X0.here hx rfl (hb hby at_16) rfl  ?_
      show Steps p.tables e below (s₁.setTop (mkF m 17 #[.val (.int p0), .val (.int p1), .val (.int v2_7), .val (.int v3_11), .unset, .unset, .unset, .unset] [(.int v2_7)])) _
      refine XS.istore X0.here hx rfl (hb hby at_17) rfl (l' := #[.val (.int p0), .val (.int p1), .val (.int v2_7), .val (.int v3_11), .val (.int v2_7), .unset, .unset, .unset]) rfl ?_
      show Steps p.tables e below (s₁.setTop (mkF m 19 #[.val (.int p0), .val (.int p1), .val (.int v2_7), .val (.int v3_11), .val (.int v2_7), .unset, .unset, .unset] [])) _
      refine XS.goto X0.here hx rfl (pc0 := 19) (pc' := 61) rfl (hb hby at_19) (by decide) (by decide) ?_
      have qm4_61 : m4_61 = v2_7 := by rw [hm4_61, if_pos hc13]
      rw [qm4_61] at k
      exact k
    · show Steps p.tables e below (s₁.setTop (mkF m 13 #[.val (.int p0), .val (.int p1), .val (.int v2_7), .val (.int v3_11), .unset, .unset, .unset, .unset] [(.int v3_11)])) _
      refine XS.ifYes X0.here hx rfl (pc0 := 13) (pc' := 22) rfl (hb hby at_13) rfl ((if0 _ _).trans (feq hc13).2) (by decide) (by decide) ?_
      show Steps p.tables e below (s₁.setTop (mkF m 22 #[.val (.int p0), .val (.int p1), .val (.int v2_7), .val (.int v3_11), .unset, .unset, .unset, .unset] [])) _
      refine XS.iloadN X0.here hx rfl (hb hby at_22) rfl  ?_
      show Steps p.tables e below (s₁.setTop (mkF m 23 #[.val (.int p0), .val (.int p1), .val (.int v2_7), .val (.int v3_11), .unset, .unset, .unset, .unset] [(.int v3_11)])) _
      refine XS.iconst X0.here hx rfl (hb hby at_23) ?_
      by_cases hc24 : v3_11 = (1 : Int32)
      · show Steps p.tables e below (s₁.setTop (mkF m 24 #[.val (.int p0), .val (.int p1), .val (.int v2_7), .val (.int v3_11), .unset, .unset, .unset, .unset] [(.int (1 : Int32)), (.int v3_11)])) _
        refine XS.icmpNo X0.here hx rfl (hb hby at_24) rfl (teq hc24).2 ?_
        show Steps p.tables e below (s₁.setTop (mkF m 27 #[.val (.int p0), .val (.int p1), .val (.int v2_7), .val (.int v3_11), .unset, .unset, .unset, .unset] [])) _
        refine XS.iloadN X0.here hx rfl (hb hby at_27) rfl  ?_
        show Steps p.tables e below (s₁.setTop (mkF m 28 #[.val (.int p0), .val (.int p1), .val (.int v2_7), .val (.int v3_11), .unset, .unset, .unset, .unset] [(.int v2_7)])) _
        refine XS.sipush X0.here hx rfl (hb hby at_28) ?_
        show Steps p.tables e below (s₁.setTop (mkF m 31 #[.val (.int p0), .val (.int p1), .val (.int v2_7), .val (.int v3_11), .unset, .unset, .unset, .unset] [(.int (1000 : Int32)), (.int v2_7)])) _
        refine XS.idiv X0.here hx rfl (hb hby at_31) rfl (by decide) ?_
        show Steps p.tables e below (s₁.setTop (mkF m 32 #[.val (.int p0), .val (.int p1), .val (.int v2_7), .val (.int v3_11), .unset, .unset, .unset, .unset] [(.int (v2_7 / (1000 : Int32)))])) _
        refine XS.sipush X0.here hx rfl (hb hby at_32) ?_
        show Steps p.tables e below (s₁.setTop (mkF m 35 #[.val (.int p0), .val (.int p1), .val (.int v2_7), .val (.int v3_11), .unset, .unset, .unset, .unset] [(.int (1000 : Int32)), (.int (v2_7 / (1000 : Int32)))])) _
        refine XS.imul X0.here hx rfl (hb hby at_35) rfl ?_
        show Steps p.tables e below (s₁.setTop (mkF m 36 #[.val (.int p0), .val (.int p1), .val (.int v2_7), .val (.int v3_11), .unset, .unset, .unset, .unset] [(.int ((v2_7 / (1000 : Int32)) * (1000 : Int32)))])) _
        refine XS.istore X0.here hx rfl (hb hby at_36) rfl (l' := #[.val (.int p0), .val (.int p1), .val (.int v2_7), .val (.int v3_11), .val (.int ((v2_7 / (1000 : Int32)) * (1000 : Int32))), .unset, .unset, .unset]) rfl ?_
        show Steps p.tables e below (s₁.setTop (mkF m 38 #[.val (.int p0), .val (.int p1), .val (.int v2_7), .val (.int v3_11), .val (.int ((v2_7 / (1000 : Int32)) * (1000 : Int32))), .unset, .unset, .unset] [])) _
        refine XS.goto X0.here hx rfl (pc0 := 38) (pc' := 61) rfl (hb hby at_38) (by decide) (by decide) ?_
        have qm4_61 : m4_61 = ((v2_7 / (1000 : Int32)) * (1000 : Int32)) := by rw [hm4_61, if_neg hc13, if_pos hc24]
        rw [qm4_61] at k
        exact k
      · show Steps p.tables e below (s₁.setTop (mkF m 24 #[.val (.int p0), .val (.int p1), .val (.int v2_7), .val (.int v3_11), .unset, .unset, .unset, .unset] [(.int (1 : Int32)), (.int v3_11)])) _
        refine XS.icmpYes X0.here hx rfl (pc0 := 24) (pc' := 41) rfl (hb hby at_24) rfl (feq hc24).2 (by decide) (by decide) ?_
        show Steps p.tables e below (s₁.setTop (mkF m 41 #[.val (.int p0), .val (.int p1), .val (.int v2_7), .val (.int v3_11), .unset, .unset, .unset, .unset] [])) _
        refine XS.iloadN X0.here hx rfl (hb hby at_41) rfl  ?_
        show Steps p.tables e below (s₁.setTop (mkF m 42 #[.val (.int p0), .val (.int p1), .val (.int v2_7), .val (.int v3_11), .unset, .unset, .unset, .unset] [(.int v3_11)])) _
        refine XS.iconst X0.here hx rfl (hb hby at_42) ?_
        by_cases hc43 : v3_11 = (2 : Int32)
        · show Steps p.tables e below (s₁.setTop (mkF m 43 #[.val (.int p0), .val (.int p1), .val (.int v2_7), .val (.int v3_11), .unset, .unset, .unset, .unset] [(.int (2 : Int32)), (.int v3_11)])) _
          refine XS.icmpNo X0.here hx rfl (hb hby at_43) rfl (teq hc43).2 ?_
          show Steps p.tables e below (s₁.setTop (mkF m 46 #[.val (.int p0), .val (.int p1), .val (.int v2_7), .val (.int v3_11), .unset, .unset, .unset, .unset] [])) _
          refine XS.iloadN X0.here hx rfl (hb hby at_46) rfl  ?_
          show Steps p.tables e below (s₁.setTop (mkF m 47 #[.val (.int p0), .val (.int p1), .val (.int v2_7), .val (.int v3_11), .unset, .unset, .unset, .unset] [(.int v2_7)])) _
          refine X0.ldcInt hx hown (mvT hZ (hw _ (List.mem_of_getElem? (i := 14) rfl))) (g := (mkF m 47 #[.val (.int p0), .val (.int p1), .val (.int v2_7), .val (.int v3_11), .unset, .unset, .unset, .unset] [(.int v2_7)])) rfl (hb hby at_47) _ ?_
          show Steps p.tables e below (s₁.setTop (mkF m 49 #[.val (.int p0), .val (.int p1), .val (.int v2_7), .val (.int v3_11), .unset, .unset, .unset, .unset] [(.int (1000000 : Int32)), (.int v2_7)])) _
          refine XS.idiv X0.here hx rfl (hb hby at_49) rfl (by decide) ?_
          show Steps p.tables e below (s₁.setTop (mkF m 50 #[.val (.int p0), .val (.int p1), .val (.int v2_7), .val (.int v3_11), .unset, .unset, .unset, .unset] [(.int (v2_7 / (1000000 : Int32)))])) _
          refine X0.ldcInt hx hown (mvT hZ (hw _ (List.mem_of_getElem? (i := 14) rfl))) (g := (mkF m 50 #[.val (.int p0), .val (.int p1), .val (.int v2_7), .val (.int v3_11), .unset, .unset, .unset, .unset] [(.int (v2_7 / (1000000 : Int32)))])) rfl (hb hby at_50) _ ?_
          show Steps p.tables e below (s₁.setTop (mkF m 52 #[.val (.int p0), .val (.int p1), .val (.int v2_7), .val (.int v3_11), .unset, .unset, .unset, .unset] [(.int (1000000 : Int32)), (.int (v2_7 / (1000000 : Int32)))])) _
          refine XS.imul X0.here hx rfl (hb hby at_52) rfl ?_
          show Steps p.tables e below (s₁.setTop (mkF m 53 #[.val (.int p0), .val (.int p1), .val (.int v2_7), .val (.int v3_11), .unset, .unset, .unset, .unset] [(.int ((v2_7 / (1000000 : Int32)) * (1000000 : Int32)))])) _
          refine XS.istore X0.here hx rfl (hb hby at_53) rfl (l' := #[.val (.int p0), .val (.int p1), .val (.int v2_7), .val (.int v3_11), .val (.int ((v2_7 / (1000000 : Int32)) * (1000000 : Int32))), .unset, .unset, .unset]) rfl ?_
          show Steps p.tables e below (s₁.setTop (mkF m 55 #[.val (.int p0), .val (.int p1), .val (.int v2_7), .val (.int v3_11), .val (.int ((v2_7 / (1000000 : Int32)) * (1000000 : Int32))), .unset, .unset, .unset] [])) _
          refine XS.goto X0.here hx rfl (pc0 := 55) (pc' := 61) rfl (hb hby at_55) (by decide) (by decide) ?_
          have qm4_61 : m4_61 = ((v2_7 / (1000000 : Int32)) * (1000000 : Int32)) := by rw [hm4_61, if_neg hc13, if_neg hc24, if_pos hc43]
          rw [qm4_61] at k
          exact k
        · show Steps p.tables e below (s₁.setTop (mkF m 43 #[.val (.int p0), .val (.int p1), .val (.int v2_7), .val (.int v3_11), .unset, .unset, .unset, .unset] [(.int (2 : Int32)), (.int v3_11)])) _
          refine XS.icmpYes X0.here hx rfl (pc0 := 43) (pc' := 58) rfl (hb hby at_43) rfl (feq hc43).2 (by decide) (by decide) ?_
          show Steps p.tables e below (s₁.setTop (mkF m 58 #[.val (.int p0), .val (.int p1), .val (.int v2_7), .val (.int v3_11), .unset, .unset, .unset, .unset] [])) _
          refine XS.iconst X0.here hx rfl (hb hby at_58) ?_
          show Steps p.tables e below (s₁.setTop (mkF m 59 #[.val (.int p0), .val (.int p1), .val (.int v2_7), .val (.int v3_11), .unset, .unset, .unset, .unset] [(.int (0 : Int32))])) _
          refine XS.istore X0.here hx rfl (hb hby at_59) rfl (l' := #[.val (.int p0), .val (.int p1), .val (.int v2_7), .val (.int v3_11), .val (.int (0 : Int32)), .unset, .unset, .unset]) rfl ?_
          have qm4_61 : m4_61 = (0 : Int32) := by rw [hm4_61, if_neg hc13, if_neg hc24, if_neg hc43]
          rw [qm4_61] at k
          exact k
  have pre4 : ∀ t, Steps p.tables e below (s₁.setTop (mkF m 63 #[.val (.int p0), .val (.int p1), .val (.int v2_7), .val (.int v3_11), .val (.int m4_61), .unset, .unset, .unset] [(.int m4_61)])) t → Steps p.tables e below (s₁.setTop (entryFrame m #[(.int p0), (.int p1)] maxLocals)) t := by
    intro t k
    refine pre2 t ?_
    show Steps p.tables e below (s₁.setTop (mkF m 61 #[.val (.int p0), .val (.int p1), .val (.int v2_7), .val (.int v3_11), .val (.int m4_61), .unset, .unset, .unset] [])) _
    refine XS.iload X0.here hx rfl (hb hby at_61) rfl  ?_
    exact k
  obtain ⟨_, _, ⟨T3, L3, k3, n3⟩, -, X3, ⟨Lc3, hQ3, l3, y3, z3⟩, st3⟩ := Jvm.LawKit.callS X0 hx (y := (⟨"com/example/dayt/dayt/text/TextForm", "fractionDigits", "(I)I"⟩ : MethodName)) hown (mvT hZ (hw _ (List.mem_of_getElem? (i := 2) rfl))) (mvT hZ (hw _ (List.mem_of_getElem? (i := 3) rfl))) (mvT hZ (hw _ (List.mem_of_getElem? (i := 4) rfl))) (mvT hZ (hw _ (List.mem_of_getElem? (i := 5) rfl))) (by decide) (backOf (W := 0) (rm_1 l Z a0 hw [] m4_61 h0 n0 Z0 ) hZ (hw _ (List.mem_of_getElem? (i := 5) rfl)) (hw _ (List.mem_of_getElem? (i := 4) rfl)) (by decide) (by decide)) (g := (mkF m 63 #[.val (.int p0), .val (.int p1), .val (.int v2_7), .val (.int v3_11), .val (.int m4_61), .unset, .unset, .unset] [(.int m4_61)])) rfl (by rw [hml]; rfl) (argsL := [(.int m4_61)]) (rest := []) (lenOf pd_0 rfl) rfl (by show 2 * 0 + _ ≤ _; exact Nat.le_of_eq rfl) (hb hby at_63) (fun _ _ => ⟨rfl, e0, (by decide : 0 + 0 ≤ _), (by decide : 0 + 0 ≤ _)⟩)
  dsimp only [Pt.U, Pt.locs, Pt.cells, Pt.slots] at X3 l3 y3 z3 st3 hQ3
  subst l3 y3 z3
  obtain ⟨rfl, N3q, e3⟩ := hQ3
  have N3 := Fr.app N0 N3q
  obtain ⟨v5_66, hv5_66⟩ : ∃ z : Int32, z = (f_1 m4_61) := ⟨_, rfl⟩
  have pre5 : ∀ t, Steps p.tables e below (T3.setTop (mkF m 70 #[.val (.int p0), .val (.int p1), .val (.int v2_7), .val (.int v3_11), .val (.int m4_61), .val (.int v5_66), .unset, .unset] [(.int v5_66)])) t → Steps p.tables e below (s₁.setTop (entryFrame m #[(.int p0), (.int p1)] maxLocals)) t := by
    intro t k
    refine pre4 t ?_
    show Steps p.tables e below (s₁.setTop (mkF m 63 #[.val (.int p0), .val (.int p1), .val (.int v2_7), .val (.int v3_11), .val (.int m4_61), .unset, .unset, .unset] [(.int m4_61)])) _
    refine st3 _ ?_
    show Steps p.tables e below (T3.setTop (mkF m 66 #[.val (.int p0), .val (.int p1), .val (.int v2_7), .val (.int v3_11), .val (.int m4_61), .unset, .unset, .unset] [(.int (f_1 m4_61))])) _
    refine XS.istore X3.here hx rfl (hb hby at_66) rfl (l' := #[.val (.int p0), .val (.int p1), .val (.int v2_7), .val (.int v3_11), .val (.int m4_61), .val (.int v5_66), .unset, .unset]) (by rw [hv5_66]; rfl) ?_
    show Steps p.tables e below (T3.setTop (mkF m 68 #[.val (.int p0), .val (.int p1), .val (.int v2_7), .val (.int v3_11), .val (.int m4_61), .val (.int v5_66), .unset, .unset] [])) _
    refine XS.iload X3.here hx rfl (hb hby at_68) rfl  ?_
    exact k
  by_cases hc70 : v5_66 = (0 : Int32)
  · have pre7 : ∀ t, Steps p.tables e below (T3.setTop (mkF m 99 #[.val (.int p0), .val (.int p1), .val (.int v2_7), .val (.int v3_11), .val (.int m4_61), .val (.int v5_66), .unset, .unset] [(.int v5_66), (.int m4_61)])) t → Steps p.tables e below (s₁.setTop (entryFrame m #[(.int p0), (.int p1)] maxLocals)) t := by
      intro t k
      refine pre5 t ?_
      show Steps p.tables e below (T3.setTop (mkF m 70 #[.val (.int p0), .val (.int p1), .val (.int v2_7), .val (.int v3_11), .val (.int m4_61), .val (.int v5_66), .unset, .unset] [(.int v5_66)])) _
      refine XS.ifYes X3.here hx rfl (pc0 := 70) (pc' := 95) rfl (hb hby at_70) rfl ((if0 _ _).trans (teq hc70).1) (by decide) (by decide) ?_
      show Steps p.tables e below (T3.setTop (mkF m 95 #[.val (.int p0), .val (.int p1), .val (.int v2_7), .val (.int v3_11), .val (.int m4_61), .val (.int v5_66), .unset, .unset] [])) _
      refine XS.iload X3.here hx rfl (hb hby at_95) rfl  ?_
      show Steps p.tables e below (T3.setTop (mkF m 97 #[.val (.int p0), .val (.int p1), .val (.int v2_7), .val (.int v3_11), .val (.int m4_61), .val (.int v5_66), .unset, .unset] [(.int m4_61)])) _
      refine XS.iload X3.here hx rfl (hb hby at_97) rfl  ?_
      exact k
    obtain ⟨_, _, ⟨T6, L6, k6, n6⟩, -, X6, ⟨Lc6, hQ6, l6, y6, z6⟩, st6⟩ := Jvm.LawKit.callS X3 hx (y := (⟨"com/example/dayt/dayt/text/TextFormFractionDigitsPinLaw", "exact", "(II)Z"⟩ : MethodName)) hown (mvT hZ (hw _ (List.mem_of_getElem? (i := 6) rfl))) (mvT hZ (hw _ (List.mem_of_getElem? (i := 7) rfl))) (mvT hZ (hw _ (List.mem_of_getElem? (i := 8) rfl))) (mvT hZ (hw _ (List.mem_of_getElem? (i := 9) rfl))) (by decide) (backOf (W := 0) (rm_2 l Z a0 hw [] m4_61 v5_66 h0 n0 Z0 ) hZ (hw _ (List.mem_of_getElem? (i := 9) rfl)) (hw _ (List.mem_of_getElem? (i := 8) rfl)) (by decide) (by decide)) (g := (mkF m 99 #[.val (.int p0), .val (.int p1), .val (.int v2_7), .val (.int v3_11), .val (.int m4_61), .val (.int v5_66), .unset, .unset] [(.int v5_66), (.int m4_61)])) rfl (by rw [hml]; rfl) (argsL := [(.int m4_61), (.int v5_66)]) (rest := []) (lenOf pd_1 rfl) rfl (by show 2 * 0 + _ ≤ _; exact Nat.le_of_eq rfl) (hb hby at_99) (fun _ _ => ⟨rfl, e3, (by decide : 0 + 0 ≤ _), (by decide : 0 + 0 ≤ _)⟩)
    dsimp only [Pt.U, Pt.locs, Pt.cells, Pt.slots] at X6 l6 y6 z6 st6 hQ6
    subst l6 y6 z6
    obtain ⟨rfl, N6q, e6⟩ := hQ6
    have N6 := Fr.app N3 N6q
    obtain ⟨v6_102, hv6_102⟩ : ∃ z : Int32, z = (f_2 m4_61 v5_66) := ⟨_, rfl⟩
    have pre8 : ∀ t, Steps p.tables e below (T6.setTop (mkF m 130 #[.val (.int p0), .val (.int p1), .val (.int v2_7), .val (.int v3_11), .val (.int m4_61), .val (.int v5_66), .val (.int v6_102), .val (.int (1 : Int32))] [(.int v6_102)])) t → Steps p.tables e below (s₁.setTop (entryFrame m #[(.int p0), (.int p1)] maxLocals)) t := by
      intro t k
      refine pre7 t ?_
      show Steps p.tables e below (T3.setTop (mkF m 99 #[.val (.int p0), .val (.int p1), .val (.int v2_7), .val (.int v3_11), .val (.int m4_61), .val (.int v5_66), .unset, .unset] [(.int v5_66), (.int m4_61)])) _
      refine st6 _ ?_
      show Steps p.tables e below (T6.setTop (mkF m 102 #[.val (.int p0), .val (.int p1), .val (.int v2_7), .val (.int v3_11), .val (.int m4_61), .val (.int v5_66), .unset, .unset] [(.int (f_2 m4_61 v5_66))])) _
      refine XS.istore X6.here hx rfl (hb hby at_102) rfl (l' := #[.val (.int p0), .val (.int p1), .val (.int v2_7), .val (.int v3_11), .val (.int m4_61), .val (.int v5_66), .val (.int v6_102), .unset]) (by rw [hv6_102]; rfl) ?_
      show Steps p.tables e below (T6.setTop (mkF m 104 #[.val (.int p0), .val (.int p1), .val (.int v2_7), .val (.int v3_11), .val (.int m4_61), .val (.int v5_66), .val (.int v6_102), .unset] [])) _
      refine XS.iload X6.here hx rfl (hb hby at_104) rfl  ?_
      show Steps p.tables e below (T6.setTop (mkF m 106 #[.val (.int p0), .val (.int p1), .val (.int v2_7), .val (.int v3_11), .val (.int m4_61), .val (.int v5_66), .val (.int v6_102), .unset] [(.int v5_66)])) _
      refine XS.ifYes X6.here hx rfl (pc0 := 106) (pc' := 121) rfl (hb hby at_106) rfl ((if0 _ _).trans (teq hc70).1) (by decide) (by decide) ?_
      show Steps p.tables e below (T6.setTop (mkF m 121 #[.val (.int p0), .val (.int p1), .val (.int v2_7), .val (.int v3_11), .val (.int m4_61), .val (.int v5_66), .val (.int v6_102), .unset] [])) _
      refine XS.iconst X6.here hx rfl (hb hby at_121) ?_
      show Steps p.tables e below (T6.setTop (mkF m 122 #[.val (.int p0), .val (.int p1), .val (.int v2_7), .val (.int v3_11), .val (.int m4_61), .val (.int v5_66), .val (.int v6_102), .unset] [(.int (1 : Int32))])) _
      refine XS.goto X6.here hx rfl (pc0 := 122) (pc' := 126) rfl (hb hby at_122) (by decide) (by decide) ?_
      show Steps p.tables e below (T6.setTop (mkF m 126 #[.val (.int p0), .val (.int p1), .val (.int v2_7), .val (.int v3_11), .val (.int m4_61), .val (.int v5_66), .val (.int v6_102), .unset] [(.int (1 : Int32))])) _
      refine XS.istore X6.here hx rfl (hb hby at_126) rfl (l' := #[.val (.int p0), .val (.int p1), .val (.int v2_7), .val (.int v3_11), .val (.int m4_61), .val (.int v5_66), .val (.int v6_102), .val (.int (1 : Int32))]) rfl ?_
      show Steps p.tables e below (T6.setTop (mkF m 128 #[.val (.int p0), .val (.int p1), .val (.int v2_7), .val (.int v3_11), .val (.int m4_61), .val (.int v5_66), .val (.int v6_102), .val (.int (1 : Int32))] [])) _
      refine XS.iload X6.here hx rfl (hb hby at_128) rfl  ?_
      exact k
    obtain ⟨ms0_143, hms0_143⟩ : ∃ z : Int32, z = (if v6_102 = (0 : Int32) then (0 : Int32) else (1 : Int32)) := ⟨_, rfl⟩
    have pre9 : ∀ t, Steps p.tables e below (T6.setTop (mkF m 143 #[.val (.int p0), .val (.int p1), .val (.int v2_7), .val (.int v3_11), .val (.int m4_61), .val (.int v5_66), .val (.int v6_102), .val (.int (1 : Int32))] [(.int ms0_143)])) t → Steps p.tables e below (s₁.setTop (entryFrame m #[(.int p0), (.int p1)] maxLocals)) t := by
      intro t k
      refine pre8 t ?_
      by_cases hc130 : v6_102 = (0 : Int32)
      · show Steps p.tables e below (T6.setTop (mkF m 130 #[.val (.int p0), .val (.int p1), .val (.int v2_7), .val (.int v3_11), .val (.int m4_61), .val (.int v5_66), .val (.int v6_102), .val (.int (1 : Int32))] [(.int v6_102)])) _
        refine XS.ifYes X6.here hx rfl (pc0 := 130) (pc' := 142) rfl (hb hby at_130) rfl ((if0 _ _).trans (teq hc130).1) (by decide) (by decide) ?_
        show Steps p.tables e below (T6.setTop (mkF m 142 #[.val (.int p0), .val (.int p1), .val (.int v2_7), .val (.int v3_11), .val (.int m4_61), .val (.int v5_66), .val (.int v6_102), .val (.int (1 : Int32))] [])) _
        refine XS.iconst X6.here hx rfl (hb hby at_142) ?_
        have qms0_143 : ms0_143 = (0 : Int32) := by rw [hms0_143, if_pos hc130]
        rw [qms0_143] at k
        exact k
      · show Steps p.tables e below (T6.setTop (mkF m 130 #[.val (.int p0), .val (.int p1), .val (.int v2_7), .val (.int v3_11), .val (.int m4_61), .val (.int v5_66), .val (.int v6_102), .val (.int (1 : Int32))] [(.int v6_102)])) _
        refine XS.ifNo X6.here hx rfl (hb hby at_130) rfl ((if0 _ _).trans (feq hc130).1) ?_
        show Steps p.tables e below (T6.setTop (mkF m 133 #[.val (.int p0), .val (.int p1), .val (.int v2_7), .val (.int v3_11), .val (.int m4_61), .val (.int v5_66), .val (.int v6_102), .val (.int (1 : Int32))] [])) _
        refine XS.iload X6.here hx rfl (hb hby at_133) rfl  ?_
        show Steps p.tables e below (T6.setTop (mkF m 135 #[.val (.int p0), .val (.int p1), .val (.int v2_7), .val (.int v3_11), .val (.int m4_61), .val (.int v5_66), .val (.int v6_102), .val (.int (1 : Int32))] [(.int (1 : Int32))])) _
        refine XS.ifNo X6.here hx rfl (hb hby at_135) rfl ((if0 _ _).trans (feq (by decide : ¬ ((1 : Int32) = (0 : Int32)))).1) ?_
        show Steps p.tables e below (T6.setTop (mkF m 138 #[.val (.int p0), .val (.int p1), .val (.int v2_7), .val (.int v3_11), .val (.int m4_61), .val (.int v5_66), .val (.int v6_102), .val (.int (1 : Int32))] [])) _
        refine XS.iconst X6.here hx rfl (hb hby at_138) ?_
        show Steps p.tables e below (T6.setTop (mkF m 139 #[.val (.int p0), .val (.int p1), .val (.int v2_7), .val (.int v3_11), .val (.int m4_61), .val (.int v5_66), .val (.int v6_102), .val (.int (1 : Int32))] [(.int (1 : Int32))])) _
        refine XS.goto X6.here hx rfl (pc0 := 139) (pc' := 143) rfl (hb hby at_139) (by decide) (by decide) ?_
        have qms0_143 : ms0_143 = (1 : Int32) := by rw [hms0_143, if_neg hc130]
        rw [qms0_143] at k
        exact k
    have hnar : nar .boolean ms0_143 = ms0_143 := by rw [hms0_143]; (repeat' split) <;> rfl
    obtain ⟨fs, hr, hrun, hended, hW, hsame⟩ := X6.leave (v := some (.int ms0_143)) (fun h => by rw [Bd.returns] at h; cases h) (BodyLoose.notSynchronized Bd)
    refine ⟨_, _, pre9 _ ?_, hrun, hended, _, _, rfl, ?_, ⟨_, rfl⟩, hW, hsame.mono (by decide) (by decide)⟩
    · show Steps p.tables e below (T6.setTop (mkF m 143 #[.val (.int p0), .val (.int p1), .val (.int v2_7), .val (.int v3_11), .val (.int m4_61), .val (.int v5_66), .val (.int v6_102), .val (.int (1 : Int32))] [(.int ms0_143)])) _
      exact retN X6 hx (t := .boolean) Bd.returns (by simp) (hb hby at_143) (by rw [hnar]; exact hr)
    · show Q_0 Z p0 p1 h0 n0 _ T6.heap _
      rw [e6]
      exact ⟨congrArg (fun z => some (Value.int z)) (by subst hv2_7 hv3_11 hm4_61 hv5_66 hv6_102 hms0_143; exact (if_pos hc70).symm : ms0_143 = f_0 p0 p1), N6, trivial⟩
  · have pre10 : ∀ t, Steps p.tables e below (T3.setTop (mkF m 76 #[.val (.int p0), .val (.int p1), .val (.int v2_7), .val (.int v3_11), .val (.int m4_61), .val (.int v5_66), .unset, .unset] [(.int (3 : Int32)), (.int v5_66)])) t → Steps p.tables e below (s₁.setTop (entryFrame m #[(.int p0), (.int p1)] maxLocals)) t := by
      intro t k
      refine pre5 t ?_
      show Steps p.tables e below (T3.setTop (mkF m 70 #[.val (.int p0), .val (.int p1), .val (.int v2_7), .val (.int v3_11), .val (.int m4_61), .val (.int v5_66), .unset, .unset] [(.int v5_66)])) _
      refine XS.ifNo X3.here hx rfl (hb hby at_70) rfl ((if0 _ _).trans (feq hc70).1) ?_
      show Steps p.tables e below (T3.setTop (mkF m 73 #[.val (.int p0), .val (.int p1), .val (.int v2_7), .val (.int v3_11), .val (.int m4_61), .val (.int v5_66), .unset, .unset] [])) _
      refine XS.iload X3.here hx rfl (hb hby at_73) rfl  ?_
      show Steps p.tables e below (T3.setTop (mkF m 75 #[.val (.int p0), .val (.int p1), .val (.int v2_7), .val (.int v3_11), .val (.int m4_61), .val (.int v5_66), .unset, .unset] [(.int v5_66)])) _
      refine XS.iconst X3.here hx rfl (hb hby at_75) ?_
      exact k
    by_cases hc76 : v5_66 = (3 : Int32)
    · have pre12 : ∀ t, Steps p.tables e below (T3.setTop (mkF m 99 #[.val (.int p0), .val (.int p1), .val (.int v2_7), .val (.int v3_11), .val (.int m4_61), .val (.int v5_66), .unset, .unset] [(.int v5_66), (.int m4_61)])) t → Steps p.tables e below (s₁.setTop (entryFrame m #[(.int p0), (.int p1)] maxLocals)) t := by
        intro t k
        refine pre10 t ?_
        show Steps p.tables e below (T3.setTop (mkF m 76 #[.val (.int p0), .val (.int p1), .val (.int v2_7), .val (.int v3_11), .val (.int m4_61), .val (.int v5_66), .unset, .unset] [(.int (3 : Int32)), (.int v5_66)])) _
        refine XS.icmpYes X3.here hx rfl (pc0 := 76) (pc' := 95) rfl (hb hby at_76) rfl (teq hc76).1 (by decide) (by decide) ?_
        show Steps p.tables e below (T3.setTop (mkF m 95 #[.val (.int p0), .val (.int p1), .val (.int v2_7), .val (.int v3_11), .val (.int m4_61), .val (.int v5_66), .unset, .unset] [])) _
        refine XS.iload X3.here hx rfl (hb hby at_95) rfl  ?_
        show Steps p.tables e below (T3.setTop (mkF m 97 #[.val (.int p0), .val (.int p1), .val (.int v2_7), .val (.int v3_11), .val (.int m4_61), .val (.int v5_66), .unset, .unset] [(.int m4_61)])) _
        refine XS.iload X3.here hx rfl (hb hby at_97) rfl  ?_
        exact k
      obtain ⟨_, _, ⟨T11, L11, k11, n11⟩, -, X11, ⟨Lc11, hQ11, l11, y11, z11⟩, st11⟩ := Jvm.LawKit.callS X3 hx (y := (⟨"com/example/dayt/dayt/text/TextFormFractionDigitsPinLaw", "exact", "(II)Z"⟩ : MethodName)) hown (mvT hZ (hw _ (List.mem_of_getElem? (i := 6) rfl))) (mvT hZ (hw _ (List.mem_of_getElem? (i := 7) rfl))) (mvT hZ (hw _ (List.mem_of_getElem? (i := 8) rfl))) (mvT hZ (hw _ (List.mem_of_getElem? (i := 9) rfl))) (by decide) (backOf (W := 0) (rm_2 l Z a0 hw [] m4_61 v5_66 h0 n0 Z0 ) hZ (hw _ (List.mem_of_getElem? (i := 9) rfl)) (hw _ (List.mem_of_getElem? (i := 8) rfl)) (by decide) (by decide)) (g := (mkF m 99 #[.val (.int p0), .val (.int p1), .val (.int v2_7), .val (.int v3_11), .val (.int m4_61), .val (.int v5_66), .unset, .unset] [(.int v5_66), (.int m4_61)])) rfl (by rw [hml]; rfl) (argsL := [(.int m4_61), (.int v5_66)]) (rest := []) (lenOf pd_1 rfl) rfl (by show 2 * 0 + _ ≤ _; exact Nat.le_of_eq rfl) (hb hby at_99) (fun _ _ => ⟨rfl, e3, (by decide : 0 + 0 ≤ _), (by decide : 0 + 0 ≤ _)⟩)
      dsimp only [Pt.U, Pt.locs, Pt.cells, Pt.slots] at X11 l11 y11 z11 st11 hQ11
      subst l11 y11 z11
      obtain ⟨rfl, N11q, e11⟩ := hQ11
      have N11 := Fr.app N3 N11q
      obtain ⟨v6_102, hv6_102⟩ : ∃ z : Int32, z = (f_2 m4_61 v5_66) := ⟨_, rfl⟩
      have pre14 : ∀ t, Steps p.tables e below (T11.setTop (mkF m 115 #[.val (.int p0), .val (.int p1), .val (.int v2_7), .val (.int v3_11), .val (.int m4_61), .val (.int v5_66), .val (.int v6_102), .unset] [(.int (v5_66 - (3 : Int32))), (.int m4_61)])) t → Steps p.tables e below (s₁.setTop (entryFrame m #[(.int p0), (.int p1)] maxLocals)) t := by
        intro t k
        refine pre12 t ?_
        show Steps p.tables e below (T3.setTop (mkF m 99 #[.val (.int p0), .val (.int p1), .val (.int v2_7), .val (.int v3_11), .val (.int m4_61), .val (.int v5_66), .unset, .unset] [(.int v5_66), (.int m4_61)])) _
        refine st11 _ ?_
        show Steps p.tables e below (T11.setTop (mkF m 102 #[.val (.int p0), .val (.int p1), .val (.int v2_7), .val (.int v3_11), .val (.int m4_61), .val (.int v5_66), .unset, .unset] [(.int (f_2 m4_61 v5_66))])) _
        refine XS.istore X11.here hx rfl (hb hby at_102) rfl (l' := #[.val (.int p0), .val (.int p1), .val (.int v2_7), .val (.int v3_11), .val (.int m4_61), .val (.int v5_66), .val (.int v6_102), .unset]) (by rw [hv6_102]; rfl) ?_
        show Steps p.tables e below (T11.setTop (mkF m 104 #[.val (.int p0), .val (.int p1), .val (.int v2_7), .val (.int v3_11), .val (.int m4_61), .val (.int v5_66), .val (.int v6_102), .unset] [])) _
        refine XS.iload X11.here hx rfl (hb hby at_104) rfl  ?_
        show Steps p.tables e below (T11.setTop (mkF m 106 #[.val (.int p0), .val (.int p1), .val (.int v2_7), .val (.int v3_11), .val (.int m4_61), .val (.int v5_66), .val (.int v6_102), .unset] [(.int v5_66)])) _
        refine XS.ifNo X11.here hx rfl (hb hby at_106) rfl ((if0 _ _).trans (feq hc70).1) ?_
        show Steps p.tables e below (T11.setTop (mkF m 109 #[.val (.int p0), .val (.int p1), .val (.int v2_7), .val (.int v3_11), .val (.int m4_61), .val (.int v5_66), .val (.int v6_102), .unset] [])) _
        refine XS.iload X11.here hx rfl (hb hby at_109) rfl  ?_
        show Steps p.tables e below (T11.setTop (mkF m 111 #[.val (.int p0), .val (.int p1), .val (.int v2_7), .val (.int v3_11), .val (.int m4_61), .val (.int v5_66), .val (.int v6_102), .unset] [(.int m4_61)])) _
        refine XS.iload X11.here hx rfl (hb hby at_111) rfl  ?_
        show Steps p.tables e below (T11.setTop (mkF m 113 #[.val (.int p0), .val (.int p1), .val (.int v2_7), .val (.int v3_11), .val (.int m4_61), .val (.int v5_66), .val (.int v6_102), .unset] [(.int v5_66), (.int m4_61)])) _
        refine XS.iconst X11.here hx rfl (hb hby at_113) ?_
        show Steps p.tables e below (T11.setTop (mkF m 114 #[.val (.int p0), .val (.int p1), .val (.int v2_7), .val (.int v3_11), .val (.int m4_61), .val (.int v5_66), .val (.int v6_102), .unset] [(.int (3 : Int32)), (.int v5_66), (.int m4_61)])) _
        refine XS.isub X11.here hx rfl (hb hby at_114) rfl ?_
        exact k
      obtain ⟨_, _, ⟨T13, L13, k13, n13⟩, -, X13, ⟨Lc13, hQ13, l13, y13, z13⟩, st13⟩ := Jvm.LawKit.callS X11 hx (y := (⟨"com/example/dayt/dayt/text/TextFormFractionDigitsPinLaw", "exact", "(II)Z"⟩ : MethodName)) hown (mvT hZ (hw _ (List.mem_of_getElem? (i := 6) rfl))) (mvT hZ (hw _ (List.mem_of_getElem? (i := 7) rfl))) (mvT hZ (hw _ (List.mem_of_getElem? (i := 8) rfl))) (mvT hZ (hw _ (List.mem_of_getElem? (i := 9) rfl))) (by decide) (backOf (W := 0) (rm_2 l Z a0 hw [] m4_61 (v5_66 - (3 : Int32)) h0 n0 Z0 ) hZ (hw _ (List.mem_of_getElem? (i := 9) rfl)) (hw _ (List.mem_of_getElem? (i := 8) rfl)) (by decide) (by decide)) (g := (mkF m 115 #[.val (.int p0), .val (.int p1), .val (.int v2_7), .val (.int v3_11), .val (.int m4_61), .val (.int v5_66), .val (.int v6_102), .unset] [(.int (v5_66 - (3 : Int32))), (.int m4_61)])) rfl (by rw [hml]; rfl) (argsL := [(.int m4_61), (.int (v5_66 - (3 : Int32)))]) (rest := []) (lenOf pd_1 rfl) rfl (by show 2 * 0 + _ ≤ _; exact Nat.le_of_eq rfl) (hb hby at_115) (fun _ _ => ⟨rfl, e11, (by decide : 0 + 0 ≤ _), (by decide : 0 + 0 ≤ _)⟩)
      dsimp only [Pt.U, Pt.locs, Pt.cells, Pt.slots] at X13 l13 y13 z13 st13 hQ13
      subst l13 y13 z13
      obtain ⟨rfl, N13q, e13⟩ := hQ13
      have N13 := Fr.app N11 N13q
      have pre15 : ∀ t, Steps p.tables e below (T13.setTop (mkF m 118 #[.val (.int p0), .val (.int p1), .val (.int v2_7), .val (.int v3_11), .val (.int m4_61), .val (.int v5_66), .val (.int v6_102), .unset] [(.int (f_2 m4_61 (v5_66 - (3 : Int32))))])) t → Steps p.tables e below (s₁.setTop (entryFrame m #[(.int p0), (.int p1)] maxLocals)) t := by
        intro t k
        refine pre14 t ?_
        show Steps p.tables e below (T11.setTop (mkF m 115 #[.val (.int p0), .val (.int p1), .val (.int v2_7), .val (.int v3_11), .val (.int m4_61), .val (.int v5_66), .val (.int v6_102), .unset] [(.int (v5_66 - (3 : Int32))), (.int m4_61)])) _
        refine st13 _ ?_
        exact k
      obtain ⟨ms0_126, hms0_126⟩ : ∃ z : Int32, z = (if (f_2 m4_61 (v5_66 - (3 : Int32))) = (0 : Int32) then (1 : Int32) else (0 : Int32)) := ⟨_, rfl⟩
      have pre16 : ∀ t, Steps p.tables e below (T13.setTop (mkF m 126 #[.val (.int p0), .val (.int p1), .val (.int v2_7), .val (.int v3_11), .val (.int m4_61), .val (.int v5_66), .val (.int v6_102), .unset] [(.int ms0_126)])) t → Steps p.tables e below (s₁.setTop (entryFrame m #[(.int p0), (.int p1)] maxLocals)) t := by
        intro t k
        refine pre15 t ?_
        by_cases hc118 : (f_2 m4_61 (v5_66 - (3 : Int32))) = (0 : Int32)
        · show Steps p.tables e below (T13.setTop (mkF m 118 #[.val (.int p0), .val (.int p1), .val (.int v2_7), .val (.int v3_11), .val (.int m4_61), .val (.int v5_66), .val (.int v6_102), .unset] [(.int (f_2 m4_61 (v5_66 - (3 : Int32))))])) _
          refine XS.ifNo X13.here hx rfl (hb hby at_118) rfl ((if0 _ _).trans (teq hc118).2) ?_
          show Steps p.tables e below (T13.setTop (mkF m 121 #[.val (.int p0), .val (.int p1), .val (.int v2_7), .val (.int v3_11), .val (.int m4_61), .val (.int v5_66), .val (.int v6_102), .unset] [])) _
          refine XS.iconst X13.here hx rfl (hb hby at_121) ?_
          show Steps p.tables e below (T13.setTop (mkF m 122 #[.val (.int p0), .val (.int p1), .val (.int v2_7), .val (.int v3_11), .val (.int m4_61), .val (.int v5_66), .val (.int v6_102), .unset] [(.int (1 : Int32))])) _
          refine XS.goto X13.here hx rfl (pc0 := 122) (pc' := 126) rfl (hb hby at_122) (by decide) (by decide) ?_
          have qms0_126 : ms0_126 = (1 : Int32) := by rw [hms0_126, if_pos hc118]
          rw [qms0_126] at k
          exact k
        · show Steps p.tables e below (T13.setTop (mkF m 118 #[.val (.int p0), .val (.int p1), .val (.int v2_7), .val (.int v3_11), .val (.int m4_61), .val (.int v5_66), .val (.int v6_102), .unset] [(.int (f_2 m4_61 (v5_66 - (3 : Int32))))])) _
          refine XS.ifYes X13.here hx rfl (pc0 := 118) (pc' := 125) rfl (hb hby at_118) rfl ((if0 _ _).trans (feq hc118).2) (by decide) (by decide) ?_
          show Steps p.tables e below (T13.setTop (mkF m 125 #[.val (.int p0), .val (.int p1), .val (.int v2_7), .val (.int v3_11), .val (.int m4_61), .val (.int v5_66), .val (.int v6_102), .unset] [])) _
          refine XS.iconst X13.here hx rfl (hb hby at_125) ?_
          have qms0_126 : ms0_126 = (0 : Int32) := by rw [hms0_126, if_neg hc118]
          rw [qms0_126] at k
          exact k
      have pre17 : ∀ t, Steps p.tables e below (T13.setTop (mkF m 130 #[.val (.int p0), .val (.int p1), .val (.int v2_7), .val (.int v3_11), .val (.int m4_61), .val (.int v5_66), .val (.int v6_102), .val (.int ms0_126)] [(.int v6_102)])) t → Steps p.tables e below (s₁.setTop (entryFrame m #[(.int p0), (.int p1)] maxLocals)) t := by
        intro t k
        refine pre16 t ?_
        show Steps p.tables e below (T13.setTop (mkF m 126 #[.val (.int p0), .val (.int p1), .val (.int v2_7), .val (.int v3_11), .val (.int m4_61), .val (.int v5_66), .val (.int v6_102), .unset] [(.int ms0_126)])) _
        refine XS.istore X13.here hx rfl (hb hby at_126) rfl (l' := #[.val (.int p0), .val (.int p1), .val (.int v2_7), .val (.int v3_11), .val (.int m4_61), .val (.int v5_66), .val (.int v6_102), .val (.int ms0_126)]) rfl ?_
        show Steps p.tables e below (T13.setTop (mkF m 128 #[.val (.int p0), .val (.int p1), .val (.int v2_7), .val (.int v3_11), .val (.int m4_61), .val (.int v5_66), .val (.int v6_102), .val (.int ms0_126)] [])) _
        refine XS.iload X13.here hx rfl (hb hby at_128) rfl  ?_
        exact k
      obtain ⟨ms0_143, hms0_143⟩ : ∃ z : Int32, z = (if v6_102 = (0 : Int32) then (0 : Int32) else (if ms0_126 = (0 : Int32) then (0 : Int32) else (1 : Int32))) := ⟨_, rfl⟩
      have pre18 : ∀ t, Steps p.tables e below (T13.setTop (mkF m 143 #[.val (.int p0), .val (.int p1), .val (.int v2_7), .val (.int v3_11), .val (.int m4_61), .val (.int v5_66), .val (.int v6_102), .val (.int ms0_126)] [(.int ms0_143)])) t → Steps p.tables e below (s₁.setTop (entryFrame m #[(.int p0), (.int p1)] maxLocals)) t := by
        intro t k
        refine pre17 t ?_
        by_cases hc130 : v6_102 = (0 : Int32)
        · show Steps p.tables e below (T13.setTop (mkF m 130 #[.val (.int p0), .val (.int p1), .val (.int v2_7), .val (.int v3_11), .val (.int m4_61), .val (.int v5_66), .val (.int v6_102), .val (.int ms0_126)] [(.int v6_102)])) _
          refine XS.ifYes X13.here hx rfl (pc0 := 130) (pc' := 142) rfl (hb hby at_130) rfl ((if0 _ _).trans (teq hc130).1) (by decide) (by decide) ?_
          show Steps p.tables e below (T13.setTop (mkF m 142 #[.val (.int p0), .val (.int p1), .val (.int v2_7), .val (.int v3_11), .val (.int m4_61), .val (.int v5_66), .val (.int v6_102), .val (.int ms0_126)] [])) _
          refine XS.iconst X13.here hx rfl (hb hby at_142) ?_
          have qms0_143 : ms0_143 = (0 : Int32) := by rw [hms0_143, if_pos hc130]
          rw [qms0_143] at k
          exact k
        · show Steps p.tables e below (T13.setTop (mkF m 130 #[.val (.int p0), .val (.int p1), .val (.int v2_7), .val (.int v3_11), .val (.int m4_61), .val (.int v5_66), .val (.int v6_102), .val (.int ms0_126)] [(.int v6_102)])) _
          refine XS.ifNo X13.here hx rfl (hb hby at_130) rfl ((if0 _ _).trans (feq hc130).1) ?_
          show Steps p.tables e below (T13.setTop (mkF m 133 #[.val (.int p0), .val (.int p1), .val (.int v2_7), .val (.int v3_11), .val (.int m4_61), .val (.int v5_66), .val (.int v6_102), .val (.int ms0_126)] [])) _
          refine XS.iload X13.here hx rfl (hb hby at_133) rfl  ?_
          by_cases hc135 : ms0_126 = (0 : Int32)
          · show Steps p.tables e below (T13.setTop (mkF m 135 #[.val (.int p0), .val (.int p1), .val (.int v2_7), .val (.int v3_11), .val (.int m4_61), .val (.int v5_66), .val (.int v6_102), .val (.int ms0_126)] [(.int ms0_126)])) _
            refine XS.ifYes X13.here hx rfl (pc0 := 135) (pc' := 142) rfl (hb hby at_135) rfl ((if0 _ _).trans (teq hc135).1) (by decide) (by decide) ?_
            show Steps p.tables e below (T13.setTop (mkF m 142 #[.val (.int p0), .val (.int p1), .val (.int v2_7), .val (.int v3_11), .val (.int m4_61), .val (.int v5_66), .val (.int v6_102), .val (.int ms0_126)] [])) _
            refine XS.iconst X13.here hx rfl (hb hby at_142) ?_
            have qms0_143 : ms0_143 = (0 : Int32) := by rw [hms0_143, if_neg hc130, if_pos hc135]
            rw [qms0_143] at k
            exact k
          · show Steps p.tables e below (T13.setTop (mkF m 135 #[.val (.int p0), .val (.int p1), .val (.int v2_7), .val (.int v3_11), .val (.int m4_61), .val (.int v5_66), .val (.int v6_102), .val (.int ms0_126)] [(.int ms0_126)])) _
            refine XS.ifNo X13.here hx rfl (hb hby at_135) rfl ((if0 _ _).trans (feq hc135).1) ?_
            show Steps p.tables e below (T13.setTop (mkF m 138 #[.val (.int p0), .val (.int p1), .val (.int v2_7), .val (.int v3_11), .val (.int m4_61), .val (.int v5_66), .val (.int v6_102), .val (.int ms0_126)] [])) _
            refine XS.iconst X13.here hx rfl (hb hby at_138) ?_
            show Steps p.tables e below (T13.setTop (mkF m 139 #[.val (.int p0), .val (.int p1), .val (.int v2_7), .val (.int v3_11), .val (.int m4_61), .val (.int v5_66), .val (.int v6_102), .val (.int ms0_126)] [(.int (1 : Int32))])) _
            refine XS.goto X13.here hx rfl (pc0 := 139) (pc' := 143) rfl (hb hby at_139) (by decide) (by decide) ?_
            have qms0_143 : ms0_143 = (1 : Int32) := by rw [hms0_143, if_neg hc130, if_neg hc135]
            rw [qms0_143] at k
            exact k
      have hnar : nar .boolean ms0_143 = ms0_143 := by rw [hms0_143]; (repeat' split) <;> rfl
      obtain ⟨fs, hr, hrun, hended, hW, hsame⟩ := X13.leave (v := some (.int ms0_143)) (fun h => by rw [Bd.returns] at h; cases h) (BodyLoose.notSynchronized Bd)
      refine ⟨_, _, pre18 _ ?_, hrun, hended, _, _, rfl, ?_, ⟨_, rfl⟩, hW, hsame.mono (by decide) (by decide)⟩
      · show Steps p.tables e below (T13.setTop (mkF m 143 #[.val (.int p0), .val (.int p1), .val (.int v2_7), .val (.int v3_11), .val (.int m4_61), .val (.int v5_66), .val (.int v6_102), .val (.int ms0_126)] [(.int ms0_143)])) _
        exact retN X13 hx (t := .boolean) Bd.returns (by simp) (hb hby at_143) (by rw [hnar]; exact hr)
      · show Q_0 Z p0 p1 h0 n0 _ T13.heap _
        rw [e13]
        exact ⟨congrArg (fun z => some (Value.int z)) (by subst hv2_7 hv3_11 hm4_61 hv5_66 hv6_102 hms0_126 hms0_143; exact ((if_neg hc70).trans (if_pos hc76)).symm : ms0_143 = f_0 p0 p1), N13, trivial⟩
    · have pre19 : ∀ t, Steps p.tables e below (T3.setTop (mkF m 83 #[.val (.int p0), .val (.int p1), .val (.int v2_7), .val (.int v3_11), .val (.int m4_61), .val (.int v5_66), .unset, .unset] [(.int (6 : Int32)), (.int v5_66)])) t → Steps p.tables e below (s₁.setTop (entryFrame m #[(.int p0), (.int p1)] maxLocals)) t := by
        intro t k
        refine pre10 t ?_
        show Steps p.tables e below (T3.setTop (mkF m 76 #[.val (.int p0), .val (.int p1), .val (.int v2_7), .val (.int v3_11), .val (.int m4_61), .val (.int v5_66), .unset, .unset] [(.int (3 : Int32)), (.int v5_66)])) _
        refine XS.icmpNo X3.here hx rfl (hb hby at_76) rfl (feq hc76).1 ?_
        show Steps p.tables e below (T3.setTop (mkF m 79 #[.val (.int p0), .val (.int p1), .val (.int v2_7), .val (.int v3_11), .val (.int m4_61), .val (.int v5_66), .unset, .unset] [])) _
        refine XS.iload X3.here hx rfl (hb hby at_79) rfl  ?_
        show Steps p.tables e below (T3.setTop (mkF m 81 #[.val (.int p0), .val (.int p1), .val (.int v2_7), .val (.int v3_11), .val (.int m4_61), .val (.int v5_66), .unset, .unset] [(.int v5_66)])) _
        refine XS.bipush X3.here hx rfl (hb hby at_81) ?_
        exact k
      by_cases hc83 : v5_66 = (6 : Int32)
      · have pre21 : ∀ t, Steps p.tables e below (T3.setTop (mkF m 99 #[.val (.int p0), .val (.int p1), .val (.int v2_7), .val (.int v3_11), .val (.int m4_61), .val (.int v5_66), .unset, .unset] [(.int v5_66), (.int m4_61)])) t → Steps p.tables e below (s₁.setTop (entryFrame m #[(.int p0), (.int p1)] maxLocals)) t := by
          intro t k
          refine pre19 t ?_
          show Steps p.tables e below (T3.setTop (mkF m 83 #[.val (.int p0), .val (.int p1), .val (.int v2_7), .val (.int v3_11), .val (.int m4_61), .val (.int v5_66), .unset, .unset] [(.int (6 : Int32)), (.int v5_66)])) _
          refine XS.icmpYes X3.here hx rfl (pc0 := 83) (pc' := 95) rfl (hb hby at_83) rfl (teq hc83).1 (by decide) (by decide) ?_
          show Steps p.tables e below (T3.setTop (mkF m 95 #[.val (.int p0), .val (.int p1), .val (.int v2_7), .val (.int v3_11), .val (.int m4_61), .val (.int v5_66), .unset, .unset] [])) _
          refine XS.iload X3.here hx rfl (hb hby at_95) rfl  ?_
          show Steps p.tables e below (T3.setTop (mkF m 97 #[.val (.int p0), .val (.int p1), .val (.int v2_7), .val (.int v3_11), .val (.int m4_61), .val (.int v5_66), .unset, .unset] [(.int m4_61)])) _
          refine XS.iload X3.here hx rfl (hb hby at_97) rfl  ?_
          exact k
        obtain ⟨_, _, ⟨T20, L20, k20, n20⟩, -, X20, ⟨Lc20, hQ20, l20, y20, z20⟩, st20⟩ := Jvm.LawKit.callS X3 hx (y := (⟨"com/example/dayt/dayt/text/TextFormFractionDigitsPinLaw", "exact", "(II)Z"⟩ : MethodName)) hown (mvT hZ (hw _ (List.mem_of_getElem? (i := 6) rfl))) (mvT hZ (hw _ (List.mem_of_getElem? (i := 7) rfl))) (mvT hZ (hw _ (List.mem_of_getElem? (i := 8) rfl))) (mvT hZ (hw _ (List.mem_of_getElem? (i := 9) rfl))) (by decide) (backOf (W := 0) (rm_2 l Z a0 hw [] m4_61 v5_66 h0 n0 Z0 ) hZ (hw _ (List.mem_of_getElem? (i := 9) rfl)) (hw _ (List.mem_of_getElem? (i := 8) rfl)) (by decide) (by decide)) (g := (mkF m 99 #[.val (.int p0), .val (.int p1), .val (.int v2_7), .val (.int v3_11), .val (.int m4_61), .val (.int v5_66), .unset, .unset] [(.int v5_66), (.int m4_61)])) rfl (by rw [hml]; rfl) (argsL := [(.int m4_61), (.int v5_66)]) (rest := []) (lenOf pd_1 rfl) rfl (by show 2 * 0 + _ ≤ _; exact Nat.le_of_eq rfl) (hb hby at_99) (fun _ _ => ⟨rfl, e3, (by decide : 0 + 0 ≤ _), (by decide : 0 + 0 ≤ _)⟩)
        dsimp only [Pt.U, Pt.locs, Pt.cells, Pt.slots] at X20 l20 y20 z20 st20 hQ20
        subst l20 y20 z20
        obtain ⟨rfl, N20q, e20⟩ := hQ20
        have N20 := Fr.app N3 N20q
        obtain ⟨v6_102, hv6_102⟩ : ∃ z : Int32, z = (f_2 m4_61 v5_66) := ⟨_, rfl⟩
        have pre23 : ∀ t, Steps p.tables e below (T20.setTop (mkF m 115 #[.val (.int p0), .val (.int p1), .val (.int v2_7), .val (.int v3_11), .val (.int m4_61), .val (.int v5_66), .val (.int v6_102), .unset] [(.int (v5_66 - (3 : Int32))), (.int m4_61)])) t → Steps p.tables e below (s₁.setTop (entryFrame m #[(.int p0), (.int p1)] maxLocals)) t := by
          intro t k
          refine pre21 t ?_
          show Steps p.tables e below (T3.setTop (mkF m 99 #[.val (.int p0), .val (.int p1), .val (.int v2_7), .val (.int v3_11), .val (.int m4_61), .val (.int v5_66), .unset, .unset] [(.int v5_66), (.int m4_61)])) _
          refine st20 _ ?_
          show Steps p.tables e below (T20.setTop (mkF m 102 #[.val (.int p0), .val (.int p1), .val (.int v2_7), .val (.int v3_11), .val (.int m4_61), .val (.int v5_66), .unset, .unset] [(.int (f_2 m4_61 v5_66))])) _
          refine XS.istore X20.here hx rfl (hb hby at_102) rfl (l' := #[.val (.int p0), .val (.int p1), .val (.int v2_7), .val (.int v3_11), .val (.int m4_61), .val (.int v5_66), .val (.int v6_102), .unset]) (by rw [hv6_102]; rfl) ?_
          show Steps p.tables e below (T20.setTop (mkF m 104 #[.val (.int p0), .val (.int p1), .val (.int v2_7), .val (.int v3_11), .val (.int m4_61), .val (.int v5_66), .val (.int v6_102), .unset] [])) _
          refine XS.iload X20.here hx rfl (hb hby at_104) rfl  ?_
          show Steps p.tables e below (T20.setTop (mkF m 106 #[.val (.int p0), .val (.int p1), .val (.int v2_7), .val (.int v3_11), .val (.int m4_61), .val (.int v5_66), .val (.int v6_102), .unset] [(.int v5_66)])) _
          refine XS.ifNo X20.here hx rfl (hb hby at_106) rfl ((if0 _ _).trans (feq hc70).1) ?_
          show Steps p.tables e below (T20.setTop (mkF m 109 #[.val (.int p0), .val (.int p1), .val (.int v2_7), .val (.int v3_11), .val (.int m4_61), .val (.int v5_66), .val (.int v6_102), .unset] [])) _
          refine XS.iload X20.here hx rfl (hb hby at_109) rfl  ?_
          show Steps p.tables e below (T20.setTop (mkF m 111 #[.val (.int p0), .val (.int p1), .val (.int v2_7), .val (.int v3_11), .val (.int m4_61), .val (.int v5_66), .val (.int v6_102), .unset] [(.int m4_61)])) _
          refine XS.iload X20.here hx rfl (hb hby at_111) rfl  ?_
          show Steps p.tables e below (T20.setTop (mkF m 113 #[.val (.int p0), .val (.int p1), .val (.int v2_7), .val (.int v3_11), .val (.int m4_61), .val (.int v5_66), .val (.int v6_102), .unset] [(.int v5_66), (.int m4_61)])) _
          refine XS.iconst X20.here hx rfl (hb hby at_113) ?_
          show Steps p.tables e below (T20.setTop (mkF m 114 #[.val (.int p0), .val (.int p1), .val (.int v2_7), .val (.int v3_11), .val (.int m4_61), .val (.int v5_66), .val (.int v6_102), .unset] [(.int (3 : Int32)), (.int v5_66), (.int m4_61)])) _
          refine XS.isub X20.here hx rfl (hb hby at_114) rfl ?_
          exact k
        obtain ⟨_, _, ⟨T22, L22, k22, n22⟩, -, X22, ⟨Lc22, hQ22, l22, y22, z22⟩, st22⟩ := Jvm.LawKit.callS X20 hx (y := (⟨"com/example/dayt/dayt/text/TextFormFractionDigitsPinLaw", "exact", "(II)Z"⟩ : MethodName)) hown (mvT hZ (hw _ (List.mem_of_getElem? (i := 6) rfl))) (mvT hZ (hw _ (List.mem_of_getElem? (i := 7) rfl))) (mvT hZ (hw _ (List.mem_of_getElem? (i := 8) rfl))) (mvT hZ (hw _ (List.mem_of_getElem? (i := 9) rfl))) (by decide) (backOf (W := 0) (rm_2 l Z a0 hw [] m4_61 (v5_66 - (3 : Int32)) h0 n0 Z0 ) hZ (hw _ (List.mem_of_getElem? (i := 9) rfl)) (hw _ (List.mem_of_getElem? (i := 8) rfl)) (by decide) (by decide)) (g := (mkF m 115 #[.val (.int p0), .val (.int p1), .val (.int v2_7), .val (.int v3_11), .val (.int m4_61), .val (.int v5_66), .val (.int v6_102), .unset] [(.int (v5_66 - (3 : Int32))), (.int m4_61)])) rfl (by rw [hml]; rfl) (argsL := [(.int m4_61), (.int (v5_66 - (3 : Int32)))]) (rest := []) (lenOf pd_1 rfl) rfl (by show 2 * 0 + _ ≤ _; exact Nat.le_of_eq rfl) (hb hby at_115) (fun _ _ => ⟨rfl, e20, (by decide : 0 + 0 ≤ _), (by decide : 0 + 0 ≤ _)⟩)
        dsimp only [Pt.U, Pt.locs, Pt.cells, Pt.slots] at X22 l22 y22 z22 st22 hQ22
        subst l22 y22 z22
        obtain ⟨rfl, N22q, e22⟩ := hQ22
        have N22 := Fr.app N20 N22q
        have pre24 : ∀ t, Steps p.tables e below (T22.setTop (mkF m 118 #[.val (.int p0), .val (.int p1), .val (.int v2_7), .val (.int v3_11), .val (.int m4_61), .val (.int v5_66), .val (.int v6_102), .unset] [(.int (f_2 m4_61 (v5_66 - (3 : Int32))))])) t → Steps p.tables e below (s₁.setTop (entryFrame m #[(.int p0), (.int p1)] maxLocals)) t := by
          intro t k
          refine pre23 t ?_
          show Steps p.tables e below (T20.setTop (mkF m 115 #[.val (.int p0), .val (.int p1), .val (.int v2_7), .val (.int v3_11), .val (.int m4_61), .val (.int v5_66), .val (.int v6_102), .unset] [(.int (v5_66 - (3 : Int32))), (.int m4_61)])) _
          refine st22 _ ?_
          exact k
        obtain ⟨ms0_126, hms0_126⟩ : ∃ z : Int32, z = (if (f_2 m4_61 (v5_66 - (3 : Int32))) = (0 : Int32) then (1 : Int32) else (0 : Int32)) := ⟨_, rfl⟩
        have pre25 : ∀ t, Steps p.tables e below (T22.setTop (mkF m 126 #[.val (.int p0), .val (.int p1), .val (.int v2_7), .val (.int v3_11), .val (.int m4_61), .val (.int v5_66), .val (.int v6_102), .unset] [(.int ms0_126)])) t → Steps p.tables e below (s₁.setTop (entryFrame m #[(.int p0), (.int p1)] maxLocals)) t := by
          intro t k
          refine pre24 t ?_
          by_cases hc118 : (f_2 m4_61 (v5_66 - (3 : Int32))) = (0 : Int32)
          · show Steps p.tables e below (T22.setTop (mkF m 118 #[.val (.int p0), .val (.int p1), .val (.int v2_7), .val (.int v3_11), .val (.int m4_61), .val (.int v5_66), .val (.int v6_102), .unset] [(.int (f_2 m4_61 (v5_66 - (3 : Int32))))])) _
            refine XS.ifNo X22.here hx rfl (hb hby at_118) rfl ((if0 _ _).trans (teq hc118).2) ?_
            show Steps p.tables e below (T22.setTop (mkF m 121 #[.val (.int p0), .val (.int p1), .val (.int v2_7), .val (.int v3_11), .val (.int m4_61), .val (.int v5_66), .val (.int v6_102), .unset] [])) _
            refine XS.iconst X22.here hx rfl (hb hby at_121) ?_
            show Steps p.tables e below (T22.setTop (mkF m 122 #[.val (.int p0), .val (.int p1), .val (.int v2_7), .val (.int v3_11), .val (.int m4_61), .val (.int v5_66), .val (.int v6_102), .unset] [(.int (1 : Int32))])) _
            refine XS.goto X22.here hx rfl (pc0 := 122) (pc' := 126) rfl (hb hby at_122) (by decide) (by decide) ?_
            have qms0_126 : ms0_126 = (1 : Int32) := by rw [hms0_126, if_pos hc118]
            rw [qms0_126] at k
            exact k
          · show Steps p.tables e below (T22.setTop (mkF m 118 #[.val (.int p0), .val (.int p1), .val (.int v2_7), .val (.int v3_11), .val (.int m4_61), .val (.int v5_66), .val (.int v6_102), .unset] [(.int (f_2 m4_61 (v5_66 - (3 : Int32))))])) _
            refine XS.ifYes X22.here hx rfl (pc0 := 118) (pc' := 125) rfl (hb hby at_118) rfl ((if0 _ _).trans (feq hc118).2) (by decide) (by decide) ?_
            show Steps p.tables e below (T22.setTop (mkF m 125 #[.val (.int p0), .val (.int p1), .val (.int v2_7), .val (.int v3_11), .val (.int m4_61), .val (.int v5_66), .val (.int v6_102), .unset] [])) _
            refine XS.iconst X22.here hx rfl (hb hby at_125) ?_
            have qms0_126 : ms0_126 = (0 : Int32) := by rw [hms0_126, if_neg hc118]
            rw [qms0_126] at k
            exact k
        have pre26 : ∀ t, Steps p.tables e below (T22.setTop (mkF m 130 #[.val (.int p0), .val (.int p1), .val (.int v2_7), .val (.int v3_11), .val (.int m4_61), .val (.int v5_66), .val (.int v6_102), .val (.int ms0_126)] [(.int v6_102)])) t → Steps p.tables e below (s₁.setTop (entryFrame m #[(.int p0), (.int p1)] maxLocals)) t := by
          intro t k
          refine pre25 t ?_
          show Steps p.tables e below (T22.setTop (mkF m 126 #[.val (.int p0), .val (.int p1), .val (.int v2_7), .val (.int v3_11), .val (.int m4_61), .val (.int v5_66), .val (.int v6_102), .unset] [(.int ms0_126)])) _
          refine XS.istore X22.here hx rfl (hb hby at_126) rfl (l' := #[.val (.int p0), .val (.int p1), .val (.int v2_7), .val (.int v3_11), .val (.int m4_61), .val (.int v5_66), .val (.int v6_102), .val (.int ms0_126)]) rfl ?_
          show Steps p.tables e below (T22.setTop (mkF m 128 #[.val (.int p0), .val (.int p1), .val (.int v2_7), .val (.int v3_11), .val (.int m4_61), .val (.int v5_66), .val (.int v6_102), .val (.int ms0_126)] [])) _
          refine XS.iload X22.here hx rfl (hb hby at_128) rfl  ?_
          exact k
        obtain ⟨ms0_143, hms0_143⟩ : ∃ z : Int32, z = (if v6_102 = (0 : Int32) then (0 : Int32) else (if ms0_126 = (0 : Int32) then (0 : Int32) else (1 : Int32))) := ⟨_, rfl⟩
        have pre27 : ∀ t, Steps p.tables e below (T22.setTop (mkF m 143 #[.val (.int p0), .val (.int p1), .val (.int v2_7), .val (.int v3_11), .val (.int m4_61), .val (.int v5_66), .val (.int v6_102), .val (.int ms0_126)] [(.int ms0_143)])) t → Steps p.tables e below (s₁.setTop (entryFrame m #[(.int p0), (.int p1)] maxLocals)) t := by
          intro t k
          refine pre26 t ?_
          by_cases hc130 : v6_102 = (0 : Int32)
          · show Steps p.tables e below (T22.setTop (mkF m 130 #[.val (.int p0), .val (.int p1), .val (.int v2_7), .val (.int v3_11), .val (.int m4_61), .val (.int v5_66), .val (.int v6_102), .val (.int ms0_126)] [(.int v6_102)])) _
            refine XS.ifYes X22.here hx rfl (pc0 := 130) (pc' := 142) rfl (hb hby at_130) rfl ((if0 _ _).trans (teq hc130).1) (by decide) (by decide) ?_
            show Steps p.tables e below (T22.setTop (mkF m 142 #[.val (.int p0), .val (.int p1), .val (.int v2_7), .val (.int v3_11), .val (.int m4_61), .val (.int v5_66), .val (.int v6_102), .val (.int ms0_126)] [])) _
            refine XS.iconst X22.here hx rfl (hb hby at_142) ?_
            have qms0_143 : ms0_143 = (0 : Int32) := by rw [hms0_143, if_pos hc130]
            rw [qms0_143] at k
            exact k
          · show Steps p.tables e below (T22.setTop (mkF m 130 #[.val (.int p0), .val (.int p1), .val (.int v2_7), .val (.int v3_11), .val (.int m4_61), .val (.int v5_66), .val (.int v6_102), .val (.int ms0_126)] [(.int v6_102)])) _
            refine XS.ifNo X22.here hx rfl (hb hby at_130) rfl ((if0 _ _).trans (feq hc130).1) ?_
            show Steps p.tables e below (T22.setTop (mkF m 133 #[.val (.int p0), .val (.int p1), .val (.int v2_7), .val (.int v3_11), .val (.int m4_61), .val (.int v5_66), .val (.int v6_102), .val (.int ms0_126)] [])) _
            refine XS.iload X22.here hx rfl (hb hby at_133) rfl  ?_
            by_cases hc135 : ms0_126 = (0 : Int32)
            · show Steps p.tables e below (T22.setTop (mkF m 135 #[.val (.int p0), .val (.int p1), .val (.int v2_7), .val (.int v3_11), .val (.int m4_61), .val (.int v5_66), .val (.int v6_102), .val (.int ms0_126)] [(.int ms0_126)])) _
              refine XS.ifYes X22.here hx rfl (pc0 := 135) (pc' := 142) rfl (hb hby at_135) rfl ((if0 _ _).trans (teq hc135).1) (by decide) (by decide) ?_
              show Steps p.tables e below (T22.setTop (mkF m 142 #[.val (.int p0), .val (.int p1), .val (.int v2_7), .val (.int v3_11), .val (.int m4_61), .val (.int v5_66), .val (.int v6_102), .val (.int ms0_126)] [])) _
              refine XS.iconst X22.here hx rfl (hb hby at_142) ?_
              have qms0_143 : ms0_143 = (0 : Int32) := by rw [hms0_143, if_neg hc130, if_pos hc135]
              rw [qms0_143] at k
              exact k
            · show Steps p.tables e below (T22.setTop (mkF m 135 #[.val (.int p0), .val (.int p1), .val (.int v2_7), .val (.int v3_11), .val (.int m4_61), .val (.int v5_66), .val (.int v6_102), .val (.int ms0_126)] [(.int ms0_126)])) _
              refine XS.ifNo X22.here hx rfl (hb hby at_135) rfl ((if0 _ _).trans (feq hc135).1) ?_
              show Steps p.tables e below (T22.setTop (mkF m 138 #[.val (.int p0), .val (.int p1), .val (.int v2_7), .val (.int v3_11), .val (.int m4_61), .val (.int v5_66), .val (.int v6_102), .val (.int ms0_126)] [])) _
              refine XS.iconst X22.here hx rfl (hb hby at_138) ?_
              show Steps p.tables e below (T22.setTop (mkF m 139 #[.val (.int p0), .val (.int p1), .val (.int v2_7), .val (.int v3_11), .val (.int m4_61), .val (.int v5_66), .val (.int v6_102), .val (.int ms0_126)] [(.int (1 : Int32))])) _
              refine XS.goto X22.here hx rfl (pc0 := 139) (pc' := 143) rfl (hb hby at_139) (by decide) (by decide) ?_
              have qms0_143 : ms0_143 = (1 : Int32) := by rw [hms0_143, if_neg hc130, if_neg hc135]
              rw [qms0_143] at k
              exact k
        have hnar : nar .boolean ms0_143 = ms0_143 := by rw [hms0_143]; (repeat' split) <;> rfl
        obtain ⟨fs, hr, hrun, hended, hW, hsame⟩ := X22.leave (v := some (.int ms0_143)) (fun h => by rw [Bd.returns] at h; cases h) (BodyLoose.notSynchronized Bd)
        refine ⟨_, _, pre27 _ ?_, hrun, hended, _, _, rfl, ?_, ⟨_, rfl⟩, hW, hsame.mono (by decide) (by decide)⟩
        · show Steps p.tables e below (T22.setTop (mkF m 143 #[.val (.int p0), .val (.int p1), .val (.int v2_7), .val (.int v3_11), .val (.int m4_61), .val (.int v5_66), .val (.int v6_102), .val (.int ms0_126)] [(.int ms0_143)])) _
          exact retN X22 hx (t := .boolean) Bd.returns (by simp) (hb hby at_143) (by rw [hnar]; exact hr)
        · show Q_0 Z p0 p1 h0 n0 _ T22.heap _
          rw [e22]
          exact ⟨congrArg (fun z => some (Value.int z)) (by subst hv2_7 hv3_11 hm4_61 hv5_66 hv6_102 hms0_126 hms0_143; exact ((if_neg hc70).trans ((if_neg hc76).trans (if_pos hc83))).symm : ms0_143 = f_0 p0 p1), N22, trivial⟩
      · have pre28 : ∀ t, Steps p.tables e below (T3.setTop (mkF m 90 #[.val (.int p0), .val (.int p1), .val (.int v2_7), .val (.int v3_11), .val (.int m4_61), .val (.int v5_66), .unset, .unset] [(.int (9 : Int32)), (.int v5_66)])) t → Steps p.tables e below (s₁.setTop (entryFrame m #[(.int p0), (.int p1)] maxLocals)) t := by
          intro t k
          refine pre19 t ?_
          show Steps p.tables e below (T3.setTop (mkF m 83 #[.val (.int p0), .val (.int p1), .val (.int v2_7), .val (.int v3_11), .val (.int m4_61), .val (.int v5_66), .unset, .unset] [(.int (6 : Int32)), (.int v5_66)])) _
          refine XS.icmpNo X3.here hx rfl (hb hby at_83) rfl (feq hc83).1 ?_
          show Steps p.tables e below (T3.setTop (mkF m 86 #[.val (.int p0), .val (.int p1), .val (.int v2_7), .val (.int v3_11), .val (.int m4_61), .val (.int v5_66), .unset, .unset] [])) _
          refine XS.iload X3.here hx rfl (hb hby at_86) rfl  ?_
          show Steps p.tables e below (T3.setTop (mkF m 88 #[.val (.int p0), .val (.int p1), .val (.int v2_7), .val (.int v3_11), .val (.int m4_61), .val (.int v5_66), .unset, .unset] [(.int v5_66)])) _
          refine XS.bipush X3.here hx rfl (hb hby at_88) ?_
          exact k
        by_cases hc90 : v5_66 = (9 : Int32)
        · have pre30 : ∀ t, Steps p.tables e below (T3.setTop (mkF m 99 #[.val (.int p0), .val (.int p1), .val (.int v2_7), .val (.int v3_11), .val (.int m4_61), .val (.int v5_66), .unset, .unset] [(.int v5_66), (.int m4_61)])) t → Steps p.tables e below (s₁.setTop (entryFrame m #[(.int p0), (.int p1)] maxLocals)) t := by
            intro t k
            refine pre28 t ?_
            show Steps p.tables e below (T3.setTop (mkF m 90 #[.val (.int p0), .val (.int p1), .val (.int v2_7), .val (.int v3_11), .val (.int m4_61), .val (.int v5_66), .unset, .unset] [(.int (9 : Int32)), (.int v5_66)])) _
            refine XS.icmpYes X3.here hx rfl (pc0 := 90) (pc' := 95) rfl (hb hby at_90) rfl (teq hc90).1 (by decide) (by decide) ?_
            show Steps p.tables e below (T3.setTop (mkF m 95 #[.val (.int p0), .val (.int p1), .val (.int v2_7), .val (.int v3_11), .val (.int m4_61), .val (.int v5_66), .unset, .unset] [])) _
            refine XS.iload X3.here hx rfl (hb hby at_95) rfl  ?_
            show Steps p.tables e below (T3.setTop (mkF m 97 #[.val (.int p0), .val (.int p1), .val (.int v2_7), .val (.int v3_11), .val (.int m4_61), .val (.int v5_66), .unset, .unset] [(.int m4_61)])) _
            refine XS.iload X3.here hx rfl (hb hby at_97) rfl  ?_
            exact k
          obtain ⟨_, _, ⟨T29, L29, k29, n29⟩, -, X29, ⟨Lc29, hQ29, l29, y29, z29⟩, st29⟩ := Jvm.LawKit.callS X3 hx (y := (⟨"com/example/dayt/dayt/text/TextFormFractionDigitsPinLaw", "exact", "(II)Z"⟩ : MethodName)) hown (mvT hZ (hw _ (List.mem_of_getElem? (i := 6) rfl))) (mvT hZ (hw _ (List.mem_of_getElem? (i := 7) rfl))) (mvT hZ (hw _ (List.mem_of_getElem? (i := 8) rfl))) (mvT hZ (hw _ (List.mem_of_getElem? (i := 9) rfl))) (by decide) (backOf (W := 0) (rm_2 l Z a0 hw [] m4_61 v5_66 h0 n0 Z0 ) hZ (hw _ (List.mem_of_getElem? (i := 9) rfl)) (hw _ (List.mem_of_getElem? (i := 8) rfl)) (by decide) (by decide)) (g := (mkF m 99 #[.val (.int p0), .val (.int p1), .val (.int v2_7), .val (.int v3_11), .val (.int m4_61), .val (.int v5_66), .unset, .unset] [(.int v5_66), (.int m4_61)])) rfl (by rw [hml]; rfl) (argsL := [(.int m4_61), (.int v5_66)]) (rest := []) (lenOf pd_1 rfl) rfl (by show 2 * 0 + _ ≤ _; exact Nat.le_of_eq rfl) (hb hby at_99) (fun _ _ => ⟨rfl, e3, (by decide : 0 + 0 ≤ _), (by decide : 0 + 0 ≤ _)⟩)
          dsimp only [Pt.U, Pt.locs, Pt.cells, Pt.slots] at X29 l29 y29 z29 st29 hQ29
          subst l29 y29 z29
          obtain ⟨rfl, N29q, e29⟩ := hQ29
          have N29 := Fr.app N3 N29q
          obtain ⟨v6_102, hv6_102⟩ : ∃ z : Int32, z = (f_2 m4_61 v5_66) := ⟨_, rfl⟩
          have pre32 : ∀ t, Steps p.tables e below (T29.setTop (mkF m 115 #[.val (.int p0), .val (.int p1), .val (.int v2_7), .val (.int v3_11), .val (.int m4_61), .val (.int v5_66), .val (.int v6_102), .unset] [(.int (v5_66 - (3 : Int32))), (.int m4_61)])) t → Steps p.tables e below (s₁.setTop (entryFrame m #[(.int p0), (.int p1)] maxLocals)) t := by
            intro t k
            refine pre30 t ?_
            show Steps p.tables e below (T3.setTop (mkF m 99 #[.val (.int p0), .val (.int p1), .val (.int v2_7), .val (.int v3_11), .val (.int m4_61), .val (.int v5_66), .unset, .unset] [(.int v5_66), (.int m4_61)])) _
            refine st29 _ ?_
            show Steps p.tables e below (T29.setTop (mkF m 102 #[.val (.int p0), .val (.int p1), .val (.int v2_7), .val (.int v3_11), .val (.int m4_61), .val (.int v5_66), .unset, .unset] [(.int (f_2 m4_61 v5_66))])) _
            refine XS.istore X29.here hx rfl (hb hby at_102) rfl (l' := #[.val (.int p0), .val (.int p1), .val (.int v2_7), .val (.int v3_11), .val (.int m4_61), .val (.int v5_66), .val (.int v6_102), .unset]) (by rw [hv6_102]; rfl) ?_
            show Steps p.tables e below (T29.setTop (mkF m 104 #[.val (.int p0), .val (.int p1), .val (.int v2_7), .val (.int v3_11), .val (.int m4_61), .val (.int v5_66), .val (.int v6_102), .unset] [])) _
            refine XS.iload X29.here hx rfl (hb hby at_104) rfl  ?_
            show Steps p.tables e below (T29.setTop (mkF m 106 #[.val (.int p0), .val (.int p1), .val (.int v2_7), .val (.int v3_11), .val (.int m4_61), .val (.int v5_66), .val (.int v6_102), .unset] [(.int v5_66)])) _
            refine XS.ifNo X29.here hx rfl (hb hby at_106) rfl ((if0 _ _).trans (feq hc70).1) ?_
            show Steps p.tables e below (T29.setTop (mkF m 109 #[.val (.int p0), .val (.int p1), .val (.int v2_7), .val (.int v3_11), .val (.int m4_61), .val (.int v5_66), .val (.int v6_102), .unset] [])) _
            refine XS.iload X29.here hx rfl (hb hby at_109) rfl  ?_
            show Steps p.tables e below (T29.setTop (mkF m 111 #[.val (.int p0), .val (.int p1), .val (.int v2_7), .val (.int v3_11), .val (.int m4_61), .val (.int v5_66), .val (.int v6_102), .unset] [(.int m4_61)])) _
            refine XS.iload X29.here hx rfl (hb hby at_111) rfl  ?_
            show Steps p.tables e below (T29.setTop (mkF m 113 #[.val (.int p0), .val (.int p1), .val (.int v2_7), .val (.int v3_11), .val (.int m4_61), .val (.int v5_66), .val (.int v6_102), .unset] [(.int v5_66), (.int m4_61)])) _
            refine XS.iconst X29.here hx rfl (hb hby at_113) ?_
            show Steps p.tables e below (T29.setTop (mkF m 114 #[.val (.int p0), .val (.int p1), .val (.int v2_7), .val (.int v3_11), .val (.int m4_61), .val (.int v5_66), .val (.int v6_102), .unset] [(.int (3 : Int32)), (.int v5_66), (.int m4_61)])) _
            refine XS.isub X29.here hx rfl (hb hby at_114) rfl ?_
            exact k
          obtain ⟨_, _, ⟨T31, L31, k31, n31⟩, -, X31, ⟨Lc31, hQ31, l31, y31, z31⟩, st31⟩ := Jvm.LawKit.callS X29 hx (y := (⟨"com/example/dayt/dayt/text/TextFormFractionDigitsPinLaw", "exact", "(II)Z"⟩ : MethodName)) hown (mvT hZ (hw _ (List.mem_of_getElem? (i := 6) rfl))) (mvT hZ (hw _ (List.mem_of_getElem? (i := 7) rfl))) (mvT hZ (hw _ (List.mem_of_getElem? (i := 8) rfl))) (mvT hZ (hw _ (List.mem_of_getElem? (i := 9) rfl))) (by decide) (backOf (W := 0) (rm_2 l Z a0 hw [] m4_61 (v5_66 - (3 : Int32)) h0 n0 Z0 ) hZ (hw _ (List.mem_of_getElem? (i := 9) rfl)) (hw _ (List.mem_of_getElem? (i := 8) rfl)) (by decide) (by decide)) (g := (mkF m 115 #[.val (.int p0), .val (.int p1), .val (.int v2_7), .val (.int v3_11), .val (.int m4_61), .val (.int v5_66), .val (.int v6_102), .unset] [(.int (v5_66 - (3 : Int32))), (.int m4_61)])) rfl (by rw [hml]; rfl) (argsL := [(.int m4_61), (.int (v5_66 - (3 : Int32)))]) (rest := []) (lenOf pd_1 rfl) rfl (by show 2 * 0 + _ ≤ _; exact Nat.le_of_eq rfl) (hb hby at_115) (fun _ _ => ⟨rfl, e29, (by decide : 0 + 0 ≤ _), (by decide : 0 + 0 ≤ _)⟩)
          dsimp only [Pt.U, Pt.locs, Pt.cells, Pt.slots] at X31 l31 y31 z31 st31 hQ31
          subst l31 y31 z31
          obtain ⟨rfl, N31q, e31⟩ := hQ31
          have N31 := Fr.app N29 N31q
          have pre33 : ∀ t, Steps p.tables e below (T31.setTop (mkF m 118 #[.val (.int p0), .val (.int p1), .val (.int v2_7), .val (.int v3_11), .val (.int m4_61), .val (.int v5_66), .val (.int v6_102), .unset] [(.int (f_2 m4_61 (v5_66 - (3 : Int32))))])) t → Steps p.tables e below (s₁.setTop (entryFrame m #[(.int p0), (.int p1)] maxLocals)) t := by
            intro t k
            refine pre32 t ?_
            show Steps p.tables e below (T29.setTop (mkF m 115 #[.val (.int p0), .val (.int p1), .val (.int v2_7), .val (.int v3_11), .val (.int m4_61), .val (.int v5_66), .val (.int v6_102), .unset] [(.int (v5_66 - (3 : Int32))), (.int m4_61)])) _
            refine st31 _ ?_
            exact k
          obtain ⟨ms0_126, hms0_126⟩ : ∃ z : Int32, z = (if (f_2 m4_61 (v5_66 - (3 : Int32))) = (0 : Int32) then (1 : Int32) else (0 : Int32)) := ⟨_, rfl⟩
          have pre34 : ∀ t, Steps p.tables e below (T31.setTop (mkF m 126 #[.val (.int p0), .val (.int p1), .val (.int v2_7), .val (.int v3_11), .val (.int m4_61), .val (.int v5_66), .val (.int v6_102), .unset] [(.int ms0_126)])) t → Steps p.tables e below (s₁.setTop (entryFrame m #[(.int p0), (.int p1)] maxLocals)) t := by
            intro t k
            refine pre33 t ?_
            by_cases hc118 : (f_2 m4_61 (v5_66 - (3 : Int32))) = (0 : Int32)
            · show Steps p.tables e below (T31.setTop (mkF m 118 #[.val (.int p0), .val (.int p1), .val (.int v2_7), .val (.int v3_11), .val (.int m4_61), .val (.int v5_66), .val (.int v6_102), .unset] [(.int (f_2 m4_61 (v5_66 - (3 : Int32))))])) _
              refine XS.ifNo X31.here hx rfl (hb hby at_118) rfl ((if0 _ _).trans (teq hc118).2) ?_
              show Steps p.tables e below (T31.setTop (mkF m 121 #[.val (.int p0), .val (.int p1), .val (.int v2_7), .val (.int v3_11), .val (.int m4_61), .val (.int v5_66), .val (.int v6_102), .unset] [])) _
              refine XS.iconst X31.here hx rfl (hb hby at_121) ?_
              show Steps p.tables e below (T31.setTop (mkF m 122 #[.val (.int p0), .val (.int p1), .val (.int v2_7), .val (.int v3_11), .val (.int m4_61), .val (.int v5_66), .val (.int v6_102), .unset] [(.int (1 : Int32))])) _
              refine XS.goto X31.here hx rfl (pc0 := 122) (pc' := 126) rfl (hb hby at_122) (by decide) (by decide) ?_
              have qms0_126 : ms0_126 = (1 : Int32) := by rw [hms0_126, if_pos hc118]
              rw [qms0_126] at k
              exact k
            · show Steps p.tables e below (T31.setTop (mkF m 118 #[.val (.int p0), .val (.int p1), .val (.int v2_7), .val (.int v3_11), .val (.int m4_61), .val (.int v5_66), .val (.int v6_102), .unset] [(.int (f_2 m4_61 (v5_66 - (3 : Int32))))])) _
              refine XS.ifYes X31.here hx rfl (pc0 := 118) (pc' := 125) rfl (hb hby at_118) rfl ((if0 _ _).trans (feq hc118).2) (by decide) (by decide) ?_
              show Steps p.tables e below (T31.setTop (mkF m 125 #[.val (.int p0), .val (.int p1), .val (.int v2_7), .val (.int v3_11), .val (.int m4_61), .val (.int v5_66), .val (.int v6_102), .unset] [])) _
              refine XS.iconst X31.here hx rfl (hb hby at_125) ?_
              have qms0_126 : ms0_126 = (0 : Int32) := by rw [hms0_126, if_neg hc118]
              rw [qms0_126] at k
              exact k
          have pre35 : ∀ t, Steps p.tables e below (T31.setTop (mkF m 130 #[.val (.int p0), .val (.int p1), .val (.int v2_7), .val (.int v3_11), .val (.int m4_61), .val (.int v5_66), .val (.int v6_102), .val (.int ms0_126)] [(.int v6_102)])) t → Steps p.tables e below (s₁.setTop (entryFrame m #[(.int p0), (.int p1)] maxLocals)) t := by
            intro t k
            refine pre34 t ?_
            show Steps p.tables e below (T31.setTop (mkF m 126 #[.val (.int p0), .val (.int p1), .val (.int v2_7), .val (.int v3_11), .val (.int m4_61), .val (.int v5_66), .val (.int v6_102), .unset] [(.int ms0_126)])) _
            refine XS.istore X31.here hx rfl (hb hby at_126) rfl (l' := #[.val (.int p0), .val (.int p1), .val (.int v2_7), .val (.int v3_11), .val (.int m4_61), .val (.int v5_66), .val (.int v6_102), .val (.int ms0_126)]) rfl ?_
            show Steps p.tables e below (T31.setTop (mkF m 128 #[.val (.int p0), .val (.int p1), .val (.int v2_7), .val (.int v3_11), .val (.int m4_61), .val (.int v5_66), .val (.int v6_102), .val (.int ms0_126)] [])) _
            refine XS.iload X31.here hx rfl (hb hby at_128) rfl  ?_
            exact k
          obtain ⟨ms0_143, hms0_143⟩ : ∃ z : Int32, z = (if v6_102 = (0 : Int32) then (0 : Int32) else (if ms0_126 = (0 : Int32) then (0 : Int32) else (1 : Int32))) := ⟨_, rfl⟩
          have pre36 : ∀ t, Steps p.tables e below (T31.setTop (mkF m 143 #[.val (.int p0), .val (.int p1), .val (.int v2_7), .val (.int v3_11), .val (.int m4_61), .val (.int v5_66), .val (.int v6_102), .val (.int ms0_126)] [(.int ms0_143)])) t → Steps p.tables e below (s₁.setTop (entryFrame m #[(.int p0), (.int p1)] maxLocals)) t := by
            intro t k
            refine pre35 t ?_
            by_cases hc130 : v6_102 = (0 : Int32)
            · show Steps p.tables e below (T31.setTop (mkF m 130 #[.val (.int p0), .val (.int p1), .val (.int v2_7), .val (.int v3_11), .val (.int m4_61), .val (.int v5_66), .val (.int v6_102), .val (.int ms0_126)] [(.int v6_102)])) _
              refine XS.ifYes X31.here hx rfl (pc0 := 130) (pc' := 142) rfl (hb hby at_130) rfl ((if0 _ _).trans (teq hc130).1) (by decide) (by decide) ?_
              show Steps p.tables e below (T31.setTop (mkF m 142 #[.val (.int p0), .val (.int p1), .val (.int v2_7), .val (.int v3_11), .val (.int m4_61), .val (.int v5_66), .val (.int v6_102), .val (.int ms0_126)] [])) _
              refine XS.iconst X31.here hx rfl (hb hby at_142) ?_
              have qms0_143 : ms0_143 = (0 : Int32) := by rw [hms0_143, if_pos hc130]
              rw [qms0_143] at k
              exact k
            · show Steps p.tables e below (T31.setTop (mkF m 130 #[.val (.int p0), .val (.int p1), .val (.int v2_7), .val (.int v3_11), .val (.int m4_61), .val (.int v5_66), .val (.int v6_102), .val (.int ms0_126)] [(.int v6_102)])) _
              refine XS.ifNo X31.here hx rfl (hb hby at_130) rfl ((if0 _ _).trans (feq hc130).1) ?_
              show Steps p.tables e below (T31.setTop (mkF m 133 #[.val (.int p0), .val (.int p1), .val (.int v2_7), .val (.int v3_11), .val (.int m4_61), .val (.int v5_66), .val (.int v6_102), .val (.int ms0_126)] [])) _
              refine XS.iload X31.here hx rfl (hb hby at_133) rfl  ?_
              by_cases hc135 : ms0_126 = (0 : Int32)
              · show Steps p.tables e below (T31.setTop (mkF m 135 #[.val (.int p0), .val (.int p1), .val (.int v2_7), .val (.int v3_11), .val (.int m4_61), .val (.int v5_66), .val (.int v6_102), .val (.int ms0_126)] [(.int ms0_126)])) _
                refine XS.ifYes X31.here hx rfl (pc0 := 135) (pc' := 142) rfl (hb hby at_135) rfl ((if0 _ _).trans (teq hc135).1) (by decide) (by decide) ?_
                show Steps p.tables e below (T31.setTop (mkF m 142 #[.val (.int p0), .val (.int p1), .val (.int v2_7), .val (.int v3_11), .val (.int m4_61), .val (.int v5_66), .val (.int v6_102), .val (.int ms0_126)] [])) _
                refine XS.iconst X31.here hx rfl (hb hby at_142) ?_
                have qms0_143 : ms0_143 = (0 : Int32) := by rw [hms0_143, if_neg hc130, if_pos hc135]
                rw [qms0_143] at k
                exact k
              · show Steps p.tables e below (T31.setTop (mkF m 135 #[.val (.int p0), .val (.int p1), .val (.int v2_7), .val (.int v3_11), .val (.int m4_61), .val (.int v5_66), .val (.int v6_102), .val (.int ms0_126)] [(.int ms0_126)])) _
                refine XS.ifNo X31.here hx rfl (hb hby at_135) rfl ((if0 _ _).trans (feq hc135).1) ?_
                show Steps p.tables e below (T31.setTop (mkF m 138 #[.val (.int p0), .val (.int p1), .val (.int v2_7), .val (.int v3_11), .val (.int m4_61), .val (.int v5_66), .val (.int v6_102), .val (.int ms0_126)] [])) _
                refine XS.iconst X31.here hx rfl (hb hby at_138) ?_
                show Steps p.tables e below (T31.setTop (mkF m 139 #[.val (.int p0), .val (.int p1), .val (.int v2_7), .val (.int v3_11), .val (.int m4_61), .val (.int v5_66), .val (.int v6_102), .val (.int ms0_126)] [(.int (1 : Int32))])) _
                refine XS.goto X31.here hx rfl (pc0 := 139) (pc' := 143) rfl (hb hby at_139) (by decide) (by decide) ?_
                have qms0_143 : ms0_143 = (1 : Int32) := by rw [hms0_143, if_neg hc130, if_neg hc135]
                rw [qms0_143] at k
                exact k
          have hnar : nar .boolean ms0_143 = ms0_143 := by rw [hms0_143]; (repeat' split) <;> rfl
          obtain ⟨fs, hr, hrun, hended, hW, hsame⟩ := X31.leave (v := some (.int ms0_143)) (fun h => by rw [Bd.returns] at h; cases h) (BodyLoose.notSynchronized Bd)
          refine ⟨_, _, pre36 _ ?_, hrun, hended, _, _, rfl, ?_, ⟨_, rfl⟩, hW, hsame.mono (by decide) (by decide)⟩
          · show Steps p.tables e below (T31.setTop (mkF m 143 #[.val (.int p0), .val (.int p1), .val (.int v2_7), .val (.int v3_11), .val (.int m4_61), .val (.int v5_66), .val (.int v6_102), .val (.int ms0_126)] [(.int ms0_143)])) _
            exact retN X31 hx (t := .boolean) Bd.returns (by simp) (hb hby at_143) (by rw [hnar]; exact hr)
          · show Q_0 Z p0 p1 h0 n0 _ T31.heap _
            rw [e31]
            exact ⟨congrArg (fun z => some (Value.int z)) (by subst hv2_7 hv3_11 hm4_61 hv5_66 hv6_102 hms0_126 hms0_143; exact ((if_neg hc70).trans ((if_neg hc76).trans ((if_neg hc83).trans (if_pos hc90)))).symm : ms0_143 = f_0 p0 p1), N31, trivial⟩
        · obtain ⟨fs, hr, hrun, hended, hW, hsame⟩ := X3.leave (v := some (.int (0 : Int32))) (fun h => by rw [Bd.returns] at h; cases h) (BodyLoose.notSynchronized Bd)
          refine ⟨_, _, pre28 _ ?_, hrun, hended, _, _, rfl, ?_, ⟨_, rfl⟩, hW, hsame.mono (by decide) (by decide)⟩
          · show Steps p.tables e below (T3.setTop (mkF m 90 #[.val (.int p0), .val (.int p1), .val (.int v2_7), .val (.int v3_11), .val (.int m4_61), .val (.int v5_66), .unset, .unset] [(.int (9 : Int32)), (.int v5_66)])) _
            refine XS.icmpNo X3.here hx rfl (hb hby at_90) rfl (feq hc90).1 ?_
            show Steps p.tables e below (T3.setTop (mkF m 93 #[.val (.int p0), .val (.int p1), .val (.int v2_7), .val (.int v3_11), .val (.int m4_61), .val (.int v5_66), .unset, .unset] [])) _
            refine XS.iconst X3.here hx rfl (hb hby at_93) ?_
            show Steps p.tables e below (T3.setTop (mkF m 94 #[.val (.int p0), .val (.int p1), .val (.int v2_7), .val (.int v3_11), .val (.int m4_61), .val (.int v5_66), .unset, .unset] [(.int (0 : Int32))])) _
            exact retN X3 hx (t := .boolean) Bd.returns (by simp) (hb hby at_94) hr
          · show Q_0 Z p0 p1 h0 n0 _ T3.heap _
            rw [e3]
            exact ⟨congrArg (fun z => some (Value.int z)) (by subst hv2_7 hv3_11 hm4_61 hv5_66; exact ((if_neg hc70).trans ((if_neg hc76).trans ((if_neg hc83).trans (if_neg hc90)))).symm : (0 : Int32) = f_0 p0 p1), N3, trivial⟩
theorem own_x9 (m : Int32) (h0 : 0 ≤ m.toInt) : f_2 m 0 = if m.toInt % 1000000000 = 0 then 1 else 0 := by
  have u : f_3 0 = 1000000000 := rfl
  have d := (c_idiv m 1000000000 1000000000 (by decide) (by decide)).1 h0
  have p := c_imul (m / 1000000000) 1000000000
  have r := rng32 (m / 1000000000 * 1000000000)
  have r0 := rng32 m
  have l : (1000000000 : Int32).toInt = 1000000000 := by decide
  rw [l, d] at p
  have e : (m / 1000000000 * 1000000000 = m) ↔ m.toInt % 1000000000 = 0 := by rw [← Int32.toInt_inj]; omega
  simp only [f_2, u, e]
theorem own_x6 (m : Int32) (h0 : 0 ≤ m.toInt) : f_2 m 3 = if m.toInt % 1000000 = 0 then 1 else 0 := by
  have u : f_3 3 = 1000000 := rfl
  have d := (c_idiv m 1000000 1000000 (by decide) (by decide)).1 h0
  have p := c_imul (m / 1000000) 1000000
  have r := rng32 (m / 1000000 * 1000000)
  have r0 := rng32 m
  have l : (1000000 : Int32).toInt = 1000000 := by decide
  rw [l, d] at p
  have e : (m / 1000000 * 1000000 = m) ↔ m.toInt % 1000000 = 0 := by rw [← Int32.toInt_inj]; omega
  simp only [f_2, u, e]
theorem own_x3 (m : Int32) (h0 : 0 ≤ m.toInt) : f_2 m 6 = if m.toInt % 1000 = 0 then 1 else 0 := by
  have u : f_3 6 = 1000 := rfl
  have d := (c_idiv m 1000 1000 (by decide) (by decide)).1 h0
  have p := c_imul (m / 1000) 1000
  have r := rng32 (m / 1000 * 1000)
  have r0 := rng32 m
  have l : (1000 : Int32).toInt = 1000 := by decide
  rw [l, d] at p
  have e : (m / 1000 * 1000 = m) ↔ m.toInt % 1000 = 0 := by rw [← Int32.toInt_inj]; omega
  simp only [f_2, u, e]
theorem own_x0 (m : Int32) (h0 : 0 ≤ m.toInt) : f_2 m 9 = 1 := by
  have u : f_3 9 = 1 := rfl
  have d := (c_idiv m 1 1 (by decide) (by decide)).1 h0
  have p := c_imul (m / 1) 1
  have r := rng32 (m / 1 * 1)
  have r0 := rng32 m
  have l : (1 : Int32).toInt = 1 := by decide
  rw [l, d] at p
  have e : (m / 1 * 1 = m) := by rw [← Int32.toInt_inj]; omega
  simp only [f_2, u, e, if_true]
theorem own_fd (m : Int32) (h0 : 0 ≤ m.toInt) : f_1 m = if m.toInt = 0 then 0 else if m.toInt % 1000000 = 0 then 3 else if m.toInt % 1000 = 0 then 6 else 9 := by
  have d1 := (c_irem m 1000000 1000000 (by decide)).1 h0
  have d2 := (c_irem m 1000 1000 (by decide)).1 h0
  have l0 : (0 : Int32).toInt = 0 := by decide
  simp only [f_1, ← Int32.toInt_inj, d1, d2, l0]
theorem own_key (m : Int32) (h0 : 0 ≤ m.toInt) (h1 : m.toInt < 1000000000) : (let v5_66 : Int32 := (f_1 m); (if v5_66 = (0 : Int32) then let v6_102 : Int32 := (f_2 m v5_66); let ms0_143 : Int32 := (if v6_102 = (0 : Int32) then (0 : Int32) else (1 : Int32)); ms0_143 else (if v5_66 = (3 : Int32) then let v6_102 : Int32 := (f_2 m v5_66); let ms0_126 : Int32 := (if (f_2 m (v5_66 - (3 : Int32))) = (0 : Int32) then (1 : Int32) else (0 : Int32)); let ms0_143 : Int32 := (if v6_102 = (0 : Int32) then (0 : Int32) else (if ms0_126 = (0 : Int32) then (0 : Int32) else (1 : Int32))); ms0_143 else (if v5_66 = (6 : Int32) then let v6_102 : Int32 := (f_2 m v5_66); let ms0_126 : Int32 := (if (f_2 m (v5_66 - (3 : Int32))) = (0 : Int32) then (1 : Int32) else (0 : Int32)); let ms0_143 : Int32 := (if v6_102 = (0 : Int32) then (0 : Int32) else (if ms0_126 = (0 : Int32) then (0 : Int32) else (1 : Int32))); ms0_143 else (if v5_66 = (9 : Int32) then let v6_102 : Int32 := (f_2 m v5_66); let ms0_126 : Int32 := (if (f_2 m (v5_66 - (3 : Int32))) = (0 : Int32) then (1 : Int32) else (0 : Int32)); let ms0_143 : Int32 := (if v6_102 = (0 : Int32) then (0 : Int32) else (if ms0_126 = (0 : Int32) then (0 : Int32) else (1 : Int32))); ms0_143 else (0 : Int32)))))) = (1 : Int32) := by
  have q9 := own_x9 m h0
  have q6 := own_x6 m h0
  have q3 := own_x3 m h0
  have q0 := own_x0 m h0
  have fd := own_fd m h0
  have s3 : (3 : Int32) - 3 = 0 := by decide
  have s6 : (6 : Int32) - 3 = 3 := by decide
  have s9 : (9 : Int32) - 3 = 6 := by decide
  by_cases a : m.toInt = 0
  · have b : m.toInt % 1000000000 = 0 := by omega
    rw [if_pos a] at fd
    rw [if_pos b] at q9
    simp [fd, q9]
  · have b : ¬ m.toInt % 1000000000 = 0 := by omega
    rw [if_neg a] at fd
    rw [if_neg b] at q9
    by_cases c : m.toInt % 1000000 = 0
    · rw [if_pos c] at fd q6
      simp [fd, q9, q6, s3]
    · rw [if_neg c] at fd q6
      by_cases d : m.toInt % 1000 = 0
      · rw [if_pos d] at fd q3
        simp [fd, q3, q6, s6]
      · rw [if_neg d] at fd q3
        simp [fd, q3, q0, s9]
theorem own_law (p0 p1 : Int32) : f_0 p0 p1 = 1 := by
  have a1 := c_mask p0 2147483647 31 (by decide) (by decide)
  have a2 := (c_irem (p0 &&& 2147483647) 1000000000 1000000000 (by decide)).1 (by omega)
  generalize hb : (p0 &&& 2147483647) % 1000000000 = b at *
  have d1 := (c_idiv b 1000 1000 (by decide) (by decide)).1 (by omega)
  have d2 := (c_idiv b 1000000 1000000 (by decide) (by decide)).1 (by omega)
  have l1 : (1000 : Int32).toInt = 1000 := by decide
  have l2 : (1000000 : Int32).toInt = 1000000 := by decide
  have e1 : (b / 1000 * 1000).toInt = b.toInt / 1000 * 1000 := by rw [Int32.toInt_mul, d1, l1]; exact Int.bmod_eq_of_le (by omega) (by omega)
  have e2 : (b / 1000000 * 1000000).toInt = b.toInt / 1000000 * 1000000 := by rw [Int32.toInt_mul, d2, l2]; exact Int.bmod_eq_of_le (by omega) (by omega)
  have l0 : (0 : Int32).toInt = 0 := by decide
  have k : ∀ z : Int32, 0 ≤ (if z = (0 : Int32) then b else (if z = (1 : Int32) then ((b / (1000 : Int32)) * (1000 : Int32)) else (if z = (2 : Int32) then ((b / (1000000 : Int32)) * (1000000 : Int32)) else (0 : Int32)))).toInt ∧ (if z = (0 : Int32) then b else (if z = (1 : Int32) then ((b / (1000 : Int32)) * (1000 : Int32)) else (if z = (2 : Int32) then ((b / (1000000 : Int32)) * (1000000 : Int32)) else (0 : Int32)))).toInt < 1000000000 := by
    intro z
    repeat' split
    all_goals omega
  subst hb
  exact own_key _ (k (p1 &&& 3)).1 (k (p1 &&& 3)).2
set_option maxRecDepth 65536 in
set_option maxHeartbeats 40000000 in
theorem comes_1 {Post : Tables → Env → Array Value → State → Outcome → State → Prop} (hpost : ∀ tb e args s v u, (limb_1_1.after args s (.returned v) u = true ∧ limb_1_2.after args s (.returned v) u = true ∧ True) → FrameEnd s (.returned v) u (Jvm.fieldLocs frame_1_writes args s ++ Jvm.arrayLocs frame_1_arrays args s ++ Jvm.staticLocs frame_1_statics s) 0 0 → Post tb e args s (.returned v) u) :
    ArmFor flags0 classFile x code maxLocals ret World_1 tables_1 room_1 Calls_1 rest_1 Pre_1 Post := by
  intro l hfl _ _ p e ha hc hk s m args below hf hA hF happ hP
  obtain ⟨hcalls, hrest, hpre⟩ := hP
  obtain ⟨-, -, -, hnamed, -, -, -, hat⟩ := (Spec.applies_iff hf).mp happ
  obtain ⟨hg, hn⟩ := and_e (Cond.before_iff.mp (show (Jvm.Cond.and given_1 narrow_1).before args s = true from hpre))
  obtain ⟨g0, gt0⟩ := and_e hg
  obtain ⟨ga0, gt1⟩ := and_e gt0
  obtain ⟨w0, w1, rfl⟩ : ∃ w0 w1 : Value, args = #[w0, w1] := by
    have hs : args.size = 2 := by simpa [Cond.value, given_1] using g0
    obtain ⟨L⟩ := args
    match L, hs with
    | [w0, w1], _ => exact ⟨w0, w1, rfl⟩
  have hw := fun d (hd : d ∈ tables_1) => atoms_spec (ws := Jvm.Cond.code x code maxLocals ret :: tables_1) hat d (List.mem_cons_of_mem _ hd)
  have hfit : Fit s := fun {y c} hc i hi => by
    obtain ⟨ha, rfl⟩ := Array.getElem?_eq_some_iff.mp hc
    have q := List.all_eq_true.mp ((Array.all_eq_true_iff_forall_mem.mp hF) _ (Array.getElem_mem ha)) i (List.mem_range.mpr hi)
    simpa [Array.getElem?_eq_getElem hi] using q
  obtain ⟨i0, ei0⟩ := is_v ga0
  obtain rfl : w0 = (.int i0) := Option.some.inj ei0
  obtain ⟨i1, ei1⟩ := is_v gt1
  obtain rfl : w1 = (.int i1) := Option.some.inj ei1
  obtain ⟨n, o, h1, h2, h3, _, L, rfl, ⟨rfl, N⟩, hq⟩ := rm_0 l s _ hw tables_1 i0 i1  s.heap s.heap.size (Nat.le_refl _)  p e ha hc hk s m _ below hf ((Spec.applies_iff_loose hf).mp happ).1 ⟨rfl, State.Warmed39.refl s, rfl⟩ trivial
  refine ⟨n, _, h1, h2, h3, hpost _ _ _ _ _ _ ⟨Cond.after_iff.mpr rfl, Cond.after_iff.mpr (eq_i res_at (Term.int_eval (1)) (congrArg Value.int (own_law _ _))), trivial⟩ ⟨hq.1, hq.2.1, (hq.2.2.sift fun y hy => Or.inr (N.1 y hy)).mono (by decide) (by decide)⟩⟩
theorem main_1_1 : Claimed_1_1 := comes_1 fun _ _ _ _ _ _ h hF => ⟨h.1, hF⟩
theorem main_1_2 : Claimed_1_2 := comes_1 fun _ _ _ _ _ _ h hF => ⟨h.2.1, hF⟩
end Jvm.Pilot.@@N@@
namespace Jvm.Pilot.@@N@@
open Jvm Jvm.ClassFile Sem Op Lib Jvm.Free Jvm.Stand Jvm.Pilot.@@N@@.Jvm.D
/-! MADE BY PROGRAM (witnessworld.py) out of the Statement's table words and the real class files: 9 classes; the members and pool entries that the words name. The judged class is class 1, her method 3. -/
namespace start1
open Jvm.ClassFile
def u (s : String) : CpInfo := .utf8 (stringToUtf16 s)
/-- a pool by its gaps: so many unusable entries, then the entry; so many at the end -/
def gap : Nat → List CpInfo → List CpInfo
  | 0, r => r
  | n + 1, r => .unusable :: gap n r
def poolList (es : List (Nat × CpInfo)) (last : Nat) : List CpInfo := es.foldr (fun e r => gap e.1 (e.2 :: r)) (gap last [])
def pool (es : List (Nat × CpInfo)) (last : Nat) : Array CpInfo := ⟨poolList es last⟩
def fileOf (pool : Array CpInfo) (this : Nat) (attrs : Array Attribute := #[]) (ms : Array MethodInfo := #[]) (fl : Nat := 33) (sup : Nat := 0) (ifs : Array Nat := #[]) (fds : Array FieldInfo := #[]) : ClassFile where
  minorVersion := 0
  majorVersion := 65
  constantPool := pool
  accessFlags := fl
  thisClass := this
  superClass := sup
  interfaces := ifs
  fields := fds
  methods := ms
  attributes := attrs
def plain (name : String) (sup : Option ClassId) : Class where
  name := name
  kind := .ordinary
  loader := none
  accessFlags := 33
  super := sup
  interfaces := #[]
  cf := none
  fields := #[]
  methods := #[]
  instanceTypes := #[]
  staticTypes := #[]
  resolved := #[]
  callSites := []
  init := .initialized
  statics := none
  mirror := none

def pool0 : Array CpInfo := pool [(5, u "<init>"), (0, u "()V"), (1, .class_ 10), (1, u "java/lang/Object")] 113

def k0m0 : Method := { name := "<init>", desc := "()V", sig := { parameters := [], returnType := none }, accessFlags := 1, code := none }
/-- java/lang/Object -/
def k0 : Class := { plain "java/lang/Object" none with
  accessFlags := 33
  interfaces := #[]
  cf := some (fileOf pool0 8 #[] #[{ accessFlags := 1, nameIndex := 5, descriptorIndex := 6, attributes := #[] }] 33 0 #[] #[])
  fields := #[]
  methods := #[k0m0]
  instanceTypes := #[]
  staticTypes := #[]
  resolved := Array.replicate 124 none
  statics := none }

def pool1 : Array CpInfo := pool [(2, .class_ 4), (1, u "java/lang/Object"), (0, u "<init>"), (0, u "()V"), (0, .integer 1000000000), (0, .integer 1000000), (0, .methodref 10 11), (0, .class_ 12), (0, .nameAndType 13 14), (0, u "com/example/dayt/dayt/text/TextFormFractionDigitsPinLaw"), (0, u "unitFor"), (0, u "(I)I"), (0, .integer 2147483647), (0, .methodref 17 18), (0, .class_ 19), (0, .nameAndType 20 14), (0, u "com/example/dayt/dayt/text/TextForm"), (0, u "fractionDigits"), (0, .methodref 10 22), (0, .nameAndType 23 24), (0, u "exact"), (0, u "(II)Z"), (3, u "law")] 2

def k1m0 : Method := { name := "<init>", desc := "()V", sig := { parameters := [], returnType := none }, accessFlags := 1, code := none }
def k1c1 : Code := { maxStack := 2, maxLocals := 1, code := method_2_code, exceptionTable := #[], attributes := #[] }
def k1m1 : Method := { name := "unitFor", desc := "(I)I", sig := { parameters := [.int], returnType := some .int }, accessFlags := 10, code := some k1c1 }
def k1c2 : Code := { maxStack := 2, maxLocals := 3, code := method_3_code, exceptionTable := #[], attributes := #[] }
def k1m2 : Method := { name := "exact", desc := "(II)Z", sig := { parameters := [.int, .int], returnType := some .boolean }, accessFlags := 10, code := some k1c2 }
def k1c3 : Code := { maxStack := 3, maxLocals := 8, code := code, exceptionTable := #[], attributes := #[] }
def k1m3 : Method := { name := "law", desc := "(II)Z", sig := { parameters := [.int, .int], returnType := some .boolean }, accessFlags := 9, code := some k1c3 }
/-- com/example/dayt/dayt/text/TextFormFractionDigitsPinLaw -/
def k1 : Class := { plain "com/example/dayt/dayt/text/TextFormFractionDigitsPinLaw" (some 0) with
  accessFlags := 49
  interfaces := #[]
  cf := some (fileOf pool1 10 #[] #[{ accessFlags := 1, nameIndex := 5, descriptorIndex := 6, attributes := #[] }, { accessFlags := 10, nameIndex := 13, descriptorIndex := 14, attributes := #[] }, { accessFlags := 10, nameIndex := 23, descriptorIndex := 24, attributes := #[] }, { accessFlags := 9, nameIndex := 28, descriptorIndex := 24, attributes := #[] }] 49 2 #[] #[])
  fields := #[]
  methods := #[k1m0, k1m1, k1m2, k1m3]
  instanceTypes := #[]
  staticTypes := #[]
  resolved := Array.replicate 31 none
  statics := none }

def pool2 : Array CpInfo := pool [(2, .class_ 4), (1, u "java/lang/Object"), (3, .class_ 10), (1, u "com/example/dayt/dayt/text/TextForm"), (0, u "kind"), (0, u "Ljava/lang/String;"), (2, u "shape"), (27, u "(I)I"), (0, .integer 1000000), (6, u "NANOS_PER_FRACTION_UNIT"), (0, u "[I"), (82, u "DATE_LENGTH"), (0, u "I"), (4, u "YEAR_DIGITS"), (2, u "SECONDS_PER_DAY"), (6, u "fractionDigits")] 33

def k2c0 : Code := { maxStack := 2, maxLocals := 2, code := prog_23_method_5_code, exceptionTable := #[], attributes := #[] }
def k2m0 : Method := { name := "fractionDigits", desc := "(I)I", sig := { parameters := [.int], returnType := some .int }, accessFlags := 8, code := some k2c0 }
/-- com/example/dayt/dayt/text/TextForm -/
def k2 : Class := { plain "com/example/dayt/dayt/text/TextForm" (some 0) with
  accessFlags := 32
  interfaces := #[]
  cf := some (fileOf pool2 8 #[] #[{ accessFlags := 8, nameIndex := 151, descriptorIndex := 43, attributes := #[] }] 32 2 #[] #[{ accessFlags := 24, nameIndex := 141, descriptorIndex := 136, attributes := #[] }, { accessFlags := 24, nameIndex := 135, descriptorIndex := 136, attributes := #[] }, { accessFlags := 24, nameIndex := 144, descriptorIndex := 136, attributes := #[] }, { accessFlags := 24, nameIndex := 51, descriptorIndex := 52, attributes := #[] }, { accessFlags := 18, nameIndex := 11, descriptorIndex := 12, attributes := #[] }, { accessFlags := 18, nameIndex := 15, descriptorIndex := 12, attributes := #[] }])
  fields := #[{ name := "YEAR_DIGITS", type := .int, accessFlags := 24, slot := 0, constantValue := 0 }, { name := "DATE_LENGTH", type := .int, accessFlags := 24, slot := 1, constantValue := 0 }, { name := "SECONDS_PER_DAY", type := .int, accessFlags := 24, slot := 2, constantValue := 0 }, { name := "NANOS_PER_FRACTION_UNIT", type := (.array .int), accessFlags := 24, slot := 3, constantValue := 0 }, { name := "kind", type := (.object "java/lang/String"), accessFlags := 18, slot := 0, constantValue := 0 }, { name := "shape", type := (.object "java/lang/String"), accessFlags := 18, slot := 1, constantValue := 0 }]
  methods := #[k2m0]
  instanceTypes := #[(.object "java/lang/String"), (.object "java/lang/String")]
  staticTypes := #[.int, .int, .int, (.array .int)]
  resolved := Array.replicate 185 none
  statics := none }

def pool3 : Array CpInfo := pool [(1, u "java/lang/Cloneable"), (0, .class_ 1), (0, u "java/lang/Object"), (0, .class_ 3)] 3

/-- java/lang/Cloneable -/
def k3 : Class := { plain "java/lang/Cloneable" (some 0) with
  accessFlags := 1537
  interfaces := #[]
  cf := some (fileOf pool3 2 #[] #[] 1537 4 #[] #[])
  fields := #[]
  methods := #[]
  instanceTypes := #[]
  staticTypes := #[]
  resolved := Array.replicate 8 none
  statics := none }

def pool4 : Array CpInfo := pool [(1, u "java/io/Serializable"), (0, .class_ 1), (0, u "java/lang/Object"), (0, .class_ 3)] 3

/-- java/io/Serializable -/
def k4 : Class := { plain "java/io/Serializable" (some 0) with
  accessFlags := 1537
  interfaces := #[]
  cf := some (fileOf pool4 2 #[] #[] 1537 4 #[] #[])
  fields := #[]
  methods := #[]
  instanceTypes := #[]
  staticTypes := #[]
  resolved := Array.replicate 8 none
  statics := none }

/-- the primitive byte -/
def k5 : Class := { plain "byte" none with kind := .primitive 'B', accessFlags := 0x411 }
/-- [B -/
def k6 : Class := { plain "[B" (some 0) with kind := .array 5 .byte, interfaces := #[3, 4], accessFlags := 1041 }

/-- the primitive int -/
def k7 : Class := { plain "int" none with kind := .primitive 'I', accessFlags := 0x411 }
/-- [I -/
def k8 : Class := { plain "[I" (some 0) with kind := .array 7 .int, interfaces := #[3, 4], accessFlags := 1041 }

def heap : Heap := #[]
def classes : Array Class := #[k0, k1, k2, k3, k4, k5, k6, k7, k8]
def interned : List (Array UInt16 × Addr) := []
def slotsUsed : Nat := 0
def theMethod : MethodId := ⟨1, 3⟩
def args0 : Array Value := #[.int 5, .int 3]
def aboutOver (below : List Frame) : State where
  vm := { classes := classes, interned := interned.toArray }
  heap := heap
  slotsUsed := slotsUsed
  threads := #[{ frames := .invoking theMethod args0 :: below }]
def below0 : List Frame := [.native { method := ⟨0, 0⟩, args := #[] }]
def about1 : State := aboutOver below0
def p0 : Program := .bare "" "" ""
def e0 : Env := launch0.env 0 0 0
theorem w_frames : about1.frames = Frame.invoking theMethod args0 :: below0 := rfl
set_option maxRecDepth 65536 in
theorem w_args : argsFit about1.vm theMethod args0 = true := by decide +kernel
set_option maxRecDepth 65536 in
theorem w_heap : heapFits about1 = true := by decide +kernel
set_option maxRecDepth 65536 in
theorem w_runnable : about1.curStatus? = some .runnable := by decide +kernel
set_option maxRecDepth 65536 in
theorem w_alone : about1.alone = true := by decide +kernel
set_option maxRecDepth 65536 in
theorem w_named : about1.methodNamed? x = some theMethod := by decide +kernel
set_option maxRecDepth 65536 in
theorem w_hears : about1.hears theMethod below0 = true := by decide +kernel
set_option maxRecDepth 65536 in
theorem w_ripe : about1.ripe theMethod args0 below0 = true := by decide +kernel
theorem w_running : about1.status = .running := rfl
set_option maxRecDepth 65536 in
theorem w_room : about1.hasRoom e0.platform room_1 = true :=
  launch0.hasRoom_least _ room_1 (by decide +kernel) (by decide +kernel) (by decide +kernel) (by decide +kernel) (by decide +kernel) (by decide +kernel)
theorem allAtoms_all (ts : List Jvm.Cond) (a : Array Jvm.Value) (st : Jvm.State) : (allAtoms ts).before a st = ts.all (fun c => c.before a st) := by
  induction ts with
  | nil => rfl
  | cons c t ih =>
    show (Jvm.Cond.and c (allAtoms t)).before a st = _
    rw [Jvm.Cond.before_and, ih, List.all_cons]
def words1 : List Jvm.Cond := Jvm.Cond.code x code maxLocals ret :: tables_1
/-- a 'code' word, met by the world's own term for the bytes: nothing is compared byte by byte -/
theorem code_word {y : MethodName} {bytes : ByteArray} {mx : Nat} {rt : Option FieldType} {a : Array Value} {s : State} {m : MethodId} {meth : Method} {c : Code} (h1 : s.methodNamed? y = some m) (h2 : s.vm.method? m = some meth) (h3 : meth.code = some c) (h4 : c.code = bytes)
    (h5 : (c.maxLocals == mx && c.exceptionTable.isEmpty && decide (c.maxStack ≤ mostOperands) && decide (meth.sig.returnType = rt) && !meth.locks && decide (parseMethodDescriptor y.desc = some meth.sig)) = true) : (Jvm.Cond.code y bytes mx rt).before a s = true := by
  simp only [Bool.and_eq_true, beq_iff_eq, Bool.not_eq_true', decide_eq_true_eq] at h5
  obtain ⟨⟨⟨⟨⟨g1, g2⟩, g3⟩, g4⟩, g5⟩, g6⟩ := h5
  simp [Cond.before, Cond.holds, Cond.value, h1, h2, h3, h4, g1, g2, g3, g4, g5, g6]
def isCode : Jvm.Cond → Bool
  | .code _ _ _ _ => true
  | _ => false
theorem all_split {L : List Jvm.Cond} {P : Jvm.Cond → Bool} (h1 : L.all (fun c => isCode c || P c) = true) (h2 : ∀ c ∈ L.filter isCode, P c = true) : L.all P = true := by
  refine List.all_eq_true.mpr fun c hc => ?_
  have h := List.all_eq_true.mp h1 c hc
  rcases Bool.eq_false_or_eq_true (isCode c) with hi | hi
  · exact h2 c (List.mem_filter.mpr ⟨hc, hi⟩)
  · simpa [hi] using h
set_option maxRecDepth 65536 in
theorem w_c0 : (Jvm.Cond.code x code maxLocals ret).before args0 about1 = true := code_word (m := ⟨1, 3⟩) (meth := k1m3) (c := k1c3) (by decide +kernel) rfl rfl rfl (by decide +kernel)
set_option maxRecDepth 65536 in
theorem w_c1 : (Jvm.Cond.code ({ cls := "com/example/dayt/dayt/text/TextForm", name := "fractionDigits", desc := "(I)I" } : Jvm.MethodName) prog_23_method_5_code (2 : Nat) (Option.some Jvm.ClassFile.FieldType.int)).before args0 about1 = true := code_word (m := ⟨2, 0⟩) (meth := k2m0) (c := k2c0) (by decide +kernel) rfl rfl rfl (by decide +kernel)
set_option maxRecDepth 65536 in
theorem w_c2 : (Jvm.Cond.code ({ cls := "com/example/dayt/dayt/text/TextFormFractionDigitsPinLaw", name := "exact", desc := "(II)Z" } : Jvm.MethodName) method_3_code (3 : Nat) (Option.some Jvm.ClassFile.FieldType.boolean)).before args0 about1 = true := code_word (m := ⟨1, 2⟩) (meth := k1m2) (c := k1c2) (by decide +kernel) rfl rfl rfl (by decide +kernel)
set_option maxRecDepth 65536 in
theorem w_c3 : (Jvm.Cond.code ({ cls := "com/example/dayt/dayt/text/TextFormFractionDigitsPinLaw", name := "unitFor", desc := "(I)I" } : Jvm.MethodName) method_2_code (1 : Nat) (Option.some Jvm.ClassFile.FieldType.int)).before args0 about1 = true := code_word (m := ⟨1, 1⟩) (meth := k1m1) (c := k1c1) (by decide +kernel) rfl rfl rfl (by decide +kernel)
def codes1 : List Jvm.Cond := [Jvm.Cond.code x code maxLocals ret, Jvm.Cond.code ({ cls := "com/example/dayt/dayt/text/TextForm", name := "fractionDigits", desc := "(I)I" } : Jvm.MethodName) prog_23_method_5_code (2 : Nat) (Option.some Jvm.ClassFile.FieldType.int), Jvm.Cond.code ({ cls := "com/example/dayt/dayt/text/TextFormFractionDigitsPinLaw", name := "exact", desc := "(II)Z" } : Jvm.MethodName) method_3_code (3 : Nat) (Option.some Jvm.ClassFile.FieldType.boolean), Jvm.Cond.code ({ cls := "com/example/dayt/dayt/text/TextFormFractionDigitsPinLaw", name := "unitFor", desc := "(I)I" } : Jvm.MethodName) method_2_code (1 : Nat) (Option.some Jvm.ClassFile.FieldType.int)]
set_option maxRecDepth 65536 in
theorem codes_eq : words1.filter isCode = codes1 := rfl
theorem w_codes : ∀ c ∈ words1.filter isCode, c.before args0 about1 = true := by
  rw [codes_eq]
  intro c hc
  simp only [codes1, List.mem_cons, List.not_mem_nil, or_false] at hc
  rcases hc with rfl | rfl | rfl | rfl
  · exact w_c0
  · exact w_c1
  · exact w_c2
  · exact w_c3
set_option maxRecDepth 65536 in
theorem w_t1 : words1.all (fun c => isCode c || c.before args0 about1) = true := by decide +kernel
theorem w_tables : (allAtoms (Jvm.Cond.code x code maxLocals ret :: tables_1)).before args0 about1 = true := by
  rw [allAtoms_all]
  show words1.all (fun c => c.before args0 about1) = true
  refine all_split ?_ w_codes
  rw [w_t1]
set_option maxRecDepth 65536 in
theorem w_case : (Jvm.Cond.and given_1 narrow_1).before args0 about1 = true := by decide +kernel
theorem w_applies : (headSpec (Jvm.Cond.code x code maxLocals ret :: tables_1) room_1).applies x e0.platform about1 = true :=
  (Spec.applies_iff w_frames).mpr ⟨w_running, w_runnable, w_alone, w_named, w_hears, w_ripe, w_room, w_tables⟩
theorem atStart : AtStart classFile x code maxLocals ret World_1 tables_1 room_1 Calls_1 rest_1 Pre_1 launch0 p0 e0 about1 theMethod args0 below0 :=
  ⟨lists_1, trivial, launch0.admits_env _ _ _, launch0.least_env, fairChoices_fair.cas, fairChoices_fair.clock, w_frames, w_args, w_heap, w_applies, trivial, trivial, w_case⟩
end start1
theorem witness_1 : WitnessClaimed_1 := ⟨start1.p0, start1.e0, start1.about1, start1.theMethod, start1.args0, start1.below0, start1.atStart⟩
end Jvm.Pilot.@@N@@
