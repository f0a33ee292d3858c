import JvmDerived
import JvmDerived.Pilot.@@N@@Statement
import JvmDerived.Pilot.@@N@@Code
set_option linter.unusedVariables false
set_option linter.unusedSimpArgs false
namespace Jvm.RoadKit
open Sem ClassFile Op Lib Jvm.Stand Jvm.Free Jvm.LawKit
section New
variable {p : Program} {l : Launch} {e : Env} {R : Room} {s : State} {m : MethodId} {args : Array Value} {below : List Frame} {meth : Method} {c : Code} {T : State} {locs : List Loc} {cells slots : Nat}
theorem retI (X : Stand p l e R s m args below meth c T locs cells slots) (hx : p.tables.exec = Jvm.exec) {pc : Nat} {Ls : Array Slot} {z : Int32} {rest : List Value} (hret : meth.sig.returnType = some .int) (hd : decode c.code pc = .ok (.ireturn, 1)) {fs : List Frame}
    (hl : ∀ (f : JFrame) (acts : List Action), f.method = m → f.locked = none → f.entered = [] → (doReturn e (T.setTop f) acts (some (.int z))).1 = T.setFrames fs) : Steps p.tables e below (T.setTop (mkF m pc Ls (.int z :: rest))) (T.setFrames fs) := by
  have hm' : T.vm.method? m = some meth := X.method'
  have hn : narrow .int (.int z) = .int z := rfl
  show Steps p.tables e below (T.setTop { method := m, pc := pc, locals := Ls, stack := _ :: rest, locked := none }) _
  jvm_step X.here [X.here.top, hx, hd, hm', hret, hn]
  first | (intro acts; rw [hl _ acts rfl rfl rfl]) | rw [hl _ _ rfl rfl rfl]
  exact Steps.refl _
theorem own_lremM {g : JFrame} {target : State} (X : Stand p l e R s m args below meth c T locs cells slots) (hx : p.tables.exec = Jvm.exec) (hg : g.method = m) {x y : Int64} {rest : List Value} (hd : decode c.code g.pc = .ok (.lrem, 1)) (hs : g.stack = .long y :: .long x :: rest) (hy : y ≠ 0)
    (hr : Steps p.tables e below (T.setTop { g with pc := g.pc + 1, stack := .long (x % y) :: rest }) target) : Steps p.tables e below (T.setTop g) target := by
  have q : x - x / y * y = x % y := lrem_mod x y
  exact XS.lrem X.here hx hg hd hs hy (by rw [q]; exact hr)
end New
end Jvm.RoadKit
namespace Jvm.Pilot.@@N@@
open Jvm Jvm.ClassFile Sem Op Lib Jvm.Free Jvm.Stand Jvm.LawKit Jvm.RoadKit Bundle Jvm.Pilot.@@N@@.Jvm.D
theorem d1_0 : decode prog_49_method_6_code 0 = .ok (.iload_n 0, 1) := by decide +kernel
theorem d1_1 : decode prog_49_method_6_code 1 = .ok (.bipush 32, 2) := by decide +kernel
theorem d1_3 : decode prog_49_method_6_code 3 = .ok (.if_icmp .ge 9, 3) := by decide +kernel
theorem d1_6 : decode prog_49_method_6_code 6 = .ok (.iload_n 0, 1) := by decide +kernel
theorem d1_7 : decode prog_49_method_6_code 7 = .ok (.bipush 9, 2) := by decide +kernel
theorem d1_9 : decode prog_49_method_6_code 9 = .ok (.if_icmp .ne 9, 3) := by decide +kernel
theorem d1_12 : decode prog_49_method_6_code 12 = .ok (.iload_n 0, 1) := by decide +kernel
theorem d1_13 : decode prog_49_method_6_code 13 = .ok (.bipush 127, 2) := by decide +kernel
theorem d1_15 : decode prog_49_method_6_code 15 = .ok (.if_icmp .ne 7, 3) := by decide +kernel
theorem d1_18 : decode prog_49_method_6_code 18 = .ok (.iconst 1, 1) := by decide +kernel
theorem d1_19 : decode prog_49_method_6_code 19 = .ok (.goto 4, 3) := by decide +kernel
theorem d1_22 : decode prog_49_method_6_code 22 = .ok (.iconst 0, 1) := by decide +kernel
theorem d1_23 : decode prog_49_method_6_code 23 = .ok (.ireturn, 1) := by decide +kernel
theorem pn_1 : plainName "com/example/fanoutd/fanoutd/proxy/HeadReader" = true := by first | (simp [plainName, overriddenIn]; done) | decide +kernel
theorem ef_1 (m : MethodId) (p0 : Int32) : entryFrame m #[(.int p0)] 1 = mkF m 0 #[.val (.int p0)] [] := by first | (simp [entryFrame, mkF, argsToLocals, Value.category]; done) | rfl
def f_1 (p0 : Int32) : Int32 := let ms0_23 : Int32 := (if p0 < (32 : Int32) then (if p0 = (9 : Int32) then (if p0 = (127 : Int32) then (1 : Int32) else (0 : Int32)) else (1 : Int32)) else (if p0 = (127 : Int32) then (1 : Int32) else (0 : Int32))); ms0_23
def Q_1 (Z : State) (p0 : Int32)  (h0 : Heap) (n0 : Nat) (v : Option Value) (h : Heap) (L : List Loc) : Prop := v = some (.int (f_1 p0)) ∧ Fr n0 L ∧ h = h0
set_option maxRecDepth 65536 in
set_option maxHeartbeats 40000000 in
theorem rm_1 (l : Launch) (Z : State) (a0 : Array Value) (hw : ∀ d ∈ tables_1, d.before a0 Z = true) (ws : List Jvm.Cond) (p0 : Int32)  (h0 : Heap) (n0 : Nat) (Z0 : n0 ≤ h0.size)  :
    MetFree l (⟨"com/example/fanoutd/fanoutd/proxy/HeadReader", "isControl", "(I)Z"⟩ : MethodName) (head1 (Jvm.Cond.code (⟨"com/example/fanoutd/fanoutd/proxy/HeadReader", "isControl", "(I)Z"⟩ : MethodName) prog_49_method_6_code 1 (some .boolean) :: ws) ({ frames := 0, cells := 0, slots := 0, locals := 0 } : Room)) (fun a U => a = #[(.int p0)] ∧ Z.Warmed39 U.vm ∧ U.heap = h0) (fun _ _ _ _ _ => True) (fun _ U o U' => ∃ v L, o = .returned v ∧ Q_1 Z p0 h0 n0 v U'.heap L ∧ FrameEnd U o U' L ({ frames := 0, cells := 0, slots := 0, locals := 0 } : Room).cells ({ frames := 0, cells := 0, slots := 0, locals := 0 } : Room).slots) := by
  refine MetFree.of_bodySF (plainFor_of_name pn_1) hisR ?_
  intro p e s m args below meth c s₁ Bd hml0 hP hK
  obtain ⟨rfl, hZ, hh⟩ := hP
  have hx := Bd.exec
  have hby := Bd.bytes
  have hml : c.maxLocals = 1 := hml0
  have hown : s.vm.findClass "com/example/fanoutd/fanoutd/proxy/HeadReader" = some m.cls := findClass_of_methodNamed Bd.named
  have hnm := (name_of_methodNamed Bd.named Bd.method).1
  have X0 : Stand p l e ({ frames := 0, cells := 0, slots := 0, locals := 0 } : Room) s m #[(.int p0)] below meth c s₁ [] 0 0 := Stand.of_body Bd
  have e0 : s₁.heap = h0 := by rw [← hh, Bd.state]; rfl
  have N0 := Fr.nil n0
  have K0 : Keep h0 h0 [] := Keep.refl h0 _
  have pre0 : ∀ t, Steps p.tables e below (s₁.setTop (mkF m 0 #[.val (.int p0)] [])) t → Steps p.tables e below (s₁.setTop (entryFrame m #[(.int p0)] 1)) t := fun t k => castTop (ef_1 m p0) k
  have pre1 : ∀ t, Steps p.tables e below (s₁.setTop (mkF m 3 #[.val (.int p0)] [(.int (32 : Int32)), (.int p0)])) t → Steps p.tables e below (s₁.setTop (entryFrame m #[(.int p0)] 1)) t := by
    intro t k
    refine pre0 t ?_
    show Steps p.tables e below (s₁.setTop (mkF m 0 #[.val (.int p0)] [])) _
    refine XS.iloadN X0.here hx rfl (hb hby d1_0) rfl  ?_
    show Steps p.tables e below (s₁.setTop (mkF m 1 #[.val (.int p0)] [(.int p0)])) _
    refine XS.bipush X0.here hx rfl (hb hby d1_1) ?_
    exact k
  obtain ⟨ms0_23, hms0_23⟩ : ∃ z : Int32, z = (if p0 < (32 : Int32) then (if p0 = (9 : Int32) then (if p0 = (127 : Int32) then (1 : Int32) else (0 : Int32)) else (1 : Int32)) else (if p0 = (127 : Int32) then (1 : Int32) else (0 : Int32))) := ⟨_, rfl⟩
  have pre2 : ∀ t, Steps p.tables e below (s₁.setTop (mkF m 23 #[.val (.int p0)] [(.int ms0_23)])) t → Steps p.tables e below (s₁.setTop (entryFrame m #[(.int p0)] 1)) t := by
    intro t k
    refine pre1 t ?_
    by_cases hc3 : p0 < (32 : Int32)
    · show Steps p.tables e below (s₁.setTop (mkF m 3 #[.val (.int p0)] [(.int (32 : Int32)), (.int p0)])) _
      refine XS.icmpNo X0.here hx rfl (hb hby d1_3) rfl (tlt hc3).2.1 ?_
      show Steps p.tables e below (s₁.setTop (mkF m 6 #[.val (.int p0)] [])) _
      refine XS.iloadN X0.here hx rfl (hb hby d1_6) rfl  ?_
      show Steps p.tables e below (s₁.setTop (mkF m 7 #[.val (.int p0)] [(.int p0)])) _
      refine XS.bipush X0.here hx rfl (hb hby d1_7) ?_
      by_cases hc9 : p0 = (9 : Int32)
      · show Steps p.tables e below (s₁.setTop (mkF m 9 #[.val (.int p0)] [(.int (9 : Int32)), (.int p0)])) _
        refine XS.icmpNo X0.here hx rfl (hb hby d1_9) rfl (teq hc9).2 ?_
        show Steps p.tables e below (s₁.setTop (mkF m 12 #[.val (.int p0)] [])) _
        refine XS.iloadN X0.here hx rfl (hb hby d1_12) rfl  ?_
        show Steps p.tables e below (s₁.setTop (mkF m 13 #[.val (.int p0)] [(.int p0)])) _
        refine XS.bipush X0.here hx rfl (hb hby d1_13) ?_
        by_cases hc15 : p0 = (127 : Int32)
        · show Steps p.tables e below (s₁.setTop (mkF m 15 #[.val (.int p0)] [(.int (127 : Int32)), (.int p0)])) _
          refine XS.icmpNo X0.here hx rfl (hb hby d1_15) rfl (teq hc15).2 ?_
          show Steps p.tables e below (s₁.setTop (mkF m 18 #[.val (.int p0)] [])) _
          refine XS.iconst X0.here hx rfl (hb hby d1_18) ?_
          show Steps p.tables e below (s₁.setTop (mkF m 19 #[.val (.int p0)] [(.int (1 : Int32))])) _
          refine XS.goto X0.here hx rfl (pc0 := 19) (pc' := 23) rfl (hb hby d1_19) (by decide) (by decide) ?_
          have qms0_23 : ms0_23 = (1 : Int32) := by rw [hms0_23, if_pos hc3, if_pos hc9, if_pos hc15]
          rw [qms0_23] at k
          exact k
        · show Steps p.tables e below (s₁.setTop (mkF m 15 #[.val (.int p0)] [(.int (127 : Int32)), (.int p0)])) _
          refine XS.icmpYes X0.here hx rfl (pc0 := 15) (pc' := 22) rfl (hb hby d1_15) rfl (feq hc15).2 (by decide) (by decide) ?_
          show Steps p.tables e below (s₁.setTop (mkF m 22 #[.val (.int p0)] [])) _
          refine XS.iconst X0.here hx rfl (hb hby d1_22) ?_
          have qms0_23 : ms0_23 = (0 : Int32) := by rw [hms0_23, if_pos hc3, if_pos hc9, if_neg hc15]
          rw [qms0_23] at k
          exact k
      · show Steps p.tables e below (s₁.setTop (mkF m 9 #[.val (.int p0)] [(.int (9 : Int32)), (.int p0)])) _
        refine XS.icmpYes X0.here hx rfl (pc0 := 9) (pc' := 18) rfl (hb hby d1_9) rfl (feq hc9).2 (by decide) (by decide) ?_
        show Steps p.tables e below (s₁.setTop (mkF m 18 #[.val (.int p0)] [])) _
        refine XS.iconst X0.here hx rfl (hb hby d1_18) ?_
        show Steps p.tables e below (s₁.setTop (mkF m 19 #[.val (.int p0)] [(.int (1 : Int32))])) _
        refine XS.goto X0.here hx rfl (pc0 := 19) (pc' := 23) rfl (hb hby d1_19) (by decide) (by decide) ?_
        have qms0_23 : ms0_23 = (1 : Int32) := by rw [hms0_23, if_pos hc3, if_neg hc9]
        rw [qms0_23] at k
        exact k
    · show Steps p.tables e below (s₁.setTop (mkF m 3 #[.val (.int p0)] [(.int (32 : Int32)), (.int p0)])) _
      refine XS.icmpYes X0.here hx rfl (pc0 := 3) (pc' := 12) rfl (hb hby d1_3) rfl (flt hc3).2.1 (by decide) (by decide) ?_
      show Steps p.tables e below (s₁.setTop (mkF m 12 #[.val (.int p0)] [])) _
      refine XS.iloadN X0.here hx rfl (hb hby d1_12) rfl  ?_
      show Steps p.tables e below (s₁.setTop (mkF m 13 #[.val (.int p0)] [(.int p0)])) _
      refine XS.bipush X0.here hx rfl (hb hby d1_13) ?_
      by_cases hc15 : p0 = (127 : Int32)
      · show Steps p.tables e below (s₁.setTop (mkF m 15 #[.val (.int p0)] [(.int (127 : Int32)), (.int p0)])) _
        refine XS.icmpNo X0.here hx rfl (hb hby d1_15) rfl (teq hc15).2 ?_
        show Steps p.tables e below (s₁.setTop (mkF m 18 #[.val (.int p0)] [])) _
        refine XS.iconst X0.here hx rfl (hb hby d1_18) ?_
        show Steps p.tables e below (s₁.setTop (mkF m 19 #[.val (.int p0)] [(.int (1 : Int32))])) _
        refine XS.goto X0.here hx rfl (pc0 := 19) (pc' := 23) rfl (hb hby d1_19) (by decide) (by decide) ?_
        have qms0_23 : ms0_23 = (1 : Int32) := by rw [hms0_23, if_neg hc3, if_pos hc15]
        rw [qms0_23] at k
        exact k
      · show Steps p.tables e below (s₁.setTop (mkF m 15 #[.val (.int p0)] [(.int (127 : Int32)), (.int p0)])) _
        refine XS.icmpYes X0.here hx rfl (pc0 := 15) (pc' := 22) rfl (hb hby d1_15) rfl (feq hc15).2 (by decide) (by decide) ?_
        show Steps p.tables e below (s₁.setTop (mkF m 22 #[.val (.int p0)] [])) _
        refine XS.iconst X0.here hx rfl (hb hby d1_22) ?_
        have qms0_23 : ms0_23 = (0 : Int32) := by rw [hms0_23, if_neg hc3, if_neg hc15]
        rw [qms0_23] at k
        exact k
  have hnar : nar .boolean ms0_23 = ms0_23 := by rw [hms0_23]; (repeat' split) <;> rfl
  obtain ⟨fs, hr, hrun, hended, hW, hsame⟩ := X0.leave (v := some (.int ms0_23)) (fun h => by rw [Bd.returns] at h; cases h)
  refine ⟨_, _, pre2 _ ?_, hrun, hended, _, _, rfl, ?_, ⟨_, rfl⟩, hW, hsame.mono (by decide) (by decide)⟩
  · show Steps p.tables e below (s₁.setTop (mkF m 23 #[.val (.int p0)] [(.int ms0_23)])) _
    exact retN X0 hx (t := .boolean) Bd.returns (by simp) (hb hby d1_23) (by rw [hnar]; exact hr)
  · show Q_1 Z p0 h0 n0 _ s₁.heap _
    rw [e0]
    exact ⟨congrArg (fun z => some (Value.int z)) (by subst hms0_23; rfl : ms0_23 = f_1 p0), N0, rfl⟩
theorem pd_0 : parseMethodDescriptor "(I)Z" = some ⟨[.int], some .boolean⟩ := by decide +kernel
theorem pn_0 : plainName "com/example/fanoutd/fanoutd/proxy/HeadReaderIsControlPinLaw" = true := by first | (simp [plainName, overriddenIn]; done) | decide +kernel
theorem ef_0 (m : MethodId) (p0 : Int32) : entryFrame m #[(.int p0)] maxLocals = mkF m 0 #[.val (.int p0), .unset, .unset] [] := by first | (simp [entryFrame, mkF, argsToLocals, Value.category, maxLocals]; done) | rfl
def f_0 (p0 : Int32) : Int32 := let v1_4 : Int32 := (p0 &&& (65535 : Int32)); let ms0_38 : Int32 := (if v1_4 < (0 : Int32) then (if v1_4 < (10 : Int32) then (if v1_4 = (127 : Int32) then (1 : Int32) else (0 : Int32)) else (if (31 : Int32) < v1_4 then (if v1_4 = (127 : Int32) then (1 : Int32) else (0 : Int32)) else (1 : Int32))) else (if (8 : Int32) < v1_4 then (if v1_4 < (10 : Int32) then (if v1_4 = (127 : Int32) then (1 : Int32) else (0 : Int32)) else (if (31 : Int32) < v1_4 then (if v1_4 = (127 : Int32) then (1 : Int32) else (0 : Int32)) else (1 : Int32))) else (1 : Int32))); let ms0_52 : Int32 := (if (f_1 v1_4) = ms0_38 then (1 : Int32) else (0 : Int32)); ms0_52
def Q_0 (Z : State) (p0 : Int32)  (h0 : Heap) (n0 : Nat) (v : Option Value) (h : Heap) (L : List Loc) : Prop := v = some (.int (f_0 p0)) ∧ Fr n0 L ∧ True
set_option maxRecDepth 65536 in
set_option maxHeartbeats 40000000 in
theorem rm_0 (l : Launch) (Z : State) (a0 : Array Value) (hw : ∀ d ∈ tables_1, d.before a0 Z = true) (ws : List Jvm.Cond) (p0 : Int32)  (h0 : Heap) (n0 : Nat) (Z0 : n0 ≤ h0.size)  :
    MetFree l x (head1 (Jvm.Cond.code x code maxLocals ret :: ws) room_1) (fun a U => a = #[(.int p0)] ∧ Z.Warmed39 U.vm ∧ U.heap = h0) (fun _ _ _ _ _ => True) (fun _ U o U' => ∃ v L, o = .returned v ∧ Q_0 Z p0 h0 n0 v U'.heap L ∧ FrameEnd U o U' L 0 0) := by
  refine MetFree.of_bodySF (plainFor_of_name pn_0) hisR ?_
  intro p e s m args below meth c s₁ Bd hml0 hP hK
  obtain ⟨rfl, hZ, hh⟩ := hP
  have hx := Bd.exec
  have hby := Bd.bytes
  have hml : c.maxLocals = 3 := hml0
  have hown : s.vm.findClass "com/example/fanoutd/fanoutd/proxy/HeadReaderIsControlPinLaw" = some m.cls := findClass_of_methodNamed Bd.named
  have hnm := (name_of_methodNamed Bd.named Bd.method).1
  have X0 : Stand p l e room_1 s m #[(.int p0)] below meth c s₁ [] 0 0 := Stand.of_body Bd
  have e0 : s₁.heap = h0 := by rw [← hh, Bd.state]; rfl
  have N0 := Fr.nil n0
  have K0 : Keep h0 h0 [] := Keep.refl h0 _
  have pre0 : ∀ t, Steps p.tables e below (s₁.setTop (mkF m 0 #[.val (.int p0), .unset, .unset] [])) t → Steps p.tables e below (s₁.setTop (entryFrame m #[(.int p0)] maxLocals)) t := fun t k => castTop (ef_0 m p0) k
  obtain ⟨v1_4, hv1_4⟩ : ∃ z : Int32, z = (p0 &&& (65535 : Int32)) := ⟨_, rfl⟩
  have pre1 : ∀ t, Steps p.tables e below (s₁.setTop (mkF m 6 #[.val (.int p0), .val (.int v1_4), .unset] [(.int v1_4)])) t → Steps p.tables e below (s₁.setTop (entryFrame m #[(.int p0)] maxLocals)) t := by
    intro t k
    refine pre0 t ?_
    show Steps p.tables e below (s₁.setTop (mkF m 0 #[.val (.int p0), .unset, .unset] [])) _
    refine XS.iloadN X0.here hx rfl (hb hby at_0) rfl  ?_
    show Steps p.tables e below (s₁.setTop (mkF m 1 #[.val (.int p0), .unset, .unset] [(.int p0)])) _
    refine X0.ldcInt hx hown (mvT hZ (hw _ (List.mem_of_getElem? (i := 0) rfl))) (g := (mkF m 1 #[.val (.int p0), .unset, .unset] [(.int p0)])) rfl (hb hby at_1) _ ?_
    show Steps p.tables e below (s₁.setTop (mkF m 3 #[.val (.int p0), .unset, .unset] [(.int (65535 : Int32)), (.int p0)])) _
    refine XS.iand X0.here hx rfl (hb hby at_3) rfl ?_
    show Steps p.tables e below (s₁.setTop (mkF m 4 #[.val (.int p0), .unset, .unset] [(.int (p0 &&& (65535 : Int32)))])) _
    refine XS.istoreN X0.here hx rfl (hb hby at_4) rfl (l' := #[.val (.int p0), .val (.int v1_4), .unset]) (by rw [hv1_4]; rfl) ?_
    show Steps p.tables e below (s₁.setTop (mkF m 5 #[.val (.int p0), .val (.int v1_4), .unset] [])) _
    refine XS.iloadN X0.here hx rfl (hb hby at_5) rfl  ?_
    exact k
  obtain ⟨ms0_38, hms0_38⟩ : ∃ z : Int32, z = (if v1_4 < (0 : Int32) then (if v1_4 < (10 : Int32) then (if v1_4 = (127 : Int32) then (1 : Int32) else (0 : Int32)) else (if (31 : Int32) < v1_4 then (if v1_4 = (127 : Int32) then (1 : Int32) else (0 : Int32)) else (1 : Int32))) else (if (8 : Int32) < v1_4 then (if v1_4 < (10 : Int32) then (if v1_4 = (127 : Int32) then (1 : Int32) else (0 : Int32)) else (if (31 : Int32) < v1_4 then (if v1_4 = (127 : Int32) then (1 : Int32) else (0 : Int32)) else (1 : Int32))) else (1 : Int32))) := ⟨_, rfl⟩
  have pre2 : ∀ t, Steps p.tables e below (s₁.setTop (mkF m 38 #[.val (.int p0), .val (.int v1_4), .unset] [(.int ms0_38)])) t → Steps p.tables e below (s₁.setTop (entryFrame m #[(.int p0)] maxLocals)) t := by
    intro t k
    refine pre1 t ?_
    by_cases hc6 : v1_4 < (0 : Int32)
    · show Steps p.tables e below (s₁.setTop (mkF m 6 #[.val (.int p0), .val (.int v1_4), .unset] [(.int v1_4)])) _
      refine XS.ifYes X0.here hx rfl (pc0 := 6) (pc' := 15) rfl (hb hby at_6) rfl ((if0 _ _).trans (tlt hc6).1) (by decide) (by decide) ?_
      show Steps p.tables e below (s₁.setTop (mkF m 15 #[.val (.int p0), .val (.int v1_4), .unset] [])) _
      refine XS.iloadN X0.here hx rfl (hb hby at_15) rfl  ?_
      show Steps p.tables e below (s₁.setTop (mkF m 16 #[.val (.int p0), .val (.int v1_4), .unset] [(.int v1_4)])) _
      refine XS.bipush X0.here hx rfl (hb hby at_16) ?_
      by_cases hc18 : v1_4 < (10 : Int32)
      · show Steps p.tables e below (s₁.setTop (mkF m 18 #[.val (.int p0), .val (.int v1_4), .unset] [(.int (10 : Int32)), (.int v1_4)])) _
        refine XS.icmpYes X0.here hx rfl (pc0 := 18) (pc' := 27) rfl (hb hby at_18) rfl (tlt hc18).1 (by decide) (by decide) ?_
        show Steps p.tables e below (s₁.setTop (mkF m 27 #[.val (.int p0), .val (.int v1_4), .unset] [])) _
        refine XS.iloadN X0.here hx rfl (hb hby at_27) rfl  ?_
        show Steps p.tables e below (s₁.setTop (mkF m 28 #[.val (.int p0), .val (.int v1_4), .unset] [(.int v1_4)])) _
        refine XS.bipush X0.here hx rfl (hb hby at_28) ?_
        by_cases hc30 : v1_4 = (127 : Int32)
        · show Steps p.tables e below (s₁.setTop (mkF m 30 #[.val (.int p0), .val (.int v1_4), .unset] [(.int (127 : Int32)), (.int v1_4)])) _
          refine XS.icmpNo X0.here hx rfl (hb hby at_30) rfl (teq hc30).2 ?_
          show Steps p.tables e below (s₁.setTop (mkF m 33 #[.val (.int p0), .val (.int v1_4), .unset] [])) _
          refine XS.iconst X0.here hx rfl (hb hby at_33) ?_
          show Steps p.tables e below (s₁.setTop (mkF m 34 #[.val (.int p0), .val (.int v1_4), .unset] [(.int (1 : Int32))])) _
          refine XS.goto X0.here hx rfl (pc0 := 34) (pc' := 38) rfl (hb hby at_34) (by decide) (by decide) ?_
          have qms0_38 : ms0_38 = (1 : Int32) := by rw [hms0_38, if_pos hc6, if_pos hc18, if_pos hc30]
          rw [qms0_38] at k
          exact k
        · show Steps p.tables e below (s₁.setTop (mkF m 30 #[.val (.int p0), .val (.int v1_4), .unset] [(.int (127 : Int32)), (.int v1_4)])) _
          refine XS.icmpYes X0.here hx rfl (pc0 := 30) (pc' := 37) rfl (hb hby at_30) rfl (feq hc30).2 (by decide) (by decide) ?_
          show Steps p.tables e below (s₁.setTop (mkF m 37 #[.val (.int p0), .val (.int v1_4), .unset] [])) _
          refine XS.iconst X0.here hx rfl (hb hby at_37) ?_
          have qms0_38 : ms0_38 = (0 : Int32) := by rw [hms0_38, if_pos hc6, if_pos hc18, if_neg hc30]
          rw [qms0_38] at k
          exact k
      · show Steps p.tables e below (s₁.setTop (mkF m 18 #[.val (.int p0), .val (.int v1_4), .unset] [(.int (10 : Int32)), (.int v1_4)])) _
        refine XS.icmpNo X0.here hx rfl (hb hby at_18) rfl (flt hc18).1 ?_
        show Steps p.tables e below (s₁.setTop (mkF m 21 #[.val (.int p0), .val (.int v1_4), .unset] [])) _
        refine XS.iloadN X0.here hx rfl (hb hby at_21) rfl  ?_
        show Steps p.tables e below (s₁.setTop (mkF m 22 #[.val (.int p0), .val (.int v1_4), .unset] [(.int v1_4)])) _
        refine XS.bipush X0.here hx rfl (hb hby at_22) ?_
        by_cases hc24 : (31 : Int32) < v1_4
        · show Steps p.tables e below (s₁.setTop (mkF m 24 #[.val (.int p0), .val (.int v1_4), .unset] [(.int (31 : Int32)), (.int v1_4)])) _
          refine XS.icmpNo X0.here hx rfl (hb hby at_24) rfl (tlt hc24).2.2.2 ?_
          show Steps p.tables e below (s₁.setTop (mkF m 27 #[.val (.int p0), .val (.int v1_4), .unset] [])) _
          refine XS.iloadN X0.here hx rfl (hb hby at_27) rfl  ?_
          show Steps p.tables e below (s₁.setTop (mkF m 28 #[.val (.int p0), .val (.int v1_4), .unset] [(.int v1_4)])) _
          refine XS.bipush X0.here hx rfl (hb hby at_28) ?_
          by_cases hc30 : v1_4 = (127 : Int32)
          · show Steps p.tables e below (s₁.setTop (mkF m 30 #[.val (.int p0), .val (.int v1_4), .unset] [(.int (127 : Int32)), (.int v1_4)])) _
            refine XS.icmpNo X0.here hx rfl (hb hby at_30) rfl (teq hc30).2 ?_
            show Steps p.tables e below (s₁.setTop (mkF m 33 #[.val (.int p0), .val (.int v1_4), .unset] [])) _
            refine XS.iconst X0.here hx rfl (hb hby at_33) ?_
            show Steps p.tables e below (s₁.setTop (mkF m 34 #[.val (.int p0), .val (.int v1_4), .unset] [(.int (1 : Int32))])) _
            refine XS.goto X0.here hx rfl (pc0 := 34) (pc' := 38) rfl (hb hby at_34) (by decide) (by decide) ?_
            have qms0_38 : ms0_38 = (1 : Int32) := by rw [hms0_38, if_pos hc6, if_neg hc18, if_pos hc24, if_pos hc30]
            rw [qms0_38] at k
            exact k
          · show Steps p.tables e below (s₁.setTop (mkF m 30 #[.val (.int p0), .val (.int v1_4), .unset] [(.int (127 : Int32)), (.int v1_4)])) _
            refine XS.icmpYes X0.here hx rfl (pc0 := 30) (pc' := 37) rfl (hb hby at_30) rfl (feq hc30).2 (by decide) (by decide) ?_
            show Steps p.tables e below (s₁.setTop (mkF m 37 #[.val (.int p0), .val (.int v1_4), .unset] [])) _
            refine XS.iconst X0.here hx rfl (hb hby at_37) ?_
            have qms0_38 : ms0_38 = (0 : Int32) := by rw [hms0_38, if_pos hc6, if_neg hc18, if_pos hc24, if_neg hc30]
            rw [qms0_38] at k
            exact k
        · show Steps p.tables e below (s₁.setTop (mkF m 24 #[.val (.int p0), .val (.int v1_4), .unset] [(.int (31 : Int32)), (.int v1_4)])) _
          refine XS.icmpYes X0.here hx rfl (pc0 := 24) (pc' := 33) rfl (hb hby at_24) rfl (flt hc24).2.2.2 (by decide) (by decide) ?_
          show Steps p.tables e below (s₁.setTop (mkF m 33 #[.val (.int p0), .val (.int v1_4), .unset] [])) _
          refine XS.iconst X0.here hx rfl (hb hby at_33) ?_
          show Steps p.tables e below (s₁.setTop (mkF m 34 #[.val (.int p0), .val (.int v1_4), .unset] [(.int (1 : Int32))])) _
          refine XS.goto X0.here hx rfl (pc0 := 34) (pc' := 38) rfl (hb hby at_34) (by decide) (by decide) ?_
          have qms0_38 : ms0_38 = (1 : Int32) := by rw [hms0_38, if_pos hc6, if_neg hc18, if_neg hc24]
          rw [qms0_38] at k
          exact k
    · show Steps p.tables e below (s₁.setTop (mkF m 6 #[.val (.int p0), .val (.int v1_4), .unset] [(.int v1_4)])) _
      refine XS.ifNo X0.here hx rfl (hb hby at_6) rfl ((if0 _ _).trans (flt hc6).1) ?_
      show Steps p.tables e below (s₁.setTop (mkF m 9 #[.val (.int p0), .val (.int v1_4), .unset] [])) _
      refine XS.iloadN X0.here hx rfl (hb hby at_9) rfl  ?_
      show Steps p.tables e below (s₁.setTop (mkF m 10 #[.val (.int p0), .val (.int v1_4), .unset] [(.int v1_4)])) _
      refine XS.bipush X0.here hx rfl (hb hby at_10) ?_
      by_cases hc12 : (8 : Int32) < v1_4
      · show Steps p.tables e below (s₁.setTop (mkF m 12 #[.val (.int p0), .val (.int v1_4), .unset] [(.int (8 : Int32)), (.int v1_4)])) _
        refine XS.icmpNo X0.here hx rfl (hb hby at_12) rfl (tlt hc12).2.2.2 ?_
        show Steps p.tables e below (s₁.setTop (mkF m 15 #[.val (.int p0), .val (.int v1_4), .unset] [])) _
        refine XS.iloadN X0.here hx rfl (hb hby at_15) rfl  ?_
        show Steps p.tables e below (s₁.setTop (mkF m 16 #[.val (.int p0), .val (.int v1_4), .unset] [(.int v1_4)])) _
        refine XS.bipush X0.here hx rfl (hb hby at_16) ?_
        by_cases hc18 : v1_4 < (10 : Int32)
        · show Steps p.tables e below (s₁.setTop (mkF m 18 #[.val (.int p0), .val (.int v1_4), .unset] [(.int (10 : Int32)), (.int v1_4)])) _
          refine XS.icmpYes X0.here hx rfl (pc0 := 18) (pc' := 27) rfl (hb hby at_18) rfl (tlt hc18).1 (by decide) (by decide) ?_
          show Steps p.tables e below (s₁.setTop (mkF m 27 #[.val (.int p0), .val (.int v1_4), .unset] [])) _
          refine XS.iloadN X0.here hx rfl (hb hby at_27) rfl  ?_
          show Steps p.tables e below (s₁.setTop (mkF m 28 #[.val (.int p0), .val (.int v1_4), .unset] [(.int v1_4)])) _
          refine XS.bipush X0.here hx rfl (hb hby at_28) ?_
          by_cases hc30 : v1_4 = (127 : Int32)
          · show Steps p.tables e below (s₁.setTop (mkF m 30 #[.val (.int p0), .val (.int v1_4), .unset] [(.int (127 : Int32)), (.int v1_4)])) _
            refine XS.icmpNo X0.here hx rfl (hb hby at_30) rfl (teq hc30).2 ?_
            show Steps p.tables e below (s₁.setTop (mkF m 33 #[.val (.int p0), .val (.int v1_4), .unset] [])) _
            refine XS.iconst X0.here hx rfl (hb hby at_33) ?_
            show Steps p.tables e below (s₁.setTop (mkF m 34 #[.val (.int p0), .val (.int v1_4), .unset] [(.int (1 : Int32))])) _
            refine XS.goto X0.here hx rfl (pc0 := 34) (pc' := 38) rfl (hb hby at_34) (by decide) (by decide) ?_
            have qms0_38 : ms0_38 = (1 : Int32) := by rw [hms0_38, if_neg hc6, if_pos hc12, if_pos hc18, if_pos hc30]
            rw [qms0_38] at k
            exact k
          · show Steps p.tables e below (s₁.setTop (mkF m 30 #[.val (.int p0), .val (.int v1_4), .unset] [(.int (127 : Int32)), (.int v1_4)])) _
            refine XS.icmpYes X0.here hx rfl (pc0 := 30) (pc' := 37) rfl (hb hby at_30) rfl (feq hc30).2 (by decide) (by decide) ?_
            show Steps p.tables e below (s₁.setTop (mkF m 37 #[.val (.int p0), .val (.int v1_4), .unset] [])) _
            refine XS.iconst X0.here hx rfl (hb hby at_37) ?_
            have qms0_38 : ms0_38 = (0 : Int32) := by rw [hms0_38, if_neg hc6, if_pos hc12, if_pos hc18, if_neg hc30]
            rw [qms0_38] at k
            exact k
        · show Steps p.tables e below (s₁.setTop (mkF m 18 #[.val (.int p0), .val (.int v1_4), .unset] [(.int (10 : Int32)), (.int v1_4)])) _
          refine XS.icmpNo X0.here hx rfl (hb hby at_18) rfl (flt hc18).1 ?_
          show Steps p.tables e below (s₁.setTop (mkF m 21 #[.val (.int p0), .val (.int v1_4), .unset] [])) _
          refine XS.iloadN X0.here hx rfl (hb hby at_21) rfl  ?_
          show Steps p.tables e below (s₁.setTop (mkF m 22 #[.val (.int p0), .val (.int v1_4), .unset] [(.int v1_4)])) _
          refine XS.bipush X0.here hx rfl (hb hby at_22) ?_
          by_cases hc24 : (31 : Int32) < v1_4
          · show Steps p.tables e below (s₁.setTop (mkF m 24 #[.val (.int p0), .val (.int v1_4), .unset] [(.int (31 : Int32)), (.int v1_4)])) _
            refine XS.icmpNo X0.here hx rfl (hb hby at_24) rfl (tlt hc24).2.2.2 ?_
            show Steps p.tables e below (s₁.setTop (mkF m 27 #[.val (.int p0), .val (.int v1_4), .unset] [])) _
            refine XS.iloadN X0.here hx rfl (hb hby at_27) rfl  ?_
            show Steps p.tables e below (s₁.setTop (mkF m 28 #[.val (.int p0), .val (.int v1_4), .unset] [(.int v1_4)])) _
            refine XS.bipush X0.here hx rfl (hb hby at_28) ?_
            by_cases hc30 : v1_4 = (127 : Int32)
            · show Steps p.tables e below (s₁.setTop (mkF m 30 #[.val (.int p0), .val (.int v1_4), .unset] [(.int (127 : Int32)), (.int v1_4)])) _
              refine XS.icmpNo X0.here hx rfl (hb hby at_30) rfl (teq hc30).2 ?_
              show Steps p.tables e below (s₁.setTop (mkF m 33 #[.val (.int p0), .val (.int v1_4), .unset] [])) _
              refine XS.iconst X0.here hx rfl (hb hby at_33) ?_
              show Steps p.tables e below (s₁.setTop (mkF m 34 #[.val (.int p0), .val (.int v1_4), .unset] [(.int (1 : Int32))])) _
              refine XS.goto X0.here hx rfl (pc0 := 34) (pc' := 38) rfl (hb hby at_34) (by decide) (by decide) ?_
              have qms0_38 : ms0_38 = (1 : Int32) := by rw [hms0_38, if_neg hc6, if_pos hc12, if_neg hc18, if_pos hc24, if_pos hc30]
              rw [qms0_38] at k
              exact k
            · show Steps p.tables e below (s₁.setTop (mkF m 30 #[.val (.int p0), .val (.int v1_4), .unset] [(.int (127 : Int32)), (.int v1_4)])) _
              refine XS.icmpYes X0.here hx rfl (pc0 := 30) (pc' := 37) rfl (hb hby at_30) rfl (feq hc30).2 (by decide) (by decide) ?_
              show Steps p.tables e below (s₁.setTop (mkF m 37 #[.val (.int p0), .val (.int v1_4), .unset] [])) _
              refine XS.iconst X0.here hx rfl (hb hby at_37) ?_
              have qms0_38 : ms0_38 = (0 : Int32) := by rw [hms0_38, if_neg hc6, if_pos hc12, if_neg hc18, if_pos hc24, if_neg hc30]
              rw [qms0_38] at k
              exact k
          · show Steps p.tables e below (s₁.setTop (mkF m 24 #[.val (.int p0), .val (.int v1_4), .unset] [(.int (31 : Int32)), (.int v1_4)])) _
            refine XS.icmpYes X0.here hx rfl (pc0 := 24) (pc' := 33) rfl (hb hby at_24) rfl (flt hc24).2.2.2 (by decide) (by decide) ?_
            show Steps p.tables e below (s₁.setTop (mkF m 33 #[.val (.int p0), .val (.int v1_4), .unset] [])) _
            refine XS.iconst X0.here hx rfl (hb hby at_33) ?_
            show Steps p.tables e below (s₁.setTop (mkF m 34 #[.val (.int p0), .val (.int v1_4), .unset] [(.int (1 : Int32))])) _
            refine XS.goto X0.here hx rfl (pc0 := 34) (pc' := 38) rfl (hb hby at_34) (by decide) (by decide) ?_
            have qms0_38 : ms0_38 = (1 : Int32) := by rw [hms0_38, if_neg hc6, if_pos hc12, if_neg hc18, if_neg hc24]
            rw [qms0_38] at k
            exact k
      · show Steps p.tables e below (s₁.setTop (mkF m 12 #[.val (.int p0), .val (.int v1_4), .unset] [(.int (8 : Int32)), (.int v1_4)])) _
        refine XS.icmpYes X0.here hx rfl (pc0 := 12) (pc' := 33) rfl (hb hby at_12) rfl (flt hc12).2.2.2 (by decide) (by decide) ?_
        show Steps p.tables e below (s₁.setTop (mkF m 33 #[.val (.int p0), .val (.int v1_4), .unset] [])) _
        refine XS.iconst X0.here hx rfl (hb hby at_33) ?_
        show Steps p.tables e below (s₁.setTop (mkF m 34 #[.val (.int p0), .val (.int v1_4), .unset] [(.int (1 : Int32))])) _
        refine XS.goto X0.here hx rfl (pc0 := 34) (pc' := 38) rfl (hb hby at_34) (by decide) (by decide) ?_
        have qms0_38 : ms0_38 = (1 : Int32) := by rw [hms0_38, if_neg hc6, if_neg hc12]
        rw [qms0_38] at k
        exact k
  have pre4 : ∀ t, Steps p.tables e below (s₁.setTop (mkF m 40 #[.val (.int p0), .val (.int v1_4), .val (.int ms0_38)] [(.int v1_4)])) t → Steps p.tables e below (s₁.setTop (entryFrame m #[(.int p0)] maxLocals)) t := by
    intro t k
    refine pre2 t ?_
    show Steps p.tables e below (s₁.setTop (mkF m 38 #[.val (.int p0), .val (.int v1_4), .unset] [(.int ms0_38)])) _
    refine XS.istoreN X0.here hx rfl (hb hby at_38) rfl (l' := #[.val (.int p0), .val (.int v1_4), .val (.int ms0_38)]) rfl ?_
    show Steps p.tables e below (s₁.setTop (mkF m 39 #[.val (.int p0), .val (.int v1_4), .val (.int ms0_38)] [])) _
    refine XS.iloadN X0.here hx rfl (hb hby at_39) rfl  ?_
    exact k
  obtain ⟨_, _, ⟨T3, L3, k3, n3⟩, -, X3, ⟨Lc3, hQ3, l3, y3, z3⟩, st3⟩ := Jvm.LawKit.callS X0 hx (y := (⟨"com/example/fanoutd/fanoutd/proxy/HeadReader", "isControl", "(I)Z"⟩ : MethodName)) hown (mvT hZ (hw _ (List.mem_of_getElem? (i := 1) rfl))) (mvT hZ (hw _ (List.mem_of_getElem? (i := 2) rfl))) (mvT hZ (hw _ (List.mem_of_getElem? (i := 3) rfl))) (mvT hZ (hw _ (List.mem_of_getElem? (i := 4) rfl))) (by decide) (backOf (W := 0) (rm_1 l Z a0 hw [] v1_4 h0 n0 Z0 ) hZ (hw _ (List.mem_of_getElem? (i := 4) rfl)) (hw _ (List.mem_of_getElem? (i := 3) rfl)) (by decide) (by decide)) (g := (mkF m 40 #[.val (.int p0), .val (.int v1_4), .val (.int ms0_38)] [(.int v1_4)])) rfl (by rw [hml]; rfl) (argsL := [(.int v1_4)]) (rest := []) (lenOf pd_0 rfl) rfl (by show 2 * 0 + _ ≤ _; exact Nat.le_of_eq rfl) (hb hby at_40) (fun _ _ => ⟨rfl, e0, (by decide : 0 + 0 ≤ _), (by decide : 0 + 0 ≤ _)⟩)
  dsimp only [Pt.U, Pt.locs, Pt.cells, Pt.slots] at X3 l3 y3 z3 st3 hQ3
  subst l3 y3 z3
  obtain ⟨rfl, N3q, e3⟩ := hQ3
  have N3 := Fr.app N0 N3q
  have pre5 : ∀ t, Steps p.tables e below (T3.setTop (mkF m 44 #[.val (.int p0), .val (.int v1_4), .val (.int ms0_38)] [(.int ms0_38), (.int (f_1 v1_4))])) t → Steps p.tables e below (s₁.setTop (entryFrame m #[(.int p0)] maxLocals)) t := by
    intro t k
    refine pre4 t ?_
    show Steps p.tables e below (s₁.setTop (mkF m 40 #[.val (.int p0), .val (.int v1_4), .val (.int ms0_38)] [(.int v1_4)])) _
    refine st3 _ ?_
    show Steps p.tables e below (T3.setTop (mkF m 43 #[.val (.int p0), .val (.int v1_4), .val (.int ms0_38)] [(.int (f_1 v1_4))])) _
    refine XS.iloadN X3.here hx rfl (hb hby at_43) rfl  ?_
    exact k
  obtain ⟨ms0_52, hms0_52⟩ : ∃ z : Int32, z = (if (f_1 v1_4) = ms0_38 then (1 : Int32) else (0 : Int32)) := ⟨_, rfl⟩
  have pre6 : ∀ t, Steps p.tables e below (T3.setTop (mkF m 52 #[.val (.int p0), .val (.int v1_4), .val (.int ms0_38)] [(.int ms0_52)])) t → Steps p.tables e below (s₁.setTop (entryFrame m #[(.int p0)] maxLocals)) t := by
    intro t k
    refine pre5 t ?_
    by_cases hc44 : (f_1 v1_4) = ms0_38
    · show Steps p.tables e below (T3.setTop (mkF m 44 #[.val (.int p0), .val (.int v1_4), .val (.int ms0_38)] [(.int ms0_38), (.int (f_1 v1_4))])) _
      refine XS.icmpNo X3.here hx rfl (hb hby at_44) rfl (teq hc44).2 ?_
      show Steps p.tables e below (T3.setTop (mkF m 47 #[.val (.int p0), .val (.int v1_4), .val (.int ms0_38)] [])) _
      refine XS.iconst X3.here hx rfl (hb hby at_47) ?_
      show Steps p.tables e below (T3.setTop (mkF m 48 #[.val (.int p0), .val (.int v1_4), .val (.int ms0_38)] [(.int (1 : Int32))])) _
      refine XS.goto X3.here hx rfl (pc0 := 48) (pc' := 52) rfl (hb hby at_48) (by decide) (by decide) ?_
      have qms0_52 : ms0_52 = (1 : Int32) := by rw [hms0_52, if_pos hc44]
      rw [qms0_52] at k
      exact k
    · show Steps p.tables e below (T3.setTop (mkF m 44 #[.val (.int p0), .val (.int v1_4), .val (.int ms0_38)] [(.int ms0_38), (.int (f_1 v1_4))])) _
      refine XS.icmpYes X3.here hx rfl (pc0 := 44) (pc' := 51) rfl (hb hby at_44) rfl (feq hc44).2 (by decide) (by decide) ?_
      show Steps p.tables e below (T3.setTop (mkF m 51 #[.val (.int p0), .val (.int v1_4), .val (.int ms0_38)] [])) _
      refine XS.iconst X3.here hx rfl (hb hby at_51) ?_
      have qms0_52 : ms0_52 = (0 : Int32) := by rw [hms0_52, if_neg hc44]
      rw [qms0_52] at k
      exact k
  have hnar : nar .boolean ms0_52 = ms0_52 := by rw [hms0_52]; (repeat' split) <;> rfl
  obtain ⟨fs, hr, hrun, hended, hW, hsame⟩ := X3.leave (v := some (.int ms0_52)) (fun h => by rw [Bd.returns] at h; cases h)
  refine ⟨_, _, pre6 _ ?_, hrun, hended, _, _, rfl, ?_, ⟨_, rfl⟩, hW, hsame.mono (by decide) (by decide)⟩
  · show Steps p.tables e below (T3.setTop (mkF m 52 #[.val (.int p0), .val (.int v1_4), .val (.int ms0_38)] [(.int ms0_52)])) _
    exact retN X3 hx (t := .boolean) Bd.returns (by simp) (hb hby at_52) (by rw [hnar]; exact hr)
  · show Q_0 Z p0 h0 n0 _ T3.heap _
    rw [e3]
    exact ⟨congrArg (fun z => some (Value.int z)) (by subst hv1_4 hms0_38 hms0_52; rfl : ms0_52 = f_0 p0), N3, trivial⟩
theorem own_law (p0 : Int32) : f_0 p0 = 1 := by
  have a1 := c_mask p0 65535 16 (by decide) (by decide)
  simp only [f_0, f_1]
  generalize (p0 &&& (65535 : Int32)) = v at *
  have l0 : (0 : Int32).toInt = 0 := by decide
  have l8 : (8 : Int32).toInt = 8 := by decide
  have l9 : (9 : Int32).toInt = 9 := by decide
  have l10 : (10 : Int32).toInt = 10 := by decide
  have l31 : (31 : Int32).toInt = 31 := by decide
  have l32 : (32 : Int32).toInt = 32 := by decide
  have l127 : (127 : Int32).toInt = 127 := by decide
  have e9 : v = 9 ↔ v.toInt = 9 := by rw [← Int32.toInt_inj, l9]
  have e127 : v = 127 ↔ v.toInt = 127 := by rw [← Int32.toInt_inj, l127]
  simp only [Int32.lt_iff_toInt_lt, e9, e127, l0, l8, l10, l31, l32]
  have n0 : ¬ v.toInt < 0 := by omega
  simp only [n0, if_false]
  by_cases hE : v.toInt = 127
  · have q1 : (8 : Int) < v.toInt := by omega
    have q2 : ¬ v.toInt < 10 := by omega
    have q3 : (31 : Int) < v.toInt := by omega
    have q4 : ¬ v.toInt < 32 := by omega
    simp only [hE, q1, q2, q3, q4, if_true, if_false]
    simp
  · by_cases h8 : (8 : Int) < v.toInt
    · by_cases h9 : v.toInt = 9
      · have q2 : v.toInt < 10 := by omega
        have q4 : v.toInt < 32 := by omega
        simp only [hE, h8, h9, q2, q4, if_true, if_false]
        simp
      · have q2 : ¬ v.toInt < 10 := by omega
        by_cases h31 : (31 : Int) < v.toInt
        · have q4 : ¬ v.toInt < 32 := by omega
          simp only [hE, h8, h9, q2, q4, h31, if_true, if_false]
        · have q4 : v.toInt < 32 := by omega
          simp only [hE, h8, h9, q2, q4, h31, if_true, if_false]
    · have h9 : ¬ v.toInt = 9 := by omega
      have q4 : v.toInt < 32 := by omega
      simp only [hE, h8, h9, q4, if_true, if_false]
set_option maxRecDepth 65536 in
set_option maxHeartbeats 40000000 in
theorem comes_1 {Post : Tables → Env → Array Value → State → Outcome → State → Prop} (hpost : ∀ tb e args s v u, (limb_1_1.after args s (.returned v) u = true ∧ limb_1_2.after args s (.returned v) u = true ∧ True) → FrameEnd s (.returned v) u (Jvm.fieldLocs frame_1_writes args s ++ Jvm.arrayLocs frame_1_arrays args s ++ Jvm.staticLocs frame_1_statics s) 0 0 → Post tb e args s (.returned v) u) :
    ArmFor flags0 classFile x code maxLocals ret World_1 tables_1 room_1 Calls_1 rest_1 Pre_1 Post := by
  intro l hfl _ _ p e ha hc hk s m args below hf hA hF happ hP
  obtain ⟨hcalls, hrest, hpre⟩ := hP
  obtain ⟨-, -, -, hnamed, -, -, -, hat⟩ := (Spec.applies_iff hf).mp happ
  obtain ⟨hg, hn⟩ := and_e (Cond.before_iff.mp (show (Jvm.Cond.and given_1 narrow_1).before args s = true from hpre))
  obtain ⟨g0, gt0⟩ := and_e hg
  obtain ⟨w0, rfl⟩ : ∃ w0 : Value, args = #[w0] := by
    have hs : args.size = 1 := by simpa [Cond.value, given_1] using g0
    obtain ⟨L⟩ := args
    match L, hs with
    | [w0], _ => exact ⟨w0, rfl⟩
  have hw := fun d (hd : d ∈ tables_1) => atoms_spec (ws := Jvm.Cond.code x code maxLocals ret :: tables_1) hat d (List.mem_cons_of_mem _ hd)
  have hfit : Fit s := fun {y c} hc i hi => by
    obtain ⟨ha, rfl⟩ := Array.getElem?_eq_some_iff.mp hc
    have q := List.all_eq_true.mp ((Array.all_eq_true_iff_forall_mem.mp hF) _ (Array.getElem_mem ha)) i (List.mem_range.mpr hi)
    simpa [Array.getElem?_eq_getElem hi] using q
  obtain ⟨i0, ei0⟩ := is_v gt0
  obtain rfl : w0 = (.int i0) := Option.some.inj ei0
  obtain ⟨n, o, h1, h2, h3, _, L, rfl, ⟨rfl, N⟩, hq⟩ := rm_0 l s _ hw tables_1 i0  s.heap s.heap.size (Nat.le_refl _)  p e ha hc hk s m _ below hf ((Spec.applies_iff_loose hf).mp happ).1 ⟨rfl, State.Warmed39.refl s, rfl⟩ trivial
  refine ⟨n, _, h1, h2, h3, hpost _ _ _ _ _ _ ⟨Cond.after_iff.mpr rfl, Cond.after_iff.mpr (eq_i res_at (Term.int_eval (1)) (congrArg Value.int (own_law _))), trivial⟩ ⟨hq.1, hq.2.1, (hq.2.2.sift fun y hy => Or.inr (N.1 y hy)).mono (by decide) (by decide)⟩⟩
theorem main_1_1 : Claimed_1_1 := comes_1 fun _ _ _ _ _ _ h hF => ⟨h.1, hF⟩
theorem main_1_2 : Claimed_1_2 := comes_1 fun _ _ _ _ _ _ h hF => ⟨h.2.1, hF⟩
end Jvm.Pilot.@@N@@
namespace Jvm.Pilot.@@N@@
open Jvm Jvm.ClassFile Sem Op Lib Jvm.Free Jvm.Stand Jvm.Pilot.@@N@@.Jvm.D
/-! MADE BY PROGRAM (witnessworld.py) out of the Statement's table words and the real class files: 7 classes; the members and pool entries that the words name. The judged class is class 1, her method 1. -/
namespace start1
open Jvm.ClassFile
def u (s : String) : CpInfo := .utf8 (stringToUtf16 s)
/-- a pool by its gaps: so many unusable entries, then the entry; so many at the end -/
def gap : Nat → List CpInfo → List CpInfo
  | 0, r => r
  | n + 1, r => .unusable :: gap n r
def poolList (es : List (Nat × CpInfo)) (last : Nat) : List CpInfo := es.foldr (fun e r => gap e.1 (e.2 :: r)) (gap last [])
def pool (es : List (Nat × CpInfo)) (last : Nat) : Array CpInfo := ⟨poolList es last⟩
def fileOf (pool : Array CpInfo) (this : Nat) (attrs : Array Attribute := #[]) (ms : Array MethodInfo := #[]) (fl : Nat := 33) (sup : Nat := 0) (ifs : Array Nat := #[]) (fds : Array FieldInfo := #[]) : ClassFile where
  minorVersion := 0
  majorVersion := 65
  constantPool := pool
  accessFlags := fl
  thisClass := this
  superClass := sup
  interfaces := ifs
  fields := fds
  methods := ms
  attributes := attrs
def plain (name : String) (sup : Option ClassId) : Class where
  name := name
  kind := .ordinary
  loader := none
  accessFlags := 33
  super := sup
  interfaces := #[]
  cf := none
  fields := #[]
  methods := #[]
  instanceTypes := #[]
  staticTypes := #[]
  resolved := #[]
  callSites := []
  init := .initialized
  statics := none
  mirror := none

def pool0 : Array CpInfo := pool [(5, u "<init>"), (0, u "()V"), (1, .class_ 10), (1, u "java/lang/Object")] 113

def k0m0 : Method := { name := "<init>", desc := "()V", sig := { parameters := [], returnType := none }, accessFlags := 1, code := none }
/-- java/lang/Object -/
def k0 : Class := { plain "java/lang/Object" none with
  accessFlags := 33
  interfaces := #[]
  cf := some (fileOf pool0 8 #[] #[{ accessFlags := 1, nameIndex := 5, descriptorIndex := 6, attributes := #[] }] 33 0 #[] #[])
  fields := #[]
  methods := #[k0m0]
  instanceTypes := #[]
  staticTypes := #[]
  resolved := Array.replicate 124 none
  statics := none }

def pool1 : Array CpInfo := pool [(2, .class_ 4), (1, u "java/lang/Object"), (0, u "<init>"), (0, u "()V"), (0, .integer 65535), (0, .methodref 9 10), (0, .class_ 11), (0, .nameAndType 12 13), (0, u "com/example/fanoutd/fanoutd/proxy/HeadReader"), (0, u "isControl"), (0, u "(I)Z"), (0, .class_ 15), (0, u "com/example/fanoutd/fanoutd/proxy/HeadReaderIsControlPinLaw"), (2, u "law")] 3

def k1m0 : Method := { name := "<init>", desc := "()V", sig := { parameters := [], returnType := none }, accessFlags := 2, code := none }
def k1c1 : Code := { maxStack := 2, maxLocals := 3, code := code, exceptionTable := #[], attributes := #[] }
def k1m1 : Method := { name := "law", desc := "(I)Z", sig := { parameters := [.int], returnType := some .boolean }, accessFlags := 9, code := some k1c1 }
/-- com/example/fanoutd/fanoutd/proxy/HeadReaderIsControlPinLaw -/
def k1 : Class := { plain "com/example/fanoutd/fanoutd/proxy/HeadReaderIsControlPinLaw" (some 0) with
  accessFlags := 49
  interfaces := #[]
  cf := some (fileOf pool1 14 #[] #[{ accessFlags := 2, nameIndex := 5, descriptorIndex := 6, attributes := #[] }, { accessFlags := 9, nameIndex := 18, descriptorIndex := 13, attributes := #[] }] 49 2 #[] #[])
  fields := #[]
  methods := #[k1m0, k1m1]
  instanceTypes := #[]
  staticTypes := #[]
  resolved := Array.replicate 22 none
  statics := none }

def pool2 : Array CpInfo := pool [(2, .class_ 4), (1, u "java/lang/Object"), (0, u "<init>"), (0, u "()V"), (1, .class_ 10), (1, u "com/example/fanoutd/fanoutd/proxy/HeadReader$Rules"), (3, .class_ 16), (1, u "com/example/fanoutd/fanoutd/proxy/HeadReader"), (13, u "COPIES"), (0, u "Ljava/lang/ThreadLocal;"), (34, .class_ 67), (0, u "com/example/fanoutd/fanoutd/proxy/HeadReader$Head"), (29, u "isControl"), (0, u "(I)Z"), (47, u "TOKEN_CHARS"), (0, u "[Z"), (35, u "FIRST_WINDOW"), (0, u "I")] 43

def k2m0 : Method := { name := "<init>", desc := "()V", sig := { parameters := [], returnType := none }, accessFlags := 2, code := none }
def k2c1 : Code := { maxStack := 2, maxLocals := 1, code := prog_49_method_6_code, exceptionTable := #[], attributes := #[] }
def k2m1 : Method := { name := "isControl", desc := "(I)Z", sig := { parameters := [.int], returnType := some .boolean }, accessFlags := 8, code := some k2c1 }
/-- com/example/fanoutd/fanoutd/proxy/HeadReader -/
def k2 : Class := { plain "com/example/fanoutd/fanoutd/proxy/HeadReader" (some 0) with
  accessFlags := 32
  interfaces := #[]
  cf := some (fileOf pool2 14 #[.nestMembers #[66, 8]] #[{ accessFlags := 2, nameIndex := 5, descriptorIndex := 6, attributes := #[] }, { accessFlags := 8, nameIndex := 97, descriptorIndex := 98, attributes := #[] }] 32 2 #[] #[{ accessFlags := 26, nameIndex := 146, descriptorIndex := 147, attributes := #[] }, { accessFlags := 26, nameIndex := 183, descriptorIndex := 184, attributes := #[] }, { accessFlags := 26, nameIndex := 30, descriptorIndex := 31, attributes := #[] }])
  fields := #[{ name := "TOKEN_CHARS", type := (.array .boolean), accessFlags := 26, slot := 0, constantValue := 0 }, { name := "FIRST_WINDOW", type := .int, accessFlags := 26, slot := 1, constantValue := 0 }, { name := "COPIES", type := (.object "java/lang/ThreadLocal"), accessFlags := 26, slot := 2, constantValue := 0 }]
  methods := #[k2m0, k2m1]
  instanceTypes := #[]
  staticTypes := #[(.array .boolean), .int, (.object "java/lang/ThreadLocal")]
  resolved := Array.replicate 228 none
  statics := none }

def pool3 : Array CpInfo := pool [(1, u "java/lang/Cloneable"), (0, .class_ 1), (0, u "java/lang/Object"), (0, .class_ 3)] 3

/-- java/lang/Cloneable -/
def k3 : Class := { plain "java/lang/Cloneable" (some 0) with
  accessFlags := 1537
  interfaces := #[]
  cf := some (fileOf pool3 2 #[] #[] 1537 4 #[] #[])
  fields := #[]
  methods := #[]
  instanceTypes := #[]
  staticTypes := #[]
  resolved := Array.replicate 8 none
  statics := none }

def pool4 : Array CpInfo := pool [(1, u "java/io/Serializable"), (0, .class_ 1), (0, u "java/lang/Object"), (0, .class_ 3)] 3

/-- java/io/Serializable -/
def k4 : Class := { plain "java/io/Serializable" (some 0) with
  accessFlags := 1537
  interfaces := #[]
  cf := some (fileOf pool4 2 #[] #[] 1537 4 #[] #[])
  fields := #[]
  methods := #[]
  instanceTypes := #[]
  staticTypes := #[]
  resolved := Array.replicate 8 none
  statics := none }

/-- the primitive byte -/
def k5 : Class := { plain "byte" none with kind := .primitive 'B', accessFlags := 0x411 }
/-- [B -/
def k6 : Class := { plain "[B" (some 0) with kind := .array 5 .byte, interfaces := #[3, 4], accessFlags := 1041 }

def heap : Heap := #[]
def classes : Array Class := #[k0, k1, k2, k3, k4, k5, k6]
def interned : List (Array UInt16 × Addr) := []
def slotsUsed : Nat := 0
def theMethod : MethodId := ⟨1, 1⟩
def args0 : Array Value := #[.int 5]
def aboutOver (below : List Frame) : State where
  vm := { classes := classes, interned := interned.toArray }
  heap := heap
  slotsUsed := slotsUsed
  threads := #[{ frames := .invoking theMethod args0 :: below }]
def below0 : List Frame := [.native { method := ⟨0, 0⟩, args := #[] }]
def about1 : State := aboutOver below0
def p0 : Program := .bare "" "" ""
def e0 : Env := launch0.env 0 0 0
theorem w_frames : about1.frames = Frame.invoking theMethod args0 :: below0 := rfl
set_option maxRecDepth 65536 in
theorem w_args : argsFit about1.vm theMethod args0 = true := by decide +kernel
set_option maxRecDepth 65536 in
theorem w_heap : heapFits about1 = true := by decide +kernel
set_option maxRecDepth 65536 in
theorem w_runnable : about1.curStatus? = some .runnable := by decide +kernel
set_option maxRecDepth 65536 in
theorem w_alone : about1.alone = true := by decide +kernel
set_option maxRecDepth 65536 in
theorem w_named : about1.methodNamed? x = some theMethod := by decide +kernel
set_option maxRecDepth 65536 in
theorem w_hears : about1.hears theMethod below0 = true := by decide +kernel
set_option maxRecDepth 65536 in
theorem w_ripe : about1.ripe theMethod args0 below0 = true := by decide +kernel
theorem w_running : about1.status = .running := rfl
set_option maxRecDepth 65536 in
theorem w_room : about1.hasRoom e0.platform room_1 = true :=
  launch0.hasRoom_least _ room_1 (by decide +kernel) (by decide +kernel) (by decide +kernel) (by decide +kernel) (by decide +kernel) (by decide +kernel)
theorem allAtoms_all (ts : List Jvm.Cond) (a : Array Jvm.Value) (st : Jvm.State) : (allAtoms ts).before a st = ts.all (fun c => c.before a st) := by
  induction ts with
  | nil => rfl
  | cons c t ih =>
    show (Jvm.Cond.and c (allAtoms t)).before a st = _
    rw [Jvm.Cond.before_and, ih, List.all_cons]
def words1 : List Jvm.Cond := Jvm.Cond.code x code maxLocals ret :: tables_1
/-- a 'code' word, met by the world's own term for the bytes: nothing is compared byte by byte -/
theorem code_word {y : MethodName} {bytes : ByteArray} {mx : Nat} {rt : Option FieldType} {a : Array Value} {s : State} {m : MethodId} {meth : Method} {c : Code} (h1 : s.methodNamed? y = some m) (h2 : s.vm.method? m = some meth) (h3 : meth.code = some c) (h4 : c.code = bytes)
    (h5 : (c.maxLocals == mx && c.exceptionTable.isEmpty && decide (c.maxStack ≤ mostOperands) && decide (meth.sig.returnType = rt) && !meth.locks && decide (parseMethodDescriptor y.desc = some meth.sig)) = true) : (Jvm.Cond.code y bytes mx rt).before a s = true := by
  simp only [Bool.and_eq_true, beq_iff_eq, Bool.not_eq_true', decide_eq_true_eq] at h5
  obtain ⟨⟨⟨⟨⟨g1, g2⟩, g3⟩, g4⟩, g5⟩, g6⟩ := h5
  simp [Cond.before, Cond.holds, Cond.value, h1, h2, h3, h4, g1, g2, g3, g4, g5, g6]
def isCode : Jvm.Cond → Bool
  | .code _ _ _ _ => true
  | _ => false
theorem all_split {L : List Jvm.Cond} {P : Jvm.Cond → Bool} (h1 : L.all (fun c => isCode c || P c) = true) (h2 : ∀ c ∈ L.filter isCode, P c = true) : L.all P = true := by
  refine List.all_eq_true.mpr fun c hc => ?_
  have h := List.all_eq_true.mp h1 c hc
  rcases Bool.eq_false_or_eq_true (isCode c) with hi | hi
  · exact h2 c (List.mem_filter.mpr ⟨hc, hi⟩)
  · simpa [hi] using h
set_option maxRecDepth 65536 in
theorem w_c0 : (Jvm.Cond.code x code maxLocals ret).before args0 about1 = true := code_word (m := ⟨1, 1⟩) (meth := k1m1) (c := k1c1) (by decide +kernel) rfl rfl rfl (by decide +kernel)
set_option maxRecDepth 65536 in
theorem w_c1 : (Jvm.Cond.code ({ cls := "com/example/fanoutd/fanoutd/proxy/HeadReader", name := "isControl", desc := "(I)Z" } : Jvm.MethodName) prog_49_method_6_code (1 : Nat) (Option.some Jvm.ClassFile.FieldType.boolean)).before args0 about1 = true := code_word (m := ⟨2, 1⟩) (meth := k2m1) (c := k2c1) (by decide +kernel) rfl rfl rfl (by decide +kernel)
def codes1 : List Jvm.Cond := [Jvm.Cond.code x code maxLocals ret, Jvm.Cond.code ({ cls := "com/example/fanoutd/fanoutd/proxy/HeadReader", name := "isControl", desc := "(I)Z" } : Jvm.MethodName) prog_49_method_6_code (1 : Nat) (Option.some Jvm.ClassFile.FieldType.boolean)]
set_option maxRecDepth 65536 in
theorem codes_eq : words1.filter isCode = codes1 := rfl
theorem w_codes : ∀ c ∈ words1.filter isCode, c.before args0 about1 = true := by
  rw [codes_eq]
  intro c hc
  simp only [codes1, List.mem_cons, List.not_mem_nil, or_false] at hc
  rcases hc with rfl | rfl
  · exact w_c0
  · exact w_c1
set_option maxRecDepth 65536 in
theorem w_t1 : words1.all (fun c => isCode c || c.before args0 about1) = true := by decide +kernel
theorem w_tables : (allAtoms (Jvm.Cond.code x code maxLocals ret :: tables_1)).before args0 about1 = true := by
  rw [allAtoms_all]
  show words1.all (fun c => c.before args0 about1) = true
  refine all_split ?_ w_codes
  rw [w_t1]
set_option maxRecDepth 65536 in
theorem w_case : (Jvm.Cond.and given_1 narrow_1).before args0 about1 = true := by decide +kernel
theorem w_applies : (headSpec (Jvm.Cond.code x code maxLocals ret :: tables_1) room_1).applies x e0.platform about1 = true :=
  (Spec.applies_iff w_frames).mpr ⟨w_running, w_runnable, w_alone, w_named, w_hears, w_ripe, w_room, w_tables⟩
theorem atStart : AtStart classFile x code maxLocals ret World_1 tables_1 room_1 Calls_1 rest_1 Pre_1 launch0 p0 e0 about1 theMethod args0 below0 :=
  ⟨lists_1, trivial, launch0.admits_env _ _ _, launch0.least_env, fairChoices_fair.cas, fairChoices_fair.clock, w_frames, w_args, w_heap, w_applies, trivial, trivial, w_case⟩
end start1
theorem witness_1 : WitnessClaimed_1 := ⟨start1.p0, start1.e0, start1.about1, start1.theMethod, start1.args0, start1.below0, start1.atStart⟩
end Jvm.Pilot.@@N@@
