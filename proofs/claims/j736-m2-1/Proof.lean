import JvmDerived
import JvmDerived.Pilot.@@N@@Statement
import JvmDerived.Pilot.@@N@@Code
set_option linter.unusedVariables false
set_option linter.unusedSimpArgs false
namespace Jvm.RoadKit
open Sem ClassFile Op Lib Jvm.Stand Jvm.Free Jvm.LawKit
section New
variable {p : Program} {l : Launch} {e : Env} {R : Room} {s : State} {m : MethodId} {args : Array Value} {below : List Frame} {meth : Method} {c : Code} {T : State} {locs : List Loc} {cells slots : Nat}
theorem retI (X : Stand p l e R s m args below meth c T locs cells slots) (hx : p.tables.exec = Jvm.exec) {pc : Nat} {Ls : Array Slot} {z : Int32} {rest : List Value} (hret : meth.sig.returnType = some .int) (hd : decode c.code pc = .ok (.ireturn, 1)) {fs : List Frame}
    (hl : ∀ (f : JFrame) (acts : List Action), f.method = m → f.locked = none → f.entered = [] → (doReturn e (T.setTop f) acts (some (.int z))).1 = T.setFrames fs) : Steps p.tables e below (T.setTop (mkF m pc Ls (.int z :: rest))) (T.setFrames fs) := by
  have hm' : T.vm.method? m = some meth := X.method'
  have hn : narrow .int (.int z) = .int z := rfl
  show Steps p.tables e below (T.setTop { method := m, pc := pc, locals := Ls, stack := _ :: rest, locked := none }) _
  jvm_step X.here [X.here.top, hx, hd, hm', hret, hn]
  first | (intro acts; rw [hl _ acts rfl rfl rfl]) | rw [hl _ _ rfl rfl rfl]
  exact Steps.refl _
theorem own_lremM {g : JFrame} {target : State} (X : Stand p l e R s m args below meth c T locs cells slots) (hx : p.tables.exec = Jvm.exec) (hg : g.method = m) {x y : Int64} {rest : List Value} (hd : decode c.code g.pc = .ok (.lrem, 1)) (hs : g.stack = .long y :: .long x :: rest) (hy : y ≠ 0)
    (hr : Steps p.tables e below (T.setTop { g with pc := g.pc + 1, stack := .long (x % y) :: rest }) target) : Steps p.tables e below (T.setTop g) target := by
  have q : x - x / y * y = x % y := lrem_mod x y
  exact XS.lrem X.here hx hg hd hs hy (by rw [q]; exact hr)
end New
end Jvm.RoadKit
namespace Jvm.Pilot.@@N@@
open Jvm Jvm.ClassFile Sem Op Lib Jvm.Free Jvm.Stand Jvm.LawKit Jvm.RoadKit Bundle Jvm.Pilot.@@N@@.Jvm.D
theorem d1_0 : decode jdk_29_method_65_code 0 = .ok (.iload_n 0, 1) := by decide +kernel
theorem d1_1 : decode jdk_29_method_65_code 1 = .ok (.iload_n 1, 1) := by decide +kernel
theorem d1_2 : decode jdk_29_method_65_code 2 = .ok (.if_icmp .lt 7, 3) := by decide +kernel
theorem d1_5 : decode jdk_29_method_65_code 5 = .ok (.iload_n 0, 1) := by decide +kernel
theorem d1_6 : decode jdk_29_method_65_code 6 = .ok (.goto 4, 3) := by decide +kernel
theorem d1_9 : decode jdk_29_method_65_code 9 = .ok (.iload_n 1, 1) := by decide +kernel
theorem d1_10 : decode jdk_29_method_65_code 10 = .ok (.ireturn, 1) := by decide +kernel
theorem ef_1 (m : MethodId) (p0 : Int32) (p1 : Int32) : entryFrame m #[(.int p0), (.int p1)] 2 = mkF m 0 #[.val (.int p0), .val (.int p1)] [] := by first | (simp [entryFrame, mkF, argsToLocals, Value.category]; done) | rfl
def f_1 (p0 : Int32) (p1 : Int32) : Int32 := let ms0_10 : Int32 := (if p0 < p1 then p1 else p0); ms0_10
def Q_1 (Z : State) (p0 : Int32) (p1 : Int32)  (h0 : Heap) (n0 : Nat) (v : Option Value) (h : Heap) (L : List Loc) : Prop := v = some (.int (f_1 p0 p1)) ∧ Fr n0 L ∧ h = h0
set_option maxRecDepth 65536 in
set_option maxHeartbeats 40000000 in
theorem rm_1 (l : Launch) (Z : State) (a0 : Array Value) (hw : ∀ d ∈ tables_1, d.before a0 Z = true) (ws : List Jvm.Cond) (p0 : Int32) (p1 : Int32)  (h0 : Heap) (n0 : Nat) (Z0 : n0 ≤ h0.size)  :
    MetFree l (⟨"java/lang/Math", "max", "(II)I"⟩ : MethodName) (head1 (Jvm.Cond.code (⟨"java/lang/Math", "max", "(II)I"⟩ : MethodName) jdk_29_method_65_code 2 (some .int) :: ws) ({ frames := 0, cells := 0, slots := 0, locals := 0 } : Room)) (fun a U => a = #[(.int p0), (.int p1)] ∧ Z.Warmed39 U.vm ∧ U.heap = h0) (fun _ _ _ _ _ => True) (fun _ U o U' => ∃ v L, o = .returned v ∧ Q_1 Z p0 p1 h0 n0 v U'.heap L ∧ FrameEnd U o U' L ({ frames := 0, cells := 0, slots := 0, locals := 0 } : Room).cells ({ frames := 0, cells := 0, slots := 0, locals := 0 } : Room).slots) := by
  refine MetFree.of_bodySF (Jvm.Free.JP.mathPlain rfl (by decide +kernel)) hisR ?_
  intro p e s m args below meth c s₁ Bd hml0 hP hK
  obtain ⟨rfl, hZ, hh⟩ := hP
  have hx := Bd.exec
  have hby := Bd.bytes
  have hml : c.maxLocals = 2 := hml0
  have hown : s.vm.findClass "java/lang/Math" = some m.cls := findClass_of_methodNamed Bd.named
  have hnm := (name_of_methodNamed Bd.named Bd.method).1
  have X0 : Stand p l e ({ frames := 0, cells := 0, slots := 0, locals := 0 } : Room) s m #[(.int p0), (.int p1)] below meth c s₁ [] 0 0 := Stand.of_body Bd
  have e0 : s₁.heap = h0 := by rw [← hh, Bd.state]; rfl
  have N0 := Fr.nil n0
  have K0 : Keep h0 h0 [] := Keep.refl h0 _
  have pre0 : ∀ t, Steps p.tables e below (s₁.setTop (mkF m 0 #[.val (.int p0), .val (.int p1)] [])) t → Steps p.tables e below (s₁.setTop (entryFrame m #[(.int p0), (.int p1)] 2)) t := fun t k => castTop (ef_1 m p0 p1) k
  have pre1 : ∀ t, Steps p.tables e below (s₁.setTop (mkF m 2 #[.val (.int p0), .val (.int p1)] [(.int p1), (.int p0)])) t → Steps p.tables e below (s₁.setTop (entryFrame m #[(.int p0), (.int p1)] 2)) t := by
    intro t k
    refine pre0 t ?_
    show Steps p.tables e below (s₁.setTop (mkF m 0 #[.val (.int p0), .val (.int p1)] [])) _
    refine XS.iloadN X0.here hx rfl (hb hby d1_0) rfl  ?_
    show Steps p.tables e below (s₁.setTop (mkF m 1 #[.val (.int p0), .val (.int p1)] [(.int p0)])) _
    refine XS.iloadN X0.here hx rfl (hb hby d1_1) rfl  ?_
    exact k
  obtain ⟨ms0_10, hms0_10⟩ : ∃ z : Int32, z = (if p0 < p1 then p1 else p0) := ⟨_, rfl⟩
  have pre2 : ∀ t, Steps p.tables e below (s₁.setTop (mkF m 10 #[.val (.int p0), .val (.int p1)] [(.int ms0_10)])) t → Steps p.tables e below (s₁.setTop (entryFrame m #[(.int p0), (.int p1)] 2)) t := by
    intro t k
    refine pre1 t ?_
    by_cases hc2 : p0 < p1
    · show Steps p.tables e below (s₁.setTop (mkF m 2 #[.val (.int p0), .val (.int p1)] [(.int p1), (.int p0)])) _
      refine XS.icmpYes X0.here hx rfl (pc0 := 2) (pc' := 9) rfl (hb hby d1_2) rfl (tlt hc2).1 (by decide) (by decide) ?_
      show Steps p.tables e below (s₁.setTop (mkF m 9 #[.val (.int p0), .val (.int p1)] [])) _
      refine XS.iloadN X0.here hx rfl (hb hby d1_9) rfl  ?_
      have qms0_10 : ms0_10 = p1 := by rw [hms0_10, if_pos hc2]
      rw [qms0_10] at k
      exact k
    · show Steps p.tables e below (s₁.setTop (mkF m 2 #[.val (.int p0), .val (.int p1)] [(.int p1), (.int p0)])) _
      refine XS.icmpNo X0.here hx rfl (hb hby d1_2) rfl (flt hc2).1 ?_
      show Steps p.tables e below (s₁.setTop (mkF m 5 #[.val (.int p0), .val (.int p1)] [])) _
      refine XS.iloadN X0.here hx rfl (hb hby d1_5) rfl  ?_
      show Steps p.tables e below (s₁.setTop (mkF m 6 #[.val (.int p0), .val (.int p1)] [(.int p0)])) _
      refine XS.goto X0.here hx rfl (pc0 := 6) (pc' := 10) rfl (hb hby d1_6) (by decide) (by decide) ?_
      have qms0_10 : ms0_10 = p0 := by rw [hms0_10, if_neg hc2]
      rw [qms0_10] at k
      exact k
  obtain ⟨fs, hr, hrun, hended, hW, hsame⟩ := X0.leave (v := some (.int ms0_10)) (fun h => by rw [Bd.returns] at h; cases h) (BodyLoose.notSynchronized Bd)
  refine ⟨_, _, pre2 _ ?_, hrun, hended, _, _, rfl, ?_, ⟨_, rfl⟩, hW, hsame.mono (by decide) (by decide)⟩
  · show Steps p.tables e below (s₁.setTop (mkF m 10 #[.val (.int p0), .val (.int p1)] [(.int ms0_10)])) _
    exact retI X0 hx Bd.returns (hb hby d1_10) hr
  · show Q_1 Z p0 p1 h0 n0 _ s₁.heap _
    rw [e0]
    exact ⟨congrArg (fun z => some (Value.int z)) (by subst hms0_10; rfl : ms0_10 = f_1 p0 p1), N0, rfl⟩
theorem own_mx (n : Int32) : f_1 (1 : Int32) n ≠ 0 := by
  unfold f_1
  by_cases h : (1 : Int32) < n
  · simp only [h, if_true]
    rintro rfl
    exact absurd h (by decide)
  · simp only [h, if_false]; decide
theorem d3_0 : decode prog_6_method_4_code 0 = .ok (.lload_n 0, 1) := by decide +kernel
theorem d3_1 : decode prog_6_method_4_code 1 = .ok (.bipush 16, 2) := by decide +kernel
theorem d3_3 : decode prog_6_method_4_code 3 = .ok (.lushr, 1) := by decide +kernel
theorem d3_4 : decode prog_6_method_4_code 4 = .ok (.ldc2_w 19, 3) := by decide +kernel
theorem d3_7 : decode prog_6_method_4_code 7 = .ok (.ladd, 1) := by decide +kernel
theorem d3_8 : decode prog_6_method_4_code 8 = .ok (.lreturn, 1) := by decide +kernel
theorem pn_3 : plainName "com/example/tern/tern/gateway/Minute" = true := by first | (simp [plainName, overriddenIn]; done) | decide +kernel
theorem ef_3 (m : MethodId) (p0 : Int64) : entryFrame m #[(.long p0)] 2 = mkF m 0 #[.val (.long p0), .second] [] := by first | (simp [entryFrame, mkF, argsToLocals, Value.category]; done) | rfl
def f_3 (p0 : Int64) : Int64 := (((p0.toUInt64 >>> ((16 : Int32) &&& 0x3f).toInt64.toUInt64).toInt64) + (60000 : Int64))
def Q_3 (Z : State) (p0 : Int64)  (h0 : Heap) (n0 : Nat) (v : Option Value) (h : Heap) (L : List Loc) : Prop := v = some (.long (f_3 p0)) ∧ Fr n0 L ∧ h = h0
set_option maxRecDepth 65536 in
set_option maxHeartbeats 40000000 in
theorem rm_3 (l : Launch) (Z : State) (a0 : Array Value) (hw : ∀ d ∈ tables_1, d.before a0 Z = true) (ws : List Jvm.Cond) (p0 : Int64)  (h0 : Heap) (n0 : Nat) (Z0 : n0 ≤ h0.size)  :
    MetFree l (⟨"com/example/tern/tern/gateway/Minute", "end", "(J)J"⟩ : MethodName) (head1 (Jvm.Cond.code (⟨"com/example/tern/tern/gateway/Minute", "end", "(J)J"⟩ : MethodName) prog_6_method_4_code 2 (some .long) :: ws) ({ frames := 0, cells := 0, slots := 0, locals := 0 } : Room)) (fun a U => a = #[(.long p0)] ∧ Z.Warmed39 U.vm ∧ U.heap = h0) (fun _ _ _ _ _ => True) (fun _ U o U' => ∃ v L, o = .returned v ∧ Q_3 Z p0 h0 n0 v U'.heap L ∧ FrameEnd U o U' L ({ frames := 0, cells := 0, slots := 0, locals := 0 } : Room).cells ({ frames := 0, cells := 0, slots := 0, locals := 0 } : Room).slots) := by
  refine MetFree.of_bodySF (plainFor_of_name pn_3) hisR ?_
  intro p e s m args below meth c s₁ Bd hml0 hP hK
  obtain ⟨rfl, hZ, hh⟩ := hP
  have hx := Bd.exec
  have hby := Bd.bytes
  have hml : c.maxLocals = 2 := hml0
  have hown : s.vm.findClass "com/example/tern/tern/gateway/Minute" = some m.cls := findClass_of_methodNamed Bd.named
  have hnm := (name_of_methodNamed Bd.named Bd.method).1
  have X0 : Stand p l e ({ frames := 0, cells := 0, slots := 0, locals := 0 } : Room) s m #[(.long p0)] below meth c s₁ [] 0 0 := Stand.of_body Bd
  have e0 : s₁.heap = h0 := by rw [← hh, Bd.state]; rfl
  have N0 := Fr.nil n0
  have K0 : Keep h0 h0 [] := Keep.refl h0 _
  have pre0 : ∀ t, Steps p.tables e below (s₁.setTop (mkF m 0 #[.val (.long p0), .second] [])) t → Steps p.tables e below (s₁.setTop (entryFrame m #[(.long p0)] 2)) t := fun t k => castTop (ef_3 m p0) k
  obtain ⟨fs, hr, hrun, hended, hW, hsame⟩ := X0.leave (v := some (.long (((p0.toUInt64 >>> ((16 : Int32) &&& 0x3f).toInt64.toUInt64).toInt64) + (60000 : Int64)))) (fun h => by rw [Bd.returns] at h; cases h) (BodyLoose.notSynchronized Bd)
  refine ⟨_, _, pre0 _ ?_, hrun, hended, _, _, rfl, ?_, ⟨_, rfl⟩, hW, hsame.mono (by decide) (by decide)⟩
  · show Steps p.tables e below (s₁.setTop (mkF m 0 #[.val (.long p0), .second] [])) _
    refine XS.lloadN X0.here hx rfl (hb hby d3_0) rfl  ?_
    show Steps p.tables e below (s₁.setTop (mkF m 1 #[.val (.long p0), .second] [(.long p0)])) _
    refine XS.bipush X0.here hx rfl (hb hby d3_1) ?_
    show Steps p.tables e below (s₁.setTop (mkF m 3 #[.val (.long p0), .second] [(.int (16 : Int32)), (.long p0)])) _
    refine XS.lushr X0.here hx rfl (hb hby d3_3) rfl ?_
    show Steps p.tables e below (s₁.setTop (mkF m 4 #[.val (.long p0), .second] [(.long ((p0.toUInt64 >>> ((16 : Int32) &&& 0x3f).toInt64.toUInt64).toInt64))])) _
    refine X0.ldc2Long hx hown (mvT hZ (hw _ (List.mem_of_getElem? (i := 16) rfl))) (g := (mkF m 4 #[.val (.long p0), .second] [(.long ((p0.toUInt64 >>> ((16 : Int32) &&& 0x3f).toInt64.toUInt64).toInt64))])) rfl (hb hby d3_4) _ ?_
    show Steps p.tables e below (s₁.setTop (mkF m 7 #[.val (.long p0), .second] [(.long (60000 : Int64)), (.long ((p0.toUInt64 >>> ((16 : Int32) &&& 0x3f).toInt64.toUInt64).toInt64))])) _
    refine XS.ladd X0.here hx rfl (hb hby d3_7) rfl ?_
    show Steps p.tables e below (s₁.setTop (mkF m 8 #[.val (.long p0), .second] [(.long (((p0.toUInt64 >>> ((16 : Int32) &&& 0x3f).toInt64.toUInt64).toInt64) + (60000 : Int64)))])) _
    exact retOut X0 hx Bd.returns rfl (Or.inr (Or.inl ⟨rfl, rfl, _, rfl⟩)) (hb hby d3_8) hr
  · show Q_3 Z p0 h0 n0 _ s₁.heap _
    rw [e0]
    exact ⟨congrArg (fun z => some (Value.long z)) (by rfl : (((p0.toUInt64 >>> ((16 : Int32) &&& 0x3f).toInt64.toUInt64).toInt64) + (60000 : Int64)) = f_3 p0), N0, rfl⟩
theorem d4_0 : decode prog_6_method_3_code 0 = .ok (.lload_n 0, 1) := by decide +kernel
theorem d4_1 : decode prog_6_method_3_code 1 = .ok (.ldc2_w 17, 3) := by decide +kernel
theorem d4_4 : decode prog_6_method_3_code 4 = .ok (.land, 1) := by decide +kernel
theorem d4_5 : decode prog_6_method_3_code 5 = .ok (.iload_n 2, 1) := by decide +kernel
theorem d4_6 : decode prog_6_method_3_code 6 = .ok (.i2l, 1) := by decide +kernel
theorem d4_7 : decode prog_6_method_3_code 7 = .ok (.lcmp, 1) := by decide +kernel
theorem d4_8 : decode prog_6_method_3_code 8 = .ok (.ifCond .gt 7, 3) := by decide +kernel
theorem d4_11 : decode prog_6_method_3_code 11 = .ok (.iconst 1, 1) := by decide +kernel
theorem d4_12 : decode prog_6_method_3_code 12 = .ok (.goto 4, 3) := by decide +kernel
theorem d4_15 : decode prog_6_method_3_code 15 = .ok (.iconst 0, 1) := by decide +kernel
theorem d4_16 : decode prog_6_method_3_code 16 = .ok (.ireturn, 1) := by decide +kernel
theorem pn_4 : plainName "com/example/tern/tern/gateway/Minute" = true := by first | (simp [plainName, overriddenIn]; done) | decide +kernel
theorem ef_4 (m : MethodId) (p0 : Int64) (p1 : Int32) : entryFrame m #[(.long p0), (.int p1)] 3 = mkF m 0 #[.val (.long p0), .second, .val (.int p1)] [] := by first | (simp [entryFrame, mkF, argsToLocals, Value.category]; done) | rfl
def f_4 (p0 : Int64) (p1 : Int32) : Int32 := let ms0_16 : Int32 := (if (p1.toInt64) < (p0 &&& (65535 : Int64)) then (0 : Int32) else (1 : Int32)); ms0_16
def Q_4 (Z : State) (p0 : Int64) (p1 : Int32)  (h0 : Heap) (n0 : Nat) (v : Option Value) (h : Heap) (L : List Loc) : Prop := v = some (.int (f_4 p0 p1)) ∧ Fr n0 L ∧ h = h0
set_option maxRecDepth 65536 in
set_option maxHeartbeats 40000000 in
theorem rm_4 (l : Launch) (Z : State) (a0 : Array Value) (hw : ∀ d ∈ tables_1, d.before a0 Z = true) (ws : List Jvm.Cond) (p0 : Int64) (p1 : Int32)  (h0 : Heap) (n0 : Nat) (Z0 : n0 ≤ h0.size)  :
    MetFree l (⟨"com/example/tern/tern/gateway/Minute", "admits", "(JI)Z"⟩ : MethodName) (head1 (Jvm.Cond.code (⟨"com/example/tern/tern/gateway/Minute", "admits", "(JI)Z"⟩ : MethodName) prog_6_method_3_code 3 (some .boolean) :: ws) ({ frames := 0, cells := 0, slots := 0, locals := 0 } : Room)) (fun a U => a = #[(.long p0), (.int p1)] ∧ Z.Warmed39 U.vm ∧ U.heap = h0) (fun _ _ _ _ _ => True) (fun _ U o U' => ∃ v L, o = .returned v ∧ Q_4 Z p0 p1 h0 n0 v U'.heap L ∧ FrameEnd U o U' L ({ frames := 0, cells := 0, slots := 0, locals := 0 } : Room).cells ({ frames := 0, cells := 0, slots := 0, locals := 0 } : Room).slots) := by
  refine MetFree.of_bodySF (plainFor_of_name pn_4) hisR ?_
  intro p e s m args below meth c s₁ Bd hml0 hP hK
  obtain ⟨rfl, hZ, hh⟩ := hP
  have hx := Bd.exec
  have hby := Bd.bytes
  have hml : c.maxLocals = 3 := hml0
  have hown : s.vm.findClass "com/example/tern/tern/gateway/Minute" = some m.cls := findClass_of_methodNamed Bd.named
  have hnm := (name_of_methodNamed Bd.named Bd.method).1
  have X0 : Stand p l e ({ frames := 0, cells := 0, slots := 0, locals := 0 } : Room) s m #[(.long p0), (.int p1)] below meth c s₁ [] 0 0 := Stand.of_body Bd
  have e0 : s₁.heap = h0 := by rw [← hh, Bd.state]; rfl
  have N0 := Fr.nil n0
  have K0 : Keep h0 h0 [] := Keep.refl h0 _
  have pre0 : ∀ t, Steps p.tables e below (s₁.setTop (mkF m 0 #[.val (.long p0), .second, .val (.int p1)] [])) t → Steps p.tables e below (s₁.setTop (entryFrame m #[(.long p0), (.int p1)] 3)) t := fun t k => castTop (ef_4 m p0 p1) k
  have pre1 : ∀ t, Steps p.tables e below (s₁.setTop (mkF m 8 #[.val (.long p0), .second, .val (.int p1)] [(.int (lcmpW (p0 &&& (65535 : Int64)) (p1.toInt64)))])) t → Steps p.tables e below (s₁.setTop (entryFrame m #[(.long p0), (.int p1)] 3)) t := by
    intro t k
    refine pre0 t ?_
    show Steps p.tables e below (s₁.setTop (mkF m 0 #[.val (.long p0), .second, .val (.int p1)] [])) _
    refine XS.lloadN X0.here hx rfl (hb hby d4_0) rfl  ?_
    show Steps p.tables e below (s₁.setTop (mkF m 1 #[.val (.long p0), .second, .val (.int p1)] [(.long p0)])) _
    refine X0.ldc2Long hx hown (mvT hZ (hw _ (List.mem_of_getElem? (i := 20) rfl))) (g := (mkF m 1 #[.val (.long p0), .second, .val (.int p1)] [(.long p0)])) rfl (hb hby d4_1) _ ?_
    show Steps p.tables e below (s₁.setTop (mkF m 4 #[.val (.long p0), .second, .val (.int p1)] [(.long (65535 : Int64)), (.long p0)])) _
    refine XS.land X0.here hx rfl (hb hby d4_4) rfl ?_
    show Steps p.tables e below (s₁.setTop (mkF m 5 #[.val (.long p0), .second, .val (.int p1)] [(.long (p0 &&& (65535 : Int64)))])) _
    refine XS.iloadN X0.here hx rfl (hb hby d4_5) rfl  ?_
    show Steps p.tables e below (s₁.setTop (mkF m 6 #[.val (.long p0), .second, .val (.int p1)] [(.int p1), (.long (p0 &&& (65535 : Int64)))])) _
    refine XS.i2l X0.here hx rfl (hb hby d4_6) rfl ?_
    show Steps p.tables e below (s₁.setTop (mkF m 7 #[.val (.long p0), .second, .val (.int p1)] [(.long (p1.toInt64)), (.long (p0 &&& (65535 : Int64)))])) _
    refine XS.lcmp X0.here hx rfl (hb hby d4_7) rfl ?_
    exact k
  obtain ⟨ms0_16, hms0_16⟩ : ∃ z : Int32, z = (if (p1.toInt64) < (p0 &&& (65535 : Int64)) then (0 : Int32) else (1 : Int32)) := ⟨_, rfl⟩
  have pre2 : ∀ t, Steps p.tables e below (s₁.setTop (mkF m 16 #[.val (.long p0), .second, .val (.int p1)] [(.int ms0_16)])) t → Steps p.tables e below (s₁.setTop (entryFrame m #[(.long p0), (.int p1)] 3)) t := by
    intro t k
    refine pre1 t ?_
    by_cases hc8 : (p1.toInt64) < (p0 &&& (65535 : Int64))
    · show Steps p.tables e below (s₁.setTop (mkF m 8 #[.val (.long p0), .second, .val (.int p1)] [(.int (lcmpW (p0 &&& (65535 : Int64)) (p1.toInt64)))])) _
      refine XS.ifYes X0.here hx rfl (pc0 := 8) (pc' := 15) rfl (hb hby d4_8) rfl ((if0 _ _).trans (tlt ((lw_gt _ _).mpr hc8)).2.2.1) (by decide) (by decide) ?_
      show Steps p.tables e below (s₁.setTop (mkF m 15 #[.val (.long p0), .second, .val (.int p1)] [])) _
      refine XS.iconst X0.here hx rfl (hb hby d4_15) ?_
      have qms0_16 : ms0_16 = (0 : Int32) := by rw [hms0_16, if_pos hc8]
      rw [qms0_16] at k
      exact k
    · show Steps p.tables e below (s₁.setTop (mkF m 8 #[.val (.long p0), .second, .val (.int p1)] [(.int (lcmpW (p0 &&& (65535 : Int64)) (p1.toInt64)))])) _
      refine XS.ifNo X0.here hx rfl (hb hby d4_8) rfl ((if0 _ _).trans (flt (fun q => hc8 ((lw_gt _ _).mp q))).2.2.1) ?_
      show Steps p.tables e below (s₁.setTop (mkF m 11 #[.val (.long p0), .second, .val (.int p1)] [])) _
      refine XS.iconst X0.here hx rfl (hb hby d4_11) ?_
      show Steps p.tables e below (s₁.setTop (mkF m 12 #[.val (.long p0), .second, .val (.int p1)] [(.int (1 : Int32))])) _
      refine XS.goto X0.here hx rfl (pc0 := 12) (pc' := 16) rfl (hb hby d4_12) (by decide) (by decide) ?_
      have qms0_16 : ms0_16 = (1 : Int32) := by rw [hms0_16, if_neg hc8]
      rw [qms0_16] at k
      exact k
  have hnar : nar .boolean ms0_16 = ms0_16 := by rw [hms0_16]; (repeat' split) <;> rfl
  obtain ⟨fs, hr, hrun, hended, hW, hsame⟩ := X0.leave (v := some (.int ms0_16)) (fun h => by rw [Bd.returns] at h; cases h) (BodyLoose.notSynchronized Bd)
  refine ⟨_, _, pre2 _ ?_, hrun, hended, _, _, rfl, ?_, ⟨_, rfl⟩, hW, hsame.mono (by decide) (by decide)⟩
  · show Steps p.tables e below (s₁.setTop (mkF m 16 #[.val (.long p0), .second, .val (.int p1)] [(.int ms0_16)])) _
    exact retN X0 hx (t := .boolean) Bd.returns (by simp) (hb hby d4_16) (by rw [hnar]; exact hr)
  · show Q_4 Z p0 p1 h0 n0 _ s₁.heap _
    rw [e0]
    exact ⟨congrArg (fun z => some (Value.int z)) (by subst hms0_16; rfl : ms0_16 = f_4 p0 p1), N0, rfl⟩
theorem pd_0 : parseMethodDescriptor "(J)J" = some ⟨[.long], some .long⟩ := by decide +kernel
theorem pd_1 : parseMethodDescriptor "(JI)Z" = some ⟨[.long, .int], some .boolean⟩ := by decide +kernel
theorem d2_0 : decode prog_6_method_2_code 0 = .ok (.lload_n 0, 1) := by decide +kernel
theorem d2_1 : decode prog_6_method_2_code 1 = .ok (.lconst 0, 1) := by decide +kernel
theorem d2_2 : decode prog_6_method_2_code 2 = .ok (.lcmp, 1) := by decide +kernel
theorem d2_3 : decode prog_6_method_2_code 3 = .ok (.ifCond .eq 12, 3) := by decide +kernel
theorem d2_6 : decode prog_6_method_2_code 6 = .ok (.lload_n 2, 1) := by decide +kernel
theorem d2_7 : decode prog_6_method_2_code 7 = .ok (.lload_n 0, 1) := by decide +kernel
theorem d2_8 : decode prog_6_method_2_code 8 = .ok (.invokestatic 9, 3) := by decide +kernel
theorem d2_11 : decode prog_6_method_2_code 11 = .ok (.lcmp, 1) := by decide +kernel
theorem d2_12 : decode prog_6_method_2_code 12 = .ok (.ifCond .lt 10, 3) := by decide +kernel
theorem d2_15 : decode prog_6_method_2_code 15 = .ok (.lload_n 2, 1) := by decide +kernel
theorem d2_16 : decode prog_6_method_2_code 16 = .ok (.bipush 16, 2) := by decide +kernel
theorem d2_18 : decode prog_6_method_2_code 18 = .ok (.lshl, 1) := by decide +kernel
theorem d2_19 : decode prog_6_method_2_code 19 = .ok (.lconst 1, 1) := by decide +kernel
theorem d2_20 : decode prog_6_method_2_code 20 = .ok (.lor, 1) := by decide +kernel
theorem d2_21 : decode prog_6_method_2_code 21 = .ok (.lreturn, 1) := by decide +kernel
theorem d2_22 : decode prog_6_method_2_code 22 = .ok (.lload_n 0, 1) := by decide +kernel
theorem d2_23 : decode prog_6_method_2_code 23 = .ok (.iload 4, 2) := by decide +kernel
theorem d2_25 : decode prog_6_method_2_code 25 = .ok (.invokestatic 13, 3) := by decide +kernel
theorem d2_28 : decode prog_6_method_2_code 28 = .ok (.ifCond .eq 9, 3) := by decide +kernel
theorem d2_31 : decode prog_6_method_2_code 31 = .ok (.lload_n 0, 1) := by decide +kernel
theorem d2_32 : decode prog_6_method_2_code 32 = .ok (.lconst 1, 1) := by decide +kernel
theorem d2_33 : decode prog_6_method_2_code 33 = .ok (.ladd, 1) := by decide +kernel
theorem d2_34 : decode prog_6_method_2_code 34 = .ok (.goto 4, 3) := by decide +kernel
theorem d2_37 : decode prog_6_method_2_code 37 = .ok (.lload_n 0, 1) := by decide +kernel
theorem d2_38 : decode prog_6_method_2_code 38 = .ok (.lreturn, 1) := by decide +kernel
theorem pn_2 : plainName "com/example/tern/tern/gateway/Minute" = true := by first | (simp [plainName, overriddenIn]; done) | decide +kernel
theorem ef_2 (m : MethodId) (p0 : Int64) (p1 : Int64) (p2 : Int32) : entryFrame m #[(.long p0), (.long p1), (.int p2)] 5 = mkF m 0 #[.val (.long p0), .second, .val (.long p1), .second, .val (.int p2)] [] := by first | (simp [entryFrame, mkF, argsToLocals, Value.category]; done) | rfl
def f_2 (p0 : Int64) (p1 : Int64) (p2 : Int32) : Int64 := (if p0 = (0 : Int64) then ((p1 <<< ((16 : Int32) &&& 0x3f).toInt64) ||| (1 : Int64)) else (if p1 < (f_3 p0) then let ms0_38 : Int64 := (if (f_4 p0 p2) = (0 : Int32) then p0 else (p0 + (1 : Int64))); ms0_38 else ((p1 <<< ((16 : Int32) &&& 0x3f).toInt64) ||| (1 : Int64))))
def Q_2 (Z : State) (p0 : Int64) (p1 : Int64) (p2 : Int32)  (h0 : Heap) (n0 : Nat) (v : Option Value) (h : Heap) (L : List Loc) : Prop := v = some (.long (f_2 p0 p1 p2)) ∧ Fr n0 L ∧ h = h0
set_option maxRecDepth 65536 in
set_option maxHeartbeats 40000000 in
theorem rm_2 (l : Launch) (Z : State) (a0 : Array Value) (hw : ∀ d ∈ tables_1, d.before a0 Z = true) (ws : List Jvm.Cond) (p0 : Int64) (p1 : Int64) (p2 : Int32)  (h0 : Heap) (n0 : Nat) (Z0 : n0 ≤ h0.size)  :
    MetFree l (⟨"com/example/tern/tern/gateway/Minute", "withCall", "(JJI)J"⟩ : MethodName) (head1 (Jvm.Cond.code (⟨"com/example/tern/tern/gateway/Minute", "withCall", "(JJI)J"⟩ : MethodName) prog_6_method_2_code 5 (some .long) :: ws) ({ frames := 1, cells := 0, slots := 0, locals := 15 } : Room)) (fun a U => a = #[(.long p0), (.long p1), (.int p2)] ∧ Z.Warmed39 U.vm ∧ U.heap = h0) (fun _ _ _ _ _ => True) (fun _ U o U' => ∃ v L, o = .returned v ∧ Q_2 Z p0 p1 p2 h0 n0 v U'.heap L ∧ FrameEnd U o U' L ({ frames := 1, cells := 0, slots := 0, locals := 15 } : Room).cells ({ frames := 1, cells := 0, slots := 0, locals := 15 } : Room).slots) := by
  refine MetFree.of_bodySF (plainFor_of_name pn_2) hisR ?_
  intro p e s m args below meth c s₁ Bd hml0 hP hK
  obtain ⟨rfl, hZ, hh⟩ := hP
  have hx := Bd.exec
  have hby := Bd.bytes
  have hml : c.maxLocals = 5 := hml0
  have hown : s.vm.findClass "com/example/tern/tern/gateway/Minute" = some m.cls := findClass_of_methodNamed Bd.named
  have hnm := (name_of_methodNamed Bd.named Bd.method).1
  have X0 : Stand p l e ({ frames := 1, cells := 0, slots := 0, locals := 15 } : Room) s m #[(.long p0), (.long p1), (.int p2)] below meth c s₁ [] 0 0 := Stand.of_body Bd
  have e0 : s₁.heap = h0 := by rw [← hh, Bd.state]; rfl
  have N0 := Fr.nil n0
  have K0 : Keep h0 h0 [] := Keep.refl h0 _
  have pre0 : ∀ t, Steps p.tables e below (s₁.setTop (mkF m 0 #[.val (.long p0), .second, .val (.long p1), .second, .val (.int p2)] [])) t → Steps p.tables e below (s₁.setTop (entryFrame m #[(.long p0), (.long p1), (.int p2)] 5)) t := fun t k => castTop (ef_2 m p0 p1 p2) k
  have pre1 : ∀ t, Steps p.tables e below (s₁.setTop (mkF m 3 #[.val (.long p0), .second, .val (.long p1), .second, .val (.int p2)] [(.int (lcmpW p0 (0 : Int64)))])) t → Steps p.tables e below (s₁.setTop (entryFrame m #[(.long p0), (.long p1), (.int p2)] 5)) t := by
    intro t k
    refine pre0 t ?_
    show Steps p.tables e below (s₁.setTop (mkF m 0 #[.val (.long p0), .second, .val (.long p1), .second, .val (.int p2)] [])) _
    refine XS.lloadN X0.here hx rfl (hb hby d2_0) rfl  ?_
    show Steps p.tables e below (s₁.setTop (mkF m 1 #[.val (.long p0), .second, .val (.long p1), .second, .val (.int p2)] [(.long p0)])) _
    refine XS.lconst X0.here hx rfl (hb hby d2_1) ?_
    show Steps p.tables e below (s₁.setTop (mkF m 2 #[.val (.long p0), .second, .val (.long p1), .second, .val (.int p2)] [(.long (0 : Int64)), (.long p0)])) _
    refine XS.lcmp X0.here hx rfl (hb hby d2_2) rfl ?_
    exact k
  by_cases hc3 : p0 = (0 : Int64)
  · obtain ⟨fs, hr, hrun, hended, hW, hsame⟩ := X0.leave (v := some (.long ((p1 <<< ((16 : Int32) &&& 0x3f).toInt64) ||| (1 : Int64)))) (fun h => by rw [Bd.returns] at h; cases h) (BodyLoose.notSynchronized Bd)
    refine ⟨_, _, pre1 _ ?_, hrun, hended, _, _, rfl, ?_, ⟨_, rfl⟩, hW, hsame.mono (by decide) (by decide)⟩
    · show Steps p.tables e below (s₁.setTop (mkF m 3 #[.val (.long p0), .second, .val (.long p1), .second, .val (.int p2)] [(.int (lcmpW p0 (0 : Int64)))])) _
      refine XS.ifYes X0.here hx rfl (pc0 := 3) (pc' := 15) rfl (hb hby d2_3) rfl ((if0 _ _).trans (teq ((lw_eq _ _).mpr hc3)).1) (by decide) (by decide) ?_
      show Steps p.tables e below (s₁.setTop (mkF m 15 #[.val (.long p0), .second, .val (.long p1), .second, .val (.int p2)] [])) _
      refine XS.lloadN X0.here hx rfl (hb hby d2_15) rfl  ?_
      show Steps p.tables e below (s₁.setTop (mkF m 16 #[.val (.long p0), .second, .val (.long p1), .second, .val (.int p2)] [(.long p1)])) _
      refine XS.bipush X0.here hx rfl (hb hby d2_16) ?_
      show Steps p.tables e below (s₁.setTop (mkF m 18 #[.val (.long p0), .second, .val (.long p1), .second, .val (.int p2)] [(.int (16 : Int32)), (.long p1)])) _
      refine XS.lshl X0.here hx rfl (hb hby d2_18) rfl ?_
      show Steps p.tables e below (s₁.setTop (mkF m 19 #[.val (.long p0), .second, .val (.long p1), .second, .val (.int p2)] [(.long (p1 <<< ((16 : Int32) &&& 0x3f).toInt64))])) _
      refine XS.lconst X0.here hx rfl (hb hby d2_19) ?_
      show Steps p.tables e below (s₁.setTop (mkF m 20 #[.val (.long p0), .second, .val (.long p1), .second, .val (.int p2)] [(.long (1 : Int64)), (.long (p1 <<< ((16 : Int32) &&& 0x3f).toInt64))])) _
      refine XS.lor X0.here hx rfl (hb hby d2_20) rfl ?_
      show Steps p.tables e below (s₁.setTop (mkF m 21 #[.val (.long p0), .second, .val (.long p1), .second, .val (.int p2)] [(.long ((p1 <<< ((16 : Int32) &&& 0x3f).toInt64) ||| (1 : Int64)))])) _
      exact retOut X0 hx Bd.returns rfl (Or.inr (Or.inl ⟨rfl, rfl, _, rfl⟩)) (hb hby d2_21) hr
    · show Q_2 Z p0 p1 p2 h0 n0 _ s₁.heap _
      rw [e0]
      exact ⟨congrArg (fun z => some (Value.long z)) (by exact (if_pos hc3).symm : ((p1 <<< ((16 : Int32) &&& 0x3f).toInt64) ||| (1 : Int64)) = f_2 p0 p1 p2), N0, rfl⟩
  · have pre3 : ∀ t, Steps p.tables e below (s₁.setTop (mkF m 8 #[.val (.long p0), .second, .val (.long p1), .second, .val (.int p2)] [(.long p0), (.long p1)])) t → Steps p.tables e below (s₁.setTop (entryFrame m #[(.long p0), (.long p1), (.int p2)] 5)) t := by
      intro t k
      refine pre1 t ?_
      show Steps p.tables e below (s₁.setTop (mkF m 3 #[.val (.long p0), .second, .val (.long p1), .second, .val (.int p2)] [(.int (lcmpW p0 (0 : Int64)))])) _
      refine XS.ifNo X0.here hx rfl (hb hby d2_3) rfl ((if0 _ _).trans (feq (fun q => hc3 ((lw_eq _ _).mp q))).1) ?_
      show Steps p.tables e below (s₁.setTop (mkF m 6 #[.val (.long p0), .second, .val (.long p1), .second, .val (.int p2)] [])) _
      refine XS.lloadN X0.here hx rfl (hb hby d2_6) rfl  ?_
      show Steps p.tables e below (s₁.setTop (mkF m 7 #[.val (.long p0), .second, .val (.long p1), .second, .val (.int p2)] [(.long p1)])) _
      refine XS.lloadN X0.here hx rfl (hb hby d2_7) rfl  ?_
      exact k
    obtain ⟨_, _, ⟨T2, L2, k2, n2⟩, -, X2, ⟨Lc2, hQ2, l2, y2, z2⟩, st2⟩ := Jvm.LawKit.callS X0 hx (y := (⟨"com/example/tern/tern/gateway/Minute", "end", "(J)J"⟩ : MethodName)) hown (mvT hZ (hw _ (List.mem_of_getElem? (i := 13) rfl))) (mvT hZ (hw _ (List.mem_of_getElem? (i := 14) rfl))) (mvT hZ (hw _ (List.mem_of_getElem? (i := 9) rfl))) (mvT hZ (hw _ (List.mem_of_getElem? (i := 15) rfl))) (by decide) (backOf (W := 2) (rm_3 l Z a0 hw [] p0 h0 n0 Z0 ) hZ (hw _ (List.mem_of_getElem? (i := 15) rfl)) (hw _ (List.mem_of_getElem? (i := 9) rfl)) (by decide) (by decide)) (g := (mkF m 8 #[.val (.long p0), .second, .val (.long p1), .second, .val (.int p2)] [(.long p0), (.long p1)])) rfl (by rw [hml]; rfl) (argsL := [(.long p0)]) (rest := [(.long p1)]) (lenOf pd_0 rfl) rfl (by show 2 * 0 + _ ≤ _; exact Nat.le_of_eq rfl) (hb hby d2_8) (fun _ _ => ⟨rfl, e0, (by decide : 0 + 0 ≤ _), (by decide : 0 + 0 ≤ _)⟩)
    dsimp only [Pt.U, Pt.locs, Pt.cells, Pt.slots] at X2 l2 y2 z2 st2 hQ2
    subst l2 y2 z2
    obtain ⟨rfl, N2q, e2⟩ := hQ2
    have N2 := Fr.app N0 N2q
    have pre4 : ∀ t, Steps p.tables e below (T2.setTop (mkF m 12 #[.val (.long p0), .second, .val (.long p1), .second, .val (.int p2)] [(.int (lcmpW p1 (f_3 p0)))])) t → Steps p.tables e below (s₁.setTop (entryFrame m #[(.long p0), (.long p1), (.int p2)] 5)) t := by
      intro t k
      refine pre3 t ?_
      show Steps p.tables e below (s₁.setTop (mkF m 8 #[.val (.long p0), .second, .val (.long p1), .second, .val (.int p2)] [(.long p0), (.long p1)])) _
      refine st2 _ ?_
      show Steps p.tables e below (T2.setTop (mkF m 11 #[.val (.long p0), .second, .val (.long p1), .second, .val (.int p2)] [(.long (f_3 p0)), (.long p1)])) _
      refine XS.lcmp X2.here hx rfl (hb hby d2_11) rfl ?_
      exact k
    by_cases hc12 : p1 < (f_3 p0)
    · have pre6 : ∀ t, Steps p.tables e below (T2.setTop (mkF m 25 #[.val (.long p0), .second, .val (.long p1), .second, .val (.int p2)] [(.int p2), (.long p0)])) t → Steps p.tables e below (s₁.setTop (entryFrame m #[(.long p0), (.long p1), (.int p2)] 5)) t := by
        intro t k
        refine pre4 t ?_
        show Steps p.tables e below (T2.setTop (mkF m 12 #[.val (.long p0), .second, .val (.long p1), .second, .val (.int p2)] [(.int (lcmpW p1 (f_3 p0)))])) _
        refine XS.ifYes X2.here hx rfl (pc0 := 12) (pc' := 22) rfl (hb hby d2_12) rfl ((if0 _ _).trans (tlt ((lw_lt _ _).mpr hc12)).1) (by decide) (by decide) ?_
        show Steps p.tables e below (T2.setTop (mkF m 22 #[.val (.long p0), .second, .val (.long p1), .second, .val (.int p2)] [])) _
        refine XS.lloadN X2.here hx rfl (hb hby d2_22) rfl  ?_
        show Steps p.tables e below (T2.setTop (mkF m 23 #[.val (.long p0), .second, .val (.long p1), .second, .val (.int p2)] [(.long p0)])) _
        refine XS.iload X2.here hx rfl (hb hby d2_23) rfl  ?_
        exact k
      obtain ⟨_, _, ⟨T5, L5, k5, n5⟩, -, X5, ⟨Lc5, hQ5, l5, y5, z5⟩, st5⟩ := Jvm.LawKit.callS X2 hx (y := (⟨"com/example/tern/tern/gateway/Minute", "admits", "(JI)Z"⟩ : MethodName)) hown (mvT hZ (hw _ (List.mem_of_getElem? (i := 17) rfl))) (mvT hZ (hw _ (List.mem_of_getElem? (i := 18) rfl))) (mvT hZ (hw _ (List.mem_of_getElem? (i := 9) rfl))) (mvT hZ (hw _ (List.mem_of_getElem? (i := 19) rfl))) (by decide) (backOf (W := 0) (rm_4 l Z a0 hw [] p0 p2 h0 n0 Z0 ) hZ (hw _ (List.mem_of_getElem? (i := 19) rfl)) (hw _ (List.mem_of_getElem? (i := 9) rfl)) (by decide) (by decide)) (g := (mkF m 25 #[.val (.long p0), .second, .val (.long p1), .second, .val (.int p2)] [(.int p2), (.long p0)])) rfl (by rw [hml]; rfl) (argsL := [(.long p0), (.int p2)]) (rest := []) (lenOf pd_1 rfl) rfl (by show 2 * 0 + _ ≤ _; exact Nat.le_of_eq rfl) (hb hby d2_25) (fun _ _ => ⟨rfl, e2, (by decide : 0 + 0 ≤ _), (by decide : 0 + 0 ≤ _)⟩)
      dsimp only [Pt.U, Pt.locs, Pt.cells, Pt.slots] at X5 l5 y5 z5 st5 hQ5
      subst l5 y5 z5
      obtain ⟨rfl, N5q, e5⟩ := hQ5
      have N5 := Fr.app N2 N5q
      have pre7 : ∀ t, Steps p.tables e below (T5.setTop (mkF m 28 #[.val (.long p0), .second, .val (.long p1), .second, .val (.int p2)] [(.int (f_4 p0 p2))])) t → Steps p.tables e below (s₁.setTop (entryFrame m #[(.long p0), (.long p1), (.int p2)] 5)) t := by
        intro t k
        refine pre6 t ?_
        show Steps p.tables e below (T2.setTop (mkF m 25 #[.val (.long p0), .second, .val (.long p1), .second, .val (.int p2)] [(.int p2), (.long p0)])) _
        refine st5 _ ?_
        exact k
      obtain ⟨ms0_38, hms0_38⟩ : ∃ z : Int64, z = (if (f_4 p0 p2) = (0 : Int32) then p0 else (p0 + (1 : Int64))) := ⟨_, rfl⟩
      have pre8 : ∀ t, Steps p.tables e below (T5.setTop (mkF m 38 #[.val (.long p0), .second, .val (.long p1), .second, .val (.int p2)] [(.long ms0_38)])) t → Steps p.tables e below (s₁.setTop (entryFrame m #[(.long p0), (.long p1), (.int p2)] 5)) t := by
        intro t k
        refine pre7 t ?_
        by_cases hc28 : (f_4 p0 p2) = (0 : Int32)
        · show Steps p.tables e below (T5.setTop (mkF m 28 #[.val (.long p0), .second, .val (.long p1), .second, .val (.int p2)] [(.int (f_4 p0 p2))])) _
          refine XS.ifYes X5.here hx rfl (pc0 := 28) (pc' := 37) rfl (hb hby d2_28) rfl ((if0 _ _).trans (teq hc28).1) (by decide) (by decide) ?_
          show Steps p.tables e below (T5.setTop (mkF m 37 #[.val (.long p0), .second, .val (.long p1), .second, .val (.int p2)] [])) _
          refine XS.lloadN X5.here hx rfl (hb hby d2_37) rfl  ?_
          have qms0_38 : ms0_38 = p0 := by rw [hms0_38, if_pos hc28]
          rw [qms0_38] at k
          exact k
        · show Steps p.tables e below (T5.setTop (mkF m 28 #[.val (.long p0), .second, .val (.long p1), .second, .val (.int p2)] [(.int (f_4 p0 p2))])) _
          refine XS.ifNo X5.here hx rfl (hb hby d2_28) rfl ((if0 _ _).trans (feq hc28).1) ?_
          show Steps p.tables e below (T5.setTop (mkF m 31 #[.val (.long p0), .second, .val (.long p1), .second, .val (.int p2)] [])) _
          refine XS.lloadN X5.here hx rfl (hb hby d2_31) rfl  ?_
          show Steps p.tables e below (T5.setTop (mkF m 32 #[.val (.long p0), .second, .val (.long p1), .second, .val (.int p2)] [(.long p0)])) _
          refine XS.lconst X5.here hx rfl (hb hby d2_32) ?_
          show Steps p.tables e below (T5.setTop (mkF m 33 #[.val (.long p0), .second, .val (.long p1), .second, .val (.int p2)] [(.long (1 : Int64)), (.long p0)])) _
          refine XS.ladd X5.here hx rfl (hb hby d2_33) rfl ?_
          show Steps p.tables e below (T5.setTop (mkF m 34 #[.val (.long p0), .second, .val (.long p1), .second, .val (.int p2)] [(.long (p0 + (1 : Int64)))])) _
          refine XS.goto X5.here hx rfl (pc0 := 34) (pc' := 38) rfl (hb hby d2_34) (by decide) (by decide) ?_
          have qms0_38 : ms0_38 = (p0 + (1 : Int64)) := by rw [hms0_38, if_neg hc28]
          rw [qms0_38] at k
          exact k
      obtain ⟨fs, hr, hrun, hended, hW, hsame⟩ := X5.leave (v := some (.long ms0_38)) (fun h => by rw [Bd.returns] at h; cases h) (BodyLoose.notSynchronized Bd)
      refine ⟨_, _, pre8 _ ?_, hrun, hended, _, _, rfl, ?_, ⟨_, rfl⟩, hW, hsame.mono (by decide) (by decide)⟩
      · show Steps p.tables e below (T5.setTop (mkF m 38 #[.val (.long p0), .second, .val (.long p1), .second, .val (.int p2)] [(.long ms0_38)])) _
        exact retOut X5 hx Bd.returns rfl (Or.inr (Or.inl ⟨rfl, rfl, _, rfl⟩)) (hb hby d2_38) hr
      · show Q_2 Z p0 p1 p2 h0 n0 _ T5.heap _
        rw [e5]
        exact ⟨congrArg (fun z => some (Value.long z)) (by subst hms0_38; exact ((if_neg hc3).trans (if_pos hc12)).symm : ms0_38 = f_2 p0 p1 p2), N5, rfl⟩
    · obtain ⟨fs, hr, hrun, hended, hW, hsame⟩ := X2.leave (v := some (.long ((p1 <<< ((16 : Int32) &&& 0x3f).toInt64) ||| (1 : Int64)))) (fun h => by rw [Bd.returns] at h; cases h) (BodyLoose.notSynchronized Bd)
      refine ⟨_, _, pre4 _ ?_, hrun, hended, _, _, rfl, ?_, ⟨_, rfl⟩, hW, hsame.mono (by decide) (by decide)⟩
      · show Steps p.tables e below (T2.setTop (mkF m 12 #[.val (.long p0), .second, .val (.long p1), .second, .val (.int p2)] [(.int (lcmpW p1 (f_3 p0)))])) _
        refine XS.ifNo X2.here hx rfl (hb hby d2_12) rfl ((if0 _ _).trans (flt (fun q => hc12 ((lw_lt _ _).mp q))).1) ?_
        show Steps p.tables e below (T2.setTop (mkF m 15 #[.val (.long p0), .second, .val (.long p1), .second, .val (.int p2)] [])) _
        refine XS.lloadN X2.here hx rfl (hb hby d2_15) rfl  ?_
        show Steps p.tables e below (T2.setTop (mkF m 16 #[.val (.long p0), .second, .val (.long p1), .second, .val (.int p2)] [(.long p1)])) _
        refine XS.bipush X2.here hx rfl (hb hby d2_16) ?_
        show Steps p.tables e below (T2.setTop (mkF m 18 #[.val (.long p0), .second, .val (.long p1), .second, .val (.int p2)] [(.int (16 : Int32)), (.long p1)])) _
        refine XS.lshl X2.here hx rfl (hb hby d2_18) rfl ?_
        show Steps p.tables e below (T2.setTop (mkF m 19 #[.val (.long p0), .second, .val (.long p1), .second, .val (.int p2)] [(.long (p1 <<< ((16 : Int32) &&& 0x3f).toInt64))])) _
        refine XS.lconst X2.here hx rfl (hb hby d2_19) ?_
        show Steps p.tables e below (T2.setTop (mkF m 20 #[.val (.long p0), .second, .val (.long p1), .second, .val (.int p2)] [(.long (1 : Int64)), (.long (p1 <<< ((16 : Int32) &&& 0x3f).toInt64))])) _
        refine XS.lor X2.here hx rfl (hb hby d2_20) rfl ?_
        show Steps p.tables e below (T2.setTop (mkF m 21 #[.val (.long p0), .second, .val (.long p1), .second, .val (.int p2)] [(.long ((p1 <<< ((16 : Int32) &&& 0x3f).toInt64) ||| (1 : Int64)))])) _
        exact retOut X2 hx Bd.returns rfl (Or.inr (Or.inl ⟨rfl, rfl, _, rfl⟩)) (hb hby d2_21) hr
      · show Q_2 Z p0 p1 p2 h0 n0 _ T2.heap _
        rw [e2]
        exact ⟨congrArg (fun z => some (Value.long z)) (by exact ((if_neg hc3).trans (if_neg hc12)).symm : ((p1 <<< ((16 : Int32) &&& 0x3f).toInt64) ||| (1 : Int64)) = f_2 p0 p1 p2), N2, rfl⟩
theorem pd_2 : parseMethodDescriptor "(II)I" = some ⟨[.int, .int], some .int⟩ := by decide +kernel
theorem pd_3 : parseMethodDescriptor "(JJI)J" = some ⟨[.long, .long, .int], some .long⟩ := by decide +kernel
theorem pn_0 : plainName "com/example/tern/tern/gateway/MinuteWithCallPinLaw" = true := by first | (simp [plainName, overriddenIn]; done) | decide +kernel
theorem ef_0 (m : MethodId) (p0 : Int64) (p1 : Int64) (p2 : Int32) (p3 : Int32) (p4 : Int32) : entryFrame m #[(.long p0), (.long p1), (.int p2), (.int p3), (.int p4)] maxLocals = mkF m 0 #[.val (.long p0), .second, .val (.long p1), .second, .val (.int p2), .val (.int p3), .val (.int p4), .unset, .unset, .unset, .unset, .unset, .unset, .unset, .unset, .unset, .unset, .unset, .unset, .unset, .unset, .unset, .unset, .unset, .unset, .unset, .unset] [] := by first | (simp [entryFrame, mkF, argsToLocals, Value.category, maxLocals]; done) | rfl
def f_0 (p0 : Int64) (p1 : Int64) (p2 : Int32) (p3 : Int32) (p4 : Int32) : Int32 := let v9_9 : Int64 := (p0 &&& (281474976710655 : Int64)); let v11_16 : Int32 := (p3 % (65535 : Int32)); let v12_26 : Int32 := (f_1 (1 : Int32) (v11_16 + (1 : Int32))); let v13_39 : Int64 := (((1 : Int32) + ((p2 &&& (2147483647 : Int32)) % v12_26)).toInt64); let v15_45 : Int32 := (p4 &&& (3 : Int32)); let ms0_57 : Int32 := (if v15_45 = (0 : Int32) then (1 : Int32) else (0 : Int32)); let ms0_76 : Int64 := (if ms0_57 = (0 : Int32) then ((v9_9 <<< ((16 : Int32) &&& 0x3f).toInt64) ||| v13_39) else (0 : Int64)); let ms0_107 : Int64 := (if ms0_57 = (0 : Int32) then (if v15_45 = (1 : Int32) then (p1 &&& (281474976710655 : Int64)) else ((v9_9 + (p1 % (120001 : Int64))) &&& (281474976710655 : Int64))) else (p1 &&& (281474976710655 : Int64))); let v21_118 : Int64 := (f_2 ms0_76 ms0_107 v11_16); let v23_125 : Int64 := ((v21_118.toUInt64 >>> ((16 : Int32) &&& 0x3f).toInt64.toUInt64).toInt64); let v25_133 : Int64 := (v21_118 &&& (65535 : Int64)); (if ms0_57 = (0 : Int32) then (if ms0_107 < (v9_9 + (60000 : Int64)) then (if (v11_16.toInt64) < v13_39 then let ms0_219 : Int32 := (if v21_118 = ms0_76 then (1 : Int32) else (0 : Int32)); ms0_219 else let ms0_205 : Int32 := (if v23_125 = v9_9 then (if v25_133 = (v13_39 + (1 : Int64)) then (1 : Int32) else (0 : Int32)) else (0 : Int32)); ms0_205) else let ms0_172 : Int32 := (if v23_125 = ms0_107 then (if v25_133 = (1 : Int64) then (1 : Int32) else (0 : Int32)) else (0 : Int32)); ms0_172) else let ms0_172 : Int32 := (if v23_125 = ms0_107 then (if v25_133 = (1 : Int64) then (1 : Int32) else (0 : Int32)) else (0 : Int32)); ms0_172)
def Q_0 (Z : State) (p0 : Int64) (p1 : Int64) (p2 : Int32) (p3 : Int32) (p4 : Int32)  (h0 : Heap) (n0 : Nat) (v : Option Value) (h : Heap) (L : List Loc) : Prop := v = some (.int (f_0 p0 p1 p2 p3 p4)) ∧ Fr n0 L ∧ True
set_option maxRecDepth 65536 in
set_option maxHeartbeats 40000000 in
theorem rm_0 (l : Launch) (Z : State) (a0 : Array Value) (hw : ∀ d ∈ tables_1, d.before a0 Z = true) (ws : List Jvm.Cond) (p0 : Int64) (p1 : Int64) (p2 : Int32) (p3 : Int32) (p4 : Int32)  (h0 : Heap) (n0 : Nat) (Z0 : n0 ≤ h0.size)  :
    MetFree l x (head1 (Jvm.Cond.code x code maxLocals ret :: ws) room_1) (fun a U => a = #[(.long p0), (.long p1), (.int p2), (.int p3), (.int p4)] ∧ Z.Warmed39 U.vm ∧ U.heap = h0) (fun _ _ _ _ _ => True) (fun _ U o U' => ∃ v L, o = .returned v ∧ Q_0 Z p0 p1 p2 p3 p4 h0 n0 v U'.heap L ∧ FrameEnd U o U' L 0 0) := by
  refine MetFree.of_bodySF (plainFor_of_name pn_0) hisR ?_
  intro p e s m args below meth c s₁ Bd hml0 hP hK
  obtain ⟨rfl, hZ, hh⟩ := hP
  have hx := Bd.exec
  have hby := Bd.bytes
  have hml : c.maxLocals = 27 := hml0
  have hown : s.vm.findClass "com/example/tern/tern/gateway/MinuteWithCallPinLaw" = some m.cls := findClass_of_methodNamed Bd.named
  have hnm := (name_of_methodNamed Bd.named Bd.method).1
  have X0 : Stand p l e room_1 s m #[(.long p0), (.long p1), (.int p2), (.int p3), (.int p4)] below meth c s₁ [] 0 0 := Stand.of_body Bd
  have e0 : s₁.heap = h0 := by rw [← hh, Bd.state]; rfl
  have N0 := Fr.nil n0
  have K0 : Keep h0 h0 [] := Keep.refl h0 _
  have pre0 : ∀ t, Steps p.tables e below (s₁.setTop (mkF m 0 #[.val (.long p0), .second, .val (.long p1), .second, .val (.int p2), .val (.int p3), .val (.int p4), .unset, .unset, .unset, .unset, .unset, .unset, .unset, .unset, .unset, .unset, .unset, .unset, .unset, .unset, .unset, .unset, .unset, .unset, .unset, .unset] [])) t → Steps p.tables e below (s₁.setTop (entryFrame m #[(.long p0), (.long p1), (.int p2), (.int p3), (.int p4)] maxLocals)) t := fun t k => castTop (ef_0 m p0 p1 p2 p3 p4) k
  obtain ⟨v9_9, hv9_9⟩ : ∃ z : Int64, z = (p0 &&& (281474976710655 : Int64)) := ⟨_, rfl⟩
  obtain ⟨v11_16, hv11_16⟩ : ∃ z : Int32, z = (p3 % (65535 : Int32)) := ⟨_, rfl⟩
  have pre2 : ∀ t, Steps p.tables e below (s₁.setTop (mkF m 23 #[.val (.long p0), .second, .val (.long p1), .second, .val (.int p2), .val (.int p3), .val (.int p4), .val (.long (281474976710655 : Int64)), .second, .val (.long v9_9), .second, .val (.int v11_16), .unset, .unset, .unset, .unset, .unset, .unset, .unset, .unset, .unset, .unset, .unset, .unset, .unset, .unset, .unset] [(.int (v11_16 + (1 : Int32))), (.int (1 : Int32))])) t → Steps p.tables e below (s₁.setTop (entryFrame m #[(.long p0), (.long p1), (.int p2), (.int p3), (.int p4)] maxLocals)) t := by
    intro t k
    refine pre0 t ?_
    show Steps p.tables e below (s₁.setTop (mkF m 0 #[.val (.long p0), .second, .val (.long p1), .second, .val (.int p2), .val (.int p3), .val (.int p4), .unset, .unset, .unset, .unset, .unset, .unset, .unset, .unset, .unset, .unset, .unset, .unset, .unset, .unset, .unset, .unset, .unset, .unset, .unset, .unset] [])) _
    refine X0.ldc2Long hx hown (mvT hZ (hw _ (List.mem_of_getElem? (i := 0) rfl))) (g := (mkF m 0 #[.val (.long p0), .second, .val (.long p1), .second, .val (.int p2), .val (.int p3), .val (.int p4), .unset, .unset, .unset, .unset, .unset, .unset, .unset, .unset, .unset, .unset, .unset, .unset, .unset, .unset, .unset, .unset, .unset, .unset, .unset, .unset] [])) rfl (hb hby at_0) _ ?_
    show Steps p.tables e below (s₁.setTop (mkF m 3 #[.val (.long p0), .second, .val (.long p1), .second, .val (.int p2), .val (.int p3), .val (.int p4), .unset, .unset, .unset, .unset, .unset, .unset, .unset, .unset, .unset, .unset, .unset, .unset, .unset, .unset, .unset, .unset, .unset, .unset, .unset, .unset] [(.long (281474976710655 : Int64))])) _
    refine XS.lstore X0.here hx rfl (hb hby at_3) rfl (l' := #[.val (.long p0), .second, .val (.long p1), .second, .val (.int p2), .val (.int p3), .val (.int p4), .val (.long (281474976710655 : Int64)), .second, .unset, .unset, .unset, .unset, .unset, .unset, .unset, .unset, .unset, .unset, .unset, .unset, .unset, .unset, .unset, .unset, .unset, .unset]) rfl ?_
    show Steps p.tables e below (s₁.setTop (mkF m 5 #[.val (.long p0), .second, .val (.long p1), .second, .val (.int p2), .val (.int p3), .val (.int p4), .val (.long (281474976710655 : Int64)), .second, .unset, .unset, .unset, .unset, .unset, .unset, .unset, .unset, .unset, .unset, .unset, .unset, .unset, .unset, .unset, .unset, .unset, .unset] [])) _
    refine XS.lloadN X0.here hx rfl (hb hby at_5) rfl  ?_
    show Steps p.tables e below (s₁.setTop (mkF m 6 #[.val (.long p0), .second, .val (.long p1), .second, .val (.int p2), .val (.int p3), .val (.int p4), .val (.long (281474976710655 : Int64)), .second, .unset, .unset, .unset, .unset, .unset, .unset, .unset, .unset, .unset, .unset, .unset, .unset, .unset, .unset, .unset, .unset, .unset, .unset] [(.long p0)])) _
    refine XS.lload X0.here hx rfl (hb hby at_6) rfl  ?_
    show Steps p.tables e below (s₁.setTop (mkF m 8 #[.val (.long p0), .second, .val (.long p1), .second, .val (.int p2), .val (.int p3), .val (.int p4), .val (.long (281474976710655 : Int64)), .second, .unset, .unset, .unset, .unset, .unset, .unset, .unset, .unset, .unset, .unset, .unset, .unset, .unset, .unset, .unset, .unset, .unset, .unset] [(.long (281474976710655 : Int64)), (.long p0)])) _
    refine XS.land X0.here hx rfl (hb hby at_8) rfl ?_
    show Steps p.tables e below (s₁.setTop (mkF m 9 #[.val (.long p0), .second, .val (.long p1), .second, .val (.int p2), .val (.int p3), .val (.int p4), .val (.long (281474976710655 : Int64)), .second, .unset, .unset, .unset, .unset, .unset, .unset, .unset, .unset, .unset, .unset, .unset, .unset, .unset, .unset, .unset, .unset, .unset, .unset] [(.long (p0 &&& (281474976710655 : Int64)))])) _
    refine XS.lstore X0.here hx rfl (hb hby at_9) rfl (l' := #[.val (.long p0), .second, .val (.long p1), .second, .val (.int p2), .val (.int p3), .val (.int p4), .val (.long (281474976710655 : Int64)), .second, .val (.long v9_9), .second, .unset, .unset, .unset, .unset, .unset, .unset, .unset, .unset, .unset, .unset, .unset, .unset, .unset, .unset, .unset, .unset]) (by rw [hv9_9]; rfl) ?_
    show Steps p.tables e below (s₁.setTop (mkF m 11 #[.val (.long p0), .second, .val (.long p1), .second, .val (.int p2), .val (.int p3), .val (.int p4), .val (.long (281474976710655 : Int64)), .second, .val (.long v9_9), .second, .unset, .unset, .unset, .unset, .unset, .unset, .unset, .unset, .unset, .unset, .unset, .unset, .unset, .unset, .unset, .unset] [])) _
    refine XS.iload X0.here hx rfl (hb hby at_11) rfl  ?_
    show Steps p.tables e below (s₁.setTop (mkF m 13 #[.val (.long p0), .second, .val (.long p1), .second, .val (.int p2), .val (.int p3), .val (.int p4), .val (.long (281474976710655 : Int64)), .second, .val (.long v9_9), .second, .unset, .unset, .unset, .unset, .unset, .unset, .unset, .unset, .unset, .unset, .unset, .unset, .unset, .unset, .unset, .unset] [(.int p3)])) _
    refine X0.ldcInt hx hown (mvT hZ (hw _ (List.mem_of_getElem? (i := 1) rfl))) (g := (mkF m 13 #[.val (.long p0), .second, .val (.long p1), .second, .val (.int p2), .val (.int p3), .val (.int p4), .val (.long (281474976710655 : Int64)), .second, .val (.long v9_9), .second, .unset, .unset, .unset, .unset, .unset, .unset, .unset, .unset, .unset, .unset, .unset, .unset, .unset, .unset, .unset, .unset] [(.int p3)])) rfl (hb hby at_13) _ ?_
    show Steps p.tables e below (s₁.setTop (mkF m 15 #[.val (.long p0), .second, .val (.long p1), .second, .val (.int p2), .val (.int p3), .val (.int p4), .val (.long (281474976710655 : Int64)), .second, .val (.long v9_9), .second, .unset, .unset, .unset, .unset, .unset, .unset, .unset, .unset, .unset, .unset, .unset, .unset, .unset, .unset, .unset, .unset] [(.int (65535 : Int32)), (.int p3)])) _
    refine iremM X0 hx rfl (hb hby at_15) rfl (by decide) ?_
    show Steps p.tables e below (s₁.setTop (mkF m 16 #[.val (.long p0), .second, .val (.long p1), .second, .val (.int p2), .val (.int p3), .val (.int p4), .val (.long (281474976710655 : Int64)), .second, .val (.long v9_9), .second, .unset, .unset, .unset, .unset, .unset, .unset, .unset, .unset, .unset, .unset, .unset, .unset, .unset, .unset, .unset, .unset] [(.int (p3 % (65535 : Int32)))])) _
    refine XS.istore X0.here hx rfl (hb hby at_16) rfl (l' := #[.val (.long p0), .second, .val (.long p1), .second, .val (.int p2), .val (.int p3), .val (.int p4), .val (.long (281474976710655 : Int64)), .second, .val (.long v9_9), .second, .val (.int v11_16), .unset, .unset, .unset, .unset, .unset, .unset, .unset, .unset, .unset, .unset, .unset, .unset, .unset, .unset, .unset]) (by rw [hv11_16]; rfl) ?_
    show Steps p.tables e below (s₁.setTop (mkF m 18 #[.val (.long p0), .second, .val (.long p1), .second, .val (.int p2), .val (.int p3), .val (.int p4), .val (.long (281474976710655 : Int64)), .second, .val (.long v9_9), .second, .val (.int v11_16), .unset, .unset, .unset, .unset, .unset, .unset, .unset, .unset, .unset, .unset, .unset, .unset, .unset, .unset, .unset] [])) _
    refine XS.iconst X0.here hx rfl (hb hby at_18) ?_
    show Steps p.tables e below (s₁.setTop (mkF m 19 #[.val (.long p0), .second, .val (.long p1), .second, .val (.int p2), .val (.int p3), .val (.int p4), .val (.long (281474976710655 : Int64)), .second, .val (.long v9_9), .second, .val (.int v11_16), .unset, .unset, .unset, .unset, .unset, .unset, .unset, .unset, .unset, .unset, .unset, .unset, .unset, .unset, .unset] [(.int (1 : Int32))])) _
    refine XS.iload X0.here hx rfl (hb hby at_19) rfl  ?_
    show Steps p.tables e below (s₁.setTop (mkF m 21 #[.val (.long p0), .second, .val (.long p1), .second, .val (.int p2), .val (.int p3), .val (.int p4), .val (.long (281474976710655 : Int64)), .second, .val (.long v9_9), .second, .val (.int v11_16), .unset, .unset, .unset, .unset, .unset, .unset, .unset, .unset, .unset, .unset, .unset, .unset, .unset, .unset, .unset] [(.int v11_16), (.int (1 : Int32))])) _
    refine XS.iconst X0.here hx rfl (hb hby at_21) ?_
    show Steps p.tables e below (s₁.setTop (mkF m 22 #[.val (.long p0), .second, .val (.long p1), .second, .val (.int p2), .val (.int p3), .val (.int p4), .val (.long (281474976710655 : Int64)), .second, .val (.long v9_9), .second, .val (.int v11_16), .unset, .unset, .unset, .unset, .unset, .unset, .unset, .unset, .unset, .unset, .unset, .unset, .unset, .unset, .unset] [(.int (1 : Int32)), (.int v11_16), (.int (1 : Int32))])) _
    refine XS.iadd X0.here hx rfl (hb hby at_22) rfl ?_
    exact k
  obtain ⟨_, _, ⟨T1, L1, k1, n1⟩, -, X1, ⟨Lc1, hQ1, l1, y1, z1⟩, st1⟩ := Jvm.LawKit.callS X0 hx (y := (⟨"java/lang/Math", "max", "(II)I"⟩ : MethodName)) hown (mvT hZ (hw _ (List.mem_of_getElem? (i := 2) rfl))) (mvT hZ (hw _ (List.mem_of_getElem? (i := 3) rfl))) (mvT hZ (hw _ (List.mem_of_getElem? (i := 4) rfl))) (mvT hZ (hw _ (List.mem_of_getElem? (i := 5) rfl))) (by decide) (backOf (W := 0) (rm_1 l Z a0 hw [] (1 : Int32) (v11_16 + (1 : Int32)) h0 n0 Z0 ) hZ (hw _ (List.mem_of_getElem? (i := 5) rfl)) (hw _ (List.mem_of_getElem? (i := 4) rfl)) (by decide) (by decide)) (g := (mkF m 23 #[.val (.long p0), .second, .val (.long p1), .second, .val (.int p2), .val (.int p3), .val (.int p4), .val (.long (281474976710655 : Int64)), .second, .val (.long v9_9), .second, .val (.int v11_16), .unset, .unset, .unset, .unset, .unset, .unset, .unset, .unset, .unset, .unset, .unset, .unset, .unset, .unset, .unset] [(.int (v11_16 + (1 : Int32))), (.int (1 : Int32))])) rfl (by rw [hml]; rfl) (argsL := [(.int (1 : Int32)), (.int (v11_16 + (1 : Int32)))]) (rest := []) (lenOf pd_2 rfl) rfl (by show 2 * 0 + _ ≤ _; exact Nat.le_of_eq rfl) (hb hby at_23) (fun _ _ => ⟨rfl, e0, (by decide : 0 + 0 ≤ _), (by decide : 0 + 0 ≤ _)⟩)
  dsimp only [Pt.U, Pt.locs, Pt.cells, Pt.slots] at X1 l1 y1 z1 st1 hQ1
  subst l1 y1 z1
  obtain ⟨rfl, N1q, e1⟩ := hQ1
  have N1 := Fr.app N0 N1q
  obtain ⟨v12_26, hv12_26⟩ : ∃ z : Int32, z = (f_1 (1 : Int32) (v11_16 + (1 : Int32))) := ⟨_, rfl⟩
  obtain ⟨v13_39, hv13_39⟩ : ∃ z : Int64, z = (((1 : Int32) + ((p2 &&& (2147483647 : Int32)) % v12_26)).toInt64) := ⟨_, rfl⟩
  obtain ⟨v15_45, hv15_45⟩ : ∃ z : Int32, z = (p4 &&& (3 : Int32)) := ⟨_, rfl⟩
  have pre3 : ∀ t, Steps p.tables e below (T1.setTop (mkF m 49 #[.val (.long p0), .second, .val (.long p1), .second, .val (.int p2), .val (.int p3), .val (.int p4), .val (.long (281474976710655 : Int64)), .second, .val (.long v9_9), .second, .val (.int v11_16), .val (.int v12_26), .val (.long v13_39), .second, .val (.int v15_45), .unset, .unset, .unset, .unset, .unset, .unset, .unset, .unset, .unset, .unset, .unset] [(.int v15_45)])) t → Steps p.tables e below (s₁.setTop (entryFrame m #[(.long p0), (.long p1), (.int p2), (.int p3), (.int p4)] maxLocals)) t := by
    intro t k
    refine pre2 t ?_
    show Steps p.tables e below (s₁.setTop (mkF m 23 #[.val (.long p0), .second, .val (.long p1), .second, .val (.int p2), .val (.int p3), .val (.int p4), .val (.long (281474976710655 : Int64)), .second, .val (.long v9_9), .second, .val (.int v11_16), .unset, .unset, .unset, .unset, .unset, .unset, .unset, .unset, .unset, .unset, .unset, .unset, .unset, .unset, .unset] [(.int (v11_16 + (1 : Int32))), (.int (1 : Int32))])) _
    refine st1 _ ?_
    show Steps p.tables e below (T1.setTop (mkF m 26 #[.val (.long p0), .second, .val (.long p1), .second, .val (.int p2), .val (.int p3), .val (.int p4), .val (.long (281474976710655 : Int64)), .second, .val (.long v9_9), .second, .val (.int v11_16), .unset, .unset, .unset, .unset, .unset, .unset, .unset, .unset, .unset, .unset, .unset, .unset, .unset, .unset, .unset] [(.int (f_1 (1 : Int32) (v11_16 + (1 : Int32))))])) _
    refine XS.istore X1.here hx rfl (hb hby at_26) rfl (l' := #[.val (.long p0), .second, .val (.long p1), .second, .val (.int p2), .val (.int p3), .val (.int p4), .val (.long (281474976710655 : Int64)), .second, .val (.long v9_9), .second, .val (.int v11_16), .val (.int v12_26), .unset, .unset, .unset, .unset, .unset, .unset, .unset, .unset, .unset, .unset, .unset, .unset, .unset, .unset]) (by rw [hv12_26]; rfl) ?_
    show Steps p.tables e below (T1.setTop (mkF m 28 #[.val (.long p0), .second, .val (.long p1), .second, .val (.int p2), .val (.int p3), .val (.int p4), .val (.long (281474976710655 : Int64)), .second, .val (.long v9_9), .second, .val (.int v11_16), .val (.int v12_26), .unset, .unset, .unset, .unset, .unset, .unset, .unset, .unset, .unset, .unset, .unset, .unset, .unset, .unset] [])) _
    refine XS.iconst X1.here hx rfl (hb hby at_28) ?_
    show Steps p.tables e below (T1.setTop (mkF m 29 #[.val (.long p0), .second, .val (.long p1), .second, .val (.int p2), .val (.int p3), .val (.int p4), .val (.long (281474976710655 : Int64)), .second, .val (.long v9_9), .second, .val (.int v11_16), .val (.int v12_26), .unset, .unset, .unset, .unset, .unset, .unset, .unset, .unset, .unset, .unset, .unset, .unset, .unset, .unset] [(.int (1 : Int32))])) _
    refine XS.iload X1.here hx rfl (hb hby at_29) rfl  ?_
    show Steps p.tables e below (T1.setTop (mkF m 31 #[.val (.long p0), .second, .val (.long p1), .second, .val (.int p2), .val (.int p3), .val (.int p4), .val (.long (281474976710655 : Int64)), .second, .val (.long v9_9), .second, .val (.int v11_16), .val (.int v12_26), .unset, .unset, .unset, .unset, .unset, .unset, .unset, .unset, .unset, .unset, .unset, .unset, .unset, .unset] [(.int p2), (.int (1 : Int32))])) _
    refine X1.ldcInt hx hown (mvT hZ (hw _ (List.mem_of_getElem? (i := 6) rfl))) (g := (mkF m 31 #[.val (.long p0), .second, .val (.long p1), .second, .val (.int p2), .val (.int p3), .val (.int p4), .val (.long (281474976710655 : Int64)), .second, .val (.long v9_9), .second, .val (.int v11_16), .val (.int v12_26), .unset, .unset, .unset, .unset, .unset, .unset, .unset, .unset, .unset, .unset, .unset, .unset, .unset, .unset] [(.int p2), (.int (1 : Int32))])) rfl (hb hby at_31) _ ?_
    show Steps p.tables e below (T1.setTop (mkF m 33 #[.val (.long p0), .second, .val (.long p1), .second, .val (.int p2), .val (.int p3), .val (.int p4), .val (.long (281474976710655 : Int64)), .second, .val (.long v9_9), .second, .val (.int v11_16), .val (.int v12_26), .unset, .unset, .unset, .unset, .unset, .unset, .unset, .unset, .unset, .unset, .unset, .unset, .unset, .unset] [(.int (2147483647 : Int32)), (.int p2), (.int (1 : Int32))])) _
    refine XS.iand X1.here hx rfl (hb hby at_33) rfl ?_
    show Steps p.tables e below (T1.setTop (mkF m 34 #[.val (.long p0), .second, .val (.long p1), .second, .val (.int p2), .val (.int p3), .val (.int p4), .val (.long (281474976710655 : Int64)), .second, .val (.long v9_9), .second, .val (.int v11_16), .val (.int v12_26), .unset, .unset, .unset, .unset, .unset, .unset, .unset, .unset, .unset, .unset, .unset, .unset, .unset, .unset] [(.int (p2 &&& (2147483647 : Int32))), (.int (1 : Int32))])) _
    refine XS.iload X1.here hx rfl (hb hby at_34) rfl  ?_
    show Steps p.tables e below (T1.setTop (mkF m 36 #[.val (.long p0), .second, .val (.long p1), .second, .val (.int p2), .val (.int p3), .val (.int p4), .val (.long (281474976710655 : Int64)), .second, .val (.long v9_9), .second, .val (.int v11_16), .val (.int v12_26), .unset, .unset, .unset, .unset, .unset, .unset, .unset, .unset, .unset, .unset, .unset, .unset, .unset, .unset] [(.int v12_26), (.int (p2 &&& (2147483647 : Int32))), (.int (1 : Int32))])) _
    refine iremM X1 hx rfl (hb hby at_36) rfl (by rw [hv12_26]; exact own_mx _) ?_
    show Steps p.tables e below (T1.setTop (mkF m 37 #[.val (.long p0), .second, .val (.long p1), .second, .val (.int p2), .val (.int p3), .val (.int p4), .val (.long (281474976710655 : Int64)), .second, .val (.long v9_9), .second, .val (.int v11_16), .val (.int v12_26), .unset, .unset, .unset, .unset, .unset, .unset, .unset, .unset, .unset, .unset, .unset, .unset, .unset, .unset] [(.int ((p2 &&& (2147483647 : Int32)) % v12_26)), (.int (1 : Int32))])) _
    refine XS.iadd X1.here hx rfl (hb hby at_37) rfl ?_
    show Steps p.tables e below (T1.setTop (mkF m 38 #[.val (.long p0), .second, .val (.long p1), .second, .val (.int p2), .val (.int p3), .val (.int p4), .val (.long (281474976710655 : Int64)), .second, .val (.long v9_9), .second, .val (.int v11_16), .val (.int v12_26), .unset, .unset, .unset, .unset, .unset, .unset, .unset, .unset, .unset, .unset, .unset, .unset, .unset, .unset] [(.int ((1 : Int32) + ((p2 &&& (2147483647 : Int32)) % v12_26)))])) _
    refine XS.i2l X1.here hx rfl (hb hby at_38) rfl ?_
    show Steps p.tables e below (T1.setTop (mkF m 39 #[.val (.long p0), .second, .val (.long p1), .second, .val (.int p2), .val (.int p3), .val (.int p4), .val (.long (281474976710655 : Int64)), .second, .val (.long v9_9), .second, .val (.int v11_16), .val (.int v12_26), .unset, .unset, .unset, .unset, .unset, .unset, .unset, .unset, .unset, .unset, .unset, .unset, .unset, .unset] [(.long (((1 : Int32) + ((p2 &&& (2147483647 : Int32)) % v12_26)).toInt64))])) _
    refine XS.lstore X1.here hx rfl (hb hby at_39) rfl (l' := #[.val (.long p0), .second, .val (.long p1), .second, .val (.int p2), .val (.int p3), .val (.int p4), .val (.long (281474976710655 : Int64)), .second, .val (.long v9_9), .second, .val (.int v11_16), .val (.int v12_26), .val (.long v13_39), .second, .unset, .unset, .unset, .unset, .unset, .unset, .unset, .unset, .unset, .unset, .unset, .unset]) (by rw [hv13_39]; rfl) ?_
    show Steps p.tables e below (T1.setTop (mkF m 41 #[.val (.long p0), .second, .val (.long p1), .second, .val (.int p2), .val (.int p3), .val (.int p4), .val (.long (281474976710655 : Int64)), .second, .val (.long v9_9), .second, .val (.int v11_16), .val (.int v12_26), .val (.long v13_39), .second, .unset, .unset, .unset, .unset, .unset, .unset, .unset, .unset, .unset, .unset, .unset, .unset] [])) _
    refine XS.iload X1.here hx rfl (hb hby at_41) rfl  ?_
    show Steps p.tables e below (T1.setTop (mkF m 43 #[.val (.long p0), .second, .val (.long p1), .second, .val (.int p2), .val (.int p3), .val (.int p4), .val (.long (281474976710655 : Int64)), .second, .val (.long v9_9), .second, .val (.int v11_16), .val (.int v12_26), .val (.long v13_39), .second, .unset, .unset, .unset, .unset, .unset, .unset, .unset, .unset, .unset, .unset, .unset, .unset] [(.int p4)])) _
    refine XS.iconst X1.here hx rfl (hb hby at_43) ?_
    show Steps p.tables e below (T1.setTop (mkF m 44 #[.val (.long p0), .second, .val (.long p1), .second, .val (.int p2), .val (.int p3), .val (.int p4), .val (.long (281474976710655 : Int64)), .second, .val (.long v9_9), .second, .val (.int v11_16), .val (.int v12_26), .val (.long v13_39), .second, .unset, .unset, .unset, .unset, .unset, .unset, .unset, .unset, .unset, .unset, .unset, .unset] [(.int (3 : Int32)), (.int p4)])) _
    refine XS.iand X1.here hx rfl (hb hby at_44) rfl ?_
    show Steps p.tables e below (T1.setTop (mkF m 45 #[.val (.long p0), .second, .val (.long p1), .second, .val (.int p2), .val (.int p3), .val (.int p4), .val (.long (281474976710655 : Int64)), .second, .val (.long v9_9), .second, .val (.int v11_16), .val (.int v12_26), .val (.long v13_39), .second, .unset, .unset, .unset, .unset, .unset, .unset, .unset, .unset, .unset, .unset, .unset, .unset] [(.int (p4 &&& (3 : Int32)))])) _
    refine XS.istore X1.here hx rfl (hb hby at_45) rfl (l' := #[.val (.long p0), .second, .val (.long p1), .second, .val (.int p2), .val (.int p3), .val (.int p4), .val (.long (281474976710655 : Int64)), .second, .val (.long v9_9), .second, .val (.int v11_16), .val (.int v12_26), .val (.long v13_39), .second, .val (.int v15_45), .unset, .unset, .unset, .unset, .unset, .unset, .unset, .unset, .unset, .unset, .unset]) (by rw [hv15_45]; rfl) ?_
    show Steps p.tables e below (T1.setTop (mkF m 47 #[.val (.long p0), .second, .val (.long p1), .second, .val (.int p2), .val (.int p3), .val (.int p4), .val (.long (281474976710655 : Int64)), .second, .val (.long v9_9), .second, .val (.int v11_16), .val (.int v12_26), .val (.long v13_39), .second, .val (.int v15_45), .unset, .unset, .unset, .unset, .unset, .unset, .unset, .unset, .unset, .unset, .unset] [])) _
    refine XS.iload X1.here hx rfl (hb hby at_47) rfl  ?_
    exact k
  obtain ⟨ms0_57, hms0_57⟩ : ∃ z : Int32, z = (if v15_45 = (0 : Int32) then (1 : Int32) else (0 : Int32)) := ⟨_, rfl⟩
  have pre4 : ∀ t, Steps p.tables e below (T1.setTop (mkF m 57 #[.val (.long p0), .second, .val (.long p1), .second, .val (.int p2), .val (.int p3), .val (.int p4), .val (.long (281474976710655 : Int64)), .second, .val (.long v9_9), .second, .val (.int v11_16), .val (.int v12_26), .val (.long v13_39), .second, .val (.int v15_45), .unset, .unset, .unset, .unset, .unset, .unset, .unset, .unset, .unset, .unset, .unset] [(.int ms0_57)])) t → Steps p.tables e below (s₁.setTop (entryFrame m #[(.long p0), (.long p1), (.int p2), (.int p3), (.int p4)] maxLocals)) t := by
    intro t k
    refine pre3 t ?_
    by_cases hc49 : v15_45 = (0 : Int32)
    · show Steps p.tables e below (T1.setTop (mkF m 49 #[.val (.long p0), .second, .val (.long p1), .second, .val (.int p2), .val (.int p3), .val (.int p4), .val (.long (281474976710655 : Int64)), .second, .val (.long v9_9), .second, .val (.int v11_16), .val (.int v12_26), .val (.long v13_39), .second, .val (.int v15_45), .unset, .unset, .unset, .unset, .unset, .unset, .unset, .unset, .unset, .unset, .unset] [(.int v15_45)])) _
      refine XS.ifNo X1.here hx rfl (hb hby at_49) rfl ((if0 _ _).trans (teq hc49).2) ?_
      show Steps p.tables e below (T1.setTop (mkF m 52 #[.val (.long p0), .second, .val (.long p1), .second, .val (.int p2), .val (.int p3), .val (.int p4), .val (.long (281474976710655 : Int64)), .second, .val (.long v9_9), .second, .val (.int v11_16), .val (.int v12_26), .val (.long v13_39), .second, .val (.int v15_45), .unset, .unset, .unset, .unset, .unset, .unset, .unset, .unset, .unset, .unset, .unset] [])) _
      refine XS.iconst X1.here hx rfl (hb hby at_52) ?_
      show Steps p.tables e below (T1.setTop (mkF m 53 #[.val (.long p0), .second, .val (.long p1), .second, .val (.int p2), .val (.int p3), .val (.int p4), .val (.long (281474976710655 : Int64)), .second, .val (.long v9_9), .second, .val (.int v11_16), .val (.int v12_26), .val (.long v13_39), .second, .val (.int v15_45), .unset, .unset, .unset, .unset, .unset, .unset, .unset, .unset, .unset, .unset, .unset] [(.int (1 : Int32))])) _
      refine XS.goto X1.here hx rfl (pc0 := 53) (pc' := 57) rfl (hb hby at_53) (by decide) (by decide) ?_
      have qms0_57 : ms0_57 = (1 : Int32) := by rw [hms0_57, if_pos hc49]
      rw [qms0_57] at k
      exact k
    · show Steps p.tables e below (T1.setTop (mkF m 49 #[.val (.long p0), .second, .val (.long p1), .second, .val (.int p2), .val (.int p3), .val (.int p4), .val (.long (281474976710655 : Int64)), .second, .val (.long v9_9), .second, .val (.int v11_16), .val (.int v12_26), .val (.long v13_39), .second, .val (.int v15_45), .unset, .unset, .unset, .unset, .unset, .unset, .unset, .unset, .unset, .unset, .unset] [(.int v15_45)])) _
      refine XS.ifYes X1.here hx rfl (pc0 := 49) (pc' := 56) rfl (hb hby at_49) rfl ((if0 _ _).trans (feq hc49).2) (by decide) (by decide) ?_
      show Steps p.tables e below (T1.setTop (mkF m 56 #[.val (.long p0), .second, .val (.long p1), .second, .val (.int p2), .val (.int p3), .val (.int p4), .val (.long (281474976710655 : Int64)), .second, .val (.long v9_9), .second, .val (.int v11_16), .val (.int v12_26), .val (.long v13_39), .second, .val (.int v15_45), .unset, .unset, .unset, .unset, .unset, .unset, .unset, .unset, .unset, .unset, .unset] [])) _
      refine XS.iconst X1.here hx rfl (hb hby at_56) ?_
      have qms0_57 : ms0_57 = (0 : Int32) := by rw [hms0_57, if_neg hc49]
      rw [qms0_57] at k
      exact k
  have pre5 : ∀ t, Steps p.tables e below (T1.setTop (mkF m 61 #[.val (.long p0), .second, .val (.long p1), .second, .val (.int p2), .val (.int p3), .val (.int p4), .val (.long (281474976710655 : Int64)), .second, .val (.long v9_9), .second, .val (.int v11_16), .val (.int v12_26), .val (.long v13_39), .second, .val (.int v15_45), .val (.int ms0_57), .unset, .unset, .unset, .unset, .unset, .unset, .unset, .unset, .unset, .unset] [(.int ms0_57)])) t → Steps p.tables e below (s₁.setTop (entryFrame m #[(.long p0), (.long p1), (.int p2), (.int p3), (.int p4)] maxLocals)) t := by
    intro t k
    refine pre4 t ?_
    show Steps p.tables e below (T1.setTop (mkF m 57 #[.val (.long p0), .second, .val (.long p1), .second, .val (.int p2), .val (.int p3), .val (.int p4), .val (.long (281474976710655 : Int64)), .second, .val (.long v9_9), .second, .val (.int v11_16), .val (.int v12_26), .val (.long v13_39), .second, .val (.int v15_45), .unset, .unset, .unset, .unset, .unset, .unset, .unset, .unset, .unset, .unset, .unset] [(.int ms0_57)])) _
    refine XS.istore X1.here hx rfl (hb hby at_57) rfl (l' := #[.val (.long p0), .second, .val (.long p1), .second, .val (.int p2), .val (.int p3), .val (.int p4), .val (.long (281474976710655 : Int64)), .second, .val (.long v9_9), .second, .val (.int v11_16), .val (.int v12_26), .val (.long v13_39), .second, .val (.int v15_45), .val (.int ms0_57), .unset, .unset, .unset, .unset, .unset, .unset, .unset, .unset, .unset, .unset]) rfl ?_
    show Steps p.tables e below (T1.setTop (mkF m 59 #[.val (.long p0), .second, .val (.long p1), .second, .val (.int p2), .val (.int p3), .val (.int p4), .val (.long (281474976710655 : Int64)), .second, .val (.long v9_9), .second, .val (.int v11_16), .val (.int v12_26), .val (.long v13_39), .second, .val (.int v15_45), .val (.int ms0_57), .unset, .unset, .unset, .unset, .unset, .unset, .unset, .unset, .unset, .unset] [])) _
    refine XS.iload X1.here hx rfl (hb hby at_59) rfl  ?_
    exact k
  obtain ⟨ms0_76, hms0_76⟩ : ∃ z : Int64, z = (if ms0_57 = (0 : Int32) then ((v9_9 <<< ((16 : Int32) &&& 0x3f).toInt64) ||| v13_39) else (0 : Int64)) := ⟨_, rfl⟩
  have pre6 : ∀ t, Steps p.tables e below (T1.setTop (mkF m 76 #[.val (.long p0), .second, .val (.long p1), .second, .val (.int p2), .val (.int p3), .val (.int p4), .val (.long (281474976710655 : Int64)), .second, .val (.long v9_9), .second, .val (.int v11_16), .val (.int v12_26), .val (.long v13_39), .second, .val (.int v15_45), .val (.int ms0_57), .unset, .unset, .unset, .unset, .unset, .unset, .unset, .unset, .unset, .unset] [(.long ms0_76)])) t → Steps p.tables e below (s₁.setTop (entryFrame m #[(.long p0), (.long p1), (.int p2), (.int p3), (.int p4)] maxLocals)) t := by
    intro t k
    refine pre5 t ?_
    by_cases hc61 : ms0_57 = (0 : Int32)
    · show Steps p.tables e below (T1.setTop (mkF m 61 #[.val (.long p0), .second, .val (.long p1), .second, .val (.int p2), .val (.int p3), .val (.int p4), .val (.long (281474976710655 : Int64)), .second, .val (.long v9_9), .second, .val (.int v11_16), .val (.int v12_26), .val (.long v13_39), .second, .val (.int v15_45), .val (.int ms0_57), .unset, .unset, .unset, .unset, .unset, .unset, .unset, .unset, .unset, .unset] [(.int ms0_57)])) _
      refine XS.ifYes X1.here hx rfl (pc0 := 61) (pc' := 68) rfl (hb hby at_61) rfl ((if0 _ _).trans (teq hc61).1) (by decide) (by decide) ?_
      show Steps p.tables e below (T1.setTop (mkF m 68 #[.val (.long p0), .second, .val (.long p1), .second, .val (.int p2), .val (.int p3), .val (.int p4), .val (.long (281474976710655 : Int64)), .second, .val (.long v9_9), .second, .val (.int v11_16), .val (.int v12_26), .val (.long v13_39), .second, .val (.int v15_45), .val (.int ms0_57), .unset, .unset, .unset, .unset, .unset, .unset, .unset, .unset, .unset, .unset] [])) _
      refine XS.lload X1.here hx rfl (hb hby at_68) rfl  ?_
      show Steps p.tables e below (T1.setTop (mkF m 70 #[.val (.long p0), .second, .val (.long p1), .second, .val (.int p2), .val (.int p3), .val (.int p4), .val (.long (281474976710655 : Int64)), .second, .val (.long v9_9), .second, .val (.int v11_16), .val (.int v12_26), .val (.long v13_39), .second, .val (.int v15_45), .val (.int ms0_57), .unset, .unset, .unset, .unset, .unset, .unset, .unset, .unset, .unset, .unset] [(.long v9_9)])) _
      refine XS.bipush X1.here hx rfl (hb hby at_70) ?_
      show Steps p.tables e below (T1.setTop (mkF m 72 #[.val (.long p0), .second, .val (.long p1), .second, .val (.int p2), .val (.int p3), .val (.int p4), .val (.long (281474976710655 : Int64)), .second, .val (.long v9_9), .second, .val (.int v11_16), .val (.int v12_26), .val (.long v13_39), .second, .val (.int v15_45), .val (.int ms0_57), .unset, .unset, .unset, .unset, .unset, .unset, .unset, .unset, .unset, .unset] [(.int (16 : Int32)), (.long v9_9)])) _
      refine XS.lshl X1.here hx rfl (hb hby at_72) rfl ?_
      show Steps p.tables e below (T1.setTop (mkF m 73 #[.val (.long p0), .second, .val (.long p1), .second, .val (.int p2), .val (.int p3), .val (.int p4), .val (.long (281474976710655 : Int64)), .second, .val (.long v9_9), .second, .val (.int v11_16), .val (.int v12_26), .val (.long v13_39), .second, .val (.int v15_45), .val (.int ms0_57), .unset, .unset, .unset, .unset, .unset, .unset, .unset, .unset, .unset, .unset] [(.long (v9_9 <<< ((16 : Int32) &&& 0x3f).toInt64))])) _
      refine XS.lload X1.here hx rfl (hb hby at_73) rfl  ?_
      show Steps p.tables e below (T1.setTop (mkF m 75 #[.val (.long p0), .second, .val (.long p1), .second, .val (.int p2), .val (.int p3), .val (.int p4), .val (.long (281474976710655 : Int64)), .second, .val (.long v9_9), .second, .val (.int v11_16), .val (.int v12_26), .val (.long v13_39), .second, .val (.int v15_45), .val (.int ms0_57), .unset, .unset, .unset, .unset, .unset, .unset, .unset, .unset, .unset, .unset] [(.long v13_39), (.long (v9_9 <<< ((16 : Int32) &&& 0x3f).toInt64))])) _
      refine XS.lor X1.here hx rfl (hb hby at_75) rfl ?_
      have qms0_76 : ms0_76 = ((v9_9 <<< ((16 : Int32) &&& 0x3f).toInt64) ||| v13_39) := by rw [hms0_76, if_pos hc61]
      rw [qms0_76] at k
      exact k
    · show Steps p.tables e below (T1.setTop (mkF m 61 #[.val (.long p0), .second, .val (.long p1), .second, .val (.int p2), .val (.int p3), .val (.int p4), .val (.long (281474976710655 : Int64)), .second, .val (.long v9_9), .second, .val (.int v11_16), .val (.int v12_26), .val (.long v13_39), .second, .val (.int v15_45), .val (.int ms0_57), .unset, .unset, .unset, .unset, .unset, .unset, .unset, .unset, .unset, .unset] [(.int ms0_57)])) _
      refine XS.ifNo X1.here hx rfl (hb hby at_61) rfl ((if0 _ _).trans (feq hc61).1) ?_
      show Steps p.tables e below (T1.setTop (mkF m 64 #[.val (.long p0), .second, .val (.long p1), .second, .val (.int p2), .val (.int p3), .val (.int p4), .val (.long (281474976710655 : Int64)), .second, .val (.long v9_9), .second, .val (.int v11_16), .val (.int v12_26), .val (.long v13_39), .second, .val (.int v15_45), .val (.int ms0_57), .unset, .unset, .unset, .unset, .unset, .unset, .unset, .unset, .unset, .unset] [])) _
      refine XS.lconst X1.here hx rfl (hb hby at_64) ?_
      show Steps p.tables e below (T1.setTop (mkF m 65 #[.val (.long p0), .second, .val (.long p1), .second, .val (.int p2), .val (.int p3), .val (.int p4), .val (.long (281474976710655 : Int64)), .second, .val (.long v9_9), .second, .val (.int v11_16), .val (.int v12_26), .val (.long v13_39), .second, .val (.int v15_45), .val (.int ms0_57), .unset, .unset, .unset, .unset, .unset, .unset, .unset, .unset, .unset, .unset] [(.long (0 : Int64))])) _
      refine XS.goto X1.here hx rfl (pc0 := 65) (pc' := 76) rfl (hb hby at_65) (by decide) (by decide) ?_
      have qms0_76 : ms0_76 = (0 : Int64) := by rw [hms0_76, if_neg hc61]
      rw [qms0_76] at k
      exact k
  have pre7 : ∀ t, Steps p.tables e below (T1.setTop (mkF m 80 #[.val (.long p0), .second, .val (.long p1), .second, .val (.int p2), .val (.int p3), .val (.int p4), .val (.long (281474976710655 : Int64)), .second, .val (.long v9_9), .second, .val (.int v11_16), .val (.int v12_26), .val (.long v13_39), .second, .val (.int v15_45), .val (.int ms0_57), .val (.long ms0_76), .second, .unset, .unset, .unset, .unset, .unset, .unset, .unset, .unset] [(.int ms0_57)])) t → Steps p.tables e below (s₁.setTop (entryFrame m #[(.long p0), (.long p1), (.int p2), (.int p3), (.int p4)] maxLocals)) t := by
    intro t k
    refine pre6 t ?_
    show Steps p.tables e below (T1.setTop (mkF m 76 #[.val (.long p0), .second, .val (.long p1), .second, .val (.int p2), .val (.int p3), .val (.int p4), .val (.long (281474976710655 : Int64)), .second, .val (.long v9_9), .second, .val (.int v11_16), .val (.int v12_26), .val (.long v13_39), .second, .val (.int v15_45), .val (.int ms0_57), .unset, .unset, .unset, .unset, .unset, .unset, .unset, .unset, .unset, .unset] [(.long ms0_76)])) _
    refine XS.lstore X1.here hx rfl (hb hby at_76) rfl (l' := #[.val (.long p0), .second, .val (.long p1), .second, .val (.int p2), .val (.int p3), .val (.int p4), .val (.long (281474976710655 : Int64)), .second, .val (.long v9_9), .second, .val (.int v11_16), .val (.int v12_26), .val (.long v13_39), .second, .val (.int v15_45), .val (.int ms0_57), .val (.long ms0_76), .second, .unset, .unset, .unset, .unset, .unset, .unset, .unset, .unset]) rfl ?_
    show Steps p.tables e below (T1.setTop (mkF m 78 #[.val (.long p0), .second, .val (.long p1), .second, .val (.int p2), .val (.int p3), .val (.int p4), .val (.long (281474976710655 : Int64)), .second, .val (.long v9_9), .second, .val (.int v11_16), .val (.int v12_26), .val (.long v13_39), .second, .val (.int v15_45), .val (.int ms0_57), .val (.long ms0_76), .second, .unset, .unset, .unset, .unset, .unset, .unset, .unset, .unset] [])) _
    refine XS.iload X1.here hx rfl (hb hby at_78) rfl  ?_
    exact k
  obtain ⟨ms0_107, hms0_107⟩ : ∃ z : Int64, z = (if ms0_57 = (0 : Int32) then (if v15_45 = (1 : Int32) then (p1 &&& (281474976710655 : Int64)) else ((v9_9 + (p1 % (120001 : Int64))) &&& (281474976710655 : Int64))) else (p1 &&& (281474976710655 : Int64))) := ⟨_, rfl⟩
  have pre8 : ∀ t, Steps p.tables e below (T1.setTop (mkF m 107 #[.val (.long p0), .second, .val (.long p1), .second, .val (.int p2), .val (.int p3), .val (.int p4), .val (.long (281474976710655 : Int64)), .second, .val (.long v9_9), .second, .val (.int v11_16), .val (.int v12_26), .val (.long v13_39), .second, .val (.int v15_45), .val (.int ms0_57), .val (.long ms0_76), .second, .unset, .unset, .unset, .unset, .unset, .unset, .unset, .unset] [(.long ms0_107)])) t → Steps p.tables e below (s₁.setTop (entryFrame m #[(.long p0), (.long p1), (.int p2), (.int p3), (.int p4)] maxLocals)) t := by
    intro t k
    refine pre7 t ?_
    by_cases hc80 : ms0_57 = (0 : Int32)
    · show Steps p.tables e below (T1.setTop (mkF m 80 #[.val (.long p0), .second, .val (.long p1), .second, .val (.int p2), .val (.int p3), .val (.int p4), .val (.long (281474976710655 : Int64)), .second, .val (.long v9_9), .second, .val (.int v11_16), .val (.int v12_26), .val (.long v13_39), .second, .val (.int v15_45), .val (.int ms0_57), .val (.long ms0_76), .second, .unset, .unset, .unset, .unset, .unset, .unset, .unset, .unset] [(.int ms0_57)])) _
      refine XS.ifNo X1.here hx rfl (hb hby at_80) rfl ((if0 _ _).trans (teq hc80).2) ?_
      show Steps p.tables e below (T1.setTop (mkF m 83 #[.val (.long p0), .second, .val (.long p1), .second, .val (.int p2), .val (.int p3), .val (.int p4), .val (.long (281474976710655 : Int64)), .second, .val (.long v9_9), .second, .val (.int v11_16), .val (.int v12_26), .val (.long v13_39), .second, .val (.int v15_45), .val (.int ms0_57), .val (.long ms0_76), .second, .unset, .unset, .unset, .unset, .unset, .unset, .unset, .unset] [])) _
      refine XS.iload X1.here hx rfl (hb hby at_83) rfl  ?_
      show Steps p.tables e below (T1.setTop (mkF m 85 #[.val (.long p0), .second, .val (.long p1), .second, .val (.int p2), .val (.int p3), .val (.int p4), .val (.long (281474976710655 : Int64)), .second, .val (.long v9_9), .second, .val (.int v11_16), .val (.int v12_26), .val (.long v13_39), .second, .val (.int v15_45), .val (.int ms0_57), .val (.long ms0_76), .second, .unset, .unset, .unset, .unset, .unset, .unset, .unset, .unset] [(.int v15_45)])) _
      refine XS.iconst X1.here hx rfl (hb hby at_85) ?_
      by_cases hc86 : v15_45 = (1 : Int32)
      · show Steps p.tables e below (T1.setTop (mkF m 86 #[.val (.long p0), .second, .val (.long p1), .second, .val (.int p2), .val (.int p3), .val (.int p4), .val (.long (281474976710655 : Int64)), .second, .val (.long v9_9), .second, .val (.int v11_16), .val (.int v12_26), .val (.long v13_39), .second, .val (.int v15_45), .val (.int ms0_57), .val (.long ms0_76), .second, .unset, .unset, .unset, .unset, .unset, .unset, .unset, .unset] [(.int (1 : Int32)), (.int v15_45)])) _
        refine XS.icmpNo X1.here hx rfl (hb hby at_86) rfl (teq hc86).2 ?_
        show Steps p.tables e below (T1.setTop (mkF m 89 #[.val (.long p0), .second, .val (.long p1), .second, .val (.int p2), .val (.int p3), .val (.int p4), .val (.long (281474976710655 : Int64)), .second, .val (.long v9_9), .second, .val (.int v11_16), .val (.int v12_26), .val (.long v13_39), .second, .val (.int v15_45), .val (.int ms0_57), .val (.long ms0_76), .second, .unset, .unset, .unset, .unset, .unset, .unset, .unset, .unset] [])) _
        refine XS.lloadN X1.here hx rfl (hb hby at_89) rfl  ?_
        show Steps p.tables e below (T1.setTop (mkF m 90 #[.val (.long p0), .second, .val (.long p1), .second, .val (.int p2), .val (.int p3), .val (.int p4), .val (.long (281474976710655 : Int64)), .second, .val (.long v9_9), .second, .val (.int v11_16), .val (.int v12_26), .val (.long v13_39), .second, .val (.int v15_45), .val (.int ms0_57), .val (.long ms0_76), .second, .unset, .unset, .unset, .unset, .unset, .unset, .unset, .unset] [(.long p1)])) _
        refine XS.lload X1.here hx rfl (hb hby at_90) rfl  ?_
        show Steps p.tables e below (T1.setTop (mkF m 92 #[.val (.long p0), .second, .val (.long p1), .second, .val (.int p2), .val (.int p3), .val (.int p4), .val (.long (281474976710655 : Int64)), .second, .val (.long v9_9), .second, .val (.int v11_16), .val (.int v12_26), .val (.long v13_39), .second, .val (.int v15_45), .val (.int ms0_57), .val (.long ms0_76), .second, .unset, .unset, .unset, .unset, .unset, .unset, .unset, .unset] [(.long (281474976710655 : Int64)), (.long p1)])) _
        refine XS.land X1.here hx rfl (hb hby at_92) rfl ?_
        show Steps p.tables e below (T1.setTop (mkF m 93 #[.val (.long p0), .second, .val (.long p1), .second, .val (.int p2), .val (.int p3), .val (.int p4), .val (.long (281474976710655 : Int64)), .second, .val (.long v9_9), .second, .val (.int v11_16), .val (.int v12_26), .val (.long v13_39), .second, .val (.int v15_45), .val (.int ms0_57), .val (.long ms0_76), .second, .unset, .unset, .unset, .unset, .unset, .unset, .unset, .unset] [(.long (p1 &&& (281474976710655 : Int64)))])) _
        refine XS.goto X1.here hx rfl (pc0 := 93) (pc' := 107) rfl (hb hby at_93) (by decide) (by decide) ?_
        have qms0_107 : ms0_107 = (p1 &&& (281474976710655 : Int64)) := by rw [hms0_107, if_pos hc80, if_pos hc86]
        rw [qms0_107] at k
        exact k
      · show Steps p.tables e below (T1.setTop (mkF m 86 #[.val (.long p0), .second, .val (.long p1), .second, .val (.int p2), .val (.int p3), .val (.int p4), .val (.long (281474976710655 : Int64)), .second, .val (.long v9_9), .second, .val (.int v11_16), .val (.int v12_26), .val (.long v13_39), .second, .val (.int v15_45), .val (.int ms0_57), .val (.long ms0_76), .second, .unset, .unset, .unset, .unset, .unset, .unset, .unset, .unset] [(.int (1 : Int32)), (.int v15_45)])) _
        refine XS.icmpYes X1.here hx rfl (pc0 := 86) (pc' := 96) rfl (hb hby at_86) rfl (feq hc86).2 (by decide) (by decide) ?_
        show Steps p.tables e below (T1.setTop (mkF m 96 #[.val (.long p0), .second, .val (.long p1), .second, .val (.int p2), .val (.int p3), .val (.int p4), .val (.long (281474976710655 : Int64)), .second, .val (.long v9_9), .second, .val (.int v11_16), .val (.int v12_26), .val (.long v13_39), .second, .val (.int v15_45), .val (.int ms0_57), .val (.long ms0_76), .second, .unset, .unset, .unset, .unset, .unset, .unset, .unset, .unset] [])) _
        refine XS.lload X1.here hx rfl (hb hby at_96) rfl  ?_
        show Steps p.tables e below (T1.setTop (mkF m 98 #[.val (.long p0), .second, .val (.long p1), .second, .val (.int p2), .val (.int p3), .val (.int p4), .val (.long (281474976710655 : Int64)), .second, .val (.long v9_9), .second, .val (.int v11_16), .val (.int v12_26), .val (.long v13_39), .second, .val (.int v15_45), .val (.int ms0_57), .val (.long ms0_76), .second, .unset, .unset, .unset, .unset, .unset, .unset, .unset, .unset] [(.long v9_9)])) _
        refine XS.lloadN X1.here hx rfl (hb hby at_98) rfl  ?_
        show Steps p.tables e below (T1.setTop (mkF m 99 #[.val (.long p0), .second, .val (.long p1), .second, .val (.int p2), .val (.int p3), .val (.int p4), .val (.long (281474976710655 : Int64)), .second, .val (.long v9_9), .second, .val (.int v11_16), .val (.int v12_26), .val (.long v13_39), .second, .val (.int v15_45), .val (.int ms0_57), .val (.long ms0_76), .second, .unset, .unset, .unset, .unset, .unset, .unset, .unset, .unset] [(.long p1), (.long v9_9)])) _
        refine X1.ldc2Long hx hown (mvT hZ (hw _ (List.mem_of_getElem? (i := 12) rfl))) (g := (mkF m 99 #[.val (.long p0), .second, .val (.long p1), .second, .val (.int p2), .val (.int p3), .val (.int p4), .val (.long (281474976710655 : Int64)), .second, .val (.long v9_9), .second, .val (.int v11_16), .val (.int v12_26), .val (.long v13_39), .second, .val (.int v15_45), .val (.int ms0_57), .val (.long ms0_76), .second, .unset, .unset, .unset, .unset, .unset, .unset, .unset, .unset] [(.long p1), (.long v9_9)])) rfl (hb hby at_99) _ ?_
        show Steps p.tables e below (T1.setTop (mkF m 102 #[.val (.long p0), .second, .val (.long p1), .second, .val (.int p2), .val (.int p3), .val (.int p4), .val (.long (281474976710655 : Int64)), .second, .val (.long v9_9), .second, .val (.int v11_16), .val (.int v12_26), .val (.long v13_39), .second, .val (.int v15_45), .val (.int ms0_57), .val (.long ms0_76), .second, .unset, .unset, .unset, .unset, .unset, .unset, .unset, .unset] [(.long (120001 : Int64)), (.long p1), (.long v9_9)])) _
        refine own_lremM X1 hx rfl (hb hby at_102) rfl (by decide) ?_
        show Steps p.tables e below (T1.setTop (mkF m 103 #[.val (.long p0), .second, .val (.long p1), .second, .val (.int p2), .val (.int p3), .val (.int p4), .val (.long (281474976710655 : Int64)), .second, .val (.long v9_9), .second, .val (.int v11_16), .val (.int v12_26), .val (.long v13_39), .second, .val (.int v15_45), .val (.int ms0_57), .val (.long ms0_76), .second, .unset, .unset, .unset, .unset, .unset, .unset, .unset, .unset] [(.long (p1 % (120001 : Int64))), (.long v9_9)])) _
        refine XS.ladd X1.here hx rfl (hb hby at_103) rfl ?_
        show Steps p.tables e below (T1.setTop (mkF m 104 #[.val (.long p0), .second, .val (.long p1), .second, .val (.int p2), .val (.int p3), .val (.int p4), .val (.long (281474976710655 : Int64)), .second, .val (.long v9_9), .second, .val (.int v11_16), .val (.int v12_26), .val (.long v13_39), .second, .val (.int v15_45), .val (.int ms0_57), .val (.long ms0_76), .second, .unset, .unset, .unset, .unset, .unset, .unset, .unset, .unset] [(.long (v9_9 + (p1 % (120001 : Int64))))])) _
        refine XS.lload X1.here hx rfl (hb hby at_104) rfl  ?_
        show Steps p.tables e below (T1.setTop (mkF m 106 #[.val (.long p0), .second, .val (.long p1), .second, .val (.int p2), .val (.int p3), .val (.int p4), .val (.long (281474976710655 : Int64)), .second, .val (.long v9_9), .second, .val (.int v11_16), .val (.int v12_26), .val (.long v13_39), .second, .val (.int v15_45), .val (.int ms0_57), .val (.long ms0_76), .second, .unset, .unset, .unset, .unset, .unset, .unset, .unset, .unset] [(.long (281474976710655 : Int64)), (.long (v9_9 + (p1 % (120001 : Int64))))])) _
        refine XS.land X1.here hx rfl (hb hby at_106) rfl ?_
        have qms0_107 : ms0_107 = ((v9_9 + (p1 % (120001 : Int64))) &&& (281474976710655 : Int64)) := by rw [hms0_107, if_pos hc80, if_neg hc86]
        rw [qms0_107] at k
        exact k
    · show Steps p.tables e below (T1.setTop (mkF m 80 #[.val (.long p0), .second, .val (.long p1), .second, .val (.int p2), .val (.int p3), .val (.int p4), .val (.long (281474976710655 : Int64)), .second, .val (.long v9_9), .second, .val (.int v11_16), .val (.int v12_26), .val (.long v13_39), .second, .val (.int v15_45), .val (.int ms0_57), .val (.long ms0_76), .second, .unset, .unset, .unset, .unset, .unset, .unset, .unset, .unset] [(.int ms0_57)])) _
      refine XS.ifYes X1.here hx rfl (pc0 := 80) (pc' := 89) rfl (hb hby at_80) rfl ((if0 _ _).trans (feq hc80).2) (by decide) (by decide) ?_
      show Steps p.tables e below (T1.setTop (mkF m 89 #[.val (.long p0), .second, .val (.long p1), .second, .val (.int p2), .val (.int p3), .val (.int p4), .val (.long (281474976710655 : Int64)), .second, .val (.long v9_9), .second, .val (.int v11_16), .val (.int v12_26), .val (.long v13_39), .second, .val (.int v15_45), .val (.int ms0_57), .val (.long ms0_76), .second, .unset, .unset, .unset, .unset, .unset, .unset, .unset, .unset] [])) _
      refine XS.lloadN X1.here hx rfl (hb hby at_89) rfl  ?_
      show Steps p.tables e below (T1.setTop (mkF m 90 #[.val (.long p0), .second, .val (.long p1), .second, .val (.int p2), .val (.int p3), .val (.int p4), .val (.long (281474976710655 : Int64)), .second, .val (.long v9_9), .second, .val (.int v11_16), .val (.int v12_26), .val (.long v13_39), .second, .val (.int v15_45), .val (.int ms0_57), .val (.long ms0_76), .second, .unset, .unset, .unset, .unset, .unset, .unset, .unset, .unset] [(.long p1)])) _
      refine XS.lload X1.here hx rfl (hb hby at_90) rfl  ?_
      show Steps p.tables e below (T1.setTop (mkF m 92 #[.val (.long p0), .second, .val (.long p1), .second, .val (.int p2), .val (.int p3), .val (.int p4), .val (.long (281474976710655 : Int64)), .second, .val (.long v9_9), .second, .val (.int v11_16), .val (.int v12_26), .val (.long v13_39), .second, .val (.int v15_45), .val (.int ms0_57), .val (.long ms0_76), .second, .unset, .unset, .unset, .unset, .unset, .unset, .unset, .unset] [(.long (281474976710655 : Int64)), (.long p1)])) _
      refine XS.land X1.here hx rfl (hb hby at_92) rfl ?_
      show Steps p.tables e below (T1.setTop (mkF m 93 #[.val (.long p0), .second, .val (.long p1), .second, .val (.int p2), .val (.int p3), .val (.int p4), .val (.long (281474976710655 : Int64)), .second, .val (.long v9_9), .second, .val (.int v11_16), .val (.int v12_26), .val (.long v13_39), .second, .val (.int v15_45), .val (.int ms0_57), .val (.long ms0_76), .second, .unset, .unset, .unset, .unset, .unset, .unset, .unset, .unset] [(.long (p1 &&& (281474976710655 : Int64)))])) _
      refine XS.goto X1.here hx rfl (pc0 := 93) (pc' := 107) rfl (hb hby at_93) (by decide) (by decide) ?_
      have qms0_107 : ms0_107 = (p1 &&& (281474976710655 : Int64)) := by rw [hms0_107, if_neg hc80]
      rw [qms0_107] at k
      exact k
  have pre10 : ∀ t, Steps p.tables e below (T1.setTop (mkF m 115 #[.val (.long p0), .second, .val (.long p1), .second, .val (.int p2), .val (.int p3), .val (.int p4), .val (.long (281474976710655 : Int64)), .second, .val (.long v9_9), .second, .val (.int v11_16), .val (.int v12_26), .val (.long v13_39), .second, .val (.int v15_45), .val (.int ms0_57), .val (.long ms0_76), .second, .val (.long ms0_107), .second, .unset, .unset, .unset, .unset, .unset, .unset] [(.int v11_16), (.long ms0_107), (.long ms0_76)])) t → Steps p.tables e below (s₁.setTop (entryFrame m #[(.long p0), (.long p1), (.int p2), (.int p3), (.int p4)] maxLocals)) t := by
    intro t k
    refine pre8 t ?_
    show Steps p.tables e below (T1.setTop (mkF m 107 #[.val (.long p0), .second, .val (.long p1), .second, .val (.int p2), .val (.int p3), .val (.int p4), .val (.long (281474976710655 : Int64)), .second, .val (.long v9_9), .second, .val (.int v11_16), .val (.int v12_26), .val (.long v13_39), .second, .val (.int v15_45), .val (.int ms0_57), .val (.long ms0_76), .second, .unset, .unset, .unset, .unset, .unset, .unset, .unset, .unset] [(.long ms0_107)])) _
    refine XS.lstore X1.here hx rfl (hb hby at_107) rfl (l' := #[.val (.long p0), .second, .val (.long p1), .second, .val (.int p2), .val (.int p3), .val (.int p4), .val (.long (281474976710655 : Int64)), .second, .val (.long v9_9), .second, .val (.int v11_16), .val (.int v12_26), .val (.long v13_39), .second, .val (.int v15_45), .val (.int ms0_57), .val (.long ms0_76), .second, .val (.long ms0_107), .second, .unset, .unset, .unset, .unset, .unset, .unset]) rfl ?_
    show Steps p.tables e below (T1.setTop (mkF m 109 #[.val (.long p0), .second, .val (.long p1), .second, .val (.int p2), .val (.int p3), .val (.int p4), .val (.long (281474976710655 : Int64)), .second, .val (.long v9_9), .second, .val (.int v11_16), .val (.int v12_26), .val (.long v13_39), .second, .val (.int v15_45), .val (.int ms0_57), .val (.long ms0_76), .second, .val (.long ms0_107), .second, .unset, .unset, .unset, .unset, .unset, .unset] [])) _
    refine XS.lload X1.here hx rfl (hb hby at_109) rfl  ?_
    show Steps p.tables e below (T1.setTop (mkF m 111 #[.val (.long p0), .second, .val (.long p1), .second, .val (.int p2), .val (.int p3), .val (.int p4), .val (.long (281474976710655 : Int64)), .second, .val (.long v9_9), .second, .val (.int v11_16), .val (.int v12_26), .val (.long v13_39), .second, .val (.int v15_45), .val (.int ms0_57), .val (.long ms0_76), .second, .val (.long ms0_107), .second, .unset, .unset, .unset, .unset, .unset, .unset] [(.long ms0_76)])) _
    refine XS.lload X1.here hx rfl (hb hby at_111) rfl  ?_
    show Steps p.tables e below (T1.setTop (mkF m 113 #[.val (.long p0), .second, .val (.long p1), .second, .val (.int p2), .val (.int p3), .val (.int p4), .val (.long (281474976710655 : Int64)), .second, .val (.long v9_9), .second, .val (.int v11_16), .val (.int v12_26), .val (.long v13_39), .second, .val (.int v15_45), .val (.int ms0_57), .val (.long ms0_76), .second, .val (.long ms0_107), .second, .unset, .unset, .unset, .unset, .unset, .unset] [(.long ms0_107), (.long ms0_76)])) _
    refine XS.iload X1.here hx rfl (hb hby at_113) rfl  ?_
    exact k
  obtain ⟨_, _, ⟨T9, L9, k9, n9⟩, -, X9, ⟨Lc9, hQ9, l9, y9, z9⟩, st9⟩ := Jvm.LawKit.callS X1 hx (y := (⟨"com/example/tern/tern/gateway/Minute", "withCall", "(JJI)J"⟩ : MethodName)) hown (mvT hZ (hw _ (List.mem_of_getElem? (i := 7) rfl))) (mvT hZ (hw _ (List.mem_of_getElem? (i := 8) rfl))) (mvT hZ (hw _ (List.mem_of_getElem? (i := 9) rfl))) (mvT hZ (hw _ (List.mem_of_getElem? (i := 10) rfl))) (by decide) (backOf (W := 0) (rm_2 l Z a0 hw [] ms0_76 ms0_107 v11_16 h0 n0 Z0 ) hZ (hw _ (List.mem_of_getElem? (i := 10) rfl)) (hw _ (List.mem_of_getElem? (i := 9) rfl)) (by decide) (by decide)) (g := (mkF m 115 #[.val (.long p0), .second, .val (.long p1), .second, .val (.int p2), .val (.int p3), .val (.int p4), .val (.long (281474976710655 : Int64)), .second, .val (.long v9_9), .second, .val (.int v11_16), .val (.int v12_26), .val (.long v13_39), .second, .val (.int v15_45), .val (.int ms0_57), .val (.long ms0_76), .second, .val (.long ms0_107), .second, .unset, .unset, .unset, .unset, .unset, .unset] [(.int v11_16), (.long ms0_107), (.long ms0_76)])) rfl (by rw [hml]; rfl) (argsL := [(.long ms0_76), (.long ms0_107), (.int v11_16)]) (rest := []) (lenOf pd_3 rfl) rfl (by show 2 * 0 + _ ≤ _; exact Nat.le_of_eq rfl) (hb hby at_115) (fun _ _ => ⟨rfl, e1, (by decide : 0 + 0 ≤ _), (by decide : 0 + 0 ≤ _)⟩)
  dsimp only [Pt.U, Pt.locs, Pt.cells, Pt.slots] at X9 l9 y9 z9 st9 hQ9
  subst l9 y9 z9
  obtain ⟨rfl, N9q, e9⟩ := hQ9
  have N9 := Fr.app N1 N9q
  obtain ⟨v21_118, hv21_118⟩ : ∃ z : Int64, z = (f_2 ms0_76 ms0_107 v11_16) := ⟨_, rfl⟩
  obtain ⟨v23_125, hv23_125⟩ : ∃ z : Int64, z = ((v21_118.toUInt64 >>> ((16 : Int32) &&& 0x3f).toInt64.toUInt64).toInt64) := ⟨_, rfl⟩
  obtain ⟨v25_133, hv25_133⟩ : ∃ z : Int64, z = (v21_118 &&& (65535 : Int64)) := ⟨_, rfl⟩
  have pre11 : ∀ t, Steps p.tables e below (T9.setTop (mkF m 137 #[.val (.long p0), .second, .val (.long p1), .second, .val (.int p2), .val (.int p3), .val (.int p4), .val (.long (281474976710655 : Int64)), .second, .val (.long v9_9), .second, .val (.int v11_16), .val (.int v12_26), .val (.long v13_39), .second, .val (.int v15_45), .val (.int ms0_57), .val (.long ms0_76), .second, .val (.long ms0_107), .second, .val (.long v21_118), .second, .val (.long v23_125), .second, .val (.long v25_133), .second] [(.int ms0_57)])) t → Steps p.tables e below (s₁.setTop (entryFrame m #[(.long p0), (.long p1), (.int p2), (.int p3), (.int p4)] maxLocals)) t := by
    intro t k
    refine pre10 t ?_
    show Steps p.tables e below (T1.setTop (mkF m 115 #[.val (.long p0), .second, .val (.long p1), .second, .val (.int p2), .val (.int p3), .val (.int p4), .val (.long (281474976710655 : Int64)), .second, .val (.long v9_9), .second, .val (.int v11_16), .val (.int v12_26), .val (.long v13_39), .second, .val (.int v15_45), .val (.int ms0_57), .val (.long ms0_76), .second, .val (.long ms0_107), .second, .unset, .unset, .unset, .unset, .unset, .unset] [(.int v11_16), (.long ms0_107), (.long ms0_76)])) _
    refine st9 _ ?_
    show Steps p.tables e below (T9.setTop (mkF m 118 #[.val (.long p0), .second, .val (.long p1), .second, .val (.int p2), .val (.int p3), .val (.int p4), .val (.long (281474976710655 : Int64)), .second, .val (.long v9_9), .second, .val (.int v11_16), .val (.int v12_26), .val (.long v13_39), .second, .val (.int v15_45), .val (.int ms0_57), .val (.long ms0_76), .second, .val (.long ms0_107), .second, .unset, .unset, .unset, .unset, .unset, .unset] [(.long (f_2 ms0_76 ms0_107 v11_16))])) _
    refine XS.lstore X9.here hx rfl (hb hby at_118) rfl (l' := #[.val (.long p0), .second, .val (.long p1), .second, .val (.int p2), .val (.int p3), .val (.int p4), .val (.long (281474976710655 : Int64)), .second, .val (.long v9_9), .second, .val (.int v11_16), .val (.int v12_26), .val (.long v13_39), .second, .val (.int v15_45), .val (.int ms0_57), .val (.long ms0_76), .second, .val (.long ms0_107), .second, .val (.long v21_118), .second, .unset, .unset, .unset, .unset]) (by rw [hv21_118]; rfl) ?_
    show Steps p.tables e below (T9.setTop (mkF m 120 #[.val (.long p0), .second, .val (.long p1), .second, .val (.int p2), .val (.int p3), .val (.int p4), .val (.long (281474976710655 : Int64)), .second, .val (.long v9_9), .second, .val (.int v11_16), .val (.int v12_26), .val (.long v13_39), .second, .val (.int v15_45), .val (.int ms0_57), .val (.long ms0_76), .second, .val (.long ms0_107), .second, .val (.long v21_118), .second, .unset, .unset, .unset, .unset] [])) _
    refine XS.lload X9.here hx rfl (hb hby at_120) rfl  ?_
    show Steps p.tables e below (T9.setTop (mkF m 122 #[.val (.long p0), .second, .val (.long p1), .second, .val (.int p2), .val (.int p3), .val (.int p4), .val (.long (281474976710655 : Int64)), .second, .val (.long v9_9), .second, .val (.int v11_16), .val (.int v12_26), .val (.long v13_39), .second, .val (.int v15_45), .val (.int ms0_57), .val (.long ms0_76), .second, .val (.long ms0_107), .second, .val (.long v21_118), .second, .unset, .unset, .unset, .unset] [(.long v21_118)])) _
    refine XS.bipush X9.here hx rfl (hb hby at_122) ?_
    show Steps p.tables e below (T9.setTop (mkF m 124 #[.val (.long p0), .second, .val (.long p1), .second, .val (.int p2), .val (.int p3), .val (.int p4), .val (.long (281474976710655 : Int64)), .second, .val (.long v9_9), .second, .val (.int v11_16), .val (.int v12_26), .val (.long v13_39), .second, .val (.int v15_45), .val (.int ms0_57), .val (.long ms0_76), .second, .val (.long ms0_107), .second, .val (.long v21_118), .second, .unset, .unset, .unset, .unset] [(.int (16 : Int32)), (.long v21_118)])) _
    refine XS.lushr X9.here hx rfl (hb hby at_124) rfl ?_
    show Steps p.tables e below (T9.setTop (mkF m 125 #[.val (.long p0), .second, .val (.long p1), .second, .val (.int p2), .val (.int p3), .val (.int p4), .val (.long (281474976710655 : Int64)), .second, .val (.long v9_9), .second, .val (.int v11_16), .val (.int v12_26), .val (.long v13_39), .second, .val (.int v15_45), .val (.int ms0_57), .val (.long ms0_76), .second, .val (.long ms0_107), .second, .val (.long v21_118), .second, .unset, .unset, .unset, .unset] [(.long ((v21_118.toUInt64 >>> ((16 : Int32) &&& 0x3f).toInt64.toUInt64).toInt64))])) _
    refine XS.lstore X9.here hx rfl (hb hby at_125) rfl (l' := #[.val (.long p0), .second, .val (.long p1), .second, .val (.int p2), .val (.int p3), .val (.int p4), .val (.long (281474976710655 : Int64)), .second, .val (.long v9_9), .second, .val (.int v11_16), .val (.int v12_26), .val (.long v13_39), .second, .val (.int v15_45), .val (.int ms0_57), .val (.long ms0_76), .second, .val (.long ms0_107), .second, .val (.long v21_118), .second, .val (.long v23_125), .second, .unset, .unset]) (by rw [hv23_125]; rfl) ?_
    show Steps p.tables e below (T9.setTop (mkF m 127 #[.val (.long p0), .second, .val (.long p1), .second, .val (.int p2), .val (.int p3), .val (.int p4), .val (.long (281474976710655 : Int64)), .second, .val (.long v9_9), .second, .val (.int v11_16), .val (.int v12_26), .val (.long v13_39), .second, .val (.int v15_45), .val (.int ms0_57), .val (.long ms0_76), .second, .val (.long ms0_107), .second, .val (.long v21_118), .second, .val (.long v23_125), .second, .unset, .unset] [])) _
    refine XS.lload X9.here hx rfl (hb hby at_127) rfl  ?_
    show Steps p.tables e below (T9.setTop (mkF m 129 #[.val (.long p0), .second, .val (.long p1), .second, .val (.int p2), .val (.int p3), .val (.int p4), .val (.long (281474976710655 : Int64)), .second, .val (.long v9_9), .second, .val (.int v11_16), .val (.int v12_26), .val (.long v13_39), .second, .val (.int v15_45), .val (.int ms0_57), .val (.long ms0_76), .second, .val (.long ms0_107), .second, .val (.long v21_118), .second, .val (.long v23_125), .second, .unset, .unset] [(.long v21_118)])) _
    refine X9.ldc2Long hx hown (mvT hZ (hw _ (List.mem_of_getElem? (i := 11) rfl))) (g := (mkF m 129 #[.val (.long p0), .second, .val (.long p1), .second, .val (.int p2), .val (.int p3), .val (.int p4), .val (.long (281474976710655 : Int64)), .second, .val (.long v9_9), .second, .val (.int v11_16), .val (.int v12_26), .val (.long v13_39), .second, .val (.int v15_45), .val (.int ms0_57), .val (.long ms0_76), .second, .val (.long ms0_107), .second, .val (.long v21_118), .second, .val (.long v23_125), .second, .unset, .unset] [(.long v21_118)])) rfl (hb hby at_129) _ ?_
    show Steps p.tables e below (T9.setTop (mkF m 132 #[.val (.long p0), .second, .val (.long p1), .second, .val (.int p2), .val (.int p3), .val (.int p4), .val (.long (281474976710655 : Int64)), .second, .val (.long v9_9), .second, .val (.int v11_16), .val (.int v12_26), .val (.long v13_39), .second, .val (.int v15_45), .val (.int ms0_57), .val (.long ms0_76), .second, .val (.long ms0_107), .second, .val (.long v21_118), .second, .val (.long v23_125), .second, .unset, .unset] [(.long (65535 : Int64)), (.long v21_118)])) _
    refine XS.land X9.here hx rfl (hb hby at_132) rfl ?_
    show Steps p.tables e below (T9.setTop (mkF m 133 #[.val (.long p0), .second, .val (.long p1), .second, .val (.int p2), .val (.int p3), .val (.int p4), .val (.long (281474976710655 : Int64)), .second, .val (.long v9_9), .second, .val (.int v11_16), .val (.int v12_26), .val (.long v13_39), .second, .val (.int v15_45), .val (.int ms0_57), .val (.long ms0_76), .second, .val (.long ms0_107), .second, .val (.long v21_118), .second, .val (.long v23_125), .second, .unset, .unset] [(.long (v21_118 &&& (65535 : Int64)))])) _
    refine XS.lstore X9.here hx rfl (hb hby at_133) rfl (l' := #[.val (.long p0), .second, .val (.long p1), .second, .val (.int p2), .val (.int p3), .val (.int p4), .val (.long (281474976710655 : Int64)), .second, .val (.long v9_9), .second, .val (.int v11_16), .val (.int v12_26), .val (.long v13_39), .second, .val (.int v15_45), .val (.int ms0_57), .val (.long ms0_76), .second, .val (.long ms0_107), .second, .val (.long v21_118), .second, .val (.long v23_125), .second, .val (.long v25_133), .second]) (by rw [hv25_133]; rfl) ?_
    show Steps p.tables e below (T9.setTop (mkF m 135 #[.val (.long p0), .second, .val (.long p1), .second, .val (.int p2), .val (.int p3), .val (.int p4), .val (.long (281474976710655 : Int64)), .second, .val (.long v9_9), .second, .val (.int v11_16), .val (.int v12_26), .val (.long v13_39), .second, .val (.int v15_45), .val (.int ms0_57), .val (.long ms0_76), .second, .val (.long ms0_107), .second, .val (.long v21_118), .second, .val (.long v23_125), .second, .val (.long v25_133), .second] [])) _
    refine XS.iload X9.here hx rfl (hb hby at_135) rfl  ?_
    exact k
  by_cases hc137 : ms0_57 = (0 : Int32)
  · have pre12 : ∀ t, Steps p.tables e below (T9.setTop (mkF m 149 #[.val (.long p0), .second, .val (.long p1), .second, .val (.int p2), .val (.int p3), .val (.int p4), .val (.long (281474976710655 : Int64)), .second, .val (.long v9_9), .second, .val (.int v11_16), .val (.int v12_26), .val (.long v13_39), .second, .val (.int v15_45), .val (.int ms0_57), .val (.long ms0_76), .second, .val (.long ms0_107), .second, .val (.long v21_118), .second, .val (.long v23_125), .second, .val (.long v25_133), .second] [(.int (lcmpW ms0_107 (v9_9 + (60000 : Int64))))])) t → Steps p.tables e below (s₁.setTop (entryFrame m #[(.long p0), (.long p1), (.int p2), (.int p3), (.int p4)] maxLocals)) t := by
      intro t k
      refine pre11 t ?_
      show Steps p.tables e below (T9.setTop (mkF m 137 #[.val (.long p0), .second, .val (.long p1), .second, .val (.int p2), .val (.int p3), .val (.int p4), .val (.long (281474976710655 : Int64)), .second, .val (.long v9_9), .second, .val (.int v11_16), .val (.int v12_26), .val (.long v13_39), .second, .val (.int v15_45), .val (.int ms0_57), .val (.long ms0_76), .second, .val (.long ms0_107), .second, .val (.long v21_118), .second, .val (.long v23_125), .second, .val (.long v25_133), .second] [(.int ms0_57)])) _
      refine XS.ifNo X9.here hx rfl (hb hby at_137) rfl ((if0 _ _).trans (teq hc137).2) ?_
      show Steps p.tables e below (T9.setTop (mkF m 140 #[.val (.long p0), .second, .val (.long p1), .second, .val (.int p2), .val (.int p3), .val (.int p4), .val (.long (281474976710655 : Int64)), .second, .val (.long v9_9), .second, .val (.int v11_16), .val (.int v12_26), .val (.long v13_39), .second, .val (.int v15_45), .val (.int ms0_57), .val (.long ms0_76), .second, .val (.long ms0_107), .second, .val (.long v21_118), .second, .val (.long v23_125), .second, .val (.long v25_133), .second] [])) _
      refine XS.lload X9.here hx rfl (hb hby at_140) rfl  ?_
      show Steps p.tables e below (T9.setTop (mkF m 142 #[.val (.long p0), .second, .val (.long p1), .second, .val (.int p2), .val (.int p3), .val (.int p4), .val (.long (281474976710655 : Int64)), .second, .val (.long v9_9), .second, .val (.int v11_16), .val (.int v12_26), .val (.long v13_39), .second, .val (.int v15_45), .val (.int ms0_57), .val (.long ms0_76), .second, .val (.long ms0_107), .second, .val (.long v21_118), .second, .val (.long v23_125), .second, .val (.long v25_133), .second] [(.long ms0_107)])) _
      refine XS.lload X9.here hx rfl (hb hby at_142) rfl  ?_
      show Steps p.tables e below (T9.setTop (mkF m 144 #[.val (.long p0), .second, .val (.long p1), .second, .val (.int p2), .val (.int p3), .val (.int p4), .val (.long (281474976710655 : Int64)), .second, .val (.long v9_9), .second, .val (.int v11_16), .val (.int v12_26), .val (.long v13_39), .second, .val (.int v15_45), .val (.int ms0_57), .val (.long ms0_76), .second, .val (.long ms0_107), .second, .val (.long v21_118), .second, .val (.long v23_125), .second, .val (.long v25_133), .second] [(.long v9_9), (.long ms0_107)])) _
      refine X9.ldc2Long hx hown (mvT hZ (hw _ (List.mem_of_getElem? (i := 21) rfl))) (g := (mkF m 144 #[.val (.long p0), .second, .val (.long p1), .second, .val (.int p2), .val (.int p3), .val (.int p4), .val (.long (281474976710655 : Int64)), .second, .val (.long v9_9), .second, .val (.int v11_16), .val (.int v12_26), .val (.long v13_39), .second, .val (.int v15_45), .val (.int ms0_57), .val (.long ms0_76), .second, .val (.long ms0_107), .second, .val (.long v21_118), .second, .val (.long v23_125), .second, .val (.long v25_133), .second] [(.long v9_9), (.long ms0_107)])) rfl (hb hby at_144) _ ?_
      show Steps p.tables e below (T9.setTop (mkF m 147 #[.val (.long p0), .second, .val (.long p1), .second, .val (.int p2), .val (.int p3), .val (.int p4), .val (.long (281474976710655 : Int64)), .second, .val (.long v9_9), .second, .val (.int v11_16), .val (.int v12_26), .val (.long v13_39), .second, .val (.int v15_45), .val (.int ms0_57), .val (.long ms0_76), .second, .val (.long ms0_107), .second, .val (.long v21_118), .second, .val (.long v23_125), .second, .val (.long v25_133), .second] [(.long (60000 : Int64)), (.long v9_9), (.long ms0_107)])) _
      refine XS.ladd X9.here hx rfl (hb hby at_147) rfl ?_
      show Steps p.tables e below (T9.setTop (mkF m 148 #[.val (.long p0), .second, .val (.long p1), .second, .val (.int p2), .val (.int p3), .val (.int p4), .val (.long (281474976710655 : Int64)), .second, .val (.long v9_9), .second, .val (.int v11_16), .val (.int v12_26), .val (.long v13_39), .second, .val (.int v15_45), .val (.int ms0_57), .val (.long ms0_76), .second, .val (.long ms0_107), .second, .val (.long v21_118), .second, .val (.long v23_125), .second, .val (.long v25_133), .second] [(.long (v9_9 + (60000 : Int64))), (.long ms0_107)])) _
      refine XS.lcmp X9.here hx rfl (hb hby at_148) rfl ?_
      exact k
    by_cases hc149 : ms0_107 < (v9_9 + (60000 : Int64))
    · have pre13 : ∀ t, Steps p.tables e below (T9.setTop (mkF m 179 #[.val (.long p0), .second, .val (.long p1), .second, .val (.int p2), .val (.int p3), .val (.int p4), .val (.long (281474976710655 : Int64)), .second, .val (.long v9_9), .second, .val (.int v11_16), .val (.int v12_26), .val (.long v13_39), .second, .val (.int v15_45), .val (.int ms0_57), .val (.long ms0_76), .second, .val (.long ms0_107), .second, .val (.long v21_118), .second, .val (.long v23_125), .second, .val (.long v25_133), .second] [(.int (lcmpW v13_39 (v11_16.toInt64)))])) t → Steps p.tables e below (s₁.setTop (entryFrame m #[(.long p0), (.long p1), (.int p2), (.int p3), (.int p4)] maxLocals)) t := by
        intro t k
        refine pre12 t ?_
        show Steps p.tables e below (T9.setTop (mkF m 149 #[.val (.long p0), .second, .val (.long p1), .second, .val (.int p2), .val (.int p3), .val (.int p4), .val (.long (281474976710655 : Int64)), .second, .val (.long v9_9), .second, .val (.int v11_16), .val (.int v12_26), .val (.long v13_39), .second, .val (.int v15_45), .val (.int ms0_57), .val (.long ms0_76), .second, .val (.long ms0_107), .second, .val (.long v21_118), .second, .val (.long v23_125), .second, .val (.long v25_133), .second] [(.int (lcmpW ms0_107 (v9_9 + (60000 : Int64))))])) _
        refine XS.ifYes X9.here hx rfl (pc0 := 149) (pc' := 173) rfl (hb hby at_149) rfl ((if0 _ _).trans (tlt ((lw_lt _ _).mpr hc149)).1) (by decide) (by decide) ?_
        show Steps p.tables e below (T9.setTop (mkF m 173 #[.val (.long p0), .second, .val (.long p1), .second, .val (.int p2), .val (.int p3), .val (.int p4), .val (.long (281474976710655 : Int64)), .second, .val (.long v9_9), .second, .val (.int v11_16), .val (.int v12_26), .val (.long v13_39), .second, .val (.int v15_45), .val (.int ms0_57), .val (.long ms0_76), .second, .val (.long ms0_107), .second, .val (.long v21_118), .second, .val (.long v23_125), .second, .val (.long v25_133), .second] [])) _
        refine XS.lload X9.here hx rfl (hb hby at_173) rfl  ?_
        show Steps p.tables e below (T9.setTop (mkF m 175 #[.val (.long p0), .second, .val (.long p1), .second, .val (.int p2), .val (.int p3), .val (.int p4), .val (.long (281474976710655 : Int64)), .second, .val (.long v9_9), .second, .val (.int v11_16), .val (.int v12_26), .val (.long v13_39), .second, .val (.int v15_45), .val (.int ms0_57), .val (.long ms0_76), .second, .val (.long ms0_107), .second, .val (.long v21_118), .second, .val (.long v23_125), .second, .val (.long v25_133), .second] [(.long v13_39)])) _
        refine XS.iload X9.here hx rfl (hb hby at_175) rfl  ?_
        show Steps p.tables e below (T9.setTop (mkF m 177 #[.val (.long p0), .second, .val (.long p1), .second, .val (.int p2), .val (.int p3), .val (.int p4), .val (.long (281474976710655 : Int64)), .second, .val (.long v9_9), .second, .val (.int v11_16), .val (.int v12_26), .val (.long v13_39), .second, .val (.int v15_45), .val (.int ms0_57), .val (.long ms0_76), .second, .val (.long ms0_107), .second, .val (.long v21_118), .second, .val (.long v23_125), .second, .val (.long v25_133), .second] [(.int v11_16), (.long v13_39)])) _
        refine XS.i2l X9.here hx rfl (hb hby at_177) rfl ?_
        show Steps p.tables e below (T9.setTop (mkF m 178 #[.val (.long p0), .second, .val (.long p1), .second, .val (.int p2), .val (.int p3), .val (.int p4), .val (.long (281474976710655 : Int64)), .second, .val (.long v9_9), .second, .val (.int v11_16), .val (.int v12_26), .val (.long v13_39), .second, .val (.int v15_45), .val (.int ms0_57), .val (.long ms0_76), .second, .val (.long ms0_107), .second, .val (.long v21_118), .second, .val (.long v23_125), .second, .val (.long v25_133), .second] [(.long (v11_16.toInt64)), (.long v13_39)])) _
        refine XS.lcmp X9.here hx rfl (hb hby at_178) rfl ?_
        exact k
      by_cases hc179 : (v11_16.toInt64) < v13_39
      · have pre14 : ∀ t, Steps p.tables e below (T9.setTop (mkF m 211 #[.val (.long p0), .second, .val (.long p1), .second, .val (.int p2), .val (.int p3), .val (.int p4), .val (.long (281474976710655 : Int64)), .second, .val (.long v9_9), .second, .val (.int v11_16), .val (.int v12_26), .val (.long v13_39), .second, .val (.int v15_45), .val (.int ms0_57), .val (.long ms0_76), .second, .val (.long ms0_107), .second, .val (.long v21_118), .second, .val (.long v23_125), .second, .val (.long v25_133), .second] [(.int (lcmpW v21_118 ms0_76))])) t → Steps p.tables e below (s₁.setTop (entryFrame m #[(.long p0), (.long p1), (.int p2), (.int p3), (.int p4)] maxLocals)) t := by
          intro t k
          refine pre13 t ?_
          show Steps p.tables e below (T9.setTop (mkF m 179 #[.val (.long p0), .second, .val (.long p1), .second, .val (.int p2), .val (.int p3), .val (.int p4), .val (.long (281474976710655 : Int64)), .second, .val (.long v9_9), .second, .val (.int v11_16), .val (.int v12_26), .val (.long v13_39), .second, .val (.int v15_45), .val (.int ms0_57), .val (.long ms0_76), .second, .val (.long ms0_107), .second, .val (.long v21_118), .second, .val (.long v23_125), .second, .val (.long v25_133), .second] [(.int (lcmpW v13_39 (v11_16.toInt64)))])) _
          refine XS.ifYes X9.here hx rfl (pc0 := 179) (pc' := 206) rfl (hb hby at_179) rfl ((if0 _ _).trans (tlt ((lw_gt _ _).mpr hc179)).2.2.1) (by decide) (by decide) ?_
          show Steps p.tables e below (T9.setTop (mkF m 206 #[.val (.long p0), .second, .val (.long p1), .second, .val (.int p2), .val (.int p3), .val (.int p4), .val (.long (281474976710655 : Int64)), .second, .val (.long v9_9), .second, .val (.int v11_16), .val (.int v12_26), .val (.long v13_39), .second, .val (.int v15_45), .val (.int ms0_57), .val (.long ms0_76), .second, .val (.long ms0_107), .second, .val (.long v21_118), .second, .val (.long v23_125), .second, .val (.long v25_133), .second] [])) _
          refine XS.lload X9.here hx rfl (hb hby at_206) rfl  ?_
          show Steps p.tables e below (T9.setTop (mkF m 208 #[.val (.long p0), .second, .val (.long p1), .second, .val (.int p2), .val (.int p3), .val (.int p4), .val (.long (281474976710655 : Int64)), .second, .val (.long v9_9), .second, .val (.int v11_16), .val (.int v12_26), .val (.long v13_39), .second, .val (.int v15_45), .val (.int ms0_57), .val (.long ms0_76), .second, .val (.long ms0_107), .second, .val (.long v21_118), .second, .val (.long v23_125), .second, .val (.long v25_133), .second] [(.long v21_118)])) _
          refine XS.lload X9.here hx rfl (hb hby at_208) rfl  ?_
          show Steps p.tables e below (T9.setTop (mkF m 210 #[.val (.long p0), .second, .val (.long p1), .second, .val (.int p2), .val (.int p3), .val (.int p4), .val (.long (281474976710655 : Int64)), .second, .val (.long v9_9), .second, .val (.int v11_16), .val (.int v12_26), .val (.long v13_39), .second, .val (.int v15_45), .val (.int ms0_57), .val (.long ms0_76), .second, .val (.long ms0_107), .second, .val (.long v21_118), .second, .val (.long v23_125), .second, .val (.long v25_133), .second] [(.long ms0_76), (.long v21_118)])) _
          refine XS.lcmp X9.here hx rfl (hb hby at_210) rfl ?_
          exact k
        obtain ⟨ms0_219, hms0_219⟩ : ∃ z : Int32, z = (if v21_118 = ms0_76 then (1 : Int32) else (0 : Int32)) := ⟨_, rfl⟩
        have pre15 : ∀ t, Steps p.tables e below (T9.setTop (mkF m 219 #[.val (.long p0), .second, .val (.long p1), .second, .val (.int p2), .val (.int p3), .val (.int p4), .val (.long (281474976710655 : Int64)), .second, .val (.long v9_9), .second, .val (.int v11_16), .val (.int v12_26), .val (.long v13_39), .second, .val (.int v15_45), .val (.int ms0_57), .val (.long ms0_76), .second, .val (.long ms0_107), .second, .val (.long v21_118), .second, .val (.long v23_125), .second, .val (.long v25_133), .second] [(.int ms0_219)])) t → Steps p.tables e below (s₁.setTop (entryFrame m #[(.long p0), (.long p1), (.int p2), (.int p3), (.int p4)] maxLocals)) t := by
          intro t k
          refine pre14 t ?_
          by_cases hc211 : v21_118 = ms0_76
          · show Steps p.tables e below (T9.setTop (mkF m 211 #[.val (.long p0), .second, .val (.long p1), .second, .val (.int p2), .val (.int p3), .val (.int p4), .val (.long (281474976710655 : Int64)), .second, .val (.long v9_9), .second, .val (.int v11_16), .val (.int v12_26), .val (.long v13_39), .second, .val (.int v15_45), .val (.int ms0_57), .val (.long ms0_76), .second, .val (.long ms0_107), .second, .val (.long v21_118), .second, .val (.long v23_125), .second, .val (.long v25_133), .second] [(.int (lcmpW v21_118 ms0_76))])) _
            refine XS.ifNo X9.here hx rfl (hb hby at_211) rfl ((if0 _ _).trans (teq ((lw_eq _ _).mpr hc211)).2) ?_
            show Steps p.tables e below (T9.setTop (mkF m 214 #[.val (.long p0), .second, .val (.long p1), .second, .val (.int p2), .val (.int p3), .val (.int p4), .val (.long (281474976710655 : Int64)), .second, .val (.long v9_9), .second, .val (.int v11_16), .val (.int v12_26), .val (.long v13_39), .second, .val (.int v15_45), .val (.int ms0_57), .val (.long ms0_76), .second, .val (.long ms0_107), .second, .val (.long v21_118), .second, .val (.long v23_125), .second, .val (.long v25_133), .second] [])) _
            refine XS.iconst X9.here hx rfl (hb hby at_214) ?_
            show Steps p.tables e below (T9.setTop (mkF m 215 #[.val (.long p0), .second, .val (.long p1), .second, .val (.int p2), .val (.int p3), .val (.int p4), .val (.long (281474976710655 : Int64)), .second, .val (.long v9_9), .second, .val (.int v11_16), .val (.int v12_26), .val (.long v13_39), .second, .val (.int v15_45), .val (.int ms0_57), .val (.long ms0_76), .second, .val (.long ms0_107), .second, .val (.long v21_118), .second, .val (.long v23_125), .second, .val (.long v25_133), .second] [(.int (1 : Int32))])) _
            refine XS.goto X9.here hx rfl (pc0 := 215) (pc' := 219) rfl (hb hby at_215) (by decide) (by decide) ?_
            have qms0_219 : ms0_219 = (1 : Int32) := by rw [hms0_219, if_pos hc211]
            rw [qms0_219] at k
            exact k
          · show Steps p.tables e below (T9.setTop (mkF m 211 #[.val (.long p0), .second, .val (.long p1), .second, .val (.int p2), .val (.int p3), .val (.int p4), .val (.long (281474976710655 : Int64)), .second, .val (.long v9_9), .second, .val (.int v11_16), .val (.int v12_26), .val (.long v13_39), .second, .val (.int v15_45), .val (.int ms0_57), .val (.long ms0_76), .second, .val (.long ms0_107), .second, .val (.long v21_118), .second, .val (.long v23_125), .second, .val (.long v25_133), .second] [(.int (lcmpW v21_118 ms0_76))])) _
            refine XS.ifYes X9.here hx rfl (pc0 := 211) (pc' := 218) rfl (hb hby at_211) rfl ((if0 _ _).trans (feq (fun q => hc211 ((lw_eq _ _).mp q))).2) (by decide) (by decide) ?_
            show Steps p.tables e below (T9.setTop (mkF m 218 #[.val (.long p0), .second, .val (.long p1), .second, .val (.int p2), .val (.int p3), .val (.int p4), .val (.long (281474976710655 : Int64)), .second, .val (.long v9_9), .second, .val (.int v11_16), .val (.int v12_26), .val (.long v13_39), .second, .val (.int v15_45), .val (.int ms0_57), .val (.long ms0_76), .second, .val (.long ms0_107), .second, .val (.long v21_118), .second, .val (.long v23_125), .second, .val (.long v25_133), .second] [])) _
            refine XS.iconst X9.here hx rfl (hb hby at_218) ?_
            have qms0_219 : ms0_219 = (0 : Int32) := by rw [hms0_219, if_neg hc211]
            rw [qms0_219] at k
            exact k
        have hnar : nar .boolean ms0_219 = ms0_219 := by rw [hms0_219]; (repeat' split) <;> rfl
        obtain ⟨fs, hr, hrun, hended, hW, hsame⟩ := X9.leave (v := some (.int ms0_219)) (fun h => by rw [Bd.returns] at h; cases h) (BodyLoose.notSynchronized Bd)
        refine ⟨_, _, pre15 _ ?_, hrun, hended, _, _, rfl, ?_, ⟨_, rfl⟩, hW, hsame.mono (by decide) (by decide)⟩
        · show Steps p.tables e below (T9.setTop (mkF m 219 #[.val (.long p0), .second, .val (.long p1), .second, .val (.int p2), .val (.int p3), .val (.int p4), .val (.long (281474976710655 : Int64)), .second, .val (.long v9_9), .second, .val (.int v11_16), .val (.int v12_26), .val (.long v13_39), .second, .val (.int v15_45), .val (.int ms0_57), .val (.long ms0_76), .second, .val (.long ms0_107), .second, .val (.long v21_118), .second, .val (.long v23_125), .second, .val (.long v25_133), .second] [(.int ms0_219)])) _
          exact retN X9 hx (t := .boolean) Bd.returns (by simp) (hb hby at_219) (by rw [hnar]; exact hr)
        · show Q_0 Z p0 p1 p2 p3 p4 h0 n0 _ T9.heap _
          rw [e9]
          exact ⟨congrArg (fun z => some (Value.int z)) (by subst hv9_9 hv11_16 hv12_26 hv13_39 hv15_45 hms0_57 hms0_76 hms0_107 hv21_118 hv23_125 hv25_133 hms0_219; exact ((if_pos hc137).trans ((if_pos hc149).trans (if_pos hc179))).symm : ms0_219 = f_0 p0 p1 p2 p3 p4), N9, trivial⟩
      · have pre16 : ∀ t, Steps p.tables e below (T9.setTop (mkF m 187 #[.val (.long p0), .second, .val (.long p1), .second, .val (.int p2), .val (.int p3), .val (.int p4), .val (.long (281474976710655 : Int64)), .second, .val (.long v9_9), .second, .val (.int v11_16), .val (.int v12_26), .val (.long v13_39), .second, .val (.int v15_45), .val (.int ms0_57), .val (.long ms0_76), .second, .val (.long ms0_107), .second, .val (.long v21_118), .second, .val (.long v23_125), .second, .val (.long v25_133), .second] [(.int (lcmpW v23_125 v9_9))])) t → Steps p.tables e below (s₁.setTop (entryFrame m #[(.long p0), (.long p1), (.int p2), (.int p3), (.int p4)] maxLocals)) t := by
          intro t k
          refine pre13 t ?_
          show Steps p.tables e below (T9.setTop (mkF m 179 #[.val (.long p0), .second, .val (.long p1), .second, .val (.int p2), .val (.int p3), .val (.int p4), .val (.long (281474976710655 : Int64)), .second, .val (.long v9_9), .second, .val (.int v11_16), .val (.int v12_26), .val (.long v13_39), .second, .val (.int v15_45), .val (.int ms0_57), .val (.long ms0_76), .second, .val (.long ms0_107), .second, .val (.long v21_118), .second, .val (.long v23_125), .second, .val (.long v25_133), .second] [(.int (lcmpW v13_39 (v11_16.toInt64)))])) _
          refine XS.ifNo X9.here hx rfl (hb hby at_179) rfl ((if0 _ _).trans (flt (fun q => hc179 ((lw_gt _ _).mp q))).2.2.1) ?_
          show Steps p.tables e below (T9.setTop (mkF m 182 #[.val (.long p0), .second, .val (.long p1), .second, .val (.int p2), .val (.int p3), .val (.int p4), .val (.long (281474976710655 : Int64)), .second, .val (.long v9_9), .second, .val (.int v11_16), .val (.int v12_26), .val (.long v13_39), .second, .val (.int v15_45), .val (.int ms0_57), .val (.long ms0_76), .second, .val (.long ms0_107), .second, .val (.long v21_118), .second, .val (.long v23_125), .second, .val (.long v25_133), .second] [])) _
          refine XS.lload X9.here hx rfl (hb hby at_182) rfl  ?_
          show Steps p.tables e below (T9.setTop (mkF m 184 #[.val (.long p0), .second, .val (.long p1), .second, .val (.int p2), .val (.int p3), .val (.int p4), .val (.long (281474976710655 : Int64)), .second, .val (.long v9_9), .second, .val (.int v11_16), .val (.int v12_26), .val (.long v13_39), .second, .val (.int v15_45), .val (.int ms0_57), .val (.long ms0_76), .second, .val (.long ms0_107), .second, .val (.long v21_118), .second, .val (.long v23_125), .second, .val (.long v25_133), .second] [(.long v23_125)])) _
          refine XS.lload X9.here hx rfl (hb hby at_184) rfl  ?_
          show Steps p.tables e below (T9.setTop (mkF m 186 #[.val (.long p0), .second, .val (.long p1), .second, .val (.int p2), .val (.int p3), .val (.int p4), .val (.long (281474976710655 : Int64)), .second, .val (.long v9_9), .second, .val (.int v11_16), .val (.int v12_26), .val (.long v13_39), .second, .val (.int v15_45), .val (.int ms0_57), .val (.long ms0_76), .second, .val (.long ms0_107), .second, .val (.long v21_118), .second, .val (.long v23_125), .second, .val (.long v25_133), .second] [(.long v9_9), (.long v23_125)])) _
          refine XS.lcmp X9.here hx rfl (hb hby at_186) rfl ?_
          exact k
        obtain ⟨ms0_205, hms0_205⟩ : ∃ z : Int32, z = (if v23_125 = v9_9 then (if v25_133 = (v13_39 + (1 : Int64)) then (1 : Int32) else (0 : Int32)) else (0 : Int32)) := ⟨_, rfl⟩
        have pre17 : ∀ t, Steps p.tables e below (T9.setTop (mkF m 205 #[.val (.long p0), .second, .val (.long p1), .second, .val (.int p2), .val (.int p3), .val (.int p4), .val (.long (281474976710655 : Int64)), .second, .val (.long v9_9), .second, .val (.int v11_16), .val (.int v12_26), .val (.long v13_39), .second, .val (.int v15_45), .val (.int ms0_57), .val (.long ms0_76), .second, .val (.long ms0_107), .second, .val (.long v21_118), .second, .val (.long v23_125), .second, .val (.long v25_133), .second] [(.int ms0_205)])) t → Steps p.tables e below (s₁.setTop (entryFrame m #[(.long p0), (.long p1), (.int p2), (.int p3), (.int p4)] maxLocals)) t := by
          intro t k
          refine pre16 t ?_
          by_cases hc187 : v23_125 = v9_9
          · show Steps p.tables e below (T9.setTop (mkF m 187 #[.val (.long p0), .second, .val (.long p1), .second, .val (.int p2), .val (.int p3), .val (.int p4), .val (.long (281474976710655 : Int64)), .second, .val (.long v9_9), .second, .val (.int v11_16), .val (.int v12_26), .val (.long v13_39), .second, .val (.int v15_45), .val (.int ms0_57), .val (.long ms0_76), .second, .val (.long ms0_107), .second, .val (.long v21_118), .second, .val (.long v23_125), .second, .val (.long v25_133), .second] [(.int (lcmpW v23_125 v9_9))])) _
            refine XS.ifNo X9.here hx rfl (hb hby at_187) rfl ((if0 _ _).trans (teq ((lw_eq _ _).mpr hc187)).2) ?_
            show Steps p.tables e below (T9.setTop (mkF m 190 #[.val (.long p0), .second, .val (.long p1), .second, .val (.int p2), .val (.int p3), .val (.int p4), .val (.long (281474976710655 : Int64)), .second, .val (.long v9_9), .second, .val (.int v11_16), .val (.int v12_26), .val (.long v13_39), .second, .val (.int v15_45), .val (.int ms0_57), .val (.long ms0_76), .second, .val (.long ms0_107), .second, .val (.long v21_118), .second, .val (.long v23_125), .second, .val (.long v25_133), .second] [])) _
            refine XS.lload X9.here hx rfl (hb hby at_190) rfl  ?_
            show Steps p.tables e below (T9.setTop (mkF m 192 #[.val (.long p0), .second, .val (.long p1), .second, .val (.int p2), .val (.int p3), .val (.int p4), .val (.long (281474976710655 : Int64)), .second, .val (.long v9_9), .second, .val (.int v11_16), .val (.int v12_26), .val (.long v13_39), .second, .val (.int v15_45), .val (.int ms0_57), .val (.long ms0_76), .second, .val (.long ms0_107), .second, .val (.long v21_118), .second, .val (.long v23_125), .second, .val (.long v25_133), .second] [(.long v25_133)])) _
            refine XS.lload X9.here hx rfl (hb hby at_192) rfl  ?_
            show Steps p.tables e below (T9.setTop (mkF m 194 #[.val (.long p0), .second, .val (.long p1), .second, .val (.int p2), .val (.int p3), .val (.int p4), .val (.long (281474976710655 : Int64)), .second, .val (.long v9_9), .second, .val (.int v11_16), .val (.int v12_26), .val (.long v13_39), .second, .val (.int v15_45), .val (.int ms0_57), .val (.long ms0_76), .second, .val (.long ms0_107), .second, .val (.long v21_118), .second, .val (.long v23_125), .second, .val (.long v25_133), .second] [(.long v13_39), (.long v25_133)])) _
            refine XS.lconst X9.here hx rfl (hb hby at_194) ?_
            show Steps p.tables e below (T9.setTop (mkF m 195 #[.val (.long p0), .second, .val (.long p1), .second, .val (.int p2), .val (.int p3), .val (.int p4), .val (.long (281474976710655 : Int64)), .second, .val (.long v9_9), .second, .val (.int v11_16), .val (.int v12_26), .val (.long v13_39), .second, .val (.int v15_45), .val (.int ms0_57), .val (.long ms0_76), .second, .val (.long ms0_107), .second, .val (.long v21_118), .second, .val (.long v23_125), .second, .val (.long v25_133), .second] [(.long (1 : Int64)), (.long v13_39), (.long v25_133)])) _
            refine XS.ladd X9.here hx rfl (hb hby at_195) rfl ?_
            show Steps p.tables e below (T9.setTop (mkF m 196 #[.val (.long p0), .second, .val (.long p1), .second, .val (.int p2), .val (.int p3), .val (.int p4), .val (.long (281474976710655 : Int64)), .second, .val (.long v9_9), .second, .val (.int v11_16), .val (.int v12_26), .val (.long v13_39), .second, .val (.int v15_45), .val (.int ms0_57), .val (.long ms0_76), .second, .val (.long ms0_107), .second, .val (.long v21_118), .second, .val (.long v23_125), .second, .val (.long v25_133), .second] [(.long (v13_39 + (1 : Int64))), (.long v25_133)])) _
            refine XS.lcmp X9.here hx rfl (hb hby at_196) rfl ?_
            by_cases hc197 : v25_133 = (v13_39 + (1 : Int64))
            · show Steps p.tables e below (T9.setTop (mkF m 197 #[.val (.long p0), .second, .val (.long p1), .second, .val (.int p2), .val (.int p3), .val (.int p4), .val (.long (281474976710655 : Int64)), .second, .val (.long v9_9), .second, .val (.int v11_16), .val (.int v12_26), .val (.long v13_39), .second, .val (.int v15_45), .val (.int ms0_57), .val (.long ms0_76), .second, .val (.long ms0_107), .second, .val (.long v21_118), .second, .val (.long v23_125), .second, .val (.long v25_133), .second] [(.int (lcmpW v25_133 (v13_39 + (1 : Int64))))])) _
              refine XS.ifNo X9.here hx rfl (hb hby at_197) rfl ((if0 _ _).trans (teq ((lw_eq _ _).mpr hc197)).2) ?_
              show Steps p.tables e below (T9.setTop (mkF m 200 #[.val (.long p0), .second, .val (.long p1), .second, .val (.int p2), .val (.int p3), .val (.int p4), .val (.long (281474976710655 : Int64)), .second, .val (.long v9_9), .second, .val (.int v11_16), .val (.int v12_26), .val (.long v13_39), .second, .val (.int v15_45), .val (.int ms0_57), .val (.long ms0_76), .second, .val (.long ms0_107), .second, .val (.long v21_118), .second, .val (.long v23_125), .second, .val (.long v25_133), .second] [])) _
              refine XS.iconst X9.here hx rfl (hb hby at_200) ?_
              show Steps p.tables e below (T9.setTop (mkF m 201 #[.val (.long p0), .second, .val (.long p1), .second, .val (.int p2), .val (.int p3), .val (.int p4), .val (.long (281474976710655 : Int64)), .second, .val (.long v9_9), .second, .val (.int v11_16), .val (.int v12_26), .val (.long v13_39), .second, .val (.int v15_45), .val (.int ms0_57), .val (.long ms0_76), .second, .val (.long ms0_107), .second, .val (.long v21_118), .second, .val (.long v23_125), .second, .val (.long v25_133), .second] [(.int (1 : Int32))])) _
              refine XS.goto X9.here hx rfl (pc0 := 201) (pc' := 205) rfl (hb hby at_201) (by decide) (by decide) ?_
              have qms0_205 : ms0_205 = (1 : Int32) := by rw [hms0_205, if_pos hc187, if_pos hc197]
              rw [qms0_205] at k
              exact k
            · show Steps p.tables e below (T9.setTop (mkF m 197 #[.val (.long p0), .second, .val (.long p1), .second, .val (.int p2), .val (.int p3), .val (.int p4), .val (.long (281474976710655 : Int64)), .second, .val (.long v9_9), .second, .val (.int v11_16), .val (.int v12_26), .val (.long v13_39), .second, .val (.int v15_45), .val (.int ms0_57), .val (.long ms0_76), .second, .val (.long ms0_107), .second, .val (.long v21_118), .second, .val (.long v23_125), .second, .val (.long v25_133), .second] [(.int (lcmpW v25_133 (v13_39 + (1 : Int64))))])) _
              refine XS.ifYes X9.here hx rfl (pc0 := 197) (pc' := 204) rfl (hb hby at_197) rfl ((if0 _ _).trans (feq (fun q => hc197 ((lw_eq _ _).mp q))).2) (by decide) (by decide) ?_
              show Steps p.tables e below (T9.setTop (mkF m 204 #[.val (.long p0), .second, .val (.long p1), .second, .val (.int p2), .val (.int p3), .val (.int p4), .val (.long (281474976710655 : Int64)), .second, .val (.long v9_9), .second, .val (.int v11_16), .val (.int v12_26), .val (.long v13_39), .second, .val (.int v15_45), .val (.int ms0_57), .val (.long ms0_76), .second, .val (.long ms0_107), .second, .val (.long v21_118), .second, .val (.long v23_125), .second, .val (.long v25_133), .second] [])) _
              refine XS.iconst X9.here hx rfl (hb hby at_204) ?_
              have qms0_205 : ms0_205 = (0 : Int32) := by rw [hms0_205, if_pos hc187, if_neg hc197]
              rw [qms0_205] at k
              exact k
          · show Steps p.tables e below (T9.setTop (mkF m 187 #[.val (.long p0), .second, .val (.long p1), .second, .val (.int p2), .val (.int p3), .val (.int p4), .val (.long (281474976710655 : Int64)), .second, .val (.long v9_9), .second, .val (.int v11_16), .val (.int v12_26), .val (.long v13_39), .second, .val (.int v15_45), .val (.int ms0_57), .val (.long ms0_76), .second, .val (.long ms0_107), .second, .val (.long v21_118), .second, .val (.long v23_125), .second, .val (.long v25_133), .second] [(.int (lcmpW v23_125 v9_9))])) _
            refine XS.ifYes X9.here hx rfl (pc0 := 187) (pc' := 204) rfl (hb hby at_187) rfl ((if0 _ _).trans (feq (fun q => hc187 ((lw_eq _ _).mp q))).2) (by decide) (by decide) ?_
            show Steps p.tables e below (T9.setTop (mkF m 204 #[.val (.long p0), .second, .val (.long p1), .second, .val (.int p2), .val (.int p3), .val (.int p4), .val (.long (281474976710655 : Int64)), .second, .val (.long v9_9), .second, .val (.int v11_16), .val (.int v12_26), .val (.long v13_39), .second, .val (.int v15_45), .val (.int ms0_57), .val (.long ms0_76), .second, .val (.long ms0_107), .second, .val (.long v21_118), .second, .val (.long v23_125), .second, .val (.long v25_133), .second] [])) _
            refine XS.iconst X9.here hx rfl (hb hby at_204) ?_
            have qms0_205 : ms0_205 = (0 : Int32) := by rw [hms0_205, if_neg hc187]
            rw [qms0_205] at k
            exact k
        have hnar : nar .boolean ms0_205 = ms0_205 := by rw [hms0_205]; (repeat' split) <;> rfl
        obtain ⟨fs, hr, hrun, hended, hW, hsame⟩ := X9.leave (v := some (.int ms0_205)) (fun h => by rw [Bd.returns] at h; cases h) (BodyLoose.notSynchronized Bd)
        refine ⟨_, _, pre17 _ ?_, hrun, hended, _, _, rfl, ?_, ⟨_, rfl⟩, hW, hsame.mono (by decide) (by decide)⟩
        · show Steps p.tables e below (T9.setTop (mkF m 205 #[.val (.long p0), .second, .val (.long p1), .second, .val (.int p2), .val (.int p3), .val (.int p4), .val (.long (281474976710655 : Int64)), .second, .val (.long v9_9), .second, .val (.int v11_16), .val (.int v12_26), .val (.long v13_39), .second, .val (.int v15_45), .val (.int ms0_57), .val (.long ms0_76), .second, .val (.long ms0_107), .second, .val (.long v21_118), .second, .val (.long v23_125), .second, .val (.long v25_133), .second] [(.int ms0_205)])) _
          exact retN X9 hx (t := .boolean) Bd.returns (by simp) (hb hby at_205) (by rw [hnar]; exact hr)
        · show Q_0 Z p0 p1 p2 p3 p4 h0 n0 _ T9.heap _
          rw [e9]
          exact ⟨congrArg (fun z => some (Value.int z)) (by subst hv9_9 hv11_16 hv12_26 hv13_39 hv15_45 hms0_57 hms0_76 hms0_107 hv21_118 hv23_125 hv25_133 hms0_205; exact ((if_pos hc137).trans ((if_pos hc149).trans (if_neg hc179))).symm : ms0_205 = f_0 p0 p1 p2 p3 p4), N9, trivial⟩
    · have pre18 : ∀ t, Steps p.tables e below (T9.setTop (mkF m 157 #[.val (.long p0), .second, .val (.long p1), .second, .val (.int p2), .val (.int p3), .val (.int p4), .val (.long (281474976710655 : Int64)), .second, .val (.long v9_9), .second, .val (.int v11_16), .val (.int v12_26), .val (.long v13_39), .second, .val (.int v15_45), .val (.int ms0_57), .val (.long ms0_76), .second, .val (.long ms0_107), .second, .val (.long v21_118), .second, .val (.long v23_125), .second, .val (.long v25_133), .second] [(.int (lcmpW v23_125 ms0_107))])) t → Steps p.tables e below (s₁.setTop (entryFrame m #[(.long p0), (.long p1), (.int p2), (.int p3), (.int p4)] maxLocals)) t := by
        intro t k
        refine pre12 t ?_
        show Steps p.tables e below (T9.setTop (mkF m 149 #[.val (.long p0), .second, .val (.long p1), .second, .val (.int p2), .val (.int p3), .val (.int p4), .val (.long (281474976710655 : Int64)), .second, .val (.long v9_9), .second, .val (.int v11_16), .val (.int v12_26), .val (.long v13_39), .second, .val (.int v15_45), .val (.int ms0_57), .val (.long ms0_76), .second, .val (.long ms0_107), .second, .val (.long v21_118), .second, .val (.long v23_125), .second, .val (.long v25_133), .second] [(.int (lcmpW ms0_107 (v9_9 + (60000 : Int64))))])) _
        refine XS.ifNo X9.here hx rfl (hb hby at_149) rfl ((if0 _ _).trans (flt (fun q => hc149 ((lw_lt _ _).mp q))).1) ?_
        show Steps p.tables e below (T9.setTop (mkF m 152 #[.val (.long p0), .second, .val (.long p1), .second, .val (.int p2), .val (.int p3), .val (.int p4), .val (.long (281474976710655 : Int64)), .second, .val (.long v9_9), .second, .val (.int v11_16), .val (.int v12_26), .val (.long v13_39), .second, .val (.int v15_45), .val (.int ms0_57), .val (.long ms0_76), .second, .val (.long ms0_107), .second, .val (.long v21_118), .second, .val (.long v23_125), .second, .val (.long v25_133), .second] [])) _
        refine XS.lload X9.here hx rfl (hb hby at_152) rfl  ?_
        show Steps p.tables e below (T9.setTop (mkF m 154 #[.val (.long p0), .second, .val (.long p1), .second, .val (.int p2), .val (.int p3), .val (.int p4), .val (.long (281474976710655 : Int64)), .second, .val (.long v9_9), .second, .val (.int v11_16), .val (.int v12_26), .val (.long v13_39), .second, .val (.int v15_45), .val (.int ms0_57), .val (.long ms0_76), .second, .val (.long ms0_107), .second, .val (.long v21_118), .second, .val (.long v23_125), .second, .val (.long v25_133), .second] [(.long v23_125)])) _
        refine XS.lload X9.here hx rfl (hb hby at_154) rfl  ?_
        show Steps p.tables e below (T9.setTop (mkF m 156 #[.val (.long p0), .second, .val (.long p1), .second, .val (.int p2), .val (.int p3), .val (.int p4), .val (.long (281474976710655 : Int64)), .second, .val (.long v9_9), .second, .val (.int v11_16), .val (.int v12_26), .val (.long v13_39), .second, .val (.int v15_45), .val (.int ms0_57), .val (.long ms0_76), .second, .val (.long ms0_107), .second, .val (.long v21_118), .second, .val (.long v23_125), .second, .val (.long v25_133), .second] [(.long ms0_107), (.long v23_125)])) _
        refine XS.lcmp X9.here hx rfl (hb hby at_156) rfl ?_
        exact k
      obtain ⟨ms0_172, hms0_172⟩ : ∃ z : Int32, z = (if v23_125 = ms0_107 then (if v25_133 = (1 : Int64) then (1 : Int32) else (0 : Int32)) else (0 : Int32)) := ⟨_, rfl⟩
      have pre19 : ∀ t, Steps p.tables e below (T9.setTop (mkF m 172 #[.val (.long p0), .second, .val (.long p1), .second, .val (.int p2), .val (.int p3), .val (.int p4), .val (.long (281474976710655 : Int64)), .second, .val (.long v9_9), .second, .val (.int v11_16), .val (.int v12_26), .val (.long v13_39), .second, .val (.int v15_45), .val (.int ms0_57), .val (.long ms0_76), .second, .val (.long ms0_107), .second, .val (.long v21_118), .second, .val (.long v23_125), .second, .val (.long v25_133), .second] [(.int ms0_172)])) t → Steps p.tables e below (s₁.setTop (entryFrame m #[(.long p0), (.long p1), (.int p2), (.int p3), (.int p4)] maxLocals)) t := by
        intro t k
        refine pre18 t ?_
        by_cases hc157 : v23_125 = ms0_107
        · show Steps p.tables e below (T9.setTop (mkF m 157 #[.val (.long p0), .second, .val (.long p1), .second, .val (.int p2), .val (.int p3), .val (.int p4), .val (.long (281474976710655 : Int64)), .second, .val (.long v9_9), .second, .val (.int v11_16), .val (.int v12_26), .val (.long v13_39), .second, .val (.int v15_45), .val (.int ms0_57), .val (.long ms0_76), .second, .val (.long ms0_107), .second, .val (.long v21_118), .second, .val (.long v23_125), .second, .val (.long v25_133), .second] [(.int (lcmpW v23_125 ms0_107))])) _
          refine XS.ifNo X9.here hx rfl (hb hby at_157) rfl ((if0 _ _).trans (teq ((lw_eq _ _).mpr hc157)).2) ?_
          show Steps p.tables e below (T9.setTop (mkF m 160 #[.val (.long p0), .second, .val (.long p1), .second, .val (.int p2), .val (.int p3), .val (.int p4), .val (.long (281474976710655 : Int64)), .second, .val (.long v9_9), .second, .val (.int v11_16), .val (.int v12_26), .val (.long v13_39), .second, .val (.int v15_45), .val (.int ms0_57), .val (.long ms0_76), .second, .val (.long ms0_107), .second, .val (.long v21_118), .second, .val (.long v23_125), .second, .val (.long v25_133), .second] [])) _
          refine XS.lload X9.here hx rfl (hb hby at_160) rfl  ?_
          show Steps p.tables e below (T9.setTop (mkF m 162 #[.val (.long p0), .second, .val (.long p1), .second, .val (.int p2), .val (.int p3), .val (.int p4), .val (.long (281474976710655 : Int64)), .second, .val (.long v9_9), .second, .val (.int v11_16), .val (.int v12_26), .val (.long v13_39), .second, .val (.int v15_45), .val (.int ms0_57), .val (.long ms0_76), .second, .val (.long ms0_107), .second, .val (.long v21_118), .second, .val (.long v23_125), .second, .val (.long v25_133), .second] [(.long v25_133)])) _
          refine XS.lconst X9.here hx rfl (hb hby at_162) ?_
          show Steps p.tables e below (T9.setTop (mkF m 163 #[.val (.long p0), .second, .val (.long p1), .second, .val (.int p2), .val (.int p3), .val (.int p4), .val (.long (281474976710655 : Int64)), .second, .val (.long v9_9), .second, .val (.int v11_16), .val (.int v12_26), .val (.long v13_39), .second, .val (.int v15_45), .val (.int ms0_57), .val (.long ms0_76), .second, .val (.long ms0_107), .second, .val (.long v21_118), .second, .val (.long v23_125), .second, .val (.long v25_133), .second] [(.long (1 : Int64)), (.long v25_133)])) _
          refine XS.lcmp X9.here hx rfl (hb hby at_163) rfl ?_
          by_cases hc164 : v25_133 = (1 : Int64)
          · show Steps p.tables e below (T9.setTop (mkF m 164 #[.val (.long p0), .second, .val (.long p1), .second, .val (.int p2), .val (.int p3), .val (.int p4), .val (.long (281474976710655 : Int64)), .second, .val (.long v9_9), .second, .val (.int v11_16), .val (.int v12_26), .val (.long v13_39), .second, .val (.int v15_45), .val (.int ms0_57), .val (.long ms0_76), .second, .val (.long ms0_107), .second, .val (.long v21_118), .second, .val (.long v23_125), .second, .val (.long v25_133), .second] [(.int (lcmpW v25_133 (1 : Int64)))])) _
            refine XS.ifNo X9.here hx rfl (hb hby at_164) rfl ((if0 _ _).trans (teq ((lw_eq _ _).mpr hc164)).2) ?_
            show Steps p.tables e below (T9.setTop (mkF m 167 #[.val (.long p0), .second, .val (.long p1), .second, .val (.int p2), .val (.int p3), .val (.int p4), .val (.long (281474976710655 : Int64)), .second, .val (.long v9_9), .second, .val (.int v11_16), .val (.int v12_26), .val (.long v13_39), .second, .val (.int v15_45), .val (.int ms0_57), .val (.long ms0_76), .second, .val (.long ms0_107), .second, .val (.long v21_118), .second, .val (.long v23_125), .second, .val (.long v25_133), .second] [])) _
            refine XS.iconst X9.here hx rfl (hb hby at_167) ?_
            show Steps p.tables e below (T9.setTop (mkF m 168 #[.val (.long p0), .second, .val (.long p1), .second, .val (.int p2), .val (.int p3), .val (.int p4), .val (.long (281474976710655 : Int64)), .second, .val (.long v9_9), .second, .val (.int v11_16), .val (.int v12_26), .val (.long v13_39), .second, .val (.int v15_45), .val (.int ms0_57), .val (.long ms0_76), .second, .val (.long ms0_107), .second, .val (.long v21_118), .second, .val (.long v23_125), .second, .val (.long v25_133), .second] [(.int (1 : Int32))])) _
            refine XS.goto X9.here hx rfl (pc0 := 168) (pc' := 172) rfl (hb hby at_168) (by decide) (by decide) ?_
            have qms0_172 : ms0_172 = (1 : Int32) := by rw [hms0_172, if_pos hc157, if_pos hc164]
            rw [qms0_172] at k
            exact k
          · show Steps p.tables e below (T9.setTop (mkF m 164 #[.val (.long p0), .second, .val (.long p1), .second, .val (.int p2), .val (.int p3), .val (.int p4), .val (.long (281474976710655 : Int64)), .second, .val (.long v9_9), .second, .val (.int v11_16), .val (.int v12_26), .val (.long v13_39), .second, .val (.int v15_45), .val (.int ms0_57), .val (.long ms0_76), .second, .val (.long ms0_107), .second, .val (.long v21_118), .second, .val (.long v23_125), .second, .val (.long v25_133), .second] [(.int (lcmpW v25_133 (1 : Int64)))])) _
            refine XS.ifYes X9.here hx rfl (pc0 := 164) (pc' := 171) rfl (hb hby at_164) rfl ((if0 _ _).trans (feq (fun q => hc164 ((lw_eq _ _).mp q))).2) (by decide) (by decide) ?_
            show Steps p.tables e below (T9.setTop (mkF m 171 #[.val (.long p0), .second, .val (.long p1), .second, .val (.int p2), .val (.int p3), .val (.int p4), .val (.long (281474976710655 : Int64)), .second, .val (.long v9_9), .second, .val (.int v11_16), .val (.int v12_26), .val (.long v13_39), .second, .val (.int v15_45), .val (.int ms0_57), .val (.long ms0_76), .second, .val (.long ms0_107), .second, .val (.long v21_118), .second, .val (.long v23_125), .second, .val (.long v25_133), .second] [])) _
            refine XS.iconst X9.here hx rfl (hb hby at_171) ?_
            have qms0_172 : ms0_172 = (0 : Int32) := by rw [hms0_172, if_pos hc157, if_neg hc164]
            rw [qms0_172] at k
            exact k
        · show Steps p.tables e below (T9.setTop (mkF m 157 #[.val (.long p0), .second, .val (.long p1), .second, .val (.int p2), .val (.int p3), .val (.int p4), .val (.long (281474976710655 : Int64)), .second, .val (.long v9_9), .second, .val (.int v11_16), .val (.int v12_26), .val (.long v13_39), .second, .val (.int v15_45), .val (.int ms0_57), .val (.long ms0_76), .second, .val (.long ms0_107), .second, .val (.long v21_118), .second, .val (.long v23_125), .second, .val (.long v25_133), .second] [(.int (lcmpW v23_125 ms0_107))])) _
          refine XS.ifYes X9.here hx rfl (pc0 := 157) (pc' := 171) rfl (hb hby at_157) rfl ((if0 _ _).trans (feq (fun q => hc157 ((lw_eq _ _).mp q))).2) (by decide) (by decide) ?_
          show Steps p.tables e below (T9.setTop (mkF m 171 #[.val (.long p0), .second, .val (.long p1), .second, .val (.int p2), .val (.int p3), .val (.int p4), .val (.long (281474976710655 : Int64)), .second, .val (.long v9_9), .second, .val (.int v11_16), .val (.int v12_26), .val (.long v13_39), .second, .val (.int v15_45), .val (.int ms0_57), .val (.long ms0_76), .second, .val (.long ms0_107), .second, .val (.long v21_118), .second, .val (.long v23_125), .second, .val (.long v25_133), .second] [])) _
          refine XS.iconst X9.here hx rfl (hb hby at_171) ?_
          have qms0_172 : ms0_172 = (0 : Int32) := by rw [hms0_172, if_neg hc157]
          rw [qms0_172] at k
          exact k
      have hnar : nar .boolean ms0_172 = ms0_172 := by rw [hms0_172]; (repeat' split) <;> rfl
      obtain ⟨fs, hr, hrun, hended, hW, hsame⟩ := X9.leave (v := some (.int ms0_172)) (fun h => by rw [Bd.returns] at h; cases h) (BodyLoose.notSynchronized Bd)
      refine ⟨_, _, pre19 _ ?_, hrun, hended, _, _, rfl, ?_, ⟨_, rfl⟩, hW, hsame.mono (by decide) (by decide)⟩
      · show Steps p.tables e below (T9.setTop (mkF m 172 #[.val (.long p0), .second, .val (.long p1), .second, .val (.int p2), .val (.int p3), .val (.int p4), .val (.long (281474976710655 : Int64)), .second, .val (.long v9_9), .second, .val (.int v11_16), .val (.int v12_26), .val (.long v13_39), .second, .val (.int v15_45), .val (.int ms0_57), .val (.long ms0_76), .second, .val (.long ms0_107), .second, .val (.long v21_118), .second, .val (.long v23_125), .second, .val (.long v25_133), .second] [(.int ms0_172)])) _
        exact retN X9 hx (t := .boolean) Bd.returns (by simp) (hb hby at_172) (by rw [hnar]; exact hr)
      · show Q_0 Z p0 p1 p2 p3 p4 h0 n0 _ T9.heap _
        rw [e9]
        exact ⟨congrArg (fun z => some (Value.int z)) (by subst hv9_9 hv11_16 hv12_26 hv13_39 hv15_45 hms0_57 hms0_76 hms0_107 hv21_118 hv23_125 hv25_133 hms0_172; exact ((if_pos hc137).trans (if_neg hc149)).symm : ms0_172 = f_0 p0 p1 p2 p3 p4), N9, trivial⟩
  · have pre20 : ∀ t, Steps p.tables e below (T9.setTop (mkF m 157 #[.val (.long p0), .second, .val (.long p1), .second, .val (.int p2), .val (.int p3), .val (.int p4), .val (.long (281474976710655 : Int64)), .second, .val (.long v9_9), .second, .val (.int v11_16), .val (.int v12_26), .val (.long v13_39), .second, .val (.int v15_45), .val (.int ms0_57), .val (.long ms0_76), .second, .val (.long ms0_107), .second, .val (.long v21_118), .second, .val (.long v23_125), .second, .val (.long v25_133), .second] [(.int (lcmpW v23_125 ms0_107))])) t → Steps p.tables e below (s₁.setTop (entryFrame m #[(.long p0), (.long p1), (.int p2), (.int p3), (.int p4)] maxLocals)) t := by
      intro t k
      refine pre11 t ?_
      show Steps p.tables e below (T9.setTop (mkF m 137 #[.val (.long p0), .second, .val (.long p1), .second, .val (.int p2), .val (.int p3), .val (.int p4), .val (.long (281474976710655 : Int64)), .second, .val (.long v9_9), .second, .val (.int v11_16), .val (.int v12_26), .val (.long v13_39), .second, .val (.int v15_45), .val (.int ms0_57), .val (.long ms0_76), .second, .val (.long ms0_107), .second, .val (.long v21_118), .second, .val (.long v23_125), .second, .val (.long v25_133), .second] [(.int ms0_57)])) _
      refine XS.ifYes X9.here hx rfl (pc0 := 137) (pc' := 152) rfl (hb hby at_137) rfl ((if0 _ _).trans (feq hc137).2) (by decide) (by decide) ?_
      show Steps p.tables e below (T9.setTop (mkF m 152 #[.val (.long p0), .second, .val (.long p1), .second, .val (.int p2), .val (.int p3), .val (.int p4), .val (.long (281474976710655 : Int64)), .second, .val (.long v9_9), .second, .val (.int v11_16), .val (.int v12_26), .val (.long v13_39), .second, .val (.int v15_45), .val (.int ms0_57), .val (.long ms0_76), .second, .val (.long ms0_107), .second, .val (.long v21_118), .second, .val (.long v23_125), .second, .val (.long v25_133), .second] [])) _
      refine XS.lload X9.here hx rfl (hb hby at_152) rfl  ?_
      show Steps p.tables e below (T9.setTop (mkF m 154 #[.val (.long p0), .second, .val (.long p1), .second, .val (.int p2), .val (.int p3), .val (.int p4), .val (.long (281474976710655 : Int64)), .second, .val (.long v9_9), .second, .val (.int v11_16), .val (.int v12_26), .val (.long v13_39), .second, .val (.int v15_45), .val (.int ms0_57), .val (.long ms0_76), .second, .val (.long ms0_107), .second, .val (.long v21_118), .second, .val (.long v23_125), .second, .val (.long v25_133), .second] [(.long v23_125)])) _
      refine XS.lload X9.here hx rfl (hb hby at_154) rfl  ?_
      show Steps p.tables e below (T9.setTop (mkF m 156 #[.val (.long p0), .second, .val (.long p1), .second, .val (.int p2), .val (.int p3), .val (.int p4), .val (.long (281474976710655 : Int64)), .second, .val (.long v9_9), .second, .val (.int v11_16), .val (.int v12_26), .val (.long v13_39), .second, .val (.int v15_45), .val (.int ms0_57), .val (.long ms0_76), .second, .val (.long ms0_107), .second, .val (.long v21_118), .second, .val (.long v23_125), .second, .val (.long v25_133), .second] [(.long ms0_107), (.long v23_125)])) _
      refine XS.lcmp X9.here hx rfl (hb hby at_156) rfl ?_
      exact k
    obtain ⟨ms0_172, hms0_172⟩ : ∃ z : Int32, z = (if v23_125 = ms0_107 then (if v25_133 = (1 : Int64) then (1 : Int32) else (0 : Int32)) else (0 : Int32)) := ⟨_, rfl⟩
    have pre21 : ∀ t, Steps p.tables e below (T9.setTop (mkF m 172 #[.val (.long p0), .second, .val (.long p1), .second, .val (.int p2), .val (.int p3), .val (.int p4), .val (.long (281474976710655 : Int64)), .second, .val (.long v9_9), .second, .val (.int v11_16), .val (.int v12_26), .val (.long v13_39), .second, .val (.int v15_45), .val (.int ms0_57), .val (.long ms0_76), .second, .val (.long ms0_107), .second, .val (.long v21_118), .second, .val (.long v23_125), .second, .val (.long v25_133), .second] [(.int ms0_172)])) t → Steps p.tables e below (s₁.setTop (entryFrame m #[(.long p0), (.long p1), (.int p2), (.int p3), (.int p4)] maxLocals)) t := by
      intro t k
      refine pre20 t ?_
      by_cases hc157 : v23_125 = ms0_107
      · show Steps p.tables e below (T9.setTop (mkF m 157 #[.val (.long p0), .second, .val (.long p1), .second, .val (.int p2), .val (.int p3), .val (.int p4), .val (.long (281474976710655 : Int64)), .second, .val (.long v9_9), .second, .val (.int v11_16), .val (.int v12_26), .val (.long v13_39), .second, .val (.int v15_45), .val (.int ms0_57), .val (.long ms0_76), .second, .val (.long ms0_107), .second, .val (.long v21_118), .second, .val (.long v23_125), .second, .val (.long v25_133), .second] [(.int (lcmpW v23_125 ms0_107))])) _
        refine XS.ifNo X9.here hx rfl (hb hby at_157) rfl ((if0 _ _).trans (teq ((lw_eq _ _).mpr hc157)).2) ?_
        show Steps p.tables e below (T9.setTop (mkF m 160 #[.val (.long p0), .second, .val (.long p1), .second, .val (.int p2), .val (.int p3), .val (.int p4), .val (.long (281474976710655 : Int64)), .second, .val (.long v9_9), .second, .val (.int v11_16), .val (.int v12_26), .val (.long v13_39), .second, .val (.int v15_45), .val (.int ms0_57), .val (.long ms0_76), .second, .val (.long ms0_107), .second, .val (.long v21_118), .second, .val (.long v23_125), .second, .val (.long v25_133), .second] [])) _
        refine XS.lload X9.here hx rfl (hb hby at_160) rfl  ?_
        show Steps p.tables e below (T9.setTop (mkF m 162 #[.val (.long p0), .second, .val (.long p1), .second, .val (.int p2), .val (.int p3), .val (.int p4), .val (.long (281474976710655 : Int64)), .second, .val (.long v9_9), .second, .val (.int v11_16), .val (.int v12_26), .val (.long v13_39), .second, .val (.int v15_45), .val (.int ms0_57), .val (.long ms0_76), .second, .val (.long ms0_107), .second, .val (.long v21_118), .second, .val (.long v23_125), .second, .val (.long v25_133), .second] [(.long v25_133)])) _
        refine XS.lconst X9.here hx rfl (hb hby at_162) ?_
        show Steps p.tables e below (T9.setTop (mkF m 163 #[.val (.long p0), .second, .val (.long p1), .second, .val (.int p2), .val (.int p3), .val (.int p4), .val (.long (281474976710655 : Int64)), .second, .val (.long v9_9), .second, .val (.int v11_16), .val (.int v12_26), .val (.long v13_39), .second, .val (.int v15_45), .val (.int ms0_57), .val (.long ms0_76), .second, .val (.long ms0_107), .second, .val (.long v21_118), .second, .val (.long v23_125), .second, .val (.long v25_133), .second] [(.long (1 : Int64)), (.long v25_133)])) _
        refine XS.lcmp X9.here hx rfl (hb hby at_163) rfl ?_
        by_cases hc164 : v25_133 = (1 : Int64)
        · show Steps p.tables e below (T9.setTop (mkF m 164 #[.val (.long p0), .second, .val (.long p1), .second, .val (.int p2), .val (.int p3), .val (.int p4), .val (.long (281474976710655 : Int64)), .second, .val (.long v9_9), .second, .val (.int v11_16), .val (.int v12_26), .val (.long v13_39), .second, .val (.int v15_45), .val (.int ms0_57), .val (.long ms0_76), .second, .val (.long ms0_107), .second, .val (.long v21_118), .second, .val (.long v23_125), .second, .val (.long v25_133), .second] [(.int (lcmpW v25_133 (1 : Int64)))])) _
          refine XS.ifNo X9.here hx rfl (hb hby at_164) rfl ((if0 _ _).trans (teq ((lw_eq _ _).mpr hc164)).2) ?_
          show Steps p.tables e below (T9.setTop (mkF m 167 #[.val (.long p0), .second, .val (.long p1), .second, .val (.int p2), .val (.int p3), .val (.int p4), .val (.long (281474976710655 : Int64)), .second, .val (.long v9_9), .second, .val (.int v11_16), .val (.int v12_26), .val (.long v13_39), .second, .val (.int v15_45), .val (.int ms0_57), .val (.long ms0_76), .second, .val (.long ms0_107), .second, .val (.long v21_118), .second, .val (.long v23_125), .second, .val (.long v25_133), .second] [])) _
          refine XS.iconst X9.here hx rfl (hb hby at_167) ?_
          show Steps p.tables e below (T9.setTop (mkF m 168 #[.val (.long p0), .second, .val (.long p1), .second, .val (.int p2), .val (.int p3), .val (.int p4), .val (.long (281474976710655 : Int64)), .second, .val (.long v9_9), .second, .val (.int v11_16), .val (.int v12_26), .val (.long v13_39), .second, .val (.int v15_45), .val (.int ms0_57), .val (.long ms0_76), .second, .val (.long ms0_107), .second, .val (.long v21_118), .second, .val (.long v23_125), .second, .val (.long v25_133), .second] [(.int (1 : Int32))])) _
          refine XS.goto X9.here hx rfl (pc0 := 168) (pc' := 172) rfl (hb hby at_168) (by decide) (by decide) ?_
          have qms0_172 : ms0_172 = (1 : Int32) := by rw [hms0_172, if_pos hc157, if_pos hc164]
          rw [qms0_172] at k
          exact k
        · show Steps p.tables e below (T9.setTop (mkF m 164 #[.val (.long p0), .second, .val (.long p1), .second, .val (.int p2), .val (.int p3), .val (.int p4), .val (.long (281474976710655 : Int64)), .second, .val (.long v9_9), .second, .val (.int v11_16), .val (.int v12_26), .val (.long v13_39), .second, .val (.int v15_45), .val (.int ms0_57), .val (.long ms0_76), .second, .val (.long ms0_107), .second, .val (.long v21_118), .second, .val (.long v23_125), .second, .val (.long v25_133), .second] [(.int (lcmpW v25_133 (1 : Int64)))])) _
          refine XS.ifYes X9.here hx rfl (pc0 := 164) (pc' := 171) rfl (hb hby at_164) rfl ((if0 _ _).trans (feq (fun q => hc164 ((lw_eq _ _).mp q))).2) (by decide) (by decide) ?_
          show Steps p.tables e below (T9.setTop (mkF m 171 #[.val (.long p0), .second, .val (.long p1), .second, .val (.int p2), .val (.int p3), .val (.int p4), .val (.long (281474976710655 : Int64)), .second, .val (.long v9_9), .second, .val (.int v11_16), .val (.int v12_26), .val (.long v13_39), .second, .val (.int v15_45), .val (.int ms0_57), .val (.long ms0_76), .second, .val (.long ms0_107), .second, .val (.long v21_118), .second, .val (.long v23_125), .second, .val (.long v25_133), .second] [])) _
          refine XS.iconst X9.here hx rfl (hb hby at_171) ?_
          have qms0_172 : ms0_172 = (0 : Int32) := by rw [hms0_172, if_pos hc157, if_neg hc164]
          rw [qms0_172] at k
          exact k
      · show Steps p.tables e below (T9.setTop (mkF m 157 #[.val (.long p0), .second, .val (.long p1), .second, .val (.int p2), .val (.int p3), .val (.int p4), .val (.long (281474976710655 : Int64)), .second, .val (.long v9_9), .second, .val (.int v11_16), .val (.int v12_26), .val (.long v13_39), .second, .val (.int v15_45), .val (.int ms0_57), .val (.long ms0_76), .second, .val (.long ms0_107), .second, .val (.long v21_118), .second, .val (.long v23_125), .second, .val (.long v25_133), .second] [(.int (lcmpW v23_125 ms0_107))])) _
        refine XS.ifYes X9.here hx rfl (pc0 := 157) (pc' := 171) rfl (hb hby at_157) rfl ((if0 _ _).trans (feq (fun q => hc157 ((lw_eq _ _).mp q))).2) (by decide) (by decide) ?_
        show Steps p.tables e below (T9.setTop (mkF m 171 #[.val (.long p0), .second, .val (.long p1), .second, .val (.int p2), .val (.int p3), .val (.int p4), .val (.long (281474976710655 : Int64)), .second, .val (.long v9_9), .second, .val (.int v11_16), .val (.int v12_26), .val (.long v13_39), .second, .val (.int v15_45), .val (.int ms0_57), .val (.long ms0_76), .second, .val (.long ms0_107), .second, .val (.long v21_118), .second, .val (.long v23_125), .second, .val (.long v25_133), .second] [])) _
        refine XS.iconst X9.here hx rfl (hb hby at_171) ?_
        have qms0_172 : ms0_172 = (0 : Int32) := by rw [hms0_172, if_neg hc157]
        rw [qms0_172] at k
        exact k
    have hnar : nar .boolean ms0_172 = ms0_172 := by rw [hms0_172]; (repeat' split) <;> rfl
    obtain ⟨fs, hr, hrun, hended, hW, hsame⟩ := X9.leave (v := some (.int ms0_172)) (fun h => by rw [Bd.returns] at h; cases h) (BodyLoose.notSynchronized Bd)
    refine ⟨_, _, pre21 _ ?_, hrun, hended, _, _, rfl, ?_, ⟨_, rfl⟩, hW, hsame.mono (by decide) (by decide)⟩
    · show Steps p.tables e below (T9.setTop (mkF m 172 #[.val (.long p0), .second, .val (.long p1), .second, .val (.int p2), .val (.int p3), .val (.int p4), .val (.long (281474976710655 : Int64)), .second, .val (.long v9_9), .second, .val (.int v11_16), .val (.int v12_26), .val (.long v13_39), .second, .val (.int v15_45), .val (.int ms0_57), .val (.long ms0_76), .second, .val (.long ms0_107), .second, .val (.long v21_118), .second, .val (.long v23_125), .second, .val (.long v25_133), .second] [(.int ms0_172)])) _
      exact retN X9 hx (t := .boolean) Bd.returns (by simp) (hb hby at_172) (by rw [hnar]; exact hr)
    · show Q_0 Z p0 p1 p2 p3 p4 h0 n0 _ T9.heap _
      rw [e9]
      exact ⟨congrArg (fun z => some (Value.int z)) (by subst hv9_9 hv11_16 hv12_26 hv13_39 hv15_45 hms0_57 hms0_76 hms0_107 hv21_118 hv23_125 hv25_133 hms0_172; exact (if_neg hc137).symm : ms0_172 = f_0 p0 p1 p2 p3 p4), N9, trivial⟩
theorem own_pack (a c : Int64) (ha : 0 ≤ a.toInt) (ha2 : a.toInt < 281474976710656) (hc : 0 ≤ c.toInt) (hc2 : c.toInt < 65536) :
    ((((a <<< ((16 : Int32) &&& 0x3f).toInt64) ||| c)).toInt - (a.toInt * 65536 + c.toInt)) % 18446744073709551616 = 0 := by
  have s := c_lshl a 16 16 (by decide)
  have r := rng64 (a <<< ((16 : Int32) &&& 0x3f).toInt64)
  have o := c_orL (a <<< ((16 : Int32) &&& 0x3f).toInt64) c 16 (by decide) 65536 (by decide)
  omega
theorem own_hi (x a : Int64) (c : Int) (h : (x.toInt - (a.toInt * 65536 + c)) % 18446744073709551616 = 0) (ha : 0 ≤ a.toInt) (ha2 : a.toInt < 281474976710656) (hc : 0 ≤ c) (hc2 : c < 65536) : ((x.toUInt64 >>> ((16 : Int32) &&& 0x3f).toInt64.toUInt64).toInt64) = a := by
  have u := c_lushr x 16 16 (by decide) (by decide)
  have r := rng64 x
  apply Int64.toInt_inj.mp
  omega
theorem own_lo (x a c : Int64) (h : (x.toInt - (a.toInt * 65536 + c.toInt)) % 18446744073709551616 = 0) (hc : 0 ≤ c.toInt) (hc2 : c.toInt < 65536) : (x &&& (65535 : Int64)) = c := by
  have u := c_maskL x 65535 16 (by decide) (by decide)
  have r := rng64 x
  apply Int64.toInt_inj.mp
  omega
theorem own_fresh (now : Int64) (k : Int32) (h0 : 0 ≤ now.toInt) (h1 : now.toInt < 281474976710656) (r : Int64) (hr : r = ((now <<< ((16 : Int32) &&& 0x3f).toInt64) ||| (1 : Int64))) : (if ((r.toUInt64 >>> ((16 : Int32) &&& 0x3f).toInt64.toUInt64).toInt64) = now then (if (r &&& (65535 : Int64)) = (1 : Int64) then (1 : Int32) else (0 : Int32)) else (0 : Int32)) = 1 := by
  have l1 : (1 : Int64).toInt = 1 := by decide
  have p := own_pack now 1 h0 h1 (by decide) (by decide)
  rw [← hr] at p
  rw [own_hi r now 1 (by rw [l1] at p; exact p) h0 h1 (by decide) (by decide), own_lo r now 1 p (by decide) (by decide)]
  simp
theorem own_old (S now c : Int64) (k : Int32) (hS : 0 ≤ S.toInt) (hS2 : S.toInt < 281474976710656) (hn : 0 ≤ now.toInt) (hn2 : now.toInt < 281474976710656) (hc : 1 ≤ c.toInt) (hc2 : c.toInt ≤ 65535) (hk : k.toInt ≤ 65534) (M : Int64) (hM : M = ((S <<< ((16 : Int32) &&& 0x3f).toInt64) ||| c)) :
    (if now < (S + (60000 : Int64)) then (if (k.toInt64) < c then (if (f_2 M now k) = M then (1 : Int32) else (0 : Int32)) else (if (((f_2 M now k).toUInt64 >>> ((16 : Int32) &&& 0x3f).toInt64.toUInt64).toInt64) = S then (if ((f_2 M now k) &&& (65535 : Int64)) = (c + (1 : Int64)) then (1 : Int32) else (0 : Int32)) else (0 : Int32))) else (if (((f_2 M now k).toUInt64 >>> ((16 : Int32) &&& 0x3f).toInt64.toUInt64).toInt64) = now then (if ((f_2 M now k) &&& (65535 : Int64)) = (1 : Int64) then (1 : Int32) else (0 : Int32)) else (0 : Int32))) = 1 := by
  have l0 : (0 : Int64).toInt = 0 := by decide
  have l1 : (1 : Int64).toInt = 1 := by decide
  have l6 : (60000 : Int64).toInt = 60000 := by decide
  have p := own_pack S c hS hS2 (by omega) (by omega)
  rw [← hM] at p
  have e1 := own_hi M S c.toInt p hS hS2 (by omega) (by omega)
  have e2 := own_lo M S c p (by omega) (by omega)
  have rM := rng64 M
  have nz : ¬ M = 0 := by rintro rfl; rw [l0] at p; omega
  have i2 := c_i2l k
  have f3 : f_3 M = S + 60000 := by unfold f_3; rw [e1]
  by_cases a : now < S + 60000
  · by_cases b : k.toInt64 < c
    · have f4 : f_4 M k = 0 := by simp only [f_4, e2, b, if_true]
      have f2 : f_2 M now k = M := by simp only [f_2, nz, f3, a, f4, if_true, if_false]
      simp only [a, b, f2, if_true]
    · have f4 : f_4 M k = 1 := by simp only [f_4, e2, b, if_false]
      have n10 : ¬ (1 : Int32) = 0 := by decide
      have f2 : f_2 M now k = M + 1 := by simp only [f_2, nz, f3, a, f4, n10, if_true, if_false]
      have b' := b
      rw [Int64.lt_iff_toInt_lt] at b'
      have q := c_ladd M 1
      rw [l1] at q
      have rq := rng64 (M + 1)
      have q2 := c_ladd c 1
      rw [l1] at q2
      have rq2 := rng64 (c + 1)
      have c1 : (c + 1).toInt = c.toInt + 1 := by omega
      have p' : ((M + 1).toInt - (S.toInt * 65536 + (c + 1).toInt)) % 18446744073709551616 = 0 := by rw [c1]; omega
      have e3 := own_hi (M + 1) S (c + 1).toInt p' hS hS2 (by omega) (by omega)
      have e4 := own_lo (M + 1) S (c + 1) p' (by omega) (by omega)
      simp only [a, b, f2, e3, e4, if_true, if_false]
  · have f2 : f_2 M now k = ((now <<< ((16 : Int32) &&& 0x3f).toInt64) ||| (1 : Int64)) := by simp only [f_2, nz, f3, a, if_false]
    simp only [a, if_false]
    exact own_fresh now k hn hn2 _ f2
set_option maxRecDepth 65536 in
theorem own_law (p0 p1 : Int64) (p2 p3 p4 : Int32) : f_0 p0 p1 p2 p3 p4 = 1 := by
  have a1 := c_maskL p0 281474976710655 48 (by decide) (by decide)
  have a2 := c_maskL p1 281474976710655 48 (by decide) (by decide)
  have a3 := fun z : Int64 => c_maskL z 281474976710655 48 (by decide) (by decide)
  have k1 := c_irem p3 65535 65535 (by decide)
  have rk := rng32 p3
  have k2 : -65534 ≤ (p3 % 65535).toInt ∧ (p3 % 65535).toInt ≤ 65534 := by
    rcases Int.lt_or_le p3.toInt 0 with q | q
    · have := k1.2 q; omega
    · have := k1.1 q; omega
  have l1 : (1 : Int32).toInt = 1 := by decide
  have k3 := c_iadd (p3 % 65535) 1
  have rk3 := rng32 (p3 % 65535 + 1)
  have hh : 1 ≤ (f_1 (1 : Int32) (p3 % 65535 + 1)).toInt ∧ (f_1 (1 : Int32) (p3 % 65535 + 1)).toInt ≤ 65535 := by
    unfold f_1
    by_cases h : (1 : Int32) < p3 % 65535 + 1
    · simp only [h, if_true]
      rw [Int32.lt_iff_toInt_lt] at h
      omega
    · simp only [h, if_false]
      decide
  have m1 := c_mask p2 2147483647 31 (by decide) (by decide)
  have m2 := (c_iremV (p2 &&& 2147483647) (f_1 (1 : Int32) (p3 % 65535 + 1))).1 (by omega) (by omega)
  have m3 := c_iadd 1 ((p2 &&& 2147483647) % (f_1 (1 : Int32) (p3 % 65535 + 1)))
  have rm3 := rng32 (1 + ((p2 &&& 2147483647) % (f_1 (1 : Int32) (p3 % 65535 + 1))))
  have m4 := c_i2l (1 + ((p2 &&& 2147483647) % (f_1 (1 : Int32) (p3 % 65535 + 1))))
  simp only [f_0]
  generalize (p0 &&& 281474976710655) = S at *
  generalize (p3 % 65535) = k at *
  generalize f_1 (1 : Int32) (k + 1) = hi at *
  generalize (1 + ((p2 &&& 2147483647) % hi)).toInt64 = c at *
  have n01 : ¬ (1 : Int32) = 0 := by decide
  by_cases z : (p4 &&& 3) = 0
  · have f2 : ∀ now k, f_2 0 now k = ((now <<< ((16 : Int32) &&& 0x3f).toInt64) ||| (1 : Int64)) := fun _ _ => rfl
    simp only [z, if_true, n01, if_false, f2]
    exact own_fresh (p1 &&& 281474976710655) k (by have := a3 p1; omega) (by have := a3 p1; omega) _ rfl
  · simp only [z, if_true, if_false]
    by_cases z1 : (p4 &&& 3) = 1
    · simp only [z1, if_true]
      exact own_old S (p1 &&& 281474976710655) c k (by omega) (by omega) (by omega) (by omega) (by omega) (by omega) (by omega) _ rfl
    · simp only [z1, if_false]
      have := a3 (S + p1 % 120001)
      exact own_old S ((S + p1 % 120001) &&& 281474976710655) c k (by omega) (by omega) (by omega) (by omega) (by omega) (by omega) (by omega) _ rfl
set_option maxRecDepth 65536 in
set_option maxHeartbeats 40000000 in
theorem comes_1 {Post : Tables → Env → Array Value → State → Outcome → State → Prop} (hpost : ∀ tb e args s v u, (limb_1_1.after args s (.returned v) u = true ∧ limb_1_2.after args s (.returned v) u = true ∧ True) → FrameEnd s (.returned v) u (Jvm.fieldLocs frame_1_writes args s ++ Jvm.arrayLocs frame_1_arrays args s ++ Jvm.staticLocs frame_1_statics s) 0 0 → Post tb e args s (.returned v) u) :
    ArmFor flags0 classFile x code maxLocals ret World_1 tables_1 room_1 Calls_1 rest_1 Pre_1 Post := by
  intro l hfl _ _ p e ha hc hk s m args below hf hA hF happ hP
  obtain ⟨hcalls, hrest, hpre⟩ := hP
  obtain ⟨-, -, -, hnamed, -, -, -, hat⟩ := (Spec.applies_iff hf).mp happ
  obtain ⟨hg, hn⟩ := and_e (Cond.before_iff.mp (show (Jvm.Cond.and given_1 narrow_1).before args s = true from hpre))
  obtain ⟨g0, gt0⟩ := and_e hg
  obtain ⟨ga0, gt1⟩ := and_e gt0
  obtain ⟨ga1, gt2⟩ := and_e gt1
  obtain ⟨ga2, gt3⟩ := and_e gt2
  obtain ⟨ga3, gt4⟩ := and_e gt3
  obtain ⟨w0, w1, w2, w3, w4, rfl⟩ : ∃ w0 w1 w2 w3 w4 : Value, args = #[w0, w1, w2, w3, w4] := by
    have hs : args.size = 5 := by simpa [Cond.value, given_1] using g0
    obtain ⟨L⟩ := args
    match L, hs with
    | [w0, w1, w2, w3, w4], _ => exact ⟨w0, w1, w2, w3, w4, rfl⟩
  have hw := fun d (hd : d ∈ tables_1) => atoms_spec (ws := Jvm.Cond.code x code maxLocals ret :: tables_1) hat d (List.mem_cons_of_mem _ hd)
  have hfit : Fit s := fun {y c} hc i hi => by
    obtain ⟨ha, rfl⟩ := Array.getElem?_eq_some_iff.mp hc
    have q := List.all_eq_true.mp ((Array.all_eq_true_iff_forall_mem.mp hF) _ (Array.getElem_mem ha)) i (List.mem_range.mpr hi)
    simpa [Array.getElem?_eq_getElem hi] using q
  obtain ⟨i0, ei0⟩ := isL_v ga0
  obtain rfl : w0 = (.long i0) := Option.some.inj ei0
  obtain ⟨i1, ei1⟩ := isL_v ga1
  obtain rfl : w1 = (.long i1) := Option.some.inj ei1
  obtain ⟨i2, ei2⟩ := is_v ga2
  obtain rfl : w2 = (.int i2) := Option.some.inj ei2
  obtain ⟨i3, ei3⟩ := is_v ga3
  obtain rfl : w3 = (.int i3) := Option.some.inj ei3
  obtain ⟨i4, ei4⟩ := is_v gt4
  obtain rfl : w4 = (.int i4) := Option.some.inj ei4
  obtain ⟨n, o, h1, h2, h3, _, L, rfl, ⟨rfl, N⟩, hq⟩ := rm_0 l s _ hw tables_1 i0 i1 i2 i3 i4  s.heap s.heap.size (Nat.le_refl _)  p e ha hc hk s m _ below hf ((Spec.applies_iff_loose hf).mp happ).1 ⟨rfl, State.Warmed39.refl s, rfl⟩ trivial
  refine ⟨n, _, h1, h2, h3, hpost _ _ _ _ _ _ ⟨Cond.after_iff.mpr rfl, Cond.after_iff.mpr (eq_i res_at (Term.int_eval (1)) (congrArg Value.int (own_law _ _ _ _ _))), trivial⟩ ⟨hq.1, hq.2.1, (hq.2.2.sift fun y hy => Or.inr (N.1 y hy)).mono (by decide) (by decide)⟩⟩
theorem main_1_1 : Claimed_1_1 := comes_1 fun _ _ _ _ _ _ h hF => ⟨h.1, hF⟩
theorem main_1_2 : Claimed_1_2 := comes_1 fun _ _ _ _ _ _ h hF => ⟨h.2.1, hF⟩
end Jvm.Pilot.@@N@@
namespace Jvm.Pilot.@@N@@
open Jvm Jvm.ClassFile Sem Op Lib Jvm.Free Jvm.Stand Jvm.Pilot.@@N@@.Jvm.D
/-! MADE BY PROGRAM (witnessworld.py) out of the Statement's table words and the real class files: 10 classes; the members and pool entries that the words name. The judged class is class 1, her method 1. -/
namespace start1
open Jvm.ClassFile
def u (s : String) : CpInfo := .utf8 (stringToUtf16 s)
/-- a pool by its gaps: so many unusable entries, then the entry; so many at the end -/
def gap : Nat → List CpInfo → List CpInfo
  | 0, r => r
  | n + 1, r => .unusable :: gap n r
def poolList (es : List (Nat × CpInfo)) (last : Nat) : List CpInfo := es.foldr (fun e r => gap e.1 (e.2 :: r)) (gap last [])
def pool (es : List (Nat × CpInfo)) (last : Nat) : Array CpInfo := ⟨poolList es last⟩
def fileOf (pool : Array CpInfo) (this : Nat) (attrs : Array Attribute := #[]) (ms : Array MethodInfo := #[]) (fl : Nat := 33) (sup : Nat := 0) (ifs : Array Nat := #[]) (fds : Array FieldInfo := #[]) : ClassFile where
  minorVersion := 0
  majorVersion := 65
  constantPool := pool
  accessFlags := fl
  thisClass := this
  superClass := sup
  interfaces := ifs
  fields := fds
  methods := ms
  attributes := attrs
def plain (name : String) (sup : Option ClassId) : Class where
  name := name
  kind := .ordinary
  loader := none
  accessFlags := 33
  super := sup
  interfaces := #[]
  cf := none
  fields := #[]
  methods := #[]
  instanceTypes := #[]
  staticTypes := #[]
  resolved := #[]
  callSites := []
  init := .initialized
  statics := none
  mirror := none

def pool0 : Array CpInfo := pool [(5, u "<init>"), (0, u "()V"), (1, .class_ 10), (1, u "java/lang/Object")] 113

def k0m0 : Method := { name := "<init>", desc := "()V", sig := { parameters := [], returnType := none }, accessFlags := 1, code := none }
/-- java/lang/Object -/
def k0 : Class := { plain "java/lang/Object" none with
  accessFlags := 33
  interfaces := #[]
  cf := some (fileOf pool0 8 #[] #[{ accessFlags := 1, nameIndex := 5, descriptorIndex := 6, attributes := #[] }] 33 0 #[] #[])
  fields := #[]
  methods := #[k0m0]
  instanceTypes := #[]
  staticTypes := #[]
  resolved := Array.replicate 124 none
  statics := none }

def pool1 : Array CpInfo := pool [(2, .class_ 4), (1, u "java/lang/Object"), (0, u "<init>"), (0, u "()V"), (0, .long 281474976710655), (1, .integer 65535), (0, .methodref 11 12), (0, .class_ 13), (0, .nameAndType 14 15), (0, u "java/lang/Math"), (0, u "max"), (0, u "(II)I"), (0, .integer 2147483647), (0, .long 120001), (1, .methodref 20 21), (0, .class_ 22), (0, .nameAndType 23 24), (0, u "com/example/tern/tern/gateway/Minute"), (0, u "withCall"), (0, u "(JJI)J"), (0, .long 65535), (1, .long 60000), (1, .class_ 30), (0, u "com/example/tern/tern/gateway/MinuteWithCallPinLaw"), (2, u "law"), (0, u "(JJIII)Z")] 3

def k1m0 : Method := { name := "<init>", desc := "()V", sig := { parameters := [], returnType := none }, accessFlags := 1, code := none }
def k1c1 : Code := { maxStack := 6, maxLocals := 27, code := code, exceptionTable := #[], attributes := #[] }
def k1m1 : Method := { name := "law", desc := "(JJIII)Z", sig := { parameters := [.long, .long, .int, .int, .int], returnType := some .boolean }, accessFlags := 9, code := some k1c1 }
/-- com/example/tern/tern/gateway/MinuteWithCallPinLaw -/
def k1 : Class := { plain "com/example/tern/tern/gateway/MinuteWithCallPinLaw" (some 0) with
  accessFlags := 49
  interfaces := #[]
  cf := some (fileOf pool1 29 #[] #[{ accessFlags := 1, nameIndex := 5, descriptorIndex := 6, attributes := #[] }, { accessFlags := 9, nameIndex := 33, descriptorIndex := 34, attributes := #[] }] 49 2 #[] #[])
  fields := #[]
  methods := #[k1m0, k1m1]
  instanceTypes := #[]
  staticTypes := #[]
  resolved := Array.replicate 38 none
  statics := none }

def pool2 : Array CpInfo := pool [(1, .class_ 2), (0, u "java/lang/Math"), (1, .class_ 6), (1, u "java/lang/Object"), (0, u "<init>"), (0, u "()V"), (89, .class_ 100), (1, u "java/lang/Math$RandomNumberGeneratorHolder"), (71, u "negativeZeroFloatBits"), (0, u "J"), (2, u "negativeZeroDoubleBits"), (21, u "max"), (46, u "$assertionsDisabled"), (0, u "Z"), (88, u "(II)I"), (2, u "twoToTheDoubleScaleDown"), (0, u "D"), (4, u "twoToTheDoubleScaleUp"), (9, u "E"), (3, u "PI"), (2, u "TAU"), (2, u "DEGREES_TO_RADIANS"), (0, u "RADIANS_TO_DEGREES")] 94

def k2m0 : Method := { name := "<init>", desc := "()V", sig := { parameters := [], returnType := none }, accessFlags := 2, code := none }
def k2c1 : Code := { maxStack := 2, maxLocals := 2, code := jdk_29_method_65_code, exceptionTable := #[], attributes := #[] }
def k2m1 : Method := { name := "max", desc := "(II)I", sig := { parameters := [.int, .int], returnType := some .int }, accessFlags := 9, code := some k2c1 }
/-- java/lang/Math -/
def k2 : Class := { plain "java/lang/Math" (some 0) with
  accessFlags := 49
  interfaces := #[]
  cf := some (fileOf pool2 1 #[.nestMembers #[98]] #[{ accessFlags := 2, nameIndex := 7, descriptorIndex := 8, attributes := #[] }, { accessFlags := 9, nameIndex := 198, descriptorIndex := 335, attributes := #[] }] 49 4 #[] #[{ accessFlags := 25, nameIndex := 354, descriptorIndex := 339, attributes := #[] }, { accessFlags := 25, nameIndex := 358, descriptorIndex := 339, attributes := #[] }, { accessFlags := 25, nameIndex := 361, descriptorIndex := 339, attributes := #[] }, { accessFlags := 26, nameIndex := 364, descriptorIndex := 339, attributes := #[] }, { accessFlags := 26, nameIndex := 365, descriptorIndex := 339, attributes := #[] }, { accessFlags := 26, nameIndex := 172, descriptorIndex := 173, attributes := #[] }, { accessFlags := 26, nameIndex := 176, descriptorIndex := 173, attributes := #[] }, { accessFlags := 8, nameIndex := 344, descriptorIndex := 339, attributes := #[] }, { accessFlags := 8, nameIndex := 338, descriptorIndex := 339, attributes := #[] }, { accessFlags := 4120, nameIndex := 245, descriptorIndex := 246, attributes := #[] }])
  fields := #[{ name := "E", type := .double, accessFlags := 25, slot := 0, constantValue := 0 }, { name := "PI", type := .double, accessFlags := 25, slot := 1, constantValue := 0 }, { name := "TAU", type := .double, accessFlags := 25, slot := 2, constantValue := 0 }, { name := "DEGREES_TO_RADIANS", type := .double, accessFlags := 26, slot := 3, constantValue := 0 }, { name := "RADIANS_TO_DEGREES", type := .double, accessFlags := 26, slot := 4, constantValue := 0 }, { name := "negativeZeroFloatBits", type := .long, accessFlags := 26, slot := 5, constantValue := 0 }, { name := "negativeZeroDoubleBits", type := .long, accessFlags := 26, slot := 6, constantValue := 0 }, { name := "twoToTheDoubleScaleUp", type := .double, accessFlags := 8, slot := 7, constantValue := 0 }, { name := "twoToTheDoubleScaleDown", type := .double, accessFlags := 8, slot := 8, constantValue := 0 }, { name := "$assertionsDisabled", type := .boolean, accessFlags := 4120, slot := 9, constantValue := 0 }]
  methods := #[k2m0, k2m1]
  instanceTypes := #[]
  staticTypes := #[.double, .double, .double, .double, .double, .long, .long, .double, .double, .boolean]
  resolved := Array.replicate 460 none
  statics := none }

def pool3 : Array CpInfo := pool [(1, .class_ 2), (0, u "com/example/tern/tern/gateway/Minute"), (1, .class_ 6), (1, u "java/lang/Object"), (0, u "<init>"), (0, u "()V"), (0, .methodref 1 10), (0, .nameAndType 11 12), (0, u "end"), (0, u "(J)J"), (0, .methodref 1 14), (0, .nameAndType 15 16), (0, u "admits"), (0, u "(JI)Z"), (0, .long 65535), (1, .long 60000), (1, u "LENGTH"), (0, u "J"), (1, u "CALL_BITS"), (0, u "I"), (1, u "CALLS"), (2, u "withCall"), (0, u "(JJI)J")] 3

def k3m0 : Method := { name := "<init>", desc := "()V", sig := { parameters := [], returnType := none }, accessFlags := 2, code := none }
def k3c1 : Code := { maxStack := 4, maxLocals := 5, code := prog_6_method_2_code, exceptionTable := #[], attributes := #[] }
def k3m1 : Method := { name := "withCall", desc := "(JJI)J", sig := { parameters := [.long, .long, .int], returnType := some .long }, accessFlags := 8, code := some k3c1 }
def k3c2 : Code := { maxStack := 4, maxLocals := 3, code := prog_6_method_3_code, exceptionTable := #[], attributes := #[] }
def k3m2 : Method := { name := "admits", desc := "(JI)Z", sig := { parameters := [.long, .int], returnType := some .boolean }, accessFlags := 8, code := some k3c2 }
def k3c3 : Code := { maxStack := 4, maxLocals := 2, code := prog_6_method_4_code, exceptionTable := #[], attributes := #[] }
def k3m3 : Method := { name := "end", desc := "(J)J", sig := { parameters := [.long], returnType := some .long }, accessFlags := 8, code := some k3c3 }
/-- com/example/tern/tern/gateway/Minute -/
def k3 : Class := { plain "com/example/tern/tern/gateway/Minute" (some 0) with
  accessFlags := 48
  interfaces := #[]
  cf := some (fileOf pool3 1 #[] #[{ accessFlags := 2, nameIndex := 7, descriptorIndex := 8, attributes := #[] }, { accessFlags := 8, nameIndex := 30, descriptorIndex := 31, attributes := #[] }, { accessFlags := 8, nameIndex := 15, descriptorIndex := 16, attributes := #[] }, { accessFlags := 8, nameIndex := 11, descriptorIndex := 12, attributes := #[] }] 48 4 #[] #[{ accessFlags := 24, nameIndex := 21, descriptorIndex := 22, attributes := #[] }, { accessFlags := 26, nameIndex := 24, descriptorIndex := 25, attributes := #[] }, { accessFlags := 26, nameIndex := 27, descriptorIndex := 22, attributes := #[] }])
  fields := #[{ name := "LENGTH", type := .long, accessFlags := 24, slot := 0, constantValue := 0 }, { name := "CALL_BITS", type := .int, accessFlags := 26, slot := 1, constantValue := 0 }, { name := "CALLS", type := .long, accessFlags := 26, slot := 2, constantValue := 0 }]
  methods := #[k3m0, k3m1, k3m2, k3m3]
  instanceTypes := #[]
  staticTypes := #[.long, .int, .long]
  resolved := Array.replicate 35 none
  statics := none }

def pool4 : Array CpInfo := pool [(1, u "java/lang/Cloneable"), (0, .class_ 1), (0, u "java/lang/Object"), (0, .class_ 3)] 3

/-- java/lang/Cloneable -/
def k4 : Class := { plain "java/lang/Cloneable" (some 0) with
  accessFlags := 1537
  interfaces := #[]
  cf := some (fileOf pool4 2 #[] #[] 1537 4 #[] #[])
  fields := #[]
  methods := #[]
  instanceTypes := #[]
  staticTypes := #[]
  resolved := Array.replicate 8 none
  statics := none }

def pool5 : Array CpInfo := pool [(1, u "java/io/Serializable"), (0, .class_ 1), (0, u "java/lang/Object"), (0, .class_ 3)] 3

/-- java/io/Serializable -/
def k5 : Class := { plain "java/io/Serializable" (some 0) with
  accessFlags := 1537
  interfaces := #[]
  cf := some (fileOf pool5 2 #[] #[] 1537 4 #[] #[])
  fields := #[]
  methods := #[]
  instanceTypes := #[]
  staticTypes := #[]
  resolved := Array.replicate 8 none
  statics := none }

/-- the primitive byte -/
def k6 : Class := { plain "byte" none with kind := .primitive 'B', accessFlags := 0x411 }
/-- [B -/
def k7 : Class := { plain "[B" (some 0) with kind := .array 6 .byte, interfaces := #[4, 5], accessFlags := 1041 }

/-- the primitive int -/
def k8 : Class := { plain "int" none with kind := .primitive 'I', accessFlags := 0x411 }
/-- [I -/
def k9 : Class := { plain "[I" (some 0) with kind := .array 8 .int, interfaces := #[4, 5], accessFlags := 1041 }

def heap : Heap := #[]
def classes : Array Class := #[k0, k1, k2, k3, k4, k5, k6, k7, k8, k9]
def interned : List (Array UInt16 × Addr) := []
def slotsUsed : Nat := 0
def theMethod : MethodId := ⟨1, 1⟩
def args0 : Array Value := #[.long 5, .long 3, .int 5, .int 3, .int 1]
def aboutOver (below : List Frame) : State where
  vm := { classes := classes, interned := interned.toArray }
  heap := heap
  slotsUsed := slotsUsed
  threads := #[{ frames := .invoking theMethod args0 :: below }]
def below0 : List Frame := [.native { method := ⟨0, 0⟩, args := #[] }]
def about1 : State := aboutOver below0
def p0 : Program := .bare "" "" ""
def e0 : Env := launch0.env 0 0 0
theorem w_frames : about1.frames = Frame.invoking theMethod args0 :: below0 := rfl
set_option maxRecDepth 65536 in
theorem w_args : argsFit about1.vm theMethod args0 = true := by decide +kernel
set_option maxRecDepth 65536 in
theorem w_heap : heapFits about1 = true := by decide +kernel
set_option maxRecDepth 65536 in
theorem w_runnable : about1.curStatus? = some .runnable := by decide +kernel
set_option maxRecDepth 65536 in
theorem w_alone : about1.alone = true := by decide +kernel
set_option maxRecDepth 65536 in
theorem w_named : about1.methodNamed? x = some theMethod := by decide +kernel
set_option maxRecDepth 65536 in
theorem w_hears : about1.hears theMethod below0 = true := by decide +kernel
set_option maxRecDepth 65536 in
theorem w_ripe : about1.ripe theMethod args0 below0 = true := by decide +kernel
theorem w_running : about1.status = .running := rfl
set_option maxRecDepth 65536 in
theorem w_room : about1.hasRoom e0.platform room_1 = true :=
  launch0.hasRoom_least _ room_1 (by decide +kernel) (by decide +kernel) (by decide +kernel) (by decide +kernel) (by decide +kernel) (by decide +kernel)
theorem allAtoms_all (ts : List Jvm.Cond) (a : Array Jvm.Value) (st : Jvm.State) : (allAtoms ts).before a st = ts.all (fun c => c.before a st) := by
  induction ts with
  | nil => rfl
  | cons c t ih =>
    show (Jvm.Cond.and c (allAtoms t)).before a st = _
    rw [Jvm.Cond.before_and, ih, List.all_cons]
def words1 : List Jvm.Cond := Jvm.Cond.code x code maxLocals ret :: tables_1
/-- a 'code' word, met by the world's own term for the bytes: nothing is compared byte by byte -/
theorem code_word {y : MethodName} {bytes : ByteArray} {mx : Nat} {rt : Option FieldType} {a : Array Value} {s : State} {m : MethodId} {meth : Method} {c : Code} (h1 : s.methodNamed? y = some m) (h2 : s.vm.method? m = some meth) (h3 : meth.code = some c) (h4 : c.code = bytes)
    (h5 : (c.maxLocals == mx && c.exceptionTable.isEmpty && decide (c.maxStack ≤ mostOperands) && decide (meth.sig.returnType = rt) && !meth.locks && decide (parseMethodDescriptor y.desc = some meth.sig)) = true) : (Jvm.Cond.code y bytes mx rt).before a s = true := by
  simp only [Bool.and_eq_true, beq_iff_eq, Bool.not_eq_true', decide_eq_true_eq] at h5
  obtain ⟨⟨⟨⟨⟨g1, g2⟩, g3⟩, g4⟩, g5⟩, g6⟩ := h5
  simp [Cond.before, Cond.holds, Cond.value, h1, h2, h3, h4, g1, g2, g3, g4, g5, g6]
def isCode : Jvm.Cond → Bool
  | .code _ _ _ _ => true
  | _ => false
theorem all_split {L : List Jvm.Cond} {P : Jvm.Cond → Bool} (h1 : L.all (fun c => isCode c || P c) = true) (h2 : ∀ c ∈ L.filter isCode, P c = true) : L.all P = true := by
  refine List.all_eq_true.mpr fun c hc => ?_
  have h := List.all_eq_true.mp h1 c hc
  rcases Bool.eq_false_or_eq_true (isCode c) with hi | hi
  · exact h2 c (List.mem_filter.mpr ⟨hc, hi⟩)
  · simpa [hi] using h
set_option maxRecDepth 65536 in
theorem w_c0 : (Jvm.Cond.code x code maxLocals ret).before args0 about1 = true := code_word (m := ⟨1, 1⟩) (meth := k1m1) (c := k1c1) (by decide +kernel) rfl rfl rfl (by decide +kernel)
set_option maxRecDepth 65536 in
theorem w_c1 : (Jvm.Cond.code ({ cls := "java/lang/Math", name := "max", desc := "(II)I" } : Jvm.MethodName) jdk_29_method_65_code (2 : Nat) (Option.some Jvm.ClassFile.FieldType.int)).before args0 about1 = true := code_word (m := ⟨2, 1⟩) (meth := k2m1) (c := k2c1) (by decide +kernel) rfl rfl rfl (by decide +kernel)
set_option maxRecDepth 65536 in
theorem w_c2 : (Jvm.Cond.code ({ cls := "com/example/tern/tern/gateway/Minute", name := "withCall", desc := "(JJI)J" } : Jvm.MethodName) prog_6_method_2_code (5 : Nat) (Option.some Jvm.ClassFile.FieldType.long)).before args0 about1 = true := code_word (m := ⟨3, 1⟩) (meth := k3m1) (c := k3c1) (by decide +kernel) rfl rfl rfl (by decide +kernel)
set_option maxRecDepth 65536 in
theorem w_c3 : (Jvm.Cond.code ({ cls := "com/example/tern/tern/gateway/Minute", name := "end", desc := "(J)J" } : Jvm.MethodName) prog_6_method_4_code (2 : Nat) (Option.some Jvm.ClassFile.FieldType.long)).before args0 about1 = true := code_word (m := ⟨3, 3⟩) (meth := k3m3) (c := k3c3) (by decide +kernel) rfl rfl rfl (by decide +kernel)
set_option maxRecDepth 65536 in
theorem w_c4 : (Jvm.Cond.code ({ cls := "com/example/tern/tern/gateway/Minute", name := "admits", desc := "(JI)Z" } : Jvm.MethodName) prog_6_method_3_code (3 : Nat) (Option.some Jvm.ClassFile.FieldType.boolean)).before args0 about1 = true := code_word (m := ⟨3, 2⟩) (meth := k3m2) (c := k3c2) (by decide +kernel) rfl rfl rfl (by decide +kernel)
def codes1 : List Jvm.Cond := [Jvm.Cond.code x code maxLocals ret, Jvm.Cond.code ({ cls := "java/lang/Math", name := "max", desc := "(II)I" } : Jvm.MethodName) jdk_29_method_65_code (2 : Nat) (Option.some Jvm.ClassFile.FieldType.int), Jvm.Cond.code ({ cls := "com/example/tern/tern/gateway/Minute", name := "withCall", desc := "(JJI)J" } : Jvm.MethodName) prog_6_method_2_code (5 : Nat) (Option.some Jvm.ClassFile.FieldType.long), Jvm.Cond.code ({ cls := "com/example/tern/tern/gateway/Minute", name := "end", desc := "(J)J" } : Jvm.MethodName) prog_6_method_4_code (2 : Nat) (Option.some Jvm.ClassFile.FieldType.long), Jvm.Cond.code ({ cls := "com/example/tern/tern/gateway/Minute", name := "admits", desc := "(JI)Z" } : Jvm.MethodName) prog_6_method_3_code (3 : Nat) (Option.some Jvm.ClassFile.FieldType.boolean)]
set_option maxRecDepth 65536 in
theorem codes_eq : words1.filter isCode = codes1 := rfl
theorem w_codes : ∀ c ∈ words1.filter isCode, c.before args0 about1 = true := by
  rw [codes_eq]
  intro c hc
  simp only [codes1, List.mem_cons, List.not_mem_nil, or_false] at hc
  rcases hc with rfl | rfl | rfl | rfl | rfl
  · exact w_c0
  · exact w_c1
  · exact w_c2
  · exact w_c3
  · exact w_c4
set_option maxRecDepth 65536 in
theorem w_t1 : words1.all (fun c => isCode c || c.before args0 about1) = true := by decide +kernel
theorem w_tables : (allAtoms (Jvm.Cond.code x code maxLocals ret :: tables_1)).before args0 about1 = true := by
  rw [allAtoms_all]
  show words1.all (fun c => c.before args0 about1) = true
  refine all_split ?_ w_codes
  rw [w_t1]
set_option maxRecDepth 65536 in
theorem w_case : (Jvm.Cond.and given_1 narrow_1).before args0 about1 = true := by decide +kernel
theorem w_applies : (headSpec (Jvm.Cond.code x code maxLocals ret :: tables_1) room_1).applies x e0.platform about1 = true :=
  (Spec.applies_iff w_frames).mpr ⟨w_running, w_runnable, w_alone, w_named, w_hears, w_ripe, w_room, w_tables⟩
theorem atStart : AtStart classFile x code maxLocals ret World_1 tables_1 room_1 Calls_1 rest_1 Pre_1 launch0 p0 e0 about1 theMethod args0 below0 :=
  ⟨lists_1, trivial, launch0.admits_env _ _ _, launch0.least_env, fairChoices_fair.cas, fairChoices_fair.clock, w_frames, w_args, w_heap, w_applies, trivial, trivial, w_case⟩
end start1
theorem witness_1 : WitnessClaimed_1 := ⟨start1.p0, start1.e0, start1.about1, start1.theMethod, start1.args0, start1.below0, start1.atStart⟩
end Jvm.Pilot.@@N@@
