import JvmDerived
import JvmDerived.Pilot.@@N@@Statement
import JvmDerived.Pilot.@@N@@Code
set_option linter.unusedVariables false
set_option linter.unusedSimpArgs false
namespace Jvm.RoadKit
open Sem ClassFile Op Lib Jvm.Stand Jvm.Free Jvm.LawKit
section New
variable {p : Program} {l : Launch} {e : Env} {R : Room} {s : State} {m : MethodId} {args : Array Value} {below : List Frame} {meth : Method} {c : Code} {T : State} {locs : List Loc} {cells slots : Nat}
theorem retI (X : Stand p l e R s m args below meth c T locs cells slots) (hx : p.tables.exec = Jvm.exec) {pc : Nat} {Ls : Array Slot} {z : Int32} {rest : List Value} (hret : meth.sig.returnType = some .int) (hd : decode c.code pc = .ok (.ireturn, 1)) {fs : List Frame}
    (hl : ∀ (f : JFrame) (acts : List Action), f.method = m → f.locked = none → f.entered = [] → (doReturn e (T.setTop f) acts (some (.int z))).1 = T.setFrames fs) : Steps p.tables e below (T.setTop (mkF m pc Ls (.int z :: rest))) (T.setFrames fs) := by
  have hm' : T.vm.method? m = some meth := X.method'
  have hn : narrow .int (.int z) = .int z := rfl
  show Steps p.tables e below (T.setTop { method := m, pc := pc, locals := Ls, stack := _ :: rest, locked := none }) _
  jvm_step X.here [X.here.top, hx, hd, hm', hret, hn]
  first | (intro acts; rw [hl _ acts rfl rfl rfl]) | rw [hl _ _ rfl rfl rfl]
  exact Steps.refl _
theorem own_lremM {g : JFrame} {target : State} (X : Stand p l e R s m args below meth c T locs cells slots) (hx : p.tables.exec = Jvm.exec) (hg : g.method = m) {x y : Int64} {rest : List Value} (hd : decode c.code g.pc = .ok (.lrem, 1)) (hs : g.stack = .long y :: .long x :: rest) (hy : y ≠ 0)
    (hr : Steps p.tables e below (T.setTop { g with pc := g.pc + 1, stack := .long (x % y) :: rest }) target) : Steps p.tables e below (T.setTop g) target := by
  have q : x - x / y * y = x % y := lrem_mod x y
  exact XS.lrem X.here hx hg hd hs hy (by rw [q]; exact hr)
end New
end Jvm.RoadKit
namespace Jvm.Pilot.@@N@@
open Jvm Jvm.ClassFile Sem Op Lib Jvm.Free Jvm.Stand Jvm.LawKit Jvm.RoadKit Bundle Jvm.Pilot.@@N@@.Jvm.D
theorem d1_0 : decode prog_6_method_3_code 0 = .ok (.lload_n 0, 1) := by decide +kernel
theorem d1_1 : decode prog_6_method_3_code 1 = .ok (.ldc2_w 17, 3) := by decide +kernel
theorem d1_4 : decode prog_6_method_3_code 4 = .ok (.land, 1) := by decide +kernel
theorem d1_5 : decode prog_6_method_3_code 5 = .ok (.iload_n 2, 1) := by decide +kernel
theorem d1_6 : decode prog_6_method_3_code 6 = .ok (.i2l, 1) := by decide +kernel
theorem d1_7 : decode prog_6_method_3_code 7 = .ok (.lcmp, 1) := by decide +kernel
theorem d1_8 : decode prog_6_method_3_code 8 = .ok (.ifCond .gt 7, 3) := by decide +kernel
theorem d1_11 : decode prog_6_method_3_code 11 = .ok (.iconst 1, 1) := by decide +kernel
theorem d1_12 : decode prog_6_method_3_code 12 = .ok (.goto 4, 3) := by decide +kernel
theorem d1_15 : decode prog_6_method_3_code 15 = .ok (.iconst 0, 1) := by decide +kernel
theorem d1_16 : decode prog_6_method_3_code 16 = .ok (.ireturn, 1) := by decide +kernel
theorem pn_1 : plainName "com/example/tern/tern/gateway/Minute" = true := by first | (simp [plainName, overriddenIn]; done) | decide +kernel
theorem ef_1 (m : MethodId) (p0 : Int64) (p1 : Int32) : entryFrame m #[(.long p0), (.int p1)] 3 = mkF m 0 #[.val (.long p0), .second, .val (.int p1)] [] := by first | (simp [entryFrame, mkF, argsToLocals, Value.category]; done) | rfl
def f_1 (p0 : Int64) (p1 : Int32) : Int32 := let ms0_16 : Int32 := (if (p1.toInt64) < (p0 &&& (65535 : Int64)) then (0 : Int32) else (1 : Int32)); ms0_16
def Q_1 (Z : State) (p0 : Int64) (p1 : Int32)  (h0 : Heap) (n0 : Nat) (v : Option Value) (h : Heap) (L : List Loc) : Prop := v = some (.int (f_1 p0 p1)) ∧ Fr n0 L ∧ h = h0
set_option maxRecDepth 65536 in
set_option maxHeartbeats 40000000 in
theorem rm_1 (l : Launch) (Z : State) (a0 : Array Value) (hw : ∀ d ∈ tables_1, d.before a0 Z = true) (ws : List Jvm.Cond) (p0 : Int64) (p1 : Int32)  (h0 : Heap) (n0 : Nat) (Z0 : n0 ≤ h0.size)  :
    MetFree l (⟨"com/example/tern/tern/gateway/Minute", "admits", "(JI)Z"⟩ : MethodName) (head1 (Jvm.Cond.code (⟨"com/example/tern/tern/gateway/Minute", "admits", "(JI)Z"⟩ : MethodName) prog_6_method_3_code 3 (some .boolean) :: ws) ({ frames := 0, cells := 0, slots := 0, locals := 0 } : Room)) (fun a U => a = #[(.long p0), (.int p1)] ∧ Z.Warmed39 U.vm ∧ U.heap = h0) (fun _ _ _ _ _ => True) (fun _ U o U' => ∃ v L, o = .returned v ∧ Q_1 Z p0 p1 h0 n0 v U'.heap L ∧ FrameEnd U o U' L ({ frames := 0, cells := 0, slots := 0, locals := 0 } : Room).cells ({ frames := 0, cells := 0, slots := 0, locals := 0 } : Room).slots) := by
  refine MetFree.of_bodySF (plainFor_of_name pn_1) hisR ?_
  intro p e s m args below meth c s₁ Bd hml0 hP hK
  obtain ⟨rfl, hZ, hh⟩ := hP
  have hx := Bd.exec
  have hby := Bd.bytes
  have hml : c.maxLocals = 3 := hml0
  have hown : s.vm.findClass "com/example/tern/tern/gateway/Minute" = some m.cls := findClass_of_methodNamed Bd.named
  have hnm := (name_of_methodNamed Bd.named Bd.method).1
  have X0 : Stand p l e ({ frames := 0, cells := 0, slots := 0, locals := 0 } : Room) s m #[(.long p0), (.int p1)] below meth c s₁ [] 0 0 := Stand.of_body Bd
  have e0 : s₁.heap = h0 := by rw [← hh, Bd.state]; rfl
  have N0 := Fr.nil n0
  have K0 : Keep h0 h0 [] := Keep.refl h0 _
  have pre0 : ∀ t, Steps p.tables e below (s₁.setTop (mkF m 0 #[.val (.long p0), .second, .val (.int p1)] [])) t → Steps p.tables e below (s₁.setTop (entryFrame m #[(.long p0), (.int p1)] 3)) t := fun t k => castTop (ef_1 m p0 p1) k
  have pre1 : ∀ t, Steps p.tables e below (s₁.setTop (mkF m 8 #[.val (.long p0), .second, .val (.int p1)] [(.int (lcmpW (p0 &&& (65535 : Int64)) (p1.toInt64)))])) t → Steps p.tables e below (s₁.setTop (entryFrame m #[(.long p0), (.int p1)] 3)) t := by
    intro t k
    refine pre0 t ?_
    show Steps p.tables e below (s₁.setTop (mkF m 0 #[.val (.long p0), .second, .val (.int p1)] [])) _
    refine XS.lloadN X0.here hx rfl (hb hby d1_0) rfl  ?_
    show Steps p.tables e below (s₁.setTop (mkF m 1 #[.val (.long p0), .second, .val (.int p1)] [(.long p0)])) _
    refine X0.ldc2Long hx hown (mvT hZ (hw _ (List.mem_of_getElem? (i := 5) rfl))) (g := (mkF m 1 #[.val (.long p0), .second, .val (.int p1)] [(.long p0)])) rfl (hb hby d1_1) _ ?_
    show Steps p.tables e below (s₁.setTop (mkF m 4 #[.val (.long p0), .second, .val (.int p1)] [(.long (65535 : Int64)), (.long p0)])) _
    refine XS.land X0.here hx rfl (hb hby d1_4) rfl ?_
    show Steps p.tables e below (s₁.setTop (mkF m 5 #[.val (.long p0), .second, .val (.int p1)] [(.long (p0 &&& (65535 : Int64)))])) _
    refine XS.iloadN X0.here hx rfl (hb hby d1_5) rfl  ?_
    show Steps p.tables e below (s₁.setTop (mkF m 6 #[.val (.long p0), .second, .val (.int p1)] [(.int p1), (.long (p0 &&& (65535 : Int64)))])) _
    refine XS.i2l X0.here hx rfl (hb hby d1_6) rfl ?_
    show Steps p.tables e below (s₁.setTop (mkF m 7 #[.val (.long p0), .second, .val (.int p1)] [(.long (p1.toInt64)), (.long (p0 &&& (65535 : Int64)))])) _
    refine XS.lcmp X0.here hx rfl (hb hby d1_7) rfl ?_
    exact k
  obtain ⟨ms0_16, hms0_16⟩ : ∃ z : Int32, z = (if (p1.toInt64) < (p0 &&& (65535 : Int64)) then (0 : Int32) else (1 : Int32)) := ⟨_, rfl⟩
  have pre2 : ∀ t, Steps p.tables e below (s₁.setTop (mkF m 16 #[.val (.long p0), .second, .val (.int p1)] [(.int ms0_16)])) t → Steps p.tables e below (s₁.setTop (entryFrame m #[(.long p0), (.int p1)] 3)) t := by
    intro t k
    refine pre1 t ?_
    by_cases hc8 : (p1.toInt64) < (p0 &&& (65535 : Int64))
    · show Steps p.tables e below (s₁.setTop (mkF m 8 #[.val (.long p0), .second, .val (.int p1)] [(.int (lcmpW (p0 &&& (65535 : Int64)) (p1.toInt64)))])) _
      refine XS.ifYes X0.here hx rfl (pc0 := 8) (pc' := 15) rfl (hb hby d1_8) rfl ((if0 _ _).trans (tlt ((lw_gt _ _).mpr hc8)).2.2.1) (by decide) (by decide) ?_
      show Steps p.tables e below (s₁.setTop (mkF m 15 #[.val (.long p0), .second, .val (.int p1)] [])) _
      refine XS.iconst X0.here hx rfl (hb hby d1_15) ?_
      have qms0_16 : ms0_16 = (0 : Int32) := by rw [hms0_16, if_pos hc8]
      rw [qms0_16] at k
      exact k
    · show Steps p.tables e below (s₁.setTop (mkF m 8 #[.val (.long p0), .second, .val (.int p1)] [(.int (lcmpW (p0 &&& (65535 : Int64)) (p1.toInt64)))])) _
      refine XS.ifNo X0.here hx rfl (hb hby d1_8) rfl ((if0 _ _).trans (flt (fun q => hc8 ((lw_gt _ _).mp q))).2.2.1) ?_
      show Steps p.tables e below (s₁.setTop (mkF m 11 #[.val (.long p0), .second, .val (.int p1)] [])) _
      refine XS.iconst X0.here hx rfl (hb hby d1_11) ?_
      show Steps p.tables e below (s₁.setTop (mkF m 12 #[.val (.long p0), .second, .val (.int p1)] [(.int (1 : Int32))])) _
      refine XS.goto X0.here hx rfl (pc0 := 12) (pc' := 16) rfl (hb hby d1_12) (by decide) (by decide) ?_
      have qms0_16 : ms0_16 = (1 : Int32) := by rw [hms0_16, if_neg hc8]
      rw [qms0_16] at k
      exact k
  have hnar : nar .boolean ms0_16 = ms0_16 := by rw [hms0_16]; (repeat' split) <;> rfl
  obtain ⟨fs, hr, hrun, hended, hW, hsame⟩ := X0.leave (v := some (.int ms0_16)) (fun h => by rw [Bd.returns] at h; cases h)
  refine ⟨_, _, pre2 _ ?_, hrun, hended, _, _, rfl, ?_, ⟨_, rfl⟩, hW, hsame.mono (by decide) (by decide)⟩
  · show Steps p.tables e below (s₁.setTop (mkF m 16 #[.val (.long p0), .second, .val (.int p1)] [(.int ms0_16)])) _
    exact retN X0 hx (t := .boolean) Bd.returns (by simp) (hb hby d1_16) (by rw [hnar]; exact hr)
  · show Q_1 Z p0 p1 h0 n0 _ s₁.heap _
    rw [e0]
    exact ⟨congrArg (fun z => some (Value.int z)) (by subst hms0_16; rfl : ms0_16 = f_1 p0 p1), N0, rfl⟩
theorem pd_0 : parseMethodDescriptor "(JI)Z" = some ⟨[.long, .int], some .boolean⟩ := by decide +kernel
theorem pn_0 : plainName "com/example/tern/tern/gateway/MinuteAdmitsPinLaw" = true := by first | (simp [plainName, overriddenIn]; done) | decide +kernel
theorem ef_0 (m : MethodId) (p0 : Int64) (p1 : Int32) (p2 : Int32) (p3 : Int32) : entryFrame m #[(.long p0), (.int p1), (.int p2), (.int p3)] maxLocals = mkF m 0 #[.val (.long p0), .second, .val (.int p1), .val (.int p2), .val (.int p3), .unset, .unset, .unset, .unset, .unset] [] := by first | (simp [entryFrame, mkF, argsToLocals, Value.category, maxLocals]; done) | rfl
def f_0 (p0 : Int64) (p1 : Int32) (p2 : Int32) (p3 : Int32) : Int32 := let v5_4 : Int32 := (p1 &&& (65535 : Int32)); let m6_32 : Int32 := (if (p3 &&& (1 : Int32)) = (0 : Int32) then ((v5_4 + ((p3 >>> ((1 : Int32) &&& 31)) &&& (3 : Int32))) - (2 : Int32)) else p2); let v7_40 : Int64 := ((p0 <<< ((16 : Int32) &&& 0x3f).toInt64) ||| (v5_4.toInt64)); let ms0_54 : Int32 := (if m6_32 < v5_4 then (0 : Int32) else (1 : Int32)); let ms0_73 : Int32 := (if (f_1 v7_40 m6_32) = ms0_54 then (1 : Int32) else (0 : Int32)); ms0_73
def Q_0 (Z : State) (p0 : Int64) (p1 : Int32) (p2 : Int32) (p3 : Int32)  (h0 : Heap) (n0 : Nat) (v : Option Value) (h : Heap) (L : List Loc) : Prop := v = some (.int (f_0 p0 p1 p2 p3)) ∧ Fr n0 L ∧ True
set_option maxRecDepth 65536 in
set_option maxHeartbeats 40000000 in
theorem rm_0 (l : Launch) (Z : State) (a0 : Array Value) (hw : ∀ d ∈ tables_1, d.before a0 Z = true) (ws : List Jvm.Cond) (p0 : Int64) (p1 : Int32) (p2 : Int32) (p3 : Int32)  (h0 : Heap) (n0 : Nat) (Z0 : n0 ≤ h0.size)  :
    MetFree l x (head1 (Jvm.Cond.code x code maxLocals ret :: ws) room_1) (fun a U => a = #[(.long p0), (.int p1), (.int p2), (.int p3)] ∧ Z.Warmed39 U.vm ∧ U.heap = h0) (fun _ _ _ _ _ => True) (fun _ U o U' => ∃ v L, o = .returned v ∧ Q_0 Z p0 p1 p2 p3 h0 n0 v U'.heap L ∧ FrameEnd U o U' L 0 0) := by
  refine MetFree.of_bodySF (plainFor_of_name pn_0) hisR ?_
  intro p e s m args below meth c s₁ Bd hml0 hP hK
  obtain ⟨rfl, hZ, hh⟩ := hP
  have hx := Bd.exec
  have hby := Bd.bytes
  have hml : c.maxLocals = 10 := hml0
  have hown : s.vm.findClass "com/example/tern/tern/gateway/MinuteAdmitsPinLaw" = some m.cls := findClass_of_methodNamed Bd.named
  have hnm := (name_of_methodNamed Bd.named Bd.method).1
  have X0 : Stand p l e room_1 s m #[(.long p0), (.int p1), (.int p2), (.int p3)] below meth c s₁ [] 0 0 := Stand.of_body Bd
  have e0 : s₁.heap = h0 := by rw [← hh, Bd.state]; rfl
  have N0 := Fr.nil n0
  have K0 : Keep h0 h0 [] := Keep.refl h0 _
  have pre0 : ∀ t, Steps p.tables e below (s₁.setTop (mkF m 0 #[.val (.long p0), .second, .val (.int p1), .val (.int p2), .val (.int p3), .unset, .unset, .unset, .unset, .unset] [])) t → Steps p.tables e below (s₁.setTop (entryFrame m #[(.long p0), (.int p1), (.int p2), (.int p3)] maxLocals)) t := fun t k => castTop (ef_0 m p0 p1 p2 p3) k
  obtain ⟨v5_4, hv5_4⟩ : ∃ z : Int32, z = (p1 &&& (65535 : Int32)) := ⟨_, rfl⟩
  have pre1 : ∀ t, Steps p.tables e below (s₁.setTop (mkF m 10 #[.val (.long p0), .second, .val (.int p1), .val (.int p2), .val (.int p3), .val (.int v5_4), .unset, .unset, .unset, .unset] [(.int (p3 &&& (1 : Int32)))])) t → Steps p.tables e below (s₁.setTop (entryFrame m #[(.long p0), (.int p1), (.int p2), (.int p3)] maxLocals)) t := by
    intro t k
    refine pre0 t ?_
    show Steps p.tables e below (s₁.setTop (mkF m 0 #[.val (.long p0), .second, .val (.int p1), .val (.int p2), .val (.int p3), .unset, .unset, .unset, .unset, .unset] [])) _
    refine XS.iloadN X0.here hx rfl (hb hby at_0) rfl  ?_
    show Steps p.tables e below (s₁.setTop (mkF m 1 #[.val (.long p0), .second, .val (.int p1), .val (.int p2), .val (.int p3), .unset, .unset, .unset, .unset, .unset] [(.int p1)])) _
    refine X0.ldcInt hx hown (mvT hZ (hw _ (List.mem_of_getElem? (i := 0) rfl))) (g := (mkF m 1 #[.val (.long p0), .second, .val (.int p1), .val (.int p2), .val (.int p3), .unset, .unset, .unset, .unset, .unset] [(.int p1)])) rfl (hb hby at_1) _ ?_
    show Steps p.tables e below (s₁.setTop (mkF m 3 #[.val (.long p0), .second, .val (.int p1), .val (.int p2), .val (.int p3), .unset, .unset, .unset, .unset, .unset] [(.int (65535 : Int32)), (.int p1)])) _
    refine XS.iand X0.here hx rfl (hb hby at_3) rfl ?_
    show Steps p.tables e below (s₁.setTop (mkF m 4 #[.val (.long p0), .second, .val (.int p1), .val (.int p2), .val (.int p3), .unset, .unset, .unset, .unset, .unset] [(.int (p1 &&& (65535 : Int32)))])) _
    refine XS.istore X0.here hx rfl (hb hby at_4) rfl (l' := #[.val (.long p0), .second, .val (.int p1), .val (.int p2), .val (.int p3), .val (.int v5_4), .unset, .unset, .unset, .unset]) (by rw [hv5_4]; rfl) ?_
    show Steps p.tables e below (s₁.setTop (mkF m 6 #[.val (.long p0), .second, .val (.int p1), .val (.int p2), .val (.int p3), .val (.int v5_4), .unset, .unset, .unset, .unset] [])) _
    refine XS.iload X0.here hx rfl (hb hby at_6) rfl  ?_
    show Steps p.tables e below (s₁.setTop (mkF m 8 #[.val (.long p0), .second, .val (.int p1), .val (.int p2), .val (.int p3), .val (.int v5_4), .unset, .unset, .unset, .unset] [(.int p3)])) _
    refine XS.iconst X0.here hx rfl (hb hby at_8) ?_
    show Steps p.tables e below (s₁.setTop (mkF m 9 #[.val (.long p0), .second, .val (.int p1), .val (.int p2), .val (.int p3), .val (.int v5_4), .unset, .unset, .unset, .unset] [(.int (1 : Int32)), (.int p3)])) _
    refine XS.iand X0.here hx rfl (hb hby at_9) rfl ?_
    exact k
  obtain ⟨m6_32, hm6_32⟩ : ∃ z : Int32, z = (if (p3 &&& (1 : Int32)) = (0 : Int32) then ((v5_4 + ((p3 >>> ((1 : Int32) &&& 31)) &&& (3 : Int32))) - (2 : Int32)) else p2) := ⟨_, rfl⟩
  have pre2 : ∀ t, Steps p.tables e below (s₁.setTop (mkF m 32 #[.val (.long p0), .second, .val (.int p1), .val (.int p2), .val (.int p3), .val (.int v5_4), .val (.int m6_32), .unset, .unset, .unset] [])) t → Steps p.tables e below (s₁.setTop (entryFrame m #[(.long p0), (.int p1), (.int p2), (.int p3)] maxLocals)) t := by
    intro t k
    refine pre1 t ?_
    by_cases hc10 : (p3 &&& (1 : Int32)) = (0 : Int32)
    · show Steps p.tables e below (s₁.setTop (mkF m 10 #[.val (.long p0), .second, .val (.int p1), .val (.int p2), .val (.int p3), .val (.int v5_4), .unset, .unset, .unset, .unset] [(.int (p3 &&& (1 : Int32)))])) _
      refine XS.ifYes X0.here hx rfl (pc0 := 10) (pc' := 19) rfl (hb hby at_10) rfl ((if0 _ _).trans (teq hc10).1) (by decide) (by decide) ?_
      show Steps p.tables e below (s₁.setTop (mkF m 19 #[.val (.long p0), .second, .val (.int p1), .val (.int p2), .val (.int p3), .val (.int v5_4), .unset, .unset, .unset, .unset] [])) _
      refine XS.iload X0.here hx rfl (hb hby at_19) rfl  ?_
      show Steps p.tables e below (s₁.setTop (mkF m 21 #[.val (.long p0), .second, .val (.int p1), .val (.int p2), .val (.int p3), .val (.int v5_4), .unset, .unset, .unset, .unset] [(.int v5_4)])) _
      refine XS.iload X0.here hx rfl (hb hby at_21) rfl  ?_
      show Steps p.tables e below (s₁.setTop (mkF m 23 #[.val (.long p0), .second, .val (.int p1), .val (.int p2), .val (.int p3), .val (.int v5_4), .unset, .unset, .unset, .unset] [(.int p3), (.int v5_4)])) _
      refine XS.iconst X0.here hx rfl (hb hby at_23) ?_
      show Steps p.tables e below (s₁.setTop (mkF m 24 #[.val (.long p0), .second, .val (.int p1), .val (.int p2), .val (.int p3), .val (.int v5_4), .unset, .unset, .unset, .unset] [(.int (1 : Int32)), (.int p3), (.int v5_4)])) _
      refine XS.ishr X0.here hx rfl (hb hby at_24) rfl ?_
      show Steps p.tables e below (s₁.setTop (mkF m 25 #[.val (.long p0), .second, .val (.int p1), .val (.int p2), .val (.int p3), .val (.int v5_4), .unset, .unset, .unset, .unset] [(.int (p3 >>> ((1 : Int32) &&& 31))), (.int v5_4)])) _
      refine XS.iconst X0.here hx rfl (hb hby at_25) ?_
      show Steps p.tables e below (s₁.setTop (mkF m 26 #[.val (.long p0), .second, .val (.int p1), .val (.int p2), .val (.int p3), .val (.int v5_4), .unset, .unset, .unset, .unset] [(.int (3 : Int32)), (.int (p3 >>> ((1 : Int32) &&& 31))), (.int v5_4)])) _
      refine XS.iand X0.here hx rfl (hb hby at_26) rfl ?_
      show Steps p.tables e below (s₁.setTop (mkF m 27 #[.val (.long p0), .second, .val (.int p1), .val (.int p2), .val (.int p3), .val (.int v5_4), .unset, .unset, .unset, .unset] [(.int ((p3 >>> ((1 : Int32) &&& 31)) &&& (3 : Int32))), (.int v5_4)])) _
      refine XS.iadd X0.here hx rfl (hb hby at_27) rfl ?_
      show Steps p.tables e below (s₁.setTop (mkF m 28 #[.val (.long p0), .second, .val (.int p1), .val (.int p2), .val (.int p3), .val (.int v5_4), .unset, .unset, .unset, .unset] [(.int (v5_4 + ((p3 >>> ((1 : Int32) &&& 31)) &&& (3 : Int32))))])) _
      refine XS.iconst X0.here hx rfl (hb hby at_28) ?_
      show Steps p.tables e below (s₁.setTop (mkF m 29 #[.val (.long p0), .second, .val (.int p1), .val (.int p2), .val (.int p3), .val (.int v5_4), .unset, .unset, .unset, .unset] [(.int (2 : Int32)), (.int (v5_4 + ((p3 >>> ((1 : Int32) &&& 31)) &&& (3 : Int32))))])) _
      refine XS.isub X0.here hx rfl (hb hby at_29) rfl ?_
      show Steps p.tables e below (s₁.setTop (mkF m 30 #[.val (.long p0), .second, .val (.int p1), .val (.int p2), .val (.int p3), .val (.int v5_4), .unset, .unset, .unset, .unset] [(.int ((v5_4 + ((p3 >>> ((1 : Int32) &&& 31)) &&& (3 : Int32))) - (2 : Int32)))])) _
      refine XS.istore X0.here hx rfl (hb hby at_30) rfl (l' := #[.val (.long p0), .second, .val (.int p1), .val (.int p2), .val (.int p3), .val (.int v5_4), .val (.int ((v5_4 + ((p3 >>> ((1 : Int32) &&& 31)) &&& (3 : Int32))) - (2 : Int32))), .unset, .unset, .unset]) rfl ?_
      have qm6_32 : m6_32 = ((v5_4 + ((p3 >>> ((1 : Int32) &&& 31)) &&& (3 : Int32))) - (2 : Int32)) := by rw [hm6_32, if_pos hc10]
      rw [qm6_32] at k
      exact k
    · show Steps p.tables e below (s₁.setTop (mkF m 10 #[.val (.long p0), .second, .val (.int p1), .val (.int p2), .val (.int p3), .val (.int v5_4), .unset, .unset, .unset, .unset] [(.int (p3 &&& (1 : Int32)))])) _
      refine XS.ifNo X0.here hx rfl (hb hby at_10) rfl ((if0 _ _).trans (feq hc10).1) ?_
      show Steps p.tables e below (s₁.setTop (mkF m 13 #[.val (.long p0), .second, .val (.int p1), .val (.int p2), .val (.int p3), .val (.int v5_4), .unset, .unset, .unset, .unset] [])) _
      refine XS.iloadN X0.here hx rfl (hb hby at_13) rfl  ?_
      show Steps p.tables e below (s₁.setTop (mkF m 14 #[.val (.long p0), .second, .val (.int p1), .val (.int p2), .val (.int p3), .val (.int v5_4), .unset, .unset, .unset, .unset] [(.int p2)])) _
      refine XS.istore X0.here hx rfl (hb hby at_14) rfl (l' := #[.val (.long p0), .second, .val (.int p1), .val (.int p2), .val (.int p3), .val (.int v5_4), .val (.int p2), .unset, .unset, .unset]) rfl ?_
      show Steps p.tables e below (s₁.setTop (mkF m 16 #[.val (.long p0), .second, .val (.int p1), .val (.int p2), .val (.int p3), .val (.int v5_4), .val (.int p2), .unset, .unset, .unset] [])) _
      refine XS.goto X0.here hx rfl (pc0 := 16) (pc' := 32) rfl (hb hby at_16) (by decide) (by decide) ?_
      have qm6_32 : m6_32 = p2 := by rw [hm6_32, if_neg hc10]
      rw [qm6_32] at k
      exact k
  obtain ⟨v7_40, hv7_40⟩ : ∃ z : Int64, z = ((p0 <<< ((16 : Int32) &&& 0x3f).toInt64) ||| (v5_4.toInt64)) := ⟨_, rfl⟩
  have pre3 : ∀ t, Steps p.tables e below (s₁.setTop (mkF m 46 #[.val (.long p0), .second, .val (.int p1), .val (.int p2), .val (.int p3), .val (.int v5_4), .val (.int m6_32), .val (.long v7_40), .second, .unset] [(.int m6_32), (.int v5_4)])) t → Steps p.tables e below (s₁.setTop (entryFrame m #[(.long p0), (.int p1), (.int p2), (.int p3)] maxLocals)) t := by
    intro t k
    refine pre2 t ?_
    show Steps p.tables e below (s₁.setTop (mkF m 32 #[.val (.long p0), .second, .val (.int p1), .val (.int p2), .val (.int p3), .val (.int v5_4), .val (.int m6_32), .unset, .unset, .unset] [])) _
    refine XS.lloadN X0.here hx rfl (hb hby at_32) rfl  ?_
    show Steps p.tables e below (s₁.setTop (mkF m 33 #[.val (.long p0), .second, .val (.int p1), .val (.int p2), .val (.int p3), .val (.int v5_4), .val (.int m6_32), .unset, .unset, .unset] [(.long p0)])) _
    refine XS.bipush X0.here hx rfl (hb hby at_33) ?_
    show Steps p.tables e below (s₁.setTop (mkF m 35 #[.val (.long p0), .second, .val (.int p1), .val (.int p2), .val (.int p3), .val (.int v5_4), .val (.int m6_32), .unset, .unset, .unset] [(.int (16 : Int32)), (.long p0)])) _
    refine XS.lshl X0.here hx rfl (hb hby at_35) rfl ?_
    show Steps p.tables e below (s₁.setTop (mkF m 36 #[.val (.long p0), .second, .val (.int p1), .val (.int p2), .val (.int p3), .val (.int v5_4), .val (.int m6_32), .unset, .unset, .unset] [(.long (p0 <<< ((16 : Int32) &&& 0x3f).toInt64))])) _
    refine XS.iload X0.here hx rfl (hb hby at_36) rfl  ?_
    show Steps p.tables e below (s₁.setTop (mkF m 38 #[.val (.long p0), .second, .val (.int p1), .val (.int p2), .val (.int p3), .val (.int v5_4), .val (.int m6_32), .unset, .unset, .unset] [(.int v5_4), (.long (p0 <<< ((16 : Int32) &&& 0x3f).toInt64))])) _
    refine XS.i2l X0.here hx rfl (hb hby at_38) rfl ?_
    show Steps p.tables e below (s₁.setTop (mkF m 39 #[.val (.long p0), .second, .val (.int p1), .val (.int p2), .val (.int p3), .val (.int v5_4), .val (.int m6_32), .unset, .unset, .unset] [(.long (v5_4.toInt64)), (.long (p0 <<< ((16 : Int32) &&& 0x3f).toInt64))])) _
    refine XS.lor X0.here hx rfl (hb hby at_39) rfl ?_
    show Steps p.tables e below (s₁.setTop (mkF m 40 #[.val (.long p0), .second, .val (.int p1), .val (.int p2), .val (.int p3), .val (.int v5_4), .val (.int m6_32), .unset, .unset, .unset] [(.long ((p0 <<< ((16 : Int32) &&& 0x3f).toInt64) ||| (v5_4.toInt64)))])) _
    refine XS.lstore X0.here hx rfl (hb hby at_40) rfl (l' := #[.val (.long p0), .second, .val (.int p1), .val (.int p2), .val (.int p3), .val (.int v5_4), .val (.int m6_32), .val (.long v7_40), .second, .unset]) (by rw [hv7_40]; rfl) ?_
    show Steps p.tables e below (s₁.setTop (mkF m 42 #[.val (.long p0), .second, .val (.int p1), .val (.int p2), .val (.int p3), .val (.int v5_4), .val (.int m6_32), .val (.long v7_40), .second, .unset] [])) _
    refine XS.iload X0.here hx rfl (hb hby at_42) rfl  ?_
    show Steps p.tables e below (s₁.setTop (mkF m 44 #[.val (.long p0), .second, .val (.int p1), .val (.int p2), .val (.int p3), .val (.int v5_4), .val (.int m6_32), .val (.long v7_40), .second, .unset] [(.int v5_4)])) _
    refine XS.iload X0.here hx rfl (hb hby at_44) rfl  ?_
    exact k
  obtain ⟨ms0_54, hms0_54⟩ : ∃ z : Int32, z = (if m6_32 < v5_4 then (0 : Int32) else (1 : Int32)) := ⟨_, rfl⟩
  have pre4 : ∀ t, Steps p.tables e below (s₁.setTop (mkF m 54 #[.val (.long p0), .second, .val (.int p1), .val (.int p2), .val (.int p3), .val (.int v5_4), .val (.int m6_32), .val (.long v7_40), .second, .unset] [(.int ms0_54)])) t → Steps p.tables e below (s₁.setTop (entryFrame m #[(.long p0), (.int p1), (.int p2), (.int p3)] maxLocals)) t := by
    intro t k
    refine pre3 t ?_
    by_cases hc46 : m6_32 < v5_4
    · show Steps p.tables e below (s₁.setTop (mkF m 46 #[.val (.long p0), .second, .val (.int p1), .val (.int p2), .val (.int p3), .val (.int v5_4), .val (.int m6_32), .val (.long v7_40), .second, .unset] [(.int m6_32), (.int v5_4)])) _
      refine XS.icmpYes X0.here hx rfl (pc0 := 46) (pc' := 53) rfl (hb hby at_46) rfl (tlt hc46).2.2.1 (by decide) (by decide) ?_
      show Steps p.tables e below (s₁.setTop (mkF m 53 #[.val (.long p0), .second, .val (.int p1), .val (.int p2), .val (.int p3), .val (.int v5_4), .val (.int m6_32), .val (.long v7_40), .second, .unset] [])) _
      refine XS.iconst X0.here hx rfl (hb hby at_53) ?_
      have qms0_54 : ms0_54 = (0 : Int32) := by rw [hms0_54, if_pos hc46]
      rw [qms0_54] at k
      exact k
    · show Steps p.tables e below (s₁.setTop (mkF m 46 #[.val (.long p0), .second, .val (.int p1), .val (.int p2), .val (.int p3), .val (.int v5_4), .val (.int m6_32), .val (.long v7_40), .second, .unset] [(.int m6_32), (.int v5_4)])) _
      refine XS.icmpNo X0.here hx rfl (hb hby at_46) rfl (flt hc46).2.2.1 ?_
      show Steps p.tables e below (s₁.setTop (mkF m 49 #[.val (.long p0), .second, .val (.int p1), .val (.int p2), .val (.int p3), .val (.int v5_4), .val (.int m6_32), .val (.long v7_40), .second, .unset] [])) _
      refine XS.iconst X0.here hx rfl (hb hby at_49) ?_
      show Steps p.tables e below (s₁.setTop (mkF m 50 #[.val (.long p0), .second, .val (.int p1), .val (.int p2), .val (.int p3), .val (.int v5_4), .val (.int m6_32), .val (.long v7_40), .second, .unset] [(.int (1 : Int32))])) _
      refine XS.goto X0.here hx rfl (pc0 := 50) (pc' := 54) rfl (hb hby at_50) (by decide) (by decide) ?_
      have qms0_54 : ms0_54 = (1 : Int32) := by rw [hms0_54, if_neg hc46]
      rw [qms0_54] at k
      exact k
  have pre6 : ∀ t, Steps p.tables e below (s₁.setTop (mkF m 60 #[.val (.long p0), .second, .val (.int p1), .val (.int p2), .val (.int p3), .val (.int v5_4), .val (.int m6_32), .val (.long v7_40), .second, .val (.int ms0_54)] [(.int m6_32), (.long v7_40)])) t → Steps p.tables e below (s₁.setTop (entryFrame m #[(.long p0), (.int p1), (.int p2), (.int p3)] maxLocals)) t := by
    intro t k
    refine pre4 t ?_
    show Steps p.tables e below (s₁.setTop (mkF m 54 #[.val (.long p0), .second, .val (.int p1), .val (.int p2), .val (.int p3), .val (.int v5_4), .val (.int m6_32), .val (.long v7_40), .second, .unset] [(.int ms0_54)])) _
    refine XS.istore X0.here hx rfl (hb hby at_54) rfl (l' := #[.val (.long p0), .second, .val (.int p1), .val (.int p2), .val (.int p3), .val (.int v5_4), .val (.int m6_32), .val (.long v7_40), .second, .val (.int ms0_54)]) rfl ?_
    show Steps p.tables e below (s₁.setTop (mkF m 56 #[.val (.long p0), .second, .val (.int p1), .val (.int p2), .val (.int p3), .val (.int v5_4), .val (.int m6_32), .val (.long v7_40), .second, .val (.int ms0_54)] [])) _
    refine XS.lload X0.here hx rfl (hb hby at_56) rfl  ?_
    show Steps p.tables e below (s₁.setTop (mkF m 58 #[.val (.long p0), .second, .val (.int p1), .val (.int p2), .val (.int p3), .val (.int v5_4), .val (.int m6_32), .val (.long v7_40), .second, .val (.int ms0_54)] [(.long v7_40)])) _
    refine XS.iload X0.here hx rfl (hb hby at_58) rfl  ?_
    exact k
  obtain ⟨_, _, ⟨T5, L5, k5, n5⟩, -, X5, ⟨Lc5, hQ5, l5, y5, z5⟩, st5⟩ := Jvm.LawKit.callS X0 hx (y := (⟨"com/example/tern/tern/gateway/Minute", "admits", "(JI)Z"⟩ : MethodName)) hown (mvT hZ (hw _ (List.mem_of_getElem? (i := 1) rfl))) (mvT hZ (hw _ (List.mem_of_getElem? (i := 2) rfl))) (mvT hZ (hw _ (List.mem_of_getElem? (i := 3) rfl))) (mvT hZ (hw _ (List.mem_of_getElem? (i := 4) rfl))) (by decide) (backOf (W := 0) (rm_1 l Z a0 hw [] v7_40 m6_32 h0 n0 Z0 ) hZ (hw _ (List.mem_of_getElem? (i := 4) rfl)) (hw _ (List.mem_of_getElem? (i := 3) rfl)) (by decide) (by decide)) (g := (mkF m 60 #[.val (.long p0), .second, .val (.int p1), .val (.int p2), .val (.int p3), .val (.int v5_4), .val (.int m6_32), .val (.long v7_40), .second, .val (.int ms0_54)] [(.int m6_32), (.long v7_40)])) rfl (by rw [hml]; rfl) (argsL := [(.long v7_40), (.int m6_32)]) (rest := []) (lenOf pd_0 rfl) rfl (by show 2 * 0 + _ ≤ _; exact Nat.le_of_eq rfl) (hb hby at_60) (fun _ _ => ⟨rfl, e0, (by decide : 0 + 0 ≤ _), (by decide : 0 + 0 ≤ _)⟩)
  dsimp only [Pt.U, Pt.locs, Pt.cells, Pt.slots] at X5 l5 y5 z5 st5 hQ5
  subst l5 y5 z5
  obtain ⟨rfl, N5q, e5⟩ := hQ5
  have N5 := Fr.app N0 N5q
  have pre7 : ∀ t, Steps p.tables e below (T5.setTop (mkF m 65 #[.val (.long p0), .second, .val (.int p1), .val (.int p2), .val (.int p3), .val (.int v5_4), .val (.int m6_32), .val (.long v7_40), .second, .val (.int ms0_54)] [(.int ms0_54), (.int (f_1 v7_40 m6_32))])) t → Steps p.tables e below (s₁.setTop (entryFrame m #[(.long p0), (.int p1), (.int p2), (.int p3)] maxLocals)) t := by
    intro t k
    refine pre6 t ?_
    show Steps p.tables e below (s₁.setTop (mkF m 60 #[.val (.long p0), .second, .val (.int p1), .val (.int p2), .val (.int p3), .val (.int v5_4), .val (.int m6_32), .val (.long v7_40), .second, .val (.int ms0_54)] [(.int m6_32), (.long v7_40)])) _
    refine st5 _ ?_
    show Steps p.tables e below (T5.setTop (mkF m 63 #[.val (.long p0), .second, .val (.int p1), .val (.int p2), .val (.int p3), .val (.int v5_4), .val (.int m6_32), .val (.long v7_40), .second, .val (.int ms0_54)] [(.int (f_1 v7_40 m6_32))])) _
    refine XS.iload X5.here hx rfl (hb hby at_63) rfl  ?_
    exact k
  obtain ⟨ms0_73, hms0_73⟩ : ∃ z : Int32, z = (if (f_1 v7_40 m6_32) = ms0_54 then (1 : Int32) else (0 : Int32)) := ⟨_, rfl⟩
  have pre8 : ∀ t, Steps p.tables e below (T5.setTop (mkF m 73 #[.val (.long p0), .second, .val (.int p1), .val (.int p2), .val (.int p3), .val (.int v5_4), .val (.int m6_32), .val (.long v7_40), .second, .val (.int ms0_54)] [(.int ms0_73)])) t → Steps p.tables e below (s₁.setTop (entryFrame m #[(.long p0), (.int p1), (.int p2), (.int p3)] maxLocals)) t := by
    intro t k
    refine pre7 t ?_
    by_cases hc65 : (f_1 v7_40 m6_32) = ms0_54
    · show Steps p.tables e below (T5.setTop (mkF m 65 #[.val (.long p0), .second, .val (.int p1), .val (.int p2), .val (.int p3), .val (.int v5_4), .val (.int m6_32), .val (.long v7_40), .second, .val (.int ms0_54)] [(.int ms0_54), (.int (f_1 v7_40 m6_32))])) _
      refine XS.icmpNo X5.here hx rfl (hb hby at_65) rfl (teq hc65).2 ?_
      show Steps p.tables e below (T5.setTop (mkF m 68 #[.val (.long p0), .second, .val (.int p1), .val (.int p2), .val (.int p3), .val (.int v5_4), .val (.int m6_32), .val (.long v7_40), .second, .val (.int ms0_54)] [])) _
      refine XS.iconst X5.here hx rfl (hb hby at_68) ?_
      show Steps p.tables e below (T5.setTop (mkF m 69 #[.val (.long p0), .second, .val (.int p1), .val (.int p2), .val (.int p3), .val (.int v5_4), .val (.int m6_32), .val (.long v7_40), .second, .val (.int ms0_54)] [(.int (1 : Int32))])) _
      refine XS.goto X5.here hx rfl (pc0 := 69) (pc' := 73) rfl (hb hby at_69) (by decide) (by decide) ?_
      have qms0_73 : ms0_73 = (1 : Int32) := by rw [hms0_73, if_pos hc65]
      rw [qms0_73] at k
      exact k
    · show Steps p.tables e below (T5.setTop (mkF m 65 #[.val (.long p0), .second, .val (.int p1), .val (.int p2), .val (.int p3), .val (.int v5_4), .val (.int m6_32), .val (.long v7_40), .second, .val (.int ms0_54)] [(.int ms0_54), (.int (f_1 v7_40 m6_32))])) _
      refine XS.icmpYes X5.here hx rfl (pc0 := 65) (pc' := 72) rfl (hb hby at_65) rfl (feq hc65).2 (by decide) (by decide) ?_
      show Steps p.tables e below (T5.setTop (mkF m 72 #[.val (.long p0), .second, .val (.int p1), .val (.int p2), .val (.int p3), .val (.int v5_4), .val (.int m6_32), .val (.long v7_40), .second, .val (.int ms0_54)] [])) _
      refine XS.iconst X5.here hx rfl (hb hby at_72) ?_
      have qms0_73 : ms0_73 = (0 : Int32) := by rw [hms0_73, if_neg hc65]
      rw [qms0_73] at k
      exact k
  have hnar : nar .boolean ms0_73 = ms0_73 := by rw [hms0_73]; (repeat' split) <;> rfl
  obtain ⟨fs, hr, hrun, hended, hW, hsame⟩ := X5.leave (v := some (.int ms0_73)) (fun h => by rw [Bd.returns] at h; cases h)
  refine ⟨_, _, pre8 _ ?_, hrun, hended, _, _, rfl, ?_, ⟨_, rfl⟩, hW, hsame.mono (by decide) (by decide)⟩
  · show Steps p.tables e below (T5.setTop (mkF m 73 #[.val (.long p0), .second, .val (.int p1), .val (.int p2), .val (.int p3), .val (.int v5_4), .val (.int m6_32), .val (.long v7_40), .second, .val (.int ms0_54)] [(.int ms0_73)])) _
    exact retN X5 hx (t := .boolean) Bd.returns (by simp) (hb hby at_73) (by rw [hnar]; exact hr)
  · show Q_0 Z p0 p1 p2 p3 h0 n0 _ T5.heap _
    rw [e5]
    exact ⟨congrArg (fun z => some (Value.int z)) (by subst hv5_4 hm6_32 hv7_40 hms0_54 hms0_73; rfl : ms0_73 = f_0 p0 p1 p2 p3), N5, trivial⟩
theorem own_eq (a : Int64) (v lim : Int32) (h : (a &&& (65535 : Int64)).toInt = v.toInt) : (if (f_1 a lim) = (if lim < v then (0 : Int32) else (1 : Int32)) then (1 : Int32) else (0 : Int32)) = 1 := by
  have e : (lim.toInt64 < (a &&& (65535 : Int64))) ↔ lim < v := by rw [Int64.lt_iff_toInt_lt, Int32.lt_iff_toInt_lt, h, c_i2l]
  simp only [f_1, e, if_true]
theorem own_law (p0 : Int64) (p1 p2 p3 : Int32) : f_0 p0 p1 p2 p3 = 1 := by
  have a1 := c_mask p1 65535 16 (by decide) (by decide)
  have a2 := c_lshl p0 16 16 (by decide)
  have a3 := c_i2l (p1 &&& 65535)
  have a4 := c_orL (p0 <<< ((16 : Int32) &&& 0x3f).toInt64) ((p1 &&& 65535).toInt64) 16 (by decide) 65536 (by decide)
  have a5 := c_maskL ((p0 <<< ((16 : Int32) &&& 0x3f).toInt64) ||| (p1 &&& 65535).toInt64) 65535 16 (by decide) (by decide)
  exact own_eq _ _ _ (by omega)
set_option maxRecDepth 65536 in
set_option maxHeartbeats 40000000 in
theorem comes_1 {Post : Tables → Env → Array Value → State → Outcome → State → Prop} (hpost : ∀ tb e args s v u, (limb_1_1.after args s (.returned v) u = true ∧ limb_1_2.after args s (.returned v) u = true ∧ True) → FrameEnd s (.returned v) u (Jvm.fieldLocs frame_1_writes args s ++ Jvm.arrayLocs frame_1_arrays args s ++ Jvm.staticLocs frame_1_statics s) 0 0 → Post tb e args s (.returned v) u) :
    ArmFor flags0 classFile x code maxLocals ret World_1 tables_1 room_1 Calls_1 rest_1 Pre_1 Post := by
  intro l hfl _ _ p e ha hc hk s m args below hf hA hF happ hP
  obtain ⟨hcalls, hrest, hpre⟩ := hP
  obtain ⟨-, -, -, hnamed, -, -, -, hat⟩ := (Spec.applies_iff hf).mp happ
  obtain ⟨hg, hn⟩ := and_e (Cond.before_iff.mp (show (Jvm.Cond.and given_1 narrow_1).before args s = true from hpre))
  obtain ⟨g0, gt0⟩ := and_e hg
  obtain ⟨ga0, gt1⟩ := and_e gt0
  obtain ⟨ga1, gt2⟩ := and_e gt1
  obtain ⟨ga2, gt3⟩ := and_e gt2
  obtain ⟨w0, w1, w2, w3, rfl⟩ : ∃ w0 w1 w2 w3 : Value, args = #[w0, w1, w2, w3] := by
    have hs : args.size = 4 := by simpa [Cond.value, given_1] using g0
    obtain ⟨L⟩ := args
    match L, hs with
    | [w0, w1, w2, w3], _ => exact ⟨w0, w1, w2, w3, rfl⟩
  have hw := fun d (hd : d ∈ tables_1) => atoms_spec (ws := Jvm.Cond.code x code maxLocals ret :: tables_1) hat d (List.mem_cons_of_mem _ hd)
  have hfit : Fit s := fun {y c} hc i hi => by
    obtain ⟨ha, rfl⟩ := Array.getElem?_eq_some_iff.mp hc
    have q := List.all_eq_true.mp ((Array.all_eq_true_iff_forall_mem.mp hF) _ (Array.getElem_mem ha)) i (List.mem_range.mpr hi)
    simpa [Array.getElem?_eq_getElem hi] using q
  obtain ⟨i0, ei0⟩ := isL_v ga0
  obtain rfl : w0 = (.long i0) := Option.some.inj ei0
  obtain ⟨i1, ei1⟩ := is_v ga1
  obtain rfl : w1 = (.int i1) := Option.some.inj ei1
  obtain ⟨i2, ei2⟩ := is_v ga2
  obtain rfl : w2 = (.int i2) := Option.some.inj ei2
  obtain ⟨i3, ei3⟩ := is_v gt3
  obtain rfl : w3 = (.int i3) := Option.some.inj ei3
  obtain ⟨n, o, h1, h2, h3, _, L, rfl, ⟨rfl, N⟩, hq⟩ := rm_0 l s _ hw tables_1 i0 i1 i2 i3  s.heap s.heap.size (Nat.le_refl _)  p e ha hc hk s m _ below hf ((Spec.applies_iff_loose hf).mp happ).1 ⟨rfl, State.Warmed39.refl s, rfl⟩ trivial
  refine ⟨n, _, h1, h2, h3, hpost _ _ _ _ _ _ ⟨Cond.after_iff.mpr rfl, Cond.after_iff.mpr (eq_i res_at (Term.int_eval (1)) (congrArg Value.int (own_law _ _ _ _))), trivial⟩ ⟨hq.1, hq.2.1, (hq.2.2.sift fun y hy => Or.inr (N.1 y hy)).mono (by decide) (by decide)⟩⟩
theorem main_1_1 : Claimed_1_1 := comes_1 fun _ _ _ _ _ _ h hF => ⟨h.1, hF⟩
theorem main_1_2 : Claimed_1_2 := comes_1 fun _ _ _ _ _ _ h hF => ⟨h.2.1, hF⟩
end Jvm.Pilot.@@N@@
namespace Jvm.Pilot.@@N@@
open Jvm Jvm.ClassFile Sem Op Lib Jvm.Free Jvm.Stand Jvm.Pilot.@@N@@.Jvm.D
/-! MADE BY PROGRAM (witnessworld.py) out of the Statement's table words and the real class files: 7 classes; the members and pool entries that the words name. The judged class is class 1, her method 1. -/
namespace start1
open Jvm.ClassFile
def u (s : String) : CpInfo := .utf8 (stringToUtf16 s)
/-- a pool by its gaps: so many unusable entries, then the entry; so many at the end -/
def gap : Nat → List CpInfo → List CpInfo
  | 0, r => r
  | n + 1, r => .unusable :: gap n r
def poolList (es : List (Nat × CpInfo)) (last : Nat) : List CpInfo := es.foldr (fun e r => gap e.1 (e.2 :: r)) (gap last [])
def pool (es : List (Nat × CpInfo)) (last : Nat) : Array CpInfo := ⟨poolList es last⟩
def fileOf (pool : Array CpInfo) (this : Nat) (attrs : Array Attribute := #[]) (ms : Array MethodInfo := #[]) (fl : Nat := 33) (sup : Nat := 0) (ifs : Array Nat := #[]) (fds : Array FieldInfo := #[]) : ClassFile where
  minorVersion := 0
  majorVersion := 65
  constantPool := pool
  accessFlags := fl
  thisClass := this
  superClass := sup
  interfaces := ifs
  fields := fds
  methods := ms
  attributes := attrs
def plain (name : String) (sup : Option ClassId) : Class where
  name := name
  kind := .ordinary
  loader := none
  accessFlags := 33
  super := sup
  interfaces := #[]
  cf := none
  fields := #[]
  methods := #[]
  instanceTypes := #[]
  staticTypes := #[]
  resolved := #[]
  callSites := []
  init := .initialized
  statics := none
  mirror := none

def pool0 : Array CpInfo := pool [(5, u "<init>"), (0, u "()V"), (1, .class_ 10), (1, u "java/lang/Object")] 113

def k0m0 : Method := { name := "<init>", desc := "()V", sig := { parameters := [], returnType := none }, accessFlags := 1, code := none }
/-- java/lang/Object -/
def k0 : Class := { plain "java/lang/Object" none with
  accessFlags := 33
  interfaces := #[]
  cf := some (fileOf pool0 8 #[] #[{ accessFlags := 1, nameIndex := 5, descriptorIndex := 6, attributes := #[] }] 33 0 #[] #[])
  fields := #[]
  methods := #[k0m0]
  instanceTypes := #[]
  staticTypes := #[]
  resolved := Array.replicate 124 none
  statics := none }

def pool1 : Array CpInfo := pool [(2, .class_ 4), (1, u "java/lang/Object"), (0, u "<init>"), (0, u "()V"), (0, .integer 65535), (0, .methodref 9 10), (0, .class_ 11), (0, .nameAndType 12 13), (0, u "com/example/tern/tern/gateway/Minute"), (0, u "admits"), (0, u "(JI)Z"), (0, .class_ 15), (0, u "com/example/tern/tern/gateway/MinuteAdmitsPinLaw"), (2, u "law"), (0, u "(JIII)Z")] 3

def k1m0 : Method := { name := "<init>", desc := "()V", sig := { parameters := [], returnType := none }, accessFlags := 2, code := none }
def k1c1 : Code := { maxStack := 4, maxLocals := 10, code := code, exceptionTable := #[], attributes := #[] }
def k1m1 : Method := { name := "law", desc := "(JIII)Z", sig := { parameters := [.long, .int, .int, .int], returnType := some .boolean }, accessFlags := 9, code := some k1c1 }
/-- com/example/tern/tern/gateway/MinuteAdmitsPinLaw -/
def k1 : Class := { plain "com/example/tern/tern/gateway/MinuteAdmitsPinLaw" (some 0) with
  accessFlags := 49
  interfaces := #[]
  cf := some (fileOf pool1 14 #[] #[{ accessFlags := 2, nameIndex := 5, descriptorIndex := 6, attributes := #[] }, { accessFlags := 9, nameIndex := 18, descriptorIndex := 19, attributes := #[] }] 49 2 #[] #[])
  fields := #[]
  methods := #[k1m0, k1m1]
  instanceTypes := #[]
  staticTypes := #[]
  resolved := Array.replicate 23 none
  statics := none }

def pool2 : Array CpInfo := pool [(1, .class_ 2), (0, u "com/example/tern/tern/gateway/Minute"), (1, .class_ 6), (1, u "java/lang/Object"), (0, u "<init>"), (0, u "()V"), (6, u "admits"), (0, u "(JI)Z"), (0, .long 65535), (3, u "LENGTH"), (0, u "J"), (1, u "CALL_BITS"), (0, u "I"), (1, u "CALLS")] 7

def k2m0 : Method := { name := "<init>", desc := "()V", sig := { parameters := [], returnType := none }, accessFlags := 2, code := none }
def k2c1 : Code := { maxStack := 4, maxLocals := 3, code := prog_6_method_3_code, exceptionTable := #[], attributes := #[] }
def k2m1 : Method := { name := "admits", desc := "(JI)Z", sig := { parameters := [.long, .int], returnType := some .boolean }, accessFlags := 8, code := some k2c1 }
/-- com/example/tern/tern/gateway/Minute -/
def k2 : Class := { plain "com/example/tern/tern/gateway/Minute" (some 0) with
  accessFlags := 48
  interfaces := #[]
  cf := some (fileOf pool2 1 #[] #[{ accessFlags := 2, nameIndex := 7, descriptorIndex := 8, attributes := #[] }, { accessFlags := 8, nameIndex := 15, descriptorIndex := 16, attributes := #[] }] 48 4 #[] #[{ accessFlags := 24, nameIndex := 21, descriptorIndex := 22, attributes := #[] }, { accessFlags := 26, nameIndex := 24, descriptorIndex := 25, attributes := #[] }, { accessFlags := 26, nameIndex := 27, descriptorIndex := 22, attributes := #[] }])
  fields := #[{ name := "LENGTH", type := .long, accessFlags := 24, slot := 0, constantValue := 0 }, { name := "CALL_BITS", type := .int, accessFlags := 26, slot := 1, constantValue := 0 }, { name := "CALLS", type := .long, accessFlags := 26, slot := 2, constantValue := 0 }]
  methods := #[k2m0, k2m1]
  instanceTypes := #[]
  staticTypes := #[.long, .int, .long]
  resolved := Array.replicate 35 none
  statics := none }

def pool3 : Array CpInfo := pool [(1, u "java/lang/Cloneable"), (0, .class_ 1), (0, u "java/lang/Object"), (0, .class_ 3)] 3

/-- java/lang/Cloneable -/
def k3 : Class := { plain "java/lang/Cloneable" (some 0) with
  accessFlags := 1537
  interfaces := #[]
  cf := some (fileOf pool3 2 #[] #[] 1537 4 #[] #[])
  fields := #[]
  methods := #[]
  instanceTypes := #[]
  staticTypes := #[]
  resolved := Array.replicate 8 none
  statics := none }

def pool4 : Array CpInfo := pool [(1, u "java/io/Serializable"), (0, .class_ 1), (0, u "java/lang/Object"), (0, .class_ 3)] 3

/-- java/io/Serializable -/
def k4 : Class := { plain "java/io/Serializable" (some 0) with
  accessFlags := 1537
  interfaces := #[]
  cf := some (fileOf pool4 2 #[] #[] 1537 4 #[] #[])
  fields := #[]
  methods := #[]
  instanceTypes := #[]
  staticTypes := #[]
  resolved := Array.replicate 8 none
  statics := none }

/-- the primitive byte -/
def k5 : Class := { plain "byte" none with kind := .primitive 'B', accessFlags := 0x411 }
/-- [B -/
def k6 : Class := { plain "[B" (some 0) with kind := .array 5 .byte, interfaces := #[3, 4], accessFlags := 1041 }

def heap : Heap := #[]
def classes : Array Class := #[k0, k1, k2, k3, k4, k5, k6]
def interned : List (Array UInt16 × Addr) := []
def slotsUsed : Nat := 0
def theMethod : MethodId := ⟨1, 1⟩
def args0 : Array Value := #[.long 5, .int 7, .int 9, .int 3]
def aboutOver (below : List Frame) : State where
  vm := { classes := classes, interned := interned.toArray }
  heap := heap
  slotsUsed := slotsUsed
  threads := #[{ frames := .invoking theMethod args0 :: below }]
def below0 : List Frame := [.native { method := ⟨0, 0⟩, args := #[] }]
def about1 : State := aboutOver below0
def p0 : Program := .bare "" "" ""
def e0 : Env := launch0.env 0 0 0
theorem w_frames : about1.frames = Frame.invoking theMethod args0 :: below0 := rfl
set_option maxRecDepth 65536 in
theorem w_args : argsFit about1.vm theMethod args0 = true := by decide +kernel
set_option maxRecDepth 65536 in
theorem w_heap : heapFits about1 = true := by decide +kernel
set_option maxRecDepth 65536 in
theorem w_runnable : about1.curStatus? = some .runnable := by decide +kernel
set_option maxRecDepth 65536 in
theorem w_alone : about1.alone = true := by decide +kernel
set_option maxRecDepth 65536 in
theorem w_named : about1.methodNamed? x = some theMethod := by decide +kernel
set_option maxRecDepth 65536 in
theorem w_hears : about1.hears theMethod below0 = true := by decide +kernel
set_option maxRecDepth 65536 in
theorem w_ripe : about1.ripe theMethod args0 below0 = true := by decide +kernel
theorem w_running : about1.status = .running := rfl
set_option maxRecDepth 65536 in
theorem w_room : about1.hasRoom e0.platform room_1 = true :=
  launch0.hasRoom_least _ room_1 (by decide +kernel) (by decide +kernel) (by decide +kernel) (by decide +kernel) (by decide +kernel) (by decide +kernel)
theorem allAtoms_all (ts : List Jvm.Cond) (a : Array Jvm.Value) (st : Jvm.State) : (allAtoms ts).before a st = ts.all (fun c => c.before a st) := by
  induction ts with
  | nil => rfl
  | cons c t ih =>
    show (Jvm.Cond.and c (allAtoms t)).before a st = _
    rw [Jvm.Cond.before_and, ih, List.all_cons]
def words1 : List Jvm.Cond := Jvm.Cond.code x code maxLocals ret :: tables_1
/-- a 'code' word, met by the world's own term for the bytes: nothing is compared byte by byte -/
theorem code_word {y : MethodName} {bytes : ByteArray} {mx : Nat} {rt : Option FieldType} {a : Array Value} {s : State} {m : MethodId} {meth : Method} {c : Code} (h1 : s.methodNamed? y = some m) (h2 : s.vm.method? m = some meth) (h3 : meth.code = some c) (h4 : c.code = bytes)
    (h5 : (c.maxLocals == mx && c.exceptionTable.isEmpty && decide (c.maxStack ≤ mostOperands) && decide (meth.sig.returnType = rt) && !meth.locks && decide (parseMethodDescriptor y.desc = some meth.sig)) = true) : (Jvm.Cond.code y bytes mx rt).before a s = true := by
  simp only [Bool.and_eq_true, beq_iff_eq, Bool.not_eq_true', decide_eq_true_eq] at h5
  obtain ⟨⟨⟨⟨⟨g1, g2⟩, g3⟩, g4⟩, g5⟩, g6⟩ := h5
  simp [Cond.before, Cond.holds, Cond.value, h1, h2, h3, h4, g1, g2, g3, g4, g5, g6]
def isCode : Jvm.Cond → Bool
  | .code _ _ _ _ => true
  | _ => false
theorem all_split {L : List Jvm.Cond} {P : Jvm.Cond → Bool} (h1 : L.all (fun c => isCode c || P c) = true) (h2 : ∀ c ∈ L.filter isCode, P c = true) : L.all P = true := by
  refine List.all_eq_true.mpr fun c hc => ?_
  have h := List.all_eq_true.mp h1 c hc
  rcases Bool.eq_false_or_eq_true (isCode c) with hi | hi
  · exact h2 c (List.mem_filter.mpr ⟨hc, hi⟩)
  · simpa [hi] using h
set_option maxRecDepth 65536 in
theorem w_c0 : (Jvm.Cond.code x code maxLocals ret).before args0 about1 = true := code_word (m := ⟨1, 1⟩) (meth := k1m1) (c := k1c1) (by decide +kernel) rfl rfl rfl (by decide +kernel)
set_option maxRecDepth 65536 in
theorem w_c1 : (Jvm.Cond.code ({ cls := "com/example/tern/tern/gateway/Minute", name := "admits", desc := "(JI)Z" } : Jvm.MethodName) prog_6_method_3_code (3 : Nat) (Option.some Jvm.ClassFile.FieldType.boolean)).before args0 about1 = true := code_word (m := ⟨2, 1⟩) (meth := k2m1) (c := k2c1) (by decide +kernel) rfl rfl rfl (by decide +kernel)
def codes1 : List Jvm.Cond := [Jvm.Cond.code x code maxLocals ret, Jvm.Cond.code ({ cls := "com/example/tern/tern/gateway/Minute", name := "admits", desc := "(JI)Z" } : Jvm.MethodName) prog_6_method_3_code (3 : Nat) (Option.some Jvm.ClassFile.FieldType.boolean)]
set_option maxRecDepth 65536 in
theorem codes_eq : words1.filter isCode = codes1 := rfl
theorem w_codes : ∀ c ∈ words1.filter isCode, c.before args0 about1 = true := by
  rw [codes_eq]
  intro c hc
  simp only [codes1, List.mem_cons, List.not_mem_nil, or_false] at hc
  rcases hc with rfl | rfl
  · exact w_c0
  · exact w_c1
set_option maxRecDepth 65536 in
theorem w_t1 : words1.all (fun c => isCode c || c.before args0 about1) = true := by decide +kernel
theorem w_tables : (allAtoms (Jvm.Cond.code x code maxLocals ret :: tables_1)).before args0 about1 = true := by
  rw [allAtoms_all]
  show words1.all (fun c => c.before args0 about1) = true
  refine all_split ?_ w_codes
  rw [w_t1]
set_option maxRecDepth 65536 in
theorem w_case : (Jvm.Cond.and given_1 narrow_1).before args0 about1 = true := by decide +kernel
theorem w_applies : (headSpec (Jvm.Cond.code x code maxLocals ret :: tables_1) room_1).applies x e0.platform about1 = true :=
  (Spec.applies_iff w_frames).mpr ⟨w_running, w_runnable, w_alone, w_named, w_hears, w_ripe, w_room, w_tables⟩
theorem atStart : AtStart classFile x code maxLocals ret World_1 tables_1 room_1 Calls_1 rest_1 Pre_1 launch0 p0 e0 about1 theMethod args0 below0 :=
  ⟨lists_1, trivial, launch0.admits_env _ _ _, launch0.least_env, fairChoices_fair.cas, fairChoices_fair.clock, w_frames, w_args, w_heap, w_applies, trivial, trivial, w_case⟩
end start1
theorem witness_1 : WitnessClaimed_1 := ⟨start1.p0, start1.e0, start1.about1, start1.theMethod, start1.args0, start1.below0, start1.atStart⟩
end Jvm.Pilot.@@N@@
