import JvmDerived
import JvmDerived.Pilot.@@N@@Statement
import JvmDerived.Pilot.@@N@@Code
set_option linter.unusedVariables false
set_option linter.unusedSimpArgs false
namespace Jvm.RoadKit
open Sem ClassFile Op Lib Jvm.Stand Jvm.Free Jvm.LawKit
section New
variable {p : Program} {l : Launch} {e : Env} {R : Room} {s : State} {m : MethodId} {args : Array Value} {below : List Frame} {meth : Method} {c : Code} {T : State} {locs : List Loc} {cells slots : Nat}
theorem retI (X : Stand p l e R s m args below meth c T locs cells slots) (hx : p.tables.exec = Jvm.exec) {pc : Nat} {Ls : Array Slot} {z : Int32} {rest : List Value} (hret : meth.sig.returnType = some .int) (hd : decode c.code pc = .ok (.ireturn, 1)) {fs : List Frame}
    (hl : ∀ (f : JFrame) (acts : List Action), f.method = m → f.locked = none → f.entered = [] → (doReturn e (T.setTop f) acts (some (.int z))).1 = T.setFrames fs) : Steps p.tables e below (T.setTop (mkF m pc Ls (.int z :: rest))) (T.setFrames fs) := by
  have hm' : T.vm.method? m = some meth := X.method'
  have hn : narrow .int (.int z) = .int z := rfl
  show Steps p.tables e below (T.setTop { method := m, pc := pc, locals := Ls, stack := _ :: rest, locked := none }) _
  jvm_step X.here [X.here.top, hx, hd, hm', hret, hn]
  first | (intro acts; rw [hl _ acts rfl rfl rfl]) | rw [hl _ _ rfl rfl rfl]
  exact Steps.refl _
theorem own_lremM {g : JFrame} {target : State} (X : Stand p l e R s m args below meth c T locs cells slots) (hx : p.tables.exec = Jvm.exec) (hg : g.method = m) {x y : Int64} {rest : List Value} (hd : decode c.code g.pc = .ok (.lrem, 1)) (hs : g.stack = .long y :: .long x :: rest) (hy : y ≠ 0)
    (hr : Steps p.tables e below (T.setTop { g with pc := g.pc + 1, stack := .long (x % y) :: rest }) target) : Steps p.tables e below (T.setTop g) target := by
  have q : x - x / y * y = x % y := lrem_mod x y
  exact XS.lrem X.here hx hg hd hs hy (by rw [q]; exact hr)
end New
end Jvm.RoadKit
namespace Jvm.Pilot.@@N@@
open Jvm Jvm.ClassFile Sem Op Lib Jvm.Free Jvm.Stand Jvm.LawKit Jvm.RoadKit Bundle Jvm.Pilot.@@N@@.Jvm.D
theorem d1_0 : decode prog_10_method_3_code 0 = .ok (.lload_n 0, 1) := by decide +kernel
theorem d1_1 : decode prog_10_method_3_code 1 = .ok (.ldc2_w 15, 3) := by decide +kernel
theorem d1_4 : decode prog_10_method_3_code 4 = .ok (.lcmp, 1) := by decide +kernel
theorem d1_5 : decode prog_10_method_3_code 5 = .ok (.ifCond .ge 10, 3) := by decide +kernel
theorem d1_8 : decode prog_10_method_3_code 8 = .ok (.ldc2_w 17, 3) := by decide +kernel
theorem d1_11 : decode prog_10_method_3_code 11 = .ok (.lstore_n 2, 1) := by decide +kernel
theorem d1_12 : decode prog_10_method_3_code 12 = .ok (.goto 24, 3) := by decide +kernel
theorem d1_15 : decode prog_10_method_3_code 15 = .ok (.lload_n 0, 1) := by decide +kernel
theorem d1_16 : decode prog_10_method_3_code 16 = .ok (.ldc2_w 19, 3) := by decide +kernel
theorem d1_19 : decode prog_10_method_3_code 19 = .ok (.lcmp, 1) := by decide +kernel
theorem d1_20 : decode prog_10_method_3_code 20 = .ok (.ifCond .le 10, 3) := by decide +kernel
theorem d1_23 : decode prog_10_method_3_code 23 = .ok (.ldc2_w 21, 3) := by decide +kernel
theorem d1_26 : decode prog_10_method_3_code 26 = .ok (.lstore_n 2, 1) := by decide +kernel
theorem d1_27 : decode prog_10_method_3_code 27 = .ok (.goto 9, 3) := by decide +kernel
theorem d1_30 : decode prog_10_method_3_code 30 = .ok (.lload_n 0, 1) := by decide +kernel
theorem d1_31 : decode prog_10_method_3_code 31 = .ok (.ldc2_w 23, 3) := by decide +kernel
theorem d1_34 : decode prog_10_method_3_code 34 = .ok (.lmul, 1) := by decide +kernel
theorem d1_35 : decode prog_10_method_3_code 35 = .ok (.lstore_n 2, 1) := by decide +kernel
theorem d1_36 : decode prog_10_method_3_code 36 = .ok (.lload_n 2, 1) := by decide +kernel
theorem d1_37 : decode prog_10_method_3_code 37 = .ok (.lreturn, 1) := by decide +kernel
theorem pn_1 : plainName "com/example/admission/admission/FixedWindows" = true := by first | (simp [plainName, overriddenIn]; done) | decide +kernel
theorem ef_1 (m : MethodId) (p0 : Int64) : entryFrame m #[(.long p0)] 4 = mkF m 0 #[.val (.long p0), .second, .unset, .unset] [] := by first | (simp [entryFrame, mkF, argsToLocals, Value.category]; done) | rfl
def f_1 (p0 : Int64) : Int64 := let m2_36 : Int64 := (if p0 < (-9223372036854775 : Int64) then (-9223372036854775808 : Int64) else (if (9223372036854775 : Int64) < p0 then (9223372036854775807 : Int64) else (p0 * (1000 : Int64)))); m2_36
def Q_1 (Z : State) (p0 : Int64)  (h0 : Heap) (n0 : Nat) (v : Option Value) (h : Heap) (L : List Loc) : Prop := v = some (.long (f_1 p0)) ∧ Fr n0 L ∧ h = h0
set_option maxRecDepth 65536 in
set_option maxHeartbeats 40000000 in
theorem rm_1 (l : Launch) (Z : State) (a0 : Array Value) (hw : ∀ d ∈ tables_1, d.before a0 Z = true) (ws : List Jvm.Cond) (p0 : Int64)  (h0 : Heap) (n0 : Nat) (Z0 : n0 ≤ h0.size)  :
    MetFree l (⟨"com/example/admission/admission/FixedWindows", "firstMillis", "(J)J"⟩ : MethodName) (head1 (Jvm.Cond.code (⟨"com/example/admission/admission/FixedWindows", "firstMillis", "(J)J"⟩ : MethodName) prog_10_method_3_code 4 (some .long) :: ws) ({ frames := 0, cells := 0, slots := 0, locals := 0 } : Room)) (fun a U => a = #[(.long p0)] ∧ Z.Warmed39 U.vm ∧ U.heap = h0) (fun _ _ _ _ _ => True) (fun _ U o U' => ∃ v L, o = .returned v ∧ Q_1 Z p0 h0 n0 v U'.heap L ∧ FrameEnd U o U' L ({ frames := 0, cells := 0, slots := 0, locals := 0 } : Room).cells ({ frames := 0, cells := 0, slots := 0, locals := 0 } : Room).slots) := by
  refine MetFree.of_bodySF (plainFor_of_name pn_1) hisR ?_
  intro p e s m args below meth c s₁ Bd hml0 hP hK
  obtain ⟨rfl, hZ, hh⟩ := hP
  have hx := Bd.exec
  have hby := Bd.bytes
  have hml : c.maxLocals = 4 := hml0
  have hown : s.vm.findClass "com/example/admission/admission/FixedWindows" = some m.cls := findClass_of_methodNamed Bd.named
  have hnm := (name_of_methodNamed Bd.named Bd.method).1
  have X0 : Stand p l e ({ frames := 0, cells := 0, slots := 0, locals := 0 } : Room) s m #[(.long p0)] below meth c s₁ [] 0 0 := Stand.of_body Bd
  have e0 : s₁.heap = h0 := by rw [← hh, Bd.state]; rfl
  have N0 := Fr.nil n0
  have K0 : Keep h0 h0 [] := Keep.refl h0 _
  have pre0 : ∀ t, Steps p.tables e below (s₁.setTop (mkF m 0 #[.val (.long p0), .second, .unset, .unset] [])) t → Steps p.tables e below (s₁.setTop (entryFrame m #[(.long p0)] 4)) t := fun t k => castTop (ef_1 m p0) k
  have pre1 : ∀ t, Steps p.tables e below (s₁.setTop (mkF m 5 #[.val (.long p0), .second, .unset, .unset] [(.int (lcmpW p0 (-9223372036854775 : Int64)))])) t → Steps p.tables e below (s₁.setTop (entryFrame m #[(.long p0)] 4)) t := by
    intro t k
    refine pre0 t ?_
    show Steps p.tables e below (s₁.setTop (mkF m 0 #[.val (.long p0), .second, .unset, .unset] [])) _
    refine XS.lloadN X0.here hx rfl (hb hby d1_0) rfl  ?_
    show Steps p.tables e below (s₁.setTop (mkF m 1 #[.val (.long p0), .second, .unset, .unset] [(.long p0)])) _
    refine X0.ldc2Long hx hown (mvT hZ (hw _ (List.mem_of_getElem? (i := 7) rfl))) (g := (mkF m 1 #[.val (.long p0), .second, .unset, .unset] [(.long p0)])) rfl (hb hby d1_1) _ ?_
    show Steps p.tables e below (s₁.setTop (mkF m 4 #[.val (.long p0), .second, .unset, .unset] [(.long (-9223372036854775 : Int64)), (.long p0)])) _
    refine XS.lcmp X0.here hx rfl (hb hby d1_4) rfl ?_
    exact k
  obtain ⟨m2_36, hm2_36⟩ : ∃ z : Int64, z = (if p0 < (-9223372036854775 : Int64) then (-9223372036854775808 : Int64) else (if (9223372036854775 : Int64) < p0 then (9223372036854775807 : Int64) else (p0 * (1000 : Int64)))) := ⟨_, rfl⟩
  have pre2 : ∀ t, Steps p.tables e below (s₁.setTop (mkF m 36 #[.val (.long p0), .second, .val (.long m2_36), .second] [])) t → Steps p.tables e below (s₁.setTop (entryFrame m #[(.long p0)] 4)) t := by
    intro t k
    refine pre1 t ?_
    by_cases hc5 : p0 < (-9223372036854775 : Int64)
    · show Steps p.tables e below (s₁.setTop (mkF m 5 #[.val (.long p0), .second, .unset, .unset] [(.int (lcmpW p0 (-9223372036854775 : Int64)))])) _
      refine XS.ifNo X0.here hx rfl (hb hby d1_5) rfl ((if0 _ _).trans (tlt ((lw_lt _ _).mpr hc5)).2.1) ?_
      show Steps p.tables e below (s₁.setTop (mkF m 8 #[.val (.long p0), .second, .unset, .unset] [])) _
      refine X0.ldc2Long hx hown (mvT hZ (hw _ (List.mem_of_getElem? (i := 11) rfl))) (g := (mkF m 8 #[.val (.long p0), .second, .unset, .unset] [])) rfl (hb hby d1_8) _ ?_
      show Steps p.tables e below (s₁.setTop (mkF m 11 #[.val (.long p0), .second, .unset, .unset] [(.long (-9223372036854775808 : Int64))])) _
      refine XS.lstoreN X0.here hx rfl (hb hby d1_11) rfl (l' := #[.val (.long p0), .second, .val (.long (-9223372036854775808 : Int64)), .second]) rfl ?_
      show Steps p.tables e below (s₁.setTop (mkF m 12 #[.val (.long p0), .second, .val (.long (-9223372036854775808 : Int64)), .second] [])) _
      refine XS.goto X0.here hx rfl (pc0 := 12) (pc' := 36) rfl (hb hby d1_12) (by decide) (by decide) ?_
      have qm2_36 : m2_36 = (-9223372036854775808 : Int64) := by rw [hm2_36, if_pos hc5]
      rw [qm2_36] at k
      exact k
    · show Steps p.tables e below (s₁.setTop (mkF m 5 #[.val (.long p0), .second, .unset, .unset] [(.int (lcmpW p0 (-9223372036854775 : Int64)))])) _
      refine XS.ifYes X0.here hx rfl (pc0 := 5) (pc' := 15) rfl (hb hby d1_5) rfl ((if0 _ _).trans (flt (fun q => hc5 ((lw_lt _ _).mp q))).2.1) (by decide) (by decide) ?_
      show Steps p.tables e below (s₁.setTop (mkF m 15 #[.val (.long p0), .second, .unset, .unset] [])) _
      refine XS.lloadN X0.here hx rfl (hb hby d1_15) rfl  ?_
      show Steps p.tables e below (s₁.setTop (mkF m 16 #[.val (.long p0), .second, .unset, .unset] [(.long p0)])) _
      refine X0.ldc2Long hx hown (mvT hZ (hw _ (List.mem_of_getElem? (i := 8) rfl))) (g := (mkF m 16 #[.val (.long p0), .second, .unset, .unset] [(.long p0)])) rfl (hb hby d1_16) _ ?_
      show Steps p.tables e below (s₁.setTop (mkF m 19 #[.val (.long p0), .second, .unset, .unset] [(.long (9223372036854775 : Int64)), (.long p0)])) _
      refine XS.lcmp X0.here hx rfl (hb hby d1_19) rfl ?_
      by_cases hc20 : (9223372036854775 : Int64) < p0
      · show Steps p.tables e below (s₁.setTop (mkF m 20 #[.val (.long p0), .second, .unset, .unset] [(.int (lcmpW p0 (9223372036854775 : Int64)))])) _
        refine XS.ifNo X0.here hx rfl (hb hby d1_20) rfl ((if0 _ _).trans (tlt ((lw_gt _ _).mpr hc20)).2.2.2) ?_
        show Steps p.tables e below (s₁.setTop (mkF m 23 #[.val (.long p0), .second, .unset, .unset] [])) _
        refine X0.ldc2Long hx hown (mvT hZ (hw _ (List.mem_of_getElem? (i := 14) rfl))) (g := (mkF m 23 #[.val (.long p0), .second, .unset, .unset] [])) rfl (hb hby d1_23) _ ?_
        show Steps p.tables e below (s₁.setTop (mkF m 26 #[.val (.long p0), .second, .unset, .unset] [(.long (9223372036854775807 : Int64))])) _
        refine XS.lstoreN X0.here hx rfl (hb hby d1_26) rfl (l' := #[.val (.long p0), .second, .val (.long (9223372036854775807 : Int64)), .second]) rfl ?_
        show Steps p.tables e below (s₁.setTop (mkF m 27 #[.val (.long p0), .second, .val (.long (9223372036854775807 : Int64)), .second] [])) _
        refine XS.goto X0.here hx rfl (pc0 := 27) (pc' := 36) rfl (hb hby d1_27) (by decide) (by decide) ?_
        have qm2_36 : m2_36 = (9223372036854775807 : Int64) := by rw [hm2_36, if_neg hc5, if_pos hc20]
        rw [qm2_36] at k
        exact k
      · show Steps p.tables e below (s₁.setTop (mkF m 20 #[.val (.long p0), .second, .unset, .unset] [(.int (lcmpW p0 (9223372036854775 : Int64)))])) _
        refine XS.ifYes X0.here hx rfl (pc0 := 20) (pc' := 30) rfl (hb hby d1_20) rfl ((if0 _ _).trans (flt (fun q => hc20 ((lw_gt _ _).mp q))).2.2.2) (by decide) (by decide) ?_
        show Steps p.tables e below (s₁.setTop (mkF m 30 #[.val (.long p0), .second, .unset, .unset] [])) _
        refine XS.lloadN X0.here hx rfl (hb hby d1_30) rfl  ?_
        show Steps p.tables e below (s₁.setTop (mkF m 31 #[.val (.long p0), .second, .unset, .unset] [(.long p0)])) _
        refine X0.ldc2Long hx hown (mvT hZ (hw _ (List.mem_of_getElem? (i := 9) rfl))) (g := (mkF m 31 #[.val (.long p0), .second, .unset, .unset] [(.long p0)])) rfl (hb hby d1_31) _ ?_
        show Steps p.tables e below (s₁.setTop (mkF m 34 #[.val (.long p0), .second, .unset, .unset] [(.long (1000 : Int64)), (.long p0)])) _
        refine XS.lmul X0.here hx rfl (hb hby d1_34) rfl ?_
        show Steps p.tables e below (s₁.setTop (mkF m 35 #[.val (.long p0), .second, .unset, .unset] [(.long (p0 * (1000 : Int64)))])) _
        refine XS.lstoreN X0.here hx rfl (hb hby d1_35) rfl (l' := #[.val (.long p0), .second, .val (.long (p0 * (1000 : Int64))), .second]) rfl ?_
        have qm2_36 : m2_36 = (p0 * (1000 : Int64)) := by rw [hm2_36, if_neg hc5, if_neg hc20]
        rw [qm2_36] at k
        exact k
  obtain ⟨fs, hr, hrun, hended, hW, hsame⟩ := X0.leave (v := some (.long m2_36)) (fun h => by rw [Bd.returns] at h; cases h)
  refine ⟨_, _, pre2 _ ?_, hrun, hended, _, _, rfl, ?_, ⟨_, rfl⟩, hW, hsame.mono (by decide) (by decide)⟩
  · show Steps p.tables e below (s₁.setTop (mkF m 36 #[.val (.long p0), .second, .val (.long m2_36), .second] [])) _
    refine XS.lloadN X0.here hx rfl (hb hby d1_36) rfl  ?_
    show Steps p.tables e below (s₁.setTop (mkF m 37 #[.val (.long p0), .second, .val (.long m2_36), .second] [(.long m2_36)])) _
    exact retOut X0 hx Bd.returns rfl (Or.inr (Or.inl ⟨rfl, rfl, _, rfl⟩)) (hb hby d1_37) hr
  · show Q_1 Z p0 h0 n0 _ s₁.heap _
    rw [e0]
    exact ⟨congrArg (fun z => some (Value.long z)) (by subst hm2_36; rfl : m2_36 = f_1 p0), N0, rfl⟩
theorem pd_0 : parseMethodDescriptor "(J)J" = some ⟨[.long], some .long⟩ := by decide +kernel
theorem pn_0 : plainName "com/example/admission/admission/FixedWindowsFirstMillisPinLaw" = true := by first | (simp [plainName, overriddenIn]; done) | decide +kernel
theorem ef_0 (m : MethodId) (p0 : Int64) (p1 : Int32) : entryFrame m #[(.long p0), (.int p1)] maxLocals = mkF m 0 #[.val (.long p0), .second, .val (.int p1), .unset, .unset, .unset, .unset, .unset, .unset, .unset, .unset] [] := by first | (simp [entryFrame, mkF, argsToLocals, Value.category, maxLocals]; done) | rfl
def f_0 (p0 : Int64) (p1 : Int32) : Int32 := let v3_3 : Int32 := (p1 &&& (3 : Int32)); let m4_59 : Int64 := (if v3_3 = (0 : Int32) then p0 else (if v3_3 = (1 : Int32) then ((9223372036854775 : Int64) + (p0 % (4 : Int64))) else (if v3_3 = (2 : Int32) then ((-9223372036854775 : Int64) + (p0 % (4 : Int64))) else (p0 % (9223372036854775 : Int64))))); let v6_65 : Int64 := (m4_59 * (1000 : Int64)); let ms0_84 : Int32 := (if (v6_65 / (1000 : Int64)) = m4_59 then (1 : Int32) else (0 : Int32)); let m9_118 : Int64 := (if ms0_84 = (0 : Int32) then (if m4_59 < (0 : Int64) then (-9223372036854775808 : Int64) else (9223372036854775807 : Int64)) else v6_65); let ms0_134 : Int32 := (if (f_1 m4_59) = m9_118 then (1 : Int32) else (0 : Int32)); ms0_134
def Q_0 (Z : State) (p0 : Int64) (p1 : Int32)  (h0 : Heap) (n0 : Nat) (v : Option Value) (h : Heap) (L : List Loc) : Prop := v = some (.int (f_0 p0 p1)) ∧ Fr n0 L ∧ True
set_option maxRecDepth 65536 in
set_option maxHeartbeats 40000000 in
theorem rm_0 (l : Launch) (Z : State) (a0 : Array Value) (hw : ∀ d ∈ tables_1, d.before a0 Z = true) (ws : List Jvm.Cond) (p0 : Int64) (p1 : Int32)  (h0 : Heap) (n0 : Nat) (Z0 : n0 ≤ h0.size)  :
    MetFree l x (head1 (Jvm.Cond.code x code maxLocals ret :: ws) room_1) (fun a U => a = #[(.long p0), (.int p1)] ∧ Z.Warmed39 U.vm ∧ U.heap = h0) (fun _ _ _ _ _ => True) (fun _ U o U' => ∃ v L, o = .returned v ∧ Q_0 Z p0 p1 h0 n0 v U'.heap L ∧ FrameEnd U o U' L 0 0) := by
  refine MetFree.of_bodySF (plainFor_of_name pn_0) hisR ?_
  intro p e s m args below meth c s₁ Bd hml0 hP hK
  obtain ⟨rfl, hZ, hh⟩ := hP
  have hx := Bd.exec
  have hby := Bd.bytes
  have hml : c.maxLocals = 11 := hml0
  have hown : s.vm.findClass "com/example/admission/admission/FixedWindowsFirstMillisPinLaw" = some m.cls := findClass_of_methodNamed Bd.named
  have hnm := (name_of_methodNamed Bd.named Bd.method).1
  have X0 : Stand p l e room_1 s m #[(.long p0), (.int p1)] below meth c s₁ [] 0 0 := Stand.of_body Bd
  have e0 : s₁.heap = h0 := by rw [← hh, Bd.state]; rfl
  have N0 := Fr.nil n0
  have K0 : Keep h0 h0 [] := Keep.refl h0 _
  have pre0 : ∀ t, Steps p.tables e below (s₁.setTop (mkF m 0 #[.val (.long p0), .second, .val (.int p1), .unset, .unset, .unset, .unset, .unset, .unset, .unset, .unset] [])) t → Steps p.tables e below (s₁.setTop (entryFrame m #[(.long p0), (.int p1)] maxLocals)) t := fun t k => castTop (ef_0 m p0 p1) k
  obtain ⟨v3_3, hv3_3⟩ : ∃ z : Int32, z = (p1 &&& (3 : Int32)) := ⟨_, rfl⟩
  have pre1 : ∀ t, Steps p.tables e below (s₁.setTop (mkF m 5 #[.val (.long p0), .second, .val (.int p1), .val (.int v3_3), .unset, .unset, .unset, .unset, .unset, .unset, .unset] [(.int v3_3)])) t → Steps p.tables e below (s₁.setTop (entryFrame m #[(.long p0), (.int p1)] maxLocals)) t := by
    intro t k
    refine pre0 t ?_
    show Steps p.tables e below (s₁.setTop (mkF m 0 #[.val (.long p0), .second, .val (.int p1), .unset, .unset, .unset, .unset, .unset, .unset, .unset, .unset] [])) _
    refine XS.iloadN X0.here hx rfl (hb hby at_0) rfl  ?_
    show Steps p.tables e below (s₁.setTop (mkF m 1 #[.val (.long p0), .second, .val (.int p1), .unset, .unset, .unset, .unset, .unset, .unset, .unset, .unset] [(.int p1)])) _
    refine XS.iconst X0.here hx rfl (hb hby at_1) ?_
    show Steps p.tables e below (s₁.setTop (mkF m 2 #[.val (.long p0), .second, .val (.int p1), .unset, .unset, .unset, .unset, .unset, .unset, .unset, .unset] [(.int (3 : Int32)), (.int p1)])) _
    refine XS.iand X0.here hx rfl (hb hby at_2) rfl ?_
    show Steps p.tables e below (s₁.setTop (mkF m 3 #[.val (.long p0), .second, .val (.int p1), .unset, .unset, .unset, .unset, .unset, .unset, .unset, .unset] [(.int (p1 &&& (3 : Int32)))])) _
    refine XS.istoreN X0.here hx rfl (hb hby at_3) rfl (l' := #[.val (.long p0), .second, .val (.int p1), .val (.int v3_3), .unset, .unset, .unset, .unset, .unset, .unset, .unset]) (by rw [hv3_3]; rfl) ?_
    show Steps p.tables e below (s₁.setTop (mkF m 4 #[.val (.long p0), .second, .val (.int p1), .val (.int v3_3), .unset, .unset, .unset, .unset, .unset, .unset, .unset] [])) _
    refine XS.iloadN X0.here hx rfl (hb hby at_4) rfl  ?_
    exact k
  obtain ⟨m4_59, hm4_59⟩ : ∃ z : Int64, z = (if v3_3 = (0 : Int32) then p0 else (if v3_3 = (1 : Int32) then ((9223372036854775 : Int64) + (p0 % (4 : Int64))) else (if v3_3 = (2 : Int32) then ((-9223372036854775 : Int64) + (p0 % (4 : Int64))) else (p0 % (9223372036854775 : Int64))))) := ⟨_, rfl⟩
  have pre2 : ∀ t, Steps p.tables e below (s₁.setTop (mkF m 59 #[.val (.long p0), .second, .val (.int p1), .val (.int v3_3), .val (.long m4_59), .second, .unset, .unset, .unset, .unset, .unset] [])) t → Steps p.tables e below (s₁.setTop (entryFrame m #[(.long p0), (.int p1)] maxLocals)) t := by
    intro t k
    refine pre1 t ?_
    by_cases hc5 : v3_3 = (0 : Int32)
    · show Steps p.tables e below (s₁.setTop (mkF m 5 #[.val (.long p0), .second, .val (.int p1), .val (.int v3_3), .unset, .unset, .unset, .unset, .unset, .unset, .unset] [(.int v3_3)])) _
      refine XS.ifNo X0.here hx rfl (hb hby at_5) rfl ((if0 _ _).trans (teq hc5).2) ?_
      show Steps p.tables e below (s₁.setTop (mkF m 8 #[.val (.long p0), .second, .val (.int p1), .val (.int v3_3), .unset, .unset, .unset, .unset, .unset, .unset, .unset] [])) _
      refine XS.lloadN X0.here hx rfl (hb hby at_8) rfl  ?_
      show Steps p.tables e below (s₁.setTop (mkF m 9 #[.val (.long p0), .second, .val (.int p1), .val (.int v3_3), .unset, .unset, .unset, .unset, .unset, .unset, .unset] [(.long p0)])) _
      refine XS.lstore X0.here hx rfl (hb hby at_9) rfl (l' := #[.val (.long p0), .second, .val (.int p1), .val (.int v3_3), .val (.long p0), .second, .unset, .unset, .unset, .unset, .unset]) rfl ?_
      show Steps p.tables e below (s₁.setTop (mkF m 11 #[.val (.long p0), .second, .val (.int p1), .val (.int v3_3), .val (.long p0), .second, .unset, .unset, .unset, .unset, .unset] [])) _
      refine XS.goto X0.here hx rfl (pc0 := 11) (pc' := 59) rfl (hb hby at_11) (by decide) (by decide) ?_
      have qm4_59 : m4_59 = p0 := by rw [hm4_59, if_pos hc5]
      rw [qm4_59] at k
      exact k
    · show Steps p.tables e below (s₁.setTop (mkF m 5 #[.val (.long p0), .second, .val (.int p1), .val (.int v3_3), .unset, .unset, .unset, .unset, .unset, .unset, .unset] [(.int v3_3)])) _
      refine XS.ifYes X0.here hx rfl (pc0 := 5) (pc' := 14) rfl (hb hby at_5) rfl ((if0 _ _).trans (feq hc5).2) (by decide) (by decide) ?_
      show Steps p.tables e below (s₁.setTop (mkF m 14 #[.val (.long p0), .second, .val (.int p1), .val (.int v3_3), .unset, .unset, .unset, .unset, .unset, .unset, .unset] [])) _
      refine XS.iloadN X0.here hx rfl (hb hby at_14) rfl  ?_
      show Steps p.tables e below (s₁.setTop (mkF m 15 #[.val (.long p0), .second, .val (.int p1), .val (.int v3_3), .unset, .unset, .unset, .unset, .unset, .unset, .unset] [(.int v3_3)])) _
      refine XS.iconst X0.here hx rfl (hb hby at_15) ?_
      by_cases hc16 : v3_3 = (1 : Int32)
      · show Steps p.tables e below (s₁.setTop (mkF m 16 #[.val (.long p0), .second, .val (.int p1), .val (.int v3_3), .unset, .unset, .unset, .unset, .unset, .unset, .unset] [(.int (1 : Int32)), (.int v3_3)])) _
        refine XS.icmpNo X0.here hx rfl (hb hby at_16) rfl (teq hc16).2 ?_
        show Steps p.tables e below (s₁.setTop (mkF m 19 #[.val (.long p0), .second, .val (.int p1), .val (.int v3_3), .unset, .unset, .unset, .unset, .unset, .unset, .unset] [])) _
        refine X0.ldc2Long hx hown (mvT hZ (hw _ (List.mem_of_getElem? (i := 12) rfl))) (g := (mkF m 19 #[.val (.long p0), .second, .val (.int p1), .val (.int v3_3), .unset, .unset, .unset, .unset, .unset, .unset, .unset] [])) rfl (hb hby at_19) _ ?_
        show Steps p.tables e below (s₁.setTop (mkF m 22 #[.val (.long p0), .second, .val (.int p1), .val (.int v3_3), .unset, .unset, .unset, .unset, .unset, .unset, .unset] [(.long (9223372036854775 : Int64))])) _
        refine XS.lloadN X0.here hx rfl (hb hby at_22) rfl  ?_
        show Steps p.tables e below (s₁.setTop (mkF m 23 #[.val (.long p0), .second, .val (.int p1), .val (.int v3_3), .unset, .unset, .unset, .unset, .unset, .unset, .unset] [(.long p0), (.long (9223372036854775 : Int64))])) _
        refine X0.ldc2Long hx hown (mvT hZ (hw _ (List.mem_of_getElem? (i := 1) rfl))) (g := (mkF m 23 #[.val (.long p0), .second, .val (.int p1), .val (.int v3_3), .unset, .unset, .unset, .unset, .unset, .unset, .unset] [(.long p0), (.long (9223372036854775 : Int64))])) rfl (hb hby at_23) _ ?_
        show Steps p.tables e below (s₁.setTop (mkF m 26 #[.val (.long p0), .second, .val (.int p1), .val (.int v3_3), .unset, .unset, .unset, .unset, .unset, .unset, .unset] [(.long (4 : Int64)), (.long p0), (.long (9223372036854775 : Int64))])) _
        refine own_lremM X0 hx rfl (hb hby at_26) rfl (by decide) ?_
        show Steps p.tables e below (s₁.setTop (mkF m 27 #[.val (.long p0), .second, .val (.int p1), .val (.int v3_3), .unset, .unset, .unset, .unset, .unset, .unset, .unset] [(.long (p0 % (4 : Int64))), (.long (9223372036854775 : Int64))])) _
        refine XS.ladd X0.here hx rfl (hb hby at_27) rfl ?_
        show Steps p.tables e below (s₁.setTop (mkF m 28 #[.val (.long p0), .second, .val (.int p1), .val (.int v3_3), .unset, .unset, .unset, .unset, .unset, .unset, .unset] [(.long ((9223372036854775 : Int64) + (p0 % (4 : Int64))))])) _
        refine XS.lstore X0.here hx rfl (hb hby at_28) rfl (l' := #[.val (.long p0), .second, .val (.int p1), .val (.int v3_3), .val (.long ((9223372036854775 : Int64) + (p0 % (4 : Int64)))), .second, .unset, .unset, .unset, .unset, .unset]) rfl ?_
        show Steps p.tables e below (s₁.setTop (mkF m 30 #[.val (.long p0), .second, .val (.int p1), .val (.int v3_3), .val (.long ((9223372036854775 : Int64) + (p0 % (4 : Int64)))), .second, .unset, .unset, .unset, .unset, .unset] [])) _
        refine XS.goto X0.here hx rfl (pc0 := 30) (pc' := 59) rfl (hb hby at_30) (by decide) (by decide) ?_
        have qm4_59 : m4_59 = ((9223372036854775 : Int64) + (p0 % (4 : Int64))) := by rw [hm4_59, if_neg hc5, if_pos hc16]
        rw [qm4_59] at k
        exact k
      · show Steps p.tables e below (s₁.setTop (mkF m 16 #[.val (.long p0), .second, .val (.int p1), .val (.int v3_3), .unset, .unset, .unset, .unset, .unset, .unset, .unset] [(.int (1 : Int32)), (.int v3_3)])) _
        refine XS.icmpYes X0.here hx rfl (pc0 := 16) (pc' := 33) rfl (hb hby at_16) rfl (feq hc16).2 (by decide) (by decide) ?_
        show Steps p.tables e below (s₁.setTop (mkF m 33 #[.val (.long p0), .second, .val (.int p1), .val (.int v3_3), .unset, .unset, .unset, .unset, .unset, .unset, .unset] [])) _
        refine XS.iloadN X0.here hx rfl (hb hby at_33) rfl  ?_
        show Steps p.tables e below (s₁.setTop (mkF m 34 #[.val (.long p0), .second, .val (.int p1), .val (.int v3_3), .unset, .unset, .unset, .unset, .unset, .unset, .unset] [(.int v3_3)])) _
        refine XS.iconst X0.here hx rfl (hb hby at_34) ?_
        by_cases hc35 : v3_3 = (2 : Int32)
        · show Steps p.tables e below (s₁.setTop (mkF m 35 #[.val (.long p0), .second, .val (.int p1), .val (.int v3_3), .unset, .unset, .unset, .unset, .unset, .unset, .unset] [(.int (2 : Int32)), (.int v3_3)])) _
          refine XS.icmpNo X0.here hx rfl (hb hby at_35) rfl (teq hc35).2 ?_
          show Steps p.tables e below (s₁.setTop (mkF m 38 #[.val (.long p0), .second, .val (.int p1), .val (.int v3_3), .unset, .unset, .unset, .unset, .unset, .unset, .unset] [])) _
          refine X0.ldc2Long hx hown (mvT hZ (hw _ (List.mem_of_getElem? (i := 0) rfl))) (g := (mkF m 38 #[.val (.long p0), .second, .val (.int p1), .val (.int v3_3), .unset, .unset, .unset, .unset, .unset, .unset, .unset] [])) rfl (hb hby at_38) _ ?_
          show Steps p.tables e below (s₁.setTop (mkF m 41 #[.val (.long p0), .second, .val (.int p1), .val (.int v3_3), .unset, .unset, .unset, .unset, .unset, .unset, .unset] [(.long (-9223372036854775 : Int64))])) _
          refine XS.lloadN X0.here hx rfl (hb hby at_41) rfl  ?_
          show Steps p.tables e below (s₁.setTop (mkF m 42 #[.val (.long p0), .second, .val (.int p1), .val (.int v3_3), .unset, .unset, .unset, .unset, .unset, .unset, .unset] [(.long p0), (.long (-9223372036854775 : Int64))])) _
          refine X0.ldc2Long hx hown (mvT hZ (hw _ (List.mem_of_getElem? (i := 1) rfl))) (g := (mkF m 42 #[.val (.long p0), .second, .val (.int p1), .val (.int v3_3), .unset, .unset, .unset, .unset, .unset, .unset, .unset] [(.long p0), (.long (-9223372036854775 : Int64))])) rfl (hb hby at_42) _ ?_
          show Steps p.tables e below (s₁.setTop (mkF m 45 #[.val (.long p0), .second, .val (.int p1), .val (.int v3_3), .unset, .unset, .unset, .unset, .unset, .unset, .unset] [(.long (4 : Int64)), (.long p0), (.long (-9223372036854775 : Int64))])) _
          refine own_lremM X0 hx rfl (hb hby at_45) rfl (by decide) ?_
          show Steps p.tables e below (s₁.setTop (mkF m 46 #[.val (.long p0), .second, .val (.int p1), .val (.int v3_3), .unset, .unset, .unset, .unset, .unset, .unset, .unset] [(.long (p0 % (4 : Int64))), (.long (-9223372036854775 : Int64))])) _
          refine XS.ladd X0.here hx rfl (hb hby at_46) rfl ?_
          show Steps p.tables e below (s₁.setTop (mkF m 47 #[.val (.long p0), .second, .val (.int p1), .val (.int v3_3), .unset, .unset, .unset, .unset, .unset, .unset, .unset] [(.long ((-9223372036854775 : Int64) + (p0 % (4 : Int64))))])) _
          refine XS.lstore X0.here hx rfl (hb hby at_47) rfl (l' := #[.val (.long p0), .second, .val (.int p1), .val (.int v3_3), .val (.long ((-9223372036854775 : Int64) + (p0 % (4 : Int64)))), .second, .unset, .unset, .unset, .unset, .unset]) rfl ?_
          show Steps p.tables e below (s₁.setTop (mkF m 49 #[.val (.long p0), .second, .val (.int p1), .val (.int v3_3), .val (.long ((-9223372036854775 : Int64) + (p0 % (4 : Int64)))), .second, .unset, .unset, .unset, .unset, .unset] [])) _
          refine XS.goto X0.here hx rfl (pc0 := 49) (pc' := 59) rfl (hb hby at_49) (by decide) (by decide) ?_
          have qm4_59 : m4_59 = ((-9223372036854775 : Int64) + (p0 % (4 : Int64))) := by rw [hm4_59, if_neg hc5, if_neg hc16, if_pos hc35]
          rw [qm4_59] at k
          exact k
        · show Steps p.tables e below (s₁.setTop (mkF m 35 #[.val (.long p0), .second, .val (.int p1), .val (.int v3_3), .unset, .unset, .unset, .unset, .unset, .unset, .unset] [(.int (2 : Int32)), (.int v3_3)])) _
          refine XS.icmpYes X0.here hx rfl (pc0 := 35) (pc' := 52) rfl (hb hby at_35) rfl (feq hc35).2 (by decide) (by decide) ?_
          show Steps p.tables e below (s₁.setTop (mkF m 52 #[.val (.long p0), .second, .val (.int p1), .val (.int v3_3), .unset, .unset, .unset, .unset, .unset, .unset, .unset] [])) _
          refine XS.lloadN X0.here hx rfl (hb hby at_52) rfl  ?_
          show Steps p.tables e below (s₁.setTop (mkF m 53 #[.val (.long p0), .second, .val (.int p1), .val (.int v3_3), .unset, .unset, .unset, .unset, .unset, .unset, .unset] [(.long p0)])) _
          refine X0.ldc2Long hx hown (mvT hZ (hw _ (List.mem_of_getElem? (i := 12) rfl))) (g := (mkF m 53 #[.val (.long p0), .second, .val (.int p1), .val (.int v3_3), .unset, .unset, .unset, .unset, .unset, .unset, .unset] [(.long p0)])) rfl (hb hby at_53) _ ?_
          show Steps p.tables e below (s₁.setTop (mkF m 56 #[.val (.long p0), .second, .val (.int p1), .val (.int v3_3), .unset, .unset, .unset, .unset, .unset, .unset, .unset] [(.long (9223372036854775 : Int64)), (.long p0)])) _
          refine own_lremM X0 hx rfl (hb hby at_56) rfl (by decide) ?_
          show Steps p.tables e below (s₁.setTop (mkF m 57 #[.val (.long p0), .second, .val (.int p1), .val (.int v3_3), .unset, .unset, .unset, .unset, .unset, .unset, .unset] [(.long (p0 % (9223372036854775 : Int64)))])) _
          refine XS.lstore X0.here hx rfl (hb hby at_57) rfl (l' := #[.val (.long p0), .second, .val (.int p1), .val (.int v3_3), .val (.long (p0 % (9223372036854775 : Int64))), .second, .unset, .unset, .unset, .unset, .unset]) rfl ?_
          have qm4_59 : m4_59 = (p0 % (9223372036854775 : Int64)) := by rw [hm4_59, if_neg hc5, if_neg hc16, if_neg hc35]
          rw [qm4_59] at k
          exact k
  obtain ⟨v6_65, hv6_65⟩ : ∃ z : Int64, z = (m4_59 * (1000 : Int64)) := ⟨_, rfl⟩
  have pre3 : ∀ t, Steps p.tables e below (s₁.setTop (mkF m 76 #[.val (.long p0), .second, .val (.int p1), .val (.int v3_3), .val (.long m4_59), .second, .val (.long v6_65), .second, .unset, .unset, .unset] [(.int (lcmpW (v6_65 / (1000 : Int64)) m4_59))])) t → Steps p.tables e below (s₁.setTop (entryFrame m #[(.long p0), (.int p1)] maxLocals)) t := by
    intro t k
    refine pre2 t ?_
    show Steps p.tables e below (s₁.setTop (mkF m 59 #[.val (.long p0), .second, .val (.int p1), .val (.int v3_3), .val (.long m4_59), .second, .unset, .unset, .unset, .unset, .unset] [])) _
    refine XS.lload X0.here hx rfl (hb hby at_59) rfl  ?_
    show Steps p.tables e below (s₁.setTop (mkF m 61 #[.val (.long p0), .second, .val (.int p1), .val (.int v3_3), .val (.long m4_59), .second, .unset, .unset, .unset, .unset, .unset] [(.long m4_59)])) _
    refine X0.ldc2Long hx hown (mvT hZ (hw _ (List.mem_of_getElem? (i := 2) rfl))) (g := (mkF m 61 #[.val (.long p0), .second, .val (.int p1), .val (.int v3_3), .val (.long m4_59), .second, .unset, .unset, .unset, .unset, .unset] [(.long m4_59)])) rfl (hb hby at_61) _ ?_
    show Steps p.tables e below (s₁.setTop (mkF m 64 #[.val (.long p0), .second, .val (.int p1), .val (.int v3_3), .val (.long m4_59), .second, .unset, .unset, .unset, .unset, .unset] [(.long (1000 : Int64)), (.long m4_59)])) _
    refine XS.lmul X0.here hx rfl (hb hby at_64) rfl ?_
    show Steps p.tables e below (s₁.setTop (mkF m 65 #[.val (.long p0), .second, .val (.int p1), .val (.int v3_3), .val (.long m4_59), .second, .unset, .unset, .unset, .unset, .unset] [(.long (m4_59 * (1000 : Int64)))])) _
    refine XS.lstore X0.here hx rfl (hb hby at_65) rfl (l' := #[.val (.long p0), .second, .val (.int p1), .val (.int v3_3), .val (.long m4_59), .second, .val (.long v6_65), .second, .unset, .unset, .unset]) (by rw [hv6_65]; rfl) ?_
    show Steps p.tables e below (s₁.setTop (mkF m 67 #[.val (.long p0), .second, .val (.int p1), .val (.int v3_3), .val (.long m4_59), .second, .val (.long v6_65), .second, .unset, .unset, .unset] [])) _
    refine XS.lload X0.here hx rfl (hb hby at_67) rfl  ?_
    show Steps p.tables e below (s₁.setTop (mkF m 69 #[.val (.long p0), .second, .val (.int p1), .val (.int v3_3), .val (.long m4_59), .second, .val (.long v6_65), .second, .unset, .unset, .unset] [(.long v6_65)])) _
    refine X0.ldc2Long hx hown (mvT hZ (hw _ (List.mem_of_getElem? (i := 2) rfl))) (g := (mkF m 69 #[.val (.long p0), .second, .val (.int p1), .val (.int v3_3), .val (.long m4_59), .second, .val (.long v6_65), .second, .unset, .unset, .unset] [(.long v6_65)])) rfl (hb hby at_69) _ ?_
    show Steps p.tables e below (s₁.setTop (mkF m 72 #[.val (.long p0), .second, .val (.int p1), .val (.int v3_3), .val (.long m4_59), .second, .val (.long v6_65), .second, .unset, .unset, .unset] [(.long (1000 : Int64)), (.long v6_65)])) _
    refine XS.ldiv X0.here hx rfl (hb hby at_72) rfl (by decide) ?_
    show Steps p.tables e below (s₁.setTop (mkF m 73 #[.val (.long p0), .second, .val (.int p1), .val (.int v3_3), .val (.long m4_59), .second, .val (.long v6_65), .second, .unset, .unset, .unset] [(.long (v6_65 / (1000 : Int64)))])) _
    refine XS.lload X0.here hx rfl (hb hby at_73) rfl  ?_
    show Steps p.tables e below (s₁.setTop (mkF m 75 #[.val (.long p0), .second, .val (.int p1), .val (.int v3_3), .val (.long m4_59), .second, .val (.long v6_65), .second, .unset, .unset, .unset] [(.long m4_59), (.long (v6_65 / (1000 : Int64)))])) _
    refine XS.lcmp X0.here hx rfl (hb hby at_75) rfl ?_
    exact k
  obtain ⟨ms0_84, hms0_84⟩ : ∃ z : Int32, z = (if (v6_65 / (1000 : Int64)) = m4_59 then (1 : Int32) else (0 : Int32)) := ⟨_, rfl⟩
  have pre4 : ∀ t, Steps p.tables e below (s₁.setTop (mkF m 84 #[.val (.long p0), .second, .val (.int p1), .val (.int v3_3), .val (.long m4_59), .second, .val (.long v6_65), .second, .unset, .unset, .unset] [(.int ms0_84)])) t → Steps p.tables e below (s₁.setTop (entryFrame m #[(.long p0), (.int p1)] maxLocals)) t := by
    intro t k
    refine pre3 t ?_
    by_cases hc76 : (v6_65 / (1000 : Int64)) = m4_59
    · show Steps p.tables e below (s₁.setTop (mkF m 76 #[.val (.long p0), .second, .val (.int p1), .val (.int v3_3), .val (.long m4_59), .second, .val (.long v6_65), .second, .unset, .unset, .unset] [(.int (lcmpW (v6_65 / (1000 : Int64)) m4_59))])) _
      refine XS.ifNo X0.here hx rfl (hb hby at_76) rfl ((if0 _ _).trans (teq ((lw_eq _ _).mpr hc76)).2) ?_
      show Steps p.tables e below (s₁.setTop (mkF m 79 #[.val (.long p0), .second, .val (.int p1), .val (.int v3_3), .val (.long m4_59), .second, .val (.long v6_65), .second, .unset, .unset, .unset] [])) _
      refine XS.iconst X0.here hx rfl (hb hby at_79) ?_
      show Steps p.tables e below (s₁.setTop (mkF m 80 #[.val (.long p0), .second, .val (.int p1), .val (.int v3_3), .val (.long m4_59), .second, .val (.long v6_65), .second, .unset, .unset, .unset] [(.int (1 : Int32))])) _
      refine XS.goto X0.here hx rfl (pc0 := 80) (pc' := 84) rfl (hb hby at_80) (by decide) (by decide) ?_
      have qms0_84 : ms0_84 = (1 : Int32) := by rw [hms0_84, if_pos hc76]
      rw [qms0_84] at k
      exact k
    · show Steps p.tables e below (s₁.setTop (mkF m 76 #[.val (.long p0), .second, .val (.int p1), .val (.int v3_3), .val (.long m4_59), .second, .val (.long v6_65), .second, .unset, .unset, .unset] [(.int (lcmpW (v6_65 / (1000 : Int64)) m4_59))])) _
      refine XS.ifYes X0.here hx rfl (pc0 := 76) (pc' := 83) rfl (hb hby at_76) rfl ((if0 _ _).trans (feq (fun q => hc76 ((lw_eq _ _).mp q))).2) (by decide) (by decide) ?_
      show Steps p.tables e below (s₁.setTop (mkF m 83 #[.val (.long p0), .second, .val (.int p1), .val (.int v3_3), .val (.long m4_59), .second, .val (.long v6_65), .second, .unset, .unset, .unset] [])) _
      refine XS.iconst X0.here hx rfl (hb hby at_83) ?_
      have qms0_84 : ms0_84 = (0 : Int32) := by rw [hms0_84, if_neg hc76]
      rw [qms0_84] at k
      exact k
  have pre5 : ∀ t, Steps p.tables e below (s₁.setTop (mkF m 88 #[.val (.long p0), .second, .val (.int p1), .val (.int v3_3), .val (.long m4_59), .second, .val (.long v6_65), .second, .val (.int ms0_84), .unset, .unset] [(.int ms0_84)])) t → Steps p.tables e below (s₁.setTop (entryFrame m #[(.long p0), (.int p1)] maxLocals)) t := by
    intro t k
    refine pre4 t ?_
    show Steps p.tables e below (s₁.setTop (mkF m 84 #[.val (.long p0), .second, .val (.int p1), .val (.int v3_3), .val (.long m4_59), .second, .val (.long v6_65), .second, .unset, .unset, .unset] [(.int ms0_84)])) _
    refine XS.istore X0.here hx rfl (hb hby at_84) rfl (l' := #[.val (.long p0), .second, .val (.int p1), .val (.int v3_3), .val (.long m4_59), .second, .val (.long v6_65), .second, .val (.int ms0_84), .unset, .unset]) rfl ?_
    show Steps p.tables e below (s₁.setTop (mkF m 86 #[.val (.long p0), .second, .val (.int p1), .val (.int v3_3), .val (.long m4_59), .second, .val (.long v6_65), .second, .val (.int ms0_84), .unset, .unset] [])) _
    refine XS.iload X0.here hx rfl (hb hby at_86) rfl  ?_
    exact k
  obtain ⟨m9_118, hm9_118⟩ : ∃ z : Int64, z = (if ms0_84 = (0 : Int32) then (if m4_59 < (0 : Int64) then (-9223372036854775808 : Int64) else (9223372036854775807 : Int64)) else v6_65) := ⟨_, rfl⟩
  have pre6 : ∀ t, Steps p.tables e below (s₁.setTop (mkF m 118 #[.val (.long p0), .second, .val (.int p1), .val (.int v3_3), .val (.long m4_59), .second, .val (.long v6_65), .second, .val (.int ms0_84), .val (.long m9_118), .second] [])) t → Steps p.tables e below (s₁.setTop (entryFrame m #[(.long p0), (.int p1)] maxLocals)) t := by
    intro t k
    refine pre5 t ?_
    by_cases hc88 : ms0_84 = (0 : Int32)
    · show Steps p.tables e below (s₁.setTop (mkF m 88 #[.val (.long p0), .second, .val (.int p1), .val (.int v3_3), .val (.long m4_59), .second, .val (.long v6_65), .second, .val (.int ms0_84), .unset, .unset] [(.int ms0_84)])) _
      refine XS.ifYes X0.here hx rfl (pc0 := 88) (pc' := 98) rfl (hb hby at_88) rfl ((if0 _ _).trans (teq hc88).1) (by decide) (by decide) ?_
      show Steps p.tables e below (s₁.setTop (mkF m 98 #[.val (.long p0), .second, .val (.int p1), .val (.int v3_3), .val (.long m4_59), .second, .val (.long v6_65), .second, .val (.int ms0_84), .unset, .unset] [])) _
      refine XS.lload X0.here hx rfl (hb hby at_98) rfl  ?_
      show Steps p.tables e below (s₁.setTop (mkF m 100 #[.val (.long p0), .second, .val (.int p1), .val (.int v3_3), .val (.long m4_59), .second, .val (.long v6_65), .second, .val (.int ms0_84), .unset, .unset] [(.long m4_59)])) _
      refine XS.lconst X0.here hx rfl (hb hby at_100) ?_
      show Steps p.tables e below (s₁.setTop (mkF m 101 #[.val (.long p0), .second, .val (.int p1), .val (.int v3_3), .val (.long m4_59), .second, .val (.long v6_65), .second, .val (.int ms0_84), .unset, .unset] [(.long (0 : Int64)), (.long m4_59)])) _
      refine XS.lcmp X0.here hx rfl (hb hby at_101) rfl ?_
      by_cases hc102 : m4_59 < (0 : Int64)
      · show Steps p.tables e below (s₁.setTop (mkF m 102 #[.val (.long p0), .second, .val (.int p1), .val (.int v3_3), .val (.long m4_59), .second, .val (.long v6_65), .second, .val (.int ms0_84), .unset, .unset] [(.int (lcmpW m4_59 (0 : Int64)))])) _
        refine XS.ifNo X0.here hx rfl (hb hby at_102) rfl ((if0 _ _).trans (tlt ((lw_lt _ _).mpr hc102)).2.1) ?_
        show Steps p.tables e below (s₁.setTop (mkF m 105 #[.val (.long p0), .second, .val (.int p1), .val (.int v3_3), .val (.long m4_59), .second, .val (.long v6_65), .second, .val (.int ms0_84), .unset, .unset] [])) _
        refine X0.ldc2Long hx hown (mvT hZ (hw _ (List.mem_of_getElem? (i := 10) rfl))) (g := (mkF m 105 #[.val (.long p0), .second, .val (.int p1), .val (.int v3_3), .val (.long m4_59), .second, .val (.long v6_65), .second, .val (.int ms0_84), .unset, .unset] [])) rfl (hb hby at_105) _ ?_
        show Steps p.tables e below (s₁.setTop (mkF m 108 #[.val (.long p0), .second, .val (.int p1), .val (.int v3_3), .val (.long m4_59), .second, .val (.long v6_65), .second, .val (.int ms0_84), .unset, .unset] [(.long (-9223372036854775808 : Int64))])) _
        refine XS.lstore X0.here hx rfl (hb hby at_108) rfl (l' := #[.val (.long p0), .second, .val (.int p1), .val (.int v3_3), .val (.long m4_59), .second, .val (.long v6_65), .second, .val (.int ms0_84), .val (.long (-9223372036854775808 : Int64)), .second]) rfl ?_
        show Steps p.tables e below (s₁.setTop (mkF m 110 #[.val (.long p0), .second, .val (.int p1), .val (.int v3_3), .val (.long m4_59), .second, .val (.long v6_65), .second, .val (.int ms0_84), .val (.long (-9223372036854775808 : Int64)), .second] [])) _
        refine XS.goto X0.here hx rfl (pc0 := 110) (pc' := 118) rfl (hb hby at_110) (by decide) (by decide) ?_
        have qm9_118 : m9_118 = (-9223372036854775808 : Int64) := by rw [hm9_118, if_pos hc88, if_pos hc102]
        rw [qm9_118] at k
        exact k
      · show Steps p.tables e below (s₁.setTop (mkF m 102 #[.val (.long p0), .second, .val (.int p1), .val (.int v3_3), .val (.long m4_59), .second, .val (.long v6_65), .second, .val (.int ms0_84), .unset, .unset] [(.int (lcmpW m4_59 (0 : Int64)))])) _
        refine XS.ifYes X0.here hx rfl (pc0 := 102) (pc' := 113) rfl (hb hby at_102) rfl ((if0 _ _).trans (flt (fun q => hc102 ((lw_lt _ _).mp q))).2.1) (by decide) (by decide) ?_
        show Steps p.tables e below (s₁.setTop (mkF m 113 #[.val (.long p0), .second, .val (.int p1), .val (.int v3_3), .val (.long m4_59), .second, .val (.long v6_65), .second, .val (.int ms0_84), .unset, .unset] [])) _
        refine X0.ldc2Long hx hown (mvT hZ (hw _ (List.mem_of_getElem? (i := 13) rfl))) (g := (mkF m 113 #[.val (.long p0), .second, .val (.int p1), .val (.int v3_3), .val (.long m4_59), .second, .val (.long v6_65), .second, .val (.int ms0_84), .unset, .unset] [])) rfl (hb hby at_113) _ ?_
        show Steps p.tables e below (s₁.setTop (mkF m 116 #[.val (.long p0), .second, .val (.int p1), .val (.int v3_3), .val (.long m4_59), .second, .val (.long v6_65), .second, .val (.int ms0_84), .unset, .unset] [(.long (9223372036854775807 : Int64))])) _
        refine XS.lstore X0.here hx rfl (hb hby at_116) rfl (l' := #[.val (.long p0), .second, .val (.int p1), .val (.int v3_3), .val (.long m4_59), .second, .val (.long v6_65), .second, .val (.int ms0_84), .val (.long (9223372036854775807 : Int64)), .second]) rfl ?_
        have qm9_118 : m9_118 = (9223372036854775807 : Int64) := by rw [hm9_118, if_pos hc88, if_neg hc102]
        rw [qm9_118] at k
        exact k
    · show Steps p.tables e below (s₁.setTop (mkF m 88 #[.val (.long p0), .second, .val (.int p1), .val (.int v3_3), .val (.long m4_59), .second, .val (.long v6_65), .second, .val (.int ms0_84), .unset, .unset] [(.int ms0_84)])) _
      refine XS.ifNo X0.here hx rfl (hb hby at_88) rfl ((if0 _ _).trans (feq hc88).1) ?_
      show Steps p.tables e below (s₁.setTop (mkF m 91 #[.val (.long p0), .second, .val (.int p1), .val (.int v3_3), .val (.long m4_59), .second, .val (.long v6_65), .second, .val (.int ms0_84), .unset, .unset] [])) _
      refine XS.lload X0.here hx rfl (hb hby at_91) rfl  ?_
      show Steps p.tables e below (s₁.setTop (mkF m 93 #[.val (.long p0), .second, .val (.int p1), .val (.int v3_3), .val (.long m4_59), .second, .val (.long v6_65), .second, .val (.int ms0_84), .unset, .unset] [(.long v6_65)])) _
      refine XS.lstore X0.here hx rfl (hb hby at_93) rfl (l' := #[.val (.long p0), .second, .val (.int p1), .val (.int v3_3), .val (.long m4_59), .second, .val (.long v6_65), .second, .val (.int ms0_84), .val (.long v6_65), .second]) rfl ?_
      show Steps p.tables e below (s₁.setTop (mkF m 95 #[.val (.long p0), .second, .val (.int p1), .val (.int v3_3), .val (.long m4_59), .second, .val (.long v6_65), .second, .val (.int ms0_84), .val (.long v6_65), .second] [])) _
      refine XS.goto X0.here hx rfl (pc0 := 95) (pc' := 118) rfl (hb hby at_95) (by decide) (by decide) ?_
      have qm9_118 : m9_118 = v6_65 := by rw [hm9_118, if_neg hc88]
      rw [qm9_118] at k
      exact k
  have pre8 : ∀ t, Steps p.tables e below (s₁.setTop (mkF m 120 #[.val (.long p0), .second, .val (.int p1), .val (.int v3_3), .val (.long m4_59), .second, .val (.long v6_65), .second, .val (.int ms0_84), .val (.long m9_118), .second] [(.long m4_59)])) t → Steps p.tables e below (s₁.setTop (entryFrame m #[(.long p0), (.int p1)] maxLocals)) t := by
    intro t k
    refine pre6 t ?_
    show Steps p.tables e below (s₁.setTop (mkF m 118 #[.val (.long p0), .second, .val (.int p1), .val (.int v3_3), .val (.long m4_59), .second, .val (.long v6_65), .second, .val (.int ms0_84), .val (.long m9_118), .second] [])) _
    refine XS.lload X0.here hx rfl (hb hby at_118) rfl  ?_
    exact k
  obtain ⟨_, _, ⟨T7, L7, k7, n7⟩, -, X7, ⟨Lc7, hQ7, l7, y7, z7⟩, st7⟩ := Jvm.LawKit.callS X0 hx (y := (⟨"com/example/admission/admission/FixedWindows", "firstMillis", "(J)J"⟩ : MethodName)) hown (mvT hZ (hw _ (List.mem_of_getElem? (i := 3) rfl))) (mvT hZ (hw _ (List.mem_of_getElem? (i := 4) rfl))) (mvT hZ (hw _ (List.mem_of_getElem? (i := 5) rfl))) (mvT hZ (hw _ (List.mem_of_getElem? (i := 6) rfl))) (by decide) (backOf (W := 0) (rm_1 l Z a0 hw [] m4_59 h0 n0 Z0 ) hZ (hw _ (List.mem_of_getElem? (i := 6) rfl)) (hw _ (List.mem_of_getElem? (i := 5) rfl)) (by decide) (by decide)) (g := (mkF m 120 #[.val (.long p0), .second, .val (.int p1), .val (.int v3_3), .val (.long m4_59), .second, .val (.long v6_65), .second, .val (.int ms0_84), .val (.long m9_118), .second] [(.long m4_59)])) rfl (by rw [hml]; rfl) (argsL := [(.long m4_59)]) (rest := []) (lenOf pd_0 rfl) rfl (by show 2 * 0 + _ ≤ _; exact Nat.le_of_eq rfl) (hb hby at_120) (fun _ _ => ⟨rfl, e0, (by decide : 0 + 0 ≤ _), (by decide : 0 + 0 ≤ _)⟩)
  dsimp only [Pt.U, Pt.locs, Pt.cells, Pt.slots] at X7 l7 y7 z7 st7 hQ7
  subst l7 y7 z7
  obtain ⟨rfl, N7q, e7⟩ := hQ7
  have N7 := Fr.app N0 N7q
  have pre9 : ∀ t, Steps p.tables e below (T7.setTop (mkF m 126 #[.val (.long p0), .second, .val (.int p1), .val (.int v3_3), .val (.long m4_59), .second, .val (.long v6_65), .second, .val (.int ms0_84), .val (.long m9_118), .second] [(.int (lcmpW (f_1 m4_59) m9_118))])) t → Steps p.tables e below (s₁.setTop (entryFrame m #[(.long p0), (.int p1)] maxLocals)) t := by
    intro t k
    refine pre8 t ?_
    show Steps p.tables e below (s₁.setTop (mkF m 120 #[.val (.long p0), .second, .val (.int p1), .val (.int v3_3), .val (.long m4_59), .second, .val (.long v6_65), .second, .val (.int ms0_84), .val (.long m9_118), .second] [(.long m4_59)])) _
    refine st7 _ ?_
    show Steps p.tables e below (T7.setTop (mkF m 123 #[.val (.long p0), .second, .val (.int p1), .val (.int v3_3), .val (.long m4_59), .second, .val (.long v6_65), .second, .val (.int ms0_84), .val (.long m9_118), .second] [(.long (f_1 m4_59))])) _
    refine XS.lload X7.here hx rfl (hb hby at_123) rfl  ?_
    show Steps p.tables e below (T7.setTop (mkF m 125 #[.val (.long p0), .second, .val (.int p1), .val (.int v3_3), .val (.long m4_59), .second, .val (.long v6_65), .second, .val (.int ms0_84), .val (.long m9_118), .second] [(.long m9_118), (.long (f_1 m4_59))])) _
    refine XS.lcmp X7.here hx rfl (hb hby at_125) rfl ?_
    exact k
  obtain ⟨ms0_134, hms0_134⟩ : ∃ z : Int32, z = (if (f_1 m4_59) = m9_118 then (1 : Int32) else (0 : Int32)) := ⟨_, rfl⟩
  have pre10 : ∀ t, Steps p.tables e below (T7.setTop (mkF m 134 #[.val (.long p0), .second, .val (.int p1), .val (.int v3_3), .val (.long m4_59), .second, .val (.long v6_65), .second, .val (.int ms0_84), .val (.long m9_118), .second] [(.int ms0_134)])) t → Steps p.tables e below (s₁.setTop (entryFrame m #[(.long p0), (.int p1)] maxLocals)) t := by
    intro t k
    refine pre9 t ?_
    by_cases hc126 : (f_1 m4_59) = m9_118
    · show Steps p.tables e below (T7.setTop (mkF m 126 #[.val (.long p0), .second, .val (.int p1), .val (.int v3_3), .val (.long m4_59), .second, .val (.long v6_65), .second, .val (.int ms0_84), .val (.long m9_118), .second] [(.int (lcmpW (f_1 m4_59) m9_118))])) _
      refine XS.ifNo X7.here hx rfl (hb hby at_126) rfl ((if0 _ _).trans (teq ((lw_eq _ _).mpr hc126)).2) ?_
      show Steps p.tables e below (T7.setTop (mkF m 129 #[.val (.long p0), .second, .val (.int p1), .val (.int v3_3), .val (.long m4_59), .second, .val (.long v6_65), .second, .val (.int ms0_84), .val (.long m9_118), .second] [])) _
      refine XS.iconst X7.here hx rfl (hb hby at_129) ?_
      show Steps p.tables e below (T7.setTop (mkF m 130 #[.val (.long p0), .second, .val (.int p1), .val (.int v3_3), .val (.long m4_59), .second, .val (.long v6_65), .second, .val (.int ms0_84), .val (.long m9_118), .second] [(.int (1 : Int32))])) _
      refine XS.goto X7.here hx rfl (pc0 := 130) (pc' := 134) rfl (hb hby at_130) (by decide) (by decide) ?_
      have qms0_134 : ms0_134 = (1 : Int32) := by rw [hms0_134, if_pos hc126]
      rw [qms0_134] at k
      exact k
    · show Steps p.tables e below (T7.setTop (mkF m 126 #[.val (.long p0), .second, .val (.int p1), .val (.int v3_3), .val (.long m4_59), .second, .val (.long v6_65), .second, .val (.int ms0_84), .val (.long m9_118), .second] [(.int (lcmpW (f_1 m4_59) m9_118))])) _
      refine XS.ifYes X7.here hx rfl (pc0 := 126) (pc' := 133) rfl (hb hby at_126) rfl ((if0 _ _).trans (feq (fun q => hc126 ((lw_eq _ _).mp q))).2) (by decide) (by decide) ?_
      show Steps p.tables e below (T7.setTop (mkF m 133 #[.val (.long p0), .second, .val (.int p1), .val (.int v3_3), .val (.long m4_59), .second, .val (.long v6_65), .second, .val (.int ms0_84), .val (.long m9_118), .second] [])) _
      refine XS.iconst X7.here hx rfl (hb hby at_133) ?_
      have qms0_134 : ms0_134 = (0 : Int32) := by rw [hms0_134, if_neg hc126]
      rw [qms0_134] at k
      exact k
  have hnar : nar .boolean ms0_134 = ms0_134 := by rw [hms0_134]; (repeat' split) <;> rfl
  obtain ⟨fs, hr, hrun, hended, hW, hsame⟩ := X7.leave (v := some (.int ms0_134)) (fun h => by rw [Bd.returns] at h; cases h)
  refine ⟨_, _, pre10 _ ?_, hrun, hended, _, _, rfl, ?_, ⟨_, rfl⟩, hW, hsame.mono (by decide) (by decide)⟩
  · show Steps p.tables e below (T7.setTop (mkF m 134 #[.val (.long p0), .second, .val (.int p1), .val (.int v3_3), .val (.long m4_59), .second, .val (.long v6_65), .second, .val (.int ms0_84), .val (.long m9_118), .second] [(.int ms0_134)])) _
    exact retN X7 hx (t := .boolean) Bd.returns (by simp) (hb hby at_134) (by rw [hnar]; exact hr)
  · show Q_0 Z p0 p1 h0 n0 _ T7.heap _
    rw [e7]
    exact ⟨congrArg (fun z => some (Value.int z)) (by subst hv3_3 hm4_59 hv6_65 hms0_84 hm9_118 hms0_134; rfl : ms0_134 = f_0 p0 p1), N7, trivial⟩
theorem own_eq (m : Int64) : (if (f_1 m) = (if (if ((m * (1000 : Int64)) / (1000 : Int64)) = m then (1 : Int32) else (0 : Int32)) = (0 : Int32) then (if m < (0 : Int64) then (-9223372036854775808 : Int64) else (9223372036854775807 : Int64)) else (m * (1000 : Int64))) then (1 : Int32) else (0 : Int32)) = 1 := by
  have a1 := c_lmul m 1000
  have a2 := c_ldiv (m * 1000) 1000 1000 (by decide) (by decide)
  have a3 := rng64 (m * 1000)
  have a4 := rng64 m
  have l1 : (1000 : Int64).toInt = 1000 := by decide
  have l2 : (-9223372036854775 : Int64).toInt = -9223372036854775 := by decide
  have l3 : (9223372036854775 : Int64).toInt = 9223372036854775 := by decide
  have l4 : (0 : Int64).toInt = 0 := by decide
  rw [l1] at a1
  have e : (m * 1000 / 1000 = m) ↔ (m * 1000 / 1000).toInt = m.toInt := Int64.toInt_inj.symm
  simp only [f_1, Int64.lt_iff_toInt_lt, e, l2, l3, l4]
  by_cases h1 : m.toInt < -9223372036854775
  · have h2 : ¬ (m * 1000 / 1000).toInt = m.toInt := by omega
    have h3 : m.toInt < 0 := by omega
    simp only [h1, h2, h3, if_true, if_false]
  · by_cases h2 : 9223372036854775 < m.toInt
    · have h3 : ¬ (m * 1000 / 1000).toInt = m.toInt := by omega
      have h4 : ¬ m.toInt < 0 := by omega
      simp only [h1, h2, h3, h4, if_true, if_false]
    · have h3 : (m * 1000 / 1000).toInt = m.toInt := by omega
      have h5 : ¬ (1 : Int32) = 0 := by decide
      simp only [h1, h2, h3, h5, if_true, if_false]
theorem own_law (p0 : Int64) (p1 : Int32) : f_0 p0 p1 = 1 := own_eq _
set_option maxRecDepth 65536 in
set_option maxHeartbeats 40000000 in
theorem comes_1 {Post : Tables → Env → Array Value → State → Outcome → State → Prop} (hpost : ∀ tb e args s v u, (limb_1_1.after args s (.returned v) u = true ∧ limb_1_2.after args s (.returned v) u = true ∧ True) → FrameEnd s (.returned v) u (Jvm.fieldLocs frame_1_writes args s ++ Jvm.arrayLocs frame_1_arrays args s ++ Jvm.staticLocs frame_1_statics s) 0 0 → Post tb e args s (.returned v) u) :
    ArmFor flags0 classFile x code maxLocals ret World_1 tables_1 room_1 Calls_1 rest_1 Pre_1 Post := by
  intro l hfl _ _ p e ha hc hk s m args below hf hA hF happ hP
  obtain ⟨hcalls, hrest, hpre⟩ := hP
  obtain ⟨-, -, -, hnamed, -, -, -, hat⟩ := (Spec.applies_iff hf).mp happ
  obtain ⟨hg, hn⟩ := and_e (Cond.before_iff.mp (show (Jvm.Cond.and given_1 narrow_1).before args s = true from hpre))
  obtain ⟨g0, gt0⟩ := and_e hg
  obtain ⟨ga0, gt1⟩ := and_e gt0
  obtain ⟨w0, w1, rfl⟩ : ∃ w0 w1 : Value, args = #[w0, w1] := by
    have hs : args.size = 2 := by simpa [Cond.value, given_1] using g0
    obtain ⟨L⟩ := args
    match L, hs with
    | [w0, w1], _ => exact ⟨w0, w1, rfl⟩
  have hw := fun d (hd : d ∈ tables_1) => atoms_spec (ws := Jvm.Cond.code x code maxLocals ret :: tables_1) hat d (List.mem_cons_of_mem _ hd)
  have hfit : Fit s := fun {y c} hc i hi => by
    obtain ⟨ha, rfl⟩ := Array.getElem?_eq_some_iff.mp hc
    have q := List.all_eq_true.mp ((Array.all_eq_true_iff_forall_mem.mp hF) _ (Array.getElem_mem ha)) i (List.mem_range.mpr hi)
    simpa [Array.getElem?_eq_getElem hi] using q
  obtain ⟨i0, ei0⟩ := isL_v ga0
  obtain rfl : w0 = (.long i0) := Option.some.inj ei0
  obtain ⟨i1, ei1⟩ := is_v gt1
  obtain rfl : w1 = (.int i1) := Option.some.inj ei1
  obtain ⟨n, o, h1, h2, h3, _, L, rfl, ⟨rfl, N⟩, hq⟩ := rm_0 l s _ hw tables_1 i0 i1  s.heap s.heap.size (Nat.le_refl _)  p e ha hc hk s m _ below hf ((Spec.applies_iff_loose hf).mp happ).1 ⟨rfl, State.Warmed39.refl s, rfl⟩ trivial
  refine ⟨n, _, h1, h2, h3, hpost _ _ _ _ _ _ ⟨Cond.after_iff.mpr rfl, Cond.after_iff.mpr (eq_i res_at (Term.int_eval (1)) (congrArg Value.int (own_law _ _))), trivial⟩ ⟨hq.1, hq.2.1, (hq.2.2.sift fun y hy => Or.inr (N.1 y hy)).mono (by decide) (by decide)⟩⟩
theorem main_1_1 : Claimed_1_1 := comes_1 fun _ _ _ _ _ _ h hF => ⟨h.1, hF⟩
theorem main_1_2 : Claimed_1_2 := comes_1 fun _ _ _ _ _ _ h hF => ⟨h.2.1, hF⟩
end Jvm.Pilot.@@N@@
namespace Jvm.Pilot.@@N@@
open Jvm Jvm.ClassFile Sem Op Lib Jvm.Free Jvm.Stand Jvm.Pilot.@@N@@.Jvm.D
/-! MADE BY PROGRAM (witnessworld.py) out of the Statement's table words and the real class files: 7 classes; the members and pool entries that the words name. The judged class is class 1, her method 1. -/
namespace start1
open Jvm.ClassFile
def u (s : String) : CpInfo := .utf8 (stringToUtf16 s)
/-- a pool by its gaps: so many unusable entries, then the entry; so many at the end -/
def gap : Nat → List CpInfo → List CpInfo
  | 0, r => r
  | n + 1, r => .unusable :: gap n r
def poolList (es : List (Nat × CpInfo)) (last : Nat) : List CpInfo := es.foldr (fun e r => gap e.1 (e.2 :: r)) (gap last [])
def pool (es : List (Nat × CpInfo)) (last : Nat) : Array CpInfo := ⟨poolList es last⟩
def fileOf (pool : Array CpInfo) (this : Nat) (attrs : Array Attribute := #[]) (ms : Array MethodInfo := #[]) (fl : Nat := 33) (sup : Nat := 0) (ifs : Array Nat := #[]) (fds : Array FieldInfo := #[]) : ClassFile where
  minorVersion := 0
  majorVersion := 65
  constantPool := pool
  accessFlags := fl
  thisClass := this
  superClass := sup
  interfaces := ifs
  fields := fds
  methods := ms
  attributes := attrs
def plain (name : String) (sup : Option ClassId) : Class where
  name := name
  kind := .ordinary
  loader := none
  accessFlags := 33
  super := sup
  interfaces := #[]
  cf := none
  fields := #[]
  methods := #[]
  instanceTypes := #[]
  staticTypes := #[]
  resolved := #[]
  callSites := []
  init := .initialized
  statics := none
  mirror := none

def pool0 : Array CpInfo := pool [(5, u "<init>"), (0, u "()V"), (1, .class_ 10), (1, u "java/lang/Object")] 113

def k0m0 : Method := { name := "<init>", desc := "()V", sig := { parameters := [], returnType := none }, accessFlags := 1, code := none }
/-- java/lang/Object -/
def k0 : Class := { plain "java/lang/Object" none with
  accessFlags := 33
  interfaces := #[]
  cf := some (fileOf pool0 8 #[] #[{ accessFlags := 1, nameIndex := 5, descriptorIndex := 6, attributes := #[] }] 33 0 #[] #[])
  fields := #[]
  methods := #[k0m0]
  instanceTypes := #[]
  staticTypes := #[]
  resolved := Array.replicate 124 none
  statics := none }

def pool1 : Array CpInfo := pool [(2, .class_ 4), (1, u "java/lang/Object"), (0, u "<init>"), (0, u "()V"), (2, .long 9223372036854775), (1, .long 4), (1, .long 18437520701672696841), (1, .long 1000), (1, .long 9223372036854775808), (1, .long 9223372036854775807), (1, .methodref 22 23), (0, .class_ 24), (0, .nameAndType 25 26), (0, u "com/example/admission/admission/FixedWindows"), (0, u "firstMillis"), (0, u "(J)J"), (0, .class_ 28), (0, u "com/example/admission/admission/FixedWindowsFirstMillisPinLaw"), (2, u "law"), (0, u "(JI)Z")] 3

def k1m0 : Method := { name := "<init>", desc := "()V", sig := { parameters := [], returnType := none }, accessFlags := 2, code := none }
def k1c1 : Code := { maxStack := 6, maxLocals := 11, code := code, exceptionTable := #[], attributes := #[] }
def k1m1 : Method := { name := "law", desc := "(JI)Z", sig := { parameters := [.long, .int], returnType := some .boolean }, accessFlags := 9, code := some k1c1 }
/-- com/example/admission/admission/FixedWindowsFirstMillisPinLaw -/
def k1 : Class := { plain "com/example/admission/admission/FixedWindowsFirstMillisPinLaw" (some 0) with
  accessFlags := 49
  interfaces := #[]
  cf := some (fileOf pool1 27 #[] #[{ accessFlags := 2, nameIndex := 5, descriptorIndex := 6, attributes := #[] }, { accessFlags := 9, nameIndex := 31, descriptorIndex := 32, attributes := #[] }] 49 2 #[] #[])
  fields := #[]
  methods := #[k1m0, k1m1]
  instanceTypes := #[]
  staticTypes := #[]
  resolved := Array.replicate 36 none
  statics := none }

def pool2 : Array CpInfo := pool [(2, .class_ 4), (1, u "java/lang/Object"), (0, u "<init>"), (0, u "()V"), (8, .long 18437520701672696841), (1, .long 9223372036854775808), (1, .long 9223372036854775), (1, .long 9223372036854775807), (1, .long 1000), (10, .class_ 35), (0, u "com/example/admission/admission/FixedWindows"), (3, u "(J)J"), (0, u "firstMillis")] 11

def k2m0 : Method := { name := "<init>", desc := "()V", sig := { parameters := [], returnType := none }, accessFlags := 2, code := none }
def k2c1 : Code := { maxStack := 4, maxLocals := 4, code := prog_10_method_3_code, exceptionTable := #[], attributes := #[] }
def k2m1 : Method := { name := "firstMillis", desc := "(J)J", sig := { parameters := [.long], returnType := some .long }, accessFlags := 8, code := some k2c1 }
/-- com/example/admission/admission/FixedWindows -/
def k2 : Class := { plain "com/example/admission/admission/FixedWindows" (some 0) with
  accessFlags := 48
  interfaces := #[]
  cf := some (fileOf pool2 34 #[] #[{ accessFlags := 2, nameIndex := 5, descriptorIndex := 6, attributes := #[] }, { accessFlags := 8, nameIndex := 40, descriptorIndex := 39, attributes := #[] }] 48 2 #[] #[])
  fields := #[]
  methods := #[k2m0, k2m1]
  instanceTypes := #[]
  staticTypes := #[]
  resolved := Array.replicate 52 none
  statics := none }

def pool3 : Array CpInfo := pool [(1, u "java/lang/Cloneable"), (0, .class_ 1), (0, u "java/lang/Object"), (0, .class_ 3)] 3

/-- java/lang/Cloneable -/
def k3 : Class := { plain "java/lang/Cloneable" (some 0) with
  accessFlags := 1537
  interfaces := #[]
  cf := some (fileOf pool3 2 #[] #[] 1537 4 #[] #[])
  fields := #[]
  methods := #[]
  instanceTypes := #[]
  staticTypes := #[]
  resolved := Array.replicate 8 none
  statics := none }

def pool4 : Array CpInfo := pool [(1, u "java/io/Serializable"), (0, .class_ 1), (0, u "java/lang/Object"), (0, .class_ 3)] 3

/-- java/io/Serializable -/
def k4 : Class := { plain "java/io/Serializable" (some 0) with
  accessFlags := 1537
  interfaces := #[]
  cf := some (fileOf pool4 2 #[] #[] 1537 4 #[] #[])
  fields := #[]
  methods := #[]
  instanceTypes := #[]
  staticTypes := #[]
  resolved := Array.replicate 8 none
  statics := none }

/-- the primitive byte -/
def k5 : Class := { plain "byte" none with kind := .primitive 'B', accessFlags := 0x411 }
/-- [B -/
def k6 : Class := { plain "[B" (some 0) with kind := .array 5 .byte, interfaces := #[3, 4], accessFlags := 1041 }

def heap : Heap := #[]
def classes : Array Class := #[k0, k1, k2, k3, k4, k5, k6]
def interned : List (Array UInt16 × Addr) := []
def slotsUsed : Nat := 0
def theMethod : MethodId := ⟨1, 1⟩
def args0 : Array Value := #[.long 5, .int 3]
def aboutOver (below : List Frame) : State where
  vm := { classes := classes, interned := interned.toArray }
  heap := heap
  slotsUsed := slotsUsed
  threads := #[{ frames := .invoking theMethod args0 :: below }]
def below0 : List Frame := [.native { method := ⟨0, 0⟩, args := #[] }]
def about1 : State := aboutOver below0
def p0 : Program := .bare "" "" ""
def e0 : Env := launch0.env 0 0 0
theorem w_frames : about1.frames = Frame.invoking theMethod args0 :: below0 := rfl
set_option maxRecDepth 65536 in
theorem w_args : argsFit about1.vm theMethod args0 = true := by decide +kernel
set_option maxRecDepth 65536 in
theorem w_heap : heapFits about1 = true := by decide +kernel
set_option maxRecDepth 65536 in
theorem w_runnable : about1.curStatus? = some .runnable := by decide +kernel
set_option maxRecDepth 65536 in
theorem w_alone : about1.alone = true := by decide +kernel
set_option maxRecDepth 65536 in
theorem w_named : about1.methodNamed? x = some theMethod := by decide +kernel
set_option maxRecDepth 65536 in
theorem w_hears : about1.hears theMethod below0 = true := by decide +kernel
set_option maxRecDepth 65536 in
theorem w_ripe : about1.ripe theMethod args0 below0 = true := by decide +kernel
theorem w_running : about1.status = .running := rfl
set_option maxRecDepth 65536 in
theorem w_room : about1.hasRoom e0.platform room_1 = true :=
  launch0.hasRoom_least _ room_1 (by decide +kernel) (by decide +kernel) (by decide +kernel) (by decide +kernel) (by decide +kernel) (by decide +kernel)
theorem allAtoms_all (ts : List Jvm.Cond) (a : Array Jvm.Value) (st : Jvm.State) : (allAtoms ts).before a st = ts.all (fun c => c.before a st) := by
  induction ts with
  | nil => rfl
  | cons c t ih =>
    show (Jvm.Cond.and c (allAtoms t)).before a st = _
    rw [Jvm.Cond.before_and, ih, List.all_cons]
def words1 : List Jvm.Cond := Jvm.Cond.code x code maxLocals ret :: tables_1
/-- a 'code' word, met by the world's own term for the bytes: nothing is compared byte by byte -/
theorem code_word {y : MethodName} {bytes : ByteArray} {mx : Nat} {rt : Option FieldType} {a : Array Value} {s : State} {m : MethodId} {meth : Method} {c : Code} (h1 : s.methodNamed? y = some m) (h2 : s.vm.method? m = some meth) (h3 : meth.code = some c) (h4 : c.code = bytes)
    (h5 : (c.maxLocals == mx && c.exceptionTable.isEmpty && decide (c.maxStack ≤ mostOperands) && decide (meth.sig.returnType = rt) && !meth.locks && decide (parseMethodDescriptor y.desc = some meth.sig)) = true) : (Jvm.Cond.code y bytes mx rt).before a s = true := by
  simp only [Bool.and_eq_true, beq_iff_eq, Bool.not_eq_true', decide_eq_true_eq] at h5
  obtain ⟨⟨⟨⟨⟨g1, g2⟩, g3⟩, g4⟩, g5⟩, g6⟩ := h5
  simp [Cond.before, Cond.holds, Cond.value, h1, h2, h3, h4, g1, g2, g3, g4, g5, g6]
def isCode : Jvm.Cond → Bool
  | .code _ _ _ _ => true
  | _ => false
theorem all_split {L : List Jvm.Cond} {P : Jvm.Cond → Bool} (h1 : L.all (fun c => isCode c || P c) = true) (h2 : ∀ c ∈ L.filter isCode, P c = true) : L.all P = true := by
  refine List.all_eq_true.mpr fun c hc => ?_
  have h := List.all_eq_true.mp h1 c hc
  rcases Bool.eq_false_or_eq_true (isCode c) with hi | hi
  · exact h2 c (List.mem_filter.mpr ⟨hc, hi⟩)
  · simpa [hi] using h
set_option maxRecDepth 65536 in
theorem w_c0 : (Jvm.Cond.code x code maxLocals ret).before args0 about1 = true := code_word (m := ⟨1, 1⟩) (meth := k1m1) (c := k1c1) (by decide +kernel) rfl rfl rfl (by decide +kernel)
set_option maxRecDepth 65536 in
theorem w_c1 : (Jvm.Cond.code ({ cls := "com/example/admission/admission/FixedWindows", name := "firstMillis", desc := "(J)J" } : Jvm.MethodName) prog_10_method_3_code (4 : Nat) (Option.some Jvm.ClassFile.FieldType.long)).before args0 about1 = true := code_word (m := ⟨2, 1⟩) (meth := k2m1) (c := k2c1) (by decide +kernel) rfl rfl rfl (by decide +kernel)
def codes1 : List Jvm.Cond := [Jvm.Cond.code x code maxLocals ret, Jvm.Cond.code ({ cls := "com/example/admission/admission/FixedWindows", name := "firstMillis", desc := "(J)J" } : Jvm.MethodName) prog_10_method_3_code (4 : Nat) (Option.some Jvm.ClassFile.FieldType.long)]
set_option maxRecDepth 65536 in
theorem codes_eq : words1.filter isCode = codes1 := rfl
theorem w_codes : ∀ c ∈ words1.filter isCode, c.before args0 about1 = true := by
  rw [codes_eq]
  intro c hc
  simp only [codes1, List.mem_cons, List.not_mem_nil, or_false] at hc
  rcases hc with rfl | rfl
  · exact w_c0
  · exact w_c1
set_option maxRecDepth 65536 in
theorem w_t1 : words1.all (fun c => isCode c || c.before args0 about1) = true := by decide +kernel
theorem w_tables : (allAtoms (Jvm.Cond.code x code maxLocals ret :: tables_1)).before args0 about1 = true := by
  rw [allAtoms_all]
  show words1.all (fun c => c.before args0 about1) = true
  refine all_split ?_ w_codes
  rw [w_t1]
set_option maxRecDepth 65536 in
theorem w_case : (Jvm.Cond.and given_1 narrow_1).before args0 about1 = true := by decide +kernel
theorem w_applies : (headSpec (Jvm.Cond.code x code maxLocals ret :: tables_1) room_1).applies x e0.platform about1 = true :=
  (Spec.applies_iff w_frames).mpr ⟨w_running, w_runnable, w_alone, w_named, w_hears, w_ripe, w_room, w_tables⟩
theorem atStart : AtStart classFile x code maxLocals ret World_1 tables_1 room_1 Calls_1 rest_1 Pre_1 launch0 p0 e0 about1 theMethod args0 below0 :=
  ⟨lists_1, trivial, launch0.admits_env _ _ _, launch0.least_env, fairChoices_fair.cas, fairChoices_fair.clock, w_frames, w_args, w_heap, w_applies, trivial, trivial, w_case⟩
end start1
theorem witness_1 : WitnessClaimed_1 := ⟨start1.p0, start1.e0, start1.about1, start1.theMethod, start1.args0, start1.below0, start1.atStart⟩
end Jvm.Pilot.@@N@@
