import JvmDerived
import JvmDerived.Pilot.@@N@@Statement
import JvmDerived.Pilot.@@N@@Code
set_option linter.unusedVariables false
set_option linter.unusedSimpArgs false
namespace Jvm.RoadKit
open Sem ClassFile Op Lib Jvm.Stand Jvm.Free Jvm.LawKit
section New
variable {p : Program} {l : Launch} {e : Env} {R : Room} {s : State} {m : MethodId} {args : Array Value} {below : List Frame} {meth : Method} {c : Code} {T : State} {locs : List Loc} {cells slots : Nat}
theorem retI (X : Stand p l e R s m args below meth c T locs cells slots) (hx : p.tables.exec = Jvm.exec) {pc : Nat} {Ls : Array Slot} {z : Int32} {rest : List Value} (hret : meth.sig.returnType = some .int) (hd : decode c.code pc = .ok (.ireturn, 1)) {fs : List Frame}
    (hl : ∀ (f : JFrame) (acts : List Action), f.method = m → f.locked = none → f.entered = [] → (doReturn e (T.setTop f) acts (some (.int z))).1 = T.setFrames fs) : Steps p.tables e below (T.setTop (mkF m pc Ls (.int z :: rest))) (T.setFrames fs) := by
  have hm' : T.vm.method? m = some meth := X.method'
  have hn : narrow .int (.int z) = .int z := rfl
  show Steps p.tables e below (T.setTop { method := m, pc := pc, locals := Ls, stack := _ :: rest, locked := none }) _
  jvm_step X.here [X.here.top, hx, hd, hm', hret, hn]
  first | (intro acts; rw [hl _ acts rfl rfl rfl]) | rw [hl _ _ rfl rfl rfl]
  exact Steps.refl _
theorem own_lremM {g : JFrame} {target : State} (X : Stand p l e R s m args below meth c T locs cells slots) (hx : p.tables.exec = Jvm.exec) (hg : g.method = m) {x y : Int64} {rest : List Value} (hd : decode c.code g.pc = .ok (.lrem, 1)) (hs : g.stack = .long y :: .long x :: rest) (hy : y ≠ 0)
    (hr : Steps p.tables e below (T.setTop { g with pc := g.pc + 1, stack := .long (x % y) :: rest }) target) : Steps p.tables e below (T.setTop g) target := by
  have q : x - x / y * y = x % y := lrem_mod x y
  exact XS.lrem X.here hx hg hd hs hy (by rw [q]; exact hr)
end New
end Jvm.RoadKit
namespace Jvm.Pilot.@@N@@
open Jvm Jvm.ClassFile Sem Op Lib Jvm.Free Jvm.Stand Jvm.LawKit Jvm.RoadKit Bundle Jvm.Pilot.@@N@@.Jvm.D
theorem d1_0 : decode prog_10_method_5_code 0 = .ok (.lload_n 0, 1) := by decide +kernel
theorem d1_1 : decode prog_10_method_5_code 1 = .ok (.lload 4, 2) := by decide +kernel
theorem d1_3 : decode prog_10_method_5_code 3 = .ok (.lsub, 1) := by decide +kernel
theorem d1_4 : decode prog_10_method_5_code 4 = .ok (.lload_n 2, 1) := by decide +kernel
theorem d1_5 : decode prog_10_method_5_code 5 = .ok (.lcmp, 1) := by decide +kernel
theorem d1_6 : decode prog_10_method_5_code 6 = .ok (.ifCond .ne 7, 3) := by decide +kernel
theorem d1_9 : decode prog_10_method_5_code 9 = .ok (.iconst 1, 1) := by decide +kernel
theorem d1_10 : decode prog_10_method_5_code 10 = .ok (.goto 4, 3) := by decide +kernel
theorem d1_13 : decode prog_10_method_5_code 13 = .ok (.iconst 0, 1) := by decide +kernel
theorem d1_14 : decode prog_10_method_5_code 14 = .ok (.ireturn, 1) := by decide +kernel
theorem pn_1 : plainName "com/example/admission/admission/FixedWindows" = true := by first | (simp [plainName, overriddenIn]; done) | decide +kernel
theorem ef_1 (m : MethodId) (p0 : Int64) (p1 : Int64) (p2 : Int64) : entryFrame m #[(.long p0), (.long p1), (.long p2)] 6 = mkF m 0 #[.val (.long p0), .second, .val (.long p1), .second, .val (.long p2), .second] [] := by first | (simp [entryFrame, mkF, argsToLocals, Value.category]; done) | rfl
def f_1 (p0 : Int64) (p1 : Int64) (p2 : Int64) : Int32 := let ms0_14 : Int32 := (if (p0 - p2) = p1 then (1 : Int32) else (0 : Int32)); ms0_14
def Q_1 (Z : State) (p0 : Int64) (p1 : Int64) (p2 : Int64)  (h0 : Heap) (n0 : Nat) (v : Option Value) (h : Heap) (L : List Loc) : Prop := v = some (.int (f_1 p0 p1 p2)) ∧ Fr n0 L ∧ h = h0
set_option maxRecDepth 65536 in
set_option maxHeartbeats 40000000 in
theorem rm_1 (l : Launch) (Z : State) (a0 : Array Value) (hw : ∀ d ∈ tables_1, d.before a0 Z = true) (ws : List Jvm.Cond) (p0 : Int64) (p1 : Int64) (p2 : Int64)  (h0 : Heap) (n0 : Nat) (Z0 : n0 ≤ h0.size)  :
    MetFree l (⟨"com/example/admission/admission/FixedWindows", "follows", "(JJJ)Z"⟩ : MethodName) (head1 (Jvm.Cond.code (⟨"com/example/admission/admission/FixedWindows", "follows", "(JJJ)Z"⟩ : MethodName) prog_10_method_5_code 6 (some .boolean) :: ws) ({ frames := 0, cells := 0, slots := 0, locals := 0 } : Room)) (fun a U => a = #[(.long p0), (.long p1), (.long p2)] ∧ Z.Warmed39 U.vm ∧ U.heap = h0) (fun _ _ _ _ _ => True) (fun _ U o U' => ∃ v L, o = .returned v ∧ Q_1 Z p0 p1 p2 h0 n0 v U'.heap L ∧ FrameEnd U o U' L ({ frames := 0, cells := 0, slots := 0, locals := 0 } : Room).cells ({ frames := 0, cells := 0, slots := 0, locals := 0 } : Room).slots) := by
  refine MetFree.of_bodySF (plainFor_of_name pn_1) hisR ?_
  intro p e s m args below meth c s₁ Bd hml0 hP hK
  obtain ⟨rfl, hZ, hh⟩ := hP
  have hx := Bd.exec
  have hby := Bd.bytes
  have hml : c.maxLocals = 6 := hml0
  have hown : s.vm.findClass "com/example/admission/admission/FixedWindows" = some m.cls := findClass_of_methodNamed Bd.named
  have hnm := (name_of_methodNamed Bd.named Bd.method).1
  have X0 : Stand p l e ({ frames := 0, cells := 0, slots := 0, locals := 0 } : Room) s m #[(.long p0), (.long p1), (.long p2)] below meth c s₁ [] 0 0 := Stand.of_body Bd
  have e0 : s₁.heap = h0 := by rw [← hh, Bd.state]; rfl
  have N0 := Fr.nil n0
  have K0 : Keep h0 h0 [] := Keep.refl h0 _
  have pre0 : ∀ t, Steps p.tables e below (s₁.setTop (mkF m 0 #[.val (.long p0), .second, .val (.long p1), .second, .val (.long p2), .second] [])) t → Steps p.tables e below (s₁.setTop (entryFrame m #[(.long p0), (.long p1), (.long p2)] 6)) t := fun t k => castTop (ef_1 m p0 p1 p2) k
  have pre1 : ∀ t, Steps p.tables e below (s₁.setTop (mkF m 6 #[.val (.long p0), .second, .val (.long p1), .second, .val (.long p2), .second] [(.int (lcmpW (p0 - p2) p1))])) t → Steps p.tables e below (s₁.setTop (entryFrame m #[(.long p0), (.long p1), (.long p2)] 6)) t := by
    intro t k
    refine pre0 t ?_
    show Steps p.tables e below (s₁.setTop (mkF m 0 #[.val (.long p0), .second, .val (.long p1), .second, .val (.long p2), .second] [])) _
    refine XS.lloadN X0.here hx rfl (hb hby d1_0) rfl  ?_
    show Steps p.tables e below (s₁.setTop (mkF m 1 #[.val (.long p0), .second, .val (.long p1), .second, .val (.long p2), .second] [(.long p0)])) _
    refine XS.lload X0.here hx rfl (hb hby d1_1) rfl  ?_
    show Steps p.tables e below (s₁.setTop (mkF m 3 #[.val (.long p0), .second, .val (.long p1), .second, .val (.long p2), .second] [(.long p2), (.long p0)])) _
    refine XS.lsub X0.here hx rfl (hb hby d1_3) rfl ?_
    show Steps p.tables e below (s₁.setTop (mkF m 4 #[.val (.long p0), .second, .val (.long p1), .second, .val (.long p2), .second] [(.long (p0 - p2))])) _
    refine XS.lloadN X0.here hx rfl (hb hby d1_4) rfl  ?_
    show Steps p.tables e below (s₁.setTop (mkF m 5 #[.val (.long p0), .second, .val (.long p1), .second, .val (.long p2), .second] [(.long p1), (.long (p0 - p2))])) _
    refine XS.lcmp X0.here hx rfl (hb hby d1_5) rfl ?_
    exact k
  obtain ⟨ms0_14, hms0_14⟩ : ∃ z : Int32, z = (if (p0 - p2) = p1 then (1 : Int32) else (0 : Int32)) := ⟨_, rfl⟩
  have pre2 : ∀ t, Steps p.tables e below (s₁.setTop (mkF m 14 #[.val (.long p0), .second, .val (.long p1), .second, .val (.long p2), .second] [(.int ms0_14)])) t → Steps p.tables e below (s₁.setTop (entryFrame m #[(.long p0), (.long p1), (.long p2)] 6)) t := by
    intro t k
    refine pre1 t ?_
    by_cases hc6 : (p0 - p2) = p1
    · show Steps p.tables e below (s₁.setTop (mkF m 6 #[.val (.long p0), .second, .val (.long p1), .second, .val (.long p2), .second] [(.int (lcmpW (p0 - p2) p1))])) _
      refine XS.ifNo X0.here hx rfl (hb hby d1_6) rfl ((if0 _ _).trans (teq ((lw_eq _ _).mpr hc6)).2) ?_
      show Steps p.tables e below (s₁.setTop (mkF m 9 #[.val (.long p0), .second, .val (.long p1), .second, .val (.long p2), .second] [])) _
      refine XS.iconst X0.here hx rfl (hb hby d1_9) ?_
      show Steps p.tables e below (s₁.setTop (mkF m 10 #[.val (.long p0), .second, .val (.long p1), .second, .val (.long p2), .second] [(.int (1 : Int32))])) _
      refine XS.goto X0.here hx rfl (pc0 := 10) (pc' := 14) rfl (hb hby d1_10) (by decide) (by decide) ?_
      have qms0_14 : ms0_14 = (1 : Int32) := by rw [hms0_14, if_pos hc6]
      rw [qms0_14] at k
      exact k
    · show Steps p.tables e below (s₁.setTop (mkF m 6 #[.val (.long p0), .second, .val (.long p1), .second, .val (.long p2), .second] [(.int (lcmpW (p0 - p2) p1))])) _
      refine XS.ifYes X0.here hx rfl (pc0 := 6) (pc' := 13) rfl (hb hby d1_6) rfl ((if0 _ _).trans (feq (fun q => hc6 ((lw_eq _ _).mp q))).2) (by decide) (by decide) ?_
      show Steps p.tables e below (s₁.setTop (mkF m 13 #[.val (.long p0), .second, .val (.long p1), .second, .val (.long p2), .second] [])) _
      refine XS.iconst X0.here hx rfl (hb hby d1_13) ?_
      have qms0_14 : ms0_14 = (0 : Int32) := by rw [hms0_14, if_neg hc6]
      rw [qms0_14] at k
      exact k
  have hnar : nar .boolean ms0_14 = ms0_14 := by rw [hms0_14]; (repeat' split) <;> rfl
  obtain ⟨fs, hr, hrun, hended, hW, hsame⟩ := X0.leave (v := some (.int ms0_14)) (fun h => by rw [Bd.returns] at h; cases h)
  refine ⟨_, _, pre2 _ ?_, hrun, hended, _, _, rfl, ?_, ⟨_, rfl⟩, hW, hsame.mono (by decide) (by decide)⟩
  · show Steps p.tables e below (s₁.setTop (mkF m 14 #[.val (.long p0), .second, .val (.long p1), .second, .val (.long p2), .second] [(.int ms0_14)])) _
    exact retN X0 hx (t := .boolean) Bd.returns (by simp) (hb hby d1_14) (by rw [hnar]; exact hr)
  · show Q_1 Z p0 p1 p2 h0 n0 _ s₁.heap _
    rw [e0]
    exact ⟨congrArg (fun z => some (Value.int z)) (by subst hms0_14; rfl : ms0_14 = f_1 p0 p1 p2), N0, rfl⟩
theorem pd_0 : parseMethodDescriptor "(JJJ)Z" = some ⟨[.long, .long, .long], some .boolean⟩ := by decide +kernel
theorem pn_0 : plainName "com/example/admission/admission/FixedWindowsFollowsPinLaw" = true := by first | (simp [plainName, overriddenIn]; done) | decide +kernel
theorem ef_0 (m : MethodId) (p0 : Int64) (p1 : Int64) (p2 : Int64) (p3 : Int32) : entryFrame m #[(.long p0), (.long p1), (.long p2), (.int p3)] maxLocals = mkF m 0 #[.val (.long p0), .second, .val (.long p1), .second, .val (.long p2), .second, .val (.int p3), .unset, .unset, .unset, .unset, .unset, .unset, .unset] [] := by first | (simp [entryFrame, mkF, argsToLocals, Value.category, maxLocals]; done) | rfl
def f_0 (p0 : Int64) (p1 : Int64) (p2 : Int64) (p3 : Int32) : Int32 := let v7_6 : Int64 := (p2 &&& (9223372036854775807 : Int64)); let m7_18 : Int64 := (if v7_6 = (0 : Int64) then (1 : Int64) else v7_6); let v11_25 : Int32 := (p3 &&& (3 : Int32)); let m9_94 : Int64 := (if v11_25 = (1 : Int32) then (p0 - m7_18) else (if v11_25 = (2 : Int32) then ((p0 - m7_18) + (p1 % (3 : Int64))) else (if v11_25 = (3 : Int32) then (if (p3 &&& (4 : Int32)) = (0 : Int32) then ((p0 - m7_18) - m7_18) else (p0 + m7_18)) else p1))); let v12_102 : Int32 := (f_1 p0 m9_94 m7_18); let ms0_119 : Int32 := (if (m9_94 + m7_18) = p0 then (1 : Int32) else (0 : Int32)); let ms0_133 : Int32 := (if v12_102 = ms0_119 then (1 : Int32) else (0 : Int32)); ms0_133
def Q_0 (Z : State) (p0 : Int64) (p1 : Int64) (p2 : Int64) (p3 : Int32)  (h0 : Heap) (n0 : Nat) (v : Option Value) (h : Heap) (L : List Loc) : Prop := v = some (.int (f_0 p0 p1 p2 p3)) ∧ Fr n0 L ∧ True
set_option maxRecDepth 65536 in
set_option maxHeartbeats 40000000 in
theorem rm_0 (l : Launch) (Z : State) (a0 : Array Value) (hw : ∀ d ∈ tables_1, d.before a0 Z = true) (ws : List Jvm.Cond) (p0 : Int64) (p1 : Int64) (p2 : Int64) (p3 : Int32)  (h0 : Heap) (n0 : Nat) (Z0 : n0 ≤ h0.size)  :
    MetFree l x (head1 (Jvm.Cond.code x code maxLocals ret :: ws) room_1) (fun a U => a = #[(.long p0), (.long p1), (.long p2), (.int p3)] ∧ Z.Warmed39 U.vm ∧ U.heap = h0) (fun _ _ _ _ _ => True) (fun _ U o U' => ∃ v L, o = .returned v ∧ Q_0 Z p0 p1 p2 p3 h0 n0 v U'.heap L ∧ FrameEnd U o U' L 0 0) := by
  refine MetFree.of_bodySF (plainFor_of_name pn_0) hisR ?_
  intro p e s m args below meth c s₁ Bd hml0 hP hK
  obtain ⟨rfl, hZ, hh⟩ := hP
  have hx := Bd.exec
  have hby := Bd.bytes
  have hml : c.maxLocals = 14 := hml0
  have hown : s.vm.findClass "com/example/admission/admission/FixedWindowsFollowsPinLaw" = some m.cls := findClass_of_methodNamed Bd.named
  have hnm := (name_of_methodNamed Bd.named Bd.method).1
  have X0 : Stand p l e room_1 s m #[(.long p0), (.long p1), (.long p2), (.int p3)] below meth c s₁ [] 0 0 := Stand.of_body Bd
  have e0 : s₁.heap = h0 := by rw [← hh, Bd.state]; rfl
  have N0 := Fr.nil n0
  have K0 : Keep h0 h0 [] := Keep.refl h0 _
  have pre0 : ∀ t, Steps p.tables e below (s₁.setTop (mkF m 0 #[.val (.long p0), .second, .val (.long p1), .second, .val (.long p2), .second, .val (.int p3), .unset, .unset, .unset, .unset, .unset, .unset, .unset] [])) t → Steps p.tables e below (s₁.setTop (entryFrame m #[(.long p0), (.long p1), (.long p2), (.int p3)] maxLocals)) t := fun t k => castTop (ef_0 m p0 p1 p2 p3) k
  obtain ⟨v7_6, hv7_6⟩ : ∃ z : Int64, z = (p2 &&& (9223372036854775807 : Int64)) := ⟨_, rfl⟩
  have pre1 : ∀ t, Steps p.tables e below (s₁.setTop (mkF m 12 #[.val (.long p0), .second, .val (.long p1), .second, .val (.long p2), .second, .val (.int p3), .val (.long v7_6), .second, .unset, .unset, .unset, .unset, .unset] [(.int (lcmpW v7_6 (0 : Int64)))])) t → Steps p.tables e below (s₁.setTop (entryFrame m #[(.long p0), (.long p1), (.long p2), (.int p3)] maxLocals)) t := by
    intro t k
    refine pre0 t ?_
    show Steps p.tables e below (s₁.setTop (mkF m 0 #[.val (.long p0), .second, .val (.long p1), .second, .val (.long p2), .second, .val (.int p3), .unset, .unset, .unset, .unset, .unset, .unset, .unset] [])) _
    refine XS.lload X0.here hx rfl (hb hby at_0) rfl  ?_
    show Steps p.tables e below (s₁.setTop (mkF m 2 #[.val (.long p0), .second, .val (.long p1), .second, .val (.long p2), .second, .val (.int p3), .unset, .unset, .unset, .unset, .unset, .unset, .unset] [(.long p2)])) _
    refine X0.ldc2Long hx hown (mvT hZ (hw _ (List.mem_of_getElem? (i := 0) rfl))) (g := (mkF m 2 #[.val (.long p0), .second, .val (.long p1), .second, .val (.long p2), .second, .val (.int p3), .unset, .unset, .unset, .unset, .unset, .unset, .unset] [(.long p2)])) rfl (hb hby at_2) _ ?_
    show Steps p.tables e below (s₁.setTop (mkF m 5 #[.val (.long p0), .second, .val (.long p1), .second, .val (.long p2), .second, .val (.int p3), .unset, .unset, .unset, .unset, .unset, .unset, .unset] [(.long (9223372036854775807 : Int64)), (.long p2)])) _
    refine XS.land X0.here hx rfl (hb hby at_5) rfl ?_
    show Steps p.tables e below (s₁.setTop (mkF m 6 #[.val (.long p0), .second, .val (.long p1), .second, .val (.long p2), .second, .val (.int p3), .unset, .unset, .unset, .unset, .unset, .unset, .unset] [(.long (p2 &&& (9223372036854775807 : Int64)))])) _
    refine XS.lstore X0.here hx rfl (hb hby at_6) rfl (l' := #[.val (.long p0), .second, .val (.long p1), .second, .val (.long p2), .second, .val (.int p3), .val (.long v7_6), .second, .unset, .unset, .unset, .unset, .unset]) (by rw [hv7_6]; rfl) ?_
    show Steps p.tables e below (s₁.setTop (mkF m 8 #[.val (.long p0), .second, .val (.long p1), .second, .val (.long p2), .second, .val (.int p3), .val (.long v7_6), .second, .unset, .unset, .unset, .unset, .unset] [])) _
    refine XS.lload X0.here hx rfl (hb hby at_8) rfl  ?_
    show Steps p.tables e below (s₁.setTop (mkF m 10 #[.val (.long p0), .second, .val (.long p1), .second, .val (.long p2), .second, .val (.int p3), .val (.long v7_6), .second, .unset, .unset, .unset, .unset, .unset] [(.long v7_6)])) _
    refine XS.lconst X0.here hx rfl (hb hby at_10) ?_
    show Steps p.tables e below (s₁.setTop (mkF m 11 #[.val (.long p0), .second, .val (.long p1), .second, .val (.long p2), .second, .val (.int p3), .val (.long v7_6), .second, .unset, .unset, .unset, .unset, .unset] [(.long (0 : Int64)), (.long v7_6)])) _
    refine XS.lcmp X0.here hx rfl (hb hby at_11) rfl ?_
    exact k
  obtain ⟨m7_18, hm7_18⟩ : ∃ z : Int64, z = (if v7_6 = (0 : Int64) then (1 : Int64) else v7_6) := ⟨_, rfl⟩
  have pre2 : ∀ t, Steps p.tables e below (s₁.setTop (mkF m 18 #[.val (.long p0), .second, .val (.long p1), .second, .val (.long p2), .second, .val (.int p3), .val (.long m7_18), .second, .unset, .unset, .unset, .unset, .unset] [])) t → Steps p.tables e below (s₁.setTop (entryFrame m #[(.long p0), (.long p1), (.long p2), (.int p3)] maxLocals)) t := by
    intro t k
    refine pre1 t ?_
    by_cases hc12 : v7_6 = (0 : Int64)
    · show Steps p.tables e below (s₁.setTop (mkF m 12 #[.val (.long p0), .second, .val (.long p1), .second, .val (.long p2), .second, .val (.int p3), .val (.long v7_6), .second, .unset, .unset, .unset, .unset, .unset] [(.int (lcmpW v7_6 (0 : Int64)))])) _
      refine XS.ifNo X0.here hx rfl (hb hby at_12) rfl ((if0 _ _).trans (teq ((lw_eq _ _).mpr hc12)).2) ?_
      show Steps p.tables e below (s₁.setTop (mkF m 15 #[.val (.long p0), .second, .val (.long p1), .second, .val (.long p2), .second, .val (.int p3), .val (.long v7_6), .second, .unset, .unset, .unset, .unset, .unset] [])) _
      refine XS.lconst X0.here hx rfl (hb hby at_15) ?_
      show Steps p.tables e below (s₁.setTop (mkF m 16 #[.val (.long p0), .second, .val (.long p1), .second, .val (.long p2), .second, .val (.int p3), .val (.long v7_6), .second, .unset, .unset, .unset, .unset, .unset] [(.long (1 : Int64))])) _
      refine XS.lstore X0.here hx rfl (hb hby at_16) rfl (l' := #[.val (.long p0), .second, .val (.long p1), .second, .val (.long p2), .second, .val (.int p3), .val (.long (1 : Int64)), .second, .unset, .unset, .unset, .unset, .unset]) rfl ?_
      have qm7_18 : m7_18 = (1 : Int64) := by rw [hm7_18, if_pos hc12]
      rw [qm7_18] at k
      exact k
    · show Steps p.tables e below (s₁.setTop (mkF m 12 #[.val (.long p0), .second, .val (.long p1), .second, .val (.long p2), .second, .val (.int p3), .val (.long v7_6), .second, .unset, .unset, .unset, .unset, .unset] [(.int (lcmpW v7_6 (0 : Int64)))])) _
      refine XS.ifYes X0.here hx rfl (pc0 := 12) (pc' := 18) rfl (hb hby at_12) rfl ((if0 _ _).trans (feq (fun q => hc12 ((lw_eq _ _).mp q))).2) (by decide) (by decide) ?_
      have qm7_18 : m7_18 = v7_6 := by rw [hm7_18, if_neg hc12]
      rw [qm7_18] at k
      exact k
  obtain ⟨v11_25, hv11_25⟩ : ∃ z : Int32, z = (p3 &&& (3 : Int32)) := ⟨_, rfl⟩
  have pre3 : ∀ t, Steps p.tables e below (s₁.setTop (mkF m 30 #[.val (.long p0), .second, .val (.long p1), .second, .val (.long p2), .second, .val (.int p3), .val (.long m7_18), .second, .val (.long p1), .second, .val (.int v11_25), .unset, .unset] [(.int (1 : Int32)), (.int v11_25)])) t → Steps p.tables e below (s₁.setTop (entryFrame m #[(.long p0), (.long p1), (.long p2), (.int p3)] maxLocals)) t := by
    intro t k
    refine pre2 t ?_
    show Steps p.tables e below (s₁.setTop (mkF m 18 #[.val (.long p0), .second, .val (.long p1), .second, .val (.long p2), .second, .val (.int p3), .val (.long m7_18), .second, .unset, .unset, .unset, .unset, .unset] [])) _
    refine XS.lloadN X0.here hx rfl (hb hby at_18) rfl  ?_
    show Steps p.tables e below (s₁.setTop (mkF m 19 #[.val (.long p0), .second, .val (.long p1), .second, .val (.long p2), .second, .val (.int p3), .val (.long m7_18), .second, .unset, .unset, .unset, .unset, .unset] [(.long p1)])) _
    refine XS.lstore X0.here hx rfl (hb hby at_19) rfl (l' := #[.val (.long p0), .second, .val (.long p1), .second, .val (.long p2), .second, .val (.int p3), .val (.long m7_18), .second, .val (.long p1), .second, .unset, .unset, .unset]) rfl ?_
    show Steps p.tables e below (s₁.setTop (mkF m 21 #[.val (.long p0), .second, .val (.long p1), .second, .val (.long p2), .second, .val (.int p3), .val (.long m7_18), .second, .val (.long p1), .second, .unset, .unset, .unset] [])) _
    refine XS.iload X0.here hx rfl (hb hby at_21) rfl  ?_
    show Steps p.tables e below (s₁.setTop (mkF m 23 #[.val (.long p0), .second, .val (.long p1), .second, .val (.long p2), .second, .val (.int p3), .val (.long m7_18), .second, .val (.long p1), .second, .unset, .unset, .unset] [(.int p3)])) _
    refine XS.iconst X0.here hx rfl (hb hby at_23) ?_
    show Steps p.tables e below (s₁.setTop (mkF m 24 #[.val (.long p0), .second, .val (.long p1), .second, .val (.long p2), .second, .val (.int p3), .val (.long m7_18), .second, .val (.long p1), .second, .unset, .unset, .unset] [(.int (3 : Int32)), (.int p3)])) _
    refine XS.iand X0.here hx rfl (hb hby at_24) rfl ?_
    show Steps p.tables e below (s₁.setTop (mkF m 25 #[.val (.long p0), .second, .val (.long p1), .second, .val (.long p2), .second, .val (.int p3), .val (.long m7_18), .second, .val (.long p1), .second, .unset, .unset, .unset] [(.int (p3 &&& (3 : Int32)))])) _
    refine XS.istore X0.here hx rfl (hb hby at_25) rfl (l' := #[.val (.long p0), .second, .val (.long p1), .second, .val (.long p2), .second, .val (.int p3), .val (.long m7_18), .second, .val (.long p1), .second, .val (.int v11_25), .unset, .unset]) (by rw [hv11_25]; rfl) ?_
    show Steps p.tables e below (s₁.setTop (mkF m 27 #[.val (.long p0), .second, .val (.long p1), .second, .val (.long p2), .second, .val (.int p3), .val (.long m7_18), .second, .val (.long p1), .second, .val (.int v11_25), .unset, .unset] [])) _
    refine XS.iload X0.here hx rfl (hb hby at_27) rfl  ?_
    show Steps p.tables e below (s₁.setTop (mkF m 29 #[.val (.long p0), .second, .val (.long p1), .second, .val (.long p2), .second, .val (.int p3), .val (.long m7_18), .second, .val (.long p1), .second, .val (.int v11_25), .unset, .unset] [(.int v11_25)])) _
    refine XS.iconst X0.here hx rfl (hb hby at_29) ?_
    exact k
  obtain ⟨m9_94, hm9_94⟩ : ∃ z : Int64, z = (if v11_25 = (1 : Int32) then (p0 - m7_18) else (if v11_25 = (2 : Int32) then ((p0 - m7_18) + (p1 % (3 : Int64))) else (if v11_25 = (3 : Int32) then (if (p3 &&& (4 : Int32)) = (0 : Int32) then ((p0 - m7_18) - m7_18) else (p0 + m7_18)) else p1))) := ⟨_, rfl⟩
  have pre4 : ∀ t, Steps p.tables e below (s₁.setTop (mkF m 94 #[.val (.long p0), .second, .val (.long p1), .second, .val (.long p2), .second, .val (.int p3), .val (.long m7_18), .second, .val (.long m9_94), .second, .val (.int v11_25), .unset, .unset] [])) t → Steps p.tables e below (s₁.setTop (entryFrame m #[(.long p0), (.long p1), (.long p2), (.int p3)] maxLocals)) t := by
    intro t k
    refine pre3 t ?_
    by_cases hc30 : v11_25 = (1 : Int32)
    · show Steps p.tables e below (s₁.setTop (mkF m 30 #[.val (.long p0), .second, .val (.long p1), .second, .val (.long p2), .second, .val (.int p3), .val (.long m7_18), .second, .val (.long p1), .second, .val (.int v11_25), .unset, .unset] [(.int (1 : Int32)), (.int v11_25)])) _
      refine XS.icmpNo X0.here hx rfl (hb hby at_30) rfl (teq hc30).2 ?_
      show Steps p.tables e below (s₁.setTop (mkF m 33 #[.val (.long p0), .second, .val (.long p1), .second, .val (.long p2), .second, .val (.int p3), .val (.long m7_18), .second, .val (.long p1), .second, .val (.int v11_25), .unset, .unset] [])) _
      refine XS.lloadN X0.here hx rfl (hb hby at_33) rfl  ?_
      show Steps p.tables e below (s₁.setTop (mkF m 34 #[.val (.long p0), .second, .val (.long p1), .second, .val (.long p2), .second, .val (.int p3), .val (.long m7_18), .second, .val (.long p1), .second, .val (.int v11_25), .unset, .unset] [(.long p0)])) _
      refine XS.lload X0.here hx rfl (hb hby at_34) rfl  ?_
      show Steps p.tables e below (s₁.setTop (mkF m 36 #[.val (.long p0), .second, .val (.long p1), .second, .val (.long p2), .second, .val (.int p3), .val (.long m7_18), .second, .val (.long p1), .second, .val (.int v11_25), .unset, .unset] [(.long m7_18), (.long p0)])) _
      refine XS.lsub X0.here hx rfl (hb hby at_36) rfl ?_
      show Steps p.tables e below (s₁.setTop (mkF m 37 #[.val (.long p0), .second, .val (.long p1), .second, .val (.long p2), .second, .val (.int p3), .val (.long m7_18), .second, .val (.long p1), .second, .val (.int v11_25), .unset, .unset] [(.long (p0 - m7_18))])) _
      refine XS.lstore X0.here hx rfl (hb hby at_37) rfl (l' := #[.val (.long p0), .second, .val (.long p1), .second, .val (.long p2), .second, .val (.int p3), .val (.long m7_18), .second, .val (.long (p0 - m7_18)), .second, .val (.int v11_25), .unset, .unset]) rfl ?_
      show Steps p.tables e below (s₁.setTop (mkF m 39 #[.val (.long p0), .second, .val (.long p1), .second, .val (.long p2), .second, .val (.int p3), .val (.long m7_18), .second, .val (.long (p0 - m7_18)), .second, .val (.int v11_25), .unset, .unset] [])) _
      refine XS.goto X0.here hx rfl (pc0 := 39) (pc' := 94) rfl (hb hby at_39) (by decide) (by decide) ?_
      have qm9_94 : m9_94 = (p0 - m7_18) := by rw [hm9_94, if_pos hc30]
      rw [qm9_94] at k
      exact k
    · show Steps p.tables e below (s₁.setTop (mkF m 30 #[.val (.long p0), .second, .val (.long p1), .second, .val (.long p2), .second, .val (.int p3), .val (.long m7_18), .second, .val (.long p1), .second, .val (.int v11_25), .unset, .unset] [(.int (1 : Int32)), (.int v11_25)])) _
      refine XS.icmpYes X0.here hx rfl (pc0 := 30) (pc' := 42) rfl (hb hby at_30) rfl (feq hc30).2 (by decide) (by decide) ?_
      show Steps p.tables e below (s₁.setTop (mkF m 42 #[.val (.long p0), .second, .val (.long p1), .second, .val (.long p2), .second, .val (.int p3), .val (.long m7_18), .second, .val (.long p1), .second, .val (.int v11_25), .unset, .unset] [])) _
      refine XS.iload X0.here hx rfl (hb hby at_42) rfl  ?_
      show Steps p.tables e below (s₁.setTop (mkF m 44 #[.val (.long p0), .second, .val (.long p1), .second, .val (.long p2), .second, .val (.int p3), .val (.long m7_18), .second, .val (.long p1), .second, .val (.int v11_25), .unset, .unset] [(.int v11_25)])) _
      refine XS.iconst X0.here hx rfl (hb hby at_44) ?_
      by_cases hc45 : v11_25 = (2 : Int32)
      · show Steps p.tables e below (s₁.setTop (mkF m 45 #[.val (.long p0), .second, .val (.long p1), .second, .val (.long p2), .second, .val (.int p3), .val (.long m7_18), .second, .val (.long p1), .second, .val (.int v11_25), .unset, .unset] [(.int (2 : Int32)), (.int v11_25)])) _
        refine XS.icmpNo X0.here hx rfl (hb hby at_45) rfl (teq hc45).2 ?_
        show Steps p.tables e below (s₁.setTop (mkF m 48 #[.val (.long p0), .second, .val (.long p1), .second, .val (.long p2), .second, .val (.int p3), .val (.long m7_18), .second, .val (.long p1), .second, .val (.int v11_25), .unset, .unset] [])) _
        refine XS.lloadN X0.here hx rfl (hb hby at_48) rfl  ?_
        show Steps p.tables e below (s₁.setTop (mkF m 49 #[.val (.long p0), .second, .val (.long p1), .second, .val (.long p2), .second, .val (.int p3), .val (.long m7_18), .second, .val (.long p1), .second, .val (.int v11_25), .unset, .unset] [(.long p0)])) _
        refine XS.lload X0.here hx rfl (hb hby at_49) rfl  ?_
        show Steps p.tables e below (s₁.setTop (mkF m 51 #[.val (.long p0), .second, .val (.long p1), .second, .val (.long p2), .second, .val (.int p3), .val (.long m7_18), .second, .val (.long p1), .second, .val (.int v11_25), .unset, .unset] [(.long m7_18), (.long p0)])) _
        refine XS.lsub X0.here hx rfl (hb hby at_51) rfl ?_
        show Steps p.tables e below (s₁.setTop (mkF m 52 #[.val (.long p0), .second, .val (.long p1), .second, .val (.long p2), .second, .val (.int p3), .val (.long m7_18), .second, .val (.long p1), .second, .val (.int v11_25), .unset, .unset] [(.long (p0 - m7_18))])) _
        refine XS.lloadN X0.here hx rfl (hb hby at_52) rfl  ?_
        show Steps p.tables e below (s₁.setTop (mkF m 53 #[.val (.long p0), .second, .val (.long p1), .second, .val (.long p2), .second, .val (.int p3), .val (.long m7_18), .second, .val (.long p1), .second, .val (.int v11_25), .unset, .unset] [(.long p1), (.long (p0 - m7_18))])) _
        refine X0.ldc2Long hx hown (mvT hZ (hw _ (List.mem_of_getElem? (i := 1) rfl))) (g := (mkF m 53 #[.val (.long p0), .second, .val (.long p1), .second, .val (.long p2), .second, .val (.int p3), .val (.long m7_18), .second, .val (.long p1), .second, .val (.int v11_25), .unset, .unset] [(.long p1), (.long (p0 - m7_18))])) rfl (hb hby at_53) _ ?_
        show Steps p.tables e below (s₁.setTop (mkF m 56 #[.val (.long p0), .second, .val (.long p1), .second, .val (.long p2), .second, .val (.int p3), .val (.long m7_18), .second, .val (.long p1), .second, .val (.int v11_25), .unset, .unset] [(.long (3 : Int64)), (.long p1), (.long (p0 - m7_18))])) _
        refine own_lremM X0 hx rfl (hb hby at_56) rfl (by decide) ?_
        show Steps p.tables e below (s₁.setTop (mkF m 57 #[.val (.long p0), .second, .val (.long p1), .second, .val (.long p2), .second, .val (.int p3), .val (.long m7_18), .second, .val (.long p1), .second, .val (.int v11_25), .unset, .unset] [(.long (p1 % (3 : Int64))), (.long (p0 - m7_18))])) _
        refine XS.ladd X0.here hx rfl (hb hby at_57) rfl ?_
        show Steps p.tables e below (s₁.setTop (mkF m 58 #[.val (.long p0), .second, .val (.long p1), .second, .val (.long p2), .second, .val (.int p3), .val (.long m7_18), .second, .val (.long p1), .second, .val (.int v11_25), .unset, .unset] [(.long ((p0 - m7_18) + (p1 % (3 : Int64))))])) _
        refine XS.lstore X0.here hx rfl (hb hby at_58) rfl (l' := #[.val (.long p0), .second, .val (.long p1), .second, .val (.long p2), .second, .val (.int p3), .val (.long m7_18), .second, .val (.long ((p0 - m7_18) + (p1 % (3 : Int64)))), .second, .val (.int v11_25), .unset, .unset]) rfl ?_
        show Steps p.tables e below (s₁.setTop (mkF m 60 #[.val (.long p0), .second, .val (.long p1), .second, .val (.long p2), .second, .val (.int p3), .val (.long m7_18), .second, .val (.long ((p0 - m7_18) + (p1 % (3 : Int64)))), .second, .val (.int v11_25), .unset, .unset] [])) _
        refine XS.goto X0.here hx rfl (pc0 := 60) (pc' := 94) rfl (hb hby at_60) (by decide) (by decide) ?_
        have qm9_94 : m9_94 = ((p0 - m7_18) + (p1 % (3 : Int64))) := by rw [hm9_94, if_neg hc30, if_pos hc45]
        rw [qm9_94] at k
        exact k
      · show Steps p.tables e below (s₁.setTop (mkF m 45 #[.val (.long p0), .second, .val (.long p1), .second, .val (.long p2), .second, .val (.int p3), .val (.long m7_18), .second, .val (.long p1), .second, .val (.int v11_25), .unset, .unset] [(.int (2 : Int32)), (.int v11_25)])) _
        refine XS.icmpYes X0.here hx rfl (pc0 := 45) (pc' := 63) rfl (hb hby at_45) rfl (feq hc45).2 (by decide) (by decide) ?_
        show Steps p.tables e below (s₁.setTop (mkF m 63 #[.val (.long p0), .second, .val (.long p1), .second, .val (.long p2), .second, .val (.int p3), .val (.long m7_18), .second, .val (.long p1), .second, .val (.int v11_25), .unset, .unset] [])) _
        refine XS.iload X0.here hx rfl (hb hby at_63) rfl  ?_
        show Steps p.tables e below (s₁.setTop (mkF m 65 #[.val (.long p0), .second, .val (.long p1), .second, .val (.long p2), .second, .val (.int p3), .val (.long m7_18), .second, .val (.long p1), .second, .val (.int v11_25), .unset, .unset] [(.int v11_25)])) _
        refine XS.iconst X0.here hx rfl (hb hby at_65) ?_
        by_cases hc66 : v11_25 = (3 : Int32)
        · show Steps p.tables e below (s₁.setTop (mkF m 66 #[.val (.long p0), .second, .val (.long p1), .second, .val (.long p2), .second, .val (.int p3), .val (.long m7_18), .second, .val (.long p1), .second, .val (.int v11_25), .unset, .unset] [(.int (3 : Int32)), (.int v11_25)])) _
          refine XS.icmpNo X0.here hx rfl (hb hby at_66) rfl (teq hc66).2 ?_
          show Steps p.tables e below (s₁.setTop (mkF m 69 #[.val (.long p0), .second, .val (.long p1), .second, .val (.long p2), .second, .val (.int p3), .val (.long m7_18), .second, .val (.long p1), .second, .val (.int v11_25), .unset, .unset] [])) _
          refine XS.iload X0.here hx rfl (hb hby at_69) rfl  ?_
          show Steps p.tables e below (s₁.setTop (mkF m 71 #[.val (.long p0), .second, .val (.long p1), .second, .val (.long p2), .second, .val (.int p3), .val (.long m7_18), .second, .val (.long p1), .second, .val (.int v11_25), .unset, .unset] [(.int p3)])) _
          refine XS.iconst X0.here hx rfl (hb hby at_71) ?_
          show Steps p.tables e below (s₁.setTop (mkF m 72 #[.val (.long p0), .second, .val (.long p1), .second, .val (.long p2), .second, .val (.int p3), .val (.long m7_18), .second, .val (.long p1), .second, .val (.int v11_25), .unset, .unset] [(.int (4 : Int32)), (.int p3)])) _
          refine XS.iand X0.here hx rfl (hb hby at_72) rfl ?_
          by_cases hc73 : (p3 &&& (4 : Int32)) = (0 : Int32)
          · show Steps p.tables e below (s₁.setTop (mkF m 73 #[.val (.long p0), .second, .val (.long p1), .second, .val (.long p2), .second, .val (.int p3), .val (.long m7_18), .second, .val (.long p1), .second, .val (.int v11_25), .unset, .unset] [(.int (p3 &&& (4 : Int32)))])) _
            refine XS.ifYes X0.here hx rfl (pc0 := 73) (pc' := 85) rfl (hb hby at_73) rfl ((if0 _ _).trans (teq hc73).1) (by decide) (by decide) ?_
            show Steps p.tables e below (s₁.setTop (mkF m 85 #[.val (.long p0), .second, .val (.long p1), .second, .val (.long p2), .second, .val (.int p3), .val (.long m7_18), .second, .val (.long p1), .second, .val (.int v11_25), .unset, .unset] [])) _
            refine XS.lloadN X0.here hx rfl (hb hby at_85) rfl  ?_
            show Steps p.tables e below (s₁.setTop (mkF m 86 #[.val (.long p0), .second, .val (.long p1), .second, .val (.long p2), .second, .val (.int p3), .val (.long m7_18), .second, .val (.long p1), .second, .val (.int v11_25), .unset, .unset] [(.long p0)])) _
            refine XS.lload X0.here hx rfl (hb hby at_86) rfl  ?_
            show Steps p.tables e below (s₁.setTop (mkF m 88 #[.val (.long p0), .second, .val (.long p1), .second, .val (.long p2), .second, .val (.int p3), .val (.long m7_18), .second, .val (.long p1), .second, .val (.int v11_25), .unset, .unset] [(.long m7_18), (.long p0)])) _
            refine XS.lsub X0.here hx rfl (hb hby at_88) rfl ?_
            show Steps p.tables e below (s₁.setTop (mkF m 89 #[.val (.long p0), .second, .val (.long p1), .second, .val (.long p2), .second, .val (.int p3), .val (.long m7_18), .second, .val (.long p1), .second, .val (.int v11_25), .unset, .unset] [(.long (p0 - m7_18))])) _
            refine XS.lload X0.here hx rfl (hb hby at_89) rfl  ?_
            show Steps p.tables e below (s₁.setTop (mkF m 91 #[.val (.long p0), .second, .val (.long p1), .second, .val (.long p2), .second, .val (.int p3), .val (.long m7_18), .second, .val (.long p1), .second, .val (.int v11_25), .unset, .unset] [(.long m7_18), (.long (p0 - m7_18))])) _
            refine XS.lsub X0.here hx rfl (hb hby at_91) rfl ?_
            show Steps p.tables e below (s₁.setTop (mkF m 92 #[.val (.long p0), .second, .val (.long p1), .second, .val (.long p2), .second, .val (.int p3), .val (.long m7_18), .second, .val (.long p1), .second, .val (.int v11_25), .unset, .unset] [(.long ((p0 - m7_18) - m7_18))])) _
            refine XS.lstore X0.here hx rfl (hb hby at_92) rfl (l' := #[.val (.long p0), .second, .val (.long p1), .second, .val (.long p2), .second, .val (.int p3), .val (.long m7_18), .second, .val (.long ((p0 - m7_18) - m7_18)), .second, .val (.int v11_25), .unset, .unset]) rfl ?_
            have qm9_94 : m9_94 = ((p0 - m7_18) - m7_18) := by rw [hm9_94, if_neg hc30, if_neg hc45, if_pos hc66, if_pos hc73]
            rw [qm9_94] at k
            exact k
          · show Steps p.tables e below (s₁.setTop (mkF m 73 #[.val (.long p0), .second, .val (.long p1), .second, .val (.long p2), .second, .val (.int p3), .val (.long m7_18), .second, .val (.long p1), .second, .val (.int v11_25), .unset, .unset] [(.int (p3 &&& (4 : Int32)))])) _
            refine XS.ifNo X0.here hx rfl (hb hby at_73) rfl ((if0 _ _).trans (feq hc73).1) ?_
            show Steps p.tables e below (s₁.setTop (mkF m 76 #[.val (.long p0), .second, .val (.long p1), .second, .val (.long p2), .second, .val (.int p3), .val (.long m7_18), .second, .val (.long p1), .second, .val (.int v11_25), .unset, .unset] [])) _
            refine XS.lloadN X0.here hx rfl (hb hby at_76) rfl  ?_
            show Steps p.tables e below (s₁.setTop (mkF m 77 #[.val (.long p0), .second, .val (.long p1), .second, .val (.long p2), .second, .val (.int p3), .val (.long m7_18), .second, .val (.long p1), .second, .val (.int v11_25), .unset, .unset] [(.long p0)])) _
            refine XS.lload X0.here hx rfl (hb hby at_77) rfl  ?_
            show Steps p.tables e below (s₁.setTop (mkF m 79 #[.val (.long p0), .second, .val (.long p1), .second, .val (.long p2), .second, .val (.int p3), .val (.long m7_18), .second, .val (.long p1), .second, .val (.int v11_25), .unset, .unset] [(.long m7_18), (.long p0)])) _
            refine XS.ladd X0.here hx rfl (hb hby at_79) rfl ?_
            show Steps p.tables e below (s₁.setTop (mkF m 80 #[.val (.long p0), .second, .val (.long p1), .second, .val (.long p2), .second, .val (.int p3), .val (.long m7_18), .second, .val (.long p1), .second, .val (.int v11_25), .unset, .unset] [(.long (p0 + m7_18))])) _
            refine XS.lstore X0.here hx rfl (hb hby at_80) rfl (l' := #[.val (.long p0), .second, .val (.long p1), .second, .val (.long p2), .second, .val (.int p3), .val (.long m7_18), .second, .val (.long (p0 + m7_18)), .second, .val (.int v11_25), .unset, .unset]) rfl ?_
            show Steps p.tables e below (s₁.setTop (mkF m 82 #[.val (.long p0), .second, .val (.long p1), .second, .val (.long p2), .second, .val (.int p3), .val (.long m7_18), .second, .val (.long (p0 + m7_18)), .second, .val (.int v11_25), .unset, .unset] [])) _
            refine XS.goto X0.here hx rfl (pc0 := 82) (pc' := 94) rfl (hb hby at_82) (by decide) (by decide) ?_
            have qm9_94 : m9_94 = (p0 + m7_18) := by rw [hm9_94, if_neg hc30, if_neg hc45, if_pos hc66, if_neg hc73]
            rw [qm9_94] at k
            exact k
        · show Steps p.tables e below (s₁.setTop (mkF m 66 #[.val (.long p0), .second, .val (.long p1), .second, .val (.long p2), .second, .val (.int p3), .val (.long m7_18), .second, .val (.long p1), .second, .val (.int v11_25), .unset, .unset] [(.int (3 : Int32)), (.int v11_25)])) _
          refine XS.icmpYes X0.here hx rfl (pc0 := 66) (pc' := 94) rfl (hb hby at_66) rfl (feq hc66).2 (by decide) (by decide) ?_
          have qm9_94 : m9_94 = p1 := by rw [hm9_94, if_neg hc30, if_neg hc45, if_neg hc66]
          rw [qm9_94] at k
          exact k
  have pre6 : ∀ t, Steps p.tables e below (s₁.setTop (mkF m 99 #[.val (.long p0), .second, .val (.long p1), .second, .val (.long p2), .second, .val (.int p3), .val (.long m7_18), .second, .val (.long m9_94), .second, .val (.int v11_25), .unset, .unset] [(.long m7_18), (.long m9_94), (.long p0)])) t → Steps p.tables e below (s₁.setTop (entryFrame m #[(.long p0), (.long p1), (.long p2), (.int p3)] maxLocals)) t := by
    intro t k
    refine pre4 t ?_
    show Steps p.tables e below (s₁.setTop (mkF m 94 #[.val (.long p0), .second, .val (.long p1), .second, .val (.long p2), .second, .val (.int p3), .val (.long m7_18), .second, .val (.long m9_94), .second, .val (.int v11_25), .unset, .unset] [])) _
    refine XS.lloadN X0.here hx rfl (hb hby at_94) rfl  ?_
    show Steps p.tables e below (s₁.setTop (mkF m 95 #[.val (.long p0), .second, .val (.long p1), .second, .val (.long p2), .second, .val (.int p3), .val (.long m7_18), .second, .val (.long m9_94), .second, .val (.int v11_25), .unset, .unset] [(.long p0)])) _
    refine XS.lload X0.here hx rfl (hb hby at_95) rfl  ?_
    show Steps p.tables e below (s₁.setTop (mkF m 97 #[.val (.long p0), .second, .val (.long p1), .second, .val (.long p2), .second, .val (.int p3), .val (.long m7_18), .second, .val (.long m9_94), .second, .val (.int v11_25), .unset, .unset] [(.long m9_94), (.long p0)])) _
    refine XS.lload X0.here hx rfl (hb hby at_97) rfl  ?_
    exact k
  obtain ⟨_, _, ⟨T5, L5, k5, n5⟩, -, X5, ⟨Lc5, hQ5, l5, y5, z5⟩, st5⟩ := Jvm.LawKit.callS X0 hx (y := (⟨"com/example/admission/admission/FixedWindows", "follows", "(JJJ)Z"⟩ : MethodName)) hown (mvT hZ (hw _ (List.mem_of_getElem? (i := 2) rfl))) (mvT hZ (hw _ (List.mem_of_getElem? (i := 3) rfl))) (mvT hZ (hw _ (List.mem_of_getElem? (i := 4) rfl))) (mvT hZ (hw _ (List.mem_of_getElem? (i := 5) rfl))) (by decide) (backOf (W := 0) (rm_1 l Z a0 hw [] p0 m9_94 m7_18 h0 n0 Z0 ) hZ (hw _ (List.mem_of_getElem? (i := 5) rfl)) (hw _ (List.mem_of_getElem? (i := 4) rfl)) (by decide) (by decide)) (g := (mkF m 99 #[.val (.long p0), .second, .val (.long p1), .second, .val (.long p2), .second, .val (.int p3), .val (.long m7_18), .second, .val (.long m9_94), .second, .val (.int v11_25), .unset, .unset] [(.long m7_18), (.long m9_94), (.long p0)])) rfl (by rw [hml]; rfl) (argsL := [(.long p0), (.long m9_94), (.long m7_18)]) (rest := []) (lenOf pd_0 rfl) rfl (by show 2 * 0 + _ ≤ _; exact Nat.le_of_eq rfl) (hb hby at_99) (fun _ _ => ⟨rfl, e0, (by decide : 0 + 0 ≤ _), (by decide : 0 + 0 ≤ _)⟩)
  dsimp only [Pt.U, Pt.locs, Pt.cells, Pt.slots] at X5 l5 y5 z5 st5 hQ5
  subst l5 y5 z5
  obtain ⟨rfl, N5q, e5⟩ := hQ5
  have N5 := Fr.app N0 N5q
  obtain ⟨v12_102, hv12_102⟩ : ∃ z : Int32, z = (f_1 p0 m9_94 m7_18) := ⟨_, rfl⟩
  have pre7 : ∀ t, Steps p.tables e below (T5.setTop (mkF m 111 #[.val (.long p0), .second, .val (.long p1), .second, .val (.long p2), .second, .val (.int p3), .val (.long m7_18), .second, .val (.long m9_94), .second, .val (.int v11_25), .val (.int v12_102), .unset] [(.int (lcmpW (m9_94 + m7_18) p0))])) t → Steps p.tables e below (s₁.setTop (entryFrame m #[(.long p0), (.long p1), (.long p2), (.int p3)] maxLocals)) t := by
    intro t k
    refine pre6 t ?_
    show Steps p.tables e below (s₁.setTop (mkF m 99 #[.val (.long p0), .second, .val (.long p1), .second, .val (.long p2), .second, .val (.int p3), .val (.long m7_18), .second, .val (.long m9_94), .second, .val (.int v11_25), .unset, .unset] [(.long m7_18), (.long m9_94), (.long p0)])) _
    refine st5 _ ?_
    show Steps p.tables e below (T5.setTop (mkF m 102 #[.val (.long p0), .second, .val (.long p1), .second, .val (.long p2), .second, .val (.int p3), .val (.long m7_18), .second, .val (.long m9_94), .second, .val (.int v11_25), .unset, .unset] [(.int (f_1 p0 m9_94 m7_18))])) _
    refine XS.istore X5.here hx rfl (hb hby at_102) rfl (l' := #[.val (.long p0), .second, .val (.long p1), .second, .val (.long p2), .second, .val (.int p3), .val (.long m7_18), .second, .val (.long m9_94), .second, .val (.int v11_25), .val (.int v12_102), .unset]) (by rw [hv12_102]; rfl) ?_
    show Steps p.tables e below (T5.setTop (mkF m 104 #[.val (.long p0), .second, .val (.long p1), .second, .val (.long p2), .second, .val (.int p3), .val (.long m7_18), .second, .val (.long m9_94), .second, .val (.int v11_25), .val (.int v12_102), .unset] [])) _
    refine XS.lload X5.here hx rfl (hb hby at_104) rfl  ?_
    show Steps p.tables e below (T5.setTop (mkF m 106 #[.val (.long p0), .second, .val (.long p1), .second, .val (.long p2), .second, .val (.int p3), .val (.long m7_18), .second, .val (.long m9_94), .second, .val (.int v11_25), .val (.int v12_102), .unset] [(.long m9_94)])) _
    refine XS.lload X5.here hx rfl (hb hby at_106) rfl  ?_
    show Steps p.tables e below (T5.setTop (mkF m 108 #[.val (.long p0), .second, .val (.long p1), .second, .val (.long p2), .second, .val (.int p3), .val (.long m7_18), .second, .val (.long m9_94), .second, .val (.int v11_25), .val (.int v12_102), .unset] [(.long m7_18), (.long m9_94)])) _
    refine XS.ladd X5.here hx rfl (hb hby at_108) rfl ?_
    show Steps p.tables e below (T5.setTop (mkF m 109 #[.val (.long p0), .second, .val (.long p1), .second, .val (.long p2), .second, .val (.int p3), .val (.long m7_18), .second, .val (.long m9_94), .second, .val (.int v11_25), .val (.int v12_102), .unset] [(.long (m9_94 + m7_18))])) _
    refine XS.lloadN X5.here hx rfl (hb hby at_109) rfl  ?_
    show Steps p.tables e below (T5.setTop (mkF m 110 #[.val (.long p0), .second, .val (.long p1), .second, .val (.long p2), .second, .val (.int p3), .val (.long m7_18), .second, .val (.long m9_94), .second, .val (.int v11_25), .val (.int v12_102), .unset] [(.long p0), (.long (m9_94 + m7_18))])) _
    refine XS.lcmp X5.here hx rfl (hb hby at_110) rfl ?_
    exact k
  obtain ⟨ms0_119, hms0_119⟩ : ∃ z : Int32, z = (if (m9_94 + m7_18) = p0 then (1 : Int32) else (0 : Int32)) := ⟨_, rfl⟩
  have pre8 : ∀ t, Steps p.tables e below (T5.setTop (mkF m 119 #[.val (.long p0), .second, .val (.long p1), .second, .val (.long p2), .second, .val (.int p3), .val (.long m7_18), .second, .val (.long m9_94), .second, .val (.int v11_25), .val (.int v12_102), .unset] [(.int ms0_119)])) t → Steps p.tables e below (s₁.setTop (entryFrame m #[(.long p0), (.long p1), (.long p2), (.int p3)] maxLocals)) t := by
    intro t k
    refine pre7 t ?_
    by_cases hc111 : (m9_94 + m7_18) = p0
    · show Steps p.tables e below (T5.setTop (mkF m 111 #[.val (.long p0), .second, .val (.long p1), .second, .val (.long p2), .second, .val (.int p3), .val (.long m7_18), .second, .val (.long m9_94), .second, .val (.int v11_25), .val (.int v12_102), .unset] [(.int (lcmpW (m9_94 + m7_18) p0))])) _
      refine XS.ifNo X5.here hx rfl (hb hby at_111) rfl ((if0 _ _).trans (teq ((lw_eq _ _).mpr hc111)).2) ?_
      show Steps p.tables e below (T5.setTop (mkF m 114 #[.val (.long p0), .second, .val (.long p1), .second, .val (.long p2), .second, .val (.int p3), .val (.long m7_18), .second, .val (.long m9_94), .second, .val (.int v11_25), .val (.int v12_102), .unset] [])) _
      refine XS.iconst X5.here hx rfl (hb hby at_114) ?_
      show Steps p.tables e below (T5.setTop (mkF m 115 #[.val (.long p0), .second, .val (.long p1), .second, .val (.long p2), .second, .val (.int p3), .val (.long m7_18), .second, .val (.long m9_94), .second, .val (.int v11_25), .val (.int v12_102), .unset] [(.int (1 : Int32))])) _
      refine XS.goto X5.here hx rfl (pc0 := 115) (pc' := 119) rfl (hb hby at_115) (by decide) (by decide) ?_
      have qms0_119 : ms0_119 = (1 : Int32) := by rw [hms0_119, if_pos hc111]
      rw [qms0_119] at k
      exact k
    · show Steps p.tables e below (T5.setTop (mkF m 111 #[.val (.long p0), .second, .val (.long p1), .second, .val (.long p2), .second, .val (.int p3), .val (.long m7_18), .second, .val (.long m9_94), .second, .val (.int v11_25), .val (.int v12_102), .unset] [(.int (lcmpW (m9_94 + m7_18) p0))])) _
      refine XS.ifYes X5.here hx rfl (pc0 := 111) (pc' := 118) rfl (hb hby at_111) rfl ((if0 _ _).trans (feq (fun q => hc111 ((lw_eq _ _).mp q))).2) (by decide) (by decide) ?_
      show Steps p.tables e below (T5.setTop (mkF m 118 #[.val (.long p0), .second, .val (.long p1), .second, .val (.long p2), .second, .val (.int p3), .val (.long m7_18), .second, .val (.long m9_94), .second, .val (.int v11_25), .val (.int v12_102), .unset] [])) _
      refine XS.iconst X5.here hx rfl (hb hby at_118) ?_
      have qms0_119 : ms0_119 = (0 : Int32) := by rw [hms0_119, if_neg hc111]
      rw [qms0_119] at k
      exact k
  have pre9 : ∀ t, Steps p.tables e below (T5.setTop (mkF m 125 #[.val (.long p0), .second, .val (.long p1), .second, .val (.long p2), .second, .val (.int p3), .val (.long m7_18), .second, .val (.long m9_94), .second, .val (.int v11_25), .val (.int v12_102), .val (.int ms0_119)] [(.int ms0_119), (.int v12_102)])) t → Steps p.tables e below (s₁.setTop (entryFrame m #[(.long p0), (.long p1), (.long p2), (.int p3)] maxLocals)) t := by
    intro t k
    refine pre8 t ?_
    show Steps p.tables e below (T5.setTop (mkF m 119 #[.val (.long p0), .second, .val (.long p1), .second, .val (.long p2), .second, .val (.int p3), .val (.long m7_18), .second, .val (.long m9_94), .second, .val (.int v11_25), .val (.int v12_102), .unset] [(.int ms0_119)])) _
    refine XS.istore X5.here hx rfl (hb hby at_119) rfl (l' := #[.val (.long p0), .second, .val (.long p1), .second, .val (.long p2), .second, .val (.int p3), .val (.long m7_18), .second, .val (.long m9_94), .second, .val (.int v11_25), .val (.int v12_102), .val (.int ms0_119)]) rfl ?_
    show Steps p.tables e below (T5.setTop (mkF m 121 #[.val (.long p0), .second, .val (.long p1), .second, .val (.long p2), .second, .val (.int p3), .val (.long m7_18), .second, .val (.long m9_94), .second, .val (.int v11_25), .val (.int v12_102), .val (.int ms0_119)] [])) _
    refine XS.iload X5.here hx rfl (hb hby at_121) rfl  ?_
    show Steps p.tables e below (T5.setTop (mkF m 123 #[.val (.long p0), .second, .val (.long p1), .second, .val (.long p2), .second, .val (.int p3), .val (.long m7_18), .second, .val (.long m9_94), .second, .val (.int v11_25), .val (.int v12_102), .val (.int ms0_119)] [(.int v12_102)])) _
    refine XS.iload X5.here hx rfl (hb hby at_123) rfl  ?_
    exact k
  obtain ⟨ms0_133, hms0_133⟩ : ∃ z : Int32, z = (if v12_102 = ms0_119 then (1 : Int32) else (0 : Int32)) := ⟨_, rfl⟩
  have pre10 : ∀ t, Steps p.tables e below (T5.setTop (mkF m 133 #[.val (.long p0), .second, .val (.long p1), .second, .val (.long p2), .second, .val (.int p3), .val (.long m7_18), .second, .val (.long m9_94), .second, .val (.int v11_25), .val (.int v12_102), .val (.int ms0_119)] [(.int ms0_133)])) t → Steps p.tables e below (s₁.setTop (entryFrame m #[(.long p0), (.long p1), (.long p2), (.int p3)] maxLocals)) t := by
    intro t k
    refine pre9 t ?_
    by_cases hc125 : v12_102 = ms0_119
    · show Steps p.tables e below (T5.setTop (mkF m 125 #[.val (.long p0), .second, .val (.long p1), .second, .val (.long p2), .second, .val (.int p3), .val (.long m7_18), .second, .val (.long m9_94), .second, .val (.int v11_25), .val (.int v12_102), .val (.int ms0_119)] [(.int ms0_119), (.int v12_102)])) _
      refine XS.icmpNo X5.here hx rfl (hb hby at_125) rfl (teq hc125).2 ?_
      show Steps p.tables e below (T5.setTop (mkF m 128 #[.val (.long p0), .second, .val (.long p1), .second, .val (.long p2), .second, .val (.int p3), .val (.long m7_18), .second, .val (.long m9_94), .second, .val (.int v11_25), .val (.int v12_102), .val (.int ms0_119)] [])) _
      refine XS.iconst X5.here hx rfl (hb hby at_128) ?_
      show Steps p.tables e below (T5.setTop (mkF m 129 #[.val (.long p0), .second, .val (.long p1), .second, .val (.long p2), .second, .val (.int p3), .val (.long m7_18), .second, .val (.long m9_94), .second, .val (.int v11_25), .val (.int v12_102), .val (.int ms0_119)] [(.int (1 : Int32))])) _
      refine XS.goto X5.here hx rfl (pc0 := 129) (pc' := 133) rfl (hb hby at_129) (by decide) (by decide) ?_
      have qms0_133 : ms0_133 = (1 : Int32) := by rw [hms0_133, if_pos hc125]
      rw [qms0_133] at k
      exact k
    · show Steps p.tables e below (T5.setTop (mkF m 125 #[.val (.long p0), .second, .val (.long p1), .second, .val (.long p2), .second, .val (.int p3), .val (.long m7_18), .second, .val (.long m9_94), .second, .val (.int v11_25), .val (.int v12_102), .val (.int ms0_119)] [(.int ms0_119), (.int v12_102)])) _
      refine XS.icmpYes X5.here hx rfl (pc0 := 125) (pc' := 132) rfl (hb hby at_125) rfl (feq hc125).2 (by decide) (by decide) ?_
      show Steps p.tables e below (T5.setTop (mkF m 132 #[.val (.long p0), .second, .val (.long p1), .second, .val (.long p2), .second, .val (.int p3), .val (.long m7_18), .second, .val (.long m9_94), .second, .val (.int v11_25), .val (.int v12_102), .val (.int ms0_119)] [])) _
      refine XS.iconst X5.here hx rfl (hb hby at_132) ?_
      have qms0_133 : ms0_133 = (0 : Int32) := by rw [hms0_133, if_neg hc125]
      rw [qms0_133] at k
      exact k
  have hnar : nar .boolean ms0_133 = ms0_133 := by rw [hms0_133]; (repeat' split) <;> rfl
  obtain ⟨fs, hr, hrun, hended, hW, hsame⟩ := X5.leave (v := some (.int ms0_133)) (fun h => by rw [Bd.returns] at h; cases h)
  refine ⟨_, _, pre10 _ ?_, hrun, hended, _, _, rfl, ?_, ⟨_, rfl⟩, hW, hsame.mono (by decide) (by decide)⟩
  · show Steps p.tables e below (T5.setTop (mkF m 133 #[.val (.long p0), .second, .val (.long p1), .second, .val (.long p2), .second, .val (.int p3), .val (.long m7_18), .second, .val (.long m9_94), .second, .val (.int v11_25), .val (.int v12_102), .val (.int ms0_119)] [(.int ms0_133)])) _
    exact retN X5 hx (t := .boolean) Bd.returns (by simp) (hb hby at_133) (by rw [hnar]; exact hr)
  · show Q_0 Z p0 p1 p2 p3 h0 n0 _ T5.heap _
    rw [e5]
    exact ⟨congrArg (fun z => some (Value.int z)) (by subst hv7_6 hm7_18 hv11_25 hm9_94 hv12_102 hms0_119 hms0_133; rfl : ms0_133 = f_0 p0 p1 p2 p3), N5, trivial⟩
theorem own_eq (a e w : Int64) : (if (f_1 a e w) = (if e + w = a then (1 : Int32) else (0 : Int32)) then (1 : Int32) else (0 : Int32)) = 1 := by
  have q : (a - w = e) ↔ e + w = a := ⟨fun h => by rw [← h, Int64.sub_add_cancel], fun h => by rw [← h, Int64.add_sub_cancel]⟩
  simp only [f_1, q, if_true]
theorem own_law (p0 p1 p2 : Int64) (p3 : Int32) : f_0 p0 p1 p2 p3 = 1 := own_eq _ _ _
set_option maxRecDepth 65536 in
set_option maxHeartbeats 40000000 in
theorem comes_1 {Post : Tables → Env → Array Value → State → Outcome → State → Prop} (hpost : ∀ tb e args s v u, (limb_1_1.after args s (.returned v) u = true ∧ limb_1_2.after args s (.returned v) u = true ∧ True) → FrameEnd s (.returned v) u (Jvm.fieldLocs frame_1_writes args s ++ Jvm.arrayLocs frame_1_arrays args s ++ Jvm.staticLocs frame_1_statics s) 0 0 → Post tb e args s (.returned v) u) :
    ArmFor flags0 classFile x code maxLocals ret World_1 tables_1 room_1 Calls_1 rest_1 Pre_1 Post := by
  intro l hfl _ _ p e ha hc hk s m args below hf hA hF happ hP
  obtain ⟨hcalls, hrest, hpre⟩ := hP
  obtain ⟨-, -, -, hnamed, -, -, -, hat⟩ := (Spec.applies_iff hf).mp happ
  obtain ⟨hg, hn⟩ := and_e (Cond.before_iff.mp (show (Jvm.Cond.and given_1 narrow_1).before args s = true from hpre))
  obtain ⟨g0, gt0⟩ := and_e hg
  obtain ⟨ga0, gt1⟩ := and_e gt0
  obtain ⟨ga1, gt2⟩ := and_e gt1
  obtain ⟨ga2, gt3⟩ := and_e gt2
  obtain ⟨w0, w1, w2, w3, rfl⟩ : ∃ w0 w1 w2 w3 : Value, args = #[w0, w1, w2, w3] := by
    have hs : args.size = 4 := by simpa [Cond.value, given_1] using g0
    obtain ⟨L⟩ := args
    match L, hs with
    | [w0, w1, w2, w3], _ => exact ⟨w0, w1, w2, w3, rfl⟩
  have hw := fun d (hd : d ∈ tables_1) => atoms_spec (ws := Jvm.Cond.code x code maxLocals ret :: tables_1) hat d (List.mem_cons_of_mem _ hd)
  have hfit : Fit s := fun {y c} hc i hi => by
    obtain ⟨ha, rfl⟩ := Array.getElem?_eq_some_iff.mp hc
    have q := List.all_eq_true.mp ((Array.all_eq_true_iff_forall_mem.mp hF) _ (Array.getElem_mem ha)) i (List.mem_range.mpr hi)
    simpa [Array.getElem?_eq_getElem hi] using q
  obtain ⟨i0, ei0⟩ := isL_v ga0
  obtain rfl : w0 = (.long i0) := Option.some.inj ei0
  obtain ⟨i1, ei1⟩ := isL_v ga1
  obtain rfl : w1 = (.long i1) := Option.some.inj ei1
  obtain ⟨i2, ei2⟩ := isL_v ga2
  obtain rfl : w2 = (.long i2) := Option.some.inj ei2
  obtain ⟨i3, ei3⟩ := is_v gt3
  obtain rfl : w3 = (.int i3) := Option.some.inj ei3
  obtain ⟨n, o, h1, h2, h3, _, L, rfl, ⟨rfl, N⟩, hq⟩ := rm_0 l s _ hw tables_1 i0 i1 i2 i3  s.heap s.heap.size (Nat.le_refl _)  p e ha hc hk s m _ below hf ((Spec.applies_iff_loose hf).mp happ).1 ⟨rfl, State.Warmed39.refl s, rfl⟩ trivial
  refine ⟨n, _, h1, h2, h3, hpost _ _ _ _ _ _ ⟨Cond.after_iff.mpr rfl, Cond.after_iff.mpr (eq_i res_at (Term.int_eval (1)) (congrArg Value.int (own_law _ _ _ _))), trivial⟩ ⟨hq.1, hq.2.1, (hq.2.2.sift fun y hy => Or.inr (N.1 y hy)).mono (by decide) (by decide)⟩⟩
theorem main_1_1 : Claimed_1_1 := comes_1 fun _ _ _ _ _ _ h hF => ⟨h.1, hF⟩
theorem main_1_2 : Claimed_1_2 := comes_1 fun _ _ _ _ _ _ h hF => ⟨h.2.1, hF⟩
end Jvm.Pilot.@@N@@
namespace Jvm.Pilot.@@N@@
open Jvm Jvm.ClassFile Sem Op Lib Jvm.Free Jvm.Stand Jvm.Pilot.@@N@@.Jvm.D
/-! MADE BY PROGRAM (witnessworld.py) out of the Statement's table words and the real class files: 7 classes; the members and pool entries that the words name. The judged class is class 1, her method 1. -/
namespace start1
open Jvm.ClassFile
def u (s : String) : CpInfo := .utf8 (stringToUtf16 s)
/-- a pool by its gaps: so many unusable entries, then the entry; so many at the end -/
def gap : Nat → List CpInfo → List CpInfo
  | 0, r => r
  | n + 1, r => .unusable :: gap n r
def poolList (es : List (Nat × CpInfo)) (last : Nat) : List CpInfo := es.foldr (fun e r => gap e.1 (e.2 :: r)) (gap last [])
def pool (es : List (Nat × CpInfo)) (last : Nat) : Array CpInfo := ⟨poolList es last⟩
def fileOf (pool : Array CpInfo) (this : Nat) (attrs : Array Attribute := #[]) (ms : Array MethodInfo := #[]) (fl : Nat := 33) (sup : Nat := 0) (ifs : Array Nat := #[]) (fds : Array FieldInfo := #[]) : ClassFile where
  minorVersion := 0
  majorVersion := 65
  constantPool := pool
  accessFlags := fl
  thisClass := this
  superClass := sup
  interfaces := ifs
  fields := fds
  methods := ms
  attributes := attrs
def plain (name : String) (sup : Option ClassId) : Class where
  name := name
  kind := .ordinary
  loader := none
  accessFlags := 33
  super := sup
  interfaces := #[]
  cf := none
  fields := #[]
  methods := #[]
  instanceTypes := #[]
  staticTypes := #[]
  resolved := #[]
  callSites := []
  init := .initialized
  statics := none
  mirror := none

def pool0 : Array CpInfo := pool [(5, u "<init>"), (0, u "()V"), (1, .class_ 10), (1, u "java/lang/Object")] 113

def k0m0 : Method := { name := "<init>", desc := "()V", sig := { parameters := [], returnType := none }, accessFlags := 1, code := none }
/-- java/lang/Object -/
def k0 : Class := { plain "java/lang/Object" none with
  accessFlags := 33
  interfaces := #[]
  cf := some (fileOf pool0 8 #[] #[{ accessFlags := 1, nameIndex := 5, descriptorIndex := 6, attributes := #[] }] 33 0 #[] #[])
  fields := #[]
  methods := #[k0m0]
  instanceTypes := #[]
  staticTypes := #[]
  resolved := Array.replicate 124 none
  statics := none }

def pool1 : Array CpInfo := pool [(2, .class_ 4), (1, u "java/lang/Object"), (0, u "<init>"), (0, u "()V"), (2, .long 9223372036854775807), (1, .long 3), (1, .methodref 14 15), (0, .class_ 16), (0, .nameAndType 17 18), (0, u "com/example/admission/admission/FixedWindows"), (0, u "follows"), (0, u "(JJJ)Z"), (0, .class_ 20), (0, u "com/example/admission/admission/FixedWindowsFollowsPinLaw"), (2, u "law"), (0, u "(JJJI)Z")] 3

def k1m0 : Method := { name := "<init>", desc := "()V", sig := { parameters := [], returnType := none }, accessFlags := 1, code := none }
def k1c1 : Code := { maxStack := 6, maxLocals := 14, code := code, exceptionTable := #[], attributes := #[] }
def k1m1 : Method := { name := "law", desc := "(JJJI)Z", sig := { parameters := [.long, .long, .long, .int], returnType := some .boolean }, accessFlags := 9, code := some k1c1 }
/-- com/example/admission/admission/FixedWindowsFollowsPinLaw -/
def k1 : Class := { plain "com/example/admission/admission/FixedWindowsFollowsPinLaw" (some 0) with
  accessFlags := 49
  interfaces := #[]
  cf := some (fileOf pool1 19 #[] #[{ accessFlags := 1, nameIndex := 5, descriptorIndex := 6, attributes := #[] }, { accessFlags := 9, nameIndex := 23, descriptorIndex := 24, attributes := #[] }] 49 2 #[] #[])
  fields := #[]
  methods := #[k1m0, k1m1]
  instanceTypes := #[]
  staticTypes := #[]
  resolved := Array.replicate 28 none
  statics := none }

def pool2 : Array CpInfo := pool [(2, .class_ 4), (1, u "java/lang/Object"), (0, u "<init>"), (0, u "()V"), (27, .class_ 35), (0, u "com/example/admission/admission/FixedWindows"), (7, u "follows"), (0, u "(JJJ)Z")] 7

def k2m0 : Method := { name := "<init>", desc := "()V", sig := { parameters := [], returnType := none }, accessFlags := 2, code := none }
def k2c1 : Code := { maxStack := 4, maxLocals := 6, code := prog_10_method_5_code, exceptionTable := #[], attributes := #[] }
def k2m1 : Method := { name := "follows", desc := "(JJJ)Z", sig := { parameters := [.long, .long, .long], returnType := some .boolean }, accessFlags := 8, code := some k2c1 }
/-- com/example/admission/admission/FixedWindows -/
def k2 : Class := { plain "com/example/admission/admission/FixedWindows" (some 0) with
  accessFlags := 48
  interfaces := #[]
  cf := some (fileOf pool2 34 #[] #[{ accessFlags := 2, nameIndex := 5, descriptorIndex := 6, attributes := #[] }, { accessFlags := 8, nameIndex := 43, descriptorIndex := 44, attributes := #[] }] 48 2 #[] #[])
  fields := #[]
  methods := #[k2m0, k2m1]
  instanceTypes := #[]
  staticTypes := #[]
  resolved := Array.replicate 52 none
  statics := none }

def pool3 : Array CpInfo := pool [(1, u "java/lang/Cloneable"), (0, .class_ 1), (0, u "java/lang/Object"), (0, .class_ 3)] 3

/-- java/lang/Cloneable -/
def k3 : Class := { plain "java/lang/Cloneable" (some 0) with
  accessFlags := 1537
  interfaces := #[]
  cf := some (fileOf pool3 2 #[] #[] 1537 4 #[] #[])
  fields := #[]
  methods := #[]
  instanceTypes := #[]
  staticTypes := #[]
  resolved := Array.replicate 8 none
  statics := none }

def pool4 : Array CpInfo := pool [(1, u "java/io/Serializable"), (0, .class_ 1), (0, u "java/lang/Object"), (0, .class_ 3)] 3

/-- java/io/Serializable -/
def k4 : Class := { plain "java/io/Serializable" (some 0) with
  accessFlags := 1537
  interfaces := #[]
  cf := some (fileOf pool4 2 #[] #[] 1537 4 #[] #[])
  fields := #[]
  methods := #[]
  instanceTypes := #[]
  staticTypes := #[]
  resolved := Array.replicate 8 none
  statics := none }

/-- the primitive byte -/
def k5 : Class := { plain "byte" none with kind := .primitive 'B', accessFlags := 0x411 }
/-- [B -/
def k6 : Class := { plain "[B" (some 0) with kind := .array 5 .byte, interfaces := #[3, 4], accessFlags := 1041 }

def heap : Heap := #[]
def classes : Array Class := #[k0, k1, k2, k3, k4, k5, k6]
def interned : List (Array UInt16 × Addr) := []
def slotsUsed : Nat := 0
def theMethod : MethodId := ⟨1, 1⟩
def args0 : Array Value := #[.long 5, .long 7, .long 9, .int 3]
def aboutOver (below : List Frame) : State where
  vm := { classes := classes, interned := interned.toArray }
  heap := heap
  slotsUsed := slotsUsed
  threads := #[{ frames := .invoking theMethod args0 :: below }]
def below0 : List Frame := [.native { method := ⟨0, 0⟩, args := #[] }]
def about1 : State := aboutOver below0
def p0 : Program := .bare "" "" ""
def e0 : Env := launch0.env 0 0 0
theorem w_frames : about1.frames = Frame.invoking theMethod args0 :: below0 := rfl
set_option maxRecDepth 65536 in
theorem w_args : argsFit about1.vm theMethod args0 = true := by decide +kernel
set_option maxRecDepth 65536 in
theorem w_heap : heapFits about1 = true := by decide +kernel
set_option maxRecDepth 65536 in
theorem w_runnable : about1.curStatus? = some .runnable := by decide +kernel
set_option maxRecDepth 65536 in
theorem w_alone : about1.alone = true := by decide +kernel
set_option maxRecDepth 65536 in
theorem w_named : about1.methodNamed? x = some theMethod := by decide +kernel
set_option maxRecDepth 65536 in
theorem w_hears : about1.hears theMethod below0 = true := by decide +kernel
set_option maxRecDepth 65536 in
theorem w_ripe : about1.ripe theMethod args0 below0 = true := by decide +kernel
theorem w_running : about1.status = .running := rfl
set_option maxRecDepth 65536 in
theorem w_room : about1.hasRoom e0.platform room_1 = true :=
  launch0.hasRoom_least _ room_1 (by decide +kernel) (by decide +kernel) (by decide +kernel) (by decide +kernel) (by decide +kernel) (by decide +kernel)
theorem allAtoms_all (ts : List Jvm.Cond) (a : Array Jvm.Value) (st : Jvm.State) : (allAtoms ts).before a st = ts.all (fun c => c.before a st) := by
  induction ts with
  | nil => rfl
  | cons c t ih =>
    show (Jvm.Cond.and c (allAtoms t)).before a st = _
    rw [Jvm.Cond.before_and, ih, List.all_cons]
def words1 : List Jvm.Cond := Jvm.Cond.code x code maxLocals ret :: tables_1
/-- a 'code' word, met by the world's own term for the bytes: nothing is compared byte by byte -/
theorem code_word {y : MethodName} {bytes : ByteArray} {mx : Nat} {rt : Option FieldType} {a : Array Value} {s : State} {m : MethodId} {meth : Method} {c : Code} (h1 : s.methodNamed? y = some m) (h2 : s.vm.method? m = some meth) (h3 : meth.code = some c) (h4 : c.code = bytes)
    (h5 : (c.maxLocals == mx && c.exceptionTable.isEmpty && decide (c.maxStack ≤ mostOperands) && decide (meth.sig.returnType = rt) && !meth.locks && decide (parseMethodDescriptor y.desc = some meth.sig)) = true) : (Jvm.Cond.code y bytes mx rt).before a s = true := by
  simp only [Bool.and_eq_true, beq_iff_eq, Bool.not_eq_true', decide_eq_true_eq] at h5
  obtain ⟨⟨⟨⟨⟨g1, g2⟩, g3⟩, g4⟩, g5⟩, g6⟩ := h5
  simp [Cond.before, Cond.holds, Cond.value, h1, h2, h3, h4, g1, g2, g3, g4, g5, g6]
def isCode : Jvm.Cond → Bool
  | .code _ _ _ _ => true
  | _ => false
theorem all_split {L : List Jvm.Cond} {P : Jvm.Cond → Bool} (h1 : L.all (fun c => isCode c || P c) = true) (h2 : ∀ c ∈ L.filter isCode, P c = true) : L.all P = true := by
  refine List.all_eq_true.mpr fun c hc => ?_
  have h := List.all_eq_true.mp h1 c hc
  rcases Bool.eq_false_or_eq_true (isCode c) with hi | hi
  · exact h2 c (List.mem_filter.mpr ⟨hc, hi⟩)
  · simpa [hi] using h
set_option maxRecDepth 65536 in
theorem w_c0 : (Jvm.Cond.code x code maxLocals ret).before args0 about1 = true := code_word (m := ⟨1, 1⟩) (meth := k1m1) (c := k1c1) (by decide +kernel) rfl rfl rfl (by decide +kernel)
set_option maxRecDepth 65536 in
theorem w_c1 : (Jvm.Cond.code ({ cls := "com/example/admission/admission/FixedWindows", name := "follows", desc := "(JJJ)Z" } : Jvm.MethodName) prog_10_method_5_code (6 : Nat) (Option.some Jvm.ClassFile.FieldType.boolean)).before args0 about1 = true := code_word (m := ⟨2, 1⟩) (meth := k2m1) (c := k2c1) (by decide +kernel) rfl rfl rfl (by decide +kernel)
def codes1 : List Jvm.Cond := [Jvm.Cond.code x code maxLocals ret, Jvm.Cond.code ({ cls := "com/example/admission/admission/FixedWindows", name := "follows", desc := "(JJJ)Z" } : Jvm.MethodName) prog_10_method_5_code (6 : Nat) (Option.some Jvm.ClassFile.FieldType.boolean)]
set_option maxRecDepth 65536 in
theorem codes_eq : words1.filter isCode = codes1 := rfl
theorem w_codes : ∀ c ∈ words1.filter isCode, c.before args0 about1 = true := by
  rw [codes_eq]
  intro c hc
  simp only [codes1, List.mem_cons, List.not_mem_nil, or_false] at hc
  rcases hc with rfl | rfl
  · exact w_c0
  · exact w_c1
set_option maxRecDepth 65536 in
theorem w_t1 : words1.all (fun c => isCode c || c.before args0 about1) = true := by decide +kernel
theorem w_tables : (allAtoms (Jvm.Cond.code x code maxLocals ret :: tables_1)).before args0 about1 = true := by
  rw [allAtoms_all]
  show words1.all (fun c => c.before args0 about1) = true
  refine all_split ?_ w_codes
  rw [w_t1]
set_option maxRecDepth 65536 in
theorem w_case : (Jvm.Cond.and given_1 narrow_1).before args0 about1 = true := by decide +kernel
theorem w_applies : (headSpec (Jvm.Cond.code x code maxLocals ret :: tables_1) room_1).applies x e0.platform about1 = true :=
  (Spec.applies_iff w_frames).mpr ⟨w_running, w_runnable, w_alone, w_named, w_hears, w_ripe, w_room, w_tables⟩
theorem atStart : AtStart classFile x code maxLocals ret World_1 tables_1 room_1 Calls_1 rest_1 Pre_1 launch0 p0 e0 about1 theMethod args0 below0 :=
  ⟨lists_1, trivial, launch0.admits_env _ _ _, launch0.least_env, fairChoices_fair.cas, fairChoices_fair.clock, w_frames, w_args, w_heap, w_applies, trivial, trivial, w_case⟩
end start1
theorem witness_1 : WitnessClaimed_1 := ⟨start1.p0, start1.e0, start1.about1, start1.theMethod, start1.args0, start1.below0, start1.atStart⟩
end Jvm.Pilot.@@N@@
