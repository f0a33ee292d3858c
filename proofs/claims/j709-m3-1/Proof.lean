import JvmDerived
import JvmDerived.Pilot.@@N@@Statement
import JvmDerived.Pilot.@@N@@Code
set_option linter.unusedVariables false
set_option linter.unusedSimpArgs false
namespace Jvm.RoadKit
open Sem ClassFile Op Lib Jvm.Stand Jvm.Free Jvm.LawKit
section New
variable {p : Program} {l : Launch} {e : Env} {R : Room} {s : State} {m : MethodId} {args : Array Value} {below : List Frame} {meth : Method} {c : Code} {T : State} {locs : List Loc} {cells slots : Nat}
theorem retI (X : Stand p l e R s m args below meth c T locs cells slots) (hx : p.tables.exec = Jvm.exec) {pc : Nat} {Ls : Array Slot} {z : Int32} {rest : List Value} (hret : meth.sig.returnType = some .int) (hd : decode c.code pc = .ok (.ireturn, 1)) {fs : List Frame}
    (hl : ∀ (f : JFrame) (acts : List Action), f.method = m → f.locked = none → f.entered = [] → (doReturn e (T.setTop f) acts (some (.int z))).1 = T.setFrames fs) : Steps p.tables e below (T.setTop (mkF m pc Ls (.int z :: rest))) (T.setFrames fs) := by
  have hm' : T.vm.method? m = some meth := X.method'
  have hn : narrow .int (.int z) = .int z := rfl
  show Steps p.tables e below (T.setTop { method := m, pc := pc, locals := Ls, stack := _ :: rest, locked := none }) _
  jvm_step X.here [X.here.top, hx, hd, hm', hret, hn]
  first | (intro acts; rw [hl _ acts rfl rfl rfl]) | rw [hl _ _ rfl rfl rfl]
  exact Steps.refl _
theorem own_lremM {g : JFrame} {target : State} (X : Stand p l e R s m args below meth c T locs cells slots) (hx : p.tables.exec = Jvm.exec) (hg : g.method = m) {x y : Int64} {rest : List Value} (hd : decode c.code g.pc = .ok (.lrem, 1)) (hs : g.stack = .long y :: .long x :: rest) (hy : y ≠ 0)
    (hr : Steps p.tables e below (T.setTop { g with pc := g.pc + 1, stack := .long (x % y) :: rest }) target) : Steps p.tables e below (T.setTop g) target := by
  have q : x - x / y * y = x % y := lrem_mod x y
  exact XS.lrem X.here hx hg hd hs hy (by rw [q]; exact hr)
end New
end Jvm.RoadKit
namespace Jvm.Pilot.@@N@@
open Jvm Jvm.ClassFile Sem Op Lib Jvm.Free Jvm.Stand Jvm.LawKit Jvm.RoadKit Bundle Jvm.Pilot.@@N@@.Jvm.D
theorem d2_0 : decode jdk_29_method_66_code 0 = .ok (.lload_n 0, 1) := by decide +kernel
theorem d2_1 : decode jdk_29_method_66_code 1 = .ok (.lload_n 2, 1) := by decide +kernel
theorem d2_2 : decode jdk_29_method_66_code 2 = .ok (.lcmp, 1) := by decide +kernel
theorem d2_3 : decode jdk_29_method_66_code 3 = .ok (.ifCond .lt 7, 3) := by decide +kernel
theorem d2_6 : decode jdk_29_method_66_code 6 = .ok (.lload_n 0, 1) := by decide +kernel
theorem d2_7 : decode jdk_29_method_66_code 7 = .ok (.goto 4, 3) := by decide +kernel
theorem d2_10 : decode jdk_29_method_66_code 10 = .ok (.lload_n 2, 1) := by decide +kernel
theorem d2_11 : decode jdk_29_method_66_code 11 = .ok (.lreturn, 1) := by decide +kernel
theorem ef_2 (m : MethodId) (p0 : Int64) (p1 : Int64) : entryFrame m #[(.long p0), (.long p1)] 4 = mkF m 0 #[.val (.long p0), .second, .val (.long p1), .second] [] := by first | (simp [entryFrame, mkF, argsToLocals, Value.category]; done) | rfl
def f_2 (p0 : Int64) (p1 : Int64) : Int64 := let ms0_11 : Int64 := (if p0 < p1 then p1 else p0); ms0_11
def Q_2 (Z : State) (p0 : Int64) (p1 : Int64)  (h0 : Heap) (n0 : Nat) (v : Option Value) (h : Heap) (L : List Loc) : Prop := v = some (.long (f_2 p0 p1)) ∧ Fr n0 L ∧ h = h0
set_option maxRecDepth 65536 in
set_option maxHeartbeats 40000000 in
theorem rm_2 (l : Launch) (Z : State) (a0 : Array Value) (hw : ∀ d ∈ tables_1, d.before a0 Z = true) (ws : List Jvm.Cond) (p0 : Int64) (p1 : Int64)  (h0 : Heap) (n0 : Nat) (Z0 : n0 ≤ h0.size)  :
    MetFree l (⟨"java/lang/Math", "max", "(JJ)J"⟩ : MethodName) (head1 (Jvm.Cond.code (⟨"java/lang/Math", "max", "(JJ)J"⟩ : MethodName) jdk_29_method_66_code 4 (some .long) :: ws) ({ frames := 0, cells := 0, slots := 0, locals := 0 } : Room)) (fun a U => a = #[(.long p0), (.long p1)] ∧ Z.Warmed39 U.vm ∧ U.heap = h0) (fun _ _ _ _ _ => True) (fun _ U o U' => ∃ v L, o = .returned v ∧ Q_2 Z p0 p1 h0 n0 v U'.heap L ∧ FrameEnd U o U' L ({ frames := 0, cells := 0, slots := 0, locals := 0 } : Room).cells ({ frames := 0, cells := 0, slots := 0, locals := 0 } : Room).slots) := by
  refine MetFree.of_bodySF (Jvm.Free.JP.mathPlain rfl (by decide +kernel)) hisR ?_
  intro p e s m args below meth c s₁ Bd hml0 hP hK
  obtain ⟨rfl, hZ, hh⟩ := hP
  have hx := Bd.exec
  have hby := Bd.bytes
  have hml : c.maxLocals = 4 := hml0
  have hown : s.vm.findClass "java/lang/Math" = some m.cls := findClass_of_methodNamed Bd.named
  have hnm := (name_of_methodNamed Bd.named Bd.method).1
  have X0 : Stand p l e ({ frames := 0, cells := 0, slots := 0, locals := 0 } : Room) s m #[(.long p0), (.long p1)] below meth c s₁ [] 0 0 := Stand.of_body Bd
  have e0 : s₁.heap = h0 := by rw [← hh, Bd.state]; rfl
  have N0 := Fr.nil n0
  have K0 : Keep h0 h0 [] := Keep.refl h0 _
  have pre0 : ∀ t, Steps p.tables e below (s₁.setTop (mkF m 0 #[.val (.long p0), .second, .val (.long p1), .second] [])) t → Steps p.tables e below (s₁.setTop (entryFrame m #[(.long p0), (.long p1)] 4)) t := fun t k => castTop (ef_2 m p0 p1) k
  have pre1 : ∀ t, Steps p.tables e below (s₁.setTop (mkF m 3 #[.val (.long p0), .second, .val (.long p1), .second] [(.int (lcmpW p0 p1))])) t → Steps p.tables e below (s₁.setTop (entryFrame m #[(.long p0), (.long p1)] 4)) t := by
    intro t k
    refine pre0 t ?_
    show Steps p.tables e below (s₁.setTop (mkF m 0 #[.val (.long p0), .second, .val (.long p1), .second] [])) _
    refine XS.lloadN X0.here hx rfl (hb hby d2_0) rfl  ?_
    show Steps p.tables e below (s₁.setTop (mkF m 1 #[.val (.long p0), .second, .val (.long p1), .second] [(.long p0)])) _
    refine XS.lloadN X0.here hx rfl (hb hby d2_1) rfl  ?_
    show Steps p.tables e below (s₁.setTop (mkF m 2 #[.val (.long p0), .second, .val (.long p1), .second] [(.long p1), (.long p0)])) _
    refine XS.lcmp X0.here hx rfl (hb hby d2_2) rfl ?_
    exact k
  obtain ⟨ms0_11, hms0_11⟩ : ∃ z : Int64, z = (if p0 < p1 then p1 else p0) := ⟨_, rfl⟩
  have pre2 : ∀ t, Steps p.tables e below (s₁.setTop (mkF m 11 #[.val (.long p0), .second, .val (.long p1), .second] [(.long ms0_11)])) t → Steps p.tables e below (s₁.setTop (entryFrame m #[(.long p0), (.long p1)] 4)) t := by
    intro t k
    refine pre1 t ?_
    by_cases hc3 : p0 < p1
    · show Steps p.tables e below (s₁.setTop (mkF m 3 #[.val (.long p0), .second, .val (.long p1), .second] [(.int (lcmpW p0 p1))])) _
      refine XS.ifYes X0.here hx rfl (pc0 := 3) (pc' := 10) rfl (hb hby d2_3) rfl ((if0 _ _).trans (tlt ((lw_lt _ _).mpr hc3)).1) (by decide) (by decide) ?_
      show Steps p.tables e below (s₁.setTop (mkF m 10 #[.val (.long p0), .second, .val (.long p1), .second] [])) _
      refine XS.lloadN X0.here hx rfl (hb hby d2_10) rfl  ?_
      have qms0_11 : ms0_11 = p1 := by rw [hms0_11, if_pos hc3]
      rw [qms0_11] at k
      exact k
    · show Steps p.tables e below (s₁.setTop (mkF m 3 #[.val (.long p0), .second, .val (.long p1), .second] [(.int (lcmpW p0 p1))])) _
      refine XS.ifNo X0.here hx rfl (hb hby d2_3) rfl ((if0 _ _).trans (flt (fun q => hc3 ((lw_lt _ _).mp q))).1) ?_
      show Steps p.tables e below (s₁.setTop (mkF m 6 #[.val (.long p0), .second, .val (.long p1), .second] [])) _
      refine XS.lloadN X0.here hx rfl (hb hby d2_6) rfl  ?_
      show Steps p.tables e below (s₁.setTop (mkF m 7 #[.val (.long p0), .second, .val (.long p1), .second] [(.long p0)])) _
      refine XS.goto X0.here hx rfl (pc0 := 7) (pc' := 11) rfl (hb hby d2_7) (by decide) (by decide) ?_
      have qms0_11 : ms0_11 = p0 := by rw [hms0_11, if_neg hc3]
      rw [qms0_11] at k
      exact k
  obtain ⟨fs, hr, hrun, hended, hW, hsame⟩ := X0.leave (v := some (.long ms0_11)) (fun h => by rw [Bd.returns] at h; cases h)
  refine ⟨_, _, pre2 _ ?_, hrun, hended, _, _, rfl, ?_, ⟨_, rfl⟩, hW, hsame.mono (by decide) (by decide)⟩
  · show Steps p.tables e below (s₁.setTop (mkF m 11 #[.val (.long p0), .second, .val (.long p1), .second] [(.long ms0_11)])) _
    exact retOut X0 hx Bd.returns rfl (Or.inr (Or.inl ⟨rfl, rfl, _, rfl⟩)) (hb hby d2_11) hr
  · show Q_2 Z p0 p1 h0 n0 _ s₁.heap _
    rw [e0]
    exact ⟨congrArg (fun z => some (Value.long z)) (by subst hms0_11; rfl : ms0_11 = f_2 p0 p1), N0, rfl⟩
theorem own_mx (n : Int64) : f_2 n (1 : Int64) ≠ 0 := by
  unfold f_2
  by_cases h : n < (1 : Int64)
  · simp only [h, if_true]; decide
  · simp only [h, if_false]
    rintro rfl
    exact h (by decide)
theorem pd_0 : parseMethodDescriptor "(JJ)J" = some ⟨[.long, .long], some .long⟩ := by decide +kernel
theorem d1_0 : decode prog_3_method_4_code 0 = .ok (.lload_n 0, 1) := by decide +kernel
theorem d1_1 : decode prog_3_method_4_code 1 = .ok (.ldc2_w 21, 3) := by decide +kernel
theorem d1_4 : decode prog_3_method_4_code 4 = .ok (.lmul, 1) := by decide +kernel
theorem d1_5 : decode prog_3_method_4_code 5 = .ok (.lload_n 2, 1) := by decide +kernel
theorem d1_6 : decode prog_3_method_4_code 6 = .ok (.lconst 1, 1) := by decide +kernel
theorem d1_7 : decode prog_3_method_4_code 7 = .ok (.invokestatic 23, 3) := by decide +kernel
theorem d1_10 : decode prog_3_method_4_code 10 = .ok (.ldiv, 1) := by decide +kernel
theorem d1_11 : decode prog_3_method_4_code 11 = .ok (.lreturn, 1) := by decide +kernel
theorem pn_1 : plainName "com/example/sequeue/sequeue/bench/Figures" = true := by first | (simp [plainName, overriddenIn]; done) | decide +kernel
theorem ef_1 (m : MethodId) (p0 : Int64) (p1 : Int64) : entryFrame m #[(.long p0), (.long p1)] 4 = mkF m 0 #[.val (.long p0), .second, .val (.long p1), .second] [] := by first | (simp [entryFrame, mkF, argsToLocals, Value.category]; done) | rfl
def f_1 (p0 : Int64) (p1 : Int64) : Int64 := ((p0 * (1000000000 : Int64)) / (f_2 p1 (1 : Int64)))
def Q_1 (Z : State) (p0 : Int64) (p1 : Int64)  (h0 : Heap) (n0 : Nat) (v : Option Value) (h : Heap) (L : List Loc) : Prop := v = some (.long (f_1 p0 p1)) ∧ Fr n0 L ∧ h = h0
set_option maxRecDepth 65536 in
set_option maxHeartbeats 40000000 in
theorem rm_1 (l : Launch) (Z : State) (a0 : Array Value) (hw : ∀ d ∈ tables_1, d.before a0 Z = true) (ws : List Jvm.Cond) (p0 : Int64) (p1 : Int64)  (h0 : Heap) (n0 : Nat) (Z0 : n0 ≤ h0.size)  :
    MetFree l (⟨"com/example/sequeue/sequeue/bench/Figures", "rate", "(JJ)J"⟩ : MethodName) (head1 (Jvm.Cond.code (⟨"com/example/sequeue/sequeue/bench/Figures", "rate", "(JJ)J"⟩ : MethodName) prog_3_method_4_code 4 (some .long) :: ws) ({ frames := 1, cells := 0, slots := 0, locals := 17 } : Room)) (fun a U => a = #[(.long p0), (.long p1)] ∧ Z.Warmed39 U.vm ∧ U.heap = h0) (fun _ _ _ _ _ => True) (fun _ U o U' => ∃ v L, o = .returned v ∧ Q_1 Z p0 p1 h0 n0 v U'.heap L ∧ FrameEnd U o U' L ({ frames := 1, cells := 0, slots := 0, locals := 17 } : Room).cells ({ frames := 1, cells := 0, slots := 0, locals := 17 } : Room).slots) := by
  refine MetFree.of_bodySF (plainFor_of_name pn_1) hisR ?_
  intro p e s m args below meth c s₁ Bd hml0 hP hK
  obtain ⟨rfl, hZ, hh⟩ := hP
  have hx := Bd.exec
  have hby := Bd.bytes
  have hml : c.maxLocals = 4 := hml0
  have hown : s.vm.findClass "com/example/sequeue/sequeue/bench/Figures" = some m.cls := findClass_of_methodNamed Bd.named
  have hnm := (name_of_methodNamed Bd.named Bd.method).1
  have X0 : Stand p l e ({ frames := 1, cells := 0, slots := 0, locals := 17 } : Room) s m #[(.long p0), (.long p1)] below meth c s₁ [] 0 0 := Stand.of_body Bd
  have e0 : s₁.heap = h0 := by rw [← hh, Bd.state]; rfl
  have N0 := Fr.nil n0
  have K0 : Keep h0 h0 [] := Keep.refl h0 _
  have pre0 : ∀ t, Steps p.tables e below (s₁.setTop (mkF m 0 #[.val (.long p0), .second, .val (.long p1), .second] [])) t → Steps p.tables e below (s₁.setTop (entryFrame m #[(.long p0), (.long p1)] 4)) t := fun t k => castTop (ef_1 m p0 p1) k
  have pre2 : ∀ t, Steps p.tables e below (s₁.setTop (mkF m 7 #[.val (.long p0), .second, .val (.long p1), .second] [(.long (1 : Int64)), (.long p1), (.long (p0 * (1000000000 : Int64)))])) t → Steps p.tables e below (s₁.setTop (entryFrame m #[(.long p0), (.long p1)] 4)) t := by
    intro t k
    refine pre0 t ?_
    show Steps p.tables e below (s₁.setTop (mkF m 0 #[.val (.long p0), .second, .val (.long p1), .second] [])) _
    refine XS.lloadN X0.here hx rfl (hb hby d1_0) rfl  ?_
    show Steps p.tables e below (s₁.setTop (mkF m 1 #[.val (.long p0), .second, .val (.long p1), .second] [(.long p0)])) _
    refine X0.ldc2Long hx hown (mvT hZ (hw _ (List.mem_of_getElem? (i := 6) rfl))) (g := (mkF m 1 #[.val (.long p0), .second, .val (.long p1), .second] [(.long p0)])) rfl (hb hby d1_1) _ ?_
    show Steps p.tables e below (s₁.setTop (mkF m 4 #[.val (.long p0), .second, .val (.long p1), .second] [(.long (1000000000 : Int64)), (.long p0)])) _
    refine XS.lmul X0.here hx rfl (hb hby d1_4) rfl ?_
    show Steps p.tables e below (s₁.setTop (mkF m 5 #[.val (.long p0), .second, .val (.long p1), .second] [(.long (p0 * (1000000000 : Int64)))])) _
    refine XS.lloadN X0.here hx rfl (hb hby d1_5) rfl  ?_
    show Steps p.tables e below (s₁.setTop (mkF m 6 #[.val (.long p0), .second, .val (.long p1), .second] [(.long p1), (.long (p0 * (1000000000 : Int64)))])) _
    refine XS.lconst X0.here hx rfl (hb hby d1_6) ?_
    exact k
  obtain ⟨_, _, ⟨T1, L1, k1, n1⟩, -, X1, ⟨Lc1, hQ1, l1, y1, z1⟩, st1⟩ := Jvm.LawKit.callS X0 hx (y := (⟨"java/lang/Math", "max", "(JJ)J"⟩ : MethodName)) hown (mvT hZ (hw _ (List.mem_of_getElem? (i := 7) rfl))) (mvT hZ (hw _ (List.mem_of_getElem? (i := 8) rfl))) (mvT hZ (hw _ (List.mem_of_getElem? (i := 9) rfl))) (mvT hZ (hw _ (List.mem_of_getElem? (i := 10) rfl))) (by decide) (backOf (W := 2) (rm_2 l Z a0 hw [] p1 (1 : Int64) h0 n0 Z0 ) hZ (hw _ (List.mem_of_getElem? (i := 10) rfl)) (hw _ (List.mem_of_getElem? (i := 9) rfl)) (by decide) (by decide)) (g := (mkF m 7 #[.val (.long p0), .second, .val (.long p1), .second] [(.long (1 : Int64)), (.long p1), (.long (p0 * (1000000000 : Int64)))])) rfl (by rw [hml]; rfl) (argsL := [(.long p1), (.long (1 : Int64))]) (rest := [(.long (p0 * (1000000000 : Int64)))]) (lenOf pd_0 rfl) rfl (by show 2 * 0 + _ ≤ _; exact Nat.le_of_eq rfl) (hb hby d1_7) (fun _ _ => ⟨rfl, e0, (by decide : 0 + 0 ≤ _), (by decide : 0 + 0 ≤ _)⟩)
  dsimp only [Pt.U, Pt.locs, Pt.cells, Pt.slots] at X1 l1 y1 z1 st1 hQ1
  subst l1 y1 z1
  obtain ⟨rfl, N1q, e1⟩ := hQ1
  have N1 := Fr.app N0 N1q
  obtain ⟨fs, hr, hrun, hended, hW, hsame⟩ := X1.leave (v := some (.long ((p0 * (1000000000 : Int64)) / (f_2 p1 (1 : Int64))))) (fun h => by rw [Bd.returns] at h; cases h)
  refine ⟨_, _, pre2 _ ?_, hrun, hended, _, _, rfl, ?_, ⟨_, rfl⟩, hW, hsame.mono (by decide) (by decide)⟩
  · show Steps p.tables e below (s₁.setTop (mkF m 7 #[.val (.long p0), .second, .val (.long p1), .second] [(.long (1 : Int64)), (.long p1), (.long (p0 * (1000000000 : Int64)))])) _
    refine st1 _ ?_
    show Steps p.tables e below (T1.setTop (mkF m 10 #[.val (.long p0), .second, .val (.long p1), .second] [(.long (f_2 p1 (1 : Int64))), (.long (p0 * (1000000000 : Int64)))])) _
    refine XS.ldiv X1.here hx rfl (hb hby d1_10) rfl (own_mx _) ?_
    show Steps p.tables e below (T1.setTop (mkF m 11 #[.val (.long p0), .second, .val (.long p1), .second] [(.long ((p0 * (1000000000 : Int64)) / (f_2 p1 (1 : Int64))))])) _
    exact retOut X1 hx Bd.returns rfl (Or.inr (Or.inl ⟨rfl, rfl, _, rfl⟩)) (hb hby d1_11) hr
  · show Q_1 Z p0 p1 h0 n0 _ T1.heap _
    rw [e1]
    exact ⟨congrArg (fun z => some (Value.long z)) (by rfl : ((p0 * (1000000000 : Int64)) / (f_2 p1 (1 : Int64))) = f_1 p0 p1), N1, rfl⟩
theorem pn_0 : plainName "com/example/sequeue/sequeue/bench/FiguresRatePinLaw" = true := by first | (simp [plainName, overriddenIn]; done) | decide +kernel
theorem ef_0 (m : MethodId) (p0 : Int64) (p1 : Int64) : entryFrame m #[(.long p0), (.long p1)] maxLocals = mkF m 0 #[.val (.long p0), .second, .val (.long p1), .second, .unset, .unset, .unset, .unset, .unset, .unset, .unset, .unset, .unset, .unset, .unset, .unset] [] := by first | (simp [entryFrame, mkF, argsToLocals, Value.category, maxLocals]; done) | rfl
def f_0 (p0 : Int64) (p1 : Int64) : Int32 := let v4_5 : Int64 := (p0 &&& (2147483647 : Int64)); let v6_12 : Int64 := (p1 &&& (9223372036854775807 : Int64)); let v8_21 : Int64 := (f_1 v4_5 v6_12); let ms0_36 : Int64 := (if v6_12 = (0 : Int64) then (1 : Int64) else v6_12); let v12_44 : Int64 := (v4_5 * (1000000000 : Int64)); (if v8_21 < (0 : Int64) then (0 : Int32) else (if v8_21 = (0 : Int64) then let v14_83 : Int64 := (v12_44 - (v8_21 * ms0_36)); let ms0_105 : Int32 := (if v14_83 < (0 : Int64) then (0 : Int32) else (if v14_83 < ms0_36 then (1 : Int32) else (0 : Int32))); ms0_105 else (if (v12_44 / v8_21) < ms0_36 then (0 : Int32) else let v14_83 : Int64 := (v12_44 - (v8_21 * ms0_36)); let ms0_105 : Int32 := (if v14_83 < (0 : Int64) then (0 : Int32) else (if v14_83 < ms0_36 then (1 : Int32) else (0 : Int32))); ms0_105)))
def Q_0 (Z : State) (p0 : Int64) (p1 : Int64)  (h0 : Heap) (n0 : Nat) (v : Option Value) (h : Heap) (L : List Loc) : Prop := v = some (.int (f_0 p0 p1)) ∧ Fr n0 L ∧ True
set_option maxRecDepth 65536 in
set_option maxHeartbeats 40000000 in
theorem rm_0 (l : Launch) (Z : State) (a0 : Array Value) (hw : ∀ d ∈ tables_1, d.before a0 Z = true) (ws : List Jvm.Cond) (p0 : Int64) (p1 : Int64)  (h0 : Heap) (n0 : Nat) (Z0 : n0 ≤ h0.size)  :
    MetFree l x (head1 (Jvm.Cond.code x code maxLocals ret :: ws) room_1) (fun a U => a = #[(.long p0), (.long p1)] ∧ Z.Warmed39 U.vm ∧ U.heap = h0) (fun _ _ _ _ _ => True) (fun _ U o U' => ∃ v L, o = .returned v ∧ Q_0 Z p0 p1 h0 n0 v U'.heap L ∧ FrameEnd U o U' L 0 0) := by
  refine MetFree.of_bodySF (plainFor_of_name pn_0) hisR ?_
  intro p e s m args below meth c s₁ Bd hml0 hP hK
  obtain ⟨rfl, hZ, hh⟩ := hP
  have hx := Bd.exec
  have hby := Bd.bytes
  have hml : c.maxLocals = 16 := hml0
  have hown : s.vm.findClass "com/example/sequeue/sequeue/bench/FiguresRatePinLaw" = some m.cls := findClass_of_methodNamed Bd.named
  have hnm := (name_of_methodNamed Bd.named Bd.method).1
  have X0 : Stand p l e room_1 s m #[(.long p0), (.long p1)] below meth c s₁ [] 0 0 := Stand.of_body Bd
  have e0 : s₁.heap = h0 := by rw [← hh, Bd.state]; rfl
  have N0 := Fr.nil n0
  have K0 : Keep h0 h0 [] := Keep.refl h0 _
  have pre0 : ∀ t, Steps p.tables e below (s₁.setTop (mkF m 0 #[.val (.long p0), .second, .val (.long p1), .second, .unset, .unset, .unset, .unset, .unset, .unset, .unset, .unset, .unset, .unset, .unset, .unset] [])) t → Steps p.tables e below (s₁.setTop (entryFrame m #[(.long p0), (.long p1)] maxLocals)) t := fun t k => castTop (ef_0 m p0 p1) k
  obtain ⟨v4_5, hv4_5⟩ : ∃ z : Int64, z = (p0 &&& (2147483647 : Int64)) := ⟨_, rfl⟩
  obtain ⟨v6_12, hv6_12⟩ : ∃ z : Int64, z = (p1 &&& (9223372036854775807 : Int64)) := ⟨_, rfl⟩
  have pre2 : ∀ t, Steps p.tables e below (s₁.setTop (mkF m 18 #[.val (.long p0), .second, .val (.long p1), .second, .val (.long v4_5), .second, .val (.long v6_12), .second, .unset, .unset, .unset, .unset, .unset, .unset, .unset, .unset] [(.long v6_12), (.long v4_5)])) t → Steps p.tables e below (s₁.setTop (entryFrame m #[(.long p0), (.long p1)] maxLocals)) t := by
    intro t k
    refine pre0 t ?_
    show Steps p.tables e below (s₁.setTop (mkF m 0 #[.val (.long p0), .second, .val (.long p1), .second, .unset, .unset, .unset, .unset, .unset, .unset, .unset, .unset, .unset, .unset, .unset, .unset] [])) _
    refine XS.lloadN X0.here hx rfl (hb hby at_0) rfl  ?_
    show Steps p.tables e below (s₁.setTop (mkF m 1 #[.val (.long p0), .second, .val (.long p1), .second, .unset, .unset, .unset, .unset, .unset, .unset, .unset, .unset, .unset, .unset, .unset, .unset] [(.long p0)])) _
    refine X0.ldc2Long hx hown (mvT hZ (hw _ (List.mem_of_getElem? (i := 0) rfl))) (g := (mkF m 1 #[.val (.long p0), .second, .val (.long p1), .second, .unset, .unset, .unset, .unset, .unset, .unset, .unset, .unset, .unset, .unset, .unset, .unset] [(.long p0)])) rfl (hb hby at_1) _ ?_
    show Steps p.tables e below (s₁.setTop (mkF m 4 #[.val (.long p0), .second, .val (.long p1), .second, .unset, .unset, .unset, .unset, .unset, .unset, .unset, .unset, .unset, .unset, .unset, .unset] [(.long (2147483647 : Int64)), (.long p0)])) _
    refine XS.land X0.here hx rfl (hb hby at_4) rfl ?_
    show Steps p.tables e below (s₁.setTop (mkF m 5 #[.val (.long p0), .second, .val (.long p1), .second, .unset, .unset, .unset, .unset, .unset, .unset, .unset, .unset, .unset, .unset, .unset, .unset] [(.long (p0 &&& (2147483647 : Int64)))])) _
    refine XS.lstore X0.here hx rfl (hb hby at_5) rfl (l' := #[.val (.long p0), .second, .val (.long p1), .second, .val (.long v4_5), .second, .unset, .unset, .unset, .unset, .unset, .unset, .unset, .unset, .unset, .unset]) (by rw [hv4_5]; rfl) ?_
    show Steps p.tables e below (s₁.setTop (mkF m 7 #[.val (.long p0), .second, .val (.long p1), .second, .val (.long v4_5), .second, .unset, .unset, .unset, .unset, .unset, .unset, .unset, .unset, .unset, .unset] [])) _
    refine XS.lloadN X0.here hx rfl (hb hby at_7) rfl  ?_
    show Steps p.tables e below (s₁.setTop (mkF m 8 #[.val (.long p0), .second, .val (.long p1), .second, .val (.long v4_5), .second, .unset, .unset, .unset, .unset, .unset, .unset, .unset, .unset, .unset, .unset] [(.long p1)])) _
    refine X0.ldc2Long hx hown (mvT hZ (hw _ (List.mem_of_getElem? (i := 1) rfl))) (g := (mkF m 8 #[.val (.long p0), .second, .val (.long p1), .second, .val (.long v4_5), .second, .unset, .unset, .unset, .unset, .unset, .unset, .unset, .unset, .unset, .unset] [(.long p1)])) rfl (hb hby at_8) _ ?_
    show Steps p.tables e below (s₁.setTop (mkF m 11 #[.val (.long p0), .second, .val (.long p1), .second, .val (.long v4_5), .second, .unset, .unset, .unset, .unset, .unset, .unset, .unset, .unset, .unset, .unset] [(.long (9223372036854775807 : Int64)), (.long p1)])) _
    refine XS.land X0.here hx rfl (hb hby at_11) rfl ?_
    show Steps p.tables e below (s₁.setTop (mkF m 12 #[.val (.long p0), .second, .val (.long p1), .second, .val (.long v4_5), .second, .unset, .unset, .unset, .unset, .unset, .unset, .unset, .unset, .unset, .unset] [(.long (p1 &&& (9223372036854775807 : Int64)))])) _
    refine XS.lstore X0.here hx rfl (hb hby at_12) rfl (l' := #[.val (.long p0), .second, .val (.long p1), .second, .val (.long v4_5), .second, .val (.long v6_12), .second, .unset, .unset, .unset, .unset, .unset, .unset, .unset, .unset]) (by rw [hv6_12]; rfl) ?_
    show Steps p.tables e below (s₁.setTop (mkF m 14 #[.val (.long p0), .second, .val (.long p1), .second, .val (.long v4_5), .second, .val (.long v6_12), .second, .unset, .unset, .unset, .unset, .unset, .unset, .unset, .unset] [])) _
    refine XS.lload X0.here hx rfl (hb hby at_14) rfl  ?_
    show Steps p.tables e below (s₁.setTop (mkF m 16 #[.val (.long p0), .second, .val (.long p1), .second, .val (.long v4_5), .second, .val (.long v6_12), .second, .unset, .unset, .unset, .unset, .unset, .unset, .unset, .unset] [(.long v4_5)])) _
    refine XS.lload X0.here hx rfl (hb hby at_16) rfl  ?_
    exact k
  obtain ⟨_, _, ⟨T1, L1, k1, n1⟩, -, X1, ⟨Lc1, hQ1, l1, y1, z1⟩, st1⟩ := Jvm.LawKit.callS X0 hx (y := (⟨"com/example/sequeue/sequeue/bench/Figures", "rate", "(JJ)J"⟩ : MethodName)) hown (mvT hZ (hw _ (List.mem_of_getElem? (i := 2) rfl))) (mvT hZ (hw _ (List.mem_of_getElem? (i := 3) rfl))) (mvT hZ (hw _ (List.mem_of_getElem? (i := 4) rfl))) (mvT hZ (hw _ (List.mem_of_getElem? (i := 5) rfl))) (by decide) (backOf (W := 0) (rm_1 l Z a0 hw [] v4_5 v6_12 h0 n0 Z0 ) hZ (hw _ (List.mem_of_getElem? (i := 5) rfl)) (hw _ (List.mem_of_getElem? (i := 4) rfl)) (by decide) (by decide)) (g := (mkF m 18 #[.val (.long p0), .second, .val (.long p1), .second, .val (.long v4_5), .second, .val (.long v6_12), .second, .unset, .unset, .unset, .unset, .unset, .unset, .unset, .unset] [(.long v6_12), (.long v4_5)])) rfl (by rw [hml]; rfl) (argsL := [(.long v4_5), (.long v6_12)]) (rest := []) (lenOf pd_0 rfl) rfl (by show 2 * 0 + _ ≤ _; exact Nat.le_of_eq rfl) (hb hby at_18) (fun _ _ => ⟨rfl, e0, (by decide : 0 + 0 ≤ _), (by decide : 0 + 0 ≤ _)⟩)
  dsimp only [Pt.U, Pt.locs, Pt.cells, Pt.slots] at X1 l1 y1 z1 st1 hQ1
  subst l1 y1 z1
  obtain ⟨rfl, N1q, e1⟩ := hQ1
  have N1 := Fr.app N0 N1q
  obtain ⟨v8_21, hv8_21⟩ : ∃ z : Int64, z = (f_1 v4_5 v6_12) := ⟨_, rfl⟩
  have pre3 : ∀ t, Steps p.tables e below (T1.setTop (mkF m 27 #[.val (.long p0), .second, .val (.long p1), .second, .val (.long v4_5), .second, .val (.long v6_12), .second, .val (.long v8_21), .second, .unset, .unset, .unset, .unset, .unset, .unset] [(.int (lcmpW v6_12 (0 : Int64)))])) t → Steps p.tables e below (s₁.setTop (entryFrame m #[(.long p0), (.long p1)] maxLocals)) t := by
    intro t k
    refine pre2 t ?_
    show Steps p.tables e below (s₁.setTop (mkF m 18 #[.val (.long p0), .second, .val (.long p1), .second, .val (.long v4_5), .second, .val (.long v6_12), .second, .unset, .unset, .unset, .unset, .unset, .unset, .unset, .unset] [(.long v6_12), (.long v4_5)])) _
    refine st1 _ ?_
    show Steps p.tables e below (T1.setTop (mkF m 21 #[.val (.long p0), .second, .val (.long p1), .second, .val (.long v4_5), .second, .val (.long v6_12), .second, .unset, .unset, .unset, .unset, .unset, .unset, .unset, .unset] [(.long (f_1 v4_5 v6_12))])) _
    refine XS.lstore X1.here hx rfl (hb hby at_21) rfl (l' := #[.val (.long p0), .second, .val (.long p1), .second, .val (.long v4_5), .second, .val (.long v6_12), .second, .val (.long v8_21), .second, .unset, .unset, .unset, .unset, .unset, .unset]) (by rw [hv8_21]; rfl) ?_
    show Steps p.tables e below (T1.setTop (mkF m 23 #[.val (.long p0), .second, .val (.long p1), .second, .val (.long v4_5), .second, .val (.long v6_12), .second, .val (.long v8_21), .second, .unset, .unset, .unset, .unset, .unset, .unset] [])) _
    refine XS.lload X1.here hx rfl (hb hby at_23) rfl  ?_
    show Steps p.tables e below (T1.setTop (mkF m 25 #[.val (.long p0), .second, .val (.long p1), .second, .val (.long v4_5), .second, .val (.long v6_12), .second, .val (.long v8_21), .second, .unset, .unset, .unset, .unset, .unset, .unset] [(.long v6_12)])) _
    refine XS.lconst X1.here hx rfl (hb hby at_25) ?_
    show Steps p.tables e below (T1.setTop (mkF m 26 #[.val (.long p0), .second, .val (.long p1), .second, .val (.long v4_5), .second, .val (.long v6_12), .second, .val (.long v8_21), .second, .unset, .unset, .unset, .unset, .unset, .unset] [(.long (0 : Int64)), (.long v6_12)])) _
    refine XS.lcmp X1.here hx rfl (hb hby at_26) rfl ?_
    exact k
  obtain ⟨ms0_36, hms0_36⟩ : ∃ z : Int64, z = (if v6_12 = (0 : Int64) then (1 : Int64) else v6_12) := ⟨_, rfl⟩
  have pre4 : ∀ t, Steps p.tables e below (T1.setTop (mkF m 36 #[.val (.long p0), .second, .val (.long p1), .second, .val (.long v4_5), .second, .val (.long v6_12), .second, .val (.long v8_21), .second, .unset, .unset, .unset, .unset, .unset, .unset] [(.long ms0_36)])) t → Steps p.tables e below (s₁.setTop (entryFrame m #[(.long p0), (.long p1)] maxLocals)) t := by
    intro t k
    refine pre3 t ?_
    by_cases hc27 : v6_12 = (0 : Int64)
    · show Steps p.tables e below (T1.setTop (mkF m 27 #[.val (.long p0), .second, .val (.long p1), .second, .val (.long v4_5), .second, .val (.long v6_12), .second, .val (.long v8_21), .second, .unset, .unset, .unset, .unset, .unset, .unset] [(.int (lcmpW v6_12 (0 : Int64)))])) _
      refine XS.ifNo X1.here hx rfl (hb hby at_27) rfl ((if0 _ _).trans (teq ((lw_eq _ _).mpr hc27)).2) ?_
      show Steps p.tables e below (T1.setTop (mkF m 30 #[.val (.long p0), .second, .val (.long p1), .second, .val (.long v4_5), .second, .val (.long v6_12), .second, .val (.long v8_21), .second, .unset, .unset, .unset, .unset, .unset, .unset] [])) _
      refine XS.lconst X1.here hx rfl (hb hby at_30) ?_
      show Steps p.tables e below (T1.setTop (mkF m 31 #[.val (.long p0), .second, .val (.long p1), .second, .val (.long v4_5), .second, .val (.long v6_12), .second, .val (.long v8_21), .second, .unset, .unset, .unset, .unset, .unset, .unset] [(.long (1 : Int64))])) _
      refine XS.goto X1.here hx rfl (pc0 := 31) (pc' := 36) rfl (hb hby at_31) (by decide) (by decide) ?_
      have qms0_36 : ms0_36 = (1 : Int64) := by rw [hms0_36, if_pos hc27]
      rw [qms0_36] at k
      exact k
    · show Steps p.tables e below (T1.setTop (mkF m 27 #[.val (.long p0), .second, .val (.long p1), .second, .val (.long v4_5), .second, .val (.long v6_12), .second, .val (.long v8_21), .second, .unset, .unset, .unset, .unset, .unset, .unset] [(.int (lcmpW v6_12 (0 : Int64)))])) _
      refine XS.ifYes X1.here hx rfl (pc0 := 27) (pc' := 34) rfl (hb hby at_27) rfl ((if0 _ _).trans (feq (fun q => hc27 ((lw_eq _ _).mp q))).2) (by decide) (by decide) ?_
      show Steps p.tables e below (T1.setTop (mkF m 34 #[.val (.long p0), .second, .val (.long p1), .second, .val (.long v4_5), .second, .val (.long v6_12), .second, .val (.long v8_21), .second, .unset, .unset, .unset, .unset, .unset, .unset] [])) _
      refine XS.lload X1.here hx rfl (hb hby at_34) rfl  ?_
      have qms0_36 : ms0_36 = v6_12 := by rw [hms0_36, if_neg hc27]
      rw [qms0_36] at k
      exact k
  obtain ⟨v12_44, hv12_44⟩ : ∃ z : Int64, z = (v4_5 * (1000000000 : Int64)) := ⟨_, rfl⟩
  have pre5 : ∀ t, Steps p.tables e below (T1.setTop (mkF m 50 #[.val (.long p0), .second, .val (.long p1), .second, .val (.long v4_5), .second, .val (.long v6_12), .second, .val (.long v8_21), .second, .val (.long ms0_36), .second, .val (.long v12_44), .second, .unset, .unset] [(.int (lcmpW v8_21 (0 : Int64)))])) t → Steps p.tables e below (s₁.setTop (entryFrame m #[(.long p0), (.long p1)] maxLocals)) t := by
    intro t k
    refine pre4 t ?_
    show Steps p.tables e below (T1.setTop (mkF m 36 #[.val (.long p0), .second, .val (.long p1), .second, .val (.long v4_5), .second, .val (.long v6_12), .second, .val (.long v8_21), .second, .unset, .unset, .unset, .unset, .unset, .unset] [(.long ms0_36)])) _
    refine XS.lstore X1.here hx rfl (hb hby at_36) rfl (l' := #[.val (.long p0), .second, .val (.long p1), .second, .val (.long v4_5), .second, .val (.long v6_12), .second, .val (.long v8_21), .second, .val (.long ms0_36), .second, .unset, .unset, .unset, .unset]) rfl ?_
    show Steps p.tables e below (T1.setTop (mkF m 38 #[.val (.long p0), .second, .val (.long p1), .second, .val (.long v4_5), .second, .val (.long v6_12), .second, .val (.long v8_21), .second, .val (.long ms0_36), .second, .unset, .unset, .unset, .unset] [])) _
    refine XS.lload X1.here hx rfl (hb hby at_38) rfl  ?_
    show Steps p.tables e below (T1.setTop (mkF m 40 #[.val (.long p0), .second, .val (.long p1), .second, .val (.long v4_5), .second, .val (.long v6_12), .second, .val (.long v8_21), .second, .val (.long ms0_36), .second, .unset, .unset, .unset, .unset] [(.long v4_5)])) _
    refine X1.ldc2Long hx hown (mvT hZ (hw _ (List.mem_of_getElem? (i := 11) rfl))) (g := (mkF m 40 #[.val (.long p0), .second, .val (.long p1), .second, .val (.long v4_5), .second, .val (.long v6_12), .second, .val (.long v8_21), .second, .val (.long ms0_36), .second, .unset, .unset, .unset, .unset] [(.long v4_5)])) rfl (hb hby at_40) _ ?_
    show Steps p.tables e below (T1.setTop (mkF m 43 #[.val (.long p0), .second, .val (.long p1), .second, .val (.long v4_5), .second, .val (.long v6_12), .second, .val (.long v8_21), .second, .val (.long ms0_36), .second, .unset, .unset, .unset, .unset] [(.long (1000000000 : Int64)), (.long v4_5)])) _
    refine XS.lmul X1.here hx rfl (hb hby at_43) rfl ?_
    show Steps p.tables e below (T1.setTop (mkF m 44 #[.val (.long p0), .second, .val (.long p1), .second, .val (.long v4_5), .second, .val (.long v6_12), .second, .val (.long v8_21), .second, .val (.long ms0_36), .second, .unset, .unset, .unset, .unset] [(.long (v4_5 * (1000000000 : Int64)))])) _
    refine XS.lstore X1.here hx rfl (hb hby at_44) rfl (l' := #[.val (.long p0), .second, .val (.long p1), .second, .val (.long v4_5), .second, .val (.long v6_12), .second, .val (.long v8_21), .second, .val (.long ms0_36), .second, .val (.long v12_44), .second, .unset, .unset]) (by rw [hv12_44]; rfl) ?_
    show Steps p.tables e below (T1.setTop (mkF m 46 #[.val (.long p0), .second, .val (.long p1), .second, .val (.long v4_5), .second, .val (.long v6_12), .second, .val (.long v8_21), .second, .val (.long ms0_36), .second, .val (.long v12_44), .second, .unset, .unset] [])) _
    refine XS.lload X1.here hx rfl (hb hby at_46) rfl  ?_
    show Steps p.tables e below (T1.setTop (mkF m 48 #[.val (.long p0), .second, .val (.long p1), .second, .val (.long v4_5), .second, .val (.long v6_12), .second, .val (.long v8_21), .second, .val (.long ms0_36), .second, .val (.long v12_44), .second, .unset, .unset] [(.long v8_21)])) _
    refine XS.lconst X1.here hx rfl (hb hby at_48) ?_
    show Steps p.tables e below (T1.setTop (mkF m 49 #[.val (.long p0), .second, .val (.long p1), .second, .val (.long v4_5), .second, .val (.long v6_12), .second, .val (.long v8_21), .second, .val (.long ms0_36), .second, .val (.long v12_44), .second, .unset, .unset] [(.long (0 : Int64)), (.long v8_21)])) _
    refine XS.lcmp X1.here hx rfl (hb hby at_49) rfl ?_
    exact k
  by_cases hc50 : v8_21 < (0 : Int64)
  · obtain ⟨fs, hr, hrun, hended, hW, hsame⟩ := X1.leave (v := some (.int (0 : Int32))) (fun h => by rw [Bd.returns] at h; cases h)
    refine ⟨_, _, pre5 _ ?_, hrun, hended, _, _, rfl, ?_, ⟨_, rfl⟩, hW, hsame.mono (by decide) (by decide)⟩
    · show Steps p.tables e below (T1.setTop (mkF m 50 #[.val (.long p0), .second, .val (.long p1), .second, .val (.long v4_5), .second, .val (.long v6_12), .second, .val (.long v8_21), .second, .val (.long ms0_36), .second, .val (.long v12_44), .second, .unset, .unset] [(.int (lcmpW v8_21 (0 : Int64)))])) _
      refine XS.ifNo X1.here hx rfl (hb hby at_50) rfl ((if0 _ _).trans (tlt ((lw_lt _ _).mpr hc50)).2.1) ?_
      show Steps p.tables e below (T1.setTop (mkF m 53 #[.val (.long p0), .second, .val (.long p1), .second, .val (.long v4_5), .second, .val (.long v6_12), .second, .val (.long v8_21), .second, .val (.long ms0_36), .second, .val (.long v12_44), .second, .unset, .unset] [])) _
      refine XS.iconst X1.here hx rfl (hb hby at_53) ?_
      show Steps p.tables e below (T1.setTop (mkF m 54 #[.val (.long p0), .second, .val (.long p1), .second, .val (.long v4_5), .second, .val (.long v6_12), .second, .val (.long v8_21), .second, .val (.long ms0_36), .second, .val (.long v12_44), .second, .unset, .unset] [(.int (0 : Int32))])) _
      exact retN X1 hx (t := .boolean) Bd.returns (by simp) (hb hby at_54) hr
    · show Q_0 Z p0 p1 h0 n0 _ T1.heap _
      rw [e1]
      exact ⟨congrArg (fun z => some (Value.int z)) (by subst hv4_5 hv6_12 hv8_21 hms0_36 hv12_44; simp only [f_0, if_pos hc50] : (0 : Int32) = f_0 p0 p1), N1, trivial⟩
  · have pre6 : ∀ t, Steps p.tables e below (T1.setTop (mkF m 59 #[.val (.long p0), .second, .val (.long p1), .second, .val (.long v4_5), .second, .val (.long v6_12), .second, .val (.long v8_21), .second, .val (.long ms0_36), .second, .val (.long v12_44), .second, .unset, .unset] [(.int (lcmpW v8_21 (0 : Int64)))])) t → Steps p.tables e below (s₁.setTop (entryFrame m #[(.long p0), (.long p1)] maxLocals)) t := by
      intro t k
      refine pre5 t ?_
      show Steps p.tables e below (T1.setTop (mkF m 50 #[.val (.long p0), .second, .val (.long p1), .second, .val (.long v4_5), .second, .val (.long v6_12), .second, .val (.long v8_21), .second, .val (.long ms0_36), .second, .val (.long v12_44), .second, .unset, .unset] [(.int (lcmpW v8_21 (0 : Int64)))])) _
      refine XS.ifYes X1.here hx rfl (pc0 := 50) (pc' := 55) rfl (hb hby at_50) rfl ((if0 _ _).trans (flt (fun q => hc50 ((lw_lt _ _).mp q))).2.1) (by decide) (by decide) ?_
      show Steps p.tables e below (T1.setTop (mkF m 55 #[.val (.long p0), .second, .val (.long p1), .second, .val (.long v4_5), .second, .val (.long v6_12), .second, .val (.long v8_21), .second, .val (.long ms0_36), .second, .val (.long v12_44), .second, .unset, .unset] [])) _
      refine XS.lload X1.here hx rfl (hb hby at_55) rfl  ?_
      show Steps p.tables e below (T1.setTop (mkF m 57 #[.val (.long p0), .second, .val (.long p1), .second, .val (.long v4_5), .second, .val (.long v6_12), .second, .val (.long v8_21), .second, .val (.long ms0_36), .second, .val (.long v12_44), .second, .unset, .unset] [(.long v8_21)])) _
      refine XS.lconst X1.here hx rfl (hb hby at_57) ?_
      show Steps p.tables e below (T1.setTop (mkF m 58 #[.val (.long p0), .second, .val (.long p1), .second, .val (.long v4_5), .second, .val (.long v6_12), .second, .val (.long v8_21), .second, .val (.long ms0_36), .second, .val (.long v12_44), .second, .unset, .unset] [(.long (0 : Int64)), (.long v8_21)])) _
      refine XS.lcmp X1.here hx rfl (hb hby at_58) rfl ?_
      exact k
    by_cases hc59 : v8_21 = (0 : Int64)
    · obtain ⟨v14_83, hv14_83⟩ : ∃ z : Int64, z = (v12_44 - (v8_21 * ms0_36)) := ⟨_, rfl⟩
      have pre7 : ∀ t, Steps p.tables e below (T1.setTop (mkF m 89 #[.val (.long p0), .second, .val (.long p1), .second, .val (.long v4_5), .second, .val (.long v6_12), .second, .val (.long v8_21), .second, .val (.long ms0_36), .second, .val (.long v12_44), .second, .val (.long v14_83), .second] [(.int (lcmpW v14_83 (0 : Int64)))])) t → Steps p.tables e below (s₁.setTop (entryFrame m #[(.long p0), (.long p1)] maxLocals)) t := by
        intro t k
        refine pre6 t ?_
        show Steps p.tables e below (T1.setTop (mkF m 59 #[.val (.long p0), .second, .val (.long p1), .second, .val (.long v4_5), .second, .val (.long v6_12), .second, .val (.long v8_21), .second, .val (.long ms0_36), .second, .val (.long v12_44), .second, .unset, .unset] [(.int (lcmpW v8_21 (0 : Int64)))])) _
        refine XS.ifYes X1.here hx rfl (pc0 := 59) (pc' := 75) rfl (hb hby at_59) rfl ((if0 _ _).trans (teq ((lw_eq _ _).mpr hc59)).1) (by decide) (by decide) ?_
        show Steps p.tables e below (T1.setTop (mkF m 75 #[.val (.long p0), .second, .val (.long p1), .second, .val (.long v4_5), .second, .val (.long v6_12), .second, .val (.long v8_21), .second, .val (.long ms0_36), .second, .val (.long v12_44), .second, .unset, .unset] [])) _
        refine XS.lload X1.here hx rfl (hb hby at_75) rfl  ?_
        show Steps p.tables e below (T1.setTop (mkF m 77 #[.val (.long p0), .second, .val (.long p1), .second, .val (.long v4_5), .second, .val (.long v6_12), .second, .val (.long v8_21), .second, .val (.long ms0_36), .second, .val (.long v12_44), .second, .unset, .unset] [(.long v12_44)])) _
        refine XS.lload X1.here hx rfl (hb hby at_77) rfl  ?_
        show Steps p.tables e below (T1.setTop (mkF m 79 #[.val (.long p0), .second, .val (.long p1), .second, .val (.long v4_5), .second, .val (.long v6_12), .second, .val (.long v8_21), .second, .val (.long ms0_36), .second, .val (.long v12_44), .second, .unset, .unset] [(.long v8_21), (.long v12_44)])) _
        refine XS.lload X1.here hx rfl (hb hby at_79) rfl  ?_
        show Steps p.tables e below (T1.setTop (mkF m 81 #[.val (.long p0), .second, .val (.long p1), .second, .val (.long v4_5), .second, .val (.long v6_12), .second, .val (.long v8_21), .second, .val (.long ms0_36), .second, .val (.long v12_44), .second, .unset, .unset] [(.long ms0_36), (.long v8_21), (.long v12_44)])) _
        refine XS.lmul X1.here hx rfl (hb hby at_81) rfl ?_
        show Steps p.tables e below (T1.setTop (mkF m 82 #[.val (.long p0), .second, .val (.long p1), .second, .val (.long v4_5), .second, .val (.long v6_12), .second, .val (.long v8_21), .second, .val (.long ms0_36), .second, .val (.long v12_44), .second, .unset, .unset] [(.long (v8_21 * ms0_36)), (.long v12_44)])) _
        refine XS.lsub X1.here hx rfl (hb hby at_82) rfl ?_
        show Steps p.tables e below (T1.setTop (mkF m 83 #[.val (.long p0), .second, .val (.long p1), .second, .val (.long v4_5), .second, .val (.long v6_12), .second, .val (.long v8_21), .second, .val (.long ms0_36), .second, .val (.long v12_44), .second, .unset, .unset] [(.long (v12_44 - (v8_21 * ms0_36)))])) _
        refine XS.lstore X1.here hx rfl (hb hby at_83) rfl (l' := #[.val (.long p0), .second, .val (.long p1), .second, .val (.long v4_5), .second, .val (.long v6_12), .second, .val (.long v8_21), .second, .val (.long ms0_36), .second, .val (.long v12_44), .second, .val (.long v14_83), .second]) (by rw [hv14_83]; rfl) ?_
        show Steps p.tables e below (T1.setTop (mkF m 85 #[.val (.long p0), .second, .val (.long p1), .second, .val (.long v4_5), .second, .val (.long v6_12), .second, .val (.long v8_21), .second, .val (.long ms0_36), .second, .val (.long v12_44), .second, .val (.long v14_83), .second] [])) _
        refine XS.lload X1.here hx rfl (hb hby at_85) rfl  ?_
        show Steps p.tables e below (T1.setTop (mkF m 87 #[.val (.long p0), .second, .val (.long p1), .second, .val (.long v4_5), .second, .val (.long v6_12), .second, .val (.long v8_21), .second, .val (.long ms0_36), .second, .val (.long v12_44), .second, .val (.long v14_83), .second] [(.long v14_83)])) _
        refine XS.lconst X1.here hx rfl (hb hby at_87) ?_
        show Steps p.tables e below (T1.setTop (mkF m 88 #[.val (.long p0), .second, .val (.long p1), .second, .val (.long v4_5), .second, .val (.long v6_12), .second, .val (.long v8_21), .second, .val (.long ms0_36), .second, .val (.long v12_44), .second, .val (.long v14_83), .second] [(.long (0 : Int64)), (.long v14_83)])) _
        refine XS.lcmp X1.here hx rfl (hb hby at_88) rfl ?_
        exact k
      obtain ⟨ms0_105, hms0_105⟩ : ∃ z : Int32, z = (if v14_83 < (0 : Int64) then (0 : Int32) else (if v14_83 < ms0_36 then (1 : Int32) else (0 : Int32))) := ⟨_, rfl⟩
      have pre8 : ∀ t, Steps p.tables e below (T1.setTop (mkF m 105 #[.val (.long p0), .second, .val (.long p1), .second, .val (.long v4_5), .second, .val (.long v6_12), .second, .val (.long v8_21), .second, .val (.long ms0_36), .second, .val (.long v12_44), .second, .val (.long v14_83), .second] [(.int ms0_105)])) t → Steps p.tables e below (s₁.setTop (entryFrame m #[(.long p0), (.long p1)] maxLocals)) t := by
        intro t k
        refine pre7 t ?_
        by_cases hc89 : v14_83 < (0 : Int64)
        · show Steps p.tables e below (T1.setTop (mkF m 89 #[.val (.long p0), .second, .val (.long p1), .second, .val (.long v4_5), .second, .val (.long v6_12), .second, .val (.long v8_21), .second, .val (.long ms0_36), .second, .val (.long v12_44), .second, .val (.long v14_83), .second] [(.int (lcmpW v14_83 (0 : Int64)))])) _
          refine XS.ifYes X1.here hx rfl (pc0 := 89) (pc' := 104) rfl (hb hby at_89) rfl ((if0 _ _).trans (tlt ((lw_lt _ _).mpr hc89)).1) (by decide) (by decide) ?_
          show Steps p.tables e below (T1.setTop (mkF m 104 #[.val (.long p0), .second, .val (.long p1), .second, .val (.long v4_5), .second, .val (.long v6_12), .second, .val (.long v8_21), .second, .val (.long ms0_36), .second, .val (.long v12_44), .second, .val (.long v14_83), .second] [])) _
          refine XS.iconst X1.here hx rfl (hb hby at_104) ?_
          have qms0_105 : ms0_105 = (0 : Int32) := by rw [hms0_105, if_pos hc89]
          rw [qms0_105] at k
          exact k
        · show Steps p.tables e below (T1.setTop (mkF m 89 #[.val (.long p0), .second, .val (.long p1), .second, .val (.long v4_5), .second, .val (.long v6_12), .second, .val (.long v8_21), .second, .val (.long ms0_36), .second, .val (.long v12_44), .second, .val (.long v14_83), .second] [(.int (lcmpW v14_83 (0 : Int64)))])) _
          refine XS.ifNo X1.here hx rfl (hb hby at_89) rfl ((if0 _ _).trans (flt (fun q => hc89 ((lw_lt _ _).mp q))).1) ?_
          show Steps p.tables e below (T1.setTop (mkF m 92 #[.val (.long p0), .second, .val (.long p1), .second, .val (.long v4_5), .second, .val (.long v6_12), .second, .val (.long v8_21), .second, .val (.long ms0_36), .second, .val (.long v12_44), .second, .val (.long v14_83), .second] [])) _
          refine XS.lload X1.here hx rfl (hb hby at_92) rfl  ?_
          show Steps p.tables e below (T1.setTop (mkF m 94 #[.val (.long p0), .second, .val (.long p1), .second, .val (.long v4_5), .second, .val (.long v6_12), .second, .val (.long v8_21), .second, .val (.long ms0_36), .second, .val (.long v12_44), .second, .val (.long v14_83), .second] [(.long v14_83)])) _
          refine XS.lload X1.here hx rfl (hb hby at_94) rfl  ?_
          show Steps p.tables e below (T1.setTop (mkF m 96 #[.val (.long p0), .second, .val (.long p1), .second, .val (.long v4_5), .second, .val (.long v6_12), .second, .val (.long v8_21), .second, .val (.long ms0_36), .second, .val (.long v12_44), .second, .val (.long v14_83), .second] [(.long ms0_36), (.long v14_83)])) _
          refine XS.lcmp X1.here hx rfl (hb hby at_96) rfl ?_
          by_cases hc97 : v14_83 < ms0_36
          · show Steps p.tables e below (T1.setTop (mkF m 97 #[.val (.long p0), .second, .val (.long p1), .second, .val (.long v4_5), .second, .val (.long v6_12), .second, .val (.long v8_21), .second, .val (.long ms0_36), .second, .val (.long v12_44), .second, .val (.long v14_83), .second] [(.int (lcmpW v14_83 ms0_36))])) _
            refine XS.ifNo X1.here hx rfl (hb hby at_97) rfl ((if0 _ _).trans (tlt ((lw_lt _ _).mpr hc97)).2.1) ?_
            show Steps p.tables e below (T1.setTop (mkF m 100 #[.val (.long p0), .second, .val (.long p1), .second, .val (.long v4_5), .second, .val (.long v6_12), .second, .val (.long v8_21), .second, .val (.long ms0_36), .second, .val (.long v12_44), .second, .val (.long v14_83), .second] [])) _
            refine XS.iconst X1.here hx rfl (hb hby at_100) ?_
            show Steps p.tables e below (T1.setTop (mkF m 101 #[.val (.long p0), .second, .val (.long p1), .second, .val (.long v4_5), .second, .val (.long v6_12), .second, .val (.long v8_21), .second, .val (.long ms0_36), .second, .val (.long v12_44), .second, .val (.long v14_83), .second] [(.int (1 : Int32))])) _
            refine XS.goto X1.here hx rfl (pc0 := 101) (pc' := 105) rfl (hb hby at_101) (by decide) (by decide) ?_
            have qms0_105 : ms0_105 = (1 : Int32) := by rw [hms0_105, if_neg hc89, if_pos hc97]
            rw [qms0_105] at k
            exact k
          · show Steps p.tables e below (T1.setTop (mkF m 97 #[.val (.long p0), .second, .val (.long p1), .second, .val (.long v4_5), .second, .val (.long v6_12), .second, .val (.long v8_21), .second, .val (.long ms0_36), .second, .val (.long v12_44), .second, .val (.long v14_83), .second] [(.int (lcmpW v14_83 ms0_36))])) _
            refine XS.ifYes X1.here hx rfl (pc0 := 97) (pc' := 104) rfl (hb hby at_97) rfl ((if0 _ _).trans (flt (fun q => hc97 ((lw_lt _ _).mp q))).2.1) (by decide) (by decide) ?_
            show Steps p.tables e below (T1.setTop (mkF m 104 #[.val (.long p0), .second, .val (.long p1), .second, .val (.long v4_5), .second, .val (.long v6_12), .second, .val (.long v8_21), .second, .val (.long ms0_36), .second, .val (.long v12_44), .second, .val (.long v14_83), .second] [])) _
            refine XS.iconst X1.here hx rfl (hb hby at_104) ?_
            have qms0_105 : ms0_105 = (0 : Int32) := by rw [hms0_105, if_neg hc89, if_neg hc97]
            rw [qms0_105] at k
            exact k
      have hnar : nar .boolean ms0_105 = ms0_105 := by rw [hms0_105]; (repeat' split) <;> rfl
      obtain ⟨fs, hr, hrun, hended, hW, hsame⟩ := X1.leave (v := some (.int ms0_105)) (fun h => by rw [Bd.returns] at h; cases h)
      refine ⟨_, _, pre8 _ ?_, hrun, hended, _, _, rfl, ?_, ⟨_, rfl⟩, hW, hsame.mono (by decide) (by decide)⟩
      · show Steps p.tables e below (T1.setTop (mkF m 105 #[.val (.long p0), .second, .val (.long p1), .second, .val (.long v4_5), .second, .val (.long v6_12), .second, .val (.long v8_21), .second, .val (.long ms0_36), .second, .val (.long v12_44), .second, .val (.long v14_83), .second] [(.int ms0_105)])) _
        exact retN X1 hx (t := .boolean) Bd.returns (by simp) (hb hby at_105) (by rw [hnar]; exact hr)
      · show Q_0 Z p0 p1 h0 n0 _ T1.heap _
        rw [e1]
        exact ⟨congrArg (fun z => some (Value.int z)) (by subst hv4_5 hv6_12 hv8_21 hms0_36 hv12_44 hv14_83 hms0_105; simp only [f_0, if_neg hc50, if_pos hc59] : ms0_105 = f_0 p0 p1), N1, trivial⟩
    · have pre9 : ∀ t, Steps p.tables e below (T1.setTop (mkF m 70 #[.val (.long p0), .second, .val (.long p1), .second, .val (.long v4_5), .second, .val (.long v6_12), .second, .val (.long v8_21), .second, .val (.long ms0_36), .second, .val (.long v12_44), .second, .unset, .unset] [(.int (lcmpW ms0_36 (v12_44 / v8_21)))])) t → Steps p.tables e below (s₁.setTop (entryFrame m #[(.long p0), (.long p1)] maxLocals)) t := by
        intro t k
        refine pre6 t ?_
        show Steps p.tables e below (T1.setTop (mkF m 59 #[.val (.long p0), .second, .val (.long p1), .second, .val (.long v4_5), .second, .val (.long v6_12), .second, .val (.long v8_21), .second, .val (.long ms0_36), .second, .val (.long v12_44), .second, .unset, .unset] [(.int (lcmpW v8_21 (0 : Int64)))])) _
        refine XS.ifNo X1.here hx rfl (hb hby at_59) rfl ((if0 _ _).trans (feq (fun q => hc59 ((lw_eq _ _).mp q))).1) ?_
        show Steps p.tables e below (T1.setTop (mkF m 62 #[.val (.long p0), .second, .val (.long p1), .second, .val (.long v4_5), .second, .val (.long v6_12), .second, .val (.long v8_21), .second, .val (.long ms0_36), .second, .val (.long v12_44), .second, .unset, .unset] [])) _
        refine XS.lload X1.here hx rfl (hb hby at_62) rfl  ?_
        show Steps p.tables e below (T1.setTop (mkF m 64 #[.val (.long p0), .second, .val (.long p1), .second, .val (.long v4_5), .second, .val (.long v6_12), .second, .val (.long v8_21), .second, .val (.long ms0_36), .second, .val (.long v12_44), .second, .unset, .unset] [(.long ms0_36)])) _
        refine XS.lload X1.here hx rfl (hb hby at_64) rfl  ?_
        show Steps p.tables e below (T1.setTop (mkF m 66 #[.val (.long p0), .second, .val (.long p1), .second, .val (.long v4_5), .second, .val (.long v6_12), .second, .val (.long v8_21), .second, .val (.long ms0_36), .second, .val (.long v12_44), .second, .unset, .unset] [(.long v12_44), (.long ms0_36)])) _
        refine XS.lload X1.here hx rfl (hb hby at_66) rfl  ?_
        show Steps p.tables e below (T1.setTop (mkF m 68 #[.val (.long p0), .second, .val (.long p1), .second, .val (.long v4_5), .second, .val (.long v6_12), .second, .val (.long v8_21), .second, .val (.long ms0_36), .second, .val (.long v12_44), .second, .unset, .unset] [(.long v8_21), (.long v12_44), (.long ms0_36)])) _
        refine XS.ldiv X1.here hx rfl (hb hby at_68) rfl hc59 ?_
        show Steps p.tables e below (T1.setTop (mkF m 69 #[.val (.long p0), .second, .val (.long p1), .second, .val (.long v4_5), .second, .val (.long v6_12), .second, .val (.long v8_21), .second, .val (.long ms0_36), .second, .val (.long v12_44), .second, .unset, .unset] [(.long (v12_44 / v8_21)), (.long ms0_36)])) _
        refine XS.lcmp X1.here hx rfl (hb hby at_69) rfl ?_
        exact k
      by_cases hc70 : (v12_44 / v8_21) < ms0_36
      · obtain ⟨fs, hr, hrun, hended, hW, hsame⟩ := X1.leave (v := some (.int (0 : Int32))) (fun h => by rw [Bd.returns] at h; cases h)
        refine ⟨_, _, pre9 _ ?_, hrun, hended, _, _, rfl, ?_, ⟨_, rfl⟩, hW, hsame.mono (by decide) (by decide)⟩
        · show Steps p.tables e below (T1.setTop (mkF m 70 #[.val (.long p0), .second, .val (.long p1), .second, .val (.long v4_5), .second, .val (.long v6_12), .second, .val (.long v8_21), .second, .val (.long ms0_36), .second, .val (.long v12_44), .second, .unset, .unset] [(.int (lcmpW ms0_36 (v12_44 / v8_21)))])) _
          refine XS.ifNo X1.here hx rfl (hb hby at_70) rfl ((if0 _ _).trans (tlt ((lw_gt _ _).mpr hc70)).2.2.2) ?_
          show Steps p.tables e below (T1.setTop (mkF m 73 #[.val (.long p0), .second, .val (.long p1), .second, .val (.long v4_5), .second, .val (.long v6_12), .second, .val (.long v8_21), .second, .val (.long ms0_36), .second, .val (.long v12_44), .second, .unset, .unset] [])) _
          refine XS.iconst X1.here hx rfl (hb hby at_73) ?_
          show Steps p.tables e below (T1.setTop (mkF m 74 #[.val (.long p0), .second, .val (.long p1), .second, .val (.long v4_5), .second, .val (.long v6_12), .second, .val (.long v8_21), .second, .val (.long ms0_36), .second, .val (.long v12_44), .second, .unset, .unset] [(.int (0 : Int32))])) _
          exact retN X1 hx (t := .boolean) Bd.returns (by simp) (hb hby at_74) hr
        · show Q_0 Z p0 p1 h0 n0 _ T1.heap _
          rw [e1]
          exact ⟨congrArg (fun z => some (Value.int z)) (by subst hv4_5 hv6_12 hv8_21 hms0_36 hv12_44; simp only [f_0, if_neg hc50, if_neg hc59, if_pos hc70] : (0 : Int32) = f_0 p0 p1), N1, trivial⟩
      · obtain ⟨v14_83, hv14_83⟩ : ∃ z : Int64, z = (v12_44 - (v8_21 * ms0_36)) := ⟨_, rfl⟩
        have pre10 : ∀ t, Steps p.tables e below (T1.setTop (mkF m 89 #[.val (.long p0), .second, .val (.long p1), .second, .val (.long v4_5), .second, .val (.long v6_12), .second, .val (.long v8_21), .second, .val (.long ms0_36), .second, .val (.long v12_44), .second, .val (.long v14_83), .second] [(.int (lcmpW v14_83 (0 : Int64)))])) t → Steps p.tables e below (s₁.setTop (entryFrame m #[(.long p0), (.long p1)] maxLocals)) t := by
          intro t k
          refine pre9 t ?_
          show Steps p.tables e below (T1.setTop (mkF m 70 #[.val (.long p0), .second, .val (.long p1), .second, .val (.long v4_5), .second, .val (.long v6_12), .second, .val (.long v8_21), .second, .val (.long ms0_36), .second, .val (.long v12_44), .second, .unset, .unset] [(.int (lcmpW ms0_36 (v12_44 / v8_21)))])) _
          refine XS.ifYes X1.here hx rfl (pc0 := 70) (pc' := 75) rfl (hb hby at_70) rfl ((if0 _ _).trans (flt (fun q => hc70 ((lw_gt _ _).mp q))).2.2.2) (by decide) (by decide) ?_
          show Steps p.tables e below (T1.setTop (mkF m 75 #[.val (.long p0), .second, .val (.long p1), .second, .val (.long v4_5), .second, .val (.long v6_12), .second, .val (.long v8_21), .second, .val (.long ms0_36), .second, .val (.long v12_44), .second, .unset, .unset] [])) _
          refine XS.lload X1.here hx rfl (hb hby at_75) rfl  ?_
          show Steps p.tables e below (T1.setTop (mkF m 77 #[.val (.long p0), .second, .val (.long p1), .second, .val (.long v4_5), .second, .val (.long v6_12), .second, .val (.long v8_21), .second, .val (.long ms0_36), .second, .val (.long v12_44), .second, .unset, .unset] [(.long v12_44)])) _
          refine XS.lload X1.here hx rfl (hb hby at_77) rfl  ?_
          show Steps p.tables e below (T1.setTop (mkF m 79 #[.val (.long p0), .second, .val (.long p1), .second, .val (.long v4_5), .second, .val (.long v6_12), .second, .val (.long v8_21), .second, .val (.long ms0_36), .second, .val (.long v12_44), .second, .unset, .unset] [(.long v8_21), (.long v12_44)])) _
          refine XS.lload X1.here hx rfl (hb hby at_79) rfl  ?_
          show Steps p.tables e below (T1.setTop (mkF m 81 #[.val (.long p0), .second, .val (.long p1), .second, .val (.long v4_5), .second, .val (.long v6_12), .second, .val (.long v8_21), .second, .val (.long ms0_36), .second, .val (.long v12_44), .second, .unset, .unset] [(.long ms0_36), (.long v8_21), (.long v12_44)])) _
          refine XS.lmul X1.here hx rfl (hb hby at_81) rfl ?_
          show Steps p.tables e below (T1.setTop (mkF m 82 #[.val (.long p0), .second, .val (.long p1), .second, .val (.long v4_5), .second, .val (.long v6_12), .second, .val (.long v8_21), .second, .val (.long ms0_36), .second, .val (.long v12_44), .second, .unset, .unset] [(.long (v8_21 * ms0_36)), (.long v12_44)])) _
          refine XS.lsub X1.here hx rfl (hb hby at_82) rfl ?_
          show Steps p.tables e below (T1.setTop (mkF m 83 #[.val (.long p0), .second, .val (.long p1), .second, .val (.long v4_5), .second, .val (.long v6_12), .second, .val (.long v8_21), .second, .val (.long ms0_36), .second, .val (.long v12_44), .second, .unset, .unset] [(.long (v12_44 - (v8_21 * ms0_36)))])) _
          refine XS.lstore X1.here hx rfl (hb hby at_83) rfl (l' := #[.val (.long p0), .second, .val (.long p1), .second, .val (.long v4_5), .second, .val (.long v6_12), .second, .val (.long v8_21), .second, .val (.long ms0_36), .second, .val (.long v12_44), .second, .val (.long v14_83), .second]) (by rw [hv14_83]; rfl) ?_
          show Steps p.tables e below (T1.setTop (mkF m 85 #[.val (.long p0), .second, .val (.long p1), .second, .val (.long v4_5), .second, .val (.long v6_12), .second, .val (.long v8_21), .second, .val (.long ms0_36), .second, .val (.long v12_44), .second, .val (.long v14_83), .second] [])) _
          refine XS.lload X1.here hx rfl (hb hby at_85) rfl  ?_
          show Steps p.tables e below (T1.setTop (mkF m 87 #[.val (.long p0), .second, .val (.long p1), .second, .val (.long v4_5), .second, .val (.long v6_12), .second, .val (.long v8_21), .second, .val (.long ms0_36), .second, .val (.long v12_44), .second, .val (.long v14_83), .second] [(.long v14_83)])) _
          refine XS.lconst X1.here hx rfl (hb hby at_87) ?_
          show Steps p.tables e below (T1.setTop (mkF m 88 #[.val (.long p0), .second, .val (.long p1), .second, .val (.long v4_5), .second, .val (.long v6_12), .second, .val (.long v8_21), .second, .val (.long ms0_36), .second, .val (.long v12_44), .second, .val (.long v14_83), .second] [(.long (0 : Int64)), (.long v14_83)])) _
          refine XS.lcmp X1.here hx rfl (hb hby at_88) rfl ?_
          exact k
        obtain ⟨ms0_105, hms0_105⟩ : ∃ z : Int32, z = (if v14_83 < (0 : Int64) then (0 : Int32) else (if v14_83 < ms0_36 then (1 : Int32) else (0 : Int32))) := ⟨_, rfl⟩
        have pre11 : ∀ t, Steps p.tables e below (T1.setTop (mkF m 105 #[.val (.long p0), .second, .val (.long p1), .second, .val (.long v4_5), .second, .val (.long v6_12), .second, .val (.long v8_21), .second, .val (.long ms0_36), .second, .val (.long v12_44), .second, .val (.long v14_83), .second] [(.int ms0_105)])) t → Steps p.tables e below (s₁.setTop (entryFrame m #[(.long p0), (.long p1)] maxLocals)) t := by
          intro t k
          refine pre10 t ?_
          by_cases hc89 : v14_83 < (0 : Int64)
          · show Steps p.tables e below (T1.setTop (mkF m 89 #[.val (.long p0), .second, .val (.long p1), .second, .val (.long v4_5), .second, .val (.long v6_12), .second, .val (.long v8_21), .second, .val (.long ms0_36), .second, .val (.long v12_44), .second, .val (.long v14_83), .second] [(.int (lcmpW v14_83 (0 : Int64)))])) _
            refine XS.ifYes X1.here hx rfl (pc0 := 89) (pc' := 104) rfl (hb hby at_89) rfl ((if0 _ _).trans (tlt ((lw_lt _ _).mpr hc89)).1) (by decide) (by decide) ?_
            show Steps p.tables e below (T1.setTop (mkF m 104 #[.val (.long p0), .second, .val (.long p1), .second, .val (.long v4_5), .second, .val (.long v6_12), .second, .val (.long v8_21), .second, .val (.long ms0_36), .second, .val (.long v12_44), .second, .val (.long v14_83), .second] [])) _
            refine XS.iconst X1.here hx rfl (hb hby at_104) ?_
            have qms0_105 : ms0_105 = (0 : Int32) := by rw [hms0_105, if_pos hc89]
            rw [qms0_105] at k
            exact k
          · show Steps p.tables e below (T1.setTop (mkF m 89 #[.val (.long p0), .second, .val (.long p1), .second, .val (.long v4_5), .second, .val (.long v6_12), .second, .val (.long v8_21), .second, .val (.long ms0_36), .second, .val (.long v12_44), .second, .val (.long v14_83), .second] [(.int (lcmpW v14_83 (0 : Int64)))])) _
            refine XS.ifNo X1.here hx rfl (hb hby at_89) rfl ((if0 _ _).trans (flt (fun q => hc89 ((lw_lt _ _).mp q))).1) ?_
            show Steps p.tables e below (T1.setTop (mkF m 92 #[.val (.long p0), .second, .val (.long p1), .second, .val (.long v4_5), .second, .val (.long v6_12), .second, .val (.long v8_21), .second, .val (.long ms0_36), .second, .val (.long v12_44), .second, .val (.long v14_83), .second] [])) _
            refine XS.lload X1.here hx rfl (hb hby at_92) rfl  ?_
            show Steps p.tables e below (T1.setTop (mkF m 94 #[.val (.long p0), .second, .val (.long p1), .second, .val (.long v4_5), .second, .val (.long v6_12), .second, .val (.long v8_21), .second, .val (.long ms0_36), .second, .val (.long v12_44), .second, .val (.long v14_83), .second] [(.long v14_83)])) _
            refine XS.lload X1.here hx rfl (hb hby at_94) rfl  ?_
            show Steps p.tables e below (T1.setTop (mkF m 96 #[.val (.long p0), .second, .val (.long p1), .second, .val (.long v4_5), .second, .val (.long v6_12), .second, .val (.long v8_21), .second, .val (.long ms0_36), .second, .val (.long v12_44), .second, .val (.long v14_83), .second] [(.long ms0_36), (.long v14_83)])) _
            refine XS.lcmp X1.here hx rfl (hb hby at_96) rfl ?_
            by_cases hc97 : v14_83 < ms0_36
            · show Steps p.tables e below (T1.setTop (mkF m 97 #[.val (.long p0), .second, .val (.long p1), .second, .val (.long v4_5), .second, .val (.long v6_12), .second, .val (.long v8_21), .second, .val (.long ms0_36), .second, .val (.long v12_44), .second, .val (.long v14_83), .second] [(.int (lcmpW v14_83 ms0_36))])) _
              refine XS.ifNo X1.here hx rfl (hb hby at_97) rfl ((if0 _ _).trans (tlt ((lw_lt _ _).mpr hc97)).2.1) ?_
              show Steps p.tables e below (T1.setTop (mkF m 100 #[.val (.long p0), .second, .val (.long p1), .second, .val (.long v4_5), .second, .val (.long v6_12), .second, .val (.long v8_21), .second, .val (.long ms0_36), .second, .val (.long v12_44), .second, .val (.long v14_83), .second] [])) _
              refine XS.iconst X1.here hx rfl (hb hby at_100) ?_
              show Steps p.tables e below (T1.setTop (mkF m 101 #[.val (.long p0), .second, .val (.long p1), .second, .val (.long v4_5), .second, .val (.long v6_12), .second, .val (.long v8_21), .second, .val (.long ms0_36), .second, .val (.long v12_44), .second, .val (.long v14_83), .second] [(.int (1 : Int32))])) _
              refine XS.goto X1.here hx rfl (pc0 := 101) (pc' := 105) rfl (hb hby at_101) (by decide) (by decide) ?_
              have qms0_105 : ms0_105 = (1 : Int32) := by rw [hms0_105, if_neg hc89, if_pos hc97]
              rw [qms0_105] at k
              exact k
            · show Steps p.tables e below (T1.setTop (mkF m 97 #[.val (.long p0), .second, .val (.long p1), .second, .val (.long v4_5), .second, .val (.long v6_12), .second, .val (.long v8_21), .second, .val (.long ms0_36), .second, .val (.long v12_44), .second, .val (.long v14_83), .second] [(.int (lcmpW v14_83 ms0_36))])) _
              refine XS.ifYes X1.here hx rfl (pc0 := 97) (pc' := 104) rfl (hb hby at_97) rfl ((if0 _ _).trans (flt (fun q => hc97 ((lw_lt _ _).mp q))).2.1) (by decide) (by decide) ?_
              show Steps p.tables e below (T1.setTop (mkF m 104 #[.val (.long p0), .second, .val (.long p1), .second, .val (.long v4_5), .second, .val (.long v6_12), .second, .val (.long v8_21), .second, .val (.long ms0_36), .second, .val (.long v12_44), .second, .val (.long v14_83), .second] [])) _
              refine XS.iconst X1.here hx rfl (hb hby at_104) ?_
              have qms0_105 : ms0_105 = (0 : Int32) := by rw [hms0_105, if_neg hc89, if_neg hc97]
              rw [qms0_105] at k
              exact k
        have hnar : nar .boolean ms0_105 = ms0_105 := by rw [hms0_105]; (repeat' split) <;> rfl
        obtain ⟨fs, hr, hrun, hended, hW, hsame⟩ := X1.leave (v := some (.int ms0_105)) (fun h => by rw [Bd.returns] at h; cases h)
        refine ⟨_, _, pre11 _ ?_, hrun, hended, _, _, rfl, ?_, ⟨_, rfl⟩, hW, hsame.mono (by decide) (by decide)⟩
        · show Steps p.tables e below (T1.setTop (mkF m 105 #[.val (.long p0), .second, .val (.long p1), .second, .val (.long v4_5), .second, .val (.long v6_12), .second, .val (.long v8_21), .second, .val (.long ms0_36), .second, .val (.long v12_44), .second, .val (.long v14_83), .second] [(.int ms0_105)])) _
          exact retN X1 hx (t := .boolean) Bd.returns (by simp) (hb hby at_105) (by rw [hnar]; exact hr)
        · show Q_0 Z p0 p1 h0 n0 _ T1.heap _
          rw [e1]
          exact ⟨congrArg (fun z => some (Value.int z)) (by subst hv4_5 hv6_12 hv8_21 hms0_36 hv12_44 hv14_83 hms0_105; simp only [f_0, if_neg hc50, if_neg hc59, if_neg hc70] : ms0_105 = f_0 p0 p1), N1, trivial⟩
theorem own_body (c n d : Int64) (hc : 0 ≤ c.toInt) (hc2 : c.toInt < 2147483648) (hd : 0 < d.toInt) (hn : f_2 n 1 = d) :
    (let v8_21 : Int64 := (f_1 c n); let v12_44 : Int64 := (c * (1000000000 : Int64)); (if v8_21 < (0 : Int64) then (0 : Int32) else (if v8_21 = (0 : Int64) then let v14_83 : Int64 := (v12_44 - (v8_21 * d)); let ms0_105 : Int32 := (if v14_83 < (0 : Int64) then (0 : Int32) else (if v14_83 < d then (1 : Int32) else (0 : Int32))); ms0_105 else (if (v12_44 / v8_21) < d then (0 : Int32) else let v14_83 : Int64 := (v12_44 - (v8_21 * d)); let ms0_105 : Int32 := (if v14_83 < (0 : Int64) then (0 : Int32) else (if v14_83 < d then (1 : Int32) else (0 : Int32))); ms0_105)))) = (1 : Int32) := by
  have l9 : (1000000000 : Int64).toInt = 1000000000 := by decide
  have l0 : (0 : Int64).toInt = 0 := by decide
  have a1 := c_lmul c 1000000000
  rw [l9] at a1
  have r1 := rng64 (c * 1000000000)
  have hnum : (c * 1000000000).toInt = c.toInt * 1000000000 := by omega
  have e1 : f_1 c n = (c * 1000000000) / d := by simp only [f_1, hn]
  have hd1 : d ≠ -1 := by rintro rfl; exact absurd hd (by decide)
  have a2 := (c_ldiv (c * 1000000000) d d.toInt rfl hd1).1 (by omega)
  simp only [e1]
  generalize c * 1000000000 = N at *
  generalize N / d = r at *
  have m1 := Int.mul_ediv_add_emod N.toInt d.toInt
  have m2 := Int.emod_nonneg N.toInt (show d.toInt ≠ 0 by omega)
  have m3 := Int.emod_lt_of_pos N.toInt hd
  have m4 : 0 ≤ r.toInt := by rw [a2]; exact Int.ediv_nonneg (by omega) (by omega)
  have m5 : 0 ≤ r.toInt * d.toInt := Int.mul_nonneg m4 (by omega)
  have a3 := c_lmul r d
  have a4 := c_lsub N (r * d)
  have r3 := rng64 (r * d)
  have r4 := rng64 (N - r * d)
  have r5 := rng64 N
  rw [← a2, Int.mul_comm] at m1
  have hle : r.toInt * d.toInt ≤ N.toInt := by omega
  generalize htt : r.toInt * d.toInt = t at *
  generalize N.toInt % d.toInt = w at *
  have k1 : ¬ r < 0 := by rw [Int64.lt_iff_toInt_lt]; omega
  have k3 : ¬ (N - r * d) < 0 := by rw [Int64.lt_iff_toInt_lt]; omega
  have k4 : (N - r * d) < d := by rw [Int64.lt_iff_toInt_lt]; omega
  by_cases z : r = 0
  · rw [if_neg k1, if_pos z, if_neg k3, if_pos k4]
  · have z' : r.toInt ≠ 0 := fun q => z (Int64.toInt_inj.mp (q.trans l0.symm))
    have rp : 0 < r.toInt := by omega
    have hr1 : r ≠ -1 := by rintro rfl; exact absurd rp (by decide)
    have b := (c_ldiv N r r.toInt rfl hr1).1 (by omega)
    have b2 : d.toInt ≤ N.toInt / r.toInt := Int.le_ediv_of_mul_le rp (by rw [Int.mul_comm, htt]; exact hle)
    have k2 : ¬ N / r < d := by rw [Int64.lt_iff_toInt_lt, b]; omega
    rw [if_neg k1, if_neg z, if_neg k2, if_neg k3, if_pos k4]
theorem own_law (p0 p1 : Int64) : f_0 p0 p1 = 1 := by
  have a1 := c_maskL p0 2147483647 31 (by decide) (by decide)
  have a2 := c_maskL p1 9223372036854775807 63 (by decide) (by decide)
  have l0 : (0 : Int64).toInt = 0 := by decide
  have l1 : (1 : Int64).toInt = 1 := by decide
  refine own_body (p0 &&& 2147483647) (p1 &&& 9223372036854775807) (if (p1 &&& 9223372036854775807) = (0 : Int64) then (1 : Int64) else (p1 &&& 9223372036854775807)) (by omega) (by omega) ?_ ?_
  · split
    · decide
    · rename_i h
      have h' : (p1 &&& 9223372036854775807).toInt ≠ 0 := fun q => h (Int64.toInt_inj.mp (q.trans l0.symm))
      omega
  · unfold f_2
    by_cases h : (p1 &&& 9223372036854775807) = (0 : Int64)
    · rw [h]; decide
    · have h' : (p1 &&& 9223372036854775807).toInt ≠ 0 := fun q => h (Int64.toInt_inj.mp (q.trans l0.symm))
      have k : ¬ (p1 &&& 9223372036854775807) < (1 : Int64) := by rw [Int64.lt_iff_toInt_lt]; omega
      simp only [h, k, if_false]
set_option maxRecDepth 65536 in
set_option maxHeartbeats 40000000 in
theorem comes_1 {Post : Tables → Env → Array Value → State → Outcome → State → Prop} (hpost : ∀ tb e args s v u, (limb_1_1.after args s (.returned v) u = true ∧ limb_1_2.after args s (.returned v) u = true ∧ True) → FrameEnd s (.returned v) u (Jvm.fieldLocs frame_1_writes args s ++ Jvm.arrayLocs frame_1_arrays args s ++ Jvm.staticLocs frame_1_statics s) 0 0 → Post tb e args s (.returned v) u) :
    ArmFor flags0 classFile x code maxLocals ret World_1 tables_1 room_1 Calls_1 rest_1 Pre_1 Post := by
  intro l hfl _ _ p e ha hc hk s m args below hf hA hF happ hP
  obtain ⟨hcalls, hrest, hpre⟩ := hP
  obtain ⟨-, -, -, hnamed, -, -, -, hat⟩ := (Spec.applies_iff hf).mp happ
  obtain ⟨hg, hn⟩ := and_e (Cond.before_iff.mp (show (Jvm.Cond.and given_1 narrow_1).before args s = true from hpre))
  obtain ⟨g0, gt0⟩ := and_e hg
  obtain ⟨ga0, gt1⟩ := and_e gt0
  obtain ⟨w0, w1, rfl⟩ : ∃ w0 w1 : Value, args = #[w0, w1] := by
    have hs : args.size = 2 := by simpa [Cond.value, given_1] using g0
    obtain ⟨L⟩ := args
    match L, hs with
    | [w0, w1], _ => exact ⟨w0, w1, rfl⟩
  have hw := fun d (hd : d ∈ tables_1) => atoms_spec (ws := Jvm.Cond.code x code maxLocals ret :: tables_1) hat d (List.mem_cons_of_mem _ hd)
  have hfit : Fit s := fun {y c} hc i hi => by
    obtain ⟨ha, rfl⟩ := Array.getElem?_eq_some_iff.mp hc
    have q := List.all_eq_true.mp ((Array.all_eq_true_iff_forall_mem.mp hF) _ (Array.getElem_mem ha)) i (List.mem_range.mpr hi)
    simpa [Array.getElem?_eq_getElem hi] using q
  obtain ⟨i0, ei0⟩ := isL_v ga0
  obtain rfl : w0 = (.long i0) := Option.some.inj ei0
  obtain ⟨i1, ei1⟩ := isL_v gt1
  obtain rfl : w1 = (.long i1) := Option.some.inj ei1
  obtain ⟨n, o, h1, h2, h3, _, L, rfl, ⟨rfl, N⟩, hq⟩ := rm_0 l s _ hw tables_1 i0 i1  s.heap s.heap.size (Nat.le_refl _)  p e ha hc hk s m _ below hf ((Spec.applies_iff_loose hf).mp happ).1 ⟨rfl, State.Warmed39.refl s, rfl⟩ trivial
  refine ⟨n, _, h1, h2, h3, hpost _ _ _ _ _ _ ⟨Cond.after_iff.mpr rfl, Cond.after_iff.mpr (eq_i res_at (Term.int_eval (1)) (congrArg Value.int (own_law _ _))), trivial⟩ ⟨hq.1, hq.2.1, (hq.2.2.sift fun y hy => Or.inr (N.1 y hy)).mono (by decide) (by decide)⟩⟩
theorem main_1_1 : Claimed_1_1 := comes_1 fun _ _ _ _ _ _ h hF => ⟨h.1, hF⟩
theorem main_1_2 : Claimed_1_2 := comes_1 fun _ _ _ _ _ _ h hF => ⟨h.2.1, hF⟩
end Jvm.Pilot.@@N@@
namespace Jvm.Pilot.@@N@@
open Jvm Jvm.ClassFile Sem Op Lib Jvm.Free Jvm.Stand Jvm.Pilot.@@N@@.Jvm.D
/-! MADE BY PROGRAM (witnessworld.py) out of the Statement's table words and the real class files: 8 classes; the members and pool entries that the words name. The judged class is class 1, her method 1. -/
namespace start1
open Jvm.ClassFile
def u (s : String) : CpInfo := .utf8 (stringToUtf16 s)
/-- a pool by its gaps: so many unusable entries, then the entry; so many at the end -/
def gap : Nat → List CpInfo → List CpInfo
  | 0, r => r
  | n + 1, r => .unusable :: gap n r
def poolList (es : List (Nat × CpInfo)) (last : Nat) : List CpInfo := es.foldr (fun e r => gap e.1 (e.2 :: r)) (gap last [])
def pool (es : List (Nat × CpInfo)) (last : Nat) : Array CpInfo := ⟨poolList es last⟩
def fileOf (pool : Array CpInfo) (this : Nat) (attrs : Array Attribute := #[]) (ms : Array MethodInfo := #[]) (fl : Nat := 33) (sup : Nat := 0) (ifs : Array Nat := #[]) (fds : Array FieldInfo := #[]) : ClassFile where
  minorVersion := 0
  majorVersion := 65
  constantPool := pool
  accessFlags := fl
  thisClass := this
  superClass := sup
  interfaces := ifs
  fields := fds
  methods := ms
  attributes := attrs
def plain (name : String) (sup : Option ClassId) : Class where
  name := name
  kind := .ordinary
  loader := none
  accessFlags := 33
  super := sup
  interfaces := #[]
  cf := none
  fields := #[]
  methods := #[]
  instanceTypes := #[]
  staticTypes := #[]
  resolved := #[]
  callSites := []
  init := .initialized
  statics := none
  mirror := none

def pool0 : Array CpInfo := pool [(5, u "<init>"), (0, u "()V"), (1, .class_ 10), (1, u "java/lang/Object")] 113

def k0m0 : Method := { name := "<init>", desc := "()V", sig := { parameters := [], returnType := none }, accessFlags := 1, code := none }
/-- java/lang/Object -/
def k0 : Class := { plain "java/lang/Object" none with
  accessFlags := 33
  interfaces := #[]
  cf := some (fileOf pool0 8 #[] #[{ accessFlags := 1, nameIndex := 5, descriptorIndex := 6, attributes := #[] }] 33 0 #[] #[])
  fields := #[]
  methods := #[k0m0]
  instanceTypes := #[]
  staticTypes := #[]
  resolved := Array.replicate 124 none
  statics := none }

def pool1 : Array CpInfo := pool [(2, .class_ 4), (1, u "java/lang/Object"), (0, u "<init>"), (0, u "()V"), (0, .long 2147483647), (3, .long 9223372036854775807), (1, .methodref 14 15), (0, .class_ 16), (0, .nameAndType 17 18), (0, u "com/example/sequeue/sequeue/bench/Figures"), (0, u "rate"), (0, u "(JJ)J"), (0, .long 1000000000), (1, .class_ 22), (0, u "com/example/sequeue/sequeue/bench/FiguresRatePinLaw"), (2, u "law"), (0, u "(JJ)Z")] 3

def k1m0 : Method := { name := "<init>", desc := "()V", sig := { parameters := [], returnType := none }, accessFlags := 2, code := none }
def k1c1 : Code := { maxStack := 6, maxLocals := 16, code := code, exceptionTable := #[], attributes := #[] }
def k1m1 : Method := { name := "law", desc := "(JJ)Z", sig := { parameters := [.long, .long], returnType := some .boolean }, accessFlags := 9, code := some k1c1 }
/-- com/example/sequeue/sequeue/bench/FiguresRatePinLaw -/
def k1 : Class := { plain "com/example/sequeue/sequeue/bench/FiguresRatePinLaw" (some 0) with
  accessFlags := 49
  interfaces := #[]
  cf := some (fileOf pool1 21 #[] #[{ accessFlags := 2, nameIndex := 5, descriptorIndex := 6, attributes := #[] }, { accessFlags := 9, nameIndex := 25, descriptorIndex := 26, attributes := #[] }] 49 2 #[] #[])
  fields := #[]
  methods := #[k1m0, k1m1]
  instanceTypes := #[]
  staticTypes := #[]
  resolved := Array.replicate 30 none
  statics := none }

def pool2 : Array CpInfo := pool [(2, .class_ 4), (1, u "java/lang/Object"), (0, u "<init>"), (0, u "()V"), (5, .class_ 14), (1, u "com/example/sequeue/sequeue/bench/Figures"), (6, .long 1000000000), (1, .methodref 24 25), (0, .class_ 26), (0, .nameAndType 27 28), (0, u "java/lang/Math"), (0, u "max"), (0, u "(JJ)J"), (30, u "rate")] 4

def k2m0 : Method := { name := "<init>", desc := "()V", sig := { parameters := [], returnType := none }, accessFlags := 2, code := none }
def k2c1 : Code := { maxStack := 6, maxLocals := 4, code := prog_3_method_4_code, exceptionTable := #[], attributes := #[] }
def k2m1 : Method := { name := "rate", desc := "(JJ)J", sig := { parameters := [.long, .long], returnType := some .long }, accessFlags := 8, code := some k2c1 }
/-- com/example/sequeue/sequeue/bench/Figures -/
def k2 : Class := { plain "com/example/sequeue/sequeue/bench/Figures" (some 0) with
  accessFlags := 48
  interfaces := #[]
  cf := some (fileOf pool2 12 #[] #[{ accessFlags := 2, nameIndex := 5, descriptorIndex := 6, attributes := #[] }, { accessFlags := 8, nameIndex := 59, descriptorIndex := 28, attributes := #[] }] 48 2 #[] #[])
  fields := #[]
  methods := #[k2m0, k2m1]
  instanceTypes := #[]
  staticTypes := #[]
  resolved := Array.replicate 64 none
  statics := none }

def pool3 : Array CpInfo := pool [(1, .class_ 2), (0, u "java/lang/Math"), (1, .class_ 6), (1, u "java/lang/Object"), (0, u "<init>"), (0, u "()V"), (89, .class_ 100), (1, u "java/lang/Math$RandomNumberGeneratorHolder"), (20, u "(JJ)J"), (50, u "negativeZeroFloatBits"), (0, u "J"), (2, u "negativeZeroDoubleBits"), (21, u "max"), (46, u "$assertionsDisabled"), (0, u "Z"), (91, u "twoToTheDoubleScaleDown"), (0, u "D"), (4, u "twoToTheDoubleScaleUp"), (9, u "E"), (3, u "PI"), (2, u "TAU"), (2, u "DEGREES_TO_RADIANS"), (0, u "RADIANS_TO_DEGREES")] 94

def k3m0 : Method := { name := "<init>", desc := "()V", sig := { parameters := [], returnType := none }, accessFlags := 2, code := none }
def k3c1 : Code := { maxStack := 4, maxLocals := 4, code := jdk_29_method_66_code, exceptionTable := #[], attributes := #[] }
def k3m1 : Method := { name := "max", desc := "(JJ)J", sig := { parameters := [.long, .long], returnType := some .long }, accessFlags := 9, code := some k3c1 }
/-- java/lang/Math -/
def k3 : Class := { plain "java/lang/Math" (some 0) with
  accessFlags := 49
  interfaces := #[]
  cf := some (fileOf pool3 1 #[.nestMembers #[98]] #[{ accessFlags := 2, nameIndex := 7, descriptorIndex := 8, attributes := #[] }, { accessFlags := 9, nameIndex := 198, descriptorIndex := 121, attributes := #[] }] 49 4 #[] #[{ accessFlags := 25, nameIndex := 354, descriptorIndex := 339, attributes := #[] }, { accessFlags := 25, nameIndex := 358, descriptorIndex := 339, attributes := #[] }, { accessFlags := 25, nameIndex := 361, descriptorIndex := 339, attributes := #[] }, { accessFlags := 26, nameIndex := 364, descriptorIndex := 339, attributes := #[] }, { accessFlags := 26, nameIndex := 365, descriptorIndex := 339, attributes := #[] }, { accessFlags := 26, nameIndex := 172, descriptorIndex := 173, attributes := #[] }, { accessFlags := 26, nameIndex := 176, descriptorIndex := 173, attributes := #[] }, { accessFlags := 8, nameIndex := 344, descriptorIndex := 339, attributes := #[] }, { accessFlags := 8, nameIndex := 338, descriptorIndex := 339, attributes := #[] }, { accessFlags := 4120, nameIndex := 245, descriptorIndex := 246, attributes := #[] }])
  fields := #[{ name := "E", type := .double, accessFlags := 25, slot := 0, constantValue := 0 }, { name := "PI", type := .double, accessFlags := 25, slot := 1, constantValue := 0 }, { name := "TAU", type := .double, accessFlags := 25, slot := 2, constantValue := 0 }, { name := "DEGREES_TO_RADIANS", type := .double, accessFlags := 26, slot := 3, constantValue := 0 }, { name := "RADIANS_TO_DEGREES", type := .double, accessFlags := 26, slot := 4, constantValue := 0 }, { name := "negativeZeroFloatBits", type := .long, accessFlags := 26, slot := 5, constantValue := 0 }, { name := "negativeZeroDoubleBits", type := .long, accessFlags := 26, slot := 6, constantValue := 0 }, { name := "twoToTheDoubleScaleUp", type := .double, accessFlags := 8, slot := 7, constantValue := 0 }, { name := "twoToTheDoubleScaleDown", type := .double, accessFlags := 8, slot := 8, constantValue := 0 }, { name := "$assertionsDisabled", type := .boolean, accessFlags := 4120, slot := 9, constantValue := 0 }]
  methods := #[k3m0, k3m1]
  instanceTypes := #[]
  staticTypes := #[.double, .double, .double, .double, .double, .long, .long, .double, .double, .boolean]
  resolved := Array.replicate 460 none
  statics := none }

def pool4 : Array CpInfo := pool [(1, u "java/lang/Cloneable"), (0, .class_ 1), (0, u "java/lang/Object"), (0, .class_ 3)] 3

/-- java/lang/Cloneable -/
def k4 : Class := { plain "java/lang/Cloneable" (some 0) with
  accessFlags := 1537
  interfaces := #[]
  cf := some (fileOf pool4 2 #[] #[] 1537 4 #[] #[])
  fields := #[]
  methods := #[]
  instanceTypes := #[]
  staticTypes := #[]
  resolved := Array.replicate 8 none
  statics := none }

def pool5 : Array CpInfo := pool [(1, u "java/io/Serializable"), (0, .class_ 1), (0, u "java/lang/Object"), (0, .class_ 3)] 3

/-- java/io/Serializable -/
def k5 : Class := { plain "java/io/Serializable" (some 0) with
  accessFlags := 1537
  interfaces := #[]
  cf := some (fileOf pool5 2 #[] #[] 1537 4 #[] #[])
  fields := #[]
  methods := #[]
  instanceTypes := #[]
  staticTypes := #[]
  resolved := Array.replicate 8 none
  statics := none }

/-- the primitive byte -/
def k6 : Class := { plain "byte" none with kind := .primitive 'B', accessFlags := 0x411 }
/-- [B -/
def k7 : Class := { plain "[B" (some 0) with kind := .array 6 .byte, interfaces := #[4, 5], accessFlags := 1041 }

def heap : Heap := #[]
def classes : Array Class := #[k0, k1, k2, k3, k4, k5, k6, k7]
def interned : List (Array UInt16 × Addr) := []
def slotsUsed : Nat := 0
def theMethod : MethodId := ⟨1, 1⟩
def args0 : Array Value := #[.long 5, .long 3]
def aboutOver (below : List Frame) : State where
  vm := { classes := classes, interned := interned.toArray }
  heap := heap
  slotsUsed := slotsUsed
  threads := #[{ frames := .invoking theMethod args0 :: below }]
def below0 : List Frame := [.native { method := ⟨0, 0⟩, args := #[] }]
def about1 : State := aboutOver below0
def p0 : Program := .bare "" "" ""
def e0 : Env := launch0.env 0 0 0
theorem w_frames : about1.frames = Frame.invoking theMethod args0 :: below0 := rfl
set_option maxRecDepth 65536 in
theorem w_args : argsFit about1.vm theMethod args0 = true := by decide +kernel
set_option maxRecDepth 65536 in
theorem w_heap : heapFits about1 = true := by decide +kernel
set_option maxRecDepth 65536 in
theorem w_runnable : about1.curStatus? = some .runnable := by decide +kernel
set_option maxRecDepth 65536 in
theorem w_alone : about1.alone = true := by decide +kernel
set_option maxRecDepth 65536 in
theorem w_named : about1.methodNamed? x = some theMethod := by decide +kernel
set_option maxRecDepth 65536 in
theorem w_hears : about1.hears theMethod below0 = true := by decide +kernel
set_option maxRecDepth 65536 in
theorem w_ripe : about1.ripe theMethod args0 below0 = true := by decide +kernel
theorem w_running : about1.status = .running := rfl
set_option maxRecDepth 65536 in
theorem w_room : about1.hasRoom e0.platform room_1 = true :=
  launch0.hasRoom_least _ room_1 (by decide +kernel) (by decide +kernel) (by decide +kernel) (by decide +kernel) (by decide +kernel) (by decide +kernel)
theorem allAtoms_all (ts : List Jvm.Cond) (a : Array Jvm.Value) (st : Jvm.State) : (allAtoms ts).before a st = ts.all (fun c => c.before a st) := by
  induction ts with
  | nil => rfl
  | cons c t ih =>
    show (Jvm.Cond.and c (allAtoms t)).before a st = _
    rw [Jvm.Cond.before_and, ih, List.all_cons]
def words1 : List Jvm.Cond := Jvm.Cond.code x code maxLocals ret :: tables_1
/-- a 'code' word, met by the world's own term for the bytes: nothing is compared byte by byte -/
theorem code_word {y : MethodName} {bytes : ByteArray} {mx : Nat} {rt : Option FieldType} {a : Array Value} {s : State} {m : MethodId} {meth : Method} {c : Code} (h1 : s.methodNamed? y = some m) (h2 : s.vm.method? m = some meth) (h3 : meth.code = some c) (h4 : c.code = bytes)
    (h5 : (c.maxLocals == mx && c.exceptionTable.isEmpty && decide (c.maxStack ≤ mostOperands) && decide (meth.sig.returnType = rt) && !meth.locks && decide (parseMethodDescriptor y.desc = some meth.sig)) = true) : (Jvm.Cond.code y bytes mx rt).before a s = true := by
  simp only [Bool.and_eq_true, beq_iff_eq, Bool.not_eq_true', decide_eq_true_eq] at h5
  obtain ⟨⟨⟨⟨⟨g1, g2⟩, g3⟩, g4⟩, g5⟩, g6⟩ := h5
  simp [Cond.before, Cond.holds, Cond.value, h1, h2, h3, h4, g1, g2, g3, g4, g5, g6]
def isCode : Jvm.Cond → Bool
  | .code _ _ _ _ => true
  | _ => false
theorem all_split {L : List Jvm.Cond} {P : Jvm.Cond → Bool} (h1 : L.all (fun c => isCode c || P c) = true) (h2 : ∀ c ∈ L.filter isCode, P c = true) : L.all P = true := by
  refine List.all_eq_true.mpr fun c hc => ?_
  have h := List.all_eq_true.mp h1 c hc
  rcases Bool.eq_false_or_eq_true (isCode c) with hi | hi
  · exact h2 c (List.mem_filter.mpr ⟨hc, hi⟩)
  · simpa [hi] using h
set_option maxRecDepth 65536 in
theorem w_c0 : (Jvm.Cond.code x code maxLocals ret).before args0 about1 = true := code_word (m := ⟨1, 1⟩) (meth := k1m1) (c := k1c1) (by decide +kernel) rfl rfl rfl (by decide +kernel)
set_option maxRecDepth 65536 in
theorem w_c1 : (Jvm.Cond.code ({ cls := "com/example/sequeue/sequeue/bench/Figures", name := "rate", desc := "(JJ)J" } : Jvm.MethodName) prog_3_method_4_code (4 : Nat) (Option.some Jvm.ClassFile.FieldType.long)).before args0 about1 = true := code_word (m := ⟨2, 1⟩) (meth := k2m1) (c := k2c1) (by decide +kernel) rfl rfl rfl (by decide +kernel)
set_option maxRecDepth 65536 in
theorem w_c2 : (Jvm.Cond.code ({ cls := "java/lang/Math", name := "max", desc := "(JJ)J" } : Jvm.MethodName) jdk_29_method_66_code (4 : Nat) (Option.some Jvm.ClassFile.FieldType.long)).before args0 about1 = true := code_word (m := ⟨3, 1⟩) (meth := k3m1) (c := k3c1) (by decide +kernel) rfl rfl rfl (by decide +kernel)
def codes1 : List Jvm.Cond := [Jvm.Cond.code x code maxLocals ret, Jvm.Cond.code ({ cls := "com/example/sequeue/sequeue/bench/Figures", name := "rate", desc := "(JJ)J" } : Jvm.MethodName) prog_3_method_4_code (4 : Nat) (Option.some Jvm.ClassFile.FieldType.long), Jvm.Cond.code ({ cls := "java/lang/Math", name := "max", desc := "(JJ)J" } : Jvm.MethodName) jdk_29_method_66_code (4 : Nat) (Option.some Jvm.ClassFile.FieldType.long)]
set_option maxRecDepth 65536 in
theorem codes_eq : words1.filter isCode = codes1 := rfl
theorem w_codes : ∀ c ∈ words1.filter isCode, c.before args0 about1 = true := by
  rw [codes_eq]
  intro c hc
  simp only [codes1, List.mem_cons, List.not_mem_nil, or_false] at hc
  rcases hc with rfl | rfl | rfl
  · exact w_c0
  · exact w_c1
  · exact w_c2
set_option maxRecDepth 65536 in
theorem w_t1 : words1.all (fun c => isCode c || c.before args0 about1) = true := by decide +kernel
theorem w_tables : (allAtoms (Jvm.Cond.code x code maxLocals ret :: tables_1)).before args0 about1 = true := by
  rw [allAtoms_all]
  show words1.all (fun c => c.before args0 about1) = true
  refine all_split ?_ w_codes
  rw [w_t1]
set_option maxRecDepth 65536 in
theorem w_case : (Jvm.Cond.and given_1 narrow_1).before args0 about1 = true := by decide +kernel
theorem w_applies : (headSpec (Jvm.Cond.code x code maxLocals ret :: tables_1) room_1).applies x e0.platform about1 = true :=
  (Spec.applies_iff w_frames).mpr ⟨w_running, w_runnable, w_alone, w_named, w_hears, w_ripe, w_room, w_tables⟩
theorem atStart : AtStart classFile x code maxLocals ret World_1 tables_1 room_1 Calls_1 rest_1 Pre_1 launch0 p0 e0 about1 theMethod args0 below0 :=
  ⟨lists_1, trivial, launch0.admits_env _ _ _, launch0.least_env, fairChoices_fair.cas, fairChoices_fair.clock, w_frames, w_args, w_heap, w_applies, trivial, trivial, w_case⟩
end start1
theorem witness_1 : WitnessClaimed_1 := ⟨start1.p0, start1.e0, start1.about1, start1.theMethod, start1.args0, start1.below0, start1.atStart⟩
end Jvm.Pilot.@@N@@
