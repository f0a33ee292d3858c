import JvmDerived
import JvmDerived.Pilot.@@N@@Statement
import JvmDerived.Pilot.@@N@@Code
set_option linter.unusedVariables false
set_option linter.unusedSimpArgs false
namespace Jvm.RoadKit
open Sem ClassFile Op Lib Jvm.Stand Jvm.Free Jvm.LawKit
section New
variable {p : Program} {l : Launch} {e : Env} {R : Room} {s : State} {m : MethodId} {args : Array Value} {below : List Frame} {meth : Method} {c : Code} {T : State} {locs : List Loc} {cells slots : Nat}
theorem retI (X : Stand p l e R s m args below meth c T locs cells slots) (hx : p.tables.exec = Jvm.exec) {pc : Nat} {Ls : Array Slot} {z : Int32} {rest : List Value} (hret : meth.sig.returnType = some .int) (hd : decode c.code pc = .ok (.ireturn, 1)) {fs : List Frame}
    (hl : ∀ (f : JFrame) (acts : List Action), f.method = m → f.locked = none → f.entered = [] → (doReturn e (T.setTop f) acts (some (.int z))).1 = T.setFrames fs) : Steps p.tables e below (T.setTop (mkF m pc Ls (.int z :: rest))) (T.setFrames fs) := by
  have hm' : T.vm.method? m = some meth := X.method'
  have hn : narrow .int (.int z) = .int z := rfl
  show Steps p.tables e below (T.setTop { method := m, pc := pc, locals := Ls, stack := _ :: rest, locked := none }) _
  jvm_step X.here [X.here.top, hx, hd, hm', hret, hn]
  first | (intro acts; rw [hl _ acts rfl rfl rfl]) | rw [hl _ _ rfl rfl rfl]
  exact Steps.refl _
theorem own_lremM {g : JFrame} {target : State} (X : Stand p l e R s m args below meth c T locs cells slots) (hx : p.tables.exec = Jvm.exec) (hg : g.method = m) {x y : Int64} {rest : List Value} (hd : decode c.code g.pc = .ok (.lrem, 1)) (hs : g.stack = .long y :: .long x :: rest) (hy : y ≠ 0)
    (hr : Steps p.tables e below (T.setTop { g with pc := g.pc + 1, stack := .long (x % y) :: rest }) target) : Steps p.tables e below (T.setTop g) target := by
  have q : x - x / y * y = x % y := lrem_mod x y
  exact XS.lrem X.here hx hg hd hs hy (by rw [q]; exact hr)
end New
end Jvm.RoadKit
namespace Jvm.Pilot.@@N@@
open Jvm Jvm.ClassFile Sem Op Lib Jvm.Free Jvm.Stand Jvm.LawKit Jvm.RoadKit Bundle Jvm.Pilot.@@N@@.Jvm.D
theorem d2_0 : decode method_2_code 0 = .ok (.lload_n 0, 1) := by decide +kernel
theorem d2_1 : decode method_2_code 1 = .ok (.lstore_n 2, 1) := by decide +kernel
theorem d2_2 : decode method_2_code 2 = .ok (.lload_n 2, 1) := by decide +kernel
theorem d2_3 : decode method_2_code 3 = .ok (.ldc2_w 7, 3) := by decide +kernel
theorem d2_6 : decode method_2_code 6 = .ok (.lload_n 0, 1) := by decide +kernel
theorem d2_7 : decode method_2_code 7 = .ok (.lload_n 2, 1) := by decide +kernel
theorem d2_8 : decode method_2_code 8 = .ok (.lmul, 1) := by decide +kernel
theorem d2_9 : decode method_2_code 9 = .ok (.lsub, 1) := by decide +kernel
theorem d2_10 : decode method_2_code 10 = .ok (.lmul, 1) := by decide +kernel
theorem d2_11 : decode method_2_code 11 = .ok (.lstore_n 2, 1) := by decide +kernel
theorem d2_12 : decode method_2_code 12 = .ok (.lload_n 2, 1) := by decide +kernel
theorem d2_13 : decode method_2_code 13 = .ok (.ldc2_w 7, 3) := by decide +kernel
theorem d2_16 : decode method_2_code 16 = .ok (.lload_n 0, 1) := by decide +kernel
theorem d2_17 : decode method_2_code 17 = .ok (.lload_n 2, 1) := by decide +kernel
theorem d2_18 : decode method_2_code 18 = .ok (.lmul, 1) := by decide +kernel
theorem d2_19 : decode method_2_code 19 = .ok (.lsub, 1) := by decide +kernel
theorem d2_20 : decode method_2_code 20 = .ok (.lmul, 1) := by decide +kernel
theorem d2_21 : decode method_2_code 21 = .ok (.lstore_n 2, 1) := by decide +kernel
theorem d2_22 : decode method_2_code 22 = .ok (.lload_n 2, 1) := by decide +kernel
theorem d2_23 : decode method_2_code 23 = .ok (.ldc2_w 7, 3) := by decide +kernel
theorem d2_26 : decode method_2_code 26 = .ok (.lload_n 0, 1) := by decide +kernel
theorem d2_27 : decode method_2_code 27 = .ok (.lload_n 2, 1) := by decide +kernel
theorem d2_28 : decode method_2_code 28 = .ok (.lmul, 1) := by decide +kernel
theorem d2_29 : decode method_2_code 29 = .ok (.lsub, 1) := by decide +kernel
theorem d2_30 : decode method_2_code 30 = .ok (.lmul, 1) := by decide +kernel
theorem d2_31 : decode method_2_code 31 = .ok (.lstore_n 2, 1) := by decide +kernel
theorem d2_32 : decode method_2_code 32 = .ok (.lload_n 2, 1) := by decide +kernel
theorem d2_33 : decode method_2_code 33 = .ok (.ldc2_w 7, 3) := by decide +kernel
theorem d2_36 : decode method_2_code 36 = .ok (.lload_n 0, 1) := by decide +kernel
theorem d2_37 : decode method_2_code 37 = .ok (.lload_n 2, 1) := by decide +kernel
theorem d2_38 : decode method_2_code 38 = .ok (.lmul, 1) := by decide +kernel
theorem d2_39 : decode method_2_code 39 = .ok (.lsub, 1) := by decide +kernel
theorem d2_40 : decode method_2_code 40 = .ok (.lmul, 1) := by decide +kernel
theorem d2_41 : decode method_2_code 41 = .ok (.lstore_n 2, 1) := by decide +kernel
theorem d2_42 : decode method_2_code 42 = .ok (.lload_n 2, 1) := by decide +kernel
theorem d2_43 : decode method_2_code 43 = .ok (.ldc2_w 7, 3) := by decide +kernel
theorem d2_46 : decode method_2_code 46 = .ok (.lload_n 0, 1) := by decide +kernel
theorem d2_47 : decode method_2_code 47 = .ok (.lload_n 2, 1) := by decide +kernel
theorem d2_48 : decode method_2_code 48 = .ok (.lmul, 1) := by decide +kernel
theorem d2_49 : decode method_2_code 49 = .ok (.lsub, 1) := by decide +kernel
theorem d2_50 : decode method_2_code 50 = .ok (.lmul, 1) := by decide +kernel
theorem d2_51 : decode method_2_code 51 = .ok (.lstore_n 2, 1) := by decide +kernel
theorem d2_52 : decode method_2_code 52 = .ok (.lload_n 2, 1) := by decide +kernel
theorem d2_53 : decode method_2_code 53 = .ok (.lreturn, 1) := by decide +kernel
theorem pn_2 : plainName "com/example/fanoutd/fanoutd/balancer/KeyHashFinishPinLaw" = true := by first | (simp [plainName, overriddenIn]; done) | decide +kernel
theorem ef_2 (m : MethodId) (p0 : Int64) : entryFrame m #[(.long p0)] 4 = mkF m 0 #[.val (.long p0), .second, .unset, .unset] [] := by first | (simp [entryFrame, mkF, argsToLocals, Value.category]; done) | rfl
def f_2 (p0 : Int64) : Int64 := let v2_11 : Int64 := (p0 * ((2 : Int64) - (p0 * p0))); let v2_21 : Int64 := (v2_11 * ((2 : Int64) - (p0 * v2_11))); let v2_31 : Int64 := (v2_21 * ((2 : Int64) - (p0 * v2_21))); let v2_41 : Int64 := (v2_31 * ((2 : Int64) - (p0 * v2_31))); let v2_51 : Int64 := (v2_41 * ((2 : Int64) - (p0 * v2_41))); v2_51
def Q_2 (Z : State) (p0 : Int64)  (h0 : Heap) (n0 : Nat) (v : Option Value) (h : Heap) (L : List Loc) : Prop := v = some (.long (f_2 p0)) ∧ Fr n0 L ∧ h = h0
set_option maxRecDepth 65536 in
set_option maxHeartbeats 40000000 in
theorem rm_2 (l : Launch) (Z : State) (a0 : Array Value) (hw : ∀ d ∈ tables_1, d.before a0 Z = true) (ws : List Jvm.Cond) (p0 : Int64)  (h0 : Heap) (n0 : Nat) (Z0 : n0 ≤ h0.size)  :
    MetFree l (⟨"com/example/fanoutd/fanoutd/balancer/KeyHashFinishPinLaw", "inverse", "(J)J"⟩ : MethodName) (head1 (Jvm.Cond.code (⟨"com/example/fanoutd/fanoutd/balancer/KeyHashFinishPinLaw", "inverse", "(J)J"⟩ : MethodName) method_2_code 4 (some .long) :: ws) ({ frames := 0, cells := 0, slots := 0, locals := 0 } : Room)) (fun a U => a = #[(.long p0)] ∧ Z.Warmed39 U.vm ∧ U.heap = h0) (fun _ _ _ _ _ => True) (fun _ U o U' => ∃ v L, o = .returned v ∧ Q_2 Z p0 h0 n0 v U'.heap L ∧ FrameEnd U o U' L ({ frames := 0, cells := 0, slots := 0, locals := 0 } : Room).cells ({ frames := 0, cells := 0, slots := 0, locals := 0 } : Room).slots) := by
  refine MetFree.of_bodySF (plainFor_of_name pn_2) hisR ?_
  intro p e s m args below meth c s₁ Bd hml0 hP hK
  obtain ⟨rfl, hZ, hh⟩ := hP
  have hx := Bd.exec
  have hby := Bd.bytes
  have hml : c.maxLocals = 4 := hml0
  have hown : s.vm.findClass "com/example/fanoutd/fanoutd/balancer/KeyHashFinishPinLaw" = some m.cls := findClass_of_methodNamed Bd.named
  have hnm := (name_of_methodNamed Bd.named Bd.method).1
  have X0 : Stand p l e ({ frames := 0, cells := 0, slots := 0, locals := 0 } : Room) s m #[(.long p0)] below meth c s₁ [] 0 0 := Stand.of_body Bd
  have e0 : s₁.heap = h0 := by rw [← hh, Bd.state]; rfl
  have N0 := Fr.nil n0
  have K0 : Keep h0 h0 [] := Keep.refl h0 _
  have pre0 : ∀ t, Steps p.tables e below (s₁.setTop (mkF m 0 #[.val (.long p0), .second, .unset, .unset] [])) t → Steps p.tables e below (s₁.setTop (entryFrame m #[(.long p0)] 4)) t := fun t k => castTop (ef_2 m p0) k
  obtain ⟨v2_11, hv2_11⟩ : ∃ z : Int64, z = (p0 * ((2 : Int64) - (p0 * p0))) := ⟨_, rfl⟩
  obtain ⟨v2_21, hv2_21⟩ : ∃ z : Int64, z = (v2_11 * ((2 : Int64) - (p0 * v2_11))) := ⟨_, rfl⟩
  obtain ⟨v2_31, hv2_31⟩ : ∃ z : Int64, z = (v2_21 * ((2 : Int64) - (p0 * v2_21))) := ⟨_, rfl⟩
  obtain ⟨v2_41, hv2_41⟩ : ∃ z : Int64, z = (v2_31 * ((2 : Int64) - (p0 * v2_31))) := ⟨_, rfl⟩
  obtain ⟨v2_51, hv2_51⟩ : ∃ z : Int64, z = (v2_41 * ((2 : Int64) - (p0 * v2_41))) := ⟨_, rfl⟩
  obtain ⟨fs, hr, hrun, hended, hW, hsame⟩ := X0.leave (v := some (.long v2_51)) (fun h => by rw [Bd.returns] at h; cases h)
  refine ⟨_, _, pre0 _ ?_, hrun, hended, _, _, rfl, ?_, ⟨_, rfl⟩, hW, hsame.mono (by decide) (by decide)⟩
  · show Steps p.tables e below (s₁.setTop (mkF m 0 #[.val (.long p0), .second, .unset, .unset] [])) _
    refine XS.lloadN X0.here hx rfl (hb hby d2_0) rfl  ?_
    show Steps p.tables e below (s₁.setTop (mkF m 1 #[.val (.long p0), .second, .unset, .unset] [(.long p0)])) _
    refine XS.lstoreN X0.here hx rfl (hb hby d2_1) rfl (l' := #[.val (.long p0), .second, .val (.long p0), .second]) rfl ?_
    show Steps p.tables e below (s₁.setTop (mkF m 2 #[.val (.long p0), .second, .val (.long p0), .second] [])) _
    refine XS.lloadN X0.here hx rfl (hb hby d2_2) rfl  ?_
    show Steps p.tables e below (s₁.setTop (mkF m 3 #[.val (.long p0), .second, .val (.long p0), .second] [(.long p0)])) _
    refine X0.ldc2Long hx hown (mvT hZ (hw _ (List.mem_of_getElem? (i := 8) rfl))) (g := (mkF m 3 #[.val (.long p0), .second, .val (.long p0), .second] [(.long p0)])) rfl (hb hby d2_3) _ ?_
    show Steps p.tables e below (s₁.setTop (mkF m 6 #[.val (.long p0), .second, .val (.long p0), .second] [(.long (2 : Int64)), (.long p0)])) _
    refine XS.lloadN X0.here hx rfl (hb hby d2_6) rfl  ?_
    show Steps p.tables e below (s₁.setTop (mkF m 7 #[.val (.long p0), .second, .val (.long p0), .second] [(.long p0), (.long (2 : Int64)), (.long p0)])) _
    refine XS.lloadN X0.here hx rfl (hb hby d2_7) rfl  ?_
    show Steps p.tables e below (s₁.setTop (mkF m 8 #[.val (.long p0), .second, .val (.long p0), .second] [(.long p0), (.long p0), (.long (2 : Int64)), (.long p0)])) _
    refine XS.lmul X0.here hx rfl (hb hby d2_8) rfl ?_
    show Steps p.tables e below (s₁.setTop (mkF m 9 #[.val (.long p0), .second, .val (.long p0), .second] [(.long (p0 * p0)), (.long (2 : Int64)), (.long p0)])) _
    refine XS.lsub X0.here hx rfl (hb hby d2_9) rfl ?_
    show Steps p.tables e below (s₁.setTop (mkF m 10 #[.val (.long p0), .second, .val (.long p0), .second] [(.long ((2 : Int64) - (p0 * p0))), (.long p0)])) _
    refine XS.lmul X0.here hx rfl (hb hby d2_10) rfl ?_
    show Steps p.tables e below (s₁.setTop (mkF m 11 #[.val (.long p0), .second, .val (.long p0), .second] [(.long (p0 * ((2 : Int64) - (p0 * p0))))])) _
    refine XS.lstoreN X0.here hx rfl (hb hby d2_11) rfl (l' := #[.val (.long p0), .second, .val (.long v2_11), .second]) (by rw [hv2_11]; rfl) ?_
    show Steps p.tables e below (s₁.setTop (mkF m 12 #[.val (.long p0), .second, .val (.long v2_11), .second] [])) _
    refine XS.lloadN X0.here hx rfl (hb hby d2_12) rfl  ?_
    show Steps p.tables e below (s₁.setTop (mkF m 13 #[.val (.long p0), .second, .val (.long v2_11), .second] [(.long v2_11)])) _
    refine X0.ldc2Long hx hown (mvT hZ (hw _ (List.mem_of_getElem? (i := 8) rfl))) (g := (mkF m 13 #[.val (.long p0), .second, .val (.long v2_11), .second] [(.long v2_11)])) rfl (hb hby d2_13) _ ?_
    show Steps p.tables e below (s₁.setTop (mkF m 16 #[.val (.long p0), .second, .val (.long v2_11), .second] [(.long (2 : Int64)), (.long v2_11)])) _
    refine XS.lloadN X0.here hx rfl (hb hby d2_16) rfl  ?_
    show Steps p.tables e below (s₁.setTop (mkF m 17 #[.val (.long p0), .second, .val (.long v2_11), .second] [(.long p0), (.long (2 : Int64)), (.long v2_11)])) _
    refine XS.lloadN X0.here hx rfl (hb hby d2_17) rfl  ?_
    show Steps p.tables e below (s₁.setTop (mkF m 18 #[.val (.long p0), .second, .val (.long v2_11), .second] [(.long v2_11), (.long p0), (.long (2 : Int64)), (.long v2_11)])) _
    refine XS.lmul X0.here hx rfl (hb hby d2_18) rfl ?_
    show Steps p.tables e below (s₁.setTop (mkF m 19 #[.val (.long p0), .second, .val (.long v2_11), .second] [(.long (p0 * v2_11)), (.long (2 : Int64)), (.long v2_11)])) _
    refine XS.lsub X0.here hx rfl (hb hby d2_19) rfl ?_
    show Steps p.tables e below (s₁.setTop (mkF m 20 #[.val (.long p0), .second, .val (.long v2_11), .second] [(.long ((2 : Int64) - (p0 * v2_11))), (.long v2_11)])) _
    refine XS.lmul X0.here hx rfl (hb hby d2_20) rfl ?_
    show Steps p.tables e below (s₁.setTop (mkF m 21 #[.val (.long p0), .second, .val (.long v2_11), .second] [(.long (v2_11 * ((2 : Int64) - (p0 * v2_11))))])) _
    refine XS.lstoreN X0.here hx rfl (hb hby d2_21) rfl (l' := #[.val (.long p0), .second, .val (.long v2_21), .second]) (by rw [hv2_21]; rfl) ?_
    show Steps p.tables e below (s₁.setTop (mkF m 22 #[.val (.long p0), .second, .val (.long v2_21), .second] [])) _
    refine XS.lloadN X0.here hx rfl (hb hby d2_22) rfl  ?_
    show Steps p.tables e below (s₁.setTop (mkF m 23 #[.val (.long p0), .second, .val (.long v2_21), .second] [(.long v2_21)])) _
    refine X0.ldc2Long hx hown (mvT hZ (hw _ (List.mem_of_getElem? (i := 8) rfl))) (g := (mkF m 23 #[.val (.long p0), .second, .val (.long v2_21), .second] [(.long v2_21)])) rfl (hb hby d2_23) _ ?_
    show Steps p.tables e below (s₁.setTop (mkF m 26 #[.val (.long p0), .second, .val (.long v2_21), .second] [(.long (2 : Int64)), (.long v2_21)])) _
    refine XS.lloadN X0.here hx rfl (hb hby d2_26) rfl  ?_
    show Steps p.tables e below (s₁.setTop (mkF m 27 #[.val (.long p0), .second, .val (.long v2_21), .second] [(.long p0), (.long (2 : Int64)), (.long v2_21)])) _
    refine XS.lloadN X0.here hx rfl (hb hby d2_27) rfl  ?_
    show Steps p.tables e below (s₁.setTop (mkF m 28 #[.val (.long p0), .second, .val (.long v2_21), .second] [(.long v2_21), (.long p0), (.long (2 : Int64)), (.long v2_21)])) _
    refine XS.lmul X0.here hx rfl (hb hby d2_28) rfl ?_
    show Steps p.tables e below (s₁.setTop (mkF m 29 #[.val (.long p0), .second, .val (.long v2_21), .second] [(.long (p0 * v2_21)), (.long (2 : Int64)), (.long v2_21)])) _
    refine XS.lsub X0.here hx rfl (hb hby d2_29) rfl ?_
    show Steps p.tables e below (s₁.setTop (mkF m 30 #[.val (.long p0), .second, .val (.long v2_21), .second] [(.long ((2 : Int64) - (p0 * v2_21))), (.long v2_21)])) _
    refine XS.lmul X0.here hx rfl (hb hby d2_30) rfl ?_
    show Steps p.tables e below (s₁.setTop (mkF m 31 #[.val (.long p0), .second, .val (.long v2_21), .second] [(.long (v2_21 * ((2 : Int64) - (p0 * v2_21))))])) _
    refine XS.lstoreN X0.here hx rfl (hb hby d2_31) rfl (l' := #[.val (.long p0), .second, .val (.long v2_31), .second]) (by rw [hv2_31]; rfl) ?_
    show Steps p.tables e below (s₁.setTop (mkF m 32 #[.val (.long p0), .second, .val (.long v2_31), .second] [])) _
    refine XS.lloadN X0.here hx rfl (hb hby d2_32) rfl  ?_
    show Steps p.tables e below (s₁.setTop (mkF m 33 #[.val (.long p0), .second, .val (.long v2_31), .second] [(.long v2_31)])) _
    refine X0.ldc2Long hx hown (mvT hZ (hw _ (List.mem_of_getElem? (i := 8) rfl))) (g := (mkF m 33 #[.val (.long p0), .second, .val (.long v2_31), .second] [(.long v2_31)])) rfl (hb hby d2_33) _ ?_
    show Steps p.tables e below (s₁.setTop (mkF m 36 #[.val (.long p0), .second, .val (.long v2_31), .second] [(.long (2 : Int64)), (.long v2_31)])) _
    refine XS.lloadN X0.here hx rfl (hb hby d2_36) rfl  ?_
    show Steps p.tables e below (s₁.setTop (mkF m 37 #[.val (.long p0), .second, .val (.long v2_31), .second] [(.long p0), (.long (2 : Int64)), (.long v2_31)])) _
    refine XS.lloadN X0.here hx rfl (hb hby d2_37) rfl  ?_
    show Steps p.tables e below (s₁.setTop (mkF m 38 #[.val (.long p0), .second, .val (.long v2_31), .second] [(.long v2_31), (.long p0), (.long (2 : Int64)), (.long v2_31)])) _
    refine XS.lmul X0.here hx rfl (hb hby d2_38) rfl ?_
    show Steps p.tables e below (s₁.setTop (mkF m 39 #[.val (.long p0), .second, .val (.long v2_31), .second] [(.long (p0 * v2_31)), (.long (2 : Int64)), (.long v2_31)])) _
    refine XS.lsub X0.here hx rfl (hb hby d2_39) rfl ?_
    show Steps p.tables e below (s₁.setTop (mkF m 40 #[.val (.long p0), .second, .val (.long v2_31), .second] [(.long ((2 : Int64) - (p0 * v2_31))), (.long v2_31)])) _
    refine XS.lmul X0.here hx rfl (hb hby d2_40) rfl ?_
    show Steps p.tables e below (s₁.setTop (mkF m 41 #[.val (.long p0), .second, .val (.long v2_31), .second] [(.long (v2_31 * ((2 : Int64) - (p0 * v2_31))))])) _
    refine XS.lstoreN X0.here hx rfl (hb hby d2_41) rfl (l' := #[.val (.long p0), .second, .val (.long v2_41), .second]) (by rw [hv2_41]; rfl) ?_
    show Steps p.tables e below (s₁.setTop (mkF m 42 #[.val (.long p0), .second, .val (.long v2_41), .second] [])) _
    refine XS.lloadN X0.here hx rfl (hb hby d2_42) rfl  ?_
    show Steps p.tables e below (s₁.setTop (mkF m 43 #[.val (.long p0), .second, .val (.long v2_41), .second] [(.long v2_41)])) _
    refine X0.ldc2Long hx hown (mvT hZ (hw _ (List.mem_of_getElem? (i := 8) rfl))) (g := (mkF m 43 #[.val (.long p0), .second, .val (.long v2_41), .second] [(.long v2_41)])) rfl (hb hby d2_43) _ ?_
    show Steps p.tables e below (s₁.setTop (mkF m 46 #[.val (.long p0), .second, .val (.long v2_41), .second] [(.long (2 : Int64)), (.long v2_41)])) _
    refine XS.lloadN X0.here hx rfl (hb hby d2_46) rfl  ?_
    show Steps p.tables e below (s₁.setTop (mkF m 47 #[.val (.long p0), .second, .val (.long v2_41), .second] [(.long p0), (.long (2 : Int64)), (.long v2_41)])) _
    refine XS.lloadN X0.here hx rfl (hb hby d2_47) rfl  ?_
    show Steps p.tables e below (s₁.setTop (mkF m 48 #[.val (.long p0), .second, .val (.long v2_41), .second] [(.long v2_41), (.long p0), (.long (2 : Int64)), (.long v2_41)])) _
    refine XS.lmul X0.here hx rfl (hb hby d2_48) rfl ?_
    show Steps p.tables e below (s₁.setTop (mkF m 49 #[.val (.long p0), .second, .val (.long v2_41), .second] [(.long (p0 * v2_41)), (.long (2 : Int64)), (.long v2_41)])) _
    refine XS.lsub X0.here hx rfl (hb hby d2_49) rfl ?_
    show Steps p.tables e below (s₁.setTop (mkF m 50 #[.val (.long p0), .second, .val (.long v2_41), .second] [(.long ((2 : Int64) - (p0 * v2_41))), (.long v2_41)])) _
    refine XS.lmul X0.here hx rfl (hb hby d2_50) rfl ?_
    show Steps p.tables e below (s₁.setTop (mkF m 51 #[.val (.long p0), .second, .val (.long v2_41), .second] [(.long (v2_41 * ((2 : Int64) - (p0 * v2_41))))])) _
    refine XS.lstoreN X0.here hx rfl (hb hby d2_51) rfl (l' := #[.val (.long p0), .second, .val (.long v2_51), .second]) (by rw [hv2_51]; rfl) ?_
    show Steps p.tables e below (s₁.setTop (mkF m 52 #[.val (.long p0), .second, .val (.long v2_51), .second] [])) _
    refine XS.lloadN X0.here hx rfl (hb hby d2_52) rfl  ?_
    show Steps p.tables e below (s₁.setTop (mkF m 53 #[.val (.long p0), .second, .val (.long v2_51), .second] [(.long v2_51)])) _
    exact retOut X0 hx Bd.returns rfl (Or.inr (Or.inl ⟨rfl, rfl, _, rfl⟩)) (hb hby d2_53) hr
  · show Q_2 Z p0 h0 n0 _ s₁.heap _
    rw [e0]
    exact ⟨congrArg (fun z => some (Value.long z)) (by subst hv2_11 hv2_21 hv2_31 hv2_41 hv2_51; rfl : v2_51 = f_2 p0), N0, rfl⟩
theorem pd_0 : parseMethodDescriptor "(J)J" = some ⟨[.long], some .long⟩ := by decide +kernel
theorem d1_0 : decode method_3_code 0 = .ok (.lload_n 0, 1) := by decide +kernel
theorem d1_1 : decode method_3_code 1 = .ok (.lstore_n 2, 1) := by decide +kernel
theorem d1_2 : decode method_3_code 2 = .ok (.lload_n 2, 1) := by decide +kernel
theorem d1_3 : decode method_3_code 3 = .ok (.lload_n 2, 1) := by decide +kernel
theorem d1_4 : decode method_3_code 4 = .ok (.bipush 33, 2) := by decide +kernel
theorem d1_6 : decode method_3_code 6 = .ok (.lushr, 1) := by decide +kernel
theorem d1_7 : decode method_3_code 7 = .ok (.lxor, 1) := by decide +kernel
theorem d1_8 : decode method_3_code 8 = .ok (.lstore_n 2, 1) := by decide +kernel
theorem d1_9 : decode method_3_code 9 = .ok (.lload_n 2, 1) := by decide +kernel
theorem d1_10 : decode method_3_code 10 = .ok (.ldc2_w 9, 3) := by decide +kernel
theorem d1_13 : decode method_3_code 13 = .ok (.invokestatic 11, 3) := by decide +kernel
theorem d1_16 : decode method_3_code 16 = .ok (.lmul, 1) := by decide +kernel
theorem d1_17 : decode method_3_code 17 = .ok (.lstore_n 2, 1) := by decide +kernel
theorem d1_18 : decode method_3_code 18 = .ok (.lload_n 2, 1) := by decide +kernel
theorem d1_19 : decode method_3_code 19 = .ok (.lload_n 2, 1) := by decide +kernel
theorem d1_20 : decode method_3_code 20 = .ok (.bipush 33, 2) := by decide +kernel
theorem d1_22 : decode method_3_code 22 = .ok (.lushr, 1) := by decide +kernel
theorem d1_23 : decode method_3_code 23 = .ok (.lxor, 1) := by decide +kernel
theorem d1_24 : decode method_3_code 24 = .ok (.lstore_n 2, 1) := by decide +kernel
theorem d1_25 : decode method_3_code 25 = .ok (.lload_n 2, 1) := by decide +kernel
theorem d1_26 : decode method_3_code 26 = .ok (.ldc2_w 17, 3) := by decide +kernel
theorem d1_29 : decode method_3_code 29 = .ok (.invokestatic 11, 3) := by decide +kernel
theorem d1_32 : decode method_3_code 32 = .ok (.lmul, 1) := by decide +kernel
theorem d1_33 : decode method_3_code 33 = .ok (.lstore_n 2, 1) := by decide +kernel
theorem d1_34 : decode method_3_code 34 = .ok (.lload_n 2, 1) := by decide +kernel
theorem d1_35 : decode method_3_code 35 = .ok (.lload_n 2, 1) := by decide +kernel
theorem d1_36 : decode method_3_code 36 = .ok (.bipush 33, 2) := by decide +kernel
theorem d1_38 : decode method_3_code 38 = .ok (.lushr, 1) := by decide +kernel
theorem d1_39 : decode method_3_code 39 = .ok (.lxor, 1) := by decide +kernel
theorem d1_40 : decode method_3_code 40 = .ok (.lstore_n 2, 1) := by decide +kernel
theorem d1_41 : decode method_3_code 41 = .ok (.lload_n 2, 1) := by decide +kernel
theorem d1_42 : decode method_3_code 42 = .ok (.lreturn, 1) := by decide +kernel
theorem pn_1 : plainName "com/example/fanoutd/fanoutd/balancer/KeyHashFinishPinLaw" = true := by first | (simp [plainName, overriddenIn]; done) | decide +kernel
theorem ef_1 (m : MethodId) (p0 : Int64) : entryFrame m #[(.long p0)] 4 = mkF m 0 #[.val (.long p0), .second, .unset, .unset] [] := by first | (simp [entryFrame, mkF, argsToLocals, Value.category]; done) | rfl
def f_1 (p0 : Int64) : Int64 := let v2_8 : Int64 := (p0 ^^^ ((p0.toUInt64 >>> ((33 : Int32) &&& 0x3f).toInt64.toUInt64).toInt64)); let v2_17 : Int64 := (v2_8 * (f_2 (-4265267296055464877 : Int64))); let v2_24 : Int64 := (v2_17 ^^^ ((v2_17.toUInt64 >>> ((33 : Int32) &&& 0x3f).toInt64.toUInt64).toInt64)); let v2_33 : Int64 := (v2_24 * (f_2 (-49064778989728563 : Int64))); let v2_40 : Int64 := (v2_33 ^^^ ((v2_33.toUInt64 >>> ((33 : Int32) &&& 0x3f).toInt64.toUInt64).toInt64)); v2_40
def Q_1 (Z : State) (p0 : Int64)  (h0 : Heap) (n0 : Nat) (v : Option Value) (h : Heap) (L : List Loc) : Prop := v = some (.long (f_1 p0)) ∧ Fr n0 L ∧ h = h0
set_option maxRecDepth 65536 in
set_option maxHeartbeats 40000000 in
theorem rm_1 (l : Launch) (Z : State) (a0 : Array Value) (hw : ∀ d ∈ tables_1, d.before a0 Z = true) (ws : List Jvm.Cond) (p0 : Int64)  (h0 : Heap) (n0 : Nat) (Z0 : n0 ≤ h0.size)  :
    MetFree l (⟨"com/example/fanoutd/fanoutd/balancer/KeyHashFinishPinLaw", "unmix", "(J)J"⟩ : MethodName) (head1 (Jvm.Cond.code (⟨"com/example/fanoutd/fanoutd/balancer/KeyHashFinishPinLaw", "unmix", "(J)J"⟩ : MethodName) method_3_code 4 (some .long) :: ws) ({ frames := 1, cells := 0, slots := 0, locals := 17 } : Room)) (fun a U => a = #[(.long p0)] ∧ Z.Warmed39 U.vm ∧ U.heap = h0) (fun _ _ _ _ _ => True) (fun _ U o U' => ∃ v L, o = .returned v ∧ Q_1 Z p0 h0 n0 v U'.heap L ∧ FrameEnd U o U' L ({ frames := 1, cells := 0, slots := 0, locals := 17 } : Room).cells ({ frames := 1, cells := 0, slots := 0, locals := 17 } : Room).slots) := by
  refine MetFree.of_bodySF (plainFor_of_name pn_1) hisR ?_
  intro p e s m args below meth c s₁ Bd hml0 hP hK
  obtain ⟨rfl, hZ, hh⟩ := hP
  have hx := Bd.exec
  have hby := Bd.bytes
  have hml : c.maxLocals = 4 := hml0
  have hown : s.vm.findClass "com/example/fanoutd/fanoutd/balancer/KeyHashFinishPinLaw" = some m.cls := findClass_of_methodNamed Bd.named
  have hnm := (name_of_methodNamed Bd.named Bd.method).1
  have X0 : Stand p l e ({ frames := 1, cells := 0, slots := 0, locals := 17 } : Room) s m #[(.long p0)] below meth c s₁ [] 0 0 := Stand.of_body Bd
  have e0 : s₁.heap = h0 := by rw [← hh, Bd.state]; rfl
  have N0 := Fr.nil n0
  have K0 : Keep h0 h0 [] := Keep.refl h0 _
  have pre0 : ∀ t, Steps p.tables e below (s₁.setTop (mkF m 0 #[.val (.long p0), .second, .unset, .unset] [])) t → Steps p.tables e below (s₁.setTop (entryFrame m #[(.long p0)] 4)) t := fun t k => castTop (ef_1 m p0) k
  obtain ⟨v2_8, hv2_8⟩ : ∃ z : Int64, z = (p0 ^^^ ((p0.toUInt64 >>> ((33 : Int32) &&& 0x3f).toInt64.toUInt64).toInt64)) := ⟨_, rfl⟩
  have pre2 : ∀ t, Steps p.tables e below (s₁.setTop (mkF m 13 #[.val (.long p0), .second, .val (.long v2_8), .second] [(.long (-4265267296055464877 : Int64)), (.long v2_8)])) t → Steps p.tables e below (s₁.setTop (entryFrame m #[(.long p0)] 4)) t := by
    intro t k
    refine pre0 t ?_
    show Steps p.tables e below (s₁.setTop (mkF m 0 #[.val (.long p0), .second, .unset, .unset] [])) _
    refine XS.lloadN X0.here hx rfl (hb hby d1_0) rfl  ?_
    show Steps p.tables e below (s₁.setTop (mkF m 1 #[.val (.long p0), .second, .unset, .unset] [(.long p0)])) _
    refine XS.lstoreN X0.here hx rfl (hb hby d1_1) rfl (l' := #[.val (.long p0), .second, .val (.long p0), .second]) rfl ?_
    show Steps p.tables e below (s₁.setTop (mkF m 2 #[.val (.long p0), .second, .val (.long p0), .second] [])) _
    refine XS.lloadN X0.here hx rfl (hb hby d1_2) rfl  ?_
    show Steps p.tables e below (s₁.setTop (mkF m 3 #[.val (.long p0), .second, .val (.long p0), .second] [(.long p0)])) _
    refine XS.lloadN X0.here hx rfl (hb hby d1_3) rfl  ?_
    show Steps p.tables e below (s₁.setTop (mkF m 4 #[.val (.long p0), .second, .val (.long p0), .second] [(.long p0), (.long p0)])) _
    refine XS.bipush X0.here hx rfl (hb hby d1_4) ?_
    show Steps p.tables e below (s₁.setTop (mkF m 6 #[.val (.long p0), .second, .val (.long p0), .second] [(.int (33 : Int32)), (.long p0), (.long p0)])) _
    refine XS.lushr X0.here hx rfl (hb hby d1_6) rfl ?_
    show Steps p.tables e below (s₁.setTop (mkF m 7 #[.val (.long p0), .second, .val (.long p0), .second] [(.long ((p0.toUInt64 >>> ((33 : Int32) &&& 0x3f).toInt64.toUInt64).toInt64)), (.long p0)])) _
    refine XS.lxor X0.here hx rfl (hb hby d1_7) rfl ?_
    show Steps p.tables e below (s₁.setTop (mkF m 8 #[.val (.long p0), .second, .val (.long p0), .second] [(.long (p0 ^^^ ((p0.toUInt64 >>> ((33 : Int32) &&& 0x3f).toInt64.toUInt64).toInt64)))])) _
    refine XS.lstoreN X0.here hx rfl (hb hby d1_8) rfl (l' := #[.val (.long p0), .second, .val (.long v2_8), .second]) (by rw [hv2_8]; rfl) ?_
    show Steps p.tables e below (s₁.setTop (mkF m 9 #[.val (.long p0), .second, .val (.long v2_8), .second] [])) _
    refine XS.lloadN X0.here hx rfl (hb hby d1_9) rfl  ?_
    show Steps p.tables e below (s₁.setTop (mkF m 10 #[.val (.long p0), .second, .val (.long v2_8), .second] [(.long v2_8)])) _
    refine X0.ldc2Long hx hown (mvT hZ (hw _ (List.mem_of_getElem? (i := 4) rfl))) (g := (mkF m 10 #[.val (.long p0), .second, .val (.long v2_8), .second] [(.long v2_8)])) rfl (hb hby d1_10) _ ?_
    exact k
  obtain ⟨_, _, ⟨T1, L1, k1, n1⟩, -, X1, ⟨Lc1, hQ1, l1, y1, z1⟩, st1⟩ := Jvm.LawKit.callS X0 hx (y := (⟨"com/example/fanoutd/fanoutd/balancer/KeyHashFinishPinLaw", "inverse", "(J)J"⟩ : MethodName)) hown (mvT hZ (hw _ (List.mem_of_getElem? (i := 5) rfl))) (mvT hZ (hw _ (List.mem_of_getElem? (i := 6) rfl))) (mvT hZ (hw _ (List.mem_of_getElem? (i := 2) rfl))) (mvT hZ (hw _ (List.mem_of_getElem? (i := 7) rfl))) (by decide) (backOf (W := 2) (rm_2 l Z a0 hw [] (-4265267296055464877 : Int64) h0 n0 Z0 ) hZ (hw _ (List.mem_of_getElem? (i := 7) rfl)) (hw _ (List.mem_of_getElem? (i := 2) rfl)) (by decide) (by decide)) (g := (mkF m 13 #[.val (.long p0), .second, .val (.long v2_8), .second] [(.long (-4265267296055464877 : Int64)), (.long v2_8)])) rfl (by rw [hml]; rfl) (argsL := [(.long (-4265267296055464877 : Int64))]) (rest := [(.long v2_8)]) (lenOf pd_0 rfl) rfl (by show 2 * 0 + _ ≤ _; exact Nat.le_of_eq rfl) (hb hby d1_13) (fun _ _ => ⟨rfl, e0, (by decide : 0 + 0 ≤ _), (by decide : 0 + 0 ≤ _)⟩)
  dsimp only [Pt.U, Pt.locs, Pt.cells, Pt.slots] at X1 l1 y1 z1 st1 hQ1
  subst l1 y1 z1
  obtain ⟨rfl, N1q, e1⟩ := hQ1
  have N1 := Fr.app N0 N1q
  obtain ⟨v2_17, hv2_17⟩ : ∃ z : Int64, z = (v2_8 * (f_2 (-4265267296055464877 : Int64))) := ⟨_, rfl⟩
  obtain ⟨v2_24, hv2_24⟩ : ∃ z : Int64, z = (v2_17 ^^^ ((v2_17.toUInt64 >>> ((33 : Int32) &&& 0x3f).toInt64.toUInt64).toInt64)) := ⟨_, rfl⟩
  have pre4 : ∀ t, Steps p.tables e below (T1.setTop (mkF m 29 #[.val (.long p0), .second, .val (.long v2_24), .second] [(.long (-49064778989728563 : Int64)), (.long v2_24)])) t → Steps p.tables e below (s₁.setTop (entryFrame m #[(.long p0)] 4)) t := by
    intro t k
    refine pre2 t ?_
    show Steps p.tables e below (s₁.setTop (mkF m 13 #[.val (.long p0), .second, .val (.long v2_8), .second] [(.long (-4265267296055464877 : Int64)), (.long v2_8)])) _
    refine st1 _ ?_
    show Steps p.tables e below (T1.setTop (mkF m 16 #[.val (.long p0), .second, .val (.long v2_8), .second] [(.long (f_2 (-4265267296055464877 : Int64))), (.long v2_8)])) _
    refine XS.lmul X1.here hx rfl (hb hby d1_16) rfl ?_
    show Steps p.tables e below (T1.setTop (mkF m 17 #[.val (.long p0), .second, .val (.long v2_8), .second] [(.long (v2_8 * (f_2 (-4265267296055464877 : Int64))))])) _
    refine XS.lstoreN X1.here hx rfl (hb hby d1_17) rfl (l' := #[.val (.long p0), .second, .val (.long v2_17), .second]) (by rw [hv2_17]; rfl) ?_
    show Steps p.tables e below (T1.setTop (mkF m 18 #[.val (.long p0), .second, .val (.long v2_17), .second] [])) _
    refine XS.lloadN X1.here hx rfl (hb hby d1_18) rfl  ?_
    show Steps p.tables e below (T1.setTop (mkF m 19 #[.val (.long p0), .second, .val (.long v2_17), .second] [(.long v2_17)])) _
    refine XS.lloadN X1.here hx rfl (hb hby d1_19) rfl  ?_
    show Steps p.tables e below (T1.setTop (mkF m 20 #[.val (.long p0), .second, .val (.long v2_17), .second] [(.long v2_17), (.long v2_17)])) _
    refine XS.bipush X1.here hx rfl (hb hby d1_20) ?_
    show Steps p.tables e below (T1.setTop (mkF m 22 #[.val (.long p0), .second, .val (.long v2_17), .second] [(.int (33 : Int32)), (.long v2_17), (.long v2_17)])) _
    refine XS.lushr X1.here hx rfl (hb hby d1_22) rfl ?_
    show Steps p.tables e below (T1.setTop (mkF m 23 #[.val (.long p0), .second, .val (.long v2_17), .second] [(.long ((v2_17.toUInt64 >>> ((33 : Int32) &&& 0x3f).toInt64.toUInt64).toInt64)), (.long v2_17)])) _
    refine XS.lxor X1.here hx rfl (hb hby d1_23) rfl ?_
    show Steps p.tables e below (T1.setTop (mkF m 24 #[.val (.long p0), .second, .val (.long v2_17), .second] [(.long (v2_17 ^^^ ((v2_17.toUInt64 >>> ((33 : Int32) &&& 0x3f).toInt64.toUInt64).toInt64)))])) _
    refine XS.lstoreN X1.here hx rfl (hb hby d1_24) rfl (l' := #[.val (.long p0), .second, .val (.long v2_24), .second]) (by rw [hv2_24]; rfl) ?_
    show Steps p.tables e below (T1.setTop (mkF m 25 #[.val (.long p0), .second, .val (.long v2_24), .second] [])) _
    refine XS.lloadN X1.here hx rfl (hb hby d1_25) rfl  ?_
    show Steps p.tables e below (T1.setTop (mkF m 26 #[.val (.long p0), .second, .val (.long v2_24), .second] [(.long v2_24)])) _
    refine X1.ldc2Long hx hown (mvT hZ (hw _ (List.mem_of_getElem? (i := 9) rfl))) (g := (mkF m 26 #[.val (.long p0), .second, .val (.long v2_24), .second] [(.long v2_24)])) rfl (hb hby d1_26) _ ?_
    exact k
  obtain ⟨_, _, ⟨T3, L3, k3, n3⟩, -, X3, ⟨Lc3, hQ3, l3, y3, z3⟩, st3⟩ := Jvm.LawKit.callS X1 hx (y := (⟨"com/example/fanoutd/fanoutd/balancer/KeyHashFinishPinLaw", "inverse", "(J)J"⟩ : MethodName)) hown (mvT hZ (hw _ (List.mem_of_getElem? (i := 5) rfl))) (mvT hZ (hw _ (List.mem_of_getElem? (i := 6) rfl))) (mvT hZ (hw _ (List.mem_of_getElem? (i := 2) rfl))) (mvT hZ (hw _ (List.mem_of_getElem? (i := 7) rfl))) (by decide) (backOf (W := 2) (rm_2 l Z a0 hw [] (-49064778989728563 : Int64) h0 n0 Z0 ) hZ (hw _ (List.mem_of_getElem? (i := 7) rfl)) (hw _ (List.mem_of_getElem? (i := 2) rfl)) (by decide) (by decide)) (g := (mkF m 29 #[.val (.long p0), .second, .val (.long v2_24), .second] [(.long (-49064778989728563 : Int64)), (.long v2_24)])) rfl (by rw [hml]; rfl) (argsL := [(.long (-49064778989728563 : Int64))]) (rest := [(.long v2_24)]) (lenOf pd_0 rfl) rfl (by show 2 * 0 + _ ≤ _; exact Nat.le_of_eq rfl) (hb hby d1_29) (fun _ _ => ⟨rfl, e1, (by decide : 0 + 0 ≤ _), (by decide : 0 + 0 ≤ _)⟩)
  dsimp only [Pt.U, Pt.locs, Pt.cells, Pt.slots] at X3 l3 y3 z3 st3 hQ3
  subst l3 y3 z3
  obtain ⟨rfl, N3q, e3⟩ := hQ3
  have N3 := Fr.app N1 N3q
  obtain ⟨v2_33, hv2_33⟩ : ∃ z : Int64, z = (v2_24 * (f_2 (-49064778989728563 : Int64))) := ⟨_, rfl⟩
  obtain ⟨v2_40, hv2_40⟩ : ∃ z : Int64, z = (v2_33 ^^^ ((v2_33.toUInt64 >>> ((33 : Int32) &&& 0x3f).toInt64.toUInt64).toInt64)) := ⟨_, rfl⟩
  obtain ⟨fs, hr, hrun, hended, hW, hsame⟩ := X3.leave (v := some (.long v2_40)) (fun h => by rw [Bd.returns] at h; cases h)
  refine ⟨_, _, pre4 _ ?_, hrun, hended, _, _, rfl, ?_, ⟨_, rfl⟩, hW, hsame.mono (by decide) (by decide)⟩
  · show Steps p.tables e below (T1.setTop (mkF m 29 #[.val (.long p0), .second, .val (.long v2_24), .second] [(.long (-49064778989728563 : Int64)), (.long v2_24)])) _
    refine st3 _ ?_
    show Steps p.tables e below (T3.setTop (mkF m 32 #[.val (.long p0), .second, .val (.long v2_24), .second] [(.long (f_2 (-49064778989728563 : Int64))), (.long v2_24)])) _
    refine XS.lmul X3.here hx rfl (hb hby d1_32) rfl ?_
    show Steps p.tables e below (T3.setTop (mkF m 33 #[.val (.long p0), .second, .val (.long v2_24), .second] [(.long (v2_24 * (f_2 (-49064778989728563 : Int64))))])) _
    refine XS.lstoreN X3.here hx rfl (hb hby d1_33) rfl (l' := #[.val (.long p0), .second, .val (.long v2_33), .second]) (by rw [hv2_33]; rfl) ?_
    show Steps p.tables e below (T3.setTop (mkF m 34 #[.val (.long p0), .second, .val (.long v2_33), .second] [])) _
    refine XS.lloadN X3.here hx rfl (hb hby d1_34) rfl  ?_
    show Steps p.tables e below (T3.setTop (mkF m 35 #[.val (.long p0), .second, .val (.long v2_33), .second] [(.long v2_33)])) _
    refine XS.lloadN X3.here hx rfl (hb hby d1_35) rfl  ?_
    show Steps p.tables e below (T3.setTop (mkF m 36 #[.val (.long p0), .second, .val (.long v2_33), .second] [(.long v2_33), (.long v2_33)])) _
    refine XS.bipush X3.here hx rfl (hb hby d1_36) ?_
    show Steps p.tables e below (T3.setTop (mkF m 38 #[.val (.long p0), .second, .val (.long v2_33), .second] [(.int (33 : Int32)), (.long v2_33), (.long v2_33)])) _
    refine XS.lushr X3.here hx rfl (hb hby d1_38) rfl ?_
    show Steps p.tables e below (T3.setTop (mkF m 39 #[.val (.long p0), .second, .val (.long v2_33), .second] [(.long ((v2_33.toUInt64 >>> ((33 : Int32) &&& 0x3f).toInt64.toUInt64).toInt64)), (.long v2_33)])) _
    refine XS.lxor X3.here hx rfl (hb hby d1_39) rfl ?_
    show Steps p.tables e below (T3.setTop (mkF m 40 #[.val (.long p0), .second, .val (.long v2_33), .second] [(.long (v2_33 ^^^ ((v2_33.toUInt64 >>> ((33 : Int32) &&& 0x3f).toInt64.toUInt64).toInt64)))])) _
    refine XS.lstoreN X3.here hx rfl (hb hby d1_40) rfl (l' := #[.val (.long p0), .second, .val (.long v2_40), .second]) (by rw [hv2_40]; rfl) ?_
    show Steps p.tables e below (T3.setTop (mkF m 41 #[.val (.long p0), .second, .val (.long v2_40), .second] [])) _
    refine XS.lloadN X3.here hx rfl (hb hby d1_41) rfl  ?_
    show Steps p.tables e below (T3.setTop (mkF m 42 #[.val (.long p0), .second, .val (.long v2_40), .second] [(.long v2_40)])) _
    exact retOut X3 hx Bd.returns rfl (Or.inr (Or.inl ⟨rfl, rfl, _, rfl⟩)) (hb hby d1_42) hr
  · show Q_1 Z p0 h0 n0 _ T3.heap _
    rw [e3]
    exact ⟨congrArg (fun z => some (Value.long z)) (by subst hv2_8 hv2_17 hv2_24 hv2_33 hv2_40; rfl : v2_40 = f_1 p0), N3, rfl⟩
theorem d3_0 : decode prog_7_method_8_code 0 = .ok (.lload_n 0, 1) := by decide +kernel
theorem d3_1 : decode prog_7_method_8_code 1 = .ok (.lstore_n 2, 1) := by decide +kernel
theorem d3_2 : decode prog_7_method_8_code 2 = .ok (.lload_n 2, 1) := by decide +kernel
theorem d3_3 : decode prog_7_method_8_code 3 = .ok (.lload_n 2, 1) := by decide +kernel
theorem d3_4 : decode prog_7_method_8_code 4 = .ok (.bipush 33, 2) := by decide +kernel
theorem d3_6 : decode prog_7_method_8_code 6 = .ok (.lushr, 1) := by decide +kernel
theorem d3_7 : decode prog_7_method_8_code 7 = .ok (.lxor, 1) := by decide +kernel
theorem d3_8 : decode prog_7_method_8_code 8 = .ok (.lstore_n 2, 1) := by decide +kernel
theorem d3_9 : decode prog_7_method_8_code 9 = .ok (.lload_n 2, 1) := by decide +kernel
theorem d3_10 : decode prog_7_method_8_code 10 = .ok (.ldc2_w 40, 3) := by decide +kernel
theorem d3_13 : decode prog_7_method_8_code 13 = .ok (.lmul, 1) := by decide +kernel
theorem d3_14 : decode prog_7_method_8_code 14 = .ok (.lstore_n 2, 1) := by decide +kernel
theorem d3_15 : decode prog_7_method_8_code 15 = .ok (.lload_n 2, 1) := by decide +kernel
theorem d3_16 : decode prog_7_method_8_code 16 = .ok (.lload_n 2, 1) := by decide +kernel
theorem d3_17 : decode prog_7_method_8_code 17 = .ok (.bipush 33, 2) := by decide +kernel
theorem d3_19 : decode prog_7_method_8_code 19 = .ok (.lushr, 1) := by decide +kernel
theorem d3_20 : decode prog_7_method_8_code 20 = .ok (.lxor, 1) := by decide +kernel
theorem d3_21 : decode prog_7_method_8_code 21 = .ok (.lstore_n 2, 1) := by decide +kernel
theorem d3_22 : decode prog_7_method_8_code 22 = .ok (.lload_n 2, 1) := by decide +kernel
theorem d3_23 : decode prog_7_method_8_code 23 = .ok (.ldc2_w 42, 3) := by decide +kernel
theorem d3_26 : decode prog_7_method_8_code 26 = .ok (.lmul, 1) := by decide +kernel
theorem d3_27 : decode prog_7_method_8_code 27 = .ok (.lstore_n 2, 1) := by decide +kernel
theorem d3_28 : decode prog_7_method_8_code 28 = .ok (.lload_n 2, 1) := by decide +kernel
theorem d3_29 : decode prog_7_method_8_code 29 = .ok (.lload_n 2, 1) := by decide +kernel
theorem d3_30 : decode prog_7_method_8_code 30 = .ok (.bipush 33, 2) := by decide +kernel
theorem d3_32 : decode prog_7_method_8_code 32 = .ok (.lushr, 1) := by decide +kernel
theorem d3_33 : decode prog_7_method_8_code 33 = .ok (.lxor, 1) := by decide +kernel
theorem d3_34 : decode prog_7_method_8_code 34 = .ok (.lstore_n 2, 1) := by decide +kernel
theorem d3_35 : decode prog_7_method_8_code 35 = .ok (.lload_n 2, 1) := by decide +kernel
theorem d3_36 : decode prog_7_method_8_code 36 = .ok (.bipush 32, 2) := by decide +kernel
theorem d3_38 : decode prog_7_method_8_code 38 = .ok (.lushr, 1) := by decide +kernel
theorem d3_39 : decode prog_7_method_8_code 39 = .ok (.l2i, 1) := by decide +kernel
theorem d3_40 : decode prog_7_method_8_code 40 = .ok (.ireturn, 1) := by decide +kernel
theorem pn_3 : plainName "com/example/fanoutd/fanoutd/balancer/KeyHash" = true := by first | (simp [plainName, overriddenIn]; done) | decide +kernel
theorem ef_3 (m : MethodId) (p0 : Int64) : entryFrame m #[(.long p0)] 4 = mkF m 0 #[.val (.long p0), .second, .unset, .unset] [] := by first | (simp [entryFrame, mkF, argsToLocals, Value.category]; done) | rfl
def f_3 (p0 : Int64) : Int32 := let v2_8 : Int64 := (p0 ^^^ ((p0.toUInt64 >>> ((33 : Int32) &&& 0x3f).toInt64.toUInt64).toInt64)); let v2_14 : Int64 := (v2_8 * (-49064778989728563 : Int64)); let v2_21 : Int64 := (v2_14 ^^^ ((v2_14.toUInt64 >>> ((33 : Int32) &&& 0x3f).toInt64.toUInt64).toInt64)); let v2_27 : Int64 := (v2_21 * (-4265267296055464877 : Int64)); let v2_34 : Int64 := (v2_27 ^^^ ((v2_27.toUInt64 >>> ((33 : Int32) &&& 0x3f).toInt64.toUInt64).toInt64)); (((v2_34.toUInt64 >>> ((32 : Int32) &&& 0x3f).toInt64.toUInt64).toInt64).toInt32)
def Q_3 (Z : State) (p0 : Int64)  (h0 : Heap) (n0 : Nat) (v : Option Value) (h : Heap) (L : List Loc) : Prop := v = some (.int (f_3 p0)) ∧ Fr n0 L ∧ h = h0
set_option maxRecDepth 65536 in
set_option maxHeartbeats 40000000 in
theorem rm_3 (l : Launch) (Z : State) (a0 : Array Value) (hw : ∀ d ∈ tables_1, d.before a0 Z = true) (ws : List Jvm.Cond) (p0 : Int64)  (h0 : Heap) (n0 : Nat) (Z0 : n0 ≤ h0.size)  :
    MetFree l (⟨"com/example/fanoutd/fanoutd/balancer/KeyHash", "finish", "(J)I"⟩ : MethodName) (head1 (Jvm.Cond.code (⟨"com/example/fanoutd/fanoutd/balancer/KeyHash", "finish", "(J)I"⟩ : MethodName) prog_7_method_8_code 4 (some .int) :: ws) ({ frames := 0, cells := 0, slots := 0, locals := 0 } : Room)) (fun a U => a = #[(.long p0)] ∧ Z.Warmed39 U.vm ∧ U.heap = h0) (fun _ _ _ _ _ => True) (fun _ U o U' => ∃ v L, o = .returned v ∧ Q_3 Z p0 h0 n0 v U'.heap L ∧ FrameEnd U o U' L ({ frames := 0, cells := 0, slots := 0, locals := 0 } : Room).cells ({ frames := 0, cells := 0, slots := 0, locals := 0 } : Room).slots) := by
  refine MetFree.of_bodySF (plainFor_of_name pn_3) hisR ?_
  intro p e s m args below meth c s₁ Bd hml0 hP hK
  obtain ⟨rfl, hZ, hh⟩ := hP
  have hx := Bd.exec
  have hby := Bd.bytes
  have hml : c.maxLocals = 4 := hml0
  have hown : s.vm.findClass "com/example/fanoutd/fanoutd/balancer/KeyHash" = some m.cls := findClass_of_methodNamed Bd.named
  have hnm := (name_of_methodNamed Bd.named Bd.method).1
  have X0 : Stand p l e ({ frames := 0, cells := 0, slots := 0, locals := 0 } : Room) s m #[(.long p0)] below meth c s₁ [] 0 0 := Stand.of_body Bd
  have e0 : s₁.heap = h0 := by rw [← hh, Bd.state]; rfl
  have N0 := Fr.nil n0
  have K0 : Keep h0 h0 [] := Keep.refl h0 _
  have pre0 : ∀ t, Steps p.tables e below (s₁.setTop (mkF m 0 #[.val (.long p0), .second, .unset, .unset] [])) t → Steps p.tables e below (s₁.setTop (entryFrame m #[(.long p0)] 4)) t := fun t k => castTop (ef_3 m p0) k
  obtain ⟨v2_8, hv2_8⟩ : ∃ z : Int64, z = (p0 ^^^ ((p0.toUInt64 >>> ((33 : Int32) &&& 0x3f).toInt64.toUInt64).toInt64)) := ⟨_, rfl⟩
  obtain ⟨v2_14, hv2_14⟩ : ∃ z : Int64, z = (v2_8 * (-49064778989728563 : Int64)) := ⟨_, rfl⟩
  obtain ⟨v2_21, hv2_21⟩ : ∃ z : Int64, z = (v2_14 ^^^ ((v2_14.toUInt64 >>> ((33 : Int32) &&& 0x3f).toInt64.toUInt64).toInt64)) := ⟨_, rfl⟩
  obtain ⟨v2_27, hv2_27⟩ : ∃ z : Int64, z = (v2_21 * (-4265267296055464877 : Int64)) := ⟨_, rfl⟩
  obtain ⟨v2_34, hv2_34⟩ : ∃ z : Int64, z = (v2_27 ^^^ ((v2_27.toUInt64 >>> ((33 : Int32) &&& 0x3f).toInt64.toUInt64).toInt64)) := ⟨_, rfl⟩
  obtain ⟨fs, hr, hrun, hended, hW, hsame⟩ := X0.leave (v := some (.int (((v2_34.toUInt64 >>> ((32 : Int32) &&& 0x3f).toInt64.toUInt64).toInt64).toInt32))) (fun h => by rw [Bd.returns] at h; cases h)
  refine ⟨_, _, pre0 _ ?_, hrun, hended, _, _, rfl, ?_, ⟨_, rfl⟩, hW, hsame.mono (by decide) (by decide)⟩
  · show Steps p.tables e below (s₁.setTop (mkF m 0 #[.val (.long p0), .second, .unset, .unset] [])) _
    refine XS.lloadN X0.here hx rfl (hb hby d3_0) rfl  ?_
    show Steps p.tables e below (s₁.setTop (mkF m 1 #[.val (.long p0), .second, .unset, .unset] [(.long p0)])) _
    refine XS.lstoreN X0.here hx rfl (hb hby d3_1) rfl (l' := #[.val (.long p0), .second, .val (.long p0), .second]) rfl ?_
    show Steps p.tables e below (s₁.setTop (mkF m 2 #[.val (.long p0), .second, .val (.long p0), .second] [])) _
    refine XS.lloadN X0.here hx rfl (hb hby d3_2) rfl  ?_
    show Steps p.tables e below (s₁.setTop (mkF m 3 #[.val (.long p0), .second, .val (.long p0), .second] [(.long p0)])) _
    refine XS.lloadN X0.here hx rfl (hb hby d3_3) rfl  ?_
    show Steps p.tables e below (s₁.setTop (mkF m 4 #[.val (.long p0), .second, .val (.long p0), .second] [(.long p0), (.long p0)])) _
    refine XS.bipush X0.here hx rfl (hb hby d3_4) ?_
    show Steps p.tables e below (s₁.setTop (mkF m 6 #[.val (.long p0), .second, .val (.long p0), .second] [(.int (33 : Int32)), (.long p0), (.long p0)])) _
    refine XS.lushr X0.here hx rfl (hb hby d3_6) rfl ?_
    show Steps p.tables e below (s₁.setTop (mkF m 7 #[.val (.long p0), .second, .val (.long p0), .second] [(.long ((p0.toUInt64 >>> ((33 : Int32) &&& 0x3f).toInt64.toUInt64).toInt64)), (.long p0)])) _
    refine XS.lxor X0.here hx rfl (hb hby d3_7) rfl ?_
    show Steps p.tables e below (s₁.setTop (mkF m 8 #[.val (.long p0), .second, .val (.long p0), .second] [(.long (p0 ^^^ ((p0.toUInt64 >>> ((33 : Int32) &&& 0x3f).toInt64.toUInt64).toInt64)))])) _
    refine XS.lstoreN X0.here hx rfl (hb hby d3_8) rfl (l' := #[.val (.long p0), .second, .val (.long v2_8), .second]) (by rw [hv2_8]; rfl) ?_
    show Steps p.tables e below (s₁.setTop (mkF m 9 #[.val (.long p0), .second, .val (.long v2_8), .second] [])) _
    refine XS.lloadN X0.here hx rfl (hb hby d3_9) rfl  ?_
    show Steps p.tables e below (s₁.setTop (mkF m 10 #[.val (.long p0), .second, .val (.long v2_8), .second] [(.long v2_8)])) _
    refine X0.ldc2Long hx hown (mvT hZ (hw _ (List.mem_of_getElem? (i := 14) rfl))) (g := (mkF m 10 #[.val (.long p0), .second, .val (.long v2_8), .second] [(.long v2_8)])) rfl (hb hby d3_10) _ ?_
    show Steps p.tables e below (s₁.setTop (mkF m 13 #[.val (.long p0), .second, .val (.long v2_8), .second] [(.long (-49064778989728563 : Int64)), (.long v2_8)])) _
    refine XS.lmul X0.here hx rfl (hb hby d3_13) rfl ?_
    show Steps p.tables e below (s₁.setTop (mkF m 14 #[.val (.long p0), .second, .val (.long v2_8), .second] [(.long (v2_8 * (-49064778989728563 : Int64)))])) _
    refine XS.lstoreN X0.here hx rfl (hb hby d3_14) rfl (l' := #[.val (.long p0), .second, .val (.long v2_14), .second]) (by rw [hv2_14]; rfl) ?_
    show Steps p.tables e below (s₁.setTop (mkF m 15 #[.val (.long p0), .second, .val (.long v2_14), .second] [])) _
    refine XS.lloadN X0.here hx rfl (hb hby d3_15) rfl  ?_
    show Steps p.tables e below (s₁.setTop (mkF m 16 #[.val (.long p0), .second, .val (.long v2_14), .second] [(.long v2_14)])) _
    refine XS.lloadN X0.here hx rfl (hb hby d3_16) rfl  ?_
    show Steps p.tables e below (s₁.setTop (mkF m 17 #[.val (.long p0), .second, .val (.long v2_14), .second] [(.long v2_14), (.long v2_14)])) _
    refine XS.bipush X0.here hx rfl (hb hby d3_17) ?_
    show Steps p.tables e below (s₁.setTop (mkF m 19 #[.val (.long p0), .second, .val (.long v2_14), .second] [(.int (33 : Int32)), (.long v2_14), (.long v2_14)])) _
    refine XS.lushr X0.here hx rfl (hb hby d3_19) rfl ?_
    show Steps p.tables e below (s₁.setTop (mkF m 20 #[.val (.long p0), .second, .val (.long v2_14), .second] [(.long ((v2_14.toUInt64 >>> ((33 : Int32) &&& 0x3f).toInt64.toUInt64).toInt64)), (.long v2_14)])) _
    refine XS.lxor X0.here hx rfl (hb hby d3_20) rfl ?_
    show Steps p.tables e below (s₁.setTop (mkF m 21 #[.val (.long p0), .second, .val (.long v2_14), .second] [(.long (v2_14 ^^^ ((v2_14.toUInt64 >>> ((33 : Int32) &&& 0x3f).toInt64.toUInt64).toInt64)))])) _
    refine XS.lstoreN X0.here hx rfl (hb hby d3_21) rfl (l' := #[.val (.long p0), .second, .val (.long v2_21), .second]) (by rw [hv2_21]; rfl) ?_
    show Steps p.tables e below (s₁.setTop (mkF m 22 #[.val (.long p0), .second, .val (.long v2_21), .second] [])) _
    refine XS.lloadN X0.here hx rfl (hb hby d3_22) rfl  ?_
    show Steps p.tables e below (s₁.setTop (mkF m 23 #[.val (.long p0), .second, .val (.long v2_21), .second] [(.long v2_21)])) _
    refine X0.ldc2Long hx hown (mvT hZ (hw _ (List.mem_of_getElem? (i := 15) rfl))) (g := (mkF m 23 #[.val (.long p0), .second, .val (.long v2_21), .second] [(.long v2_21)])) rfl (hb hby d3_23) _ ?_
    show Steps p.tables e below (s₁.setTop (mkF m 26 #[.val (.long p0), .second, .val (.long v2_21), .second] [(.long (-4265267296055464877 : Int64)), (.long v2_21)])) _
    refine XS.lmul X0.here hx rfl (hb hby d3_26) rfl ?_
    show Steps p.tables e below (s₁.setTop (mkF m 27 #[.val (.long p0), .second, .val (.long v2_21), .second] [(.long (v2_21 * (-4265267296055464877 : Int64)))])) _
    refine XS.lstoreN X0.here hx rfl (hb hby d3_27) rfl (l' := #[.val (.long p0), .second, .val (.long v2_27), .second]) (by rw [hv2_27]; rfl) ?_
    show Steps p.tables e below (s₁.setTop (mkF m 28 #[.val (.long p0), .second, .val (.long v2_27), .second] [])) _
    refine XS.lloadN X0.here hx rfl (hb hby d3_28) rfl  ?_
    show Steps p.tables e below (s₁.setTop (mkF m 29 #[.val (.long p0), .second, .val (.long v2_27), .second] [(.long v2_27)])) _
    refine XS.lloadN X0.here hx rfl (hb hby d3_29) rfl  ?_
    show Steps p.tables e below (s₁.setTop (mkF m 30 #[.val (.long p0), .second, .val (.long v2_27), .second] [(.long v2_27), (.long v2_27)])) _
    refine XS.bipush X0.here hx rfl (hb hby d3_30) ?_
    show Steps p.tables e below (s₁.setTop (mkF m 32 #[.val (.long p0), .second, .val (.long v2_27), .second] [(.int (33 : Int32)), (.long v2_27), (.long v2_27)])) _
    refine XS.lushr X0.here hx rfl (hb hby d3_32) rfl ?_
    show Steps p.tables e below (s₁.setTop (mkF m 33 #[.val (.long p0), .second, .val (.long v2_27), .second] [(.long ((v2_27.toUInt64 >>> ((33 : Int32) &&& 0x3f).toInt64.toUInt64).toInt64)), (.long v2_27)])) _
    refine XS.lxor X0.here hx rfl (hb hby d3_33) rfl ?_
    show Steps p.tables e below (s₁.setTop (mkF m 34 #[.val (.long p0), .second, .val (.long v2_27), .second] [(.long (v2_27 ^^^ ((v2_27.toUInt64 >>> ((33 : Int32) &&& 0x3f).toInt64.toUInt64).toInt64)))])) _
    refine XS.lstoreN X0.here hx rfl (hb hby d3_34) rfl (l' := #[.val (.long p0), .second, .val (.long v2_34), .second]) (by rw [hv2_34]; rfl) ?_
    show Steps p.tables e below (s₁.setTop (mkF m 35 #[.val (.long p0), .second, .val (.long v2_34), .second] [])) _
    refine XS.lloadN X0.here hx rfl (hb hby d3_35) rfl  ?_
    show Steps p.tables e below (s₁.setTop (mkF m 36 #[.val (.long p0), .second, .val (.long v2_34), .second] [(.long v2_34)])) _
    refine XS.bipush X0.here hx rfl (hb hby d3_36) ?_
    show Steps p.tables e below (s₁.setTop (mkF m 38 #[.val (.long p0), .second, .val (.long v2_34), .second] [(.int (32 : Int32)), (.long v2_34)])) _
    refine XS.lushr X0.here hx rfl (hb hby d3_38) rfl ?_
    show Steps p.tables e below (s₁.setTop (mkF m 39 #[.val (.long p0), .second, .val (.long v2_34), .second] [(.long ((v2_34.toUInt64 >>> ((32 : Int32) &&& 0x3f).toInt64.toUInt64).toInt64))])) _
    refine XS.l2i X0.here hx rfl (hb hby d3_39) rfl ?_
    show Steps p.tables e below (s₁.setTop (mkF m 40 #[.val (.long p0), .second, .val (.long v2_34), .second] [(.int (((v2_34.toUInt64 >>> ((32 : Int32) &&& 0x3f).toInt64.toUInt64).toInt64).toInt32))])) _
    exact retI X0 hx Bd.returns (hb hby d3_40) hr
  · show Q_3 Z p0 h0 n0 _ s₁.heap _
    rw [e0]
    exact ⟨congrArg (fun z => some (Value.int z)) (by subst hv2_8 hv2_14 hv2_21 hv2_27 hv2_34; rfl : (((v2_34.toUInt64 >>> ((32 : Int32) &&& 0x3f).toInt64.toUInt64).toInt64).toInt32) = f_3 p0), N0, rfl⟩
theorem pd_1 : parseMethodDescriptor "(J)I" = some ⟨[.long], some .int⟩ := by decide +kernel
theorem pn_0 : plainName "com/example/fanoutd/fanoutd/balancer/KeyHashFinishPinLaw" = true := by first | (simp [plainName, overriddenIn]; done) | decide +kernel
theorem ef_0 (m : MethodId) (p0 : Int64) : entryFrame m #[(.long p0)] maxLocals = mkF m 0 #[.val (.long p0), .second, .unset, .unset, .unset] [] := by first | (simp [entryFrame, mkF, argsToLocals, Value.category, maxLocals]; done) | rfl
def f_0 (p0 : Int64) : Int32 := let v2_4 : Int64 := (f_1 p0); let v4_10 : Int32 := (((p0.toUInt64 >>> ((32 : Int32) &&& 0x3f).toInt64.toUInt64).toInt64).toInt32); let ms0_26 : Int32 := (if (f_3 v2_4) = v4_10 then (1 : Int32) else (0 : Int32)); ms0_26
def Q_0 (Z : State) (p0 : Int64)  (h0 : Heap) (n0 : Nat) (v : Option Value) (h : Heap) (L : List Loc) : Prop := v = some (.int (f_0 p0)) ∧ Fr n0 L ∧ True
set_option maxRecDepth 65536 in
set_option maxHeartbeats 40000000 in
theorem rm_0 (l : Launch) (Z : State) (a0 : Array Value) (hw : ∀ d ∈ tables_1, d.before a0 Z = true) (ws : List Jvm.Cond) (p0 : Int64)  (h0 : Heap) (n0 : Nat) (Z0 : n0 ≤ h0.size)  :
    MetFree l x (head1 (Jvm.Cond.code x code maxLocals ret :: ws) room_1) (fun a U => a = #[(.long p0)] ∧ Z.Warmed39 U.vm ∧ U.heap = h0) (fun _ _ _ _ _ => True) (fun _ U o U' => ∃ v L, o = .returned v ∧ Q_0 Z p0 h0 n0 v U'.heap L ∧ FrameEnd U o U' L 0 0) := by
  refine MetFree.of_bodySF (plainFor_of_name pn_0) hisR ?_
  intro p e s m args below meth c s₁ Bd hml0 hP hK
  obtain ⟨rfl, hZ, hh⟩ := hP
  have hx := Bd.exec
  have hby := Bd.bytes
  have hml : c.maxLocals = 5 := hml0
  have hown : s.vm.findClass "com/example/fanoutd/fanoutd/balancer/KeyHashFinishPinLaw" = some m.cls := findClass_of_methodNamed Bd.named
  have hnm := (name_of_methodNamed Bd.named Bd.method).1
  have X0 : Stand p l e room_1 s m #[(.long p0)] below meth c s₁ [] 0 0 := Stand.of_body Bd
  have e0 : s₁.heap = h0 := by rw [← hh, Bd.state]; rfl
  have N0 := Fr.nil n0
  have K0 : Keep h0 h0 [] := Keep.refl h0 _
  have pre0 : ∀ t, Steps p.tables e below (s₁.setTop (mkF m 0 #[.val (.long p0), .second, .unset, .unset, .unset] [])) t → Steps p.tables e below (s₁.setTop (entryFrame m #[(.long p0)] maxLocals)) t := fun t k => castTop (ef_0 m p0) k
  have pre2 : ∀ t, Steps p.tables e below (s₁.setTop (mkF m 1 #[.val (.long p0), .second, .unset, .unset, .unset] [(.long p0)])) t → Steps p.tables e below (s₁.setTop (entryFrame m #[(.long p0)] maxLocals)) t := by
    intro t k
    refine pre0 t ?_
    show Steps p.tables e below (s₁.setTop (mkF m 0 #[.val (.long p0), .second, .unset, .unset, .unset] [])) _
    refine XS.lloadN X0.here hx rfl (hb hby at_0) rfl  ?_
    exact k
  obtain ⟨_, _, ⟨T1, L1, k1, n1⟩, -, X1, ⟨Lc1, hQ1, l1, y1, z1⟩, st1⟩ := Jvm.LawKit.callS X0 hx (y := (⟨"com/example/fanoutd/fanoutd/balancer/KeyHashFinishPinLaw", "unmix", "(J)J"⟩ : MethodName)) hown (mvT hZ (hw _ (List.mem_of_getElem? (i := 0) rfl))) (mvT hZ (hw _ (List.mem_of_getElem? (i := 1) rfl))) (mvT hZ (hw _ (List.mem_of_getElem? (i := 2) rfl))) (mvT hZ (hw _ (List.mem_of_getElem? (i := 3) rfl))) (by decide) (backOf (W := 0) (rm_1 l Z a0 hw [] p0 h0 n0 Z0 ) hZ (hw _ (List.mem_of_getElem? (i := 3) rfl)) (hw _ (List.mem_of_getElem? (i := 2) rfl)) (by decide) (by decide)) (g := (mkF m 1 #[.val (.long p0), .second, .unset, .unset, .unset] [(.long p0)])) rfl (by rw [hml]; rfl) (argsL := [(.long p0)]) (rest := []) (lenOf pd_0 rfl) rfl (by show 2 * 0 + _ ≤ _; exact Nat.le_of_eq rfl) (hb hby at_1) (fun _ _ => ⟨rfl, e0, (by decide : 0 + 0 ≤ _), (by decide : 0 + 0 ≤ _)⟩)
  dsimp only [Pt.U, Pt.locs, Pt.cells, Pt.slots] at X1 l1 y1 z1 st1 hQ1
  subst l1 y1 z1
  obtain ⟨rfl, N1q, e1⟩ := hQ1
  have N1 := Fr.app N0 N1q
  obtain ⟨v2_4, hv2_4⟩ : ∃ z : Int64, z = (f_1 p0) := ⟨_, rfl⟩
  obtain ⟨v4_10, hv4_10⟩ : ∃ z : Int32, z = (((p0.toUInt64 >>> ((32 : Int32) &&& 0x3f).toInt64.toUInt64).toInt64).toInt32) := ⟨_, rfl⟩
  have pre4 : ∀ t, Steps p.tables e below (T1.setTop (mkF m 13 #[.val (.long p0), .second, .val (.long v2_4), .second, .val (.int v4_10)] [(.long v2_4)])) t → Steps p.tables e below (s₁.setTop (entryFrame m #[(.long p0)] maxLocals)) t := by
    intro t k
    refine pre2 t ?_
    show Steps p.tables e below (s₁.setTop (mkF m 1 #[.val (.long p0), .second, .unset, .unset, .unset] [(.long p0)])) _
    refine st1 _ ?_
    show Steps p.tables e below (T1.setTop (mkF m 4 #[.val (.long p0), .second, .unset, .unset, .unset] [(.long (f_1 p0))])) _
    refine XS.lstoreN X1.here hx rfl (hb hby at_4) rfl (l' := #[.val (.long p0), .second, .val (.long v2_4), .second, .unset]) (by rw [hv2_4]; rfl) ?_
    show Steps p.tables e below (T1.setTop (mkF m 5 #[.val (.long p0), .second, .val (.long v2_4), .second, .unset] [])) _
    refine XS.lloadN X1.here hx rfl (hb hby at_5) rfl  ?_
    show Steps p.tables e below (T1.setTop (mkF m 6 #[.val (.long p0), .second, .val (.long v2_4), .second, .unset] [(.long p0)])) _
    refine XS.bipush X1.here hx rfl (hb hby at_6) ?_
    show Steps p.tables e below (T1.setTop (mkF m 8 #[.val (.long p0), .second, .val (.long v2_4), .second, .unset] [(.int (32 : Int32)), (.long p0)])) _
    refine XS.lushr X1.here hx rfl (hb hby at_8) rfl ?_
    show Steps p.tables e below (T1.setTop (mkF m 9 #[.val (.long p0), .second, .val (.long v2_4), .second, .unset] [(.long ((p0.toUInt64 >>> ((32 : Int32) &&& 0x3f).toInt64.toUInt64).toInt64))])) _
    refine XS.l2i X1.here hx rfl (hb hby at_9) rfl ?_
    show Steps p.tables e below (T1.setTop (mkF m 10 #[.val (.long p0), .second, .val (.long v2_4), .second, .unset] [(.int (((p0.toUInt64 >>> ((32 : Int32) &&& 0x3f).toInt64.toUInt64).toInt64).toInt32))])) _
    refine XS.istore X1.here hx rfl (hb hby at_10) rfl (l' := #[.val (.long p0), .second, .val (.long v2_4), .second, .val (.int v4_10)]) (by rw [hv4_10]; rfl) ?_
    show Steps p.tables e below (T1.setTop (mkF m 12 #[.val (.long p0), .second, .val (.long v2_4), .second, .val (.int v4_10)] [])) _
    refine XS.lloadN X1.here hx rfl (hb hby at_12) rfl  ?_
    exact k
  obtain ⟨_, _, ⟨T3, L3, k3, n3⟩, -, X3, ⟨Lc3, hQ3, l3, y3, z3⟩, st3⟩ := Jvm.LawKit.callS X1 hx (y := (⟨"com/example/fanoutd/fanoutd/balancer/KeyHash", "finish", "(J)I"⟩ : MethodName)) hown (mvT hZ (hw _ (List.mem_of_getElem? (i := 10) rfl))) (mvT hZ (hw _ (List.mem_of_getElem? (i := 11) rfl))) (mvT hZ (hw _ (List.mem_of_getElem? (i := 12) rfl))) (mvT hZ (hw _ (List.mem_of_getElem? (i := 13) rfl))) (by decide) (backOf (W := 0) (rm_3 l Z a0 hw [] v2_4 h0 n0 Z0 ) hZ (hw _ (List.mem_of_getElem? (i := 13) rfl)) (hw _ (List.mem_of_getElem? (i := 12) rfl)) (by decide) (by decide)) (g := (mkF m 13 #[.val (.long p0), .second, .val (.long v2_4), .second, .val (.int v4_10)] [(.long v2_4)])) rfl (by rw [hml]; rfl) (argsL := [(.long v2_4)]) (rest := []) (lenOf pd_1 rfl) rfl (by show 2 * 0 + _ ≤ _; exact Nat.le_of_eq rfl) (hb hby at_13) (fun _ _ => ⟨rfl, e1, (by decide : 0 + 0 ≤ _), (by decide : 0 + 0 ≤ _)⟩)
  dsimp only [Pt.U, Pt.locs, Pt.cells, Pt.slots] at X3 l3 y3 z3 st3 hQ3
  subst l3 y3 z3
  obtain ⟨rfl, N3q, e3⟩ := hQ3
  have N3 := Fr.app N1 N3q
  have pre5 : ∀ t, Steps p.tables e below (T3.setTop (mkF m 18 #[.val (.long p0), .second, .val (.long v2_4), .second, .val (.int v4_10)] [(.int v4_10), (.int (f_3 v2_4))])) t → Steps p.tables e below (s₁.setTop (entryFrame m #[(.long p0)] maxLocals)) t := by
    intro t k
    refine pre4 t ?_
    show Steps p.tables e below (T1.setTop (mkF m 13 #[.val (.long p0), .second, .val (.long v2_4), .second, .val (.int v4_10)] [(.long v2_4)])) _
    refine st3 _ ?_
    show Steps p.tables e below (T3.setTop (mkF m 16 #[.val (.long p0), .second, .val (.long v2_4), .second, .val (.int v4_10)] [(.int (f_3 v2_4))])) _
    refine XS.iload X3.here hx rfl (hb hby at_16) rfl  ?_
    exact k
  obtain ⟨ms0_26, hms0_26⟩ : ∃ z : Int32, z = (if (f_3 v2_4) = v4_10 then (1 : Int32) else (0 : Int32)) := ⟨_, rfl⟩
  have pre6 : ∀ t, Steps p.tables e below (T3.setTop (mkF m 26 #[.val (.long p0), .second, .val (.long v2_4), .second, .val (.int v4_10)] [(.int ms0_26)])) t → Steps p.tables e below (s₁.setTop (entryFrame m #[(.long p0)] maxLocals)) t := by
    intro t k
    refine pre5 t ?_
    by_cases hc18 : (f_3 v2_4) = v4_10
    · show Steps p.tables e below (T3.setTop (mkF m 18 #[.val (.long p0), .second, .val (.long v2_4), .second, .val (.int v4_10)] [(.int v4_10), (.int (f_3 v2_4))])) _
      refine XS.icmpNo X3.here hx rfl (hb hby at_18) rfl (teq hc18).2 ?_
      show Steps p.tables e below (T3.setTop (mkF m 21 #[.val (.long p0), .second, .val (.long v2_4), .second, .val (.int v4_10)] [])) _
      refine XS.iconst X3.here hx rfl (hb hby at_21) ?_
      show Steps p.tables e below (T3.setTop (mkF m 22 #[.val (.long p0), .second, .val (.long v2_4), .second, .val (.int v4_10)] [(.int (1 : Int32))])) _
      refine XS.goto X3.here hx rfl (pc0 := 22) (pc' := 26) rfl (hb hby at_22) (by decide) (by decide) ?_
      have qms0_26 : ms0_26 = (1 : Int32) := by rw [hms0_26, if_pos hc18]
      rw [qms0_26] at k
      exact k
    · show Steps p.tables e below (T3.setTop (mkF m 18 #[.val (.long p0), .second, .val (.long v2_4), .second, .val (.int v4_10)] [(.int v4_10), (.int (f_3 v2_4))])) _
      refine XS.icmpYes X3.here hx rfl (pc0 := 18) (pc' := 25) rfl (hb hby at_18) rfl (feq hc18).2 (by decide) (by decide) ?_
      show Steps p.tables e below (T3.setTop (mkF m 25 #[.val (.long p0), .second, .val (.long v2_4), .second, .val (.int v4_10)] [])) _
      refine XS.iconst X3.here hx rfl (hb hby at_25) ?_
      have qms0_26 : ms0_26 = (0 : Int32) := by rw [hms0_26, if_neg hc18]
      rw [qms0_26] at k
      exact k
  have hnar : nar .boolean ms0_26 = ms0_26 := by rw [hms0_26]; (repeat' split) <;> rfl
  obtain ⟨fs, hr, hrun, hended, hW, hsame⟩ := X3.leave (v := some (.int ms0_26)) (fun h => by rw [Bd.returns] at h; cases h)
  refine ⟨_, _, pre6 _ ?_, hrun, hended, _, _, rfl, ?_, ⟨_, rfl⟩, hW, hsame.mono (by decide) (by decide)⟩
  · show Steps p.tables e below (T3.setTop (mkF m 26 #[.val (.long p0), .second, .val (.long v2_4), .second, .val (.int v4_10)] [(.int ms0_26)])) _
    exact retN X3 hx (t := .boolean) Bd.returns (by simp) (hb hby at_26) (by rw [hnar]; exact hr)
  · show Q_0 Z p0 h0 n0 _ T3.heap _
    rw [e3]
    exact ⟨congrArg (fun z => some (Value.int z)) (by subst hv2_4 hv4_10 hms0_26; rfl : ms0_26 = f_0 p0), N3, trivial⟩
theorem own_xs (x : Int64) : ((x ^^^ ((x.toUInt64 >>> ((33 : Int32) &&& 0x3f).toInt64.toUInt64).toInt64)) ^^^ (((x ^^^ ((x.toUInt64 >>> ((33 : Int32) &&& 0x3f).toInt64.toUInt64).toInt64)).toUInt64 >>> ((33 : Int32) &&& 0x3f).toInt64.toUInt64).toInt64)) = x := by
  have e : ∀ y : Int64, (y ^^^ ((y.toUInt64 >>> ((33 : Int32) &&& 0x3f).toInt64.toUInt64).toInt64)).toBitVec = y.toBitVec ^^^ (y.toBitVec >>> 33) := fun y => rfl
  apply Int64.toBitVec_inj.mp
  rw [e, e]
  generalize x.toBitVec = b
  rw [BitVec.ushiftRight_xor_distrib, ← BitVec.shiftRight_add]
  have z : b >>> (33 + 33) = 0#64 := BitVec.ushiftRight_eq_zero (by decide)
  rw [z, BitVec.xor_zero, BitVec.xor_assoc, BitVec.xor_self, BitVec.xor_zero]
theorem own_i1 (v : Int64) : v * (f_2 (-49064778989728563 : Int64)) * (-49064778989728563 : Int64) = v := by
  rw [Int64.mul_assoc, show f_2 (-49064778989728563 : Int64) * (-49064778989728563 : Int64) = 1 by decide +kernel, Int64.mul_one]
theorem own_i2 (v : Int64) : v * (f_2 (-4265267296055464877 : Int64)) * (-4265267296055464877 : Int64) = v := by
  rw [Int64.mul_assoc, show f_2 (-4265267296055464877 : Int64) * (-4265267296055464877 : Int64) = 1 by decide +kernel, Int64.mul_one]
theorem own_law (p0 : Int64) : f_0 p0 = 1 := by
  have h : f_3 (f_1 p0) = (((p0.toUInt64 >>> ((32 : Int32) &&& 0x3f).toInt64.toUInt64).toInt64).toInt32) := by
    simp only [f_3, f_1, own_xs, own_i1, own_i2]
  simp only [f_0, h, if_true]
set_option maxRecDepth 65536 in
set_option maxHeartbeats 40000000 in
theorem comes_1 {Post : Tables → Env → Array Value → State → Outcome → State → Prop} (hpost : ∀ tb e args s v u, (limb_1_1.after args s (.returned v) u = true ∧ limb_1_2.after args s (.returned v) u = true ∧ True) → FrameEnd s (.returned v) u (Jvm.fieldLocs frame_1_writes args s ++ Jvm.arrayLocs frame_1_arrays args s ++ Jvm.staticLocs frame_1_statics s) 0 0 → Post tb e args s (.returned v) u) :
    ArmFor flags0 classFile x code maxLocals ret World_1 tables_1 room_1 Calls_1 rest_1 Pre_1 Post := by
  intro l hfl _ _ p e ha hc hk s m args below hf hA hF happ hP
  obtain ⟨hcalls, hrest, hpre⟩ := hP
  obtain ⟨-, -, -, hnamed, -, -, -, hat⟩ := (Spec.applies_iff hf).mp happ
  obtain ⟨hg, hn⟩ := and_e (Cond.before_iff.mp (show (Jvm.Cond.and given_1 narrow_1).before args s = true from hpre))
  obtain ⟨g0, gt0⟩ := and_e hg
  obtain ⟨w0, rfl⟩ : ∃ w0 : Value, args = #[w0] := by
    have hs : args.size = 1 := by simpa [Cond.value, given_1] using g0
    obtain ⟨L⟩ := args
    match L, hs with
    | [w0], _ => exact ⟨w0, rfl⟩
  have hw := fun d (hd : d ∈ tables_1) => atoms_spec (ws := Jvm.Cond.code x code maxLocals ret :: tables_1) hat d (List.mem_cons_of_mem _ hd)
  have hfit : Fit s := fun {y c} hc i hi => by
    obtain ⟨ha, rfl⟩ := Array.getElem?_eq_some_iff.mp hc
    have q := List.all_eq_true.mp ((Array.all_eq_true_iff_forall_mem.mp hF) _ (Array.getElem_mem ha)) i (List.mem_range.mpr hi)
    simpa [Array.getElem?_eq_getElem hi] using q
  obtain ⟨i0, ei0⟩ := isL_v gt0
  obtain rfl : w0 = (.long i0) := Option.some.inj ei0
  obtain ⟨n, o, h1, h2, h3, _, L, rfl, ⟨rfl, N⟩, hq⟩ := rm_0 l s _ hw tables_1 i0  s.heap s.heap.size (Nat.le_refl _)  p e ha hc hk s m _ below hf ((Spec.applies_iff_loose hf).mp happ).1 ⟨rfl, State.Warmed39.refl s, rfl⟩ trivial
  refine ⟨n, _, h1, h2, h3, hpost _ _ _ _ _ _ ⟨Cond.after_iff.mpr rfl, Cond.after_iff.mpr (eq_i res_at (Term.int_eval (1)) (congrArg Value.int (own_law _))), trivial⟩ ⟨hq.1, hq.2.1, (hq.2.2.sift fun y hy => Or.inr (N.1 y hy)).mono (by decide) (by decide)⟩⟩
theorem main_1_1 : Claimed_1_1 := comes_1 fun _ _ _ _ _ _ h hF => ⟨h.1, hF⟩
theorem main_1_2 : Claimed_1_2 := comes_1 fun _ _ _ _ _ _ h hF => ⟨h.2.1, hF⟩
end Jvm.Pilot.@@N@@
namespace Jvm.Pilot.@@N@@
open Jvm Jvm.ClassFile Sem Op Lib Jvm.Free Jvm.Stand Jvm.Pilot.@@N@@.Jvm.D
/-! MADE BY PROGRAM (witnessworld.py) out of the Statement's table words and the real class files: 7 classes; the members and pool entries that the words name. The judged class is class 1, her method 3. -/
namespace start1
open Jvm.ClassFile
def u (s : String) : CpInfo := .utf8 (stringToUtf16 s)
/-- a pool by its gaps: so many unusable entries, then the entry; so many at the end -/
def gap : Nat → List CpInfo → List CpInfo
  | 0, r => r
  | n + 1, r => .unusable :: gap n r
def poolList (es : List (Nat × CpInfo)) (last : Nat) : List CpInfo := es.foldr (fun e r => gap e.1 (e.2 :: r)) (gap last [])
def pool (es : List (Nat × CpInfo)) (last : Nat) : Array CpInfo := ⟨poolList es last⟩
def fileOf (pool : Array CpInfo) (this : Nat) (attrs : Array Attribute := #[]) (ms : Array MethodInfo := #[]) (fl : Nat := 33) (sup : Nat := 0) (ifs : Array Nat := #[]) (fds : Array FieldInfo := #[]) : ClassFile where
  minorVersion := 0
  majorVersion := 65
  constantPool := pool
  accessFlags := fl
  thisClass := this
  superClass := sup
  interfaces := ifs
  fields := fds
  methods := ms
  attributes := attrs
def plain (name : String) (sup : Option ClassId) : Class where
  name := name
  kind := .ordinary
  loader := none
  accessFlags := 33
  super := sup
  interfaces := #[]
  cf := none
  fields := #[]
  methods := #[]
  instanceTypes := #[]
  staticTypes := #[]
  resolved := #[]
  callSites := []
  init := .initialized
  statics := none
  mirror := none

def pool0 : Array CpInfo := pool [(5, u "<init>"), (0, u "()V"), (1, .class_ 10), (1, u "java/lang/Object")] 113

def k0m0 : Method := { name := "<init>", desc := "()V", sig := { parameters := [], returnType := none }, accessFlags := 1, code := none }
/-- java/lang/Object -/
def k0 : Class := { plain "java/lang/Object" none with
  accessFlags := 33
  interfaces := #[]
  cf := some (fileOf pool0 8 #[] #[{ accessFlags := 1, nameIndex := 5, descriptorIndex := 6, attributes := #[] }] 33 0 #[] #[])
  fields := #[]
  methods := #[k0m0]
  instanceTypes := #[]
  staticTypes := #[]
  resolved := Array.replicate 124 none
  statics := none }

def pool1 : Array CpInfo := pool [(2, .class_ 4), (1, u "java/lang/Object"), (0, u "<init>"), (0, u "()V"), (0, .long 2), (1, .long 14181476777654086739), (1, .methodref 12 13), (0, .class_ 14), (0, .nameAndType 15 16), (0, u "com/example/fanoutd/fanoutd/balancer/KeyHashFinishPinLaw"), (0, u "inverse"), (0, u "(J)J"), (0, .long 18397679294719823053), (1, .methodref 12 20), (0, .nameAndType 21 16), (0, u "unmix"), (0, .methodref 23 24), (0, .class_ 25), (0, .nameAndType 26 27), (0, u "com/example/fanoutd/fanoutd/balancer/KeyHash"), (0, u "finish"), (0, u "(J)I"), (2, u "law"), (0, u "(J)Z")] 3

def k1m0 : Method := { name := "<init>", desc := "()V", sig := { parameters := [], returnType := none }, accessFlags := 2, code := none }
def k1c1 : Code := { maxStack := 8, maxLocals := 4, code := method_2_code, exceptionTable := #[], attributes := #[] }
def k1m1 : Method := { name := "inverse", desc := "(J)J", sig := { parameters := [.long], returnType := some .long }, accessFlags := 10, code := some k1c1 }
def k1c2 : Code := { maxStack := 5, maxLocals := 4, code := method_3_code, exceptionTable := #[], attributes := #[] }
def k1m2 : Method := { name := "unmix", desc := "(J)J", sig := { parameters := [.long], returnType := some .long }, accessFlags := 10, code := some k1c2 }
def k1c3 : Code := { maxStack := 3, maxLocals := 5, code := code, exceptionTable := #[], attributes := #[] }
def k1m3 : Method := { name := "law", desc := "(J)Z", sig := { parameters := [.long], returnType := some .boolean }, accessFlags := 9, code := some k1c3 }
/-- com/example/fanoutd/fanoutd/balancer/KeyHashFinishPinLaw -/
def k1 : Class := { plain "com/example/fanoutd/fanoutd/balancer/KeyHashFinishPinLaw" (some 0) with
  accessFlags := 49
  interfaces := #[]
  cf := some (fileOf pool1 12 #[] #[{ accessFlags := 2, nameIndex := 5, descriptorIndex := 6, attributes := #[] }, { accessFlags := 10, nameIndex := 15, descriptorIndex := 16, attributes := #[] }, { accessFlags := 10, nameIndex := 21, descriptorIndex := 16, attributes := #[] }, { accessFlags := 9, nameIndex := 30, descriptorIndex := 31, attributes := #[] }] 49 2 #[] #[])
  fields := #[]
  methods := #[k1m0, k1m1, k1m2, k1m3]
  instanceTypes := #[]
  staticTypes := #[]
  resolved := Array.replicate 35 none
  statics := none }

def pool2 : Array CpInfo := pool [(2, .class_ 4), (1, u "java/lang/Object"), (0, u "<init>"), (0, u "()V"), (0, .class_ 8), (0, u "com/example/fanoutd/fanoutd/balancer/KeyHash"), (8, u "finish"), (0, u "(J)I"), (21, .long 18397679294719823053), (1, .long 14181476777654086739), (3, u "FURTHER_CANDIDATES"), (0, u "I"), (2, u "START"), (0, u "J"), (0, u "PRIME")] 12

def k2m0 : Method := { name := "<init>", desc := "()V", sig := { parameters := [], returnType := none }, accessFlags := 2, code := none }
def k2c1 : Code := { maxStack := 5, maxLocals := 4, code := prog_7_method_8_code, exceptionTable := #[], attributes := #[] }
def k2m1 : Method := { name := "finish", desc := "(J)I", sig := { parameters := [.long], returnType := some .int }, accessFlags := 8, code := some k2c1 }
/-- com/example/fanoutd/fanoutd/balancer/KeyHash -/
def k2 : Class := { plain "com/example/fanoutd/fanoutd/balancer/KeyHash" (some 0) with
  accessFlags := 32
  interfaces := #[]
  cf := some (fileOf pool2 7 #[] #[{ accessFlags := 2, nameIndex := 5, descriptorIndex := 6, attributes := #[] }, { accessFlags := 8, nameIndex := 17, descriptorIndex := 18, attributes := #[] }] 32 2 #[] #[{ accessFlags := 24, nameIndex := 46, descriptorIndex := 47, attributes := #[] }, { accessFlags := 24, nameIndex := 50, descriptorIndex := 51, attributes := #[] }, { accessFlags := 26, nameIndex := 52, descriptorIndex := 51, attributes := #[] }])
  fields := #[{ name := "FURTHER_CANDIDATES", type := .int, accessFlags := 24, slot := 0, constantValue := 0 }, { name := "START", type := .long, accessFlags := 24, slot := 1, constantValue := 0 }, { name := "PRIME", type := .long, accessFlags := 26, slot := 2, constantValue := 0 }]
  methods := #[k2m0, k2m1]
  instanceTypes := #[]
  staticTypes := #[.int, .long, .long]
  resolved := Array.replicate 65 none
  statics := none }

def pool3 : Array CpInfo := pool [(1, u "java/lang/Cloneable"), (0, .class_ 1), (0, u "java/lang/Object"), (0, .class_ 3)] 3

/-- java/lang/Cloneable -/
def k3 : Class := { plain "java/lang/Cloneable" (some 0) with
  accessFlags := 1537
  interfaces := #[]
  cf := some (fileOf pool3 2 #[] #[] 1537 4 #[] #[])
  fields := #[]
  methods := #[]
  instanceTypes := #[]
  staticTypes := #[]
  resolved := Array.replicate 8 none
  statics := none }

def pool4 : Array CpInfo := pool [(1, u "java/io/Serializable"), (0, .class_ 1), (0, u "java/lang/Object"), (0, .class_ 3)] 3

/-- java/io/Serializable -/
def k4 : Class := { plain "java/io/Serializable" (some 0) with
  accessFlags := 1537
  interfaces := #[]
  cf := some (fileOf pool4 2 #[] #[] 1537 4 #[] #[])
  fields := #[]
  methods := #[]
  instanceTypes := #[]
  staticTypes := #[]
  resolved := Array.replicate 8 none
  statics := none }

/-- the primitive byte -/
def k5 : Class := { plain "byte" none with kind := .primitive 'B', accessFlags := 0x411 }
/-- [B -/
def k6 : Class := { plain "[B" (some 0) with kind := .array 5 .byte, interfaces := #[3, 4], accessFlags := 1041 }

def heap : Heap := #[]
def classes : Array Class := #[k0, k1, k2, k3, k4, k5, k6]
def interned : List (Array UInt16 × Addr) := []
def slotsUsed : Nat := 0
def theMethod : MethodId := ⟨1, 3⟩
def args0 : Array Value := #[.long 5]
def aboutOver (below : List Frame) : State where
  vm := { classes := classes, interned := interned.toArray }
  heap := heap
  slotsUsed := slotsUsed
  threads := #[{ frames := .invoking theMethod args0 :: below }]
def below0 : List Frame := [.native { method := ⟨0, 0⟩, args := #[] }]
def about1 : State := aboutOver below0
def p0 : Program := .bare "" "" ""
def e0 : Env := launch0.env 0 0 0
theorem w_frames : about1.frames = Frame.invoking theMethod args0 :: below0 := rfl
set_option maxRecDepth 65536 in
theorem w_args : argsFit about1.vm theMethod args0 = true := by decide +kernel
set_option maxRecDepth 65536 in
theorem w_heap : heapFits about1 = true := by decide +kernel
set_option maxRecDepth 65536 in
theorem w_runnable : about1.curStatus? = some .runnable := by decide +kernel
set_option maxRecDepth 65536 in
theorem w_alone : about1.alone = true := by decide +kernel
set_option maxRecDepth 65536 in
theorem w_named : about1.methodNamed? x = some theMethod := by decide +kernel
set_option maxRecDepth 65536 in
theorem w_hears : about1.hears theMethod below0 = true := by decide +kernel
set_option maxRecDepth 65536 in
theorem w_ripe : about1.ripe theMethod args0 below0 = true := by decide +kernel
theorem w_running : about1.status = .running := rfl
set_option maxRecDepth 65536 in
theorem w_room : about1.hasRoom e0.platform room_1 = true :=
  launch0.hasRoom_least _ room_1 (by decide +kernel) (by decide +kernel) (by decide +kernel) (by decide +kernel) (by decide +kernel) (by decide +kernel)
theorem allAtoms_all (ts : List Jvm.Cond) (a : Array Jvm.Value) (st : Jvm.State) : (allAtoms ts).before a st = ts.all (fun c => c.before a st) := by
  induction ts with
  | nil => rfl
  | cons c t ih =>
    show (Jvm.Cond.and c (allAtoms t)).before a st = _
    rw [Jvm.Cond.before_and, ih, List.all_cons]
def words1 : List Jvm.Cond := Jvm.Cond.code x code maxLocals ret :: tables_1
/-- a 'code' word, met by the world's own term for the bytes: nothing is compared byte by byte -/
theorem code_word {y : MethodName} {bytes : ByteArray} {mx : Nat} {rt : Option FieldType} {a : Array Value} {s : State} {m : MethodId} {meth : Method} {c : Code} (h1 : s.methodNamed? y = some m) (h2 : s.vm.method? m = some meth) (h3 : meth.code = some c) (h4 : c.code = bytes)
    (h5 : (c.maxLocals == mx && c.exceptionTable.isEmpty && decide (c.maxStack ≤ mostOperands) && decide (meth.sig.returnType = rt) && !meth.locks && decide (parseMethodDescriptor y.desc = some meth.sig)) = true) : (Jvm.Cond.code y bytes mx rt).before a s = true := by
  simp only [Bool.and_eq_true, beq_iff_eq, Bool.not_eq_true', decide_eq_true_eq] at h5
  obtain ⟨⟨⟨⟨⟨g1, g2⟩, g3⟩, g4⟩, g5⟩, g6⟩ := h5
  simp [Cond.before, Cond.holds, Cond.value, h1, h2, h3, h4, g1, g2, g3, g4, g5, g6]
def isCode : Jvm.Cond → Bool
  | .code _ _ _ _ => true
  | _ => false
theorem all_split {L : List Jvm.Cond} {P : Jvm.Cond → Bool} (h1 : L.all (fun c => isCode c || P c) = true) (h2 : ∀ c ∈ L.filter isCode, P c = true) : L.all P = true := by
  refine List.all_eq_true.mpr fun c hc => ?_
  have h := List.all_eq_true.mp h1 c hc
  rcases Bool.eq_false_or_eq_true (isCode c) with hi | hi
  · exact h2 c (List.mem_filter.mpr ⟨hc, hi⟩)
  · simpa [hi] using h
set_option maxRecDepth 65536 in
theorem w_c0 : (Jvm.Cond.code x code maxLocals ret).before args0 about1 = true := code_word (m := ⟨1, 3⟩) (meth := k1m3) (c := k1c3) (by decide +kernel) rfl rfl rfl (by decide +kernel)
set_option maxRecDepth 65536 in
theorem w_c1 : (Jvm.Cond.code ({ cls := "com/example/fanoutd/fanoutd/balancer/KeyHashFinishPinLaw", name := "unmix", desc := "(J)J" } : Jvm.MethodName) method_3_code (4 : Nat) (Option.some Jvm.ClassFile.FieldType.long)).before args0 about1 = true := code_word (m := ⟨1, 2⟩) (meth := k1m2) (c := k1c2) (by decide +kernel) rfl rfl rfl (by decide +kernel)
set_option maxRecDepth 65536 in
theorem w_c2 : (Jvm.Cond.code ({ cls := "com/example/fanoutd/fanoutd/balancer/KeyHashFinishPinLaw", name := "inverse", desc := "(J)J" } : Jvm.MethodName) method_2_code (4 : Nat) (Option.some Jvm.ClassFile.FieldType.long)).before args0 about1 = true := code_word (m := ⟨1, 1⟩) (meth := k1m1) (c := k1c1) (by decide +kernel) rfl rfl rfl (by decide +kernel)
set_option maxRecDepth 65536 in
theorem w_c3 : (Jvm.Cond.code ({ cls := "com/example/fanoutd/fanoutd/balancer/KeyHash", name := "finish", desc := "(J)I" } : Jvm.MethodName) prog_7_method_8_code (4 : Nat) (Option.some Jvm.ClassFile.FieldType.int)).before args0 about1 = true := code_word (m := ⟨2, 1⟩) (meth := k2m1) (c := k2c1) (by decide +kernel) rfl rfl rfl (by decide +kernel)
def codes1 : List Jvm.Cond := [Jvm.Cond.code x code maxLocals ret, Jvm.Cond.code ({ cls := "com/example/fanoutd/fanoutd/balancer/KeyHashFinishPinLaw", name := "unmix", desc := "(J)J" } : Jvm.MethodName) method_3_code (4 : Nat) (Option.some Jvm.ClassFile.FieldType.long), Jvm.Cond.code ({ cls := "com/example/fanoutd/fanoutd/balancer/KeyHashFinishPinLaw", name := "inverse", desc := "(J)J" } : Jvm.MethodName) method_2_code (4 : Nat) (Option.some Jvm.ClassFile.FieldType.long), Jvm.Cond.code ({ cls := "com/example/fanoutd/fanoutd/balancer/KeyHash", name := "finish", desc := "(J)I" } : Jvm.MethodName) prog_7_method_8_code (4 : Nat) (Option.some Jvm.ClassFile.FieldType.int)]
set_option maxRecDepth 65536 in
theorem codes_eq : words1.filter isCode = codes1 := rfl
theorem w_codes : ∀ c ∈ words1.filter isCode, c.before args0 about1 = true := by
  rw [codes_eq]
  intro c hc
  simp only [codes1, List.mem_cons, List.not_mem_nil, or_false] at hc
  rcases hc with rfl | rfl | rfl | rfl
  · exact w_c0
  · exact w_c1
  · exact w_c2
  · exact w_c3
set_option maxRecDepth 65536 in
theorem w_t1 : words1.all (fun c => isCode c || c.before args0 about1) = true := by decide +kernel
theorem w_tables : (allAtoms (Jvm.Cond.code x code maxLocals ret :: tables_1)).before args0 about1 = true := by
  rw [allAtoms_all]
  show words1.all (fun c => c.before args0 about1) = true
  refine all_split ?_ w_codes
  rw [w_t1]
set_option maxRecDepth 65536 in
theorem w_case : (Jvm.Cond.and given_1 narrow_1).before args0 about1 = true := by decide +kernel
theorem w_applies : (headSpec (Jvm.Cond.code x code maxLocals ret :: tables_1) room_1).applies x e0.platform about1 = true :=
  (Spec.applies_iff w_frames).mpr ⟨w_running, w_runnable, w_alone, w_named, w_hears, w_ripe, w_room, w_tables⟩
theorem atStart : AtStart classFile x code maxLocals ret World_1 tables_1 room_1 Calls_1 rest_1 Pre_1 launch0 p0 e0 about1 theMethod args0 below0 :=
  ⟨lists_1, trivial, launch0.admits_env _ _ _, launch0.least_env, fairChoices_fair.cas, fairChoices_fair.clock, w_frames, w_args, w_heap, w_applies, trivial, trivial, w_case⟩
end start1
theorem witness_1 : WitnessClaimed_1 := ⟨start1.p0, start1.e0, start1.about1, start1.theMethod, start1.args0, start1.below0, start1.atStart⟩
end Jvm.Pilot.@@N@@
