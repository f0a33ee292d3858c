import JvmDerived
import JvmDerived.Pilot.@@N@@Statement
import JvmDerived.Pilot.@@N@@Code
set_option linter.unusedVariables false
set_option linter.unusedSimpArgs false
namespace Jvm.RoadKit
open Sem ClassFile Op Lib Jvm.Stand Jvm.Free Jvm.LawKit
section New
variable {p : Program} {l : Launch} {e : Env} {R : Room} {s : State} {m : MethodId} {args : Array Value} {below : List Frame} {meth : Method} {c : Code} {T : State} {locs : List Loc} {cells slots : Nat}
theorem retI (X : Stand p l e R s m args below meth c T locs cells slots) (hx : p.tables.exec = Jvm.exec) {pc : Nat} {Ls : Array Slot} {z : Int32} {rest : List Value} (hret : meth.sig.returnType = some .int) (hd : decode c.code pc = .ok (.ireturn, 1)) {fs : List Frame}
    (hl : ∀ (f : JFrame) (acts : List Action), f.method = m → f.locked = none → f.entered = [] → (doReturn e (T.setTop f) acts (some (.int z))).1 = T.setFrames fs) : Steps p.tables e below (T.setTop (mkF m pc Ls (.int z :: rest))) (T.setFrames fs) := by
  have hm' : T.vm.method? m = some meth := X.method'
  have hn : narrow .int (.int z) = .int z := rfl
  show Steps p.tables e below (T.setTop { method := m, pc := pc, locals := Ls, stack := _ :: rest, locked := none }) _
  jvm_step X.here [X.here.top, hx, hd, hm', hret, hn]
  first | (intro acts; rw [hl _ acts rfl rfl rfl]) | rw [hl _ _ rfl rfl rfl]
  exact Steps.refl _
theorem own_lremM {g : JFrame} {target : State} (X : Stand p l e R s m args below meth c T locs cells slots) (hx : p.tables.exec = Jvm.exec) (hg : g.method = m) {x y : Int64} {rest : List Value} (hd : decode c.code g.pc = .ok (.lrem, 1)) (hs : g.stack = .long y :: .long x :: rest) (hy : y ≠ 0)
    (hr : Steps p.tables e below (T.setTop { g with pc := g.pc + 1, stack := .long (x % y) :: rest }) target) : Steps p.tables e below (T.setTop g) target := by
  have q : x - x / y * y = x % y := lrem_mod x y
  exact XS.lrem X.here hx hg hd hs hy (by rw [q]; exact hr)
end New
end Jvm.RoadKit
namespace Jvm.RoadKit
open Sem ClassFile Op Lib Jvm.Stand Jvm.Free Jvm.LawKit
section OwnA
variable {p : Program} {l : Launch} {e : Env} {R : Room} {s : State} {m : MethodId} {args : Array Value} {below : List Frame} {meth : Method} {c : Code} {T : State} {locs : List Loc} {cells slots : Nat} {Z : State} {a0 : Array Value} {h h' : Heap} {a b : Addr} {ty : FieldType} {n : Nat} {G : Nat → Value}
def own_upd {α : Type} (g : Nat → α) (k : Nat) (x : α) (i : Nat) : α := if i = k then x else g i
def own_zI (_ : Nat) : Int32 := 0
def own_zJ (_ : Nat) : Int64 := 0
def own_A (Z : State) (h : Heap) (a : Addr) (ty : FieldType) (n : Nat) (G : Nat → Value) : Prop := ∃ c : Cell, Arr Z h a c ty ∧ c.slots.size = n ∧ ∀ i, i < n → c.slots[i]? = some (G i) ∧ fits ty (G i) = true
theorem own_A.lt (F : own_A Z h a ty n G) : a < h.size := by obtain ⟨c, A, -⟩ := F; exact A.lt
theorem own_A.ext (F : own_A Z h a ty n G) (E : Ext h h') : own_A Z h' a ty n G := by obtain ⟨c, A, r⟩ := F; exact ⟨c, A.ext E, r⟩
theorem own_A.other {sl : Nat} {v : Value} (F : own_A Z h b ty n G) (W : Wr h h' a sl v) (q : b ≠ a) : own_A Z h' b ty n G := by obtain ⟨c, A, r⟩ := F; exact ⟨c, A.other W q, r⟩
theorem own_A.keep {ws : List Addr} (F : own_A Z h a ty n G) (K : Keep h h' ws) (q : a ∉ ws) : own_A Z h' a ty n G := by obtain ⟨c, A, r⟩ := F; exact ⟨c, ⟨K.2.1 a c A.1 q, A.2⟩, r⟩
theorem own_A.new {k : ClassId} {z : Int32} (A : Arr Z h a (newA k ty z) ty) (q : z.toNatClampNeg = n) (hG : ∀ i, G i = defaultValue ty) : own_A Z h a ty n G :=
  ⟨_, A, by rw [sz_new, q], fun i hi => ⟨by rw [hG]; rw [← q] at hi; simp [newA, hi], by rw [hG]; cases ty <;> rfl⟩⟩
theorem own_A.set {k : Nat} {v : Value} (F : own_A Z h a ty n G) (W : Wr h h' a k v) (hk : k < n) (hf : fits ty v = true) : own_A Z h' a ty n (own_upd G k v) := by
  obtain ⟨c, A, q, r⟩ := F
  refine ⟨c.setSlot k v, A.same W, by rw [sz_set, q], fun i hi => ?_⟩
  by_cases e : i = k
  · subst e
    exact ⟨by simp [Cell.setSlot, own_upd, q, hk], by simpa [own_upd] using hf⟩
  · have r1 := r i hi
    have r2 : (c.setSlot k v).slots[i]? = c.slots[i]? := Array.getElem?_setIfInBounds_ne (Ne.symm e)
    have r3 : own_upd G k v i = G i := if_neg e
    rw [r2, r3]; exact r1
theorem own_upd_int (g : Nat → Int32) (k : Nat) (x : Int32) : own_upd (fun i => Value.int (g i)) k (.int x) = fun i => Value.int (own_upd g k x i) := by funext i; unfold own_upd; split <;> rfl
theorem own_upd_long (g : Nat → Int64) (k : Nat) (x : Int64) : own_upd (fun i => Value.long (g i)) k (.long x) = fun i => Value.long (own_upd g k x i) := by funext i; unfold own_upd; split <;> rfl
theorem own_inb {c : Cell} {j : Int32} {k : Nat} (q : c.slots.size = n) (hj0 : ¬ j < 0) (hk : j.toNatClampNeg = k) (hkn : k < n) : ¬ (j < 0 ∨ c.slots.size ≤ j.toNatClampNeg) := fun y => y.elim hj0 fun z => by rw [q, hk] at z; exact absurd hkn (Nat.not_lt.mpr z)
theorem own_stI {g0 : Nat → Int32} (X : Stand p l e R s m args below meth c T locs cells slots) (hx : p.tables.exec = Jvm.exec) (hZ : Z.Warmed39 s.vm) (eT : T.heap = h) (F : own_A Z h a .int n (fun i => .int (g0 i))) {j x : Int32} {k : Nat} (hj0 : ¬ j < 0) (hk : j.toNatClampNeg = k) (hkn : k < n) {g : JFrame} (hg : g.method = m) {rest : List Value} (hs : g.stack = .int x :: .int j :: .ref a :: rest) (hd : decode c.code g.pc = .ok (.iastore, 1)) :
    ∃ T' h', Stand p l e R s m args below meth c T' (locs ++ [⟨a, j.toNatClampNeg⟩]) cells slots ∧ T'.heap = h' ∧ Wr h h' a j.toNatClampNeg (.int x) ∧ own_A Z h' a .int n (fun i => .int (own_upd g0 k x i)) ∧ ∀ target, Steps p.tables e below (T'.setTop { g with pc := g.pc + 1, stack := rest }) target → Steps p.tables e below (T.setTop g) target := by
  obtain ⟨cl, A, q, r⟩ := id F
  obtain ⟨T', h', X', e', W, st⟩ := stI X hx hZ eT A (j := j) (x := x) (own_inb q hj0 hk hkn) hg hs hd
  exact ⟨T', h', X', e', W, own_upd_int g0 k x ▸ hk ▸ F.set W (by rw [hk]; exact hkn) rfl, st⟩
theorem own_stJ {g0 : Nat → Int64} (X : Stand p l e R s m args below meth c T locs cells slots) (hx : p.tables.exec = Jvm.exec) (hZ : Z.Warmed39 s.vm) (eT : T.heap = h) (F : own_A Z h a .long n (fun i => .long (g0 i))) {j : Int32} {x : Int64} {k : Nat} (hj0 : ¬ j < 0) (hk : j.toNatClampNeg = k) (hkn : k < n) {g : JFrame} (hg : g.method = m) {rest : List Value} (hs : g.stack = .long x :: .int j :: .ref a :: rest) (hd : decode c.code g.pc = .ok (.lastore, 1)) :
    ∃ T' h', Stand p l e R s m args below meth c T' (locs ++ [⟨a, j.toNatClampNeg⟩]) cells slots ∧ T'.heap = h' ∧ Wr h h' a j.toNatClampNeg (.long x) ∧ own_A Z h' a .long n (fun i => .long (own_upd g0 k x i)) ∧ ∀ target, Steps p.tables e below (T'.setTop { g with pc := g.pc + 1, stack := rest }) target → Steps p.tables e below (T.setTop g) target := by
  obtain ⟨cl, A, q, r⟩ := id F
  obtain ⟨T', h', X', e', W, st⟩ := stJ X hx hZ eT A (j := j) (x := x) (own_inb q hj0 hk hkn) hg hs hd
  exact ⟨T', h', X', e', W, own_upd_long g0 k x ▸ hk ▸ F.set W (by rw [hk]; exact hkn) rfl, st⟩
theorem own_stB {g0 : Nat → Int32} (X : Stand p l e R s m args below meth c T locs cells slots) (hx : p.tables.exec = Jvm.exec) (hZ : Z.Warmed39 s.vm) (eT : T.heap = h) (F : own_A Z h a .byte n (fun i => .int (g0 i))) {j x : Int32} {k : Nat} (hj0 : ¬ j < 0) (hk : j.toNatClampNeg = k) (hkn : k < n) {g : JFrame} (hg : g.method = m) {rest : List Value} (hs : g.stack = .int x :: .int j :: .ref a :: rest) (hd : decode c.code g.pc = .ok (.bastore, 1)) :
    ∃ T' h', Stand p l e R s m args below meth c T' (locs ++ [⟨a, j.toNatClampNeg⟩]) cells slots ∧ T'.heap = h' ∧ Wr h h' a j.toNatClampNeg (.int x.toInt8.toInt32) ∧ own_A Z h' a .byte n (fun i => .int (own_upd g0 k x.toInt8.toInt32 i)) ∧ ∀ target, Steps p.tables e below (T'.setTop { g with pc := g.pc + 1, stack := rest }) target → Steps p.tables e below (T.setTop g) target := by
  obtain ⟨cl, A, q, r⟩ := id F
  obtain ⟨T', h', X', e', W, st⟩ := stB X hx hZ eT A (j := j) (x := x) (own_inb q hj0 hk hkn) hg hs hd
  have hfb : fits .byte (.int (nar .byte x)) = true := fits_nar_byte x
  exact ⟨T', h', X', e', W, own_upd_int g0 k _ ▸ hk ▸ F.set W (by rw [hk]; exact hkn) hfb, st⟩
theorem own_ldI {g0 : Nat → Int32} (X : Stand p l e R s m args below meth c T locs cells slots) (hx : p.tables.exec = Jvm.exec) (hZ : Z.Warmed39 s.vm) (eT : T.heap = h) (F : own_A Z h a .int n (fun i => .int (g0 i))) {j : Int32} {k : Nat} (hj0 : ¬ j < 0) (hk : j.toNatClampNeg = k) (hkn : k < n) {g : JFrame} (hg : g.method = m) {rest : List Value} (hs : g.stack = .int j :: .ref a :: rest) (hd : decode c.code g.pc = .ok (.iaload, 1)) {target : State}
    (hr : Steps p.tables e below (T.setTop { g with pc := g.pc + 1, stack := .int (g0 k) :: rest }) target) : Steps p.tables e below (T.setTop g) target := by
  obtain ⟨cl, A, q, r⟩ := F
  exact X.iaload hx (j := j) (v := .int (g0 k)) (by rw [eT]; exact A.1) (State.isArrayOf_alike hZ.alike A.2.1) A.2.2 (own_inb q hj0 hk hkn) (by rw [hk]; exact (r k hkn).1) hg hs hd _ hr
theorem own_ldJ {g0 : Nat → Int64} (X : Stand p l e R s m args below meth c T locs cells slots) (hx : p.tables.exec = Jvm.exec) (hZ : Z.Warmed39 s.vm) (eT : T.heap = h) (F : own_A Z h a .long n (fun i => .long (g0 i))) {j : Int32} {k : Nat} (hj0 : ¬ j < 0) (hk : j.toNatClampNeg = k) (hkn : k < n) {g : JFrame} (hg : g.method = m) {rest : List Value} (hs : g.stack = .int j :: .ref a :: rest) (hd : decode c.code g.pc = .ok (.laload, 1)) {target : State}
    (hr : Steps p.tables e below (T.setTop { g with pc := g.pc + 1, stack := .long (g0 k) :: rest }) target) : Steps p.tables e below (T.setTop g) target := by
  obtain ⟨cl, A, q, r⟩ := F
  exact X.laload hx (j := j) (v := .long (g0 k)) (by rw [eT]; exact A.1) (State.isArrayOf_alike hZ.alike A.2.1) A.2.2 (own_inb q hj0 hk hkn) (by rw [hk]; exact (r k hkn).1) hg hs hd _ hr
theorem own_ldB {g0 : Nat → Int32} (X : Stand p l e R s m args below meth c T locs cells slots) (hx : p.tables.exec = Jvm.exec) (hZ : Z.Warmed39 s.vm) (eT : T.heap = h) (F : own_A Z h a .byte n (fun i => .int (g0 i))) {j : Int32} {k : Nat} (hj0 : ¬ j < 0) (hk : j.toNatClampNeg = k) (hkn : k < n) {g : JFrame} (hg : g.method = m) {rest : List Value} (hs : g.stack = .int j :: .ref a :: rest) (hd : decode c.code g.pc = .ok (.baload, 1)) {target : State}
    (hr : Steps p.tables e below (T.setTop { g with pc := g.pc + 1, stack := .int (g0 k) :: rest }) target) : Steps p.tables e below (T.setTop g) target := by
  obtain ⟨cl, A, q, r⟩ := F
  exact X.baloadBytes hx (j := j) (v := .int (g0 k)) (by rw [eT]; exact A.1) (State.isArrayOf_alike hZ.alike A.2.1) A.2.2 (own_inb q hj0 hk hkn) (by rw [hk]; exact (r k hkn).1) hg hs hd _ hr
theorem own_ldR {G : Nat → Value} (X : Stand p l e R s m args below meth c T locs cells slots) (hx : p.tables.exec = Jvm.exec) (hZ : Z.Warmed39 s.vm) (eT : T.heap = h) (F : own_A Z h a ty n G) (hty : ty.isReference = true) {j : Int32} {k : Nat} {v : Value} (hv : G k = v) (hj0 : ¬ j < 0) (hk : j.toNatClampNeg = k) (hkn : k < n) {g : JFrame} (hg : g.method = m) {rest : List Value} (hs : g.stack = .int j :: .ref a :: rest) (hd : decode c.code g.pc = .ok (.aaload, 1)) {target : State}
    (hr : Steps p.tables e below (T.setTop { g with pc := g.pc + 1, stack := v :: rest }) target) : Steps p.tables e below (T.setTop g) target := by
  obtain ⟨cl, A, q, r⟩ := F
  exact X.aaload hx (j := j) (v := v) (by rw [eT]; exact A.1) (State.isArrayOf_alike hZ.alike A.2.1) hty A.2.2 (own_inb q hj0 hk hkn) (by rw [hk, ← hv]; exact (r k hkn).1) hg hs hd _ hr
theorem own_len (X : Stand p l e R s m args below meth c T locs cells slots) (hx : p.tables.exec = Jvm.exec) (hZ : Z.Warmed39 s.vm) (eT : T.heap = h) (F : own_A Z h a ty n G) {z : Int32} (hz : n.toInt32 = z) {g : JFrame} (hg : g.method = m) {rest : List Value} (hs : g.stack = .ref a :: rest) (hd : decode c.code g.pc = .ok (.arraylength, 1)) {target : State}
    (hr : Steps p.tables e below (T.setTop { g with pc := g.pc + 1, stack := .int z :: rest }) target) : Steps p.tables e below (T.setTop g) target := by
  obtain ⟨cl, A, q, r⟩ := F
  exact X.arraylength hx (by rw [eT]; exact A.1) (State.isArrayOf_alike hZ.alike A.2.1) hg hs hd _ (by rw [q, hz]; exact hr)
theorem own_newP {aty : ArrayType} (X : Stand p l e R s m args below meth c T locs cells slots) (hx : p.tables.exec = Jvm.exec) (hZ : Z.Warmed39 s.vm) (w : (Cond.arrayClass (newarray.typeOf aty)).before a0 Z = true) (eT : T.heap = h) {g : JFrame} (hg : g.method = m) (hd : decode c.code g.pc = .ok (.newarray aty, 2)) {z : Int32} {rest : List Value} (hs : g.stack = .int z :: rest)
    (hn : ¬ z < 0) (hzn : z.toNatClampNeg = n) {G : Nat → Value} (hG : ∀ i, G i = defaultValue (newarray.typeOf aty)) {cap : Nat} (hcap : n ≤ cap) (hb : cap * 8 ≤ 536870912) (hc : cells + 1 ≤ R.cells) (hl : slots + cap ≤ R.slots) :
    ∃ (T' : State) (h' : Heap) (b : Addr), b = h.size ∧ Stand p l e R s m args below meth c T' locs (cells + 1) (slots + cap) ∧ T'.heap = h' ∧ Ext h h' ∧ own_A Z h' b (newarray.typeOf aty) n G ∧
      ∀ target, Steps p.tables e below (T'.setTop { g with pc := g.pc + 2, stack := .ref b :: rest }) target → Steps p.tables e below (T.setTop g) target := by
  obtain ⟨T', h', cA, X', e', E', A', st⟩ := newP X hx hZ w eT hg hd hs hn (cap := cap) (by rw [hzn]; exact hcap) hb hc hl
  exact ⟨T', h', _, rfl, X', e', E', own_A.new A' hzn hG, st⟩
theorem own_newPE {aty : ArrayType} (X : Stand p l e R s m args below meth c T locs cells slots) (hx : p.tables.exec = Jvm.exec) (hZ : Z.Warmed39 s.vm) (w : (Cond.arrayClass (newarray.typeOf aty)).before a0 Z = true) (eT : T.heap = h) {g : JFrame} (hg : g.method = m) (hd : decode c.code g.pc = .ok (.newarray aty, 2)) {z : Int32} {rest : List Value} (hs : g.stack = .int z :: rest)
    (hn : ¬ z < 0) (hzn : z.toNatClampNeg = n) {G : Nat → Value} (hG : ∀ i, G i = defaultValue (newarray.typeOf aty)) {cap : Nat} (hcap : n ≤ cap) (hb : cap * 8 ≤ 536870912) (hc : cells + 1 ≤ R.cells) (hl : slots + cap ≤ R.slots) {ad : String} (had : "[" ++ (newarray.typeOf aty).toString = ad) :
    ∃ (T' : State) (h' : Heap) (b : Addr), b = h.size ∧ Stand p l e R s m args below meth c T' locs (cells + 1) (slots + cap) ∧ T'.heap = h' ∧ Ext h h' ∧ own_A Z h' b (newarray.typeOf aty) n G ∧ Exa Z h' b ad ∧
      ∀ target, Steps p.tables e below (T'.setTop { g with pc := g.pc + 2, stack := .ref b :: rest }) target → Steps p.tables e below (T.setTop g) target := by
  obtain ⟨T', h', cA, X', e', E', A', B', st⟩ := newPE X hx hZ w eT hg hd hs hn (cap := cap) (by rw [hzn]; exact hcap) hb hc hl had
  exact ⟨T', h', _, rfl, X', e', E', own_A.new A' hzn hG, B', st⟩
theorem own_clone (X : Stand p l e R s m args below meth c T locs cells slots) (hx : p.tables.exec = Jvm.exec) (hZ : Z.Warmed39 s.vm) {own ad : String} {index : Nat} (hown : s.vm.findClass own = some m.cls)
    (w1 : (Cond.methodLink own index ⟨ad, "clone", "()Ljava/lang/Object;"⟩).before a0 Z = true) (w2 : (Cond.sameMethod ad "java/lang/Object" "clone" "()Ljava/lang/Object;").before a0 Z = true) (w3 : (Cond.native ⟨"java/lang/Object", "clone", "()Ljava/lang/Object;"⟩).before a0 Z = true)
    (w4 : (Cond.instanceMethod ⟨"java/lang/Object", "clone", "()Ljava/lang/Object;"⟩).before a0 Z = true) (w5 : (Cond.selects ad ⟨ad, "clone", "()Ljava/lang/Object;"⟩ ⟨"java/lang/Object", "clone", "()Ljava/lang/Object;"⟩).before a0 Z = true) (w6 : (Cond.castable ad "java/lang/Cloneable").before a0 Z = true)
    (eT : T.heap = h) (F : own_A Z h a ty n G) (E : Exa Z h a ad) {g : JFrame} (hg : g.method = m) (hsize : g.locals.size = c.maxLocals) {rest : List Value} (hs : g.stack = .ref a :: rest) (hd : decode c.code g.pc = .ok (.invokevirtual index, 3))
    (hf : 1 ≤ R.frames) {W cap : Nat} (hW : 2 * g.monitorRoom + (rest.map fun v => v.category).sum ≤ W) (hl : W + 14 ≤ R.locals) (hcap : n ≤ cap) (hc : cells + 1 ≤ R.cells) (hsl : slots + cap ≤ R.slots) :
    ∃ (T' : State) (h' : Heap) (b : Addr), b = h.size ∧ Stand p l e R s m args below meth c T' locs (cells + 1) (slots + cap) ∧ T'.heap = h' ∧ Ext h h' ∧ own_A Z h' b ty n G ∧ Exa Z h' b ad ∧
      ∀ target, Steps p.tables e below (T'.setTop { g with pc := g.pc + 3, stack := .ref b :: rest }) target → Steps p.tables e below (T.setTop g) target := by
  obtain ⟨cl, A, q, r⟩ := F
  have FC : FitC Z cl := fitC_of A fun i hi v hv => by
    have r1 := r i (by rw [← q]; exact hi)
    rw [r1.1] at hv; cases hv; exact r1.2
  obtain ⟨T', h', X', e', ex, A', E', st⟩ := cloneA X hx hZ hown w1 w2 w3 w4 w5 w6 eT A E FC hg hsize hs hd hf hW hl (by rw [q]; exact hcap) hc hsl
  exact ⟨T', h', _, rfl, X', e', ex, ⟨cloneOf cl, A', q, r⟩, E', st⟩
theorem own_A.congr {G' : Nat → Value} (F : own_A Z h a ty n G) (q : ∀ i, i < n → G i = G' i) : own_A Z h a ty n G' := by
  obtain ⟨c, A, s, r⟩ := F
  exact ⟨c, A, s, fun i hi => by rw [← q i hi]; exact r i hi⟩
theorem own_A_plain (F : own_A Z h a ty n G) : ∀ c : Cell, h[a]? = some c → c.vm.isStatics = false := fun c hc => by
  obtain ⟨cl, A, -⟩ := F
  cases hc.symm.trans A.1
  exact A.plain
theorem own_E_plain {C : String} (F : Exa Z h a C) : ∀ c : Cell, h[a]? = some c → c.vm.isStatics = false := fun c hc => by
  obtain ⟨cl, k, h1, -, -, h4, -⟩ := F
  cases hc.symm.trans h1
  exact h4
theorem own_sta_keep {C f d : String} {v : Value} {ws : List Addr} (F : Sta Z h C f d v) (K : Keep h h' ws) (q : ∀ x ∈ ws, ∀ c : Cell, h[x]? = some c → c.vm.isStatics = false) : Sta Z h' C f d v := by
  obtain ⟨cf, i, k, f, st, cell, h1, h2, h3, h4, h5, h6, h7⟩ := F
  exact ⟨cf, i, k, f, st, cell, h1, h2, h3, h4, K.2.1 st cell h5 (fun z => by rw [q st z cell h5] at h6; cases h6), h6, h7⟩
end OwnA
end Jvm.RoadKit
namespace Jvm.Pilot.@@N@@
open Jvm Jvm.ClassFile Sem Op Lib Jvm.Free Jvm.Stand Jvm.LawKit Jvm.RoadKit Bundle Jvm.Pilot.@@N@@.Jvm.D
theorem own_blt {j n : Int32} {k : Nat} (h : j < n) (hj : j.toInt = k) : k < n.toNatClampNeg := by
  rw [Int32.lt_iff_toInt_lt] at h
  have n1 : ¬ n < 0 := by rw [Int32.lt_iff_toInt_lt]; have l0 : (0 : Int32).toInt = 0 := by decide
                          omega
  have n2 := nat_of n1
  omega
theorem own_bp {n : Int32} (h : 0 < n.toInt) : ¬ n < 0 := by
  rw [Int32.lt_iff_toInt_lt]; have l0 : (0 : Int32).toInt = 0 := by decide
  omega
theorem own_b0 {n : Int32} (h : 0 < n.toInt) : 0 < n.toNatClampNeg := by
  have n2 := nat_of (own_bp h)
  omega
theorem own_b8 {n : Int32} (h : 0 < n.toInt ∧ n.toInt ≤ 8) : n.toNatClampNeg ≤ 8 := by
  have n2 := nat_of (own_bp h.1)
  omega
theorem d1_0 : decode method_2_code 0 = .ok (.iload_n 0, 1) := by decide +kernel
theorem d1_1 : decode method_2_code 1 = .ok (.newarray .long, 2) := by decide +kernel
theorem d1_3 : decode method_2_code 3 = .ok (.astore_n 3, 1) := by decide +kernel
theorem d1_4 : decode method_2_code 4 = .ok (.aload_n 3, 1) := by decide +kernel
theorem d1_5 : decode method_2_code 5 = .ok (.iconst 0, 1) := by decide +kernel
theorem d1_6 : decode method_2_code 6 = .ok (.lload_n 1, 1) := by decide +kernel
theorem d1_7 : decode method_2_code 7 = .ok (.lastore, 1) := by decide +kernel
theorem d1_8 : decode method_2_code 8 = .ok (.iload_n 0, 1) := by decide +kernel
theorem d1_9 : decode method_2_code 9 = .ok (.iconst 1, 1) := by decide +kernel
theorem d1_10 : decode method_2_code 10 = .ok (.if_icmp .le 9, 3) := by decide +kernel
theorem d1_13 : decode method_2_code 13 = .ok (.aload_n 3, 1) := by decide +kernel
theorem d1_14 : decode method_2_code 14 = .ok (.iconst 1, 1) := by decide +kernel
theorem d1_15 : decode method_2_code 15 = .ok (.lload_n 1, 1) := by decide +kernel
theorem d1_16 : decode method_2_code 16 = .ok (.lconst 1, 1) := by decide +kernel
theorem d1_17 : decode method_2_code 17 = .ok (.ladd, 1) := by decide +kernel
theorem d1_18 : decode method_2_code 18 = .ok (.lastore, 1) := by decide +kernel
theorem d1_19 : decode method_2_code 19 = .ok (.iload_n 0, 1) := by decide +kernel
theorem d1_20 : decode method_2_code 20 = .ok (.iconst 2, 1) := by decide +kernel
theorem d1_21 : decode method_2_code 21 = .ok (.if_icmp .le 11, 3) := by decide +kernel
theorem d1_24 : decode method_2_code 24 = .ok (.aload_n 3, 1) := by decide +kernel
theorem d1_25 : decode method_2_code 25 = .ok (.iconst 2, 1) := by decide +kernel
theorem d1_26 : decode method_2_code 26 = .ok (.lload_n 1, 1) := by decide +kernel
theorem d1_27 : decode method_2_code 27 = .ok (.ldc2_w 7, 3) := by decide +kernel
theorem d1_30 : decode method_2_code 30 = .ok (.ladd, 1) := by decide +kernel
theorem d1_31 : decode method_2_code 31 = .ok (.lastore, 1) := by decide +kernel
theorem d1_32 : decode method_2_code 32 = .ok (.iload_n 0, 1) := by decide +kernel
theorem d1_33 : decode method_2_code 33 = .ok (.iconst 3, 1) := by decide +kernel
theorem d1_34 : decode method_2_code 34 = .ok (.if_icmp .le 11, 3) := by decide +kernel
theorem d1_37 : decode method_2_code 37 = .ok (.aload_n 3, 1) := by decide +kernel
theorem d1_38 : decode method_2_code 38 = .ok (.iconst 3, 1) := by decide +kernel
theorem d1_39 : decode method_2_code 39 = .ok (.lload_n 1, 1) := by decide +kernel
theorem d1_40 : decode method_2_code 40 = .ok (.ldc2_w 9, 3) := by decide +kernel
theorem d1_43 : decode method_2_code 43 = .ok (.ladd, 1) := by decide +kernel
theorem d1_44 : decode method_2_code 44 = .ok (.lastore, 1) := by decide +kernel
theorem d1_45 : decode method_2_code 45 = .ok (.iload_n 0, 1) := by decide +kernel
theorem d1_46 : decode method_2_code 46 = .ok (.iconst 4, 1) := by decide +kernel
theorem d1_47 : decode method_2_code 47 = .ok (.if_icmp .le 11, 3) := by decide +kernel
theorem d1_50 : decode method_2_code 50 = .ok (.aload_n 3, 1) := by decide +kernel
theorem d1_51 : decode method_2_code 51 = .ok (.iconst 4, 1) := by decide +kernel
theorem d1_52 : decode method_2_code 52 = .ok (.lload_n 1, 1) := by decide +kernel
theorem d1_53 : decode method_2_code 53 = .ok (.ldc2_w 11, 3) := by decide +kernel
theorem d1_56 : decode method_2_code 56 = .ok (.ladd, 1) := by decide +kernel
theorem d1_57 : decode method_2_code 57 = .ok (.lastore, 1) := by decide +kernel
theorem d1_58 : decode method_2_code 58 = .ok (.iload_n 0, 1) := by decide +kernel
theorem d1_59 : decode method_2_code 59 = .ok (.iconst 5, 1) := by decide +kernel
theorem d1_60 : decode method_2_code 60 = .ok (.if_icmp .le 11, 3) := by decide +kernel
theorem d1_63 : decode method_2_code 63 = .ok (.aload_n 3, 1) := by decide +kernel
theorem d1_64 : decode method_2_code 64 = .ok (.iconst 5, 1) := by decide +kernel
theorem d1_65 : decode method_2_code 65 = .ok (.lload_n 1, 1) := by decide +kernel
theorem d1_66 : decode method_2_code 66 = .ok (.ldc2_w 13, 3) := by decide +kernel
theorem d1_69 : decode method_2_code 69 = .ok (.ladd, 1) := by decide +kernel
theorem d1_70 : decode method_2_code 70 = .ok (.lastore, 1) := by decide +kernel
theorem d1_71 : decode method_2_code 71 = .ok (.iload_n 0, 1) := by decide +kernel
theorem d1_72 : decode method_2_code 72 = .ok (.bipush 6, 2) := by decide +kernel
theorem d1_74 : decode method_2_code 74 = .ok (.if_icmp .le 12, 3) := by decide +kernel
theorem d1_77 : decode method_2_code 77 = .ok (.aload_n 3, 1) := by decide +kernel
theorem d1_78 : decode method_2_code 78 = .ok (.bipush 6, 2) := by decide +kernel
theorem d1_80 : decode method_2_code 80 = .ok (.lload_n 1, 1) := by decide +kernel
theorem d1_81 : decode method_2_code 81 = .ok (.ldc2_w 15, 3) := by decide +kernel
theorem d1_84 : decode method_2_code 84 = .ok (.ladd, 1) := by decide +kernel
theorem d1_85 : decode method_2_code 85 = .ok (.lastore, 1) := by decide +kernel
theorem d1_86 : decode method_2_code 86 = .ok (.iload_n 0, 1) := by decide +kernel
theorem d1_87 : decode method_2_code 87 = .ok (.bipush 7, 2) := by decide +kernel
theorem d1_89 : decode method_2_code 89 = .ok (.if_icmp .le 12, 3) := by decide +kernel
theorem d1_92 : decode method_2_code 92 = .ok (.aload_n 3, 1) := by decide +kernel
theorem d1_93 : decode method_2_code 93 = .ok (.bipush 7, 2) := by decide +kernel
theorem d1_95 : decode method_2_code 95 = .ok (.lload_n 1, 1) := by decide +kernel
theorem d1_96 : decode method_2_code 96 = .ok (.ldc2_w 17, 3) := by decide +kernel
theorem d1_99 : decode method_2_code 99 = .ok (.ladd, 1) := by decide +kernel
theorem d1_100 : decode method_2_code 100 = .ok (.lastore, 1) := by decide +kernel
theorem d1_101 : decode method_2_code 101 = .ok (.aload_n 3, 1) := by decide +kernel
theorem d1_102 : decode method_2_code 102 = .ok (.areturn, 1) := by decide +kernel
theorem pn_1 : plainName "com/example/sequeue/sequeue/bench/FiguresPercentilePinLaw" = true := by first | (simp [plainName, overriddenIn]; done) | decide +kernel
theorem ef_1 (m : MethodId) (p0 : Int32) (p1 : Int64) : entryFrame m #[(.int p0), (.long p1)] 4 = mkF m 0 #[.val (.int p0), .val (.long p1), .second, .unset] [] := by first | (simp [entryFrame, mkF, argsToLocals, Value.category]; done) | rfl
def f_1_1 (p0 : Int32) (p1 : Int64) : Nat → Int64 := let g_7 : Nat → Int64 := (own_upd own_zJ 0 p1); let mg_b2_19 : Nat → Int64 := (if (1 : Int32) < p0 then (own_upd g_7 1 (p1 + (1 : Int64))) else g_7); let mg_b2_32 : Nat → Int64 := (if (2 : Int32) < p0 then (own_upd mg_b2_19 2 (p1 + (2 : Int64))) else mg_b2_19); let mg_b2_45 : Nat → Int64 := (if (3 : Int32) < p0 then (own_upd mg_b2_32 3 (p1 + (3 : Int64))) else mg_b2_32); let mg_b2_58 : Nat → Int64 := (if (4 : Int32) < p0 then (own_upd mg_b2_45 4 (p1 + (4 : Int64))) else mg_b2_45); let mg_b2_71 : Nat → Int64 := (if (5 : Int32) < p0 then (own_upd mg_b2_58 5 (p1 + (5 : Int64))) else mg_b2_58); let mg_b2_86 : Nat → Int64 := (if (6 : Int32) < p0 then (own_upd mg_b2_71 6 (p1 + (6 : Int64))) else mg_b2_71); let mg_b2_101 : Nat → Int64 := (if (7 : Int32) < p0 then (own_upd mg_b2_86 7 (p1 + (7 : Int64))) else mg_b2_86); mg_b2_101
def Q_1 (Z : State) (p0 : Int32) (p1 : Int64)  (h0 : Heap) (n0 : Nat) (v : Option Value) (h : Heap) (L : List Loc) : Prop := ∃ r : Addr, v = some (.ref r) ∧ Fr n0 L ∧ h0.size ≤ r ∧ Keep h0 h [] ∧ own_A Z h r .long p0.toNatClampNeg (fun i => .long ((f_1_1 p0 p1) i))
set_option maxRecDepth 65536 in
set_option maxHeartbeats 40000000 in
theorem rm_1 (l : Launch) (Z : State) (a0 : Array Value) (hw : ∀ d ∈ tables_1, d.before a0 Z = true) (ws : List Jvm.Cond) (p0 : Int32) (p1 : Int64)  (h0 : Heap) (n0 : Nat) (Z0 : n0 ≤ h0.size) (hp : 0 < p0.toInt ∧ p0.toInt ≤ 8) :
    MetFree l (⟨"com/example/sequeue/sequeue/bench/FiguresPercentilePinLaw", "build", "(IJ)[J"⟩ : MethodName) (head1 (Jvm.Cond.code (⟨"com/example/sequeue/sequeue/bench/FiguresPercentilePinLaw", "build", "(IJ)[J"⟩ : MethodName) method_2_code 4 (some (.array .long)) :: ws) ({ frames := 0, cells := 1, slots := 8, locals := 0 } : Room)) (fun a U => a = #[(.int p0), (.long p1)] ∧ Z.Warmed39 U.vm ∧ U.heap = h0) (fun _ _ _ _ _ => True) (fun _ U o U' => ∃ v L, o = .returned v ∧ Q_1 Z p0 p1 h0 n0 v U'.heap L ∧ FrameEnd U o U' L ({ frames := 0, cells := 1, slots := 8, locals := 0 } : Room).cells ({ frames := 0, cells := 1, slots := 8, locals := 0 } : Room).slots) := by
  refine MetFree.of_bodySF (plainFor_of_name pn_1) hisR ?_
  intro p e s m args below meth c s₁ Bd hml0 hP hK
  obtain ⟨rfl, hZ, hh⟩ := hP
  have hx := Bd.exec
  have hby := Bd.bytes
  have hml : c.maxLocals = 4 := hml0
  have hown : s.vm.findClass "com/example/sequeue/sequeue/bench/FiguresPercentilePinLaw" = some m.cls := findClass_of_methodNamed Bd.named
  have hnm := (name_of_methodNamed Bd.named Bd.method).1
  have X0 : Stand p l e ({ frames := 0, cells := 1, slots := 8, locals := 0 } : Room) s m #[(.int p0), (.long p1)] below meth c s₁ [] 0 0 := Stand.of_body Bd
  have e0 : s₁.heap = h0 := by rw [← hh, Bd.state]; rfl
  have N0 := Fr.nil n0
  have K0 : Keep h0 h0 [] := Keep.refl h0 _
  have pre0 : ∀ t, Steps p.tables e below (s₁.setTop (mkF m 0 #[.val (.int p0), .val (.long p1), .second, .unset] [])) t → Steps p.tables e below (s₁.setTop (entryFrame m #[(.int p0), (.long p1)] 4)) t := fun t k => castTop (ef_1 m p0 p1) k
  have pre1 : ∀ t, Steps p.tables e below (s₁.setTop (mkF m 1 #[.val (.int p0), .val (.long p1), .second, .unset] [(.int p0)])) t → Steps p.tables e below (s₁.setTop (entryFrame m #[(.int p0), (.long p1)] 4)) t := by
    intro t k
    refine pre0 t ?_
    show Steps p.tables e below (s₁.setTop (mkF m 0 #[.val (.int p0), .val (.long p1), .second, .unset] [])) _
    refine XS.iloadN X0.here hx rfl (hb hby d1_0) rfl  ?_
    exact k
  obtain ⟨T2, h2, b2, gb2, X2, e2, E2, A2, st2⟩ := own_newP X0 hx hZ (hw _ (List.mem_of_getElem? (i := 5) rfl)) e0 (g := (mkF m 1 #[.val (.int p0), .val (.long p1), .second, .unset] [(.int p0)])) rfl (hb hby d1_1) rfl (own_bp hp.1) (n := p0.toNatClampNeg) rfl (G := fun i => .long (own_zJ i)) (fun _ => rfl) (cap := 8) (own_b8 hp) (by decide) (by decide) (by decide)
  have sz_b2 : h0.size ≤ b2 := Nat.le_trans K0.1 (Nat.le_of_eq gb2.symm)
  have ge_b2 : n0 ≤ b2 := Nat.le_trans Z0 (Nat.le_of_eq gb2.symm)
  have K2 := K0.ext E2
  have Z2 := Nat.le_trans Z0 E2.1
  have pre3 : ∀ t, Steps p.tables e below (T2.setTop (mkF m 7 #[.val (.int p0), .val (.long p1), .second, .val (.ref b2)] [(.long p1), (.int (0 : Int32)), (.ref b2)])) t → Steps p.tables e below (s₁.setTop (entryFrame m #[(.int p0), (.long p1)] 4)) t := by
    intro t k
    refine pre1 t ?_
    show Steps p.tables e below (s₁.setTop (mkF m 1 #[.val (.int p0), .val (.long p1), .second, .unset] [(.int p0)])) _
    refine st2 _ ?_
    show Steps p.tables e below (T2.setTop (mkF m 3 #[.val (.int p0), .val (.long p1), .second, .unset] [(.ref b2)])) _
    refine XS.astoreN X2.here hx rfl (hb hby d1_3) rfl rfl (l' := #[.val (.int p0), .val (.long p1), .second, .val (.ref b2)]) rfl ?_
    show Steps p.tables e below (T2.setTop (mkF m 4 #[.val (.int p0), .val (.long p1), .second, .val (.ref b2)] [])) _
    refine XS.aloadN X2.here hx rfl (hb hby d1_4) rfl rfl ?_
    show Steps p.tables e below (T2.setTop (mkF m 5 #[.val (.int p0), .val (.long p1), .second, .val (.ref b2)] [(.ref b2)])) _
    refine XS.iconst X2.here hx rfl (hb hby d1_5) ?_
    show Steps p.tables e below (T2.setTop (mkF m 6 #[.val (.int p0), .val (.long p1), .second, .val (.ref b2)] [(.int (0 : Int32)), (.ref b2)])) _
    refine XS.lloadN X2.here hx rfl (hb hby d1_6) rfl  ?_
    exact k
  obtain ⟨T4, h4, X4, e4, W4, A4, st4⟩ := own_stJ X2 hx hZ e2 A2 (j := (0 : Int32)) (x := p1) (k := 0) (by decide) (by decide) (own_b0 hp.1) (g := (mkF m 7 #[.val (.int p0), .val (.long p1), .second, .val (.ref b2)] [(.long p1), (.int (0 : Int32)), (.ref b2)])) rfl rfl (hb hby d1_7)
  obtain ⟨g_7, hg_7⟩ : ∃ z : Nat → Int64, z = (own_upd own_zJ 0 p1) := ⟨_, rfl⟩
  rw [← hg_7] at A4
  have K4 := K2.wr W4 (Or.inr sz_b2)
  have Z4 := Nat.le_trans Z2 (Nat.le_of_eq W4.size.symm)
  have N4 := Fr.snoc X4 N0 ge_b2
  have pre5 : ∀ t, Steps p.tables e below (T4.setTop (mkF m 10 #[.val (.int p0), .val (.long p1), .second, .val (.ref b2)] [(.int (1 : Int32)), (.int p0)])) t → Steps p.tables e below (s₁.setTop (entryFrame m #[(.int p0), (.long p1)] 4)) t := by
    intro t k
    refine pre3 t ?_
    show Steps p.tables e below (T2.setTop (mkF m 7 #[.val (.int p0), .val (.long p1), .second, .val (.ref b2)] [(.long p1), (.int (0 : Int32)), (.ref b2)])) _
    refine st4 _ ?_
    show Steps p.tables e below (T4.setTop (mkF m 8 #[.val (.int p0), .val (.long p1), .second, .val (.ref b2)] [])) _
    refine XS.iloadN X4.here hx rfl (hb hby d1_8) rfl  ?_
    show Steps p.tables e below (T4.setTop (mkF m 9 #[.val (.int p0), .val (.long p1), .second, .val (.ref b2)] [(.int p0)])) _
    refine XS.iconst X4.here hx rfl (hb hby d1_9) ?_
    exact k
  obtain ⟨mg_b2_19, hmg_b2_19⟩ : ∃ z : Nat → Int64, z = (if (1 : Int32) < p0 then (own_upd g_7 1 (p1 + (1 : Int64))) else g_7) := ⟨_, rfl⟩
  obtain ⟨T6, h6, lc6, X6, e6, N6, K6, Z6, arr_b2_6, pre6⟩ : ∃ (T' : State) (h' : Heap) (lc : List Loc), Stand p l e ({ frames := 0, cells := 1, slots := 8, locals := 0 } : Room) s m #[(.int p0), (.long p1)] below meth c T' lc 1 8 ∧ T'.heap = h' ∧ Fr n0 lc ∧ Keep h0 h' [] ∧ n0 ≤ h'.size ∧ own_A Z h' b2 .long p0.toNatClampNeg (fun i => .long (mg_b2_19 i)) ∧ (∀ t, Steps p.tables e below (T'.setTop (mkF m 19 #[.val (.int p0), .val (.long p1), .second, .val (.ref b2)] [])) t → Steps p.tables e below (s₁.setTop (entryFrame m #[(.int p0), (.long p1)] 4)) t) := by
    by_cases hc10 : (1 : Int32) < p0
    · have pre7 : ∀ t, Steps p.tables e below (T4.setTop (mkF m 18 #[.val (.int p0), .val (.long p1), .second, .val (.ref b2)] [(.long (p1 + (1 : Int64))), (.int (1 : Int32)), (.ref b2)])) t → Steps p.tables e below (s₁.setTop (entryFrame m #[(.int p0), (.long p1)] 4)) t := by
        intro t k
        refine pre5 t ?_
        show Steps p.tables e below (T4.setTop (mkF m 10 #[.val (.int p0), .val (.long p1), .second, .val (.ref b2)] [(.int (1 : Int32)), (.int p0)])) _
        refine XS.icmpNo X4.here hx rfl (hb hby d1_10) rfl (tlt hc10).2.2.2 ?_
        show Steps p.tables e below (T4.setTop (mkF m 13 #[.val (.int p0), .val (.long p1), .second, .val (.ref b2)] [])) _
        refine XS.aloadN X4.here hx rfl (hb hby d1_13) rfl rfl ?_
        show Steps p.tables e below (T4.setTop (mkF m 14 #[.val (.int p0), .val (.long p1), .second, .val (.ref b2)] [(.ref b2)])) _
        refine XS.iconst X4.here hx rfl (hb hby d1_14) ?_
        show Steps p.tables e below (T4.setTop (mkF m 15 #[.val (.int p0), .val (.long p1), .second, .val (.ref b2)] [(.int (1 : Int32)), (.ref b2)])) _
        refine XS.lloadN X4.here hx rfl (hb hby d1_15) rfl  ?_
        show Steps p.tables e below (T4.setTop (mkF m 16 #[.val (.int p0), .val (.long p1), .second, .val (.ref b2)] [(.long p1), (.int (1 : Int32)), (.ref b2)])) _
        refine XS.lconst X4.here hx rfl (hb hby d1_16) ?_
        show Steps p.tables e below (T4.setTop (mkF m 17 #[.val (.int p0), .val (.long p1), .second, .val (.ref b2)] [(.long (1 : Int64)), (.long p1), (.int (1 : Int32)), (.ref b2)])) _
        refine XS.ladd X4.here hx rfl (hb hby d1_17) rfl ?_
        exact k
      obtain ⟨T8, h8, X8, e8, W8, A8, st8⟩ := own_stJ X4 hx hZ e4 A4 (j := (1 : Int32)) (x := (p1 + (1 : Int64))) (k := 1) (by decide) (by decide) (own_blt hc10 (by decide)) (g := (mkF m 18 #[.val (.int p0), .val (.long p1), .second, .val (.ref b2)] [(.long (p1 + (1 : Int64))), (.int (1 : Int32)), (.ref b2)])) rfl rfl (hb hby d1_18)
      have K8 := K4.wr W8 (Or.inr sz_b2)
      have Z8 := Nat.le_trans Z4 (Nat.le_of_eq W8.size.symm)
      have N8 := Fr.snoc X8 N4 ge_b2
      have pre9 : ∀ t, Steps p.tables e below (T8.setTop (mkF m 19 #[.val (.int p0), .val (.long p1), .second, .val (.ref b2)] [])) t → Steps p.tables e below (s₁.setTop (entryFrame m #[(.int p0), (.long p1)] 4)) t := by
        intro t k
        refine pre7 t ?_
        show Steps p.tables e below (T4.setTop (mkF m 18 #[.val (.int p0), .val (.long p1), .second, .val (.ref b2)] [(.long (p1 + (1 : Int64))), (.int (1 : Int32)), (.ref b2)])) _
        refine st8 _ ?_
        exact k
      have qmg_b2_19 : mg_b2_19 = (own_upd g_7 1 (p1 + (1 : Int64))) := by rw [hmg_b2_19, if_pos hc10]
      exact ⟨T8, h8, _, X8, e8, N8, K8, Z8, (by (try rw [qmg_b2_19]); exact A8), (by (try rw [qmg_b2_19]); exact pre9)⟩
    · have pre10 : ∀ t, Steps p.tables e below (T4.setTop (mkF m 19 #[.val (.int p0), .val (.long p1), .second, .val (.ref b2)] [])) t → Steps p.tables e below (s₁.setTop (entryFrame m #[(.int p0), (.long p1)] 4)) t := by
        intro t k
        refine pre5 t ?_
        show Steps p.tables e below (T4.setTop (mkF m 10 #[.val (.int p0), .val (.long p1), .second, .val (.ref b2)] [(.int (1 : Int32)), (.int p0)])) _
        refine XS.icmpYes X4.here hx rfl (pc0 := 10) (pc' := 19) rfl (hb hby d1_10) rfl (flt hc10).2.2.2 (by decide) (by decide) ?_
        exact k
      have qmg_b2_19 : mg_b2_19 = g_7 := by rw [hmg_b2_19, if_neg hc10]
      exact ⟨T4, h4, _, X4, e4, N4, K4, Z4, (by (try rw [qmg_b2_19]); exact A4), (by (try rw [qmg_b2_19]); exact pre10)⟩
  have pre11 : ∀ t, Steps p.tables e below (T6.setTop (mkF m 21 #[.val (.int p0), .val (.long p1), .second, .val (.ref b2)] [(.int (2 : Int32)), (.int p0)])) t → Steps p.tables e below (s₁.setTop (entryFrame m #[(.int p0), (.long p1)] 4)) t := by
    intro t k
    refine pre6 t ?_
    show Steps p.tables e below (T6.setTop (mkF m 19 #[.val (.int p0), .val (.long p1), .second, .val (.ref b2)] [])) _
    refine XS.iloadN X6.here hx rfl (hb hby d1_19) rfl  ?_
    show Steps p.tables e below (T6.setTop (mkF m 20 #[.val (.int p0), .val (.long p1), .second, .val (.ref b2)] [(.int p0)])) _
    refine XS.iconst X6.here hx rfl (hb hby d1_20) ?_
    exact k
  obtain ⟨mg_b2_32, hmg_b2_32⟩ : ∃ z : Nat → Int64, z = (if (2 : Int32) < p0 then (own_upd mg_b2_19 2 (p1 + (2 : Int64))) else mg_b2_19) := ⟨_, rfl⟩
  obtain ⟨T12, h12, lc12, X12, e12, N12, K12, Z12, arr_b2_12, pre12⟩ : ∃ (T' : State) (h' : Heap) (lc : List Loc), Stand p l e ({ frames := 0, cells := 1, slots := 8, locals := 0 } : Room) s m #[(.int p0), (.long p1)] below meth c T' lc 1 8 ∧ T'.heap = h' ∧ Fr n0 lc ∧ Keep h0 h' [] ∧ n0 ≤ h'.size ∧ own_A Z h' b2 .long p0.toNatClampNeg (fun i => .long (mg_b2_32 i)) ∧ (∀ t, Steps p.tables e below (T'.setTop (mkF m 32 #[.val (.int p0), .val (.long p1), .second, .val (.ref b2)] [])) t → Steps p.tables e below (s₁.setTop (entryFrame m #[(.int p0), (.long p1)] 4)) t) := by
    by_cases hc21 : (2 : Int32) < p0
    · have pre13 : ∀ t, Steps p.tables e below (T6.setTop (mkF m 31 #[.val (.int p0), .val (.long p1), .second, .val (.ref b2)] [(.long (p1 + (2 : Int64))), (.int (2 : Int32)), (.ref b2)])) t → Steps p.tables e below (s₁.setTop (entryFrame m #[(.int p0), (.long p1)] 4)) t := by
        intro t k
        refine pre11 t ?_
        show Steps p.tables e below (T6.setTop (mkF m 21 #[.val (.int p0), .val (.long p1), .second, .val (.ref b2)] [(.int (2 : Int32)), (.int p0)])) _
        refine XS.icmpNo X6.here hx rfl (hb hby d1_21) rfl (tlt hc21).2.2.2 ?_
        show Steps p.tables e below (T6.setTop (mkF m 24 #[.val (.int p0), .val (.long p1), .second, .val (.ref b2)] [])) _
        refine XS.aloadN X6.here hx rfl (hb hby d1_24) rfl rfl ?_
        show Steps p.tables e below (T6.setTop (mkF m 25 #[.val (.int p0), .val (.long p1), .second, .val (.ref b2)] [(.ref b2)])) _
        refine XS.iconst X6.here hx rfl (hb hby d1_25) ?_
        show Steps p.tables e below (T6.setTop (mkF m 26 #[.val (.int p0), .val (.long p1), .second, .val (.ref b2)] [(.int (2 : Int32)), (.ref b2)])) _
        refine XS.lloadN X6.here hx rfl (hb hby d1_26) rfl  ?_
        show Steps p.tables e below (T6.setTop (mkF m 27 #[.val (.int p0), .val (.long p1), .second, .val (.ref b2)] [(.long p1), (.int (2 : Int32)), (.ref b2)])) _
        refine X6.ldc2Long hx hown (mvT hZ (hw _ (List.mem_of_getElem? (i := 13) rfl))) (g := (mkF m 27 #[.val (.int p0), .val (.long p1), .second, .val (.ref b2)] [(.long p1), (.int (2 : Int32)), (.ref b2)])) rfl (hb hby d1_27) _ ?_
        show Steps p.tables e below (T6.setTop (mkF m 30 #[.val (.int p0), .val (.long p1), .second, .val (.ref b2)] [(.long (2 : Int64)), (.long p1), (.int (2 : Int32)), (.ref b2)])) _
        refine XS.ladd X6.here hx rfl (hb hby d1_30) rfl ?_
        exact k
      obtain ⟨T14, h14, X14, e14, W14, A14, st14⟩ := own_stJ X6 hx hZ e6 arr_b2_6 (j := (2 : Int32)) (x := (p1 + (2 : Int64))) (k := 2) (by decide) (by decide) (own_blt hc21 (by decide)) (g := (mkF m 31 #[.val (.int p0), .val (.long p1), .second, .val (.ref b2)] [(.long (p1 + (2 : Int64))), (.int (2 : Int32)), (.ref b2)])) rfl rfl (hb hby d1_31)
      have K14 := K6.wr W14 (Or.inr sz_b2)
      have Z14 := Nat.le_trans Z6 (Nat.le_of_eq W14.size.symm)
      have N14 := Fr.snoc X14 N6 ge_b2
      have pre15 : ∀ t, Steps p.tables e below (T14.setTop (mkF m 32 #[.val (.int p0), .val (.long p1), .second, .val (.ref b2)] [])) t → Steps p.tables e below (s₁.setTop (entryFrame m #[(.int p0), (.long p1)] 4)) t := by
        intro t k
        refine pre13 t ?_
        show Steps p.tables e below (T6.setTop (mkF m 31 #[.val (.int p0), .val (.long p1), .second, .val (.ref b2)] [(.long (p1 + (2 : Int64))), (.int (2 : Int32)), (.ref b2)])) _
        refine st14 _ ?_
        exact k
      have qmg_b2_32 : mg_b2_32 = (own_upd mg_b2_19 2 (p1 + (2 : Int64))) := by rw [hmg_b2_32, if_pos hc21]
      exact ⟨T14, h14, _, X14, e14, N14, K14, Z14, (by (try rw [qmg_b2_32]); exact A14), (by (try rw [qmg_b2_32]); exact pre15)⟩
    · have pre16 : ∀ t, Steps p.tables e below (T6.setTop (mkF m 32 #[.val (.int p0), .val (.long p1), .second, .val (.ref b2)] [])) t → Steps p.tables e below (s₁.setTop (entryFrame m #[(.int p0), (.long p1)] 4)) t := by
        intro t k
        refine pre11 t ?_
        show Steps p.tables e below (T6.setTop (mkF m 21 #[.val (.int p0), .val (.long p1), .second, .val (.ref b2)] [(.int (2 : Int32)), (.int p0)])) _
        refine XS.icmpYes X6.here hx rfl (pc0 := 21) (pc' := 32) rfl (hb hby d1_21) rfl (flt hc21).2.2.2 (by decide) (by decide) ?_
        exact k
      have qmg_b2_32 : mg_b2_32 = mg_b2_19 := by rw [hmg_b2_32, if_neg hc21]
      exact ⟨T6, h6, _, X6, e6, N6, K6, Z6, (by (try rw [qmg_b2_32]); exact arr_b2_6), (by (try rw [qmg_b2_32]); exact pre16)⟩
  have pre17 : ∀ t, Steps p.tables e below (T12.setTop (mkF m 34 #[.val (.int p0), .val (.long p1), .second, .val (.ref b2)] [(.int (3 : Int32)), (.int p0)])) t → Steps p.tables e below (s₁.setTop (entryFrame m #[(.int p0), (.long p1)] 4)) t := by
    intro t k
    refine pre12 t ?_
    show Steps p.tables e below (T12.setTop (mkF m 32 #[.val (.int p0), .val (.long p1), .second, .val (.ref b2)] [])) _
    refine XS.iloadN X12.here hx rfl (hb hby d1_32) rfl  ?_
    show Steps p.tables e below (T12.setTop (mkF m 33 #[.val (.int p0), .val (.long p1), .second, .val (.ref b2)] [(.int p0)])) _
    refine XS.iconst X12.here hx rfl (hb hby d1_33) ?_
    exact k
  obtain ⟨mg_b2_45, hmg_b2_45⟩ : ∃ z : Nat → Int64, z = (if (3 : Int32) < p0 then (own_upd mg_b2_32 3 (p1 + (3 : Int64))) else mg_b2_32) := ⟨_, rfl⟩
  obtain ⟨T18, h18, lc18, X18, e18, N18, K18, Z18, arr_b2_18, pre18⟩ : ∃ (T' : State) (h' : Heap) (lc : List Loc), Stand p l e ({ frames := 0, cells := 1, slots := 8, locals := 0 } : Room) s m #[(.int p0), (.long p1)] below meth c T' lc 1 8 ∧ T'.heap = h' ∧ Fr n0 lc ∧ Keep h0 h' [] ∧ n0 ≤ h'.size ∧ own_A Z h' b2 .long p0.toNatClampNeg (fun i => .long (mg_b2_45 i)) ∧ (∀ t, Steps p.tables e below (T'.setTop (mkF m 45 #[.val (.int p0), .val (.long p1), .second, .val (.ref b2)] [])) t → Steps p.tables e below (s₁.setTop (entryFrame m #[(.int p0), (.long p1)] 4)) t) := by
    by_cases hc34 : (3 : Int32) < p0
    · have pre19 : ∀ t, Steps p.tables e below (T12.setTop (mkF m 44 #[.val (.int p0), .val (.long p1), .second, .val (.ref b2)] [(.long (p1 + (3 : Int64))), (.int (3 : Int32)), (.ref b2)])) t → Steps p.tables e below (s₁.setTop (entryFrame m #[(.int p0), (.long p1)] 4)) t := by
        intro t k
        refine pre17 t ?_
        show Steps p.tables e below (T12.setTop (mkF m 34 #[.val (.int p0), .val (.long p1), .second, .val (.ref b2)] [(.int (3 : Int32)), (.int p0)])) _
        refine XS.icmpNo X12.here hx rfl (hb hby d1_34) rfl (tlt hc34).2.2.2 ?_
        show Steps p.tables e below (T12.setTop (mkF m 37 #[.val (.int p0), .val (.long p1), .second, .val (.ref b2)] [])) _
        refine XS.aloadN X12.here hx rfl (hb hby d1_37) rfl rfl ?_
        show Steps p.tables e below (T12.setTop (mkF m 38 #[.val (.int p0), .val (.long p1), .second, .val (.ref b2)] [(.ref b2)])) _
        refine XS.iconst X12.here hx rfl (hb hby d1_38) ?_
        show Steps p.tables e below (T12.setTop (mkF m 39 #[.val (.int p0), .val (.long p1), .second, .val (.ref b2)] [(.int (3 : Int32)), (.ref b2)])) _
        refine XS.lloadN X12.here hx rfl (hb hby d1_39) rfl  ?_
        show Steps p.tables e below (T12.setTop (mkF m 40 #[.val (.int p0), .val (.long p1), .second, .val (.ref b2)] [(.long p1), (.int (3 : Int32)), (.ref b2)])) _
        refine X12.ldc2Long hx hown (mvT hZ (hw _ (List.mem_of_getElem? (i := 14) rfl))) (g := (mkF m 40 #[.val (.int p0), .val (.long p1), .second, .val (.ref b2)] [(.long p1), (.int (3 : Int32)), (.ref b2)])) rfl (hb hby d1_40) _ ?_
        show Steps p.tables e below (T12.setTop (mkF m 43 #[.val (.int p0), .val (.long p1), .second, .val (.ref b2)] [(.long (3 : Int64)), (.long p1), (.int (3 : Int32)), (.ref b2)])) _
        refine XS.ladd X12.here hx rfl (hb hby d1_43) rfl ?_
        exact k
      obtain ⟨T20, h20, X20, e20, W20, A20, st20⟩ := own_stJ X12 hx hZ e12 arr_b2_12 (j := (3 : Int32)) (x := (p1 + (3 : Int64))) (k := 3) (by decide) (by decide) (own_blt hc34 (by decide)) (g := (mkF m 44 #[.val (.int p0), .val (.long p1), .second, .val (.ref b2)] [(.long (p1 + (3 : Int64))), (.int (3 : Int32)), (.ref b2)])) rfl rfl (hb hby d1_44)
      have K20 := K12.wr W20 (Or.inr sz_b2)
      have Z20 := Nat.le_trans Z12 (Nat.le_of_eq W20.size.symm)
      have N20 := Fr.snoc X20 N12 ge_b2
      have pre21 : ∀ t, Steps p.tables e below (T20.setTop (mkF m 45 #[.val (.int p0), .val (.long p1), .second, .val (.ref b2)] [])) t → Steps p.tables e below (s₁.setTop (entryFrame m #[(.int p0), (.long p1)] 4)) t := by
        intro t k
        refine pre19 t ?_
        show Steps p.tables e below (T12.setTop (mkF m 44 #[.val (.int p0), .val (.long p1), .second, .val (.ref b2)] [(.long (p1 + (3 : Int64))), (.int (3 : Int32)), (.ref b2)])) _
        refine st20 _ ?_
        exact k
      have qmg_b2_45 : mg_b2_45 = (own_upd mg_b2_32 3 (p1 + (3 : Int64))) := by rw [hmg_b2_45, if_pos hc34]
      exact ⟨T20, h20, _, X20, e20, N20, K20, Z20, (by (try rw [qmg_b2_45]); exact A20), (by (try rw [qmg_b2_45]); exact pre21)⟩
    · have pre22 : ∀ t, Steps p.tables e below (T12.setTop (mkF m 45 #[.val (.int p0), .val (.long p1), .second, .val (.ref b2)] [])) t → Steps p.tables e below (s₁.setTop (entryFrame m #[(.int p0), (.long p1)] 4)) t := by
        intro t k
        refine pre17 t ?_
        show Steps p.tables e below (T12.setTop (mkF m 34 #[.val (.int p0), .val (.long p1), .second, .val (.ref b2)] [(.int (3 : Int32)), (.int p0)])) _
        refine XS.icmpYes X12.here hx rfl (pc0 := 34) (pc' := 45) rfl (hb hby d1_34) rfl (flt hc34).2.2.2 (by decide) (by decide) ?_
        exact k
      have qmg_b2_45 : mg_b2_45 = mg_b2_32 := by rw [hmg_b2_45, if_neg hc34]
      exact ⟨T12, h12, _, X12, e12, N12, K12, Z12, (by (try rw [qmg_b2_45]); exact arr_b2_12), (by (try rw [qmg_b2_45]); exact pre22)⟩
  have pre23 : ∀ t, Steps p.tables e below (T18.setTop (mkF m 47 #[.val (.int p0), .val (.long p1), .second, .val (.ref b2)] [(.int (4 : Int32)), (.int p0)])) t → Steps p.tables e below (s₁.setTop (entryFrame m #[(.int p0), (.long p1)] 4)) t := by
    intro t k
    refine pre18 t ?_
    show Steps p.tables e below (T18.setTop (mkF m 45 #[.val (.int p0), .val (.long p1), .second, .val (.ref b2)] [])) _
    refine XS.iloadN X18.here hx rfl (hb hby d1_45) rfl  ?_
    show Steps p.tables e below (T18.setTop (mkF m 46 #[.val (.int p0), .val (.long p1), .second, .val (.ref b2)] [(.int p0)])) _
    refine XS.iconst X18.here hx rfl (hb hby d1_46) ?_
    exact k
  obtain ⟨mg_b2_58, hmg_b2_58⟩ : ∃ z : Nat → Int64, z = (if (4 : Int32) < p0 then (own_upd mg_b2_45 4 (p1 + (4 : Int64))) else mg_b2_45) := ⟨_, rfl⟩
  obtain ⟨T24, h24, lc24, X24, e24, N24, K24, Z24, arr_b2_24, pre24⟩ : ∃ (T' : State) (h' : Heap) (lc : List Loc), Stand p l e ({ frames := 0, cells := 1, slots := 8, locals := 0 } : Room) s m #[(.int p0), (.long p1)] below meth c T' lc 1 8 ∧ T'.heap = h' ∧ Fr n0 lc ∧ Keep h0 h' [] ∧ n0 ≤ h'.size ∧ own_A Z h' b2 .long p0.toNatClampNeg (fun i => .long (mg_b2_58 i)) ∧ (∀ t, Steps p.tables e below (T'.setTop (mkF m 58 #[.val (.int p0), .val (.long p1), .second, .val (.ref b2)] [])) t → Steps p.tables e below (s₁.setTop (entryFrame m #[(.int p0), (.long p1)] 4)) t) := by
    by_cases hc47 : (4 : Int32) < p0
    · have pre25 : ∀ t, Steps p.tables e below (T18.setTop (mkF m 57 #[.val (.int p0), .val (.long p1), .second, .val (.ref b2)] [(.long (p1 + (4 : Int64))), (.int (4 : Int32)), (.ref b2)])) t → Steps p.tables e below (s₁.setTop (entryFrame m #[(.int p0), (.long p1)] 4)) t := by
        intro t k
        refine pre23 t ?_
        show Steps p.tables e below (T18.setTop (mkF m 47 #[.val (.int p0), .val (.long p1), .second, .val (.ref b2)] [(.int (4 : Int32)), (.int p0)])) _
        refine XS.icmpNo X18.here hx rfl (hb hby d1_47) rfl (tlt hc47).2.2.2 ?_
        show Steps p.tables e below (T18.setTop (mkF m 50 #[.val (.int p0), .val (.long p1), .second, .val (.ref b2)] [])) _
        refine XS.aloadN X18.here hx rfl (hb hby d1_50) rfl rfl ?_
        show Steps p.tables e below (T18.setTop (mkF m 51 #[.val (.int p0), .val (.long p1), .second, .val (.ref b2)] [(.ref b2)])) _
        refine XS.iconst X18.here hx rfl (hb hby d1_51) ?_
        show Steps p.tables e below (T18.setTop (mkF m 52 #[.val (.int p0), .val (.long p1), .second, .val (.ref b2)] [(.int (4 : Int32)), (.ref b2)])) _
        refine XS.lloadN X18.here hx rfl (hb hby d1_52) rfl  ?_
        show Steps p.tables e below (T18.setTop (mkF m 53 #[.val (.int p0), .val (.long p1), .second, .val (.ref b2)] [(.long p1), (.int (4 : Int32)), (.ref b2)])) _
        refine X18.ldc2Long hx hown (mvT hZ (hw _ (List.mem_of_getElem? (i := 15) rfl))) (g := (mkF m 53 #[.val (.int p0), .val (.long p1), .second, .val (.ref b2)] [(.long p1), (.int (4 : Int32)), (.ref b2)])) rfl (hb hby d1_53) _ ?_
        show Steps p.tables e below (T18.setTop (mkF m 56 #[.val (.int p0), .val (.long p1), .second, .val (.ref b2)] [(.long (4 : Int64)), (.long p1), (.int (4 : Int32)), (.ref b2)])) _
        refine XS.ladd X18.here hx rfl (hb hby d1_56) rfl ?_
        exact k
      obtain ⟨T26, h26, X26, e26, W26, A26, st26⟩ := own_stJ X18 hx hZ e18 arr_b2_18 (j := (4 : Int32)) (x := (p1 + (4 : Int64))) (k := 4) (by decide) (by decide) (own_blt hc47 (by decide)) (g := (mkF m 57 #[.val (.int p0), .val (.long p1), .second, .val (.ref b2)] [(.long (p1 + (4 : Int64))), (.int (4 : Int32)), (.ref b2)])) rfl rfl (hb hby d1_57)
      have K26 := K18.wr W26 (Or.inr sz_b2)
      have Z26 := Nat.le_trans Z18 (Nat.le_of_eq W26.size.symm)
      have N26 := Fr.snoc X26 N18 ge_b2
      have pre27 : ∀ t, Steps p.tables e below (T26.setTop (mkF m 58 #[.val (.int p0), .val (.long p1), .second, .val (.ref b2)] [])) t → Steps p.tables e below (s₁.setTop (entryFrame m #[(.int p0), (.long p1)] 4)) t := by
        intro t k
        refine pre25 t ?_
        show Steps p.tables e below (T18.setTop (mkF m 57 #[.val (.int p0), .val (.long p1), .second, .val (.ref b2)] [(.long (p1 + (4 : Int64))), (.int (4 : Int32)), (.ref b2)])) _
        refine st26 _ ?_
        exact k
      have qmg_b2_58 : mg_b2_58 = (own_upd mg_b2_45 4 (p1 + (4 : Int64))) := by rw [hmg_b2_58, if_pos hc47]
      exact ⟨T26, h26, _, X26, e26, N26, K26, Z26, (by (try rw [qmg_b2_58]); exact A26), (by (try rw [qmg_b2_58]); exact pre27)⟩
    · have pre28 : ∀ t, Steps p.tables e below (T18.setTop (mkF m 58 #[.val (.int p0), .val (.long p1), .second, .val (.ref b2)] [])) t → Steps p.tables e below (s₁.setTop (entryFrame m #[(.int p0), (.long p1)] 4)) t := by
        intro t k
        refine pre23 t ?_
        show Steps p.tables e below (T18.setTop (mkF m 47 #[.val (.int p0), .val (.long p1), .second, .val (.ref b2)] [(.int (4 : Int32)), (.int p0)])) _
        refine XS.icmpYes X18.here hx rfl (pc0 := 47) (pc' := 58) rfl (hb hby d1_47) rfl (flt hc47).2.2.2 (by decide) (by decide) ?_
        exact k
      have qmg_b2_58 : mg_b2_58 = mg_b2_45 := by rw [hmg_b2_58, if_neg hc47]
      exact ⟨T18, h18, _, X18, e18, N18, K18, Z18, (by (try rw [qmg_b2_58]); exact arr_b2_18), (by (try rw [qmg_b2_58]); exact pre28)⟩
  have pre29 : ∀ t, Steps p.tables e below (T24.setTop (mkF m 60 #[.val (.int p0), .val (.long p1), .second, .val (.ref b2)] [(.int (5 : Int32)), (.int p0)])) t → Steps p.tables e below (s₁.setTop (entryFrame m #[(.int p0), (.long p1)] 4)) t := by
    intro t k
    refine pre24 t ?_
    show Steps p.tables e below (T24.setTop (mkF m 58 #[.val (.int p0), .val (.long p1), .second, .val (.ref b2)] [])) _
    refine XS.iloadN X24.here hx rfl (hb hby d1_58) rfl  ?_
    show Steps p.tables e below (T24.setTop (mkF m 59 #[.val (.int p0), .val (.long p1), .second, .val (.ref b2)] [(.int p0)])) _
    refine XS.iconst X24.here hx rfl (hb hby d1_59) ?_
    exact k
  obtain ⟨mg_b2_71, hmg_b2_71⟩ : ∃ z : Nat → Int64, z = (if (5 : Int32) < p0 then (own_upd mg_b2_58 5 (p1 + (5 : Int64))) else mg_b2_58) := ⟨_, rfl⟩
  obtain ⟨T30, h30, lc30, X30, e30, N30, K30, Z30, arr_b2_30, pre30⟩ : ∃ (T' : State) (h' : Heap) (lc : List Loc), Stand p l e ({ frames := 0, cells := 1, slots := 8, locals := 0 } : Room) s m #[(.int p0), (.long p1)] below meth c T' lc 1 8 ∧ T'.heap = h' ∧ Fr n0 lc ∧ Keep h0 h' [] ∧ n0 ≤ h'.size ∧ own_A Z h' b2 .long p0.toNatClampNeg (fun i => .long (mg_b2_71 i)) ∧ (∀ t, Steps p.tables e below (T'.setTop (mkF m 71 #[.val (.int p0), .val (.long p1), .second, .val (.ref b2)] [])) t → Steps p.tables e below (s₁.setTop (entryFrame m #[(.int p0), (.long p1)] 4)) t) := by
    by_cases hc60 : (5 : Int32) < p0
    · have pre31 : ∀ t, Steps p.tables e below (T24.setTop (mkF m 70 #[.val (.int p0), .val (.long p1), .second, .val (.ref b2)] [(.long (p1 + (5 : Int64))), (.int (5 : Int32)), (.ref b2)])) t → Steps p.tables e below (s₁.setTop (entryFrame m #[(.int p0), (.long p1)] 4)) t := by
        intro t k
        refine pre29 t ?_
        show Steps p.tables e below (T24.setTop (mkF m 60 #[.val (.int p0), .val (.long p1), .second, .val (.ref b2)] [(.int (5 : Int32)), (.int p0)])) _
        refine XS.icmpNo X24.here hx rfl (hb hby d1_60) rfl (tlt hc60).2.2.2 ?_
        show Steps p.tables e below (T24.setTop (mkF m 63 #[.val (.int p0), .val (.long p1), .second, .val (.ref b2)] [])) _
        refine XS.aloadN X24.here hx rfl (hb hby d1_63) rfl rfl ?_
        show Steps p.tables e below (T24.setTop (mkF m 64 #[.val (.int p0), .val (.long p1), .second, .val (.ref b2)] [(.ref b2)])) _
        refine XS.iconst X24.here hx rfl (hb hby d1_64) ?_
        show Steps p.tables e below (T24.setTop (mkF m 65 #[.val (.int p0), .val (.long p1), .second, .val (.ref b2)] [(.int (5 : Int32)), (.ref b2)])) _
        refine XS.lloadN X24.here hx rfl (hb hby d1_65) rfl  ?_
        show Steps p.tables e below (T24.setTop (mkF m 66 #[.val (.int p0), .val (.long p1), .second, .val (.ref b2)] [(.long p1), (.int (5 : Int32)), (.ref b2)])) _
        refine X24.ldc2Long hx hown (mvT hZ (hw _ (List.mem_of_getElem? (i := 16) rfl))) (g := (mkF m 66 #[.val (.int p0), .val (.long p1), .second, .val (.ref b2)] [(.long p1), (.int (5 : Int32)), (.ref b2)])) rfl (hb hby d1_66) _ ?_
        show Steps p.tables e below (T24.setTop (mkF m 69 #[.val (.int p0), .val (.long p1), .second, .val (.ref b2)] [(.long (5 : Int64)), (.long p1), (.int (5 : Int32)), (.ref b2)])) _
        refine XS.ladd X24.here hx rfl (hb hby d1_69) rfl ?_
        exact k
      obtain ⟨T32, h32, X32, e32, W32, A32, st32⟩ := own_stJ X24 hx hZ e24 arr_b2_24 (j := (5 : Int32)) (x := (p1 + (5 : Int64))) (k := 5) (by decide) (by decide) (own_blt hc60 (by decide)) (g := (mkF m 70 #[.val (.int p0), .val (.long p1), .second, .val (.ref b2)] [(.long (p1 + (5 : Int64))), (.int (5 : Int32)), (.ref b2)])) rfl rfl (hb hby d1_70)
      have K32 := K24.wr W32 (Or.inr sz_b2)
      have Z32 := Nat.le_trans Z24 (Nat.le_of_eq W32.size.symm)
      have N32 := Fr.snoc X32 N24 ge_b2
      have pre33 : ∀ t, Steps p.tables e below (T32.setTop (mkF m 71 #[.val (.int p0), .val (.long p1), .second, .val (.ref b2)] [])) t → Steps p.tables e below (s₁.setTop (entryFrame m #[(.int p0), (.long p1)] 4)) t := by
        intro t k
        refine pre31 t ?_
        show Steps p.tables e below (T24.setTop (mkF m 70 #[.val (.int p0), .val (.long p1), .second, .val (.ref b2)] [(.long (p1 + (5 : Int64))), (.int (5 : Int32)), (.ref b2)])) _
        refine st32 _ ?_
        exact k
      have qmg_b2_71 : mg_b2_71 = (own_upd mg_b2_58 5 (p1 + (5 : Int64))) := by rw [hmg_b2_71, if_pos hc60]
      exact ⟨T32, h32, _, X32, e32, N32, K32, Z32, (by (try rw [qmg_b2_71]); exact A32), (by (try rw [qmg_b2_71]); exact pre33)⟩
    · have pre34 : ∀ t, Steps p.tables e below (T24.setTop (mkF m 71 #[.val (.int p0), .val (.long p1), .second, .val (.ref b2)] [])) t → Steps p.tables e below (s₁.setTop (entryFrame m #[(.int p0), (.long p1)] 4)) t := by
        intro t k
        refine pre29 t ?_
        show Steps p.tables e below (T24.setTop (mkF m 60 #[.val (.int p0), .val (.long p1), .second, .val (.ref b2)] [(.int (5 : Int32)), (.int p0)])) _
        refine XS.icmpYes X24.here hx rfl (pc0 := 60) (pc' := 71) rfl (hb hby d1_60) rfl (flt hc60).2.2.2 (by decide) (by decide) ?_
        exact k
      have qmg_b2_71 : mg_b2_71 = mg_b2_58 := by rw [hmg_b2_71, if_neg hc60]
      exact ⟨T24, h24, _, X24, e24, N24, K24, Z24, (by (try rw [qmg_b2_71]); exact arr_b2_24), (by (try rw [qmg_b2_71]); exact pre34)⟩
  have pre35 : ∀ t, Steps p.tables e below (T30.setTop (mkF m 74 #[.val (.int p0), .val (.long p1), .second, .val (.ref b2)] [(.int (6 : Int32)), (.int p0)])) t → Steps p.tables e below (s₁.setTop (entryFrame m #[(.int p0), (.long p1)] 4)) t := by
    intro t k
    refine pre30 t ?_
    show Steps p.tables e below (T30.setTop (mkF m 71 #[.val (.int p0), .val (.long p1), .second, .val (.ref b2)] [])) _
    refine XS.iloadN X30.here hx rfl (hb hby d1_71) rfl  ?_
    show Steps p.tables e below (T30.setTop (mkF m 72 #[.val (.int p0), .val (.long p1), .second, .val (.ref b2)] [(.int p0)])) _
    refine XS.bipush X30.here hx rfl (hb hby d1_72) ?_
    exact k
  obtain ⟨mg_b2_86, hmg_b2_86⟩ : ∃ z : Nat → Int64, z = (if (6 : Int32) < p0 then (own_upd mg_b2_71 6 (p1 + (6 : Int64))) else mg_b2_71) := ⟨_, rfl⟩
  obtain ⟨T36, h36, lc36, X36, e36, N36, K36, Z36, arr_b2_36, pre36⟩ : ∃ (T' : State) (h' : Heap) (lc : List Loc), Stand p l e ({ frames := 0, cells := 1, slots := 8, locals := 0 } : Room) s m #[(.int p0), (.long p1)] below meth c T' lc 1 8 ∧ T'.heap = h' ∧ Fr n0 lc ∧ Keep h0 h' [] ∧ n0 ≤ h'.size ∧ own_A Z h' b2 .long p0.toNatClampNeg (fun i => .long (mg_b2_86 i)) ∧ (∀ t, Steps p.tables e below (T'.setTop (mkF m 86 #[.val (.int p0), .val (.long p1), .second, .val (.ref b2)] [])) t → Steps p.tables e below (s₁.setTop (entryFrame m #[(.int p0), (.long p1)] 4)) t) := by
    by_cases hc74 : (6 : Int32) < p0
    · have pre37 : ∀ t, Steps p.tables e below (T30.setTop (mkF m 85 #[.val (.int p0), .val (.long p1), .second, .val (.ref b2)] [(.long (p1 + (6 : Int64))), (.int (6 : Int32)), (.ref b2)])) t → Steps p.tables e below (s₁.setTop (entryFrame m #[(.int p0), (.long p1)] 4)) t := by
        intro t k
        refine pre35 t ?_
        show Steps p.tables e below (T30.setTop (mkF m 74 #[.val (.int p0), .val (.long p1), .second, .val (.ref b2)] [(.int (6 : Int32)), (.int p0)])) _
        refine XS.icmpNo X30.here hx rfl (hb hby d1_74) rfl (tlt hc74).2.2.2 ?_
        show Steps p.tables e below (T30.setTop (mkF m 77 #[.val (.int p0), .val (.long p1), .second, .val (.ref b2)] [])) _
        refine XS.aloadN X30.here hx rfl (hb hby d1_77) rfl rfl ?_
        show Steps p.tables e below (T30.setTop (mkF m 78 #[.val (.int p0), .val (.long p1), .second, .val (.ref b2)] [(.ref b2)])) _
        refine XS.bipush X30.here hx rfl (hb hby d1_78) ?_
        show Steps p.tables e below (T30.setTop (mkF m 80 #[.val (.int p0), .val (.long p1), .second, .val (.ref b2)] [(.int (6 : Int32)), (.ref b2)])) _
        refine XS.lloadN X30.here hx rfl (hb hby d1_80) rfl  ?_
        show Steps p.tables e below (T30.setTop (mkF m 81 #[.val (.int p0), .val (.long p1), .second, .val (.ref b2)] [(.long p1), (.int (6 : Int32)), (.ref b2)])) _
        refine X30.ldc2Long hx hown (mvT hZ (hw _ (List.mem_of_getElem? (i := 17) rfl))) (g := (mkF m 81 #[.val (.int p0), .val (.long p1), .second, .val (.ref b2)] [(.long p1), (.int (6 : Int32)), (.ref b2)])) rfl (hb hby d1_81) _ ?_
        show Steps p.tables e below (T30.setTop (mkF m 84 #[.val (.int p0), .val (.long p1), .second, .val (.ref b2)] [(.long (6 : Int64)), (.long p1), (.int (6 : Int32)), (.ref b2)])) _
        refine XS.ladd X30.here hx rfl (hb hby d1_84) rfl ?_
        exact k
      obtain ⟨T38, h38, X38, e38, W38, A38, st38⟩ := own_stJ X30 hx hZ e30 arr_b2_30 (j := (6 : Int32)) (x := (p1 + (6 : Int64))) (k := 6) (by decide) (by decide) (own_blt hc74 (by decide)) (g := (mkF m 85 #[.val (.int p0), .val (.long p1), .second, .val (.ref b2)] [(.long (p1 + (6 : Int64))), (.int (6 : Int32)), (.ref b2)])) rfl rfl (hb hby d1_85)
      have K38 := K30.wr W38 (Or.inr sz_b2)
      have Z38 := Nat.le_trans Z30 (Nat.le_of_eq W38.size.symm)
      have N38 := Fr.snoc X38 N30 ge_b2
      have pre39 : ∀ t, Steps p.tables e below (T38.setTop (mkF m 86 #[.val (.int p0), .val (.long p1), .second, .val (.ref b2)] [])) t → Steps p.tables e below (s₁.setTop (entryFrame m #[(.int p0), (.long p1)] 4)) t := by
        intro t k
        refine pre37 t ?_
        show Steps p.tables e below (T30.setTop (mkF m 85 #[.val (.int p0), .val (.long p1), .second, .val (.ref b2)] [(.long (p1 + (6 : Int64))), (.int (6 : Int32)), (.ref b2)])) _
        refine st38 _ ?_
        exact k
      have qmg_b2_86 : mg_b2_86 = (own_upd mg_b2_71 6 (p1 + (6 : Int64))) := by rw [hmg_b2_86, if_pos hc74]
      exact ⟨T38, h38, _, X38, e38, N38, K38, Z38, (by (try rw [qmg_b2_86]); exact A38), (by (try rw [qmg_b2_86]); exact pre39)⟩
    · have pre40 : ∀ t, Steps p.tables e below (T30.setTop (mkF m 86 #[.val (.int p0), .val (.long p1), .second, .val (.ref b2)] [])) t → Steps p.tables e below (s₁.setTop (entryFrame m #[(.int p0), (.long p1)] 4)) t := by
        intro t k
        refine pre35 t ?_
        show Steps p.tables e below (T30.setTop (mkF m 74 #[.val (.int p0), .val (.long p1), .second, .val (.ref b2)] [(.int (6 : Int32)), (.int p0)])) _
        refine XS.icmpYes X30.here hx rfl (pc0 := 74) (pc' := 86) rfl (hb hby d1_74) rfl (flt hc74).2.2.2 (by decide) (by decide) ?_
        exact k
      have qmg_b2_86 : mg_b2_86 = mg_b2_71 := by rw [hmg_b2_86, if_neg hc74]
      exact ⟨T30, h30, _, X30, e30, N30, K30, Z30, (by (try rw [qmg_b2_86]); exact arr_b2_30), (by (try rw [qmg_b2_86]); exact pre40)⟩
  have pre41 : ∀ t, Steps p.tables e below (T36.setTop (mkF m 89 #[.val (.int p0), .val (.long p1), .second, .val (.ref b2)] [(.int (7 : Int32)), (.int p0)])) t → Steps p.tables e below (s₁.setTop (entryFrame m #[(.int p0), (.long p1)] 4)) t := by
    intro t k
    refine pre36 t ?_
    show Steps p.tables e below (T36.setTop (mkF m 86 #[.val (.int p0), .val (.long p1), .second, .val (.ref b2)] [])) _
    refine XS.iloadN X36.here hx rfl (hb hby d1_86) rfl  ?_
    show Steps p.tables e below (T36.setTop (mkF m 87 #[.val (.int p0), .val (.long p1), .second, .val (.ref b2)] [(.int p0)])) _
    refine XS.bipush X36.here hx rfl (hb hby d1_87) ?_
    exact k
  obtain ⟨mg_b2_101, hmg_b2_101⟩ : ∃ z : Nat → Int64, z = (if (7 : Int32) < p0 then (own_upd mg_b2_86 7 (p1 + (7 : Int64))) else mg_b2_86) := ⟨_, rfl⟩
  obtain ⟨T42, h42, lc42, X42, e42, N42, K42, Z42, arr_b2_42, pre42⟩ : ∃ (T' : State) (h' : Heap) (lc : List Loc), Stand p l e ({ frames := 0, cells := 1, slots := 8, locals := 0 } : Room) s m #[(.int p0), (.long p1)] below meth c T' lc 1 8 ∧ T'.heap = h' ∧ Fr n0 lc ∧ Keep h0 h' [] ∧ n0 ≤ h'.size ∧ own_A Z h' b2 .long p0.toNatClampNeg (fun i => .long (mg_b2_101 i)) ∧ (∀ t, Steps p.tables e below (T'.setTop (mkF m 101 #[.val (.int p0), .val (.long p1), .second, .val (.ref b2)] [])) t → Steps p.tables e below (s₁.setTop (entryFrame m #[(.int p0), (.long p1)] 4)) t) := by
    by_cases hc89 : (7 : Int32) < p0
    · have pre43 : ∀ t, Steps p.tables e below (T36.setTop (mkF m 100 #[.val (.int p0), .val (.long p1), .second, .val (.ref b2)] [(.long (p1 + (7 : Int64))), (.int (7 : Int32)), (.ref b2)])) t → Steps p.tables e below (s₁.setTop (entryFrame m #[(.int p0), (.long p1)] 4)) t := by
        intro t k
        refine pre41 t ?_
        show Steps p.tables e below (T36.setTop (mkF m 89 #[.val (.int p0), .val (.long p1), .second, .val (.ref b2)] [(.int (7 : Int32)), (.int p0)])) _
        refine XS.icmpNo X36.here hx rfl (hb hby d1_89) rfl (tlt hc89).2.2.2 ?_
        show Steps p.tables e below (T36.setTop (mkF m 92 #[.val (.int p0), .val (.long p1), .second, .val (.ref b2)] [])) _
        refine XS.aloadN X36.here hx rfl (hb hby d1_92) rfl rfl ?_
        show Steps p.tables e below (T36.setTop (mkF m 93 #[.val (.int p0), .val (.long p1), .second, .val (.ref b2)] [(.ref b2)])) _
        refine XS.bipush X36.here hx rfl (hb hby d1_93) ?_
        show Steps p.tables e below (T36.setTop (mkF m 95 #[.val (.int p0), .val (.long p1), .second, .val (.ref b2)] [(.int (7 : Int32)), (.ref b2)])) _
        refine XS.lloadN X36.here hx rfl (hb hby d1_95) rfl  ?_
        show Steps p.tables e below (T36.setTop (mkF m 96 #[.val (.int p0), .val (.long p1), .second, .val (.ref b2)] [(.long p1), (.int (7 : Int32)), (.ref b2)])) _
        refine X36.ldc2Long hx hown (mvT hZ (hw _ (List.mem_of_getElem? (i := 18) rfl))) (g := (mkF m 96 #[.val (.int p0), .val (.long p1), .second, .val (.ref b2)] [(.long p1), (.int (7 : Int32)), (.ref b2)])) rfl (hb hby d1_96) _ ?_
        show Steps p.tables e below (T36.setTop (mkF m 99 #[.val (.int p0), .val (.long p1), .second, .val (.ref b2)] [(.long (7 : Int64)), (.long p1), (.int (7 : Int32)), (.ref b2)])) _
        refine XS.ladd X36.here hx rfl (hb hby d1_99) rfl ?_
        exact k
      obtain ⟨T44, h44, X44, e44, W44, A44, st44⟩ := own_stJ X36 hx hZ e36 arr_b2_36 (j := (7 : Int32)) (x := (p1 + (7 : Int64))) (k := 7) (by decide) (by decide) (own_blt hc89 (by decide)) (g := (mkF m 100 #[.val (.int p0), .val (.long p1), .second, .val (.ref b2)] [(.long (p1 + (7 : Int64))), (.int (7 : Int32)), (.ref b2)])) rfl rfl (hb hby d1_100)
      have K44 := K36.wr W44 (Or.inr sz_b2)
      have Z44 := Nat.le_trans Z36 (Nat.le_of_eq W44.size.symm)
      have N44 := Fr.snoc X44 N36 ge_b2
      have pre45 : ∀ t, Steps p.tables e below (T44.setTop (mkF m 101 #[.val (.int p0), .val (.long p1), .second, .val (.ref b2)] [])) t → Steps p.tables e below (s₁.setTop (entryFrame m #[(.int p0), (.long p1)] 4)) t := by
        intro t k
        refine pre43 t ?_
        show Steps p.tables e below (T36.setTop (mkF m 100 #[.val (.int p0), .val (.long p1), .second, .val (.ref b2)] [(.long (p1 + (7 : Int64))), (.int (7 : Int32)), (.ref b2)])) _
        refine st44 _ ?_
        exact k
      have qmg_b2_101 : mg_b2_101 = (own_upd mg_b2_86 7 (p1 + (7 : Int64))) := by rw [hmg_b2_101, if_pos hc89]
      exact ⟨T44, h44, _, X44, e44, N44, K44, Z44, (by (try rw [qmg_b2_101]); exact A44), (by (try rw [qmg_b2_101]); exact pre45)⟩
    · have pre46 : ∀ t, Steps p.tables e below (T36.setTop (mkF m 101 #[.val (.int p0), .val (.long p1), .second, .val (.ref b2)] [])) t → Steps p.tables e below (s₁.setTop (entryFrame m #[(.int p0), (.long p1)] 4)) t := by
        intro t k
        refine pre41 t ?_
        show Steps p.tables e below (T36.setTop (mkF m 89 #[.val (.int p0), .val (.long p1), .second, .val (.ref b2)] [(.int (7 : Int32)), (.int p0)])) _
        refine XS.icmpYes X36.here hx rfl (pc0 := 89) (pc' := 101) rfl (hb hby d1_89) rfl (flt hc89).2.2.2 (by decide) (by decide) ?_
        exact k
      have qmg_b2_101 : mg_b2_101 = mg_b2_86 := by rw [hmg_b2_101, if_neg hc89]
      exact ⟨T36, h36, _, X36, e36, N36, K36, Z36, (by (try rw [qmg_b2_101]); exact arr_b2_36), (by (try rw [qmg_b2_101]); exact pre46)⟩
  obtain ⟨fs, hr, hrun, hended, hW, hsame⟩ := X42.leave (v := some (.ref b2)) (fun h => by rw [Bd.returns] at h; cases h)
  refine ⟨_, _, pre42 _ ?_, hrun, hended, _, _, rfl, ?_, ⟨_, rfl⟩, hW, hsame.mono (by decide) (by decide)⟩
  · show Steps p.tables e below (T42.setTop (mkF m 101 #[.val (.int p0), .val (.long p1), .second, .val (.ref b2)] [])) _
    refine XS.aloadN X42.here hx rfl (hb hby d1_101) rfl rfl ?_
    show Steps p.tables e below (T42.setTop (mkF m 102 #[.val (.int p0), .val (.long p1), .second, .val (.ref b2)] [(.ref b2)])) _
    exact retOut X42 hx Bd.returns rfl (Or.inr (Or.inr (Or.inr (Or.inr ⟨rfl, rfl, rfl⟩)))) (hb hby d1_102) hr
  · show Q_1 Z p0 p1 h0 n0 _ T42.heap _
    rw [e42]
    have o1 := (by subst hg_7 hmg_b2_19 hmg_b2_32 hmg_b2_45 hmg_b2_58 hmg_b2_71 hmg_b2_86 hmg_b2_101; rfl : mg_b2_101 = f_1_1 p0 p1)
    have r1 := arr_b2_42
    rw [o1] at r1
    exact ⟨b2, rfl, N42, sz_b2, K42, r1⟩
theorem d2_0 : decode prog_3_method_5_code 0 = .ok (.aload_n 0, 1) := by decide +kernel
theorem d2_1 : decode prog_3_method_5_code 1 = .ok (.arraylength, 1) := by decide +kernel
theorem d2_2 : decode prog_3_method_5_code 2 = .ok (.i2l, 1) := by decide +kernel
theorem d2_3 : decode prog_3_method_5_code 3 = .ok (.iload_n 1, 1) := by decide +kernel
theorem d2_4 : decode prog_3_method_5_code 4 = .ok (.i2l, 1) := by decide +kernel
theorem d2_5 : decode prog_3_method_5_code 5 = .ok (.lmul, 1) := by decide +kernel
theorem d2_6 : decode prog_3_method_5_code 6 = .ok (.ldc2_w 29, 3) := by decide +kernel
theorem d2_9 : decode prog_3_method_5_code 9 = .ok (.ladd, 1) := by decide +kernel
theorem d2_10 : decode prog_3_method_5_code 10 = .ok (.ldc2_w 31, 3) := by decide +kernel
theorem d2_13 : decode prog_3_method_5_code 13 = .ok (.ldiv, 1) := by decide +kernel
theorem d2_14 : decode prog_3_method_5_code 14 = .ok (.lstore_n 2, 1) := by decide +kernel
theorem d2_15 : decode prog_3_method_5_code 15 = .ok (.aload_n 0, 1) := by decide +kernel
theorem d2_16 : decode prog_3_method_5_code 16 = .ok (.lload_n 2, 1) := by decide +kernel
theorem d2_17 : decode prog_3_method_5_code 17 = .ok (.l2i, 1) := by decide +kernel
theorem d2_18 : decode prog_3_method_5_code 18 = .ok (.iconst 1, 1) := by decide +kernel
theorem d2_19 : decode prog_3_method_5_code 19 = .ok (.isub, 1) := by decide +kernel
theorem d2_20 : decode prog_3_method_5_code 20 = .ok (.laload, 1) := by decide +kernel
theorem d2_21 : decode prog_3_method_5_code 21 = .ok (.lreturn, 1) := by decide +kernel
theorem pn_2 : plainName "com/example/sequeue/sequeue/bench/Figures" = true := by first | (simp [plainName, overriddenIn]; done) | decide +kernel
theorem ef_2 (m : MethodId) (p0 : Addr) (p1 : Int32) : entryFrame m #[(.ref p0), (.int p1)] 4 = mkF m 0 #[.val (.ref p0), .val (.int p1), .unset, .unset] [] := by first | (simp [entryFrame, mkF, argsToLocals, Value.category]; done) | rfl
def f_2 (p1 : Int32) (z_ : Int32) (n_ : Nat) (g_ : Nat → Int64) : Int64 := let v2_14 : Int64 := ((((z_.toInt64) * (p1.toInt64)) + (999 : Int64)) / (1000 : Int64)); (g_ ((v2_14.toInt32) - (1 : Int32)).toNatClampNeg)
def Q_2 (Z : State) (p0 : Addr) (p1 : Int32) (z_ : Int32) (n_ : Nat) (g_ : Nat → Int64) (h0 : Heap) (n0 : Nat) (v : Option Value) (h : Heap) (L : List Loc) : Prop := v = some (.long (f_2 p1 z_ n_ g_)) ∧ Fr n0 L ∧ h = h0
set_option maxRecDepth 65536 in
set_option maxHeartbeats 40000000 in
theorem rm_2 (l : Launch) (Z : State) (a0 : Array Value) (hw : ∀ d ∈ tables_1, d.before a0 Z = true) (ws : List Jvm.Cond) (p0 : Addr) (p1 : Int32) (z_ : Int32) (n_ : Nat) (g_ : Nat → Int64) (h0 : Heap) (n0 : Nat) (Z0 : n0 ≤ h0.size) (A_p0 : own_A Z h0 p0 .long n_ (fun i => .long (g_ i))) (hz : n_.toInt32 = z_) (hi : ¬ ((((((z_.toInt64) * (p1.toInt64)) + (999 : Int64)) / (1000 : Int64)).toInt32) - (1 : Int32)) < 0 ∧ ((((((z_.toInt64) * (p1.toInt64)) + (999 : Int64)) / (1000 : Int64)).toInt32) - (1 : Int32)).toNatClampNeg < n_) :
    MetFree l (⟨"com/example/sequeue/sequeue/bench/Figures", "percentile", "([JI)J"⟩ : MethodName) (head1 (Jvm.Cond.code (⟨"com/example/sequeue/sequeue/bench/Figures", "percentile", "([JI)J"⟩ : MethodName) prog_3_method_5_code 4 (some .long) :: ws) ({ frames := 0, cells := 0, slots := 0, locals := 0 } : Room)) (fun a U => a = #[(.ref p0), (.int p1)] ∧ Z.Warmed39 U.vm ∧ U.heap = h0) (fun _ _ _ _ _ => True) (fun _ U o U' => ∃ v L, o = .returned v ∧ Q_2 Z p0 p1 z_ n_ g_ h0 n0 v U'.heap L ∧ FrameEnd U o U' L ({ frames := 0, cells := 0, slots := 0, locals := 0 } : Room).cells ({ frames := 0, cells := 0, slots := 0, locals := 0 } : Room).slots) := by
  refine MetFree.of_bodySF (plainFor_of_name pn_2) hisR ?_
  intro p e s m args below meth c s₁ Bd hml0 hP hK
  obtain ⟨rfl, hZ, hh⟩ := hP
  have hx := Bd.exec
  have hby := Bd.bytes
  have hml : c.maxLocals = 4 := hml0
  have hown : s.vm.findClass "com/example/sequeue/sequeue/bench/Figures" = some m.cls := findClass_of_methodNamed Bd.named
  have hnm := (name_of_methodNamed Bd.named Bd.method).1
  have X0 : Stand p l e ({ frames := 0, cells := 0, slots := 0, locals := 0 } : Room) s m #[(.ref p0), (.int p1)] below meth c s₁ [] 0 0 := Stand.of_body Bd
  have e0 : s₁.heap = h0 := by rw [← hh, Bd.state]; rfl
  have N0 := Fr.nil n0
  have K0 : Keep h0 h0 [] := Keep.refl h0 _
  have pre0 : ∀ t, Steps p.tables e below (s₁.setTop (mkF m 0 #[.val (.ref p0), .val (.int p1), .unset, .unset] [])) t → Steps p.tables e below (s₁.setTop (entryFrame m #[(.ref p0), (.int p1)] 4)) t := fun t k => castTop (ef_2 m p0 p1) k
  obtain ⟨v2_14, hv2_14⟩ : ∃ z : Int64, z = ((((z_.toInt64) * (p1.toInt64)) + (999 : Int64)) / (1000 : Int64)) := ⟨_, rfl⟩
  obtain ⟨fs, hr, hrun, hended, hW, hsame⟩ := X0.leave (v := some (.long (g_ ((v2_14.toInt32) - (1 : Int32)).toNatClampNeg))) (fun h => by rw [Bd.returns] at h; cases h)
  refine ⟨_, _, pre0 _ ?_, hrun, hended, _, _, rfl, ?_, ⟨_, rfl⟩, hW, hsame.mono (by decide) (by decide)⟩
  · show Steps p.tables e below (s₁.setTop (mkF m 0 #[.val (.ref p0), .val (.int p1), .unset, .unset] [])) _
    refine XS.aloadN X0.here hx rfl (hb hby d2_0) rfl rfl ?_
    show Steps p.tables e below (s₁.setTop (mkF m 1 #[.val (.ref p0), .val (.int p1), .unset, .unset] [(.ref p0)])) _
    refine own_len X0 hx hZ e0 A_p0 (z := z_) hz (g := (mkF m 1 #[.val (.ref p0), .val (.int p1), .unset, .unset] [(.ref p0)])) rfl rfl (hb hby d2_1) ?_
    show Steps p.tables e below (s₁.setTop (mkF m 2 #[.val (.ref p0), .val (.int p1), .unset, .unset] [(.int z_)])) _
    refine XS.i2l X0.here hx rfl (hb hby d2_2) rfl ?_
    show Steps p.tables e below (s₁.setTop (mkF m 3 #[.val (.ref p0), .val (.int p1), .unset, .unset] [(.long (z_.toInt64))])) _
    refine XS.iloadN X0.here hx rfl (hb hby d2_3) rfl  ?_
    show Steps p.tables e below (s₁.setTop (mkF m 4 #[.val (.ref p0), .val (.int p1), .unset, .unset] [(.int p1), (.long (z_.toInt64))])) _
    refine XS.i2l X0.here hx rfl (hb hby d2_4) rfl ?_
    show Steps p.tables e below (s₁.setTop (mkF m 5 #[.val (.ref p0), .val (.int p1), .unset, .unset] [(.long (p1.toInt64)), (.long (z_.toInt64))])) _
    refine XS.lmul X0.here hx rfl (hb hby d2_5) rfl ?_
    show Steps p.tables e below (s₁.setTop (mkF m 6 #[.val (.ref p0), .val (.int p1), .unset, .unset] [(.long ((z_.toInt64) * (p1.toInt64)))])) _
    refine X0.ldc2Long hx hown (mvT hZ (hw _ (List.mem_of_getElem? (i := 10) rfl))) (g := (mkF m 6 #[.val (.ref p0), .val (.int p1), .unset, .unset] [(.long ((z_.toInt64) * (p1.toInt64)))])) rfl (hb hby d2_6) _ ?_
    show Steps p.tables e below (s₁.setTop (mkF m 9 #[.val (.ref p0), .val (.int p1), .unset, .unset] [(.long (999 : Int64)), (.long ((z_.toInt64) * (p1.toInt64)))])) _
    refine XS.ladd X0.here hx rfl (hb hby d2_9) rfl ?_
    show Steps p.tables e below (s₁.setTop (mkF m 10 #[.val (.ref p0), .val (.int p1), .unset, .unset] [(.long (((z_.toInt64) * (p1.toInt64)) + (999 : Int64)))])) _
    refine X0.ldc2Long hx hown (mvT hZ (hw _ (List.mem_of_getElem? (i := 11) rfl))) (g := (mkF m 10 #[.val (.ref p0), .val (.int p1), .unset, .unset] [(.long (((z_.toInt64) * (p1.toInt64)) + (999 : Int64)))])) rfl (hb hby d2_10) _ ?_
    show Steps p.tables e below (s₁.setTop (mkF m 13 #[.val (.ref p0), .val (.int p1), .unset, .unset] [(.long (1000 : Int64)), (.long (((z_.toInt64) * (p1.toInt64)) + (999 : Int64)))])) _
    refine XS.ldiv X0.here hx rfl (hb hby d2_13) rfl (by decide) ?_
    show Steps p.tables e below (s₁.setTop (mkF m 14 #[.val (.ref p0), .val (.int p1), .unset, .unset] [(.long ((((z_.toInt64) * (p1.toInt64)) + (999 : Int64)) / (1000 : Int64)))])) _
    refine XS.lstoreN X0.here hx rfl (hb hby d2_14) rfl (l' := #[.val (.ref p0), .val (.int p1), .val (.long v2_14), .second]) (by rw [hv2_14]; rfl) ?_
    show Steps p.tables e below (s₁.setTop (mkF m 15 #[.val (.ref p0), .val (.int p1), .val (.long v2_14), .second] [])) _
    refine XS.aloadN X0.here hx rfl (hb hby d2_15) rfl rfl ?_
    show Steps p.tables e below (s₁.setTop (mkF m 16 #[.val (.ref p0), .val (.int p1), .val (.long v2_14), .second] [(.ref p0)])) _
    refine XS.lloadN X0.here hx rfl (hb hby d2_16) rfl  ?_
    show Steps p.tables e below (s₁.setTop (mkF m 17 #[.val (.ref p0), .val (.int p1), .val (.long v2_14), .second] [(.long v2_14), (.ref p0)])) _
    refine XS.l2i X0.here hx rfl (hb hby d2_17) rfl ?_
    show Steps p.tables e below (s₁.setTop (mkF m 18 #[.val (.ref p0), .val (.int p1), .val (.long v2_14), .second] [(.int (v2_14.toInt32)), (.ref p0)])) _
    refine XS.iconst X0.here hx rfl (hb hby d2_18) ?_
    show Steps p.tables e below (s₁.setTop (mkF m 19 #[.val (.ref p0), .val (.int p1), .val (.long v2_14), .second] [(.int (1 : Int32)), (.int (v2_14.toInt32)), (.ref p0)])) _
    refine XS.isub X0.here hx rfl (hb hby d2_19) rfl ?_
    show Steps p.tables e below (s₁.setTop (mkF m 20 #[.val (.ref p0), .val (.int p1), .val (.long v2_14), .second] [(.int ((v2_14.toInt32) - (1 : Int32))), (.ref p0)])) _
    refine own_ldJ X0 hx hZ e0 A_p0 (j := ((v2_14.toInt32) - (1 : Int32))) (k := ((v2_14.toInt32) - (1 : Int32)).toNatClampNeg) (by rw [hv2_14]; exact hi.1) rfl (by rw [hv2_14]; exact hi.2) (g := (mkF m 20 #[.val (.ref p0), .val (.int p1), .val (.long v2_14), .second] [(.int ((v2_14.toInt32) - (1 : Int32))), (.ref p0)])) rfl rfl (hb hby d2_20) ?_
    show Steps p.tables e below (s₁.setTop (mkF m 21 #[.val (.ref p0), .val (.int p1), .val (.long v2_14), .second] [(.long (g_ ((v2_14.toInt32) - (1 : Int32)).toNatClampNeg))])) _
    exact retOut X0 hx Bd.returns rfl (Or.inr (Or.inl ⟨rfl, rfl, _, rfl⟩)) (hb hby d2_21) hr
  · show Q_2 Z p0 p1 z_ n_ g_ h0 n0 _ s₁.heap _
    rw [e0]
    exact ⟨congrArg (fun z => some (Value.long z)) (by subst hv2_14; rfl : (g_ ((v2_14.toInt32) - (1 : Int32)).toNatClampNeg) = f_2 p1 z_ n_ g_), N0, rfl⟩
theorem own_n (a : Int32) : 0 < ((1 : Int32) + (a &&& (7 : Int32))).toInt ∧ ((1 : Int32) + (a &&& (7 : Int32))).toInt ≤ 8 := by
  have a1 := c_mask a 7 3 (by decide) (by decide)
  have a2 := c_iadd 1 (a &&& 7)
  have r2 := rng32 (1 + (a &&& 7))
  have l1 : (1 : Int32).toInt = 1 := by decide
  omega
theorem own_pm (a : Int32) : 0 < ((1 : Int32) + ((a &&& (2147483647 : Int32)) % (1000 : Int32))).toInt ∧ ((1 : Int32) + ((a &&& (2147483647 : Int32)) % (1000 : Int32))).toInt ≤ 1000 := by
  have a1 := c_mask a 2147483647 31 (by decide) (by decide)
  have a3 := (c_irem (a &&& 2147483647) 1000 1000 (by decide)).1 (by omega)
  have a2 := c_iadd 1 ((a &&& 2147483647) % 1000)
  have r2 := rng32 (1 + ((a &&& 2147483647) % 1000))
  have l1 : (1 : Int32).toInt = 1 := by decide
  omega
theorem own_back {n : Int32} (h : 0 < n.toInt ∧ n.toInt ≤ 8) : n.toNatClampNeg.toInt32 = n := (back32 (own_bp h.1)).1
theorem own_prod (z p : Int32) (hz : 0 < z.toInt ∧ z.toInt ≤ 8) (hp : 0 < p.toInt ∧ p.toInt ≤ 1000) : (z.toInt64 * p.toInt64).toInt = z.toInt * p.toInt ∧ 0 < z.toInt * p.toInt ∧ z.toInt * p.toInt ≤ z.toInt * 1000 := by
  have a1 := c_lmul z.toInt64 p.toInt64
  rw [c_i2l, c_i2l] at a1
  have r1 := rng64 (z.toInt64 * p.toInt64)
  have p1 : 0 < z.toInt * p.toInt := Int.mul_pos hz.1 hp.1
  have p2 : z.toInt * p.toInt ≤ z.toInt * 1000 := Int.mul_le_mul_of_nonneg_left hp.2 (by omega)
  omega
theorem own_ix (z p : Int32) (hz : 0 < z.toInt ∧ z.toInt ≤ 8) (hp : 0 < p.toInt ∧ p.toInt ≤ 1000) : (((((z.toInt64) * (p.toInt64)) + (999 : Int64)) / (1000 : Int64)).toInt32 - (1 : Int32)).toInt = (z.toInt * p.toInt + 999) / 1000 - 1 := by
  have q := own_prod z p hz hp
  have a2 := c_ladd (z.toInt64 * p.toInt64) 999
  have r2 := rng64 (z.toInt64 * p.toInt64 + 999)
  have l9 : (999 : Int64).toInt = 999 := by decide
  have l1 : (1 : Int32).toInt = 1 := by decide
  have d1 := (c_ldiv (z.toInt64 * p.toInt64 + 999) 1000 1000 (by decide) (by decide)).1 (by omega)
  have c1 := c_l2i ((z.toInt64 * p.toInt64 + 999) / 1000)
  have r3 := rng32 ((z.toInt64 * p.toInt64 + 999) / 1000).toInt32
  have s1 := c_isub ((z.toInt64 * p.toInt64 + 999) / 1000).toInt32 1
  have r4 := rng32 (((z.toInt64 * p.toInt64 + 999) / 1000).toInt32 - 1)
  omega
theorem own_idx (z p : Int32) (hz : 0 < z.toInt ∧ z.toInt ≤ 8) (hp : 0 < p.toInt ∧ p.toInt ≤ 1000) : ¬ (((((z.toInt64) * (p.toInt64)) + (999 : Int64)) / (1000 : Int64)).toInt32 - (1 : Int32)) < 0 ∧ (((((z.toInt64) * (p.toInt64)) + (999 : Int64)) / (1000 : Int64)).toInt32 - (1 : Int32)).toNatClampNeg < z.toNatClampNeg := by
  have q := own_prod z p hz hp
  have i := own_ix z p hz hp
  have l0 : (0 : Int32).toInt = 0 := by decide
  have n1 : ¬ (((((z.toInt64) * (p.toInt64)) + (999 : Int64)) / (1000 : Int64)).toInt32 - (1 : Int32)) < 0 := by rw [Int32.lt_iff_toInt_lt]; omega
  have n2 := nat_of n1
  have n3 := nat_of (own_bp hz.1)
  exact ⟨n1, by omega⟩
theorem pd_0 : parseMethodDescriptor "(IJ)[J" = some ⟨[.int, .long], some (.array .long)⟩ := by decide +kernel
theorem pd_1 : parseMethodDescriptor "([JI)J" = some ⟨[(.array .long), .int], some .long⟩ := by decide +kernel
theorem pn_0 : plainName "com/example/sequeue/sequeue/bench/FiguresPercentilePinLaw" = true := by first | (simp [plainName, overriddenIn]; done) | decide +kernel
theorem ef_0 (m : MethodId) (p0 : Int32) (p1 : Int32) (p2 : Int64) : entryFrame m #[(.int p0), (.int p1), (.long p2)] maxLocals = mkF m 0 #[.val (.int p0), .val (.int p1), .val (.long p2), .second, .unset, .unset, .unset, .unset, .unset, .unset, .unset, .unset, .unset, .unset, .unset] [] := by first | (simp [entryFrame, mkF, argsToLocals, Value.category, maxLocals]; done) | rfl
def f_0 (p0 : Int32) (p1 : Int32) (p2 : Int64) : Int32 := let v4_6 : Int32 := ((1 : Int32) + (p0 &&& (7 : Int32))); let v5_18 : Int32 := ((1 : Int32) + ((p1 &&& (2147483647 : Int32)) % (1000 : Int32))); let v6_23 : Int64 := (p2 >>> ((4 : Int32) &&& 0x3f).toInt64); let v9_41 : Int64 := (f_2 v5_18 v4_6 v4_6.toNatClampNeg (f_1_1 v4_6 v6_23)); let v11_48 : Int64 := (v9_41 - v6_23); (if v11_48 < (0 : Int64) then (0 : Int32) else (if v11_48 < (v4_6.toInt64) then let v13_75 : Int64 := ((v5_18.toInt64) * (v4_6.toInt64)); let ms0_108 : Int32 := (if ((v11_48 + (1 : Int64)) * (1000 : Int64)) < v13_75 then (0 : Int32) else (if (v11_48 * (1000 : Int64)) < v13_75 then (1 : Int32) else (0 : Int32))); ms0_108 else (0 : Int32)))
def Q_0 (Z : State) (p0 : Int32) (p1 : Int32) (p2 : Int64)  (h0 : Heap) (n0 : Nat) (v : Option Value) (h : Heap) (L : List Loc) : Prop := v = some (.int (f_0 p0 p1 p2)) ∧ Fr n0 L ∧ True
set_option maxRecDepth 65536 in
set_option maxHeartbeats 40000000 in
theorem rm_0 (l : Launch) (Z : State) (a0 : Array Value) (hw : ∀ d ∈ tables_1, d.before a0 Z = true) (ws : List Jvm.Cond) (p0 : Int32) (p1 : Int32) (p2 : Int64)  (h0 : Heap) (n0 : Nat) (Z0 : n0 ≤ h0.size)  :
    MetFree l x (head1 (Jvm.Cond.code x code maxLocals ret :: ws) room_1) (fun a U => a = #[(.int p0), (.int p1), (.long p2)] ∧ Z.Warmed39 U.vm ∧ U.heap = h0) (fun _ _ _ _ _ => True) (fun _ U o U' => ∃ v L, o = .returned v ∧ Q_0 Z p0 p1 p2 h0 n0 v U'.heap L ∧ FrameEnd U o U' L 1 8) := by
  refine MetFree.of_bodySF (plainFor_of_name pn_0) hisR ?_
  intro p e s m args below meth c s₁ Bd hml0 hP hK
  obtain ⟨rfl, hZ, hh⟩ := hP
  have hx := Bd.exec
  have hby := Bd.bytes
  have hml : c.maxLocals = 15 := hml0
  have hown : s.vm.findClass "com/example/sequeue/sequeue/bench/FiguresPercentilePinLaw" = some m.cls := findClass_of_methodNamed Bd.named
  have hnm := (name_of_methodNamed Bd.named Bd.method).1
  have X0 : Stand p l e room_1 s m #[(.int p0), (.int p1), (.long p2)] below meth c s₁ [] 0 0 := Stand.of_body Bd
  have e0 : s₁.heap = h0 := by rw [← hh, Bd.state]; rfl
  have N0 := Fr.nil n0
  have K0 : Keep h0 h0 [] := Keep.refl h0 _
  have pre0 : ∀ t, Steps p.tables e below (s₁.setTop (mkF m 0 #[.val (.int p0), .val (.int p1), .val (.long p2), .second, .unset, .unset, .unset, .unset, .unset, .unset, .unset, .unset, .unset, .unset, .unset] [])) t → Steps p.tables e below (s₁.setTop (entryFrame m #[(.int p0), (.int p1), (.long p2)] maxLocals)) t := fun t k => castTop (ef_0 m p0 p1 p2) k
  obtain ⟨v4_6, hv4_6⟩ : ∃ z : Int32, z = ((1 : Int32) + (p0 &&& (7 : Int32))) := ⟨_, rfl⟩
  obtain ⟨v5_18, hv5_18⟩ : ∃ z : Int32, z = ((1 : Int32) + ((p1 &&& (2147483647 : Int32)) % (1000 : Int32))) := ⟨_, rfl⟩
  obtain ⟨v6_23, hv6_23⟩ : ∃ z : Int64, z = (p2 >>> ((4 : Int32) &&& 0x3f).toInt64) := ⟨_, rfl⟩
  have pre2 : ∀ t, Steps p.tables e below (s₁.setTop (mkF m 29 #[.val (.int p0), .val (.int p1), .val (.long p2), .second, .val (.int v4_6), .val (.int v5_18), .val (.long v6_23), .second, .unset, .unset, .unset, .unset, .unset, .unset, .unset] [(.long v6_23), (.int v4_6)])) t → Steps p.tables e below (s₁.setTop (entryFrame m #[(.int p0), (.int p1), (.long p2)] maxLocals)) t := by
    intro t k
    refine pre0 t ?_
    show Steps p.tables e below (s₁.setTop (mkF m 0 #[.val (.int p0), .val (.int p1), .val (.long p2), .second, .unset, .unset, .unset, .unset, .unset, .unset, .unset, .unset, .unset, .unset, .unset] [])) _
    refine XS.iconst X0.here hx rfl (hb hby at_0) ?_
    show Steps p.tables e below (s₁.setTop (mkF m 1 #[.val (.int p0), .val (.int p1), .val (.long p2), .second, .unset, .unset, .unset, .unset, .unset, .unset, .unset, .unset, .unset, .unset, .unset] [(.int (1 : Int32))])) _
    refine XS.iloadN X0.here hx rfl (hb hby at_1) rfl  ?_
    show Steps p.tables e below (s₁.setTop (mkF m 2 #[.val (.int p0), .val (.int p1), .val (.long p2), .second, .unset, .unset, .unset, .unset, .unset, .unset, .unset, .unset, .unset, .unset, .unset] [(.int p0), (.int (1 : Int32))])) _
    refine XS.bipush X0.here hx rfl (hb hby at_2) ?_
    show Steps p.tables e below (s₁.setTop (mkF m 4 #[.val (.int p0), .val (.int p1), .val (.long p2), .second, .unset, .unset, .unset, .unset, .unset, .unset, .unset, .unset, .unset, .unset, .unset] [(.int (7 : Int32)), (.int p0), (.int (1 : Int32))])) _
    refine XS.iand X0.here hx rfl (hb hby at_4) rfl ?_
    show Steps p.tables e below (s₁.setTop (mkF m 5 #[.val (.int p0), .val (.int p1), .val (.long p2), .second, .unset, .unset, .unset, .unset, .unset, .unset, .unset, .unset, .unset, .unset, .unset] [(.int (p0 &&& (7 : Int32))), (.int (1 : Int32))])) _
    refine XS.iadd X0.here hx rfl (hb hby at_5) rfl ?_
    show Steps p.tables e below (s₁.setTop (mkF m 6 #[.val (.int p0), .val (.int p1), .val (.long p2), .second, .unset, .unset, .unset, .unset, .unset, .unset, .unset, .unset, .unset, .unset, .unset] [(.int ((1 : Int32) + (p0 &&& (7 : Int32))))])) _
    refine XS.istore X0.here hx rfl (hb hby at_6) rfl (l' := #[.val (.int p0), .val (.int p1), .val (.long p2), .second, .val (.int v4_6), .unset, .unset, .unset, .unset, .unset, .unset, .unset, .unset, .unset, .unset]) (by rw [hv4_6]; rfl) ?_
    show Steps p.tables e below (s₁.setTop (mkF m 8 #[.val (.int p0), .val (.int p1), .val (.long p2), .second, .val (.int v4_6), .unset, .unset, .unset, .unset, .unset, .unset, .unset, .unset, .unset, .unset] [])) _
    refine XS.iconst X0.here hx rfl (hb hby at_8) ?_
    show Steps p.tables e below (s₁.setTop (mkF m 9 #[.val (.int p0), .val (.int p1), .val (.long p2), .second, .val (.int v4_6), .unset, .unset, .unset, .unset, .unset, .unset, .unset, .unset, .unset, .unset] [(.int (1 : Int32))])) _
    refine XS.iloadN X0.here hx rfl (hb hby at_9) rfl  ?_
    show Steps p.tables e below (s₁.setTop (mkF m 10 #[.val (.int p0), .val (.int p1), .val (.long p2), .second, .val (.int v4_6), .unset, .unset, .unset, .unset, .unset, .unset, .unset, .unset, .unset, .unset] [(.int p1), (.int (1 : Int32))])) _
    refine X0.ldcInt hx hown (mvT hZ (hw _ (List.mem_of_getElem? (i := 0) rfl))) (g := (mkF m 10 #[.val (.int p0), .val (.int p1), .val (.long p2), .second, .val (.int v4_6), .unset, .unset, .unset, .unset, .unset, .unset, .unset, .unset, .unset, .unset] [(.int p1), (.int (1 : Int32))])) rfl (hb hby at_10) _ ?_
    show Steps p.tables e below (s₁.setTop (mkF m 12 #[.val (.int p0), .val (.int p1), .val (.long p2), .second, .val (.int v4_6), .unset, .unset, .unset, .unset, .unset, .unset, .unset, .unset, .unset, .unset] [(.int (2147483647 : Int32)), (.int p1), (.int (1 : Int32))])) _
    refine XS.iand X0.here hx rfl (hb hby at_12) rfl ?_
    show Steps p.tables e below (s₁.setTop (mkF m 13 #[.val (.int p0), .val (.int p1), .val (.long p2), .second, .val (.int v4_6), .unset, .unset, .unset, .unset, .unset, .unset, .unset, .unset, .unset, .unset] [(.int (p1 &&& (2147483647 : Int32))), (.int (1 : Int32))])) _
    refine XS.sipush X0.here hx rfl (hb hby at_13) ?_
    show Steps p.tables e below (s₁.setTop (mkF m 16 #[.val (.int p0), .val (.int p1), .val (.long p2), .second, .val (.int v4_6), .unset, .unset, .unset, .unset, .unset, .unset, .unset, .unset, .unset, .unset] [(.int (1000 : Int32)), (.int (p1 &&& (2147483647 : Int32))), (.int (1 : Int32))])) _
    refine iremM X0 hx rfl (hb hby at_16) rfl (by decide) ?_
    show Steps p.tables e below (s₁.setTop (mkF m 17 #[.val (.int p0), .val (.int p1), .val (.long p2), .second, .val (.int v4_6), .unset, .unset, .unset, .unset, .unset, .unset, .unset, .unset, .unset, .unset] [(.int ((p1 &&& (2147483647 : Int32)) % (1000 : Int32))), (.int (1 : Int32))])) _
    refine XS.iadd X0.here hx rfl (hb hby at_17) rfl ?_
    show Steps p.tables e below (s₁.setTop (mkF m 18 #[.val (.int p0), .val (.int p1), .val (.long p2), .second, .val (.int v4_6), .unset, .unset, .unset, .unset, .unset, .unset, .unset, .unset, .unset, .unset] [(.int ((1 : Int32) + ((p1 &&& (2147483647 : Int32)) % (1000 : Int32))))])) _
    refine XS.istore X0.here hx rfl (hb hby at_18) rfl (l' := #[.val (.int p0), .val (.int p1), .val (.long p2), .second, .val (.int v4_6), .val (.int v5_18), .unset, .unset, .unset, .unset, .unset, .unset, .unset, .unset, .unset]) (by rw [hv5_18]; rfl) ?_
    show Steps p.tables e below (s₁.setTop (mkF m 20 #[.val (.int p0), .val (.int p1), .val (.long p2), .second, .val (.int v4_6), .val (.int v5_18), .unset, .unset, .unset, .unset, .unset, .unset, .unset, .unset, .unset] [])) _
    refine XS.lloadN X0.here hx rfl (hb hby at_20) rfl  ?_
    show Steps p.tables e below (s₁.setTop (mkF m 21 #[.val (.int p0), .val (.int p1), .val (.long p2), .second, .val (.int v4_6), .val (.int v5_18), .unset, .unset, .unset, .unset, .unset, .unset, .unset, .unset, .unset] [(.long p2)])) _
    refine XS.iconst X0.here hx rfl (hb hby at_21) ?_
    show Steps p.tables e below (s₁.setTop (mkF m 22 #[.val (.int p0), .val (.int p1), .val (.long p2), .second, .val (.int v4_6), .val (.int v5_18), .unset, .unset, .unset, .unset, .unset, .unset, .unset, .unset, .unset] [(.int (4 : Int32)), (.long p2)])) _
    refine XS.lshr X0.here hx rfl (hb hby at_22) rfl ?_
    show Steps p.tables e below (s₁.setTop (mkF m 23 #[.val (.int p0), .val (.int p1), .val (.long p2), .second, .val (.int v4_6), .val (.int v5_18), .unset, .unset, .unset, .unset, .unset, .unset, .unset, .unset, .unset] [(.long (p2 >>> ((4 : Int32) &&& 0x3f).toInt64))])) _
    refine XS.lstore X0.here hx rfl (hb hby at_23) rfl (l' := #[.val (.int p0), .val (.int p1), .val (.long p2), .second, .val (.int v4_6), .val (.int v5_18), .val (.long v6_23), .second, .unset, .unset, .unset, .unset, .unset, .unset, .unset]) (by rw [hv6_23]; rfl) ?_
    show Steps p.tables e below (s₁.setTop (mkF m 25 #[.val (.int p0), .val (.int p1), .val (.long p2), .second, .val (.int v4_6), .val (.int v5_18), .val (.long v6_23), .second, .unset, .unset, .unset, .unset, .unset, .unset, .unset] [])) _
    refine XS.iload X0.here hx rfl (hb hby at_25) rfl  ?_
    show Steps p.tables e below (s₁.setTop (mkF m 27 #[.val (.int p0), .val (.int p1), .val (.long p2), .second, .val (.int v4_6), .val (.int v5_18), .val (.long v6_23), .second, .unset, .unset, .unset, .unset, .unset, .unset, .unset] [(.int v4_6)])) _
    refine XS.lload X0.here hx rfl (hb hby at_27) rfl  ?_
    exact k
  obtain ⟨_, _, ⟨T1, L1, k1, n1⟩, -, X1, ⟨Lc1, hQ1, l1, y1, z1⟩, st1⟩ := Jvm.LawKit.callS X0 hx (y := (⟨"com/example/sequeue/sequeue/bench/FiguresPercentilePinLaw", "build", "(IJ)[J"⟩ : MethodName)) hown (mvT hZ (hw _ (List.mem_of_getElem? (i := 1) rfl))) (mvT hZ (hw _ (List.mem_of_getElem? (i := 2) rfl))) (mvT hZ (hw _ (List.mem_of_getElem? (i := 3) rfl))) (mvT hZ (hw _ (List.mem_of_getElem? (i := 4) rfl))) (by decide) (backOf (W := 0) (rm_1 l Z a0 hw [] v4_6 v6_23 h0 n0 Z0 (by rw [hv4_6]; exact own_n p0)) hZ (hw _ (List.mem_of_getElem? (i := 4) rfl)) (hw _ (List.mem_of_getElem? (i := 3) rfl)) (by decide) (by decide)) (g := (mkF m 29 #[.val (.int p0), .val (.int p1), .val (.long p2), .second, .val (.int v4_6), .val (.int v5_18), .val (.long v6_23), .second, .unset, .unset, .unset, .unset, .unset, .unset, .unset] [(.long v6_23), (.int v4_6)])) rfl (by rw [hml]; rfl) (argsL := [(.int v4_6), (.long v6_23)]) (rest := []) (lenOf pd_0 rfl) rfl (by show 2 * 0 + _ ≤ _; exact Nat.le_of_eq rfl) (hb hby at_29) (fun _ _ => ⟨rfl, e0, (by decide : 0 + 1 ≤ _), (by decide : 0 + 8 ≤ _)⟩)
  dsimp only [Pt.U, Pt.locs, Pt.cells, Pt.slots] at X1 l1 y1 z1 st1 hQ1
  subst l1 y1 z1
  obtain ⟨r_1, rfl, N1q, sz0_r_1, Kc1, Q1_0⟩ := hQ1
  have Kd1 : Keep h0 T1.heap [] := Kc1
  have sz_r_1 : h0.size ≤ r_1 := Nat.le_trans K0.1 sz0_r_1
  have ge_r_1 : n0 ≤ r_1 := Nat.le_trans Z0 sz0_r_1
  have K1 := K0.trans Kd1 all0
  have Z1 := Nat.le_trans Z0 Kd1.1
  have N1 := Fr.app N0 N1q
  have pre4 : ∀ t, Steps p.tables e below (T1.setTop (mkF m 38 #[.val (.int p0), .val (.int p1), .val (.long p2), .second, .val (.int v4_6), .val (.int v5_18), .val (.long v6_23), .second, .val (.ref r_1), .unset, .unset, .unset, .unset, .unset, .unset] [(.int v5_18), (.ref r_1)])) t → Steps p.tables e below (s₁.setTop (entryFrame m #[(.int p0), (.int p1), (.long p2)] maxLocals)) t := by
    intro t k
    refine pre2 t ?_
    show Steps p.tables e below (s₁.setTop (mkF m 29 #[.val (.int p0), .val (.int p1), .val (.long p2), .second, .val (.int v4_6), .val (.int v5_18), .val (.long v6_23), .second, .unset, .unset, .unset, .unset, .unset, .unset, .unset] [(.long v6_23), (.int v4_6)])) _
    refine st1 _ ?_
    show Steps p.tables e below (T1.setTop (mkF m 32 #[.val (.int p0), .val (.int p1), .val (.long p2), .second, .val (.int v4_6), .val (.int v5_18), .val (.long v6_23), .second, .unset, .unset, .unset, .unset, .unset, .unset, .unset] [(.ref r_1)])) _
    refine XS.astore X1.here hx rfl (hb hby at_32) rfl rfl (l' := #[.val (.int p0), .val (.int p1), .val (.long p2), .second, .val (.int v4_6), .val (.int v5_18), .val (.long v6_23), .second, .val (.ref r_1), .unset, .unset, .unset, .unset, .unset, .unset]) rfl ?_
    show Steps p.tables e below (T1.setTop (mkF m 34 #[.val (.int p0), .val (.int p1), .val (.long p2), .second, .val (.int v4_6), .val (.int v5_18), .val (.long v6_23), .second, .val (.ref r_1), .unset, .unset, .unset, .unset, .unset, .unset] [])) _
    refine XS.aload X1.here hx rfl (hb hby at_34) rfl rfl ?_
    show Steps p.tables e below (T1.setTop (mkF m 36 #[.val (.int p0), .val (.int p1), .val (.long p2), .second, .val (.int v4_6), .val (.int v5_18), .val (.long v6_23), .second, .val (.ref r_1), .unset, .unset, .unset, .unset, .unset, .unset] [(.ref r_1)])) _
    refine XS.iload X1.here hx rfl (hb hby at_36) rfl  ?_
    exact k
  obtain ⟨_, _, ⟨T3, L3, k3, n3⟩, -, X3, ⟨Lc3, hQ3, l3, y3, z3⟩, st3⟩ := Jvm.LawKit.callS X1 hx (y := (⟨"com/example/sequeue/sequeue/bench/Figures", "percentile", "([JI)J"⟩ : MethodName)) hown (mvT hZ (hw _ (List.mem_of_getElem? (i := 6) rfl))) (mvT hZ (hw _ (List.mem_of_getElem? (i := 7) rfl))) (mvT hZ (hw _ (List.mem_of_getElem? (i := 8) rfl))) (mvT hZ (hw _ (List.mem_of_getElem? (i := 9) rfl))) (by decide) (backOf (W := 0) (rm_2 l Z a0 hw [] r_1 v5_18 v4_6 v4_6.toNatClampNeg (f_1_1 v4_6 v6_23) T1.heap n0 Z1 Q1_0 (own_back (by rw [hv4_6]; exact own_n p0)) (own_idx v4_6 v5_18 (by rw [hv4_6]; exact own_n p0) (by rw [hv5_18]; exact own_pm p1))) hZ (hw _ (List.mem_of_getElem? (i := 9) rfl)) (hw _ (List.mem_of_getElem? (i := 8) rfl)) (by decide) (by decide)) (g := (mkF m 38 #[.val (.int p0), .val (.int p1), .val (.long p2), .second, .val (.int v4_6), .val (.int v5_18), .val (.long v6_23), .second, .val (.ref r_1), .unset, .unset, .unset, .unset, .unset, .unset] [(.int v5_18), (.ref r_1)])) rfl (by rw [hml]; rfl) (argsL := [(.ref r_1), (.int v5_18)]) (rest := []) (lenOf pd_1 rfl) rfl (by show 2 * 0 + _ ≤ _; exact Nat.le_of_eq rfl) (hb hby at_38) (fun _ _ => ⟨rfl, rfl, (by decide : 1 + 0 ≤ _), (by decide : 8 + 0 ≤ _)⟩)
  dsimp only [Pt.U, Pt.locs, Pt.cells, Pt.slots] at X3 l3 y3 z3 st3 hQ3
  subst l3 y3 z3
  obtain ⟨rfl, N3q, e3⟩ := hQ3
  have N3 := Fr.app N1 N3q
  obtain ⟨v9_41, hv9_41⟩ : ∃ z : Int64, z = (f_2 v5_18 v4_6 v4_6.toNatClampNeg (f_1_1 v4_6 v6_23)) := ⟨_, rfl⟩
  obtain ⟨v11_48, hv11_48⟩ : ∃ z : Int64, z = (v9_41 - v6_23) := ⟨_, rfl⟩
  have pre5 : ∀ t, Steps p.tables e below (T3.setTop (mkF m 54 #[.val (.int p0), .val (.int p1), .val (.long p2), .second, .val (.int v4_6), .val (.int v5_18), .val (.long v6_23), .second, .val (.ref r_1), .val (.long v9_41), .second, .val (.long v11_48), .second, .unset, .unset] [(.int (lcmpW v11_48 (0 : Int64)))])) t → Steps p.tables e below (s₁.setTop (entryFrame m #[(.int p0), (.int p1), (.long p2)] maxLocals)) t := by
    intro t k
    refine pre4 t ?_
    show Steps p.tables e below (T1.setTop (mkF m 38 #[.val (.int p0), .val (.int p1), .val (.long p2), .second, .val (.int v4_6), .val (.int v5_18), .val (.long v6_23), .second, .val (.ref r_1), .unset, .unset, .unset, .unset, .unset, .unset] [(.int v5_18), (.ref r_1)])) _
    refine st3 _ ?_
    show Steps p.tables e below (T3.setTop (mkF m 41 #[.val (.int p0), .val (.int p1), .val (.long p2), .second, .val (.int v4_6), .val (.int v5_18), .val (.long v6_23), .second, .val (.ref r_1), .unset, .unset, .unset, .unset, .unset, .unset] [(.long (f_2 v5_18 v4_6 v4_6.toNatClampNeg (f_1_1 v4_6 v6_23)))])) _
    refine XS.lstore X3.here hx rfl (hb hby at_41) rfl (l' := #[.val (.int p0), .val (.int p1), .val (.long p2), .second, .val (.int v4_6), .val (.int v5_18), .val (.long v6_23), .second, .val (.ref r_1), .val (.long v9_41), .second, .unset, .unset, .unset, .unset]) (by rw [hv9_41]; rfl) ?_
    show Steps p.tables e below (T3.setTop (mkF m 43 #[.val (.int p0), .val (.int p1), .val (.long p2), .second, .val (.int v4_6), .val (.int v5_18), .val (.long v6_23), .second, .val (.ref r_1), .val (.long v9_41), .second, .unset, .unset, .unset, .unset] [])) _
    refine XS.lload X3.here hx rfl (hb hby at_43) rfl  ?_
    show Steps p.tables e below (T3.setTop (mkF m 45 #[.val (.int p0), .val (.int p1), .val (.long p2), .second, .val (.int v4_6), .val (.int v5_18), .val (.long v6_23), .second, .val (.ref r_1), .val (.long v9_41), .second, .unset, .unset, .unset, .unset] [(.long v9_41)])) _
    refine XS.lload X3.here hx rfl (hb hby at_45) rfl  ?_
    show Steps p.tables e below (T3.setTop (mkF m 47 #[.val (.int p0), .val (.int p1), .val (.long p2), .second, .val (.int v4_6), .val (.int v5_18), .val (.long v6_23), .second, .val (.ref r_1), .val (.long v9_41), .second, .unset, .unset, .unset, .unset] [(.long v6_23), (.long v9_41)])) _
    refine XS.lsub X3.here hx rfl (hb hby at_47) rfl ?_
    show Steps p.tables e below (T3.setTop (mkF m 48 #[.val (.int p0), .val (.int p1), .val (.long p2), .second, .val (.int v4_6), .val (.int v5_18), .val (.long v6_23), .second, .val (.ref r_1), .val (.long v9_41), .second, .unset, .unset, .unset, .unset] [(.long (v9_41 - v6_23))])) _
    refine XS.lstore X3.here hx rfl (hb hby at_48) rfl (l' := #[.val (.int p0), .val (.int p1), .val (.long p2), .second, .val (.int v4_6), .val (.int v5_18), .val (.long v6_23), .second, .val (.ref r_1), .val (.long v9_41), .second, .val (.long v11_48), .second, .unset, .unset]) (by rw [hv11_48]; rfl) ?_
    show Steps p.tables e below (T3.setTop (mkF m 50 #[.val (.int p0), .val (.int p1), .val (.long p2), .second, .val (.int v4_6), .val (.int v5_18), .val (.long v6_23), .second, .val (.ref r_1), .val (.long v9_41), .second, .val (.long v11_48), .second, .unset, .unset] [])) _
    refine XS.lload X3.here hx rfl (hb hby at_50) rfl  ?_
    show Steps p.tables e below (T3.setTop (mkF m 52 #[.val (.int p0), .val (.int p1), .val (.long p2), .second, .val (.int v4_6), .val (.int v5_18), .val (.long v6_23), .second, .val (.ref r_1), .val (.long v9_41), .second, .val (.long v11_48), .second, .unset, .unset] [(.long v11_48)])) _
    refine XS.lconst X3.here hx rfl (hb hby at_52) ?_
    show Steps p.tables e below (T3.setTop (mkF m 53 #[.val (.int p0), .val (.int p1), .val (.long p2), .second, .val (.int v4_6), .val (.int v5_18), .val (.long v6_23), .second, .val (.ref r_1), .val (.long v9_41), .second, .val (.long v11_48), .second, .unset, .unset] [(.long (0 : Int64)), (.long v11_48)])) _
    refine XS.lcmp X3.here hx rfl (hb hby at_53) rfl ?_
    exact k
  by_cases hc54 : v11_48 < (0 : Int64)
  · obtain ⟨fs, hr, hrun, hended, hW, hsame⟩ := X3.leave (v := some (.int (0 : Int32))) (fun h => by rw [Bd.returns] at h; cases h)
    refine ⟨_, _, pre5 _ ?_, hrun, hended, _, _, rfl, ?_, ⟨_, rfl⟩, hW, hsame.mono (by decide) (by decide)⟩
    · show Steps p.tables e below (T3.setTop (mkF m 54 #[.val (.int p0), .val (.int p1), .val (.long p2), .second, .val (.int v4_6), .val (.int v5_18), .val (.long v6_23), .second, .val (.ref r_1), .val (.long v9_41), .second, .val (.long v11_48), .second, .unset, .unset] [(.int (lcmpW v11_48 (0 : Int64)))])) _
      refine XS.ifYes X3.here hx rfl (pc0 := 54) (pc' := 66) rfl (hb hby at_54) rfl ((if0 _ _).trans (tlt ((lw_lt _ _).mpr hc54)).1) (by decide) (by decide) ?_
      show Steps p.tables e below (T3.setTop (mkF m 66 #[.val (.int p0), .val (.int p1), .val (.long p2), .second, .val (.int v4_6), .val (.int v5_18), .val (.long v6_23), .second, .val (.ref r_1), .val (.long v9_41), .second, .val (.long v11_48), .second, .unset, .unset] [])) _
      refine XS.iconst X3.here hx rfl (hb hby at_66) ?_
      show Steps p.tables e below (T3.setTop (mkF m 67 #[.val (.int p0), .val (.int p1), .val (.long p2), .second, .val (.int v4_6), .val (.int v5_18), .val (.long v6_23), .second, .val (.ref r_1), .val (.long v9_41), .second, .val (.long v11_48), .second, .unset, .unset] [(.int (0 : Int32))])) _
      exact retN X3 hx (t := .boolean) Bd.returns (by simp) (hb hby at_67) hr
    · show Q_0 Z p0 p1 p2 h0 n0 _ T3.heap _
      rw [e3]
      exact ⟨congrArg (fun z => some (Value.int z)) (by subst hv4_6 hv5_18 hv6_23 hv9_41 hv11_48; exact (if_pos hc54).symm : (0 : Int32) = f_0 p0 p1 p2), N3, trivial⟩
  · have pre6 : ∀ t, Steps p.tables e below (T3.setTop (mkF m 63 #[.val (.int p0), .val (.int p1), .val (.long p2), .second, .val (.int v4_6), .val (.int v5_18), .val (.long v6_23), .second, .val (.ref r_1), .val (.long v9_41), .second, .val (.long v11_48), .second, .unset, .unset] [(.int (lcmpW v11_48 (v4_6.toInt64)))])) t → Steps p.tables e below (s₁.setTop (entryFrame m #[(.int p0), (.int p1), (.long p2)] maxLocals)) t := by
      intro t k
      refine pre5 t ?_
      show Steps p.tables e below (T3.setTop (mkF m 54 #[.val (.int p0), .val (.int p1), .val (.long p2), .second, .val (.int v4_6), .val (.int v5_18), .val (.long v6_23), .second, .val (.ref r_1), .val (.long v9_41), .second, .val (.long v11_48), .second, .unset, .unset] [(.int (lcmpW v11_48 (0 : Int64)))])) _
      refine XS.ifNo X3.here hx rfl (hb hby at_54) rfl ((if0 _ _).trans (flt (fun q => hc54 ((lw_lt _ _).mp q))).1) ?_
      show Steps p.tables e below (T3.setTop (mkF m 57 #[.val (.int p0), .val (.int p1), .val (.long p2), .second, .val (.int v4_6), .val (.int v5_18), .val (.long v6_23), .second, .val (.ref r_1), .val (.long v9_41), .second, .val (.long v11_48), .second, .unset, .unset] [])) _
      refine XS.lload X3.here hx rfl (hb hby at_57) rfl  ?_
      show Steps p.tables e below (T3.setTop (mkF m 59 #[.val (.int p0), .val (.int p1), .val (.long p2), .second, .val (.int v4_6), .val (.int v5_18), .val (.long v6_23), .second, .val (.ref r_1), .val (.long v9_41), .second, .val (.long v11_48), .second, .unset, .unset] [(.long v11_48)])) _
      refine XS.iload X3.here hx rfl (hb hby at_59) rfl  ?_
      show Steps p.tables e below (T3.setTop (mkF m 61 #[.val (.int p0), .val (.int p1), .val (.long p2), .second, .val (.int v4_6), .val (.int v5_18), .val (.long v6_23), .second, .val (.ref r_1), .val (.long v9_41), .second, .val (.long v11_48), .second, .unset, .unset] [(.int v4_6), (.long v11_48)])) _
      refine XS.i2l X3.here hx rfl (hb hby at_61) rfl ?_
      show Steps p.tables e below (T3.setTop (mkF m 62 #[.val (.int p0), .val (.int p1), .val (.long p2), .second, .val (.int v4_6), .val (.int v5_18), .val (.long v6_23), .second, .val (.ref r_1), .val (.long v9_41), .second, .val (.long v11_48), .second, .unset, .unset] [(.long (v4_6.toInt64)), (.long v11_48)])) _
      refine XS.lcmp X3.here hx rfl (hb hby at_62) rfl ?_
      exact k
    by_cases hc63 : v11_48 < (v4_6.toInt64)
    · obtain ⟨v13_75, hv13_75⟩ : ∃ z : Int64, z = ((v5_18.toInt64) * (v4_6.toInt64)) := ⟨_, rfl⟩
      have pre7 : ∀ t, Steps p.tables e below (T3.setTop (mkF m 88 #[.val (.int p0), .val (.int p1), .val (.long p2), .second, .val (.int v4_6), .val (.int v5_18), .val (.long v6_23), .second, .val (.ref r_1), .val (.long v9_41), .second, .val (.long v11_48), .second, .val (.long v13_75), .second] [(.int (lcmpW ((v11_48 + (1 : Int64)) * (1000 : Int64)) v13_75))])) t → Steps p.tables e below (s₁.setTop (entryFrame m #[(.int p0), (.int p1), (.long p2)] maxLocals)) t := by
        intro t k
        refine pre6 t ?_
        show Steps p.tables e below (T3.setTop (mkF m 63 #[.val (.int p0), .val (.int p1), .val (.long p2), .second, .val (.int v4_6), .val (.int v5_18), .val (.long v6_23), .second, .val (.ref r_1), .val (.long v9_41), .second, .val (.long v11_48), .second, .unset, .unset] [(.int (lcmpW v11_48 (v4_6.toInt64)))])) _
        refine XS.ifYes X3.here hx rfl (pc0 := 63) (pc' := 68) rfl (hb hby at_63) rfl ((if0 _ _).trans (tlt ((lw_lt _ _).mpr hc63)).1) (by decide) (by decide) ?_
        show Steps p.tables e below (T3.setTop (mkF m 68 #[.val (.int p0), .val (.int p1), .val (.long p2), .second, .val (.int v4_6), .val (.int v5_18), .val (.long v6_23), .second, .val (.ref r_1), .val (.long v9_41), .second, .val (.long v11_48), .second, .unset, .unset] [])) _
        refine XS.iload X3.here hx rfl (hb hby at_68) rfl  ?_
        show Steps p.tables e below (T3.setTop (mkF m 70 #[.val (.int p0), .val (.int p1), .val (.long p2), .second, .val (.int v4_6), .val (.int v5_18), .val (.long v6_23), .second, .val (.ref r_1), .val (.long v9_41), .second, .val (.long v11_48), .second, .unset, .unset] [(.int v5_18)])) _
        refine XS.i2l X3.here hx rfl (hb hby at_70) rfl ?_
        show Steps p.tables e below (T3.setTop (mkF m 71 #[.val (.int p0), .val (.int p1), .val (.long p2), .second, .val (.int v4_6), .val (.int v5_18), .val (.long v6_23), .second, .val (.ref r_1), .val (.long v9_41), .second, .val (.long v11_48), .second, .unset, .unset] [(.long (v5_18.toInt64))])) _
        refine XS.iload X3.here hx rfl (hb hby at_71) rfl  ?_
        show Steps p.tables e below (T3.setTop (mkF m 73 #[.val (.int p0), .val (.int p1), .val (.long p2), .second, .val (.int v4_6), .val (.int v5_18), .val (.long v6_23), .second, .val (.ref r_1), .val (.long v9_41), .second, .val (.long v11_48), .second, .unset, .unset] [(.int v4_6), (.long (v5_18.toInt64))])) _
        refine XS.i2l X3.here hx rfl (hb hby at_73) rfl ?_
        show Steps p.tables e below (T3.setTop (mkF m 74 #[.val (.int p0), .val (.int p1), .val (.long p2), .second, .val (.int v4_6), .val (.int v5_18), .val (.long v6_23), .second, .val (.ref r_1), .val (.long v9_41), .second, .val (.long v11_48), .second, .unset, .unset] [(.long (v4_6.toInt64)), (.long (v5_18.toInt64))])) _
        refine XS.lmul X3.here hx rfl (hb hby at_74) rfl ?_
        show Steps p.tables e below (T3.setTop (mkF m 75 #[.val (.int p0), .val (.int p1), .val (.long p2), .second, .val (.int v4_6), .val (.int v5_18), .val (.long v6_23), .second, .val (.ref r_1), .val (.long v9_41), .second, .val (.long v11_48), .second, .unset, .unset] [(.long ((v5_18.toInt64) * (v4_6.toInt64)))])) _
        refine XS.lstore X3.here hx rfl (hb hby at_75) rfl (l' := #[.val (.int p0), .val (.int p1), .val (.long p2), .second, .val (.int v4_6), .val (.int v5_18), .val (.long v6_23), .second, .val (.ref r_1), .val (.long v9_41), .second, .val (.long v11_48), .second, .val (.long v13_75), .second]) (by rw [hv13_75]; rfl) ?_
        show Steps p.tables e below (T3.setTop (mkF m 77 #[.val (.int p0), .val (.int p1), .val (.long p2), .second, .val (.int v4_6), .val (.int v5_18), .val (.long v6_23), .second, .val (.ref r_1), .val (.long v9_41), .second, .val (.long v11_48), .second, .val (.long v13_75), .second] [])) _
        refine XS.lload X3.here hx rfl (hb hby at_77) rfl  ?_
        show Steps p.tables e below (T3.setTop (mkF m 79 #[.val (.int p0), .val (.int p1), .val (.long p2), .second, .val (.int v4_6), .val (.int v5_18), .val (.long v6_23), .second, .val (.ref r_1), .val (.long v9_41), .second, .val (.long v11_48), .second, .val (.long v13_75), .second] [(.long v11_48)])) _
        refine XS.lconst X3.here hx rfl (hb hby at_79) ?_
        show Steps p.tables e below (T3.setTop (mkF m 80 #[.val (.int p0), .val (.int p1), .val (.long p2), .second, .val (.int v4_6), .val (.int v5_18), .val (.long v6_23), .second, .val (.ref r_1), .val (.long v9_41), .second, .val (.long v11_48), .second, .val (.long v13_75), .second] [(.long (1 : Int64)), (.long v11_48)])) _
        refine XS.ladd X3.here hx rfl (hb hby at_80) rfl ?_
        show Steps p.tables e below (T3.setTop (mkF m 81 #[.val (.int p0), .val (.int p1), .val (.long p2), .second, .val (.int v4_6), .val (.int v5_18), .val (.long v6_23), .second, .val (.ref r_1), .val (.long v9_41), .second, .val (.long v11_48), .second, .val (.long v13_75), .second] [(.long (v11_48 + (1 : Int64)))])) _
        refine X3.ldc2Long hx hown (mvT hZ (hw _ (List.mem_of_getElem? (i := 12) rfl))) (g := (mkF m 81 #[.val (.int p0), .val (.int p1), .val (.long p2), .second, .val (.int v4_6), .val (.int v5_18), .val (.long v6_23), .second, .val (.ref r_1), .val (.long v9_41), .second, .val (.long v11_48), .second, .val (.long v13_75), .second] [(.long (v11_48 + (1 : Int64)))])) rfl (hb hby at_81) _ ?_
        show Steps p.tables e below (T3.setTop (mkF m 84 #[.val (.int p0), .val (.int p1), .val (.long p2), .second, .val (.int v4_6), .val (.int v5_18), .val (.long v6_23), .second, .val (.ref r_1), .val (.long v9_41), .second, .val (.long v11_48), .second, .val (.long v13_75), .second] [(.long (1000 : Int64)), (.long (v11_48 + (1 : Int64)))])) _
        refine XS.lmul X3.here hx rfl (hb hby at_84) rfl ?_
        show Steps p.tables e below (T3.setTop (mkF m 85 #[.val (.int p0), .val (.int p1), .val (.long p2), .second, .val (.int v4_6), .val (.int v5_18), .val (.long v6_23), .second, .val (.ref r_1), .val (.long v9_41), .second, .val (.long v11_48), .second, .val (.long v13_75), .second] [(.long ((v11_48 + (1 : Int64)) * (1000 : Int64)))])) _
        refine XS.lload X3.here hx rfl (hb hby at_85) rfl  ?_
        show Steps p.tables e below (T3.setTop (mkF m 87 #[.val (.int p0), .val (.int p1), .val (.long p2), .second, .val (.int v4_6), .val (.int v5_18), .val (.long v6_23), .second, .val (.ref r_1), .val (.long v9_41), .second, .val (.long v11_48), .second, .val (.long v13_75), .second] [(.long v13_75), (.long ((v11_48 + (1 : Int64)) * (1000 : Int64)))])) _
        refine XS.lcmp X3.here hx rfl (hb hby at_87) rfl ?_
        exact k
      obtain ⟨ms0_108, hms0_108⟩ : ∃ z : Int32, z = (if ((v11_48 + (1 : Int64)) * (1000 : Int64)) < v13_75 then (0 : Int32) else (if (v11_48 * (1000 : Int64)) < v13_75 then (1 : Int32) else (0 : Int32))) := ⟨_, rfl⟩
      have pre8 : ∀ t, Steps p.tables e below (T3.setTop (mkF m 108 #[.val (.int p0), .val (.int p1), .val (.long p2), .second, .val (.int v4_6), .val (.int v5_18), .val (.long v6_23), .second, .val (.ref r_1), .val (.long v9_41), .second, .val (.long v11_48), .second, .val (.long v13_75), .second] [(.int ms0_108)])) t → Steps p.tables e below (s₁.setTop (entryFrame m #[(.int p0), (.int p1), (.long p2)] maxLocals)) t := by
        intro t k
        refine pre7 t ?_
        by_cases hc88 : ((v11_48 + (1 : Int64)) * (1000 : Int64)) < v13_75
        · show Steps p.tables e below (T3.setTop (mkF m 88 #[.val (.int p0), .val (.int p1), .val (.long p2), .second, .val (.int v4_6), .val (.int v5_18), .val (.long v6_23), .second, .val (.ref r_1), .val (.long v9_41), .second, .val (.long v11_48), .second, .val (.long v13_75), .second] [(.int (lcmpW ((v11_48 + (1 : Int64)) * (1000 : Int64)) v13_75))])) _
          refine XS.ifYes X3.here hx rfl (pc0 := 88) (pc' := 107) rfl (hb hby at_88) rfl ((if0 _ _).trans (tlt ((lw_lt _ _).mpr hc88)).1) (by decide) (by decide) ?_
          show Steps p.tables e below (T3.setTop (mkF m 107 #[.val (.int p0), .val (.int p1), .val (.long p2), .second, .val (.int v4_6), .val (.int v5_18), .val (.long v6_23), .second, .val (.ref r_1), .val (.long v9_41), .second, .val (.long v11_48), .second, .val (.long v13_75), .second] [])) _
          refine XS.iconst X3.here hx rfl (hb hby at_107) ?_
          have qms0_108 : ms0_108 = (0 : Int32) := by rw [hms0_108, if_pos hc88]
          rw [qms0_108] at k
          exact k
        · show Steps p.tables e below (T3.setTop (mkF m 88 #[.val (.int p0), .val (.int p1), .val (.long p2), .second, .val (.int v4_6), .val (.int v5_18), .val (.long v6_23), .second, .val (.ref r_1), .val (.long v9_41), .second, .val (.long v11_48), .second, .val (.long v13_75), .second] [(.int (lcmpW ((v11_48 + (1 : Int64)) * (1000 : Int64)) v13_75))])) _
          refine XS.ifNo X3.here hx rfl (hb hby at_88) rfl ((if0 _ _).trans (flt (fun q => hc88 ((lw_lt _ _).mp q))).1) ?_
          show Steps p.tables e below (T3.setTop (mkF m 91 #[.val (.int p0), .val (.int p1), .val (.long p2), .second, .val (.int v4_6), .val (.int v5_18), .val (.long v6_23), .second, .val (.ref r_1), .val (.long v9_41), .second, .val (.long v11_48), .second, .val (.long v13_75), .second] [])) _
          refine XS.lload X3.here hx rfl (hb hby at_91) rfl  ?_
          show Steps p.tables e below (T3.setTop (mkF m 93 #[.val (.int p0), .val (.int p1), .val (.long p2), .second, .val (.int v4_6), .val (.int v5_18), .val (.long v6_23), .second, .val (.ref r_1), .val (.long v9_41), .second, .val (.long v11_48), .second, .val (.long v13_75), .second] [(.long v11_48)])) _
          refine X3.ldc2Long hx hown (mvT hZ (hw _ (List.mem_of_getElem? (i := 12) rfl))) (g := (mkF m 93 #[.val (.int p0), .val (.int p1), .val (.long p2), .second, .val (.int v4_6), .val (.int v5_18), .val (.long v6_23), .second, .val (.ref r_1), .val (.long v9_41), .second, .val (.long v11_48), .second, .val (.long v13_75), .second] [(.long v11_48)])) rfl (hb hby at_93) _ ?_
          show Steps p.tables e below (T3.setTop (mkF m 96 #[.val (.int p0), .val (.int p1), .val (.long p2), .second, .val (.int v4_6), .val (.int v5_18), .val (.long v6_23), .second, .val (.ref r_1), .val (.long v9_41), .second, .val (.long v11_48), .second, .val (.long v13_75), .second] [(.long (1000 : Int64)), (.long v11_48)])) _
          refine XS.lmul X3.here hx rfl (hb hby at_96) rfl ?_
          show Steps p.tables e below (T3.setTop (mkF m 97 #[.val (.int p0), .val (.int p1), .val (.long p2), .second, .val (.int v4_6), .val (.int v5_18), .val (.long v6_23), .second, .val (.ref r_1), .val (.long v9_41), .second, .val (.long v11_48), .second, .val (.long v13_75), .second] [(.long (v11_48 * (1000 : Int64)))])) _
          refine XS.lload X3.here hx rfl (hb hby at_97) rfl  ?_
          show Steps p.tables e below (T3.setTop (mkF m 99 #[.val (.int p0), .val (.int p1), .val (.long p2), .second, .val (.int v4_6), .val (.int v5_18), .val (.long v6_23), .second, .val (.ref r_1), .val (.long v9_41), .second, .val (.long v11_48), .second, .val (.long v13_75), .second] [(.long v13_75), (.long (v11_48 * (1000 : Int64)))])) _
          refine XS.lcmp X3.here hx rfl (hb hby at_99) rfl ?_
          by_cases hc100 : (v11_48 * (1000 : Int64)) < v13_75
          · show Steps p.tables e below (T3.setTop (mkF m 100 #[.val (.int p0), .val (.int p1), .val (.long p2), .second, .val (.int v4_6), .val (.int v5_18), .val (.long v6_23), .second, .val (.ref r_1), .val (.long v9_41), .second, .val (.long v11_48), .second, .val (.long v13_75), .second] [(.int (lcmpW (v11_48 * (1000 : Int64)) v13_75))])) _
            refine XS.ifNo X3.here hx rfl (hb hby at_100) rfl ((if0 _ _).trans (tlt ((lw_lt _ _).mpr hc100)).2.1) ?_
            show Steps p.tables e below (T3.setTop (mkF m 103 #[.val (.int p0), .val (.int p1), .val (.long p2), .second, .val (.int v4_6), .val (.int v5_18), .val (.long v6_23), .second, .val (.ref r_1), .val (.long v9_41), .second, .val (.long v11_48), .second, .val (.long v13_75), .second] [])) _
            refine XS.iconst X3.here hx rfl (hb hby at_103) ?_
            show Steps p.tables e below (T3.setTop (mkF m 104 #[.val (.int p0), .val (.int p1), .val (.long p2), .second, .val (.int v4_6), .val (.int v5_18), .val (.long v6_23), .second, .val (.ref r_1), .val (.long v9_41), .second, .val (.long v11_48), .second, .val (.long v13_75), .second] [(.int (1 : Int32))])) _
            refine XS.goto X3.here hx rfl (pc0 := 104) (pc' := 108) rfl (hb hby at_104) (by decide) (by decide) ?_
            have qms0_108 : ms0_108 = (1 : Int32) := by rw [hms0_108, if_neg hc88, if_pos hc100]
            rw [qms0_108] at k
            exact k
          · show Steps p.tables e below (T3.setTop (mkF m 100 #[.val (.int p0), .val (.int p1), .val (.long p2), .second, .val (.int v4_6), .val (.int v5_18), .val (.long v6_23), .second, .val (.ref r_1), .val (.long v9_41), .second, .val (.long v11_48), .second, .val (.long v13_75), .second] [(.int (lcmpW (v11_48 * (1000 : Int64)) v13_75))])) _
            refine XS.ifYes X3.here hx rfl (pc0 := 100) (pc' := 107) rfl (hb hby at_100) rfl ((if0 _ _).trans (flt (fun q => hc100 ((lw_lt _ _).mp q))).2.1) (by decide) (by decide) ?_
            show Steps p.tables e below (T3.setTop (mkF m 107 #[.val (.int p0), .val (.int p1), .val (.long p2), .second, .val (.int v4_6), .val (.int v5_18), .val (.long v6_23), .second, .val (.ref r_1), .val (.long v9_41), .second, .val (.long v11_48), .second, .val (.long v13_75), .second] [])) _
            refine XS.iconst X3.here hx rfl (hb hby at_107) ?_
            have qms0_108 : ms0_108 = (0 : Int32) := by rw [hms0_108, if_neg hc88, if_neg hc100]
            rw [qms0_108] at k
            exact k
      have hnar : nar .boolean ms0_108 = ms0_108 := by rw [hms0_108]; (repeat' split) <;> rfl
      obtain ⟨fs, hr, hrun, hended, hW, hsame⟩ := X3.leave (v := some (.int ms0_108)) (fun h => by rw [Bd.returns] at h; cases h)
      refine ⟨_, _, pre8 _ ?_, hrun, hended, _, _, rfl, ?_, ⟨_, rfl⟩, hW, hsame.mono (by decide) (by decide)⟩
      · show Steps p.tables e below (T3.setTop (mkF m 108 #[.val (.int p0), .val (.int p1), .val (.long p2), .second, .val (.int v4_6), .val (.int v5_18), .val (.long v6_23), .second, .val (.ref r_1), .val (.long v9_41), .second, .val (.long v11_48), .second, .val (.long v13_75), .second] [(.int ms0_108)])) _
        exact retN X3 hx (t := .boolean) Bd.returns (by simp) (hb hby at_108) (by rw [hnar]; exact hr)
      · show Q_0 Z p0 p1 p2 h0 n0 _ T3.heap _
        rw [e3]
        exact ⟨congrArg (fun z => some (Value.int z)) (by subst hv4_6 hv5_18 hv6_23 hv9_41 hv11_48 hv13_75 hms0_108; exact ((if_neg hc54).trans (if_pos hc63)).symm : ms0_108 = f_0 p0 p1 p2), N3, trivial⟩
    · obtain ⟨fs, hr, hrun, hended, hW, hsame⟩ := X3.leave (v := some (.int (0 : Int32))) (fun h => by rw [Bd.returns] at h; cases h)
      refine ⟨_, _, pre6 _ ?_, hrun, hended, _, _, rfl, ?_, ⟨_, rfl⟩, hW, hsame.mono (by decide) (by decide)⟩
      · show Steps p.tables e below (T3.setTop (mkF m 63 #[.val (.int p0), .val (.int p1), .val (.long p2), .second, .val (.int v4_6), .val (.int v5_18), .val (.long v6_23), .second, .val (.ref r_1), .val (.long v9_41), .second, .val (.long v11_48), .second, .unset, .unset] [(.int (lcmpW v11_48 (v4_6.toInt64)))])) _
        refine XS.ifNo X3.here hx rfl (hb hby at_63) rfl ((if0 _ _).trans (flt (fun q => hc63 ((lw_lt _ _).mp q))).1) ?_
        show Steps p.tables e below (T3.setTop (mkF m 66 #[.val (.int p0), .val (.int p1), .val (.long p2), .second, .val (.int v4_6), .val (.int v5_18), .val (.long v6_23), .second, .val (.ref r_1), .val (.long v9_41), .second, .val (.long v11_48), .second, .unset, .unset] [])) _
        refine XS.iconst X3.here hx rfl (hb hby at_66) ?_
        show Steps p.tables e below (T3.setTop (mkF m 67 #[.val (.int p0), .val (.int p1), .val (.long p2), .second, .val (.int v4_6), .val (.int v5_18), .val (.long v6_23), .second, .val (.ref r_1), .val (.long v9_41), .second, .val (.long v11_48), .second, .unset, .unset] [(.int (0 : Int32))])) _
        exact retN X3 hx (t := .boolean) Bd.returns (by simp) (hb hby at_67) hr
      · show Q_0 Z p0 p1 p2 h0 n0 _ T3.heap _
        rw [e3]
        exact ⟨congrArg (fun z => some (Value.int z)) (by subst hv4_6 hv5_18 hv6_23 hv9_41 hv11_48; exact ((if_neg hc54).trans (if_neg hc63)).symm : (0 : Int32) = f_0 p0 p1 p2), N3, trivial⟩
theorem own_uc (c : Prop) [Decidable c] (g : Nat → Int64) (k : Nat) (x : Int64) (i : Nat) : (if c then own_upd g k x else g) i = if c ∧ i = k then x else g i := by
  by_cases hc : c <;> by_cases hi : i = k <;> simp [own_upd, hc, hi]
theorem own_bb (b k : Int64) : b + k - b = k := by rw [Int64.add_comm, Int64.add_sub_cancel]
theorem own_g (n : Int32) (b : Int64) (i : Nat) (hi : i < n.toNatClampNeg) (h : 0 < n.toInt ∧ n.toInt ≤ 8) : (f_1_1 n b i - b).toInt = (i : Int) := by
  have n2 := nat_of (own_bp h.1)
  have lt : ∀ (k : Int32), k.toInt = (i : Int) → k < n := fun k hk => by rw [Int32.lt_iff_toInt_lt]; omega
  simp only [f_1_1, own_uc]
  rcases (by omega : i = 0 ∨ i = 1 ∨ i = 2 ∨ i = 3 ∨ i = 4 ∨ i = 5 ∨ i = 6 ∨ i = 7) with rfl | rfl | rfl | rfl | rfl | rfl | rfl | rfl
  · simp [own_upd]
  · have c := lt 1 (by decide)
    simp [c, own_bb]
  · have c := lt 2 (by decide)
    simp [c, own_bb]
  · have c := lt 3 (by decide)
    simp [c, own_bb]
  · have c := lt 4 (by decide)
    simp [c, own_bb]
  · have c := lt 5 (by decide)
    simp [c, own_bb]
  · have c := lt 6 (by decide)
    simp [c, own_bb]
  · have c := lt 7 (by decide)
    simp [c, own_bb]
theorem own_fin (z p : Int32) (k : Int64) (hz : 0 < z.toInt ∧ z.toInt ≤ 8) (hp : 0 < p.toInt ∧ p.toInt ≤ 1000) (hk : k.toInt = (z.toInt * p.toInt + 999) / 1000 - 1) :
    (if k < (0 : Int64) then (0 : Int32) else (if k < (z.toInt64) then (if ((k + (1 : Int64)) * (1000 : Int64)) < (p.toInt64 * z.toInt64) then (0 : Int32) else (if (k * (1000 : Int64)) < (p.toInt64 * z.toInt64) then (1 : Int32) else (0 : Int32))) else (0 : Int32))) = 1 := by
  have q := own_prod z p hz hp
  rw [Int64.mul_comm] at q
  have l0 : (0 : Int64).toInt = 0 := by decide
  have l1 : (1 : Int64).toInt = 1 := by decide
  have l3 : (1000 : Int64).toInt = 1000 := by decide
  have a1 := c_ladd k 1
  have r1 := rng64 (k + 1)
  have a2 := c_lmul (k + 1) 1000
  have r2 := rng64 ((k + 1) * 1000)
  have a3 := c_lmul k 1000
  have r3 := rng64 (k * 1000)
  have z1 := c_i2l z
  rw [l3] at a2 a3
  rw [l1] at a1
  generalize z.toInt * p.toInt = t at *
  have k1 : ¬ k < (0 : Int64) := by rw [Int64.lt_iff_toInt_lt]; omega
  have k2 : k < z.toInt64 := by rw [Int64.lt_iff_toInt_lt]; omega
  have k3 : ¬ ((k + 1) * 1000) < (p.toInt64 * z.toInt64) := by rw [Int64.lt_iff_toInt_lt]; omega
  have k4 : (k * 1000) < (p.toInt64 * z.toInt64) := by rw [Int64.lt_iff_toInt_lt]; omega
  rw [if_neg k1, if_pos k2, if_neg k3, if_pos k4]
theorem own_law (p0 p1 : Int32) (p2 : Int64) : f_0 p0 p1 p2 = 1 := by
  have hz := own_n p0
  have hp := own_pm p1
  have i := own_ix _ _ hz hp
  have j := own_idx _ _ hz hp
  have n2 := nat_of j.1
  have g := own_g _ (p2 >>> ((4 : Int32) &&& 0x3f).toInt64) _ j.2 hz
  exact own_fin _ _ _ hz hp (by rw [← i, n2]; exact g)
set_option maxRecDepth 65536 in
set_option maxHeartbeats 40000000 in
theorem comes_1 {Post : Tables → Env → Array Value → State → Outcome → State → Prop} (hpost : ∀ tb e args s v u, (limb_1_1.after args s (.returned v) u = true ∧ limb_1_2.after args s (.returned v) u = true ∧ True) → FrameEnd s (.returned v) u (Jvm.fieldLocs frame_1_writes args s ++ Jvm.arrayLocs frame_1_arrays args s ++ Jvm.staticLocs frame_1_statics s) 16 128 → Post tb e args s (.returned v) u) :
    ArmFor flags0 classFile x code maxLocals ret World_1 tables_1 room_1 Calls_1 rest_1 Pre_1 Post := by
  intro l hfl _ _ p e ha hc hk s m args below hf hA hF happ hP
  obtain ⟨hcalls, hrest, hpre⟩ := hP
  obtain ⟨-, -, -, hnamed, -, -, -, hat⟩ := (Spec.applies_iff hf).mp happ
  obtain ⟨hg, hn⟩ := and_e (Cond.before_iff.mp (show (Jvm.Cond.and given_1 narrow_1).before args s = true from hpre))
  obtain ⟨g0, gt0⟩ := and_e hg
  obtain ⟨ga0, gt1⟩ := and_e gt0
  obtain ⟨ga1, gt2⟩ := and_e gt1
  obtain ⟨w0, w1, w2, rfl⟩ : ∃ w0 w1 w2 : Value, args = #[w0, w1, w2] := by
    have hs : args.size = 3 := by simpa [Cond.value, given_1] using g0
    obtain ⟨L⟩ := args
    match L, hs with
    | [w0, w1, w2], _ => exact ⟨w0, w1, w2, rfl⟩
  have hw := fun d (hd : d ∈ tables_1) => atoms_spec (ws := Jvm.Cond.code x code maxLocals ret :: tables_1) hat d (List.mem_cons_of_mem _ hd)
  have hfit : Fit s := fun {y c} hc i hi => by
    obtain ⟨ha, rfl⟩ := Array.getElem?_eq_some_iff.mp hc
    have q := List.all_eq_true.mp ((Array.all_eq_true_iff_forall_mem.mp hF) _ (Array.getElem_mem ha)) i (List.mem_range.mpr hi)
    simpa [Array.getElem?_eq_getElem hi] using q
  obtain ⟨i0, ei0⟩ := is_v ga0
  obtain rfl : w0 = (.int i0) := Option.some.inj ei0
  obtain ⟨i1, ei1⟩ := is_v ga1
  obtain rfl : w1 = (.int i1) := Option.some.inj ei1
  obtain ⟨i2, ei2⟩ := isL_v gt2
  obtain rfl : w2 = (.long i2) := Option.some.inj ei2
  obtain ⟨n, o, h1, h2, h3, _, L, rfl, ⟨rfl, N⟩, hq⟩ := rm_0 l s _ hw tables_1 i0 i1 i2  s.heap s.heap.size (Nat.le_refl _)  p e ha hc hk s m _ below hf ((Spec.applies_iff_loose hf).mp happ).1 ⟨rfl, State.Warmed39.refl s, rfl⟩ trivial
  refine ⟨n, _, h1, h2, h3, hpost _ _ _ _ _ _ ⟨Cond.after_iff.mpr rfl, Cond.after_iff.mpr (eq_i res_at (Term.int_eval (1)) (congrArg Value.int (own_law _ _ _))), trivial⟩ ⟨hq.1, hq.2.1, (hq.2.2.sift fun y hy => Or.inr (N.1 y hy)).mono (by decide) (by decide)⟩⟩
theorem main_1_1 : Claimed_1_1 := comes_1 fun _ _ _ _ _ _ h hF => ⟨h.1, hF⟩
theorem main_1_2 : Claimed_1_2 := comes_1 fun _ _ _ _ _ _ h hF => ⟨h.2.1, hF⟩
end Jvm.Pilot.@@N@@
namespace Jvm.Pilot.@@N@@
open Jvm Jvm.ClassFile Sem Op Lib Jvm.Free Jvm.Stand Jvm.Pilot.@@N@@.Jvm.D
/-! MADE BY PROGRAM (witnessworld.py) out of the Statement's table words and the real class files: 11 classes; the members and pool entries that the words name. The judged class is class 1, her method 2. -/
namespace start1
open Jvm.ClassFile
def u (s : String) : CpInfo := .utf8 (stringToUtf16 s)
/-- a pool by its gaps: so many unusable entries, then the entry; so many at the end -/
def gap : Nat → List CpInfo → List CpInfo
  | 0, r => r
  | n + 1, r => .unusable :: gap n r
def poolList (es : List (Nat × CpInfo)) (last : Nat) : List CpInfo := es.foldr (fun e r => gap e.1 (e.2 :: r)) (gap last [])
def pool (es : List (Nat × CpInfo)) (last : Nat) : Array CpInfo := ⟨poolList es last⟩
def fileOf (pool : Array CpInfo) (this : Nat) (attrs : Array Attribute := #[]) (ms : Array MethodInfo := #[]) (fl : Nat := 33) (sup : Nat := 0) (ifs : Array Nat := #[]) (fds : Array FieldInfo := #[]) : ClassFile where
  minorVersion := 0
  majorVersion := 65
  constantPool := pool
  accessFlags := fl
  thisClass := this
  superClass := sup
  interfaces := ifs
  fields := fds
  methods := ms
  attributes := attrs
def plain (name : String) (sup : Option ClassId) : Class where
  name := name
  kind := .ordinary
  loader := none
  accessFlags := 33
  super := sup
  interfaces := #[]
  cf := none
  fields := #[]
  methods := #[]
  instanceTypes := #[]
  staticTypes := #[]
  resolved := #[]
  callSites := []
  init := .initialized
  statics := none
  mirror := none

def pool0 : Array CpInfo := pool [(5, u "<init>"), (0, u "()V"), (1, .class_ 10), (1, u "java/lang/Object")] 113

def k0m0 : Method := { name := "<init>", desc := "()V", sig := { parameters := [], returnType := none }, accessFlags := 1, code := none }
/-- java/lang/Object -/
def k0 : Class := { plain "java/lang/Object" none with
  accessFlags := 33
  interfaces := #[]
  cf := some (fileOf pool0 8 #[] #[{ accessFlags := 1, nameIndex := 5, descriptorIndex := 6, attributes := #[] }] 33 0 #[] #[])
  fields := #[]
  methods := #[k0m0]
  instanceTypes := #[]
  staticTypes := #[]
  resolved := Array.replicate 124 none
  statics := none }

def pool1 : Array CpInfo := pool [(2, .class_ 4), (1, u "java/lang/Object"), (0, u "<init>"), (0, u "()V"), (0, .long 2), (1, .long 3), (1, .long 4), (1, .long 5), (1, .long 6), (1, .long 7), (1, .integer 2147483647), (0, .methodref 21 22), (0, .class_ 23), (0, .nameAndType 24 25), (0, u "com/example/sequeue/sequeue/bench/FiguresPercentilePinLaw"), (0, u "build"), (0, u "(IJ)[J"), (0, .methodref 27 28), (0, .class_ 29), (0, .nameAndType 30 31), (0, u "com/example/sequeue/sequeue/bench/Figures"), (0, u "percentile"), (0, u "([JI)J"), (0, .long 1000), (6, u "law"), (0, u "(IIJ)Z")] 2

def k1m0 : Method := { name := "<init>", desc := "()V", sig := { parameters := [], returnType := none }, accessFlags := 2, code := none }
def k1c1 : Code := { maxStack := 6, maxLocals := 4, code := method_2_code, exceptionTable := #[], attributes := #[] }
def k1m1 : Method := { name := "build", desc := "(IJ)[J", sig := { parameters := [.int, .long], returnType := some (.array .long) }, accessFlags := 10, code := some k1c1 }
def k1c2 : Code := { maxStack := 4, maxLocals := 15, code := code, exceptionTable := #[], attributes := #[] }
def k1m2 : Method := { name := "law", desc := "(IIJ)Z", sig := { parameters := [.int, .int, .long], returnType := some .boolean }, accessFlags := 9, code := some k1c2 }
/-- com/example/sequeue/sequeue/bench/FiguresPercentilePinLaw -/
def k1 : Class := { plain "com/example/sequeue/sequeue/bench/FiguresPercentilePinLaw" (some 0) with
  accessFlags := 49
  interfaces := #[]
  cf := some (fileOf pool1 21 #[] #[{ accessFlags := 2, nameIndex := 5, descriptorIndex := 6, attributes := #[] }, { accessFlags := 10, nameIndex := 24, descriptorIndex := 25, attributes := #[] }, { accessFlags := 9, nameIndex := 39, descriptorIndex := 40, attributes := #[] }] 49 2 #[] #[])
  fields := #[]
  methods := #[k1m0, k1m1, k1m2]
  instanceTypes := #[]
  staticTypes := #[]
  resolved := Array.replicate 43 none
  statics := none }

def pool2 : Array CpInfo := pool [(2, .class_ 4), (1, u "java/lang/Object"), (0, u "<init>"), (0, u "()V"), (5, .class_ 14), (1, u "com/example/sequeue/sequeue/bench/Figures"), (14, .long 999), (1, .long 1000), (28, u "percentile"), (0, u "([JI)J")] 2

def k2m0 : Method := { name := "<init>", desc := "()V", sig := { parameters := [], returnType := none }, accessFlags := 2, code := none }
def k2c1 : Code := { maxStack := 4, maxLocals := 4, code := prog_3_method_5_code, exceptionTable := #[], attributes := #[] }
def k2m1 : Method := { name := "percentile", desc := "([JI)J", sig := { parameters := [(.array .long), .int], returnType := some .long }, accessFlags := 8, code := some k2c1 }
/-- com/example/sequeue/sequeue/bench/Figures -/
def k2 : Class := { plain "com/example/sequeue/sequeue/bench/Figures" (some 0) with
  accessFlags := 48
  interfaces := #[]
  cf := some (fileOf pool2 12 #[] #[{ accessFlags := 2, nameIndex := 5, descriptorIndex := 6, attributes := #[] }, { accessFlags := 8, nameIndex := 60, descriptorIndex := 61, attributes := #[] }] 48 2 #[] #[])
  fields := #[]
  methods := #[k2m0, k2m1]
  instanceTypes := #[]
  staticTypes := #[]
  resolved := Array.replicate 64 none
  statics := none }

def pool3 : Array CpInfo := pool [(1, u "java/lang/Cloneable"), (0, .class_ 1), (0, u "java/lang/Object"), (0, .class_ 3)] 3

/-- java/lang/Cloneable -/
def k3 : Class := { plain "java/lang/Cloneable" (some 0) with
  accessFlags := 1537
  interfaces := #[]
  cf := some (fileOf pool3 2 #[] #[] 1537 4 #[] #[])
  fields := #[]
  methods := #[]
  instanceTypes := #[]
  staticTypes := #[]
  resolved := Array.replicate 8 none
  statics := none }

def pool4 : Array CpInfo := pool [(1, u "java/io/Serializable"), (0, .class_ 1), (0, u "java/lang/Object"), (0, .class_ 3)] 3

/-- java/io/Serializable -/
def k4 : Class := { plain "java/io/Serializable" (some 0) with
  accessFlags := 1537
  interfaces := #[]
  cf := some (fileOf pool4 2 #[] #[] 1537 4 #[] #[])
  fields := #[]
  methods := #[]
  instanceTypes := #[]
  staticTypes := #[]
  resolved := Array.replicate 8 none
  statics := none }

/-- the primitive byte -/
def k5 : Class := { plain "byte" none with kind := .primitive 'B', accessFlags := 0x411 }
/-- [B -/
def k6 : Class := { plain "[B" (some 0) with kind := .array 5 .byte, interfaces := #[3, 4], accessFlags := 1041 }

/-- the primitive int -/
def k7 : Class := { plain "int" none with kind := .primitive 'I', accessFlags := 0x411 }
/-- [I -/
def k8 : Class := { plain "[I" (some 0) with kind := .array 7 .int, interfaces := #[3, 4], accessFlags := 1041 }

/-- the primitive long -/
def k9 : Class := { plain "long" none with kind := .primitive 'J', accessFlags := 0x411 }
/-- [J -/
def k10 : Class := { plain "[J" (some 0) with kind := .array 9 .long, interfaces := #[3, 4], accessFlags := 1041 }

def heap : Heap := #[]
def classes : Array Class := #[k0, k1, k2, k3, k4, k5, k6, k7, k8, k9, k10]
def interned : List (Array UInt16 × Addr) := []
def slotsUsed : Nat := 0
def theMethod : MethodId := ⟨1, 2⟩
def args0 : Array Value := #[.int 5, .int 7, .long 9]
def aboutOver (below : List Frame) : State where
  vm := { classes := classes, interned := interned.toArray }
  heap := heap
  slotsUsed := slotsUsed
  threads := #[{ frames := .invoking theMethod args0 :: below }]
def below0 : List Frame := [.native { method := ⟨0, 0⟩, args := #[] }]
def about1 : State := aboutOver below0
def p0 : Program := .bare "" "" ""
def e0 : Env := launch0.env 0 0 0
theorem w_frames : about1.frames = Frame.invoking theMethod args0 :: below0 := rfl
set_option maxRecDepth 65536 in
theorem w_args : argsFit about1.vm theMethod args0 = true := by decide +kernel
set_option maxRecDepth 65536 in
theorem w_heap : heapFits about1 = true := by decide +kernel
set_option maxRecDepth 65536 in
theorem w_runnable : about1.curStatus? = some .runnable := by decide +kernel
set_option maxRecDepth 65536 in
theorem w_alone : about1.alone = true := by decide +kernel
set_option maxRecDepth 65536 in
theorem w_named : about1.methodNamed? x = some theMethod := by decide +kernel
set_option maxRecDepth 65536 in
theorem w_hears : about1.hears theMethod below0 = true := by decide +kernel
set_option maxRecDepth 65536 in
theorem w_ripe : about1.ripe theMethod args0 below0 = true := by decide +kernel
theorem w_running : about1.status = .running := rfl
set_option maxRecDepth 65536 in
theorem w_room : about1.hasRoom e0.platform room_1 = true :=
  launch0.hasRoom_least _ room_1 (by decide +kernel) (by decide +kernel) (by decide +kernel) (by decide +kernel) (by decide +kernel) (by decide +kernel)
theorem allAtoms_all (ts : List Jvm.Cond) (a : Array Jvm.Value) (st : Jvm.State) : (allAtoms ts).before a st = ts.all (fun c => c.before a st) := by
  induction ts with
  | nil => rfl
  | cons c t ih =>
    show (Jvm.Cond.and c (allAtoms t)).before a st = _
    rw [Jvm.Cond.before_and, ih, List.all_cons]
def words1 : List Jvm.Cond := Jvm.Cond.code x code maxLocals ret :: tables_1
/-- a 'code' word, met by the world's own term for the bytes: nothing is compared byte by byte -/
theorem code_word {y : MethodName} {bytes : ByteArray} {mx : Nat} {rt : Option FieldType} {a : Array Value} {s : State} {m : MethodId} {meth : Method} {c : Code} (h1 : s.methodNamed? y = some m) (h2 : s.vm.method? m = some meth) (h3 : meth.code = some c) (h4 : c.code = bytes)
    (h5 : (c.maxLocals == mx && c.exceptionTable.isEmpty && decide (c.maxStack ≤ mostOperands) && decide (meth.sig.returnType = rt) && !meth.locks && decide (parseMethodDescriptor y.desc = some meth.sig)) = true) : (Jvm.Cond.code y bytes mx rt).before a s = true := by
  simp only [Bool.and_eq_true, beq_iff_eq, Bool.not_eq_true', decide_eq_true_eq] at h5
  obtain ⟨⟨⟨⟨⟨g1, g2⟩, g3⟩, g4⟩, g5⟩, g6⟩ := h5
  simp [Cond.before, Cond.holds, Cond.value, h1, h2, h3, h4, g1, g2, g3, g4, g5, g6]
def isCode : Jvm.Cond → Bool
  | .code _ _ _ _ => true
  | _ => false
theorem all_split {L : List Jvm.Cond} {P : Jvm.Cond → Bool} (h1 : L.all (fun c => isCode c || P c) = true) (h2 : ∀ c ∈ L.filter isCode, P c = true) : L.all P = true := by
  refine List.all_eq_true.mpr fun c hc => ?_
  have h := List.all_eq_true.mp h1 c hc
  rcases Bool.eq_false_or_eq_true (isCode c) with hi | hi
  · exact h2 c (List.mem_filter.mpr ⟨hc, hi⟩)
  · simpa [hi] using h
set_option maxRecDepth 65536 in
theorem w_c0 : (Jvm.Cond.code x code maxLocals ret).before args0 about1 = true := code_word (m := ⟨1, 2⟩) (meth := k1m2) (c := k1c2) (by decide +kernel) rfl rfl rfl (by decide +kernel)
set_option maxRecDepth 65536 in
theorem w_c1 : (Jvm.Cond.code ({ cls := "com/example/sequeue/sequeue/bench/FiguresPercentilePinLaw", name := "build", desc := "(IJ)[J" } : Jvm.MethodName) method_2_code (4 : Nat) (Option.some (Jvm.ClassFile.FieldType.array Jvm.ClassFile.FieldType.long))).before args0 about1 = true := code_word (m := ⟨1, 1⟩) (meth := k1m1) (c := k1c1) (by decide +kernel) rfl rfl rfl (by decide +kernel)
set_option maxRecDepth 65536 in
theorem w_c2 : (Jvm.Cond.code ({ cls := "com/example/sequeue/sequeue/bench/Figures", name := "percentile", desc := "([JI)J" } : Jvm.MethodName) prog_3_method_5_code (4 : Nat) (Option.some Jvm.ClassFile.FieldType.long)).before args0 about1 = true := code_word (m := ⟨2, 1⟩) (meth := k2m1) (c := k2c1) (by decide +kernel) rfl rfl rfl (by decide +kernel)
def codes1 : List Jvm.Cond := [Jvm.Cond.code x code maxLocals ret, Jvm.Cond.code ({ cls := "com/example/sequeue/sequeue/bench/FiguresPercentilePinLaw", name := "build", desc := "(IJ)[J" } : Jvm.MethodName) method_2_code (4 : Nat) (Option.some (Jvm.ClassFile.FieldType.array Jvm.ClassFile.FieldType.long)), Jvm.Cond.code ({ cls := "com/example/sequeue/sequeue/bench/Figures", name := "percentile", desc := "([JI)J" } : Jvm.MethodName) prog_3_method_5_code (4 : Nat) (Option.some Jvm.ClassFile.FieldType.long)]
set_option maxRecDepth 65536 in
theorem codes_eq : words1.filter isCode = codes1 := rfl
theorem w_codes : ∀ c ∈ words1.filter isCode, c.before args0 about1 = true := by
  rw [codes_eq]
  intro c hc
  simp only [codes1, List.mem_cons, List.not_mem_nil, or_false] at hc
  rcases hc with rfl | rfl | rfl
  · exact w_c0
  · exact w_c1
  · exact w_c2
set_option maxRecDepth 65536 in
theorem w_t1 : words1.all (fun c => isCode c || c.before args0 about1) = true := by decide +kernel
theorem w_tables : (allAtoms (Jvm.Cond.code x code maxLocals ret :: tables_1)).before args0 about1 = true := by
  rw [allAtoms_all]
  show words1.all (fun c => c.before args0 about1) = true
  refine all_split ?_ w_codes
  rw [w_t1]
set_option maxRecDepth 65536 in
theorem w_case : (Jvm.Cond.and given_1 narrow_1).before args0 about1 = true := by decide +kernel
theorem w_applies : (headSpec (Jvm.Cond.code x code maxLocals ret :: tables_1) room_1).applies x e0.platform about1 = true :=
  (Spec.applies_iff w_frames).mpr ⟨w_running, w_runnable, w_alone, w_named, w_hears, w_ripe, w_room, w_tables⟩
theorem atStart : AtStart classFile x code maxLocals ret World_1 tables_1 room_1 Calls_1 rest_1 Pre_1 launch0 p0 e0 about1 theMethod args0 below0 :=
  ⟨lists_1, trivial, launch0.admits_env _ _ _, launch0.least_env, fairChoices_fair.cas, fairChoices_fair.clock, w_frames, w_args, w_heap, w_applies, trivial, trivial, w_case⟩
end start1
theorem witness_1 : WitnessClaimed_1 := ⟨start1.p0, start1.e0, start1.about1, start1.theMethod, start1.args0, start1.below0, start1.atStart⟩
end Jvm.Pilot.@@N@@
