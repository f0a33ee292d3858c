import JvmDerived
import JvmDerived.Pilot.@@N@@Statement
import JvmDerived.Pilot.@@N@@Code
set_option linter.unusedVariables false
set_option linter.unusedSimpArgs false
namespace Jvm.RoadKit
open Sem ClassFile Op Lib Jvm.Stand Jvm.Free Jvm.LawKit
section New
variable {p : Program} {l : Launch} {e : Env} {R : Room} {s : State} {m : MethodId} {args : Array Value} {below : List Frame} {meth : Method} {c : Code} {T : State} {locs : List Loc} {cells slots : Nat}
theorem retI (X : Stand p l e R s m args below meth c T locs cells slots) (hx : p.tables.exec = Jvm.exec) {pc : Nat} {Ls : Array Slot} {z : Int32} {rest : List Value} (hret : meth.sig.returnType = some .int) (hd : decode c.code pc = .ok (.ireturn, 1)) {fs : List Frame}
    (hl : ∀ (f : JFrame) (acts : List Action), f.method = m → f.locked = none → f.entered = [] → (doReturn e (T.setTop f) acts (some (.int z))).1 = T.setFrames fs) : Steps p.tables e below (T.setTop (mkF m pc Ls (.int z :: rest))) (T.setFrames fs) := by
  have hm' : T.vm.method? m = some meth := X.method'
  have hn : narrow .int (.int z) = .int z := rfl
  show Steps p.tables e below (T.setTop { method := m, pc := pc, locals := Ls, stack := _ :: rest, locked := none }) _
  jvm_step X.here [X.here.top, hx, hd, hm', hret, hn]
  first | (intro acts; rw [hl _ acts rfl rfl rfl]) | rw [hl _ _ rfl rfl rfl]
  exact Steps.refl _
theorem own_lremM {g : JFrame} {target : State} (X : Stand p l e R s m args below meth c T locs cells slots) (hx : p.tables.exec = Jvm.exec) (hg : g.method = m) {x y : Int64} {rest : List Value} (hd : decode c.code g.pc = .ok (.lrem, 1)) (hs : g.stack = .long y :: .long x :: rest) (hy : y ≠ 0)
    (hr : Steps p.tables e below (T.setTop { g with pc := g.pc + 1, stack := .long (x % y) :: rest }) target) : Steps p.tables e below (T.setTop g) target := by
  have q : x - x / y * y = x % y := lrem_mod x y
  exact XS.lrem X.here hx hg hd hs hy (by rw [q]; exact hr)
end New
end Jvm.RoadKit
namespace Jvm.RoadKit
open Sem ClassFile Op Lib Jvm.Stand Jvm.Free Jvm.LawKit
section OwnA
variable {p : Program} {l : Launch} {e : Env} {R : Room} {s : State} {m : MethodId} {args : Array Value} {below : List Frame} {meth : Method} {c : Code} {T : State} {locs : List Loc} {cells slots : Nat} {Z : State} {a0 : Array Value} {h h' : Heap} {a b : Addr} {ty : FieldType} {n : Nat} {G : Nat → Value}
def own_upd {α : Type} (g : Nat → α) (k : Nat) (x : α) (i : Nat) : α := if i = k then x else g i
def own_zI (_ : Nat) : Int32 := 0
def own_zJ (_ : Nat) : Int64 := 0
def own_A (Z : State) (h : Heap) (a : Addr) (ty : FieldType) (n : Nat) (G : Nat → Value) : Prop := ∃ c : Cell, Arr Z h a c ty ∧ c.slots.size = n ∧ ∀ i, i < n → c.slots[i]? = some (G i) ∧ fits ty (G i) = true
theorem own_A.lt (F : own_A Z h a ty n G) : a < h.size := by obtain ⟨c, A, -⟩ := F; exact A.lt
theorem own_A.ext (F : own_A Z h a ty n G) (E : Ext h h') : own_A Z h' a ty n G := by obtain ⟨c, A, r⟩ := F; exact ⟨c, A.ext E, r⟩
theorem own_A.other {sl : Nat} {v : Value} (F : own_A Z h b ty n G) (W : Wr h h' a sl v) (q : b ≠ a) : own_A Z h' b ty n G := by obtain ⟨c, A, r⟩ := F; exact ⟨c, A.other W q, r⟩
theorem own_A.keep {ws : List Addr} (F : own_A Z h a ty n G) (K : Keep h h' ws) (q : a ∉ ws) : own_A Z h' a ty n G := by obtain ⟨c, A, r⟩ := F; exact ⟨c, ⟨K.2.1 a c A.1 q, A.2⟩, r⟩
theorem own_A.new {k : ClassId} {z : Int32} (A : Arr Z h a (newA k ty z) ty) (q : z.toNatClampNeg = n) (hG : ∀ i, G i = defaultValue ty) : own_A Z h a ty n G :=
  ⟨_, A, by rw [sz_new, q], fun i hi => ⟨by rw [hG]; rw [← q] at hi; simp [newA, hi], by rw [hG]; cases ty <;> rfl⟩⟩
theorem own_A.set {k : Nat} {v : Value} (F : own_A Z h a ty n G) (W : Wr h h' a k v) (hk : k < n) (hf : fits ty v = true) : own_A Z h' a ty n (own_upd G k v) := by
  obtain ⟨c, A, q, r⟩ := F
  refine ⟨c.setSlot k v, A.same W, by rw [sz_set, q], fun i hi => ?_⟩
  by_cases e : i = k
  · subst e
    exact ⟨by simp [Cell.setSlot, own_upd, q, hk], by simpa [own_upd] using hf⟩
  · have r1 := r i hi
    have r2 : (c.setSlot k v).slots[i]? = c.slots[i]? := Array.getElem?_setIfInBounds_ne (Ne.symm e)
    have r3 : own_upd G k v i = G i := if_neg e
    rw [r2, r3]; exact r1
theorem own_upd_int (g : Nat → Int32) (k : Nat) (x : Int32) : own_upd (fun i => Value.int (g i)) k (.int x) = fun i => Value.int (own_upd g k x i) := by funext i; unfold own_upd; split <;> rfl
theorem own_upd_long (g : Nat → Int64) (k : Nat) (x : Int64) : own_upd (fun i => Value.long (g i)) k (.long x) = fun i => Value.long (own_upd g k x i) := by funext i; unfold own_upd; split <;> rfl
theorem own_inb {c : Cell} {j : Int32} {k : Nat} (q : c.slots.size = n) (hj0 : ¬ j < 0) (hk : j.toNatClampNeg = k) (hkn : k < n) : ¬ (j < 0 ∨ c.slots.size ≤ j.toNatClampNeg) := fun y => y.elim hj0 fun z => by rw [q, hk] at z; exact absurd hkn (Nat.not_lt.mpr z)
theorem own_stI {g0 : Nat → Int32} (X : Stand p l e R s m args below meth c T locs cells slots) (hx : p.tables.exec = Jvm.exec) (hZ : Z.Warmed39 s.vm) (eT : T.heap = h) (F : own_A Z h a .int n (fun i => .int (g0 i))) {j x : Int32} {k : Nat} (hj0 : ¬ j < 0) (hk : j.toNatClampNeg = k) (hkn : k < n) {g : JFrame} (hg : g.method = m) {rest : List Value} (hs : g.stack = .int x :: .int j :: .ref a :: rest) (hd : decode c.code g.pc = .ok (.iastore, 1)) :
    ∃ T' h', Stand p l e R s m args below meth c T' (locs ++ [⟨a, j.toNatClampNeg⟩]) cells slots ∧ T'.heap = h' ∧ Wr h h' a j.toNatClampNeg (.int x) ∧ own_A Z h' a .int n (fun i => .int (own_upd g0 k x i)) ∧ ∀ target, Steps p.tables e below (T'.setTop { g with pc := g.pc + 1, stack := rest }) target → Steps p.tables e below (T.setTop g) target := by
  obtain ⟨cl, A, q, r⟩ := id F
  obtain ⟨T', h', X', e', W, st⟩ := stI X hx hZ eT A (j := j) (x := x) (own_inb q hj0 hk hkn) hg hs hd
  exact ⟨T', h', X', e', W, own_upd_int g0 k x ▸ hk ▸ F.set W (by rw [hk]; exact hkn) rfl, st⟩
theorem own_stJ {g0 : Nat → Int64} (X : Stand p l e R s m args below meth c T locs cells slots) (hx : p.tables.exec = Jvm.exec) (hZ : Z.Warmed39 s.vm) (eT : T.heap = h) (F : own_A Z h a .long n (fun i => .long (g0 i))) {j : Int32} {x : Int64} {k : Nat} (hj0 : ¬ j < 0) (hk : j.toNatClampNeg = k) (hkn : k < n) {g : JFrame} (hg : g.method = m) {rest : List Value} (hs : g.stack = .long x :: .int j :: .ref a :: rest) (hd : decode c.code g.pc = .ok (.lastore, 1)) :
    ∃ T' h', Stand p l e R s m args below meth c T' (locs ++ [⟨a, j.toNatClampNeg⟩]) cells slots ∧ T'.heap = h' ∧ Wr h h' a j.toNatClampNeg (.long x) ∧ own_A Z h' a .long n (fun i => .long (own_upd g0 k x i)) ∧ ∀ target, Steps p.tables e below (T'.setTop { g with pc := g.pc + 1, stack := rest }) target → Steps p.tables e below (T.setTop g) target := by
  obtain ⟨cl, A, q, r⟩ := id F
  obtain ⟨T', h', X', e', W, st⟩ := stJ X hx hZ eT A (j := j) (x := x) (own_inb q hj0 hk hkn) hg hs hd
  exact ⟨T', h', X', e', W, own_upd_long g0 k x ▸ hk ▸ F.set W (by rw [hk]; exact hkn) rfl, st⟩
theorem own_stB {g0 : Nat → Int32} (X : Stand p l e R s m args below meth c T locs cells slots) (hx : p.tables.exec = Jvm.exec) (hZ : Z.Warmed39 s.vm) (eT : T.heap = h) (F : own_A Z h a .byte n (fun i => .int (g0 i))) {j x : Int32} {k : Nat} (hj0 : ¬ j < 0) (hk : j.toNatClampNeg = k) (hkn : k < n) {g : JFrame} (hg : g.method = m) {rest : List Value} (hs : g.stack = .int x :: .int j :: .ref a :: rest) (hd : decode c.code g.pc = .ok (.bastore, 1)) :
    ∃ T' h', Stand p l e R s m args below meth c T' (locs ++ [⟨a, j.toNatClampNeg⟩]) cells slots ∧ T'.heap = h' ∧ Wr h h' a j.toNatClampNeg (.int x.toInt8.toInt32) ∧ own_A Z h' a .byte n (fun i => .int (own_upd g0 k x.toInt8.toInt32 i)) ∧ ∀ target, Steps p.tables e below (T'.setTop { g with pc := g.pc + 1, stack := rest }) target → Steps p.tables e below (T.setTop g) target := by
  obtain ⟨cl, A, q, r⟩ := id F
  obtain ⟨T', h', X', e', W, st⟩ := stB X hx hZ eT A (j := j) (x := x) (own_inb q hj0 hk hkn) hg hs hd
  have hfb : fits .byte (.int (nar .byte x)) = true := fits_nar_byte x
  exact ⟨T', h', X', e', W, own_upd_int g0 k _ ▸ hk ▸ F.set W (by rw [hk]; exact hkn) hfb, st⟩
theorem own_ldI {g0 : Nat → Int32} (X : Stand p l e R s m args below meth c T locs cells slots) (hx : p.tables.exec = Jvm.exec) (hZ : Z.Warmed39 s.vm) (eT : T.heap = h) (F : own_A Z h a .int n (fun i => .int (g0 i))) {j : Int32} {k : Nat} (hj0 : ¬ j < 0) (hk : j.toNatClampNeg = k) (hkn : k < n) {g : JFrame} (hg : g.method = m) {rest : List Value} (hs : g.stack = .int j :: .ref a :: rest) (hd : decode c.code g.pc = .ok (.iaload, 1)) {target : State}
    (hr : Steps p.tables e below (T.setTop { g with pc := g.pc + 1, stack := .int (g0 k) :: rest }) target) : Steps p.tables e below (T.setTop g) target := by
  obtain ⟨cl, A, q, r⟩ := F
  exact X.iaload hx (j := j) (v := .int (g0 k)) (by rw [eT]; exact A.1) (State.isArrayOf_alike hZ.alike A.2.1) A.2.2 (own_inb q hj0 hk hkn) (by rw [hk]; exact (r k hkn).1) hg hs hd _ hr
theorem own_ldJ {g0 : Nat → Int64} (X : Stand p l e R s m args below meth c T locs cells slots) (hx : p.tables.exec = Jvm.exec) (hZ : Z.Warmed39 s.vm) (eT : T.heap = h) (F : own_A Z h a .long n (fun i => .long (g0 i))) {j : Int32} {k : Nat} (hj0 : ¬ j < 0) (hk : j.toNatClampNeg = k) (hkn : k < n) {g : JFrame} (hg : g.method = m) {rest : List Value} (hs : g.stack = .int j :: .ref a :: rest) (hd : decode c.code g.pc = .ok (.laload, 1)) {target : State}
    (hr : Steps p.tables e below (T.setTop { g with pc := g.pc + 1, stack := .long (g0 k) :: rest }) target) : Steps p.tables e below (T.setTop g) target := by
  obtain ⟨cl, A, q, r⟩ := F
  exact X.laload hx (j := j) (v := .long (g0 k)) (by rw [eT]; exact A.1) (State.isArrayOf_alike hZ.alike A.2.1) A.2.2 (own_inb q hj0 hk hkn) (by rw [hk]; exact (r k hkn).1) hg hs hd _ hr
theorem own_ldB {g0 : Nat → Int32} (X : Stand p l e R s m args below meth c T locs cells slots) (hx : p.tables.exec = Jvm.exec) (hZ : Z.Warmed39 s.vm) (eT : T.heap = h) (F : own_A Z h a .byte n (fun i => .int (g0 i))) {j : Int32} {k : Nat} (hj0 : ¬ j < 0) (hk : j.toNatClampNeg = k) (hkn : k < n) {g : JFrame} (hg : g.method = m) {rest : List Value} (hs : g.stack = .int j :: .ref a :: rest) (hd : decode c.code g.pc = .ok (.baload, 1)) {target : State}
    (hr : Steps p.tables e below (T.setTop { g with pc := g.pc + 1, stack := .int (g0 k) :: rest }) target) : Steps p.tables e below (T.setTop g) target := by
  obtain ⟨cl, A, q, r⟩ := F
  exact X.baloadBytes hx (j := j) (v := .int (g0 k)) (by rw [eT]; exact A.1) (State.isArrayOf_alike hZ.alike A.2.1) A.2.2 (own_inb q hj0 hk hkn) (by rw [hk]; exact (r k hkn).1) hg hs hd _ hr
theorem own_ldR {G : Nat → Value} (X : Stand p l e R s m args below meth c T locs cells slots) (hx : p.tables.exec = Jvm.exec) (hZ : Z.Warmed39 s.vm) (eT : T.heap = h) (F : own_A Z h a ty n G) (hty : ty.isReference = true) {j : Int32} {k : Nat} {v : Value} (hv : G k = v) (hj0 : ¬ j < 0) (hk : j.toNatClampNeg = k) (hkn : k < n) {g : JFrame} (hg : g.method = m) {rest : List Value} (hs : g.stack = .int j :: .ref a :: rest) (hd : decode c.code g.pc = .ok (.aaload, 1)) {target : State}
    (hr : Steps p.tables e below (T.setTop { g with pc := g.pc + 1, stack := v :: rest }) target) : Steps p.tables e below (T.setTop g) target := by
  obtain ⟨cl, A, q, r⟩ := F
  exact X.aaload hx (j := j) (v := v) (by rw [eT]; exact A.1) (State.isArrayOf_alike hZ.alike A.2.1) hty A.2.2 (own_inb q hj0 hk hkn) (by rw [hk, ← hv]; exact (r k hkn).1) hg hs hd _ hr
theorem own_len (X : Stand p l e R s m args below meth c T locs cells slots) (hx : p.tables.exec = Jvm.exec) (hZ : Z.Warmed39 s.vm) (eT : T.heap = h) (F : own_A Z h a ty n G) {z : Int32} (hz : n.toInt32 = z) {g : JFrame} (hg : g.method = m) {rest : List Value} (hs : g.stack = .ref a :: rest) (hd : decode c.code g.pc = .ok (.arraylength, 1)) {target : State}
    (hr : Steps p.tables e below (T.setTop { g with pc := g.pc + 1, stack := .int z :: rest }) target) : Steps p.tables e below (T.setTop g) target := by
  obtain ⟨cl, A, q, r⟩ := F
  exact X.arraylength hx (by rw [eT]; exact A.1) (State.isArrayOf_alike hZ.alike A.2.1) hg hs hd _ (by rw [q, hz]; exact hr)
theorem own_newP {aty : ArrayType} (X : Stand p l e R s m args below meth c T locs cells slots) (hx : p.tables.exec = Jvm.exec) (hZ : Z.Warmed39 s.vm) (w : (Cond.arrayClass (newarray.typeOf aty)).before a0 Z = true) (eT : T.heap = h) {g : JFrame} (hg : g.method = m) (hd : decode c.code g.pc = .ok (.newarray aty, 2)) {z : Int32} {rest : List Value} (hs : g.stack = .int z :: rest)
    (hn : ¬ z < 0) (hzn : z.toNatClampNeg = n) {G : Nat → Value} (hG : ∀ i, G i = defaultValue (newarray.typeOf aty)) {cap : Nat} (hcap : n ≤ cap) (hb : cap * 8 ≤ 536870912) (hc : cells + 1 ≤ R.cells) (hl : slots + cap ≤ R.slots) :
    ∃ (T' : State) (h' : Heap) (b : Addr), b = h.size ∧ Stand p l e R s m args below meth c T' locs (cells + 1) (slots + cap) ∧ T'.heap = h' ∧ Ext h h' ∧ own_A Z h' b (newarray.typeOf aty) n G ∧
      ∀ target, Steps p.tables e below (T'.setTop { g with pc := g.pc + 2, stack := .ref b :: rest }) target → Steps p.tables e below (T.setTop g) target := by
  obtain ⟨T', h', cA, X', e', E', A', st⟩ := newP X hx hZ w eT hg hd hs hn (cap := cap) (by rw [hzn]; exact hcap) hb hc hl
  exact ⟨T', h', _, rfl, X', e', E', own_A.new A' hzn hG, st⟩
theorem own_newPE {aty : ArrayType} (X : Stand p l e R s m args below meth c T locs cells slots) (hx : p.tables.exec = Jvm.exec) (hZ : Z.Warmed39 s.vm) (w : (Cond.arrayClass (newarray.typeOf aty)).before a0 Z = true) (eT : T.heap = h) {g : JFrame} (hg : g.method = m) (hd : decode c.code g.pc = .ok (.newarray aty, 2)) {z : Int32} {rest : List Value} (hs : g.stack = .int z :: rest)
    (hn : ¬ z < 0) (hzn : z.toNatClampNeg = n) {G : Nat → Value} (hG : ∀ i, G i = defaultValue (newarray.typeOf aty)) {cap : Nat} (hcap : n ≤ cap) (hb : cap * 8 ≤ 536870912) (hc : cells + 1 ≤ R.cells) (hl : slots + cap ≤ R.slots) {ad : String} (had : "[" ++ (newarray.typeOf aty).toString = ad) :
    ∃ (T' : State) (h' : Heap) (b : Addr), b = h.size ∧ Stand p l e R s m args below meth c T' locs (cells + 1) (slots + cap) ∧ T'.heap = h' ∧ Ext h h' ∧ own_A Z h' b (newarray.typeOf aty) n G ∧ Exa Z h' b ad ∧
      ∀ target, Steps p.tables e below (T'.setTop { g with pc := g.pc + 2, stack := .ref b :: rest }) target → Steps p.tables e below (T.setTop g) target := by
  obtain ⟨T', h', cA, X', e', E', A', B', st⟩ := newPE X hx hZ w eT hg hd hs hn (cap := cap) (by rw [hzn]; exact hcap) hb hc hl had
  exact ⟨T', h', _, rfl, X', e', E', own_A.new A' hzn hG, B', st⟩
theorem own_clone (X : Stand p l e R s m args below meth c T locs cells slots) (hx : p.tables.exec = Jvm.exec) (hZ : Z.Warmed39 s.vm) {own ad : String} {index : Nat} (hown : s.vm.findClass own = some m.cls)
    (w1 : (Cond.methodLink own index ⟨ad, "clone", "()Ljava/lang/Object;"⟩).before a0 Z = true) (w2 : (Cond.sameMethod ad "java/lang/Object" "clone" "()Ljava/lang/Object;").before a0 Z = true) (w3 : (Cond.native ⟨"java/lang/Object", "clone", "()Ljava/lang/Object;"⟩).before a0 Z = true)
    (w4 : (Cond.instanceMethod ⟨"java/lang/Object", "clone", "()Ljava/lang/Object;"⟩).before a0 Z = true) (w5 : (Cond.selects ad ⟨ad, "clone", "()Ljava/lang/Object;"⟩ ⟨"java/lang/Object", "clone", "()Ljava/lang/Object;"⟩).before a0 Z = true) (w6 : (Cond.castable ad "java/lang/Cloneable").before a0 Z = true)
    (eT : T.heap = h) (F : own_A Z h a ty n G) (E : Exa Z h a ad) {g : JFrame} (hg : g.method = m) (hsize : g.locals.size = c.maxLocals) {rest : List Value} (hs : g.stack = .ref a :: rest) (hd : decode c.code g.pc = .ok (.invokevirtual index, 3))
    (hf : 1 ≤ R.frames) {W cap : Nat} (hW : 2 * g.monitorRoom + (rest.map fun v => v.category).sum ≤ W) (hl : W + 14 ≤ R.locals) (hcap : n ≤ cap) (hc : cells + 1 ≤ R.cells) (hsl : slots + cap ≤ R.slots) :
    ∃ (T' : State) (h' : Heap) (b : Addr), b = h.size ∧ Stand p l e R s m args below meth c T' locs (cells + 1) (slots + cap) ∧ T'.heap = h' ∧ Ext h h' ∧ own_A Z h' b ty n G ∧ Exa Z h' b ad ∧
      ∀ target, Steps p.tables e below (T'.setTop { g with pc := g.pc + 3, stack := .ref b :: rest }) target → Steps p.tables e below (T.setTop g) target := by
  obtain ⟨cl, A, q, r⟩ := F
  have FC : FitC Z cl := fitC_of A fun i hi v hv => by
    have r1 := r i (by rw [← q]; exact hi)
    rw [r1.1] at hv; cases hv; exact r1.2
  obtain ⟨T', h', X', e', ex, A', E', st⟩ := cloneA X hx hZ hown w1 w2 w3 w4 w5 w6 eT A E FC hg hsize hs hd hf hW hl (by rw [q]; exact hcap) hc hsl
  exact ⟨T', h', _, rfl, X', e', ex, ⟨cloneOf cl, A', q, r⟩, E', st⟩
theorem own_A.congr {G' : Nat → Value} (F : own_A Z h a ty n G) (q : ∀ i, i < n → G i = G' i) : own_A Z h a ty n G' := by
  obtain ⟨c, A, s, r⟩ := F
  exact ⟨c, A, s, fun i hi => by rw [← q i hi]; exact r i hi⟩
theorem own_A_plain (F : own_A Z h a ty n G) : ∀ c : Cell, h[a]? = some c → c.vm.isStatics = false := fun c hc => by
  obtain ⟨cl, A, -⟩ := F
  cases hc.symm.trans A.1
  exact A.plain
theorem own_E_plain {C : String} (F : Exa Z h a C) : ∀ c : Cell, h[a]? = some c → c.vm.isStatics = false := fun c hc => by
  obtain ⟨cl, k, h1, -, -, h4, -⟩ := F
  cases hc.symm.trans h1
  exact h4
theorem own_sta_keep {C f d : String} {v : Value} {ws : List Addr} (F : Sta Z h C f d v) (K : Keep h h' ws) (q : ∀ x ∈ ws, ∀ c : Cell, h[x]? = some c → c.vm.isStatics = false) : Sta Z h' C f d v := by
  obtain ⟨cf, i, k, f, st, cell, h1, h2, h3, h4, h5, h6, h7⟩ := F
  exact ⟨cf, i, k, f, st, cell, h1, h2, h3, h4, K.2.1 st cell h5 (fun z => by rw [q st z cell h5] at h6; cases h6), h6, h7⟩
end OwnA
end Jvm.RoadKit
namespace Jvm.Pilot.@@N@@
open Jvm Jvm.ClassFile Sem Op Lib Jvm.Free Jvm.Stand Jvm.LawKit Jvm.RoadKit Bundle Jvm.Pilot.@@N@@.Jvm.D
def own_dg (r : Int32) : Int32 := (((48 : Int32) + (r % (10 : Int32))).toInt8.toInt32).toInt8.toInt32
def own_put (g : Nat → Int32) (s : Nat) : Nat → Int32 → (Nat → Int32)
  | 0, _ => g
  | k + 1, r => own_put (own_upd g (s + k) (own_dg r)) s k (r / (10 : Int32))
theorem own_p0 (a b : Int32) (ha : 0 ≤ a.toInt) (hb : 0 ≤ b.toInt) (h : a.toInt + b.toInt ≤ 1000) : ((a + b) - (1 : Int32)).toInt = a.toInt + (b.toNatClampNeg : Int) - 1 := by
  have a1 := c_iadd a b
  have r1 := rng32 (a + b)
  have a2 := c_isub (a + b) 1
  have r2 := rng32 (a + b - 1)
  have l1 : (1 : Int32).toInt = 1 := by decide
  have l0 : (0 : Int32).toInt = 0 := by decide
  have n1 : ¬ b < 0 := by rw [Int32.lt_iff_toInt_lt]; omega
  have n2 := nat_of n1
  omega
theorem own_p1 {x a : Int32} {k : Nat} (h : x.toInt = a.toInt + (k : Int) - 1) (hk : k = 0) : x < a := by rw [Int32.lt_iff_toInt_lt]; omega
theorem own_p2 {x a : Int32} {k : Nat} (h : x.toInt = a.toInt + ((k + 1 : Nat) : Int) - 1) : ¬ x < a := by rw [Int32.lt_iff_toInt_lt]; omega
theorem own_p3 {x a : Int32} {k : Nat} (ha : 0 ≤ a.toInt) (h : x.toInt = a.toInt + ((k + 1 : Nat) : Int) - 1) : ¬ x < 0 ∧ x.toNatClampNeg = a.toNatClampNeg + k := by
  have l0 : (0 : Int32).toInt = 0 := by decide
  have n1 : ¬ x < 0 := by rw [Int32.lt_iff_toInt_lt]; omega
  have n2 := nat_of n1
  have n3 : ¬ a < 0 := by rw [Int32.lt_iff_toInt_lt]; omega
  have n4 := nat_of n3
  exact ⟨n1, by omega⟩
theorem own_p4 {x a : Int32} {k : Nat} (ha : 0 ≤ a.toInt) (ha2 : a.toInt + ((k + 1 : Nat) : Int) ≤ 1000) (h : x.toInt = a.toInt + ((k + 1 : Nat) : Int) - 1) : (x + (-1 : Int32)).toInt = a.toInt + (k : Int) - 1 := by
  have a1 := c_iadd x (-1)
  have r1 := rng32 (x + (-1))
  have l1 : (-1 : Int32).toInt = -1 := by decide
  omega
theorem own_bn {a : Int32} (h : 0 ≤ a.toInt) : ¬ a < 0 := by
  rw [Int32.lt_iff_toInt_lt]
  have l0 : (0 : Int32).toInt = 0 := by decide
  omega
theorem d1_0 : decode prog_23_method_8_code 0 = .ok (.iload_n 3, 1) := by decide +kernel
theorem d1_1 : decode prog_23_method_8_code 1 = .ok (.istore 4, 2) := by decide +kernel
theorem d1_3 : decode prog_23_method_8_code 3 = .ok (.iload_n 1, 1) := by decide +kernel
theorem d1_4 : decode prog_23_method_8_code 4 = .ok (.iload_n 2, 1) := by decide +kernel
theorem d1_5 : decode prog_23_method_8_code 5 = .ok (.iadd, 1) := by decide +kernel
theorem d1_6 : decode prog_23_method_8_code 6 = .ok (.iconst 1, 1) := by decide +kernel
theorem d1_7 : decode prog_23_method_8_code 7 = .ok (.isub, 1) := by decide +kernel
theorem d1_8 : decode prog_23_method_8_code 8 = .ok (.istore 5, 2) := by decide +kernel
theorem d1_10 : decode prog_23_method_8_code 10 = .ok (.iload 5, 2) := by decide +kernel
theorem d1_12 : decode prog_23_method_8_code 12 = .ok (.iload_n 1, 1) := by decide +kernel
theorem d1_13 : decode prog_23_method_8_code 13 = .ok (.if_icmp .lt 29, 3) := by decide +kernel
theorem d1_16 : decode prog_23_method_8_code 16 = .ok (.aload_n 0, 1) := by decide +kernel
theorem d1_17 : decode prog_23_method_8_code 17 = .ok (.iload 5, 2) := by decide +kernel
theorem d1_19 : decode prog_23_method_8_code 19 = .ok (.bipush 48, 2) := by decide +kernel
theorem d1_21 : decode prog_23_method_8_code 21 = .ok (.iload 4, 2) := by decide +kernel
theorem d1_23 : decode prog_23_method_8_code 23 = .ok (.bipush 10, 2) := by decide +kernel
theorem d1_25 : decode prog_23_method_8_code 25 = .ok (.irem, 1) := by decide +kernel
theorem d1_26 : decode prog_23_method_8_code 26 = .ok (.iadd, 1) := by decide +kernel
theorem d1_27 : decode prog_23_method_8_code 27 = .ok (.i2b, 1) := by decide +kernel
theorem d1_28 : decode prog_23_method_8_code 28 = .ok (.bastore, 1) := by decide +kernel
theorem d1_29 : decode prog_23_method_8_code 29 = .ok (.iload 4, 2) := by decide +kernel
theorem d1_31 : decode prog_23_method_8_code 31 = .ok (.bipush 10, 2) := by decide +kernel
theorem d1_33 : decode prog_23_method_8_code 33 = .ok (.idiv, 1) := by decide +kernel
theorem d1_34 : decode prog_23_method_8_code 34 = .ok (.istore 4, 2) := by decide +kernel
theorem d1_36 : decode prog_23_method_8_code 36 = .ok (.iinc 5 (-1), 3) := by decide +kernel
theorem d1_39 : decode prog_23_method_8_code 39 = .ok (.goto (-29), 3) := by decide +kernel
theorem d1_42 : decode prog_23_method_8_code 42 = .ok (.return_, 1) := by decide +kernel
theorem pn_1 : plainName "com/example/dayt/dayt/text/TextForm" = true := by first | (simp [plainName, overriddenIn]; done) | decide +kernel
theorem ef_1 (m : MethodId) (p0 : Addr) (p1 : Int32) (p2 : Int32) (p3 : Int32) : entryFrame m #[(.ref p0), (.int p1), (.int p2), (.int p3)] 6 = mkF m 0 #[.val (.ref p0), .val (.int p1), .val (.int p2), .val (.int p3), .unset, .unset] [] := by first | (simp [entryFrame, mkF, argsToLocals, Value.category]; done) | rfl
def Q_1 (Z : State) (p0 : Addr) (p1 : Int32) (p2 : Int32) (p3 : Int32) (n_ : Nat) (g_ : Nat → Int32) (h0 : Heap) (n0 : Nat) (v : Option Value) (h : Heap) (L : List Loc) : Prop := v = none ∧ Fr n0 L ∧ Keep h0 h [p0] ∧ own_A Z h p0 .byte n_ (fun i => .int ((own_put g_ p1.toNatClampNeg p2.toNatClampNeg p3) i))
set_option maxRecDepth 65536 in
set_option maxHeartbeats 40000000 in
theorem rm_1 (l : Launch) (Z : State) (a0 : Array Value) (hw : ∀ d ∈ tables_1, d.before a0 Z = true) (ws : List Jvm.Cond) (p0 : Addr) (p1 : Int32) (p2 : Int32) (p3 : Int32) (n_ : Nat) (g_ : Nat → Int32) (h0 : Heap) (n0 : Nat) (Z0 : n0 ≤ h0.size) (A_p0 : own_A Z h0 p0 .byte n_ (fun i => .int (g_ i))) (ge_p0 : n0 ≤ p0) (hs : 0 ≤ p1.toInt ∧ 0 ≤ p2.toInt ∧ p1.toInt + p2.toInt ≤ (n_ : Int) ∧ (n_ : Int) ≤ 1000) :
    MetFree l (⟨"com/example/dayt/dayt/text/TextForm", "putDigits", "([BIII)V"⟩ : MethodName) (head1 (Jvm.Cond.code (⟨"com/example/dayt/dayt/text/TextForm", "putDigits", "([BIII)V"⟩ : MethodName) prog_23_method_8_code 6 none :: ws) ({ frames := 0, cells := 0, slots := 0, locals := 0 } : Room)) (fun a U => a = #[(.ref p0), (.int p1), (.int p2), (.int p3)] ∧ Z.Warmed39 U.vm ∧ U.heap = h0) (fun _ _ _ _ _ => True) (fun _ U o U' => ∃ v L, o = .returned v ∧ Q_1 Z p0 p1 p2 p3 n_ g_ h0 n0 v U'.heap L ∧ FrameEnd U o U' L ({ frames := 0, cells := 0, slots := 0, locals := 0 } : Room).cells ({ frames := 0, cells := 0, slots := 0, locals := 0 } : Room).slots) := by
  refine MetFree.of_bodySF (plainFor_of_name pn_1) hisR ?_
  intro p e s m args below meth c s₁ Bd hml0 hP hK
  obtain ⟨rfl, hZ, hh⟩ := hP
  have hx := Bd.exec
  have hby := Bd.bytes
  have hml : c.maxLocals = 6 := hml0
  have hown : s.vm.findClass "com/example/dayt/dayt/text/TextForm" = some m.cls := findClass_of_methodNamed Bd.named
  have hnm := (name_of_methodNamed Bd.named Bd.method).1
  have X0 : Stand p l e ({ frames := 0, cells := 0, slots := 0, locals := 0 } : Room) s m #[(.ref p0), (.int p1), (.int p2), (.int p3)] below meth c s₁ [] 0 0 := Stand.of_body Bd
  have e0 : s₁.heap = h0 := by rw [← hh, Bd.state]; rfl
  have N0 := Fr.nil n0
  have K0 : Keep h0 h0 [p0] := Keep.refl h0 _
  have pre0 : ∀ t, Steps p.tables e below (s₁.setTop (mkF m 0 #[.val (.ref p0), .val (.int p1), .val (.int p2), .val (.int p3), .unset, .unset] [])) t → Steps p.tables e below (s₁.setTop (entryFrame m #[(.ref p0), (.int p1), (.int p2), (.int p3)] 6)) t := fun t k => castTop (ef_1 m p0 p1 p2 p3) k
  obtain ⟨v5_8, hv5_8⟩ : ∃ z : Int32, z = ((p1 + p2) - (1 : Int32)) := ⟨_, rfl⟩
  have pre1 : ∀ t, Steps p.tables e below (s₁.setTop (mkF m 10 #[.val (.ref p0), .val (.int p1), .val (.int p2), .val (.int p3), .val (.int p3), .val (.int v5_8)] [])) t → Steps p.tables e below (s₁.setTop (entryFrame m #[(.ref p0), (.int p1), (.int p2), (.int p3)] 6)) t := by
    intro t k
    refine pre0 t ?_
    show Steps p.tables e below (s₁.setTop (mkF m 0 #[.val (.ref p0), .val (.int p1), .val (.int p2), .val (.int p3), .unset, .unset] [])) _
    refine XS.iloadN X0.here hx rfl (hb hby d1_0) rfl  ?_
    show Steps p.tables e below (s₁.setTop (mkF m 1 #[.val (.ref p0), .val (.int p1), .val (.int p2), .val (.int p3), .unset, .unset] [(.int p3)])) _
    refine XS.istore X0.here hx rfl (hb hby d1_1) rfl (l' := #[.val (.ref p0), .val (.int p1), .val (.int p2), .val (.int p3), .val (.int p3), .unset]) rfl ?_
    show Steps p.tables e below (s₁.setTop (mkF m 3 #[.val (.ref p0), .val (.int p1), .val (.int p2), .val (.int p3), .val (.int p3), .unset] [])) _
    refine XS.iloadN X0.here hx rfl (hb hby d1_3) rfl  ?_
    show Steps p.tables e below (s₁.setTop (mkF m 4 #[.val (.ref p0), .val (.int p1), .val (.int p2), .val (.int p3), .val (.int p3), .unset] [(.int p1)])) _
    refine XS.iloadN X0.here hx rfl (hb hby d1_4) rfl  ?_
    show Steps p.tables e below (s₁.setTop (mkF m 5 #[.val (.ref p0), .val (.int p1), .val (.int p2), .val (.int p3), .val (.int p3), .unset] [(.int p2), (.int p1)])) _
    refine XS.iadd X0.here hx rfl (hb hby d1_5) rfl ?_
    show Steps p.tables e below (s₁.setTop (mkF m 6 #[.val (.ref p0), .val (.int p1), .val (.int p2), .val (.int p3), .val (.int p3), .unset] [(.int (p1 + p2))])) _
    refine XS.iconst X0.here hx rfl (hb hby d1_6) ?_
    show Steps p.tables e below (s₁.setTop (mkF m 7 #[.val (.ref p0), .val (.int p1), .val (.int p2), .val (.int p3), .val (.int p3), .unset] [(.int (1 : Int32)), (.int (p1 + p2))])) _
    refine XS.isub X0.here hx rfl (hb hby d1_7) rfl ?_
    show Steps p.tables e below (s₁.setTop (mkF m 8 #[.val (.ref p0), .val (.int p1), .val (.int p2), .val (.int p3), .val (.int p3), .unset] [(.int ((p1 + p2) - (1 : Int32)))])) _
    refine XS.istore X0.here hx rfl (hb hby d1_8) rfl (l' := #[.val (.ref p0), .val (.int p1), .val (.int p2), .val (.int p3), .val (.int p3), .val (.int v5_8)]) (by rw [hv5_8]; rfl) ?_
    exact k
  have loop : ∀ (k : Nat) (TT : State) (hh_ : Heap) (lc : List Loc) (x4 : Int32) (x5 : Int32) (g : Nat → Int32), Stand p l e ({ frames := 0, cells := 0, slots := 0, locals := 0 } : Room) s m #[(.ref p0), (.int p1), (.int p2), (.int p3)] below meth c TT lc 0 0 → TT.heap = hh_ → Fr n0 lc → Keep h0 hh_ [p0] → n0 ≤ hh_.size → own_A Z hh_ p0 .byte n_ (fun i => .int (g i)) → (x5.toInt = p1.toInt + (k : Int) - 1 ∧ p1.toInt + (k : Int) ≤ (n_ : Int) ∧ own_put g p1.toNatClampNeg k x4 = own_put g_ p1.toNatClampNeg p2.toNatClampNeg p3) → (∀ t, Steps p.tables e below (TT.setTop (mkF m 10 #[.val (.ref p0), .val (.int p1), .val (.int p2), .val (.int p3), .val (.int x4), .val (.int x5)] [])) t → Steps p.tables e below (s₁.setTop (entryFrame m #[(.ref p0), (.int p1), (.int p2), (.int p3)] 6)) t) → ∃ s₂ o, Steps p.tables e below (s₁.setTop (entryFrame m #[(.ref p0), (.int p1), (.int p2), (.int p3)] 6)) s₂ ∧ s₂.status = .running ∧ Ended s₂ below o ∧ ∃ v L, o = .returned v ∧ Q_1 Z p0 p1 p2 p3 n_ g_ h0 n0 v s₂.heap L ∧ FrameEnd s o s₂ L ({ frames := 0, cells := 0, slots := 0, locals := 0 } : Room).cells ({ frames := 0, cells := 0, slots := 0, locals := 0 } : Room).slots := by
    intro k
    induction k with
    | zero =>
      intro TT hh_ lc x4 x5 g XX ee NN KK ZZ FF0 hI pp
      obtain ⟨fs, hr, hrun, hended, hW, hsame⟩ := XX.leave (v := none) (fun _ => rfl) (BodyLoose.notSynchronized Bd)
      refine ⟨_, _, pp _ ?_, hrun, hended, _, _, rfl, ?_, ⟨_, rfl⟩, hW, hsame.mono (by decide) (by decide)⟩
      · show Steps p.tables e below (TT.setTop (mkF m 10 #[.val (.ref p0), .val (.int p1), .val (.int p2), .val (.int p3), .val (.int x4), .val (.int x5)] [])) _
        refine XS.iload XX.here hx rfl (hb hby d1_10) rfl  ?_
        show Steps p.tables e below (TT.setTop (mkF m 12 #[.val (.ref p0), .val (.int p1), .val (.int p2), .val (.int p3), .val (.int x4), .val (.int x5)] [(.int x5)])) _
        refine XS.iloadN XX.here hx rfl (hb hby d1_12) rfl  ?_
        show Steps p.tables e below (TT.setTop (mkF m 13 #[.val (.ref p0), .val (.int p1), .val (.int p2), .val (.int p3), .val (.int x4), .val (.int x5)] [(.int p1), (.int x5)])) _
        refine XS.icmpYes XX.here hx rfl (pc0 := 13) (pc' := 42) rfl (hb hby d1_13) rfl (tlt ((own_p1 hI.1 rfl) : x5 < p1)).1 (by decide) (by decide) ?_
        show Steps p.tables e below (TT.setTop (mkF m 42 #[.val (.ref p0), .val (.int p1), .val (.int p2), .val (.int p3), .val (.int x4), .val (.int x5)] [])) _
        exact XX.returnOut hx Bd.returns (hb hby d1_42) hr
      · show Q_1 Z p0 p1 p2 p3 n_ g_ h0 n0 _ TT.heap _
        rw [ee]
        have re_p0 := FF0
        rw [show g = (own_put g_ p1.toNatClampNeg p2.toNatClampNeg p3) from hI.2.2] at re_p0
        exact ⟨rfl, NN, KK, re_p0⟩
    | succ k ih =>
      intro TT hh_ lc x4 x5 g XX ee NN KK ZZ FF0 hI pp
      have pre2 : ∀ t, Steps p.tables e below (TT.setTop (mkF m 28 #[.val (.ref p0), .val (.int p1), .val (.int p2), .val (.int p3), .val (.int x4), .val (.int x5)] [(.int (((48 : Int32) + (x4 % (10 : Int32))).toInt8.toInt32)), (.int x5), (.ref p0)])) t → Steps p.tables e below (s₁.setTop (entryFrame m #[(.ref p0), (.int p1), (.int p2), (.int p3)] 6)) t := by
        intro t k
        refine pp t ?_
        show Steps p.tables e below (TT.setTop (mkF m 10 #[.val (.ref p0), .val (.int p1), .val (.int p2), .val (.int p3), .val (.int x4), .val (.int x5)] [])) _
        refine XS.iload XX.here hx rfl (hb hby d1_10) rfl  ?_
        show Steps p.tables e below (TT.setTop (mkF m 12 #[.val (.ref p0), .val (.int p1), .val (.int p2), .val (.int p3), .val (.int x4), .val (.int x5)] [(.int x5)])) _
        refine XS.iloadN XX.here hx rfl (hb hby d1_12) rfl  ?_
        show Steps p.tables e below (TT.setTop (mkF m 13 #[.val (.ref p0), .val (.int p1), .val (.int p2), .val (.int p3), .val (.int x4), .val (.int x5)] [(.int p1), (.int x5)])) _
        refine XS.icmpNo XX.here hx rfl (hb hby d1_13) rfl (flt ((own_p2 hI.1) : ¬ (x5 < p1))).1 ?_
        show Steps p.tables e below (TT.setTop (mkF m 16 #[.val (.ref p0), .val (.int p1), .val (.int p2), .val (.int p3), .val (.int x4), .val (.int x5)] [])) _
        refine XS.aloadN XX.here hx rfl (hb hby d1_16) rfl rfl ?_
        show Steps p.tables e below (TT.setTop (mkF m 17 #[.val (.ref p0), .val (.int p1), .val (.int p2), .val (.int p3), .val (.int x4), .val (.int x5)] [(.ref p0)])) _
        refine XS.iload XX.here hx rfl (hb hby d1_17) rfl  ?_
        show Steps p.tables e below (TT.setTop (mkF m 19 #[.val (.ref p0), .val (.int p1), .val (.int p2), .val (.int p3), .val (.int x4), .val (.int x5)] [(.int x5), (.ref p0)])) _
        refine XS.bipush XX.here hx rfl (hb hby d1_19) ?_
        show Steps p.tables e below (TT.setTop (mkF m 21 #[.val (.ref p0), .val (.int p1), .val (.int p2), .val (.int p3), .val (.int x4), .val (.int x5)] [(.int (48 : Int32)), (.int x5), (.ref p0)])) _
        refine XS.iload XX.here hx rfl (hb hby d1_21) rfl  ?_
        show Steps p.tables e below (TT.setTop (mkF m 23 #[.val (.ref p0), .val (.int p1), .val (.int p2), .val (.int p3), .val (.int x4), .val (.int x5)] [(.int x4), (.int (48 : Int32)), (.int x5), (.ref p0)])) _
        refine XS.bipush XX.here hx rfl (hb hby d1_23) ?_
        show Steps p.tables e below (TT.setTop (mkF m 25 #[.val (.ref p0), .val (.int p1), .val (.int p2), .val (.int p3), .val (.int x4), .val (.int x5)] [(.int (10 : Int32)), (.int x4), (.int (48 : Int32)), (.int x5), (.ref p0)])) _
        refine iremM XX hx rfl (hb hby d1_25) rfl (by decide) ?_
        show Steps p.tables e below (TT.setTop (mkF m 26 #[.val (.ref p0), .val (.int p1), .val (.int p2), .val (.int p3), .val (.int x4), .val (.int x5)] [(.int (x4 % (10 : Int32))), (.int (48 : Int32)), (.int x5), (.ref p0)])) _
        refine XS.iadd XX.here hx rfl (hb hby d1_26) rfl ?_
        show Steps p.tables e below (TT.setTop (mkF m 27 #[.val (.ref p0), .val (.int p1), .val (.int p2), .val (.int p3), .val (.int x4), .val (.int x5)] [(.int ((48 : Int32) + (x4 % (10 : Int32)))), (.int x5), (.ref p0)])) _
        refine XS.i2b XX.here hx rfl (hb hby d1_27) rfl ?_
        exact k
      obtain ⟨T3, h3, X3, e3, W3, A3, st3⟩ := own_stB XX hx hZ ee FF0 (j := x5) (x := (((48 : Int32) + (x4 % (10 : Int32))).toInt8.toInt32)) (k := x5.toNatClampNeg) (own_p3 hs.1 hI.1).1 rfl (by rw [(own_p3 hs.1 hI.1).2]; have n4 := nat_of (own_bn hs.1); have q := hI.2.1; omega) (g := (mkF m 28 #[.val (.ref p0), .val (.int p1), .val (.int p2), .val (.int p3), .val (.int x4), .val (.int x5)] [(.int (((48 : Int32) + (x4 % (10 : Int32))).toInt8.toInt32)), (.int x5), (.ref p0)])) rfl rfl (hb hby d1_28)
      obtain ⟨g_28, hg_28⟩ : ∃ z : Nat → Int32, z = (own_upd g x5.toNatClampNeg (((48 : Int32) + (x4 % (10 : Int32))).toInt8.toInt32).toInt8.toInt32) := ⟨_, rfl⟩
      rw [← hg_28] at A3
      have K3 := KK.wr W3 (Or.inl (List.mem_of_getElem? (i := 0) rfl))
      have Z3 := Nat.le_trans ZZ (Nat.le_of_eq W3.size.symm)
      have N3 := Fr.snoc X3 NN ge_p0
      obtain ⟨v4_34, hv4_34⟩ : ∃ z : Int32, z = (x4 / (10 : Int32)) := ⟨_, rfl⟩
      obtain ⟨v5_36, hv5_36⟩ : ∃ z : Int32, z = (x5 + (-1 : Int32)) := ⟨_, rfl⟩
      have pre4 : ∀ t, Steps p.tables e below (T3.setTop (mkF m 10 #[.val (.ref p0), .val (.int p1), .val (.int p2), .val (.int p3), .val (.int v4_34), .val (.int v5_36)] [])) t → Steps p.tables e below (s₁.setTop (entryFrame m #[(.ref p0), (.int p1), (.int p2), (.int p3)] 6)) t := by
        intro t k
        refine pre2 t ?_
        show Steps p.tables e below (TT.setTop (mkF m 28 #[.val (.ref p0), .val (.int p1), .val (.int p2), .val (.int p3), .val (.int x4), .val (.int x5)] [(.int (((48 : Int32) + (x4 % (10 : Int32))).toInt8.toInt32)), (.int x5), (.ref p0)])) _
        refine st3 _ ?_
        show Steps p.tables e below (T3.setTop (mkF m 29 #[.val (.ref p0), .val (.int p1), .val (.int p2), .val (.int p3), .val (.int x4), .val (.int x5)] [])) _
        refine XS.iload X3.here hx rfl (hb hby d1_29) rfl  ?_
        show Steps p.tables e below (T3.setTop (mkF m 31 #[.val (.ref p0), .val (.int p1), .val (.int p2), .val (.int p3), .val (.int x4), .val (.int x5)] [(.int x4)])) _
        refine XS.bipush X3.here hx rfl (hb hby d1_31) ?_
        show Steps p.tables e below (T3.setTop (mkF m 33 #[.val (.ref p0), .val (.int p1), .val (.int p2), .val (.int p3), .val (.int x4), .val (.int x5)] [(.int (10 : Int32)), (.int x4)])) _
        refine XS.idiv X3.here hx rfl (hb hby d1_33) rfl (by decide) ?_
        show Steps p.tables e below (T3.setTop (mkF m 34 #[.val (.ref p0), .val (.int p1), .val (.int p2), .val (.int p3), .val (.int x4), .val (.int x5)] [(.int (x4 / (10 : Int32)))])) _
        refine XS.istore X3.here hx rfl (hb hby d1_34) rfl (l' := #[.val (.ref p0), .val (.int p1), .val (.int p2), .val (.int p3), .val (.int v4_34), .val (.int x5)]) (by rw [hv4_34]; rfl) ?_
        show Steps p.tables e below (T3.setTop (mkF m 36 #[.val (.ref p0), .val (.int p1), .val (.int p2), .val (.int p3), .val (.int v4_34), .val (.int x5)] [])) _
        refine XS.iinc X3.here hx rfl (hb hby d1_36) rfl (l' := #[.val (.ref p0), .val (.int p1), .val (.int p2), .val (.int p3), .val (.int v4_34), .val (.int v5_36)]) (by rw [hv5_36]; rfl) ?_
        show Steps p.tables e below (T3.setTop (mkF m 39 #[.val (.ref p0), .val (.int p1), .val (.int p2), .val (.int p3), .val (.int v4_34), .val (.int v5_36)] [])) _
        refine XS.goto X3.here hx rfl (pc0 := 39) (pc' := 10) rfl (hb hby d1_39) (by decide) (by decide) ?_
        exact k
      exact ih T3 h3 _ v4_34 v5_36 g_28 X3 e3 N3 K3 Z3 A3 ⟨by rw [hv5_36]; exact own_p4 hs.1 (by have q := hI.2.1; omega) hI.1, by have q := hI.2.1; omega, by rw [hv4_34, hg_28, (own_p3 hs.1 hI.1).2]; exact hI.2.2⟩ pre4
  exact loop p2.toNatClampNeg s₁ h0 _ p3 v5_8 g_ X0 e0 N0 K0 Z0 A_p0 ⟨by rw [hv5_8]; exact own_p0 _ _ hs.1 hs.2.1 (by omega), by have n2 := nat_of (own_bn hs.2.1); omega, rfl⟩ pre1
def own_pt (i : Nat) : Int64 := ([1, 10, 100, 1000, 10000, 100000, 1000000, 10000000, 100000000, 1000000000, 10000000000] : List Int64).getD i 0
def own_fl (b : Int32) (_ : Nat) : Int32 := b.toInt8.toInt32
theorem own_ptnz (i : Nat) : i < 11 → own_pt i ≠ 0 := by
  revert i
  decide +kernel
theorem own_ptv (i : Nat) : i < 11 → (own_pt i).toInt = 10 ^ i := by
  revert i
  decide +kernel
theorem own_j1 {p1 p2 p3 v7 v8 : Int32} (h1 : ¬ p1 < 0) (h2 : p1.toNatClampNeg < 14) (hs : 0 ≤ p2.toInt ∧ p2.toInt ≤ 2 ∧ 0 ≤ p3.toInt ∧ p3.toInt ≤ 10) (hv7 : v7 = (p2 + p3)) (hv8 : v8 = ((v7 - (1 : Int32)) - p1)) : v7.toInt = p2.toInt + p3.toInt ∧ v8.toInt = p2.toInt + p3.toInt - 1 - p1.toInt := by
  have n1 := nat_of h1
  have a1 := c_iadd p2 p3
  have r1 := rng32 (p2 + p3)
  rw [← hv7] at a1 r1
  have a2 := c_isub v7 1
  have r2 := rng32 (v7 - 1)
  have a3 := c_isub (v7 - 1) p1
  have r3 := rng32 ((v7 - 1) - p1)
  rw [← hv8] at a3 r3
  have l1 : (1 : Int32).toInt = 1 := by decide
  omega
theorem own_j {p1 p2 p3 v7 v8 : Int32} (h1 : ¬ p1 < 0) (h2 : p1.toNatClampNeg < 14) (hs : 0 ≤ p2.toInt ∧ p2.toInt ≤ 2 ∧ 0 ≤ p3.toInt ∧ p3.toInt ≤ 10) (c7 : ¬ p1 < p2) (c13 : p1 < v7) (hv7 : v7 = (p2 + p3)) (hv8 : v8 = ((v7 - (1 : Int32)) - p1)) : ¬ v8 < 0 ∧ v8.toNatClampNeg < 11 := by
  have q := own_j1 h1 h2 hs hv7 hv8
  rw [Int32.lt_iff_toInt_lt] at c7 c13
  have l0 : (0 : Int32).toInt = 0 := by decide
  have n1 : ¬ v8 < 0 := by rw [Int32.lt_iff_toInt_lt]; omega
  have n2 := nat_of n1
  exact ⟨n1, by omega⟩
theorem own_ct {p v : Int32} (hv : v = ((p &&& (2147483647 : Int32)) % (11 : Int32))) : ¬ v < 0 ∧ v.toNatClampNeg < 11 := by
  have a1 := c_mask p 2147483647 31 (by decide) (by decide)
  have a2 := (c_irem (p &&& 2147483647) 11 11 (by decide)).1 (by omega)
  rw [← hv] at a2
  have l0 : (0 : Int32).toInt = 0 := by decide
  have n1 : ¬ v < 0 := by rw [Int32.lt_iff_toInt_lt]; omega
  have n2 := nat_of n1
  exact ⟨n1, by omega⟩
theorem own_sc {p q s c : Int32} (hs : s = ((p &&& (2147483647 : Int32)) % (3 : Int32))) (hc : c = ((q &&& (2147483647 : Int32)) % (11 : Int32))) : 0 ≤ s.toInt ∧ s.toInt ≤ 2 ∧ 0 ≤ c.toInt ∧ c.toInt ≤ 10 := by
  have a1 := c_mask p 2147483647 31 (by decide) (by decide)
  have a2 := (c_irem (p &&& 2147483647) 3 3 (by decide)).1 (by omega)
  have b1 := c_mask q 2147483647 31 (by decide) (by decide)
  have b2 := (c_irem (q &&& 2147483647) 11 11 (by decide)).1 (by omega)
  rw [← hs] at a2
  rw [← hc] at b2
  omega
theorem own_sc2 {s c : Int32} (h : 0 ≤ s.toInt ∧ s.toInt ≤ 2 ∧ 0 ≤ c.toInt ∧ c.toInt ≤ 10) : 0 ≤ s.toInt ∧ 0 ≤ c.toInt ∧ s.toInt + c.toInt ≤ ((14 : Nat) : Int) ∧ ((14 : Nat) : Int) ≤ 1000 := by omega
theorem d2_0 : decode method_3_code 0 = .ok (.iload_n 2, 1) := by decide +kernel
theorem d2_1 : decode method_3_code 1 = .ok (.iload_n 3, 1) := by decide +kernel
theorem d2_2 : decode method_3_code 2 = .ok (.iadd, 1) := by decide +kernel
theorem d2_3 : decode method_3_code 3 = .ok (.istore 7, 2) := by decide +kernel
theorem d2_5 : decode method_3_code 5 = .ok (.iload_n 1, 1) := by decide +kernel
theorem d2_6 : decode method_3_code 6 = .ok (.iload_n 2, 1) := by decide +kernel
theorem d2_7 : decode method_3_code 7 = .ok (.if_icmp .lt 9, 3) := by decide +kernel
theorem d2_10 : decode method_3_code 10 = .ok (.iload_n 1, 1) := by decide +kernel
theorem d2_11 : decode method_3_code 11 = .ok (.iload 7, 2) := by decide +kernel
theorem d2_13 : decode method_3_code 13 = .ok (.if_icmp .lt 17, 3) := by decide +kernel
theorem d2_16 : decode method_3_code 16 = .ok (.aload_n 0, 1) := by decide +kernel
theorem d2_17 : decode method_3_code 17 = .ok (.iload_n 1, 1) := by decide +kernel
theorem d2_18 : decode method_3_code 18 = .ok (.baload, 1) := by decide +kernel
theorem d2_19 : decode method_3_code 19 = .ok (.iload 5, 2) := by decide +kernel
theorem d2_21 : decode method_3_code 21 = .ok (.if_icmp .ne 7, 3) := by decide +kernel
theorem d2_24 : decode method_3_code 24 = .ok (.iconst 1, 1) := by decide +kernel
theorem d2_25 : decode method_3_code 25 = .ok (.goto 4, 3) := by decide +kernel
theorem d2_28 : decode method_3_code 28 = .ok (.iconst 0, 1) := by decide +kernel
theorem d2_29 : decode method_3_code 29 = .ok (.ireturn, 1) := by decide +kernel
theorem d2_30 : decode method_3_code 30 = .ok (.iload 7, 2) := by decide +kernel
theorem d2_32 : decode method_3_code 32 = .ok (.iconst 1, 1) := by decide +kernel
theorem d2_33 : decode method_3_code 33 = .ok (.isub, 1) := by decide +kernel
theorem d2_34 : decode method_3_code 34 = .ok (.iload_n 1, 1) := by decide +kernel
theorem d2_35 : decode method_3_code 35 = .ok (.isub, 1) := by decide +kernel
theorem d2_36 : decode method_3_code 36 = .ok (.istore 8, 2) := by decide +kernel
theorem d2_38 : decode method_3_code 38 = .ok (.iload 4, 2) := by decide +kernel
theorem d2_40 : decode method_3_code 40 = .ok (.i2l, 1) := by decide +kernel
theorem d2_41 : decode method_3_code 41 = .ok (.aload 6, 2) := by decide +kernel
theorem d2_43 : decode method_3_code 43 = .ok (.iload 8, 2) := by decide +kernel
theorem d2_45 : decode method_3_code 45 = .ok (.laload, 1) := by decide +kernel
theorem d2_46 : decode method_3_code 46 = .ok (.ldiv, 1) := by decide +kernel
theorem d2_47 : decode method_3_code 47 = .ok (.ldc2_w 7, 3) := by decide +kernel
theorem d2_50 : decode method_3_code 50 = .ok (.lrem, 1) := by decide +kernel
theorem d2_51 : decode method_3_code 51 = .ok (.lstore 9, 2) := by decide +kernel
theorem d2_53 : decode method_3_code 53 = .ok (.aload_n 0, 1) := by decide +kernel
theorem d2_54 : decode method_3_code 54 = .ok (.iload_n 1, 1) := by decide +kernel
theorem d2_55 : decode method_3_code 55 = .ok (.baload, 1) := by decide +kernel
theorem d2_56 : decode method_3_code 56 = .ok (.ldc2_w 42, 3) := by decide +kernel
theorem d2_59 : decode method_3_code 59 = .ok (.lload 9, 2) := by decide +kernel
theorem d2_61 : decode method_3_code 61 = .ok (.ladd, 1) := by decide +kernel
theorem d2_62 : decode method_3_code 62 = .ok (.l2i, 1) := by decide +kernel
theorem d2_63 : decode method_3_code 63 = .ok (.i2b, 1) := by decide +kernel
theorem d2_64 : decode method_3_code 64 = .ok (.if_icmp .ne 7, 3) := by decide +kernel
theorem d2_67 : decode method_3_code 67 = .ok (.iconst 1, 1) := by decide +kernel
theorem d2_68 : decode method_3_code 68 = .ok (.goto 4, 3) := by decide +kernel
theorem d2_71 : decode method_3_code 71 = .ok (.iconst 0, 1) := by decide +kernel
theorem d2_72 : decode method_3_code 72 = .ok (.ireturn, 1) := by decide +kernel
theorem pn_2 : plainName "com/example/dayt/dayt/text/TextFormPutDigitsPinLaw" = true := by first | (simp [plainName, overriddenIn]; done) | decide +kernel
theorem ef_2 (m : MethodId) (p0 : Addr) (p1 : Int32) (p2 : Int32) (p3 : Int32) (p4 : Int32) (p5 : Int32) (p6 : Addr) : entryFrame m #[(.ref p0), (.int p1), (.int p2), (.int p3), (.int p4), (.int p5), (.ref p6)] 11 = mkF m 0 #[.val (.ref p0), .val (.int p1), .val (.int p2), .val (.int p3), .val (.int p4), .val (.int p5), .val (.ref p6), .unset, .unset, .unset, .unset] [] := by first | (simp [entryFrame, mkF, argsToLocals, Value.category]; done) | rfl
def f_2 (p1 : Int32) (p2 : Int32) (p3 : Int32) (p4 : Int32) (p5 : Int32) (g_ : Nat → Int32) (q_ : Nat → Int64) : Int32 := let v7_3 : Int32 := (p2 + p3); (if p1 < p2 then let ms0_29 : Int32 := (if (g_ p1.toNatClampNeg) = p5 then (1 : Int32) else (0 : Int32)); ms0_29 else (if p1 < v7_3 then let v8_36 : Int32 := ((v7_3 - (1 : Int32)) - p1); let v9_51 : Int64 := (((p4.toInt64) / (q_ v8_36.toNatClampNeg)) % (10 : Int64)); let ms0_72 : Int32 := (if (g_ p1.toNatClampNeg) = ((((48 : Int64) + v9_51).toInt32).toInt8.toInt32) then (1 : Int32) else (0 : Int32)); ms0_72 else let ms0_29 : Int32 := (if (g_ p1.toNatClampNeg) = p5 then (1 : Int32) else (0 : Int32)); ms0_29))
def Q_2 (Z : State) (p0 : Addr) (p1 : Int32) (p2 : Int32) (p3 : Int32) (p4 : Int32) (p5 : Int32) (p6 : Addr) (g_ : Nat → Int32) (q_ : Nat → Int64) (h0 : Heap) (n0 : Nat) (v : Option Value) (h : Heap) (L : List Loc) : Prop := v = some (.int (f_2 p1 p2 p3 p4 p5 g_ q_)) ∧ Fr n0 L ∧ h = h0
set_option maxRecDepth 65536 in
set_option maxHeartbeats 40000000 in
theorem rm_2 (l : Launch) (Z : State) (a0 : Array Value) (hw : ∀ d ∈ tables_1, d.before a0 Z = true) (ws : List Jvm.Cond) (p0 : Addr) (p1 : Int32) (p2 : Int32) (p3 : Int32) (p4 : Int32) (p5 : Int32) (p6 : Addr) (g_ : Nat → Int32) (q_ : Nat → Int64) (h0 : Heap) (n0 : Nat) (Z0 : n0 ≤ h0.size) (A_p0 : own_A Z h0 p0 .byte 14 (fun i => .int (g_ i))) (A_p6 : own_A Z h0 p6 .long 11 (fun i => .long (q_ i))) (hi : ¬ p1 < 0 ∧ p1.toNatClampNeg < 14) (hs : 0 ≤ p2.toInt ∧ p2.toInt ≤ 2 ∧ 0 ≤ p3.toInt ∧ p3.toInt ≤ 10) (hq : ∀ i, i < 11 → q_ i ≠ 0) :
    MetFree l (⟨"com/example/dayt/dayt/text/TextFormPutDigitsPinLaw", "at", "([BIIIIB[J)Z"⟩ : MethodName) (head1 (Jvm.Cond.code (⟨"com/example/dayt/dayt/text/TextFormPutDigitsPinLaw", "at", "([BIIIIB[J)Z"⟩ : MethodName) method_3_code 11 (some .boolean) :: ws) ({ frames := 0, cells := 0, slots := 0, locals := 0 } : Room)) (fun a U => a = #[(.ref p0), (.int p1), (.int p2), (.int p3), (.int p4), (.int p5), (.ref p6)] ∧ Z.Warmed39 U.vm ∧ U.heap = h0) (fun _ _ _ _ _ => True) (fun _ U o U' => ∃ v L, o = .returned v ∧ Q_2 Z p0 p1 p2 p3 p4 p5 p6 g_ q_ h0 n0 v U'.heap L ∧ FrameEnd U o U' L ({ frames := 0, cells := 0, slots := 0, locals := 0 } : Room).cells ({ frames := 0, cells := 0, slots := 0, locals := 0 } : Room).slots) := by
  refine MetFree.of_bodySF (plainFor_of_name pn_2) hisR ?_
  intro p e s m args below meth c s₁ Bd hml0 hP hK
  obtain ⟨rfl, hZ, hh⟩ := hP
  have hx := Bd.exec
  have hby := Bd.bytes
  have hml : c.maxLocals = 11 := hml0
  have hown : s.vm.findClass "com/example/dayt/dayt/text/TextFormPutDigitsPinLaw" = some m.cls := findClass_of_methodNamed Bd.named
  have hnm := (name_of_methodNamed Bd.named Bd.method).1
  have X0 : Stand p l e ({ frames := 0, cells := 0, slots := 0, locals := 0 } : Room) s m #[(.ref p0), (.int p1), (.int p2), (.int p3), (.int p4), (.int p5), (.ref p6)] below meth c s₁ [] 0 0 := Stand.of_body Bd
  have e0 : s₁.heap = h0 := by rw [← hh, Bd.state]; rfl
  have N0 := Fr.nil n0
  have K0 : Keep h0 h0 [] := Keep.refl h0 _
  have pre0 : ∀ t, Steps p.tables e below (s₁.setTop (mkF m 0 #[.val (.ref p0), .val (.int p1), .val (.int p2), .val (.int p3), .val (.int p4), .val (.int p5), .val (.ref p6), .unset, .unset, .unset, .unset] [])) t → Steps p.tables e below (s₁.setTop (entryFrame m #[(.ref p0), (.int p1), (.int p2), (.int p3), (.int p4), (.int p5), (.ref p6)] 11)) t := fun t k => castTop (ef_2 m p0 p1 p2 p3 p4 p5 p6) k
  obtain ⟨v7_3, hv7_3⟩ : ∃ z : Int32, z = (p2 + p3) := ⟨_, rfl⟩
  have pre1 : ∀ t, Steps p.tables e below (s₁.setTop (mkF m 7 #[.val (.ref p0), .val (.int p1), .val (.int p2), .val (.int p3), .val (.int p4), .val (.int p5), .val (.ref p6), .val (.int v7_3), .unset, .unset, .unset] [(.int p2), (.int p1)])) t → Steps p.tables e below (s₁.setTop (entryFrame m #[(.ref p0), (.int p1), (.int p2), (.int p3), (.int p4), (.int p5), (.ref p6)] 11)) t := by
    intro t k
    refine pre0 t ?_
    show Steps p.tables e below (s₁.setTop (mkF m 0 #[.val (.ref p0), .val (.int p1), .val (.int p2), .val (.int p3), .val (.int p4), .val (.int p5), .val (.ref p6), .unset, .unset, .unset, .unset] [])) _
    refine XS.iloadN X0.here hx rfl (hb hby d2_0) rfl  ?_
    show Steps p.tables e below (s₁.setTop (mkF m 1 #[.val (.ref p0), .val (.int p1), .val (.int p2), .val (.int p3), .val (.int p4), .val (.int p5), .val (.ref p6), .unset, .unset, .unset, .unset] [(.int p2)])) _
    refine XS.iloadN X0.here hx rfl (hb hby d2_1) rfl  ?_
    show Steps p.tables e below (s₁.setTop (mkF m 2 #[.val (.ref p0), .val (.int p1), .val (.int p2), .val (.int p3), .val (.int p4), .val (.int p5), .val (.ref p6), .unset, .unset, .unset, .unset] [(.int p3), (.int p2)])) _
    refine XS.iadd X0.here hx rfl (hb hby d2_2) rfl ?_
    show Steps p.tables e below (s₁.setTop (mkF m 3 #[.val (.ref p0), .val (.int p1), .val (.int p2), .val (.int p3), .val (.int p4), .val (.int p5), .val (.ref p6), .unset, .unset, .unset, .unset] [(.int (p2 + p3))])) _
    refine XS.istore X0.here hx rfl (hb hby d2_3) rfl (l' := #[.val (.ref p0), .val (.int p1), .val (.int p2), .val (.int p3), .val (.int p4), .val (.int p5), .val (.ref p6), .val (.int v7_3), .unset, .unset, .unset]) (by rw [hv7_3]; rfl) ?_
    show Steps p.tables e below (s₁.setTop (mkF m 5 #[.val (.ref p0), .val (.int p1), .val (.int p2), .val (.int p3), .val (.int p4), .val (.int p5), .val (.ref p6), .val (.int v7_3), .unset, .unset, .unset] [])) _
    refine XS.iloadN X0.here hx rfl (hb hby d2_5) rfl  ?_
    show Steps p.tables e below (s₁.setTop (mkF m 6 #[.val (.ref p0), .val (.int p1), .val (.int p2), .val (.int p3), .val (.int p4), .val (.int p5), .val (.ref p6), .val (.int v7_3), .unset, .unset, .unset] [(.int p1)])) _
    refine XS.iloadN X0.here hx rfl (hb hby d2_6) rfl  ?_
    exact k
  by_cases hc7 : p1 < p2
  · have pre2 : ∀ t, Steps p.tables e below (s₁.setTop (mkF m 21 #[.val (.ref p0), .val (.int p1), .val (.int p2), .val (.int p3), .val (.int p4), .val (.int p5), .val (.ref p6), .val (.int v7_3), .unset, .unset, .unset] [(.int p5), (.int (g_ p1.toNatClampNeg))])) t → Steps p.tables e below (s₁.setTop (entryFrame m #[(.ref p0), (.int p1), (.int p2), (.int p3), (.int p4), (.int p5), (.ref p6)] 11)) t := by
      intro t k
      refine pre1 t ?_
      show Steps p.tables e below (s₁.setTop (mkF m 7 #[.val (.ref p0), .val (.int p1), .val (.int p2), .val (.int p3), .val (.int p4), .val (.int p5), .val (.ref p6), .val (.int v7_3), .unset, .unset, .unset] [(.int p2), (.int p1)])) _
      refine XS.icmpYes X0.here hx rfl (pc0 := 7) (pc' := 16) rfl (hb hby d2_7) rfl (tlt hc7).1 (by decide) (by decide) ?_
      show Steps p.tables e below (s₁.setTop (mkF m 16 #[.val (.ref p0), .val (.int p1), .val (.int p2), .val (.int p3), .val (.int p4), .val (.int p5), .val (.ref p6), .val (.int v7_3), .unset, .unset, .unset] [])) _
      refine XS.aloadN X0.here hx rfl (hb hby d2_16) rfl rfl ?_
      show Steps p.tables e below (s₁.setTop (mkF m 17 #[.val (.ref p0), .val (.int p1), .val (.int p2), .val (.int p3), .val (.int p4), .val (.int p5), .val (.ref p6), .val (.int v7_3), .unset, .unset, .unset] [(.ref p0)])) _
      refine XS.iloadN X0.here hx rfl (hb hby d2_17) rfl  ?_
      show Steps p.tables e below (s₁.setTop (mkF m 18 #[.val (.ref p0), .val (.int p1), .val (.int p2), .val (.int p3), .val (.int p4), .val (.int p5), .val (.ref p6), .val (.int v7_3), .unset, .unset, .unset] [(.int p1), (.ref p0)])) _
      refine own_ldB X0 hx hZ e0 A_p0 (j := p1) (k := p1.toNatClampNeg) hi.1 rfl hi.2 (g := (mkF m 18 #[.val (.ref p0), .val (.int p1), .val (.int p2), .val (.int p3), .val (.int p4), .val (.int p5), .val (.ref p6), .val (.int v7_3), .unset, .unset, .unset] [(.int p1), (.ref p0)])) rfl rfl (hb hby d2_18) ?_
      show Steps p.tables e below (s₁.setTop (mkF m 19 #[.val (.ref p0), .val (.int p1), .val (.int p2), .val (.int p3), .val (.int p4), .val (.int p5), .val (.ref p6), .val (.int v7_3), .unset, .unset, .unset] [(.int (g_ p1.toNatClampNeg))])) _
      refine XS.iload X0.here hx rfl (hb hby d2_19) rfl  ?_
      exact k
    obtain ⟨ms0_29, hms0_29⟩ : ∃ z : Int32, z = (if (g_ p1.toNatClampNeg) = p5 then (1 : Int32) else (0 : Int32)) := ⟨_, rfl⟩
    have pre3 : ∀ t, Steps p.tables e below (s₁.setTop (mkF m 29 #[.val (.ref p0), .val (.int p1), .val (.int p2), .val (.int p3), .val (.int p4), .val (.int p5), .val (.ref p6), .val (.int v7_3), .unset, .unset, .unset] [(.int ms0_29)])) t → Steps p.tables e below (s₁.setTop (entryFrame m #[(.ref p0), (.int p1), (.int p2), (.int p3), (.int p4), (.int p5), (.ref p6)] 11)) t := by
      intro t k
      refine pre2 t ?_
      by_cases hc21 : (g_ p1.toNatClampNeg) = p5
      · show Steps p.tables e below (s₁.setTop (mkF m 21 #[.val (.ref p0), .val (.int p1), .val (.int p2), .val (.int p3), .val (.int p4), .val (.int p5), .val (.ref p6), .val (.int v7_3), .unset, .unset, .unset] [(.int p5), (.int (g_ p1.toNatClampNeg))])) _
        refine XS.icmpNo X0.here hx rfl (hb hby d2_21) rfl (teq hc21).2 ?_
        show Steps p.tables e below (s₁.setTop (mkF m 24 #[.val (.ref p0), .val (.int p1), .val (.int p2), .val (.int p3), .val (.int p4), .val (.int p5), .val (.ref p6), .val (.int v7_3), .unset, .unset, .unset] [])) _
        refine XS.iconst X0.here hx rfl (hb hby d2_24) ?_
        show Steps p.tables e below (s₁.setTop (mkF m 25 #[.val (.ref p0), .val (.int p1), .val (.int p2), .val (.int p3), .val (.int p4), .val (.int p5), .val (.ref p6), .val (.int v7_3), .unset, .unset, .unset] [(.int (1 : Int32))])) _
        refine XS.goto X0.here hx rfl (pc0 := 25) (pc' := 29) rfl (hb hby d2_25) (by decide) (by decide) ?_
        have qms0_29 : ms0_29 = (1 : Int32) := by rw [hms0_29, if_pos hc21]
        rw [qms0_29] at k
        exact k
      · show Steps p.tables e below (s₁.setTop (mkF m 21 #[.val (.ref p0), .val (.int p1), .val (.int p2), .val (.int p3), .val (.int p4), .val (.int p5), .val (.ref p6), .val (.int v7_3), .unset, .unset, .unset] [(.int p5), (.int (g_ p1.toNatClampNeg))])) _
        refine XS.icmpYes X0.here hx rfl (pc0 := 21) (pc' := 28) rfl (hb hby d2_21) rfl (feq hc21).2 (by decide) (by decide) ?_
        show Steps p.tables e below (s₁.setTop (mkF m 28 #[.val (.ref p0), .val (.int p1), .val (.int p2), .val (.int p3), .val (.int p4), .val (.int p5), .val (.ref p6), .val (.int v7_3), .unset, .unset, .unset] [])) _
        refine XS.iconst X0.here hx rfl (hb hby d2_28) ?_
        have qms0_29 : ms0_29 = (0 : Int32) := by rw [hms0_29, if_neg hc21]
        rw [qms0_29] at k
        exact k
    have hnar : nar .boolean ms0_29 = ms0_29 := by rw [hms0_29]; (repeat' split) <;> rfl
    obtain ⟨fs, hr, hrun, hended, hW, hsame⟩ := X0.leave (v := some (.int ms0_29)) (fun h => by rw [Bd.returns] at h; cases h) (BodyLoose.notSynchronized Bd)
    refine ⟨_, _, pre3 _ ?_, hrun, hended, _, _, rfl, ?_, ⟨_, rfl⟩, hW, hsame.mono (by decide) (by decide)⟩
    · show Steps p.tables e below (s₁.setTop (mkF m 29 #[.val (.ref p0), .val (.int p1), .val (.int p2), .val (.int p3), .val (.int p4), .val (.int p5), .val (.ref p6), .val (.int v7_3), .unset, .unset, .unset] [(.int ms0_29)])) _
      exact retN X0 hx (t := .boolean) Bd.returns (by simp) (hb hby d2_29) (by rw [hnar]; exact hr)
    · show Q_2 Z p0 p1 p2 p3 p4 p5 p6 g_ q_ h0 n0 _ s₁.heap _
      rw [e0]
      exact ⟨congrArg (fun z => some (Value.int z)) (by subst hv7_3 hms0_29; exact (if_pos hc7).symm : ms0_29 = f_2 p1 p2 p3 p4 p5 g_ q_), N0, rfl⟩
  · have pre4 : ∀ t, Steps p.tables e below (s₁.setTop (mkF m 13 #[.val (.ref p0), .val (.int p1), .val (.int p2), .val (.int p3), .val (.int p4), .val (.int p5), .val (.ref p6), .val (.int v7_3), .unset, .unset, .unset] [(.int v7_3), (.int p1)])) t → Steps p.tables e below (s₁.setTop (entryFrame m #[(.ref p0), (.int p1), (.int p2), (.int p3), (.int p4), (.int p5), (.ref p6)] 11)) t := by
      intro t k
      refine pre1 t ?_
      show Steps p.tables e below (s₁.setTop (mkF m 7 #[.val (.ref p0), .val (.int p1), .val (.int p2), .val (.int p3), .val (.int p4), .val (.int p5), .val (.ref p6), .val (.int v7_3), .unset, .unset, .unset] [(.int p2), (.int p1)])) _
      refine XS.icmpNo X0.here hx rfl (hb hby d2_7) rfl (flt hc7).1 ?_
      show Steps p.tables e below (s₁.setTop (mkF m 10 #[.val (.ref p0), .val (.int p1), .val (.int p2), .val (.int p3), .val (.int p4), .val (.int p5), .val (.ref p6), .val (.int v7_3), .unset, .unset, .unset] [])) _
      refine XS.iloadN X0.here hx rfl (hb hby d2_10) rfl  ?_
      show Steps p.tables e below (s₁.setTop (mkF m 11 #[.val (.ref p0), .val (.int p1), .val (.int p2), .val (.int p3), .val (.int p4), .val (.int p5), .val (.ref p6), .val (.int v7_3), .unset, .unset, .unset] [(.int p1)])) _
      refine XS.iload X0.here hx rfl (hb hby d2_11) rfl  ?_
      exact k
    by_cases hc13 : p1 < v7_3
    · obtain ⟨v8_36, hv8_36⟩ : ∃ z : Int32, z = ((v7_3 - (1 : Int32)) - p1) := ⟨_, rfl⟩
      obtain ⟨v9_51, hv9_51⟩ : ∃ z : Int64, z = (((p4.toInt64) / (q_ v8_36.toNatClampNeg)) % (10 : Int64)) := ⟨_, rfl⟩
      have pre5 : ∀ t, Steps p.tables e below (s₁.setTop (mkF m 64 #[.val (.ref p0), .val (.int p1), .val (.int p2), .val (.int p3), .val (.int p4), .val (.int p5), .val (.ref p6), .val (.int v7_3), .val (.int v8_36), .val (.long v9_51), .second] [(.int ((((48 : Int64) + v9_51).toInt32).toInt8.toInt32)), (.int (g_ p1.toNatClampNeg))])) t → Steps p.tables e below (s₁.setTop (entryFrame m #[(.ref p0), (.int p1), (.int p2), (.int p3), (.int p4), (.int p5), (.ref p6)] 11)) t := by
        intro t k
        refine pre4 t ?_
        show Steps p.tables e below (s₁.setTop (mkF m 13 #[.val (.ref p0), .val (.int p1), .val (.int p2), .val (.int p3), .val (.int p4), .val (.int p5), .val (.ref p6), .val (.int v7_3), .unset, .unset, .unset] [(.int v7_3), (.int p1)])) _
        refine XS.icmpYes X0.here hx rfl (pc0 := 13) (pc' := 30) rfl (hb hby d2_13) rfl (tlt hc13).1 (by decide) (by decide) ?_
        show Steps p.tables e below (s₁.setTop (mkF m 30 #[.val (.ref p0), .val (.int p1), .val (.int p2), .val (.int p3), .val (.int p4), .val (.int p5), .val (.ref p6), .val (.int v7_3), .unset, .unset, .unset] [])) _
        refine XS.iload X0.here hx rfl (hb hby d2_30) rfl  ?_
        show Steps p.tables e below (s₁.setTop (mkF m 32 #[.val (.ref p0), .val (.int p1), .val (.int p2), .val (.int p3), .val (.int p4), .val (.int p5), .val (.ref p6), .val (.int v7_3), .unset, .unset, .unset] [(.int v7_3)])) _
        refine XS.iconst X0.here hx rfl (hb hby d2_32) ?_
        show Steps p.tables e below (s₁.setTop (mkF m 33 #[.val (.ref p0), .val (.int p1), .val (.int p2), .val (.int p3), .val (.int p4), .val (.int p5), .val (.ref p6), .val (.int v7_3), .unset, .unset, .unset] [(.int (1 : Int32)), (.int v7_3)])) _
        refine XS.isub X0.here hx rfl (hb hby d2_33) rfl ?_
        show Steps p.tables e below (s₁.setTop (mkF m 34 #[.val (.ref p0), .val (.int p1), .val (.int p2), .val (.int p3), .val (.int p4), .val (.int p5), .val (.ref p6), .val (.int v7_3), .unset, .unset, .unset] [(.int (v7_3 - (1 : Int32)))])) _
        refine XS.iloadN X0.here hx rfl (hb hby d2_34) rfl  ?_
        show Steps p.tables e below (s₁.setTop (mkF m 35 #[.val (.ref p0), .val (.int p1), .val (.int p2), .val (.int p3), .val (.int p4), .val (.int p5), .val (.ref p6), .val (.int v7_3), .unset, .unset, .unset] [(.int p1), (.int (v7_3 - (1 : Int32)))])) _
        refine XS.isub X0.here hx rfl (hb hby d2_35) rfl ?_
        show Steps p.tables e below (s₁.setTop (mkF m 36 #[.val (.ref p0), .val (.int p1), .val (.int p2), .val (.int p3), .val (.int p4), .val (.int p5), .val (.ref p6), .val (.int v7_3), .unset, .unset, .unset] [(.int ((v7_3 - (1 : Int32)) - p1))])) _
        refine XS.istore X0.here hx rfl (hb hby d2_36) rfl (l' := #[.val (.ref p0), .val (.int p1), .val (.int p2), .val (.int p3), .val (.int p4), .val (.int p5), .val (.ref p6), .val (.int v7_3), .val (.int v8_36), .unset, .unset]) (by rw [hv8_36]; rfl) ?_
        show Steps p.tables e below (s₁.setTop (mkF m 38 #[.val (.ref p0), .val (.int p1), .val (.int p2), .val (.int p3), .val (.int p4), .val (.int p5), .val (.ref p6), .val (.int v7_3), .val (.int v8_36), .unset, .unset] [])) _
        refine XS.iload X0.here hx rfl (hb hby d2_38) rfl  ?_
        show Steps p.tables e below (s₁.setTop (mkF m 40 #[.val (.ref p0), .val (.int p1), .val (.int p2), .val (.int p3), .val (.int p4), .val (.int p5), .val (.ref p6), .val (.int v7_3), .val (.int v8_36), .unset, .unset] [(.int p4)])) _
        refine XS.i2l X0.here hx rfl (hb hby d2_40) rfl ?_
        show Steps p.tables e below (s₁.setTop (mkF m 41 #[.val (.ref p0), .val (.int p1), .val (.int p2), .val (.int p3), .val (.int p4), .val (.int p5), .val (.ref p6), .val (.int v7_3), .val (.int v8_36), .unset, .unset] [(.long (p4.toInt64))])) _
        refine XS.aload X0.here hx rfl (hb hby d2_41) rfl rfl ?_
        show Steps p.tables e below (s₁.setTop (mkF m 43 #[.val (.ref p0), .val (.int p1), .val (.int p2), .val (.int p3), .val (.int p4), .val (.int p5), .val (.ref p6), .val (.int v7_3), .val (.int v8_36), .unset, .unset] [(.ref p6), (.long (p4.toInt64))])) _
        refine XS.iload X0.here hx rfl (hb hby d2_43) rfl  ?_
        show Steps p.tables e below (s₁.setTop (mkF m 45 #[.val (.ref p0), .val (.int p1), .val (.int p2), .val (.int p3), .val (.int p4), .val (.int p5), .val (.ref p6), .val (.int v7_3), .val (.int v8_36), .unset, .unset] [(.int v8_36), (.ref p6), (.long (p4.toInt64))])) _
        refine own_ldJ X0 hx hZ e0 A_p6 (j := v8_36) (k := v8_36.toNatClampNeg) (own_j hi.1 hi.2 hs hc7 hc13 hv7_3 hv8_36).1 rfl (own_j hi.1 hi.2 hs hc7 hc13 hv7_3 hv8_36).2 (g := (mkF m 45 #[.val (.ref p0), .val (.int p1), .val (.int p2), .val (.int p3), .val (.int p4), .val (.int p5), .val (.ref p6), .val (.int v7_3), .val (.int v8_36), .unset, .unset] [(.int v8_36), (.ref p6), (.long (p4.toInt64))])) rfl rfl (hb hby d2_45) ?_
        show Steps p.tables e below (s₁.setTop (mkF m 46 #[.val (.ref p0), .val (.int p1), .val (.int p2), .val (.int p3), .val (.int p4), .val (.int p5), .val (.ref p6), .val (.int v7_3), .val (.int v8_36), .unset, .unset] [(.long (q_ v8_36.toNatClampNeg)), (.long (p4.toInt64))])) _
        refine XS.ldiv X0.here hx rfl (hb hby d2_46) rfl (hq _ (own_j hi.1 hi.2 hs hc7 hc13 hv7_3 hv8_36).2) ?_
        show Steps p.tables e below (s₁.setTop (mkF m 47 #[.val (.ref p0), .val (.int p1), .val (.int p2), .val (.int p3), .val (.int p4), .val (.int p5), .val (.ref p6), .val (.int v7_3), .val (.int v8_36), .unset, .unset] [(.long ((p4.toInt64) / (q_ v8_36.toNatClampNeg)))])) _
        refine X0.ldc2Long hx hown (mvT hZ (hw _ (List.mem_of_getElem? (i := 1) rfl))) (g := (mkF m 47 #[.val (.ref p0), .val (.int p1), .val (.int p2), .val (.int p3), .val (.int p4), .val (.int p5), .val (.ref p6), .val (.int v7_3), .val (.int v8_36), .unset, .unset] [(.long ((p4.toInt64) / (q_ v8_36.toNatClampNeg)))])) rfl (hb hby d2_47) _ ?_
        show Steps p.tables e below (s₁.setTop (mkF m 50 #[.val (.ref p0), .val (.int p1), .val (.int p2), .val (.int p3), .val (.int p4), .val (.int p5), .val (.ref p6), .val (.int v7_3), .val (.int v8_36), .unset, .unset] [(.long (10 : Int64)), (.long ((p4.toInt64) / (q_ v8_36.toNatClampNeg)))])) _
        refine own_lremM X0 hx rfl (hb hby d2_50) rfl (by decide) ?_
        show Steps p.tables e below (s₁.setTop (mkF m 51 #[.val (.ref p0), .val (.int p1), .val (.int p2), .val (.int p3), .val (.int p4), .val (.int p5), .val (.ref p6), .val (.int v7_3), .val (.int v8_36), .unset, .unset] [(.long (((p4.toInt64) / (q_ v8_36.toNatClampNeg)) % (10 : Int64)))])) _
        refine XS.lstore X0.here hx rfl (hb hby d2_51) rfl (l' := #[.val (.ref p0), .val (.int p1), .val (.int p2), .val (.int p3), .val (.int p4), .val (.int p5), .val (.ref p6), .val (.int v7_3), .val (.int v8_36), .val (.long v9_51), .second]) (by rw [hv9_51]; rfl) ?_
        show Steps p.tables e below (s₁.setTop (mkF m 53 #[.val (.ref p0), .val (.int p1), .val (.int p2), .val (.int p3), .val (.int p4), .val (.int p5), .val (.ref p6), .val (.int v7_3), .val (.int v8_36), .val (.long v9_51), .second] [])) _
        refine XS.aloadN X0.here hx rfl (hb hby d2_53) rfl rfl ?_
        show Steps p.tables e below (s₁.setTop (mkF m 54 #[.val (.ref p0), .val (.int p1), .val (.int p2), .val (.int p3), .val (.int p4), .val (.int p5), .val (.ref p6), .val (.int v7_3), .val (.int v8_36), .val (.long v9_51), .second] [(.ref p0)])) _
        refine XS.iloadN X0.here hx rfl (hb hby d2_54) rfl  ?_
        show Steps p.tables e below (s₁.setTop (mkF m 55 #[.val (.ref p0), .val (.int p1), .val (.int p2), .val (.int p3), .val (.int p4), .val (.int p5), .val (.ref p6), .val (.int v7_3), .val (.int v8_36), .val (.long v9_51), .second] [(.int p1), (.ref p0)])) _
        refine own_ldB X0 hx hZ e0 A_p0 (j := p1) (k := p1.toNatClampNeg) hi.1 rfl hi.2 (g := (mkF m 55 #[.val (.ref p0), .val (.int p1), .val (.int p2), .val (.int p3), .val (.int p4), .val (.int p5), .val (.ref p6), .val (.int v7_3), .val (.int v8_36), .val (.long v9_51), .second] [(.int p1), (.ref p0)])) rfl rfl (hb hby d2_55) ?_
        show Steps p.tables e below (s₁.setTop (mkF m 56 #[.val (.ref p0), .val (.int p1), .val (.int p2), .val (.int p3), .val (.int p4), .val (.int p5), .val (.ref p6), .val (.int v7_3), .val (.int v8_36), .val (.long v9_51), .second] [(.int (g_ p1.toNatClampNeg))])) _
        refine X0.ldc2Long hx hown (mvT hZ (hw _ (List.mem_of_getElem? (i := 22) rfl))) (g := (mkF m 56 #[.val (.ref p0), .val (.int p1), .val (.int p2), .val (.int p3), .val (.int p4), .val (.int p5), .val (.ref p6), .val (.int v7_3), .val (.int v8_36), .val (.long v9_51), .second] [(.int (g_ p1.toNatClampNeg))])) rfl (hb hby d2_56) _ ?_
        show Steps p.tables e below (s₁.setTop (mkF m 59 #[.val (.ref p0), .val (.int p1), .val (.int p2), .val (.int p3), .val (.int p4), .val (.int p5), .val (.ref p6), .val (.int v7_3), .val (.int v8_36), .val (.long v9_51), .second] [(.long (48 : Int64)), (.int (g_ p1.toNatClampNeg))])) _
        refine XS.lload X0.here hx rfl (hb hby d2_59) rfl  ?_
        show Steps p.tables e below (s₁.setTop (mkF m 61 #[.val (.ref p0), .val (.int p1), .val (.int p2), .val (.int p3), .val (.int p4), .val (.int p5), .val (.ref p6), .val (.int v7_3), .val (.int v8_36), .val (.long v9_51), .second] [(.long v9_51), (.long (48 : Int64)), (.int (g_ p1.toNatClampNeg))])) _
        refine XS.ladd X0.here hx rfl (hb hby d2_61) rfl ?_
        show Steps p.tables e below (s₁.setTop (mkF m 62 #[.val (.ref p0), .val (.int p1), .val (.int p2), .val (.int p3), .val (.int p4), .val (.int p5), .val (.ref p6), .val (.int v7_3), .val (.int v8_36), .val (.long v9_51), .second] [(.long ((48 : Int64) + v9_51)), (.int (g_ p1.toNatClampNeg))])) _
        refine XS.l2i X0.here hx rfl (hb hby d2_62) rfl ?_
        show Steps p.tables e below (s₁.setTop (mkF m 63 #[.val (.ref p0), .val (.int p1), .val (.int p2), .val (.int p3), .val (.int p4), .val (.int p5), .val (.ref p6), .val (.int v7_3), .val (.int v8_36), .val (.long v9_51), .second] [(.int (((48 : Int64) + v9_51).toInt32)), (.int (g_ p1.toNatClampNeg))])) _
        refine XS.i2b X0.here hx rfl (hb hby d2_63) rfl ?_
        exact k
      obtain ⟨ms0_72, hms0_72⟩ : ∃ z : Int32, z = (if (g_ p1.toNatClampNeg) = ((((48 : Int64) + v9_51).toInt32).toInt8.toInt32) then (1 : Int32) else (0 : Int32)) := ⟨_, rfl⟩
      have pre6 : ∀ t, Steps p.tables e below (s₁.setTop (mkF m 72 #[.val (.ref p0), .val (.int p1), .val (.int p2), .val (.int p3), .val (.int p4), .val (.int p5), .val (.ref p6), .val (.int v7_3), .val (.int v8_36), .val (.long v9_51), .second] [(.int ms0_72)])) t → Steps p.tables e below (s₁.setTop (entryFrame m #[(.ref p0), (.int p1), (.int p2), (.int p3), (.int p4), (.int p5), (.ref p6)] 11)) t := by
        intro t k
        refine pre5 t ?_
        by_cases hc64 : (g_ p1.toNatClampNeg) = ((((48 : Int64) + v9_51).toInt32).toInt8.toInt32)
        · show Steps p.tables e below (s₁.setTop (mkF m 64 #[.val (.ref p0), .val (.int p1), .val (.int p2), .val (.int p3), .val (.int p4), .val (.int p5), .val (.ref p6), .val (.int v7_3), .val (.int v8_36), .val (.long v9_51), .second] [(.int ((((48 : Int64) + v9_51).toInt32).toInt8.toInt32)), (.int (g_ p1.toNatClampNeg))])) _
          refine XS.icmpNo X0.here hx rfl (hb hby d2_64) rfl (teq hc64).2 ?_
          show Steps p.tables e below (s₁.setTop (mkF m 67 #[.val (.ref p0), .val (.int p1), .val (.int p2), .val (.int p3), .val (.int p4), .val (.int p5), .val (.ref p6), .val (.int v7_3), .val (.int v8_36), .val (.long v9_51), .second] [])) _
          refine XS.iconst X0.here hx rfl (hb hby d2_67) ?_
          show Steps p.tables e below (s₁.setTop (mkF m 68 #[.val (.ref p0), .val (.int p1), .val (.int p2), .val (.int p3), .val (.int p4), .val (.int p5), .val (.ref p6), .val (.int v7_3), .val (.int v8_36), .val (.long v9_51), .second] [(.int (1 : Int32))])) _
          refine XS.goto X0.here hx rfl (pc0 := 68) (pc' := 72) rfl (hb hby d2_68) (by decide) (by decide) ?_
          have qms0_72 : ms0_72 = (1 : Int32) := by rw [hms0_72, if_pos hc64]
          rw [qms0_72] at k
          exact k
        · show Steps p.tables e below (s₁.setTop (mkF m 64 #[.val (.ref p0), .val (.int p1), .val (.int p2), .val (.int p3), .val (.int p4), .val (.int p5), .val (.ref p6), .val (.int v7_3), .val (.int v8_36), .val (.long v9_51), .second] [(.int ((((48 : Int64) + v9_51).toInt32).toInt8.toInt32)), (.int (g_ p1.toNatClampNeg))])) _
          refine XS.icmpYes X0.here hx rfl (pc0 := 64) (pc' := 71) rfl (hb hby d2_64) rfl (feq hc64).2 (by decide) (by decide) ?_
          show Steps p.tables e below (s₁.setTop (mkF m 71 #[.val (.ref p0), .val (.int p1), .val (.int p2), .val (.int p3), .val (.int p4), .val (.int p5), .val (.ref p6), .val (.int v7_3), .val (.int v8_36), .val (.long v9_51), .second] [])) _
          refine XS.iconst X0.here hx rfl (hb hby d2_71) ?_
          have qms0_72 : ms0_72 = (0 : Int32) := by rw [hms0_72, if_neg hc64]
          rw [qms0_72] at k
          exact k
      have hnar : nar .boolean ms0_72 = ms0_72 := by rw [hms0_72]; (repeat' split) <;> rfl
      obtain ⟨fs, hr, hrun, hended, hW, hsame⟩ := X0.leave (v := some (.int ms0_72)) (fun h => by rw [Bd.returns] at h; cases h) (BodyLoose.notSynchronized Bd)
      refine ⟨_, _, pre6 _ ?_, hrun, hended, _, _, rfl, ?_, ⟨_, rfl⟩, hW, hsame.mono (by decide) (by decide)⟩
      · show Steps p.tables e below (s₁.setTop (mkF m 72 #[.val (.ref p0), .val (.int p1), .val (.int p2), .val (.int p3), .val (.int p4), .val (.int p5), .val (.ref p6), .val (.int v7_3), .val (.int v8_36), .val (.long v9_51), .second] [(.int ms0_72)])) _
        exact retN X0 hx (t := .boolean) Bd.returns (by simp) (hb hby d2_72) (by rw [hnar]; exact hr)
      · show Q_2 Z p0 p1 p2 p3 p4 p5 p6 g_ q_ h0 n0 _ s₁.heap _
        rw [e0]
        exact ⟨congrArg (fun z => some (Value.int z)) (by subst hv7_3 hv8_36 hv9_51 hms0_72; exact ((if_neg hc7).trans (if_pos hc13)).symm : ms0_72 = f_2 p1 p2 p3 p4 p5 g_ q_), N0, rfl⟩
    · have pre7 : ∀ t, Steps p.tables e below (s₁.setTop (mkF m 21 #[.val (.ref p0), .val (.int p1), .val (.int p2), .val (.int p3), .val (.int p4), .val (.int p5), .val (.ref p6), .val (.int v7_3), .unset, .unset, .unset] [(.int p5), (.int (g_ p1.toNatClampNeg))])) t → Steps p.tables e below (s₁.setTop (entryFrame m #[(.ref p0), (.int p1), (.int p2), (.int p3), (.int p4), (.int p5), (.ref p6)] 11)) t := by
        intro t k
        refine pre4 t ?_
        show Steps p.tables e below (s₁.setTop (mkF m 13 #[.val (.ref p0), .val (.int p1), .val (.int p2), .val (.int p3), .val (.int p4), .val (.int p5), .val (.ref p6), .val (.int v7_3), .unset, .unset, .unset] [(.int v7_3), (.int p1)])) _
        refine XS.icmpNo X0.here hx rfl (hb hby d2_13) rfl (flt hc13).1 ?_
        show Steps p.tables e below (s₁.setTop (mkF m 16 #[.val (.ref p0), .val (.int p1), .val (.int p2), .val (.int p3), .val (.int p4), .val (.int p5), .val (.ref p6), .val (.int v7_3), .unset, .unset, .unset] [])) _
        refine XS.aloadN X0.here hx rfl (hb hby d2_16) rfl rfl ?_
        show Steps p.tables e below (s₁.setTop (mkF m 17 #[.val (.ref p0), .val (.int p1), .val (.int p2), .val (.int p3), .val (.int p4), .val (.int p5), .val (.ref p6), .val (.int v7_3), .unset, .unset, .unset] [(.ref p0)])) _
        refine XS.iloadN X0.here hx rfl (hb hby d2_17) rfl  ?_
        show Steps p.tables e below (s₁.setTop (mkF m 18 #[.val (.ref p0), .val (.int p1), .val (.int p2), .val (.int p3), .val (.int p4), .val (.int p5), .val (.ref p6), .val (.int v7_3), .unset, .unset, .unset] [(.int p1), (.ref p0)])) _
        refine own_ldB X0 hx hZ e0 A_p0 (j := p1) (k := p1.toNatClampNeg) hi.1 rfl hi.2 (g := (mkF m 18 #[.val (.ref p0), .val (.int p1), .val (.int p2), .val (.int p3), .val (.int p4), .val (.int p5), .val (.ref p6), .val (.int v7_3), .unset, .unset, .unset] [(.int p1), (.ref p0)])) rfl rfl (hb hby d2_18) ?_
        show Steps p.tables e below (s₁.setTop (mkF m 19 #[.val (.ref p0), .val (.int p1), .val (.int p2), .val (.int p3), .val (.int p4), .val (.int p5), .val (.ref p6), .val (.int v7_3), .unset, .unset, .unset] [(.int (g_ p1.toNatClampNeg))])) _
        refine XS.iload X0.here hx rfl (hb hby d2_19) rfl  ?_
        exact k
      obtain ⟨ms0_29, hms0_29⟩ : ∃ z : Int32, z = (if (g_ p1.toNatClampNeg) = p5 then (1 : Int32) else (0 : Int32)) := ⟨_, rfl⟩
      have pre8 : ∀ t, Steps p.tables e below (s₁.setTop (mkF m 29 #[.val (.ref p0), .val (.int p1), .val (.int p2), .val (.int p3), .val (.int p4), .val (.int p5), .val (.ref p6), .val (.int v7_3), .unset, .unset, .unset] [(.int ms0_29)])) t → Steps p.tables e below (s₁.setTop (entryFrame m #[(.ref p0), (.int p1), (.int p2), (.int p3), (.int p4), (.int p5), (.ref p6)] 11)) t := by
        intro t k
        refine pre7 t ?_
        by_cases hc21 : (g_ p1.toNatClampNeg) = p5
        · show Steps p.tables e below (s₁.setTop (mkF m 21 #[.val (.ref p0), .val (.int p1), .val (.int p2), .val (.int p3), .val (.int p4), .val (.int p5), .val (.ref p6), .val (.int v7_3), .unset, .unset, .unset] [(.int p5), (.int (g_ p1.toNatClampNeg))])) _
          refine XS.icmpNo X0.here hx rfl (hb hby d2_21) rfl (teq hc21).2 ?_
          show Steps p.tables e below (s₁.setTop (mkF m 24 #[.val (.ref p0), .val (.int p1), .val (.int p2), .val (.int p3), .val (.int p4), .val (.int p5), .val (.ref p6), .val (.int v7_3), .unset, .unset, .unset] [])) _
          refine XS.iconst X0.here hx rfl (hb hby d2_24) ?_
          show Steps p.tables e below (s₁.setTop (mkF m 25 #[.val (.ref p0), .val (.int p1), .val (.int p2), .val (.int p3), .val (.int p4), .val (.int p5), .val (.ref p6), .val (.int v7_3), .unset, .unset, .unset] [(.int (1 : Int32))])) _
          refine XS.goto X0.here hx rfl (pc0 := 25) (pc' := 29) rfl (hb hby d2_25) (by decide) (by decide) ?_
          have qms0_29 : ms0_29 = (1 : Int32) := by rw [hms0_29, if_pos hc21]
          rw [qms0_29] at k
          exact k
        · show Steps p.tables e below (s₁.setTop (mkF m 21 #[.val (.ref p0), .val (.int p1), .val (.int p2), .val (.int p3), .val (.int p4), .val (.int p5), .val (.ref p6), .val (.int v7_3), .unset, .unset, .unset] [(.int p5), (.int (g_ p1.toNatClampNeg))])) _
          refine XS.icmpYes X0.here hx rfl (pc0 := 21) (pc' := 28) rfl (hb hby d2_21) rfl (feq hc21).2 (by decide) (by decide) ?_
          show Steps p.tables e below (s₁.setTop (mkF m 28 #[.val (.ref p0), .val (.int p1), .val (.int p2), .val (.int p3), .val (.int p4), .val (.int p5), .val (.ref p6), .val (.int v7_3), .unset, .unset, .unset] [])) _
          refine XS.iconst X0.here hx rfl (hb hby d2_28) ?_
          have qms0_29 : ms0_29 = (0 : Int32) := by rw [hms0_29, if_neg hc21]
          rw [qms0_29] at k
          exact k
      have hnar : nar .boolean ms0_29 = ms0_29 := by rw [hms0_29]; (repeat' split) <;> rfl
      obtain ⟨fs, hr, hrun, hended, hW, hsame⟩ := X0.leave (v := some (.int ms0_29)) (fun h => by rw [Bd.returns] at h; cases h) (BodyLoose.notSynchronized Bd)
      refine ⟨_, _, pre8 _ ?_, hrun, hended, _, _, rfl, ?_, ⟨_, rfl⟩, hW, hsame.mono (by decide) (by decide)⟩
      · show Steps p.tables e below (s₁.setTop (mkF m 29 #[.val (.ref p0), .val (.int p1), .val (.int p2), .val (.int p3), .val (.int p4), .val (.int p5), .val (.ref p6), .val (.int v7_3), .unset, .unset, .unset] [(.int ms0_29)])) _
        exact retN X0 hx (t := .boolean) Bd.returns (by simp) (hb hby d2_29) (by rw [hnar]; exact hr)
      · show Q_2 Z p0 p1 p2 p3 p4 p5 p6 g_ q_ h0 n0 _ s₁.heap _
        rw [e0]
        exact ⟨congrArg (fun z => some (Value.int z)) (by subst hv7_3 hms0_29; exact ((if_neg hc7).trans (if_neg hc13)).symm : ms0_29 = f_2 p1 p2 p3 p4 p5 g_ q_), N0, rfl⟩
theorem own_pt_eq (i : Nat) (hi : i < 11) : (own_upd (own_upd (own_upd (own_upd (own_upd (own_upd (own_upd (own_upd (own_upd (own_upd (own_upd own_zJ 0 (1 : Int64)) 1 (10 : Int64)) 2 (100 : Int64)) 3 (1000 : Int64)) 4 (10000 : Int64)) 5 (100000 : Int64)) 6 (1000000 : Int64)) 7 (10000000 : Int64)) 8 (100000000 : Int64)) 9 (1000000000 : Int64)) 10 (10000000000 : Int64)) i = own_pt i := by
  revert i
  decide +kernel
theorem own_fl_eq (b : Int32) (i : Nat) (hi : i < 14) : (own_upd (own_upd (own_upd (own_upd (own_upd (own_upd (own_upd (own_upd (own_upd (own_upd (own_upd (own_upd (own_upd (own_upd own_zI 0 b.toInt8.toInt32) 1 b.toInt8.toInt32) 2 b.toInt8.toInt32) 3 b.toInt8.toInt32) 4 b.toInt8.toInt32) 5 b.toInt8.toInt32) 6 b.toInt8.toInt32) 7 b.toInt8.toInt32) 8 b.toInt8.toInt32) 9 b.toInt8.toInt32) 10 b.toInt8.toInt32) 11 b.toInt8.toInt32) 12 b.toInt8.toInt32) 13 b.toInt8.toInt32) i = own_fl b i := by
  rcases (by omega : i = 0 ∨ i = 1 ∨ i = 2 ∨ i = 3 ∨ i = 4 ∨ i = 5 ∨ i = 6 ∨ i = 7 ∨ i = 8 ∨ i = 9 ∨ i = 10 ∨ i = 11 ∨ i = 12 ∨ i = 13) with rfl | rfl | rfl | rfl | rfl | rfl | rfl | rfl | rfl | rfl | rfl | rfl | rfl | rfl
  all_goals rfl
theorem pd_0 : parseMethodDescriptor "([BIII)V" = some ⟨[(.array .byte), .int, .int, .int], none⟩ := by decide +kernel
theorem pd_1 : parseMethodDescriptor "([BIIIIB[J)Z" = some ⟨[(.array .byte), .int, .int, .int, .int, .byte, (.array .long)], some .boolean⟩ := by decide +kernel
theorem pn_0 : plainName "com/example/dayt/dayt/text/TextFormPutDigitsPinLaw" = true := by first | (simp [plainName, overriddenIn]; done) | decide +kernel
theorem ef_0 (m : MethodId) (p0 : Int32) (p1 : Int32) (p2 : Int32) (p3 : Int32) : entryFrame m #[(.int p0), (.int p1), (.int p2), (.int p3)] maxLocals = mkF m 0 #[.val (.int p0), .val (.int p1), .val (.int p2), .val (.int p3), .unset, .unset, .unset, .unset, .unset, .unset] [] := by first | (simp [entryFrame, mkF, argsToLocals, Value.category, maxLocals]; done) | rfl
def f_0 (p0 : Int32) (p1 : Int32) (p2 : Int32) (p3 : Int32) : Int32 := let g_7 : Nat → Int64 := (own_upd own_zJ 0 (1 : Int64)); let g_13 : Nat → Int64 := (own_upd g_7 1 (10 : Int64)); let g_19 : Nat → Int64 := (own_upd g_13 2 (100 : Int64)); let g_25 : Nat → Int64 := (own_upd g_19 3 (1000 : Int64)); let g_31 : Nat → Int64 := (own_upd g_25 4 (10000 : Int64)); let g_37 : Nat → Int64 := (own_upd g_31 5 (100000 : Int64)); let g_44 : Nat → Int64 := (own_upd g_37 6 (1000000 : Int64)); let g_51 : Nat → Int64 := (own_upd g_44 7 (10000000 : Int64)); let g_58 : Nat → Int64 := (own_upd g_51 8 (100000000 : Int64)); let g_65 : Nat → Int64 := (own_upd g_58 9 (1000000000 : Int64)); let g_72 : Nat → Int64 := (own_upd g_65 10 (10000000000 : Int64)); let v5_81 : Int32 := ((p0 &&& (2147483647 : Int32)) % (3 : Int32)); let v6_90 : Int32 := ((p1 &&& (2147483647 : Int32)) % (11 : Int32)); let v7_105 : Int32 := ((((p2.toInt64) &&& (2147483647 : Int64)) % (own_pt v6_90.toNatClampNeg)).toInt32); let v8_109 : Int32 := (p3.toInt8.toInt32); let g_119 : Nat → Int32 := (own_upd own_zI 0 v8_109.toInt8.toInt32); let g_124 : Nat → Int32 := (own_upd g_119 1 v8_109.toInt8.toInt32); let g_129 : Nat → Int32 := (own_upd g_124 2 v8_109.toInt8.toInt32); let g_134 : Nat → Int32 := (own_upd g_129 3 v8_109.toInt8.toInt32); let g_139 : Nat → Int32 := (own_upd g_134 4 v8_109.toInt8.toInt32); let g_144 : Nat → Int32 := (own_upd g_139 5 v8_109.toInt8.toInt32); let g_150 : Nat → Int32 := (own_upd g_144 6 v8_109.toInt8.toInt32); let g_156 : Nat → Int32 := (own_upd g_150 7 v8_109.toInt8.toInt32); let g_162 : Nat → Int32 := (own_upd g_156 8 v8_109.toInt8.toInt32); let g_168 : Nat → Int32 := (own_upd g_162 9 v8_109.toInt8.toInt32); let g_174 : Nat → Int32 := (own_upd g_168 10 v8_109.toInt8.toInt32); let g_180 : Nat → Int32 := (own_upd g_174 11 v8_109.toInt8.toInt32); let g_186 : Nat → Int32 := (own_upd g_180 12 v8_109.toInt8.toInt32); let g_192 : Nat → Int32 := (own_upd g_186 13 v8_109.toInt8.toInt32); (if (f_2 (0 : Int32) v5_81 v6_90 v7_105 v8_109 (own_put (own_fl v8_109) v5_81.toNatClampNeg v6_90.toNatClampNeg v7_105) own_pt) = (0 : Int32) then (0 : Int32) else (if (f_2 (1 : Int32) v5_81 v6_90 v7_105 v8_109 (own_put (own_fl v8_109) v5_81.toNatClampNeg v6_90.toNatClampNeg v7_105) own_pt) = (0 : Int32) then (0 : Int32) else (if (f_2 (2 : Int32) v5_81 v6_90 v7_105 v8_109 (own_put (own_fl v8_109) v5_81.toNatClampNeg v6_90.toNatClampNeg v7_105) own_pt) = (0 : Int32) then (0 : Int32) else (if (f_2 (3 : Int32) v5_81 v6_90 v7_105 v8_109 (own_put (own_fl v8_109) v5_81.toNatClampNeg v6_90.toNatClampNeg v7_105) own_pt) = (0 : Int32) then (0 : Int32) else (if (f_2 (4 : Int32) v5_81 v6_90 v7_105 v8_109 (own_put (own_fl v8_109) v5_81.toNatClampNeg v6_90.toNatClampNeg v7_105) own_pt) = (0 : Int32) then (0 : Int32) else (if (f_2 (5 : Int32) v5_81 v6_90 v7_105 v8_109 (own_put (own_fl v8_109) v5_81.toNatClampNeg v6_90.toNatClampNeg v7_105) own_pt) = (0 : Int32) then (0 : Int32) else (if (f_2 (6 : Int32) v5_81 v6_90 v7_105 v8_109 (own_put (own_fl v8_109) v5_81.toNatClampNeg v6_90.toNatClampNeg v7_105) own_pt) = (0 : Int32) then (0 : Int32) else (if (f_2 (7 : Int32) v5_81 v6_90 v7_105 v8_109 (own_put (own_fl v8_109) v5_81.toNatClampNeg v6_90.toNatClampNeg v7_105) own_pt) = (0 : Int32) then (0 : Int32) else (if (f_2 (8 : Int32) v5_81 v6_90 v7_105 v8_109 (own_put (own_fl v8_109) v5_81.toNatClampNeg v6_90.toNatClampNeg v7_105) own_pt) = (0 : Int32) then (0 : Int32) else (if (f_2 (9 : Int32) v5_81 v6_90 v7_105 v8_109 (own_put (own_fl v8_109) v5_81.toNatClampNeg v6_90.toNatClampNeg v7_105) own_pt) = (0 : Int32) then (0 : Int32) else (if (f_2 (10 : Int32) v5_81 v6_90 v7_105 v8_109 (own_put (own_fl v8_109) v5_81.toNatClampNeg v6_90.toNatClampNeg v7_105) own_pt) = (0 : Int32) then (0 : Int32) else (if (f_2 (11 : Int32) v5_81 v6_90 v7_105 v8_109 (own_put (own_fl v8_109) v5_81.toNatClampNeg v6_90.toNatClampNeg v7_105) own_pt) = (0 : Int32) then (0 : Int32) else (if (f_2 (12 : Int32) v5_81 v6_90 v7_105 v8_109 (own_put (own_fl v8_109) v5_81.toNatClampNeg v6_90.toNatClampNeg v7_105) own_pt) = (0 : Int32) then (0 : Int32) else let ms0_485 : Int32 := (if (f_2 (13 : Int32) v5_81 v6_90 v7_105 v8_109 (own_put (own_fl v8_109) v5_81.toNatClampNeg v6_90.toNatClampNeg v7_105) own_pt) = (0 : Int32) then (0 : Int32) else (1 : Int32)); ms0_485)))))))))))))
def Q_0 (Z : State) (p0 : Int32) (p1 : Int32) (p2 : Int32) (p3 : Int32)  (h0 : Heap) (n0 : Nat) (v : Option Value) (h : Heap) (L : List Loc) : Prop := v = some (.int (f_0 p0 p1 p2 p3)) ∧ Fr n0 L ∧ True
set_option maxRecDepth 65536 in
set_option maxHeartbeats 40000000 in
theorem rm_0 (l : Launch) (Z : State) (a0 : Array Value) (hw : ∀ d ∈ tables_1, d.before a0 Z = true) (ws : List Jvm.Cond) (p0 : Int32) (p1 : Int32) (p2 : Int32) (p3 : Int32)  (h0 : Heap) (n0 : Nat) (Z0 : n0 ≤ h0.size)  :
    MetFree l x (head1 (Jvm.Cond.code x code maxLocals ret :: ws) room_1) (fun a U => a = #[(.int p0), (.int p1), (.int p2), (.int p3)] ∧ Z.Warmed39 U.vm ∧ U.heap = h0) (fun _ _ _ _ _ => True) (fun _ U o U' => ∃ v L, o = .returned v ∧ Q_0 Z p0 p1 p2 p3 h0 n0 v U'.heap L ∧ FrameEnd U o U' L 2 25) := by
  refine MetFree.of_bodySF (plainFor_of_name pn_0) hisR ?_
  intro p e s m args below meth c s₁ Bd hml0 hP hK
  obtain ⟨rfl, hZ, hh⟩ := hP
  have hx := Bd.exec
  have hby := Bd.bytes
  have hml : c.maxLocals = 10 := hml0
  have hown : s.vm.findClass "com/example/dayt/dayt/text/TextFormPutDigitsPinLaw" = some m.cls := findClass_of_methodNamed Bd.named
  have hnm := (name_of_methodNamed Bd.named Bd.method).1
  have X0 : Stand p l e room_1 s m #[(.int p0), (.int p1), (.int p2), (.int p3)] below meth c s₁ [] 0 0 := Stand.of_body Bd
  have e0 : s₁.heap = h0 := by rw [← hh, Bd.state]; rfl
  have N0 := Fr.nil n0
  have K0 : Keep h0 h0 [] := Keep.refl h0 _
  have pre0 : ∀ t, Steps p.tables e below (s₁.setTop (mkF m 0 #[.val (.int p0), .val (.int p1), .val (.int p2), .val (.int p3), .unset, .unset, .unset, .unset, .unset, .unset] [])) t → Steps p.tables e below (s₁.setTop (entryFrame m #[(.int p0), (.int p1), (.int p2), (.int p3)] maxLocals)) t := fun t k => castTop (ef_0 m p0 p1 p2 p3) k
  have pre1 : ∀ t, Steps p.tables e below (s₁.setTop (mkF m 2 #[.val (.int p0), .val (.int p1), .val (.int p2), .val (.int p3), .unset, .unset, .unset, .unset, .unset, .unset] [(.int (11 : Int32))])) t → Steps p.tables e below (s₁.setTop (entryFrame m #[(.int p0), (.int p1), (.int p2), (.int p3)] maxLocals)) t := by
    intro t k
    refine pre0 t ?_
    show Steps p.tables e below (s₁.setTop (mkF m 0 #[.val (.int p0), .val (.int p1), .val (.int p2), .val (.int p3), .unset, .unset, .unset, .unset, .unset, .unset] [])) _
    refine XS.bipush X0.here hx rfl (hb hby at_0) ?_
    exact k
  obtain ⟨T2, h2, b2, gb2, X2, e2, E2, A2, st2⟩ := own_newP X0 hx hZ (hw _ (List.mem_of_getElem? (i := 0) rfl)) e0 (g := (mkF m 2 #[.val (.int p0), .val (.int p1), .val (.int p2), .val (.int p3), .unset, .unset, .unset, .unset, .unset, .unset] [(.int (11 : Int32))])) rfl (hb hby at_2) rfl (by decide) (n := 11) rfl (G := fun i => .long (own_zJ i)) (fun _ => rfl) (cap := 11) (by decide) (by decide) (by decide) (by decide)
  have sz_b2 : h0.size ≤ b2 := Nat.le_trans K0.1 (Nat.le_of_eq gb2.symm)
  have ge_b2 : n0 ≤ b2 := Nat.le_trans Z0 (Nat.le_of_eq gb2.symm)
  have K2 := K0.ext E2
  have Z2 := Nat.le_trans Z0 E2.1
  have pre3 : ∀ t, Steps p.tables e below (T2.setTop (mkF m 7 #[.val (.int p0), .val (.int p1), .val (.int p2), .val (.int p3), .unset, .unset, .unset, .unset, .unset, .unset] [(.long (1 : Int64)), (.int (0 : Int32)), (.ref b2), (.ref b2)])) t → Steps p.tables e below (s₁.setTop (entryFrame m #[(.int p0), (.int p1), (.int p2), (.int p3)] maxLocals)) t := by
    intro t k
    refine pre1 t ?_
    show Steps p.tables e below (s₁.setTop (mkF m 2 #[.val (.int p0), .val (.int p1), .val (.int p2), .val (.int p3), .unset, .unset, .unset, .unset, .unset, .unset] [(.int (11 : Int32))])) _
    refine st2 _ ?_
    show Steps p.tables e below (T2.setTop (mkF m 4 #[.val (.int p0), .val (.int p1), .val (.int p2), .val (.int p3), .unset, .unset, .unset, .unset, .unset, .unset] [(.ref b2)])) _
    refine XS.dup X2.here hx rfl (hb hby at_4) rfl rfl ?_
    show Steps p.tables e below (T2.setTop (mkF m 5 #[.val (.int p0), .val (.int p1), .val (.int p2), .val (.int p3), .unset, .unset, .unset, .unset, .unset, .unset] [(.ref b2), (.ref b2)])) _
    refine XS.iconst X2.here hx rfl (hb hby at_5) ?_
    show Steps p.tables e below (T2.setTop (mkF m 6 #[.val (.int p0), .val (.int p1), .val (.int p2), .val (.int p3), .unset, .unset, .unset, .unset, .unset, .unset] [(.int (0 : Int32)), (.ref b2), (.ref b2)])) _
    refine XS.lconst X2.here hx rfl (hb hby at_6) ?_
    exact k
  obtain ⟨T4, h4, X4, e4, W4, A4, st4⟩ := own_stJ X2 hx hZ e2 A2 (j := (0 : Int32)) (x := (1 : Int64)) (k := 0) (by decide) (by decide) (by decide) (g := (mkF m 7 #[.val (.int p0), .val (.int p1), .val (.int p2), .val (.int p3), .unset, .unset, .unset, .unset, .unset, .unset] [(.long (1 : Int64)), (.int (0 : Int32)), (.ref b2), (.ref b2)])) rfl rfl (hb hby at_7)
  obtain ⟨g_7, hg_7⟩ : ∃ z : Nat → Int64, z = (own_upd own_zJ 0 (1 : Int64)) := ⟨_, rfl⟩
  rw [← hg_7] at A4
  have K4 := K2.wr W4 (Or.inr sz_b2)
  have Z4 := Nat.le_trans Z2 (Nat.le_of_eq W4.size.symm)
  have N4 := Fr.snoc X4 N0 ge_b2
  have pre5 : ∀ t, Steps p.tables e below (T4.setTop (mkF m 13 #[.val (.int p0), .val (.int p1), .val (.int p2), .val (.int p3), .unset, .unset, .unset, .unset, .unset, .unset] [(.long (10 : Int64)), (.int (1 : Int32)), (.ref b2), (.ref b2)])) t → Steps p.tables e below (s₁.setTop (entryFrame m #[(.int p0), (.int p1), (.int p2), (.int p3)] maxLocals)) t := by
    intro t k
    refine pre3 t ?_
    show Steps p.tables e below (T2.setTop (mkF m 7 #[.val (.int p0), .val (.int p1), .val (.int p2), .val (.int p3), .unset, .unset, .unset, .unset, .unset, .unset] [(.long (1 : Int64)), (.int (0 : Int32)), (.ref b2), (.ref b2)])) _
    refine st4 _ ?_
    show Steps p.tables e below (T4.setTop (mkF m 8 #[.val (.int p0), .val (.int p1), .val (.int p2), .val (.int p3), .unset, .unset, .unset, .unset, .unset, .unset] [(.ref b2)])) _
    refine XS.dup X4.here hx rfl (hb hby at_8) rfl rfl ?_
    show Steps p.tables e below (T4.setTop (mkF m 9 #[.val (.int p0), .val (.int p1), .val (.int p2), .val (.int p3), .unset, .unset, .unset, .unset, .unset, .unset] [(.ref b2), (.ref b2)])) _
    refine XS.iconst X4.here hx rfl (hb hby at_9) ?_
    show Steps p.tables e below (T4.setTop (mkF m 10 #[.val (.int p0), .val (.int p1), .val (.int p2), .val (.int p3), .unset, .unset, .unset, .unset, .unset, .unset] [(.int (1 : Int32)), (.ref b2), (.ref b2)])) _
    refine X4.ldc2Long hx hown (mvT hZ (hw _ (List.mem_of_getElem? (i := 1) rfl))) (g := (mkF m 10 #[.val (.int p0), .val (.int p1), .val (.int p2), .val (.int p3), .unset, .unset, .unset, .unset, .unset, .unset] [(.int (1 : Int32)), (.ref b2), (.ref b2)])) rfl (hb hby at_10) _ ?_
    exact k
  obtain ⟨T6, h6, X6, e6, W6, A6, st6⟩ := own_stJ X4 hx hZ e4 A4 (j := (1 : Int32)) (x := (10 : Int64)) (k := 1) (by decide) (by decide) (by decide) (g := (mkF m 13 #[.val (.int p0), .val (.int p1), .val (.int p2), .val (.int p3), .unset, .unset, .unset, .unset, .unset, .unset] [(.long (10 : Int64)), (.int (1 : Int32)), (.ref b2), (.ref b2)])) rfl rfl (hb hby at_13)
  obtain ⟨g_13, hg_13⟩ : ∃ z : Nat → Int64, z = (own_upd g_7 1 (10 : Int64)) := ⟨_, rfl⟩
  rw [← hg_13] at A6
  have K6 := K4.wr W6 (Or.inr sz_b2)
  have Z6 := Nat.le_trans Z4 (Nat.le_of_eq W6.size.symm)
  have N6 := Fr.snoc X6 N4 ge_b2
  have pre7 : ∀ t, Steps p.tables e below (T6.setTop (mkF m 19 #[.val (.int p0), .val (.int p1), .val (.int p2), .val (.int p3), .unset, .unset, .unset, .unset, .unset, .unset] [(.long (100 : Int64)), (.int (2 : Int32)), (.ref b2), (.ref b2)])) t → Steps p.tables e below (s₁.setTop (entryFrame m #[(.int p0), (.int p1), (.int p2), (.int p3)] maxLocals)) t := by
    intro t k
    refine pre5 t ?_
    show Steps p.tables e below (T4.setTop (mkF m 13 #[.val (.int p0), .val (.int p1), .val (.int p2), .val (.int p3), .unset, .unset, .unset, .unset, .unset, .unset] [(.long (10 : Int64)), (.int (1 : Int32)), (.ref b2), (.ref b2)])) _
    refine st6 _ ?_
    show Steps p.tables e below (T6.setTop (mkF m 14 #[.val (.int p0), .val (.int p1), .val (.int p2), .val (.int p3), .unset, .unset, .unset, .unset, .unset, .unset] [(.ref b2)])) _
    refine XS.dup X6.here hx rfl (hb hby at_14) rfl rfl ?_
    show Steps p.tables e below (T6.setTop (mkF m 15 #[.val (.int p0), .val (.int p1), .val (.int p2), .val (.int p3), .unset, .unset, .unset, .unset, .unset, .unset] [(.ref b2), (.ref b2)])) _
    refine XS.iconst X6.here hx rfl (hb hby at_15) ?_
    show Steps p.tables e below (T6.setTop (mkF m 16 #[.val (.int p0), .val (.int p1), .val (.int p2), .val (.int p3), .unset, .unset, .unset, .unset, .unset, .unset] [(.int (2 : Int32)), (.ref b2), (.ref b2)])) _
    refine X6.ldc2Long hx hown (mvT hZ (hw _ (List.mem_of_getElem? (i := 2) rfl))) (g := (mkF m 16 #[.val (.int p0), .val (.int p1), .val (.int p2), .val (.int p3), .unset, .unset, .unset, .unset, .unset, .unset] [(.int (2 : Int32)), (.ref b2), (.ref b2)])) rfl (hb hby at_16) _ ?_
    exact k
  obtain ⟨T8, h8, X8, e8, W8, A8, st8⟩ := own_stJ X6 hx hZ e6 A6 (j := (2 : Int32)) (x := (100 : Int64)) (k := 2) (by decide) (by decide) (by decide) (g := (mkF m 19 #[.val (.int p0), .val (.int p1), .val (.int p2), .val (.int p3), .unset, .unset, .unset, .unset, .unset, .unset] [(.long (100 : Int64)), (.int (2 : Int32)), (.ref b2), (.ref b2)])) rfl rfl (hb hby at_19)
  obtain ⟨g_19, hg_19⟩ : ∃ z : Nat → Int64, z = (own_upd g_13 2 (100 : Int64)) := ⟨_, rfl⟩
  rw [← hg_19] at A8
  have K8 := K6.wr W8 (Or.inr sz_b2)
  have Z8 := Nat.le_trans Z6 (Nat.le_of_eq W8.size.symm)
  have N8 := Fr.snoc X8 N6 ge_b2
  have pre9 : ∀ t, Steps p.tables e below (T8.setTop (mkF m 25 #[.val (.int p0), .val (.int p1), .val (.int p2), .val (.int p3), .unset, .unset, .unset, .unset, .unset, .unset] [(.long (1000 : Int64)), (.int (3 : Int32)), (.ref b2), (.ref b2)])) t → Steps p.tables e below (s₁.setTop (entryFrame m #[(.int p0), (.int p1), (.int p2), (.int p3)] maxLocals)) t := by
    intro t k
    refine pre7 t ?_
    show Steps p.tables e below (T6.setTop (mkF m 19 #[.val (.int p0), .val (.int p1), .val (.int p2), .val (.int p3), .unset, .unset, .unset, .unset, .unset, .unset] [(.long (100 : Int64)), (.int (2 : Int32)), (.ref b2), (.ref b2)])) _
    refine st8 _ ?_
    show Steps p.tables e below (T8.setTop (mkF m 20 #[.val (.int p0), .val (.int p1), .val (.int p2), .val (.int p3), .unset, .unset, .unset, .unset, .unset, .unset] [(.ref b2)])) _
    refine XS.dup X8.here hx rfl (hb hby at_20) rfl rfl ?_
    show Steps p.tables e below (T8.setTop (mkF m 21 #[.val (.int p0), .val (.int p1), .val (.int p2), .val (.int p3), .unset, .unset, .unset, .unset, .unset, .unset] [(.ref b2), (.ref b2)])) _
    refine XS.iconst X8.here hx rfl (hb hby at_21) ?_
    show Steps p.tables e below (T8.setTop (mkF m 22 #[.val (.int p0), .val (.int p1), .val (.int p2), .val (.int p3), .unset, .unset, .unset, .unset, .unset, .unset] [(.int (3 : Int32)), (.ref b2), (.ref b2)])) _
    refine X8.ldc2Long hx hown (mvT hZ (hw _ (List.mem_of_getElem? (i := 3) rfl))) (g := (mkF m 22 #[.val (.int p0), .val (.int p1), .val (.int p2), .val (.int p3), .unset, .unset, .unset, .unset, .unset, .unset] [(.int (3 : Int32)), (.ref b2), (.ref b2)])) rfl (hb hby at_22) _ ?_
    exact k
  obtain ⟨T10, h10, X10, e10, W10, A10, st10⟩ := own_stJ X8 hx hZ e8 A8 (j := (3 : Int32)) (x := (1000 : Int64)) (k := 3) (by decide) (by decide) (by decide) (g := (mkF m 25 #[.val (.int p0), .val (.int p1), .val (.int p2), .val (.int p3), .unset, .unset, .unset, .unset, .unset, .unset] [(.long (1000 : Int64)), (.int (3 : Int32)), (.ref b2), (.ref b2)])) rfl rfl (hb hby at_25)
  obtain ⟨g_25, hg_25⟩ : ∃ z : Nat → Int64, z = (own_upd g_19 3 (1000 : Int64)) := ⟨_, rfl⟩
  rw [← hg_25] at A10
  have K10 := K8.wr W10 (Or.inr sz_b2)
  have Z10 := Nat.le_trans Z8 (Nat.le_of_eq W10.size.symm)
  have N10 := Fr.snoc X10 N8 ge_b2
  have pre11 : ∀ t, Steps p.tables e below (T10.setTop (mkF m 31 #[.val (.int p0), .val (.int p1), .val (.int p2), .val (.int p3), .unset, .unset, .unset, .unset, .unset, .unset] [(.long (10000 : Int64)), (.int (4 : Int32)), (.ref b2), (.ref b2)])) t → Steps p.tables e below (s₁.setTop (entryFrame m #[(.int p0), (.int p1), (.int p2), (.int p3)] maxLocals)) t := by
    intro t k
    refine pre9 t ?_
    show Steps p.tables e below (T8.setTop (mkF m 25 #[.val (.int p0), .val (.int p1), .val (.int p2), .val (.int p3), .unset, .unset, .unset, .unset, .unset, .unset] [(.long (1000 : Int64)), (.int (3 : Int32)), (.ref b2), (.ref b2)])) _
    refine st10 _ ?_
    show Steps p.tables e below (T10.setTop (mkF m 26 #[.val (.int p0), .val (.int p1), .val (.int p2), .val (.int p3), .unset, .unset, .unset, .unset, .unset, .unset] [(.ref b2)])) _
    refine XS.dup X10.here hx rfl (hb hby at_26) rfl rfl ?_
    show Steps p.tables e below (T10.setTop (mkF m 27 #[.val (.int p0), .val (.int p1), .val (.int p2), .val (.int p3), .unset, .unset, .unset, .unset, .unset, .unset] [(.ref b2), (.ref b2)])) _
    refine XS.iconst X10.here hx rfl (hb hby at_27) ?_
    show Steps p.tables e below (T10.setTop (mkF m 28 #[.val (.int p0), .val (.int p1), .val (.int p2), .val (.int p3), .unset, .unset, .unset, .unset, .unset, .unset] [(.int (4 : Int32)), (.ref b2), (.ref b2)])) _
    refine X10.ldc2Long hx hown (mvT hZ (hw _ (List.mem_of_getElem? (i := 4) rfl))) (g := (mkF m 28 #[.val (.int p0), .val (.int p1), .val (.int p2), .val (.int p3), .unset, .unset, .unset, .unset, .unset, .unset] [(.int (4 : Int32)), (.ref b2), (.ref b2)])) rfl (hb hby at_28) _ ?_
    exact k
  obtain ⟨T12, h12, X12, e12, W12, A12, st12⟩ := own_stJ X10 hx hZ e10 A10 (j := (4 : Int32)) (x := (10000 : Int64)) (k := 4) (by decide) (by decide) (by decide) (g := (mkF m 31 #[.val (.int p0), .val (.int p1), .val (.int p2), .val (.int p3), .unset, .unset, .unset, .unset, .unset, .unset] [(.long (10000 : Int64)), (.int (4 : Int32)), (.ref b2), (.ref b2)])) rfl rfl (hb hby at_31)
  obtain ⟨g_31, hg_31⟩ : ∃ z : Nat → Int64, z = (own_upd g_25 4 (10000 : Int64)) := ⟨_, rfl⟩
  rw [← hg_31] at A12
  have K12 := K10.wr W12 (Or.inr sz_b2)
  have Z12 := Nat.le_trans Z10 (Nat.le_of_eq W12.size.symm)
  have N12 := Fr.snoc X12 N10 ge_b2
  have pre13 : ∀ t, Steps p.tables e below (T12.setTop (mkF m 37 #[.val (.int p0), .val (.int p1), .val (.int p2), .val (.int p3), .unset, .unset, .unset, .unset, .unset, .unset] [(.long (100000 : Int64)), (.int (5 : Int32)), (.ref b2), (.ref b2)])) t → Steps p.tables e below (s₁.setTop (entryFrame m #[(.int p0), (.int p1), (.int p2), (.int p3)] maxLocals)) t := by
    intro t k
    refine pre11 t ?_
    show Steps p.tables e below (T10.setTop (mkF m 31 #[.val (.int p0), .val (.int p1), .val (.int p2), .val (.int p3), .unset, .unset, .unset, .unset, .unset, .unset] [(.long (10000 : Int64)), (.int (4 : Int32)), (.ref b2), (.ref b2)])) _
    refine st12 _ ?_
    show Steps p.tables e below (T12.setTop (mkF m 32 #[.val (.int p0), .val (.int p1), .val (.int p2), .val (.int p3), .unset, .unset, .unset, .unset, .unset, .unset] [(.ref b2)])) _
    refine XS.dup X12.here hx rfl (hb hby at_32) rfl rfl ?_
    show Steps p.tables e below (T12.setTop (mkF m 33 #[.val (.int p0), .val (.int p1), .val (.int p2), .val (.int p3), .unset, .unset, .unset, .unset, .unset, .unset] [(.ref b2), (.ref b2)])) _
    refine XS.iconst X12.here hx rfl (hb hby at_33) ?_
    show Steps p.tables e below (T12.setTop (mkF m 34 #[.val (.int p0), .val (.int p1), .val (.int p2), .val (.int p3), .unset, .unset, .unset, .unset, .unset, .unset] [(.int (5 : Int32)), (.ref b2), (.ref b2)])) _
    refine X12.ldc2Long hx hown (mvT hZ (hw _ (List.mem_of_getElem? (i := 5) rfl))) (g := (mkF m 34 #[.val (.int p0), .val (.int p1), .val (.int p2), .val (.int p3), .unset, .unset, .unset, .unset, .unset, .unset] [(.int (5 : Int32)), (.ref b2), (.ref b2)])) rfl (hb hby at_34) _ ?_
    exact k
  obtain ⟨T14, h14, X14, e14, W14, A14, st14⟩ := own_stJ X12 hx hZ e12 A12 (j := (5 : Int32)) (x := (100000 : Int64)) (k := 5) (by decide) (by decide) (by decide) (g := (mkF m 37 #[.val (.int p0), .val (.int p1), .val (.int p2), .val (.int p3), .unset, .unset, .unset, .unset, .unset, .unset] [(.long (100000 : Int64)), (.int (5 : Int32)), (.ref b2), (.ref b2)])) rfl rfl (hb hby at_37)
  obtain ⟨g_37, hg_37⟩ : ∃ z : Nat → Int64, z = (own_upd g_31 5 (100000 : Int64)) := ⟨_, rfl⟩
  rw [← hg_37] at A14
  have K14 := K12.wr W14 (Or.inr sz_b2)
  have Z14 := Nat.le_trans Z12 (Nat.le_of_eq W14.size.symm)
  have N14 := Fr.snoc X14 N12 ge_b2
  have pre15 : ∀ t, Steps p.tables e below (T14.setTop (mkF m 44 #[.val (.int p0), .val (.int p1), .val (.int p2), .val (.int p3), .unset, .unset, .unset, .unset, .unset, .unset] [(.long (1000000 : Int64)), (.int (6 : Int32)), (.ref b2), (.ref b2)])) t → Steps p.tables e below (s₁.setTop (entryFrame m #[(.int p0), (.int p1), (.int p2), (.int p3)] maxLocals)) t := by
    intro t k
    refine pre13 t ?_
    show Steps p.tables e below (T12.setTop (mkF m 37 #[.val (.int p0), .val (.int p1), .val (.int p2), .val (.int p3), .unset, .unset, .unset, .unset, .unset, .unset] [(.long (100000 : Int64)), (.int (5 : Int32)), (.ref b2), (.ref b2)])) _
    refine st14 _ ?_
    show Steps p.tables e below (T14.setTop (mkF m 38 #[.val (.int p0), .val (.int p1), .val (.int p2), .val (.int p3), .unset, .unset, .unset, .unset, .unset, .unset] [(.ref b2)])) _
    refine XS.dup X14.here hx rfl (hb hby at_38) rfl rfl ?_
    show Steps p.tables e below (T14.setTop (mkF m 39 #[.val (.int p0), .val (.int p1), .val (.int p2), .val (.int p3), .unset, .unset, .unset, .unset, .unset, .unset] [(.ref b2), (.ref b2)])) _
    refine XS.bipush X14.here hx rfl (hb hby at_39) ?_
    show Steps p.tables e below (T14.setTop (mkF m 41 #[.val (.int p0), .val (.int p1), .val (.int p2), .val (.int p3), .unset, .unset, .unset, .unset, .unset, .unset] [(.int (6 : Int32)), (.ref b2), (.ref b2)])) _
    refine X14.ldc2Long hx hown (mvT hZ (hw _ (List.mem_of_getElem? (i := 6) rfl))) (g := (mkF m 41 #[.val (.int p0), .val (.int p1), .val (.int p2), .val (.int p3), .unset, .unset, .unset, .unset, .unset, .unset] [(.int (6 : Int32)), (.ref b2), (.ref b2)])) rfl (hb hby at_41) _ ?_
    exact k
  obtain ⟨T16, h16, X16, e16, W16, A16, st16⟩ := own_stJ X14 hx hZ e14 A14 (j := (6 : Int32)) (x := (1000000 : Int64)) (k := 6) (by decide) (by decide) (by decide) (g := (mkF m 44 #[.val (.int p0), .val (.int p1), .val (.int p2), .val (.int p3), .unset, .unset, .unset, .unset, .unset, .unset] [(.long (1000000 : Int64)), (.int (6 : Int32)), (.ref b2), (.ref b2)])) rfl rfl (hb hby at_44)
  obtain ⟨g_44, hg_44⟩ : ∃ z : Nat → Int64, z = (own_upd g_37 6 (1000000 : Int64)) := ⟨_, rfl⟩
  rw [← hg_44] at A16
  have K16 := K14.wr W16 (Or.inr sz_b2)
  have Z16 := Nat.le_trans Z14 (Nat.le_of_eq W16.size.symm)
  have N16 := Fr.snoc X16 N14 ge_b2
  have pre17 : ∀ t, Steps p.tables e below (T16.setTop (mkF m 51 #[.val (.int p0), .val (.int p1), .val (.int p2), .val (.int p3), .unset, .unset, .unset, .unset, .unset, .unset] [(.long (10000000 : Int64)), (.int (7 : Int32)), (.ref b2), (.ref b2)])) t → Steps p.tables e below (s₁.setTop (entryFrame m #[(.int p0), (.int p1), (.int p2), (.int p3)] maxLocals)) t := by
    intro t k
    refine pre15 t ?_
    show Steps p.tables e below (T14.setTop (mkF m 44 #[.val (.int p0), .val (.int p1), .val (.int p2), .val (.int p3), .unset, .unset, .unset, .unset, .unset, .unset] [(.long (1000000 : Int64)), (.int (6 : Int32)), (.ref b2), (.ref b2)])) _
    refine st16 _ ?_
    show Steps p.tables e below (T16.setTop (mkF m 45 #[.val (.int p0), .val (.int p1), .val (.int p2), .val (.int p3), .unset, .unset, .unset, .unset, .unset, .unset] [(.ref b2)])) _
    refine XS.dup X16.here hx rfl (hb hby at_45) rfl rfl ?_
    show Steps p.tables e below (T16.setTop (mkF m 46 #[.val (.int p0), .val (.int p1), .val (.int p2), .val (.int p3), .unset, .unset, .unset, .unset, .unset, .unset] [(.ref b2), (.ref b2)])) _
    refine XS.bipush X16.here hx rfl (hb hby at_46) ?_
    show Steps p.tables e below (T16.setTop (mkF m 48 #[.val (.int p0), .val (.int p1), .val (.int p2), .val (.int p3), .unset, .unset, .unset, .unset, .unset, .unset] [(.int (7 : Int32)), (.ref b2), (.ref b2)])) _
    refine X16.ldc2Long hx hown (mvT hZ (hw _ (List.mem_of_getElem? (i := 7) rfl))) (g := (mkF m 48 #[.val (.int p0), .val (.int p1), .val (.int p2), .val (.int p3), .unset, .unset, .unset, .unset, .unset, .unset] [(.int (7 : Int32)), (.ref b2), (.ref b2)])) rfl (hb hby at_48) _ ?_
    exact k
  obtain ⟨T18, h18, X18, e18, W18, A18, st18⟩ := own_stJ X16 hx hZ e16 A16 (j := (7 : Int32)) (x := (10000000 : Int64)) (k := 7) (by decide) (by decide) (by decide) (g := (mkF m 51 #[.val (.int p0), .val (.int p1), .val (.int p2), .val (.int p3), .unset, .unset, .unset, .unset, .unset, .unset] [(.long (10000000 : Int64)), (.int (7 : Int32)), (.ref b2), (.ref b2)])) rfl rfl (hb hby at_51)
  obtain ⟨g_51, hg_51⟩ : ∃ z : Nat → Int64, z = (own_upd g_44 7 (10000000 : Int64)) := ⟨_, rfl⟩
  rw [← hg_51] at A18
  have K18 := K16.wr W18 (Or.inr sz_b2)
  have Z18 := Nat.le_trans Z16 (Nat.le_of_eq W18.size.symm)
  have N18 := Fr.snoc X18 N16 ge_b2
  have pre19 : ∀ t, Steps p.tables e below (T18.setTop (mkF m 58 #[.val (.int p0), .val (.int p1), .val (.int p2), .val (.int p3), .unset, .unset, .unset, .unset, .unset, .unset] [(.long (100000000 : Int64)), (.int (8 : Int32)), (.ref b2), (.ref b2)])) t → Steps p.tables e below (s₁.setTop (entryFrame m #[(.int p0), (.int p1), (.int p2), (.int p3)] maxLocals)) t := by
    intro t k
    refine pre17 t ?_
    show Steps p.tables e below (T16.setTop (mkF m 51 #[.val (.int p0), .val (.int p1), .val (.int p2), .val (.int p3), .unset, .unset, .unset, .unset, .unset, .unset] [(.long (10000000 : Int64)), (.int (7 : Int32)), (.ref b2), (.ref b2)])) _
    refine st18 _ ?_
    show Steps p.tables e below (T18.setTop (mkF m 52 #[.val (.int p0), .val (.int p1), .val (.int p2), .val (.int p3), .unset, .unset, .unset, .unset, .unset, .unset] [(.ref b2)])) _
    refine XS.dup X18.here hx rfl (hb hby at_52) rfl rfl ?_
    show Steps p.tables e below (T18.setTop (mkF m 53 #[.val (.int p0), .val (.int p1), .val (.int p2), .val (.int p3), .unset, .unset, .unset, .unset, .unset, .unset] [(.ref b2), (.ref b2)])) _
    refine XS.bipush X18.here hx rfl (hb hby at_53) ?_
    show Steps p.tables e below (T18.setTop (mkF m 55 #[.val (.int p0), .val (.int p1), .val (.int p2), .val (.int p3), .unset, .unset, .unset, .unset, .unset, .unset] [(.int (8 : Int32)), (.ref b2), (.ref b2)])) _
    refine X18.ldc2Long hx hown (mvT hZ (hw _ (List.mem_of_getElem? (i := 8) rfl))) (g := (mkF m 55 #[.val (.int p0), .val (.int p1), .val (.int p2), .val (.int p3), .unset, .unset, .unset, .unset, .unset, .unset] [(.int (8 : Int32)), (.ref b2), (.ref b2)])) rfl (hb hby at_55) _ ?_
    exact k
  obtain ⟨T20, h20, X20, e20, W20, A20, st20⟩ := own_stJ X18 hx hZ e18 A18 (j := (8 : Int32)) (x := (100000000 : Int64)) (k := 8) (by decide) (by decide) (by decide) (g := (mkF m 58 #[.val (.int p0), .val (.int p1), .val (.int p2), .val (.int p3), .unset, .unset, .unset, .unset, .unset, .unset] [(.long (100000000 : Int64)), (.int (8 : Int32)), (.ref b2), (.ref b2)])) rfl rfl (hb hby at_58)
  obtain ⟨g_58, hg_58⟩ : ∃ z : Nat → Int64, z = (own_upd g_51 8 (100000000 : Int64)) := ⟨_, rfl⟩
  rw [← hg_58] at A20
  have K20 := K18.wr W20 (Or.inr sz_b2)
  have Z20 := Nat.le_trans Z18 (Nat.le_of_eq W20.size.symm)
  have N20 := Fr.snoc X20 N18 ge_b2
  have pre21 : ∀ t, Steps p.tables e below (T20.setTop (mkF m 65 #[.val (.int p0), .val (.int p1), .val (.int p2), .val (.int p3), .unset, .unset, .unset, .unset, .unset, .unset] [(.long (1000000000 : Int64)), (.int (9 : Int32)), (.ref b2), (.ref b2)])) t → Steps p.tables e below (s₁.setTop (entryFrame m #[(.int p0), (.int p1), (.int p2), (.int p3)] maxLocals)) t := by
    intro t k
    refine pre19 t ?_
    show Steps p.tables e below (T18.setTop (mkF m 58 #[.val (.int p0), .val (.int p1), .val (.int p2), .val (.int p3), .unset, .unset, .unset, .unset, .unset, .unset] [(.long (100000000 : Int64)), (.int (8 : Int32)), (.ref b2), (.ref b2)])) _
    refine st20 _ ?_
    show Steps p.tables e below (T20.setTop (mkF m 59 #[.val (.int p0), .val (.int p1), .val (.int p2), .val (.int p3), .unset, .unset, .unset, .unset, .unset, .unset] [(.ref b2)])) _
    refine XS.dup X20.here hx rfl (hb hby at_59) rfl rfl ?_
    show Steps p.tables e below (T20.setTop (mkF m 60 #[.val (.int p0), .val (.int p1), .val (.int p2), .val (.int p3), .unset, .unset, .unset, .unset, .unset, .unset] [(.ref b2), (.ref b2)])) _
    refine XS.bipush X20.here hx rfl (hb hby at_60) ?_
    show Steps p.tables e below (T20.setTop (mkF m 62 #[.val (.int p0), .val (.int p1), .val (.int p2), .val (.int p3), .unset, .unset, .unset, .unset, .unset, .unset] [(.int (9 : Int32)), (.ref b2), (.ref b2)])) _
    refine X20.ldc2Long hx hown (mvT hZ (hw _ (List.mem_of_getElem? (i := 9) rfl))) (g := (mkF m 62 #[.val (.int p0), .val (.int p1), .val (.int p2), .val (.int p3), .unset, .unset, .unset, .unset, .unset, .unset] [(.int (9 : Int32)), (.ref b2), (.ref b2)])) rfl (hb hby at_62) _ ?_
    exact k
  obtain ⟨T22, h22, X22, e22, W22, A22, st22⟩ := own_stJ X20 hx hZ e20 A20 (j := (9 : Int32)) (x := (1000000000 : Int64)) (k := 9) (by decide) (by decide) (by decide) (g := (mkF m 65 #[.val (.int p0), .val (.int p1), .val (.int p2), .val (.int p3), .unset, .unset, .unset, .unset, .unset, .unset] [(.long (1000000000 : Int64)), (.int (9 : Int32)), (.ref b2), (.ref b2)])) rfl rfl (hb hby at_65)
  obtain ⟨g_65, hg_65⟩ : ∃ z : Nat → Int64, z = (own_upd g_58 9 (1000000000 : Int64)) := ⟨_, rfl⟩
  rw [← hg_65] at A22
  have K22 := K20.wr W22 (Or.inr sz_b2)
  have Z22 := Nat.le_trans Z20 (Nat.le_of_eq W22.size.symm)
  have N22 := Fr.snoc X22 N20 ge_b2
  have pre23 : ∀ t, Steps p.tables e below (T22.setTop (mkF m 72 #[.val (.int p0), .val (.int p1), .val (.int p2), .val (.int p3), .unset, .unset, .unset, .unset, .unset, .unset] [(.long (10000000000 : Int64)), (.int (10 : Int32)), (.ref b2), (.ref b2)])) t → Steps p.tables e below (s₁.setTop (entryFrame m #[(.int p0), (.int p1), (.int p2), (.int p3)] maxLocals)) t := by
    intro t k
    refine pre21 t ?_
    show Steps p.tables e below (T20.setTop (mkF m 65 #[.val (.int p0), .val (.int p1), .val (.int p2), .val (.int p3), .unset, .unset, .unset, .unset, .unset, .unset] [(.long (1000000000 : Int64)), (.int (9 : Int32)), (.ref b2), (.ref b2)])) _
    refine st22 _ ?_
    show Steps p.tables e below (T22.setTop (mkF m 66 #[.val (.int p0), .val (.int p1), .val (.int p2), .val (.int p3), .unset, .unset, .unset, .unset, .unset, .unset] [(.ref b2)])) _
    refine XS.dup X22.here hx rfl (hb hby at_66) rfl rfl ?_
    show Steps p.tables e below (T22.setTop (mkF m 67 #[.val (.int p0), .val (.int p1), .val (.int p2), .val (.int p3), .unset, .unset, .unset, .unset, .unset, .unset] [(.ref b2), (.ref b2)])) _
    refine XS.bipush X22.here hx rfl (hb hby at_67) ?_
    show Steps p.tables e below (T22.setTop (mkF m 69 #[.val (.int p0), .val (.int p1), .val (.int p2), .val (.int p3), .unset, .unset, .unset, .unset, .unset, .unset] [(.int (10 : Int32)), (.ref b2), (.ref b2)])) _
    refine X22.ldc2Long hx hown (mvT hZ (hw _ (List.mem_of_getElem? (i := 10) rfl))) (g := (mkF m 69 #[.val (.int p0), .val (.int p1), .val (.int p2), .val (.int p3), .unset, .unset, .unset, .unset, .unset, .unset] [(.int (10 : Int32)), (.ref b2), (.ref b2)])) rfl (hb hby at_69) _ ?_
    exact k
  obtain ⟨T24, h24, X24, e24, W24, A24, st24⟩ := own_stJ X22 hx hZ e22 A22 (j := (10 : Int32)) (x := (10000000000 : Int64)) (k := 10) (by decide) (by decide) (by decide) (g := (mkF m 72 #[.val (.int p0), .val (.int p1), .val (.int p2), .val (.int p3), .unset, .unset, .unset, .unset, .unset, .unset] [(.long (10000000000 : Int64)), (.int (10 : Int32)), (.ref b2), (.ref b2)])) rfl rfl (hb hby at_72)
  obtain ⟨g_72, hg_72⟩ : ∃ z : Nat → Int64, z = (own_upd g_65 10 (10000000000 : Int64)) := ⟨_, rfl⟩
  rw [← hg_72] at A24
  have K24 := K22.wr W24 (Or.inr sz_b2)
  have Z24 := Nat.le_trans Z22 (Nat.le_of_eq W24.size.symm)
  have N24 := Fr.snoc X24 N22 ge_b2
  have pre25 : ∀ t, Steps p.tables e below (T24.setTop (mkF m 73 #[.val (.int p0), .val (.int p1), .val (.int p2), .val (.int p3), .unset, .unset, .unset, .unset, .unset, .unset] [(.ref b2)])) t → Steps p.tables e below (s₁.setTop (entryFrame m #[(.int p0), (.int p1), (.int p2), (.int p3)] maxLocals)) t := by
    intro t k
    refine pre23 t ?_
    show Steps p.tables e below (T22.setTop (mkF m 72 #[.val (.int p0), .val (.int p1), .val (.int p2), .val (.int p3), .unset, .unset, .unset, .unset, .unset, .unset] [(.long (10000000000 : Int64)), (.int (10 : Int32)), (.ref b2), (.ref b2)])) _
    refine st24 _ ?_
    exact k
  have AR26 : own_A Z h24 b2 .long 11 (fun i => .long (own_pt i)) := A24.congr (fun i hi => congrArg Value.long (by rw [hg_72, hg_65, hg_58, hg_51, hg_44, hg_37, hg_31, hg_25, hg_19, hg_13, hg_7]; exact own_pt_eq i hi))
  obtain ⟨v5_81, hv5_81⟩ : ∃ z : Int32, z = ((p0 &&& (2147483647 : Int32)) % (3 : Int32)) := ⟨_, rfl⟩
  obtain ⟨v6_90, hv6_90⟩ : ∃ z : Int32, z = ((p1 &&& (2147483647 : Int32)) % (11 : Int32)) := ⟨_, rfl⟩
  obtain ⟨v7_105, hv7_105⟩ : ∃ z : Int32, z = ((((p2.toInt64) &&& (2147483647 : Int64)) % (own_pt v6_90.toNatClampNeg)).toInt32) := ⟨_, rfl⟩
  obtain ⟨v8_109, hv8_109⟩ : ∃ z : Int32, z = (p3.toInt8.toInt32) := ⟨_, rfl⟩
  have pre27 : ∀ t, Steps p.tables e below (T24.setTop (mkF m 113 #[.val (.int p0), .val (.int p1), .val (.int p2), .val (.int p3), .val (.ref b2), .val (.int v5_81), .val (.int v6_90), .val (.int v7_105), .val (.int v8_109), .unset] [(.int (14 : Int32))])) t → Steps p.tables e below (s₁.setTop (entryFrame m #[(.int p0), (.int p1), (.int p2), (.int p3)] maxLocals)) t := by
    intro t k
    refine pre25 t ?_
    show Steps p.tables e below (T24.setTop (mkF m 73 #[.val (.int p0), .val (.int p1), .val (.int p2), .val (.int p3), .unset, .unset, .unset, .unset, .unset, .unset] [(.ref b2)])) _
    refine XS.astore X24.here hx rfl (hb hby at_73) rfl rfl (l' := #[.val (.int p0), .val (.int p1), .val (.int p2), .val (.int p3), .val (.ref b2), .unset, .unset, .unset, .unset, .unset]) rfl ?_
    show Steps p.tables e below (T24.setTop (mkF m 75 #[.val (.int p0), .val (.int p1), .val (.int p2), .val (.int p3), .val (.ref b2), .unset, .unset, .unset, .unset, .unset] [])) _
    refine XS.iloadN X24.here hx rfl (hb hby at_75) rfl  ?_
    show Steps p.tables e below (T24.setTop (mkF m 76 #[.val (.int p0), .val (.int p1), .val (.int p2), .val (.int p3), .val (.ref b2), .unset, .unset, .unset, .unset, .unset] [(.int p0)])) _
    refine X24.ldcInt hx hown (mvT hZ (hw _ (List.mem_of_getElem? (i := 11) rfl))) (g := (mkF m 76 #[.val (.int p0), .val (.int p1), .val (.int p2), .val (.int p3), .val (.ref b2), .unset, .unset, .unset, .unset, .unset] [(.int p0)])) rfl (hb hby at_76) _ ?_
    show Steps p.tables e below (T24.setTop (mkF m 78 #[.val (.int p0), .val (.int p1), .val (.int p2), .val (.int p3), .val (.ref b2), .unset, .unset, .unset, .unset, .unset] [(.int (2147483647 : Int32)), (.int p0)])) _
    refine XS.iand X24.here hx rfl (hb hby at_78) rfl ?_
    show Steps p.tables e below (T24.setTop (mkF m 79 #[.val (.int p0), .val (.int p1), .val (.int p2), .val (.int p3), .val (.ref b2), .unset, .unset, .unset, .unset, .unset] [(.int (p0 &&& (2147483647 : Int32)))])) _
    refine XS.iconst X24.here hx rfl (hb hby at_79) ?_
    show Steps p.tables e below (T24.setTop (mkF m 80 #[.val (.int p0), .val (.int p1), .val (.int p2), .val (.int p3), .val (.ref b2), .unset, .unset, .unset, .unset, .unset] [(.int (3 : Int32)), (.int (p0 &&& (2147483647 : Int32)))])) _
    refine iremM X24 hx rfl (hb hby at_80) rfl (by decide) ?_
    show Steps p.tables e below (T24.setTop (mkF m 81 #[.val (.int p0), .val (.int p1), .val (.int p2), .val (.int p3), .val (.ref b2), .unset, .unset, .unset, .unset, .unset] [(.int ((p0 &&& (2147483647 : Int32)) % (3 : Int32)))])) _
    refine XS.istore X24.here hx rfl (hb hby at_81) rfl (l' := #[.val (.int p0), .val (.int p1), .val (.int p2), .val (.int p3), .val (.ref b2), .val (.int v5_81), .unset, .unset, .unset, .unset]) (by rw [hv5_81]; rfl) ?_
    show Steps p.tables e below (T24.setTop (mkF m 83 #[.val (.int p0), .val (.int p1), .val (.int p2), .val (.int p3), .val (.ref b2), .val (.int v5_81), .unset, .unset, .unset, .unset] [])) _
    refine XS.iloadN X24.here hx rfl (hb hby at_83) rfl  ?_
    show Steps p.tables e below (T24.setTop (mkF m 84 #[.val (.int p0), .val (.int p1), .val (.int p2), .val (.int p3), .val (.ref b2), .val (.int v5_81), .unset, .unset, .unset, .unset] [(.int p1)])) _
    refine X24.ldcInt hx hown (mvT hZ (hw _ (List.mem_of_getElem? (i := 11) rfl))) (g := (mkF m 84 #[.val (.int p0), .val (.int p1), .val (.int p2), .val (.int p3), .val (.ref b2), .val (.int v5_81), .unset, .unset, .unset, .unset] [(.int p1)])) rfl (hb hby at_84) _ ?_
    show Steps p.tables e below (T24.setTop (mkF m 86 #[.val (.int p0), .val (.int p1), .val (.int p2), .val (.int p3), .val (.ref b2), .val (.int v5_81), .unset, .unset, .unset, .unset] [(.int (2147483647 : Int32)), (.int p1)])) _
    refine XS.iand X24.here hx rfl (hb hby at_86) rfl ?_
    show Steps p.tables e below (T24.setTop (mkF m 87 #[.val (.int p0), .val (.int p1), .val (.int p2), .val (.int p3), .val (.ref b2), .val (.int v5_81), .unset, .unset, .unset, .unset] [(.int (p1 &&& (2147483647 : Int32)))])) _
    refine XS.bipush X24.here hx rfl (hb hby at_87) ?_
    show Steps p.tables e below (T24.setTop (mkF m 89 #[.val (.int p0), .val (.int p1), .val (.int p2), .val (.int p3), .val (.ref b2), .val (.int v5_81), .unset, .unset, .unset, .unset] [(.int (11 : Int32)), (.int (p1 &&& (2147483647 : Int32)))])) _
    refine iremM X24 hx rfl (hb hby at_89) rfl (by decide) ?_
    show Steps p.tables e below (T24.setTop (mkF m 90 #[.val (.int p0), .val (.int p1), .val (.int p2), .val (.int p3), .val (.ref b2), .val (.int v5_81), .unset, .unset, .unset, .unset] [(.int ((p1 &&& (2147483647 : Int32)) % (11 : Int32)))])) _
    refine XS.istore X24.here hx rfl (hb hby at_90) rfl (l' := #[.val (.int p0), .val (.int p1), .val (.int p2), .val (.int p3), .val (.ref b2), .val (.int v5_81), .val (.int v6_90), .unset, .unset, .unset]) (by rw [hv6_90]; rfl) ?_
    show Steps p.tables e below (T24.setTop (mkF m 92 #[.val (.int p0), .val (.int p1), .val (.int p2), .val (.int p3), .val (.ref b2), .val (.int v5_81), .val (.int v6_90), .unset, .unset, .unset] [])) _
    refine XS.iloadN X24.here hx rfl (hb hby at_92) rfl  ?_
    show Steps p.tables e below (T24.setTop (mkF m 93 #[.val (.int p0), .val (.int p1), .val (.int p2), .val (.int p3), .val (.ref b2), .val (.int v5_81), .val (.int v6_90), .unset, .unset, .unset] [(.int p2)])) _
    refine XS.i2l X24.here hx rfl (hb hby at_93) rfl ?_
    show Steps p.tables e below (T24.setTop (mkF m 94 #[.val (.int p0), .val (.int p1), .val (.int p2), .val (.int p3), .val (.ref b2), .val (.int v5_81), .val (.int v6_90), .unset, .unset, .unset] [(.long (p2.toInt64))])) _
    refine X24.ldc2Long hx hown (mvT hZ (hw _ (List.mem_of_getElem? (i := 12) rfl))) (g := (mkF m 94 #[.val (.int p0), .val (.int p1), .val (.int p2), .val (.int p3), .val (.ref b2), .val (.int v5_81), .val (.int v6_90), .unset, .unset, .unset] [(.long (p2.toInt64))])) rfl (hb hby at_94) _ ?_
    show Steps p.tables e below (T24.setTop (mkF m 97 #[.val (.int p0), .val (.int p1), .val (.int p2), .val (.int p3), .val (.ref b2), .val (.int v5_81), .val (.int v6_90), .unset, .unset, .unset] [(.long (2147483647 : Int64)), (.long (p2.toInt64))])) _
    refine XS.land X24.here hx rfl (hb hby at_97) rfl ?_
    show Steps p.tables e below (T24.setTop (mkF m 98 #[.val (.int p0), .val (.int p1), .val (.int p2), .val (.int p3), .val (.ref b2), .val (.int v5_81), .val (.int v6_90), .unset, .unset, .unset] [(.long ((p2.toInt64) &&& (2147483647 : Int64)))])) _
    refine XS.aload X24.here hx rfl (hb hby at_98) rfl rfl ?_
    show Steps p.tables e below (T24.setTop (mkF m 100 #[.val (.int p0), .val (.int p1), .val (.int p2), .val (.int p3), .val (.ref b2), .val (.int v5_81), .val (.int v6_90), .unset, .unset, .unset] [(.ref b2), (.long ((p2.toInt64) &&& (2147483647 : Int64)))])) _
    refine XS.iload X24.here hx rfl (hb hby at_100) rfl  ?_
    show Steps p.tables e below (T24.setTop (mkF m 102 #[.val (.int p0), .val (.int p1), .val (.int p2), .val (.int p3), .val (.ref b2), .val (.int v5_81), .val (.int v6_90), .unset, .unset, .unset] [(.int v6_90), (.ref b2), (.long ((p2.toInt64) &&& (2147483647 : Int64)))])) _
    refine own_ldJ X24 hx hZ e24 AR26 (j := v6_90) (k := v6_90.toNatClampNeg) (own_ct hv6_90).1 rfl (own_ct hv6_90).2 (g := (mkF m 102 #[.val (.int p0), .val (.int p1), .val (.int p2), .val (.int p3), .val (.ref b2), .val (.int v5_81), .val (.int v6_90), .unset, .unset, .unset] [(.int v6_90), (.ref b2), (.long ((p2.toInt64) &&& (2147483647 : Int64)))])) rfl rfl (hb hby at_102) ?_
    show Steps p.tables e below (T24.setTop (mkF m 103 #[.val (.int p0), .val (.int p1), .val (.int p2), .val (.int p3), .val (.ref b2), .val (.int v5_81), .val (.int v6_90), .unset, .unset, .unset] [(.long (own_pt v6_90.toNatClampNeg)), (.long ((p2.toInt64) &&& (2147483647 : Int64)))])) _
    refine own_lremM X24 hx rfl (hb hby at_103) rfl (own_ptnz _ (own_ct hv6_90).2) ?_
    show Steps p.tables e below (T24.setTop (mkF m 104 #[.val (.int p0), .val (.int p1), .val (.int p2), .val (.int p3), .val (.ref b2), .val (.int v5_81), .val (.int v6_90), .unset, .unset, .unset] [(.long (((p2.toInt64) &&& (2147483647 : Int64)) % (own_pt v6_90.toNatClampNeg)))])) _
    refine XS.l2i X24.here hx rfl (hb hby at_104) rfl ?_
    show Steps p.tables e below (T24.setTop (mkF m 105 #[.val (.int p0), .val (.int p1), .val (.int p2), .val (.int p3), .val (.ref b2), .val (.int v5_81), .val (.int v6_90), .unset, .unset, .unset] [(.int ((((p2.toInt64) &&& (2147483647 : Int64)) % (own_pt v6_90.toNatClampNeg)).toInt32))])) _
    refine XS.istore X24.here hx rfl (hb hby at_105) rfl (l' := #[.val (.int p0), .val (.int p1), .val (.int p2), .val (.int p3), .val (.ref b2), .val (.int v5_81), .val (.int v6_90), .val (.int v7_105), .unset, .unset]) (by rw [hv7_105]; rfl) ?_
    show Steps p.tables e below (T24.setTop (mkF m 107 #[.val (.int p0), .val (.int p1), .val (.int p2), .val (.int p3), .val (.ref b2), .val (.int v5_81), .val (.int v6_90), .val (.int v7_105), .unset, .unset] [])) _
    refine XS.iloadN X24.here hx rfl (hb hby at_107) rfl  ?_
    show Steps p.tables e below (T24.setTop (mkF m 108 #[.val (.int p0), .val (.int p1), .val (.int p2), .val (.int p3), .val (.ref b2), .val (.int v5_81), .val (.int v6_90), .val (.int v7_105), .unset, .unset] [(.int p3)])) _
    refine XS.i2b X24.here hx rfl (hb hby at_108) rfl ?_
    show Steps p.tables e below (T24.setTop (mkF m 109 #[.val (.int p0), .val (.int p1), .val (.int p2), .val (.int p3), .val (.ref b2), .val (.int v5_81), .val (.int v6_90), .val (.int v7_105), .unset, .unset] [(.int (p3.toInt8.toInt32))])) _
    refine XS.istore X24.here hx rfl (hb hby at_109) rfl (l' := #[.val (.int p0), .val (.int p1), .val (.int p2), .val (.int p3), .val (.ref b2), .val (.int v5_81), .val (.int v6_90), .val (.int v7_105), .val (.int v8_109), .unset]) (by rw [hv8_109]; rfl) ?_
    show Steps p.tables e below (T24.setTop (mkF m 111 #[.val (.int p0), .val (.int p1), .val (.int p2), .val (.int p3), .val (.ref b2), .val (.int v5_81), .val (.int v6_90), .val (.int v7_105), .val (.int v8_109), .unset] [])) _
    refine XS.bipush X24.here hx rfl (hb hby at_111) ?_
    exact k
  obtain ⟨T28, h28, b28, gb28, X28, e28, E28, A28, st28⟩ := own_newP X24 hx hZ (hw _ (List.mem_of_getElem? (i := 13) rfl)) e24 (g := (mkF m 113 #[.val (.int p0), .val (.int p1), .val (.int p2), .val (.int p3), .val (.ref b2), .val (.int v5_81), .val (.int v6_90), .val (.int v7_105), .val (.int v8_109), .unset] [(.int (14 : Int32))])) rfl (hb hby at_113) rfl (by decide) (n := 14) rfl (G := fun i => .int (own_zI i)) (fun _ => rfl) (cap := 14) (by decide) (by decide) (by decide) (by decide)
  have ne_b2_b28 : b2 ≠ b28 := Nat.ne_of_lt (Nat.lt_of_lt_of_le AR26.lt (Nat.le_of_eq gb28.symm))
  have sz_b28 : h0.size ≤ b28 := Nat.le_trans K24.1 (Nat.le_of_eq gb28.symm)
  have ge_b28 : n0 ≤ b28 := Nat.le_trans Z24 (Nat.le_of_eq gb28.symm)
  have arr_b2_28 := AR26.ext E28
  have K28 := K24.ext E28
  have Z28 := Nat.le_trans Z24 E28.1
  have pre29 : ∀ t, Steps p.tables e below (T28.setTop (mkF m 119 #[.val (.int p0), .val (.int p1), .val (.int p2), .val (.int p3), .val (.ref b2), .val (.int v5_81), .val (.int v6_90), .val (.int v7_105), .val (.int v8_109), .unset] [(.int v8_109), (.int (0 : Int32)), (.ref b28), (.ref b28)])) t → Steps p.tables e below (s₁.setTop (entryFrame m #[(.int p0), (.int p1), (.int p2), (.int p3)] maxLocals)) t := by
    intro t k
    refine pre27 t ?_
    show Steps p.tables e below (T24.setTop (mkF m 113 #[.val (.int p0), .val (.int p1), .val (.int p2), .val (.int p3), .val (.ref b2), .val (.int v5_81), .val (.int v6_90), .val (.int v7_105), .val (.int v8_109), .unset] [(.int (14 : Int32))])) _
    refine st28 _ ?_
    show Steps p.tables e below (T28.setTop (mkF m 115 #[.val (.int p0), .val (.int p1), .val (.int p2), .val (.int p3), .val (.ref b2), .val (.int v5_81), .val (.int v6_90), .val (.int v7_105), .val (.int v8_109), .unset] [(.ref b28)])) _
    refine XS.dup X28.here hx rfl (hb hby at_115) rfl rfl ?_
    show Steps p.tables e below (T28.setTop (mkF m 116 #[.val (.int p0), .val (.int p1), .val (.int p2), .val (.int p3), .val (.ref b2), .val (.int v5_81), .val (.int v6_90), .val (.int v7_105), .val (.int v8_109), .unset] [(.ref b28), (.ref b28)])) _
    refine XS.iconst X28.here hx rfl (hb hby at_116) ?_
    show Steps p.tables e below (T28.setTop (mkF m 117 #[.val (.int p0), .val (.int p1), .val (.int p2), .val (.int p3), .val (.ref b2), .val (.int v5_81), .val (.int v6_90), .val (.int v7_105), .val (.int v8_109), .unset] [(.int (0 : Int32)), (.ref b28), (.ref b28)])) _
    refine XS.iload X28.here hx rfl (hb hby at_117) rfl  ?_
    exact k
  obtain ⟨T30, h30, X30, e30, W30, A30, st30⟩ := own_stB X28 hx hZ e28 A28 (j := (0 : Int32)) (x := v8_109) (k := 0) (by decide) (by decide) (by decide) (g := (mkF m 119 #[.val (.int p0), .val (.int p1), .val (.int p2), .val (.int p3), .val (.ref b2), .val (.int v5_81), .val (.int v6_90), .val (.int v7_105), .val (.int v8_109), .unset] [(.int v8_109), (.int (0 : Int32)), (.ref b28), (.ref b28)])) rfl rfl (hb hby at_119)
  obtain ⟨g_119, hg_119⟩ : ∃ z : Nat → Int32, z = (own_upd own_zI 0 v8_109.toInt8.toInt32) := ⟨_, rfl⟩
  rw [← hg_119] at A30
  have arr_b2_30 := arr_b2_28.other W30 ne_b2_b28
  have K30 := K28.wr W30 (Or.inr sz_b28)
  have Z30 := Nat.le_trans Z28 (Nat.le_of_eq W30.size.symm)
  have N30 := Fr.snoc X30 N24 ge_b28
  have pre31 : ∀ t, Steps p.tables e below (T30.setTop (mkF m 124 #[.val (.int p0), .val (.int p1), .val (.int p2), .val (.int p3), .val (.ref b2), .val (.int v5_81), .val (.int v6_90), .val (.int v7_105), .val (.int v8_109), .unset] [(.int v8_109), (.int (1 : Int32)), (.ref b28), (.ref b28)])) t → Steps p.tables e below (s₁.setTop (entryFrame m #[(.int p0), (.int p1), (.int p2), (.int p3)] maxLocals)) t := by
    intro t k
    refine pre29 t ?_
    show Steps p.tables e below (T28.setTop (mkF m 119 #[.val (.int p0), .val (.int p1), .val (.int p2), .val (.int p3), .val (.ref b2), .val (.int v5_81), .val (.int v6_90), .val (.int v7_105), .val (.int v8_109), .unset] [(.int v8_109), (.int (0 : Int32)), (.ref b28), (.ref b28)])) _
    refine st30 _ ?_
    show Steps p.tables e below (T30.setTop (mkF m 120 #[.val (.int p0), .val (.int p1), .val (.int p2), .val (.int p3), .val (.ref b2), .val (.int v5_81), .val (.int v6_90), .val (.int v7_105), .val (.int v8_109), .unset] [(.ref b28)])) _
    refine XS.dup X30.here hx rfl (hb hby at_120) rfl rfl ?_
    show Steps p.tables e below (T30.setTop (mkF m 121 #[.val (.int p0), .val (.int p1), .val (.int p2), .val (.int p3), .val (.ref b2), .val (.int v5_81), .val (.int v6_90), .val (.int v7_105), .val (.int v8_109), .unset] [(.ref b28), (.ref b28)])) _
    refine XS.iconst X30.here hx rfl (hb hby at_121) ?_
    show Steps p.tables e below (T30.setTop (mkF m 122 #[.val (.int p0), .val (.int p1), .val (.int p2), .val (.int p3), .val (.ref b2), .val (.int v5_81), .val (.int v6_90), .val (.int v7_105), .val (.int v8_109), .unset] [(.int (1 : Int32)), (.ref b28), (.ref b28)])) _
    refine XS.iload X30.here hx rfl (hb hby at_122) rfl  ?_
    exact k
  obtain ⟨T32, h32, X32, e32, W32, A32, st32⟩ := own_stB X30 hx hZ e30 A30 (j := (1 : Int32)) (x := v8_109) (k := 1) (by decide) (by decide) (by decide) (g := (mkF m 124 #[.val (.int p0), .val (.int p1), .val (.int p2), .val (.int p3), .val (.ref b2), .val (.int v5_81), .val (.int v6_90), .val (.int v7_105), .val (.int v8_109), .unset] [(.int v8_109), (.int (1 : Int32)), (.ref b28), (.ref b28)])) rfl rfl (hb hby at_124)
  obtain ⟨g_124, hg_124⟩ : ∃ z : Nat → Int32, z = (own_upd g_119 1 v8_109.toInt8.toInt32) := ⟨_, rfl⟩
  rw [← hg_124] at A32
  have arr_b2_32 := arr_b2_30.other W32 ne_b2_b28
  have K32 := K30.wr W32 (Or.inr sz_b28)
  have Z32 := Nat.le_trans Z30 (Nat.le_of_eq W32.size.symm)
  have N32 := Fr.snoc X32 N30 ge_b28
  have pre33 : ∀ t, Steps p.tables e below (T32.setTop (mkF m 129 #[.val (.int p0), .val (.int p1), .val (.int p2), .val (.int p3), .val (.ref b2), .val (.int v5_81), .val (.int v6_90), .val (.int v7_105), .val (.int v8_109), .unset] [(.int v8_109), (.int (2 : Int32)), (.ref b28), (.ref b28)])) t → Steps p.tables e below (s₁.setTop (entryFrame m #[(.int p0), (.int p1), (.int p2), (.int p3)] maxLocals)) t := by
    intro t k
    refine pre31 t ?_
    show Steps p.tables e below (T30.setTop (mkF m 124 #[.val (.int p0), .val (.int p1), .val (.int p2), .val (.int p3), .val (.ref b2), .val (.int v5_81), .val (.int v6_90), .val (.int v7_105), .val (.int v8_109), .unset] [(.int v8_109), (.int (1 : Int32)), (.ref b28), (.ref b28)])) _
    refine st32 _ ?_
    show Steps p.tables e below (T32.setTop (mkF m 125 #[.val (.int p0), .val (.int p1), .val (.int p2), .val (.int p3), .val (.ref b2), .val (.int v5_81), .val (.int v6_90), .val (.int v7_105), .val (.int v8_109), .unset] [(.ref b28)])) _
    refine XS.dup X32.here hx rfl (hb hby at_125) rfl rfl ?_
    show Steps p.tables e below (T32.setTop (mkF m 126 #[.val (.int p0), .val (.int p1), .val (.int p2), .val (.int p3), .val (.ref b2), .val (.int v5_81), .val (.int v6_90), .val (.int v7_105), .val (.int v8_109), .unset] [(.ref b28), (.ref b28)])) _
    refine XS.iconst X32.here hx rfl (hb hby at_126) ?_
    show Steps p.tables e below (T32.setTop (mkF m 127 #[.val (.int p0), .val (.int p1), .val (.int p2), .val (.int p3), .val (.ref b2), .val (.int v5_81), .val (.int v6_90), .val (.int v7_105), .val (.int v8_109), .unset] [(.int (2 : Int32)), (.ref b28), (.ref b28)])) _
    refine XS.iload X32.here hx rfl (hb hby at_127) rfl  ?_
    exact k
  obtain ⟨T34, h34, X34, e34, W34, A34, st34⟩ := own_stB X32 hx hZ e32 A32 (j := (2 : Int32)) (x := v8_109) (k := 2) (by decide) (by decide) (by decide) (g := (mkF m 129 #[.val (.int p0), .val (.int p1), .val (.int p2), .val (.int p3), .val (.ref b2), .val (.int v5_81), .val (.int v6_90), .val (.int v7_105), .val (.int v8_109), .unset] [(.int v8_109), (.int (2 : Int32)), (.ref b28), (.ref b28)])) rfl rfl (hb hby at_129)
  obtain ⟨g_129, hg_129⟩ : ∃ z : Nat → Int32, z = (own_upd g_124 2 v8_109.toInt8.toInt32) := ⟨_, rfl⟩
  rw [← hg_129] at A34
  have arr_b2_34 := arr_b2_32.other W34 ne_b2_b28
  have K34 := K32.wr W34 (Or.inr sz_b28)
  have Z34 := Nat.le_trans Z32 (Nat.le_of_eq W34.size.symm)
  have N34 := Fr.snoc X34 N32 ge_b28
  have pre35 : ∀ t, Steps p.tables e below (T34.setTop (mkF m 134 #[.val (.int p0), .val (.int p1), .val (.int p2), .val (.int p3), .val (.ref b2), .val (.int v5_81), .val (.int v6_90), .val (.int v7_105), .val (.int v8_109), .unset] [(.int v8_109), (.int (3 : Int32)), (.ref b28), (.ref b28)])) t → Steps p.tables e below (s₁.setTop (entryFrame m #[(.int p0), (.int p1), (.int p2), (.int p3)] maxLocals)) t := by
    intro t k
    refine pre33 t ?_
    show Steps p.tables e below (T32.setTop (mkF m 129 #[.val (.int p0), .val (.int p1), .val (.int p2), .val (.int p3), .val (.ref b2), .val (.int v5_81), .val (.int v6_90), .val (.int v7_105), .val (.int v8_109), .unset] [(.int v8_109), (.int (2 : Int32)), (.ref b28), (.ref b28)])) _
    refine st34 _ ?_
    show Steps p.tables e below (T34.setTop (mkF m 130 #[.val (.int p0), .val (.int p1), .val (.int p2), .val (.int p3), .val (.ref b2), .val (.int v5_81), .val (.int v6_90), .val (.int v7_105), .val (.int v8_109), .unset] [(.ref b28)])) _
    refine XS.dup X34.here hx rfl (hb hby at_130) rfl rfl ?_
    show Steps p.tables e below (T34.setTop (mkF m 131 #[.val (.int p0), .val (.int p1), .val (.int p2), .val (.int p3), .val (.ref b2), .val (.int v5_81), .val (.int v6_90), .val (.int v7_105), .val (.int v8_109), .unset] [(.ref b28), (.ref b28)])) _
    refine XS.iconst X34.here hx rfl (hb hby at_131) ?_
    show Steps p.tables e below (T34.setTop (mkF m 132 #[.val (.int p0), .val (.int p1), .val (.int p2), .val (.int p3), .val (.ref b2), .val (.int v5_81), .val (.int v6_90), .val (.int v7_105), .val (.int v8_109), .unset] [(.int (3 : Int32)), (.ref b28), (.ref b28)])) _
    refine XS.iload X34.here hx rfl (hb hby at_132) rfl  ?_
    exact k
  obtain ⟨T36, h36, X36, e36, W36, A36, st36⟩ := own_stB X34 hx hZ e34 A34 (j := (3 : Int32)) (x := v8_109) (k := 3) (by decide) (by decide) (by decide) (g := (mkF m 134 #[.val (.int p0), .val (.int p1), .val (.int p2), .val (.int p3), .val (.ref b2), .val (.int v5_81), .val (.int v6_90), .val (.int v7_105), .val (.int v8_109), .unset] [(.int v8_109), (.int (3 : Int32)), (.ref b28), (.ref b28)])) rfl rfl (hb hby at_134)
  obtain ⟨g_134, hg_134⟩ : ∃ z : Nat → Int32, z = (own_upd g_129 3 v8_109.toInt8.toInt32) := ⟨_, rfl⟩
  rw [← hg_134] at A36
  have arr_b2_36 := arr_b2_34.other W36 ne_b2_b28
  have K36 := K34.wr W36 (Or.inr sz_b28)
  have Z36 := Nat.le_trans Z34 (Nat.le_of_eq W36.size.symm)
  have N36 := Fr.snoc X36 N34 ge_b28
  have pre37 : ∀ t, Steps p.tables e below (T36.setTop (mkF m 139 #[.val (.int p0), .val (.int p1), .val (.int p2), .val (.int p3), .val (.ref b2), .val (.int v5_81), .val (.int v6_90), .val (.int v7_105), .val (.int v8_109), .unset] [(.int v8_109), (.int (4 : Int32)), (.ref b28), (.ref b28)])) t → Steps p.tables e below (s₁.setTop (entryFrame m #[(.int p0), (.int p1), (.int p2), (.int p3)] maxLocals)) t := by
    intro t k
    refine pre35 t ?_
    show Steps p.tables e below (T34.setTop (mkF m 134 #[.val (.int p0), .val (.int p1), .val (.int p2), .val (.int p3), .val (.ref b2), .val (.int v5_81), .val (.int v6_90), .val (.int v7_105), .val (.int v8_109), .unset] [(.int v8_109), (.int (3 : Int32)), (.ref b28), (.ref b28)])) _
    refine st36 _ ?_
    show Steps p.tables e below (T36.setTop (mkF m 135 #[.val (.int p0), .val (.int p1), .val (.int p2), .val (.int p3), .val (.ref b2), .val (.int v5_81), .val (.int v6_90), .val (.int v7_105), .val (.int v8_109), .unset] [(.ref b28)])) _
    refine XS.dup X36.here hx rfl (hb hby at_135) rfl rfl ?_
    show Steps p.tables e below (T36.setTop (mkF m 136 #[.val (.int p0), .val (.int p1), .val (.int p2), .val (.int p3), .val (.ref b2), .val (.int v5_81), .val (.int v6_90), .val (.int v7_105), .val (.int v8_109), .unset] [(.ref b28), (.ref b28)])) _
    refine XS.iconst X36.here hx rfl (hb hby at_136) ?_
    show Steps p.tables e below (T36.setTop (mkF m 137 #[.val (.int p0), .val (.int p1), .val (.int p2), .val (.int p3), .val (.ref b2), .val (.int v5_81), .val (.int v6_90), .val (.int v7_105), .val (.int v8_109), .unset] [(.int (4 : Int32)), (.ref b28), (.ref b28)])) _
    refine XS.iload X36.here hx rfl (hb hby at_137) rfl  ?_
    exact k
  obtain ⟨T38, h38, X38, e38, W38, A38, st38⟩ := own_stB X36 hx hZ e36 A36 (j := (4 : Int32)) (x := v8_109) (k := 4) (by decide) (by decide) (by decide) (g := (mkF m 139 #[.val (.int p0), .val (.int p1), .val (.int p2), .val (.int p3), .val (.ref b2), .val (.int v5_81), .val (.int v6_90), .val (.int v7_105), .val (.int v8_109), .unset] [(.int v8_109), (.int (4 : Int32)), (.ref b28), (.ref b28)])) rfl rfl (hb hby at_139)
  obtain ⟨g_139, hg_139⟩ : ∃ z : Nat → Int32, z = (own_upd g_134 4 v8_109.toInt8.toInt32) := ⟨_, rfl⟩
  rw [← hg_139] at A38
  have arr_b2_38 := arr_b2_36.other W38 ne_b2_b28
  have K38 := K36.wr W38 (Or.inr sz_b28)
  have Z38 := Nat.le_trans Z36 (Nat.le_of_eq W38.size.symm)
  have N38 := Fr.snoc X38 N36 ge_b28
  have pre39 : ∀ t, Steps p.tables e below (T38.setTop (mkF m 144 #[.val (.int p0), .val (.int p1), .val (.int p2), .val (.int p3), .val (.ref b2), .val (.int v5_81), .val (.int v6_90), .val (.int v7_105), .val (.int v8_109), .unset] [(.int v8_109), (.int (5 : Int32)), (.ref b28), (.ref b28)])) t → Steps p.tables e below (s₁.setTop (entryFrame m #[(.int p0), (.int p1), (.int p2), (.int p3)] maxLocals)) t := by
    intro t k
    refine pre37 t ?_
    show Steps p.tables e below (T36.setTop (mkF m 139 #[.val (.int p0), .val (.int p1), .val (.int p2), .val (.int p3), .val (.ref b2), .val (.int v5_81), .val (.int v6_90), .val (.int v7_105), .val (.int v8_109), .unset] [(.int v8_109), (.int (4 : Int32)), (.ref b28), (.ref b28)])) _
    refine st38 _ ?_
    show Steps p.tables e below (T38.setTop (mkF m 140 #[.val (.int p0), .val (.int p1), .val (.int p2), .val (.int p3), .val (.ref b2), .val (.int v5_81), .val (.int v6_90), .val (.int v7_105), .val (.int v8_109), .unset] [(.ref b28)])) _
    refine XS.dup X38.here hx rfl (hb hby at_140) rfl rfl ?_
    show Steps p.tables e below (T38.setTop (mkF m 141 #[.val (.int p0), .val (.int p1), .val (.int p2), .val (.int p3), .val (.ref b2), .val (.int v5_81), .val (.int v6_90), .val (.int v7_105), .val (.int v8_109), .unset] [(.ref b28), (.ref b28)])) _
    refine XS.iconst X38.here hx rfl (hb hby at_141) ?_
    show Steps p.tables e below (T38.setTop (mkF m 142 #[.val (.int p0), .val (.int p1), .val (.int p2), .val (.int p3), .val (.ref b2), .val (.int v5_81), .val (.int v6_90), .val (.int v7_105), .val (.int v8_109), .unset] [(.int (5 : Int32)), (.ref b28), (.ref b28)])) _
    refine XS.iload X38.here hx rfl (hb hby at_142) rfl  ?_
    exact k
  obtain ⟨T40, h40, X40, e40, W40, A40, st40⟩ := own_stB X38 hx hZ e38 A38 (j := (5 : Int32)) (x := v8_109) (k := 5) (by decide) (by decide) (by decide) (g := (mkF m 144 #[.val (.int p0), .val (.int p1), .val (.int p2), .val (.int p3), .val (.ref b2), .val (.int v5_81), .val (.int v6_90), .val (.int v7_105), .val (.int v8_109), .unset] [(.int v8_109), (.int (5 : Int32)), (.ref b28), (.ref b28)])) rfl rfl (hb hby at_144)
  obtain ⟨g_144, hg_144⟩ : ∃ z : Nat → Int32, z = (own_upd g_139 5 v8_109.toInt8.toInt32) := ⟨_, rfl⟩
  rw [← hg_144] at A40
  have arr_b2_40 := arr_b2_38.other W40 ne_b2_b28
  have K40 := K38.wr W40 (Or.inr sz_b28)
  have Z40 := Nat.le_trans Z38 (Nat.le_of_eq W40.size.symm)
  have N40 := Fr.snoc X40 N38 ge_b28
  have pre41 : ∀ t, Steps p.tables e below (T40.setTop (mkF m 150 #[.val (.int p0), .val (.int p1), .val (.int p2), .val (.int p3), .val (.ref b2), .val (.int v5_81), .val (.int v6_90), .val (.int v7_105), .val (.int v8_109), .unset] [(.int v8_109), (.int (6 : Int32)), (.ref b28), (.ref b28)])) t → Steps p.tables e below (s₁.setTop (entryFrame m #[(.int p0), (.int p1), (.int p2), (.int p3)] maxLocals)) t := by
    intro t k
    refine pre39 t ?_
    show Steps p.tables e below (T38.setTop (mkF m 144 #[.val (.int p0), .val (.int p1), .val (.int p2), .val (.int p3), .val (.ref b2), .val (.int v5_81), .val (.int v6_90), .val (.int v7_105), .val (.int v8_109), .unset] [(.int v8_109), (.int (5 : Int32)), (.ref b28), (.ref b28)])) _
    refine st40 _ ?_
    show Steps p.tables e below (T40.setTop (mkF m 145 #[.val (.int p0), .val (.int p1), .val (.int p2), .val (.int p3), .val (.ref b2), .val (.int v5_81), .val (.int v6_90), .val (.int v7_105), .val (.int v8_109), .unset] [(.ref b28)])) _
    refine XS.dup X40.here hx rfl (hb hby at_145) rfl rfl ?_
    show Steps p.tables e below (T40.setTop (mkF m 146 #[.val (.int p0), .val (.int p1), .val (.int p2), .val (.int p3), .val (.ref b2), .val (.int v5_81), .val (.int v6_90), .val (.int v7_105), .val (.int v8_109), .unset] [(.ref b28), (.ref b28)])) _
    refine XS.bipush X40.here hx rfl (hb hby at_146) ?_
    show Steps p.tables e below (T40.setTop (mkF m 148 #[.val (.int p0), .val (.int p1), .val (.int p2), .val (.int p3), .val (.ref b2), .val (.int v5_81), .val (.int v6_90), .val (.int v7_105), .val (.int v8_109), .unset] [(.int (6 : Int32)), (.ref b28), (.ref b28)])) _
    refine XS.iload X40.here hx rfl (hb hby at_148) rfl  ?_
    exact k
  obtain ⟨T42, h42, X42, e42, W42, A42, st42⟩ := own_stB X40 hx hZ e40 A40 (j := (6 : Int32)) (x := v8_109) (k := 6) (by decide) (by decide) (by decide) (g := (mkF m 150 #[.val (.int p0), .val (.int p1), .val (.int p2), .val (.int p3), .val (.ref b2), .val (.int v5_81), .val (.int v6_90), .val (.int v7_105), .val (.int v8_109), .unset] [(.int v8_109), (.int (6 : Int32)), (.ref b28), (.ref b28)])) rfl rfl (hb hby at_150)
  obtain ⟨g_150, hg_150⟩ : ∃ z : Nat → Int32, z = (own_upd g_144 6 v8_109.toInt8.toInt32) := ⟨_, rfl⟩
  rw [← hg_150] at A42
  have arr_b2_42 := arr_b2_40.other W42 ne_b2_b28
  have K42 := K40.wr W42 (Or.inr sz_b28)
  have Z42 := Nat.le_trans Z40 (Nat.le_of_eq W42.size.symm)
  have N42 := Fr.snoc X42 N40 ge_b28
  have pre43 : ∀ t, Steps p.tables e below (T42.setTop (mkF m 156 #[.val (.int p0), .val (.int p1), .val (.int p2), .val (.int p3), .val (.ref b2), .val (.int v5_81), .val (.int v6_90), .val (.int v7_105), .val (.int v8_109), .unset] [(.int v8_109), (.int (7 : Int32)), (.ref b28), (.ref b28)])) t → Steps p.tables e below (s₁.setTop (entryFrame m #[(.int p0), (.int p1), (.int p2), (.int p3)] maxLocals)) t := by
    intro t k
    refine pre41 t ?_
    show Steps p.tables e below (T40.setTop (mkF m 150 #[.val (.int p0), .val (.int p1), .val (.int p2), .val (.int p3), .val (.ref b2), .val (.int v5_81), .val (.int v6_90), .val (.int v7_105), .val (.int v8_109), .unset] [(.int v8_109), (.int (6 : Int32)), (.ref b28), (.ref b28)])) _
    refine st42 _ ?_
    show Steps p.tables e below (T42.setTop (mkF m 151 #[.val (.int p0), .val (.int p1), .val (.int p2), .val (.int p3), .val (.ref b2), .val (.int v5_81), .val (.int v6_90), .val (.int v7_105), .val (.int v8_109), .unset] [(.ref b28)])) _
    refine XS.dup X42.here hx rfl (hb hby at_151) rfl rfl ?_
    show Steps p.tables e below (T42.setTop (mkF m 152 #[.val (.int p0), .val (.int p1), .val (.int p2), .val (.int p3), .val (.ref b2), .val (.int v5_81), .val (.int v6_90), .val (.int v7_105), .val (.int v8_109), .unset] [(.ref b28), (.ref b28)])) _
    refine XS.bipush X42.here hx rfl (hb hby at_152) ?_
    show Steps p.tables e below (T42.setTop (mkF m 154 #[.val (.int p0), .val (.int p1), .val (.int p2), .val (.int p3), .val (.ref b2), .val (.int v5_81), .val (.int v6_90), .val (.int v7_105), .val (.int v8_109), .unset] [(.int (7 : Int32)), (.ref b28), (.ref b28)])) _
    refine XS.iload X42.here hx rfl (hb hby at_154) rfl  ?_
    exact k
  obtain ⟨T44, h44, X44, e44, W44, A44, st44⟩ := own_stB X42 hx hZ e42 A42 (j := (7 : Int32)) (x := v8_109) (k := 7) (by decide) (by decide) (by decide) (g := (mkF m 156 #[.val (.int p0), .val (.int p1), .val (.int p2), .val (.int p3), .val (.ref b2), .val (.int v5_81), .val (.int v6_90), .val (.int v7_105), .val (.int v8_109), .unset] [(.int v8_109), (.int (7 : Int32)), (.ref b28), (.ref b28)])) rfl rfl (hb hby at_156)
  obtain ⟨g_156, hg_156⟩ : ∃ z : Nat → Int32, z = (own_upd g_150 7 v8_109.toInt8.toInt32) := ⟨_, rfl⟩
  rw [← hg_156] at A44
  have arr_b2_44 := arr_b2_42.other W44 ne_b2_b28
  have K44 := K42.wr W44 (Or.inr sz_b28)
  have Z44 := Nat.le_trans Z42 (Nat.le_of_eq W44.size.symm)
  have N44 := Fr.snoc X44 N42 ge_b28
  have pre45 : ∀ t, Steps p.tables e below (T44.setTop (mkF m 162 #[.val (.int p0), .val (.int p1), .val (.int p2), .val (.int p3), .val (.ref b2), .val (.int v5_81), .val (.int v6_90), .val (.int v7_105), .val (.int v8_109), .unset] [(.int v8_109), (.int (8 : Int32)), (.ref b28), (.ref b28)])) t → Steps p.tables e below (s₁.setTop (entryFrame m #[(.int p0), (.int p1), (.int p2), (.int p3)] maxLocals)) t := by
    intro t k
    refine pre43 t ?_
    show Steps p.tables e below (T42.setTop (mkF m 156 #[.val (.int p0), .val (.int p1), .val (.int p2), .val (.int p3), .val (.ref b2), .val (.int v5_81), .val (.int v6_90), .val (.int v7_105), .val (.int v8_109), .unset] [(.int v8_109), (.int (7 : Int32)), (.ref b28), (.ref b28)])) _
    refine st44 _ ?_
    show Steps p.tables e below (T44.setTop (mkF m 157 #[.val (.int p0), .val (.int p1), .val (.int p2), .val (.int p3), .val (.ref b2), .val (.int v5_81), .val (.int v6_90), .val (.int v7_105), .val (.int v8_109), .unset] [(.ref b28)])) _
    refine XS.dup X44.here hx rfl (hb hby at_157) rfl rfl ?_
    show Steps p.tables e below (T44.setTop (mkF m 158 #[.val (.int p0), .val (.int p1), .val (.int p2), .val (.int p3), .val (.ref b2), .val (.int v5_81), .val (.int v6_90), .val (.int v7_105), .val (.int v8_109), .unset] [(.ref b28), (.ref b28)])) _
    refine XS.bipush X44.here hx rfl (hb hby at_158) ?_
    show Steps p.tables e below (T44.setTop (mkF m 160 #[.val (.int p0), .val (.int p1), .val (.int p2), .val (.int p3), .val (.ref b2), .val (.int v5_81), .val (.int v6_90), .val (.int v7_105), .val (.int v8_109), .unset] [(.int (8 : Int32)), (.ref b28), (.ref b28)])) _
    refine XS.iload X44.here hx rfl (hb hby at_160) rfl  ?_
    exact k
  obtain ⟨T46, h46, X46, e46, W46, A46, st46⟩ := own_stB X44 hx hZ e44 A44 (j := (8 : Int32)) (x := v8_109) (k := 8) (by decide) (by decide) (by decide) (g := (mkF m 162 #[.val (.int p0), .val (.int p1), .val (.int p2), .val (.int p3), .val (.ref b2), .val (.int v5_81), .val (.int v6_90), .val (.int v7_105), .val (.int v8_109), .unset] [(.int v8_109), (.int (8 : Int32)), (.ref b28), (.ref b28)])) rfl rfl (hb hby at_162)
  obtain ⟨g_162, hg_162⟩ : ∃ z : Nat → Int32, z = (own_upd g_156 8 v8_109.toInt8.toInt32) := ⟨_, rfl⟩
  rw [← hg_162] at A46
  have arr_b2_46 := arr_b2_44.other W46 ne_b2_b28
  have K46 := K44.wr W46 (Or.inr sz_b28)
  have Z46 := Nat.le_trans Z44 (Nat.le_of_eq W46.size.symm)
  have N46 := Fr.snoc X46 N44 ge_b28
  have pre47 : ∀ t, Steps p.tables e below (T46.setTop (mkF m 168 #[.val (.int p0), .val (.int p1), .val (.int p2), .val (.int p3), .val (.ref b2), .val (.int v5_81), .val (.int v6_90), .val (.int v7_105), .val (.int v8_109), .unset] [(.int v8_109), (.int (9 : Int32)), (.ref b28), (.ref b28)])) t → Steps p.tables e below (s₁.setTop (entryFrame m #[(.int p0), (.int p1), (.int p2), (.int p3)] maxLocals)) t := by
    intro t k
    refine pre45 t ?_
    show Steps p.tables e below (T44.setTop (mkF m 162 #[.val (.int p0), .val (.int p1), .val (.int p2), .val (.int p3), .val (.ref b2), .val (.int v5_81), .val (.int v6_90), .val (.int v7_105), .val (.int v8_109), .unset] [(.int v8_109), (.int (8 : Int32)), (.ref b28), (.ref b28)])) _
    refine st46 _ ?_
    show Steps p.tables e below (T46.setTop (mkF m 163 #[.val (.int p0), .val (.int p1), .val (.int p2), .val (.int p3), .val (.ref b2), .val (.int v5_81), .val (.int v6_90), .val (.int v7_105), .val (.int v8_109), .unset] [(.ref b28)])) _
    refine XS.dup X46.here hx rfl (hb hby at_163) rfl rfl ?_
    show Steps p.tables e below (T46.setTop (mkF m 164 #[.val (.int p0), .val (.int p1), .val (.int p2), .val (.int p3), .val (.ref b2), .val (.int v5_81), .val (.int v6_90), .val (.int v7_105), .val (.int v8_109), .unset] [(.ref b28), (.ref b28)])) _
    refine XS.bipush X46.here hx rfl (hb hby at_164) ?_
    show Steps p.tables e below (T46.setTop (mkF m 166 #[.val (.int p0), .val (.int p1), .val (.int p2), .val (.int p3), .val (.ref b2), .val (.int v5_81), .val (.int v6_90), .val (.int v7_105), .val (.int v8_109), .unset] [(.int (9 : Int32)), (.ref b28), (.ref b28)])) _
    refine XS.iload X46.here hx rfl (hb hby at_166) rfl  ?_
    exact k
  obtain ⟨T48, h48, X48, e48, W48, A48, st48⟩ := own_stB X46 hx hZ e46 A46 (j := (9 : Int32)) (x := v8_109) (k := 9) (by decide) (by decide) (by decide) (g := (mkF m 168 #[.val (.int p0), .val (.int p1), .val (.int p2), .val (.int p3), .val (.ref b2), .val (.int v5_81), .val (.int v6_90), .val (.int v7_105), .val (.int v8_109), .unset] [(.int v8_109), (.int (9 : Int32)), (.ref b28), (.ref b28)])) rfl rfl (hb hby at_168)
  obtain ⟨g_168, hg_168⟩ : ∃ z : Nat → Int32, z = (own_upd g_162 9 v8_109.toInt8.toInt32) := ⟨_, rfl⟩
  rw [← hg_168] at A48
  have arr_b2_48 := arr_b2_46.other W48 ne_b2_b28
  have K48 := K46.wr W48 (Or.inr sz_b28)
  have Z48 := Nat.le_trans Z46 (Nat.le_of_eq W48.size.symm)
  have N48 := Fr.snoc X48 N46 ge_b28
  have pre49 : ∀ t, Steps p.tables e below (T48.setTop (mkF m 174 #[.val (.int p0), .val (.int p1), .val (.int p2), .val (.int p3), .val (.ref b2), .val (.int v5_81), .val (.int v6_90), .val (.int v7_105), .val (.int v8_109), .unset] [(.int v8_109), (.int (10 : Int32)), (.ref b28), (.ref b28)])) t → Steps p.tables e below (s₁.setTop (entryFrame m #[(.int p0), (.int p1), (.int p2), (.int p3)] maxLocals)) t := by
    intro t k
    refine pre47 t ?_
    show Steps p.tables e below (T46.setTop (mkF m 168 #[.val (.int p0), .val (.int p1), .val (.int p2), .val (.int p3), .val (.ref b2), .val (.int v5_81), .val (.int v6_90), .val (.int v7_105), .val (.int v8_109), .unset] [(.int v8_109), (.int (9 : Int32)), (.ref b28), (.ref b28)])) _
    refine st48 _ ?_
    show Steps p.tables e below (T48.setTop (mkF m 169 #[.val (.int p0), .val (.int p1), .val (.int p2), .val (.int p3), .val (.ref b2), .val (.int v5_81), .val (.int v6_90), .val (.int v7_105), .val (.int v8_109), .unset] [(.ref b28)])) _
    refine XS.dup X48.here hx rfl (hb hby at_169) rfl rfl ?_
    show Steps p.tables e below (T48.setTop (mkF m 170 #[.val (.int p0), .val (.int p1), .val (.int p2), .val (.int p3), .val (.ref b2), .val (.int v5_81), .val (.int v6_90), .val (.int v7_105), .val (.int v8_109), .unset] [(.ref b28), (.ref b28)])) _
    refine XS.bipush X48.here hx rfl (hb hby at_170) ?_
    show Steps p.tables e below (T48.setTop (mkF m 172 #[.val (.int p0), .val (.int p1), .val (.int p2), .val (.int p3), .val (.ref b2), .val (.int v5_81), .val (.int v6_90), .val (.int v7_105), .val (.int v8_109), .unset] [(.int (10 : Int32)), (.ref b28), (.ref b28)])) _
    refine XS.iload X48.here hx rfl (hb hby at_172) rfl  ?_
    exact k
  obtain ⟨T50, h50, X50, e50, W50, A50, st50⟩ := own_stB X48 hx hZ e48 A48 (j := (10 : Int32)) (x := v8_109) (k := 10) (by decide) (by decide) (by decide) (g := (mkF m 174 #[.val (.int p0), .val (.int p1), .val (.int p2), .val (.int p3), .val (.ref b2), .val (.int v5_81), .val (.int v6_90), .val (.int v7_105), .val (.int v8_109), .unset] [(.int v8_109), (.int (10 : Int32)), (.ref b28), (.ref b28)])) rfl rfl (hb hby at_174)
  obtain ⟨g_174, hg_174⟩ : ∃ z : Nat → Int32, z = (own_upd g_168 10 v8_109.toInt8.toInt32) := ⟨_, rfl⟩
  rw [← hg_174] at A50
  have arr_b2_50 := arr_b2_48.other W50 ne_b2_b28
  have K50 := K48.wr W50 (Or.inr sz_b28)
  have Z50 := Nat.le_trans Z48 (Nat.le_of_eq W50.size.symm)
  have N50 := Fr.snoc X50 N48 ge_b28
  have pre51 : ∀ t, Steps p.tables e below (T50.setTop (mkF m 180 #[.val (.int p0), .val (.int p1), .val (.int p2), .val (.int p3), .val (.ref b2), .val (.int v5_81), .val (.int v6_90), .val (.int v7_105), .val (.int v8_109), .unset] [(.int v8_109), (.int (11 : Int32)), (.ref b28), (.ref b28)])) t → Steps p.tables e below (s₁.setTop (entryFrame m #[(.int p0), (.int p1), (.int p2), (.int p3)] maxLocals)) t := by
    intro t k
    refine pre49 t ?_
    show Steps p.tables e below (T48.setTop (mkF m 174 #[.val (.int p0), .val (.int p1), .val (.int p2), .val (.int p3), .val (.ref b2), .val (.int v5_81), .val (.int v6_90), .val (.int v7_105), .val (.int v8_109), .unset] [(.int v8_109), (.int (10 : Int32)), (.ref b28), (.ref b28)])) _
    refine st50 _ ?_
    show Steps p.tables e below (T50.setTop (mkF m 175 #[.val (.int p0), .val (.int p1), .val (.int p2), .val (.int p3), .val (.ref b2), .val (.int v5_81), .val (.int v6_90), .val (.int v7_105), .val (.int v8_109), .unset] [(.ref b28)])) _
    refine XS.dup X50.here hx rfl (hb hby at_175) rfl rfl ?_
    show Steps p.tables e below (T50.setTop (mkF m 176 #[.val (.int p0), .val (.int p1), .val (.int p2), .val (.int p3), .val (.ref b2), .val (.int v5_81), .val (.int v6_90), .val (.int v7_105), .val (.int v8_109), .unset] [(.ref b28), (.ref b28)])) _
    refine XS.bipush X50.here hx rfl (hb hby at_176) ?_
    show Steps p.tables e below (T50.setTop (mkF m 178 #[.val (.int p0), .val (.int p1), .val (.int p2), .val (.int p3), .val (.ref b2), .val (.int v5_81), .val (.int v6_90), .val (.int v7_105), .val (.int v8_109), .unset] [(.int (11 : Int32)), (.ref b28), (.ref b28)])) _
    refine XS.iload X50.here hx rfl (hb hby at_178) rfl  ?_
    exact k
  obtain ⟨T52, h52, X52, e52, W52, A52, st52⟩ := own_stB X50 hx hZ e50 A50 (j := (11 : Int32)) (x := v8_109) (k := 11) (by decide) (by decide) (by decide) (g := (mkF m 180 #[.val (.int p0), .val (.int p1), .val (.int p2), .val (.int p3), .val (.ref b2), .val (.int v5_81), .val (.int v6_90), .val (.int v7_105), .val (.int v8_109), .unset] [(.int v8_109), (.int (11 : Int32)), (.ref b28), (.ref b28)])) rfl rfl (hb hby at_180)
  obtain ⟨g_180, hg_180⟩ : ∃ z : Nat → Int32, z = (own_upd g_174 11 v8_109.toInt8.toInt32) := ⟨_, rfl⟩
  rw [← hg_180] at A52
  have arr_b2_52 := arr_b2_50.other W52 ne_b2_b28
  have K52 := K50.wr W52 (Or.inr sz_b28)
  have Z52 := Nat.le_trans Z50 (Nat.le_of_eq W52.size.symm)
  have N52 := Fr.snoc X52 N50 ge_b28
  have pre53 : ∀ t, Steps p.tables e below (T52.setTop (mkF m 186 #[.val (.int p0), .val (.int p1), .val (.int p2), .val (.int p3), .val (.ref b2), .val (.int v5_81), .val (.int v6_90), .val (.int v7_105), .val (.int v8_109), .unset] [(.int v8_109), (.int (12 : Int32)), (.ref b28), (.ref b28)])) t → Steps p.tables e below (s₁.setTop (entryFrame m #[(.int p0), (.int p1), (.int p2), (.int p3)] maxLocals)) t := by
    intro t k
    refine pre51 t ?_
    show Steps p.tables e below (T50.setTop (mkF m 180 #[.val (.int p0), .val (.int p1), .val (.int p2), .val (.int p3), .val (.ref b2), .val (.int v5_81), .val (.int v6_90), .val (.int v7_105), .val (.int v8_109), .unset] [(.int v8_109), (.int (11 : Int32)), (.ref b28), (.ref b28)])) _
    refine st52 _ ?_
    show Steps p.tables e below (T52.setTop (mkF m 181 #[.val (.int p0), .val (.int p1), .val (.int p2), .val (.int p3), .val (.ref b2), .val (.int v5_81), .val (.int v6_90), .val (.int v7_105), .val (.int v8_109), .unset] [(.ref b28)])) _
    refine XS.dup X52.here hx rfl (hb hby at_181) rfl rfl ?_
    show Steps p.tables e below (T52.setTop (mkF m 182 #[.val (.int p0), .val (.int p1), .val (.int p2), .val (.int p3), .val (.ref b2), .val (.int v5_81), .val (.int v6_90), .val (.int v7_105), .val (.int v8_109), .unset] [(.ref b28), (.ref b28)])) _
    refine XS.bipush X52.here hx rfl (hb hby at_182) ?_
    show Steps p.tables e below (T52.setTop (mkF m 184 #[.val (.int p0), .val (.int p1), .val (.int p2), .val (.int p3), .val (.ref b2), .val (.int v5_81), .val (.int v6_90), .val (.int v7_105), .val (.int v8_109), .unset] [(.int (12 : Int32)), (.ref b28), (.ref b28)])) _
    refine XS.iload X52.here hx rfl (hb hby at_184) rfl  ?_
    exact k
  obtain ⟨T54, h54, X54, e54, W54, A54, st54⟩ := own_stB X52 hx hZ e52 A52 (j := (12 : Int32)) (x := v8_109) (k := 12) (by decide) (by decide) (by decide) (g := (mkF m 186 #[.val (.int p0), .val (.int p1), .val (.int p2), .val (.int p3), .val (.ref b2), .val (.int v5_81), .val (.int v6_90), .val (.int v7_105), .val (.int v8_109), .unset] [(.int v8_109), (.int (12 : Int32)), (.ref b28), (.ref b28)])) rfl rfl (hb hby at_186)
  obtain ⟨g_186, hg_186⟩ : ∃ z : Nat → Int32, z = (own_upd g_180 12 v8_109.toInt8.toInt32) := ⟨_, rfl⟩
  rw [← hg_186] at A54
  have arr_b2_54 := arr_b2_52.other W54 ne_b2_b28
  have K54 := K52.wr W54 (Or.inr sz_b28)
  have Z54 := Nat.le_trans Z52 (Nat.le_of_eq W54.size.symm)
  have N54 := Fr.snoc X54 N52 ge_b28
  have pre55 : ∀ t, Steps p.tables e below (T54.setTop (mkF m 192 #[.val (.int p0), .val (.int p1), .val (.int p2), .val (.int p3), .val (.ref b2), .val (.int v5_81), .val (.int v6_90), .val (.int v7_105), .val (.int v8_109), .unset] [(.int v8_109), (.int (13 : Int32)), (.ref b28), (.ref b28)])) t → Steps p.tables e below (s₁.setTop (entryFrame m #[(.int p0), (.int p1), (.int p2), (.int p3)] maxLocals)) t := by
    intro t k
    refine pre53 t ?_
    show Steps p.tables e below (T52.setTop (mkF m 186 #[.val (.int p0), .val (.int p1), .val (.int p2), .val (.int p3), .val (.ref b2), .val (.int v5_81), .val (.int v6_90), .val (.int v7_105), .val (.int v8_109), .unset] [(.int v8_109), (.int (12 : Int32)), (.ref b28), (.ref b28)])) _
    refine st54 _ ?_
    show Steps p.tables e below (T54.setTop (mkF m 187 #[.val (.int p0), .val (.int p1), .val (.int p2), .val (.int p3), .val (.ref b2), .val (.int v5_81), .val (.int v6_90), .val (.int v7_105), .val (.int v8_109), .unset] [(.ref b28)])) _
    refine XS.dup X54.here hx rfl (hb hby at_187) rfl rfl ?_
    show Steps p.tables e below (T54.setTop (mkF m 188 #[.val (.int p0), .val (.int p1), .val (.int p2), .val (.int p3), .val (.ref b2), .val (.int v5_81), .val (.int v6_90), .val (.int v7_105), .val (.int v8_109), .unset] [(.ref b28), (.ref b28)])) _
    refine XS.bipush X54.here hx rfl (hb hby at_188) ?_
    show Steps p.tables e below (T54.setTop (mkF m 190 #[.val (.int p0), .val (.int p1), .val (.int p2), .val (.int p3), .val (.ref b2), .val (.int v5_81), .val (.int v6_90), .val (.int v7_105), .val (.int v8_109), .unset] [(.int (13 : Int32)), (.ref b28), (.ref b28)])) _
    refine XS.iload X54.here hx rfl (hb hby at_190) rfl  ?_
    exact k
  obtain ⟨T56, h56, X56, e56, W56, A56, st56⟩ := own_stB X54 hx hZ e54 A54 (j := (13 : Int32)) (x := v8_109) (k := 13) (by decide) (by decide) (by decide) (g := (mkF m 192 #[.val (.int p0), .val (.int p1), .val (.int p2), .val (.int p3), .val (.ref b2), .val (.int v5_81), .val (.int v6_90), .val (.int v7_105), .val (.int v8_109), .unset] [(.int v8_109), (.int (13 : Int32)), (.ref b28), (.ref b28)])) rfl rfl (hb hby at_192)
  obtain ⟨g_192, hg_192⟩ : ∃ z : Nat → Int32, z = (own_upd g_186 13 v8_109.toInt8.toInt32) := ⟨_, rfl⟩
  rw [← hg_192] at A56
  have arr_b2_56 := arr_b2_54.other W56 ne_b2_b28
  have K56 := K54.wr W56 (Or.inr sz_b28)
  have Z56 := Nat.le_trans Z54 (Nat.le_of_eq W56.size.symm)
  have N56 := Fr.snoc X56 N54 ge_b28
  have pre57 : ∀ t, Steps p.tables e below (T56.setTop (mkF m 193 #[.val (.int p0), .val (.int p1), .val (.int p2), .val (.int p3), .val (.ref b2), .val (.int v5_81), .val (.int v6_90), .val (.int v7_105), .val (.int v8_109), .unset] [(.ref b28)])) t → Steps p.tables e below (s₁.setTop (entryFrame m #[(.int p0), (.int p1), (.int p2), (.int p3)] maxLocals)) t := by
    intro t k
    refine pre55 t ?_
    show Steps p.tables e below (T54.setTop (mkF m 192 #[.val (.int p0), .val (.int p1), .val (.int p2), .val (.int p3), .val (.ref b2), .val (.int v5_81), .val (.int v6_90), .val (.int v7_105), .val (.int v8_109), .unset] [(.int v8_109), (.int (13 : Int32)), (.ref b28), (.ref b28)])) _
    refine st56 _ ?_
    exact k
  have AR58 : own_A Z h56 b28 .byte 14 (fun i => .int ((own_fl v8_109) i)) := A56.congr (fun i hi => congrArg Value.int (by rw [hg_192, hg_186, hg_180, hg_174, hg_168, hg_162, hg_156, hg_150, hg_144, hg_139, hg_134, hg_129, hg_124, hg_119]; exact own_fl_eq v8_109 i hi))
  have pre60 : ∀ t, Steps p.tables e below (T56.setTop (mkF m 203 #[.val (.int p0), .val (.int p1), .val (.int p2), .val (.int p3), .val (.ref b2), .val (.int v5_81), .val (.int v6_90), .val (.int v7_105), .val (.int v8_109), .val (.ref b28)] [(.int v7_105), (.int v6_90), (.int v5_81), (.ref b28)])) t → Steps p.tables e below (s₁.setTop (entryFrame m #[(.int p0), (.int p1), (.int p2), (.int p3)] maxLocals)) t := by
    intro t k
    refine pre57 t ?_
    show Steps p.tables e below (T56.setTop (mkF m 193 #[.val (.int p0), .val (.int p1), .val (.int p2), .val (.int p3), .val (.ref b2), .val (.int v5_81), .val (.int v6_90), .val (.int v7_105), .val (.int v8_109), .unset] [(.ref b28)])) _
    refine XS.astore X56.here hx rfl (hb hby at_193) rfl rfl (l' := #[.val (.int p0), .val (.int p1), .val (.int p2), .val (.int p3), .val (.ref b2), .val (.int v5_81), .val (.int v6_90), .val (.int v7_105), .val (.int v8_109), .val (.ref b28)]) rfl ?_
    show Steps p.tables e below (T56.setTop (mkF m 195 #[.val (.int p0), .val (.int p1), .val (.int p2), .val (.int p3), .val (.ref b2), .val (.int v5_81), .val (.int v6_90), .val (.int v7_105), .val (.int v8_109), .val (.ref b28)] [])) _
    refine XS.aload X56.here hx rfl (hb hby at_195) rfl rfl ?_
    show Steps p.tables e below (T56.setTop (mkF m 197 #[.val (.int p0), .val (.int p1), .val (.int p2), .val (.int p3), .val (.ref b2), .val (.int v5_81), .val (.int v6_90), .val (.int v7_105), .val (.int v8_109), .val (.ref b28)] [(.ref b28)])) _
    refine XS.iload X56.here hx rfl (hb hby at_197) rfl  ?_
    show Steps p.tables e below (T56.setTop (mkF m 199 #[.val (.int p0), .val (.int p1), .val (.int p2), .val (.int p3), .val (.ref b2), .val (.int v5_81), .val (.int v6_90), .val (.int v7_105), .val (.int v8_109), .val (.ref b28)] [(.int v5_81), (.ref b28)])) _
    refine XS.iload X56.here hx rfl (hb hby at_199) rfl  ?_
    show Steps p.tables e below (T56.setTop (mkF m 201 #[.val (.int p0), .val (.int p1), .val (.int p2), .val (.int p3), .val (.ref b2), .val (.int v5_81), .val (.int v6_90), .val (.int v7_105), .val (.int v8_109), .val (.ref b28)] [(.int v6_90), (.int v5_81), (.ref b28)])) _
    refine XS.iload X56.here hx rfl (hb hby at_201) rfl  ?_
    exact k
  obtain ⟨_, _, ⟨T59, L59, k59, n59⟩, -, X59, ⟨Lc59, hQ59, l59, y59, z59⟩, st59⟩ := Jvm.LawKit.callS X56 hx (y := (⟨"com/example/dayt/dayt/text/TextForm", "putDigits", "([BIII)V"⟩ : MethodName)) hown (mvT hZ (hw _ (List.mem_of_getElem? (i := 14) rfl))) (mvT hZ (hw _ (List.mem_of_getElem? (i := 15) rfl))) (mvT hZ (hw _ (List.mem_of_getElem? (i := 16) rfl))) (mvT hZ (hw _ (List.mem_of_getElem? (i := 17) rfl))) (by decide) (backOf (W := 0) (rm_1 l Z a0 hw [] b28 v5_81 v6_90 v7_105 14 (own_fl v8_109) h56 n0 Z56 AR58 ge_b28 (own_sc2 (own_sc hv5_81 hv6_90))) hZ (hw _ (List.mem_of_getElem? (i := 17) rfl)) (hw _ (List.mem_of_getElem? (i := 16) rfl)) (by decide) (by decide)) (g := (mkF m 203 #[.val (.int p0), .val (.int p1), .val (.int p2), .val (.int p3), .val (.ref b2), .val (.int v5_81), .val (.int v6_90), .val (.int v7_105), .val (.int v8_109), .val (.ref b28)] [(.int v7_105), (.int v6_90), (.int v5_81), (.ref b28)])) rfl (by rw [hml]; rfl) (argsL := [(.ref b28), (.int v5_81), (.int v6_90), (.int v7_105)]) (rest := []) (lenOf pd_0 rfl) rfl (by show 2 * 0 + _ ≤ _; exact Nat.le_of_eq rfl) (hb hby at_203) (fun _ _ => ⟨rfl, e56, (by decide : 2 + 0 ≤ _), (by decide : 25 + 0 ≤ _)⟩)
  dsimp only [Pt.U, Pt.locs, Pt.cells, Pt.slots] at X59 l59 y59 z59 st59 hQ59
  rw [l59, y59, z59] at X59
  obtain ⟨rfl, N59q, Kc59, Q59_0⟩ := hQ59
  have Kd59 : Keep h56 T59.heap [b28] := Kc59
  have arr_b2_59 := arr_b2_56.keep Kd59 (ninS ne_b2_b28 nin0)
  have K59 := K56.trans Kd59 (allS (Or.inr sz_b28) all0)
  have Z59 := Nat.le_trans Z56 Kd59.1
  have N59 := Fr.app N56 N59q
  have pre62 : ∀ t, Steps p.tables e below (T59.setTop (mkF m 219 #[.val (.int p0), .val (.int p1), .val (.int p2), .val (.int p3), .val (.ref b2), .val (.int v5_81), .val (.int v6_90), .val (.int v7_105), .val (.int v8_109), .val (.ref b28)] [(.ref b2), (.int v8_109), (.int v7_105), (.int v6_90), (.int v5_81), (.int (0 : Int32)), (.ref b28)])) t → Steps p.tables e below (s₁.setTop (entryFrame m #[(.int p0), (.int p1), (.int p2), (.int p3)] maxLocals)) t := by
    intro t k
    refine pre60 t ?_
    show Steps p.tables e below (T56.setTop (mkF m 203 #[.val (.int p0), .val (.int p1), .val (.int p2), .val (.int p3), .val (.ref b2), .val (.int v5_81), .val (.int v6_90), .val (.int v7_105), .val (.int v8_109), .val (.ref b28)] [(.int v7_105), (.int v6_90), (.int v5_81), (.ref b28)])) _
    refine st59 _ ?_
    show Steps p.tables e below (T59.setTop (mkF m 206 #[.val (.int p0), .val (.int p1), .val (.int p2), .val (.int p3), .val (.ref b2), .val (.int v5_81), .val (.int v6_90), .val (.int v7_105), .val (.int v8_109), .val (.ref b28)] [])) _
    refine XS.aload X59.here hx rfl (hb hby at_206) rfl rfl ?_
    show Steps p.tables e below (T59.setTop (mkF m 208 #[.val (.int p0), .val (.int p1), .val (.int p2), .val (.int p3), .val (.ref b2), .val (.int v5_81), .val (.int v6_90), .val (.int v7_105), .val (.int v8_109), .val (.ref b28)] [(.ref b28)])) _
    refine XS.iconst X59.here hx rfl (hb hby at_208) ?_
    show Steps p.tables e below (T59.setTop (mkF m 209 #[.val (.int p0), .val (.int p1), .val (.int p2), .val (.int p3), .val (.ref b2), .val (.int v5_81), .val (.int v6_90), .val (.int v7_105), .val (.int v8_109), .val (.ref b28)] [(.int (0 : Int32)), (.ref b28)])) _
    refine XS.iload X59.here hx rfl (hb hby at_209) rfl  ?_
    show Steps p.tables e below (T59.setTop (mkF m 211 #[.val (.int p0), .val (.int p1), .val (.int p2), .val (.int p3), .val (.ref b2), .val (.int v5_81), .val (.int v6_90), .val (.int v7_105), .val (.int v8_109), .val (.ref b28)] [(.int v5_81), (.int (0 : Int32)), (.ref b28)])) _
    refine XS.iload X59.here hx rfl (hb hby at_211) rfl  ?_
    show Steps p.tables e below (T59.setTop (mkF m 213 #[.val (.int p0), .val (.int p1), .val (.int p2), .val (.int p3), .val (.ref b2), .val (.int v5_81), .val (.int v6_90), .val (.int v7_105), .val (.int v8_109), .val (.ref b28)] [(.int v6_90), (.int v5_81), (.int (0 : Int32)), (.ref b28)])) _
    refine XS.iload X59.here hx rfl (hb hby at_213) rfl  ?_
    show Steps p.tables e below (T59.setTop (mkF m 215 #[.val (.int p0), .val (.int p1), .val (.int p2), .val (.int p3), .val (.ref b2), .val (.int v5_81), .val (.int v6_90), .val (.int v7_105), .val (.int v8_109), .val (.ref b28)] [(.int v7_105), (.int v6_90), (.int v5_81), (.int (0 : Int32)), (.ref b28)])) _
    refine XS.iload X59.here hx rfl (hb hby at_215) rfl  ?_
    show Steps p.tables e below (T59.setTop (mkF m 217 #[.val (.int p0), .val (.int p1), .val (.int p2), .val (.int p3), .val (.ref b2), .val (.int v5_81), .val (.int v6_90), .val (.int v7_105), .val (.int v8_109), .val (.ref b28)] [(.int v8_109), (.int v7_105), (.int v6_90), (.int v5_81), (.int (0 : Int32)), (.ref b28)])) _
    refine XS.aload X59.here hx rfl (hb hby at_217) rfl rfl ?_
    exact k
  obtain ⟨_, _, ⟨T61, L61, k61, n61⟩, -, X61, ⟨Lc61, hQ61, l61, y61, z61⟩, st61⟩ := Jvm.LawKit.callS X59 hx (y := (⟨"com/example/dayt/dayt/text/TextFormPutDigitsPinLaw", "at", "([BIIIIB[J)Z"⟩ : MethodName)) hown (mvT hZ (hw _ (List.mem_of_getElem? (i := 18) rfl))) (mvT hZ (hw _ (List.mem_of_getElem? (i := 19) rfl))) (mvT hZ (hw _ (List.mem_of_getElem? (i := 20) rfl))) (mvT hZ (hw _ (List.mem_of_getElem? (i := 21) rfl))) (by decide) (backOf (W := 0) (rm_2 l Z a0 hw [] b28 (0 : Int32) v5_81 v6_90 v7_105 v8_109 b2 (own_put (own_fl v8_109) v5_81.toNatClampNeg v6_90.toNatClampNeg v7_105) own_pt T59.heap n0 Z59 Q59_0 arr_b2_59 ⟨by decide, by decide⟩ (own_sc hv5_81 hv6_90) own_ptnz) hZ (hw _ (List.mem_of_getElem? (i := 21) rfl)) (hw _ (List.mem_of_getElem? (i := 20) rfl)) (by decide) (by decide)) (g := (mkF m 219 #[.val (.int p0), .val (.int p1), .val (.int p2), .val (.int p3), .val (.ref b2), .val (.int v5_81), .val (.int v6_90), .val (.int v7_105), .val (.int v8_109), .val (.ref b28)] [(.ref b2), (.int v8_109), (.int v7_105), (.int v6_90), (.int v5_81), (.int (0 : Int32)), (.ref b28)])) rfl (by rw [hml]; rfl) (argsL := [(.ref b28), (.int (0 : Int32)), (.int v5_81), (.int v6_90), (.int v7_105), (.int v8_109), (.ref b2)]) (rest := []) (lenOf pd_1 rfl) rfl (by show 2 * 0 + _ ≤ _; exact Nat.le_of_eq rfl) (hb hby at_219) (fun _ _ => ⟨rfl, rfl, (by decide : 2 + 0 ≤ _), (by decide : 25 + 0 ≤ _)⟩)
  dsimp only [Pt.U, Pt.locs, Pt.cells, Pt.slots] at X61 l61 y61 z61 st61 hQ61
  rw [l61, y61, z61] at X61
  obtain ⟨rfl, N61q, e61⟩ := hQ61
  have N61 := Fr.app N59 N61q
  have pre63 : ∀ t, Steps p.tables e below (T61.setTop (mkF m 222 #[.val (.int p0), .val (.int p1), .val (.int p2), .val (.int p3), .val (.ref b2), .val (.int v5_81), .val (.int v6_90), .val (.int v7_105), .val (.int v8_109), .val (.ref b28)] [(.int (f_2 (0 : Int32) v5_81 v6_90 v7_105 v8_109 (own_put (own_fl v8_109) v5_81.toNatClampNeg v6_90.toNatClampNeg v7_105) own_pt))])) t → Steps p.tables e below (s₁.setTop (entryFrame m #[(.int p0), (.int p1), (.int p2), (.int p3)] maxLocals)) t := by
    intro t k
    refine pre62 t ?_
    show Steps p.tables e below (T59.setTop (mkF m 219 #[.val (.int p0), .val (.int p1), .val (.int p2), .val (.int p3), .val (.ref b2), .val (.int v5_81), .val (.int v6_90), .val (.int v7_105), .val (.int v8_109), .val (.ref b28)] [(.ref b2), (.int v8_109), (.int v7_105), (.int v6_90), (.int v5_81), (.int (0 : Int32)), (.ref b28)])) _
    refine st61 _ ?_
    exact k
  by_cases hc222 : (f_2 (0 : Int32) v5_81 v6_90 v7_105 v8_109 (own_put (own_fl v8_109) v5_81.toNatClampNeg v6_90.toNatClampNeg v7_105) own_pt) = (0 : Int32)
  · obtain ⟨fs, hr, hrun, hended, hW, hsame⟩ := X61.leave (v := some (.int (0 : Int32))) (fun h => by rw [Bd.returns] at h; cases h) (BodyLoose.notSynchronized Bd)
    refine ⟨_, _, pre63 _ ?_, hrun, hended, _, _, rfl, ?_, ⟨_, rfl⟩, hW, hsame.mono (by decide) (by decide)⟩
    · show Steps p.tables e below (T61.setTop (mkF m 222 #[.val (.int p0), .val (.int p1), .val (.int p2), .val (.int p3), .val (.ref b2), .val (.int v5_81), .val (.int v6_90), .val (.int v7_105), .val (.int v8_109), .val (.ref b28)] [(.int (f_2 (0 : Int32) v5_81 v6_90 v7_105 v8_109 (own_put (own_fl v8_109) v5_81.toNatClampNeg v6_90.toNatClampNeg v7_105) own_pt))])) _
      refine XS.ifYes X61.here hx rfl (pc0 := 222) (pc' := 484) rfl (hb hby at_222) rfl ((if0 _ _).trans (teq hc222).1) (by decide) (by decide) ?_
      show Steps p.tables e below (T61.setTop (mkF m 484 #[.val (.int p0), .val (.int p1), .val (.int p2), .val (.int p3), .val (.ref b2), .val (.int v5_81), .val (.int v6_90), .val (.int v7_105), .val (.int v8_109), .val (.ref b28)] [])) _
      refine XS.iconst X61.here hx rfl (hb hby at_484) ?_
      show Steps p.tables e below (T61.setTop (mkF m 485 #[.val (.int p0), .val (.int p1), .val (.int p2), .val (.int p3), .val (.ref b2), .val (.int v5_81), .val (.int v6_90), .val (.int v7_105), .val (.int v8_109), .val (.ref b28)] [(.int (0 : Int32))])) _
      exact retN X61 hx (t := .boolean) Bd.returns (by simp) (hb hby at_485) hr
    · show Q_0 Z p0 p1 p2 p3 h0 n0 _ T61.heap _
      rw [e61]
      exact ⟨congrArg (fun z => some (Value.int z)) (by subst hg_7 hg_13 hg_19 hg_25 hg_31 hg_37 hg_44 hg_51 hg_58 hg_65 hg_72 hv5_81 hv6_90 hv7_105 hv8_109 hg_119 hg_124 hg_129 hg_134 hg_139 hg_144 hg_150 hg_156 hg_162 hg_168 hg_174 hg_180 hg_186 hg_192; exact (if_pos hc222).symm : (0 : Int32) = f_0 p0 p1 p2 p3), N61, trivial⟩
  · have pre65 : ∀ t, Steps p.tables e below (T61.setTop (mkF m 238 #[.val (.int p0), .val (.int p1), .val (.int p2), .val (.int p3), .val (.ref b2), .val (.int v5_81), .val (.int v6_90), .val (.int v7_105), .val (.int v8_109), .val (.ref b28)] [(.ref b2), (.int v8_109), (.int v7_105), (.int v6_90), (.int v5_81), (.int (1 : Int32)), (.ref b28)])) t → Steps p.tables e below (s₁.setTop (entryFrame m #[(.int p0), (.int p1), (.int p2), (.int p3)] maxLocals)) t := by
      intro t k
      refine pre63 t ?_
      show Steps p.tables e below (T61.setTop (mkF m 222 #[.val (.int p0), .val (.int p1), .val (.int p2), .val (.int p3), .val (.ref b2), .val (.int v5_81), .val (.int v6_90), .val (.int v7_105), .val (.int v8_109), .val (.ref b28)] [(.int (f_2 (0 : Int32) v5_81 v6_90 v7_105 v8_109 (own_put (own_fl v8_109) v5_81.toNatClampNeg v6_90.toNatClampNeg v7_105) own_pt))])) _
      refine XS.ifNo X61.here hx rfl (hb hby at_222) rfl ((if0 _ _).trans (feq hc222).1) ?_
      show Steps p.tables e below (T61.setTop (mkF m 225 #[.val (.int p0), .val (.int p1), .val (.int p2), .val (.int p3), .val (.ref b2), .val (.int v5_81), .val (.int v6_90), .val (.int v7_105), .val (.int v8_109), .val (.ref b28)] [])) _
      refine XS.aload X61.here hx rfl (hb hby at_225) rfl rfl ?_
      show Steps p.tables e below (T61.setTop (mkF m 227 #[.val (.int p0), .val (.int p1), .val (.int p2), .val (.int p3), .val (.ref b2), .val (.int v5_81), .val (.int v6_90), .val (.int v7_105), .val (.int v8_109), .val (.ref b28)] [(.ref b28)])) _
      refine XS.iconst X61.here hx rfl (hb hby at_227) ?_
      show Steps p.tables e below (T61.setTop (mkF m 228 #[.val (.int p0), .val (.int p1), .val (.int p2), .val (.int p3), .val (.ref b2), .val (.int v5_81), .val (.int v6_90), .val (.int v7_105), .val (.int v8_109), .val (.ref b28)] [(.int (1 : Int32)), (.ref b28)])) _
      refine XS.iload X61.here hx rfl (hb hby at_228) rfl  ?_
      show Steps p.tables e below (T61.setTop (mkF m 230 #[.val (.int p0), .val (.int p1), .val (.int p2), .val (.int p3), .val (.ref b2), .val (.int v5_81), .val (.int v6_90), .val (.int v7_105), .val (.int v8_109), .val (.ref b28)] [(.int v5_81), (.int (1 : Int32)), (.ref b28)])) _
      refine XS.iload X61.here hx rfl (hb hby at_230) rfl  ?_
      show Steps p.tables e below (T61.setTop (mkF m 232 #[.val (.int p0), .val (.int p1), .val (.int p2), .val (.int p3), .val (.ref b2), .val (.int v5_81), .val (.int v6_90), .val (.int v7_105), .val (.int v8_109), .val (.ref b28)] [(.int v6_90), (.int v5_81), (.int (1 : Int32)), (.ref b28)])) _
      refine XS.iload X61.here hx rfl (hb hby at_232) rfl  ?_
      show Steps p.tables e below (T61.setTop (mkF m 234 #[.val (.int p0), .val (.int p1), .val (.int p2), .val (.int p3), .val (.ref b2), .val (.int v5_81), .val (.int v6_90), .val (.int v7_105), .val (.int v8_109), .val (.ref b28)] [(.int v7_105), (.int v6_90), (.int v5_81), (.int (1 : Int32)), (.ref b28)])) _
      refine XS.iload X61.here hx rfl (hb hby at_234) rfl  ?_
      show Steps p.tables e below (T61.setTop (mkF m 236 #[.val (.int p0), .val (.int p1), .val (.int p2), .val (.int p3), .val (.ref b2), .val (.int v5_81), .val (.int v6_90), .val (.int v7_105), .val (.int v8_109), .val (.ref b28)] [(.int v8_109), (.int v7_105), (.int v6_90), (.int v5_81), (.int (1 : Int32)), (.ref b28)])) _
      refine XS.aload X61.here hx rfl (hb hby at_236) rfl rfl ?_
      exact k
    obtain ⟨_, _, ⟨T64, L64, k64, n64⟩, -, X64, ⟨Lc64, hQ64, l64, y64, z64⟩, st64⟩ := Jvm.LawKit.callS X61 hx (y := (⟨"com/example/dayt/dayt/text/TextFormPutDigitsPinLaw", "at", "([BIIIIB[J)Z"⟩ : MethodName)) hown (mvT hZ (hw _ (List.mem_of_getElem? (i := 18) rfl))) (mvT hZ (hw _ (List.mem_of_getElem? (i := 19) rfl))) (mvT hZ (hw _ (List.mem_of_getElem? (i := 20) rfl))) (mvT hZ (hw _ (List.mem_of_getElem? (i := 21) rfl))) (by decide) (backOf (W := 0) (rm_2 l Z a0 hw [] b28 (1 : Int32) v5_81 v6_90 v7_105 v8_109 b2 (own_put (own_fl v8_109) v5_81.toNatClampNeg v6_90.toNatClampNeg v7_105) own_pt T59.heap n0 Z59 Q59_0 arr_b2_59 ⟨by decide, by decide⟩ (own_sc hv5_81 hv6_90) own_ptnz) hZ (hw _ (List.mem_of_getElem? (i := 21) rfl)) (hw _ (List.mem_of_getElem? (i := 20) rfl)) (by decide) (by decide)) (g := (mkF m 238 #[.val (.int p0), .val (.int p1), .val (.int p2), .val (.int p3), .val (.ref b2), .val (.int v5_81), .val (.int v6_90), .val (.int v7_105), .val (.int v8_109), .val (.ref b28)] [(.ref b2), (.int v8_109), (.int v7_105), (.int v6_90), (.int v5_81), (.int (1 : Int32)), (.ref b28)])) rfl (by rw [hml]; rfl) (argsL := [(.ref b28), (.int (1 : Int32)), (.int v5_81), (.int v6_90), (.int v7_105), (.int v8_109), (.ref b2)]) (rest := []) (lenOf pd_1 rfl) rfl (by show 2 * 0 + _ ≤ _; exact Nat.le_of_eq rfl) (hb hby at_238) (fun _ _ => ⟨rfl, e61, (by decide : 2 + 0 ≤ _), (by decide : 25 + 0 ≤ _)⟩)
    dsimp only [Pt.U, Pt.locs, Pt.cells, Pt.slots] at X64 l64 y64 z64 st64 hQ64
    rw [l64, y64, z64] at X64
    obtain ⟨rfl, N64q, e64⟩ := hQ64
    have N64 := Fr.app N61 N64q
    have pre66 : ∀ t, Steps p.tables e below (T64.setTop (mkF m 241 #[.val (.int p0), .val (.int p1), .val (.int p2), .val (.int p3), .val (.ref b2), .val (.int v5_81), .val (.int v6_90), .val (.int v7_105), .val (.int v8_109), .val (.ref b28)] [(.int (f_2 (1 : Int32) v5_81 v6_90 v7_105 v8_109 (own_put (own_fl v8_109) v5_81.toNatClampNeg v6_90.toNatClampNeg v7_105) own_pt))])) t → Steps p.tables e below (s₁.setTop (entryFrame m #[(.int p0), (.int p1), (.int p2), (.int p3)] maxLocals)) t := by
      intro t k
      refine pre65 t ?_
      show Steps p.tables e below (T61.setTop (mkF m 238 #[.val (.int p0), .val (.int p1), .val (.int p2), .val (.int p3), .val (.ref b2), .val (.int v5_81), .val (.int v6_90), .val (.int v7_105), .val (.int v8_109), .val (.ref b28)] [(.ref b2), (.int v8_109), (.int v7_105), (.int v6_90), (.int v5_81), (.int (1 : Int32)), (.ref b28)])) _
      refine st64 _ ?_
      exact k
    by_cases hc241 : (f_2 (1 : Int32) v5_81 v6_90 v7_105 v8_109 (own_put (own_fl v8_109) v5_81.toNatClampNeg v6_90.toNatClampNeg v7_105) own_pt) = (0 : Int32)
    · obtain ⟨fs, hr, hrun, hended, hW, hsame⟩ := X64.leave (v := some (.int (0 : Int32))) (fun h => by rw [Bd.returns] at h; cases h) (BodyLoose.notSynchronized Bd)
      refine ⟨_, _, pre66 _ ?_, hrun, hended, _, _, rfl, ?_, ⟨_, rfl⟩, hW, hsame.mono (by decide) (by decide)⟩
      · show Steps p.tables e below (T64.setTop (mkF m 241 #[.val (.int p0), .val (.int p1), .val (.int p2), .val (.int p3), .val (.ref b2), .val (.int v5_81), .val (.int v6_90), .val (.int v7_105), .val (.int v8_109), .val (.ref b28)] [(.int (f_2 (1 : Int32) v5_81 v6_90 v7_105 v8_109 (own_put (own_fl v8_109) v5_81.toNatClampNeg v6_90.toNatClampNeg v7_105) own_pt))])) _
        refine XS.ifYes X64.here hx rfl (pc0 := 241) (pc' := 484) rfl (hb hby at_241) rfl ((if0 _ _).trans (teq hc241).1) (by decide) (by decide) ?_
        show Steps p.tables e below (T64.setTop (mkF m 484 #[.val (.int p0), .val (.int p1), .val (.int p2), .val (.int p3), .val (.ref b2), .val (.int v5_81), .val (.int v6_90), .val (.int v7_105), .val (.int v8_109), .val (.ref b28)] [])) _
        refine XS.iconst X64.here hx rfl (hb hby at_484) ?_
        show Steps p.tables e below (T64.setTop (mkF m 485 #[.val (.int p0), .val (.int p1), .val (.int p2), .val (.int p3), .val (.ref b2), .val (.int v5_81), .val (.int v6_90), .val (.int v7_105), .val (.int v8_109), .val (.ref b28)] [(.int (0 : Int32))])) _
        exact retN X64 hx (t := .boolean) Bd.returns (by simp) (hb hby at_485) hr
      · show Q_0 Z p0 p1 p2 p3 h0 n0 _ T64.heap _
        rw [e64]
        exact ⟨congrArg (fun z => some (Value.int z)) (by subst hg_7 hg_13 hg_19 hg_25 hg_31 hg_37 hg_44 hg_51 hg_58 hg_65 hg_72 hv5_81 hv6_90 hv7_105 hv8_109 hg_119 hg_124 hg_129 hg_134 hg_139 hg_144 hg_150 hg_156 hg_162 hg_168 hg_174 hg_180 hg_186 hg_192; exact ((if_neg hc222).trans (if_pos hc241)).symm : (0 : Int32) = f_0 p0 p1 p2 p3), N64, trivial⟩
    · have pre68 : ∀ t, Steps p.tables e below (T64.setTop (mkF m 257 #[.val (.int p0), .val (.int p1), .val (.int p2), .val (.int p3), .val (.ref b2), .val (.int v5_81), .val (.int v6_90), .val (.int v7_105), .val (.int v8_109), .val (.ref b28)] [(.ref b2), (.int v8_109), (.int v7_105), (.int v6_90), (.int v5_81), (.int (2 : Int32)), (.ref b28)])) t → Steps p.tables e below (s₁.setTop (entryFrame m #[(.int p0), (.int p1), (.int p2), (.int p3)] maxLocals)) t := by
        intro t k
        refine pre66 t ?_
        show Steps p.tables e below (T64.setTop (mkF m 241 #[.val (.int p0), .val (.int p1), .val (.int p2), .val (.int p3), .val (.ref b2), .val (.int v5_81), .val (.int v6_90), .val (.int v7_105), .val (.int v8_109), .val (.ref b28)] [(.int (f_2 (1 : Int32) v5_81 v6_90 v7_105 v8_109 (own_put (own_fl v8_109) v5_81.toNatClampNeg v6_90.toNatClampNeg v7_105) own_pt))])) _
        refine XS.ifNo X64.here hx rfl (hb hby at_241) rfl ((if0 _ _).trans (feq hc241).1) ?_
        show Steps p.tables e below (T64.setTop (mkF m 244 #[.val (.int p0), .val (.int p1), .val (.int p2), .val (.int p3), .val (.ref b2), .val (.int v5_81), .val (.int v6_90), .val (.int v7_105), .val (.int v8_109), .val (.ref b28)] [])) _
        refine XS.aload X64.here hx rfl (hb hby at_244) rfl rfl ?_
        show Steps p.tables e below (T64.setTop (mkF m 246 #[.val (.int p0), .val (.int p1), .val (.int p2), .val (.int p3), .val (.ref b2), .val (.int v5_81), .val (.int v6_90), .val (.int v7_105), .val (.int v8_109), .val (.ref b28)] [(.ref b28)])) _
        refine XS.iconst X64.here hx rfl (hb hby at_246) ?_
        show Steps p.tables e below (T64.setTop (mkF m 247 #[.val (.int p0), .val (.int p1), .val (.int p2), .val (.int p3), .val (.ref b2), .val (.int v5_81), .val (.int v6_90), .val (.int v7_105), .val (.int v8_109), .val (.ref b28)] [(.int (2 : Int32)), (.ref b28)])) _
        refine XS.iload X64.here hx rfl (hb hby at_247) rfl  ?_
        show Steps p.tables e below (T64.setTop (mkF m 249 #[.val (.int p0), .val (.int p1), .val (.int p2), .val (.int p3), .val (.ref b2), .val (.int v5_81), .val (.int v6_90), .val (.int v7_105), .val (.int v8_109), .val (.ref b28)] [(.int v5_81), (.int (2 : Int32)), (.ref b28)])) _
        refine XS.iload X64.here hx rfl (hb hby at_249) rfl  ?_
        show Steps p.tables e below (T64.setTop (mkF m 251 #[.val (.int p0), .val (.int p1), .val (.int p2), .val (.int p3), .val (.ref b2), .val (.int v5_81), .val (.int v6_90), .val (.int v7_105), .val (.int v8_109), .val (.ref b28)] [(.int v6_90), (.int v5_81), (.int (2 : Int32)), (.ref b28)])) _
        refine XS.iload X64.here hx rfl (hb hby at_251) rfl  ?_
        show Steps p.tables e below (T64.setTop (mkF m 253 #[.val (.int p0), .val (.int p1), .val (.int p2), .val (.int p3), .val (.ref b2), .val (.int v5_81), .val (.int v6_90), .val (.int v7_105), .val (.int v8_109), .val (.ref b28)] [(.int v7_105), (.int v6_90), (.int v5_81), (.int (2 : Int32)), (.ref b28)])) _
        refine XS.iload X64.here hx rfl (hb hby at_253) rfl  ?_
        show Steps p.tables e below (T64.setTop (mkF m 255 #[.val (.int p0), .val (.int p1), .val (.int p2), .val (.int p3), .val (.ref b2), .val (.int v5_81), .val (.int v6_90), .val (.int v7_105), .val (.int v8_109), .val (.ref b28)] [(.int v8_109), (.int v7_105), (.int v6_90), (.int v5_81), (.int (2 : Int32)), (.ref b28)])) _
        refine XS.aload X64.here hx rfl (hb hby at_255) rfl rfl ?_
        exact k
      obtain ⟨_, _, ⟨T67, L67, k67, n67⟩, -, X67, ⟨Lc67, hQ67, l67, y67, z67⟩, st67⟩ := Jvm.LawKit.callS X64 hx (y := (⟨"com/example/dayt/dayt/text/TextFormPutDigitsPinLaw", "at", "([BIIIIB[J)Z"⟩ : MethodName)) hown (mvT hZ (hw _ (List.mem_of_getElem? (i := 18) rfl))) (mvT hZ (hw _ (List.mem_of_getElem? (i := 19) rfl))) (mvT hZ (hw _ (List.mem_of_getElem? (i := 20) rfl))) (mvT hZ (hw _ (List.mem_of_getElem? (i := 21) rfl))) (by decide) (backOf (W := 0) (rm_2 l Z a0 hw [] b28 (2 : Int32) v5_81 v6_90 v7_105 v8_109 b2 (own_put (own_fl v8_109) v5_81.toNatClampNeg v6_90.toNatClampNeg v7_105) own_pt T59.heap n0 Z59 Q59_0 arr_b2_59 ⟨by decide, by decide⟩ (own_sc hv5_81 hv6_90) own_ptnz) hZ (hw _ (List.mem_of_getElem? (i := 21) rfl)) (hw _ (List.mem_of_getElem? (i := 20) rfl)) (by decide) (by decide)) (g := (mkF m 257 #[.val (.int p0), .val (.int p1), .val (.int p2), .val (.int p3), .val (.ref b2), .val (.int v5_81), .val (.int v6_90), .val (.int v7_105), .val (.int v8_109), .val (.ref b28)] [(.ref b2), (.int v8_109), (.int v7_105), (.int v6_90), (.int v5_81), (.int (2 : Int32)), (.ref b28)])) rfl (by rw [hml]; rfl) (argsL := [(.ref b28), (.int (2 : Int32)), (.int v5_81), (.int v6_90), (.int v7_105), (.int v8_109), (.ref b2)]) (rest := []) (lenOf pd_1 rfl) rfl (by show 2 * 0 + _ ≤ _; exact Nat.le_of_eq rfl) (hb hby at_257) (fun _ _ => ⟨rfl, e64, (by decide : 2 + 0 ≤ _), (by decide : 25 + 0 ≤ _)⟩)
      dsimp only [Pt.U, Pt.locs, Pt.cells, Pt.slots] at X67 l67 y67 z67 st67 hQ67
      rw [l67, y67, z67] at X67
      obtain ⟨rfl, N67q, e67⟩ := hQ67
      have N67 := Fr.app N64 N67q
      have pre69 : ∀ t, Steps p.tables e below (T67.setTop (mkF m 260 #[.val (.int p0), .val (.int p1), .val (.int p2), .val (.int p3), .val (.ref b2), .val (.int v5_81), .val (.int v6_90), .val (.int v7_105), .val (.int v8_109), .val (.ref b28)] [(.int (f_2 (2 : Int32) v5_81 v6_90 v7_105 v8_109 (own_put (own_fl v8_109) v5_81.toNatClampNeg v6_90.toNatClampNeg v7_105) own_pt))])) t → Steps p.tables e below (s₁.setTop (entryFrame m #[(.int p0), (.int p1), (.int p2), (.int p3)] maxLocals)) t := by
        intro t k
        refine pre68 t ?_
        show Steps p.tables e below (T64.setTop (mkF m 257 #[.val (.int p0), .val (.int p1), .val (.int p2), .val (.int p3), .val (.ref b2), .val (.int v5_81), .val (.int v6_90), .val (.int v7_105), .val (.int v8_109), .val (.ref b28)] [(.ref b2), (.int v8_109), (.int v7_105), (.int v6_90), (.int v5_81), (.int (2 : Int32)), (.ref b28)])) _
        refine st67 _ ?_
        exact k
      by_cases hc260 : (f_2 (2 : Int32) v5_81 v6_90 v7_105 v8_109 (own_put (own_fl v8_109) v5_81.toNatClampNeg v6_90.toNatClampNeg v7_105) own_pt) = (0 : Int32)
      · obtain ⟨fs, hr, hrun, hended, hW, hsame⟩ := X67.leave (v := some (.int (0 : Int32))) (fun h => by rw [Bd.returns] at h; cases h) (BodyLoose.notSynchronized Bd)
        refine ⟨_, _, pre69 _ ?_, hrun, hended, _, _, rfl, ?_, ⟨_, rfl⟩, hW, hsame.mono (by decide) (by decide)⟩
        · show Steps p.tables e below (T67.setTop (mkF m 260 #[.val (.int p0), .val (.int p1), .val (.int p2), .val (.int p3), .val (.ref b2), .val (.int v5_81), .val (.int v6_90), .val (.int v7_105), .val (.int v8_109), .val (.ref b28)] [(.int (f_2 (2 : Int32) v5_81 v6_90 v7_105 v8_109 (own_put (own_fl v8_109) v5_81.toNatClampNeg v6_90.toNatClampNeg v7_105) own_pt))])) _
          refine XS.ifYes X67.here hx rfl (pc0 := 260) (pc' := 484) rfl (hb hby at_260) rfl ((if0 _ _).trans (teq hc260).1) (by decide) (by decide) ?_
          show Steps p.tables e below (T67.setTop (mkF m 484 #[.val (.int p0), .val (.int p1), .val (.int p2), .val (.int p3), .val (.ref b2), .val (.int v5_81), .val (.int v6_90), .val (.int v7_105), .val (.int v8_109), .val (.ref b28)] [])) _
          refine XS.iconst X67.here hx rfl (hb hby at_484) ?_
          show Steps p.tables e below (T67.setTop (mkF m 485 #[.val (.int p0), .val (.int p1), .val (.int p2), .val (.int p3), .val (.ref b2), .val (.int v5_81), .val (.int v6_90), .val (.int v7_105), .val (.int v8_109), .val (.ref b28)] [(.int (0 : Int32))])) _
          exact retN X67 hx (t := .boolean) Bd.returns (by simp) (hb hby at_485) hr
        · show Q_0 Z p0 p1 p2 p3 h0 n0 _ T67.heap _
          rw [e67]
          exact ⟨congrArg (fun z => some (Value.int z)) (by subst hg_7 hg_13 hg_19 hg_25 hg_31 hg_37 hg_44 hg_51 hg_58 hg_65 hg_72 hv5_81 hv6_90 hv7_105 hv8_109 hg_119 hg_124 hg_129 hg_134 hg_139 hg_144 hg_150 hg_156 hg_162 hg_168 hg_174 hg_180 hg_186 hg_192; exact ((if_neg hc222).trans ((if_neg hc241).trans (if_pos hc260))).symm : (0 : Int32) = f_0 p0 p1 p2 p3), N67, trivial⟩
      · have pre71 : ∀ t, Steps p.tables e below (T67.setTop (mkF m 276 #[.val (.int p0), .val (.int p1), .val (.int p2), .val (.int p3), .val (.ref b2), .val (.int v5_81), .val (.int v6_90), .val (.int v7_105), .val (.int v8_109), .val (.ref b28)] [(.ref b2), (.int v8_109), (.int v7_105), (.int v6_90), (.int v5_81), (.int (3 : Int32)), (.ref b28)])) t → Steps p.tables e below (s₁.setTop (entryFrame m #[(.int p0), (.int p1), (.int p2), (.int p3)] maxLocals)) t := by
          intro t k
          refine pre69 t ?_
          show Steps p.tables e below (T67.setTop (mkF m 260 #[.val (.int p0), .val (.int p1), .val (.int p2), .val (.int p3), .val (.ref b2), .val (.int v5_81), .val (.int v6_90), .val (.int v7_105), .val (.int v8_109), .val (.ref b28)] [(.int (f_2 (2 : Int32) v5_81 v6_90 v7_105 v8_109 (own_put (own_fl v8_109) v5_81.toNatClampNeg v6_90.toNatClampNeg v7_105) own_pt))])) _
          refine XS.ifNo X67.here hx rfl (hb hby at_260) rfl ((if0 _ _).trans (feq hc260).1) ?_
          show Steps p.tables e below (T67.setTop (mkF m 263 #[.val (.int p0), .val (.int p1), .val (.int p2), .val (.int p3), .val (.ref b2), .val (.int v5_81), .val (.int v6_90), .val (.int v7_105), .val (.int v8_109), .val (.ref b28)] [])) _
          refine XS.aload X67.here hx rfl (hb hby at_263) rfl rfl ?_
          show Steps p.tables e below (T67.setTop (mkF m 265 #[.val (.int p0), .val (.int p1), .val (.int p2), .val (.int p3), .val (.ref b2), .val (.int v5_81), .val (.int v6_90), .val (.int v7_105), .val (.int v8_109), .val (.ref b28)] [(.ref b28)])) _
          refine XS.iconst X67.here hx rfl (hb hby at_265) ?_
          show Steps p.tables e below (T67.setTop (mkF m 266 #[.val (.int p0), .val (.int p1), .val (.int p2), .val (.int p3), .val (.ref b2), .val (.int v5_81), .val (.int v6_90), .val (.int v7_105), .val (.int v8_109), .val (.ref b28)] [(.int (3 : Int32)), (.ref b28)])) _
          refine XS.iload X67.here hx rfl (hb hby at_266) rfl  ?_
          show Steps p.tables e below (T67.setTop (mkF m 268 #[.val (.int p0), .val (.int p1), .val (.int p2), .val (.int p3), .val (.ref b2), .val (.int v5_81), .val (.int v6_90), .val (.int v7_105), .val (.int v8_109), .val (.ref b28)] [(.int v5_81), (.int (3 : Int32)), (.ref b28)])) _
          refine XS.iload X67.here hx rfl (hb hby at_268) rfl  ?_
          show Steps p.tables e below (T67.setTop (mkF m 270 #[.val (.int p0), .val (.int p1), .val (.int p2), .val (.int p3), .val (.ref b2), .val (.int v5_81), .val (.int v6_90), .val (.int v7_105), .val (.int v8_109), .val (.ref b28)] [(.int v6_90), (.int v5_81), (.int (3 : Int32)), (.ref b28)])) _
          refine XS.iload X67.here hx rfl (hb hby at_270) rfl  ?_
          show Steps p.tables e below (T67.setTop (mkF m 272 #[.val (.int p0), .val (.int p1), .val (.int p2), .val (.int p3), .val (.ref b2), .val (.int v5_81), .val (.int v6_90), .val (.int v7_105), .val (.int v8_109), .val (.ref b28)] [(.int v7_105), (.int v6_90), (.int v5_81), (.int (3 : Int32)), (.ref b28)])) _
          refine XS.iload X67.here hx rfl (hb hby at_272) rfl  ?_
          show Steps p.tables e below (T67.setTop (mkF m 274 #[.val (.int p0), .val (.int p1), .val (.int p2), .val (.int p3), .val (.ref b2), .val (.int v5_81), .val (.int v6_90), .val (.int v7_105), .val (.int v8_109), .val (.ref b28)] [(.int v8_109), (.int v7_105), (.int v6_90), (.int v5_81), (.int (3 : Int32)), (.ref b28)])) _
          refine XS.aload X67.here hx rfl (hb hby at_274) rfl rfl ?_
          exact k
        obtain ⟨_, _, ⟨T70, L70, k70, n70⟩, -, X70, ⟨Lc70, hQ70, l70, y70, z70⟩, st70⟩ := Jvm.LawKit.callS X67 hx (y := (⟨"com/example/dayt/dayt/text/TextFormPutDigitsPinLaw", "at", "([BIIIIB[J)Z"⟩ : MethodName)) hown (mvT hZ (hw _ (List.mem_of_getElem? (i := 18) rfl))) (mvT hZ (hw _ (List.mem_of_getElem? (i := 19) rfl))) (mvT hZ (hw _ (List.mem_of_getElem? (i := 20) rfl))) (mvT hZ (hw _ (List.mem_of_getElem? (i := 21) rfl))) (by decide) (backOf (W := 0) (rm_2 l Z a0 hw [] b28 (3 : Int32) v5_81 v6_90 v7_105 v8_109 b2 (own_put (own_fl v8_109) v5_81.toNatClampNeg v6_90.toNatClampNeg v7_105) own_pt T59.heap n0 Z59 Q59_0 arr_b2_59 ⟨by decide, by decide⟩ (own_sc hv5_81 hv6_90) own_ptnz) hZ (hw _ (List.mem_of_getElem? (i := 21) rfl)) (hw _ (List.mem_of_getElem? (i := 20) rfl)) (by decide) (by decide)) (g := (mkF m 276 #[.val (.int p0), .val (.int p1), .val (.int p2), .val (.int p3), .val (.ref b2), .val (.int v5_81), .val (.int v6_90), .val (.int v7_105), .val (.int v8_109), .val (.ref b28)] [(.ref b2), (.int v8_109), (.int v7_105), (.int v6_90), (.int v5_81), (.int (3 : Int32)), (.ref b28)])) rfl (by rw [hml]; rfl) (argsL := [(.ref b28), (.int (3 : Int32)), (.int v5_81), (.int v6_90), (.int v7_105), (.int v8_109), (.ref b2)]) (rest := []) (lenOf pd_1 rfl) rfl (by show 2 * 0 + _ ≤ _; exact Nat.le_of_eq rfl) (hb hby at_276) (fun _ _ => ⟨rfl, e67, (by decide : 2 + 0 ≤ _), (by decide : 25 + 0 ≤ _)⟩)
        dsimp only [Pt.U, Pt.locs, Pt.cells, Pt.slots] at X70 l70 y70 z70 st70 hQ70
        rw [l70, y70, z70] at X70
        obtain ⟨rfl, N70q, e70⟩ := hQ70
        have N70 := Fr.app N67 N70q
        have pre72 : ∀ t, Steps p.tables e below (T70.setTop (mkF m 279 #[.val (.int p0), .val (.int p1), .val (.int p2), .val (.int p3), .val (.ref b2), .val (.int v5_81), .val (.int v6_90), .val (.int v7_105), .val (.int v8_109), .val (.ref b28)] [(.int (f_2 (3 : Int32) v5_81 v6_90 v7_105 v8_109 (own_put (own_fl v8_109) v5_81.toNatClampNeg v6_90.toNatClampNeg v7_105) own_pt))])) t → Steps p.tables e below (s₁.setTop (entryFrame m #[(.int p0), (.int p1), (.int p2), (.int p3)] maxLocals)) t := by
          intro t k
          refine pre71 t ?_
          show Steps p.tables e below (T67.setTop (mkF m 276 #[.val (.int p0), .val (.int p1), .val (.int p2), .val (.int p3), .val (.ref b2), .val (.int v5_81), .val (.int v6_90), .val (.int v7_105), .val (.int v8_109), .val (.ref b28)] [(.ref b2), (.int v8_109), (.int v7_105), (.int v6_90), (.int v5_81), (.int (3 : Int32)), (.ref b28)])) _
          refine st70 _ ?_
          exact k
        by_cases hc279 : (f_2 (3 : Int32) v5_81 v6_90 v7_105 v8_109 (own_put (own_fl v8_109) v5_81.toNatClampNeg v6_90.toNatClampNeg v7_105) own_pt) = (0 : Int32)
        · obtain ⟨fs, hr, hrun, hended, hW, hsame⟩ := X70.leave (v := some (.int (0 : Int32))) (fun h => by rw [Bd.returns] at h; cases h) (BodyLoose.notSynchronized Bd)
          refine ⟨_, _, pre72 _ ?_, hrun, hended, _, _, rfl, ?_, ⟨_, rfl⟩, hW, hsame.mono (by decide) (by decide)⟩
          · show Steps p.tables e below (T70.setTop (mkF m 279 #[.val (.int p0), .val (.int p1), .val (.int p2), .val (.int p3), .val (.ref b2), .val (.int v5_81), .val (.int v6_90), .val (.int v7_105), .val (.int v8_109), .val (.ref b28)] [(.int (f_2 (3 : Int32) v5_81 v6_90 v7_105 v8_109 (own_put (own_fl v8_109) v5_81.toNatClampNeg v6_90.toNatClampNeg v7_105) own_pt))])) _
            refine XS.ifYes X70.here hx rfl (pc0 := 279) (pc' := 484) rfl (hb hby at_279) rfl ((if0 _ _).trans (teq hc279).1) (by decide) (by decide) ?_
            show Steps p.tables e below (T70.setTop (mkF m 484 #[.val (.int p0), .val (.int p1), .val (.int p2), .val (.int p3), .val (.ref b2), .val (.int v5_81), .val (.int v6_90), .val (.int v7_105), .val (.int v8_109), .val (.ref b28)] [])) _
            refine XS.iconst X70.here hx rfl (hb hby at_484) ?_
            show Steps p.tables e below (T70.setTop (mkF m 485 #[.val (.int p0), .val (.int p1), .val (.int p2), .val (.int p3), .val (.ref b2), .val (.int v5_81), .val (.int v6_90), .val (.int v7_105), .val (.int v8_109), .val (.ref b28)] [(.int (0 : Int32))])) _
            exact retN X70 hx (t := .boolean) Bd.returns (by simp) (hb hby at_485) hr
          · show Q_0 Z p0 p1 p2 p3 h0 n0 _ T70.heap _
            rw [e70]
            exact ⟨congrArg (fun z => some (Value.int z)) (by subst hg_7 hg_13 hg_19 hg_25 hg_31 hg_37 hg_44 hg_51 hg_58 hg_65 hg_72 hv5_81 hv6_90 hv7_105 hv8_109 hg_119 hg_124 hg_129 hg_134 hg_139 hg_144 hg_150 hg_156 hg_162 hg_168 hg_174 hg_180 hg_186 hg_192; exact ((if_neg hc222).trans ((if_neg hc241).trans ((if_neg hc260).trans (if_pos hc279)))).symm : (0 : Int32) = f_0 p0 p1 p2 p3), N70, trivial⟩
        · have pre74 : ∀ t, Steps p.tables e below (T70.setTop (mkF m 295 #[.val (.int p0), .val (.int p1), .val (.int p2), .val (.int p3), .val (.ref b2), .val (.int v5_81), .val (.int v6_90), .val (.int v7_105), .val (.int v8_109), .val (.ref b28)] [(.ref b2), (.int v8_109), (.int v7_105), (.int v6_90), (.int v5_81), (.int (4 : Int32)), (.ref b28)])) t → Steps p.tables e below (s₁.setTop (entryFrame m #[(.int p0), (.int p1), (.int p2), (.int p3)] maxLocals)) t := by
            intro t k
            refine pre72 t ?_
            show Steps p.tables e below (T70.setTop (mkF m 279 #[.val (.int p0), .val (.int p1), .val (.int p2), .val (.int p3), .val (.ref b2), .val (.int v5_81), .val (.int v6_90), .val (.int v7_105), .val (.int v8_109), .val (.ref b28)] [(.int (f_2 (3 : Int32) v5_81 v6_90 v7_105 v8_109 (own_put (own_fl v8_109) v5_81.toNatClampNeg v6_90.toNatClampNeg v7_105) own_pt))])) _
            refine XS.ifNo X70.here hx rfl (hb hby at_279) rfl ((if0 _ _).trans (feq hc279).1) ?_
            show Steps p.tables e below (T70.setTop (mkF m 282 #[.val (.int p0), .val (.int p1), .val (.int p2), .val (.int p3), .val (.ref b2), .val (.int v5_81), .val (.int v6_90), .val (.int v7_105), .val (.int v8_109), .val (.ref b28)] [])) _
            refine XS.aload X70.here hx rfl (hb hby at_282) rfl rfl ?_
            show Steps p.tables e below (T70.setTop (mkF m 284 #[.val (.int p0), .val (.int p1), .val (.int p2), .val (.int p3), .val (.ref b2), .val (.int v5_81), .val (.int v6_90), .val (.int v7_105), .val (.int v8_109), .val (.ref b28)] [(.ref b28)])) _
            refine XS.iconst X70.here hx rfl (hb hby at_284) ?_
            show Steps p.tables e below (T70.setTop (mkF m 285 #[.val (.int p0), .val (.int p1), .val (.int p2), .val (.int p3), .val (.ref b2), .val (.int v5_81), .val (.int v6_90), .val (.int v7_105), .val (.int v8_109), .val (.ref b28)] [(.int (4 : Int32)), (.ref b28)])) _
            refine XS.iload X70.here hx rfl (hb hby at_285) rfl  ?_
            show Steps p.tables e below (T70.setTop (mkF m 287 #[.val (.int p0), .val (.int p1), .val (.int p2), .val (.int p3), .val (.ref b2), .val (.int v5_81), .val (.int v6_90), .val (.int v7_105), .val (.int v8_109), .val (.ref b28)] [(.int v5_81), (.int (4 : Int32)), (.ref b28)])) _
            refine XS.iload X70.here hx rfl (hb hby at_287) rfl  ?_
            show Steps p.tables e below (T70.setTop (mkF m 289 #[.val (.int p0), .val (.int p1), .val (.int p2), .val (.int p3), .val (.ref b2), .val (.int v5_81), .val (.int v6_90), .val (.int v7_105), .val (.int v8_109), .val (.ref b28)] [(.int v6_90), (.int v5_81), (.int (4 : Int32)), (.ref b28)])) _
            refine XS.iload X70.here hx rfl (hb hby at_289) rfl  ?_
            show Steps p.tables e below (T70.setTop (mkF m 291 #[.val (.int p0), .val (.int p1), .val (.int p2), .val (.int p3), .val (.ref b2), .val (.int v5_81), .val (.int v6_90), .val (.int v7_105), .val (.int v8_109), .val (.ref b28)] [(.int v7_105), (.int v6_90), (.int v5_81), (.int (4 : Int32)), (.ref b28)])) _
            refine XS.iload X70.here hx rfl (hb hby at_291) rfl  ?_
            show Steps p.tables e below (T70.setTop (mkF m 293 #[.val (.int p0), .val (.int p1), .val (.int p2), .val (.int p3), .val (.ref b2), .val (.int v5_81), .val (.int v6_90), .val (.int v7_105), .val (.int v8_109), .val (.ref b28)] [(.int v8_109), (.int v7_105), (.int v6_90), (.int v5_81), (.int (4 : Int32)), (.ref b28)])) _
            refine XS.aload X70.here hx rfl (hb hby at_293) rfl rfl ?_
            exact k
          obtain ⟨_, _, ⟨T73, L73, k73, n73⟩, -, X73, ⟨Lc73, hQ73, l73, y73, z73⟩, st73⟩ := Jvm.LawKit.callS X70 hx (y := (⟨"com/example/dayt/dayt/text/TextFormPutDigitsPinLaw", "at", "([BIIIIB[J)Z"⟩ : MethodName)) hown (mvT hZ (hw _ (List.mem_of_getElem? (i := 18) rfl))) (mvT hZ (hw _ (List.mem_of_getElem? (i := 19) rfl))) (mvT hZ (hw _ (List.mem_of_getElem? (i := 20) rfl))) (mvT hZ (hw _ (List.mem_of_getElem? (i := 21) rfl))) (by decide) (backOf (W := 0) (rm_2 l Z a0 hw [] b28 (4 : Int32) v5_81 v6_90 v7_105 v8_109 b2 (own_put (own_fl v8_109) v5_81.toNatClampNeg v6_90.toNatClampNeg v7_105) own_pt T59.heap n0 Z59 Q59_0 arr_b2_59 ⟨by decide, by decide⟩ (own_sc hv5_81 hv6_90) own_ptnz) hZ (hw _ (List.mem_of_getElem? (i := 21) rfl)) (hw _ (List.mem_of_getElem? (i := 20) rfl)) (by decide) (by decide)) (g := (mkF m 295 #[.val (.int p0), .val (.int p1), .val (.int p2), .val (.int p3), .val (.ref b2), .val (.int v5_81), .val (.int v6_90), .val (.int v7_105), .val (.int v8_109), .val (.ref b28)] [(.ref b2), (.int v8_109), (.int v7_105), (.int v6_90), (.int v5_81), (.int (4 : Int32)), (.ref b28)])) rfl (by rw [hml]; rfl) (argsL := [(.ref b28), (.int (4 : Int32)), (.int v5_81), (.int v6_90), (.int v7_105), (.int v8_109), (.ref b2)]) (rest := []) (lenOf pd_1 rfl) rfl (by show 2 * 0 + _ ≤ _; exact Nat.le_of_eq rfl) (hb hby at_295) (fun _ _ => ⟨rfl, e70, (by decide : 2 + 0 ≤ _), (by decide : 25 + 0 ≤ _)⟩)
          dsimp only [Pt.U, Pt.locs, Pt.cells, Pt.slots] at X73 l73 y73 z73 st73 hQ73
          rw [l73, y73, z73] at X73
          obtain ⟨rfl, N73q, e73⟩ := hQ73
          have N73 := Fr.app N70 N73q
          have pre75 : ∀ t, Steps p.tables e below (T73.setTop (mkF m 298 #[.val (.int p0), .val (.int p1), .val (.int p2), .val (.int p3), .val (.ref b2), .val (.int v5_81), .val (.int v6_90), .val (.int v7_105), .val (.int v8_109), .val (.ref b28)] [(.int (f_2 (4 : Int32) v5_81 v6_90 v7_105 v8_109 (own_put (own_fl v8_109) v5_81.toNatClampNeg v6_90.toNatClampNeg v7_105) own_pt))])) t → Steps p.tables e below (s₁.setTop (entryFrame m #[(.int p0), (.int p1), (.int p2), (.int p3)] maxLocals)) t := by
            intro t k
            refine pre74 t ?_
            show Steps p.tables e below (T70.setTop (mkF m 295 #[.val (.int p0), .val (.int p1), .val (.int p2), .val (.int p3), .val (.ref b2), .val (.int v5_81), .val (.int v6_90), .val (.int v7_105), .val (.int v8_109), .val (.ref b28)] [(.ref b2), (.int v8_109), (.int v7_105), (.int v6_90), (.int v5_81), (.int (4 : Int32)), (.ref b28)])) _
            refine st73 _ ?_
            exact k
          by_cases hc298 : (f_2 (4 : Int32) v5_81 v6_90 v7_105 v8_109 (own_put (own_fl v8_109) v5_81.toNatClampNeg v6_90.toNatClampNeg v7_105) own_pt) = (0 : Int32)
          · obtain ⟨fs, hr, hrun, hended, hW, hsame⟩ := X73.leave (v := some (.int (0 : Int32))) (fun h => by rw [Bd.returns] at h; cases h) (BodyLoose.notSynchronized Bd)
            refine ⟨_, _, pre75 _ ?_, hrun, hended, _, _, rfl, ?_, ⟨_, rfl⟩, hW, hsame.mono (by decide) (by decide)⟩
            · show Steps p.tables e below (T73.setTop (mkF m 298 #[.val (.int p0), .val (.int p1), .val (.int p2), .val (.int p3), .val (.ref b2), .val (.int v5_81), .val (.int v6_90), .val (.int v7_105), .val (.int v8_109), .val (.ref b28)] [(.int (f_2 (4 : Int32) v5_81 v6_90 v7_105 v8_109 (own_put (own_fl v8_109) v5_81.toNatClampNeg v6_90.toNatClampNeg v7_105) own_pt))])) _
              refine XS.ifYes X73.here hx rfl (pc0 := 298) (pc' := 484) rfl (hb hby at_298) rfl ((if0 _ _).trans (teq hc298).1) (by decide) (by decide) ?_
              show Steps p.tables e below (T73.setTop (mkF m 484 #[.val (.int p0), .val (.int p1), .val (.int p2), .val (.int p3), .val (.ref b2), .val (.int v5_81), .val (.int v6_90), .val (.int v7_105), .val (.int v8_109), .val (.ref b28)] [])) _
              refine XS.iconst X73.here hx rfl (hb hby at_484) ?_
              show Steps p.tables e below (T73.setTop (mkF m 485 #[.val (.int p0), .val (.int p1), .val (.int p2), .val (.int p3), .val (.ref b2), .val (.int v5_81), .val (.int v6_90), .val (.int v7_105), .val (.int v8_109), .val (.ref b28)] [(.int (0 : Int32))])) _
              exact retN X73 hx (t := .boolean) Bd.returns (by simp) (hb hby at_485) hr
            · show Q_0 Z p0 p1 p2 p3 h0 n0 _ T73.heap _
              rw [e73]
              exact ⟨congrArg (fun z => some (Value.int z)) (by subst hg_7 hg_13 hg_19 hg_25 hg_31 hg_37 hg_44 hg_51 hg_58 hg_65 hg_72 hv5_81 hv6_90 hv7_105 hv8_109 hg_119 hg_124 hg_129 hg_134 hg_139 hg_144 hg_150 hg_156 hg_162 hg_168 hg_174 hg_180 hg_186 hg_192; exact ((if_neg hc222).trans ((if_neg hc241).trans ((if_neg hc260).trans ((if_neg hc279).trans (if_pos hc298))))).symm : (0 : Int32) = f_0 p0 p1 p2 p3), N73, trivial⟩
          · have pre77 : ∀ t, Steps p.tables e below (T73.setTop (mkF m 314 #[.val (.int p0), .val (.int p1), .val (.int p2), .val (.int p3), .val (.ref b2), .val (.int v5_81), .val (.int v6_90), .val (.int v7_105), .val (.int v8_109), .val (.ref b28)] [(.ref b2), (.int v8_109), (.int v7_105), (.int v6_90), (.int v5_81), (.int (5 : Int32)), (.ref b28)])) t → Steps p.tables e below (s₁.setTop (entryFrame m #[(.int p0), (.int p1), (.int p2), (.int p3)] maxLocals)) t := by
              intro t k
              refine pre75 t ?_
              show Steps p.tables e below (T73.setTop (mkF m 298 #[.val (.int p0), .val (.int p1), .val (.int p2), .val (.int p3), .val (.ref b2), .val (.int v5_81), .val (.int v6_90), .val (.int v7_105), .val (.int v8_109), .val (.ref b28)] [(.int (f_2 (4 : Int32) v5_81 v6_90 v7_105 v8_109 (own_put (own_fl v8_109) v5_81.toNatClampNeg v6_90.toNatClampNeg v7_105) own_pt))])) _
              refine XS.ifNo X73.here hx rfl (hb hby at_298) rfl ((if0 _ _).trans (feq hc298).1) ?_
              show Steps p.tables e below (T73.setTop (mkF m 301 #[.val (.int p0), .val (.int p1), .val (.int p2), .val (.int p3), .val (.ref b2), .val (.int v5_81), .val (.int v6_90), .val (.int v7_105), .val (.int v8_109), .val (.ref b28)] [])) _
              refine XS.aload X73.here hx rfl (hb hby at_301) rfl rfl ?_
              show Steps p.tables e below (T73.setTop (mkF m 303 #[.val (.int p0), .val (.int p1), .val (.int p2), .val (.int p3), .val (.ref b2), .val (.int v5_81), .val (.int v6_90), .val (.int v7_105), .val (.int v8_109), .val (.ref b28)] [(.ref b28)])) _
              refine XS.iconst X73.here hx rfl (hb hby at_303) ?_
              show Steps p.tables e below (T73.setTop (mkF m 304 #[.val (.int p0), .val (.int p1), .val (.int p2), .val (.int p3), .val (.ref b2), .val (.int v5_81), .val (.int v6_90), .val (.int v7_105), .val (.int v8_109), .val (.ref b28)] [(.int (5 : Int32)), (.ref b28)])) _
              refine XS.iload X73.here hx rfl (hb hby at_304) rfl  ?_
              show Steps p.tables e below (T73.setTop (mkF m 306 #[.val (.int p0), .val (.int p1), .val (.int p2), .val (.int p3), .val (.ref b2), .val (.int v5_81), .val (.int v6_90), .val (.int v7_105), .val (.int v8_109), .val (.ref b28)] [(.int v5_81), (.int (5 : Int32)), (.ref b28)])) _
              refine XS.iload X73.here hx rfl (hb hby at_306) rfl  ?_
              show Steps p.tables e below (T73.setTop (mkF m 308 #[.val (.int p0), .val (.int p1), .val (.int p2), .val (.int p3), .val (.ref b2), .val (.int v5_81), .val (.int v6_90), .val (.int v7_105), .val (.int v8_109), .val (.ref b28)] [(.int v6_90), (.int v5_81), (.int (5 : Int32)), (.ref b28)])) _
              refine XS.iload X73.here hx rfl (hb hby at_308) rfl  ?_
              show Steps p.tables e below (T73.setTop (mkF m 310 #[.val (.int p0), .val (.int p1), .val (.int p2), .val (.int p3), .val (.ref b2), .val (.int v5_81), .val (.int v6_90), .val (.int v7_105), .val (.int v8_109), .val (.ref b28)] [(.int v7_105), (.int v6_90), (.int v5_81), (.int (5 : Int32)), (.ref b28)])) _
              refine XS.iload X73.here hx rfl (hb hby at_310) rfl  ?_
              show Steps p.tables e below (T73.setTop (mkF m 312 #[.val (.int p0), .val (.int p1), .val (.int p2), .val (.int p3), .val (.ref b2), .val (.int v5_81), .val (.int v6_90), .val (.int v7_105), .val (.int v8_109), .val (.ref b28)] [(.int v8_109), (.int v7_105), (.int v6_90), (.int v5_81), (.int (5 : Int32)), (.ref b28)])) _
              refine XS.aload X73.here hx rfl (hb hby at_312) rfl rfl ?_
              exact k
            obtain ⟨_, _, ⟨T76, L76, k76, n76⟩, -, X76, ⟨Lc76, hQ76, l76, y76, z76⟩, st76⟩ := Jvm.LawKit.callS X73 hx (y := (⟨"com/example/dayt/dayt/text/TextFormPutDigitsPinLaw", "at", "([BIIIIB[J)Z"⟩ : MethodName)) hown (mvT hZ (hw _ (List.mem_of_getElem? (i := 18) rfl))) (mvT hZ (hw _ (List.mem_of_getElem? (i := 19) rfl))) (mvT hZ (hw _ (List.mem_of_getElem? (i := 20) rfl))) (mvT hZ (hw _ (List.mem_of_getElem? (i := 21) rfl))) (by decide) (backOf (W := 0) (rm_2 l Z a0 hw [] b28 (5 : Int32) v5_81 v6_90 v7_105 v8_109 b2 (own_put (own_fl v8_109) v5_81.toNatClampNeg v6_90.toNatClampNeg v7_105) own_pt T59.heap n0 Z59 Q59_0 arr_b2_59 ⟨by decide, by decide⟩ (own_sc hv5_81 hv6_90) own_ptnz) hZ (hw _ (List.mem_of_getElem? (i := 21) rfl)) (hw _ (List.mem_of_getElem? (i := 20) rfl)) (by decide) (by decide)) (g := (mkF m 314 #[.val (.int p0), .val (.int p1), .val (.int p2), .val (.int p3), .val (.ref b2), .val (.int v5_81), .val (.int v6_90), .val (.int v7_105), .val (.int v8_109), .val (.ref b28)] [(.ref b2), (.int v8_109), (.int v7_105), (.int v6_90), (.int v5_81), (.int (5 : Int32)), (.ref b28)])) rfl (by rw [hml]; rfl) (argsL := [(.ref b28), (.int (5 : Int32)), (.int v5_81), (.int v6_90), (.int v7_105), (.int v8_109), (.ref b2)]) (rest := []) (lenOf pd_1 rfl) rfl (by show 2 * 0 + _ ≤ _; exact Nat.le_of_eq rfl) (hb hby at_314) (fun _ _ => ⟨rfl, e73, (by decide : 2 + 0 ≤ _), (by decide : 25 + 0 ≤ _)⟩)
            dsimp only [Pt.U, Pt.locs, Pt.cells, Pt.slots] at X76 l76 y76 z76 st76 hQ76
            rw [l76, y76, z76] at X76
            obtain ⟨rfl, N76q, e76⟩ := hQ76
            have N76 := Fr.app N73 N76q
            have pre78 : ∀ t, Steps p.tables e below (T76.setTop (mkF m 317 #[.val (.int p0), .val (.int p1), .val (.int p2), .val (.int p3), .val (.ref b2), .val (.int v5_81), .val (.int v6_90), .val (.int v7_105), .val (.int v8_109), .val (.ref b28)] [(.int (f_2 (5 : Int32) v5_81 v6_90 v7_105 v8_109 (own_put (own_fl v8_109) v5_81.toNatClampNeg v6_90.toNatClampNeg v7_105) own_pt))])) t → Steps p.tables e below (s₁.setTop (entryFrame m #[(.int p0), (.int p1), (.int p2), (.int p3)] maxLocals)) t := by
              intro t k
              refine pre77 t ?_
              show Steps p.tables e below (T73.setTop (mkF m 314 #[.val (.int p0), .val (.int p1), .val (.int p2), .val (.int p3), .val (.ref b2), .val (.int v5_81), .val (.int v6_90), .val (.int v7_105), .val (.int v8_109), .val (.ref b28)] [(.ref b2), (.int v8_109), (.int v7_105), (.int v6_90), (.int v5_81), (.int (5 : Int32)), (.ref b28)])) _
              refine st76 _ ?_
              exact k
            by_cases hc317 : (f_2 (5 : Int32) v5_81 v6_90 v7_105 v8_109 (own_put (own_fl v8_109) v5_81.toNatClampNeg v6_90.toNatClampNeg v7_105) own_pt) = (0 : Int32)
            · obtain ⟨fs, hr, hrun, hended, hW, hsame⟩ := X76.leave (v := some (.int (0 : Int32))) (fun h => by rw [Bd.returns] at h; cases h) (BodyLoose.notSynchronized Bd)
              refine ⟨_, _, pre78 _ ?_, hrun, hended, _, _, rfl, ?_, ⟨_, rfl⟩, hW, hsame.mono (by decide) (by decide)⟩
              · show Steps p.tables e below (T76.setTop (mkF m 317 #[.val (.int p0), .val (.int p1), .val (.int p2), .val (.int p3), .val (.ref b2), .val (.int v5_81), .val (.int v6_90), .val (.int v7_105), .val (.int v8_109), .val (.ref b28)] [(.int (f_2 (5 : Int32) v5_81 v6_90 v7_105 v8_109 (own_put (own_fl v8_109) v5_81.toNatClampNeg v6_90.toNatClampNeg v7_105) own_pt))])) _
                refine XS.ifYes X76.here hx rfl (pc0 := 317) (pc' := 484) rfl (hb hby at_317) rfl ((if0 _ _).trans (teq hc317).1) (by decide) (by decide) ?_
                show Steps p.tables e below (T76.setTop (mkF m 484 #[.val (.int p0), .val (.int p1), .val (.int p2), .val (.int p3), .val (.ref b2), .val (.int v5_81), .val (.int v6_90), .val (.int v7_105), .val (.int v8_109), .val (.ref b28)] [])) _
                refine XS.iconst X76.here hx rfl (hb hby at_484) ?_
                show Steps p.tables e below (T76.setTop (mkF m 485 #[.val (.int p0), .val (.int p1), .val (.int p2), .val (.int p3), .val (.ref b2), .val (.int v5_81), .val (.int v6_90), .val (.int v7_105), .val (.int v8_109), .val (.ref b28)] [(.int (0 : Int32))])) _
                exact retN X76 hx (t := .boolean) Bd.returns (by simp) (hb hby at_485) hr
              · show Q_0 Z p0 p1 p2 p3 h0 n0 _ T76.heap _
                rw [e76]
                exact ⟨congrArg (fun z => some (Value.int z)) (by subst hg_7 hg_13 hg_19 hg_25 hg_31 hg_37 hg_44 hg_51 hg_58 hg_65 hg_72 hv5_81 hv6_90 hv7_105 hv8_109 hg_119 hg_124 hg_129 hg_134 hg_139 hg_144 hg_150 hg_156 hg_162 hg_168 hg_174 hg_180 hg_186 hg_192; exact ((if_neg hc222).trans ((if_neg hc241).trans ((if_neg hc260).trans ((if_neg hc279).trans ((if_neg hc298).trans (if_pos hc317)))))).symm : (0 : Int32) = f_0 p0 p1 p2 p3), N76, trivial⟩
            · have pre80 : ∀ t, Steps p.tables e below (T76.setTop (mkF m 334 #[.val (.int p0), .val (.int p1), .val (.int p2), .val (.int p3), .val (.ref b2), .val (.int v5_81), .val (.int v6_90), .val (.int v7_105), .val (.int v8_109), .val (.ref b28)] [(.ref b2), (.int v8_109), (.int v7_105), (.int v6_90), (.int v5_81), (.int (6 : Int32)), (.ref b28)])) t → Steps p.tables e below (s₁.setTop (entryFrame m #[(.int p0), (.int p1), (.int p2), (.int p3)] maxLocals)) t := by
                intro t k
                refine pre78 t ?_
                show Steps p.tables e below (T76.setTop (mkF m 317 #[.val (.int p0), .val (.int p1), .val (.int p2), .val (.int p3), .val (.ref b2), .val (.int v5_81), .val (.int v6_90), .val (.int v7_105), .val (.int v8_109), .val (.ref b28)] [(.int (f_2 (5 : Int32) v5_81 v6_90 v7_105 v8_109 (own_put (own_fl v8_109) v5_81.toNatClampNeg v6_90.toNatClampNeg v7_105) own_pt))])) _
                refine XS.ifNo X76.here hx rfl (hb hby at_317) rfl ((if0 _ _).trans (feq hc317).1) ?_
                show Steps p.tables e below (T76.setTop (mkF m 320 #[.val (.int p0), .val (.int p1), .val (.int p2), .val (.int p3), .val (.ref b2), .val (.int v5_81), .val (.int v6_90), .val (.int v7_105), .val (.int v8_109), .val (.ref b28)] [])) _
                refine XS.aload X76.here hx rfl (hb hby at_320) rfl rfl ?_
                show Steps p.tables e below (T76.setTop (mkF m 322 #[.val (.int p0), .val (.int p1), .val (.int p2), .val (.int p3), .val (.ref b2), .val (.int v5_81), .val (.int v6_90), .val (.int v7_105), .val (.int v8_109), .val (.ref b28)] [(.ref b28)])) _
                refine XS.bipush X76.here hx rfl (hb hby at_322) ?_
                show Steps p.tables e below (T76.setTop (mkF m 324 #[.val (.int p0), .val (.int p1), .val (.int p2), .val (.int p3), .val (.ref b2), .val (.int v5_81), .val (.int v6_90), .val (.int v7_105), .val (.int v8_109), .val (.ref b28)] [(.int (6 : Int32)), (.ref b28)])) _
                refine XS.iload X76.here hx rfl (hb hby at_324) rfl  ?_
                show Steps p.tables e below (T76.setTop (mkF m 326 #[.val (.int p0), .val (.int p1), .val (.int p2), .val (.int p3), .val (.ref b2), .val (.int v5_81), .val (.int v6_90), .val (.int v7_105), .val (.int v8_109), .val (.ref b28)] [(.int v5_81), (.int (6 : Int32)), (.ref b28)])) _
                refine XS.iload X76.here hx rfl (hb hby at_326) rfl  ?_
                show Steps p.tables e below (T76.setTop (mkF m 328 #[.val (.int p0), .val (.int p1), .val (.int p2), .val (.int p3), .val (.ref b2), .val (.int v5_81), .val (.int v6_90), .val (.int v7_105), .val (.int v8_109), .val (.ref b28)] [(.int v6_90), (.int v5_81), (.int (6 : Int32)), (.ref b28)])) _
                refine XS.iload X76.here hx rfl (hb hby at_328) rfl  ?_
                show Steps p.tables e below (T76.setTop (mkF m 330 #[.val (.int p0), .val (.int p1), .val (.int p2), .val (.int p3), .val (.ref b2), .val (.int v5_81), .val (.int v6_90), .val (.int v7_105), .val (.int v8_109), .val (.ref b28)] [(.int v7_105), (.int v6_90), (.int v5_81), (.int (6 : Int32)), (.ref b28)])) _
                refine XS.iload X76.here hx rfl (hb hby at_330) rfl  ?_
                show Steps p.tables e below (T76.setTop (mkF m 332 #[.val (.int p0), .val (.int p1), .val (.int p2), .val (.int p3), .val (.ref b2), .val (.int v5_81), .val (.int v6_90), .val (.int v7_105), .val (.int v8_109), .val (.ref b28)] [(.int v8_109), (.int v7_105), (.int v6_90), (.int v5_81), (.int (6 : Int32)), (.ref b28)])) _
                refine XS.aload X76.here hx rfl (hb hby at_332) rfl rfl ?_
                exact k
              obtain ⟨_, _, ⟨T79, L79, k79, n79⟩, -, X79, ⟨Lc79, hQ79, l79, y79, z79⟩, st79⟩ := Jvm.LawKit.callS X76 hx (y := (⟨"com/example/dayt/dayt/text/TextFormPutDigitsPinLaw", "at", "([BIIIIB[J)Z"⟩ : MethodName)) hown (mvT hZ (hw _ (List.mem_of_getElem? (i := 18) rfl))) (mvT hZ (hw _ (List.mem_of_getElem? (i := 19) rfl))) (mvT hZ (hw _ (List.mem_of_getElem? (i := 20) rfl))) (mvT hZ (hw _ (List.mem_of_getElem? (i := 21) rfl))) (by decide) (backOf (W := 0) (rm_2 l Z a0 hw [] b28 (6 : Int32) v5_81 v6_90 v7_105 v8_109 b2 (own_put (own_fl v8_109) v5_81.toNatClampNeg v6_90.toNatClampNeg v7_105) own_pt T59.heap n0 Z59 Q59_0 arr_b2_59 ⟨by decide, by decide⟩ (own_sc hv5_81 hv6_90) own_ptnz) hZ (hw _ (List.mem_of_getElem? (i := 21) rfl)) (hw _ (List.mem_of_getElem? (i := 20) rfl)) (by decide) (by decide)) (g := (mkF m 334 #[.val (.int p0), .val (.int p1), .val (.int p2), .val (.int p3), .val (.ref b2), .val (.int v5_81), .val (.int v6_90), .val (.int v7_105), .val (.int v8_109), .val (.ref b28)] [(.ref b2), (.int v8_109), (.int v7_105), (.int v6_90), (.int v5_81), (.int (6 : Int32)), (.ref b28)])) rfl (by rw [hml]; rfl) (argsL := [(.ref b28), (.int (6 : Int32)), (.int v5_81), (.int v6_90), (.int v7_105), (.int v8_109), (.ref b2)]) (rest := []) (lenOf pd_1 rfl) rfl (by show 2 * 0 + _ ≤ _; exact Nat.le_of_eq rfl) (hb hby at_334) (fun _ _ => ⟨rfl, e76, (by decide : 2 + 0 ≤ _), (by decide : 25 + 0 ≤ _)⟩)
              dsimp only [Pt.U, Pt.locs, Pt.cells, Pt.slots] at X79 l79 y79 z79 st79 hQ79
              rw [l79, y79, z79] at X79
              obtain ⟨rfl, N79q, e79⟩ := hQ79
              have N79 := Fr.app N76 N79q
              have pre81 : ∀ t, Steps p.tables e below (T79.setTop (mkF m 337 #[.val (.int p0), .val (.int p1), .val (.int p2), .val (.int p3), .val (.ref b2), .val (.int v5_81), .val (.int v6_90), .val (.int v7_105), .val (.int v8_109), .val (.ref b28)] [(.int (f_2 (6 : Int32) v5_81 v6_90 v7_105 v8_109 (own_put (own_fl v8_109) v5_81.toNatClampNeg v6_90.toNatClampNeg v7_105) own_pt))])) t → Steps p.tables e below (s₁.setTop (entryFrame m #[(.int p0), (.int p1), (.int p2), (.int p3)] maxLocals)) t := by
                intro t k
                refine pre80 t ?_
                show Steps p.tables e below (T76.setTop (mkF m 334 #[.val (.int p0), .val (.int p1), .val (.int p2), .val (.int p3), .val (.ref b2), .val (.int v5_81), .val (.int v6_90), .val (.int v7_105), .val (.int v8_109), .val (.ref b28)] [(.ref b2), (.int v8_109), (.int v7_105), (.int v6_90), (.int v5_81), (.int (6 : Int32)), (.ref b28)])) _
                refine st79 _ ?_
                exact k
              by_cases hc337 : (f_2 (6 : Int32) v5_81 v6_90 v7_105 v8_109 (own_put (own_fl v8_109) v5_81.toNatClampNeg v6_90.toNatClampNeg v7_105) own_pt) = (0 : Int32)
              · obtain ⟨fs, hr, hrun, hended, hW, hsame⟩ := X79.leave (v := some (.int (0 : Int32))) (fun h => by rw [Bd.returns] at h; cases h) (BodyLoose.notSynchronized Bd)
                refine ⟨_, _, pre81 _ ?_, hrun, hended, _, _, rfl, ?_, ⟨_, rfl⟩, hW, hsame.mono (by decide) (by decide)⟩
                · show Steps p.tables e below (T79.setTop (mkF m 337 #[.val (.int p0), .val (.int p1), .val (.int p2), .val (.int p3), .val (.ref b2), .val (.int v5_81), .val (.int v6_90), .val (.int v7_105), .val (.int v8_109), .val (.ref b28)] [(.int (f_2 (6 : Int32) v5_81 v6_90 v7_105 v8_109 (own_put (own_fl v8_109) v5_81.toNatClampNeg v6_90.toNatClampNeg v7_105) own_pt))])) _
                  refine XS.ifYes X79.here hx rfl (pc0 := 337) (pc' := 484) rfl (hb hby at_337) rfl ((if0 _ _).trans (teq hc337).1) (by decide) (by decide) ?_
                  show Steps p.tables e below (T79.setTop (mkF m 484 #[.val (.int p0), .val (.int p1), .val (.int p2), .val (.int p3), .val (.ref b2), .val (.int v5_81), .val (.int v6_90), .val (.int v7_105), .val (.int v8_109), .val (.ref b28)] [])) _
                  refine XS.iconst X79.here hx rfl (hb hby at_484) ?_
                  show Steps p.tables e below (T79.setTop (mkF m 485 #[.val (.int p0), .val (.int p1), .val (.int p2), .val (.int p3), .val (.ref b2), .val (.int v5_81), .val (.int v6_90), .val (.int v7_105), .val (.int v8_109), .val (.ref b28)] [(.int (0 : Int32))])) _
                  exact retN X79 hx (t := .boolean) Bd.returns (by simp) (hb hby at_485) hr
                · show Q_0 Z p0 p1 p2 p3 h0 n0 _ T79.heap _
                  rw [e79]
                  exact ⟨congrArg (fun z => some (Value.int z)) (by subst hg_7 hg_13 hg_19 hg_25 hg_31 hg_37 hg_44 hg_51 hg_58 hg_65 hg_72 hv5_81 hv6_90 hv7_105 hv8_109 hg_119 hg_124 hg_129 hg_134 hg_139 hg_144 hg_150 hg_156 hg_162 hg_168 hg_174 hg_180 hg_186 hg_192; exact ((if_neg hc222).trans ((if_neg hc241).trans ((if_neg hc260).trans ((if_neg hc279).trans ((if_neg hc298).trans ((if_neg hc317).trans (if_pos hc337))))))).symm : (0 : Int32) = f_0 p0 p1 p2 p3), N79, trivial⟩
              · have pre83 : ∀ t, Steps p.tables e below (T79.setTop (mkF m 354 #[.val (.int p0), .val (.int p1), .val (.int p2), .val (.int p3), .val (.ref b2), .val (.int v5_81), .val (.int v6_90), .val (.int v7_105), .val (.int v8_109), .val (.ref b28)] [(.ref b2), (.int v8_109), (.int v7_105), (.int v6_90), (.int v5_81), (.int (7 : Int32)), (.ref b28)])) t → Steps p.tables e below (s₁.setTop (entryFrame m #[(.int p0), (.int p1), (.int p2), (.int p3)] maxLocals)) t := by
                  intro t k
                  refine pre81 t ?_
                  show Steps p.tables e below (T79.setTop (mkF m 337 #[.val (.int p0), .val (.int p1), .val (.int p2), .val (.int p3), .val (.ref b2), .val (.int v5_81), .val (.int v6_90), .val (.int v7_105), .val (.int v8_109), .val (.ref b28)] [(.int (f_2 (6 : Int32) v5_81 v6_90 v7_105 v8_109 (own_put (own_fl v8_109) v5_81.toNatClampNeg v6_90.toNatClampNeg v7_105) own_pt))])) _
                  refine XS.ifNo X79.here hx rfl (hb hby at_337) rfl ((if0 _ _).trans (feq hc337).1) ?_
                  show Steps p.tables e below (T79.setTop (mkF m 340 #[.val (.int p0), .val (.int p1), .val (.int p2), .val (.int p3), .val (.ref b2), .val (.int v5_81), .val (.int v6_90), .val (.int v7_105), .val (.int v8_109), .val (.ref b28)] [])) _
                  refine XS.aload X79.here hx rfl (hb hby at_340) rfl rfl ?_
                  show Steps p.tables e below (T79.setTop (mkF m 342 #[.val (.int p0), .val (.int p1), .val (.int p2), .val (.int p3), .val (.ref b2), .val (.int v5_81), .val (.int v6_90), .val (.int v7_105), .val (.int v8_109), .val (.ref b28)] [(.ref b28)])) _
                  refine XS.bipush X79.here hx rfl (hb hby at_342) ?_
                  show Steps p.tables e below (T79.setTop (mkF m 344 #[.val (.int p0), .val (.int p1), .val (.int p2), .val (.int p3), .val (.ref b2), .val (.int v5_81), .val (.int v6_90), .val (.int v7_105), .val (.int v8_109), .val (.ref b28)] [(.int (7 : Int32)), (.ref b28)])) _
                  refine XS.iload X79.here hx rfl (hb hby at_344) rfl  ?_
                  show Steps p.tables e below (T79.setTop (mkF m 346 #[.val (.int p0), .val (.int p1), .val (.int p2), .val (.int p3), .val (.ref b2), .val (.int v5_81), .val (.int v6_90), .val (.int v7_105), .val (.int v8_109), .val (.ref b28)] [(.int v5_81), (.int (7 : Int32)), (.ref b28)])) _
                  refine XS.iload X79.here hx rfl (hb hby at_346) rfl  ?_
                  show Steps p.tables e below (T79.setTop (mkF m 348 #[.val (.int p0), .val (.int p1), .val (.int p2), .val (.int p3), .val (.ref b2), .val (.int v5_81), .val (.int v6_90), .val (.int v7_105), .val (.int v8_109), .val (.ref b28)] [(.int v6_90), (.int v5_81), (.int (7 : Int32)), (.ref b28)])) _
                  refine XS.iload X79.here hx rfl (hb hby at_348) rfl  ?_
                  show Steps p.tables e below (T79.setTop (mkF m 350 #[.val (.int p0), .val (.int p1), .val (.int p2), .val (.int p3), .val (.ref b2), .val (.int v5_81), .val (.int v6_90), .val (.int v7_105), .val (.int v8_109), .val (.ref b28)] [(.int v7_105), (.int v6_90), (.int v5_81), (.int (7 : Int32)), (.ref b28)])) _
                  refine XS.iload X79.here hx rfl (hb hby at_350) rfl  ?_
                  show Steps p.tables e below (T79.setTop (mkF m 352 #[.val (.int p0), .val (.int p1), .val (.int p2), .val (.int p3), .val (.ref b2), .val (.int v5_81), .val (.int v6_90), .val (.int v7_105), .val (.int v8_109), .val (.ref b28)] [(.int v8_109), (.int v7_105), (.int v6_90), (.int v5_81), (.int (7 : Int32)), (.ref b28)])) _
                  refine XS.aload X79.here hx rfl (hb hby at_352) rfl rfl ?_
                  exact k
                obtain ⟨_, _, ⟨T82, L82, k82, n82⟩, -, X82, ⟨Lc82, hQ82, l82, y82, z82⟩, st82⟩ := Jvm.LawKit.callS X79 hx (y := (⟨"com/example/dayt/dayt/text/TextFormPutDigitsPinLaw", "at", "([BIIIIB[J)Z"⟩ : MethodName)) hown (mvT hZ (hw _ (List.mem_of_getElem? (i := 18) rfl))) (mvT hZ (hw _ (List.mem_of_getElem? (i := 19) rfl))) (mvT hZ (hw _ (List.mem_of_getElem? (i := 20) rfl))) (mvT hZ (hw _ (List.mem_of_getElem? (i := 21) rfl))) (by decide) (backOf (W := 0) (rm_2 l Z a0 hw [] b28 (7 : Int32) v5_81 v6_90 v7_105 v8_109 b2 (own_put (own_fl v8_109) v5_81.toNatClampNeg v6_90.toNatClampNeg v7_105) own_pt T59.heap n0 Z59 Q59_0 arr_b2_59 ⟨by decide, by decide⟩ (own_sc hv5_81 hv6_90) own_ptnz) hZ (hw _ (List.mem_of_getElem? (i := 21) rfl)) (hw _ (List.mem_of_getElem? (i := 20) rfl)) (by decide) (by decide)) (g := (mkF m 354 #[.val (.int p0), .val (.int p1), .val (.int p2), .val (.int p3), .val (.ref b2), .val (.int v5_81), .val (.int v6_90), .val (.int v7_105), .val (.int v8_109), .val (.ref b28)] [(.ref b2), (.int v8_109), (.int v7_105), (.int v6_90), (.int v5_81), (.int (7 : Int32)), (.ref b28)])) rfl (by rw [hml]; rfl) (argsL := [(.ref b28), (.int (7 : Int32)), (.int v5_81), (.int v6_90), (.int v7_105), (.int v8_109), (.ref b2)]) (rest := []) (lenOf pd_1 rfl) rfl (by show 2 * 0 + _ ≤ _; exact Nat.le_of_eq rfl) (hb hby at_354) (fun _ _ => ⟨rfl, e79, (by decide : 2 + 0 ≤ _), (by decide : 25 + 0 ≤ _)⟩)
                dsimp only [Pt.U, Pt.locs, Pt.cells, Pt.slots] at X82 l82 y82 z82 st82 hQ82
                rw [l82, y82, z82] at X82
                obtain ⟨rfl, N82q, e82⟩ := hQ82
                have N82 := Fr.app N79 N82q
                have pre84 : ∀ t, Steps p.tables e below (T82.setTop (mkF m 357 #[.val (.int p0), .val (.int p1), .val (.int p2), .val (.int p3), .val (.ref b2), .val (.int v5_81), .val (.int v6_90), .val (.int v7_105), .val (.int v8_109), .val (.ref b28)] [(.int (f_2 (7 : Int32) v5_81 v6_90 v7_105 v8_109 (own_put (own_fl v8_109) v5_81.toNatClampNeg v6_90.toNatClampNeg v7_105) own_pt))])) t → Steps p.tables e below (s₁.setTop (entryFrame m #[(.int p0), (.int p1), (.int p2), (.int p3)] maxLocals)) t := by
                  intro t k
                  refine pre83 t ?_
                  show Steps p.tables e below (T79.setTop (mkF m 354 #[.val (.int p0), .val (.int p1), .val (.int p2), .val (.int p3), .val (.ref b2), .val (.int v5_81), .val (.int v6_90), .val (.int v7_105), .val (.int v8_109), .val (.ref b28)] [(.ref b2), (.int v8_109), (.int v7_105), (.int v6_90), (.int v5_81), (.int (7 : Int32)), (.ref b28)])) _
                  refine st82 _ ?_
                  exact k
                by_cases hc357 : (f_2 (7 : Int32) v5_81 v6_90 v7_105 v8_109 (own_put (own_fl v8_109) v5_81.toNatClampNeg v6_90.toNatClampNeg v7_105) own_pt) = (0 : Int32)
                · obtain ⟨fs, hr, hrun, hended, hW, hsame⟩ := X82.leave (v := some (.int (0 : Int32))) (fun h => by rw [Bd.returns] at h; cases h) (BodyLoose.notSynchronized Bd)
                  refine ⟨_, _, pre84 _ ?_, hrun, hended, _, _, rfl, ?_, ⟨_, rfl⟩, hW, hsame.mono (by decide) (by decide)⟩
                  · show Steps p.tables e below (T82.setTop (mkF m 357 #[.val (.int p0), .val (.int p1), .val (.int p2), .val (.int p3), .val (.ref b2), .val (.int v5_81), .val (.int v6_90), .val (.int v7_105), .val (.int v8_109), .val (.ref b28)] [(.int (f_2 (7 : Int32) v5_81 v6_90 v7_105 v8_109 (own_put (own_fl v8_109) v5_81.toNatClampNeg v6_90.toNatClampNeg v7_105) own_pt))])) _
                    refine XS.ifYes X82.here hx rfl (pc0 := 357) (pc' := 484) rfl (hb hby at_357) rfl ((if0 _ _).trans (teq hc357).1) (by decide) (by decide) ?_
                    show Steps p.tables e below (T82.setTop (mkF m 484 #[.val (.int p0), .val (.int p1), .val (.int p2), .val (.int p3), .val (.ref b2), .val (.int v5_81), .val (.int v6_90), .val (.int v7_105), .val (.int v8_109), .val (.ref b28)] [])) _
                    refine XS.iconst X82.here hx rfl (hb hby at_484) ?_
                    show Steps p.tables e below (T82.setTop (mkF m 485 #[.val (.int p0), .val (.int p1), .val (.int p2), .val (.int p3), .val (.ref b2), .val (.int v5_81), .val (.int v6_90), .val (.int v7_105), .val (.int v8_109), .val (.ref b28)] [(.int (0 : Int32))])) _
                    exact retN X82 hx (t := .boolean) Bd.returns (by simp) (hb hby at_485) hr
                  · show Q_0 Z p0 p1 p2 p3 h0 n0 _ T82.heap _
                    rw [e82]
                    exact ⟨congrArg (fun z => some (Value.int z)) (by subst hg_7 hg_13 hg_19 hg_25 hg_31 hg_37 hg_44 hg_51 hg_58 hg_65 hg_72 hv5_81 hv6_90 hv7_105 hv8_109 hg_119 hg_124 hg_129 hg_134 hg_139 hg_144 hg_150 hg_156 hg_162 hg_168 hg_174 hg_180 hg_186 hg_192; exact ((if_neg hc222).trans ((if_neg hc241).trans ((if_neg hc260).trans ((if_neg hc279).trans ((if_neg hc298).trans ((if_neg hc317).trans ((if_neg hc337).trans (if_pos hc357)))))))).symm : (0 : Int32) = f_0 p0 p1 p2 p3), N82, trivial⟩
                · have pre86 : ∀ t, Steps p.tables e below (T82.setTop (mkF m 374 #[.val (.int p0), .val (.int p1), .val (.int p2), .val (.int p3), .val (.ref b2), .val (.int v5_81), .val (.int v6_90), .val (.int v7_105), .val (.int v8_109), .val (.ref b28)] [(.ref b2), (.int v8_109), (.int v7_105), (.int v6_90), (.int v5_81), (.int (8 : Int32)), (.ref b28)])) t → Steps p.tables e below (s₁.setTop (entryFrame m #[(.int p0), (.int p1), (.int p2), (.int p3)] maxLocals)) t := by
                    intro t k
                    refine pre84 t ?_
                    show Steps p.tables e below (T82.setTop (mkF m 357 #[.val (.int p0), .val (.int p1), .val (.int p2), .val (.int p3), .val (.ref b2), .val (.int v5_81), .val (.int v6_90), .val (.int v7_105), .val (.int v8_109), .val (.ref b28)] [(.int (f_2 (7 : Int32) v5_81 v6_90 v7_105 v8_109 (own_put (own_fl v8_109) v5_81.toNatClampNeg v6_90.toNatClampNeg v7_105) own_pt))])) _
                    refine XS.ifNo X82.here hx rfl (hb hby at_357) rfl ((if0 _ _).trans (feq hc357).1) ?_
                    show Steps p.tables e below (T82.setTop (mkF m 360 #[.val (.int p0), .val (.int p1), .val (.int p2), .val (.int p3), .val (.ref b2), .val (.int v5_81), .val (.int v6_90), .val (.int v7_105), .val (.int v8_109), .val (.ref b28)] [])) _
                    refine XS.aload X82.here hx rfl (hb hby at_360) rfl rfl ?_
                    show Steps p.tables e below (T82.setTop (mkF m 362 #[.val (.int p0), .val (.int p1), .val (.int p2), .val (.int p3), .val (.ref b2), .val (.int v5_81), .val (.int v6_90), .val (.int v7_105), .val (.int v8_109), .val (.ref b28)] [(.ref b28)])) _
                    refine XS.bipush X82.here hx rfl (hb hby at_362) ?_
                    show Steps p.tables e below (T82.setTop (mkF m 364 #[.val (.int p0), .val (.int p1), .val (.int p2), .val (.int p3), .val (.ref b2), .val (.int v5_81), .val (.int v6_90), .val (.int v7_105), .val (.int v8_109), .val (.ref b28)] [(.int (8 : Int32)), (.ref b28)])) _
                    refine XS.iload X82.here hx rfl (hb hby at_364) rfl  ?_
                    show Steps p.tables e below (T82.setTop (mkF m 366 #[.val (.int p0), .val (.int p1), .val (.int p2), .val (.int p3), .val (.ref b2), .val (.int v5_81), .val (.int v6_90), .val (.int v7_105), .val (.int v8_109), .val (.ref b28)] [(.int v5_81), (.int (8 : Int32)), (.ref b28)])) _
                    refine XS.iload X82.here hx rfl (hb hby at_366) rfl  ?_
                    show Steps p.tables e below (T82.setTop (mkF m 368 #[.val (.int p0), .val (.int p1), .val (.int p2), .val (.int p3), .val (.ref b2), .val (.int v5_81), .val (.int v6_90), .val (.int v7_105), .val (.int v8_109), .val (.ref b28)] [(.int v6_90), (.int v5_81), (.int (8 : Int32)), (.ref b28)])) _
                    refine XS.iload X82.here hx rfl (hb hby at_368) rfl  ?_
                    show Steps p.tables e below (T82.setTop (mkF m 370 #[.val (.int p0), .val (.int p1), .val (.int p2), .val (.int p3), .val (.ref b2), .val (.int v5_81), .val (.int v6_90), .val (.int v7_105), .val (.int v8_109), .val (.ref b28)] [(.int v7_105), (.int v6_90), (.int v5_81), (.int (8 : Int32)), (.ref b28)])) _
                    refine XS.iload X82.here hx rfl (hb hby at_370) rfl  ?_
                    show Steps p.tables e below (T82.setTop (mkF m 372 #[.val (.int p0), .val (.int p1), .val (.int p2), .val (.int p3), .val (.ref b2), .val (.int v5_81), .val (.int v6_90), .val (.int v7_105), .val (.int v8_109), .val (.ref b28)] [(.int v8_109), (.int v7_105), (.int v6_90), (.int v5_81), (.int (8 : Int32)), (.ref b28)])) _
                    refine XS.aload X82.here hx rfl (hb hby at_372) rfl rfl ?_
                    exact k
                  obtain ⟨_, _, ⟨T85, L85, k85, n85⟩, -, X85, ⟨Lc85, hQ85, l85, y85, z85⟩, st85⟩ := Jvm.LawKit.callS X82 hx (y := (⟨"com/example/dayt/dayt/text/TextFormPutDigitsPinLaw", "at", "([BIIIIB[J)Z"⟩ : MethodName)) hown (mvT hZ (hw _ (List.mem_of_getElem? (i := 18) rfl))) (mvT hZ (hw _ (List.mem_of_getElem? (i := 19) rfl))) (mvT hZ (hw _ (List.mem_of_getElem? (i := 20) rfl))) (mvT hZ (hw _ (List.mem_of_getElem? (i := 21) rfl))) (by decide) (backOf (W := 0) (rm_2 l Z a0 hw [] b28 (8 : Int32) v5_81 v6_90 v7_105 v8_109 b2 (own_put (own_fl v8_109) v5_81.toNatClampNeg v6_90.toNatClampNeg v7_105) own_pt T59.heap n0 Z59 Q59_0 arr_b2_59 ⟨by decide, by decide⟩ (own_sc hv5_81 hv6_90) own_ptnz) hZ (hw _ (List.mem_of_getElem? (i := 21) rfl)) (hw _ (List.mem_of_getElem? (i := 20) rfl)) (by decide) (by decide)) (g := (mkF m 374 #[.val (.int p0), .val (.int p1), .val (.int p2), .val (.int p3), .val (.ref b2), .val (.int v5_81), .val (.int v6_90), .val (.int v7_105), .val (.int v8_109), .val (.ref b28)] [(.ref b2), (.int v8_109), (.int v7_105), (.int v6_90), (.int v5_81), (.int (8 : Int32)), (.ref b28)])) rfl (by rw [hml]; rfl) (argsL := [(.ref b28), (.int (8 : Int32)), (.int v5_81), (.int v6_90), (.int v7_105), (.int v8_109), (.ref b2)]) (rest := []) (lenOf pd_1 rfl) rfl (by show 2 * 0 + _ ≤ _; exact Nat.le_of_eq rfl) (hb hby at_374) (fun _ _ => ⟨rfl, e82, (by decide : 2 + 0 ≤ _), (by decide : 25 + 0 ≤ _)⟩)
                  dsimp only [Pt.U, Pt.locs, Pt.cells, Pt.slots] at X85 l85 y85 z85 st85 hQ85
                  rw [l85, y85, z85] at X85
                  obtain ⟨rfl, N85q, e85⟩ := hQ85
                  have N85 := Fr.app N82 N85q
                  have pre87 : ∀ t, Steps p.tables e below (T85.setTop (mkF m 377 #[.val (.int p0), .val (.int p1), .val (.int p2), .val (.int p3), .val (.ref b2), .val (.int v5_81), .val (.int v6_90), .val (.int v7_105), .val (.int v8_109), .val (.ref b28)] [(.int (f_2 (8 : Int32) v5_81 v6_90 v7_105 v8_109 (own_put (own_fl v8_109) v5_81.toNatClampNeg v6_90.toNatClampNeg v7_105) own_pt))])) t → Steps p.tables e below (s₁.setTop (entryFrame m #[(.int p0), (.int p1), (.int p2), (.int p3)] maxLocals)) t := by
                    intro t k
                    refine pre86 t ?_
                    show Steps p.tables e below (T82.setTop (mkF m 374 #[.val (.int p0), .val (.int p1), .val (.int p2), .val (.int p3), .val (.ref b2), .val (.int v5_81), .val (.int v6_90), .val (.int v7_105), .val (.int v8_109), .val (.ref b28)] [(.ref b2), (.int v8_109), (.int v7_105), (.int v6_90), (.int v5_81), (.int (8 : Int32)), (.ref b28)])) _
                    refine st85 _ ?_
                    exact k
                  by_cases hc377 : (f_2 (8 : Int32) v5_81 v6_90 v7_105 v8_109 (own_put (own_fl v8_109) v5_81.toNatClampNeg v6_90.toNatClampNeg v7_105) own_pt) = (0 : Int32)
                  · obtain ⟨fs, hr, hrun, hended, hW, hsame⟩ := X85.leave (v := some (.int (0 : Int32))) (fun h => by rw [Bd.returns] at h; cases h) (BodyLoose.notSynchronized Bd)
                    refine ⟨_, _, pre87 _ ?_, hrun, hended, _, _, rfl, ?_, ⟨_, rfl⟩, hW, hsame.mono (by decide) (by decide)⟩
                    · show Steps p.tables e below (T85.setTop (mkF m 377 #[.val (.int p0), .val (.int p1), .val (.int p2), .val (.int p3), .val (.ref b2), .val (.int v5_81), .val (.int v6_90), .val (.int v7_105), .val (.int v8_109), .val (.ref b28)] [(.int (f_2 (8 : Int32) v5_81 v6_90 v7_105 v8_109 (own_put (own_fl v8_109) v5_81.toNatClampNeg v6_90.toNatClampNeg v7_105) own_pt))])) _
                      refine XS.ifYes X85.here hx rfl (pc0 := 377) (pc' := 484) rfl (hb hby at_377) rfl ((if0 _ _).trans (teq hc377).1) (by decide) (by decide) ?_
                      show Steps p.tables e below (T85.setTop (mkF m 484 #[.val (.int p0), .val (.int p1), .val (.int p2), .val (.int p3), .val (.ref b2), .val (.int v5_81), .val (.int v6_90), .val (.int v7_105), .val (.int v8_109), .val (.ref b28)] [])) _
                      refine XS.iconst X85.here hx rfl (hb hby at_484) ?_
                      show Steps p.tables e below (T85.setTop (mkF m 485 #[.val (.int p0), .val (.int p1), .val (.int p2), .val (.int p3), .val (.ref b2), .val (.int v5_81), .val (.int v6_90), .val (.int v7_105), .val (.int v8_109), .val (.ref b28)] [(.int (0 : Int32))])) _
                      exact retN X85 hx (t := .boolean) Bd.returns (by simp) (hb hby at_485) hr
                    · show Q_0 Z p0 p1 p2 p3 h0 n0 _ T85.heap _
                      rw [e85]
                      exact ⟨congrArg (fun z => some (Value.int z)) (by subst hg_7 hg_13 hg_19 hg_25 hg_31 hg_37 hg_44 hg_51 hg_58 hg_65 hg_72 hv5_81 hv6_90 hv7_105 hv8_109 hg_119 hg_124 hg_129 hg_134 hg_139 hg_144 hg_150 hg_156 hg_162 hg_168 hg_174 hg_180 hg_186 hg_192; exact ((if_neg hc222).trans ((if_neg hc241).trans ((if_neg hc260).trans ((if_neg hc279).trans ((if_neg hc298).trans ((if_neg hc317).trans ((if_neg hc337).trans ((if_neg hc357).trans (if_pos hc377))))))))).symm : (0 : Int32) = f_0 p0 p1 p2 p3), N85, trivial⟩
                  · have pre89 : ∀ t, Steps p.tables e below (T85.setTop (mkF m 394 #[.val (.int p0), .val (.int p1), .val (.int p2), .val (.int p3), .val (.ref b2), .val (.int v5_81), .val (.int v6_90), .val (.int v7_105), .val (.int v8_109), .val (.ref b28)] [(.ref b2), (.int v8_109), (.int v7_105), (.int v6_90), (.int v5_81), (.int (9 : Int32)), (.ref b28)])) t → Steps p.tables e below (s₁.setTop (entryFrame m #[(.int p0), (.int p1), (.int p2), (.int p3)] maxLocals)) t := by
                      intro t k
                      refine pre87 t ?_
                      show Steps p.tables e below (T85.setTop (mkF m 377 #[.val (.int p0), .val (.int p1), .val (.int p2), .val (.int p3), .val (.ref b2), .val (.int v5_81), .val (.int v6_90), .val (.int v7_105), .val (.int v8_109), .val (.ref b28)] [(.int (f_2 (8 : Int32) v5_81 v6_90 v7_105 v8_109 (own_put (own_fl v8_109) v5_81.toNatClampNeg v6_90.toNatClampNeg v7_105) own_pt))])) _
                      refine XS.ifNo X85.here hx rfl (hb hby at_377) rfl ((if0 _ _).trans (feq hc377).1) ?_
                      show Steps p.tables e below (T85.setTop (mkF m 380 #[.val (.int p0), .val (.int p1), .val (.int p2), .val (.int p3), .val (.ref b2), .val (.int v5_81), .val (.int v6_90), .val (.int v7_105), .val (.int v8_109), .val (.ref b28)] [])) _
                      refine XS.aload X85.here hx rfl (hb hby at_380) rfl rfl ?_
                      show Steps p.tables e below (T85.setTop (mkF m 382 #[.val (.int p0), .val (.int p1), .val (.int p2), .val (.int p3), .val (.ref b2), .val (.int v5_81), .val (.int v6_90), .val (.int v7_105), .val (.int v8_109), .val (.ref b28)] [(.ref b28)])) _
                      refine XS.bipush X85.here hx rfl (hb hby at_382) ?_
                      show Steps p.tables e below (T85.setTop (mkF m 384 #[.val (.int p0), .val (.int p1), .val (.int p2), .val (.int p3), .val (.ref b2), .val (.int v5_81), .val (.int v6_90), .val (.int v7_105), .val (.int v8_109), .val (.ref b28)] [(.int (9 : Int32)), (.ref b28)])) _
                      refine XS.iload X85.here hx rfl (hb hby at_384) rfl  ?_
                      show Steps p.tables e below (T85.setTop (mkF m 386 #[.val (.int p0), .val (.int p1), .val (.int p2), .val (.int p3), .val (.ref b2), .val (.int v5_81), .val (.int v6_90), .val (.int v7_105), .val (.int v8_109), .val (.ref b28)] [(.int v5_81), (.int (9 : Int32)), (.ref b28)])) _
                      refine XS.iload X85.here hx rfl (hb hby at_386) rfl  ?_
                      show Steps p.tables e below (T85.setTop (mkF m 388 #[.val (.int p0), .val (.int p1), .val (.int p2), .val (.int p3), .val (.ref b2), .val (.int v5_81), .val (.int v6_90), .val (.int v7_105), .val (.int v8_109), .val (.ref b28)] [(.int v6_90), (.int v5_81), (.int (9 : Int32)), (.ref b28)])) _
                      refine XS.iload X85.here hx rfl (hb hby at_388) rfl  ?_
                      show Steps p.tables e below (T85.setTop (mkF m 390 #[.val (.int p0), .val (.int p1), .val (.int p2), .val (.int p3), .val (.ref b2), .val (.int v5_81), .val (.int v6_90), .val (.int v7_105), .val (.int v8_109), .val (.ref b28)] [(.int v7_105), (.int v6_90), (.int v5_81), (.int (9 : Int32)), (.ref b28)])) _
                      refine XS.iload X85.here hx rfl (hb hby at_390) rfl  ?_
                      show Steps p.tables e below (T85.setTop (mkF m 392 #[.val (.int p0), .val (.int p1), .val (.int p2), .val (.int p3), .val (.ref b2), .val (.int v5_81), .val (.int v6_90), .val (.int v7_105), .val (.int v8_109), .val (.ref b28)] [(.int v8_109), (.int v7_105), (.int v6_90), (.int v5_81), (.int (9 : Int32)), (.ref b28)])) _
                      refine XS.aload X85.here hx rfl (hb hby at_392) rfl rfl ?_
                      exact k
                    obtain ⟨_, _, ⟨T88, L88, k88, n88⟩, -, X88, ⟨Lc88, hQ88, l88, y88, z88⟩, st88⟩ := Jvm.LawKit.callS X85 hx (y := (⟨"com/example/dayt/dayt/text/TextFormPutDigitsPinLaw", "at", "([BIIIIB[J)Z"⟩ : MethodName)) hown (mvT hZ (hw _ (List.mem_of_getElem? (i := 18) rfl))) (mvT hZ (hw _ (List.mem_of_getElem? (i := 19) rfl))) (mvT hZ (hw _ (List.mem_of_getElem? (i := 20) rfl))) (mvT hZ (hw _ (List.mem_of_getElem? (i := 21) rfl))) (by decide) (backOf (W := 0) (rm_2 l Z a0 hw [] b28 (9 : Int32) v5_81 v6_90 v7_105 v8_109 b2 (own_put (own_fl v8_109) v5_81.toNatClampNeg v6_90.toNatClampNeg v7_105) own_pt T59.heap n0 Z59 Q59_0 arr_b2_59 ⟨by decide, by decide⟩ (own_sc hv5_81 hv6_90) own_ptnz) hZ (hw _ (List.mem_of_getElem? (i := 21) rfl)) (hw _ (List.mem_of_getElem? (i := 20) rfl)) (by decide) (by decide)) (g := (mkF m 394 #[.val (.int p0), .val (.int p1), .val (.int p2), .val (.int p3), .val (.ref b2), .val (.int v5_81), .val (.int v6_90), .val (.int v7_105), .val (.int v8_109), .val (.ref b28)] [(.ref b2), (.int v8_109), (.int v7_105), (.int v6_90), (.int v5_81), (.int (9 : Int32)), (.ref b28)])) rfl (by rw [hml]; rfl) (argsL := [(.ref b28), (.int (9 : Int32)), (.int v5_81), (.int v6_90), (.int v7_105), (.int v8_109), (.ref b2)]) (rest := []) (lenOf pd_1 rfl) rfl (by show 2 * 0 + _ ≤ _; exact Nat.le_of_eq rfl) (hb hby at_394) (fun _ _ => ⟨rfl, e85, (by decide : 2 + 0 ≤ _), (by decide : 25 + 0 ≤ _)⟩)
                    dsimp only [Pt.U, Pt.locs, Pt.cells, Pt.slots] at X88 l88 y88 z88 st88 hQ88
                    rw [l88, y88, z88] at X88
                    obtain ⟨rfl, N88q, e88⟩ := hQ88
                    have N88 := Fr.app N85 N88q
                    have pre90 : ∀ t, Steps p.tables e below (T88.setTop (mkF m 397 #[.val (.int p0), .val (.int p1), .val (.int p2), .val (.int p3), .val (.ref b2), .val (.int v5_81), .val (.int v6_90), .val (.int v7_105), .val (.int v8_109), .val (.ref b28)] [(.int (f_2 (9 : Int32) v5_81 v6_90 v7_105 v8_109 (own_put (own_fl v8_109) v5_81.toNatClampNeg v6_90.toNatClampNeg v7_105) own_pt))])) t → Steps p.tables e below (s₁.setTop (entryFrame m #[(.int p0), (.int p1), (.int p2), (.int p3)] maxLocals)) t := by
                      intro t k
                      refine pre89 t ?_
                      show Steps p.tables e below (T85.setTop (mkF m 394 #[.val (.int p0), .val (.int p1), .val (.int p2), .val (.int p3), .val (.ref b2), .val (.int v5_81), .val (.int v6_90), .val (.int v7_105), .val (.int v8_109), .val (.ref b28)] [(.ref b2), (.int v8_109), (.int v7_105), (.int v6_90), (.int v5_81), (.int (9 : Int32)), (.ref b28)])) _
                      refine st88 _ ?_
                      exact k
                    by_cases hc397 : (f_2 (9 : Int32) v5_81 v6_90 v7_105 v8_109 (own_put (own_fl v8_109) v5_81.toNatClampNeg v6_90.toNatClampNeg v7_105) own_pt) = (0 : Int32)
                    · obtain ⟨fs, hr, hrun, hended, hW, hsame⟩ := X88.leave (v := some (.int (0 : Int32))) (fun h => by rw [Bd.returns] at h; cases h) (BodyLoose.notSynchronized Bd)
                      refine ⟨_, _, pre90 _ ?_, hrun, hended, _, _, rfl, ?_, ⟨_, rfl⟩, hW, hsame.mono (by decide) (by decide)⟩
                      · show Steps p.tables e below (T88.setTop (mkF m 397 #[.val (.int p0), .val (.int p1), .val (.int p2), .val (.int p3), .val (.ref b2), .val (.int v5_81), .val (.int v6_90), .val (.int v7_105), .val (.int v8_109), .val (.ref b28)] [(.int (f_2 (9 : Int32) v5_81 v6_90 v7_105 v8_109 (own_put (own_fl v8_109) v5_81.toNatClampNeg v6_90.toNatClampNeg v7_105) own_pt))])) _
                        refine XS.ifYes X88.here hx rfl (pc0 := 397) (pc' := 484) rfl (hb hby at_397) rfl ((if0 _ _).trans (teq hc397).1) (by decide) (by decide) ?_
                        show Steps p.tables e below (T88.setTop (mkF m 484 #[.val (.int p0), .val (.int p1), .val (.int p2), .val (.int p3), .val (.ref b2), .val (.int v5_81), .val (.int v6_90), .val (.int v7_105), .val (.int v8_109), .val (.ref b28)] [])) _
                        refine XS.iconst X88.here hx rfl (hb hby at_484) ?_
                        show Steps p.tables e below (T88.setTop (mkF m 485 #[.val (.int p0), .val (.int p1), .val (.int p2), .val (.int p3), .val (.ref b2), .val (.int v5_81), .val (.int v6_90), .val (.int v7_105), .val (.int v8_109), .val (.ref b28)] [(.int (0 : Int32))])) _
                        exact retN X88 hx (t := .boolean) Bd.returns (by simp) (hb hby at_485) hr
                      · show Q_0 Z p0 p1 p2 p3 h0 n0 _ T88.heap _
                        rw [e88]
                        exact ⟨congrArg (fun z => some (Value.int z)) (by subst hg_7 hg_13 hg_19 hg_25 hg_31 hg_37 hg_44 hg_51 hg_58 hg_65 hg_72 hv5_81 hv6_90 hv7_105 hv8_109 hg_119 hg_124 hg_129 hg_134 hg_139 hg_144 hg_150 hg_156 hg_162 hg_168 hg_174 hg_180 hg_186 hg_192; exact ((if_neg hc222).trans ((if_neg hc241).trans ((if_neg hc260).trans ((if_neg hc279).trans ((if_neg hc298).trans ((if_neg hc317).trans ((if_neg hc337).trans ((if_neg hc357).trans ((if_neg hc377).trans (if_pos hc397)))))))))).symm : (0 : Int32) = f_0 p0 p1 p2 p3), N88, trivial⟩
                    · have pre92 : ∀ t, Steps p.tables e below (T88.setTop (mkF m 414 #[.val (.int p0), .val (.int p1), .val (.int p2), .val (.int p3), .val (.ref b2), .val (.int v5_81), .val (.int v6_90), .val (.int v7_105), .val (.int v8_109), .val (.ref b28)] [(.ref b2), (.int v8_109), (.int v7_105), (.int v6_90), (.int v5_81), (.int (10 : Int32)), (.ref b28)])) t → Steps p.tables e below (s₁.setTop (entryFrame m #[(.int p0), (.int p1), (.int p2), (.int p3)] maxLocals)) t := by
                        intro t k
                        refine pre90 t ?_
                        show Steps p.tables e below (T88.setTop (mkF m 397 #[.val (.int p0), .val (.int p1), .val (.int p2), .val (.int p3), .val (.ref b2), .val (.int v5_81), .val (.int v6_90), .val (.int v7_105), .val (.int v8_109), .val (.ref b28)] [(.int (f_2 (9 : Int32) v5_81 v6_90 v7_105 v8_109 (own_put (own_fl v8_109) v5_81.toNatClampNeg v6_90.toNatClampNeg v7_105) own_pt))])) _
                        refine XS.ifNo X88.here hx rfl (hb hby at_397) rfl ((if0 _ _).trans (feq hc397).1) ?_
                        show Steps p.tables e below (T88.setTop (mkF m 400 #[.val (.int p0), .val (.int p1), .val (.int p2), .val (.int p3), .val (.ref b2), .val (.int v5_81), .val (.int v6_90), .val (.int v7_105), .val (.int v8_109), .val (.ref b28)] [])) _
                        refine XS.aload X88.here hx rfl (hb hby at_400) rfl rfl ?_
                        show Steps p.tables e below (T88.setTop (mkF m 402 #[.val (.int p0), .val (.int p1), .val (.int p2), .val (.int p3), .val (.ref b2), .val (.int v5_81), .val (.int v6_90), .val (.int v7_105), .val (.int v8_109), .val (.ref b28)] [(.ref b28)])) _
                        refine XS.bipush X88.here hx rfl (hb hby at_402) ?_
                        show Steps p.tables e below (T88.setTop (mkF m 404 #[.val (.int p0), .val (.int p1), .val (.int p2), .val (.int p3), .val (.ref b2), .val (.int v5_81), .val (.int v6_90), .val (.int v7_105), .val (.int v8_109), .val (.ref b28)] [(.int (10 : Int32)), (.ref b28)])) _
                        refine XS.iload X88.here hx rfl (hb hby at_404) rfl  ?_
                        show Steps p.tables e below (T88.setTop (mkF m 406 #[.val (.int p0), .val (.int p1), .val (.int p2), .val (.int p3), .val (.ref b2), .val (.int v5_81), .val (.int v6_90), .val (.int v7_105), .val (.int v8_109), .val (.ref b28)] [(.int v5_81), (.int (10 : Int32)), (.ref b28)])) _
                        refine XS.iload X88.here hx rfl (hb hby at_406) rfl  ?_
                        show Steps p.tables e below (T88.setTop (mkF m 408 #[.val (.int p0), .val (.int p1), .val (.int p2), .val (.int p3), .val (.ref b2), .val (.int v5_81), .val (.int v6_90), .val (.int v7_105), .val (.int v8_109), .val (.ref b28)] [(.int v6_90), (.int v5_81), (.int (10 : Int32)), (.ref b28)])) _
                        refine XS.iload X88.here hx rfl (hb hby at_408) rfl  ?_
                        show Steps p.tables e below (T88.setTop (mkF m 410 #[.val (.int p0), .val (.int p1), .val (.int p2), .val (.int p3), .val (.ref b2), .val (.int v5_81), .val (.int v6_90), .val (.int v7_105), .val (.int v8_109), .val (.ref b28)] [(.int v7_105), (.int v6_90), (.int v5_81), (.int (10 : Int32)), (.ref b28)])) _
                        refine XS.iload X88.here hx rfl (hb hby at_410) rfl  ?_
                        show Steps p.tables e below (T88.setTop (mkF m 412 #[.val (.int p0), .val (.int p1), .val (.int p2), .val (.int p3), .val (.ref b2), .val (.int v5_81), .val (.int v6_90), .val (.int v7_105), .val (.int v8_109), .val (.ref b28)] [(.int v8_109), (.int v7_105), (.int v6_90), (.int v5_81), (.int (10 : Int32)), (.ref b28)])) _
                        refine XS.aload X88.here hx rfl (hb hby at_412) rfl rfl ?_
                        exact k
                      obtain ⟨_, _, ⟨T91, L91, k91, n91⟩, -, X91, ⟨Lc91, hQ91, l91, y91, z91⟩, st91⟩ := Jvm.LawKit.callS X88 hx (y := (⟨"com/example/dayt/dayt/text/TextFormPutDigitsPinLaw", "at", "([BIIIIB[J)Z"⟩ : MethodName)) hown (mvT hZ (hw _ (List.mem_of_getElem? (i := 18) rfl))) (mvT hZ (hw _ (List.mem_of_getElem? (i := 19) rfl))) (mvT hZ (hw _ (List.mem_of_getElem? (i := 20) rfl))) (mvT hZ (hw _ (List.mem_of_getElem? (i := 21) rfl))) (by decide) (backOf (W := 0) (rm_2 l Z a0 hw [] b28 (10 : Int32) v5_81 v6_90 v7_105 v8_109 b2 (own_put (own_fl v8_109) v5_81.toNatClampNeg v6_90.toNatClampNeg v7_105) own_pt T59.heap n0 Z59 Q59_0 arr_b2_59 ⟨by decide, by decide⟩ (own_sc hv5_81 hv6_90) own_ptnz) hZ (hw _ (List.mem_of_getElem? (i := 21) rfl)) (hw _ (List.mem_of_getElem? (i := 20) rfl)) (by decide) (by decide)) (g := (mkF m 414 #[.val (.int p0), .val (.int p1), .val (.int p2), .val (.int p3), .val (.ref b2), .val (.int v5_81), .val (.int v6_90), .val (.int v7_105), .val (.int v8_109), .val (.ref b28)] [(.ref b2), (.int v8_109), (.int v7_105), (.int v6_90), (.int v5_81), (.int (10 : Int32)), (.ref b28)])) rfl (by rw [hml]; rfl) (argsL := [(.ref b28), (.int (10 : Int32)), (.int v5_81), (.int v6_90), (.int v7_105), (.int v8_109), (.ref b2)]) (rest := []) (lenOf pd_1 rfl) rfl (by show 2 * 0 + _ ≤ _; exact Nat.le_of_eq rfl) (hb hby at_414) (fun _ _ => ⟨rfl, e88, (by decide : 2 + 0 ≤ _), (by decide : 25 + 0 ≤ _)⟩)
                      dsimp only [Pt.U, Pt.locs, Pt.cells, Pt.slots] at X91 l91 y91 z91 st91 hQ91
                      rw [l91, y91, z91] at X91
                      obtain ⟨rfl, N91q, e91⟩ := hQ91
                      have N91 := Fr.app N88 N91q
                      have pre93 : ∀ t, Steps p.tables e below (T91.setTop (mkF m 417 #[.val (.int p0), .val (.int p1), .val (.int p2), .val (.int p3), .val (.ref b2), .val (.int v5_81), .val (.int v6_90), .val (.int v7_105), .val (.int v8_109), .val (.ref b28)] [(.int (f_2 (10 : Int32) v5_81 v6_90 v7_105 v8_109 (own_put (own_fl v8_109) v5_81.toNatClampNeg v6_90.toNatClampNeg v7_105) own_pt))])) t → Steps p.tables e below (s₁.setTop (entryFrame m #[(.int p0), (.int p1), (.int p2), (.int p3)] maxLocals)) t := by
                        intro t k
                        refine pre92 t ?_
                        show Steps p.tables e below (T88.setTop (mkF m 414 #[.val (.int p0), .val (.int p1), .val (.int p2), .val (.int p3), .val (.ref b2), .val (.int v5_81), .val (.int v6_90), .val (.int v7_105), .val (.int v8_109), .val (.ref b28)] [(.ref b2), (.int v8_109), (.int v7_105), (.int v6_90), (.int v5_81), (.int (10 : Int32)), (.ref b28)])) _
                        refine st91 _ ?_
                        exact k
                      by_cases hc417 : (f_2 (10 : Int32) v5_81 v6_90 v7_105 v8_109 (own_put (own_fl v8_109) v5_81.toNatClampNeg v6_90.toNatClampNeg v7_105) own_pt) = (0 : Int32)
                      · obtain ⟨fs, hr, hrun, hended, hW, hsame⟩ := X91.leave (v := some (.int (0 : Int32))) (fun h => by rw [Bd.returns] at h; cases h) (BodyLoose.notSynchronized Bd)
                        refine ⟨_, _, pre93 _ ?_, hrun, hended, _, _, rfl, ?_, ⟨_, rfl⟩, hW, hsame.mono (by decide) (by decide)⟩
                        · show Steps p.tables e below (T91.setTop (mkF m 417 #[.val (.int p0), .val (.int p1), .val (.int p2), .val (.int p3), .val (.ref b2), .val (.int v5_81), .val (.int v6_90), .val (.int v7_105), .val (.int v8_109), .val (.ref b28)] [(.int (f_2 (10 : Int32) v5_81 v6_90 v7_105 v8_109 (own_put (own_fl v8_109) v5_81.toNatClampNeg v6_90.toNatClampNeg v7_105) own_pt))])) _
                          refine XS.ifYes X91.here hx rfl (pc0 := 417) (pc' := 484) rfl (hb hby at_417) rfl ((if0 _ _).trans (teq hc417).1) (by decide) (by decide) ?_
                          show Steps p.tables e below (T91.setTop (mkF m 484 #[.val (.int p0), .val (.int p1), .val (.int p2), .val (.int p3), .val (.ref b2), .val (.int v5_81), .val (.int v6_90), .val (.int v7_105), .val (.int v8_109), .val (.ref b28)] [])) _
                          refine XS.iconst X91.here hx rfl (hb hby at_484) ?_
                          show Steps p.tables e below (T91.setTop (mkF m 485 #[.val (.int p0), .val (.int p1), .val (.int p2), .val (.int p3), .val (.ref b2), .val (.int v5_81), .val (.int v6_90), .val (.int v7_105), .val (.int v8_109), .val (.ref b28)] [(.int (0 : Int32))])) _
                          exact retN X91 hx (t := .boolean) Bd.returns (by simp) (hb hby at_485) hr
                        · show Q_0 Z p0 p1 p2 p3 h0 n0 _ T91.heap _
                          rw [e91]
                          exact ⟨congrArg (fun z => some (Value.int z)) (by subst hg_7 hg_13 hg_19 hg_25 hg_31 hg_37 hg_44 hg_51 hg_58 hg_65 hg_72 hv5_81 hv6_90 hv7_105 hv8_109 hg_119 hg_124 hg_129 hg_134 hg_139 hg_144 hg_150 hg_156 hg_162 hg_168 hg_174 hg_180 hg_186 hg_192; exact ((if_neg hc222).trans ((if_neg hc241).trans ((if_neg hc260).trans ((if_neg hc279).trans ((if_neg hc298).trans ((if_neg hc317).trans ((if_neg hc337).trans ((if_neg hc357).trans ((if_neg hc377).trans ((if_neg hc397).trans (if_pos hc417))))))))))).symm : (0 : Int32) = f_0 p0 p1 p2 p3), N91, trivial⟩
                      · have pre95 : ∀ t, Steps p.tables e below (T91.setTop (mkF m 434 #[.val (.int p0), .val (.int p1), .val (.int p2), .val (.int p3), .val (.ref b2), .val (.int v5_81), .val (.int v6_90), .val (.int v7_105), .val (.int v8_109), .val (.ref b28)] [(.ref b2), (.int v8_109), (.int v7_105), (.int v6_90), (.int v5_81), (.int (11 : Int32)), (.ref b28)])) t → Steps p.tables e below (s₁.setTop (entryFrame m #[(.int p0), (.int p1), (.int p2), (.int p3)] maxLocals)) t := by
                          intro t k
                          refine pre93 t ?_
                          show Steps p.tables e below (T91.setTop (mkF m 417 #[.val (.int p0), .val (.int p1), .val (.int p2), .val (.int p3), .val (.ref b2), .val (.int v5_81), .val (.int v6_90), .val (.int v7_105), .val (.int v8_109), .val (.ref b28)] [(.int (f_2 (10 : Int32) v5_81 v6_90 v7_105 v8_109 (own_put (own_fl v8_109) v5_81.toNatClampNeg v6_90.toNatClampNeg v7_105) own_pt))])) _
                          refine XS.ifNo X91.here hx rfl (hb hby at_417) rfl ((if0 _ _).trans (feq hc417).1) ?_
                          show Steps p.tables e below (T91.setTop (mkF m 420 #[.val (.int p0), .val (.int p1), .val (.int p2), .val (.int p3), .val (.ref b2), .val (.int v5_81), .val (.int v6_90), .val (.int v7_105), .val (.int v8_109), .val (.ref b28)] [])) _
                          refine XS.aload X91.here hx rfl (hb hby at_420) rfl rfl ?_
                          show Steps p.tables e below (T91.setTop (mkF m 422 #[.val (.int p0), .val (.int p1), .val (.int p2), .val (.int p3), .val (.ref b2), .val (.int v5_81), .val (.int v6_90), .val (.int v7_105), .val (.int v8_109), .val (.ref b28)] [(.ref b28)])) _
                          refine XS.bipush X91.here hx rfl (hb hby at_422) ?_
                          show Steps p.tables e below (T91.setTop (mkF m 424 #[.val (.int p0), .val (.int p1), .val (.int p2), .val (.int p3), .val (.ref b2), .val (.int v5_81), .val (.int v6_90), .val (.int v7_105), .val (.int v8_109), .val (.ref b28)] [(.int (11 : Int32)), (.ref b28)])) _
                          refine XS.iload X91.here hx rfl (hb hby at_424) rfl  ?_
                          show Steps p.tables e below (T91.setTop (mkF m 426 #[.val (.int p0), .val (.int p1), .val (.int p2), .val (.int p3), .val (.ref b2), .val (.int v5_81), .val (.int v6_90), .val (.int v7_105), .val (.int v8_109), .val (.ref b28)] [(.int v5_81), (.int (11 : Int32)), (.ref b28)])) _
                          refine XS.iload X91.here hx rfl (hb hby at_426) rfl  ?_
                          show Steps p.tables e below (T91.setTop (mkF m 428 #[.val (.int p0), .val (.int p1), .val (.int p2), .val (.int p3), .val (.ref b2), .val (.int v5_81), .val (.int v6_90), .val (.int v7_105), .val (.int v8_109), .val (.ref b28)] [(.int v6_90), (.int v5_81), (.int (11 : Int32)), (.ref b28)])) _
                          refine XS.iload X91.here hx rfl (hb hby at_428) rfl  ?_
                          show Steps p.tables e below (T91.setTop (mkF m 430 #[.val (.int p0), .val (.int p1), .val (.int p2), .val (.int p3), .val (.ref b2), .val (.int v5_81), .val (.int v6_90), .val (.int v7_105), .val (.int v8_109), .val (.ref b28)] [(.int v7_105), (.int v6_90), (.int v5_81), (.int (11 : Int32)), (.ref b28)])) _
                          refine XS.iload X91.here hx rfl (hb hby at_430) rfl  ?_
                          show Steps p.tables e below (T91.setTop (mkF m 432 #[.val (.int p0), .val (.int p1), .val (.int p2), .val (.int p3), .val (.ref b2), .val (.int v5_81), .val (.int v6_90), .val (.int v7_105), .val (.int v8_109), .val (.ref b28)] [(.int v8_109), (.int v7_105), (.int v6_90), (.int v5_81), (.int (11 : Int32)), (.ref b28)])) _
                          refine XS.aload X91.here hx rfl (hb hby at_432) rfl rfl ?_
                          exact k
                        obtain ⟨_, _, ⟨T94, L94, k94, n94⟩, -, X94, ⟨Lc94, hQ94, l94, y94, z94⟩, st94⟩ := Jvm.LawKit.callS X91 hx (y := (⟨"com/example/dayt/dayt/text/TextFormPutDigitsPinLaw", "at", "([BIIIIB[J)Z"⟩ : MethodName)) hown (mvT hZ (hw _ (List.mem_of_getElem? (i := 18) rfl))) (mvT hZ (hw _ (List.mem_of_getElem? (i := 19) rfl))) (mvT hZ (hw _ (List.mem_of_getElem? (i := 20) rfl))) (mvT hZ (hw _ (List.mem_of_getElem? (i := 21) rfl))) (by decide) (backOf (W := 0) (rm_2 l Z a0 hw [] b28 (11 : Int32) v5_81 v6_90 v7_105 v8_109 b2 (own_put (own_fl v8_109) v5_81.toNatClampNeg v6_90.toNatClampNeg v7_105) own_pt T59.heap n0 Z59 Q59_0 arr_b2_59 ⟨by decide, by decide⟩ (own_sc hv5_81 hv6_90) own_ptnz) hZ (hw _ (List.mem_of_getElem? (i := 21) rfl)) (hw _ (List.mem_of_getElem? (i := 20) rfl)) (by decide) (by decide)) (g := (mkF m 434 #[.val (.int p0), .val (.int p1), .val (.int p2), .val (.int p3), .val (.ref b2), .val (.int v5_81), .val (.int v6_90), .val (.int v7_105), .val (.int v8_109), .val (.ref b28)] [(.ref b2), (.int v8_109), (.int v7_105), (.int v6_90), (.int v5_81), (.int (11 : Int32)), (.ref b28)])) rfl (by rw [hml]; rfl) (argsL := [(.ref b28), (.int (11 : Int32)), (.int v5_81), (.int v6_90), (.int v7_105), (.int v8_109), (.ref b2)]) (rest := []) (lenOf pd_1 rfl) rfl (by show 2 * 0 + _ ≤ _; exact Nat.le_of_eq rfl) (hb hby at_434) (fun _ _ => ⟨rfl, e91, (by decide : 2 + 0 ≤ _), (by decide : 25 + 0 ≤ _)⟩)
                        dsimp only [Pt.U, Pt.locs, Pt.cells, Pt.slots] at X94 l94 y94 z94 st94 hQ94
                        rw [l94, y94, z94] at X94
                        obtain ⟨rfl, N94q, e94⟩ := hQ94
                        have N94 := Fr.app N91 N94q
                        have pre96 : ∀ t, Steps p.tables e below (T94.setTop (mkF m 437 #[.val (.int p0), .val (.int p1), .val (.int p2), .val (.int p3), .val (.ref b2), .val (.int v5_81), .val (.int v6_90), .val (.int v7_105), .val (.int v8_109), .val (.ref b28)] [(.int (f_2 (11 : Int32) v5_81 v6_90 v7_105 v8_109 (own_put (own_fl v8_109) v5_81.toNatClampNeg v6_90.toNatClampNeg v7_105) own_pt))])) t → Steps p.tables e below (s₁.setTop (entryFrame m #[(.int p0), (.int p1), (.int p2), (.int p3)] maxLocals)) t := by
                          intro t k
                          refine pre95 t ?_
                          show Steps p.tables e below (T91.setTop (mkF m 434 #[.val (.int p0), .val (.int p1), .val (.int p2), .val (.int p3), .val (.ref b2), .val (.int v5_81), .val (.int v6_90), .val (.int v7_105), .val (.int v8_109), .val (.ref b28)] [(.ref b2), (.int v8_109), (.int v7_105), (.int v6_90), (.int v5_81), (.int (11 : Int32)), (.ref b28)])) _
                          refine st94 _ ?_
                          exact k
                        by_cases hc437 : (f_2 (11 : Int32) v5_81 v6_90 v7_105 v8_109 (own_put (own_fl v8_109) v5_81.toNatClampNeg v6_90.toNatClampNeg v7_105) own_pt) = (0 : Int32)
                        · obtain ⟨fs, hr, hrun, hended, hW, hsame⟩ := X94.leave (v := some (.int (0 : Int32))) (fun h => by rw [Bd.returns] at h; cases h) (BodyLoose.notSynchronized Bd)
                          refine ⟨_, _, pre96 _ ?_, hrun, hended, _, _, rfl, ?_, ⟨_, rfl⟩, hW, hsame.mono (by decide) (by decide)⟩
                          · show Steps p.tables e below (T94.setTop (mkF m 437 #[.val (.int p0), .val (.int p1), .val (.int p2), .val (.int p3), .val (.ref b2), .val (.int v5_81), .val (.int v6_90), .val (.int v7_105), .val (.int v8_109), .val (.ref b28)] [(.int (f_2 (11 : Int32) v5_81 v6_90 v7_105 v8_109 (own_put (own_fl v8_109) v5_81.toNatClampNeg v6_90.toNatClampNeg v7_105) own_pt))])) _
                            refine XS.ifYes X94.here hx rfl (pc0 := 437) (pc' := 484) rfl (hb hby at_437) rfl ((if0 _ _).trans (teq hc437).1) (by decide) (by decide) ?_
                            show Steps p.tables e below (T94.setTop (mkF m 484 #[.val (.int p0), .val (.int p1), .val (.int p2), .val (.int p3), .val (.ref b2), .val (.int v5_81), .val (.int v6_90), .val (.int v7_105), .val (.int v8_109), .val (.ref b28)] [])) _
                            refine XS.iconst X94.here hx rfl (hb hby at_484) ?_
                            show Steps p.tables e below (T94.setTop (mkF m 485 #[.val (.int p0), .val (.int p1), .val (.int p2), .val (.int p3), .val (.ref b2), .val (.int v5_81), .val (.int v6_90), .val (.int v7_105), .val (.int v8_109), .val (.ref b28)] [(.int (0 : Int32))])) _
                            exact retN X94 hx (t := .boolean) Bd.returns (by simp) (hb hby at_485) hr
                          · show Q_0 Z p0 p1 p2 p3 h0 n0 _ T94.heap _
                            rw [e94]
                            exact ⟨congrArg (fun z => some (Value.int z)) (by subst hg_7 hg_13 hg_19 hg_25 hg_31 hg_37 hg_44 hg_51 hg_58 hg_65 hg_72 hv5_81 hv6_90 hv7_105 hv8_109 hg_119 hg_124 hg_129 hg_134 hg_139 hg_144 hg_150 hg_156 hg_162 hg_168 hg_174 hg_180 hg_186 hg_192; exact ((if_neg hc222).trans ((if_neg hc241).trans ((if_neg hc260).trans ((if_neg hc279).trans ((if_neg hc298).trans ((if_neg hc317).trans ((if_neg hc337).trans ((if_neg hc357).trans ((if_neg hc377).trans ((if_neg hc397).trans ((if_neg hc417).trans (if_pos hc437)))))))))))).symm : (0 : Int32) = f_0 p0 p1 p2 p3), N94, trivial⟩
                        · have pre98 : ∀ t, Steps p.tables e below (T94.setTop (mkF m 454 #[.val (.int p0), .val (.int p1), .val (.int p2), .val (.int p3), .val (.ref b2), .val (.int v5_81), .val (.int v6_90), .val (.int v7_105), .val (.int v8_109), .val (.ref b28)] [(.ref b2), (.int v8_109), (.int v7_105), (.int v6_90), (.int v5_81), (.int (12 : Int32)), (.ref b28)])) t → Steps p.tables e below (s₁.setTop (entryFrame m #[(.int p0), (.int p1), (.int p2), (.int p3)] maxLocals)) t := by
                            intro t k
                            refine pre96 t ?_
                            show Steps p.tables e below (T94.setTop (mkF m 437 #[.val (.int p0), .val (.int p1), .val (.int p2), .val (.int p3), .val (.ref b2), .val (.int v5_81), .val (.int v6_90), .val (.int v7_105), .val (.int v8_109), .val (.ref b28)] [(.int (f_2 (11 : Int32) v5_81 v6_90 v7_105 v8_109 (own_put (own_fl v8_109) v5_81.toNatClampNeg v6_90.toNatClampNeg v7_105) own_pt))])) _
                            refine XS.ifNo X94.here hx rfl (hb hby at_437) rfl ((if0 _ _).trans (feq hc437).1) ?_
                            show Steps p.tables e below (T94.setTop (mkF m 440 #[.val (.int p0), .val (.int p1), .val (.int p2), .val (.int p3), .val (.ref b2), .val (.int v5_81), .val (.int v6_90), .val (.int v7_105), .val (.int v8_109), .val (.ref b28)] [])) _
                            refine XS.aload X94.here hx rfl (hb hby at_440) rfl rfl ?_
                            show Steps p.tables e below (T94.setTop (mkF m 442 #[.val (.int p0), .val (.int p1), .val (.int p2), .val (.int p3), .val (.ref b2), .val (.int v5_81), .val (.int v6_90), .val (.int v7_105), .val (.int v8_109), .val (.ref b28)] [(.ref b28)])) _
                            refine XS.bipush X94.here hx rfl (hb hby at_442) ?_
                            show Steps p.tables e below (T94.setTop (mkF m 444 #[.val (.int p0), .val (.int p1), .val (.int p2), .val (.int p3), .val (.ref b2), .val (.int v5_81), .val (.int v6_90), .val (.int v7_105), .val (.int v8_109), .val (.ref b28)] [(.int (12 : Int32)), (.ref b28)])) _
                            refine XS.iload X94.here hx rfl (hb hby at_444) rfl  ?_
                            show Steps p.tables e below (T94.setTop (mkF m 446 #[.val (.int p0), .val (.int p1), .val (.int p2), .val (.int p3), .val (.ref b2), .val (.int v5_81), .val (.int v6_90), .val (.int v7_105), .val (.int v8_109), .val (.ref b28)] [(.int v5_81), (.int (12 : Int32)), (.ref b28)])) _
                            refine XS.iload X94.here hx rfl (hb hby at_446) rfl  ?_
                            show Steps p.tables e below (T94.setTop (mkF m 448 #[.val (.int p0), .val (.int p1), .val (.int p2), .val (.int p3), .val (.ref b2), .val (.int v5_81), .val (.int v6_90), .val (.int v7_105), .val (.int v8_109), .val (.ref b28)] [(.int v6_90), (.int v5_81), (.int (12 : Int32)), (.ref b28)])) _
                            refine XS.iload X94.here hx rfl (hb hby at_448) rfl  ?_
                            show Steps p.tables e below (T94.setTop (mkF m 450 #[.val (.int p0), .val (.int p1), .val (.int p2), .val (.int p3), .val (.ref b2), .val (.int v5_81), .val (.int v6_90), .val (.int v7_105), .val (.int v8_109), .val (.ref b28)] [(.int v7_105), (.int v6_90), (.int v5_81), (.int (12 : Int32)), (.ref b28)])) _
                            refine XS.iload X94.here hx rfl (hb hby at_450) rfl  ?_
                            show Steps p.tables e below (T94.setTop (mkF m 452 #[.val (.int p0), .val (.int p1), .val (.int p2), .val (.int p3), .val (.ref b2), .val (.int v5_81), .val (.int v6_90), .val (.int v7_105), .val (.int v8_109), .val (.ref b28)] [(.int v8_109), (.int v7_105), (.int v6_90), (.int v5_81), (.int (12 : Int32)), (.ref b28)])) _
                            refine XS.aload X94.here hx rfl (hb hby at_452) rfl rfl ?_
                            exact k
                          obtain ⟨_, _, ⟨T97, L97, k97, n97⟩, -, X97, ⟨Lc97, hQ97, l97, y97, z97⟩, st97⟩ := Jvm.LawKit.callS X94 hx (y := (⟨"com/example/dayt/dayt/text/TextFormPutDigitsPinLaw", "at", "([BIIIIB[J)Z"⟩ : MethodName)) hown (mvT hZ (hw _ (List.mem_of_getElem? (i := 18) rfl))) (mvT hZ (hw _ (List.mem_of_getElem? (i := 19) rfl))) (mvT hZ (hw _ (List.mem_of_getElem? (i := 20) rfl))) (mvT hZ (hw _ (List.mem_of_getElem? (i := 21) rfl))) (by decide) (backOf (W := 0) (rm_2 l Z a0 hw [] b28 (12 : Int32) v5_81 v6_90 v7_105 v8_109 b2 (own_put (own_fl v8_109) v5_81.toNatClampNeg v6_90.toNatClampNeg v7_105) own_pt T59.heap n0 Z59 Q59_0 arr_b2_59 ⟨by decide, by decide⟩ (own_sc hv5_81 hv6_90) own_ptnz) hZ (hw _ (List.mem_of_getElem? (i := 21) rfl)) (hw _ (List.mem_of_getElem? (i := 20) rfl)) (by decide) (by decide)) (g := (mkF m 454 #[.val (.int p0), .val (.int p1), .val (.int p2), .val (.int p3), .val (.ref b2), .val (.int v5_81), .val (.int v6_90), .val (.int v7_105), .val (.int v8_109), .val (.ref b28)] [(.ref b2), (.int v8_109), (.int v7_105), (.int v6_90), (.int v5_81), (.int (12 : Int32)), (.ref b28)])) rfl (by rw [hml]; rfl) (argsL := [(.ref b28), (.int (12 : Int32)), (.int v5_81), (.int v6_90), (.int v7_105), (.int v8_109), (.ref b2)]) (rest := []) (lenOf pd_1 rfl) rfl (by show 2 * 0 + _ ≤ _; exact Nat.le_of_eq rfl) (hb hby at_454) (fun _ _ => ⟨rfl, e94, (by decide : 2 + 0 ≤ _), (by decide : 25 + 0 ≤ _)⟩)
                          dsimp only [Pt.U, Pt.locs, Pt.cells, Pt.slots] at X97 l97 y97 z97 st97 hQ97
                          rw [l97, y97, z97] at X97
                          obtain ⟨rfl, N97q, e97⟩ := hQ97
                          have N97 := Fr.app N94 N97q
                          have pre99 : ∀ t, Steps p.tables e below (T97.setTop (mkF m 457 #[.val (.int p0), .val (.int p1), .val (.int p2), .val (.int p3), .val (.ref b2), .val (.int v5_81), .val (.int v6_90), .val (.int v7_105), .val (.int v8_109), .val (.ref b28)] [(.int (f_2 (12 : Int32) v5_81 v6_90 v7_105 v8_109 (own_put (own_fl v8_109) v5_81.toNatClampNeg v6_90.toNatClampNeg v7_105) own_pt))])) t → Steps p.tables e below (s₁.setTop (entryFrame m #[(.int p0), (.int p1), (.int p2), (.int p3)] maxLocals)) t := by
                            intro t k
                            refine pre98 t ?_
                            show Steps p.tables e below (T94.setTop (mkF m 454 #[.val (.int p0), .val (.int p1), .val (.int p2), .val (.int p3), .val (.ref b2), .val (.int v5_81), .val (.int v6_90), .val (.int v7_105), .val (.int v8_109), .val (.ref b28)] [(.ref b2), (.int v8_109), (.int v7_105), (.int v6_90), (.int v5_81), (.int (12 : Int32)), (.ref b28)])) _
                            refine st97 _ ?_
                            exact k
                          by_cases hc457 : (f_2 (12 : Int32) v5_81 v6_90 v7_105 v8_109 (own_put (own_fl v8_109) v5_81.toNatClampNeg v6_90.toNatClampNeg v7_105) own_pt) = (0 : Int32)
                          · obtain ⟨fs, hr, hrun, hended, hW, hsame⟩ := X97.leave (v := some (.int (0 : Int32))) (fun h => by rw [Bd.returns] at h; cases h) (BodyLoose.notSynchronized Bd)
                            refine ⟨_, _, pre99 _ ?_, hrun, hended, _, _, rfl, ?_, ⟨_, rfl⟩, hW, hsame.mono (by decide) (by decide)⟩
                            · show Steps p.tables e below (T97.setTop (mkF m 457 #[.val (.int p0), .val (.int p1), .val (.int p2), .val (.int p3), .val (.ref b2), .val (.int v5_81), .val (.int v6_90), .val (.int v7_105), .val (.int v8_109), .val (.ref b28)] [(.int (f_2 (12 : Int32) v5_81 v6_90 v7_105 v8_109 (own_put (own_fl v8_109) v5_81.toNatClampNeg v6_90.toNatClampNeg v7_105) own_pt))])) _
                              refine XS.ifYes X97.here hx rfl (pc0 := 457) (pc' := 484) rfl (hb hby at_457) rfl ((if0 _ _).trans (teq hc457).1) (by decide) (by decide) ?_
                              show Steps p.tables e below (T97.setTop (mkF m 484 #[.val (.int p0), .val (.int p1), .val (.int p2), .val (.int p3), .val (.ref b2), .val (.int v5_81), .val (.int v6_90), .val (.int v7_105), .val (.int v8_109), .val (.ref b28)] [])) _
                              refine XS.iconst X97.here hx rfl (hb hby at_484) ?_
                              show Steps p.tables e below (T97.setTop (mkF m 485 #[.val (.int p0), .val (.int p1), .val (.int p2), .val (.int p3), .val (.ref b2), .val (.int v5_81), .val (.int v6_90), .val (.int v7_105), .val (.int v8_109), .val (.ref b28)] [(.int (0 : Int32))])) _
                              exact retN X97 hx (t := .boolean) Bd.returns (by simp) (hb hby at_485) hr
                            · show Q_0 Z p0 p1 p2 p3 h0 n0 _ T97.heap _
                              rw [e97]
                              exact ⟨congrArg (fun z => some (Value.int z)) (by subst hg_7 hg_13 hg_19 hg_25 hg_31 hg_37 hg_44 hg_51 hg_58 hg_65 hg_72 hv5_81 hv6_90 hv7_105 hv8_109 hg_119 hg_124 hg_129 hg_134 hg_139 hg_144 hg_150 hg_156 hg_162 hg_168 hg_174 hg_180 hg_186 hg_192; exact ((if_neg hc222).trans ((if_neg hc241).trans ((if_neg hc260).trans ((if_neg hc279).trans ((if_neg hc298).trans ((if_neg hc317).trans ((if_neg hc337).trans ((if_neg hc357).trans ((if_neg hc377).trans ((if_neg hc397).trans ((if_neg hc417).trans ((if_neg hc437).trans (if_pos hc457))))))))))))).symm : (0 : Int32) = f_0 p0 p1 p2 p3), N97, trivial⟩
                          · have pre101 : ∀ t, Steps p.tables e below (T97.setTop (mkF m 474 #[.val (.int p0), .val (.int p1), .val (.int p2), .val (.int p3), .val (.ref b2), .val (.int v5_81), .val (.int v6_90), .val (.int v7_105), .val (.int v8_109), .val (.ref b28)] [(.ref b2), (.int v8_109), (.int v7_105), (.int v6_90), (.int v5_81), (.int (13 : Int32)), (.ref b28)])) t → Steps p.tables e below (s₁.setTop (entryFrame m #[(.int p0), (.int p1), (.int p2), (.int p3)] maxLocals)) t := by
                              intro t k
                              refine pre99 t ?_
                              show Steps p.tables e below (T97.setTop (mkF m 457 #[.val (.int p0), .val (.int p1), .val (.int p2), .val (.int p3), .val (.ref b2), .val (.int v5_81), .val (.int v6_90), .val (.int v7_105), .val (.int v8_109), .val (.ref b28)] [(.int (f_2 (12 : Int32) v5_81 v6_90 v7_105 v8_109 (own_put (own_fl v8_109) v5_81.toNatClampNeg v6_90.toNatClampNeg v7_105) own_pt))])) _
                              refine XS.ifNo X97.here hx rfl (hb hby at_457) rfl ((if0 _ _).trans (feq hc457).1) ?_
                              show Steps p.tables e below (T97.setTop (mkF m 460 #[.val (.int p0), .val (.int p1), .val (.int p2), .val (.int p3), .val (.ref b2), .val (.int v5_81), .val (.int v6_90), .val (.int v7_105), .val (.int v8_109), .val (.ref b28)] [])) _
                              refine XS.aload X97.here hx rfl (hb hby at_460) rfl rfl ?_
                              show Steps p.tables e below (T97.setTop (mkF m 462 #[.val (.int p0), .val (.int p1), .val (.int p2), .val (.int p3), .val (.ref b2), .val (.int v5_81), .val (.int v6_90), .val (.int v7_105), .val (.int v8_109), .val (.ref b28)] [(.ref b28)])) _
                              refine XS.bipush X97.here hx rfl (hb hby at_462) ?_
                              show Steps p.tables e below (T97.setTop (mkF m 464 #[.val (.int p0), .val (.int p1), .val (.int p2), .val (.int p3), .val (.ref b2), .val (.int v5_81), .val (.int v6_90), .val (.int v7_105), .val (.int v8_109), .val (.ref b28)] [(.int (13 : Int32)), (.ref b28)])) _
                              refine XS.iload X97.here hx rfl (hb hby at_464) rfl  ?_
                              show Steps p.tables e below (T97.setTop (mkF m 466 #[.val (.int p0), .val (.int p1), .val (.int p2), .val (.int p3), .val (.ref b2), .val (.int v5_81), .val (.int v6_90), .val (.int v7_105), .val (.int v8_109), .val (.ref b28)] [(.int v5_81), (.int (13 : Int32)), (.ref b28)])) _
                              refine XS.iload X97.here hx rfl (hb hby at_466) rfl  ?_
                              show Steps p.tables e below (T97.setTop (mkF m 468 #[.val (.int p0), .val (.int p1), .val (.int p2), .val (.int p3), .val (.ref b2), .val (.int v5_81), .val (.int v6_90), .val (.int v7_105), .val (.int v8_109), .val (.ref b28)] [(.int v6_90), (.int v5_81), (.int (13 : Int32)), (.ref b28)])) _
                              refine XS.iload X97.here hx rfl (hb hby at_468) rfl  ?_
                              show Steps p.tables e below (T97.setTop (mkF m 470 #[.val (.int p0), .val (.int p1), .val (.int p2), .val (.int p3), .val (.ref b2), .val (.int v5_81), .val (.int v6_90), .val (.int v7_105), .val (.int v8_109), .val (.ref b28)] [(.int v7_105), (.int v6_90), (.int v5_81), (.int (13 : Int32)), (.ref b28)])) _
                              refine XS.iload X97.here hx rfl (hb hby at_470) rfl  ?_
                              show Steps p.tables e below (T97.setTop (mkF m 472 #[.val (.int p0), .val (.int p1), .val (.int p2), .val (.int p3), .val (.ref b2), .val (.int v5_81), .val (.int v6_90), .val (.int v7_105), .val (.int v8_109), .val (.ref b28)] [(.int v8_109), (.int v7_105), (.int v6_90), (.int v5_81), (.int (13 : Int32)), (.ref b28)])) _
                              refine XS.aload X97.here hx rfl (hb hby at_472) rfl rfl ?_
                              exact k
                            obtain ⟨_, _, ⟨T100, L100, k100, n100⟩, -, X100, ⟨Lc100, hQ100, l100, y100, z100⟩, st100⟩ := Jvm.LawKit.callS X97 hx (y := (⟨"com/example/dayt/dayt/text/TextFormPutDigitsPinLaw", "at", "([BIIIIB[J)Z"⟩ : MethodName)) hown (mvT hZ (hw _ (List.mem_of_getElem? (i := 18) rfl))) (mvT hZ (hw _ (List.mem_of_getElem? (i := 19) rfl))) (mvT hZ (hw _ (List.mem_of_getElem? (i := 20) rfl))) (mvT hZ (hw _ (List.mem_of_getElem? (i := 21) rfl))) (by decide) (backOf (W := 0) (rm_2 l Z a0 hw [] b28 (13 : Int32) v5_81 v6_90 v7_105 v8_109 b2 (own_put (own_fl v8_109) v5_81.toNatClampNeg v6_90.toNatClampNeg v7_105) own_pt T59.heap n0 Z59 Q59_0 arr_b2_59 ⟨by decide, by decide⟩ (own_sc hv5_81 hv6_90) own_ptnz) hZ (hw _ (List.mem_of_getElem? (i := 21) rfl)) (hw _ (List.mem_of_getElem? (i := 20) rfl)) (by decide) (by decide)) (g := (mkF m 474 #[.val (.int p0), .val (.int p1), .val (.int p2), .val (.int p3), .val (.ref b2), .val (.int v5_81), .val (.int v6_90), .val (.int v7_105), .val (.int v8_109), .val (.ref b28)] [(.ref b2), (.int v8_109), (.int v7_105), (.int v6_90), (.int v5_81), (.int (13 : Int32)), (.ref b28)])) rfl (by rw [hml]; rfl) (argsL := [(.ref b28), (.int (13 : Int32)), (.int v5_81), (.int v6_90), (.int v7_105), (.int v8_109), (.ref b2)]) (rest := []) (lenOf pd_1 rfl) rfl (by show 2 * 0 + _ ≤ _; exact Nat.le_of_eq rfl) (hb hby at_474) (fun _ _ => ⟨rfl, e97, (by decide : 2 + 0 ≤ _), (by decide : 25 + 0 ≤ _)⟩)
                            dsimp only [Pt.U, Pt.locs, Pt.cells, Pt.slots] at X100 l100 y100 z100 st100 hQ100
                            rw [l100, y100, z100] at X100
                            obtain ⟨rfl, N100q, e100⟩ := hQ100
                            have N100 := Fr.app N97 N100q
                            have pre102 : ∀ t, Steps p.tables e below (T100.setTop (mkF m 477 #[.val (.int p0), .val (.int p1), .val (.int p2), .val (.int p3), .val (.ref b2), .val (.int v5_81), .val (.int v6_90), .val (.int v7_105), .val (.int v8_109), .val (.ref b28)] [(.int (f_2 (13 : Int32) v5_81 v6_90 v7_105 v8_109 (own_put (own_fl v8_109) v5_81.toNatClampNeg v6_90.toNatClampNeg v7_105) own_pt))])) t → Steps p.tables e below (s₁.setTop (entryFrame m #[(.int p0), (.int p1), (.int p2), (.int p3)] maxLocals)) t := by
                              intro t k
                              refine pre101 t ?_
                              show Steps p.tables e below (T97.setTop (mkF m 474 #[.val (.int p0), .val (.int p1), .val (.int p2), .val (.int p3), .val (.ref b2), .val (.int v5_81), .val (.int v6_90), .val (.int v7_105), .val (.int v8_109), .val (.ref b28)] [(.ref b2), (.int v8_109), (.int v7_105), (.int v6_90), (.int v5_81), (.int (13 : Int32)), (.ref b28)])) _
                              refine st100 _ ?_
                              exact k
                            obtain ⟨ms0_485, hms0_485⟩ : ∃ z : Int32, z = (if (f_2 (13 : Int32) v5_81 v6_90 v7_105 v8_109 (own_put (own_fl v8_109) v5_81.toNatClampNeg v6_90.toNatClampNeg v7_105) own_pt) = (0 : Int32) then (0 : Int32) else (1 : Int32)) := ⟨_, rfl⟩
                            have pre103 : ∀ t, Steps p.tables e below (T100.setTop (mkF m 485 #[.val (.int p0), .val (.int p1), .val (.int p2), .val (.int p3), .val (.ref b2), .val (.int v5_81), .val (.int v6_90), .val (.int v7_105), .val (.int v8_109), .val (.ref b28)] [(.int ms0_485)])) t → Steps p.tables e below (s₁.setTop (entryFrame m #[(.int p0), (.int p1), (.int p2), (.int p3)] maxLocals)) t := by
                              intro t k
                              refine pre102 t ?_
                              by_cases hc477 : (f_2 (13 : Int32) v5_81 v6_90 v7_105 v8_109 (own_put (own_fl v8_109) v5_81.toNatClampNeg v6_90.toNatClampNeg v7_105) own_pt) = (0 : Int32)
                              · show Steps p.tables e below (T100.setTop (mkF m 477 #[.val (.int p0), .val (.int p1), .val (.int p2), .val (.int p3), .val (.ref b2), .val (.int v5_81), .val (.int v6_90), .val (.int v7_105), .val (.int v8_109), .val (.ref b28)] [(.int (f_2 (13 : Int32) v5_81 v6_90 v7_105 v8_109 (own_put (own_fl v8_109) v5_81.toNatClampNeg v6_90.toNatClampNeg v7_105) own_pt))])) _
                                refine XS.ifYes X100.here hx rfl (pc0 := 477) (pc' := 484) rfl (hb hby at_477) rfl ((if0 _ _).trans (teq hc477).1) (by decide) (by decide) ?_
                                show Steps p.tables e below (T100.setTop (mkF m 484 #[.val (.int p0), .val (.int p1), .val (.int p2), .val (.int p3), .val (.ref b2), .val (.int v5_81), .val (.int v6_90), .val (.int v7_105), .val (.int v8_109), .val (.ref b28)] [])) _
                                refine XS.iconst X100.here hx rfl (hb hby at_484) ?_
                                have qms0_485 : ms0_485 = (0 : Int32) := by rw [hms0_485, if_pos hc477]
                                rw [qms0_485] at k
                                exact k
                              · show Steps p.tables e below (T100.setTop (mkF m 477 #[.val (.int p0), .val (.int p1), .val (.int p2), .val (.int p3), .val (.ref b2), .val (.int v5_81), .val (.int v6_90), .val (.int v7_105), .val (.int v8_109), .val (.ref b28)] [(.int (f_2 (13 : Int32) v5_81 v6_90 v7_105 v8_109 (own_put (own_fl v8_109) v5_81.toNatClampNeg v6_90.toNatClampNeg v7_105) own_pt))])) _
                                refine XS.ifNo X100.here hx rfl (hb hby at_477) rfl ((if0 _ _).trans (feq hc477).1) ?_
                                show Steps p.tables e below (T100.setTop (mkF m 480 #[.val (.int p0), .val (.int p1), .val (.int p2), .val (.int p3), .val (.ref b2), .val (.int v5_81), .val (.int v6_90), .val (.int v7_105), .val (.int v8_109), .val (.ref b28)] [])) _
                                refine XS.iconst X100.here hx rfl (hb hby at_480) ?_
                                show Steps p.tables e below (T100.setTop (mkF m 481 #[.val (.int p0), .val (.int p1), .val (.int p2), .val (.int p3), .val (.ref b2), .val (.int v5_81), .val (.int v6_90), .val (.int v7_105), .val (.int v8_109), .val (.ref b28)] [(.int (1 : Int32))])) _
                                refine XS.goto X100.here hx rfl (pc0 := 481) (pc' := 485) rfl (hb hby at_481) (by decide) (by decide) ?_
                                have qms0_485 : ms0_485 = (1 : Int32) := by rw [hms0_485, if_neg hc477]
                                rw [qms0_485] at k
                                exact k
                            have hnar : nar .boolean ms0_485 = ms0_485 := by rw [hms0_485]; (repeat' split) <;> rfl
                            obtain ⟨fs, hr, hrun, hended, hW, hsame⟩ := X100.leave (v := some (.int ms0_485)) (fun h => by rw [Bd.returns] at h; cases h) (BodyLoose.notSynchronized Bd)
                            refine ⟨_, _, pre103 _ ?_, hrun, hended, _, _, rfl, ?_, ⟨_, rfl⟩, hW, hsame.mono (by decide) (by decide)⟩
                            · show Steps p.tables e below (T100.setTop (mkF m 485 #[.val (.int p0), .val (.int p1), .val (.int p2), .val (.int p3), .val (.ref b2), .val (.int v5_81), .val (.int v6_90), .val (.int v7_105), .val (.int v8_109), .val (.ref b28)] [(.int ms0_485)])) _
                              exact retN X100 hx (t := .boolean) Bd.returns (by simp) (hb hby at_485) (by rw [hnar]; exact hr)
                            · show Q_0 Z p0 p1 p2 p3 h0 n0 _ T100.heap _
                              rw [e100]
                              exact ⟨congrArg (fun z => some (Value.int z)) (by subst hg_7 hg_13 hg_19 hg_25 hg_31 hg_37 hg_44 hg_51 hg_58 hg_65 hg_72 hv5_81 hv6_90 hv7_105 hv8_109 hg_119 hg_124 hg_129 hg_134 hg_139 hg_144 hg_150 hg_156 hg_162 hg_168 hg_174 hg_180 hg_186 hg_192 hms0_485; exact ((if_neg hc222).trans ((if_neg hc241).trans ((if_neg hc260).trans ((if_neg hc279).trans ((if_neg hc298).trans ((if_neg hc317).trans ((if_neg hc337).trans ((if_neg hc357).trans ((if_neg hc377).trans ((if_neg hc397).trans ((if_neg hc417).trans ((if_neg hc437).trans (if_neg hc457))))))))))))).symm : ms0_485 = f_0 p0 p1 p2 p3), N100, trivial⟩
theorem own_dgv (r : Int32) (h : 0 ≤ r.toInt) : (own_dg r).toInt = 48 + r.toInt % 10 := by
  have a1 := (c_irem r 10 10 (by decide)).1 h
  have a2 := c_iadd 48 (r % 10)
  have r2 := rng32 (48 + r % 10)
  have b1 := c_i2b (48 + r % 10)
  have b2 := c_i2b (48 + r % 10).toInt8.toInt32
  have l : (48 : Int32).toInt = 48 := by decide
  unfold own_dg
  omega
theorem own_putv : ∀ (k : Nat) (g : Nat → Int32) (s : Nat) (r : Int32) (i : Nat), 0 ≤ r.toInt → (own_put g s k r i).toInt = if s ≤ i ∧ i < s + k then 48 + (r.toInt / 10 ^ (s + k - 1 - i)) % 10 else (g i).toInt
  | 0, g, s, r, i, _ => by
    rw [if_neg (by omega)]
    rfl
  | k + 1, g, s, r, i, h => by
    have d := (c_idiv r 10 10 (by decide) (by decide)).1 h
    have ih := own_putv k (own_upd g (s + k) (own_dg r)) s (r / 10) i (by omega)
    show (own_put (own_upd g (s + k) (own_dg r)) s k (r / 10) i).toInt = _
    rw [ih, d]
    by_cases c1 : s ≤ i ∧ i < s + k
    · rw [if_pos c1, if_pos (by omega)]
      have e : s + (k + 1) - 1 - i = (s + k - 1 - i) + 1 := by omega
      rw [e, Int.pow_succ, Int.mul_comm, Int.ediv_ediv_of_nonneg (by decide)]
    · rw [if_neg c1]
      by_cases c2 : i = s + k
      · rw [if_pos (by omega)]
        have e : s + (k + 1) - 1 - i = 0 := by omega
        rw [e, Int.pow_zero, Int.ediv_one]
        unfold own_upd
        rw [if_pos c2]
        exact own_dgv r h
      · rw [if_neg (by omega)]
        unfold own_upd
        rw [if_neg c2]
theorem own_bb (f : Int32) : f.toInt8.toInt32.toInt8.toInt32 = f.toInt8.toInt32 := by
  have a := c_i2b f
  have b := c_i2b f.toInt8.toInt32
  apply Int32.toInt_inj.mp
  omega
theorem own_at (i s c v b : Int32) (hi : ¬ i < 0) (hi2 : i.toNatClampNeg < 14) (hs : 0 ≤ s.toInt ∧ s.toInt ≤ 2 ∧ 0 ≤ c.toInt ∧ c.toInt ≤ 10) (hv : 0 ≤ v.toInt) (hb : b.toInt8.toInt32 = b) : f_2 i s c v b (own_put (own_fl b) s.toNatClampNeg c.toNatClampNeg v) own_pt = 1 := by
  have q := own_j1 hi hi2 hs rfl rfl
  have l0 : (0 : Int32).toInt = 0 := by decide
  have s1 : ¬ s < 0 := by rw [Int32.lt_iff_toInt_lt]; omega
  have s2 := nat_of s1
  have c1 : ¬ c < 0 := by rw [Int32.lt_iff_toInt_lt]; omega
  have c2 := nat_of c1
  have n1 := nat_of hi
  have pv := own_putv c.toNatClampNeg (own_fl b) s.toNatClampNeg v i.toNatClampNeg hv
  simp only [f_2]
  by_cases h7 : i < s
  · have e : own_put (own_fl b) s.toNatClampNeg c.toNatClampNeg v i.toNatClampNeg = b := by
      rw [Int32.lt_iff_toInt_lt] at h7
      rw [if_neg (by omega)] at pv
      apply Int32.toInt_inj.mp
      rw [pv]
      exact congrArg Int32.toInt hb
    simp only [h7, e, if_true]
  · by_cases h13 : i < s + c
    · simp only [h7, h13, if_true, if_false]
      rw [Int32.lt_iff_toInt_lt] at h7 h13
      have m1 : ¬ ((s + c) - 1 - i) < 0 := by rw [Int32.lt_iff_toInt_lt]; omega
      have m2 := nat_of m1
      have je : ((s + c) - 1 - i).toNatClampNeg = s.toNatClampNeg + c.toNatClampNeg - 1 - i.toNatClampNeg := by omega
      rw [if_pos (by omega), ← je] at pv
      generalize ((s + c) - 1 - i).toNatClampNeg = j at *
      have jl : j < 11 := by omega
      have pj := own_ptv j jl
      have pp : (0 : Int) < 10 ^ j := Int.pow_pos (by decide)
      have nm : own_pt j ≠ -1 := by
        intro w
        rw [w] at pj
        have : (-1 : Int64).toInt = -1 := by decide
        omega
      have v1 := c_i2l v
      have d1 := (c_ldiv v.toInt64 (own_pt j) _ pj nm).1 (by omega)
      rw [v1] at d1
      have dn : 0 ≤ v.toInt / 10 ^ j := Int.ediv_nonneg hv (by omega)
      have d2 : (v.toInt64 / own_pt j % 10).toInt = v.toInt / 10 ^ j % 10 := by
        rw [Int64.toInt_mod, d1, show (10 : Int64).toInt = 10 by decide]
        exact (tr _ _).1 dn
      generalize v.toInt / 10 ^ j = w at *
      generalize v.toInt64 / own_pt j % 10 = x at *
      have a1 := c_ladd 48 x
      have r1 := rng64 (48 + x)
      have l48 : (48 : Int64).toInt = 48 := by decide
      have a2 := c_l2i (48 + x)
      have r2 := rng32 (48 + x).toInt32
      have a3 := c_i2b (48 + x).toInt32
      have e : own_put (own_fl b) s.toNatClampNeg c.toNatClampNeg v i.toNatClampNeg = (48 + x).toInt32.toInt8.toInt32 := by
        apply Int32.toInt_inj.mp
        omega
      rw [if_pos e]
    · have e : own_put (own_fl b) s.toNatClampNeg c.toNatClampNeg v i.toNatClampNeg = b := by
        rw [Int32.lt_iff_toInt_lt] at h7 h13
        rw [if_neg (by omega)] at pv
        apply Int32.toInt_inj.mp
        rw [pv]
        exact congrArg Int32.toInt hb
      simp only [h7, h13, e, if_true, if_false]
theorem own_val (x : Int64) (c : Int32) (hc : c.toNatClampNeg < 11) : 0 ≤ ((x &&& (2147483647 : Int64)) % (own_pt c.toNatClampNeg)).toInt32.toInt := by
  have a1 := c_maskL x 2147483647 31 (by decide) (by decide)
  have pj := own_ptv c.toNatClampNeg hc
  have pp : (0 : Int) < 10 ^ c.toNatClampNeg := Int.pow_pos (by decide)
  have m : ((x &&& 2147483647) % own_pt c.toNatClampNeg).toInt = (x &&& 2147483647).toInt % 10 ^ c.toNatClampNeg := by
    rw [Int64.toInt_mod, pj]
    exact (tr _ _).1 (by omega)
  have m1 := Int.emod_nonneg (x &&& 2147483647).toInt (show (10 : Int) ^ c.toNatClampNeg ≠ 0 by omega)
  have e := Int.mul_ediv_add_emod (x &&& 2147483647).toInt (10 ^ c.toNatClampNeg)
  have k : 0 ≤ 10 ^ c.toNatClampNeg * ((x &&& 2147483647).toInt / 10 ^ c.toNatClampNeg) := Int.mul_nonneg (by omega) (Int.ediv_nonneg (by omega) (by omega))
  have l := c_l2i ((x &&& 2147483647) % own_pt c.toNatClampNeg)
  have r := rng32 ((x &&& 2147483647) % own_pt c.toNatClampNeg).toInt32
  generalize 10 ^ c.toNatClampNeg * ((x &&& 2147483647).toInt / 10 ^ c.toNatClampNeg) = y at *
  generalize (x &&& 2147483647).toInt % 10 ^ c.toNatClampNeg = w at *
  omega
theorem own_law (p0 p1 p2 p3 : Int32) : f_0 p0 p1 p2 p3 = 1 := by
  have hs := own_sc (p := p0) (q := p1) rfl rfl
  have hc := (own_ct (p := p1) rfl).2
  have hv := own_val p2.toInt64 _ hc
  have hb := own_bb p3
  simp only [f_0]
  have n10 : ¬ (1 : Int32) = 0 := by decide
  rw [own_at 0 _ _ _ _ (by decide) (by decide) hs hv hb, if_neg n10, own_at 1 _ _ _ _ (by decide) (by decide) hs hv hb, if_neg n10, own_at 2 _ _ _ _ (by decide) (by decide) hs hv hb, if_neg n10, own_at 3 _ _ _ _ (by decide) (by decide) hs hv hb, if_neg n10, own_at 4 _ _ _ _ (by decide) (by decide) hs hv hb, if_neg n10, own_at 5 _ _ _ _ (by decide) (by decide) hs hv hb, if_neg n10, own_at 6 _ _ _ _ (by decide) (by decide) hs hv hb, if_neg n10,
    own_at 7 _ _ _ _ (by decide) (by decide) hs hv hb, if_neg n10, own_at 8 _ _ _ _ (by decide) (by decide) hs hv hb, if_neg n10, own_at 9 _ _ _ _ (by decide) (by decide) hs hv hb, if_neg n10, own_at 10 _ _ _ _ (by decide) (by decide) hs hv hb, if_neg n10, own_at 11 _ _ _ _ (by decide) (by decide) hs hv hb, if_neg n10, own_at 12 _ _ _ _ (by decide) (by decide) hs hv hb, if_neg n10, own_at 13 _ _ _ _ (by decide) (by decide) hs hv hb, if_neg n10]
set_option maxRecDepth 65536 in
set_option maxHeartbeats 40000000 in
theorem comes_1 {Post : Tables → Env → Array Value → State → Outcome → State → Prop} (hpost : ∀ tb e args s v u, (limb_1_1.after args s (.returned v) u = true ∧ limb_1_2.after args s (.returned v) u = true ∧ True) → FrameEnd s (.returned v) u (Jvm.fieldLocs frame_1_writes args s ++ Jvm.arrayLocs frame_1_arrays args s ++ Jvm.staticLocs frame_1_statics s) 16 128 → Post tb e args s (.returned v) u) :
    ArmFor flags0 classFile x code maxLocals ret World_1 tables_1 room_1 Calls_1 rest_1 Pre_1 Post := by
  intro l hfl _ _ p e ha hc hk s m args below hf hA hF happ hP
  obtain ⟨hcalls, hrest, hpre⟩ := hP
  obtain ⟨-, -, -, hnamed, -, -, -, hat⟩ := (Spec.applies_iff hf).mp happ
  obtain ⟨hg, hn⟩ := and_e (Cond.before_iff.mp (show (Jvm.Cond.and given_1 narrow_1).before args s = true from hpre))
  obtain ⟨g0, gt0⟩ := and_e hg
  obtain ⟨ga0, gt1⟩ := and_e gt0
  obtain ⟨ga1, gt2⟩ := and_e gt1
  obtain ⟨ga2, gt3⟩ := and_e gt2
  obtain ⟨w0, w1, w2, w3, rfl⟩ : ∃ w0 w1 w2 w3 : Value, args = #[w0, w1, w2, w3] := by
    have hs : args.size = 4 := by simpa [Cond.value, given_1] using g0
    obtain ⟨L⟩ := args
    match L, hs with
    | [w0, w1, w2, w3], _ => exact ⟨w0, w1, w2, w3, rfl⟩
  have hw := fun d (hd : d ∈ tables_1) => atoms_spec (ws := Jvm.Cond.code x code maxLocals ret :: tables_1) hat d (List.mem_cons_of_mem _ hd)
  have hfit : Fit s := fun {y c} hc i hi => by
    obtain ⟨ha, rfl⟩ := Array.getElem?_eq_some_iff.mp hc
    have q := List.all_eq_true.mp ((Array.all_eq_true_iff_forall_mem.mp hF) _ (Array.getElem_mem ha)) i (List.mem_range.mpr hi)
    simpa [Array.getElem?_eq_getElem hi] using q
  obtain ⟨i0, ei0⟩ := is_v ga0
  obtain rfl : w0 = (.int i0) := Option.some.inj ei0
  obtain ⟨i1, ei1⟩ := is_v ga1
  obtain rfl : w1 = (.int i1) := Option.some.inj ei1
  obtain ⟨i2, ei2⟩ := is_v ga2
  obtain rfl : w2 = (.int i2) := Option.some.inj ei2
  obtain ⟨i3, ei3⟩ := is_v gt3
  obtain rfl : w3 = (.int i3) := Option.some.inj ei3
  obtain ⟨n, o, h1, h2, h3, _, L, rfl, ⟨rfl, N⟩, hq⟩ := rm_0 l s _ hw tables_1 i0 i1 i2 i3  s.heap s.heap.size (Nat.le_refl _)  p e ha hc hk s m _ below hf ((Spec.applies_iff_loose hf).mp happ).1 ⟨rfl, State.Warmed39.refl s, rfl⟩ trivial
  refine ⟨n, _, h1, h2, h3, hpost _ _ _ _ _ _ ⟨Cond.after_iff.mpr rfl, Cond.after_iff.mpr (eq_i res_at (Term.int_eval (1)) (congrArg Value.int (own_law _ _ _ _))), trivial⟩ ⟨hq.1, hq.2.1, (hq.2.2.sift fun y hy => Or.inr (N.1 y hy)).mono (by decide) (by decide)⟩⟩
theorem main_1_1 : Claimed_1_1 := comes_1 fun _ _ _ _ _ _ h hF => ⟨h.1, hF⟩
theorem main_1_2 : Claimed_1_2 := comes_1 fun _ _ _ _ _ _ h hF => ⟨h.2.1, hF⟩
end Jvm.Pilot.@@N@@
namespace Jvm.Pilot.@@N@@
open Jvm Jvm.ClassFile Sem Op Lib Jvm.Free Jvm.Stand Jvm.Pilot.@@N@@.Jvm.D
/-! MADE BY PROGRAM (witnessworld.py) out of the Statement's table words and the real class files: 11 classes; the members and pool entries that the words name. The judged class is class 1, her method 1. -/
namespace start1
open Jvm.ClassFile
def u (s : String) : CpInfo := .utf8 (stringToUtf16 s)
/-- a pool by its gaps: so many unusable entries, then the entry; so many at the end -/
def gap : Nat → List CpInfo → List CpInfo
  | 0, r => r
  | n + 1, r => .unusable :: gap n r
def poolList (es : List (Nat × CpInfo)) (last : Nat) : List CpInfo := es.foldr (fun e r => gap e.1 (e.2 :: r)) (gap last [])
def pool (es : List (Nat × CpInfo)) (last : Nat) : Array CpInfo := ⟨poolList es last⟩
def fileOf (pool : Array CpInfo) (this : Nat) (attrs : Array Attribute := #[]) (ms : Array MethodInfo := #[]) (fl : Nat := 33) (sup : Nat := 0) (ifs : Array Nat := #[]) (fds : Array FieldInfo := #[]) : ClassFile where
  minorVersion := 0
  majorVersion := 65
  constantPool := pool
  accessFlags := fl
  thisClass := this
  superClass := sup
  interfaces := ifs
  fields := fds
  methods := ms
  attributes := attrs
def plain (name : String) (sup : Option ClassId) : Class where
  name := name
  kind := .ordinary
  loader := none
  accessFlags := 33
  super := sup
  interfaces := #[]
  cf := none
  fields := #[]
  methods := #[]
  instanceTypes := #[]
  staticTypes := #[]
  resolved := #[]
  callSites := []
  init := .initialized
  statics := none
  mirror := none

def pool0 : Array CpInfo := pool [(5, u "<init>"), (0, u "()V"), (1, .class_ 10), (1, u "java/lang/Object")] 113

def k0m0 : Method := { name := "<init>", desc := "()V", sig := { parameters := [], returnType := none }, accessFlags := 1, code := none }
/-- java/lang/Object -/
def k0 : Class := { plain "java/lang/Object" none with
  accessFlags := 33
  interfaces := #[]
  cf := some (fileOf pool0 8 #[] #[{ accessFlags := 1, nameIndex := 5, descriptorIndex := 6, attributes := #[] }] 33 0 #[] #[])
  fields := #[]
  methods := #[k0m0]
  instanceTypes := #[]
  staticTypes := #[]
  resolved := Array.replicate 124 none
  statics := none }

def pool1 : Array CpInfo := pool [(2, .class_ 4), (1, u "java/lang/Object"), (0, u "<init>"), (0, u "()V"), (0, .long 10), (1, .long 100), (1, .long 1000), (1, .long 10000), (1, .long 100000), (1, .long 1000000), (1, .long 10000000), (1, .long 100000000), (1, .long 1000000000), (1, .long 10000000000), (1, .integer 2147483647), (0, .long 2147483647), (1, .methodref 31 32), (0, .class_ 33), (0, .nameAndType 34 35), (0, u "com/example/dayt/dayt/text/TextForm"), (0, u "putDigits"), (0, u "([BIII)V"), (0, .methodref 37 38), (0, .class_ 39), (0, .nameAndType 40 41), (0, u "com/example/dayt/dayt/text/TextFormPutDigitsPinLaw"), (0, u "at"), (0, u "([BIIIIB[J)Z"), (0, .long 48), (3, u "law"), (0, u "(IIII)Z")] 7

def k1m0 : Method := { name := "<init>", desc := "()V", sig := { parameters := [], returnType := none }, accessFlags := 1, code := none }
def k1c1 : Code := { maxStack := 7, maxLocals := 10, code := code, exceptionTable := #[], attributes := #[] }
def k1m1 : Method := { name := "law", desc := "(IIII)Z", sig := { parameters := [.int, .int, .int, .int], returnType := some .boolean }, accessFlags := 9, code := some k1c1 }
def k1c2 : Code := { maxStack := 5, maxLocals := 11, code := method_3_code, exceptionTable := #[], attributes := #[] }
def k1m2 : Method := { name := "at", desc := "([BIIIIB[J)Z", sig := { parameters := [(.array .byte), .int, .int, .int, .int, .byte, (.array .long)], returnType := some .boolean }, accessFlags := 10, code := some k1c2 }
/-- com/example/dayt/dayt/text/TextFormPutDigitsPinLaw -/
def k1 : Class := { plain "com/example/dayt/dayt/text/TextFormPutDigitsPinLaw" (some 0) with
  accessFlags := 49
  interfaces := #[]
  cf := some (fileOf pool1 37 #[] #[{ accessFlags := 1, nameIndex := 5, descriptorIndex := 6, attributes := #[] }, { accessFlags := 9, nameIndex := 46, descriptorIndex := 47, attributes := #[] }, { accessFlags := 10, nameIndex := 40, descriptorIndex := 41, attributes := #[] }] 49 2 #[] #[])
  fields := #[]
  methods := #[k1m0, k1m1, k1m2]
  instanceTypes := #[]
  staticTypes := #[]
  resolved := Array.replicate 55 none
  statics := none }

def pool2 : Array CpInfo := pool [(2, .class_ 4), (1, u "java/lang/Object"), (3, .class_ 10), (1, u "com/example/dayt/dayt/text/TextForm"), (0, u "kind"), (0, u "Ljava/lang/String;"), (2, u "shape"), (15, u "putDigits"), (0, u "([BIII)V"), (18, u "NANOS_PER_FRACTION_UNIT"), (0, u "[I"), (82, u "DATE_LENGTH"), (0, u "I"), (4, u "YEAR_DIGITS"), (2, u "SECONDS_PER_DAY")] 40

def k2c0 : Code := { maxStack := 5, maxLocals := 6, code := prog_23_method_8_code, exceptionTable := #[], attributes := #[] }
def k2m0 : Method := { name := "putDigits", desc := "([BIII)V", sig := { parameters := [(.array .byte), .int, .int, .int], returnType := none }, accessFlags := 8, code := some k2c0 }
/-- com/example/dayt/dayt/text/TextForm -/
def k2 : Class := { plain "com/example/dayt/dayt/text/TextForm" (some 0) with
  accessFlags := 32
  interfaces := #[]
  cf := some (fileOf pool2 8 #[] #[{ accessFlags := 8, nameIndex := 31, descriptorIndex := 32, attributes := #[] }] 32 2 #[] #[{ accessFlags := 24, nameIndex := 141, descriptorIndex := 136, attributes := #[] }, { accessFlags := 24, nameIndex := 135, descriptorIndex := 136, attributes := #[] }, { accessFlags := 24, nameIndex := 144, descriptorIndex := 136, attributes := #[] }, { accessFlags := 24, nameIndex := 51, descriptorIndex := 52, attributes := #[] }, { accessFlags := 18, nameIndex := 11, descriptorIndex := 12, attributes := #[] }, { accessFlags := 18, nameIndex := 15, descriptorIndex := 12, attributes := #[] }])
  fields := #[{ name := "YEAR_DIGITS", type := .int, accessFlags := 24, slot := 0, constantValue := 0 }, { name := "DATE_LENGTH", type := .int, accessFlags := 24, slot := 1, constantValue := 0 }, { name := "SECONDS_PER_DAY", type := .int, accessFlags := 24, slot := 2, constantValue := 0 }, { name := "NANOS_PER_FRACTION_UNIT", type := (.array .int), accessFlags := 24, slot := 3, constantValue := 0 }, { name := "kind", type := (.object "java/lang/String"), accessFlags := 18, slot := 0, constantValue := 0 }, { name := "shape", type := (.object "java/lang/String"), accessFlags := 18, slot := 1, constantValue := 0 }]
  methods := #[k2m0]
  instanceTypes := #[(.object "java/lang/String"), (.object "java/lang/String")]
  staticTypes := #[.int, .int, .int, (.array .int)]
  resolved := Array.replicate 185 none
  statics := none }

def pool3 : Array CpInfo := pool [(1, u "java/lang/Cloneable"), (0, .class_ 1), (0, u "java/lang/Object"), (0, .class_ 3)] 3

/-- java/lang/Cloneable -/
def k3 : Class := { plain "java/lang/Cloneable" (some 0) with
  accessFlags := 1537
  interfaces := #[]
  cf := some (fileOf pool3 2 #[] #[] 1537 4 #[] #[])
  fields := #[]
  methods := #[]
  instanceTypes := #[]
  staticTypes := #[]
  resolved := Array.replicate 8 none
  statics := none }

def pool4 : Array CpInfo := pool [(1, u "java/io/Serializable"), (0, .class_ 1), (0, u "java/lang/Object"), (0, .class_ 3)] 3

/-- java/io/Serializable -/
def k4 : Class := { plain "java/io/Serializable" (some 0) with
  accessFlags := 1537
  interfaces := #[]
  cf := some (fileOf pool4 2 #[] #[] 1537 4 #[] #[])
  fields := #[]
  methods := #[]
  instanceTypes := #[]
  staticTypes := #[]
  resolved := Array.replicate 8 none
  statics := none }

/-- the primitive byte -/
def k5 : Class := { plain "byte" none with kind := .primitive 'B', accessFlags := 0x411 }
/-- [B -/
def k6 : Class := { plain "[B" (some 0) with kind := .array 5 .byte, interfaces := #[3, 4], accessFlags := 1041 }

/-- the primitive int -/
def k7 : Class := { plain "int" none with kind := .primitive 'I', accessFlags := 0x411 }
/-- [I -/
def k8 : Class := { plain "[I" (some 0) with kind := .array 7 .int, interfaces := #[3, 4], accessFlags := 1041 }

/-- the primitive long -/
def k9 : Class := { plain "long" none with kind := .primitive 'J', accessFlags := 0x411 }
/-- [J -/
def k10 : Class := { plain "[J" (some 0) with kind := .array 9 .long, interfaces := #[3, 4], accessFlags := 1041 }

def heap : Heap := #[]
def classes : Array Class := #[k0, k1, k2, k3, k4, k5, k6, k7, k8, k9, k10]
def interned : List (Array UInt16 × Addr) := []
def slotsUsed : Nat := 0
def theMethod : MethodId := ⟨1, 1⟩
def args0 : Array Value := #[.int 5, .int 7, .int 9, .int 3]
def aboutOver (below : List Frame) : State where
  vm := { classes := classes, interned := interned.toArray }
  heap := heap
  slotsUsed := slotsUsed
  threads := #[{ frames := .invoking theMethod args0 :: below }]
def below0 : List Frame := [.native { method := ⟨0, 0⟩, args := #[] }]
def about1 : State := aboutOver below0
def p0 : Program := .bare "" "" ""
def e0 : Env := launch0.env 0 0 0
theorem w_frames : about1.frames = Frame.invoking theMethod args0 :: below0 := rfl
set_option maxRecDepth 65536 in
theorem w_args : argsFit about1.vm theMethod args0 = true := by decide +kernel
set_option maxRecDepth 65536 in
theorem w_heap : heapFits about1 = true := by decide +kernel
set_option maxRecDepth 65536 in
theorem w_runnable : about1.curStatus? = some .runnable := by decide +kernel
set_option maxRecDepth 65536 in
theorem w_alone : about1.alone = true := by decide +kernel
set_option maxRecDepth 65536 in
theorem w_named : about1.methodNamed? x = some theMethod := by decide +kernel
set_option maxRecDepth 65536 in
theorem w_hears : about1.hears theMethod below0 = true := by decide +kernel
set_option maxRecDepth 65536 in
theorem w_ripe : about1.ripe theMethod args0 below0 = true := by decide +kernel
theorem w_running : about1.status = .running := rfl
set_option maxRecDepth 65536 in
theorem w_room : about1.hasRoom e0.platform room_1 = true :=
  launch0.hasRoom_least _ room_1 (by decide +kernel) (by decide +kernel) (by decide +kernel) (by decide +kernel) (by decide +kernel) (by decide +kernel)
theorem allAtoms_all (ts : List Jvm.Cond) (a : Array Jvm.Value) (st : Jvm.State) : (allAtoms ts).before a st = ts.all (fun c => c.before a st) := by
  induction ts with
  | nil => rfl
  | cons c t ih =>
    show (Jvm.Cond.and c (allAtoms t)).before a st = _
    rw [Jvm.Cond.before_and, ih, List.all_cons]
def words1 : List Jvm.Cond := Jvm.Cond.code x code maxLocals ret :: tables_1
/-- a 'code' word, met by the world's own term for the bytes: nothing is compared byte by byte -/
theorem code_word {y : MethodName} {bytes : ByteArray} {mx : Nat} {rt : Option FieldType} {a : Array Value} {s : State} {m : MethodId} {meth : Method} {c : Code} (h1 : s.methodNamed? y = some m) (h2 : s.vm.method? m = some meth) (h3 : meth.code = some c) (h4 : c.code = bytes)
    (h5 : (c.maxLocals == mx && c.exceptionTable.isEmpty && decide (c.maxStack ≤ mostOperands) && decide (meth.sig.returnType = rt) && !meth.locks && decide (parseMethodDescriptor y.desc = some meth.sig)) = true) : (Jvm.Cond.code y bytes mx rt).before a s = true := by
  simp only [Bool.and_eq_true, beq_iff_eq, Bool.not_eq_true', decide_eq_true_eq] at h5
  obtain ⟨⟨⟨⟨⟨g1, g2⟩, g3⟩, g4⟩, g5⟩, g6⟩ := h5
  simp [Cond.before, Cond.holds, Cond.value, h1, h2, h3, h4, g1, g2, g3, g4, g5, g6]
def isCode : Jvm.Cond → Bool
  | .code _ _ _ _ => true
  | _ => false
theorem all_split {L : List Jvm.Cond} {P : Jvm.Cond → Bool} (h1 : L.all (fun c => isCode c || P c) = true) (h2 : ∀ c ∈ L.filter isCode, P c = true) : L.all P = true := by
  refine List.all_eq_true.mpr fun c hc => ?_
  have h := List.all_eq_true.mp h1 c hc
  rcases Bool.eq_false_or_eq_true (isCode c) with hi | hi
  · exact h2 c (List.mem_filter.mpr ⟨hc, hi⟩)
  · simpa [hi] using h
set_option maxRecDepth 65536 in
theorem w_c0 : (Jvm.Cond.code x code maxLocals ret).before args0 about1 = true := code_word (m := ⟨1, 1⟩) (meth := k1m1) (c := k1c1) (by decide +kernel) rfl rfl rfl (by decide +kernel)
set_option maxRecDepth 65536 in
theorem w_c1 : (Jvm.Cond.code ({ cls := "com/example/dayt/dayt/text/TextForm", name := "putDigits", desc := "([BIII)V" } : Jvm.MethodName) prog_23_method_8_code (6 : Nat) (Option.none : Option Jvm.ClassFile.FieldType)).before args0 about1 = true := code_word (m := ⟨2, 0⟩) (meth := k2m0) (c := k2c0) (by decide +kernel) rfl rfl rfl (by decide +kernel)
set_option maxRecDepth 65536 in
theorem w_c2 : (Jvm.Cond.code ({ cls := "com/example/dayt/dayt/text/TextFormPutDigitsPinLaw", name := "at", desc := "([BIIIIB[J)Z" } : Jvm.MethodName) method_3_code (11 : Nat) (Option.some Jvm.ClassFile.FieldType.boolean)).before args0 about1 = true := code_word (m := ⟨1, 2⟩) (meth := k1m2) (c := k1c2) (by decide +kernel) rfl rfl rfl (by decide +kernel)
def codes1 : List Jvm.Cond := [Jvm.Cond.code x code maxLocals ret, Jvm.Cond.code ({ cls := "com/example/dayt/dayt/text/TextForm", name := "putDigits", desc := "([BIII)V" } : Jvm.MethodName) prog_23_method_8_code (6 : Nat) (Option.none : Option Jvm.ClassFile.FieldType), Jvm.Cond.code ({ cls := "com/example/dayt/dayt/text/TextFormPutDigitsPinLaw", name := "at", desc := "([BIIIIB[J)Z" } : Jvm.MethodName) method_3_code (11 : Nat) (Option.some Jvm.ClassFile.FieldType.boolean)]
set_option maxRecDepth 65536 in
theorem codes_eq : words1.filter isCode = codes1 := rfl
theorem w_codes : ∀ c ∈ words1.filter isCode, c.before args0 about1 = true := by
  rw [codes_eq]
  intro c hc
  simp only [codes1, List.mem_cons, List.not_mem_nil, or_false] at hc
  rcases hc with rfl | rfl | rfl
  · exact w_c0
  · exact w_c1
  · exact w_c2
set_option maxRecDepth 65536 in
theorem w_t1 : words1.all (fun c => isCode c || c.before args0 about1) = true := by decide +kernel
theorem w_tables : (allAtoms (Jvm.Cond.code x code maxLocals ret :: tables_1)).before args0 about1 = true := by
  rw [allAtoms_all]
  show words1.all (fun c => c.before args0 about1) = true
  refine all_split ?_ w_codes
  rw [w_t1]
set_option maxRecDepth 65536 in
theorem w_case : (Jvm.Cond.and given_1 narrow_1).before args0 about1 = true := by decide +kernel
theorem w_applies : (headSpec (Jvm.Cond.code x code maxLocals ret :: tables_1) room_1).applies x e0.platform about1 = true :=
  (Spec.applies_iff w_frames).mpr ⟨w_running, w_runnable, w_alone, w_named, w_hears, w_ripe, w_room, w_tables⟩
theorem atStart : AtStart classFile x code maxLocals ret World_1 tables_1 room_1 Calls_1 rest_1 Pre_1 launch0 p0 e0 about1 theMethod args0 below0 :=
  ⟨lists_1, trivial, launch0.admits_env _ _ _, launch0.least_env, fairChoices_fair.cas, fairChoices_fair.clock, w_frames, w_args, w_heap, w_applies, trivial, trivial, w_case⟩
end start1
theorem witness_1 : WitnessClaimed_1 := ⟨start1.p0, start1.e0, start1.about1, start1.theMethod, start1.args0, start1.below0, start1.atStart⟩
end Jvm.Pilot.@@N@@
