import JvmDerived
import JvmDerived.Pilot.@@N@@Statement
import JvmDerived.Pilot.@@N@@Code
set_option linter.unusedVariables false
set_option linter.unusedSimpArgs false
namespace Jvm.RoadKit
open Sem ClassFile Op Lib Jvm.Stand Jvm.Free Jvm.LawKit
section New
variable {p : Program} {l : Launch} {e : Env} {R : Room} {s : State} {m : MethodId} {args : Array Value} {below : List Frame} {meth : Method} {c : Code} {T : State} {locs : List Loc} {cells slots : Nat}
theorem retI (X : Stand p l e R s m args below meth c T locs cells slots) (hx : p.tables.exec = Jvm.exec) {pc : Nat} {Ls : Array Slot} {z : Int32} {rest : List Value} (hret : meth.sig.returnType = some .int) (hd : decode c.code pc = .ok (.ireturn, 1)) {fs : List Frame}
    (hl : ∀ (f : JFrame) (acts : List Action), f.method = m → f.locked = none → f.entered = [] → (doReturn e (T.setTop f) acts (some (.int z))).1 = T.setFrames fs) : Steps p.tables e below (T.setTop (mkF m pc Ls (.int z :: rest))) (T.setFrames fs) := by
  have hm' : T.vm.method? m = some meth := X.method'
  have hn : narrow .int (.int z) = .int z := rfl
  show Steps p.tables e below (T.setTop { method := m, pc := pc, locals := Ls, stack := _ :: rest, locked := none }) _
  jvm_step X.here [X.here.top, hx, hd, hm', hret, hn]
  first | (intro acts; rw [hl _ acts rfl rfl rfl]) | rw [hl _ _ rfl rfl rfl]
  exact Steps.refl _
theorem own_lremM {g : JFrame} {target : State} (X : Stand p l e R s m args below meth c T locs cells slots) (hx : p.tables.exec = Jvm.exec) (hg : g.method = m) {x y : Int64} {rest : List Value} (hd : decode c.code g.pc = .ok (.lrem, 1)) (hs : g.stack = .long y :: .long x :: rest) (hy : y ≠ 0)
    (hr : Steps p.tables e below (T.setTop { g with pc := g.pc + 1, stack := .long (x % y) :: rest }) target) : Steps p.tables e below (T.setTop g) target := by
  have q : x - x / y * y = x % y := lrem_mod x y
  exact XS.lrem X.here hx hg hd hs hy (by rw [q]; exact hr)
end New
end Jvm.RoadKit
namespace Jvm.RoadKit
open Sem ClassFile Op Lib Jvm.Stand Jvm.Free Jvm.LawKit
section OwnA
variable {p : Program} {l : Launch} {e : Env} {R : Room} {s : State} {m : MethodId} {args : Array Value} {below : List Frame} {meth : Method} {c : Code} {T : State} {locs : List Loc} {cells slots : Nat} {Z : State} {a0 : Array Value} {h h' : Heap} {a b : Addr} {ty : FieldType} {n : Nat} {G : Nat → Value}
def own_upd {α : Type} (g : Nat → α) (k : Nat) (x : α) (i : Nat) : α := if i = k then x else g i
def own_zI (_ : Nat) : Int32 := 0
def own_zJ (_ : Nat) : Int64 := 0
def own_A (Z : State) (h : Heap) (a : Addr) (ty : FieldType) (n : Nat) (G : Nat → Value) : Prop := ∃ c : Cell, Arr Z h a c ty ∧ c.slots.size = n ∧ ∀ i, i < n → c.slots[i]? = some (G i) ∧ fits ty (G i) = true
theorem own_A.lt (F : own_A Z h a ty n G) : a < h.size := by obtain ⟨c, A, -⟩ := F; exact A.lt
theorem own_A.ext (F : own_A Z h a ty n G) (E : Ext h h') : own_A Z h' a ty n G := by obtain ⟨c, A, r⟩ := F; exact ⟨c, A.ext E, r⟩
theorem own_A.other {sl : Nat} {v : Value} (F : own_A Z h b ty n G) (W : Wr h h' a sl v) (q : b ≠ a) : own_A Z h' b ty n G := by obtain ⟨c, A, r⟩ := F; exact ⟨c, A.other W q, r⟩
theorem own_A.keep {ws : List Addr} (F : own_A Z h a ty n G) (K : Keep h h' ws) (q : a ∉ ws) : own_A Z h' a ty n G := by obtain ⟨c, A, r⟩ := F; exact ⟨c, ⟨K.2.1 a c A.1 q, A.2⟩, r⟩
theorem own_A.new {k : ClassId} {z : Int32} (A : Arr Z h a (newA k ty z) ty) (q : z.toNatClampNeg = n) (hG : ∀ i, G i = defaultValue ty) : own_A Z h a ty n G :=
  ⟨_, A, by rw [sz_new, q], fun i hi => ⟨by rw [hG]; rw [← q] at hi; simp [newA, hi], by rw [hG]; cases ty <;> rfl⟩⟩
theorem own_A.set {k : Nat} {v : Value} (F : own_A Z h a ty n G) (W : Wr h h' a k v) (hk : k < n) (hf : fits ty v = true) : own_A Z h' a ty n (own_upd G k v) := by
  obtain ⟨c, A, q, r⟩ := F
  refine ⟨c.setSlot k v, A.same W, by rw [sz_set, q], fun i hi => ?_⟩
  by_cases e : i = k
  · subst e
    exact ⟨by simp [Cell.setSlot, own_upd, q, hk], by simpa [own_upd] using hf⟩
  · have r1 := r i hi
    have r2 : (c.setSlot k v).slots[i]? = c.slots[i]? := Array.getElem?_setIfInBounds_ne (Ne.symm e)
    have r3 : own_upd G k v i = G i := if_neg e
    rw [r2, r3]; exact r1
theorem own_upd_int (g : Nat → Int32) (k : Nat) (x : Int32) : own_upd (fun i => Value.int (g i)) k (.int x) = fun i => Value.int (own_upd g k x i) := by funext i; unfold own_upd; split <;> rfl
theorem own_upd_long (g : Nat → Int64) (k : Nat) (x : Int64) : own_upd (fun i => Value.long (g i)) k (.long x) = fun i => Value.long (own_upd g k x i) := by funext i; unfold own_upd; split <;> rfl
theorem own_inb {c : Cell} {j : Int32} {k : Nat} (q : c.slots.size = n) (hj0 : ¬ j < 0) (hk : j.toNatClampNeg = k) (hkn : k < n) : ¬ (j < 0 ∨ c.slots.size ≤ j.toNatClampNeg) := fun y => y.elim hj0 fun z => by rw [q, hk] at z; exact absurd hkn (Nat.not_lt.mpr z)
theorem own_stI {g0 : Nat → Int32} (X : Stand p l e R s m args below meth c T locs cells slots) (hx : p.tables.exec = Jvm.exec) (hZ : Z.Warmed39 s.vm) (eT : T.heap = h) (F : own_A Z h a .int n (fun i => .int (g0 i))) {j x : Int32} {k : Nat} (hj0 : ¬ j < 0) (hk : j.toNatClampNeg = k) (hkn : k < n) {g : JFrame} (hg : g.method = m) {rest : List Value} (hs : g.stack = .int x :: .int j :: .ref a :: rest) (hd : decode c.code g.pc = .ok (.iastore, 1)) :
    ∃ T' h', Stand p l e R s m args below meth c T' (locs ++ [⟨a, j.toNatClampNeg⟩]) cells slots ∧ T'.heap = h' ∧ Wr h h' a j.toNatClampNeg (.int x) ∧ own_A Z h' a .int n (fun i => .int (own_upd g0 k x i)) ∧ ∀ target, Steps p.tables e below (T'.setTop { g with pc := g.pc + 1, stack := rest }) target → Steps p.tables e below (T.setTop g) target := by
  obtain ⟨cl, A, q, r⟩ := id F
  obtain ⟨T', h', X', e', W, st⟩ := stI X hx hZ eT A (j := j) (x := x) (own_inb q hj0 hk hkn) hg hs hd
  exact ⟨T', h', X', e', W, own_upd_int g0 k x ▸ hk ▸ F.set W (by rw [hk]; exact hkn) rfl, st⟩
theorem own_stJ {g0 : Nat → Int64} (X : Stand p l e R s m args below meth c T locs cells slots) (hx : p.tables.exec = Jvm.exec) (hZ : Z.Warmed39 s.vm) (eT : T.heap = h) (F : own_A Z h a .long n (fun i => .long (g0 i))) {j : Int32} {x : Int64} {k : Nat} (hj0 : ¬ j < 0) (hk : j.toNatClampNeg = k) (hkn : k < n) {g : JFrame} (hg : g.method = m) {rest : List Value} (hs : g.stack = .long x :: .int j :: .ref a :: rest) (hd : decode c.code g.pc = .ok (.lastore, 1)) :
    ∃ T' h', Stand p l e R s m args below meth c T' (locs ++ [⟨a, j.toNatClampNeg⟩]) cells slots ∧ T'.heap = h' ∧ Wr h h' a j.toNatClampNeg (.long x) ∧ own_A Z h' a .long n (fun i => .long (own_upd g0 k x i)) ∧ ∀ target, Steps p.tables e below (T'.setTop { g with pc := g.pc + 1, stack := rest }) target → Steps p.tables e below (T.setTop g) target := by
  obtain ⟨cl, A, q, r⟩ := id F
  obtain ⟨T', h', X', e', W, st⟩ := stJ X hx hZ eT A (j := j) (x := x) (own_inb q hj0 hk hkn) hg hs hd
  exact ⟨T', h', X', e', W, own_upd_long g0 k x ▸ hk ▸ F.set W (by rw [hk]; exact hkn) rfl, st⟩
theorem own_stB {g0 : Nat → Int32} (X : Stand p l e R s m args below meth c T locs cells slots) (hx : p.tables.exec = Jvm.exec) (hZ : Z.Warmed39 s.vm) (eT : T.heap = h) (F : own_A Z h a .byte n (fun i => .int (g0 i))) {j x : Int32} {k : Nat} (hj0 : ¬ j < 0) (hk : j.toNatClampNeg = k) (hkn : k < n) {g : JFrame} (hg : g.method = m) {rest : List Value} (hs : g.stack = .int x :: .int j :: .ref a :: rest) (hd : decode c.code g.pc = .ok (.bastore, 1)) :
    ∃ T' h', Stand p l e R s m args below meth c T' (locs ++ [⟨a, j.toNatClampNeg⟩]) cells slots ∧ T'.heap = h' ∧ Wr h h' a j.toNatClampNeg (.int x.toInt8.toInt32) ∧ own_A Z h' a .byte n (fun i => .int (own_upd g0 k x.toInt8.toInt32 i)) ∧ ∀ target, Steps p.tables e below (T'.setTop { g with pc := g.pc + 1, stack := rest }) target → Steps p.tables e below (T.setTop g) target := by
  obtain ⟨cl, A, q, r⟩ := id F
  obtain ⟨T', h', X', e', W, st⟩ := stB X hx hZ eT A (j := j) (x := x) (own_inb q hj0 hk hkn) hg hs hd
  have hfb : fits .byte (.int (nar .byte x)) = true := fits_nar_byte x
  exact ⟨T', h', X', e', W, own_upd_int g0 k _ ▸ hk ▸ F.set W (by rw [hk]; exact hkn) hfb, st⟩
theorem own_ldI {g0 : Nat → Int32} (X : Stand p l e R s m args below meth c T locs cells slots) (hx : p.tables.exec = Jvm.exec) (hZ : Z.Warmed39 s.vm) (eT : T.heap = h) (F : own_A Z h a .int n (fun i => .int (g0 i))) {j : Int32} {k : Nat} (hj0 : ¬ j < 0) (hk : j.toNatClampNeg = k) (hkn : k < n) {g : JFrame} (hg : g.method = m) {rest : List Value} (hs : g.stack = .int j :: .ref a :: rest) (hd : decode c.code g.pc = .ok (.iaload, 1)) {target : State}
    (hr : Steps p.tables e below (T.setTop { g with pc := g.pc + 1, stack := .int (g0 k) :: rest }) target) : Steps p.tables e below (T.setTop g) target := by
  obtain ⟨cl, A, q, r⟩ := F
  exact X.iaload hx (j := j) (v := .int (g0 k)) (by rw [eT]; exact A.1) (State.isArrayOf_alike hZ.alike A.2.1) A.2.2 (own_inb q hj0 hk hkn) (by rw [hk]; exact (r k hkn).1) hg hs hd _ hr
theorem own_ldJ {g0 : Nat → Int64} (X : Stand p l e R s m args below meth c T locs cells slots) (hx : p.tables.exec = Jvm.exec) (hZ : Z.Warmed39 s.vm) (eT : T.heap = h) (F : own_A Z h a .long n (fun i => .long (g0 i))) {j : Int32} {k : Nat} (hj0 : ¬ j < 0) (hk : j.toNatClampNeg = k) (hkn : k < n) {g : JFrame} (hg : g.method = m) {rest : List Value} (hs : g.stack = .int j :: .ref a :: rest) (hd : decode c.code g.pc = .ok (.laload, 1)) {target : State}
    (hr : Steps p.tables e below (T.setTop { g with pc := g.pc + 1, stack := .long (g0 k) :: rest }) target) : Steps p.tables e below (T.setTop g) target := by
  obtain ⟨cl, A, q, r⟩ := F
  exact X.laload hx (j := j) (v := .long (g0 k)) (by rw [eT]; exact A.1) (State.isArrayOf_alike hZ.alike A.2.1) A.2.2 (own_inb q hj0 hk hkn) (by rw [hk]; exact (r k hkn).1) hg hs hd _ hr
theorem own_ldB {g0 : Nat → Int32} (X : Stand p l e R s m args below meth c T locs cells slots) (hx : p.tables.exec = Jvm.exec) (hZ : Z.Warmed39 s.vm) (eT : T.heap = h) (F : own_A Z h a .byte n (fun i => .int (g0 i))) {j : Int32} {k : Nat} (hj0 : ¬ j < 0) (hk : j.toNatClampNeg = k) (hkn : k < n) {g : JFrame} (hg : g.method = m) {rest : List Value} (hs : g.stack = .int j :: .ref a :: rest) (hd : decode c.code g.pc = .ok (.baload, 1)) {target : State}
    (hr : Steps p.tables e below (T.setTop { g with pc := g.pc + 1, stack := .int (g0 k) :: rest }) target) : Steps p.tables e below (T.setTop g) target := by
  obtain ⟨cl, A, q, r⟩ := F
  exact X.baloadBytes hx (j := j) (v := .int (g0 k)) (by rw [eT]; exact A.1) (State.isArrayOf_alike hZ.alike A.2.1) A.2.2 (own_inb q hj0 hk hkn) (by rw [hk]; exact (r k hkn).1) hg hs hd _ hr
theorem own_ldR {G : Nat → Value} (X : Stand p l e R s m args below meth c T locs cells slots) (hx : p.tables.exec = Jvm.exec) (hZ : Z.Warmed39 s.vm) (eT : T.heap = h) (F : own_A Z h a ty n G) (hty : ty.isReference = true) {j : Int32} {k : Nat} {v : Value} (hv : G k = v) (hj0 : ¬ j < 0) (hk : j.toNatClampNeg = k) (hkn : k < n) {g : JFrame} (hg : g.method = m) {rest : List Value} (hs : g.stack = .int j :: .ref a :: rest) (hd : decode c.code g.pc = .ok (.aaload, 1)) {target : State}
    (hr : Steps p.tables e below (T.setTop { g with pc := g.pc + 1, stack := v :: rest }) target) : Steps p.tables e below (T.setTop g) target := by
  obtain ⟨cl, A, q, r⟩ := F
  exact X.aaload hx (j := j) (v := v) (by rw [eT]; exact A.1) (State.isArrayOf_alike hZ.alike A.2.1) hty A.2.2 (own_inb q hj0 hk hkn) (by rw [hk, ← hv]; exact (r k hkn).1) hg hs hd _ hr
theorem own_len (X : Stand p l e R s m args below meth c T locs cells slots) (hx : p.tables.exec = Jvm.exec) (hZ : Z.Warmed39 s.vm) (eT : T.heap = h) (F : own_A Z h a ty n G) {z : Int32} (hz : n.toInt32 = z) {g : JFrame} (hg : g.method = m) {rest : List Value} (hs : g.stack = .ref a :: rest) (hd : decode c.code g.pc = .ok (.arraylength, 1)) {target : State}
    (hr : Steps p.tables e below (T.setTop { g with pc := g.pc + 1, stack := .int z :: rest }) target) : Steps p.tables e below (T.setTop g) target := by
  obtain ⟨cl, A, q, r⟩ := F
  exact X.arraylength hx (by rw [eT]; exact A.1) (State.isArrayOf_alike hZ.alike A.2.1) hg hs hd _ (by rw [q, hz]; exact hr)
theorem own_newP {aty : ArrayType} (X : Stand p l e R s m args below meth c T locs cells slots) (hx : p.tables.exec = Jvm.exec) (hZ : Z.Warmed39 s.vm) (w : (Cond.arrayClass (newarray.typeOf aty)).before a0 Z = true) (eT : T.heap = h) {g : JFrame} (hg : g.method = m) (hd : decode c.code g.pc = .ok (.newarray aty, 2)) {z : Int32} {rest : List Value} (hs : g.stack = .int z :: rest)
    (hn : ¬ z < 0) (hzn : z.toNatClampNeg = n) {G : Nat → Value} (hG : ∀ i, G i = defaultValue (newarray.typeOf aty)) {cap : Nat} (hcap : n ≤ cap) (hb : cap * 8 ≤ 536870912) (hc : cells + 1 ≤ R.cells) (hl : slots + cap ≤ R.slots) :
    ∃ (T' : State) (h' : Heap) (b : Addr), b = h.size ∧ Stand p l e R s m args below meth c T' locs (cells + 1) (slots + cap) ∧ T'.heap = h' ∧ Ext h h' ∧ own_A Z h' b (newarray.typeOf aty) n G ∧
      ∀ target, Steps p.tables e below (T'.setTop { g with pc := g.pc + 2, stack := .ref b :: rest }) target → Steps p.tables e below (T.setTop g) target := by
  obtain ⟨T', h', cA, X', e', E', A', st⟩ := newP X hx hZ w eT hg hd hs hn (cap := cap) (by rw [hzn]; exact hcap) hb hc hl
  exact ⟨T', h', _, rfl, X', e', E', own_A.new A' hzn hG, st⟩
theorem own_newPE {aty : ArrayType} (X : Stand p l e R s m args below meth c T locs cells slots) (hx : p.tables.exec = Jvm.exec) (hZ : Z.Warmed39 s.vm) (w : (Cond.arrayClass (newarray.typeOf aty)).before a0 Z = true) (eT : T.heap = h) {g : JFrame} (hg : g.method = m) (hd : decode c.code g.pc = .ok (.newarray aty, 2)) {z : Int32} {rest : List Value} (hs : g.stack = .int z :: rest)
    (hn : ¬ z < 0) (hzn : z.toNatClampNeg = n) {G : Nat → Value} (hG : ∀ i, G i = defaultValue (newarray.typeOf aty)) {cap : Nat} (hcap : n ≤ cap) (hb : cap * 8 ≤ 536870912) (hc : cells + 1 ≤ R.cells) (hl : slots + cap ≤ R.slots) {ad : String} (had : "[" ++ (newarray.typeOf aty).toString = ad) :
    ∃ (T' : State) (h' : Heap) (b : Addr), b = h.size ∧ Stand p l e R s m args below meth c T' locs (cells + 1) (slots + cap) ∧ T'.heap = h' ∧ Ext h h' ∧ own_A Z h' b (newarray.typeOf aty) n G ∧ Exa Z h' b ad ∧
      ∀ target, Steps p.tables e below (T'.setTop { g with pc := g.pc + 2, stack := .ref b :: rest }) target → Steps p.tables e below (T.setTop g) target := by
  obtain ⟨T', h', cA, X', e', E', A', B', st⟩ := newPE X hx hZ w eT hg hd hs hn (cap := cap) (by rw [hzn]; exact hcap) hb hc hl had
  exact ⟨T', h', _, rfl, X', e', E', own_A.new A' hzn hG, B', st⟩
theorem own_clone (X : Stand p l e R s m args below meth c T locs cells slots) (hx : p.tables.exec = Jvm.exec) (hZ : Z.Warmed39 s.vm) {own ad : String} {index : Nat} (hown : s.vm.findClass own = some m.cls)
    (w1 : (Cond.methodLink own index ⟨ad, "clone", "()Ljava/lang/Object;"⟩).before a0 Z = true) (w2 : (Cond.sameMethod ad "java/lang/Object" "clone" "()Ljava/lang/Object;").before a0 Z = true) (w3 : (Cond.native ⟨"java/lang/Object", "clone", "()Ljava/lang/Object;"⟩).before a0 Z = true)
    (w4 : (Cond.instanceMethod ⟨"java/lang/Object", "clone", "()Ljava/lang/Object;"⟩).before a0 Z = true) (w5 : (Cond.selects ad ⟨ad, "clone", "()Ljava/lang/Object;"⟩ ⟨"java/lang/Object", "clone", "()Ljava/lang/Object;"⟩).before a0 Z = true) (w6 : (Cond.castable ad "java/lang/Cloneable").before a0 Z = true)
    (eT : T.heap = h) (F : own_A Z h a ty n G) (E : Exa Z h a ad) {g : JFrame} (hg : g.method = m) (hsize : g.locals.size = c.maxLocals) {rest : List Value} (hs : g.stack = .ref a :: rest) (hd : decode c.code g.pc = .ok (.invokevirtual index, 3))
    (hf : 1 ≤ R.frames) {W cap : Nat} (hW : 2 * g.monitorRoom + (rest.map fun v => v.category).sum ≤ W) (hl : W + 14 ≤ R.locals) (hcap : n ≤ cap) (hc : cells + 1 ≤ R.cells) (hsl : slots + cap ≤ R.slots) :
    ∃ (T' : State) (h' : Heap) (b : Addr), b = h.size ∧ Stand p l e R s m args below meth c T' locs (cells + 1) (slots + cap) ∧ T'.heap = h' ∧ Ext h h' ∧ own_A Z h' b ty n G ∧ Exa Z h' b ad ∧
      ∀ target, Steps p.tables e below (T'.setTop { g with pc := g.pc + 3, stack := .ref b :: rest }) target → Steps p.tables e below (T.setTop g) target := by
  obtain ⟨cl, A, q, r⟩ := F
  have FC : FitC Z cl := fitC_of A fun i hi v hv => by
    have r1 := r i (by rw [← q]; exact hi)
    rw [r1.1] at hv; cases hv; exact r1.2
  obtain ⟨T', h', X', e', ex, A', E', st⟩ := cloneA X hx hZ hown w1 w2 w3 w4 w5 w6 eT A E FC hg hsize hs hd hf hW hl (by rw [q]; exact hcap) hc hsl
  exact ⟨T', h', _, rfl, X', e', ex, ⟨cloneOf cl, A', q, r⟩, E', st⟩
theorem own_A.congr {G' : Nat → Value} (F : own_A Z h a ty n G) (q : ∀ i, i < n → G i = G' i) : own_A Z h a ty n G' := by
  obtain ⟨c, A, s, r⟩ := F
  exact ⟨c, A, s, fun i hi => by rw [← q i hi]; exact r i hi⟩
theorem own_A_plain (F : own_A Z h a ty n G) : ∀ c : Cell, h[a]? = some c → c.vm.isStatics = false := fun c hc => by
  obtain ⟨cl, A, -⟩ := F
  cases hc.symm.trans A.1
  exact A.plain
theorem own_E_plain {C : String} (F : Exa Z h a C) : ∀ c : Cell, h[a]? = some c → c.vm.isStatics = false := fun c hc => by
  obtain ⟨cl, k, h1, -, -, h4, -⟩ := F
  cases hc.symm.trans h1
  exact h4
theorem own_sta_keep {C f d : String} {v : Value} {ws : List Addr} (F : Sta Z h C f d v) (K : Keep h h' ws) (q : ∀ x ∈ ws, ∀ c : Cell, h[x]? = some c → c.vm.isStatics = false) : Sta Z h' C f d v := by
  obtain ⟨cf, i, k, f, st, cell, h1, h2, h3, h4, h5, h6, h7⟩ := F
  exact ⟨cf, i, k, f, st, cell, h1, h2, h3, h4, K.2.1 st cell h5 (fun z => by rw [q st z cell h5] at h6; cases h6), h6, h7⟩
end OwnA
end Jvm.RoadKit
namespace Jvm.RoadKit
open Sem ClassFile Op Lib Jvm.Stand Jvm.Free Jvm.LawKit
section OwnStart
variable {Z s : State} {args : Array Value} {t : Term} {a : Addr}
theorem own_eqi {t : Term} {n : Int32} {args : Array Value} {s : State} (h : (Cond.eq t (.int n)).value args s none s [] = some true) : t.eval args s none [] s = some (.int n) := Jvm.Free.NT.SwA.eq_int (Cond.before_iff.mpr h)
theorem own_eqr {t u : Term} {x : Addr} {args : Array Value} {s : State} (hu : u.eval args s none [] s = some (.ref x)) (h : (Cond.eq t u).value args s none s [] = some true) : t.eval args s none [] s = some (.ref x) := by
  simp only [Cond.value, hu] at h
  cases ht : t.eval args s none [] s with
  | none => simp [ht] at h
  | some v => cases v <;> simp_all
def own_HL (args : Array Value) (s : State) (t : Term) : Nat → List Int32 → Prop
  | _, [] => True
  | k, v :: vs => (Term.elem t (.int (Int32.ofNat k))).eval args s none [] s = some (.int v) ∧ own_HL args s t (k + 1) vs
theorem own_HL_at : ∀ (vs : List Int32) (k : Nat), own_HL args s t k vs → ∀ i, i < vs.length → (Term.elem t (.int (Int32.ofNat (k + i)))).eval args s none [] s = some (.int (vs.getD i 0))
  | [], _, _, i, hi => absurd hi (Nat.not_lt_zero i)
  | v :: vs, k, h, i, hi => by
    cases i with
    | zero => exact h.1
    | succ i =>
      have q := own_HL_at vs (k + 1) h.2 i (by simpa using hi)
      rw [show k + (i + 1) = k + 1 + i by omega]
      simpa using q
def own_HV (args : Array Value) (s : State) (t : Term) : Nat → List Value → Prop
  | _, [] => True
  | k, v :: vs => (Term.elem t (.int (Int32.ofNat k))).eval args s none [] s = some v ∧ own_HV args s t (k + 1) vs
theorem own_HV_at : ∀ (vs : List Value) (k : Nat), own_HV args s t k vs → ∀ i, i < vs.length → (Term.elem t (.int (Int32.ofNat (k + i)))).eval args s none [] s = some (vs.getD i .null)
  | [], _, _, i, hi => absurd hi (Nat.not_lt_zero i)
  | v :: vs, k, h, i, hi => by
    cases i with
    | zero => exact h.1
    | succ i =>
      have q := own_HV_at vs (k + 1) h.2 i (by simpa using hi)
      rw [show k + (i + 1) = k + 1 + i by omega]
      simpa using q
theorem own_arr {ty : FieldType} {n : Nat} {z : Int32} (ev : t.eval args s none [] s = some (.ref a)) (hx : (Cond.arrayOf t ty).value args s none s [] = some true) (hl : (Term.length t).eval args s none [] s = some (.int z)) (hz : z.toNatClampNeg = n ∧ ¬ z < 0) : ∃ cl, Arr s s.heap a cl ty ∧ s.arrayAt? a = some cl ∧ cl.slots.size = n ∧ cl.slots.size < 2 ^ 31 := by
  obtain ⟨cl, A⟩ := Arr.start ev hx
  have ha : s.arrayAt? a = some cl := A.fin (Vm.Alike.refl _)
  have hb : cl.slots.size < 2 ^ 31 := by
    by_cases hb : cl.slots.size < 2 ^ 31
    · exact hb
    · have hb' : ¬ cl.slots.size < 2147483648 := hb
      simp [Term.eval, ev, ha, hb'] at hl
  refine ⟨cl, A, ha, ?_, hb⟩
  rw [len_f ev ha hb] at hl
  have e : cl.slots.size.toInt32 = z := by simpa using hl
  have l := len_toInt hb
  rw [e] at l
  have n1 := nat_of hz.2
  omega
theorem own_AG_start {ty : FieldType} {n : Nat} {z : Int32} {G : Nat → Value} (hf : Fit s) (ev : t.eval args s none [] s = some (.ref a)) (hx : (Cond.arrayOf t ty).value args s none s [] = some true) (hl : (Term.length t).eval args s none [] s = some (.int z)) (hz : z.toNatClampNeg = n ∧ ¬ z < 0) (he : ∀ i, i < n → (Term.elem t (.int (Int32.ofNat i))).eval args s none [] s = some (G i)) : own_A s s.heap a ty n G := by
  obtain ⟨cl, A, ha, sz, hb⟩ := own_arr ev hx hl hz
  refine ⟨cl, A, sz, fun i hi => ?_⟩
  have q := elem_in (he i hi) ev rfl A.1
  have hi2 : i < 2 ^ 31 := by omega
  have ej : (Int32.ofNat i).toNatClampNeg = i := by
    have l := len_toInt hi2
    have n0 : ¬ (Int32.ofNat i) < 0 := fun w => q.1 (Or.inl w)
    have n1 := nat_of n0
    have l' : (Int32.ofNat i).toInt = (i : Int) := l
    omega
  obtain ⟨w, w1, w2⟩ := elem_fit hf A q.1
  rw [ej] at q w1
  refine ⟨q.2, ?_⟩
  cases w1.symm.trans q.2
  exact w2
theorem own_A_start {n : Nat} {z : Int32} {vs : List Int32} (hf : Fit s) (ev : t.eval args s none [] s = some (.ref a)) (hx : (Cond.arrayOf t .int).value args s none s [] = some true) (hl : (Term.length t).eval args s none [] s = some (.int z)) (hz : z.toNatClampNeg = n ∧ ¬ z < 0 ∧ vs.length = n) (he : own_HL args s t 0 vs) : own_A s s.heap a .int n (fun i => .int (vs.getD i 0)) :=
  own_AG_start hf ev hx hl ⟨hz.1, hz.2.1⟩ fun i hi => by
    have q := own_HL_at vs 0 he i (by rw [hz.2.2]; exact hi)
    rw [Nat.zero_add] at q
    exact q
theorem own_AR_start {ty : FieldType} {n : Nat} {z : Int32} {vs : List Value} (hf : Fit s) (ev : t.eval args s none [] s = some (.ref a)) (hx : (Cond.arrayOf t ty).value args s none s [] = some true) (hl : (Term.length t).eval args s none [] s = some (.int z)) (hz : z.toNatClampNeg = n ∧ ¬ z < 0 ∧ vs.length = n) (he : own_HV args s t 0 vs) : own_A s s.heap a ty n (fun i => vs.getD i .null) :=
  own_AG_start hf ev hx hl ⟨hz.1, hz.2.1⟩ fun i hi => by
    have q := own_HV_at vs 0 he i (by rw [hz.2.2]; exact hi)
    rw [Nat.zero_add] at q
    exact q
end OwnStart
end Jvm.RoadKit
namespace Jvm.Pilot.@@N@@
open Jvm Jvm.ClassFile Sem Op Lib Jvm.Free Jvm.Stand Jvm.LawKit Jvm.RoadKit Bundle Jvm.Pilot.@@N@@.Jvm.D
def own_dg (r : Int32) : Int32 := (((48 : Int32) + (r % (10 : Int32))).toInt8.toInt32).toInt8.toInt32
def own_put (g : Nat → Int32) (s : Nat) : Nat → Int32 → (Nat → Int32)
  | 0, _ => g
  | k + 1, r => own_put (own_upd g (s + k) (own_dg r)) s k (r / (10 : Int32))
theorem own_p0 (a b : Int32) (ha : 0 ≤ a.toInt) (hb : 0 ≤ b.toInt) (h : a.toInt + b.toInt ≤ 1000) : ((a + b) - (1 : Int32)).toInt = a.toInt + (b.toNatClampNeg : Int) - 1 := by
  have a1 := c_iadd a b
  have r1 := rng32 (a + b)
  have a2 := c_isub (a + b) 1
  have r2 := rng32 (a + b - 1)
  have l1 : (1 : Int32).toInt = 1 := by decide
  have l0 : (0 : Int32).toInt = 0 := by decide
  have n1 : ¬ b < 0 := by rw [Int32.lt_iff_toInt_lt]; omega
  have n2 := nat_of n1
  omega
theorem own_p1 {x a : Int32} {k : Nat} (h : x.toInt = a.toInt + (k : Int) - 1) (hk : k = 0) : x < a := by rw [Int32.lt_iff_toInt_lt]; omega
theorem own_p2 {x a : Int32} {k : Nat} (h : x.toInt = a.toInt + ((k + 1 : Nat) : Int) - 1) : ¬ x < a := by rw [Int32.lt_iff_toInt_lt]; omega
theorem own_p3 {x a : Int32} {k : Nat} (ha : 0 ≤ a.toInt) (h : x.toInt = a.toInt + ((k + 1 : Nat) : Int) - 1) : ¬ x < 0 ∧ x.toNatClampNeg = a.toNatClampNeg + k := by
  have l0 : (0 : Int32).toInt = 0 := by decide
  have n1 : ¬ x < 0 := by rw [Int32.lt_iff_toInt_lt]; omega
  have n2 := nat_of n1
  have n3 : ¬ a < 0 := by rw [Int32.lt_iff_toInt_lt]; omega
  have n4 := nat_of n3
  exact ⟨n1, by omega⟩
theorem own_p4 {x a : Int32} {k : Nat} (ha : 0 ≤ a.toInt) (ha2 : a.toInt + ((k + 1 : Nat) : Int) ≤ 1000) (h : x.toInt = a.toInt + ((k + 1 : Nat) : Int) - 1) : (x + (-1 : Int32)).toInt = a.toInt + (k : Int) - 1 := by
  have a1 := c_iadd x (-1)
  have r1 := rng32 (x + (-1))
  have l1 : (-1 : Int32).toInt = -1 := by decide
  omega
theorem own_bn {a : Int32} (h : 0 ≤ a.toInt) : ¬ a < 0 := by
  rw [Int32.lt_iff_toInt_lt]
  have l0 : (0 : Int32).toInt = 0 := by decide
  omega
theorem d5_0 : decode prog_23_method_8_code 0 = .ok (.iload_n 3, 1) := by decide +kernel
theorem d5_1 : decode prog_23_method_8_code 1 = .ok (.istore 4, 2) := by decide +kernel
theorem d5_3 : decode prog_23_method_8_code 3 = .ok (.iload_n 1, 1) := by decide +kernel
theorem d5_4 : decode prog_23_method_8_code 4 = .ok (.iload_n 2, 1) := by decide +kernel
theorem d5_5 : decode prog_23_method_8_code 5 = .ok (.iadd, 1) := by decide +kernel
theorem d5_6 : decode prog_23_method_8_code 6 = .ok (.iconst 1, 1) := by decide +kernel
theorem d5_7 : decode prog_23_method_8_code 7 = .ok (.isub, 1) := by decide +kernel
theorem d5_8 : decode prog_23_method_8_code 8 = .ok (.istore 5, 2) := by decide +kernel
theorem d5_10 : decode prog_23_method_8_code 10 = .ok (.iload 5, 2) := by decide +kernel
theorem d5_12 : decode prog_23_method_8_code 12 = .ok (.iload_n 1, 1) := by decide +kernel
theorem d5_13 : decode prog_23_method_8_code 13 = .ok (.if_icmp .lt 29, 3) := by decide +kernel
theorem d5_16 : decode prog_23_method_8_code 16 = .ok (.aload_n 0, 1) := by decide +kernel
theorem d5_17 : decode prog_23_method_8_code 17 = .ok (.iload 5, 2) := by decide +kernel
theorem d5_19 : decode prog_23_method_8_code 19 = .ok (.bipush 48, 2) := by decide +kernel
theorem d5_21 : decode prog_23_method_8_code 21 = .ok (.iload 4, 2) := by decide +kernel
theorem d5_23 : decode prog_23_method_8_code 23 = .ok (.bipush 10, 2) := by decide +kernel
theorem d5_25 : decode prog_23_method_8_code 25 = .ok (.irem, 1) := by decide +kernel
theorem d5_26 : decode prog_23_method_8_code 26 = .ok (.iadd, 1) := by decide +kernel
theorem d5_27 : decode prog_23_method_8_code 27 = .ok (.i2b, 1) := by decide +kernel
theorem d5_28 : decode prog_23_method_8_code 28 = .ok (.bastore, 1) := by decide +kernel
theorem d5_29 : decode prog_23_method_8_code 29 = .ok (.iload 4, 2) := by decide +kernel
theorem d5_31 : decode prog_23_method_8_code 31 = .ok (.bipush 10, 2) := by decide +kernel
theorem d5_33 : decode prog_23_method_8_code 33 = .ok (.idiv, 1) := by decide +kernel
theorem d5_34 : decode prog_23_method_8_code 34 = .ok (.istore 4, 2) := by decide +kernel
theorem d5_36 : decode prog_23_method_8_code 36 = .ok (.iinc 5 (-1), 3) := by decide +kernel
theorem d5_39 : decode prog_23_method_8_code 39 = .ok (.goto (-29), 3) := by decide +kernel
theorem d5_42 : decode prog_23_method_8_code 42 = .ok (.return_, 1) := by decide +kernel
theorem pn_5 : plainName "com/example/dayt/dayt/text/TextForm" = true := by first | (simp [plainName, overriddenIn]; done) | decide +kernel
theorem ef_5 (m : MethodId) (p0 : Addr) (p1 : Int32) (p2 : Int32) (p3 : Int32) : entryFrame m #[(.ref p0), (.int p1), (.int p2), (.int p3)] 6 = mkF m 0 #[.val (.ref p0), .val (.int p1), .val (.int p2), .val (.int p3), .unset, .unset] [] := by first | (simp [entryFrame, mkF, argsToLocals, Value.category]; done) | rfl
def Q_5 (Z : State) (p0 : Addr) (p1 : Int32) (p2 : Int32) (p3 : Int32) (n_ : Nat) (g_ : Nat → Int32) (h0 : Heap) (n0 : Nat) (v : Option Value) (h : Heap) (L : List Loc) : Prop := v = none ∧ Fr n0 L ∧ Keep h0 h [p0] ∧ own_A Z h p0 .byte n_ (fun i => .int ((own_put g_ p1.toNatClampNeg p2.toNatClampNeg p3) i))
set_option maxRecDepth 65536 in
set_option maxHeartbeats 40000000 in
theorem rm_5 (l : Launch) (Z : State) (a0 : Array Value) (hw : ∀ d ∈ tables_1, d.before a0 Z = true) (ws : List Jvm.Cond) (p0 : Addr) (p1 : Int32) (p2 : Int32) (p3 : Int32) (n_ : Nat) (g_ : Nat → Int32) (h0 : Heap) (n0 : Nat) (Z0 : n0 ≤ h0.size) (A_p0 : own_A Z h0 p0 .byte n_ (fun i => .int (g_ i))) (ge_p0 : n0 ≤ p0) (hs : 0 ≤ p1.toInt ∧ 0 ≤ p2.toInt ∧ p1.toInt + p2.toInt ≤ (n_ : Int) ∧ (n_ : Int) ≤ 1000) :
    MetFree l (⟨"com/example/dayt/dayt/text/TextForm", "putDigits", "([BIII)V"⟩ : MethodName) (head1 (Jvm.Cond.code (⟨"com/example/dayt/dayt/text/TextForm", "putDigits", "([BIII)V"⟩ : MethodName) prog_23_method_8_code 6 none :: ws) ({ frames := 0, cells := 0, slots := 0, locals := 0 } : Room)) (fun a U => a = #[(.ref p0), (.int p1), (.int p2), (.int p3)] ∧ Z.Warmed39 U.vm ∧ U.heap = h0) (fun _ _ _ _ _ => True) (fun _ U o U' => ∃ v L, o = .returned v ∧ Q_5 Z p0 p1 p2 p3 n_ g_ h0 n0 v U'.heap L ∧ FrameEnd U o U' L ({ frames := 0, cells := 0, slots := 0, locals := 0 } : Room).cells ({ frames := 0, cells := 0, slots := 0, locals := 0 } : Room).slots) := by
  refine MetFree.of_bodySF (plainFor_of_name pn_5) hisR ?_
  intro p e s m args below meth c s₁ Bd hml0 hP hK
  obtain ⟨rfl, hZ, hh⟩ := hP
  have hx := Bd.exec
  have hby := Bd.bytes
  have hml : c.maxLocals = 6 := hml0
  have hown : s.vm.findClass "com/example/dayt/dayt/text/TextForm" = some m.cls := findClass_of_methodNamed Bd.named
  have hnm := (name_of_methodNamed Bd.named Bd.method).1
  have X0 : Stand p l e ({ frames := 0, cells := 0, slots := 0, locals := 0 } : Room) s m #[(.ref p0), (.int p1), (.int p2), (.int p3)] below meth c s₁ [] 0 0 := Stand.of_body Bd
  have e0 : s₁.heap = h0 := by rw [← hh, Bd.state]; rfl
  have N0 := Fr.nil n0
  have K0 : Keep h0 h0 [p0] := Keep.refl h0 _
  have pre0 : ∀ t, Steps p.tables e below (s₁.setTop (mkF m 0 #[.val (.ref p0), .val (.int p1), .val (.int p2), .val (.int p3), .unset, .unset] [])) t → Steps p.tables e below (s₁.setTop (entryFrame m #[(.ref p0), (.int p1), (.int p2), (.int p3)] 6)) t := fun t k => castTop (ef_5 m p0 p1 p2 p3) k
  obtain ⟨v5_8, hv5_8⟩ : ∃ z : Int32, z = ((p1 + p2) - (1 : Int32)) := ⟨_, rfl⟩
  have pre1 : ∀ t, Steps p.tables e below (s₁.setTop (mkF m 10 #[.val (.ref p0), .val (.int p1), .val (.int p2), .val (.int p3), .val (.int p3), .val (.int v5_8)] [])) t → Steps p.tables e below (s₁.setTop (entryFrame m #[(.ref p0), (.int p1), (.int p2), (.int p3)] 6)) t := by
    intro t k
    refine pre0 t ?_
    show Steps p.tables e below (s₁.setTop (mkF m 0 #[.val (.ref p0), .val (.int p1), .val (.int p2), .val (.int p3), .unset, .unset] [])) _
    refine XS.iloadN X0.here hx rfl (hb hby d5_0) rfl  ?_
    show Steps p.tables e below (s₁.setTop (mkF m 1 #[.val (.ref p0), .val (.int p1), .val (.int p2), .val (.int p3), .unset, .unset] [(.int p3)])) _
    refine XS.istore X0.here hx rfl (hb hby d5_1) rfl (l' := #[.val (.ref p0), .val (.int p1), .val (.int p2), .val (.int p3), .val (.int p3), .unset]) rfl ?_
    show Steps p.tables e below (s₁.setTop (mkF m 3 #[.val (.ref p0), .val (.int p1), .val (.int p2), .val (.int p3), .val (.int p3), .unset] [])) _
    refine XS.iloadN X0.here hx rfl (hb hby d5_3) rfl  ?_
    show Steps p.tables e below (s₁.setTop (mkF m 4 #[.val (.ref p0), .val (.int p1), .val (.int p2), .val (.int p3), .val (.int p3), .unset] [(.int p1)])) _
    refine XS.iloadN X0.here hx rfl (hb hby d5_4) rfl  ?_
    show Steps p.tables e below (s₁.setTop (mkF m 5 #[.val (.ref p0), .val (.int p1), .val (.int p2), .val (.int p3), .val (.int p3), .unset] [(.int p2), (.int p1)])) _
    refine XS.iadd X0.here hx rfl (hb hby d5_5) rfl ?_
    show Steps p.tables e below (s₁.setTop (mkF m 6 #[.val (.ref p0), .val (.int p1), .val (.int p2), .val (.int p3), .val (.int p3), .unset] [(.int (p1 + p2))])) _
    refine XS.iconst X0.here hx rfl (hb hby d5_6) ?_
    show Steps p.tables e below (s₁.setTop (mkF m 7 #[.val (.ref p0), .val (.int p1), .val (.int p2), .val (.int p3), .val (.int p3), .unset] [(.int (1 : Int32)), (.int (p1 + p2))])) _
    refine XS.isub X0.here hx rfl (hb hby d5_7) rfl ?_
    show Steps p.tables e below (s₁.setTop (mkF m 8 #[.val (.ref p0), .val (.int p1), .val (.int p2), .val (.int p3), .val (.int p3), .unset] [(.int ((p1 + p2) - (1 : Int32)))])) _
    refine XS.istore X0.here hx rfl (hb hby d5_8) rfl (l' := #[.val (.ref p0), .val (.int p1), .val (.int p2), .val (.int p3), .val (.int p3), .val (.int v5_8)]) (by rw [hv5_8]; rfl) ?_
    exact k
  have loop : ∀ (k : Nat) (TT : State) (hh_ : Heap) (lc : List Loc) (x4 : Int32) (x5 : Int32) (g : Nat → Int32), Stand p l e ({ frames := 0, cells := 0, slots := 0, locals := 0 } : Room) s m #[(.ref p0), (.int p1), (.int p2), (.int p3)] below meth c TT lc 0 0 → TT.heap = hh_ → Fr n0 lc → Keep h0 hh_ [p0] → n0 ≤ hh_.size → own_A Z hh_ p0 .byte n_ (fun i => .int (g i)) → (x5.toInt = p1.toInt + (k : Int) - 1 ∧ p1.toInt + (k : Int) ≤ (n_ : Int) ∧ own_put g p1.toNatClampNeg k x4 = own_put g_ p1.toNatClampNeg p2.toNatClampNeg p3) → (∀ t, Steps p.tables e below (TT.setTop (mkF m 10 #[.val (.ref p0), .val (.int p1), .val (.int p2), .val (.int p3), .val (.int x4), .val (.int x5)] [])) t → Steps p.tables e below (s₁.setTop (entryFrame m #[(.ref p0), (.int p1), (.int p2), (.int p3)] 6)) t) → ∃ s₂ o, Steps p.tables e below (s₁.setTop (entryFrame m #[(.ref p0), (.int p1), (.int p2), (.int p3)] 6)) s₂ ∧ s₂.status = .running ∧ Ended s₂ below o ∧ ∃ v L, o = .returned v ∧ Q_5 Z p0 p1 p2 p3 n_ g_ h0 n0 v s₂.heap L ∧ FrameEnd s o s₂ L ({ frames := 0, cells := 0, slots := 0, locals := 0 } : Room).cells ({ frames := 0, cells := 0, slots := 0, locals := 0 } : Room).slots := by
    intro k
    induction k with
    | zero =>
      intro TT hh_ lc x4 x5 g XX ee NN KK ZZ FF0 hI pp
      obtain ⟨fs, hr, hrun, hended, hW, hsame⟩ := XX.leave (v := none) (fun _ => rfl) (BodyLoose.notSynchronized Bd)
      refine ⟨_, _, pp _ ?_, hrun, hended, _, _, rfl, ?_, ⟨_, rfl⟩, hW, hsame.mono (by decide) (by decide)⟩
      · show Steps p.tables e below (TT.setTop (mkF m 10 #[.val (.ref p0), .val (.int p1), .val (.int p2), .val (.int p3), .val (.int x4), .val (.int x5)] [])) _
        refine XS.iload XX.here hx rfl (hb hby d5_10) rfl  ?_
        show Steps p.tables e below (TT.setTop (mkF m 12 #[.val (.ref p0), .val (.int p1), .val (.int p2), .val (.int p3), .val (.int x4), .val (.int x5)] [(.int x5)])) _
        refine XS.iloadN XX.here hx rfl (hb hby d5_12) rfl  ?_
        show Steps p.tables e below (TT.setTop (mkF m 13 #[.val (.ref p0), .val (.int p1), .val (.int p2), .val (.int p3), .val (.int x4), .val (.int x5)] [(.int p1), (.int x5)])) _
        refine XS.icmpYes XX.here hx rfl (pc0 := 13) (pc' := 42) rfl (hb hby d5_13) rfl (tlt ((own_p1 hI.1 rfl) : x5 < p1)).1 (by decide) (by decide) ?_
        show Steps p.tables e below (TT.setTop (mkF m 42 #[.val (.ref p0), .val (.int p1), .val (.int p2), .val (.int p3), .val (.int x4), .val (.int x5)] [])) _
        exact XX.returnOut hx Bd.returns (hb hby d5_42) hr
      · show Q_5 Z p0 p1 p2 p3 n_ g_ h0 n0 _ TT.heap _
        rw [ee]
        have re_p0 := FF0
        rw [show g = (own_put g_ p1.toNatClampNeg p2.toNatClampNeg p3) from hI.2.2] at re_p0
        exact ⟨rfl, NN, KK, re_p0⟩
    | succ k ih =>
      intro TT hh_ lc x4 x5 g XX ee NN KK ZZ FF0 hI pp
      have pre2 : ∀ t, Steps p.tables e below (TT.setTop (mkF m 28 #[.val (.ref p0), .val (.int p1), .val (.int p2), .val (.int p3), .val (.int x4), .val (.int x5)] [(.int (((48 : Int32) + (x4 % (10 : Int32))).toInt8.toInt32)), (.int x5), (.ref p0)])) t → Steps p.tables e below (s₁.setTop (entryFrame m #[(.ref p0), (.int p1), (.int p2), (.int p3)] 6)) t := by
        intro t k
        refine pp t ?_
        show Steps p.tables e below (TT.setTop (mkF m 10 #[.val (.ref p0), .val (.int p1), .val (.int p2), .val (.int p3), .val (.int x4), .val (.int x5)] [])) _
        refine XS.iload XX.here hx rfl (hb hby d5_10) rfl  ?_
        show Steps p.tables e below (TT.setTop (mkF m 12 #[.val (.ref p0), .val (.int p1), .val (.int p2), .val (.int p3), .val (.int x4), .val (.int x5)] [(.int x5)])) _
        refine XS.iloadN XX.here hx rfl (hb hby d5_12) rfl  ?_
        show Steps p.tables e below (TT.setTop (mkF m 13 #[.val (.ref p0), .val (.int p1), .val (.int p2), .val (.int p3), .val (.int x4), .val (.int x5)] [(.int p1), (.int x5)])) _
        refine XS.icmpNo XX.here hx rfl (hb hby d5_13) rfl (flt ((own_p2 hI.1) : ¬ (x5 < p1))).1 ?_
        show Steps p.tables e below (TT.setTop (mkF m 16 #[.val (.ref p0), .val (.int p1), .val (.int p2), .val (.int p3), .val (.int x4), .val (.int x5)] [])) _
        refine XS.aloadN XX.here hx rfl (hb hby d5_16) rfl rfl ?_
        show Steps p.tables e below (TT.setTop (mkF m 17 #[.val (.ref p0), .val (.int p1), .val (.int p2), .val (.int p3), .val (.int x4), .val (.int x5)] [(.ref p0)])) _
        refine XS.iload XX.here hx rfl (hb hby d5_17) rfl  ?_
        show Steps p.tables e below (TT.setTop (mkF m 19 #[.val (.ref p0), .val (.int p1), .val (.int p2), .val (.int p3), .val (.int x4), .val (.int x5)] [(.int x5), (.ref p0)])) _
        refine XS.bipush XX.here hx rfl (hb hby d5_19) ?_
        show Steps p.tables e below (TT.setTop (mkF m 21 #[.val (.ref p0), .val (.int p1), .val (.int p2), .val (.int p3), .val (.int x4), .val (.int x5)] [(.int (48 : Int32)), (.int x5), (.ref p0)])) _
        refine XS.iload XX.here hx rfl (hb hby d5_21) rfl  ?_
        show Steps p.tables e below (TT.setTop (mkF m 23 #[.val (.ref p0), .val (.int p1), .val (.int p2), .val (.int p3), .val (.int x4), .val (.int x5)] [(.int x4), (.int (48 : Int32)), (.int x5), (.ref p0)])) _
        refine XS.bipush XX.here hx rfl (hb hby d5_23) ?_
        show Steps p.tables e below (TT.setTop (mkF m 25 #[.val (.ref p0), .val (.int p1), .val (.int p2), .val (.int p3), .val (.int x4), .val (.int x5)] [(.int (10 : Int32)), (.int x4), (.int (48 : Int32)), (.int x5), (.ref p0)])) _
        refine iremM XX hx rfl (hb hby d5_25) rfl (by decide) ?_
        show Steps p.tables e below (TT.setTop (mkF m 26 #[.val (.ref p0), .val (.int p1), .val (.int p2), .val (.int p3), .val (.int x4), .val (.int x5)] [(.int (x4 % (10 : Int32))), (.int (48 : Int32)), (.int x5), (.ref p0)])) _
        refine XS.iadd XX.here hx rfl (hb hby d5_26) rfl ?_
        show Steps p.tables e below (TT.setTop (mkF m 27 #[.val (.ref p0), .val (.int p1), .val (.int p2), .val (.int p3), .val (.int x4), .val (.int x5)] [(.int ((48 : Int32) + (x4 % (10 : Int32)))), (.int x5), (.ref p0)])) _
        refine XS.i2b XX.here hx rfl (hb hby d5_27) rfl ?_
        exact k
      obtain ⟨T3, h3, X3, e3, W3, A3, st3⟩ := own_stB XX hx hZ ee FF0 (j := x5) (x := (((48 : Int32) + (x4 % (10 : Int32))).toInt8.toInt32)) (k := x5.toNatClampNeg) (own_p3 hs.1 hI.1).1 rfl (by rw [(own_p3 hs.1 hI.1).2]; have n4 := nat_of (own_bn hs.1); have q := hI.2.1; omega) (g := (mkF m 28 #[.val (.ref p0), .val (.int p1), .val (.int p2), .val (.int p3), .val (.int x4), .val (.int x5)] [(.int (((48 : Int32) + (x4 % (10 : Int32))).toInt8.toInt32)), (.int x5), (.ref p0)])) rfl rfl (hb hby d5_28)
      obtain ⟨g_28, hg_28⟩ : ∃ z : Nat → Int32, z = (own_upd g x5.toNatClampNeg (((48 : Int32) + (x4 % (10 : Int32))).toInt8.toInt32).toInt8.toInt32) := ⟨_, rfl⟩
      rw [← hg_28] at A3
      have K3 := KK.wr W3 (Or.inl (List.mem_of_getElem? (i := 0) rfl))
      have Z3 := Nat.le_trans ZZ (Nat.le_of_eq W3.size.symm)
      have N3 := Fr.snoc X3 NN ge_p0
      obtain ⟨v4_34, hv4_34⟩ : ∃ z : Int32, z = (x4 / (10 : Int32)) := ⟨_, rfl⟩
      obtain ⟨v5_36, hv5_36⟩ : ∃ z : Int32, z = (x5 + (-1 : Int32)) := ⟨_, rfl⟩
      have pre4 : ∀ t, Steps p.tables e below (T3.setTop (mkF m 10 #[.val (.ref p0), .val (.int p1), .val (.int p2), .val (.int p3), .val (.int v4_34), .val (.int v5_36)] [])) t → Steps p.tables e below (s₁.setTop (entryFrame m #[(.ref p0), (.int p1), (.int p2), (.int p3)] 6)) t := by
        intro t k
        refine pre2 t ?_
        show Steps p.tables e below (TT.setTop (mkF m 28 #[.val (.ref p0), .val (.int p1), .val (.int p2), .val (.int p3), .val (.int x4), .val (.int x5)] [(.int (((48 : Int32) + (x4 % (10 : Int32))).toInt8.toInt32)), (.int x5), (.ref p0)])) _
        refine st3 _ ?_
        show Steps p.tables e below (T3.setTop (mkF m 29 #[.val (.ref p0), .val (.int p1), .val (.int p2), .val (.int p3), .val (.int x4), .val (.int x5)] [])) _
        refine XS.iload X3.here hx rfl (hb hby d5_29) rfl  ?_
        show Steps p.tables e below (T3.setTop (mkF m 31 #[.val (.ref p0), .val (.int p1), .val (.int p2), .val (.int p3), .val (.int x4), .val (.int x5)] [(.int x4)])) _
        refine XS.bipush X3.here hx rfl (hb hby d5_31) ?_
        show Steps p.tables e below (T3.setTop (mkF m 33 #[.val (.ref p0), .val (.int p1), .val (.int p2), .val (.int p3), .val (.int x4), .val (.int x5)] [(.int (10 : Int32)), (.int x4)])) _
        refine XS.idiv X3.here hx rfl (hb hby d5_33) rfl (by decide) ?_
        show Steps p.tables e below (T3.setTop (mkF m 34 #[.val (.ref p0), .val (.int p1), .val (.int p2), .val (.int p3), .val (.int x4), .val (.int x5)] [(.int (x4 / (10 : Int32)))])) _
        refine XS.istore X3.here hx rfl (hb hby d5_34) rfl (l' := #[.val (.ref p0), .val (.int p1), .val (.int p2), .val (.int p3), .val (.int v4_34), .val (.int x5)]) (by rw [hv4_34]; rfl) ?_
        show Steps p.tables e below (T3.setTop (mkF m 36 #[.val (.ref p0), .val (.int p1), .val (.int p2), .val (.int p3), .val (.int v4_34), .val (.int x5)] [])) _
        refine XS.iinc X3.here hx rfl (hb hby d5_36) rfl (l' := #[.val (.ref p0), .val (.int p1), .val (.int p2), .val (.int p3), .val (.int v4_34), .val (.int v5_36)]) (by rw [hv5_36]; rfl) ?_
        show Steps p.tables e below (T3.setTop (mkF m 39 #[.val (.ref p0), .val (.int p1), .val (.int p2), .val (.int p3), .val (.int v4_34), .val (.int v5_36)] [])) _
        refine XS.goto X3.here hx rfl (pc0 := 39) (pc' := 10) rfl (hb hby d5_39) (by decide) (by decide) ?_
        exact k
      exact ih T3 h3 _ v4_34 v5_36 g_28 X3 e3 N3 K3 Z3 A3 ⟨by rw [hv5_36]; exact own_p4 hs.1 (by have q := hI.2.1; omega) hI.1, by have q := hI.2.1; omega, by rw [hv4_34, hg_28, (own_p3 hs.1 hI.1).2]; exact hI.2.2⟩ pre4
  exact loop p2.toNatClampNeg s₁ h0 _ p3 v5_8 g_ X0 e0 N0 K0 Z0 A_p0 ⟨by rw [hv5_8]; exact own_p0 _ _ hs.1 hs.2.1 (by omega), by have n2 := nat_of (own_bn hs.2.1); omega, rfl⟩ pre1
theorem d1_0 : decode prog_23_method_6_code 0 = .ok (.iload_n 0, 1) := by decide +kernel
theorem d1_1 : decode prog_23_method_6_code 1 = .ok (.ifCond .ne 8, 3) := by decide +kernel
theorem d1_4 : decode prog_23_method_6_code 4 = .ok (.bipush 10, 2) := by decide +kernel
theorem d1_6 : decode prog_23_method_6_code 6 = .ok (.goto 7, 3) := by decide +kernel
theorem d1_9 : decode prog_23_method_6_code 9 = .ok (.bipush 11, 2) := by decide +kernel
theorem d1_11 : decode prog_23_method_6_code 11 = .ok (.iload_n 0, 1) := by decide +kernel
theorem d1_12 : decode prog_23_method_6_code 12 = .ok (.iadd, 1) := by decide +kernel
theorem d1_13 : decode prog_23_method_6_code 13 = .ok (.ireturn, 1) := by decide +kernel
theorem pn_1 : plainName "com/example/dayt/dayt/text/TextForm" = true := by first | (simp [plainName, overriddenIn]; done) | decide +kernel
theorem ef_1 (m : MethodId) (p0 : Int32) : entryFrame m #[(.int p0)] 1 = mkF m 0 #[.val (.int p0)] [] := by first | (simp [entryFrame, mkF, argsToLocals, Value.category]; done) | rfl
def f_1 (p0 : Int32) : Int32 := let ms0_13 : Int32 := (if p0 = (0 : Int32) then (10 : Int32) else ((11 : Int32) + p0)); ms0_13
def Q_1 (Z : State) (p0 : Int32)  (h0 : Heap) (n0 : Nat) (v : Option Value) (h : Heap) (L : List Loc) : Prop := v = some (.int (f_1 p0)) ∧ Fr n0 L ∧ h = h0
set_option maxRecDepth 65536 in
set_option maxHeartbeats 40000000 in
theorem rm_1 (l : Launch) (Z : State) (a0 : Array Value) (hw : ∀ d ∈ tables_1, d.before a0 Z = true) (ws : List Jvm.Cond) (p0 : Int32)  (h0 : Heap) (n0 : Nat) (Z0 : n0 ≤ h0.size)  :
    MetFree l (⟨"com/example/dayt/dayt/text/TextForm", "timeLength", "(I)I"⟩ : MethodName) (head1 (Jvm.Cond.code (⟨"com/example/dayt/dayt/text/TextForm", "timeLength", "(I)I"⟩ : MethodName) prog_23_method_6_code 1 (some .int) :: ws) ({ frames := 0, cells := 0, slots := 0, locals := 0 } : Room)) (fun a U => a = #[(.int p0)] ∧ Z.Warmed39 U.vm ∧ U.heap = h0) (fun _ _ _ _ _ => True) (fun _ U o U' => ∃ v L, o = .returned v ∧ Q_1 Z p0 h0 n0 v U'.heap L ∧ FrameEnd U o U' L ({ frames := 0, cells := 0, slots := 0, locals := 0 } : Room).cells ({ frames := 0, cells := 0, slots := 0, locals := 0 } : Room).slots) := by
  refine MetFree.of_bodySF (plainFor_of_name pn_1) hisR ?_
  intro p e s m args below meth c s₁ Bd hml0 hP hK
  obtain ⟨rfl, hZ, hh⟩ := hP
  have hx := Bd.exec
  have hby := Bd.bytes
  have hml : c.maxLocals = 1 := hml0
  have hown : s.vm.findClass "com/example/dayt/dayt/text/TextForm" = some m.cls := findClass_of_methodNamed Bd.named
  have hnm := (name_of_methodNamed Bd.named Bd.method).1
  have X0 : Stand p l e ({ frames := 0, cells := 0, slots := 0, locals := 0 } : Room) s m #[(.int p0)] below meth c s₁ [] 0 0 := Stand.of_body Bd
  have e0 : s₁.heap = h0 := by rw [← hh, Bd.state]; rfl
  have N0 := Fr.nil n0
  have K0 : Keep h0 h0 [] := Keep.refl h0 _
  have pre0 : ∀ t, Steps p.tables e below (s₁.setTop (mkF m 0 #[.val (.int p0)] [])) t → Steps p.tables e below (s₁.setTop (entryFrame m #[(.int p0)] 1)) t := fun t k => castTop (ef_1 m p0) k
  have pre1 : ∀ t, Steps p.tables e below (s₁.setTop (mkF m 1 #[.val (.int p0)] [(.int p0)])) t → Steps p.tables e below (s₁.setTop (entryFrame m #[(.int p0)] 1)) t := by
    intro t k
    refine pre0 t ?_
    show Steps p.tables e below (s₁.setTop (mkF m 0 #[.val (.int p0)] [])) _
    refine XS.iloadN X0.here hx rfl (hb hby d1_0) rfl  ?_
    exact k
  obtain ⟨ms0_13, hms0_13⟩ : ∃ z : Int32, z = (if p0 = (0 : Int32) then (10 : Int32) else ((11 : Int32) + p0)) := ⟨_, rfl⟩
  have pre2 : ∀ t, Steps p.tables e below (s₁.setTop (mkF m 13 #[.val (.int p0)] [(.int ms0_13)])) t → Steps p.tables e below (s₁.setTop (entryFrame m #[(.int p0)] 1)) t := by
    intro t k
    refine pre1 t ?_
    by_cases hc1 : p0 = (0 : Int32)
    · show Steps p.tables e below (s₁.setTop (mkF m 1 #[.val (.int p0)] [(.int p0)])) _
      refine XS.ifNo X0.here hx rfl (hb hby d1_1) rfl ((if0 _ _).trans (teq hc1).2) ?_
      show Steps p.tables e below (s₁.setTop (mkF m 4 #[.val (.int p0)] [])) _
      refine XS.bipush X0.here hx rfl (hb hby d1_4) ?_
      show Steps p.tables e below (s₁.setTop (mkF m 6 #[.val (.int p0)] [(.int (10 : Int32))])) _
      refine XS.goto X0.here hx rfl (pc0 := 6) (pc' := 13) rfl (hb hby d1_6) (by decide) (by decide) ?_
      have qms0_13 : ms0_13 = (10 : Int32) := by rw [hms0_13, if_pos hc1]
      rw [qms0_13] at k
      exact k
    · show Steps p.tables e below (s₁.setTop (mkF m 1 #[.val (.int p0)] [(.int p0)])) _
      refine XS.ifYes X0.here hx rfl (pc0 := 1) (pc' := 9) rfl (hb hby d1_1) rfl ((if0 _ _).trans (feq hc1).2) (by decide) (by decide) ?_
      show Steps p.tables e below (s₁.setTop (mkF m 9 #[.val (.int p0)] [])) _
      refine XS.bipush X0.here hx rfl (hb hby d1_9) ?_
      show Steps p.tables e below (s₁.setTop (mkF m 11 #[.val (.int p0)] [(.int (11 : Int32))])) _
      refine XS.iloadN X0.here hx rfl (hb hby d1_11) rfl  ?_
      show Steps p.tables e below (s₁.setTop (mkF m 12 #[.val (.int p0)] [(.int p0), (.int (11 : Int32))])) _
      refine XS.iadd X0.here hx rfl (hb hby d1_12) rfl ?_
      have qms0_13 : ms0_13 = ((11 : Int32) + p0) := by rw [hms0_13, if_neg hc1]
      rw [qms0_13] at k
      exact k
  obtain ⟨fs, hr, hrun, hended, hW, hsame⟩ := X0.leave (v := some (.int ms0_13)) (fun h => by rw [Bd.returns] at h; cases h) (BodyLoose.notSynchronized Bd)
  refine ⟨_, _, pre2 _ ?_, hrun, hended, _, _, rfl, ?_, ⟨_, rfl⟩, hW, hsame.mono (by decide) (by decide)⟩
  · show Steps p.tables e below (s₁.setTop (mkF m 13 #[.val (.int p0)] [(.int ms0_13)])) _
    exact retI X0 hx Bd.returns (hb hby d1_13) hr
  · show Q_1 Z p0 h0 n0 _ s₁.heap _
    rw [e0]
    exact ⟨congrArg (fun z => some (Value.int z)) (by subst hms0_13; rfl : ms0_13 = f_1 p0), N0, rfl⟩
theorem d4_0 : decode jdk_29_method_52_code 0 = .ok (.lload_n 0, 1) := by decide +kernel
theorem d4_1 : decode jdk_29_method_52_code 1 = .ok (.lload_n 2, 1) := by decide +kernel
theorem d4_2 : decode jdk_29_method_52_code 2 = .ok (.lrem, 1) := by decide +kernel
theorem d4_3 : decode jdk_29_method_52_code 3 = .ok (.lstore 4, 2) := by decide +kernel
theorem d4_5 : decode jdk_29_method_52_code 5 = .ok (.lload_n 0, 1) := by decide +kernel
theorem d4_6 : decode jdk_29_method_52_code 6 = .ok (.lload_n 2, 1) := by decide +kernel
theorem d4_7 : decode jdk_29_method_52_code 7 = .ok (.lxor, 1) := by decide +kernel
theorem d4_8 : decode jdk_29_method_52_code 8 = .ok (.lconst 0, 1) := by decide +kernel
theorem d4_9 : decode jdk_29_method_52_code 9 = .ok (.lcmp, 1) := by decide +kernel
theorem d4_10 : decode jdk_29_method_52_code 10 = .ok (.ifCond .ge 15, 3) := by decide +kernel
theorem d4_13 : decode jdk_29_method_52_code 13 = .ok (.lload 4, 2) := by decide +kernel
theorem d4_15 : decode jdk_29_method_52_code 15 = .ok (.lconst 0, 1) := by decide +kernel
theorem d4_16 : decode jdk_29_method_52_code 16 = .ok (.lcmp, 1) := by decide +kernel
theorem d4_17 : decode jdk_29_method_52_code 17 = .ok (.ifCond .eq 8, 3) := by decide +kernel
theorem d4_20 : decode jdk_29_method_52_code 20 = .ok (.lload 4, 2) := by decide +kernel
theorem d4_22 : decode jdk_29_method_52_code 22 = .ok (.lload_n 2, 1) := by decide +kernel
theorem d4_23 : decode jdk_29_method_52_code 23 = .ok (.ladd, 1) := by decide +kernel
theorem d4_24 : decode jdk_29_method_52_code 24 = .ok (.lreturn, 1) := by decide +kernel
theorem d4_25 : decode jdk_29_method_52_code 25 = .ok (.lload 4, 2) := by decide +kernel
theorem d4_27 : decode jdk_29_method_52_code 27 = .ok (.lreturn, 1) := by decide +kernel
theorem ef_4 (m : MethodId) (p0 : Int64) (p1 : Int64) : entryFrame m #[(.long p0), (.long p1)] 6 = mkF m 0 #[.val (.long p0), .second, .val (.long p1), .second, .unset, .unset] [] := by first | (simp [entryFrame, mkF, argsToLocals, Value.category]; done) | rfl
def f_4 (p0 : Int64) (p1 : Int64) : Int64 := let v4_3 : Int64 := (p0 % p1); (if (p0 ^^^ p1) < (0 : Int64) then (if v4_3 = (0 : Int64) then v4_3 else (v4_3 + p1)) else v4_3)
def Q_4 (Z : State) (p0 : Int64) (p1 : Int64)  (h0 : Heap) (n0 : Nat) (v : Option Value) (h : Heap) (L : List Loc) : Prop := v = some (.long (f_4 p0 p1)) ∧ Fr n0 L ∧ h = h0
set_option maxRecDepth 65536 in
set_option maxHeartbeats 40000000 in
theorem rm_4 (l : Launch) (Z : State) (a0 : Array Value) (hw : ∀ d ∈ tables_1, d.before a0 Z = true) (ws : List Jvm.Cond) (p0 : Int64) (p1 : Int64)  (h0 : Heap) (n0 : Nat) (Z0 : n0 ≤ h0.size) (hy : p1 ≠ 0) :
    MetFree l (⟨"java/lang/Math", "floorMod", "(JJ)J"⟩ : MethodName) (head1 (Jvm.Cond.code (⟨"java/lang/Math", "floorMod", "(JJ)J"⟩ : MethodName) jdk_29_method_52_code 6 (some .long) :: ws) ({ frames := 0, cells := 0, slots := 0, locals := 0 } : Room)) (fun a U => a = #[(.long p0), (.long p1)] ∧ Z.Warmed39 U.vm ∧ U.heap = h0) (fun _ _ _ _ _ => True) (fun _ U o U' => ∃ v L, o = .returned v ∧ Q_4 Z p0 p1 h0 n0 v U'.heap L ∧ FrameEnd U o U' L ({ frames := 0, cells := 0, slots := 0, locals := 0 } : Room).cells ({ frames := 0, cells := 0, slots := 0, locals := 0 } : Room).slots) := by
  refine MetFree.of_bodySF (Jvm.Free.JP.mathPlain rfl (by decide +kernel)) hisR ?_
  intro p e s m args below meth c s₁ Bd hml0 hP hK
  obtain ⟨rfl, hZ, hh⟩ := hP
  have hx := Bd.exec
  have hby := Bd.bytes
  have hml : c.maxLocals = 6 := hml0
  have hown : s.vm.findClass "java/lang/Math" = some m.cls := findClass_of_methodNamed Bd.named
  have hnm := (name_of_methodNamed Bd.named Bd.method).1
  have X0 : Stand p l e ({ frames := 0, cells := 0, slots := 0, locals := 0 } : Room) s m #[(.long p0), (.long p1)] below meth c s₁ [] 0 0 := Stand.of_body Bd
  have e0 : s₁.heap = h0 := by rw [← hh, Bd.state]; rfl
  have N0 := Fr.nil n0
  have K0 : Keep h0 h0 [] := Keep.refl h0 _
  have pre0 : ∀ t, Steps p.tables e below (s₁.setTop (mkF m 0 #[.val (.long p0), .second, .val (.long p1), .second, .unset, .unset] [])) t → Steps p.tables e below (s₁.setTop (entryFrame m #[(.long p0), (.long p1)] 6)) t := fun t k => castTop (ef_4 m p0 p1) k
  obtain ⟨v4_3, hv4_3⟩ : ∃ z : Int64, z = (p0 % p1) := ⟨_, rfl⟩
  have pre1 : ∀ t, Steps p.tables e below (s₁.setTop (mkF m 10 #[.val (.long p0), .second, .val (.long p1), .second, .val (.long v4_3), .second] [(.int (lcmpW (p0 ^^^ p1) (0 : Int64)))])) t → Steps p.tables e below (s₁.setTop (entryFrame m #[(.long p0), (.long p1)] 6)) t := by
    intro t k
    refine pre0 t ?_
    show Steps p.tables e below (s₁.setTop (mkF m 0 #[.val (.long p0), .second, .val (.long p1), .second, .unset, .unset] [])) _
    refine XS.lloadN X0.here hx rfl (hb hby d4_0) rfl  ?_
    show Steps p.tables e below (s₁.setTop (mkF m 1 #[.val (.long p0), .second, .val (.long p1), .second, .unset, .unset] [(.long p0)])) _
    refine XS.lloadN X0.here hx rfl (hb hby d4_1) rfl  ?_
    show Steps p.tables e below (s₁.setTop (mkF m 2 #[.val (.long p0), .second, .val (.long p1), .second, .unset, .unset] [(.long p1), (.long p0)])) _
    refine own_lremM X0 hx rfl (hb hby d4_2) rfl hy ?_
    show Steps p.tables e below (s₁.setTop (mkF m 3 #[.val (.long p0), .second, .val (.long p1), .second, .unset, .unset] [(.long (p0 % p1))])) _
    refine XS.lstore X0.here hx rfl (hb hby d4_3) rfl (l' := #[.val (.long p0), .second, .val (.long p1), .second, .val (.long v4_3), .second]) (by rw [hv4_3]; rfl) ?_
    show Steps p.tables e below (s₁.setTop (mkF m 5 #[.val (.long p0), .second, .val (.long p1), .second, .val (.long v4_3), .second] [])) _
    refine XS.lloadN X0.here hx rfl (hb hby d4_5) rfl  ?_
    show Steps p.tables e below (s₁.setTop (mkF m 6 #[.val (.long p0), .second, .val (.long p1), .second, .val (.long v4_3), .second] [(.long p0)])) _
    refine XS.lloadN X0.here hx rfl (hb hby d4_6) rfl  ?_
    show Steps p.tables e below (s₁.setTop (mkF m 7 #[.val (.long p0), .second, .val (.long p1), .second, .val (.long v4_3), .second] [(.long p1), (.long p0)])) _
    refine XS.lxor X0.here hx rfl (hb hby d4_7) rfl ?_
    show Steps p.tables e below (s₁.setTop (mkF m 8 #[.val (.long p0), .second, .val (.long p1), .second, .val (.long v4_3), .second] [(.long (p0 ^^^ p1))])) _
    refine XS.lconst X0.here hx rfl (hb hby d4_8) ?_
    show Steps p.tables e below (s₁.setTop (mkF m 9 #[.val (.long p0), .second, .val (.long p1), .second, .val (.long v4_3), .second] [(.long (0 : Int64)), (.long (p0 ^^^ p1))])) _
    refine XS.lcmp X0.here hx rfl (hb hby d4_9) rfl ?_
    exact k
  by_cases hc10 : (p0 ^^^ p1) < (0 : Int64)
  · have pre2 : ∀ t, Steps p.tables e below (s₁.setTop (mkF m 17 #[.val (.long p0), .second, .val (.long p1), .second, .val (.long v4_3), .second] [(.int (lcmpW v4_3 (0 : Int64)))])) t → Steps p.tables e below (s₁.setTop (entryFrame m #[(.long p0), (.long p1)] 6)) t := by
      intro t k
      refine pre1 t ?_
      show Steps p.tables e below (s₁.setTop (mkF m 10 #[.val (.long p0), .second, .val (.long p1), .second, .val (.long v4_3), .second] [(.int (lcmpW (p0 ^^^ p1) (0 : Int64)))])) _
      refine XS.ifNo X0.here hx rfl (hb hby d4_10) rfl ((if0 _ _).trans (tlt ((lw_lt _ _).mpr hc10)).2.1) ?_
      show Steps p.tables e below (s₁.setTop (mkF m 13 #[.val (.long p0), .second, .val (.long p1), .second, .val (.long v4_3), .second] [])) _
      refine XS.lload X0.here hx rfl (hb hby d4_13) rfl  ?_
      show Steps p.tables e below (s₁.setTop (mkF m 15 #[.val (.long p0), .second, .val (.long p1), .second, .val (.long v4_3), .second] [(.long v4_3)])) _
      refine XS.lconst X0.here hx rfl (hb hby d4_15) ?_
      show Steps p.tables e below (s₁.setTop (mkF m 16 #[.val (.long p0), .second, .val (.long p1), .second, .val (.long v4_3), .second] [(.long (0 : Int64)), (.long v4_3)])) _
      refine XS.lcmp X0.here hx rfl (hb hby d4_16) rfl ?_
      exact k
    by_cases hc17 : v4_3 = (0 : Int64)
    · obtain ⟨fs, hr, hrun, hended, hW, hsame⟩ := X0.leave (v := some (.long v4_3)) (fun h => by rw [Bd.returns] at h; cases h) (BodyLoose.notSynchronized Bd)
      refine ⟨_, _, pre2 _ ?_, hrun, hended, _, _, rfl, ?_, ⟨_, rfl⟩, hW, hsame.mono (by decide) (by decide)⟩
      · show Steps p.tables e below (s₁.setTop (mkF m 17 #[.val (.long p0), .second, .val (.long p1), .second, .val (.long v4_3), .second] [(.int (lcmpW v4_3 (0 : Int64)))])) _
        refine XS.ifYes X0.here hx rfl (pc0 := 17) (pc' := 25) rfl (hb hby d4_17) rfl ((if0 _ _).trans (teq ((lw_eq _ _).mpr hc17)).1) (by decide) (by decide) ?_
        show Steps p.tables e below (s₁.setTop (mkF m 25 #[.val (.long p0), .second, .val (.long p1), .second, .val (.long v4_3), .second] [])) _
        refine XS.lload X0.here hx rfl (hb hby d4_25) rfl  ?_
        show Steps p.tables e below (s₁.setTop (mkF m 27 #[.val (.long p0), .second, .val (.long p1), .second, .val (.long v4_3), .second] [(.long v4_3)])) _
        exact retOut X0 hx Bd.returns rfl (Or.inr (Or.inl ⟨rfl, rfl, _, rfl⟩)) (hb hby d4_27) hr
      · show Q_4 Z p0 p1 h0 n0 _ s₁.heap _
        rw [e0]
        exact ⟨congrArg (fun z => some (Value.long z)) (by subst hv4_3; exact ((if_pos hc10).trans (if_pos hc17)).symm : v4_3 = f_4 p0 p1), N0, rfl⟩
    · obtain ⟨fs, hr, hrun, hended, hW, hsame⟩ := X0.leave (v := some (.long (v4_3 + p1))) (fun h => by rw [Bd.returns] at h; cases h) (BodyLoose.notSynchronized Bd)
      refine ⟨_, _, pre2 _ ?_, hrun, hended, _, _, rfl, ?_, ⟨_, rfl⟩, hW, hsame.mono (by decide) (by decide)⟩
      · show Steps p.tables e below (s₁.setTop (mkF m 17 #[.val (.long p0), .second, .val (.long p1), .second, .val (.long v4_3), .second] [(.int (lcmpW v4_3 (0 : Int64)))])) _
        refine XS.ifNo X0.here hx rfl (hb hby d4_17) rfl ((if0 _ _).trans (feq (fun q => hc17 ((lw_eq _ _).mp q))).1) ?_
        show Steps p.tables e below (s₁.setTop (mkF m 20 #[.val (.long p0), .second, .val (.long p1), .second, .val (.long v4_3), .second] [])) _
        refine XS.lload X0.here hx rfl (hb hby d4_20) rfl  ?_
        show Steps p.tables e below (s₁.setTop (mkF m 22 #[.val (.long p0), .second, .val (.long p1), .second, .val (.long v4_3), .second] [(.long v4_3)])) _
        refine XS.lloadN X0.here hx rfl (hb hby d4_22) rfl  ?_
        show Steps p.tables e below (s₁.setTop (mkF m 23 #[.val (.long p0), .second, .val (.long p1), .second, .val (.long v4_3), .second] [(.long p1), (.long v4_3)])) _
        refine XS.ladd X0.here hx rfl (hb hby d4_23) rfl ?_
        show Steps p.tables e below (s₁.setTop (mkF m 24 #[.val (.long p0), .second, .val (.long p1), .second, .val (.long v4_3), .second] [(.long (v4_3 + p1))])) _
        exact retOut X0 hx Bd.returns rfl (Or.inr (Or.inl ⟨rfl, rfl, _, rfl⟩)) (hb hby d4_24) hr
      · show Q_4 Z p0 p1 h0 n0 _ s₁.heap _
        rw [e0]
        exact ⟨congrArg (fun z => some (Value.long z)) (by subst hv4_3; exact ((if_pos hc10).trans (if_neg hc17)).symm : (v4_3 + p1) = f_4 p0 p1), N0, rfl⟩
  · obtain ⟨fs, hr, hrun, hended, hW, hsame⟩ := X0.leave (v := some (.long v4_3)) (fun h => by rw [Bd.returns] at h; cases h) (BodyLoose.notSynchronized Bd)
    refine ⟨_, _, pre1 _ ?_, hrun, hended, _, _, rfl, ?_, ⟨_, rfl⟩, hW, hsame.mono (by decide) (by decide)⟩
    · show Steps p.tables e below (s₁.setTop (mkF m 10 #[.val (.long p0), .second, .val (.long p1), .second, .val (.long v4_3), .second] [(.int (lcmpW (p0 ^^^ p1) (0 : Int64)))])) _
      refine XS.ifYes X0.here hx rfl (pc0 := 10) (pc' := 25) rfl (hb hby d4_10) rfl ((if0 _ _).trans (flt (fun q => hc10 ((lw_lt _ _).mp q))).2.1) (by decide) (by decide) ?_
      show Steps p.tables e below (s₁.setTop (mkF m 25 #[.val (.long p0), .second, .val (.long p1), .second, .val (.long v4_3), .second] [])) _
      refine XS.lload X0.here hx rfl (hb hby d4_25) rfl  ?_
      show Steps p.tables e below (s₁.setTop (mkF m 27 #[.val (.long p0), .second, .val (.long p1), .second, .val (.long v4_3), .second] [(.long v4_3)])) _
      exact retOut X0 hx Bd.returns rfl (Or.inr (Or.inl ⟨rfl, rfl, _, rfl⟩)) (hb hby d4_27) hr
    · show Q_4 Z p0 p1 h0 n0 _ s₁.heap _
      rw [e0]
      exact ⟨congrArg (fun z => some (Value.long z)) (by subst hv4_3; exact (if_neg hc10).symm : v4_3 = f_4 p0 p1), N0, rfl⟩
theorem pd_0 : parseMethodDescriptor "(JJ)J" = some ⟨[.long, .long], some .long⟩ := by decide +kernel
theorem d3_0 : decode jdk_29_method_51_code 0 = .ok (.lload_n 0, 1) := by decide +kernel
theorem d3_1 : decode jdk_29_method_51_code 1 = .ok (.iload_n 2, 1) := by decide +kernel
theorem d3_2 : decode jdk_29_method_51_code 2 = .ok (.i2l, 1) := by decide +kernel
theorem d3_3 : decode jdk_29_method_51_code 3 = .ok (.invokestatic 146, 3) := by decide +kernel
theorem d3_6 : decode jdk_29_method_51_code 6 = .ok (.l2i, 1) := by decide +kernel
theorem d3_7 : decode jdk_29_method_51_code 7 = .ok (.ireturn, 1) := by decide +kernel
theorem ef_3 (m : MethodId) (p0 : Int64) : entryFrame m #[(.long p0), (.int (86400 : Int32))] 3 = mkF m 0 #[.val (.long p0), .second, .val (.int (86400 : Int32))] [] := by first | (simp [entryFrame, mkF, argsToLocals, Value.category]; done) | rfl
def f_3 (p0 : Int64) : Int32 := ((f_4 p0 ((86400 : Int32).toInt64)).toInt32)
def Q_3 (Z : State) (p0 : Int64)  (h0 : Heap) (n0 : Nat) (v : Option Value) (h : Heap) (L : List Loc) : Prop := v = some (.int (f_3 p0)) ∧ Fr n0 L ∧ h = h0
set_option maxRecDepth 65536 in
set_option maxHeartbeats 40000000 in
theorem rm_3 (l : Launch) (Z : State) (a0 : Array Value) (hw : ∀ d ∈ tables_1, d.before a0 Z = true) (ws : List Jvm.Cond) (p0 : Int64)  (h0 : Heap) (n0 : Nat) (Z0 : n0 ≤ h0.size)  :
    MetFree l (⟨"java/lang/Math", "floorMod", "(JI)I"⟩ : MethodName) (head1 (Jvm.Cond.code (⟨"java/lang/Math", "floorMod", "(JI)I"⟩ : MethodName) jdk_29_method_51_code 3 (some .int) :: ws) ({ frames := 1, cells := 0, slots := 0, locals := 17 } : Room)) (fun a U => a = #[(.long p0), (.int (86400 : Int32))] ∧ Z.Warmed39 U.vm ∧ U.heap = h0) (fun _ _ _ _ _ => True) (fun _ U o U' => ∃ v L, o = .returned v ∧ Q_3 Z p0 h0 n0 v U'.heap L ∧ FrameEnd U o U' L ({ frames := 1, cells := 0, slots := 0, locals := 17 } : Room).cells ({ frames := 1, cells := 0, slots := 0, locals := 17 } : Room).slots) := by
  refine MetFree.of_bodySF (Jvm.Free.JP.mathPlain rfl (by decide +kernel)) hisR ?_
  intro p e s m args below meth c s₁ Bd hml0 hP hK
  obtain ⟨rfl, hZ, hh⟩ := hP
  have hx := Bd.exec
  have hby := Bd.bytes
  have hml : c.maxLocals = 3 := hml0
  have hown : s.vm.findClass "java/lang/Math" = some m.cls := findClass_of_methodNamed Bd.named
  have hnm := (name_of_methodNamed Bd.named Bd.method).1
  have X0 : Stand p l e ({ frames := 1, cells := 0, slots := 0, locals := 17 } : Room) s m #[(.long p0), (.int (86400 : Int32))] below meth c s₁ [] 0 0 := Stand.of_body Bd
  have e0 : s₁.heap = h0 := by rw [← hh, Bd.state]; rfl
  have N0 := Fr.nil n0
  have K0 : Keep h0 h0 [] := Keep.refl h0 _
  have pre0 : ∀ t, Steps p.tables e below (s₁.setTop (mkF m 0 #[.val (.long p0), .second, .val (.int (86400 : Int32))] [])) t → Steps p.tables e below (s₁.setTop (entryFrame m #[(.long p0), (.int (86400 : Int32))] 3)) t := fun t k => castTop (ef_3 m p0) k
  have pre2 : ∀ t, Steps p.tables e below (s₁.setTop (mkF m 3 #[.val (.long p0), .second, .val (.int (86400 : Int32))] [(.long ((86400 : Int32).toInt64)), (.long p0)])) t → Steps p.tables e below (s₁.setTop (entryFrame m #[(.long p0), (.int (86400 : Int32))] 3)) t := by
    intro t k
    refine pre0 t ?_
    show Steps p.tables e below (s₁.setTop (mkF m 0 #[.val (.long p0), .second, .val (.int (86400 : Int32))] [])) _
    refine XS.lloadN X0.here hx rfl (hb hby d3_0) rfl  ?_
    show Steps p.tables e below (s₁.setTop (mkF m 1 #[.val (.long p0), .second, .val (.int (86400 : Int32))] [(.long p0)])) _
    refine XS.iloadN X0.here hx rfl (hb hby d3_1) rfl  ?_
    show Steps p.tables e below (s₁.setTop (mkF m 2 #[.val (.long p0), .second, .val (.int (86400 : Int32))] [(.int (86400 : Int32)), (.long p0)])) _
    refine XS.i2l X0.here hx rfl (hb hby d3_2) rfl ?_
    exact k
  obtain ⟨_, _, ⟨T1, L1, k1, n1⟩, -, X1, ⟨Lc1, hQ1, l1, y1, z1⟩, st1⟩ := Jvm.LawKit.callS X0 hx (y := (⟨"java/lang/Math", "floorMod", "(JJ)J"⟩ : MethodName)) hown (mvT hZ (hw _ (List.mem_of_getElem? (i := 15) rfl))) (mvT hZ (hw _ (List.mem_of_getElem? (i := 16) rfl))) (mvT hZ (hw _ (List.mem_of_getElem? (i := 13) rfl))) (mvT hZ (hw _ (List.mem_of_getElem? (i := 17) rfl))) (by decide) (backOf (W := 0) (rm_4 l Z a0 hw [] p0 ((86400 : Int32).toInt64) h0 n0 Z0 (by decide)) hZ (hw _ (List.mem_of_getElem? (i := 17) rfl)) (hw _ (List.mem_of_getElem? (i := 13) rfl)) (by decide) (by decide)) (g := (mkF m 3 #[.val (.long p0), .second, .val (.int (86400 : Int32))] [(.long ((86400 : Int32).toInt64)), (.long p0)])) rfl (by rw [hml]; rfl) (argsL := [(.long p0), (.long ((86400 : Int32).toInt64))]) (rest := []) (lenOf pd_0 rfl) rfl (by show 2 * 0 + _ ≤ _; exact Nat.le_of_eq rfl) (hb hby d3_3) (fun _ _ => ⟨rfl, e0, (by decide : 0 + 0 ≤ _), (by decide : 0 + 0 ≤ _)⟩)
  dsimp only [Pt.U, Pt.locs, Pt.cells, Pt.slots] at X1 l1 y1 z1 st1 hQ1
  rw [l1, y1, z1] at X1
  obtain ⟨rfl, N1q, e1⟩ := hQ1
  have N1 := Fr.app N0 N1q
  obtain ⟨fs, hr, hrun, hended, hW, hsame⟩ := X1.leave (v := some (.int ((f_4 p0 ((86400 : Int32).toInt64)).toInt32))) (fun h => by rw [Bd.returns] at h; cases h) (BodyLoose.notSynchronized Bd)
  refine ⟨_, _, pre2 _ ?_, hrun, hended, _, _, rfl, ?_, ⟨_, rfl⟩, hW, hsame.mono (by decide) (by decide)⟩
  · show Steps p.tables e below (s₁.setTop (mkF m 3 #[.val (.long p0), .second, .val (.int (86400 : Int32))] [(.long ((86400 : Int32).toInt64)), (.long p0)])) _
    refine st1 _ ?_
    show Steps p.tables e below (T1.setTop (mkF m 6 #[.val (.long p0), .second, .val (.int (86400 : Int32))] [(.long (f_4 p0 ((86400 : Int32).toInt64)))])) _
    refine XS.l2i X1.here hx rfl (hb hby d3_6) rfl ?_
    show Steps p.tables e below (T1.setTop (mkF m 7 #[.val (.long p0), .second, .val (.int (86400 : Int32))] [(.int ((f_4 p0 ((86400 : Int32).toInt64)).toInt32))])) _
    exact retI X1 hx Bd.returns (hb hby d3_7) hr
  · show Q_3 Z p0 h0 n0 _ T1.heap _
    rw [e1]
    exact ⟨congrArg (fun z => some (Value.int z)) (by rfl : ((f_4 p0 ((86400 : Int32).toInt64)).toInt32) = f_3 p0), N1, rfl⟩
def own_N (i : Nat) : Int32 := ([1000000000, 100000000, 10000000, 1000000, 100000, 10000, 1000, 100, 10, 1] : List Int32).getD i 0
theorem own_Np (i : Nat) : i < 10 → 0 < (own_N i).toInt := by
  revert i
  decide +kernel
theorem own_nz {x : Int32} (h : 0 < x.toInt) : x ≠ 0 := by rintro rfl; exact absurd h (by decide)
theorem own_d1 {d : Int32} (h : 0 ≤ d.toInt ∧ d.toInt ≤ 9) : ¬ d < 0 ∧ d.toNatClampNeg < 10 := by
  have n1 := own_bn h.1
  have n2 := nat_of n1
  exact ⟨n1, by omega⟩
theorem own_h10 {d : Int32} (h : 0 ≤ d.toInt ∧ d.toInt ≤ 9) : 0 ≤ ((0 : Int32) + (10 : Int32)).toInt ∧ 0 ≤ d.toInt ∧ ((0 : Int32) + (10 : Int32)).toInt + d.toInt ≤ ((32 : Nat) : Int) ∧ ((32 : Nat) : Int) ≤ 1000 := by
  have l : ((0 : Int32) + (10 : Int32)).toInt = 10 := by decide
  omega
theorem own_tl {d : Int32} (h : 0 ≤ d.toInt ∧ d.toInt ≤ 9) : (f_1 d).toInt = if d.toInt = 0 then 10 else 11 + d.toInt := by
  have l0 : (0 : Int32).toInt = 0 := by decide
  have l11 : (11 : Int32).toInt = 11 := by decide
  have a := c_iadd 11 d
  have r := rng32 (11 + d)
  simp only [f_1, ← Int32.toInt_inj, l0]
  by_cases c : d.toInt = 0
  · simp only [c, if_true]; decide
  · simp only [c, if_false]; omega
theorem own_e0 {d v : Int32} (h : 0 ≤ d.toInt ∧ d.toInt ≤ 9) (hv : v = ((0 : Int32) + (f_1 d))) : v.toInt = if d.toInt = 0 then 10 else 11 + d.toInt := by
  have t := own_tl h
  have a := c_iadd 0 (f_1 d)
  have r := rng32 (0 + f_1 d)
  have r2 := rng32 (f_1 d)
  rw [← hv] at a r
  have l0 : (0 : Int32).toInt = 0 := by decide
  rw [← t]
  omega
theorem own_e {d v : Int32} (h : 0 ≤ d.toInt ∧ d.toInt ≤ 9) (hv : v = ((0 : Int32) + (f_1 d))) : ¬ (v - (1 : Int32)) < 0 ∧ (v - (1 : Int32)).toNatClampNeg < 32 := by
  have t := own_e0 h hv
  have a := c_isub v 1
  have r := rng32 (v - 1)
  have l1 : (1 : Int32).toInt = 1 := by decide
  have k : 10 ≤ v.toInt ∧ v.toInt ≤ 20 := by rw [t]; split <;> omega
  have n1 := own_bn (a := v - 1) (by omega)
  have n2 := nat_of n1
  exact ⟨n1, by omega⟩
theorem own_hd {x v : Int32} (hv : v = ((x &&& (2147483647 : Int32)) % (10 : Int32))) : 0 ≤ v.toInt ∧ v.toInt ≤ 9 := by
  have a1 := c_mask x 2147483647 31 (by decide) (by decide)
  have a2 := (c_irem (x &&& 2147483647) 10 10 (by decide)).1 (by omega)
  rw [← hv] at a2
  omega
theorem own_xv {x v m w : Int32} (hv : v = ((x &&& (2147483647 : Int32)) % (10 : Int32))) (hm : m = (if (0 : Int32) < v then (((9 : Int32) + (1 : Int32)) + v) else (9 : Int32))) (hw : w = (m + (1 : Int32))) : w.toInt = if v.toInt = 0 then 10 else 11 + v.toInt := by
  have h := own_hd hv
  have l0 : (0 : Int32).toInt = 0 := by decide
  have l1 : (1 : Int32).toInt = 1 := by decide
  have l9 : (9 : Int32).toInt = 9 := by decide
  have l10 : ((9 : Int32) + (1 : Int32)).toInt = 10 := by decide
  have a := c_iadd ((9 : Int32) + (1 : Int32)) v
  have r := rng32 (((9 : Int32) + (1 : Int32)) + v)
  have b := c_iadd m 1
  have rb := rng32 (m + 1)
  rw [← hw] at b rb
  have hm' : m.toInt = if v.toInt = 0 then 9 else 10 + v.toInt := by
    rw [hm]
    by_cases c : (0 : Int32) < v
    · rw [if_pos c]
      rw [Int32.lt_iff_toInt_lt] at c
      rw [if_neg (by omega)]
      omega
    · rw [if_neg c]
      rw [Int32.lt_iff_toInt_lt] at c
      rw [if_pos (by omega)]
      exact l9
  split at hm' <;> rename_i c
  · rw [if_pos c]; omega
  · rw [if_neg c]; omega
theorem own_xr {x v m w : Int32} (hv : v = ((x &&& (2147483647 : Int32)) % (10 : Int32))) (hm : m = (if (0 : Int32) < v then (((9 : Int32) + (1 : Int32)) + v) else (9 : Int32))) (hw : w = (m + (1 : Int32))) : 10 ≤ w.toInt ∧ w.toInt ≤ 20 := by
  have t := own_xv hv hm hw
  have h := own_hd hv
  rw [t]
  split <;> omega
theorem own_x0 {x v m w : Int32} (hv : v = ((x &&& (2147483647 : Int32)) % (10 : Int32))) (hm : m = (if (0 : Int32) < v then (((9 : Int32) + (1 : Int32)) + v) else (9 : Int32))) (hw : w = (m + (1 : Int32))) : ¬ w < 0 ∧ w.toNatClampNeg < 32 := by
  have t := own_xr hv hm hw
  have n1 := own_bn (a := w) (by omega)
  have n2 := nat_of n1
  exact ⟨n1, by omega⟩
theorem own_x1 {x v m w : Int32} (hv : v = ((x &&& (2147483647 : Int32)) % (10 : Int32))) (hm : m = (if (0 : Int32) < v then (((9 : Int32) + (1 : Int32)) + v) else (9 : Int32))) (hw : w = (m + (1 : Int32))) : ¬ (w - (1 : Int32)) < 0 ∧ (w - (1 : Int32)).toNatClampNeg < 32 := by
  have t := own_xr hv hm hw
  have a := c_isub w 1
  have r := rng32 (w - 1)
  have l1 : (1 : Int32).toInt = 1 := by decide
  have n1 := own_bn (a := w - 1) (by omega)
  have n2 := nat_of n1
  exact ⟨n1, by omega⟩
theorem own_x2 {x v m w : Int32} (hv : v = ((x &&& (2147483647 : Int32)) % (10 : Int32))) (hm : m = (if (0 : Int32) < v then (((9 : Int32) + (1 : Int32)) + v) else (9 : Int32))) (hw : w = (m + (1 : Int32))) : ¬ (w - (2 : Int32)) < 0 ∧ (w - (2 : Int32)).toNatClampNeg < 32 := by
  have t := own_xr hv hm hw
  have a := c_isub w 2
  have r := rng32 (w - 2)
  have l1 : (2 : Int32).toInt = 2 := by decide
  have n1 := own_bn (a := w - 2) (by omega)
  have n2 := nat_of n1
  exact ⟨n1, by omega⟩
theorem pd_1 : parseMethodDescriptor "(JI)I" = some ⟨[.long, .int], some .int⟩ := by decide +kernel
theorem pd_2 : parseMethodDescriptor "([BIII)V" = some ⟨[(.array .byte), .int, .int, .int], none⟩ := by decide +kernel
theorem pd_3 : parseMethodDescriptor "(I)I" = some ⟨[.int], some .int⟩ := by decide +kernel
theorem d2_0 : decode prog_23_method_7_code 0 = .ok (.lload_n 2, 1) := by decide +kernel
theorem d2_1 : decode prog_23_method_7_code 1 = .ok (.ldc 16, 2) := by decide +kernel
theorem d2_3 : decode prog_23_method_7_code 3 = .ok (.invokestatic 45, 3) := by decide +kernel
theorem d2_6 : decode prog_23_method_7_code 6 = .ok (.istore 6, 2) := by decide +kernel
theorem d2_8 : decode prog_23_method_7_code 8 = .ok (.aload_n 0, 1) := by decide +kernel
theorem d2_9 : decode prog_23_method_7_code 9 = .ok (.iload_n 1, 1) := by decide +kernel
theorem d2_10 : decode prog_23_method_7_code 10 = .ok (.bipush 84, 2) := by decide +kernel
theorem d2_12 : decode prog_23_method_7_code 12 = .ok (.bastore, 1) := by decide +kernel
theorem d2_13 : decode prog_23_method_7_code 13 = .ok (.aload_n 0, 1) := by decide +kernel
theorem d2_14 : decode prog_23_method_7_code 14 = .ok (.iload_n 1, 1) := by decide +kernel
theorem d2_15 : decode prog_23_method_7_code 15 = .ok (.iconst 1, 1) := by decide +kernel
theorem d2_16 : decode prog_23_method_7_code 16 = .ok (.iadd, 1) := by decide +kernel
theorem d2_17 : decode prog_23_method_7_code 17 = .ok (.iconst 2, 1) := by decide +kernel
theorem d2_18 : decode prog_23_method_7_code 18 = .ok (.iload 6, 2) := by decide +kernel
theorem d2_20 : decode prog_23_method_7_code 20 = .ok (.sipush 3600, 3) := by decide +kernel
theorem d2_23 : decode prog_23_method_7_code 23 = .ok (.idiv, 1) := by decide +kernel
theorem d2_24 : decode prog_23_method_7_code 24 = .ok (.invokestatic 29, 3) := by decide +kernel
theorem d2_27 : decode prog_23_method_7_code 27 = .ok (.aload_n 0, 1) := by decide +kernel
theorem d2_28 : decode prog_23_method_7_code 28 = .ok (.iload_n 1, 1) := by decide +kernel
theorem d2_29 : decode prog_23_method_7_code 29 = .ok (.iconst 3, 1) := by decide +kernel
theorem d2_30 : decode prog_23_method_7_code 30 = .ok (.iadd, 1) := by decide +kernel
theorem d2_31 : decode prog_23_method_7_code 31 = .ok (.bipush 58, 2) := by decide +kernel
theorem d2_33 : decode prog_23_method_7_code 33 = .ok (.bastore, 1) := by decide +kernel
theorem d2_34 : decode prog_23_method_7_code 34 = .ok (.aload_n 0, 1) := by decide +kernel
theorem d2_35 : decode prog_23_method_7_code 35 = .ok (.iload_n 1, 1) := by decide +kernel
theorem d2_36 : decode prog_23_method_7_code 36 = .ok (.iconst 4, 1) := by decide +kernel
theorem d2_37 : decode prog_23_method_7_code 37 = .ok (.iadd, 1) := by decide +kernel
theorem d2_38 : decode prog_23_method_7_code 38 = .ok (.iconst 2, 1) := by decide +kernel
theorem d2_39 : decode prog_23_method_7_code 39 = .ok (.iload 6, 2) := by decide +kernel
theorem d2_41 : decode prog_23_method_7_code 41 = .ok (.bipush 60, 2) := by decide +kernel
theorem d2_43 : decode prog_23_method_7_code 43 = .ok (.idiv, 1) := by decide +kernel
theorem d2_44 : decode prog_23_method_7_code 44 = .ok (.bipush 60, 2) := by decide +kernel
theorem d2_46 : decode prog_23_method_7_code 46 = .ok (.irem, 1) := by decide +kernel
theorem d2_47 : decode prog_23_method_7_code 47 = .ok (.invokestatic 29, 3) := by decide +kernel
theorem d2_50 : decode prog_23_method_7_code 50 = .ok (.aload_n 0, 1) := by decide +kernel
theorem d2_51 : decode prog_23_method_7_code 51 = .ok (.iload_n 1, 1) := by decide +kernel
theorem d2_52 : decode prog_23_method_7_code 52 = .ok (.bipush 6, 2) := by decide +kernel
theorem d2_54 : decode prog_23_method_7_code 54 = .ok (.iadd, 1) := by decide +kernel
theorem d2_55 : decode prog_23_method_7_code 55 = .ok (.bipush 58, 2) := by decide +kernel
theorem d2_57 : decode prog_23_method_7_code 57 = .ok (.bastore, 1) := by decide +kernel
theorem d2_58 : decode prog_23_method_7_code 58 = .ok (.aload_n 0, 1) := by decide +kernel
theorem d2_59 : decode prog_23_method_7_code 59 = .ok (.iload_n 1, 1) := by decide +kernel
theorem d2_60 : decode prog_23_method_7_code 60 = .ok (.bipush 7, 2) := by decide +kernel
theorem d2_62 : decode prog_23_method_7_code 62 = .ok (.iadd, 1) := by decide +kernel
theorem d2_63 : decode prog_23_method_7_code 63 = .ok (.iconst 2, 1) := by decide +kernel
theorem d2_64 : decode prog_23_method_7_code 64 = .ok (.iload 6, 2) := by decide +kernel
theorem d2_66 : decode prog_23_method_7_code 66 = .ok (.bipush 60, 2) := by decide +kernel
theorem d2_68 : decode prog_23_method_7_code 68 = .ok (.irem, 1) := by decide +kernel
theorem d2_69 : decode prog_23_method_7_code 69 = .ok (.invokestatic 29, 3) := by decide +kernel
theorem d2_72 : decode prog_23_method_7_code 72 = .ok (.iload 5, 2) := by decide +kernel
theorem d2_74 : decode prog_23_method_7_code 74 = .ok (.ifCond .le 30, 3) := by decide +kernel
theorem d2_77 : decode prog_23_method_7_code 77 = .ok (.aload_n 0, 1) := by decide +kernel
theorem d2_78 : decode prog_23_method_7_code 78 = .ok (.iload_n 1, 1) := by decide +kernel
theorem d2_79 : decode prog_23_method_7_code 79 = .ok (.bipush 9, 2) := by decide +kernel
theorem d2_81 : decode prog_23_method_7_code 81 = .ok (.iadd, 1) := by decide +kernel
theorem d2_82 : decode prog_23_method_7_code 82 = .ok (.bipush 46, 2) := by decide +kernel
theorem d2_84 : decode prog_23_method_7_code 84 = .ok (.bastore, 1) := by decide +kernel
theorem d2_85 : decode prog_23_method_7_code 85 = .ok (.aload_n 0, 1) := by decide +kernel
theorem d2_86 : decode prog_23_method_7_code 86 = .ok (.iload_n 1, 1) := by decide +kernel
theorem d2_87 : decode prog_23_method_7_code 87 = .ok (.bipush 10, 2) := by decide +kernel
theorem d2_89 : decode prog_23_method_7_code 89 = .ok (.iadd, 1) := by decide +kernel
theorem d2_90 : decode prog_23_method_7_code 90 = .ok (.iload 5, 2) := by decide +kernel
theorem d2_92 : decode prog_23_method_7_code 92 = .ok (.iload 4, 2) := by decide +kernel
theorem d2_94 : decode prog_23_method_7_code 94 = .ok (.getstatic 49, 3) := by decide +kernel
theorem d2_97 : decode prog_23_method_7_code 97 = .ok (.iload 5, 2) := by decide +kernel
theorem d2_99 : decode prog_23_method_7_code 99 = .ok (.iaload, 1) := by decide +kernel
theorem d2_100 : decode prog_23_method_7_code 100 = .ok (.idiv, 1) := by decide +kernel
theorem d2_101 : decode prog_23_method_7_code 101 = .ok (.invokestatic 29, 3) := by decide +kernel
theorem d2_104 : decode prog_23_method_7_code 104 = .ok (.iload_n 1, 1) := by decide +kernel
theorem d2_105 : decode prog_23_method_7_code 105 = .ok (.iload 5, 2) := by decide +kernel
theorem d2_107 : decode prog_23_method_7_code 107 = .ok (.invokestatic 53, 3) := by decide +kernel
theorem d2_110 : decode prog_23_method_7_code 110 = .ok (.iadd, 1) := by decide +kernel
theorem d2_111 : decode prog_23_method_7_code 111 = .ok (.istore 7, 2) := by decide +kernel
theorem d2_113 : decode prog_23_method_7_code 113 = .ok (.aload_n 0, 1) := by decide +kernel
theorem d2_114 : decode prog_23_method_7_code 114 = .ok (.iload 7, 2) := by decide +kernel
theorem d2_116 : decode prog_23_method_7_code 116 = .ok (.iconst 1, 1) := by decide +kernel
theorem d2_117 : decode prog_23_method_7_code 117 = .ok (.isub, 1) := by decide +kernel
theorem d2_118 : decode prog_23_method_7_code 118 = .ok (.bipush 90, 2) := by decide +kernel
theorem d2_120 : decode prog_23_method_7_code 120 = .ok (.bastore, 1) := by decide +kernel
theorem d2_121 : decode prog_23_method_7_code 121 = .ok (.iload 7, 2) := by decide +kernel
theorem d2_123 : decode prog_23_method_7_code 123 = .ok (.ireturn, 1) := by decide +kernel
theorem pn_2 : plainName "com/example/dayt/dayt/text/TextForm" = true := by first | (simp [plainName, overriddenIn]; done) | decide +kernel
theorem ef_2 (m : MethodId) (p0 : Addr) (p2 : Int64) (p3 : Int32) (p4 : Int32) : entryFrame m #[(.ref p0), (.int (0 : Int32)), (.long p2), (.int p3), (.int p4)] 8 = mkF m 0 #[.val (.ref p0), .val (.int (0 : Int32)), .val (.long p2), .second, .val (.int p3), .val (.int p4), .unset, .unset] [] := by first | (simp [entryFrame, mkF, argsToLocals, Value.category]; done) | rfl
def f_2 (p2 : Int64) (p3 : Int32) (p4 : Int32) (g_ : Nat → Int32) (gn : Nat → Int32) : Int32 := let v6_6 : Int32 := (f_3 p2); let g_12 : Nat → Int32 := (own_upd g_ 0 (84 : Int32).toInt8.toInt32); let g_33 : Nat → Int32 := (own_upd (own_put g_12 ((0 : Int32) + (1 : Int32)).toNatClampNeg (2 : Int32).toNatClampNeg (v6_6 / (3600 : Int32))) 3 (58 : Int32).toInt8.toInt32); let g_57 : Nat → Int32 := (own_upd (own_put g_33 ((0 : Int32) + (4 : Int32)).toNatClampNeg (2 : Int32).toNatClampNeg ((v6_6 / (60 : Int32)) % (60 : Int32))) 6 (58 : Int32).toInt8.toInt32); let mg_p0_104 : Nat → Int32 := (if (0 : Int32) < p4 then (own_put (own_upd (own_put g_57 ((0 : Int32) + (7 : Int32)).toNatClampNeg (2 : Int32).toNatClampNeg (v6_6 % (60 : Int32))) 9 (46 : Int32).toInt8.toInt32) ((0 : Int32) + (10 : Int32)).toNatClampNeg p4.toNatClampNeg (p3 / (gn p4.toNatClampNeg))) else (own_put g_57 ((0 : Int32) + (7 : Int32)).toNatClampNeg (2 : Int32).toNatClampNeg (v6_6 % (60 : Int32)))); let v7_111 : Int32 := ((0 : Int32) + (f_1 p4)); let g_120 : Nat → Int32 := (own_upd mg_p0_104 (v7_111 - (1 : Int32)).toNatClampNeg (90 : Int32).toInt8.toInt32); v7_111
def f_2_1 (p2 : Int64) (p3 : Int32) (p4 : Int32) (g_ : Nat → Int32) (gn : Nat → Int32) : Nat → Int32 := let v6_6 : Int32 := (f_3 p2); let g_12 : Nat → Int32 := (own_upd g_ 0 (84 : Int32).toInt8.toInt32); let g_33 : Nat → Int32 := (own_upd (own_put g_12 ((0 : Int32) + (1 : Int32)).toNatClampNeg (2 : Int32).toNatClampNeg (v6_6 / (3600 : Int32))) 3 (58 : Int32).toInt8.toInt32); let g_57 : Nat → Int32 := (own_upd (own_put g_33 ((0 : Int32) + (4 : Int32)).toNatClampNeg (2 : Int32).toNatClampNeg ((v6_6 / (60 : Int32)) % (60 : Int32))) 6 (58 : Int32).toInt8.toInt32); let mg_p0_104 : Nat → Int32 := (if (0 : Int32) < p4 then (own_put (own_upd (own_put g_57 ((0 : Int32) + (7 : Int32)).toNatClampNeg (2 : Int32).toNatClampNeg (v6_6 % (60 : Int32))) 9 (46 : Int32).toInt8.toInt32) ((0 : Int32) + (10 : Int32)).toNatClampNeg p4.toNatClampNeg (p3 / (gn p4.toNatClampNeg))) else (own_put g_57 ((0 : Int32) + (7 : Int32)).toNatClampNeg (2 : Int32).toNatClampNeg (v6_6 % (60 : Int32)))); let v7_111 : Int32 := ((0 : Int32) + (f_1 p4)); let g_120 : Nat → Int32 := (own_upd mg_p0_104 (v7_111 - (1 : Int32)).toNatClampNeg (90 : Int32).toInt8.toInt32); g_120
def Q_2 (Z : State) (p0 : Addr) (p2 : Int64) (p3 : Int32) (p4 : Int32) (g_ : Nat → Int32) (an : Addr) (gn : Nat → Int32) (h0 : Heap) (n0 : Nat) (v : Option Value) (h : Heap) (L : List Loc) : Prop := v = some (.int (f_2 p2 p3 p4 g_ gn)) ∧ Fr n0 L ∧ Keep h0 h [p0] ∧ own_A Z h p0 .byte 32 (fun i => .int ((f_2_1 p2 p3 p4 g_ gn) i))
set_option maxRecDepth 65536 in
set_option maxHeartbeats 40000000 in
theorem rm_2 (l : Launch) (Z : State) (a0 : Array Value) (hw : ∀ d ∈ tables_1, d.before a0 Z = true) (ws : List Jvm.Cond) (p0 : Addr) (p2 : Int64) (p3 : Int32) (p4 : Int32) (g_ : Nat → Int32) (an : Addr) (gn : Nat → Int32) (h0 : Heap) (n0 : Nat) (Z0 : n0 ≤ h0.size) (A_p0 : own_A Z h0 p0 .byte 32 (fun i => .int (g_ i))) (ge_p0 : n0 ≤ p0) (S_NANOS_PER_FRACTION_UNIT : Sta Z h0 "com/example/dayt/dayt/text/TextForm" "NANOS_PER_FRACTION_UNIT" "[I" (.ref an)) (A_an : own_A Z h0 an .int 10 (fun i => .int (gn i))) (ne_an_p0 : an ≠ p0) (hd : 0 ≤ p4.toInt ∧ p4.toInt ≤ 9) (hn : ∀ i, i < 10 → 0 < (gn i).toInt) :
    MetFree l (⟨"com/example/dayt/dayt/text/TextForm", "putTime", "([BIJII)I"⟩ : MethodName) (head1 (Jvm.Cond.code (⟨"com/example/dayt/dayt/text/TextForm", "putTime", "([BIJII)I"⟩ : MethodName) prog_23_method_7_code 8 (some .int) :: ws) ({ frames := 2, cells := 0, slots := 0, locals := 31 } : Room)) (fun a U => a = #[(.ref p0), (.int (0 : Int32)), (.long p2), (.int p3), (.int p4)] ∧ Z.Warmed39 U.vm ∧ U.heap = h0) (fun _ _ _ _ _ => True) (fun _ U o U' => ∃ v L, o = .returned v ∧ Q_2 Z p0 p2 p3 p4 g_ an gn h0 n0 v U'.heap L ∧ FrameEnd U o U' L ({ frames := 2, cells := 0, slots := 0, locals := 31 } : Room).cells ({ frames := 2, cells := 0, slots := 0, locals := 31 } : Room).slots) := by
  refine MetFree.of_bodySF (plainFor_of_name pn_2) hisR ?_
  intro p e s m args below meth c s₁ Bd hml0 hP hK
  obtain ⟨rfl, hZ, hh⟩ := hP
  have hx := Bd.exec
  have hby := Bd.bytes
  have hml : c.maxLocals = 8 := hml0
  have hown : s.vm.findClass "com/example/dayt/dayt/text/TextForm" = some m.cls := findClass_of_methodNamed Bd.named
  have hnm := (name_of_methodNamed Bd.named Bd.method).1
  have X0 : Stand p l e ({ frames := 2, cells := 0, slots := 0, locals := 31 } : Room) s m #[(.ref p0), (.int (0 : Int32)), (.long p2), (.int p3), (.int p4)] below meth c s₁ [] 0 0 := Stand.of_body Bd
  have e0 : s₁.heap = h0 := by rw [← hh, Bd.state]; rfl
  have N0 := Fr.nil n0
  have K0 : Keep h0 h0 [p0] := Keep.refl h0 _
  have pre0 : ∀ t, Steps p.tables e below (s₁.setTop (mkF m 0 #[.val (.ref p0), .val (.int (0 : Int32)), .val (.long p2), .second, .val (.int p3), .val (.int p4), .unset, .unset] [])) t → Steps p.tables e below (s₁.setTop (entryFrame m #[(.ref p0), (.int (0 : Int32)), (.long p2), (.int p3), (.int p4)] 8)) t := fun t k => castTop (ef_2 m p0 p2 p3 p4) k
  have pre2 : ∀ t, Steps p.tables e below (s₁.setTop (mkF m 3 #[.val (.ref p0), .val (.int (0 : Int32)), .val (.long p2), .second, .val (.int p3), .val (.int p4), .unset, .unset] [(.int (86400 : Int32)), (.long p2)])) t → Steps p.tables e below (s₁.setTop (entryFrame m #[(.ref p0), (.int (0 : Int32)), (.long p2), (.int p3), (.int p4)] 8)) t := by
    intro t k
    refine pre0 t ?_
    show Steps p.tables e below (s₁.setTop (mkF m 0 #[.val (.ref p0), .val (.int (0 : Int32)), .val (.long p2), .second, .val (.int p3), .val (.int p4), .unset, .unset] [])) _
    refine XS.lloadN X0.here hx rfl (hb hby d2_0) rfl  ?_
    show Steps p.tables e below (s₁.setTop (mkF m 1 #[.val (.ref p0), .val (.int (0 : Int32)), .val (.long p2), .second, .val (.int p3), .val (.int p4), .unset, .unset] [(.long p2)])) _
    refine X0.ldcInt hx hown (mvT hZ (hw _ (List.mem_of_getElem? (i := 10) rfl))) (g := (mkF m 1 #[.val (.ref p0), .val (.int (0 : Int32)), .val (.long p2), .second, .val (.int p3), .val (.int p4), .unset, .unset] [(.long p2)])) rfl (hb hby d2_1) _ ?_
    exact k
  obtain ⟨_, _, ⟨T1, L1, k1, n1⟩, -, X1, ⟨Lc1, hQ1, l1, y1, z1⟩, st1⟩ := Jvm.LawKit.callS X0 hx (y := (⟨"java/lang/Math", "floorMod", "(JI)I"⟩ : MethodName)) hown (mvT hZ (hw _ (List.mem_of_getElem? (i := 11) rfl))) (mvT hZ (hw _ (List.mem_of_getElem? (i := 12) rfl))) (mvT hZ (hw _ (List.mem_of_getElem? (i := 13) rfl))) (mvT hZ (hw _ (List.mem_of_getElem? (i := 14) rfl))) (by decide) (backOf (W := 0) (rm_3 l Z a0 hw [] p2 h0 n0 Z0 ) hZ (hw _ (List.mem_of_getElem? (i := 14) rfl)) (hw _ (List.mem_of_getElem? (i := 13) rfl)) (by decide) (by decide)) (g := (mkF m 3 #[.val (.ref p0), .val (.int (0 : Int32)), .val (.long p2), .second, .val (.int p3), .val (.int p4), .unset, .unset] [(.int (86400 : Int32)), (.long p2)])) rfl (by rw [hml]; rfl) (argsL := [(.long p2), (.int (86400 : Int32))]) (rest := []) (lenOf pd_1 rfl) rfl (by show 2 * 0 + _ ≤ _; exact Nat.le_of_eq rfl) (hb hby d2_3) (fun _ _ => ⟨rfl, e0, (by decide : 0 + 0 ≤ _), (by decide : 0 + 0 ≤ _)⟩)
  dsimp only [Pt.U, Pt.locs, Pt.cells, Pt.slots] at X1 l1 y1 z1 st1 hQ1
  rw [l1, y1, z1] at X1
  obtain ⟨rfl, N1q, e1⟩ := hQ1
  have N1 := Fr.app N0 N1q
  obtain ⟨v6_6, hv6_6⟩ : ∃ z : Int32, z = (f_3 p2) := ⟨_, rfl⟩
  have pre3 : ∀ t, Steps p.tables e below (T1.setTop (mkF m 12 #[.val (.ref p0), .val (.int (0 : Int32)), .val (.long p2), .second, .val (.int p3), .val (.int p4), .val (.int v6_6), .unset] [(.int (84 : Int32)), (.int (0 : Int32)), (.ref p0)])) t → Steps p.tables e below (s₁.setTop (entryFrame m #[(.ref p0), (.int (0 : Int32)), (.long p2), (.int p3), (.int p4)] 8)) t := by
    intro t k
    refine pre2 t ?_
    show Steps p.tables e below (s₁.setTop (mkF m 3 #[.val (.ref p0), .val (.int (0 : Int32)), .val (.long p2), .second, .val (.int p3), .val (.int p4), .unset, .unset] [(.int (86400 : Int32)), (.long p2)])) _
    refine st1 _ ?_
    show Steps p.tables e below (T1.setTop (mkF m 6 #[.val (.ref p0), .val (.int (0 : Int32)), .val (.long p2), .second, .val (.int p3), .val (.int p4), .unset, .unset] [(.int (f_3 p2))])) _
    refine XS.istore X1.here hx rfl (hb hby d2_6) rfl (l' := #[.val (.ref p0), .val (.int (0 : Int32)), .val (.long p2), .second, .val (.int p3), .val (.int p4), .val (.int v6_6), .unset]) (by rw [hv6_6]; rfl) ?_
    show Steps p.tables e below (T1.setTop (mkF m 8 #[.val (.ref p0), .val (.int (0 : Int32)), .val (.long p2), .second, .val (.int p3), .val (.int p4), .val (.int v6_6), .unset] [])) _
    refine XS.aloadN X1.here hx rfl (hb hby d2_8) rfl rfl ?_
    show Steps p.tables e below (T1.setTop (mkF m 9 #[.val (.ref p0), .val (.int (0 : Int32)), .val (.long p2), .second, .val (.int p3), .val (.int p4), .val (.int v6_6), .unset] [(.ref p0)])) _
    refine XS.iloadN X1.here hx rfl (hb hby d2_9) rfl  ?_
    show Steps p.tables e below (T1.setTop (mkF m 10 #[.val (.ref p0), .val (.int (0 : Int32)), .val (.long p2), .second, .val (.int p3), .val (.int p4), .val (.int v6_6), .unset] [(.int (0 : Int32)), (.ref p0)])) _
    refine XS.bipush X1.here hx rfl (hb hby d2_10) ?_
    exact k
  obtain ⟨T4, h4, X4, e4, W4, A4, st4⟩ := own_stB X1 hx hZ e1 A_p0 (j := (0 : Int32)) (x := (84 : Int32)) (k := 0) (by decide) (by decide) (by decide) (g := (mkF m 12 #[.val (.ref p0), .val (.int (0 : Int32)), .val (.long p2), .second, .val (.int p3), .val (.int p4), .val (.int v6_6), .unset] [(.int (84 : Int32)), (.int (0 : Int32)), (.ref p0)])) rfl rfl (hb hby d2_12)
  obtain ⟨g_12, hg_12⟩ : ∃ z : Nat → Int32, z = (own_upd g_ 0 (84 : Int32).toInt8.toInt32) := ⟨_, rfl⟩
  rw [← hg_12] at A4
  have sta_com_example_dayt_dayt_text_TextForm_NANOS_PER_FRACTION_UNIT_4 := S_NANOS_PER_FRACTION_UNIT.wr W4
  have arr_an_4 := A_an.other W4 ne_an_p0
  have K4 := K0.wr W4 (Or.inl (List.mem_of_getElem? (i := 0) rfl))
  have Z4 := Nat.le_trans Z0 (Nat.le_of_eq W4.size.symm)
  have N4 := Fr.snoc X4 N1 ge_p0
  have pre6 : ∀ t, Steps p.tables e below (T4.setTop (mkF m 24 #[.val (.ref p0), .val (.int (0 : Int32)), .val (.long p2), .second, .val (.int p3), .val (.int p4), .val (.int v6_6), .unset] [(.int (v6_6 / (3600 : Int32))), (.int (2 : Int32)), (.int ((0 : Int32) + (1 : Int32))), (.ref p0)])) t → Steps p.tables e below (s₁.setTop (entryFrame m #[(.ref p0), (.int (0 : Int32)), (.long p2), (.int p3), (.int p4)] 8)) t := by
    intro t k
    refine pre3 t ?_
    show Steps p.tables e below (T1.setTop (mkF m 12 #[.val (.ref p0), .val (.int (0 : Int32)), .val (.long p2), .second, .val (.int p3), .val (.int p4), .val (.int v6_6), .unset] [(.int (84 : Int32)), (.int (0 : Int32)), (.ref p0)])) _
    refine st4 _ ?_
    show Steps p.tables e below (T4.setTop (mkF m 13 #[.val (.ref p0), .val (.int (0 : Int32)), .val (.long p2), .second, .val (.int p3), .val (.int p4), .val (.int v6_6), .unset] [])) _
    refine XS.aloadN X4.here hx rfl (hb hby d2_13) rfl rfl ?_
    show Steps p.tables e below (T4.setTop (mkF m 14 #[.val (.ref p0), .val (.int (0 : Int32)), .val (.long p2), .second, .val (.int p3), .val (.int p4), .val (.int v6_6), .unset] [(.ref p0)])) _
    refine XS.iloadN X4.here hx rfl (hb hby d2_14) rfl  ?_
    show Steps p.tables e below (T4.setTop (mkF m 15 #[.val (.ref p0), .val (.int (0 : Int32)), .val (.long p2), .second, .val (.int p3), .val (.int p4), .val (.int v6_6), .unset] [(.int (0 : Int32)), (.ref p0)])) _
    refine XS.iconst X4.here hx rfl (hb hby d2_15) ?_
    show Steps p.tables e below (T4.setTop (mkF m 16 #[.val (.ref p0), .val (.int (0 : Int32)), .val (.long p2), .second, .val (.int p3), .val (.int p4), .val (.int v6_6), .unset] [(.int (1 : Int32)), (.int (0 : Int32)), (.ref p0)])) _
    refine XS.iadd X4.here hx rfl (hb hby d2_16) rfl ?_
    show Steps p.tables e below (T4.setTop (mkF m 17 #[.val (.ref p0), .val (.int (0 : Int32)), .val (.long p2), .second, .val (.int p3), .val (.int p4), .val (.int v6_6), .unset] [(.int ((0 : Int32) + (1 : Int32))), (.ref p0)])) _
    refine XS.iconst X4.here hx rfl (hb hby d2_17) ?_
    show Steps p.tables e below (T4.setTop (mkF m 18 #[.val (.ref p0), .val (.int (0 : Int32)), .val (.long p2), .second, .val (.int p3), .val (.int p4), .val (.int v6_6), .unset] [(.int (2 : Int32)), (.int ((0 : Int32) + (1 : Int32))), (.ref p0)])) _
    refine XS.iload X4.here hx rfl (hb hby d2_18) rfl  ?_
    show Steps p.tables e below (T4.setTop (mkF m 20 #[.val (.ref p0), .val (.int (0 : Int32)), .val (.long p2), .second, .val (.int p3), .val (.int p4), .val (.int v6_6), .unset] [(.int v6_6), (.int (2 : Int32)), (.int ((0 : Int32) + (1 : Int32))), (.ref p0)])) _
    refine XS.sipush X4.here hx rfl (hb hby d2_20) ?_
    show Steps p.tables e below (T4.setTop (mkF m 23 #[.val (.ref p0), .val (.int (0 : Int32)), .val (.long p2), .second, .val (.int p3), .val (.int p4), .val (.int v6_6), .unset] [(.int (3600 : Int32)), (.int v6_6), (.int (2 : Int32)), (.int ((0 : Int32) + (1 : Int32))), (.ref p0)])) _
    refine XS.idiv X4.here hx rfl (hb hby d2_23) rfl (by decide) ?_
    exact k
  obtain ⟨_, _, ⟨T5, L5, k5, n5⟩, -, X5, ⟨Lc5, hQ5, l5, y5, z5⟩, st5⟩ := Jvm.LawKit.callS X4 hx (y := (⟨"com/example/dayt/dayt/text/TextForm", "putDigits", "([BIII)V"⟩ : MethodName)) hown (mvT hZ (hw _ (List.mem_of_getElem? (i := 18) rfl))) (mvT hZ (hw _ (List.mem_of_getElem? (i := 19) rfl))) (mvT hZ (hw _ (List.mem_of_getElem? (i := 3) rfl))) (mvT hZ (hw _ (List.mem_of_getElem? (i := 20) rfl))) (by decide) (backOf (W := 0) (rm_5 l Z a0 hw [] p0 ((0 : Int32) + (1 : Int32)) (2 : Int32) (v6_6 / (3600 : Int32)) 32 g_12 h4 n0 Z4 A4 ge_p0 (by decide)) hZ (hw _ (List.mem_of_getElem? (i := 20) rfl)) (hw _ (List.mem_of_getElem? (i := 3) rfl)) (by decide) (by decide)) (g := (mkF m 24 #[.val (.ref p0), .val (.int (0 : Int32)), .val (.long p2), .second, .val (.int p3), .val (.int p4), .val (.int v6_6), .unset] [(.int (v6_6 / (3600 : Int32))), (.int (2 : Int32)), (.int ((0 : Int32) + (1 : Int32))), (.ref p0)])) rfl (by rw [hml]; rfl) (argsL := [(.ref p0), (.int ((0 : Int32) + (1 : Int32))), (.int (2 : Int32)), (.int (v6_6 / (3600 : Int32)))]) (rest := []) (lenOf pd_2 rfl) rfl (by show 2 * 0 + _ ≤ _; exact Nat.le_of_eq rfl) (hb hby d2_24) (fun _ _ => ⟨rfl, e4, (by decide : 0 + 0 ≤ _), (by decide : 0 + 0 ≤ _)⟩)
  dsimp only [Pt.U, Pt.locs, Pt.cells, Pt.slots] at X5 l5 y5 z5 st5 hQ5
  rw [l5, y5, z5] at X5
  obtain ⟨rfl, N5q, Kc5, Q5_0⟩ := hQ5
  have Kd5 : Keep h4 T5.heap [p0] := Kc5
  have sta_com_example_dayt_dayt_text_TextForm_NANOS_PER_FRACTION_UNIT_5 := own_sta_keep sta_com_example_dayt_dayt_text_TextForm_NANOS_PER_FRACTION_UNIT_4 Kd5 (allS (own_A_plain A4) all0)
  have arr_an_5 := arr_an_4.keep Kd5 (ninS ne_an_p0 nin0)
  have K5 := K4.trans Kd5 (allS (Or.inl (List.mem_of_getElem? (i := 0) rfl)) all0)
  have Z5 := Nat.le_trans Z4 Kd5.1
  have N5 := Fr.app N4 N5q
  have pre7 : ∀ t, Steps p.tables e below (T5.setTop (mkF m 33 #[.val (.ref p0), .val (.int (0 : Int32)), .val (.long p2), .second, .val (.int p3), .val (.int p4), .val (.int v6_6), .unset] [(.int (58 : Int32)), (.int ((0 : Int32) + (3 : Int32))), (.ref p0)])) t → Steps p.tables e below (s₁.setTop (entryFrame m #[(.ref p0), (.int (0 : Int32)), (.long p2), (.int p3), (.int p4)] 8)) t := by
    intro t k
    refine pre6 t ?_
    show Steps p.tables e below (T4.setTop (mkF m 24 #[.val (.ref p0), .val (.int (0 : Int32)), .val (.long p2), .second, .val (.int p3), .val (.int p4), .val (.int v6_6), .unset] [(.int (v6_6 / (3600 : Int32))), (.int (2 : Int32)), (.int ((0 : Int32) + (1 : Int32))), (.ref p0)])) _
    refine st5 _ ?_
    show Steps p.tables e below (T5.setTop (mkF m 27 #[.val (.ref p0), .val (.int (0 : Int32)), .val (.long p2), .second, .val (.int p3), .val (.int p4), .val (.int v6_6), .unset] [])) _
    refine XS.aloadN X5.here hx rfl (hb hby d2_27) rfl rfl ?_
    show Steps p.tables e below (T5.setTop (mkF m 28 #[.val (.ref p0), .val (.int (0 : Int32)), .val (.long p2), .second, .val (.int p3), .val (.int p4), .val (.int v6_6), .unset] [(.ref p0)])) _
    refine XS.iloadN X5.here hx rfl (hb hby d2_28) rfl  ?_
    show Steps p.tables e below (T5.setTop (mkF m 29 #[.val (.ref p0), .val (.int (0 : Int32)), .val (.long p2), .second, .val (.int p3), .val (.int p4), .val (.int v6_6), .unset] [(.int (0 : Int32)), (.ref p0)])) _
    refine XS.iconst X5.here hx rfl (hb hby d2_29) ?_
    show Steps p.tables e below (T5.setTop (mkF m 30 #[.val (.ref p0), .val (.int (0 : Int32)), .val (.long p2), .second, .val (.int p3), .val (.int p4), .val (.int v6_6), .unset] [(.int (3 : Int32)), (.int (0 : Int32)), (.ref p0)])) _
    refine XS.iadd X5.here hx rfl (hb hby d2_30) rfl ?_
    show Steps p.tables e below (T5.setTop (mkF m 31 #[.val (.ref p0), .val (.int (0 : Int32)), .val (.long p2), .second, .val (.int p3), .val (.int p4), .val (.int v6_6), .unset] [(.int ((0 : Int32) + (3 : Int32))), (.ref p0)])) _
    refine XS.bipush X5.here hx rfl (hb hby d2_31) ?_
    exact k
  obtain ⟨T8, h8, X8, e8, W8, A8, st8⟩ := own_stB X5 hx hZ rfl Q5_0 (j := ((0 : Int32) + (3 : Int32))) (x := (58 : Int32)) (k := 3) (by decide) (by decide) (by decide) (g := (mkF m 33 #[.val (.ref p0), .val (.int (0 : Int32)), .val (.long p2), .second, .val (.int p3), .val (.int p4), .val (.int v6_6), .unset] [(.int (58 : Int32)), (.int ((0 : Int32) + (3 : Int32))), (.ref p0)])) rfl rfl (hb hby d2_33)
  obtain ⟨g_33, hg_33⟩ : ∃ z : Nat → Int32, z = (own_upd (own_put g_12 ((0 : Int32) + (1 : Int32)).toNatClampNeg (2 : Int32).toNatClampNeg (v6_6 / (3600 : Int32))) 3 (58 : Int32).toInt8.toInt32) := ⟨_, rfl⟩
  rw [← hg_33] at A8
  have sta_com_example_dayt_dayt_text_TextForm_NANOS_PER_FRACTION_UNIT_8 := sta_com_example_dayt_dayt_text_TextForm_NANOS_PER_FRACTION_UNIT_5.wr W8
  have arr_an_8 := arr_an_5.other W8 ne_an_p0
  have K8 := K5.wr W8 (Or.inl (List.mem_of_getElem? (i := 0) rfl))
  have Z8 := Nat.le_trans Z5 (Nat.le_of_eq W8.size.symm)
  have N8 := Fr.snoc X8 N5 ge_p0
  have pre10 : ∀ t, Steps p.tables e below (T8.setTop (mkF m 47 #[.val (.ref p0), .val (.int (0 : Int32)), .val (.long p2), .second, .val (.int p3), .val (.int p4), .val (.int v6_6), .unset] [(.int ((v6_6 / (60 : Int32)) % (60 : Int32))), (.int (2 : Int32)), (.int ((0 : Int32) + (4 : Int32))), (.ref p0)])) t → Steps p.tables e below (s₁.setTop (entryFrame m #[(.ref p0), (.int (0 : Int32)), (.long p2), (.int p3), (.int p4)] 8)) t := by
    intro t k
    refine pre7 t ?_
    show Steps p.tables e below (T5.setTop (mkF m 33 #[.val (.ref p0), .val (.int (0 : Int32)), .val (.long p2), .second, .val (.int p3), .val (.int p4), .val (.int v6_6), .unset] [(.int (58 : Int32)), (.int ((0 : Int32) + (3 : Int32))), (.ref p0)])) _
    refine st8 _ ?_
    show Steps p.tables e below (T8.setTop (mkF m 34 #[.val (.ref p0), .val (.int (0 : Int32)), .val (.long p2), .second, .val (.int p3), .val (.int p4), .val (.int v6_6), .unset] [])) _
    refine XS.aloadN X8.here hx rfl (hb hby d2_34) rfl rfl ?_
    show Steps p.tables e below (T8.setTop (mkF m 35 #[.val (.ref p0), .val (.int (0 : Int32)), .val (.long p2), .second, .val (.int p3), .val (.int p4), .val (.int v6_6), .unset] [(.ref p0)])) _
    refine XS.iloadN X8.here hx rfl (hb hby d2_35) rfl  ?_
    show Steps p.tables e below (T8.setTop (mkF m 36 #[.val (.ref p0), .val (.int (0 : Int32)), .val (.long p2), .second, .val (.int p3), .val (.int p4), .val (.int v6_6), .unset] [(.int (0 : Int32)), (.ref p0)])) _
    refine XS.iconst X8.here hx rfl (hb hby d2_36) ?_
    show Steps p.tables e below (T8.setTop (mkF m 37 #[.val (.ref p0), .val (.int (0 : Int32)), .val (.long p2), .second, .val (.int p3), .val (.int p4), .val (.int v6_6), .unset] [(.int (4 : Int32)), (.int (0 : Int32)), (.ref p0)])) _
    refine XS.iadd X8.here hx rfl (hb hby d2_37) rfl ?_
    show Steps p.tables e below (T8.setTop (mkF m 38 #[.val (.ref p0), .val (.int (0 : Int32)), .val (.long p2), .second, .val (.int p3), .val (.int p4), .val (.int v6_6), .unset] [(.int ((0 : Int32) + (4 : Int32))), (.ref p0)])) _
    refine XS.iconst X8.here hx rfl (hb hby d2_38) ?_
    show Steps p.tables e below (T8.setTop (mkF m 39 #[.val (.ref p0), .val (.int (0 : Int32)), .val (.long p2), .second, .val (.int p3), .val (.int p4), .val (.int v6_6), .unset] [(.int (2 : Int32)), (.int ((0 : Int32) + (4 : Int32))), (.ref p0)])) _
    refine XS.iload X8.here hx rfl (hb hby d2_39) rfl  ?_
    show Steps p.tables e below (T8.setTop (mkF m 41 #[.val (.ref p0), .val (.int (0 : Int32)), .val (.long p2), .second, .val (.int p3), .val (.int p4), .val (.int v6_6), .unset] [(.int v6_6), (.int (2 : Int32)), (.int ((0 : Int32) + (4 : Int32))), (.ref p0)])) _
    refine XS.bipush X8.here hx rfl (hb hby d2_41) ?_
    show Steps p.tables e below (T8.setTop (mkF m 43 #[.val (.ref p0), .val (.int (0 : Int32)), .val (.long p2), .second, .val (.int p3), .val (.int p4), .val (.int v6_6), .unset] [(.int (60 : Int32)), (.int v6_6), (.int (2 : Int32)), (.int ((0 : Int32) + (4 : Int32))), (.ref p0)])) _
    refine XS.idiv X8.here hx rfl (hb hby d2_43) rfl (by decide) ?_
    show Steps p.tables e below (T8.setTop (mkF m 44 #[.val (.ref p0), .val (.int (0 : Int32)), .val (.long p2), .second, .val (.int p3), .val (.int p4), .val (.int v6_6), .unset] [(.int (v6_6 / (60 : Int32))), (.int (2 : Int32)), (.int ((0 : Int32) + (4 : Int32))), (.ref p0)])) _
    refine XS.bipush X8.here hx rfl (hb hby d2_44) ?_
    show Steps p.tables e below (T8.setTop (mkF m 46 #[.val (.ref p0), .val (.int (0 : Int32)), .val (.long p2), .second, .val (.int p3), .val (.int p4), .val (.int v6_6), .unset] [(.int (60 : Int32)), (.int (v6_6 / (60 : Int32))), (.int (2 : Int32)), (.int ((0 : Int32) + (4 : Int32))), (.ref p0)])) _
    refine iremM X8 hx rfl (hb hby d2_46) rfl (by decide) ?_
    exact k
  obtain ⟨_, _, ⟨T9, L9, k9, n9⟩, -, X9, ⟨Lc9, hQ9, l9, y9, z9⟩, st9⟩ := Jvm.LawKit.callS X8 hx (y := (⟨"com/example/dayt/dayt/text/TextForm", "putDigits", "([BIII)V"⟩ : MethodName)) hown (mvT hZ (hw _ (List.mem_of_getElem? (i := 18) rfl))) (mvT hZ (hw _ (List.mem_of_getElem? (i := 19) rfl))) (mvT hZ (hw _ (List.mem_of_getElem? (i := 3) rfl))) (mvT hZ (hw _ (List.mem_of_getElem? (i := 20) rfl))) (by decide) (backOf (W := 0) (rm_5 l Z a0 hw [] p0 ((0 : Int32) + (4 : Int32)) (2 : Int32) ((v6_6 / (60 : Int32)) % (60 : Int32)) 32 g_33 h8 n0 Z8 A8 ge_p0 (by decide)) hZ (hw _ (List.mem_of_getElem? (i := 20) rfl)) (hw _ (List.mem_of_getElem? (i := 3) rfl)) (by decide) (by decide)) (g := (mkF m 47 #[.val (.ref p0), .val (.int (0 : Int32)), .val (.long p2), .second, .val (.int p3), .val (.int p4), .val (.int v6_6), .unset] [(.int ((v6_6 / (60 : Int32)) % (60 : Int32))), (.int (2 : Int32)), (.int ((0 : Int32) + (4 : Int32))), (.ref p0)])) rfl (by rw [hml]; rfl) (argsL := [(.ref p0), (.int ((0 : Int32) + (4 : Int32))), (.int (2 : Int32)), (.int ((v6_6 / (60 : Int32)) % (60 : Int32)))]) (rest := []) (lenOf pd_2 rfl) rfl (by show 2 * 0 + _ ≤ _; exact Nat.le_of_eq rfl) (hb hby d2_47) (fun _ _ => ⟨rfl, e8, (by decide : 0 + 0 ≤ _), (by decide : 0 + 0 ≤ _)⟩)
  dsimp only [Pt.U, Pt.locs, Pt.cells, Pt.slots] at X9 l9 y9 z9 st9 hQ9
  rw [l9, y9, z9] at X9
  obtain ⟨rfl, N9q, Kc9, Q9_0⟩ := hQ9
  have Kd9 : Keep h8 T9.heap [p0] := Kc9
  have sta_com_example_dayt_dayt_text_TextForm_NANOS_PER_FRACTION_UNIT_9 := own_sta_keep sta_com_example_dayt_dayt_text_TextForm_NANOS_PER_FRACTION_UNIT_8 Kd9 (allS (own_A_plain A8) all0)
  have arr_an_9 := arr_an_8.keep Kd9 (ninS ne_an_p0 nin0)
  have K9 := K8.trans Kd9 (allS (Or.inl (List.mem_of_getElem? (i := 0) rfl)) all0)
  have Z9 := Nat.le_trans Z8 Kd9.1
  have N9 := Fr.app N8 N9q
  have pre11 : ∀ t, Steps p.tables e below (T9.setTop (mkF m 57 #[.val (.ref p0), .val (.int (0 : Int32)), .val (.long p2), .second, .val (.int p3), .val (.int p4), .val (.int v6_6), .unset] [(.int (58 : Int32)), (.int ((0 : Int32) + (6 : Int32))), (.ref p0)])) t → Steps p.tables e below (s₁.setTop (entryFrame m #[(.ref p0), (.int (0 : Int32)), (.long p2), (.int p3), (.int p4)] 8)) t := by
    intro t k
    refine pre10 t ?_
    show Steps p.tables e below (T8.setTop (mkF m 47 #[.val (.ref p0), .val (.int (0 : Int32)), .val (.long p2), .second, .val (.int p3), .val (.int p4), .val (.int v6_6), .unset] [(.int ((v6_6 / (60 : Int32)) % (60 : Int32))), (.int (2 : Int32)), (.int ((0 : Int32) + (4 : Int32))), (.ref p0)])) _
    refine st9 _ ?_
    show Steps p.tables e below (T9.setTop (mkF m 50 #[.val (.ref p0), .val (.int (0 : Int32)), .val (.long p2), .second, .val (.int p3), .val (.int p4), .val (.int v6_6), .unset] [])) _
    refine XS.aloadN X9.here hx rfl (hb hby d2_50) rfl rfl ?_
    show Steps p.tables e below (T9.setTop (mkF m 51 #[.val (.ref p0), .val (.int (0 : Int32)), .val (.long p2), .second, .val (.int p3), .val (.int p4), .val (.int v6_6), .unset] [(.ref p0)])) _
    refine XS.iloadN X9.here hx rfl (hb hby d2_51) rfl  ?_
    show Steps p.tables e below (T9.setTop (mkF m 52 #[.val (.ref p0), .val (.int (0 : Int32)), .val (.long p2), .second, .val (.int p3), .val (.int p4), .val (.int v6_6), .unset] [(.int (0 : Int32)), (.ref p0)])) _
    refine XS.bipush X9.here hx rfl (hb hby d2_52) ?_
    show Steps p.tables e below (T9.setTop (mkF m 54 #[.val (.ref p0), .val (.int (0 : Int32)), .val (.long p2), .second, .val (.int p3), .val (.int p4), .val (.int v6_6), .unset] [(.int (6 : Int32)), (.int (0 : Int32)), (.ref p0)])) _
    refine XS.iadd X9.here hx rfl (hb hby d2_54) rfl ?_
    show Steps p.tables e below (T9.setTop (mkF m 55 #[.val (.ref p0), .val (.int (0 : Int32)), .val (.long p2), .second, .val (.int p3), .val (.int p4), .val (.int v6_6), .unset] [(.int ((0 : Int32) + (6 : Int32))), (.ref p0)])) _
    refine XS.bipush X9.here hx rfl (hb hby d2_55) ?_
    exact k
  obtain ⟨T12, h12, X12, e12, W12, A12, st12⟩ := own_stB X9 hx hZ rfl Q9_0 (j := ((0 : Int32) + (6 : Int32))) (x := (58 : Int32)) (k := 6) (by decide) (by decide) (by decide) (g := (mkF m 57 #[.val (.ref p0), .val (.int (0 : Int32)), .val (.long p2), .second, .val (.int p3), .val (.int p4), .val (.int v6_6), .unset] [(.int (58 : Int32)), (.int ((0 : Int32) + (6 : Int32))), (.ref p0)])) rfl rfl (hb hby d2_57)
  obtain ⟨g_57, hg_57⟩ : ∃ z : Nat → Int32, z = (own_upd (own_put g_33 ((0 : Int32) + (4 : Int32)).toNatClampNeg (2 : Int32).toNatClampNeg ((v6_6 / (60 : Int32)) % (60 : Int32))) 6 (58 : Int32).toInt8.toInt32) := ⟨_, rfl⟩
  rw [← hg_57] at A12
  have sta_com_example_dayt_dayt_text_TextForm_NANOS_PER_FRACTION_UNIT_12 := sta_com_example_dayt_dayt_text_TextForm_NANOS_PER_FRACTION_UNIT_9.wr W12
  have arr_an_12 := arr_an_9.other W12 ne_an_p0
  have K12 := K9.wr W12 (Or.inl (List.mem_of_getElem? (i := 0) rfl))
  have Z12 := Nat.le_trans Z9 (Nat.le_of_eq W12.size.symm)
  have N12 := Fr.snoc X12 N9 ge_p0
  have pre14 : ∀ t, Steps p.tables e below (T12.setTop (mkF m 69 #[.val (.ref p0), .val (.int (0 : Int32)), .val (.long p2), .second, .val (.int p3), .val (.int p4), .val (.int v6_6), .unset] [(.int (v6_6 % (60 : Int32))), (.int (2 : Int32)), (.int ((0 : Int32) + (7 : Int32))), (.ref p0)])) t → Steps p.tables e below (s₁.setTop (entryFrame m #[(.ref p0), (.int (0 : Int32)), (.long p2), (.int p3), (.int p4)] 8)) t := by
    intro t k
    refine pre11 t ?_
    show Steps p.tables e below (T9.setTop (mkF m 57 #[.val (.ref p0), .val (.int (0 : Int32)), .val (.long p2), .second, .val (.int p3), .val (.int p4), .val (.int v6_6), .unset] [(.int (58 : Int32)), (.int ((0 : Int32) + (6 : Int32))), (.ref p0)])) _
    refine st12 _ ?_
    show Steps p.tables e below (T12.setTop (mkF m 58 #[.val (.ref p0), .val (.int (0 : Int32)), .val (.long p2), .second, .val (.int p3), .val (.int p4), .val (.int v6_6), .unset] [])) _
    refine XS.aloadN X12.here hx rfl (hb hby d2_58) rfl rfl ?_
    show Steps p.tables e below (T12.setTop (mkF m 59 #[.val (.ref p0), .val (.int (0 : Int32)), .val (.long p2), .second, .val (.int p3), .val (.int p4), .val (.int v6_6), .unset] [(.ref p0)])) _
    refine XS.iloadN X12.here hx rfl (hb hby d2_59) rfl  ?_
    show Steps p.tables e below (T12.setTop (mkF m 60 #[.val (.ref p0), .val (.int (0 : Int32)), .val (.long p2), .second, .val (.int p3), .val (.int p4), .val (.int v6_6), .unset] [(.int (0 : Int32)), (.ref p0)])) _
    refine XS.bipush X12.here hx rfl (hb hby d2_60) ?_
    show Steps p.tables e below (T12.setTop (mkF m 62 #[.val (.ref p0), .val (.int (0 : Int32)), .val (.long p2), .second, .val (.int p3), .val (.int p4), .val (.int v6_6), .unset] [(.int (7 : Int32)), (.int (0 : Int32)), (.ref p0)])) _
    refine XS.iadd X12.here hx rfl (hb hby d2_62) rfl ?_
    show Steps p.tables e below (T12.setTop (mkF m 63 #[.val (.ref p0), .val (.int (0 : Int32)), .val (.long p2), .second, .val (.int p3), .val (.int p4), .val (.int v6_6), .unset] [(.int ((0 : Int32) + (7 : Int32))), (.ref p0)])) _
    refine XS.iconst X12.here hx rfl (hb hby d2_63) ?_
    show Steps p.tables e below (T12.setTop (mkF m 64 #[.val (.ref p0), .val (.int (0 : Int32)), .val (.long p2), .second, .val (.int p3), .val (.int p4), .val (.int v6_6), .unset] [(.int (2 : Int32)), (.int ((0 : Int32) + (7 : Int32))), (.ref p0)])) _
    refine XS.iload X12.here hx rfl (hb hby d2_64) rfl  ?_
    show Steps p.tables e below (T12.setTop (mkF m 66 #[.val (.ref p0), .val (.int (0 : Int32)), .val (.long p2), .second, .val (.int p3), .val (.int p4), .val (.int v6_6), .unset] [(.int v6_6), (.int (2 : Int32)), (.int ((0 : Int32) + (7 : Int32))), (.ref p0)])) _
    refine XS.bipush X12.here hx rfl (hb hby d2_66) ?_
    show Steps p.tables e below (T12.setTop (mkF m 68 #[.val (.ref p0), .val (.int (0 : Int32)), .val (.long p2), .second, .val (.int p3), .val (.int p4), .val (.int v6_6), .unset] [(.int (60 : Int32)), (.int v6_6), (.int (2 : Int32)), (.int ((0 : Int32) + (7 : Int32))), (.ref p0)])) _
    refine iremM X12 hx rfl (hb hby d2_68) rfl (by decide) ?_
    exact k
  obtain ⟨_, _, ⟨T13, L13, k13, n13⟩, -, X13, ⟨Lc13, hQ13, l13, y13, z13⟩, st13⟩ := Jvm.LawKit.callS X12 hx (y := (⟨"com/example/dayt/dayt/text/TextForm", "putDigits", "([BIII)V"⟩ : MethodName)) hown (mvT hZ (hw _ (List.mem_of_getElem? (i := 18) rfl))) (mvT hZ (hw _ (List.mem_of_getElem? (i := 19) rfl))) (mvT hZ (hw _ (List.mem_of_getElem? (i := 3) rfl))) (mvT hZ (hw _ (List.mem_of_getElem? (i := 20) rfl))) (by decide) (backOf (W := 0) (rm_5 l Z a0 hw [] p0 ((0 : Int32) + (7 : Int32)) (2 : Int32) (v6_6 % (60 : Int32)) 32 g_57 h12 n0 Z12 A12 ge_p0 (by decide)) hZ (hw _ (List.mem_of_getElem? (i := 20) rfl)) (hw _ (List.mem_of_getElem? (i := 3) rfl)) (by decide) (by decide)) (g := (mkF m 69 #[.val (.ref p0), .val (.int (0 : Int32)), .val (.long p2), .second, .val (.int p3), .val (.int p4), .val (.int v6_6), .unset] [(.int (v6_6 % (60 : Int32))), (.int (2 : Int32)), (.int ((0 : Int32) + (7 : Int32))), (.ref p0)])) rfl (by rw [hml]; rfl) (argsL := [(.ref p0), (.int ((0 : Int32) + (7 : Int32))), (.int (2 : Int32)), (.int (v6_6 % (60 : Int32)))]) (rest := []) (lenOf pd_2 rfl) rfl (by show 2 * 0 + _ ≤ _; exact Nat.le_of_eq rfl) (hb hby d2_69) (fun _ _ => ⟨rfl, e12, (by decide : 0 + 0 ≤ _), (by decide : 0 + 0 ≤ _)⟩)
  dsimp only [Pt.U, Pt.locs, Pt.cells, Pt.slots] at X13 l13 y13 z13 st13 hQ13
  rw [l13, y13, z13] at X13
  obtain ⟨rfl, N13q, Kc13, Q13_0⟩ := hQ13
  have Kd13 : Keep h12 T13.heap [p0] := Kc13
  have sta_com_example_dayt_dayt_text_TextForm_NANOS_PER_FRACTION_UNIT_13 := own_sta_keep sta_com_example_dayt_dayt_text_TextForm_NANOS_PER_FRACTION_UNIT_12 Kd13 (allS (own_A_plain A12) all0)
  have arr_an_13 := arr_an_12.keep Kd13 (ninS ne_an_p0 nin0)
  have K13 := K12.trans Kd13 (allS (Or.inl (List.mem_of_getElem? (i := 0) rfl)) all0)
  have Z13 := Nat.le_trans Z12 Kd13.1
  have N13 := Fr.app N12 N13q
  have pre15 : ∀ t, Steps p.tables e below (T13.setTop (mkF m 74 #[.val (.ref p0), .val (.int (0 : Int32)), .val (.long p2), .second, .val (.int p3), .val (.int p4), .val (.int v6_6), .unset] [(.int p4)])) t → Steps p.tables e below (s₁.setTop (entryFrame m #[(.ref p0), (.int (0 : Int32)), (.long p2), (.int p3), (.int p4)] 8)) t := by
    intro t k
    refine pre14 t ?_
    show Steps p.tables e below (T12.setTop (mkF m 69 #[.val (.ref p0), .val (.int (0 : Int32)), .val (.long p2), .second, .val (.int p3), .val (.int p4), .val (.int v6_6), .unset] [(.int (v6_6 % (60 : Int32))), (.int (2 : Int32)), (.int ((0 : Int32) + (7 : Int32))), (.ref p0)])) _
    refine st13 _ ?_
    show Steps p.tables e below (T13.setTop (mkF m 72 #[.val (.ref p0), .val (.int (0 : Int32)), .val (.long p2), .second, .val (.int p3), .val (.int p4), .val (.int v6_6), .unset] [])) _
    refine XS.iload X13.here hx rfl (hb hby d2_72) rfl  ?_
    exact k
  obtain ⟨mg_p0_104, hmg_p0_104⟩ : ∃ z : Nat → Int32, z = (if (0 : Int32) < p4 then (own_put (own_upd (own_put g_57 ((0 : Int32) + (7 : Int32)).toNatClampNeg (2 : Int32).toNatClampNeg (v6_6 % (60 : Int32))) 9 (46 : Int32).toInt8.toInt32) ((0 : Int32) + (10 : Int32)).toNatClampNeg p4.toNatClampNeg (p3 / (gn p4.toNatClampNeg))) else (own_put g_57 ((0 : Int32) + (7 : Int32)).toNatClampNeg (2 : Int32).toNatClampNeg (v6_6 % (60 : Int32)))) := ⟨_, rfl⟩
  obtain ⟨T16, h16, lc16, X16, e16, N16, K16, Z16, sta_com_example_dayt_dayt_text_TextForm_NANOS_PER_FRACTION_UNIT_16, arr_an_16, arr_p0_16, pre16⟩ : ∃ (T' : State) (h' : Heap) (lc : List Loc), Stand p l e ({ frames := 2, cells := 0, slots := 0, locals := 31 } : Room) s m #[(.ref p0), (.int (0 : Int32)), (.long p2), (.int p3), (.int p4)] below meth c T' lc 0 0 ∧ T'.heap = h' ∧ Fr n0 lc ∧ Keep h0 h' [p0] ∧ n0 ≤ h'.size ∧ Sta Z h' "com/example/dayt/dayt/text/TextForm" "NANOS_PER_FRACTION_UNIT" "[I" (.ref an) ∧ own_A Z h' an .int 10 (fun i => .int (gn i)) ∧ own_A Z h' p0 .byte 32 (fun i => .int (mg_p0_104 i)) ∧ (∀ t, Steps p.tables e below (T'.setTop (mkF m 104 #[.val (.ref p0), .val (.int (0 : Int32)), .val (.long p2), .second, .val (.int p3), .val (.int p4), .val (.int v6_6), .unset] [])) t → Steps p.tables e below (s₁.setTop (entryFrame m #[(.ref p0), (.int (0 : Int32)), (.long p2), (.int p3), (.int p4)] 8)) t) := by
    by_cases hc74 : (0 : Int32) < p4
    · have pre17 : ∀ t, Steps p.tables e below (T13.setTop (mkF m 84 #[.val (.ref p0), .val (.int (0 : Int32)), .val (.long p2), .second, .val (.int p3), .val (.int p4), .val (.int v6_6), .unset] [(.int (46 : Int32)), (.int ((0 : Int32) + (9 : Int32))), (.ref p0)])) t → Steps p.tables e below (s₁.setTop (entryFrame m #[(.ref p0), (.int (0 : Int32)), (.long p2), (.int p3), (.int p4)] 8)) t := by
        intro t k
        refine pre15 t ?_
        show Steps p.tables e below (T13.setTop (mkF m 74 #[.val (.ref p0), .val (.int (0 : Int32)), .val (.long p2), .second, .val (.int p3), .val (.int p4), .val (.int v6_6), .unset] [(.int p4)])) _
        refine XS.ifNo X13.here hx rfl (hb hby d2_74) rfl ((if0 _ _).trans (tlt hc74).2.2.2) ?_
        show Steps p.tables e below (T13.setTop (mkF m 77 #[.val (.ref p0), .val (.int (0 : Int32)), .val (.long p2), .second, .val (.int p3), .val (.int p4), .val (.int v6_6), .unset] [])) _
        refine XS.aloadN X13.here hx rfl (hb hby d2_77) rfl rfl ?_
        show Steps p.tables e below (T13.setTop (mkF m 78 #[.val (.ref p0), .val (.int (0 : Int32)), .val (.long p2), .second, .val (.int p3), .val (.int p4), .val (.int v6_6), .unset] [(.ref p0)])) _
        refine XS.iloadN X13.here hx rfl (hb hby d2_78) rfl  ?_
        show Steps p.tables e below (T13.setTop (mkF m 79 #[.val (.ref p0), .val (.int (0 : Int32)), .val (.long p2), .second, .val (.int p3), .val (.int p4), .val (.int v6_6), .unset] [(.int (0 : Int32)), (.ref p0)])) _
        refine XS.bipush X13.here hx rfl (hb hby d2_79) ?_
        show Steps p.tables e below (T13.setTop (mkF m 81 #[.val (.ref p0), .val (.int (0 : Int32)), .val (.long p2), .second, .val (.int p3), .val (.int p4), .val (.int v6_6), .unset] [(.int (9 : Int32)), (.int (0 : Int32)), (.ref p0)])) _
        refine XS.iadd X13.here hx rfl (hb hby d2_81) rfl ?_
        show Steps p.tables e below (T13.setTop (mkF m 82 #[.val (.ref p0), .val (.int (0 : Int32)), .val (.long p2), .second, .val (.int p3), .val (.int p4), .val (.int v6_6), .unset] [(.int ((0 : Int32) + (9 : Int32))), (.ref p0)])) _
        refine XS.bipush X13.here hx rfl (hb hby d2_82) ?_
        exact k
      obtain ⟨T18, h18, X18, e18, W18, A18, st18⟩ := own_stB X13 hx hZ rfl Q13_0 (j := ((0 : Int32) + (9 : Int32))) (x := (46 : Int32)) (k := 9) (by decide) (by decide) (by decide) (g := (mkF m 84 #[.val (.ref p0), .val (.int (0 : Int32)), .val (.long p2), .second, .val (.int p3), .val (.int p4), .val (.int v6_6), .unset] [(.int (46 : Int32)), (.int ((0 : Int32) + (9 : Int32))), (.ref p0)])) rfl rfl (hb hby d2_84)
      have sta_com_example_dayt_dayt_text_TextForm_NANOS_PER_FRACTION_UNIT_18 := sta_com_example_dayt_dayt_text_TextForm_NANOS_PER_FRACTION_UNIT_13.wr W18
      have arr_an_18 := arr_an_13.other W18 ne_an_p0
      have K18 := K13.wr W18 (Or.inl (List.mem_of_getElem? (i := 0) rfl))
      have Z18 := Nat.le_trans Z13 (Nat.le_of_eq W18.size.symm)
      have N18 := Fr.snoc X18 N13 ge_p0
      have pre19 : ∀ t, Steps p.tables e below (T18.setTop (mkF m 94 #[.val (.ref p0), .val (.int (0 : Int32)), .val (.long p2), .second, .val (.int p3), .val (.int p4), .val (.int v6_6), .unset] [(.int p3), (.int p4), (.int ((0 : Int32) + (10 : Int32))), (.ref p0)])) t → Steps p.tables e below (s₁.setTop (entryFrame m #[(.ref p0), (.int (0 : Int32)), (.long p2), (.int p3), (.int p4)] 8)) t := by
        intro t k
        refine pre17 t ?_
        show Steps p.tables e below (T13.setTop (mkF m 84 #[.val (.ref p0), .val (.int (0 : Int32)), .val (.long p2), .second, .val (.int p3), .val (.int p4), .val (.int v6_6), .unset] [(.int (46 : Int32)), (.int ((0 : Int32) + (9 : Int32))), (.ref p0)])) _
        refine st18 _ ?_
        show Steps p.tables e below (T18.setTop (mkF m 85 #[.val (.ref p0), .val (.int (0 : Int32)), .val (.long p2), .second, .val (.int p3), .val (.int p4), .val (.int v6_6), .unset] [])) _
        refine XS.aloadN X18.here hx rfl (hb hby d2_85) rfl rfl ?_
        show Steps p.tables e below (T18.setTop (mkF m 86 #[.val (.ref p0), .val (.int (0 : Int32)), .val (.long p2), .second, .val (.int p3), .val (.int p4), .val (.int v6_6), .unset] [(.ref p0)])) _
        refine XS.iloadN X18.here hx rfl (hb hby d2_86) rfl  ?_
        show Steps p.tables e below (T18.setTop (mkF m 87 #[.val (.ref p0), .val (.int (0 : Int32)), .val (.long p2), .second, .val (.int p3), .val (.int p4), .val (.int v6_6), .unset] [(.int (0 : Int32)), (.ref p0)])) _
        refine XS.bipush X18.here hx rfl (hb hby d2_87) ?_
        show Steps p.tables e below (T18.setTop (mkF m 89 #[.val (.ref p0), .val (.int (0 : Int32)), .val (.long p2), .second, .val (.int p3), .val (.int p4), .val (.int v6_6), .unset] [(.int (10 : Int32)), (.int (0 : Int32)), (.ref p0)])) _
        refine XS.iadd X18.here hx rfl (hb hby d2_89) rfl ?_
        show Steps p.tables e below (T18.setTop (mkF m 90 #[.val (.ref p0), .val (.int (0 : Int32)), .val (.long p2), .second, .val (.int p3), .val (.int p4), .val (.int v6_6), .unset] [(.int ((0 : Int32) + (10 : Int32))), (.ref p0)])) _
        refine XS.iload X18.here hx rfl (hb hby d2_90) rfl  ?_
        show Steps p.tables e below (T18.setTop (mkF m 92 #[.val (.ref p0), .val (.int (0 : Int32)), .val (.long p2), .second, .val (.int p3), .val (.int p4), .val (.int v6_6), .unset] [(.int p4), (.int ((0 : Int32) + (10 : Int32))), (.ref p0)])) _
        refine XS.iload X18.here hx rfl (hb hby d2_92) rfl  ?_
        exact k
      obtain ⟨T20, X20, e20, st20⟩ := getS2 X18 hx hZ hown (host := "") (Or.inl (hw _ (List.mem_of_getElem? (i := 22) rfl))) Via.refl e18 sta_com_example_dayt_dayt_text_TextForm_NANOS_PER_FRACTION_UNIT_18 (g := (mkF m 94 #[.val (.ref p0), .val (.int (0 : Int32)), .val (.long p2), .second, .val (.int p3), .val (.int p4), .val (.int v6_6), .unset] [(.int p3), (.int p4), (.int ((0 : Int32) + (10 : Int32))), (.ref p0)])) rfl (hb hby d2_94)
      have pre22 : ∀ t, Steps p.tables e below (T20.setTop (mkF m 101 #[.val (.ref p0), .val (.int (0 : Int32)), .val (.long p2), .second, .val (.int p3), .val (.int p4), .val (.int v6_6), .unset] [(.int (p3 / (gn p4.toNatClampNeg))), (.int p4), (.int ((0 : Int32) + (10 : Int32))), (.ref p0)])) t → Steps p.tables e below (s₁.setTop (entryFrame m #[(.ref p0), (.int (0 : Int32)), (.long p2), (.int p3), (.int p4)] 8)) t := by
        intro t k
        refine pre19 t ?_
        show Steps p.tables e below (T18.setTop (mkF m 94 #[.val (.ref p0), .val (.int (0 : Int32)), .val (.long p2), .second, .val (.int p3), .val (.int p4), .val (.int v6_6), .unset] [(.int p3), (.int p4), (.int ((0 : Int32) + (10 : Int32))), (.ref p0)])) _
        refine st20 _ ?_
        show Steps p.tables e below (T20.setTop (mkF m 97 #[.val (.ref p0), .val (.int (0 : Int32)), .val (.long p2), .second, .val (.int p3), .val (.int p4), .val (.int v6_6), .unset] [(.ref an), (.int p3), (.int p4), (.int ((0 : Int32) + (10 : Int32))), (.ref p0)])) _
        refine XS.iload X20.here hx rfl (hb hby d2_97) rfl  ?_
        show Steps p.tables e below (T20.setTop (mkF m 99 #[.val (.ref p0), .val (.int (0 : Int32)), .val (.long p2), .second, .val (.int p3), .val (.int p4), .val (.int v6_6), .unset] [(.int p4), (.ref an), (.int p3), (.int p4), (.int ((0 : Int32) + (10 : Int32))), (.ref p0)])) _
        refine own_ldI X20 hx hZ e20 arr_an_18 (j := p4) (k := p4.toNatClampNeg) (own_d1 hd).1 rfl (own_d1 hd).2 (g := (mkF m 99 #[.val (.ref p0), .val (.int (0 : Int32)), .val (.long p2), .second, .val (.int p3), .val (.int p4), .val (.int v6_6), .unset] [(.int p4), (.ref an), (.int p3), (.int p4), (.int ((0 : Int32) + (10 : Int32))), (.ref p0)])) rfl rfl (hb hby d2_99) ?_
        show Steps p.tables e below (T20.setTop (mkF m 100 #[.val (.ref p0), .val (.int (0 : Int32)), .val (.long p2), .second, .val (.int p3), .val (.int p4), .val (.int v6_6), .unset] [(.int (gn p4.toNatClampNeg)), (.int p3), (.int p4), (.int ((0 : Int32) + (10 : Int32))), (.ref p0)])) _
        refine XS.idiv X20.here hx rfl (hb hby d2_100) rfl (own_nz (hn _ (own_d1 hd).2)) ?_
        exact k
      obtain ⟨_, _, ⟨T21, L21, k21, n21⟩, -, X21, ⟨Lc21, hQ21, l21, y21, z21⟩, st21⟩ := Jvm.LawKit.callS X20 hx (y := (⟨"com/example/dayt/dayt/text/TextForm", "putDigits", "([BIII)V"⟩ : MethodName)) hown (mvT hZ (hw _ (List.mem_of_getElem? (i := 18) rfl))) (mvT hZ (hw _ (List.mem_of_getElem? (i := 19) rfl))) (mvT hZ (hw _ (List.mem_of_getElem? (i := 3) rfl))) (mvT hZ (hw _ (List.mem_of_getElem? (i := 20) rfl))) (by decide) (backOf (W := 0) (rm_5 l Z a0 hw [] p0 ((0 : Int32) + (10 : Int32)) p4 (p3 / (gn p4.toNatClampNeg)) 32 (own_upd (own_put g_57 ((0 : Int32) + (7 : Int32)).toNatClampNeg (2 : Int32).toNatClampNeg (v6_6 % (60 : Int32))) 9 (46 : Int32).toInt8.toInt32) h18 n0 Z18 A18 ge_p0 (own_h10 hd)) hZ (hw _ (List.mem_of_getElem? (i := 20) rfl)) (hw _ (List.mem_of_getElem? (i := 3) rfl)) (by decide) (by decide)) (g := (mkF m 101 #[.val (.ref p0), .val (.int (0 : Int32)), .val (.long p2), .second, .val (.int p3), .val (.int p4), .val (.int v6_6), .unset] [(.int (p3 / (gn p4.toNatClampNeg))), (.int p4), (.int ((0 : Int32) + (10 : Int32))), (.ref p0)])) rfl (by rw [hml]; rfl) (argsL := [(.ref p0), (.int ((0 : Int32) + (10 : Int32))), (.int p4), (.int (p3 / (gn p4.toNatClampNeg)))]) (rest := []) (lenOf pd_2 rfl) rfl (by show 2 * 0 + _ ≤ _; exact Nat.le_of_eq rfl) (hb hby d2_101) (fun _ _ => ⟨rfl, e20, (by decide : 0 + 0 ≤ _), (by decide : 0 + 0 ≤ _)⟩)
      dsimp only [Pt.U, Pt.locs, Pt.cells, Pt.slots] at X21 l21 y21 z21 st21 hQ21
      rw [l21, y21, z21] at X21
      obtain ⟨rfl, N21q, Kc21, Q21_0⟩ := hQ21
      have Kd21 : Keep h18 T21.heap [p0] := Kc21
      have sta_com_example_dayt_dayt_text_TextForm_NANOS_PER_FRACTION_UNIT_21 := own_sta_keep sta_com_example_dayt_dayt_text_TextForm_NANOS_PER_FRACTION_UNIT_18 Kd21 (allS (own_A_plain A18) all0)
      have arr_an_21 := arr_an_18.keep Kd21 (ninS ne_an_p0 nin0)
      have K21 := K18.trans Kd21 (allS (Or.inl (List.mem_of_getElem? (i := 0) rfl)) all0)
      have Z21 := Nat.le_trans Z18 Kd21.1
      have N21 := Fr.app N18 N21q
      have pre23 : ∀ t, Steps p.tables e below (T21.setTop (mkF m 104 #[.val (.ref p0), .val (.int (0 : Int32)), .val (.long p2), .second, .val (.int p3), .val (.int p4), .val (.int v6_6), .unset] [])) t → Steps p.tables e below (s₁.setTop (entryFrame m #[(.ref p0), (.int (0 : Int32)), (.long p2), (.int p3), (.int p4)] 8)) t := by
        intro t k
        refine pre22 t ?_
        show Steps p.tables e below (T20.setTop (mkF m 101 #[.val (.ref p0), .val (.int (0 : Int32)), .val (.long p2), .second, .val (.int p3), .val (.int p4), .val (.int v6_6), .unset] [(.int (p3 / (gn p4.toNatClampNeg))), (.int p4), (.int ((0 : Int32) + (10 : Int32))), (.ref p0)])) _
        refine st21 _ ?_
        exact k
      have qmg_p0_104 : mg_p0_104 = (own_put (own_upd (own_put g_57 ((0 : Int32) + (7 : Int32)).toNatClampNeg (2 : Int32).toNatClampNeg (v6_6 % (60 : Int32))) 9 (46 : Int32).toInt8.toInt32) ((0 : Int32) + (10 : Int32)).toNatClampNeg p4.toNatClampNeg (p3 / (gn p4.toNatClampNeg))) := by rw [hmg_p0_104, if_pos hc74]
      exact ⟨T21, T21.heap, _, X21, rfl, N21, K21, Z21, (by (try rw [qmg_p0_104]); exact sta_com_example_dayt_dayt_text_TextForm_NANOS_PER_FRACTION_UNIT_21), (by (try rw [qmg_p0_104]); exact arr_an_21), (by (try rw [qmg_p0_104]); exact Q21_0), (by (try rw [qmg_p0_104]); exact pre23)⟩
    · have pre24 : ∀ t, Steps p.tables e below (T13.setTop (mkF m 104 #[.val (.ref p0), .val (.int (0 : Int32)), .val (.long p2), .second, .val (.int p3), .val (.int p4), .val (.int v6_6), .unset] [])) t → Steps p.tables e below (s₁.setTop (entryFrame m #[(.ref p0), (.int (0 : Int32)), (.long p2), (.int p3), (.int p4)] 8)) t := by
        intro t k
        refine pre15 t ?_
        show Steps p.tables e below (T13.setTop (mkF m 74 #[.val (.ref p0), .val (.int (0 : Int32)), .val (.long p2), .second, .val (.int p3), .val (.int p4), .val (.int v6_6), .unset] [(.int p4)])) _
        refine XS.ifYes X13.here hx rfl (pc0 := 74) (pc' := 104) rfl (hb hby d2_74) rfl ((if0 _ _).trans (flt hc74).2.2.2) (by decide) (by decide) ?_
        exact k
      have qmg_p0_104 : mg_p0_104 = (own_put g_57 ((0 : Int32) + (7 : Int32)).toNatClampNeg (2 : Int32).toNatClampNeg (v6_6 % (60 : Int32))) := by rw [hmg_p0_104, if_neg hc74]
      exact ⟨T13, T13.heap, _, X13, rfl, N13, K13, Z13, (by (try rw [qmg_p0_104]); exact sta_com_example_dayt_dayt_text_TextForm_NANOS_PER_FRACTION_UNIT_13), (by (try rw [qmg_p0_104]); exact arr_an_13), (by (try rw [qmg_p0_104]); exact Q13_0), (by (try rw [qmg_p0_104]); exact pre24)⟩
  have pre26 : ∀ t, Steps p.tables e below (T16.setTop (mkF m 107 #[.val (.ref p0), .val (.int (0 : Int32)), .val (.long p2), .second, .val (.int p3), .val (.int p4), .val (.int v6_6), .unset] [(.int p4), (.int (0 : Int32))])) t → Steps p.tables e below (s₁.setTop (entryFrame m #[(.ref p0), (.int (0 : Int32)), (.long p2), (.int p3), (.int p4)] 8)) t := by
    intro t k
    refine pre16 t ?_
    show Steps p.tables e below (T16.setTop (mkF m 104 #[.val (.ref p0), .val (.int (0 : Int32)), .val (.long p2), .second, .val (.int p3), .val (.int p4), .val (.int v6_6), .unset] [])) _
    refine XS.iloadN X16.here hx rfl (hb hby d2_104) rfl  ?_
    show Steps p.tables e below (T16.setTop (mkF m 105 #[.val (.ref p0), .val (.int (0 : Int32)), .val (.long p2), .second, .val (.int p3), .val (.int p4), .val (.int v6_6), .unset] [(.int (0 : Int32))])) _
    refine XS.iload X16.here hx rfl (hb hby d2_105) rfl  ?_
    exact k
  obtain ⟨_, _, ⟨T25, L25, k25, n25⟩, -, X25, ⟨Lc25, hQ25, l25, y25, z25⟩, st25⟩ := Jvm.LawKit.callS X16 hx (y := (⟨"com/example/dayt/dayt/text/TextForm", "timeLength", "(I)I"⟩ : MethodName)) hown (mvT hZ (hw _ (List.mem_of_getElem? (i := 21) rfl))) (mvT hZ (hw _ (List.mem_of_getElem? (i := 2) rfl))) (mvT hZ (hw _ (List.mem_of_getElem? (i := 3) rfl))) (mvT hZ (hw _ (List.mem_of_getElem? (i := 4) rfl))) (by decide) (backOf (W := 1) (rm_1 l Z a0 hw [] p4 h16 n0 Z16 ) hZ (hw _ (List.mem_of_getElem? (i := 4) rfl)) (hw _ (List.mem_of_getElem? (i := 3) rfl)) (by decide) (by decide)) (g := (mkF m 107 #[.val (.ref p0), .val (.int (0 : Int32)), .val (.long p2), .second, .val (.int p3), .val (.int p4), .val (.int v6_6), .unset] [(.int p4), (.int (0 : Int32))])) rfl (by rw [hml]; rfl) (argsL := [(.int p4)]) (rest := [(.int (0 : Int32))]) (lenOf pd_3 rfl) rfl (by show 2 * 0 + _ ≤ _; exact Nat.le_of_eq rfl) (hb hby d2_107) (fun _ _ => ⟨rfl, e16, (by decide : 0 + 0 ≤ _), (by decide : 0 + 0 ≤ _)⟩)
  dsimp only [Pt.U, Pt.locs, Pt.cells, Pt.slots] at X25 l25 y25 z25 st25 hQ25
  rw [l25, y25, z25] at X25
  obtain ⟨rfl, N25q, e25⟩ := hQ25
  have N25 := Fr.app N16 N25q
  obtain ⟨v7_111, hv7_111⟩ : ∃ z : Int32, z = ((0 : Int32) + (f_1 p4)) := ⟨_, rfl⟩
  have pre27 : ∀ t, Steps p.tables e below (T25.setTop (mkF m 120 #[.val (.ref p0), .val (.int (0 : Int32)), .val (.long p2), .second, .val (.int p3), .val (.int p4), .val (.int v6_6), .val (.int v7_111)] [(.int (90 : Int32)), (.int (v7_111 - (1 : Int32))), (.ref p0)])) t → Steps p.tables e below (s₁.setTop (entryFrame m #[(.ref p0), (.int (0 : Int32)), (.long p2), (.int p3), (.int p4)] 8)) t := by
    intro t k
    refine pre26 t ?_
    show Steps p.tables e below (T16.setTop (mkF m 107 #[.val (.ref p0), .val (.int (0 : Int32)), .val (.long p2), .second, .val (.int p3), .val (.int p4), .val (.int v6_6), .unset] [(.int p4), (.int (0 : Int32))])) _
    refine st25 _ ?_
    show Steps p.tables e below (T25.setTop (mkF m 110 #[.val (.ref p0), .val (.int (0 : Int32)), .val (.long p2), .second, .val (.int p3), .val (.int p4), .val (.int v6_6), .unset] [(.int (f_1 p4)), (.int (0 : Int32))])) _
    refine XS.iadd X25.here hx rfl (hb hby d2_110) rfl ?_
    show Steps p.tables e below (T25.setTop (mkF m 111 #[.val (.ref p0), .val (.int (0 : Int32)), .val (.long p2), .second, .val (.int p3), .val (.int p4), .val (.int v6_6), .unset] [(.int ((0 : Int32) + (f_1 p4)))])) _
    refine XS.istore X25.here hx rfl (hb hby d2_111) rfl (l' := #[.val (.ref p0), .val (.int (0 : Int32)), .val (.long p2), .second, .val (.int p3), .val (.int p4), .val (.int v6_6), .val (.int v7_111)]) (by rw [hv7_111]; rfl) ?_
    show Steps p.tables e below (T25.setTop (mkF m 113 #[.val (.ref p0), .val (.int (0 : Int32)), .val (.long p2), .second, .val (.int p3), .val (.int p4), .val (.int v6_6), .val (.int v7_111)] [])) _
    refine XS.aloadN X25.here hx rfl (hb hby d2_113) rfl rfl ?_
    show Steps p.tables e below (T25.setTop (mkF m 114 #[.val (.ref p0), .val (.int (0 : Int32)), .val (.long p2), .second, .val (.int p3), .val (.int p4), .val (.int v6_6), .val (.int v7_111)] [(.ref p0)])) _
    refine XS.iload X25.here hx rfl (hb hby d2_114) rfl  ?_
    show Steps p.tables e below (T25.setTop (mkF m 116 #[.val (.ref p0), .val (.int (0 : Int32)), .val (.long p2), .second, .val (.int p3), .val (.int p4), .val (.int v6_6), .val (.int v7_111)] [(.int v7_111), (.ref p0)])) _
    refine XS.iconst X25.here hx rfl (hb hby d2_116) ?_
    show Steps p.tables e below (T25.setTop (mkF m 117 #[.val (.ref p0), .val (.int (0 : Int32)), .val (.long p2), .second, .val (.int p3), .val (.int p4), .val (.int v6_6), .val (.int v7_111)] [(.int (1 : Int32)), (.int v7_111), (.ref p0)])) _
    refine XS.isub X25.here hx rfl (hb hby d2_117) rfl ?_
    show Steps p.tables e below (T25.setTop (mkF m 118 #[.val (.ref p0), .val (.int (0 : Int32)), .val (.long p2), .second, .val (.int p3), .val (.int p4), .val (.int v6_6), .val (.int v7_111)] [(.int (v7_111 - (1 : Int32))), (.ref p0)])) _
    refine XS.bipush X25.here hx rfl (hb hby d2_118) ?_
    exact k
  obtain ⟨T28, h28, X28, e28, W28, A28, st28⟩ := own_stB X25 hx hZ e25 arr_p0_16 (j := (v7_111 - (1 : Int32))) (x := (90 : Int32)) (k := (v7_111 - (1 : Int32)).toNatClampNeg) (own_e hd hv7_111).1 rfl (own_e hd hv7_111).2 (g := (mkF m 120 #[.val (.ref p0), .val (.int (0 : Int32)), .val (.long p2), .second, .val (.int p3), .val (.int p4), .val (.int v6_6), .val (.int v7_111)] [(.int (90 : Int32)), (.int (v7_111 - (1 : Int32))), (.ref p0)])) rfl rfl (hb hby d2_120)
  obtain ⟨g_120, hg_120⟩ : ∃ z : Nat → Int32, z = (own_upd mg_p0_104 (v7_111 - (1 : Int32)).toNatClampNeg (90 : Int32).toInt8.toInt32) := ⟨_, rfl⟩
  rw [← hg_120] at A28
  have sta_com_example_dayt_dayt_text_TextForm_NANOS_PER_FRACTION_UNIT_28 := sta_com_example_dayt_dayt_text_TextForm_NANOS_PER_FRACTION_UNIT_16.wr W28
  have arr_an_28 := arr_an_16.other W28 ne_an_p0
  have K28 := K16.wr W28 (Or.inl (List.mem_of_getElem? (i := 0) rfl))
  have Z28 := Nat.le_trans Z16 (Nat.le_of_eq W28.size.symm)
  have N28 := Fr.snoc X28 N25 ge_p0
  obtain ⟨fs, hr, hrun, hended, hW, hsame⟩ := X28.leave (v := some (.int v7_111)) (fun h => by rw [Bd.returns] at h; cases h) (BodyLoose.notSynchronized Bd)
  refine ⟨_, _, pre27 _ ?_, hrun, hended, _, _, rfl, ?_, ⟨_, rfl⟩, hW, hsame.mono (by decide) (by decide)⟩
  · show Steps p.tables e below (T25.setTop (mkF m 120 #[.val (.ref p0), .val (.int (0 : Int32)), .val (.long p2), .second, .val (.int p3), .val (.int p4), .val (.int v6_6), .val (.int v7_111)] [(.int (90 : Int32)), (.int (v7_111 - (1 : Int32))), (.ref p0)])) _
    refine st28 _ ?_
    show Steps p.tables e below (T28.setTop (mkF m 121 #[.val (.ref p0), .val (.int (0 : Int32)), .val (.long p2), .second, .val (.int p3), .val (.int p4), .val (.int v6_6), .val (.int v7_111)] [])) _
    refine XS.iload X28.here hx rfl (hb hby d2_121) rfl  ?_
    show Steps p.tables e below (T28.setTop (mkF m 123 #[.val (.ref p0), .val (.int (0 : Int32)), .val (.long p2), .second, .val (.int p3), .val (.int p4), .val (.int v6_6), .val (.int v7_111)] [(.int v7_111)])) _
    exact retI X28 hx Bd.returns (hb hby d2_123) hr
  · show Q_2 Z p0 p2 p3 p4 g_ an gn h0 n0 _ T28.heap _
    rw [e28]
    have o1 := (by subst hv6_6 hg_12 hg_33 hg_57 hmg_p0_104 hv7_111 hg_120; rfl : g_120 = f_2_1 p2 p3 p4 g_ gn)
    have r1 := A28
    rw [o1] at r1
    exact ⟨congrArg (fun z => some (Value.int z)) (by subst hv6_6 hg_12 hg_33 hg_57 hmg_p0_104 hv7_111 hg_120; rfl : v7_111 = f_2 p2 p3 p4 g_ gn), N28, K28, r1⟩
theorem pd_4 : parseMethodDescriptor "([BIJII)I" = some ⟨[(.array .byte), .int, .long, .int, .int], some .int⟩ := by decide +kernel
theorem pn_0 : plainName "com/example/dayt/dayt/text/TextFormTimeLengthPinLaw" = true := by first | (simp [plainName, overriddenIn]; done) | decide +kernel
theorem ef_0 (m : MethodId) (p0 : Int32) (p1 : Int64) (p2 : Int32) : entryFrame m #[(.int p0), (.long p1), (.int p2)] maxLocals = mkF m 0 #[.val (.int p0), .val (.long p1), .second, .val (.int p2), .unset, .unset, .unset, .unset, .unset, .unset, .unset] [] := by first | (simp [entryFrame, mkF, argsToLocals, Value.category, maxLocals]; done) | rfl
def f_0 (p0 : Int32) (p1 : Int64) (p2 : Int32) (gn : Nat → Int32) : Int32 := let v4_7 : Int32 := ((p0 &&& (2147483647 : Int32)) % (10 : Int32)); let m5_27 : Int32 := (if (0 : Int32) < v4_7 then (((9 : Int32) + (1 : Int32)) + v4_7) else (9 : Int32)); let v5_31 : Int32 := (m5_27 + (1 : Int32)); let v6_38 : Int32 := (f_1 v4_7); (if v6_38 = v5_31 then let v7_56 : Int32 := ((p2 &&& (2147483647 : Int32)) % (1000000000 : Int32)); let v9_75 : Int32 := (f_2 p1 v7_56 v4_7 own_zI gn); (if v9_75 = v5_31 then (if ((f_2_1 p1 v7_56 v4_7 own_zI gn) (v5_31 - (1 : Int32)).toNatClampNeg) = (90 : Int32) then (if ((f_2_1 p1 v7_56 v4_7 own_zI gn) v5_31.toNatClampNeg) = (0 : Int32) then let v10_117 : Int32 := ((f_2_1 p1 v7_56 v4_7 own_zI gn) (v5_31 - (2 : Int32)).toNatClampNeg); (if v10_117 < (48 : Int32) then (0 : Int32) else (if (57 : Int32) < v10_117 then (0 : Int32) else (if (0 : Int32) < v4_7 then (if ((f_2_1 p1 v7_56 v4_7 own_zI gn) 9) = (46 : Int32) then (1 : Int32) else (0 : Int32)) else (1 : Int32)))) else (0 : Int32)) else (0 : Int32)) else (0 : Int32)) else (0 : Int32))
def Q_0 (Z : State) (p0 : Int32) (p1 : Int64) (p2 : Int32) (an : Addr) (gn : Nat → Int32) (h0 : Heap) (n0 : Nat) (v : Option Value) (h : Heap) (L : List Loc) : Prop := v = some (.int (f_0 p0 p1 p2 gn)) ∧ Fr n0 L ∧ True
set_option maxRecDepth 65536 in
set_option maxHeartbeats 40000000 in
theorem rm_0 (l : Launch) (Z : State) (a0 : Array Value) (hw : ∀ d ∈ tables_1, d.before a0 Z = true) (ws : List Jvm.Cond) (p0 : Int32) (p1 : Int64) (p2 : Int32) (an : Addr) (gn : Nat → Int32) (h0 : Heap) (n0 : Nat) (Z0 : n0 ≤ h0.size) (S_NANOS_PER_FRACTION_UNIT : Sta Z h0 "com/example/dayt/dayt/text/TextForm" "NANOS_PER_FRACTION_UNIT" "[I" (.ref an)) (A_an : own_A Z h0 an .int 10 (fun i => .int (gn i))) (hn : ∀ i, i < 10 → 0 < (gn i).toInt) :
    MetFree l x (head1 (Jvm.Cond.code x code maxLocals ret :: ws) room_1) (fun a U => a = #[(.int p0), (.long p1), (.int p2)] ∧ Z.Warmed39 U.vm ∧ U.heap = h0) (fun _ _ _ _ _ => True) (fun _ U o U' => ∃ v L, o = .returned v ∧ Q_0 Z p0 p1 p2 an gn h0 n0 v U'.heap L ∧ FrameEnd U o U' L 1 32) := by
  refine MetFree.of_bodySF (plainFor_of_name pn_0) hisR ?_
  intro p e s m args below meth c s₁ Bd hml0 hP hK
  obtain ⟨rfl, hZ, hh⟩ := hP
  have hx := Bd.exec
  have hby := Bd.bytes
  have hml : c.maxLocals = 11 := hml0
  have hown : s.vm.findClass "com/example/dayt/dayt/text/TextFormTimeLengthPinLaw" = some m.cls := findClass_of_methodNamed Bd.named
  have hnm := (name_of_methodNamed Bd.named Bd.method).1
  have X0 : Stand p l e room_1 s m #[(.int p0), (.long p1), (.int p2)] below meth c s₁ [] 0 0 := Stand.of_body Bd
  have e0 : s₁.heap = h0 := by rw [← hh, Bd.state]; rfl
  have N0 := Fr.nil n0
  have K0 : Keep h0 h0 [] := Keep.refl h0 _
  have pre0 : ∀ t, Steps p.tables e below (s₁.setTop (mkF m 0 #[.val (.int p0), .val (.long p1), .second, .val (.int p2), .unset, .unset, .unset, .unset, .unset, .unset, .unset] [])) t → Steps p.tables e below (s₁.setTop (entryFrame m #[(.int p0), (.long p1), (.int p2)] maxLocals)) t := fun t k => castTop (ef_0 m p0 p1 p2) k
  obtain ⟨v4_7, hv4_7⟩ : ∃ z : Int32, z = ((p0 &&& (2147483647 : Int32)) % (10 : Int32)) := ⟨_, rfl⟩
  have pre1 : ∀ t, Steps p.tables e below (s₁.setTop (mkF m 15 #[.val (.int p0), .val (.long p1), .second, .val (.int p2), .val (.int v4_7), .val (.int (9 : Int32)), .unset, .unset, .unset, .unset, .unset] [(.int v4_7)])) t → Steps p.tables e below (s₁.setTop (entryFrame m #[(.int p0), (.long p1), (.int p2)] maxLocals)) t := by
    intro t k
    refine pre0 t ?_
    show Steps p.tables e below (s₁.setTop (mkF m 0 #[.val (.int p0), .val (.long p1), .second, .val (.int p2), .unset, .unset, .unset, .unset, .unset, .unset, .unset] [])) _
    refine XS.iloadN X0.here hx rfl (hb hby at_0) rfl  ?_
    show Steps p.tables e below (s₁.setTop (mkF m 1 #[.val (.int p0), .val (.long p1), .second, .val (.int p2), .unset, .unset, .unset, .unset, .unset, .unset, .unset] [(.int p0)])) _
    refine X0.ldcInt hx hown (mvT hZ (hw _ (List.mem_of_getElem? (i := 0) rfl))) (g := (mkF m 1 #[.val (.int p0), .val (.long p1), .second, .val (.int p2), .unset, .unset, .unset, .unset, .unset, .unset, .unset] [(.int p0)])) rfl (hb hby at_1) _ ?_
    show Steps p.tables e below (s₁.setTop (mkF m 3 #[.val (.int p0), .val (.long p1), .second, .val (.int p2), .unset, .unset, .unset, .unset, .unset, .unset, .unset] [(.int (2147483647 : Int32)), (.int p0)])) _
    refine XS.iand X0.here hx rfl (hb hby at_3) rfl ?_
    show Steps p.tables e below (s₁.setTop (mkF m 4 #[.val (.int p0), .val (.long p1), .second, .val (.int p2), .unset, .unset, .unset, .unset, .unset, .unset, .unset] [(.int (p0 &&& (2147483647 : Int32)))])) _
    refine XS.bipush X0.here hx rfl (hb hby at_4) ?_
    show Steps p.tables e below (s₁.setTop (mkF m 6 #[.val (.int p0), .val (.long p1), .second, .val (.int p2), .unset, .unset, .unset, .unset, .unset, .unset, .unset] [(.int (10 : Int32)), (.int (p0 &&& (2147483647 : Int32)))])) _
    refine iremM X0 hx rfl (hb hby at_6) rfl (by decide) ?_
    show Steps p.tables e below (s₁.setTop (mkF m 7 #[.val (.int p0), .val (.long p1), .second, .val (.int p2), .unset, .unset, .unset, .unset, .unset, .unset, .unset] [(.int ((p0 &&& (2147483647 : Int32)) % (10 : Int32)))])) _
    refine XS.istore X0.here hx rfl (hb hby at_7) rfl (l' := #[.val (.int p0), .val (.long p1), .second, .val (.int p2), .val (.int v4_7), .unset, .unset, .unset, .unset, .unset, .unset]) (by rw [hv4_7]; rfl) ?_
    show Steps p.tables e below (s₁.setTop (mkF m 9 #[.val (.int p0), .val (.long p1), .second, .val (.int p2), .val (.int v4_7), .unset, .unset, .unset, .unset, .unset, .unset] [])) _
    refine XS.bipush X0.here hx rfl (hb hby at_9) ?_
    show Steps p.tables e below (s₁.setTop (mkF m 11 #[.val (.int p0), .val (.long p1), .second, .val (.int p2), .val (.int v4_7), .unset, .unset, .unset, .unset, .unset, .unset] [(.int (9 : Int32))])) _
    refine XS.istore X0.here hx rfl (hb hby at_11) rfl (l' := #[.val (.int p0), .val (.long p1), .second, .val (.int p2), .val (.int v4_7), .val (.int (9 : Int32)), .unset, .unset, .unset, .unset, .unset]) rfl ?_
    show Steps p.tables e below (s₁.setTop (mkF m 13 #[.val (.int p0), .val (.long p1), .second, .val (.int p2), .val (.int v4_7), .val (.int (9 : Int32)), .unset, .unset, .unset, .unset, .unset] [])) _
    refine XS.iload X0.here hx rfl (hb hby at_13) rfl  ?_
    exact k
  obtain ⟨m5_27, hm5_27⟩ : ∃ z : Int32, z = (if (0 : Int32) < v4_7 then (((9 : Int32) + (1 : Int32)) + v4_7) else (9 : Int32)) := ⟨_, rfl⟩
  have pre2 : ∀ t, Steps p.tables e below (s₁.setTop (mkF m 27 #[.val (.int p0), .val (.long p1), .second, .val (.int p2), .val (.int v4_7), .val (.int m5_27), .unset, .unset, .unset, .unset, .unset] [])) t → Steps p.tables e below (s₁.setTop (entryFrame m #[(.int p0), (.long p1), (.int p2)] maxLocals)) t := by
    intro t k
    refine pre1 t ?_
    by_cases hc15 : (0 : Int32) < v4_7
    · show Steps p.tables e below (s₁.setTop (mkF m 15 #[.val (.int p0), .val (.long p1), .second, .val (.int p2), .val (.int v4_7), .val (.int (9 : Int32)), .unset, .unset, .unset, .unset, .unset] [(.int v4_7)])) _
      refine XS.ifNo X0.here hx rfl (hb hby at_15) rfl ((if0 _ _).trans (tlt hc15).2.2.2) ?_
      show Steps p.tables e below (s₁.setTop (mkF m 18 #[.val (.int p0), .val (.long p1), .second, .val (.int p2), .val (.int v4_7), .val (.int (9 : Int32)), .unset, .unset, .unset, .unset, .unset] [])) _
      refine XS.iload X0.here hx rfl (hb hby at_18) rfl  ?_
      show Steps p.tables e below (s₁.setTop (mkF m 20 #[.val (.int p0), .val (.long p1), .second, .val (.int p2), .val (.int v4_7), .val (.int (9 : Int32)), .unset, .unset, .unset, .unset, .unset] [(.int (9 : Int32))])) _
      refine XS.iconst X0.here hx rfl (hb hby at_20) ?_
      show Steps p.tables e below (s₁.setTop (mkF m 21 #[.val (.int p0), .val (.long p1), .second, .val (.int p2), .val (.int v4_7), .val (.int (9 : Int32)), .unset, .unset, .unset, .unset, .unset] [(.int (1 : Int32)), (.int (9 : Int32))])) _
      refine XS.iadd X0.here hx rfl (hb hby at_21) rfl ?_
      show Steps p.tables e below (s₁.setTop (mkF m 22 #[.val (.int p0), .val (.long p1), .second, .val (.int p2), .val (.int v4_7), .val (.int (9 : Int32)), .unset, .unset, .unset, .unset, .unset] [(.int ((9 : Int32) + (1 : Int32)))])) _
      refine XS.iload X0.here hx rfl (hb hby at_22) rfl  ?_
      show Steps p.tables e below (s₁.setTop (mkF m 24 #[.val (.int p0), .val (.long p1), .second, .val (.int p2), .val (.int v4_7), .val (.int (9 : Int32)), .unset, .unset, .unset, .unset, .unset] [(.int v4_7), (.int ((9 : Int32) + (1 : Int32)))])) _
      refine XS.iadd X0.here hx rfl (hb hby at_24) rfl ?_
      show Steps p.tables e below (s₁.setTop (mkF m 25 #[.val (.int p0), .val (.long p1), .second, .val (.int p2), .val (.int v4_7), .val (.int (9 : Int32)), .unset, .unset, .unset, .unset, .unset] [(.int (((9 : Int32) + (1 : Int32)) + v4_7))])) _
      refine XS.istore X0.here hx rfl (hb hby at_25) rfl (l' := #[.val (.int p0), .val (.long p1), .second, .val (.int p2), .val (.int v4_7), .val (.int (((9 : Int32) + (1 : Int32)) + v4_7)), .unset, .unset, .unset, .unset, .unset]) rfl ?_
      have qm5_27 : m5_27 = (((9 : Int32) + (1 : Int32)) + v4_7) := by rw [hm5_27, if_pos hc15]
      rw [qm5_27] at k
      exact k
    · show Steps p.tables e below (s₁.setTop (mkF m 15 #[.val (.int p0), .val (.long p1), .second, .val (.int p2), .val (.int v4_7), .val (.int (9 : Int32)), .unset, .unset, .unset, .unset, .unset] [(.int v4_7)])) _
      refine XS.ifYes X0.here hx rfl (pc0 := 15) (pc' := 27) rfl (hb hby at_15) rfl ((if0 _ _).trans (flt hc15).2.2.2) (by decide) (by decide) ?_
      have qm5_27 : m5_27 = (9 : Int32) := by rw [hm5_27, if_neg hc15]
      rw [qm5_27] at k
      exact k
  obtain ⟨v5_31, hv5_31⟩ : ∃ z : Int32, z = (m5_27 + (1 : Int32)) := ⟨_, rfl⟩
  have pre4 : ∀ t, Steps p.tables e below (s₁.setTop (mkF m 35 #[.val (.int p0), .val (.long p1), .second, .val (.int p2), .val (.int v4_7), .val (.int v5_31), .unset, .unset, .unset, .unset, .unset] [(.int v4_7)])) t → Steps p.tables e below (s₁.setTop (entryFrame m #[(.int p0), (.long p1), (.int p2)] maxLocals)) t := by
    intro t k
    refine pre2 t ?_
    show Steps p.tables e below (s₁.setTop (mkF m 27 #[.val (.int p0), .val (.long p1), .second, .val (.int p2), .val (.int v4_7), .val (.int m5_27), .unset, .unset, .unset, .unset, .unset] [])) _
    refine XS.iload X0.here hx rfl (hb hby at_27) rfl  ?_
    show Steps p.tables e below (s₁.setTop (mkF m 29 #[.val (.int p0), .val (.long p1), .second, .val (.int p2), .val (.int v4_7), .val (.int m5_27), .unset, .unset, .unset, .unset, .unset] [(.int m5_27)])) _
    refine XS.iconst X0.here hx rfl (hb hby at_29) ?_
    show Steps p.tables e below (s₁.setTop (mkF m 30 #[.val (.int p0), .val (.long p1), .second, .val (.int p2), .val (.int v4_7), .val (.int m5_27), .unset, .unset, .unset, .unset, .unset] [(.int (1 : Int32)), (.int m5_27)])) _
    refine XS.iadd X0.here hx rfl (hb hby at_30) rfl ?_
    show Steps p.tables e below (s₁.setTop (mkF m 31 #[.val (.int p0), .val (.long p1), .second, .val (.int p2), .val (.int v4_7), .val (.int m5_27), .unset, .unset, .unset, .unset, .unset] [(.int (m5_27 + (1 : Int32)))])) _
    refine XS.istore X0.here hx rfl (hb hby at_31) rfl (l' := #[.val (.int p0), .val (.long p1), .second, .val (.int p2), .val (.int v4_7), .val (.int v5_31), .unset, .unset, .unset, .unset, .unset]) (by rw [hv5_31]; rfl) ?_
    show Steps p.tables e below (s₁.setTop (mkF m 33 #[.val (.int p0), .val (.long p1), .second, .val (.int p2), .val (.int v4_7), .val (.int v5_31), .unset, .unset, .unset, .unset, .unset] [])) _
    refine XS.iload X0.here hx rfl (hb hby at_33) rfl  ?_
    exact k
  obtain ⟨_, _, ⟨T3, L3, k3, n3⟩, -, X3, ⟨Lc3, hQ3, l3, y3, z3⟩, st3⟩ := Jvm.LawKit.callS X0 hx (y := (⟨"com/example/dayt/dayt/text/TextForm", "timeLength", "(I)I"⟩ : MethodName)) hown (mvT hZ (hw _ (List.mem_of_getElem? (i := 1) rfl))) (mvT hZ (hw _ (List.mem_of_getElem? (i := 2) rfl))) (mvT hZ (hw _ (List.mem_of_getElem? (i := 3) rfl))) (mvT hZ (hw _ (List.mem_of_getElem? (i := 4) rfl))) (by decide) (backOf (W := 0) (rm_1 l Z a0 hw [] v4_7 h0 n0 Z0 ) hZ (hw _ (List.mem_of_getElem? (i := 4) rfl)) (hw _ (List.mem_of_getElem? (i := 3) rfl)) (by decide) (by decide)) (g := (mkF m 35 #[.val (.int p0), .val (.long p1), .second, .val (.int p2), .val (.int v4_7), .val (.int v5_31), .unset, .unset, .unset, .unset, .unset] [(.int v4_7)])) rfl (by rw [hml]; rfl) (argsL := [(.int v4_7)]) (rest := []) (lenOf pd_3 rfl) rfl (by show 2 * 0 + _ ≤ _; exact Nat.le_of_eq rfl) (hb hby at_35) (fun _ _ => ⟨rfl, e0, (by decide : 0 + 0 ≤ _), (by decide : 0 + 0 ≤ _)⟩)
  dsimp only [Pt.U, Pt.locs, Pt.cells, Pt.slots] at X3 l3 y3 z3 st3 hQ3
  rw [l3, y3, z3] at X3
  obtain ⟨rfl, N3q, e3⟩ := hQ3
  have N3 := Fr.app N0 N3q
  obtain ⟨v6_38, hv6_38⟩ : ∃ z : Int32, z = (f_1 v4_7) := ⟨_, rfl⟩
  have pre5 : ∀ t, Steps p.tables e below (T3.setTop (mkF m 44 #[.val (.int p0), .val (.long p1), .second, .val (.int p2), .val (.int v4_7), .val (.int v5_31), .val (.int v6_38), .unset, .unset, .unset, .unset] [(.int v5_31), (.int v6_38)])) t → Steps p.tables e below (s₁.setTop (entryFrame m #[(.int p0), (.long p1), (.int p2)] maxLocals)) t := by
    intro t k
    refine pre4 t ?_
    show Steps p.tables e below (s₁.setTop (mkF m 35 #[.val (.int p0), .val (.long p1), .second, .val (.int p2), .val (.int v4_7), .val (.int v5_31), .unset, .unset, .unset, .unset, .unset] [(.int v4_7)])) _
    refine st3 _ ?_
    show Steps p.tables e below (T3.setTop (mkF m 38 #[.val (.int p0), .val (.long p1), .second, .val (.int p2), .val (.int v4_7), .val (.int v5_31), .unset, .unset, .unset, .unset, .unset] [(.int (f_1 v4_7))])) _
    refine XS.istore X3.here hx rfl (hb hby at_38) rfl (l' := #[.val (.int p0), .val (.long p1), .second, .val (.int p2), .val (.int v4_7), .val (.int v5_31), .val (.int v6_38), .unset, .unset, .unset, .unset]) (by rw [hv6_38]; rfl) ?_
    show Steps p.tables e below (T3.setTop (mkF m 40 #[.val (.int p0), .val (.long p1), .second, .val (.int p2), .val (.int v4_7), .val (.int v5_31), .val (.int v6_38), .unset, .unset, .unset, .unset] [])) _
    refine XS.iload X3.here hx rfl (hb hby at_40) rfl  ?_
    show Steps p.tables e below (T3.setTop (mkF m 42 #[.val (.int p0), .val (.long p1), .second, .val (.int p2), .val (.int v4_7), .val (.int v5_31), .val (.int v6_38), .unset, .unset, .unset, .unset] [(.int v6_38)])) _
    refine XS.iload X3.here hx rfl (hb hby at_42) rfl  ?_
    exact k
  by_cases hc44 : v6_38 = v5_31
  · obtain ⟨v7_56, hv7_56⟩ : ∃ z : Int32, z = ((p2 &&& (2147483647 : Int32)) % (1000000000 : Int32)) := ⟨_, rfl⟩
    have pre6 : ∀ t, Steps p.tables e below (T3.setTop (mkF m 60 #[.val (.int p0), .val (.long p1), .second, .val (.int p2), .val (.int v4_7), .val (.int v5_31), .val (.int v6_38), .val (.int v7_56), .unset, .unset, .unset] [(.int (32 : Int32))])) t → Steps p.tables e below (s₁.setTop (entryFrame m #[(.int p0), (.long p1), (.int p2)] maxLocals)) t := by
      intro t k
      refine pre5 t ?_
      show Steps p.tables e below (T3.setTop (mkF m 44 #[.val (.int p0), .val (.long p1), .second, .val (.int p2), .val (.int v4_7), .val (.int v5_31), .val (.int v6_38), .unset, .unset, .unset, .unset] [(.int v5_31), (.int v6_38)])) _
      refine XS.icmpYes X3.here hx rfl (pc0 := 44) (pc' := 49) rfl (hb hby at_44) rfl (teq hc44).1 (by decide) (by decide) ?_
      show Steps p.tables e below (T3.setTop (mkF m 49 #[.val (.int p0), .val (.long p1), .second, .val (.int p2), .val (.int v4_7), .val (.int v5_31), .val (.int v6_38), .unset, .unset, .unset, .unset] [])) _
      refine XS.iloadN X3.here hx rfl (hb hby at_49) rfl  ?_
      show Steps p.tables e below (T3.setTop (mkF m 50 #[.val (.int p0), .val (.long p1), .second, .val (.int p2), .val (.int v4_7), .val (.int v5_31), .val (.int v6_38), .unset, .unset, .unset, .unset] [(.int p2)])) _
      refine X3.ldcInt hx hown (mvT hZ (hw _ (List.mem_of_getElem? (i := 0) rfl))) (g := (mkF m 50 #[.val (.int p0), .val (.long p1), .second, .val (.int p2), .val (.int v4_7), .val (.int v5_31), .val (.int v6_38), .unset, .unset, .unset, .unset] [(.int p2)])) rfl (hb hby at_50) _ ?_
      show Steps p.tables e below (T3.setTop (mkF m 52 #[.val (.int p0), .val (.long p1), .second, .val (.int p2), .val (.int v4_7), .val (.int v5_31), .val (.int v6_38), .unset, .unset, .unset, .unset] [(.int (2147483647 : Int32)), (.int p2)])) _
      refine XS.iand X3.here hx rfl (hb hby at_52) rfl ?_
      show Steps p.tables e below (T3.setTop (mkF m 53 #[.val (.int p0), .val (.long p1), .second, .val (.int p2), .val (.int v4_7), .val (.int v5_31), .val (.int v6_38), .unset, .unset, .unset, .unset] [(.int (p2 &&& (2147483647 : Int32)))])) _
      refine X3.ldcInt hx hown (mvT hZ (hw _ (List.mem_of_getElem? (i := 5) rfl))) (g := (mkF m 53 #[.val (.int p0), .val (.long p1), .second, .val (.int p2), .val (.int v4_7), .val (.int v5_31), .val (.int v6_38), .unset, .unset, .unset, .unset] [(.int (p2 &&& (2147483647 : Int32)))])) rfl (hb hby at_53) _ ?_
      show Steps p.tables e below (T3.setTop (mkF m 55 #[.val (.int p0), .val (.long p1), .second, .val (.int p2), .val (.int v4_7), .val (.int v5_31), .val (.int v6_38), .unset, .unset, .unset, .unset] [(.int (1000000000 : Int32)), (.int (p2 &&& (2147483647 : Int32)))])) _
      refine iremM X3 hx rfl (hb hby at_55) rfl (by decide) ?_
      show Steps p.tables e below (T3.setTop (mkF m 56 #[.val (.int p0), .val (.long p1), .second, .val (.int p2), .val (.int v4_7), .val (.int v5_31), .val (.int v6_38), .unset, .unset, .unset, .unset] [(.int ((p2 &&& (2147483647 : Int32)) % (1000000000 : Int32)))])) _
      refine XS.istore X3.here hx rfl (hb hby at_56) rfl (l' := #[.val (.int p0), .val (.long p1), .second, .val (.int p2), .val (.int v4_7), .val (.int v5_31), .val (.int v6_38), .val (.int v7_56), .unset, .unset, .unset]) (by rw [hv7_56]; rfl) ?_
      show Steps p.tables e below (T3.setTop (mkF m 58 #[.val (.int p0), .val (.long p1), .second, .val (.int p2), .val (.int v4_7), .val (.int v5_31), .val (.int v6_38), .val (.int v7_56), .unset, .unset, .unset] [])) _
      refine XS.bipush X3.here hx rfl (hb hby at_58) ?_
      exact k
    obtain ⟨T7, h7, b7, gb7, X7, e7, E7, A7, st7⟩ := own_newP X3 hx hZ (hw _ (List.mem_of_getElem? (i := 6) rfl)) e3 (g := (mkF m 60 #[.val (.int p0), .val (.long p1), .second, .val (.int p2), .val (.int v4_7), .val (.int v5_31), .val (.int v6_38), .val (.int v7_56), .unset, .unset, .unset] [(.int (32 : Int32))])) rfl (hb hby at_60) rfl (by decide) (n := 32) rfl (G := fun i => .int (own_zI i)) (fun _ => rfl) (cap := 32) (by decide) (by decide) (by decide) (by decide)
    have ne_an_b7 : an ≠ b7 := Nat.ne_of_lt (Nat.lt_of_lt_of_le A_an.lt (Nat.le_of_eq gb7.symm))
    have sz_b7 : h0.size ≤ b7 := Nat.le_trans K0.1 (Nat.le_of_eq gb7.symm)
    have ge_b7 : n0 ≤ b7 := Nat.le_trans Z0 (Nat.le_of_eq gb7.symm)
    have sta_com_example_dayt_dayt_text_TextForm_NANOS_PER_FRACTION_UNIT_7 := S_NANOS_PER_FRACTION_UNIT.ext E7
    have arr_an_7 := A_an.ext E7
    have K7 := K0.ext E7
    have Z7 := Nat.le_trans Z0 E7.1
    have pre9 : ∀ t, Steps p.tables e below (T7.setTop (mkF m 72 #[.val (.int p0), .val (.long p1), .second, .val (.int p2), .val (.int v4_7), .val (.int v5_31), .val (.int v6_38), .val (.int v7_56), .val (.ref b7), .unset, .unset] [(.int v4_7), (.int v7_56), (.long p1), (.int (0 : Int32)), (.ref b7)])) t → Steps p.tables e below (s₁.setTop (entryFrame m #[(.int p0), (.long p1), (.int p2)] maxLocals)) t := by
      intro t k
      refine pre6 t ?_
      show Steps p.tables e below (T3.setTop (mkF m 60 #[.val (.int p0), .val (.long p1), .second, .val (.int p2), .val (.int v4_7), .val (.int v5_31), .val (.int v6_38), .val (.int v7_56), .unset, .unset, .unset] [(.int (32 : Int32))])) _
      refine st7 _ ?_
      show Steps p.tables e below (T7.setTop (mkF m 62 #[.val (.int p0), .val (.long p1), .second, .val (.int p2), .val (.int v4_7), .val (.int v5_31), .val (.int v6_38), .val (.int v7_56), .unset, .unset, .unset] [(.ref b7)])) _
      refine XS.astore X7.here hx rfl (hb hby at_62) rfl rfl (l' := #[.val (.int p0), .val (.long p1), .second, .val (.int p2), .val (.int v4_7), .val (.int v5_31), .val (.int v6_38), .val (.int v7_56), .val (.ref b7), .unset, .unset]) rfl ?_
      show Steps p.tables e below (T7.setTop (mkF m 64 #[.val (.int p0), .val (.long p1), .second, .val (.int p2), .val (.int v4_7), .val (.int v5_31), .val (.int v6_38), .val (.int v7_56), .val (.ref b7), .unset, .unset] [])) _
      refine XS.aload X7.here hx rfl (hb hby at_64) rfl rfl ?_
      show Steps p.tables e below (T7.setTop (mkF m 66 #[.val (.int p0), .val (.long p1), .second, .val (.int p2), .val (.int v4_7), .val (.int v5_31), .val (.int v6_38), .val (.int v7_56), .val (.ref b7), .unset, .unset] [(.ref b7)])) _
      refine XS.iconst X7.here hx rfl (hb hby at_66) ?_
      show Steps p.tables e below (T7.setTop (mkF m 67 #[.val (.int p0), .val (.long p1), .second, .val (.int p2), .val (.int v4_7), .val (.int v5_31), .val (.int v6_38), .val (.int v7_56), .val (.ref b7), .unset, .unset] [(.int (0 : Int32)), (.ref b7)])) _
      refine XS.lloadN X7.here hx rfl (hb hby at_67) rfl  ?_
      show Steps p.tables e below (T7.setTop (mkF m 68 #[.val (.int p0), .val (.long p1), .second, .val (.int p2), .val (.int v4_7), .val (.int v5_31), .val (.int v6_38), .val (.int v7_56), .val (.ref b7), .unset, .unset] [(.long p1), (.int (0 : Int32)), (.ref b7)])) _
      refine XS.iload X7.here hx rfl (hb hby at_68) rfl  ?_
      show Steps p.tables e below (T7.setTop (mkF m 70 #[.val (.int p0), .val (.long p1), .second, .val (.int p2), .val (.int v4_7), .val (.int v5_31), .val (.int v6_38), .val (.int v7_56), .val (.ref b7), .unset, .unset] [(.int v7_56), (.long p1), (.int (0 : Int32)), (.ref b7)])) _
      refine XS.iload X7.here hx rfl (hb hby at_70) rfl  ?_
      exact k
    obtain ⟨_, _, ⟨T8, L8, k8, n8⟩, -, X8, ⟨Lc8, hQ8, l8, y8, z8⟩, st8⟩ := Jvm.LawKit.callS X7 hx (y := (⟨"com/example/dayt/dayt/text/TextForm", "putTime", "([BIJII)I"⟩ : MethodName)) hown (mvT hZ (hw _ (List.mem_of_getElem? (i := 7) rfl))) (mvT hZ (hw _ (List.mem_of_getElem? (i := 8) rfl))) (mvT hZ (hw _ (List.mem_of_getElem? (i := 3) rfl))) (mvT hZ (hw _ (List.mem_of_getElem? (i := 9) rfl))) (by decide) (backOf (W := 0) (rm_2 l Z a0 hw [] b7 p1 v7_56 v4_7 own_zI an gn h7 n0 Z7 A7 ge_b7 sta_com_example_dayt_dayt_text_TextForm_NANOS_PER_FRACTION_UNIT_7 arr_an_7 ne_an_b7 (own_hd hv4_7) hn) hZ (hw _ (List.mem_of_getElem? (i := 9) rfl)) (hw _ (List.mem_of_getElem? (i := 3) rfl)) (by decide) (by decide)) (g := (mkF m 72 #[.val (.int p0), .val (.long p1), .second, .val (.int p2), .val (.int v4_7), .val (.int v5_31), .val (.int v6_38), .val (.int v7_56), .val (.ref b7), .unset, .unset] [(.int v4_7), (.int v7_56), (.long p1), (.int (0 : Int32)), (.ref b7)])) rfl (by rw [hml]; rfl) (argsL := [(.ref b7), (.int (0 : Int32)), (.long p1), (.int v7_56), (.int v4_7)]) (rest := []) (lenOf pd_4 rfl) rfl (by show 2 * 0 + _ ≤ _; exact Nat.le_of_eq rfl) (hb hby at_72) (fun _ _ => ⟨rfl, e7, (by decide : 1 + 0 ≤ _), (by decide : 32 + 0 ≤ _)⟩)
    dsimp only [Pt.U, Pt.locs, Pt.cells, Pt.slots] at X8 l8 y8 z8 st8 hQ8
    rw [l8, y8, z8] at X8
    obtain ⟨rfl, N8q, Kc8, Q8_0⟩ := hQ8
    have Kd8 : Keep h7 T8.heap [b7] := Kc8
    have sta_com_example_dayt_dayt_text_TextForm_NANOS_PER_FRACTION_UNIT_8 := own_sta_keep sta_com_example_dayt_dayt_text_TextForm_NANOS_PER_FRACTION_UNIT_7 Kd8 (allS (own_A_plain A7) all0)
    have arr_an_8 := arr_an_7.keep Kd8 (ninS ne_an_b7 nin0)
    have K8 := K7.trans Kd8 (allS (Or.inr sz_b7) all0)
    have Z8 := Nat.le_trans Z7 Kd8.1
    have N8 := Fr.app N3 N8q
    obtain ⟨v9_75, hv9_75⟩ : ∃ z : Int32, z = (f_2 p1 v7_56 v4_7 own_zI gn) := ⟨_, rfl⟩
    have pre10 : ∀ t, Steps p.tables e below (T8.setTop (mkF m 81 #[.val (.int p0), .val (.long p1), .second, .val (.int p2), .val (.int v4_7), .val (.int v5_31), .val (.int v6_38), .val (.int v7_56), .val (.ref b7), .val (.int v9_75), .unset] [(.int v5_31), (.int v9_75)])) t → Steps p.tables e below (s₁.setTop (entryFrame m #[(.int p0), (.long p1), (.int p2)] maxLocals)) t := by
      intro t k
      refine pre9 t ?_
      show Steps p.tables e below (T7.setTop (mkF m 72 #[.val (.int p0), .val (.long p1), .second, .val (.int p2), .val (.int v4_7), .val (.int v5_31), .val (.int v6_38), .val (.int v7_56), .val (.ref b7), .unset, .unset] [(.int v4_7), (.int v7_56), (.long p1), (.int (0 : Int32)), (.ref b7)])) _
      refine st8 _ ?_
      show Steps p.tables e below (T8.setTop (mkF m 75 #[.val (.int p0), .val (.long p1), .second, .val (.int p2), .val (.int v4_7), .val (.int v5_31), .val (.int v6_38), .val (.int v7_56), .val (.ref b7), .unset, .unset] [(.int (f_2 p1 v7_56 v4_7 own_zI gn))])) _
      refine XS.istore X8.here hx rfl (hb hby at_75) rfl (l' := #[.val (.int p0), .val (.long p1), .second, .val (.int p2), .val (.int v4_7), .val (.int v5_31), .val (.int v6_38), .val (.int v7_56), .val (.ref b7), .val (.int v9_75), .unset]) (by rw [hv9_75]; rfl) ?_
      show Steps p.tables e below (T8.setTop (mkF m 77 #[.val (.int p0), .val (.long p1), .second, .val (.int p2), .val (.int v4_7), .val (.int v5_31), .val (.int v6_38), .val (.int v7_56), .val (.ref b7), .val (.int v9_75), .unset] [])) _
      refine XS.iload X8.here hx rfl (hb hby at_77) rfl  ?_
      show Steps p.tables e below (T8.setTop (mkF m 79 #[.val (.int p0), .val (.long p1), .second, .val (.int p2), .val (.int v4_7), .val (.int v5_31), .val (.int v6_38), .val (.int v7_56), .val (.ref b7), .val (.int v9_75), .unset] [(.int v9_75)])) _
      refine XS.iload X8.here hx rfl (hb hby at_79) rfl  ?_
      exact k
    by_cases hc81 : v9_75 = v5_31
    · have pre11 : ∀ t, Steps p.tables e below (T8.setTop (mkF m 95 #[.val (.int p0), .val (.long p1), .second, .val (.int p2), .val (.int v4_7), .val (.int v5_31), .val (.int v6_38), .val (.int v7_56), .val (.ref b7), .val (.int v9_75), .unset] [(.int (90 : Int32)), (.int ((f_2_1 p1 v7_56 v4_7 own_zI gn) (v5_31 - (1 : Int32)).toNatClampNeg))])) t → Steps p.tables e below (s₁.setTop (entryFrame m #[(.int p0), (.long p1), (.int p2)] maxLocals)) t := by
        intro t k
        refine pre10 t ?_
        show Steps p.tables e below (T8.setTop (mkF m 81 #[.val (.int p0), .val (.long p1), .second, .val (.int p2), .val (.int v4_7), .val (.int v5_31), .val (.int v6_38), .val (.int v7_56), .val (.ref b7), .val (.int v9_75), .unset] [(.int v5_31), (.int v9_75)])) _
        refine XS.icmpYes X8.here hx rfl (pc0 := 81) (pc' := 86) rfl (hb hby at_81) rfl (teq hc81).1 (by decide) (by decide) ?_
        show Steps p.tables e below (T8.setTop (mkF m 86 #[.val (.int p0), .val (.long p1), .second, .val (.int p2), .val (.int v4_7), .val (.int v5_31), .val (.int v6_38), .val (.int v7_56), .val (.ref b7), .val (.int v9_75), .unset] [])) _
        refine XS.aload X8.here hx rfl (hb hby at_86) rfl rfl ?_
        show Steps p.tables e below (T8.setTop (mkF m 88 #[.val (.int p0), .val (.long p1), .second, .val (.int p2), .val (.int v4_7), .val (.int v5_31), .val (.int v6_38), .val (.int v7_56), .val (.ref b7), .val (.int v9_75), .unset] [(.ref b7)])) _
        refine XS.iload X8.here hx rfl (hb hby at_88) rfl  ?_
        show Steps p.tables e below (T8.setTop (mkF m 90 #[.val (.int p0), .val (.long p1), .second, .val (.int p2), .val (.int v4_7), .val (.int v5_31), .val (.int v6_38), .val (.int v7_56), .val (.ref b7), .val (.int v9_75), .unset] [(.int v5_31), (.ref b7)])) _
        refine XS.iconst X8.here hx rfl (hb hby at_90) ?_
        show Steps p.tables e below (T8.setTop (mkF m 91 #[.val (.int p0), .val (.long p1), .second, .val (.int p2), .val (.int v4_7), .val (.int v5_31), .val (.int v6_38), .val (.int v7_56), .val (.ref b7), .val (.int v9_75), .unset] [(.int (1 : Int32)), (.int v5_31), (.ref b7)])) _
        refine XS.isub X8.here hx rfl (hb hby at_91) rfl ?_
        show Steps p.tables e below (T8.setTop (mkF m 92 #[.val (.int p0), .val (.long p1), .second, .val (.int p2), .val (.int v4_7), .val (.int v5_31), .val (.int v6_38), .val (.int v7_56), .val (.ref b7), .val (.int v9_75), .unset] [(.int (v5_31 - (1 : Int32))), (.ref b7)])) _
        refine own_ldB X8 hx hZ rfl Q8_0 (j := (v5_31 - (1 : Int32))) (k := (v5_31 - (1 : Int32)).toNatClampNeg) (own_x1 hv4_7 hm5_27 hv5_31).1 rfl (own_x1 hv4_7 hm5_27 hv5_31).2 (g := (mkF m 92 #[.val (.int p0), .val (.long p1), .second, .val (.int p2), .val (.int v4_7), .val (.int v5_31), .val (.int v6_38), .val (.int v7_56), .val (.ref b7), .val (.int v9_75), .unset] [(.int (v5_31 - (1 : Int32))), (.ref b7)])) rfl rfl (hb hby at_92) ?_
        show Steps p.tables e below (T8.setTop (mkF m 93 #[.val (.int p0), .val (.long p1), .second, .val (.int p2), .val (.int v4_7), .val (.int v5_31), .val (.int v6_38), .val (.int v7_56), .val (.ref b7), .val (.int v9_75), .unset] [(.int ((f_2_1 p1 v7_56 v4_7 own_zI gn) (v5_31 - (1 : Int32)).toNatClampNeg))])) _
        refine XS.bipush X8.here hx rfl (hb hby at_93) ?_
        exact k
      by_cases hc95 : ((f_2_1 p1 v7_56 v4_7 own_zI gn) (v5_31 - (1 : Int32)).toNatClampNeg) = (90 : Int32)
      · have pre12 : ∀ t, Steps p.tables e below (T8.setTop (mkF m 105 #[.val (.int p0), .val (.long p1), .second, .val (.int p2), .val (.int v4_7), .val (.int v5_31), .val (.int v6_38), .val (.int v7_56), .val (.ref b7), .val (.int v9_75), .unset] [(.int ((f_2_1 p1 v7_56 v4_7 own_zI gn) v5_31.toNatClampNeg))])) t → Steps p.tables e below (s₁.setTop (entryFrame m #[(.int p0), (.long p1), (.int p2)] maxLocals)) t := by
          intro t k
          refine pre11 t ?_
          show Steps p.tables e below (T8.setTop (mkF m 95 #[.val (.int p0), .val (.long p1), .second, .val (.int p2), .val (.int v4_7), .val (.int v5_31), .val (.int v6_38), .val (.int v7_56), .val (.ref b7), .val (.int v9_75), .unset] [(.int (90 : Int32)), (.int ((f_2_1 p1 v7_56 v4_7 own_zI gn) (v5_31 - (1 : Int32)).toNatClampNeg))])) _
          refine XS.icmpYes X8.here hx rfl (pc0 := 95) (pc' := 100) rfl (hb hby at_95) rfl (teq hc95).1 (by decide) (by decide) ?_
          show Steps p.tables e below (T8.setTop (mkF m 100 #[.val (.int p0), .val (.long p1), .second, .val (.int p2), .val (.int v4_7), .val (.int v5_31), .val (.int v6_38), .val (.int v7_56), .val (.ref b7), .val (.int v9_75), .unset] [])) _
          refine XS.aload X8.here hx rfl (hb hby at_100) rfl rfl ?_
          show Steps p.tables e below (T8.setTop (mkF m 102 #[.val (.int p0), .val (.long p1), .second, .val (.int p2), .val (.int v4_7), .val (.int v5_31), .val (.int v6_38), .val (.int v7_56), .val (.ref b7), .val (.int v9_75), .unset] [(.ref b7)])) _
          refine XS.iload X8.here hx rfl (hb hby at_102) rfl  ?_
          show Steps p.tables e below (T8.setTop (mkF m 104 #[.val (.int p0), .val (.long p1), .second, .val (.int p2), .val (.int v4_7), .val (.int v5_31), .val (.int v6_38), .val (.int v7_56), .val (.ref b7), .val (.int v9_75), .unset] [(.int v5_31), (.ref b7)])) _
          refine own_ldB X8 hx hZ rfl Q8_0 (j := v5_31) (k := v5_31.toNatClampNeg) (own_x0 hv4_7 hm5_27 hv5_31).1 rfl (own_x0 hv4_7 hm5_27 hv5_31).2 (g := (mkF m 104 #[.val (.int p0), .val (.long p1), .second, .val (.int p2), .val (.int v4_7), .val (.int v5_31), .val (.int v6_38), .val (.int v7_56), .val (.ref b7), .val (.int v9_75), .unset] [(.int v5_31), (.ref b7)])) rfl rfl (hb hby at_104) ?_
          exact k
        by_cases hc105 : ((f_2_1 p1 v7_56 v4_7 own_zI gn) v5_31.toNatClampNeg) = (0 : Int32)
        · obtain ⟨v10_117, hv10_117⟩ : ∃ z : Int32, z = ((f_2_1 p1 v7_56 v4_7 own_zI gn) (v5_31 - (2 : Int32)).toNatClampNeg) := ⟨_, rfl⟩
          have pre13 : ∀ t, Steps p.tables e below (T8.setTop (mkF m 123 #[.val (.int p0), .val (.long p1), .second, .val (.int p2), .val (.int v4_7), .val (.int v5_31), .val (.int v6_38), .val (.int v7_56), .val (.ref b7), .val (.int v9_75), .val (.int v10_117)] [(.int (48 : Int32)), (.int v10_117)])) t → Steps p.tables e below (s₁.setTop (entryFrame m #[(.int p0), (.long p1), (.int p2)] maxLocals)) t := by
            intro t k
            refine pre12 t ?_
            show Steps p.tables e below (T8.setTop (mkF m 105 #[.val (.int p0), .val (.long p1), .second, .val (.int p2), .val (.int v4_7), .val (.int v5_31), .val (.int v6_38), .val (.int v7_56), .val (.ref b7), .val (.int v9_75), .unset] [(.int ((f_2_1 p1 v7_56 v4_7 own_zI gn) v5_31.toNatClampNeg))])) _
            refine XS.ifYes X8.here hx rfl (pc0 := 105) (pc' := 110) rfl (hb hby at_105) rfl ((if0 _ _).trans (teq hc105).1) (by decide) (by decide) ?_
            show Steps p.tables e below (T8.setTop (mkF m 110 #[.val (.int p0), .val (.long p1), .second, .val (.int p2), .val (.int v4_7), .val (.int v5_31), .val (.int v6_38), .val (.int v7_56), .val (.ref b7), .val (.int v9_75), .unset] [])) _
            refine XS.aload X8.here hx rfl (hb hby at_110) rfl rfl ?_
            show Steps p.tables e below (T8.setTop (mkF m 112 #[.val (.int p0), .val (.long p1), .second, .val (.int p2), .val (.int v4_7), .val (.int v5_31), .val (.int v6_38), .val (.int v7_56), .val (.ref b7), .val (.int v9_75), .unset] [(.ref b7)])) _
            refine XS.iload X8.here hx rfl (hb hby at_112) rfl  ?_
            show Steps p.tables e below (T8.setTop (mkF m 114 #[.val (.int p0), .val (.long p1), .second, .val (.int p2), .val (.int v4_7), .val (.int v5_31), .val (.int v6_38), .val (.int v7_56), .val (.ref b7), .val (.int v9_75), .unset] [(.int v5_31), (.ref b7)])) _
            refine XS.iconst X8.here hx rfl (hb hby at_114) ?_
            show Steps p.tables e below (T8.setTop (mkF m 115 #[.val (.int p0), .val (.long p1), .second, .val (.int p2), .val (.int v4_7), .val (.int v5_31), .val (.int v6_38), .val (.int v7_56), .val (.ref b7), .val (.int v9_75), .unset] [(.int (2 : Int32)), (.int v5_31), (.ref b7)])) _
            refine XS.isub X8.here hx rfl (hb hby at_115) rfl ?_
            show Steps p.tables e below (T8.setTop (mkF m 116 #[.val (.int p0), .val (.long p1), .second, .val (.int p2), .val (.int v4_7), .val (.int v5_31), .val (.int v6_38), .val (.int v7_56), .val (.ref b7), .val (.int v9_75), .unset] [(.int (v5_31 - (2 : Int32))), (.ref b7)])) _
            refine own_ldB X8 hx hZ rfl Q8_0 (j := (v5_31 - (2 : Int32))) (k := (v5_31 - (2 : Int32)).toNatClampNeg) (own_x2 hv4_7 hm5_27 hv5_31).1 rfl (own_x2 hv4_7 hm5_27 hv5_31).2 (g := (mkF m 116 #[.val (.int p0), .val (.long p1), .second, .val (.int p2), .val (.int v4_7), .val (.int v5_31), .val (.int v6_38), .val (.int v7_56), .val (.ref b7), .val (.int v9_75), .unset] [(.int (v5_31 - (2 : Int32))), (.ref b7)])) rfl rfl (hb hby at_116) ?_
            show Steps p.tables e below (T8.setTop (mkF m 117 #[.val (.int p0), .val (.long p1), .second, .val (.int p2), .val (.int v4_7), .val (.int v5_31), .val (.int v6_38), .val (.int v7_56), .val (.ref b7), .val (.int v9_75), .unset] [(.int ((f_2_1 p1 v7_56 v4_7 own_zI gn) (v5_31 - (2 : Int32)).toNatClampNeg))])) _
            refine XS.istore X8.here hx rfl (hb hby at_117) rfl (l' := #[.val (.int p0), .val (.long p1), .second, .val (.int p2), .val (.int v4_7), .val (.int v5_31), .val (.int v6_38), .val (.int v7_56), .val (.ref b7), .val (.int v9_75), .val (.int v10_117)]) (by rw [hv10_117]; rfl) ?_
            show Steps p.tables e below (T8.setTop (mkF m 119 #[.val (.int p0), .val (.long p1), .second, .val (.int p2), .val (.int v4_7), .val (.int v5_31), .val (.int v6_38), .val (.int v7_56), .val (.ref b7), .val (.int v9_75), .val (.int v10_117)] [])) _
            refine XS.iload X8.here hx rfl (hb hby at_119) rfl  ?_
            show Steps p.tables e below (T8.setTop (mkF m 121 #[.val (.int p0), .val (.long p1), .second, .val (.int p2), .val (.int v4_7), .val (.int v5_31), .val (.int v6_38), .val (.int v7_56), .val (.ref b7), .val (.int v9_75), .val (.int v10_117)] [(.int v10_117)])) _
            refine XS.bipush X8.here hx rfl (hb hby at_121) ?_
            exact k
          by_cases hc123 : v10_117 < (48 : Int32)
          · obtain ⟨fs, hr, hrun, hended, hW, hsame⟩ := X8.leave (v := some (.int (0 : Int32))) (fun h => by rw [Bd.returns] at h; cases h) (BodyLoose.notSynchronized Bd)
            refine ⟨_, _, pre13 _ ?_, hrun, hended, _, _, rfl, ?_, ⟨_, rfl⟩, hW, hsame.mono (by decide) (by decide)⟩
            · show Steps p.tables e below (T8.setTop (mkF m 123 #[.val (.int p0), .val (.long p1), .second, .val (.int p2), .val (.int v4_7), .val (.int v5_31), .val (.int v6_38), .val (.int v7_56), .val (.ref b7), .val (.int v9_75), .val (.int v10_117)] [(.int (48 : Int32)), (.int v10_117)])) _
              refine XS.icmpYes X8.here hx rfl (pc0 := 123) (pc' := 133) rfl (hb hby at_123) rfl (tlt hc123).1 (by decide) (by decide) ?_
              show Steps p.tables e below (T8.setTop (mkF m 133 #[.val (.int p0), .val (.long p1), .second, .val (.int p2), .val (.int v4_7), .val (.int v5_31), .val (.int v6_38), .val (.int v7_56), .val (.ref b7), .val (.int v9_75), .val (.int v10_117)] [])) _
              refine XS.iconst X8.here hx rfl (hb hby at_133) ?_
              show Steps p.tables e below (T8.setTop (mkF m 134 #[.val (.int p0), .val (.long p1), .second, .val (.int p2), .val (.int v4_7), .val (.int v5_31), .val (.int v6_38), .val (.int v7_56), .val (.ref b7), .val (.int v9_75), .val (.int v10_117)] [(.int (0 : Int32))])) _
              exact retN X8 hx (t := .boolean) Bd.returns (by simp) (hb hby at_134) hr
            · show Q_0 Z p0 p1 p2 an gn h0 n0 _ T8.heap _
              exact ⟨congrArg (fun z => some (Value.int z)) (by subst hv4_7 hm5_27 hv5_31 hv6_38 hv7_56 hv9_75 hv10_117; exact ((if_pos hc44).trans ((if_pos hc81).trans ((if_pos hc95).trans ((if_pos hc105).trans (if_pos hc123))))).symm : (0 : Int32) = f_0 p0 p1 p2 gn), N8, trivial⟩
          · have pre14 : ∀ t, Steps p.tables e below (T8.setTop (mkF m 130 #[.val (.int p0), .val (.long p1), .second, .val (.int p2), .val (.int v4_7), .val (.int v5_31), .val (.int v6_38), .val (.int v7_56), .val (.ref b7), .val (.int v9_75), .val (.int v10_117)] [(.int (57 : Int32)), (.int v10_117)])) t → Steps p.tables e below (s₁.setTop (entryFrame m #[(.int p0), (.long p1), (.int p2)] maxLocals)) t := by
              intro t k
              refine pre13 t ?_
              show Steps p.tables e below (T8.setTop (mkF m 123 #[.val (.int p0), .val (.long p1), .second, .val (.int p2), .val (.int v4_7), .val (.int v5_31), .val (.int v6_38), .val (.int v7_56), .val (.ref b7), .val (.int v9_75), .val (.int v10_117)] [(.int (48 : Int32)), (.int v10_117)])) _
              refine XS.icmpNo X8.here hx rfl (hb hby at_123) rfl (flt hc123).1 ?_
              show Steps p.tables e below (T8.setTop (mkF m 126 #[.val (.int p0), .val (.long p1), .second, .val (.int p2), .val (.int v4_7), .val (.int v5_31), .val (.int v6_38), .val (.int v7_56), .val (.ref b7), .val (.int v9_75), .val (.int v10_117)] [])) _
              refine XS.iload X8.here hx rfl (hb hby at_126) rfl  ?_
              show Steps p.tables e below (T8.setTop (mkF m 128 #[.val (.int p0), .val (.long p1), .second, .val (.int p2), .val (.int v4_7), .val (.int v5_31), .val (.int v6_38), .val (.int v7_56), .val (.ref b7), .val (.int v9_75), .val (.int v10_117)] [(.int v10_117)])) _
              refine XS.bipush X8.here hx rfl (hb hby at_128) ?_
              exact k
            by_cases hc130 : (57 : Int32) < v10_117
            · obtain ⟨fs, hr, hrun, hended, hW, hsame⟩ := X8.leave (v := some (.int (0 : Int32))) (fun h => by rw [Bd.returns] at h; cases h) (BodyLoose.notSynchronized Bd)
              refine ⟨_, _, pre14 _ ?_, hrun, hended, _, _, rfl, ?_, ⟨_, rfl⟩, hW, hsame.mono (by decide) (by decide)⟩
              · show Steps p.tables e below (T8.setTop (mkF m 130 #[.val (.int p0), .val (.long p1), .second, .val (.int p2), .val (.int v4_7), .val (.int v5_31), .val (.int v6_38), .val (.int v7_56), .val (.ref b7), .val (.int v9_75), .val (.int v10_117)] [(.int (57 : Int32)), (.int v10_117)])) _
                refine XS.icmpNo X8.here hx rfl (hb hby at_130) rfl (tlt hc130).2.2.2 ?_
                show Steps p.tables e below (T8.setTop (mkF m 133 #[.val (.int p0), .val (.long p1), .second, .val (.int p2), .val (.int v4_7), .val (.int v5_31), .val (.int v6_38), .val (.int v7_56), .val (.ref b7), .val (.int v9_75), .val (.int v10_117)] [])) _
                refine XS.iconst X8.here hx rfl (hb hby at_133) ?_
                show Steps p.tables e below (T8.setTop (mkF m 134 #[.val (.int p0), .val (.long p1), .second, .val (.int p2), .val (.int v4_7), .val (.int v5_31), .val (.int v6_38), .val (.int v7_56), .val (.ref b7), .val (.int v9_75), .val (.int v10_117)] [(.int (0 : Int32))])) _
                exact retN X8 hx (t := .boolean) Bd.returns (by simp) (hb hby at_134) hr
              · show Q_0 Z p0 p1 p2 an gn h0 n0 _ T8.heap _
                exact ⟨congrArg (fun z => some (Value.int z)) (by subst hv4_7 hm5_27 hv5_31 hv6_38 hv7_56 hv9_75 hv10_117; exact ((if_pos hc44).trans ((if_pos hc81).trans ((if_pos hc95).trans ((if_pos hc105).trans ((if_neg hc123).trans (if_pos hc130)))))).symm : (0 : Int32) = f_0 p0 p1 p2 gn), N8, trivial⟩
            · have pre15 : ∀ t, Steps p.tables e below (T8.setTop (mkF m 137 #[.val (.int p0), .val (.long p1), .second, .val (.int p2), .val (.int v4_7), .val (.int v5_31), .val (.int v6_38), .val (.int v7_56), .val (.ref b7), .val (.int v9_75), .val (.int v10_117)] [(.int v4_7)])) t → Steps p.tables e below (s₁.setTop (entryFrame m #[(.int p0), (.long p1), (.int p2)] maxLocals)) t := by
                intro t k
                refine pre14 t ?_
                show Steps p.tables e below (T8.setTop (mkF m 130 #[.val (.int p0), .val (.long p1), .second, .val (.int p2), .val (.int v4_7), .val (.int v5_31), .val (.int v6_38), .val (.int v7_56), .val (.ref b7), .val (.int v9_75), .val (.int v10_117)] [(.int (57 : Int32)), (.int v10_117)])) _
                refine XS.icmpYes X8.here hx rfl (pc0 := 130) (pc' := 135) rfl (hb hby at_130) rfl (flt hc130).2.2.2 (by decide) (by decide) ?_
                show Steps p.tables e below (T8.setTop (mkF m 135 #[.val (.int p0), .val (.long p1), .second, .val (.int p2), .val (.int v4_7), .val (.int v5_31), .val (.int v6_38), .val (.int v7_56), .val (.ref b7), .val (.int v9_75), .val (.int v10_117)] [])) _
                refine XS.iload X8.here hx rfl (hb hby at_135) rfl  ?_
                exact k
              by_cases hc137 : (0 : Int32) < v4_7
              · have pre16 : ∀ t, Steps p.tables e below (T8.setTop (mkF m 147 #[.val (.int p0), .val (.long p1), .second, .val (.int p2), .val (.int v4_7), .val (.int v5_31), .val (.int v6_38), .val (.int v7_56), .val (.ref b7), .val (.int v9_75), .val (.int v10_117)] [(.int (46 : Int32)), (.int ((f_2_1 p1 v7_56 v4_7 own_zI gn) 9))])) t → Steps p.tables e below (s₁.setTop (entryFrame m #[(.int p0), (.long p1), (.int p2)] maxLocals)) t := by
                  intro t k
                  refine pre15 t ?_
                  show Steps p.tables e below (T8.setTop (mkF m 137 #[.val (.int p0), .val (.long p1), .second, .val (.int p2), .val (.int v4_7), .val (.int v5_31), .val (.int v6_38), .val (.int v7_56), .val (.ref b7), .val (.int v9_75), .val (.int v10_117)] [(.int v4_7)])) _
                  refine XS.ifNo X8.here hx rfl (hb hby at_137) rfl ((if0 _ _).trans (tlt hc137).2.2.2) ?_
                  show Steps p.tables e below (T8.setTop (mkF m 140 #[.val (.int p0), .val (.long p1), .second, .val (.int p2), .val (.int v4_7), .val (.int v5_31), .val (.int v6_38), .val (.int v7_56), .val (.ref b7), .val (.int v9_75), .val (.int v10_117)] [])) _
                  refine XS.aload X8.here hx rfl (hb hby at_140) rfl rfl ?_
                  show Steps p.tables e below (T8.setTop (mkF m 142 #[.val (.int p0), .val (.long p1), .second, .val (.int p2), .val (.int v4_7), .val (.int v5_31), .val (.int v6_38), .val (.int v7_56), .val (.ref b7), .val (.int v9_75), .val (.int v10_117)] [(.ref b7)])) _
                  refine XS.bipush X8.here hx rfl (hb hby at_142) ?_
                  show Steps p.tables e below (T8.setTop (mkF m 144 #[.val (.int p0), .val (.long p1), .second, .val (.int p2), .val (.int v4_7), .val (.int v5_31), .val (.int v6_38), .val (.int v7_56), .val (.ref b7), .val (.int v9_75), .val (.int v10_117)] [(.int (9 : Int32)), (.ref b7)])) _
                  refine own_ldB X8 hx hZ rfl Q8_0 (j := (9 : Int32)) (k := 9) (by decide) (by decide) (by decide) (g := (mkF m 144 #[.val (.int p0), .val (.long p1), .second, .val (.int p2), .val (.int v4_7), .val (.int v5_31), .val (.int v6_38), .val (.int v7_56), .val (.ref b7), .val (.int v9_75), .val (.int v10_117)] [(.int (9 : Int32)), (.ref b7)])) rfl rfl (hb hby at_144) ?_
                  show Steps p.tables e below (T8.setTop (mkF m 145 #[.val (.int p0), .val (.long p1), .second, .val (.int p2), .val (.int v4_7), .val (.int v5_31), .val (.int v6_38), .val (.int v7_56), .val (.ref b7), .val (.int v9_75), .val (.int v10_117)] [(.int ((f_2_1 p1 v7_56 v4_7 own_zI gn) 9))])) _
                  refine XS.bipush X8.here hx rfl (hb hby at_145) ?_
                  exact k
                by_cases hc147 : ((f_2_1 p1 v7_56 v4_7 own_zI gn) 9) = (46 : Int32)
                · obtain ⟨fs, hr, hrun, hended, hW, hsame⟩ := X8.leave (v := some (.int (1 : Int32))) (fun h => by rw [Bd.returns] at h; cases h) (BodyLoose.notSynchronized Bd)
                  refine ⟨_, _, pre16 _ ?_, hrun, hended, _, _, rfl, ?_, ⟨_, rfl⟩, hW, hsame.mono (by decide) (by decide)⟩
                  · show Steps p.tables e below (T8.setTop (mkF m 147 #[.val (.int p0), .val (.long p1), .second, .val (.int p2), .val (.int v4_7), .val (.int v5_31), .val (.int v6_38), .val (.int v7_56), .val (.ref b7), .val (.int v9_75), .val (.int v10_117)] [(.int (46 : Int32)), (.int ((f_2_1 p1 v7_56 v4_7 own_zI gn) 9))])) _
                    refine XS.icmpYes X8.here hx rfl (pc0 := 147) (pc' := 152) rfl (hb hby at_147) rfl (teq hc147).1 (by decide) (by decide) ?_
                    show Steps p.tables e below (T8.setTop (mkF m 152 #[.val (.int p0), .val (.long p1), .second, .val (.int p2), .val (.int v4_7), .val (.int v5_31), .val (.int v6_38), .val (.int v7_56), .val (.ref b7), .val (.int v9_75), .val (.int v10_117)] [])) _
                    refine XS.iconst X8.here hx rfl (hb hby at_152) ?_
                    show Steps p.tables e below (T8.setTop (mkF m 153 #[.val (.int p0), .val (.long p1), .second, .val (.int p2), .val (.int v4_7), .val (.int v5_31), .val (.int v6_38), .val (.int v7_56), .val (.ref b7), .val (.int v9_75), .val (.int v10_117)] [(.int (1 : Int32))])) _
                    exact retN X8 hx (t := .boolean) Bd.returns (by simp) (hb hby at_153) hr
                  · show Q_0 Z p0 p1 p2 an gn h0 n0 _ T8.heap _
                    exact ⟨congrArg (fun z => some (Value.int z)) (by subst hv4_7 hm5_27 hv5_31 hv6_38 hv7_56 hv9_75 hv10_117; exact ((if_pos hc44).trans ((if_pos hc81).trans ((if_pos hc95).trans ((if_pos hc105).trans ((if_neg hc123).trans ((if_neg hc130).trans ((if_pos hc137).trans (if_pos hc147)))))))).symm : (1 : Int32) = f_0 p0 p1 p2 gn), N8, trivial⟩
                · obtain ⟨fs, hr, hrun, hended, hW, hsame⟩ := X8.leave (v := some (.int (0 : Int32))) (fun h => by rw [Bd.returns] at h; cases h) (BodyLoose.notSynchronized Bd)
                  refine ⟨_, _, pre16 _ ?_, hrun, hended, _, _, rfl, ?_, ⟨_, rfl⟩, hW, hsame.mono (by decide) (by decide)⟩
                  · show Steps p.tables e below (T8.setTop (mkF m 147 #[.val (.int p0), .val (.long p1), .second, .val (.int p2), .val (.int v4_7), .val (.int v5_31), .val (.int v6_38), .val (.int v7_56), .val (.ref b7), .val (.int v9_75), .val (.int v10_117)] [(.int (46 : Int32)), (.int ((f_2_1 p1 v7_56 v4_7 own_zI gn) 9))])) _
                    refine XS.icmpNo X8.here hx rfl (hb hby at_147) rfl (feq hc147).1 ?_
                    show Steps p.tables e below (T8.setTop (mkF m 150 #[.val (.int p0), .val (.long p1), .second, .val (.int p2), .val (.int v4_7), .val (.int v5_31), .val (.int v6_38), .val (.int v7_56), .val (.ref b7), .val (.int v9_75), .val (.int v10_117)] [])) _
                    refine XS.iconst X8.here hx rfl (hb hby at_150) ?_
                    show Steps p.tables e below (T8.setTop (mkF m 151 #[.val (.int p0), .val (.long p1), .second, .val (.int p2), .val (.int v4_7), .val (.int v5_31), .val (.int v6_38), .val (.int v7_56), .val (.ref b7), .val (.int v9_75), .val (.int v10_117)] [(.int (0 : Int32))])) _
                    exact retN X8 hx (t := .boolean) Bd.returns (by simp) (hb hby at_151) hr
                  · show Q_0 Z p0 p1 p2 an gn h0 n0 _ T8.heap _
                    exact ⟨congrArg (fun z => some (Value.int z)) (by subst hv4_7 hm5_27 hv5_31 hv6_38 hv7_56 hv9_75 hv10_117; exact ((if_pos hc44).trans ((if_pos hc81).trans ((if_pos hc95).trans ((if_pos hc105).trans ((if_neg hc123).trans ((if_neg hc130).trans ((if_pos hc137).trans (if_neg hc147)))))))).symm : (0 : Int32) = f_0 p0 p1 p2 gn), N8, trivial⟩
              · obtain ⟨fs, hr, hrun, hended, hW, hsame⟩ := X8.leave (v := some (.int (1 : Int32))) (fun h => by rw [Bd.returns] at h; cases h) (BodyLoose.notSynchronized Bd)
                refine ⟨_, _, pre15 _ ?_, hrun, hended, _, _, rfl, ?_, ⟨_, rfl⟩, hW, hsame.mono (by decide) (by decide)⟩
                · show Steps p.tables e below (T8.setTop (mkF m 137 #[.val (.int p0), .val (.long p1), .second, .val (.int p2), .val (.int v4_7), .val (.int v5_31), .val (.int v6_38), .val (.int v7_56), .val (.ref b7), .val (.int v9_75), .val (.int v10_117)] [(.int v4_7)])) _
                  refine XS.ifYes X8.here hx rfl (pc0 := 137) (pc' := 152) rfl (hb hby at_137) rfl ((if0 _ _).trans (flt hc137).2.2.2) (by decide) (by decide) ?_
                  show Steps p.tables e below (T8.setTop (mkF m 152 #[.val (.int p0), .val (.long p1), .second, .val (.int p2), .val (.int v4_7), .val (.int v5_31), .val (.int v6_38), .val (.int v7_56), .val (.ref b7), .val (.int v9_75), .val (.int v10_117)] [])) _
                  refine XS.iconst X8.here hx rfl (hb hby at_152) ?_
                  show Steps p.tables e below (T8.setTop (mkF m 153 #[.val (.int p0), .val (.long p1), .second, .val (.int p2), .val (.int v4_7), .val (.int v5_31), .val (.int v6_38), .val (.int v7_56), .val (.ref b7), .val (.int v9_75), .val (.int v10_117)] [(.int (1 : Int32))])) _
                  exact retN X8 hx (t := .boolean) Bd.returns (by simp) (hb hby at_153) hr
                · show Q_0 Z p0 p1 p2 an gn h0 n0 _ T8.heap _
                  exact ⟨congrArg (fun z => some (Value.int z)) (by subst hv4_7 hm5_27 hv5_31 hv6_38 hv7_56 hv9_75 hv10_117; exact ((if_pos hc44).trans ((if_pos hc81).trans ((if_pos hc95).trans ((if_pos hc105).trans ((if_neg hc123).trans ((if_neg hc130).trans (if_neg hc137))))))).symm : (1 : Int32) = f_0 p0 p1 p2 gn), N8, trivial⟩
        · obtain ⟨fs, hr, hrun, hended, hW, hsame⟩ := X8.leave (v := some (.int (0 : Int32))) (fun h => by rw [Bd.returns] at h; cases h) (BodyLoose.notSynchronized Bd)
          refine ⟨_, _, pre12 _ ?_, hrun, hended, _, _, rfl, ?_, ⟨_, rfl⟩, hW, hsame.mono (by decide) (by decide)⟩
          · show Steps p.tables e below (T8.setTop (mkF m 105 #[.val (.int p0), .val (.long p1), .second, .val (.int p2), .val (.int v4_7), .val (.int v5_31), .val (.int v6_38), .val (.int v7_56), .val (.ref b7), .val (.int v9_75), .unset] [(.int ((f_2_1 p1 v7_56 v4_7 own_zI gn) v5_31.toNatClampNeg))])) _
            refine XS.ifNo X8.here hx rfl (hb hby at_105) rfl ((if0 _ _).trans (feq hc105).1) ?_
            show Steps p.tables e below (T8.setTop (mkF m 108 #[.val (.int p0), .val (.long p1), .second, .val (.int p2), .val (.int v4_7), .val (.int v5_31), .val (.int v6_38), .val (.int v7_56), .val (.ref b7), .val (.int v9_75), .unset] [])) _
            refine XS.iconst X8.here hx rfl (hb hby at_108) ?_
            show Steps p.tables e below (T8.setTop (mkF m 109 #[.val (.int p0), .val (.long p1), .second, .val (.int p2), .val (.int v4_7), .val (.int v5_31), .val (.int v6_38), .val (.int v7_56), .val (.ref b7), .val (.int v9_75), .unset] [(.int (0 : Int32))])) _
            exact retN X8 hx (t := .boolean) Bd.returns (by simp) (hb hby at_109) hr
          · show Q_0 Z p0 p1 p2 an gn h0 n0 _ T8.heap _
            exact ⟨congrArg (fun z => some (Value.int z)) (by subst hv4_7 hm5_27 hv5_31 hv6_38 hv7_56 hv9_75; exact ((if_pos hc44).trans ((if_pos hc81).trans ((if_pos hc95).trans (if_neg hc105)))).symm : (0 : Int32) = f_0 p0 p1 p2 gn), N8, trivial⟩
      · obtain ⟨fs, hr, hrun, hended, hW, hsame⟩ := X8.leave (v := some (.int (0 : Int32))) (fun h => by rw [Bd.returns] at h; cases h) (BodyLoose.notSynchronized Bd)
        refine ⟨_, _, pre11 _ ?_, hrun, hended, _, _, rfl, ?_, ⟨_, rfl⟩, hW, hsame.mono (by decide) (by decide)⟩
        · show Steps p.tables e below (T8.setTop (mkF m 95 #[.val (.int p0), .val (.long p1), .second, .val (.int p2), .val (.int v4_7), .val (.int v5_31), .val (.int v6_38), .val (.int v7_56), .val (.ref b7), .val (.int v9_75), .unset] [(.int (90 : Int32)), (.int ((f_2_1 p1 v7_56 v4_7 own_zI gn) (v5_31 - (1 : Int32)).toNatClampNeg))])) _
          refine XS.icmpNo X8.here hx rfl (hb hby at_95) rfl (feq hc95).1 ?_
          show Steps p.tables e below (T8.setTop (mkF m 98 #[.val (.int p0), .val (.long p1), .second, .val (.int p2), .val (.int v4_7), .val (.int v5_31), .val (.int v6_38), .val (.int v7_56), .val (.ref b7), .val (.int v9_75), .unset] [])) _
          refine XS.iconst X8.here hx rfl (hb hby at_98) ?_
          show Steps p.tables e below (T8.setTop (mkF m 99 #[.val (.int p0), .val (.long p1), .second, .val (.int p2), .val (.int v4_7), .val (.int v5_31), .val (.int v6_38), .val (.int v7_56), .val (.ref b7), .val (.int v9_75), .unset] [(.int (0 : Int32))])) _
          exact retN X8 hx (t := .boolean) Bd.returns (by simp) (hb hby at_99) hr
        · show Q_0 Z p0 p1 p2 an gn h0 n0 _ T8.heap _
          exact ⟨congrArg (fun z => some (Value.int z)) (by subst hv4_7 hm5_27 hv5_31 hv6_38 hv7_56 hv9_75; exact ((if_pos hc44).trans ((if_pos hc81).trans (if_neg hc95))).symm : (0 : Int32) = f_0 p0 p1 p2 gn), N8, trivial⟩
    · obtain ⟨fs, hr, hrun, hended, hW, hsame⟩ := X8.leave (v := some (.int (0 : Int32))) (fun h => by rw [Bd.returns] at h; cases h) (BodyLoose.notSynchronized Bd)
      refine ⟨_, _, pre10 _ ?_, hrun, hended, _, _, rfl, ?_, ⟨_, rfl⟩, hW, hsame.mono (by decide) (by decide)⟩
      · show Steps p.tables e below (T8.setTop (mkF m 81 #[.val (.int p0), .val (.long p1), .second, .val (.int p2), .val (.int v4_7), .val (.int v5_31), .val (.int v6_38), .val (.int v7_56), .val (.ref b7), .val (.int v9_75), .unset] [(.int v5_31), (.int v9_75)])) _
        refine XS.icmpNo X8.here hx rfl (hb hby at_81) rfl (feq hc81).1 ?_
        show Steps p.tables e below (T8.setTop (mkF m 84 #[.val (.int p0), .val (.long p1), .second, .val (.int p2), .val (.int v4_7), .val (.int v5_31), .val (.int v6_38), .val (.int v7_56), .val (.ref b7), .val (.int v9_75), .unset] [])) _
        refine XS.iconst X8.here hx rfl (hb hby at_84) ?_
        show Steps p.tables e below (T8.setTop (mkF m 85 #[.val (.int p0), .val (.long p1), .second, .val (.int p2), .val (.int v4_7), .val (.int v5_31), .val (.int v6_38), .val (.int v7_56), .val (.ref b7), .val (.int v9_75), .unset] [(.int (0 : Int32))])) _
        exact retN X8 hx (t := .boolean) Bd.returns (by simp) (hb hby at_85) hr
      · show Q_0 Z p0 p1 p2 an gn h0 n0 _ T8.heap _
        exact ⟨congrArg (fun z => some (Value.int z)) (by subst hv4_7 hm5_27 hv5_31 hv6_38 hv7_56 hv9_75; exact ((if_pos hc44).trans (if_neg hc81)).symm : (0 : Int32) = f_0 p0 p1 p2 gn), N8, trivial⟩
  · obtain ⟨fs, hr, hrun, hended, hW, hsame⟩ := X3.leave (v := some (.int (0 : Int32))) (fun h => by rw [Bd.returns] at h; cases h) (BodyLoose.notSynchronized Bd)
    refine ⟨_, _, pre5 _ ?_, hrun, hended, _, _, rfl, ?_, ⟨_, rfl⟩, hW, hsame.mono (by decide) (by decide)⟩
    · show Steps p.tables e below (T3.setTop (mkF m 44 #[.val (.int p0), .val (.long p1), .second, .val (.int p2), .val (.int v4_7), .val (.int v5_31), .val (.int v6_38), .unset, .unset, .unset, .unset] [(.int v5_31), (.int v6_38)])) _
      refine XS.icmpNo X3.here hx rfl (hb hby at_44) rfl (feq hc44).1 ?_
      show Steps p.tables e below (T3.setTop (mkF m 47 #[.val (.int p0), .val (.long p1), .second, .val (.int p2), .val (.int v4_7), .val (.int v5_31), .val (.int v6_38), .unset, .unset, .unset, .unset] [])) _
      refine XS.iconst X3.here hx rfl (hb hby at_47) ?_
      show Steps p.tables e below (T3.setTop (mkF m 48 #[.val (.int p0), .val (.long p1), .second, .val (.int p2), .val (.int v4_7), .val (.int v5_31), .val (.int v6_38), .unset, .unset, .unset, .unset] [(.int (0 : Int32))])) _
      exact retN X3 hx (t := .boolean) Bd.returns (by simp) (hb hby at_48) hr
    · show Q_0 Z p0 p1 p2 an gn h0 n0 _ T3.heap _
      rw [e3]
      exact ⟨congrArg (fun z => some (Value.int z)) (by subst hv4_7 hm5_27 hv5_31 hv6_38; exact (if_neg hc44).symm : (0 : Int32) = f_0 p0 p1 p2 gn), N3, trivial⟩
theorem own_dgv (r : Int32) (h : 0 ≤ r.toInt) : (own_dg r).toInt = 48 + r.toInt % 10 := by
  have a1 := (c_irem r 10 10 (by decide)).1 h
  have a2 := c_iadd 48 (r % 10)
  have r2 := rng32 (48 + r % 10)
  have b1 := c_i2b (48 + r % 10)
  have b2 := c_i2b (48 + r % 10).toInt8.toInt32
  have l : (48 : Int32).toInt = 48 := by decide
  unfold own_dg
  omega
theorem own_putv : ∀ (k : Nat) (g : Nat → Int32) (s : Nat) (r : Int32) (i : Nat), 0 ≤ r.toInt → (own_put g s k r i).toInt = if s ≤ i ∧ i < s + k then 48 + (r.toInt / 10 ^ (s + k - 1 - i)) % 10 else (g i).toInt
  | 0, g, s, r, i, _ => by
    rw [if_neg (by omega)]
    rfl
  | k + 1, g, s, r, i, h => by
    have d := (c_idiv r 10 10 (by decide) (by decide)).1 h
    have ih := own_putv k (own_upd g (s + k) (own_dg r)) s (r / 10) i (by omega)
    show (own_put (own_upd g (s + k) (own_dg r)) s k (r / 10) i).toInt = _
    rw [ih, d]
    by_cases c1 : s ≤ i ∧ i < s + k
    · rw [if_pos c1, if_pos (by omega)]
      have e : s + (k + 1) - 1 - i = (s + k - 1 - i) + 1 := by omega
      rw [e, Int.pow_succ, Int.mul_comm, Int.ediv_ediv_of_nonneg (by decide)]
    · rw [if_neg c1]
      by_cases c2 : i = s + k
      · rw [if_pos (by omega)]
        have e : s + (k + 1) - 1 - i = 0 := by omega
        rw [e, Int.pow_zero, Int.ediv_one]
        unfold own_upd
        rw [if_pos c2]
        exact own_dgv r h
      · rw [if_neg (by omega)]
        unfold own_upd
        rw [if_neg c2]
theorem own_fm (x : Int64) : 0 ≤ (f_3 x).toInt ∧ (f_3 x).toInt < 86400 := by
  have l : ((86400 : Int32).toInt64) = (86400 : Int64) := by decide
  have lv : (86400 : Int64).toInt = 86400 := by decide
  have l0 : (0 : Int64).toInt = 0 := by decide
  have m : (x % 86400).toInt = x.toInt.tmod 86400 := by rw [Int64.toInt_mod, lv]
  have t := tr x.toInt 86400
  have xs := c_xorSL x 86400
  simp only [f_3, f_4, l]
  rcases Int.lt_or_le x.toInt 0 with h | h
  · have t2 := t.2 h
    have s : (x ^^^ 86400) < 0 := by rw [Int64.lt_iff_toInt_lt, l0]; exact xs.2.1 h (by omega)
    rw [if_pos s]
    by_cases z : x % 86400 = 0
    · rw [if_pos z, z]; decide
    · rw [if_neg z]
      have z' : (x % 86400).toInt ≠ 0 := fun q => z (Int64.toInt_inj.mp (q.trans l0.symm))
      have a := c_ladd (x % 86400) 86400
      have r := rng64 (x % 86400 + 86400)
      have b := c_l2i (x % 86400 + 86400)
      have rb := rng32 (x % 86400 + 86400).toInt32
      omega
  · have t1 := t.1 h
    have s : ¬ (x ^^^ 86400) < 0 := by rw [Int64.lt_iff_toInt_lt, l0]; have := xs.2.2.2 h (by omega); omega
    rw [if_neg s]
    have b := c_l2i (x % 86400)
    have rb := rng32 (x % 86400).toInt32
    omega
theorem own_out : ∀ (k : Nat) (g : Nat → Int32) (s : Nat) (r : Int32) (i : Nat), ¬ (s ≤ i ∧ i < s + k) → own_put g s k r i = g i
  | 0, _, _, _, _, _ => rfl
  | k + 1, g, s, r, i, h => by
    show own_put (own_upd g (s + k) (own_dg r)) s k (r / 10) i = _
    rw [own_out k _ s _ i (by omega)]
    exact if_neg (by omega)
theorem own_last (k : Nat) (g : Nat → Int32) (s : Nat) (r : Int32) (i : Nat) (h : i = s + k) : own_put g s (k + 1) r i = own_dg r := by
  show own_put (own_upd g (s + k) (own_dg r)) s k (r / 10) i = _
  rw [own_out k _ s _ i (by omega)]
  exact if_pos h
theorem own_ne {g : Nat → Int32} {k i : Nat} {x : Int32} (h : i ≠ k) : own_upd g k x i = g i := if_neg h
theorem own_eqd {g : Nat → Int32} {k i : Nat} {x : Int32} (h : i = k) : own_upd g k x i = x := if_pos h
theorem own_G (p1 : Int64) (n d w : Int32) (gn : Nat → Int32) (hd : 0 ≤ d.toInt ∧ d.toInt ≤ 9) (hn : 0 ≤ n.toInt) (hg : ∀ i, i < 10 → 0 < (gn i).toInt) (hw : w.toInt = if d.toInt = 0 then 10 else 11 + d.toInt) :
    f_2_1 p1 n d own_zI gn (w - 1).toNatClampNeg = 90 ∧ f_2_1 p1 n d own_zI gn w.toNatClampNeg = 0 ∧ (48 ≤ (f_2_1 p1 n d own_zI gn (w - 2).toNatClampNeg).toInt ∧ (f_2_1 p1 n d own_zI gn (w - 2).toNatClampNeg).toInt ≤ 57) ∧ ((0 : Int32) < d → f_2_1 p1 n d own_zI gn 9 = 46) := by
  have ve : (0 : Int32) + f_1 d = w := Int32.toInt_inj.mp ((own_e0 hd rfl).trans hw.symm)
  have k : 10 ≤ w.toInt ∧ w.toInt ≤ 20 := by rw [hw]; split <;> omega
  have l1 : (1 : Int32).toInt = 1 := by decide
  have l2 : (2 : Int32).toInt = 2 := by decide
  have l0 : (0 : Int32).toInt = 0 := by decide
  have a1 := c_isub w 1
  have r1 := rng32 (w - 1)
  have a2 := c_isub w 2
  have r2 := rng32 (w - 2)
  have w0 := nat_of (own_bn (a := w) (by omega))
  have w1 := nat_of (own_bn (a := w - 1) (by omega))
  have w2 := nat_of (own_bn (a := w - 2) (by omega))
  have e1 : (w - 1).toNatClampNeg = w.toNatClampNeg - 1 := by omega
  have e2 : (w - 2).toNatClampNeg = w.toNatClampNeg - 2 := by omega
  have fm := own_fm p1
  have s1 := (c_irem (f_3 p1) 60 60 (by decide)).1 fm.1
  have d0 := nat_of (own_bn hd.1)
  have q90 : (90 : Int32).toInt8.toInt32 = 90 := by decide
  have q46 : (46 : Int32).toInt8.toInt32 = 46 := by decide
  have n7 : ((0 : Int32) + (7 : Int32)).toNatClampNeg = 7 := by decide
  have n4 : ((0 : Int32) + (4 : Int32)).toNatClampNeg = 4 := by decide
  have n1 : ((0 : Int32) + (1 : Int32)).toNatClampNeg = 1 := by decide
  have n10 : ((0 : Int32) + (10 : Int32)).toNatClampNeg = 10 := by decide
  have n2 : (2 : Int32).toNatClampNeg = 1 + 1 := by decide
  rw [e1, e2]
  simp only [f_2_1, ve, e1, q90, q46, n7, n4, n1, n10, n2]
  generalize w.toNatClampNeg = W at *
  generalize f_3 p1 = sd at *
  generalize hB : own_put (own_upd (own_put (own_upd (own_put (own_upd own_zI 0 (84 : Int32).toInt8.toInt32) 1 (1 + 1) (sd / 3600)) 3 (58 : Int32).toInt8.toInt32) 4 (1 + 1) (sd / 60 % 60)) 6 (58 : Int32).toInt8.toInt32) 7 (1 + 1) (sd % 60) = B at *
  have B9 : ∀ i, 9 ≤ i → B i = 0 := fun i hi => by
    rw [← hB, own_out _ _ _ _ _ (by omega), own_ne (by omega), own_out _ _ _ _ _ (by omega), own_ne (by omega), own_out _ _ _ _ _ (by omega), own_ne (by omega)]
    rfl
  have B8 : 48 ≤ (B 8).toInt ∧ (B 8).toInt ≤ 57 := by
    rw [← hB, own_last 1 _ 7 _ 8 rfl, own_dgv _ (by omega)]
    omega
  by_cases c : (0 : Int32) < d
  · have c' := c
    rw [Int32.lt_iff_toInt_lt] at c'
    rw [if_neg (by omega)] at hw
    rw [if_pos c]
    obtain ⟨D, hD⟩ : ∃ D, d.toNatClampNeg = D + 1 := ⟨d.toNatClampNeg - 1, by omega⟩
    have gp := hg d.toNatClampNeg (by omega)
    have dv := (c_idivV n (gn d.toNatClampNeg) hn gp).1
    rw [hD] at dv ⊢
    refine ⟨own_eqd rfl, ?_, ?_, fun _ => ?_⟩
    · rw [own_ne (by omega), own_out _ _ _ _ _ (by omega), own_ne (by omega)]
      exact B9 _ (by omega)
    · rw [own_ne (by omega), own_last D _ 10 _ (W - 2) (by omega), own_dgv _ dv]
      omega
    · rw [own_ne (by omega), own_out _ _ _ _ _ (by omega), own_eqd rfl]
  · have c' := c
    rw [Int32.lt_iff_toInt_lt] at c'
    rw [if_pos (by omega)] at hw
    rw [if_neg c]
    refine ⟨own_eqd rfl, ?_, ?_, fun h => absurd h c⟩
    · rw [own_ne (by omega)]
      exact B9 _ (by omega)
    · rw [own_ne (by omega), show W - 2 = 8 by omega]
      exact B8
theorem own_law (p0 : Int32) (p1 : Int64) (p2 : Int32) : f_0 p0 p1 p2 own_N = 1 := by
  have hd := own_hd (x := p0) rfl
  have hw := own_xv (x := p0) rfl rfl rfl
  have a1 := c_mask p2 2147483647 31 (by decide) (by decide)
  have a2 := (c_irem (p2 &&& 2147483647) 1000000000 1000000000 (by decide)).1 (by omega)
  have g := own_G p1 ((p2 &&& 2147483647) % 1000000000) _ _ own_N hd (by omega) own_Np hw
  have t1 := Int32.toInt_inj.mp ((own_tl hd).trans hw.symm)
  have t2 := Int32.toInt_inj.mp ((own_e0 hd rfl).trans hw.symm)
  have f2 : f_2 p1 ((p2 &&& 2147483647) % 1000000000) ((p0 &&& 2147483647) % 10) own_zI own_N = (0 : Int32) + f_1 ((p0 &&& 2147483647) % 10) := rfl
  obtain ⟨g1, g2, g3, g4⟩ := g
  simp only [f_0, f2]
  rw [if_pos t1, if_pos t2, if_pos g1, if_pos g2]
  have l48 : (48 : Int32).toInt = 48 := by decide
  have l57 : (57 : Int32).toInt = 57 := by decide
  rw [if_neg (by rw [Int32.lt_iff_toInt_lt]; omega), if_neg (by rw [Int32.lt_iff_toInt_lt]; omega)]
  by_cases c : (0 : Int32) < (p0 &&& 2147483647) % 10
  · rw [if_pos c, if_pos (g4 c)]
  · rw [if_neg c]
set_option maxRecDepth 65536 in
set_option maxHeartbeats 40000000 in
theorem comes_1 {Post : Tables → Env → Array Value → State → Outcome → State → Prop} (hpost : ∀ tb e args s v u, (limb_1_1.after args s (.returned v) u = true ∧ limb_1_2.after args s (.returned v) u = true ∧ True) → FrameEnd s (.returned v) u (Jvm.fieldLocs frame_1_writes args s ++ Jvm.arrayLocs frame_1_arrays args s ++ Jvm.staticLocs frame_1_statics s) 16 128 → Post tb e args s (.returned v) u) :
    ArmFor flags0 classFile x code maxLocals ret World_1 tables_1 room_1 Calls_1 rest_1 Pre_1 Post := by
  intro l hfl _ _ p e ha hc hk s m args below hf hA hF happ hP
  obtain ⟨hcalls, hrest, hpre⟩ := hP
  obtain ⟨-, -, -, hnamed, -, -, -, hat⟩ := (Spec.applies_iff hf).mp happ
  obtain ⟨hg, hn⟩ := and_e (Cond.before_iff.mp (show (Jvm.Cond.and given_1 narrow_1).before args s = true from hpre))
  obtain ⟨g0, gt0⟩ := and_e hg
  obtain ⟨ga0, gt1⟩ := and_e gt0
  obtain ⟨ga1, gt2⟩ := and_e gt1
  obtain ⟨w0, w1, w2, rfl⟩ : ∃ w0 w1 w2 : Value, args = #[w0, w1, w2] := by
    have hs : args.size = 3 := by simpa [Cond.value, given_1] using g0
    obtain ⟨L⟩ := args
    match L, hs with
    | [w0, w1, w2], _ => exact ⟨w0, w1, w2, rfl⟩
  have hw := fun d (hd : d ∈ tables_1) => atoms_spec (ws := Jvm.Cond.code x code maxLocals ret :: tables_1) hat d (List.mem_cons_of_mem _ hd)
  have hfit : Fit s := fun {y c} hc i hi => by
    obtain ⟨ha, rfl⟩ := Array.getElem?_eq_some_iff.mp hc
    have q := List.all_eq_true.mp ((Array.all_eq_true_iff_forall_mem.mp hF) _ (Array.getElem_mem ha)) i (List.mem_range.mpr hi)
    simpa [Array.getElem?_eq_getElem hi] using q
  obtain ⟨i0, ei0⟩ := is_v ga0
  obtain rfl : w0 = (.int i0) := Option.some.inj ei0
  obtain ⟨i1, ei1⟩ := isL_v ga1
  obtain rfl : w1 = (.long i1) := Option.some.inj ei1
  obtain ⟨i2, ei2⟩ := is_v gt2
  obtain rfl : w2 = (.int i2) := Option.some.inj ei2
  obtain ⟨c0, d0⟩ := and_e hn
  obtain ⟨c1, d1⟩ := and_e d0
  obtain ⟨c2, d2⟩ := and_e d1
  obtain ⟨c3, d3⟩ := and_e d2
  obtain ⟨c4, d4⟩ := and_e d3
  obtain ⟨c5, d5⟩ := and_e d4
  obtain ⟨c6, d6⟩ := and_e d5
  obtain ⟨c7, d7⟩ := and_e d6
  obtain ⟨c8, d8⟩ := and_e d7
  obtain ⟨c9, d9⟩ := and_e d8
  obtain ⟨c10, d10⟩ := and_e d9
  obtain ⟨an, ev⟩ := arr_v c0
  have S0 : Sta s s.heap "com/example/dayt/dayt/text/TextForm" "NANOS_PER_FRACTION_UNIT" "[I" (.ref an) := Sta.start ev (Or.inr ⟨hw _ (List.mem_of_getElem? (i := 3) rfl), hw _ (List.mem_of_getElem? (i := 23) rfl)⟩)
  have A0 : own_A s s.heap an .int 10 (fun i => .int (own_N i)) := own_A_start (vs := [1000000000, 100000000, 10000000, 1000000, 100000, 10000, 1000, 100, 10, 1]) hfit ev c0 (own_eqi c1) (by decide) ⟨own_eqi c2, own_eqi c3, own_eqi c4, own_eqi c5, own_eqi c6, own_eqi c7, own_eqi c8, own_eqi c9, own_eqi c10, own_eqi d10, trivial⟩
  obtain ⟨n, o, h1, h2, h3, _, L, rfl, ⟨rfl, N⟩, hq⟩ := rm_0 l s _ hw tables_1 i0 i1 i2 an own_N s.heap s.heap.size (Nat.le_refl _) S0 A0 own_Np p e ha hc hk s m _ below hf ((Spec.applies_iff_loose hf).mp happ).1 ⟨rfl, State.Warmed39.refl s, rfl⟩ trivial
  refine ⟨n, _, h1, h2, h3, hpost _ _ _ _ _ _ ⟨Cond.after_iff.mpr rfl, Cond.after_iff.mpr (eq_i res_at (Term.int_eval (1)) (congrArg Value.int (own_law _ _ _))), trivial⟩ ⟨hq.1, hq.2.1, (hq.2.2.sift fun y hy => Or.inr (N.1 y hy)).mono (by decide) (by decide)⟩⟩
theorem main_1_1 : Claimed_1_1 := comes_1 fun _ _ _ _ _ _ h hF => ⟨h.1, hF⟩
theorem main_1_2 : Claimed_1_2 := comes_1 fun _ _ _ _ _ _ h hF => ⟨h.2.1, hF⟩
end Jvm.Pilot.@@N@@
namespace Jvm.Pilot.@@N@@
open Jvm Jvm.ClassFile Sem Op Lib Jvm.Free Jvm.Stand Jvm.Pilot.@@N@@.Jvm.D
/-! MADE BY PROGRAM (witnessworld.py) out of the Statement's table words and the real class files: 10 classes; the members and pool entries that the words name. The judged class is class 1, her method 1. -/
namespace start1
open Jvm.ClassFile
def u (s : String) : CpInfo := .utf8 (stringToUtf16 s)
/-- a pool by its gaps: so many unusable entries, then the entry; so many at the end -/
def gap : Nat → List CpInfo → List CpInfo
  | 0, r => r
  | n + 1, r => .unusable :: gap n r
def poolList (es : List (Nat × CpInfo)) (last : Nat) : List CpInfo := es.foldr (fun e r => gap e.1 (e.2 :: r)) (gap last [])
def pool (es : List (Nat × CpInfo)) (last : Nat) : Array CpInfo := ⟨poolList es last⟩
def fileOf (pool : Array CpInfo) (this : Nat) (attrs : Array Attribute := #[]) (ms : Array MethodInfo := #[]) (fl : Nat := 33) (sup : Nat := 0) (ifs : Array Nat := #[]) (fds : Array FieldInfo := #[]) : ClassFile where
  minorVersion := 0
  majorVersion := 65
  constantPool := pool
  accessFlags := fl
  thisClass := this
  superClass := sup
  interfaces := ifs
  fields := fds
  methods := ms
  attributes := attrs
def plain (name : String) (sup : Option ClassId) : Class where
  name := name
  kind := .ordinary
  loader := none
  accessFlags := 33
  super := sup
  interfaces := #[]
  cf := none
  fields := #[]
  methods := #[]
  instanceTypes := #[]
  staticTypes := #[]
  resolved := #[]
  callSites := []
  init := .initialized
  statics := none
  mirror := none

def pool0 : Array CpInfo := pool [(5, u "<init>"), (0, u "()V"), (1, .class_ 10), (1, u "java/lang/Object")] 113

def k0m0 : Method := { name := "<init>", desc := "()V", sig := { parameters := [], returnType := none }, accessFlags := 1, code := none }
/-- java/lang/Object -/
def k0 : Class := { plain "java/lang/Object" none with
  accessFlags := 33
  interfaces := #[]
  cf := some (fileOf pool0 8 #[] #[{ accessFlags := 1, nameIndex := 5, descriptorIndex := 6, attributes := #[] }] 33 0 #[] #[])
  fields := #[]
  methods := #[k0m0]
  instanceTypes := #[]
  staticTypes := #[]
  resolved := Array.replicate 124 none
  statics := none }

def pool1 : Array CpInfo := pool [(2, .class_ 4), (1, u "java/lang/Object"), (0, u "<init>"), (0, u "()V"), (0, .integer 2147483647), (0, .methodref 9 10), (0, .class_ 11), (0, .nameAndType 12 13), (0, u "com/example/dayt/dayt/text/TextForm"), (0, u "timeLength"), (0, u "(I)I"), (0, .integer 1000000000), (0, .methodref 9 16), (0, .nameAndType 17 18), (0, u "putTime"), (0, u "([BIJII)I"), (0, .class_ 20), (0, u "com/example/dayt/dayt/text/TextFormTimeLengthPinLaw"), (2, u "law"), (0, u "(IJI)Z")] 5

def k1m0 : Method := { name := "<init>", desc := "()V", sig := { parameters := [], returnType := none }, accessFlags := 1, code := none }
def k1c1 : Code := { maxStack := 6, maxLocals := 11, code := code, exceptionTable := #[], attributes := #[] }
def k1m1 : Method := { name := "law", desc := "(IJI)Z", sig := { parameters := [.int, .long, .int], returnType := some .boolean }, accessFlags := 9, code := some k1c1 }
/-- com/example/dayt/dayt/text/TextFormTimeLengthPinLaw -/
def k1 : Class := { plain "com/example/dayt/dayt/text/TextFormTimeLengthPinLaw" (some 0) with
  accessFlags := 49
  interfaces := #[]
  cf := some (fileOf pool1 19 #[] #[{ accessFlags := 1, nameIndex := 5, descriptorIndex := 6, attributes := #[] }, { accessFlags := 9, nameIndex := 23, descriptorIndex := 24, attributes := #[] }] 49 2 #[] #[])
  fields := #[]
  methods := #[k1m0, k1m1]
  instanceTypes := #[]
  staticTypes := #[]
  resolved := Array.replicate 30 none
  statics := none }

def pool2 : Array CpInfo := pool [(2, .class_ 4), (1, u "java/lang/Object"), (3, .class_ 10), (1, u "com/example/dayt/dayt/text/TextForm"), (0, u "kind"), (0, u "Ljava/lang/String;"), (2, u "shape"), (0, .integer 86400), (1, .class_ 20), (1, u "java/lang/Math"), (8, .methodref 8 30), (0, .nameAndType 31 32), (0, u "putDigits"), (0, u "([BIII)V"), (10, u "(I)I"), (1, .methodref 18 46), (0, .nameAndType 47 48), (0, u "floorMod"), (0, u "(JI)I"), (0, .fieldref 8 50), (0, .nameAndType 51 52), (0, u "NANOS_PER_FRACTION_UNIT"), (0, u "[I"), (0, .methodref 8 54), (0, .nameAndType 55 43), (0, u "timeLength"), (79, u "DATE_LENGTH"), (0, u "I"), (4, u "YEAR_DIGITS"), (2, u "SECONDS_PER_DAY"), (8, u "putTime"), (0, u "([BIJII)I")] 30

def k2c0 : Code := { maxStack := 2, maxLocals := 1, code := prog_23_method_6_code, exceptionTable := #[], attributes := #[] }
def k2m0 : Method := { name := "timeLength", desc := "(I)I", sig := { parameters := [.int], returnType := some .int }, accessFlags := 8, code := some k2c0 }
def k2c1 : Code := { maxStack := 6, maxLocals := 8, code := prog_23_method_7_code, exceptionTable := #[], attributes := #[] }
def k2m1 : Method := { name := "putTime", desc := "([BIJII)I", sig := { parameters := [(.array .byte), .int, .long, .int, .int], returnType := some .int }, accessFlags := 8, code := some k2c1 }
def k2c2 : Code := { maxStack := 5, maxLocals := 6, code := prog_23_method_8_code, exceptionTable := #[], attributes := #[] }
def k2m2 : Method := { name := "putDigits", desc := "([BIII)V", sig := { parameters := [(.array .byte), .int, .int, .int], returnType := none }, accessFlags := 8, code := some k2c2 }
/-- com/example/dayt/dayt/text/TextForm -/
def k2 : Class := { plain "com/example/dayt/dayt/text/TextForm" (some 0) with
  accessFlags := 32
  interfaces := #[]
  cf := some (fileOf pool2 8 #[] #[{ accessFlags := 8, nameIndex := 55, descriptorIndex := 43, attributes := #[] }, { accessFlags := 8, nameIndex := 153, descriptorIndex := 154, attributes := #[] }, { accessFlags := 8, nameIndex := 31, descriptorIndex := 32, attributes := #[] }] 32 2 #[] #[{ accessFlags := 24, nameIndex := 141, descriptorIndex := 136, attributes := #[] }, { accessFlags := 24, nameIndex := 135, descriptorIndex := 136, attributes := #[] }, { accessFlags := 24, nameIndex := 144, descriptorIndex := 136, attributes := #[] }, { accessFlags := 24, nameIndex := 51, descriptorIndex := 52, attributes := #[] }, { accessFlags := 18, nameIndex := 11, descriptorIndex := 12, attributes := #[] }, { accessFlags := 18, nameIndex := 15, descriptorIndex := 12, attributes := #[] }])
  fields := #[{ name := "YEAR_DIGITS", type := .int, accessFlags := 24, slot := 0, constantValue := 0 }, { name := "DATE_LENGTH", type := .int, accessFlags := 24, slot := 1, constantValue := 0 }, { name := "SECONDS_PER_DAY", type := .int, accessFlags := 24, slot := 2, constantValue := 0 }, { name := "NANOS_PER_FRACTION_UNIT", type := (.array .int), accessFlags := 24, slot := 3, constantValue := 0 }, { name := "kind", type := (.object "java/lang/String"), accessFlags := 18, slot := 0, constantValue := 0 }, { name := "shape", type := (.object "java/lang/String"), accessFlags := 18, slot := 1, constantValue := 0 }]
  methods := #[k2m0, k2m1, k2m2]
  instanceTypes := #[(.object "java/lang/String"), (.object "java/lang/String")]
  staticTypes := #[.int, .int, .int, (.array .int)]
  resolved := Array.replicate 185 none
  statics := some 0 }

def pool3 : Array CpInfo := pool [(1, .class_ 2), (0, u "java/lang/Math"), (1, .class_ 6), (1, u "java/lang/Object"), (0, u "<init>"), (0, u "()V"), (89, .class_ 100), (1, u "java/lang/Math$RandomNumberGeneratorHolder"), (20, u "(JJ)J"), (24, .methodref 1 147), (0, .nameAndType 148 121), (0, u "floorMod"), (23, u "negativeZeroFloatBits"), (0, u "J"), (2, u "negativeZeroDoubleBits"), (68, u "$assertionsDisabled"), (0, u "Z"), (91, u "twoToTheDoubleScaleDown"), (0, u "D"), (4, u "twoToTheDoubleScaleUp"), (9, u "E"), (3, u "PI"), (2, u "TAU"), (2, u "DEGREES_TO_RADIANS"), (0, u "RADIANS_TO_DEGREES"), (54, u "(JI)I")] 39

def k3m0 : Method := { name := "<init>", desc := "()V", sig := { parameters := [], returnType := none }, accessFlags := 2, code := none }
def k3c1 : Code := { maxStack := 4, maxLocals := 3, code := jdk_29_method_51_code, exceptionTable := #[], attributes := #[] }
def k3m1 : Method := { name := "floorMod", desc := "(JI)I", sig := { parameters := [.long, .int], returnType := some .int }, accessFlags := 9, code := some k3c1 }
def k3c2 : Code := { maxStack := 4, maxLocals := 6, code := jdk_29_method_52_code, exceptionTable := #[], attributes := #[] }
def k3m2 : Method := { name := "floorMod", desc := "(JJ)J", sig := { parameters := [.long, .long], returnType := some .long }, accessFlags := 9, code := some k3c2 }
/-- java/lang/Math -/
def k3 : Class := { plain "java/lang/Math" (some 0) with
  accessFlags := 49
  interfaces := #[]
  cf := some (fileOf pool3 1 #[.nestMembers #[98]] #[{ accessFlags := 2, nameIndex := 7, descriptorIndex := 8, attributes := #[] }, { accessFlags := 9, nameIndex := 148, descriptorIndex := 420, attributes := #[] }, { accessFlags := 9, nameIndex := 148, descriptorIndex := 121, attributes := #[] }] 49 4 #[] #[{ accessFlags := 25, nameIndex := 354, descriptorIndex := 339, attributes := #[] }, { accessFlags := 25, nameIndex := 358, descriptorIndex := 339, attributes := #[] }, { accessFlags := 25, nameIndex := 361, descriptorIndex := 339, attributes := #[] }, { accessFlags := 26, nameIndex := 364, descriptorIndex := 339, attributes := #[] }, { accessFlags := 26, nameIndex := 365, descriptorIndex := 339, attributes := #[] }, { accessFlags := 26, nameIndex := 172, descriptorIndex := 173, attributes := #[] }, { accessFlags := 26, nameIndex := 176, descriptorIndex := 173, attributes := #[] }, { accessFlags := 8, nameIndex := 344, descriptorIndex := 339, attributes := #[] }, { accessFlags := 8, nameIndex := 338, descriptorIndex := 339, attributes := #[] }, { accessFlags := 4120, nameIndex := 245, descriptorIndex := 246, attributes := #[] }])
  fields := #[{ name := "E", type := .double, accessFlags := 25, slot := 0, constantValue := 0 }, { name := "PI", type := .double, accessFlags := 25, slot := 1, constantValue := 0 }, { name := "TAU", type := .double, accessFlags := 25, slot := 2, constantValue := 0 }, { name := "DEGREES_TO_RADIANS", type := .double, accessFlags := 26, slot := 3, constantValue := 0 }, { name := "RADIANS_TO_DEGREES", type := .double, accessFlags := 26, slot := 4, constantValue := 0 }, { name := "negativeZeroFloatBits", type := .long, accessFlags := 26, slot := 5, constantValue := 0 }, { name := "negativeZeroDoubleBits", type := .long, accessFlags := 26, slot := 6, constantValue := 0 }, { name := "twoToTheDoubleScaleUp", type := .double, accessFlags := 8, slot := 7, constantValue := 0 }, { name := "twoToTheDoubleScaleDown", type := .double, accessFlags := 8, slot := 8, constantValue := 0 }, { name := "$assertionsDisabled", type := .boolean, accessFlags := 4120, slot := 9, constantValue := 0 }]
  methods := #[k3m0, k3m1, k3m2]
  instanceTypes := #[]
  staticTypes := #[.double, .double, .double, .double, .double, .long, .long, .double, .double, .boolean]
  resolved := Array.replicate 460 none
  statics := none }

def pool4 : Array CpInfo := pool [(1, u "java/lang/Cloneable"), (0, .class_ 1), (0, u "java/lang/Object"), (0, .class_ 3)] 3

/-- java/lang/Cloneable -/
def k4 : Class := { plain "java/lang/Cloneable" (some 0) with
  accessFlags := 1537
  interfaces := #[]
  cf := some (fileOf pool4 2 #[] #[] 1537 4 #[] #[])
  fields := #[]
  methods := #[]
  instanceTypes := #[]
  staticTypes := #[]
  resolved := Array.replicate 8 none
  statics := none }

def pool5 : Array CpInfo := pool [(1, u "java/io/Serializable"), (0, .class_ 1), (0, u "java/lang/Object"), (0, .class_ 3)] 3

/-- java/io/Serializable -/
def k5 : Class := { plain "java/io/Serializable" (some 0) with
  accessFlags := 1537
  interfaces := #[]
  cf := some (fileOf pool5 2 #[] #[] 1537 4 #[] #[])
  fields := #[]
  methods := #[]
  instanceTypes := #[]
  staticTypes := #[]
  resolved := Array.replicate 8 none
  statics := none }

/-- the primitive byte -/
def k6 : Class := { plain "byte" none with kind := .primitive 'B', accessFlags := 0x411 }
/-- [B -/
def k7 : Class := { plain "[B" (some 0) with kind := .array 6 .byte, interfaces := #[4, 5], accessFlags := 1041 }

/-- the primitive int -/
def k8 : Class := { plain "int" none with kind := .primitive 'I', accessFlags := 0x411 }
/-- [I -/
def k9 : Class := { plain "[I" (some 0) with kind := .array 8 .int, interfaces := #[4, 5], accessFlags := 1041 }

def heap : Heap := #[{ cls := 2, slots := #[.int 0, .int 0, .int 0, .ref 1], vm := .statics 2 },
  { cls := 9, slots := #[.int 1000000000, .int 100000000, .int 10000000, .int 1000000, .int 100000, .int 10000, .int 1000, .int 100, .int 10, .int 1], vm := .none }]
def classes : Array Class := #[k0, k1, k2, k3, k4, k5, k6, k7, k8, k9]
def interned : List (Array UInt16 × Addr) := []
def slotsUsed : Nat := 14
def theMethod : MethodId := ⟨1, 1⟩
def args0 : Array Value := #[.int 5, .long 7, .int 9]
def aboutOver (below : List Frame) : State where
  vm := { classes := classes, interned := interned.toArray }
  heap := heap
  slotsUsed := slotsUsed
  threads := #[{ frames := .invoking theMethod args0 :: below }]
def below0 : List Frame := [.native { method := ⟨0, 0⟩, args := #[] }]
def about1 : State := aboutOver below0
def p0 : Program := .bare "" "" ""
def e0 : Env := launch0.env 0 0 0
theorem w_frames : about1.frames = Frame.invoking theMethod args0 :: below0 := rfl
set_option maxRecDepth 65536 in
theorem w_args : argsFit about1.vm theMethod args0 = true := by decide +kernel
set_option maxRecDepth 65536 in
theorem w_heap : heapFits about1 = true := by decide +kernel
set_option maxRecDepth 65536 in
theorem w_runnable : about1.curStatus? = some .runnable := by decide +kernel
set_option maxRecDepth 65536 in
theorem w_alone : about1.alone = true := by decide +kernel
set_option maxRecDepth 65536 in
theorem w_named : about1.methodNamed? x = some theMethod := by decide +kernel
set_option maxRecDepth 65536 in
theorem w_hears : about1.hears theMethod below0 = true := by decide +kernel
set_option maxRecDepth 65536 in
theorem w_ripe : about1.ripe theMethod args0 below0 = true := by decide +kernel
theorem w_running : about1.status = .running := rfl
set_option maxRecDepth 65536 in
theorem w_room : about1.hasRoom e0.platform room_1 = true :=
  launch0.hasRoom_least _ room_1 (by decide +kernel) (by decide +kernel) (by decide +kernel) (by decide +kernel) (by decide +kernel) (by decide +kernel)
theorem allAtoms_all (ts : List Jvm.Cond) (a : Array Jvm.Value) (st : Jvm.State) : (allAtoms ts).before a st = ts.all (fun c => c.before a st) := by
  induction ts with
  | nil => rfl
  | cons c t ih =>
    show (Jvm.Cond.and c (allAtoms t)).before a st = _
    rw [Jvm.Cond.before_and, ih, List.all_cons]
def words1 : List Jvm.Cond := Jvm.Cond.code x code maxLocals ret :: tables_1
/-- a 'code' word, met by the world's own term for the bytes: nothing is compared byte by byte -/
theorem code_word {y : MethodName} {bytes : ByteArray} {mx : Nat} {rt : Option FieldType} {a : Array Value} {s : State} {m : MethodId} {meth : Method} {c : Code} (h1 : s.methodNamed? y = some m) (h2 : s.vm.method? m = some meth) (h3 : meth.code = some c) (h4 : c.code = bytes)
    (h5 : (c.maxLocals == mx && c.exceptionTable.isEmpty && decide (c.maxStack ≤ mostOperands) && decide (meth.sig.returnType = rt) && !meth.locks && decide (parseMethodDescriptor y.desc = some meth.sig)) = true) : (Jvm.Cond.code y bytes mx rt).before a s = true := by
  simp only [Bool.and_eq_true, beq_iff_eq, Bool.not_eq_true', decide_eq_true_eq] at h5
  obtain ⟨⟨⟨⟨⟨g1, g2⟩, g3⟩, g4⟩, g5⟩, g6⟩ := h5
  simp [Cond.before, Cond.holds, Cond.value, h1, h2, h3, h4, g1, g2, g3, g4, g5, g6]
def isCode : Jvm.Cond → Bool
  | .code _ _ _ _ => true
  | _ => false
theorem all_split {L : List Jvm.Cond} {P : Jvm.Cond → Bool} (h1 : L.all (fun c => isCode c || P c) = true) (h2 : ∀ c ∈ L.filter isCode, P c = true) : L.all P = true := by
  refine List.all_eq_true.mpr fun c hc => ?_
  have h := List.all_eq_true.mp h1 c hc
  rcases Bool.eq_false_or_eq_true (isCode c) with hi | hi
  · exact h2 c (List.mem_filter.mpr ⟨hc, hi⟩)
  · simpa [hi] using h
set_option maxRecDepth 65536 in
theorem w_c0 : (Jvm.Cond.code x code maxLocals ret).before args0 about1 = true := code_word (m := ⟨1, 1⟩) (meth := k1m1) (c := k1c1) (by decide +kernel) rfl rfl rfl (by decide +kernel)
set_option maxRecDepth 65536 in
theorem w_c1 : (Jvm.Cond.code ({ cls := "com/example/dayt/dayt/text/TextForm", name := "timeLength", desc := "(I)I" } : Jvm.MethodName) prog_23_method_6_code (1 : Nat) (Option.some Jvm.ClassFile.FieldType.int)).before args0 about1 = true := code_word (m := ⟨2, 0⟩) (meth := k2m0) (c := k2c0) (by decide +kernel) rfl rfl rfl (by decide +kernel)
set_option maxRecDepth 65536 in
theorem w_c2 : (Jvm.Cond.code ({ cls := "com/example/dayt/dayt/text/TextForm", name := "putTime", desc := "([BIJII)I" } : Jvm.MethodName) prog_23_method_7_code (8 : Nat) (Option.some Jvm.ClassFile.FieldType.int)).before args0 about1 = true := code_word (m := ⟨2, 1⟩) (meth := k2m1) (c := k2c1) (by decide +kernel) rfl rfl rfl (by decide +kernel)
set_option maxRecDepth 65536 in
theorem w_c3 : (Jvm.Cond.code ({ cls := "java/lang/Math", name := "floorMod", desc := "(JI)I" } : Jvm.MethodName) jdk_29_method_51_code (3 : Nat) (Option.some Jvm.ClassFile.FieldType.int)).before args0 about1 = true := code_word (m := ⟨3, 1⟩) (meth := k3m1) (c := k3c1) (by decide +kernel) rfl rfl rfl (by decide +kernel)
set_option maxRecDepth 65536 in
theorem w_c4 : (Jvm.Cond.code ({ cls := "java/lang/Math", name := "floorMod", desc := "(JJ)J" } : Jvm.MethodName) jdk_29_method_52_code (6 : Nat) (Option.some Jvm.ClassFile.FieldType.long)).before args0 about1 = true := code_word (m := ⟨3, 2⟩) (meth := k3m2) (c := k3c2) (by decide +kernel) rfl rfl rfl (by decide +kernel)
set_option maxRecDepth 65536 in
theorem w_c5 : (Jvm.Cond.code ({ cls := "com/example/dayt/dayt/text/TextForm", name := "putDigits", desc := "([BIII)V" } : Jvm.MethodName) prog_23_method_8_code (6 : Nat) (Option.none : Option Jvm.ClassFile.FieldType)).before args0 about1 = true := code_word (m := ⟨2, 2⟩) (meth := k2m2) (c := k2c2) (by decide +kernel) rfl rfl rfl (by decide +kernel)
def codes1 : List Jvm.Cond := [Jvm.Cond.code x code maxLocals ret, Jvm.Cond.code ({ cls := "com/example/dayt/dayt/text/TextForm", name := "timeLength", desc := "(I)I" } : Jvm.MethodName) prog_23_method_6_code (1 : Nat) (Option.some Jvm.ClassFile.FieldType.int), Jvm.Cond.code ({ cls := "com/example/dayt/dayt/text/TextForm", name := "putTime", desc := "([BIJII)I" } : Jvm.MethodName) prog_23_method_7_code (8 : Nat) (Option.some Jvm.ClassFile.FieldType.int), Jvm.Cond.code ({ cls := "java/lang/Math", name := "floorMod", desc := "(JI)I" } : Jvm.MethodName) jdk_29_method_51_code (3 : Nat) (Option.some Jvm.ClassFile.FieldType.int), Jvm.Cond.code ({ cls := "java/lang/Math", name := "floorMod", desc := "(JJ)J" } : Jvm.MethodName) jdk_29_method_52_code (6 : Nat) (Option.some Jvm.ClassFile.FieldType.long), Jvm.Cond.code ({ cls := "com/example/dayt/dayt/text/TextForm", name := "putDigits", desc := "([BIII)V" } : Jvm.MethodName) prog_23_method_8_code (6 : Nat) (Option.none : Option Jvm.ClassFile.FieldType)]
set_option maxRecDepth 65536 in
theorem codes_eq : words1.filter isCode = codes1 := rfl
theorem w_codes : ∀ c ∈ words1.filter isCode, c.before args0 about1 = true := by
  rw [codes_eq]
  intro c hc
  simp only [codes1, List.mem_cons, List.not_mem_nil, or_false] at hc
  rcases hc with rfl | rfl | rfl | rfl | rfl | rfl
  · exact w_c0
  · exact w_c1
  · exact w_c2
  · exact w_c3
  · exact w_c4
  · exact w_c5
set_option maxRecDepth 65536 in
theorem w_t1 : (words1.take 24).all (fun c => isCode c || c.before args0 about1) = true := by decide +kernel
set_option maxRecDepth 65536 in
theorem w_t2 : (words1.drop 24).all (fun c => isCode c || c.before args0 about1) = true := by decide +kernel
theorem w_tables : (allAtoms (Jvm.Cond.code x code maxLocals ret :: tables_1)).before args0 about1 = true := by
  rw [allAtoms_all]
  show words1.all (fun c => c.before args0 about1) = true
  refine all_split ?_ w_codes
  rw [← List.take_append_drop 24 words1, List.all_append, w_t1, w_t2]
  rfl
set_option maxRecDepth 65536 in
theorem w_case : (Jvm.Cond.and given_1 narrow_1).before args0 about1 = true := by decide +kernel
theorem w_applies : (headSpec (Jvm.Cond.code x code maxLocals ret :: tables_1) room_1).applies x e0.platform about1 = true :=
  (Spec.applies_iff w_frames).mpr ⟨w_running, w_runnable, w_alone, w_named, w_hears, w_ripe, w_room, w_tables⟩
theorem atStart : AtStart classFile x code maxLocals ret World_1 tables_1 room_1 Calls_1 rest_1 Pre_1 launch0 p0 e0 about1 theMethod args0 below0 :=
  ⟨lists_1, trivial, launch0.admits_env _ _ _, launch0.least_env, fairChoices_fair.cas, fairChoices_fair.clock, w_frames, w_args, w_heap, w_applies, trivial, trivial, w_case⟩
end start1
theorem witness_1 : WitnessClaimed_1 := ⟨start1.p0, start1.e0, start1.about1, start1.theMethod, start1.args0, start1.below0, start1.atStart⟩
end Jvm.Pilot.@@N@@
